import JvmDerived
import JvmDerived.Pilot.@@N@@Statement
import JvmDerived.Pilot.@@N@@Code
set_option linter.unusedVariables false
set_option linter.unusedSimpArgs false
namespace Jvm.RoadKit
open Sem ClassFile Op Lib Jvm.Stand Jvm.Free Jvm.LawKit
section OwnKit
variable {p : Program} {l : Launch} {e : Env} {R : Room} {s : State} {m : MethodId} {args : Array Value} {below : List Frame} {meth : Method} {c : Code} {T : State} {locs : List Loc} {cells slots : Nat} {Q : Option Value → Heap → List Loc → Prop} {rc rs : Nat}
theorem retI (X : Stand p l e R s m args below meth c T locs cells slots) (hx : p.tables.exec = Jvm.exec) {pc : Nat} {Ls : Array Slot} {z : Int32} {rest : List Value} (hret : meth.sig.returnType = some .int) (hd : decode c.code pc = .ok (.ireturn, 1)) {fs : List Frame}
    (hl : ∀ (f : JFrame) (acts : List Action), f.method = m → f.locked = none → f.entered = [] → (doReturn e (T.setTop f) acts (some (.int z))).1 = T.setFrames fs) : Steps p.tables e below (T.setTop (mkF m pc Ls (.int z :: rest))) (T.setFrames fs) := by
  have hm' : T.vm.method? m = some meth := X.method'
  have hn : narrow .int (.int z) = .int z := rfl
  show Steps p.tables e below (T.setTop { method := m, pc := pc, locals := Ls, stack := _ :: rest, locked := none }) _
  jvm_step X.here [X.here.top, hx, hd, hm', hret, hn]
  first | (intro acts; rw [hl _ acts rfl rfl rfl]) | rw [hl _ _ rfl rfl rfl]
  exact Steps.refl _
theorem own_retA (X : Stand p l e R s m args below meth c T locs cells slots) (hx : p.tables.exec = Jvm.exec) {pc : Nat} {Ls : Array Slot} {w : Value} {ty : FieldType} {rest : List Value} (hw : w.isRef = true) (hty : ty.isReference = true) (hret : meth.sig.returnType = some ty) (hd : decode c.code pc = .ok (.areturn, 1)) {fs : List Frame}
    (hl : ∀ (f : JFrame) (acts : List Action), f.method = m → f.locked = none → f.entered = [] → (doReturn e (T.setTop f) acts (some w)).1 = T.setFrames fs) : Steps p.tables e below (T.setTop (mkF m pc Ls (w :: rest))) (T.setFrames fs) := by
  have hm' : T.vm.method? m = some meth := X.method'
  show Steps p.tables e below (T.setTop { method := m, pc := pc, locals := Ls, stack := _ :: rest, locked := none }) _
  jvm_step X.here [X.here.top, hx, hd, hm', hret, hw, hty]
  first | (intro acts; rw [hl _ acts rfl rfl rfl]) | rw [hl _ _ rfl rfl rfl]
  exact Steps.refl _
theorem own_retL (X : Stand p l e R s m args below meth c T locs cells slots) (hx : p.tables.exec = Jvm.exec) {pc : Nat} {Ls : Array Slot} {z : Int64} {rest : List Value} (hret : meth.sig.returnType = some .long) (hd : decode c.code pc = .ok (.lreturn, 1)) {fs : List Frame}
    (hl : ∀ (f : JFrame) (acts : List Action), f.method = m → f.locked = none → f.entered = [] → (doReturn e (T.setTop f) acts (some (.long z))).1 = T.setFrames fs) : Steps p.tables e below (T.setTop (mkF m pc Ls (.long z :: rest))) (T.setFrames fs) := by
  have hm' : T.vm.method? m = some meth := X.method'
  show Steps p.tables e below (T.setTop { method := m, pc := pc, locals := Ls, stack := _ :: rest, locked := none }) _
  jvm_step X.here [X.here.top, hx, hd, hm', hret]
  first | (intro acts; rw [hl _ acts rfl rfl rfl]) | rw [hl _ _ rfl rfl rfl]
  exact Steps.refl _
theorem own_retDbl (X : Stand p l e R s m args below meth c T locs cells slots) (hx : p.tables.exec = Jvm.exec) {pc : Nat} {Ls : Array Slot} {z : UInt64} {rest : List Value} (hret : meth.sig.returnType = some .double) (hd : decode c.code pc = .ok (.dreturn, 1)) {fs : List Frame}
    (hl : ∀ (f : JFrame) (acts : List Action), f.method = m → f.locked = none → f.entered = [] → (doReturn e (T.setTop f) acts (some (.double z))).1 = T.setFrames fs) : Steps p.tables e below (T.setTop (mkF m pc Ls (.double z :: rest))) (T.setFrames fs) := by
  have hm' : T.vm.method? m = some meth := X.method'
  show Steps p.tables e below (T.setTop { method := m, pc := pc, locals := Ls, stack := _ :: rest, locked := none }) _
  jvm_step X.here [X.here.top, hx, hd, hm', hret]
  first | (intro acts; rw [hl _ acts rfl rfl rfl]) | rw [hl _ _ rfl rfl rfl]
  exact Steps.refl _
/-- what is left to be shown from the state A on: the run comes back, and Q holds of what it leaves -/
def OwnG (p : Program) (e : Env) (below : List Frame) (s : State) (Q : Option Value → Heap → List Loc → Prop) (rc rs : Nat) (A : State) : Prop :=
  ∃ s₂ o, Steps p.tables e below A s₂ ∧ s₂.status = .running ∧ Ended s₂ below o ∧ ∃ v L, o = .returned v ∧ Q v s₂.heap L ∧ FrameEnd s o s₂ L rc rs
theorem own_by {A B : State} (k : ∀ t, Steps p.tables e below B t → Steps p.tables e below A t) (h : OwnG p e below s Q rc rs B) : OwnG p e below s Q rc rs A := by
  obtain ⟨s₂, o, h1, r⟩ := h
  exact ⟨s₂, o, k _ h1, r⟩
theorem own_out (X : Stand p l e R s m args below meth c T locs cells slots) {v : Option Value} (hv : meth.sig.returnType = none → v = none) (hlk : meth.locks = false) {A : State}
    (k : ∀ fs, (∀ (f : JFrame) (acts : List Action), f.method = m → f.locked = none → f.entered = [] → (doReturn e (T.setTop f) acts v).1 = T.setFrames fs) → Steps p.tables e below A (T.setFrames fs)) (hQ : Q v T.heap locs) (hc : cells ≤ rc) (hs : slots ≤ rs) : OwnG p e below s Q rc rs A := by
  obtain ⟨fs, hr, hrun, hended, hW, hsame⟩ := X.leave (v := v) hv hlk
  exact ⟨_, _, k fs hr, hrun, hended, _, _, rfl, hQ, ⟨_, rfl⟩, hW, hsame.mono hc hs⟩
theorem own_outI (X : Stand p l e R s m args below meth c T locs cells slots) (hx : p.tables.exec = Jvm.exec) {pc : Nat} {Ls : Array Slot} {z : Int32} {rest : List Value} (hret : meth.sig.returnType = some .int) (hlk : meth.locks = false) (hd : decode c.code pc = .ok (.ireturn, 1)) (hQ : Q (some (.int z)) T.heap locs) (hc : cells ≤ rc) (hs : slots ≤ rs) :
    OwnG p e below s Q rc rs (T.setTop (mkF m pc Ls (.int z :: rest))) :=
  own_out X (v := some (.int z)) (fun h => by rw [hret] at h; cases h) hlk (fun fs hr => retI X hx hret hd hr) hQ hc hs
theorem own_outA (X : Stand p l e R s m args below meth c T locs cells slots) (hx : p.tables.exec = Jvm.exec) {pc : Nat} {Ls : Array Slot} {w : Value} {ty : FieldType} {rest : List Value} (hw : w.isRef = true) (hty : ty.isReference = true) (hret : meth.sig.returnType = some ty) (hlk : meth.locks = false) (hd : decode c.code pc = .ok (.areturn, 1)) (hQ : Q (some w) T.heap locs) (hc : cells ≤ rc) (hs : slots ≤ rs) :
    OwnG p e below s Q rc rs (T.setTop (mkF m pc Ls (w :: rest))) :=
  own_out X (v := some w) (fun h => by rw [hret] at h; cases h) hlk (fun fs hr => own_retA X hx hw hty hret hd hr) hQ hc hs
theorem own_outL (X : Stand p l e R s m args below meth c T locs cells slots) (hx : p.tables.exec = Jvm.exec) {pc : Nat} {Ls : Array Slot} {z : Int64} {rest : List Value} (hret : meth.sig.returnType = some .long) (hlk : meth.locks = false) (hd : decode c.code pc = .ok (.lreturn, 1)) (hQ : Q (some (.long z)) T.heap locs) (hc : cells ≤ rc) (hs : slots ≤ rs) :
    OwnG p e below s Q rc rs (T.setTop (mkF m pc Ls (.long z :: rest))) :=
  own_out X (v := some (.long z)) (fun h => by rw [hret] at h; cases h) hlk (fun fs hr => own_retL X hx hret hd hr) hQ hc hs
theorem own_outD (X : Stand p l e R s m args below meth c T locs cells slots) (hx : p.tables.exec = Jvm.exec) {pc : Nat} {Ls : Array Slot} {z : UInt64} {rest : List Value} (hret : meth.sig.returnType = some .double) (hlk : meth.locks = false) (hd : decode c.code pc = .ok (.dreturn, 1)) (hQ : Q (some (.double z)) T.heap locs) (hc : cells ≤ rc) (hs : slots ≤ rs) :
    OwnG p e below s Q rc rs (T.setTop (mkF m pc Ls (.double z :: rest))) :=
  own_out X (v := some (.double z)) (fun h => by rw [hret] at h; cases h) hlk (fun fs hr => own_retDbl X hx hret hd hr) hQ hc hs
theorem own_outV (X : Stand p l e R s m args below meth c T locs cells slots) (hx : p.tables.exec = Jvm.exec) {pc : Nat} {Ls : Array Slot} (hret : meth.sig.returnType = none) (hlk : meth.locks = false) (hd : decode c.code pc = .ok (.return_, 1)) (hQ : Q none T.heap locs) (hc : cells ≤ rc) (hs : slots ≤ rs) :
    OwnG p e below s Q rc rs (T.setTop (mkF m pc Ls [])) :=
  own_out X (v := none) (fun _ => rfl) hlk (fun fs hr => X.returnOut hx hret hd hr) hQ hc hs
theorem own_outN (X : Stand p l e R s m args below meth c T locs cells slots) (hx : p.tables.exec = Jvm.exec) {pc : Nat} {Ls : Array Slot} {z z' : Int32} {t : FieldType} {rest : List Value} (hret : meth.sig.returnType = some t) (ht : t = .boolean ∨ t = .byte ∨ t = .char ∨ t = .short) (hlk : meth.locks = false) (hd : decode c.code pc = .ok (.ireturn, 1)) (hz : nar t z = z') (hQ : Q (some (.int z')) T.heap locs) (hc : cells ≤ rc) (hs : slots ≤ rs) :
    OwnG p e below s Q rc rs (T.setTop (mkF m pc Ls (.int z :: rest))) := by
  subst hz
  exact own_out X (v := some (.int (nar t z))) (fun h => by rw [hret] at h; cases h) hlk (fun fs hr => retN X hx (t := t) hret (by rcases ht with rfl | rfl | rfl | rfl <;> simp) hd hr) hQ hc hs
theorem own_met {y : MethodName} {bytes : ByteArray} {maxL : Nat} {ret : Option FieldType} {rm : Room} {ws : List Cond} {as' : Array Value} {Z : State} {h0 : Heap} (hpl : plainFor y = true)
    (body : ∀ (p : Program) (e : Env) (s : State) (m : MethodId) (below : List Frame) (meth : Method) (c : Code) (s₁ : State), p.tables.exec = Jvm.exec → c.code = bytes → c.maxLocals = maxL → meth.sig.returnType = ret → meth.locks = false → s.vm.findClass y.cls = some m.cls → meth.name = y.name → Z.Warmed39 s.vm →
      Stand p l e rm s m as' below meth c s₁ [] 0 0 → s₁.heap = h0 → OwnG p e below s Q rm.cells rm.slots (s₁.setTop (entryFrame m as' maxL))) :
    MetFree l y (head1 (Cond.code y bytes maxL ret :: ws) rm) (fun a U => a = as' ∧ Z.Warmed39 U.vm ∧ U.heap = h0) (fun _ _ _ _ _ => True) (fun _ U o U' => ∃ v L, o = .returned v ∧ Q v U'.heap L ∧ FrameEnd U o U' L rm.cells rm.slots) := by
  refine MetFree.of_bodySF hpl hisR ?_
  intro p e s m args below meth c s₁ Bd hml0 hP hK
  obtain ⟨rfl, hZ, hh⟩ := hP
  have e0 : s₁.heap = h0 := by rw [← hh, Bd.state]; rfl
  exact body p e s m below meth c s₁ Bd.exec Bd.bytes hml0 Bd.returns Bd.notSynchronized (findClass_of_methodNamed Bd.named) (name_of_methodNamed Bd.named Bd.method).1 hZ (Stand.of_body Bd) e0
theorem own_selp {Z s : State} {a0 args : Array Value} {y : MethodName} {n : Nat} (hZ : Z.Warmed39 s.vm) (wi : (Cond.instantiable y.cls n).before a0 Z = true) (wp : (Cond.privateMethod y).before a0 Z = true) (wm : (Cond.instanceMethod y).before a0 Z = true) (hy : y.cls ≠ "java/lang/invoke/MethodHandle" ∧ y.cls ≠ "java/lang/invoke/VarHandle") : (Cond.selects y.cls y y).before args s = true := by
  obtain ⟨c, k, h1, h2, -, h4, -⟩ := Cond.instantiable_spec (mv (args := args) hZ wi)
  exact selects_self_of_private h1 h2 (Bool.or_eq_false_iff.mp h4).1 (Cond.privateMethod_at (mvP hZ wp (args := #[]))) (mvT hZ wm) hy
end OwnKit
end Jvm.RoadKit
namespace Jvm.RoadKit
open Sem ClassFile Op Lib Jvm.Stand Jvm.Free Jvm.LawKit
section OwnArr
variable {p : Program} {l : Launch} {e : Env} {R : Room} {s : State} {m : MethodId} {args : Array Value} {below : List Frame} {meth : Method} {c : Code} {T : State} {locs : List Loc} {cells slots : Nat} {Z : State} {h h' : Heap} {a b : Addr} {ty : FieldType} {n : Nat} {f : Nat → Value}
/-- the array at a: its kind, its length, its components as a function of the place -/
def OwnA (Z : State) (h : Heap) (a : Addr) (ty : FieldType) (n : Nat) (f : Nat → Value) : Prop := ∃ c : Cell, Arr Z h a c ty ∧ c.slots.size = n ∧ n < 2 ^ 31 ∧ ∀ k, k < n → c.slots[k]? = some (f k)
def ownSet (f : Nat → Value) (i : Nat) (v : Value) : Nat → Value := fun k => if k = i then v else f k
theorem OwnA.lt (A : OwnA Z h a ty n f) : a < h.size := by obtain ⟨c, A, -⟩ := A; exact A.lt
theorem OwnA.ext (E : Ext h h') (A : OwnA Z h a ty n f) : OwnA Z h' a ty n f := by obtain ⟨c, A, r⟩ := A; exact ⟨c, A.ext E, r⟩
theorem OwnA.other {sl : Nat} {v : Value} (W : Wr h h' b sl v) (A : OwnA Z h a ty n f) (q : a ≠ b) : OwnA Z h' a ty n f := by obtain ⟨c, A, r⟩ := A; exact ⟨c, A.other W q, r⟩
theorem OwnA.keep {ws : List Addr} (A : OwnA Z h a ty n f) (K : Keep h h' ws) (q : a ∉ ws) : OwnA Z h' a ty n f := by obtain ⟨c, A, r⟩ := A; exact ⟨c, ⟨K.2.1 a c A.1 q, A.2⟩, r⟩
theorem OwnA.set {i : Nat} {v : Value} (W : Wr h h' a i v) (A : OwnA Z h a ty n f) (hi : i < n) : OwnA Z h' a ty n (ownSet f i v) := by
  obtain ⟨c, A, hn, hb, r⟩ := A
  refine ⟨_, A.same W, by simp [Cell.setSlot, hn], hb, fun k hk => ?_⟩
  by_cases e : k = i
  · subst e
    simp [Cell.setSlot, ownSet, hn, hi]
  · simp only [ownSet, if_neg e]
    rw [← r k hk]
    exact Array.getElem?_setIfInBounds_ne (Ne.symm e)
theorem OwnA.new {k : ClassId} {z : Int32} (A : Arr Z h a (newA k ty z) ty) {n : Nat} (q : ¬ z < 0) (hn : z.toNatClampNeg = n) : OwnA Z h a ty n (fun _ => defaultValue ty) := by
  subst hn
  refine ⟨_, A, sz_new _ _ _, (back32 q).2, fun i hi => ?_⟩
  simp [newA, hi]
theorem OwnA.bound (A : OwnA Z h a ty n f) : n < 2 ^ 31 := by obtain ⟨_, _, _, hb, _⟩ := A; exact hb
theorem OwnA.congr {f' : Nat → Value} (A : OwnA Z h a ty n f) (q : ∀ k, k < n → f k = f' k) : OwnA Z h a ty n f' := by
  obtain ⟨c, A, hn, hb, r⟩ := A
  exact ⟨c, A, hn, hb, fun k hk => by rw [r k hk, q k hk]⟩
theorem own_inb {c : Cell} {j : Int32} {i : Nat} (hn : c.slots.size = n) (hj : ¬ j < 0 ∧ j.toNatClampNeg = i ∧ i < n) : ¬ (j < 0 ∨ c.slots.size ≤ j.toNatClampNeg) := by
  rintro (q | q)
  · exact hj.1 q
  · rw [hn, hj.2.1] at q; exact absurd hj.2.2 (Nat.not_lt.mpr q)
theorem own_ldI (X : Stand p l e R s m args below meth c T locs cells slots) (hx : p.tables.exec = Jvm.exec) (hZ : Z.Warmed39 s.vm) (eT : T.heap = h) (A : OwnA Z h a .int n f) {j : Int32} {i : Nat} (hj : ¬ j < 0 ∧ j.toNatClampNeg = i ∧ i < n) {v : Value} (hv : f i = v) {g : JFrame} (hg : g.method = m) {rest : List Value} (hs : g.stack = .int j :: .ref a :: rest) (hd : decode c.code g.pc = .ok (.iaload, 1)) (target : State)
    (k : Steps p.tables e below (T.setTop { g with pc := g.pc + 1, stack := v :: rest }) target) : Steps p.tables e below (T.setTop g) target := by
  obtain ⟨cl, A, hn, hb, r⟩ := A
  exact X.iaload hx (j := j) (v := v) (by rw [eT]; exact A.1) (State.isArrayOf_alike hZ.alike A.2.1) A.2.2 (own_inb hn hj) (by rw [hj.2.1, r i hj.2.2, hv]) hg hs hd target k
theorem own_ldB (X : Stand p l e R s m args below meth c T locs cells slots) (hx : p.tables.exec = Jvm.exec) (hZ : Z.Warmed39 s.vm) (eT : T.heap = h) (A : OwnA Z h a .byte n f) {j : Int32} {i : Nat} (hj : ¬ j < 0 ∧ j.toNatClampNeg = i ∧ i < n) {v : Value} (hv : f i = v) {g : JFrame} (hg : g.method = m) {rest : List Value} (hs : g.stack = .int j :: .ref a :: rest) (hd : decode c.code g.pc = .ok (.baload, 1)) (target : State)
    (k : Steps p.tables e below (T.setTop { g with pc := g.pc + 1, stack := v :: rest }) target) : Steps p.tables e below (T.setTop g) target := by
  obtain ⟨cl, A, hn, hb, r⟩ := A
  exact X.baloadBytes hx (j := j) (v := v) (by rw [eT]; exact A.1) (State.isArrayOf_alike hZ.alike A.2.1) A.2.2 (own_inb hn hj) (by rw [hj.2.1, r i hj.2.2, hv]) hg hs hd target k
theorem own_ldJ (X : Stand p l e R s m args below meth c T locs cells slots) (hx : p.tables.exec = Jvm.exec) (hZ : Z.Warmed39 s.vm) (eT : T.heap = h) (A : OwnA Z h a .long n f) {j : Int32} {i : Nat} (hj : ¬ j < 0 ∧ j.toNatClampNeg = i ∧ i < n) {v : Value} (hv : f i = v) {g : JFrame} (hg : g.method = m) {rest : List Value} (hs : g.stack = .int j :: .ref a :: rest) (hd : decode c.code g.pc = .ok (.laload, 1)) (target : State)
    (k : Steps p.tables e below (T.setTop { g with pc := g.pc + 1, stack := v :: rest }) target) : Steps p.tables e below (T.setTop g) target := by
  obtain ⟨cl, A, hn, hb, r⟩ := A
  exact X.laload hx (j := j) (v := v) (by rw [eT]; exact A.1) (State.isArrayOf_alike hZ.alike A.2.1) A.2.2 (own_inb hn hj) (by rw [hj.2.1, r i hj.2.2, hv]) hg hs hd target k
theorem own_ldR (X : Stand p l e R s m args below meth c T locs cells slots) (hx : p.tables.exec = Jvm.exec) (hZ : Z.Warmed39 s.vm) (eT : T.heap = h) (A : OwnA Z h a ty n f) {j : Int32} {i : Nat} (hj : ¬ j < 0 ∧ j.toNatClampNeg = i ∧ i < n) {v : Value} (hv : f i = v) (hty : ty.isReference = true) {g : JFrame} (hg : g.method = m) {rest : List Value} (hs : g.stack = .int j :: .ref a :: rest) (hd : decode c.code g.pc = .ok (.aaload, 1)) (target : State)
    (k : Steps p.tables e below (T.setTop { g with pc := g.pc + 1, stack := v :: rest }) target) : Steps p.tables e below (T.setTop g) target := by
  obtain ⟨cl, A, hn, hb, r⟩ := A
  exact X.aaload hx (j := j) (v := v) (by rw [eT]; exact A.1) (State.isArrayOf_alike hZ.alike A.2.1) hty A.2.2 (own_inb hn hj) (by rw [hj.2.1, r i hj.2.2, hv]) hg hs hd target k
theorem own_len (X : Stand p l e R s m args below meth c T locs cells slots) (hx : p.tables.exec = Jvm.exec) (hZ : Z.Warmed39 s.vm) (eT : T.heap = h) (A : OwnA Z h a ty n f) {z : Int32} (hz : n.toInt32 = z) {g : JFrame} (hg : g.method = m) {rest : List Value} (hs : g.stack = .ref a :: rest) (hd : decode c.code g.pc = .ok (.arraylength, 1)) (target : State)
    (k : Steps p.tables e below (T.setTop { g with pc := g.pc + 1, stack := .int z :: rest }) target) : Steps p.tables e below (T.setTop g) target := by
  obtain ⟨cl, A, hn, hb, r⟩ := A
  refine X.arraylength hx (by rw [eT]; exact A.1) (State.isArrayOf_alike hZ.alike A.2.1) hg hs hd target ?_
  rw [hn, hz]; exact k
theorem own_stI (X : Stand p l e R s m args below meth c T locs cells slots) (hx : p.tables.exec = Jvm.exec) (hZ : Z.Warmed39 s.vm) (eT : T.heap = h) (A : OwnA Z h a .int n f) {j : Int32} {i : Nat} (hj : ¬ j < 0 ∧ j.toNatClampNeg = i ∧ i < n) {x : Int32} {g : JFrame} (hg : g.method = m) {rest : List Value} (hs : g.stack = .int x :: .int j :: .ref a :: rest) (hd : decode c.code g.pc = .ok (.iastore, 1)) :
    ∃ T' h', Stand p l e R s m args below meth c T' (locs ++ [⟨a, i⟩]) cells slots ∧ T'.heap = h' ∧ Wr h h' a i (.int x) ∧ OwnA Z h' a .int n (ownSet f i (.int x)) ∧ ∀ target, Steps p.tables e below (T'.setTop { g with pc := g.pc + 1, stack := rest }) target → Steps p.tables e below (T.setTop g) target := by
  obtain ⟨cl, A', hn, hb, r⟩ := A
  obtain ⟨T', h', X', e', W, st⟩ := stI X hx hZ eT A' (j := j) (x := x) (own_inb hn hj) hg hs hd
  rw [hj.2.1] at X' W
  exact ⟨T', h', X', e', W, OwnA.set W ⟨cl, A', hn, hb, r⟩ hj.2.2, st⟩
theorem own_stJ (X : Stand p l e R s m args below meth c T locs cells slots) (hx : p.tables.exec = Jvm.exec) (hZ : Z.Warmed39 s.vm) (eT : T.heap = h) (A : OwnA Z h a .long n f) {j : Int32} {i : Nat} (hj : ¬ j < 0 ∧ j.toNatClampNeg = i ∧ i < n) {x : Int64} {g : JFrame} (hg : g.method = m) {rest : List Value} (hs : g.stack = .long x :: .int j :: .ref a :: rest) (hd : decode c.code g.pc = .ok (.lastore, 1)) :
    ∃ T' h', Stand p l e R s m args below meth c T' (locs ++ [⟨a, i⟩]) cells slots ∧ T'.heap = h' ∧ Wr h h' a i (.long x) ∧ OwnA Z h' a .long n (ownSet f i (.long x)) ∧ ∀ target, Steps p.tables e below (T'.setTop { g with pc := g.pc + 1, stack := rest }) target → Steps p.tables e below (T.setTop g) target := by
  obtain ⟨cl, A', hn, hb, r⟩ := A
  obtain ⟨T', h', X', e', W, st⟩ := stJ X hx hZ eT A' (j := j) (x := x) (own_inb hn hj) hg hs hd
  rw [hj.2.1] at X' W
  exact ⟨T', h', X', e', W, OwnA.set W ⟨cl, A', hn, hb, r⟩ hj.2.2, st⟩
theorem own_stB (X : Stand p l e R s m args below meth c T locs cells slots) (hx : p.tables.exec = Jvm.exec) (hZ : Z.Warmed39 s.vm) (eT : T.heap = h) (A : OwnA Z h a .byte n f) {j : Int32} {i : Nat} (hj : ¬ j < 0 ∧ j.toNatClampNeg = i ∧ i < n) {x : Int32} {g : JFrame} (hg : g.method = m) {rest : List Value} (hs : g.stack = .int x :: .int j :: .ref a :: rest) (hd : decode c.code g.pc = .ok (.bastore, 1)) :
    ∃ T' h', Stand p l e R s m args below meth c T' (locs ++ [⟨a, i⟩]) cells slots ∧ T'.heap = h' ∧ Wr h h' a i (.int (nar .byte x)) ∧ OwnA Z h' a .byte n (ownSet f i (.int (nar .byte x))) ∧ ∀ target, Steps p.tables e below (T'.setTop { g with pc := g.pc + 1, stack := rest }) target → Steps p.tables e below (T.setTop g) target := by
  obtain ⟨cl, A', hn, hb, r⟩ := A
  obtain ⟨T', h', X', e', W, st⟩ := stB X hx hZ eT A' (j := j) (x := x) (own_inb hn hj) hg hs hd
  rw [hj.2.1] at X' W
  exact ⟨T', h', X', e', W, OwnA.set W ⟨cl, A', hn, hb, r⟩ hj.2.2, st⟩
theorem own_ldD (X : Stand p l e R s m args below meth c T locs cells slots) (hx : p.tables.exec = Jvm.exec) (hZ : Z.Warmed39 s.vm) (eT : T.heap = h) (A : OwnA Z h a .double n f) {j : Int32} {i : Nat} (hj : ¬ j < 0 ∧ j.toNatClampNeg = i ∧ i < n) {v : Value} (hv : f i = v) {g : JFrame} (hg : g.method = m) {rest : List Value} (hs : g.stack = .int j :: .ref a :: rest) (hd : decode c.code g.pc = .ok (.daload, 1)) (target : State)
    (k : Steps p.tables e below (T.setTop { g with pc := g.pc + 1, stack := v :: rest }) target) : Steps p.tables e below (T.setTop g) target := by
  obtain ⟨cl, A, hn, hb, r⟩ := A
  exact X.daload hx (j := j) (v := v) (by rw [eT]; exact A.1) (State.isArrayOf_alike hZ.alike A.2.1) A.2.2 (own_inb hn hj) (by rw [hj.2.1, r i hj.2.2, hv]) hg hs hd target k
theorem own_stD (X : Stand p l e R s m args below meth c T locs cells slots) (hx : p.tables.exec = Jvm.exec) (hZ : Z.Warmed39 s.vm) (eT : T.heap = h) (A : OwnA Z h a .double n f) {j : Int32} {i : Nat} (hj : ¬ j < 0 ∧ j.toNatClampNeg = i ∧ i < n) {x : UInt64} {g : JFrame} (hg : g.method = m) {rest : List Value} (hs : g.stack = .double x :: .int j :: .ref a :: rest) (hd : decode c.code g.pc = .ok (.dastore, 1)) :
    ∃ T' h', Stand p l e R s m args below meth c T' (locs ++ [⟨a, i⟩]) cells slots ∧ T'.heap = h' ∧ Wr h h' a i (.double x) ∧ OwnA Z h' a .double n (ownSet f i (.double x)) ∧ ∀ target, Steps p.tables e below (T'.setTop { g with pc := g.pc + 1, stack := rest }) target → Steps p.tables e below (T.setTop g) target := by
  obtain ⟨cl, A', hn, hb, r⟩ := A
  obtain ⟨T', h', X', e', W, st⟩ := stD X hx hZ eT A' (j := j) (x := x) (own_inb hn hj) hg hs hd
  rw [hj.2.1] at X' W
  exact ⟨T', h', X', e', W, OwnA.set W ⟨cl, A', hn, hb, r⟩ hj.2.2, st⟩
end OwnArr
end Jvm.RoadKit
namespace Jvm.Pilot.@@N@@
open Jvm Jvm.ClassFile Sem Op Lib Jvm.Free Jvm.Stand Jvm.LawKit Jvm.RoadKit Bundle Jvm.Pilot.@@N@@.Jvm.D
/-- the invariant: pages, cursor, the last id; B bounds the pages -/
def own_inv (Pg Cu M : Int32) (B : Nat) : Prop := 1 ≤ Pg.toInt ∧ Pg.toInt ≤ B ∧ 0 ≤ Cu.toInt ∧ Cu.toInt ≤ Pg.toInt ∧ M.toInt = Cu.toInt - 1
theorem own_z : (0 : Int32).toInt = 0 := by decide
theorem own_1 : (1 : Int32).toInt = 1 := by decide
theorem own_add1 {x : Int32} {B : Nat} (h : 0 ≤ x.toInt + 1) (h' : x.toInt ≤ B) (hB : B ≤ 1000) : (x + 1).toInt = x.toInt + 1 := by
  have := c_iadd x 1; have := rng32 (x + 1); have := rng32 x; rw [own_1] at *; omega
theorem own_grow {Pg Cu M : Int32} {B : Nat} (h : own_inv Pg Cu M B) (hB : B ≤ 1000) : own_inv (Pg + 1) Cu M (B + 1) := by
  obtain ⟨h1, h2, h3, h4, h5⟩ := h
  have e := own_add1 (x := Pg) (B := B) (by omega) h2 hB
  exact ⟨by omega, by omega, h3, by omega, h5⟩
theorem own_M1 {Pg Cu M : Int32} {B : Nat} (h : own_inv Pg Cu M B) (hB : B ≤ 1000) : M + 1 = Cu := by
  obtain ⟨h1, h2, h3, h4, h5⟩ := h
  have e := own_add1 (x := M) (B := B) (by omega) (by omega) hB
  exact Int32.toInt_inj.mp (by omega)
def own_nx (Pg Cu : Int32) : Int32 := if Cu = Pg then 0 else Cu
theorem own_next {Pg Cu M : Int32} {B : Nat} (h : own_inv Pg Cu M B) (hB : B ≤ 1000) : own_inv Pg (own_nx Pg Cu + 1) (own_nx Pg Cu) B := by
  obtain ⟨h1, h2, h3, h4, h5⟩ := h
  unfold own_nx
  by_cases q : Cu = Pg
  · rw [if_pos q]
    have e : ((0 : Int32) + 1).toInt = 1 := by decide
    exact ⟨h1, h2, by omega, by omega, by rw [e]; decide⟩
  · rw [if_neg q]
    have q' : Cu.toInt ≠ Pg.toInt := fun z => q (Int32.toInt_inj.mp z)
    have e := own_add1 (x := Cu) (B := B) (by omega) (by omega) hB
    exact ⟨h1, h2, by omega, by omega, by omega⟩
theorem own_exp1 {Pg Cu M : Int32} {B : Nat} (h : own_inv Pg Cu M B) (hB : B ≤ 1000) (q : M + 1 < Pg) : own_nx Pg Cu = M + 1 := by
  rw [own_M1 h hB] at q ⊢
  unfold own_nx
  rw [if_neg]
  rintro rfl
  rw [Int32.lt_iff_toInt_lt] at q; omega
theorem own_exp0 {Pg Cu M : Int32} {B : Nat} (h : own_inv Pg Cu M B) (hB : B ≤ 1000) (q : ¬ M + 1 < Pg) : own_nx Pg Cu = 0 := by
  rw [own_M1 h hB] at q
  unfold own_nx
  obtain ⟨h1, h2, h3, h4, h5⟩ := h
  rw [if_pos]
  rw [Int32.lt_iff_toInt_lt] at q
  exact Int32.toInt_inj.mp (by omega)
theorem own_nxT {Pg Cu : Int32} (h : Cu = Pg) : own_nx Pg Cu = 0 := if_pos h
theorem own_nxF {Pg Cu : Int32} (h : ¬ Cu = Pg) : own_nx Pg Cu = Cu := if_neg h
theorem own_start : own_inv 1 0 (-1) 1 := by unfold own_inv; decide
theorem own_11 : (1 : Int32) &&& 1 = 1 := by decide
theorem d1_0 : decode prog_6_method_1_code 0 = .ok (.aload_n 0, 1) := by decide +kernel
theorem d1_1 : decode prog_6_method_1_code 1 = .ok (.invokespecial 1, 3) := by decide +kernel
theorem d1_4 : decode prog_6_method_1_code 4 = .ok (.return_, 1) := by decide +kernel
theorem pn_0 : plainName "com/example/score_on_crawl/scoreoncrawl/engine/CycleSequence" = true := by first | (simp [plainName, overriddenIn]; done) | decide +kernel
theorem pd_0 : parseMethodDescriptor "()V" = some ⟨[], none⟩ := by decide +kernel
theorem ef_1 (m : MethodId) (x0 : Addr) : entryFrame m #[(.ref x0)] 1 = mkF m 0 #[.val (.ref x0)] [] := by first | (simp [entryFrame, mkF, argsToLocals, Value.category]; done) | rfl
def Q1 (Z : State) (a1 : Addr) (h0 : Heap) (n0 : Nat) (v : Option Value) (h : Heap) (L : List Loc) : Prop := v = none ∧ Fr n0 L ∧ h = h0
set_option maxRecDepth 65536 in
set_option maxHeartbeats 40000000 in
theorem rm1 (l : Launch) (Z : State) (a0 : Array Value) (hw : ∀ d ∈ tables_1, d.before a0 Z = true) (ws : List Jvm.Cond) (a1 : Addr) (h0 : Heap) (n0 : Nat) (Z0 : n0 ≤ h0.size) :
    MetFree l (⟨"com/example/score_on_crawl/scoreoncrawl/engine/CycleSequence", "<init>", "()V"⟩ : MethodName) (head1 (Jvm.Cond.code (⟨"com/example/score_on_crawl/scoreoncrawl/engine/CycleSequence", "<init>", "()V"⟩ : MethodName) prog_6_method_1_code 1 none :: ws) ({ frames := 1, cells := 0, slots := 0, locals := 12 } : Room)) (fun a U => a = #[(.ref a1)] ∧ Z.Warmed39 U.vm ∧ U.heap = h0) (fun _ _ _ _ _ => True) (fun _ U o U' => ∃ v L, o = .returned v ∧ Q1 Z a1 h0 n0 v U'.heap L ∧ FrameEnd U o U' L ({ frames := 1, cells := 0, slots := 0, locals := 12 } : Room).cells ({ frames := 1, cells := 0, slots := 0, locals := 12 } : Room).slots) := by
  refine own_met (Q := fun v h L => Q1 Z a1 h0 n0 v h L) (plainFor_of_name pn_0) ?_
  intro p e s m below meth c s₁ hx hby hml hret hlk hown hnm hZ X0 e0
  have N0 := Fr.nil n0
  rw [ef_1 m a1]
  show OwnG p e below s _ _ _ (s₁.setTop (mkF m 0 #[.val (.ref a1)] []))
  refine own_by (fun t kk_ => XS.aloadN X0.here hx rfl (hb hby d1_0) rfl rfl kk_) ?_
  show OwnG p e below s _ _ _ (s₁.setTop (mkF m 1 #[.val (.ref a1)] [(.ref a1)]))
  obtain ⟨T1, X1, e1, st1⟩ := initO X0 hx hZ hown (hw _ (List.mem_of_getElem? (i := 6) rfl)) (hw _ (List.mem_of_getElem? (i := 7) rfl)) (hw _ (List.mem_of_getElem? (i := 8) rfl)) e0 (g := (mkF m 1 #[.val (.ref a1)] [(.ref a1)])) rfl (by rw [hml]; rfl) rfl (hb hby d1_1) (by decide) (W := 0) (by show 2 * 0 + _ ≤ _; exact Nat.le_of_eq rfl) (by decide)
  refine own_by (fun t kk_ => st1 _ kk_) ?_
  show OwnG p e below s _ _ _ (T1.setTop (mkF m 4 #[.val (.ref a1)] []))
  exact own_outV X1 hx hret hlk (hb hby d1_4) (⟨rfl, N0, e1⟩) (by decide) (by decide)
theorem d3_0 : decode prog_6_method_2_code 0 = .ok (.aload_n 0, 1) := by decide +kernel
theorem d3_1 : decode prog_6_method_2_code 1 = .ok (.dup, 1) := by decide +kernel
theorem d3_2 : decode prog_6_method_2_code 2 = .ok (.getfield 7, 3) := by decide +kernel
theorem d3_5 : decode prog_6_method_2_code 5 = .ok (.iconst 1, 1) := by decide +kernel
theorem d3_6 : decode prog_6_method_2_code 6 = .ok (.iadd, 1) := by decide +kernel
theorem d3_7 : decode prog_6_method_2_code 7 = .ok (.putfield 7, 3) := by decide +kernel
theorem d3_10 : decode prog_6_method_2_code 10 = .ok (.return_, 1) := by decide +kernel
theorem ef_3 (m : MethodId) (x0 : Addr) (x1 : Int32) (x2 : Int32) : entryFrame m #[(.ref x0), (.int x1), (.int x2)] 3 = mkF m 0 #[.val (.ref x0), .val (.int x1), .val (.int x2)] [] := by first | (simp [entryFrame, mkF, argsToLocals, Value.category]; done) | rfl
def Q3 (Z : State) (a1 : Addr) (p1 p2 Pg Cu : Int32) (h0 : Heap) (n0 : Nat) (v : Option Value) (h : Heap) (L : List Loc) : Prop := v = none ∧ Fr n0 L ∧ Keep h0 h [a1] ∧ Exa Z h a1 "com/example/score_on_crawl/scoreoncrawl/engine/CycleSequence" ∧ Fld Z h a1 "com/example/score_on_crawl/scoreoncrawl/engine/CycleSequence" "pages" "I" (.int (Pg + 1)) ∧ Fld Z h a1 "com/example/score_on_crawl/scoreoncrawl/engine/CycleSequence" "cursor" "I" (.int Cu)
set_option maxRecDepth 65536 in
set_option maxHeartbeats 40000000 in
theorem rm3 (l : Launch) (Z : State) (a0 : Array Value) (hw : ∀ d ∈ tables_1, d.before a0 Z = true) (ws : List Jvm.Cond) (a1 : Addr) (p1 p2 Pg Cu : Int32) (h0 : Heap) (n0 : Nat) (Z0 : n0 ≤ h0.size) (EX : Exa Z h0 a1 "com/example/score_on_crawl/scoreoncrawl/engine/CycleSequence") (FP0 : Fld Z h0 a1 "com/example/score_on_crawl/scoreoncrawl/engine/CycleSequence" "pages" "I" (.int Pg)) (FC0 : Fld Z h0 a1 "com/example/score_on_crawl/scoreoncrawl/engine/CycleSequence" "cursor" "I" (.int Cu)) (g1 : n0 ≤ a1) :
    MetFree l (⟨"com/example/score_on_crawl/scoreoncrawl/engine/CycleSequence", "added", "(IZ)V"⟩ : MethodName) (head1 (Jvm.Cond.code (⟨"com/example/score_on_crawl/scoreoncrawl/engine/CycleSequence", "added", "(IZ)V"⟩ : MethodName) prog_6_method_2_code 3 none :: ws) ({ frames := 0, cells := 0, slots := 0, locals := 0 } : Room)) (fun a U => a = #[(.ref a1), (.int p1), (.int p2)] ∧ Z.Warmed39 U.vm ∧ U.heap = h0) (fun _ _ _ _ _ => True) (fun _ U o U' => ∃ v L, o = .returned v ∧ Q3 Z a1 p1 p2 Pg Cu h0 n0 v U'.heap L ∧ FrameEnd U o U' L ({ frames := 0, cells := 0, slots := 0, locals := 0 } : Room).cells ({ frames := 0, cells := 0, slots := 0, locals := 0 } : Room).slots) := by
  refine own_met (Q := fun v h L => Q3 Z a1 p1 p2 Pg Cu h0 n0 v h L) (plainFor_of_name pn_0) ?_
  intro p e s m below meth c s₁ hx hby hml hret hlk hown hnm hZ X0 e0
  have N0 := Fr.nil n0
  rw [ef_3 m a1 p1 p2]
  show OwnG p e below s _ _ _ (s₁.setTop (mkF m 0 #[.val (.ref a1), .val (.int p1), .val (.int p2)] []))
  refine own_by (fun t kk_ => XS.aloadN X0.here hx rfl (hb hby d3_0) rfl rfl kk_) ?_
  show OwnG p e below s _ _ _ (s₁.setTop (mkF m 1 #[.val (.ref a1), .val (.int p1), .val (.int p2)] [(.ref a1)]))
  refine own_by (fun t kk_ => XS.dup X0.here hx rfl (hb hby d3_1) rfl rfl kk_) ?_
  show OwnG p e below s _ _ _ (s₁.setTop (mkF m 2 #[.val (.ref a1), .val (.int p1), .val (.int p2)] [(.ref a1), (.ref a1)]))
  obtain ⟨T1, X1, e1, st1⟩ := getF X0 hx hZ hown (host := "") (Or.inl (hw _ (List.mem_of_getElem? (i := 15) rfl))) Via.refl e0 FP0 (g := (mkF m 2 #[.val (.ref a1), .val (.int p1), .val (.int p2)] [(.ref a1), (.ref a1)])) rfl rfl (hb hby d3_2)
  refine own_by (fun t kk_ => st1 _ kk_) ?_
  show OwnG p e below s _ _ _ (T1.setTop (mkF m 5 #[.val (.ref a1), .val (.int p1), .val (.int p2)] [(.int Pg), (.ref a1)]))
  refine own_by (fun t kk_ => XS.iconst X1.here hx rfl (hb hby d3_5) kk_) ?_
  show OwnG p e below s _ _ _ (T1.setTop (mkF m 6 #[.val (.ref a1), .val (.int p1), .val (.int p2)] [(.int (1 : Int32)), (.int Pg), (.ref a1)]))
  refine own_by (fun t kk_ => XS.iadd X1.here hx rfl (hb hby d3_6) rfl kk_) ?_
  show OwnG p e below s _ _ _ (T1.setTop (mkF m 7 #[.val (.ref a1), .val (.int p1), .val (.int p2)] [(.int (Pg + (1 : Int32))), (.ref a1)]))
  obtain ⟨T2, h2, X2, e2, W2, st2⟩ := putF X1 hx hZ hown (host := "") (Or.inl (hw _ (List.mem_of_getElem? (i := 15) rfl))) Via.refl e1 FP0 EX (Or.inl (hw _ (List.mem_of_getElem? (i := 16) rfl))) (hw _ (List.mem_of_getElem? (i := 1) rfl)) (ty := .int) (by decide) rfl rfl (g := (mkF m 7 #[.val (.ref a1), .val (.int p1), .val (.int p2)] [(.int (Pg + (1 : Int32))), (.ref a1)])) rfl rfl (hb hby d3_7)
  refine own_by (fun t kk_ => st2 _ kk_) ?_
  have f3 := Exa.wr W2 EX
  have f5 := Fld.other W2 FC0 (Or.inr (slot_ne (Or.inl (hw _ (List.mem_of_getElem? (i := 27) rfl))) (Or.inl (hw _ (List.mem_of_getElem? (i := 16) rfl))) (by decide) (t := .int) (t' := .int) (by decide) (by decide)))
  have f6 := Keep.wr (Keep.refl h0 [a1]) W2 (Or.inl (by simp))
  have f7 := Fld.same W2 FP0
  have N2 := Fr.snoc X2 N0 g1
  have sz2 : n0 ≤ h2.size := by rw [W2.size]; exact Z0
  show OwnG p e below s _ _ _ (T2.setTop (mkF m 10 #[.val (.ref a1), .val (.int p1), .val (.int p2)] []))
  exact own_outV X2 hx hret hlk (hb hby d3_10) (by show _ ∧ _; rw [e2]; exact ⟨rfl, N2, f6, f3, f7, f5⟩) (by decide) (by decide)
theorem d5_0 : decode prog_6_method_3_code 0 = .ok (.aload_n 0, 1) := by decide +kernel
theorem d5_1 : decode prog_6_method_3_code 1 = .ok (.getfield 13, 3) := by decide +kernel
theorem d5_4 : decode prog_6_method_3_code 4 = .ok (.aload_n 0, 1) := by decide +kernel
theorem d5_5 : decode prog_6_method_3_code 5 = .ok (.getfield 7, 3) := by decide +kernel
theorem d5_8 : decode prog_6_method_3_code 8 = .ok (.if_icmp .ne 8, 3) := by decide +kernel
theorem d5_11 : decode prog_6_method_3_code 11 = .ok (.aload_n 0, 1) := by decide +kernel
theorem d5_12 : decode prog_6_method_3_code 12 = .ok (.iconst 0, 1) := by decide +kernel
theorem d5_13 : decode prog_6_method_3_code 13 = .ok (.putfield 13, 3) := by decide +kernel
theorem d5_16 : decode prog_6_method_3_code 16 = .ok (.aload_n 0, 1) := by decide +kernel
theorem d5_17 : decode prog_6_method_3_code 17 = .ok (.dup, 1) := by decide +kernel
theorem d5_18 : decode prog_6_method_3_code 18 = .ok (.getfield 13, 3) := by decide +kernel
theorem d5_21 : decode prog_6_method_3_code 21 = .ok (.dup_x1, 1) := by decide +kernel
theorem d5_22 : decode prog_6_method_3_code 22 = .ok (.iconst 1, 1) := by decide +kernel
theorem d5_23 : decode prog_6_method_3_code 23 = .ok (.iadd, 1) := by decide +kernel
theorem d5_24 : decode prog_6_method_3_code 24 = .ok (.putfield 13, 3) := by decide +kernel
theorem d5_27 : decode prog_6_method_3_code 27 = .ok (.ireturn, 1) := by decide +kernel
theorem ef_5 (m : MethodId) (x0 : Addr) : entryFrame m #[(.ref x0)] 1 = mkF m 0 #[.val (.ref x0)] [] := by first | (simp [entryFrame, mkF, argsToLocals, Value.category]; done) | rfl
def Q5 (Z : State) (a1 : Addr) (Pg Cu : Int32) (h0 : Heap) (n0 : Nat) (v : Option Value) (h : Heap) (L : List Loc) : Prop := v = some (.int (own_nx Pg Cu)) ∧ Fr n0 L ∧ Keep h0 h [a1] ∧ Exa Z h a1 "com/example/score_on_crawl/scoreoncrawl/engine/CycleSequence" ∧ Fld Z h a1 "com/example/score_on_crawl/scoreoncrawl/engine/CycleSequence" "pages" "I" (.int Pg) ∧ Fld Z h a1 "com/example/score_on_crawl/scoreoncrawl/engine/CycleSequence" "cursor" "I" (.int (own_nx Pg Cu + 1))
set_option maxRecDepth 65536 in
set_option maxHeartbeats 40000000 in
theorem rm5 (l : Launch) (Z : State) (a0 : Array Value) (hw : ∀ d ∈ tables_1, d.before a0 Z = true) (ws : List Jvm.Cond) (a1 : Addr) (Pg Cu : Int32) (h0 : Heap) (n0 : Nat) (Z0 : n0 ≤ h0.size) (EX : Exa Z h0 a1 "com/example/score_on_crawl/scoreoncrawl/engine/CycleSequence") (FP0 : Fld Z h0 a1 "com/example/score_on_crawl/scoreoncrawl/engine/CycleSequence" "pages" "I" (.int Pg)) (FC0 : Fld Z h0 a1 "com/example/score_on_crawl/scoreoncrawl/engine/CycleSequence" "cursor" "I" (.int Cu)) (g1 : n0 ≤ a1) :
    MetFree l (⟨"com/example/score_on_crawl/scoreoncrawl/engine/CycleSequence", "next", "()I"⟩ : MethodName) (head1 (Jvm.Cond.code (⟨"com/example/score_on_crawl/scoreoncrawl/engine/CycleSequence", "next", "()I"⟩ : MethodName) prog_6_method_3_code 1 (some .int) :: ws) ({ frames := 0, cells := 0, slots := 0, locals := 0 } : Room)) (fun a U => a = #[(.ref a1)] ∧ Z.Warmed39 U.vm ∧ U.heap = h0) (fun _ _ _ _ _ => True) (fun _ U o U' => ∃ v L, o = .returned v ∧ Q5 Z a1 Pg Cu h0 n0 v U'.heap L ∧ FrameEnd U o U' L ({ frames := 0, cells := 0, slots := 0, locals := 0 } : Room).cells ({ frames := 0, cells := 0, slots := 0, locals := 0 } : Room).slots) := by
  refine own_met (Q := fun v h L => Q5 Z a1 Pg Cu h0 n0 v h L) (plainFor_of_name pn_0) ?_
  intro p e s m below meth c s₁ hx hby hml hret hlk hown hnm hZ X0 e0
  have N0 := Fr.nil n0
  rw [ef_5 m a1]
  show OwnG p e below s _ _ _ (s₁.setTop (mkF m 0 #[.val (.ref a1)] []))
  refine own_by (fun t kk_ => XS.aloadN X0.here hx rfl (hb hby d5_0) rfl rfl kk_) ?_
  show OwnG p e below s _ _ _ (s₁.setTop (mkF m 1 #[.val (.ref a1)] [(.ref a1)]))
  obtain ⟨T1, X1, e1, st1⟩ := getF X0 hx hZ hown (host := "") (Or.inl (hw _ (List.mem_of_getElem? (i := 26) rfl))) Via.refl e0 FC0 (g := (mkF m 1 #[.val (.ref a1)] [(.ref a1)])) rfl rfl (hb hby d5_1)
  refine own_by (fun t kk_ => st1 _ kk_) ?_
  show OwnG p e below s _ _ _ (T1.setTop (mkF m 4 #[.val (.ref a1)] [(.int Cu)]))
  refine own_by (fun t kk_ => XS.aloadN X1.here hx rfl (hb hby d5_4) rfl rfl kk_) ?_
  show OwnG p e below s _ _ _ (T1.setTop (mkF m 5 #[.val (.ref a1)] [(.ref a1), (.int Cu)]))
  obtain ⟨T2, X2, e2, st2⟩ := getF X1 hx hZ hown (host := "") (Or.inl (hw _ (List.mem_of_getElem? (i := 15) rfl))) Via.refl e1 FP0 (g := (mkF m 5 #[.val (.ref a1)] [(.ref a1), (.int Cu)])) rfl rfl (hb hby d5_5)
  refine own_by (fun t kk_ => st2 _ kk_) ?_
  show OwnG p e below s _ _ _ (T2.setTop (mkF m 8 #[.val (.ref a1)] [(.int Pg), (.int Cu)]))
  by_cases hb8_3 : Cu = Pg
  · refine own_by (fun t kk_ => XS.icmpNo X2.here hx rfl (hb hby d5_8) rfl (teq hb8_3).2 kk_) ?_
    show OwnG p e below s _ _ _ (T2.setTop (mkF m 11 #[.val (.ref a1)] []))
    refine own_by (fun t kk_ => XS.aloadN X2.here hx rfl (hb hby d5_11) rfl rfl kk_) ?_
    show OwnG p e below s _ _ _ (T2.setTop (mkF m 12 #[.val (.ref a1)] [(.ref a1)]))
    refine own_by (fun t kk_ => XS.iconst X2.here hx rfl (hb hby d5_12) kk_) ?_
    show OwnG p e below s _ _ _ (T2.setTop (mkF m 13 #[.val (.ref a1)] [(.int (0 : Int32)), (.ref a1)]))
    obtain ⟨T4, h4, X4, e4, W4, st4⟩ := putF X2 hx hZ hown (host := "") (Or.inl (hw _ (List.mem_of_getElem? (i := 26) rfl))) Via.refl e2 FC0 EX (Or.inl (hw _ (List.mem_of_getElem? (i := 27) rfl))) (hw _ (List.mem_of_getElem? (i := 1) rfl)) (ty := .int) (by decide) rfl rfl (g := (mkF m 13 #[.val (.ref a1)] [(.int (0 : Int32)), (.ref a1)])) rfl rfl (hb hby d5_13)
    refine own_by (fun t kk_ => st4 _ kk_) ?_
    have f5 := Exa.wr W4 EX
    have f6 := Fld.other W4 FP0 (Or.inr (slot_ne (Or.inl (hw _ (List.mem_of_getElem? (i := 16) rfl))) (Or.inl (hw _ (List.mem_of_getElem? (i := 27) rfl))) (by decide) (t := .int) (t' := .int) (by decide) (by decide)))
    have f8 := Keep.wr (Keep.refl h0 [a1]) W4 (Or.inl (by simp))
    have f9 := Fld.same W4 FC0
    have N4 := Fr.snoc X4 N0 g1
    have sz4 : n0 ≤ h4.size := by rw [W4.size]; exact Z0
    show OwnG p e below s _ _ _ (T4.setTop (mkF m 16 #[.val (.ref a1)] []))
    refine own_by (fun t kk_ => XS.aloadN X4.here hx rfl (hb hby d5_16) rfl rfl kk_) ?_
    show OwnG p e below s _ _ _ (T4.setTop (mkF m 17 #[.val (.ref a1)] [(.ref a1)]))
    refine own_by (fun t kk_ => XS.dup X4.here hx rfl (hb hby d5_17) rfl rfl kk_) ?_
    show OwnG p e below s _ _ _ (T4.setTop (mkF m 18 #[.val (.ref a1)] [(.ref a1), (.ref a1)]))
    obtain ⟨T10, X10, e10, st10⟩ := getF X4 hx hZ hown (host := "") (Or.inl (hw _ (List.mem_of_getElem? (i := 26) rfl))) Via.refl e4 f9 (g := (mkF m 18 #[.val (.ref a1)] [(.ref a1), (.ref a1)])) rfl rfl (hb hby d5_18)
    refine own_by (fun t kk_ => st10 _ kk_) ?_
    show OwnG p e below s _ _ _ (T10.setTop (mkF m 21 #[.val (.ref a1)] [(.int (0 : Int32)), (.ref a1)]))
    refine own_by (fun t kk_ => XS.dupX1 X10.here hx rfl (hb hby d5_21) rfl rfl rfl kk_) ?_
    show OwnG p e below s _ _ _ (T10.setTop (mkF m 22 #[.val (.ref a1)] [(.int (0 : Int32)), (.ref a1), (.int (0 : Int32))]))
    refine own_by (fun t kk_ => XS.iconst X10.here hx rfl (hb hby d5_22) kk_) ?_
    show OwnG p e below s _ _ _ (T10.setTop (mkF m 23 #[.val (.ref a1)] [(.int (1 : Int32)), (.int (0 : Int32)), (.ref a1), (.int (0 : Int32))]))
    refine own_by (fun t kk_ => XS.iadd X10.here hx rfl (hb hby d5_23) rfl kk_) ?_
    show OwnG p e below s _ _ _ (T10.setTop (mkF m 24 #[.val (.ref a1)] [(.int ((0 : Int32) + (1 : Int32))), (.ref a1), (.int (0 : Int32))]))
    obtain ⟨T11, h11, X11, e11, W11, st11⟩ := putF X10 hx hZ hown (host := "") (Or.inl (hw _ (List.mem_of_getElem? (i := 26) rfl))) Via.refl e10 f9 f5 (Or.inl (hw _ (List.mem_of_getElem? (i := 27) rfl))) (hw _ (List.mem_of_getElem? (i := 1) rfl)) (ty := .int) (by decide) rfl rfl (g := (mkF m 24 #[.val (.ref a1)] [(.int ((0 : Int32) + (1 : Int32))), (.ref a1), (.int (0 : Int32))])) rfl rfl (hb hby d5_24)
    refine own_by (fun t kk_ => st11 _ kk_) ?_
    have f12 := Exa.wr W11 f5
    have f13 := Fld.other W11 f6 (Or.inr (slot_ne (Or.inl (hw _ (List.mem_of_getElem? (i := 16) rfl))) (Or.inl (hw _ (List.mem_of_getElem? (i := 27) rfl))) (by decide) (t := .int) (t' := .int) (by decide) (by decide)))
    have f15 := Keep.wr f8 W11 (Or.inl (by simp))
    have f16 := Fld.same W11 f9
    have N11 := Fr.snoc X11 N4 g1
    have sz11 : n0 ≤ h11.size := by rw [W11.size]; exact sz4
    show OwnG p e below s _ _ _ (T11.setTop (mkF m 27 #[.val (.ref a1)] [(.int (0 : Int32))]))
    exact own_outI X11 hx hret hlk (hb hby d5_27) (by show _ ∧ _; rw [e11, own_nxT hb8_3]; exact ⟨rfl, N11, f15, f12, f13, f16⟩) (by decide) (by decide)
  · refine own_by (fun t kk_ => XS.icmpYes X2.here hx rfl (pc0 := 8) (pc' := 16) rfl (hb hby d5_8) rfl (feq hb8_3).2 (by decide) (by decide) kk_) ?_
    show OwnG p e below s _ _ _ (T2.setTop (mkF m 16 #[.val (.ref a1)] []))
    refine own_by (fun t kk_ => XS.aloadN X2.here hx rfl (hb hby d5_16) rfl rfl kk_) ?_
    show OwnG p e below s _ _ _ (T2.setTop (mkF m 17 #[.val (.ref a1)] [(.ref a1)]))
    refine own_by (fun t kk_ => XS.dup X2.here hx rfl (hb hby d5_17) rfl rfl kk_) ?_
    show OwnG p e below s _ _ _ (T2.setTop (mkF m 18 #[.val (.ref a1)] [(.ref a1), (.ref a1)]))
    obtain ⟨T17, X17, e17, st17⟩ := getF X2 hx hZ hown (host := "") (Or.inl (hw _ (List.mem_of_getElem? (i := 26) rfl))) Via.refl e2 FC0 (g := (mkF m 18 #[.val (.ref a1)] [(.ref a1), (.ref a1)])) rfl rfl (hb hby d5_18)
    refine own_by (fun t kk_ => st17 _ kk_) ?_
    show OwnG p e below s _ _ _ (T17.setTop (mkF m 21 #[.val (.ref a1)] [(.int Cu), (.ref a1)]))
    refine own_by (fun t kk_ => XS.dupX1 X17.here hx rfl (hb hby d5_21) rfl rfl rfl kk_) ?_
    show OwnG p e below s _ _ _ (T17.setTop (mkF m 22 #[.val (.ref a1)] [(.int Cu), (.ref a1), (.int Cu)]))
    refine own_by (fun t kk_ => XS.iconst X17.here hx rfl (hb hby d5_22) kk_) ?_
    show OwnG p e below s _ _ _ (T17.setTop (mkF m 23 #[.val (.ref a1)] [(.int (1 : Int32)), (.int Cu), (.ref a1), (.int Cu)]))
    refine own_by (fun t kk_ => XS.iadd X17.here hx rfl (hb hby d5_23) rfl kk_) ?_
    show OwnG p e below s _ _ _ (T17.setTop (mkF m 24 #[.val (.ref a1)] [(.int (Cu + (1 : Int32))), (.ref a1), (.int Cu)]))
    obtain ⟨T18, h18, X18, e18, W18, st18⟩ := putF X17 hx hZ hown (host := "") (Or.inl (hw _ (List.mem_of_getElem? (i := 26) rfl))) Via.refl e17 FC0 EX (Or.inl (hw _ (List.mem_of_getElem? (i := 27) rfl))) (hw _ (List.mem_of_getElem? (i := 1) rfl)) (ty := .int) (by decide) rfl rfl (g := (mkF m 24 #[.val (.ref a1)] [(.int (Cu + (1 : Int32))), (.ref a1), (.int Cu)])) rfl rfl (hb hby d5_24)
    refine own_by (fun t kk_ => st18 _ kk_) ?_
    have f19 := Exa.wr W18 EX
    have f20 := Fld.other W18 FP0 (Or.inr (slot_ne (Or.inl (hw _ (List.mem_of_getElem? (i := 16) rfl))) (Or.inl (hw _ (List.mem_of_getElem? (i := 27) rfl))) (by decide) (t := .int) (t' := .int) (by decide) (by decide)))
    have f22 := Keep.wr (Keep.refl h0 [a1]) W18 (Or.inl (by simp))
    have f23 := Fld.same W18 FC0
    have N18 := Fr.snoc X18 N0 g1
    have sz18 : n0 ≤ h18.size := by rw [W18.size]; exact Z0
    show OwnG p e below s _ _ _ (T18.setTop (mkF m 27 #[.val (.ref a1)] [(.int Cu)]))
    exact own_outI X18 hx hret hlk (hb hby d5_27) (by show _ ∧ _; rw [e18, own_nxF hb8_3]; exact ⟨rfl, N18, f22, f19, f20, f23⟩) (by decide) (by decide)
theorem own_mono {Pg Cu M : Int32} {B : Nat} (h : own_inv Pg Cu M B) : own_inv Pg Cu M (B + 1) := ⟨h.1, by have := h.2.1; omega, h.2.2⟩
theorem d4_0 : decode method_2_code 0 = .ok (.iload_n 2, 1) := by decide +kernel
theorem d4_1 : decode method_2_code 1 = .ok (.iload_n 3, 1) := by decide +kernel
theorem d4_2 : decode method_2_code 2 = .ok (.iushr, 1) := by decide +kernel
theorem d4_3 : decode method_2_code 3 = .ok (.iconst 1, 1) := by decide +kernel
theorem d4_4 : decode method_2_code 4 = .ok (.iand, 1) := by decide +kernel
theorem d4_5 : decode method_2_code 5 = .ok (.ifCond .eq 34, 3) := by decide +kernel
theorem d4_8 : decode method_2_code 8 = .ok (.aload_n 0, 1) := by decide +kernel
theorem d4_9 : decode method_2_code 9 = .ok (.aload_n 1, 1) := by decide +kernel
theorem d4_10 : decode method_2_code 10 = .ok (.iconst 0, 1) := by decide +kernel
theorem d4_11 : decode method_2_code 11 = .ok (.iaload, 1) := by decide +kernel
theorem d4_12 : decode method_2_code 12 = .ok (.iload 4, 2) := by decide +kernel
theorem d4_14 : decode method_2_code 14 = .ok (.iload_n 3, 1) := by decide +kernel
theorem d4_15 : decode method_2_code 15 = .ok (.iushr, 1) := by decide +kernel
theorem d4_16 : decode method_2_code 16 = .ok (.iconst 1, 1) := by decide +kernel
theorem d4_17 : decode method_2_code 17 = .ok (.iand, 1) := by decide +kernel
theorem d4_18 : decode method_2_code 18 = .ok (.ifCond .eq 7, 3) := by decide +kernel
theorem d4_21 : decode method_2_code 21 = .ok (.iconst 1, 1) := by decide +kernel
theorem d4_22 : decode method_2_code 22 = .ok (.goto 4, 3) := by decide +kernel
theorem d4_25 : decode method_2_code 25 = .ok (.iconst 0, 1) := by decide +kernel
theorem d4_26 : decode method_2_code 26 = .ok (.invokevirtual 7, 3) := by decide +kernel
theorem d4_29 : decode method_2_code 29 = .ok (.aload_n 1, 1) := by decide +kernel
theorem d4_30 : decode method_2_code 30 = .ok (.iconst 0, 1) := by decide +kernel
theorem d4_31 : decode method_2_code 31 = .ok (.aload_n 1, 1) := by decide +kernel
theorem d4_32 : decode method_2_code 32 = .ok (.iconst 0, 1) := by decide +kernel
theorem d4_33 : decode method_2_code 33 = .ok (.iaload, 1) := by decide +kernel
theorem d4_34 : decode method_2_code 34 = .ok (.iconst 1, 1) := by decide +kernel
theorem d4_35 : decode method_2_code 35 = .ok (.iadd, 1) := by decide +kernel
theorem d4_36 : decode method_2_code 36 = .ok (.iastore, 1) := by decide +kernel
theorem d4_37 : decode method_2_code 37 = .ok (.iconst 1, 1) := by decide +kernel
theorem d4_38 : decode method_2_code 38 = .ok (.ireturn, 1) := by decide +kernel
theorem d4_39 : decode method_2_code 39 = .ok (.aload_n 1, 1) := by decide +kernel
theorem d4_40 : decode method_2_code 40 = .ok (.iconst 1, 1) := by decide +kernel
theorem d4_41 : decode method_2_code 41 = .ok (.iaload, 1) := by decide +kernel
theorem d4_42 : decode method_2_code 42 = .ok (.iconst 1, 1) := by decide +kernel
theorem d4_43 : decode method_2_code 43 = .ok (.iadd, 1) := by decide +kernel
theorem d4_44 : decode method_2_code 44 = .ok (.aload_n 1, 1) := by decide +kernel
theorem d4_45 : decode method_2_code 45 = .ok (.iconst 0, 1) := by decide +kernel
theorem d4_46 : decode method_2_code 46 = .ok (.iaload, 1) := by decide +kernel
theorem d4_47 : decode method_2_code 47 = .ok (.if_icmp .ge 13, 3) := by decide +kernel
theorem d4_50 : decode method_2_code 50 = .ok (.aload_n 1, 1) := by decide +kernel
theorem d4_51 : decode method_2_code 51 = .ok (.iconst 1, 1) := by decide +kernel
theorem d4_52 : decode method_2_code 52 = .ok (.iaload, 1) := by decide +kernel
theorem d4_53 : decode method_2_code 53 = .ok (.iconst 1, 1) := by decide +kernel
theorem d4_54 : decode method_2_code 54 = .ok (.iadd, 1) := by decide +kernel
theorem d4_55 : decode method_2_code 55 = .ok (.istore 5, 2) := by decide +kernel
theorem d4_57 : decode method_2_code 57 = .ok (.goto 6, 3) := by decide +kernel
theorem d4_60 : decode method_2_code 60 = .ok (.iconst 0, 1) := by decide +kernel
theorem d4_61 : decode method_2_code 61 = .ok (.istore 5, 2) := by decide +kernel
theorem d4_63 : decode method_2_code 63 = .ok (.aload_n 0, 1) := by decide +kernel
theorem d4_64 : decode method_2_code 64 = .ok (.invokevirtual 13, 3) := by decide +kernel
theorem d4_67 : decode method_2_code 67 = .ok (.istore 6, 2) := by decide +kernel
theorem d4_69 : decode method_2_code 69 = .ok (.aload_n 1, 1) := by decide +kernel
theorem d4_70 : decode method_2_code 70 = .ok (.iconst 1, 1) := by decide +kernel
theorem d4_71 : decode method_2_code 71 = .ok (.iload 5, 2) := by decide +kernel
theorem d4_73 : decode method_2_code 73 = .ok (.iastore, 1) := by decide +kernel
theorem d4_74 : decode method_2_code 74 = .ok (.iload 6, 2) := by decide +kernel
theorem d4_76 : decode method_2_code 76 = .ok (.iload 5, 2) := by decide +kernel
theorem d4_78 : decode method_2_code 78 = .ok (.if_icmp .ne 7, 3) := by decide +kernel
theorem d4_81 : decode method_2_code 81 = .ok (.iconst 1, 1) := by decide +kernel
theorem d4_82 : decode method_2_code 82 = .ok (.goto 4, 3) := by decide +kernel
theorem d4_85 : decode method_2_code 85 = .ok (.iconst 0, 1) := by decide +kernel
theorem d4_86 : decode method_2_code 86 = .ok (.ireturn, 1) := by decide +kernel
theorem pn_1 : plainName "com/example/score_on_crawl/scoreoncrawl/engine/CycleSequenceNextPinLaw" = true := by first | (simp [plainName, overriddenIn]; done) | decide +kernel
theorem pd_1 : parseMethodDescriptor "(IZ)V" = some ⟨[.int, .boolean], none⟩ := by decide +kernel
theorem pd_2 : parseMethodDescriptor "()I" = some ⟨[], some .int⟩ := by decide +kernel
theorem ef_4 (m : MethodId) (x0 : Addr) (x1 : Addr) (x2 : Int32) (x3 : Int32) (x4 : Int32) : entryFrame m #[(.ref x0), (.ref x1), (.int x2), (.int x3), (.int x4)] 7 = mkF m 0 #[.val (.ref x0), .val (.ref x1), .val (.int x2), .val (.int x3), .val (.int x4), .unset, .unset] [] := by first | (simp [entryFrame, mkF, argsToLocals, Value.category]; done) | rfl
def Q4 (Z : State) (a1 am : Addr) (p1 p2 p3 Pg Cu M : Int32) (fm : Nat → Value) (B : Nat) (h0 : Heap) (n0 : Nat) (v : Option Value) (h : Heap) (L : List Loc) : Prop := v = some (.int (1 : Int32)) ∧ Fr n0 L ∧ Keep h0 h [a1, am] ∧ Exa Z h a1 "com/example/score_on_crawl/scoreoncrawl/engine/CycleSequence" ∧ ∃ (Pg' Cu' M' : Int32) (fm' : Nat → Value), own_inv Pg' Cu' M' (B + 1) ∧ Fld Z h a1 "com/example/score_on_crawl/scoreoncrawl/engine/CycleSequence" "pages" "I" (.int Pg') ∧ Fld Z h a1 "com/example/score_on_crawl/scoreoncrawl/engine/CycleSequence" "cursor" "I" (.int Cu') ∧ OwnA Z h am .int 2 fm' ∧ fm' 0 = .int Pg' ∧ fm' 1 = .int M'
set_option maxRecDepth 65536 in
set_option maxHeartbeats 40000000 in
theorem rm4 (l : Launch) (Z : State) (a0 : Array Value) (hw : ∀ d ∈ tables_1, d.before a0 Z = true) (ws : List Jvm.Cond) (a1 am : Addr) (p1 p2 p3 Pg Cu M : Int32) (fm : Nat → Value) (B : Nat) (h0 : Heap) (n0 : Nat) (Z0 : n0 ≤ h0.size) (EX : Exa Z h0 a1 "com/example/score_on_crawl/scoreoncrawl/engine/CycleSequence") (FP0 : Fld Z h0 a1 "com/example/score_on_crawl/scoreoncrawl/engine/CycleSequence" "pages" "I" (.int Pg)) (FC0 : Fld Z h0 a1 "com/example/score_on_crawl/scoreoncrawl/engine/CycleSequence" "cursor" "I" (.int Cu)) (g1 : n0 ≤ a1) (Am : OwnA Z h0 am .int 2 fm) (hm0 : fm 0 = .int Pg) (hm1 : fm 1 = .int M) (nam : a1 ≠ am) (g2 : n0 ≤ am) (hi : own_inv Pg Cu M B) (hB : B ≤ 1000) :
    MetFree l (⟨"com/example/score_on_crawl/scoreoncrawl/engine/CycleSequenceNextPinLaw", "step", "(Lcom/example/score_on_crawl/scoreoncrawl/engine/CycleSequence;[IIII)Z"⟩ : MethodName) (head1 (Jvm.Cond.code (⟨"com/example/score_on_crawl/scoreoncrawl/engine/CycleSequenceNextPinLaw", "step", "(Lcom/example/score_on_crawl/scoreoncrawl/engine/CycleSequence;[IIII)Z"⟩ : MethodName) method_2_code 7 (some .boolean) :: ws) ({ frames := 1, cells := 0, slots := 0, locals := 14 } : Room)) (fun a U => a = #[(.ref a1), (.ref am), (.int p1), (.int p2), (.int p3)] ∧ Z.Warmed39 U.vm ∧ U.heap = h0) (fun _ _ _ _ _ => True) (fun _ U o U' => ∃ v L, o = .returned v ∧ Q4 Z a1 am p1 p2 p3 Pg Cu M fm B h0 n0 v U'.heap L ∧ FrameEnd U o U' L ({ frames := 1, cells := 0, slots := 0, locals := 14 } : Room).cells ({ frames := 1, cells := 0, slots := 0, locals := 14 } : Room).slots) := by
  refine own_met (Q := fun v h L => Q4 Z a1 am p1 p2 p3 Pg Cu M fm B h0 n0 v h L) (plainFor_of_name pn_1) ?_
  intro p e s m below meth c s₁ hx hby hml hret hlk hown hnm hZ X0 e0
  have N0 := Fr.nil n0
  rw [ef_4 m a1 am p1 p2 p3]
  show OwnG p e below s _ _ _ (s₁.setTop (mkF m 0 #[.val (.ref a1), .val (.ref am), .val (.int p1), .val (.int p2), .val (.int p3), .unset, .unset] []))
  refine own_by (fun t kk_ => XS.iloadN X0.here hx rfl (hb hby d4_0) rfl  kk_) ?_
  show OwnG p e below s _ _ _ (s₁.setTop (mkF m 1 #[.val (.ref a1), .val (.ref am), .val (.int p1), .val (.int p2), .val (.int p3), .unset, .unset] [(.int p1)]))
  refine own_by (fun t kk_ => XS.iloadN X0.here hx rfl (hb hby d4_1) rfl  kk_) ?_
  show OwnG p e below s _ _ _ (s₁.setTop (mkF m 2 #[.val (.ref a1), .val (.ref am), .val (.int p1), .val (.int p2), .val (.int p3), .unset, .unset] [(.int p2), (.int p1)]))
  refine own_by (fun t kk_ => XS.iushr X0.here hx rfl (hb hby d4_2) rfl kk_) ?_
  show OwnG p e below s _ _ _ (s₁.setTop (mkF m 3 #[.val (.ref a1), .val (.ref am), .val (.int p1), .val (.int p2), .val (.int p3), .unset, .unset] [(.int ((p1.toUInt32 >>> (p2 &&& 31).toUInt32).toInt32))]))
  refine own_by (fun t kk_ => XS.iconst X0.here hx rfl (hb hby d4_3) kk_) ?_
  show OwnG p e below s _ _ _ (s₁.setTop (mkF m 4 #[.val (.ref a1), .val (.ref am), .val (.int p1), .val (.int p2), .val (.int p3), .unset, .unset] [(.int (1 : Int32)), (.int ((p1.toUInt32 >>> (p2 &&& 31).toUInt32).toInt32))]))
  refine own_by (fun t kk_ => XS.iand X0.here hx rfl (hb hby d4_4) rfl kk_) ?_
  show OwnG p e below s _ _ _ (s₁.setTop (mkF m 5 #[.val (.ref a1), .val (.ref am), .val (.int p1), .val (.int p2), .val (.int p3), .unset, .unset] [(.int (((p1.toUInt32 >>> (p2 &&& 31).toUInt32).toInt32) &&& (1 : Int32)))]))
  by_cases hb5_1 : (((p1.toUInt32 >>> (p2 &&& 31).toUInt32).toInt32) &&& (1 : Int32)) = (0 : Int32)
  · refine own_by (fun t kk_ => XS.ifYes X0.here hx rfl (pc0 := 5) (pc' := 39) rfl (hb hby d4_5) rfl ((if0 _ _).trans (teq hb5_1).1) (by decide) (by decide) kk_) ?_
    show OwnG p e below s _ _ _ (s₁.setTop (mkF m 39 #[.val (.ref a1), .val (.ref am), .val (.int p1), .val (.int p2), .val (.int p3), .unset, .unset] []))
    refine own_by (fun t kk_ => XS.aloadN X0.here hx rfl (hb hby d4_39) rfl rfl kk_) ?_
    show OwnG p e below s _ _ _ (s₁.setTop (mkF m 40 #[.val (.ref a1), .val (.ref am), .val (.int p1), .val (.int p2), .val (.int p3), .unset, .unset] [(.ref am)]))
    refine own_by (fun t kk_ => XS.iconst X0.here hx rfl (hb hby d4_40) kk_) ?_
    show OwnG p e below s _ _ _ (s₁.setTop (mkF m 41 #[.val (.ref a1), .val (.ref am), .val (.int p1), .val (.int p2), .val (.int p3), .unset, .unset] [(.int (1 : Int32)), (.ref am)]))
    refine own_by (fun t kk_ => own_ldI X0 hx hZ e0 Am (j := (1 : Int32)) (i := 1) ⟨by decide, rfl, by decide⟩ (v := (.int M)) hm1 (g := (mkF m 41 #[.val (.ref a1), .val (.ref am), .val (.int p1), .val (.int p2), .val (.int p3), .unset, .unset] [(.int (1 : Int32)), (.ref am)])) rfl rfl (hb hby d4_41) _ kk_) ?_
    show OwnG p e below s _ _ _ (s₁.setTop (mkF m 42 #[.val (.ref a1), .val (.ref am), .val (.int p1), .val (.int p2), .val (.int p3), .unset, .unset] [(.int M)]))
    refine own_by (fun t kk_ => XS.iconst X0.here hx rfl (hb hby d4_42) kk_) ?_
    show OwnG p e below s _ _ _ (s₁.setTop (mkF m 43 #[.val (.ref a1), .val (.ref am), .val (.int p1), .val (.int p2), .val (.int p3), .unset, .unset] [(.int (1 : Int32)), (.int M)]))
    refine own_by (fun t kk_ => XS.iadd X0.here hx rfl (hb hby d4_43) rfl kk_) ?_
    show OwnG p e below s _ _ _ (s₁.setTop (mkF m 44 #[.val (.ref a1), .val (.ref am), .val (.int p1), .val (.int p2), .val (.int p3), .unset, .unset] [(.int (M + (1 : Int32)))]))
    refine own_by (fun t kk_ => XS.aloadN X0.here hx rfl (hb hby d4_44) rfl rfl kk_) ?_
    show OwnG p e below s _ _ _ (s₁.setTop (mkF m 45 #[.val (.ref a1), .val (.ref am), .val (.int p1), .val (.int p2), .val (.int p3), .unset, .unset] [(.ref am), (.int (M + (1 : Int32)))]))
    refine own_by (fun t kk_ => XS.iconst X0.here hx rfl (hb hby d4_45) kk_) ?_
    show OwnG p e below s _ _ _ (s₁.setTop (mkF m 46 #[.val (.ref a1), .val (.ref am), .val (.int p1), .val (.int p2), .val (.int p3), .unset, .unset] [(.int (0 : Int32)), (.ref am), (.int (M + (1 : Int32)))]))
    refine own_by (fun t kk_ => own_ldI X0 hx hZ e0 Am (j := (0 : Int32)) (i := 0) ⟨by decide, rfl, by decide⟩ (v := (.int Pg)) hm0 (g := (mkF m 46 #[.val (.ref a1), .val (.ref am), .val (.int p1), .val (.int p2), .val (.int p3), .unset, .unset] [(.int (0 : Int32)), (.ref am), (.int (M + (1 : Int32)))])) rfl rfl (hb hby d4_46) _ kk_) ?_
    show OwnG p e below s _ _ _ (s₁.setTop (mkF m 47 #[.val (.ref a1), .val (.ref am), .val (.int p1), .val (.int p2), .val (.int p3), .unset, .unset] [(.int Pg), (.int (M + (1 : Int32)))]))
    by_cases hb47_2 : (M + (1 : Int32)) < Pg
    · refine own_by (fun t kk_ => XS.icmpNo X0.here hx rfl (hb hby d4_47) rfl (tlt hb47_2).2.1 kk_) ?_
      show OwnG p e below s _ _ _ (s₁.setTop (mkF m 50 #[.val (.ref a1), .val (.ref am), .val (.int p1), .val (.int p2), .val (.int p3), .unset, .unset] []))
      refine own_by (fun t kk_ => XS.aloadN X0.here hx rfl (hb hby d4_50) rfl rfl kk_) ?_
      show OwnG p e below s _ _ _ (s₁.setTop (mkF m 51 #[.val (.ref a1), .val (.ref am), .val (.int p1), .val (.int p2), .val (.int p3), .unset, .unset] [(.ref am)]))
      refine own_by (fun t kk_ => XS.iconst X0.here hx rfl (hb hby d4_51) kk_) ?_
      show OwnG p e below s _ _ _ (s₁.setTop (mkF m 52 #[.val (.ref a1), .val (.ref am), .val (.int p1), .val (.int p2), .val (.int p3), .unset, .unset] [(.int (1 : Int32)), (.ref am)]))
      refine own_by (fun t kk_ => own_ldI X0 hx hZ e0 Am (j := (1 : Int32)) (i := 1) ⟨by decide, rfl, by decide⟩ (v := (.int M)) hm1 (g := (mkF m 52 #[.val (.ref a1), .val (.ref am), .val (.int p1), .val (.int p2), .val (.int p3), .unset, .unset] [(.int (1 : Int32)), (.ref am)])) rfl rfl (hb hby d4_52) _ kk_) ?_
      show OwnG p e below s _ _ _ (s₁.setTop (mkF m 53 #[.val (.ref a1), .val (.ref am), .val (.int p1), .val (.int p2), .val (.int p3), .unset, .unset] [(.int M)]))
      refine own_by (fun t kk_ => XS.iconst X0.here hx rfl (hb hby d4_53) kk_) ?_
      show OwnG p e below s _ _ _ (s₁.setTop (mkF m 54 #[.val (.ref a1), .val (.ref am), .val (.int p1), .val (.int p2), .val (.int p3), .unset, .unset] [(.int (1 : Int32)), (.int M)]))
      refine own_by (fun t kk_ => XS.iadd X0.here hx rfl (hb hby d4_54) rfl kk_) ?_
      show OwnG p e below s _ _ _ (s₁.setTop (mkF m 55 #[.val (.ref a1), .val (.ref am), .val (.int p1), .val (.int p2), .val (.int p3), .unset, .unset] [(.int (M + (1 : Int32)))]))
      refine own_by (fun t kk_ => XS.istore X0.here hx rfl (hb hby d4_55) rfl (l' := #[.val (.ref a1), .val (.ref am), .val (.int p1), .val (.int p2), .val (.int p3), .val (.int (M + (1 : Int32))), .unset]) rfl kk_) ?_
      show OwnG p e below s _ _ _ (s₁.setTop (mkF m 57 #[.val (.ref a1), .val (.ref am), .val (.int p1), .val (.int p2), .val (.int p3), .val (.int (M + (1 : Int32))), .unset] []))
      refine own_by (fun t kk_ => XS.goto X0.here hx rfl (pc0 := 57) (pc' := 63) rfl (hb hby d4_57) (by decide) (by decide) kk_) ?_
      show OwnG p e below s _ _ _ (s₁.setTop (mkF m 63 #[.val (.ref a1), .val (.ref am), .val (.int p1), .val (.int p2), .val (.int p3), .val (.int (M + (1 : Int32))), .unset] []))
      refine own_by (fun t kk_ => XS.aloadN X0.here hx rfl (hb hby d4_63) rfl rfl kk_) ?_
      show OwnG p e below s _ _ _ (s₁.setTop (mkF m 64 #[.val (.ref a1), .val (.ref am), .val (.int p1), .val (.int p2), .val (.int p3), .val (.int (M + (1 : Int32))), .unset] [(.ref a1)]))
      obtain ⟨cq3, kq3, q3a, q3b, q3c⟩ := isOf hZ e0 EX
      obtain ⟨_, _, ⟨T3, L3, k3, n3⟩, -, X3, ⟨Lc3, hQ3, l3, y3, z3⟩, st3⟩ := X0.virtualBack hx (y := (⟨"com/example/score_on_crawl/scoreoncrawl/engine/CycleSequence", "next", "()I"⟩ : MethodName)) (z := (⟨"com/example/score_on_crawl/scoreoncrawl/engine/CycleSequence", "next", "()I"⟩ : MethodName)) hown (mvT hZ (hw _ (List.mem_of_getElem? (i := 21) rfl))) (mvT hZ (hw _ (List.mem_of_getElem? (i := 22) rfl))) (notFace_of_selects (args := #[]) (mvT hZ (hw _ (List.mem_of_getElem? (i := 24) rfl)))) (mvT hZ (hw _ (List.mem_of_getElem? (i := 24) rfl))) (mvT hZ (hw _ (List.mem_of_getElem? (i := 23) rfl))) (by decide) (backOf (W := 0) (rm5 l Z a0 hw [] a1 Pg Cu h0 n0 Z0 EX FP0 FC0 g1) hZ (hw _ (List.mem_of_getElem? (i := 25) rfl)) (hw _ (List.mem_of_getElem? (i := 2) rfl)) (by decide) (by decide)) q3a q3c (g := (mkF m 64 #[.val (.ref a1), .val (.ref am), .val (.int p1), .val (.int p2), .val (.int p3), .val (.int (M + (1 : Int32))), .unset] [(.ref a1)])) rfl (by rw [hml]; rfl) (Steps.refl _) (argsL := []) (rest := []) (lenOf pd_2 rfl) rfl (by show 2 * 0 + _ ≤ _; exact Nat.le_of_eq rfl) (hb hby d4_64) (fun _ _ => ⟨rfl, e0, (by decide : 0 + 0 ≤ _), (by decide : 0 + 0 ≤ _)⟩)
      dsimp only [Pt.U, Pt.locs, Pt.cells, Pt.slots] at X3 l3 y3 z3 st3 hQ3
      subst l3 y3 z3
      refine own_by (fun t kk_ => st3.trans kk_) ?_
      obtain ⟨rfl, N3q, K3, x3, fp3, fc3⟩ := hQ3
      have N3 := Fr.app N0 N3q
      have sz3 : n0 ≤ T3.heap.size := Nat.le_trans Z0 K3.1
      have f4 := Exa.keep EX K3
      have f5 := Keep.trans (Keep.refl h0 [a1, am]) K3 (allS (Or.inl (by simp)) all0)
      have f6 := OwnA.keep Am K3 (ninS (Ne.symm nam) nin0)
      show OwnG p e below s _ _ _ (T3.setTop (mkF m 67 #[.val (.ref a1), .val (.ref am), .val (.int p1), .val (.int p2), .val (.int p3), .val (.int (M + (1 : Int32))), .unset] [(.int (own_nx Pg Cu))]))
      refine own_by (fun t kk_ => XS.istore X3.here hx rfl (hb hby d4_67) rfl (l' := #[.val (.ref a1), .val (.ref am), .val (.int p1), .val (.int p2), .val (.int p3), .val (.int (M + (1 : Int32))), .val (.int (own_nx Pg Cu))]) rfl kk_) ?_
      show OwnG p e below s _ _ _ (T3.setTop (mkF m 69 #[.val (.ref a1), .val (.ref am), .val (.int p1), .val (.int p2), .val (.int p3), .val (.int (M + (1 : Int32))), .val (.int (own_nx Pg Cu))] []))
      refine own_by (fun t kk_ => XS.aloadN X3.here hx rfl (hb hby d4_69) rfl rfl kk_) ?_
      show OwnG p e below s _ _ _ (T3.setTop (mkF m 70 #[.val (.ref a1), .val (.ref am), .val (.int p1), .val (.int p2), .val (.int p3), .val (.int (M + (1 : Int32))), .val (.int (own_nx Pg Cu))] [(.ref am)]))
      refine own_by (fun t kk_ => XS.iconst X3.here hx rfl (hb hby d4_70) kk_) ?_
      show OwnG p e below s _ _ _ (T3.setTop (mkF m 71 #[.val (.ref a1), .val (.ref am), .val (.int p1), .val (.int p2), .val (.int p3), .val (.int (M + (1 : Int32))), .val (.int (own_nx Pg Cu))] [(.int (1 : Int32)), (.ref am)]))
      refine own_by (fun t kk_ => XS.iload X3.here hx rfl (hb hby d4_71) rfl  kk_) ?_
      show OwnG p e below s _ _ _ (T3.setTop (mkF m 73 #[.val (.ref a1), .val (.ref am), .val (.int p1), .val (.int p2), .val (.int p3), .val (.int (M + (1 : Int32))), .val (.int (own_nx Pg Cu))] [(.int (M + (1 : Int32))), (.int (1 : Int32)), (.ref am)]))
      obtain ⟨T7, h7, X7, e7, W7, A7, st7⟩ := own_stI X3 hx hZ (rfl : T3.heap = T3.heap) f6 (j := (1 : Int32)) (i := 1) ⟨by decide, rfl, by decide⟩ (g := (mkF m 73 #[.val (.ref a1), .val (.ref am), .val (.int p1), .val (.int p2), .val (.int p3), .val (.int (M + (1 : Int32))), .val (.int (own_nx Pg Cu))] [(.int (M + (1 : Int32))), (.int (1 : Int32)), (.ref am)])) rfl rfl (hb hby d4_73)
      refine own_by (fun t kk_ => st7 _ kk_) ?_
      have f8 := Exa.wr W7 x3
      have f9 := Keep.wr f5 W7 (Or.inl (by simp))
      have f11 := Fld.other W7 fp3 (Or.inl nam)
      have f12 := Fld.other W7 fc3 (Or.inl nam)
      have N7 := Fr.snoc X7 N3 g2
      have sz7 : n0 ≤ h7.size := by rw [W7.size]; exact sz3
      show OwnG p e below s _ _ _ (T7.setTop (mkF m 74 #[.val (.ref a1), .val (.ref am), .val (.int p1), .val (.int p2), .val (.int p3), .val (.int (M + (1 : Int32))), .val (.int (own_nx Pg Cu))] []))
      refine own_by (fun t kk_ => XS.iload X7.here hx rfl (hb hby d4_74) rfl  kk_) ?_
      show OwnG p e below s _ _ _ (T7.setTop (mkF m 76 #[.val (.ref a1), .val (.ref am), .val (.int p1), .val (.int p2), .val (.int p3), .val (.int (M + (1 : Int32))), .val (.int (own_nx Pg Cu))] [(.int (own_nx Pg Cu))]))
      refine own_by (fun t kk_ => XS.iload X7.here hx rfl (hb hby d4_76) rfl  kk_) ?_
      show OwnG p e below s _ _ _ (T7.setTop (mkF m 78 #[.val (.ref a1), .val (.ref am), .val (.int p1), .val (.int p2), .val (.int p3), .val (.int (M + (1 : Int32))), .val (.int (own_nx Pg Cu))] [(.int (M + (1 : Int32))), (.int (own_nx Pg Cu))]))
      refine own_by (fun t kk_ => XS.icmpNo X7.here hx rfl (hb hby d4_78) rfl (teq (own_exp1 hi hB hb47_2)).2 kk_) ?_
      show OwnG p e below s _ _ _ (T7.setTop (mkF m 81 #[.val (.ref a1), .val (.ref am), .val (.int p1), .val (.int p2), .val (.int p3), .val (.int (M + (1 : Int32))), .val (.int (own_nx Pg Cu))] []))
      refine own_by (fun t kk_ => XS.iconst X7.here hx rfl (hb hby d4_81) kk_) ?_
      show OwnG p e below s _ _ _ (T7.setTop (mkF m 82 #[.val (.ref a1), .val (.ref am), .val (.int p1), .val (.int p2), .val (.int p3), .val (.int (M + (1 : Int32))), .val (.int (own_nx Pg Cu))] [(.int (1 : Int32))]))
      refine own_by (fun t kk_ => XS.goto X7.here hx rfl (pc0 := 82) (pc' := 86) rfl (hb hby d4_82) (by decide) (by decide) kk_) ?_
      show OwnG p e below s _ _ _ (T7.setTop (mkF m 86 #[.val (.ref a1), .val (.ref am), .val (.int p1), .val (.int p2), .val (.int p3), .val (.int (M + (1 : Int32))), .val (.int (own_nx Pg Cu))] [(.int (1 : Int32))]))
      exact own_outN X7 hx hret (by simp) hlk (hb hby d4_86) rfl (by show _ ∧ _; rw [e7]; exact ⟨rfl, N7, f9, f8, _, _, _, _, own_mono (own_next hi hB), f11, f12, A7, by simp [ownSet, hm0], by simp [ownSet, (own_exp1 hi hB hb47_2)]⟩) (by decide) (by decide)
    · refine own_by (fun t kk_ => XS.icmpYes X0.here hx rfl (pc0 := 47) (pc' := 60) rfl (hb hby d4_47) rfl (flt hb47_2).2.1 (by decide) (by decide) kk_) ?_
      show OwnG p e below s _ _ _ (s₁.setTop (mkF m 60 #[.val (.ref a1), .val (.ref am), .val (.int p1), .val (.int p2), .val (.int p3), .unset, .unset] []))
      refine own_by (fun t kk_ => XS.iconst X0.here hx rfl (hb hby d4_60) kk_) ?_
      show OwnG p e below s _ _ _ (s₁.setTop (mkF m 61 #[.val (.ref a1), .val (.ref am), .val (.int p1), .val (.int p2), .val (.int p3), .unset, .unset] [(.int (0 : Int32))]))
      refine own_by (fun t kk_ => XS.istore X0.here hx rfl (hb hby d4_61) rfl (l' := #[.val (.ref a1), .val (.ref am), .val (.int p1), .val (.int p2), .val (.int p3), .val (.int (0 : Int32)), .unset]) rfl kk_) ?_
      show OwnG p e below s _ _ _ (s₁.setTop (mkF m 63 #[.val (.ref a1), .val (.ref am), .val (.int p1), .val (.int p2), .val (.int p3), .val (.int (0 : Int32)), .unset] []))
      refine own_by (fun t kk_ => XS.aloadN X0.here hx rfl (hb hby d4_63) rfl rfl kk_) ?_
      show OwnG p e below s _ _ _ (s₁.setTop (mkF m 64 #[.val (.ref a1), .val (.ref am), .val (.int p1), .val (.int p2), .val (.int p3), .val (.int (0 : Int32)), .unset] [(.ref a1)]))
      obtain ⟨cq13, kq13, q13a, q13b, q13c⟩ := isOf hZ e0 EX
      obtain ⟨_, _, ⟨T13, L13, k13, n13⟩, -, X13, ⟨Lc13, hQ13, l13, y13, z13⟩, st13⟩ := X0.virtualBack hx (y := (⟨"com/example/score_on_crawl/scoreoncrawl/engine/CycleSequence", "next", "()I"⟩ : MethodName)) (z := (⟨"com/example/score_on_crawl/scoreoncrawl/engine/CycleSequence", "next", "()I"⟩ : MethodName)) hown (mvT hZ (hw _ (List.mem_of_getElem? (i := 21) rfl))) (mvT hZ (hw _ (List.mem_of_getElem? (i := 22) rfl))) (notFace_of_selects (args := #[]) (mvT hZ (hw _ (List.mem_of_getElem? (i := 24) rfl)))) (mvT hZ (hw _ (List.mem_of_getElem? (i := 24) rfl))) (mvT hZ (hw _ (List.mem_of_getElem? (i := 23) rfl))) (by decide) (backOf (W := 0) (rm5 l Z a0 hw [] a1 Pg Cu h0 n0 Z0 EX FP0 FC0 g1) hZ (hw _ (List.mem_of_getElem? (i := 25) rfl)) (hw _ (List.mem_of_getElem? (i := 2) rfl)) (by decide) (by decide)) q13a q13c (g := (mkF m 64 #[.val (.ref a1), .val (.ref am), .val (.int p1), .val (.int p2), .val (.int p3), .val (.int (0 : Int32)), .unset] [(.ref a1)])) rfl (by rw [hml]; rfl) (Steps.refl _) (argsL := []) (rest := []) (lenOf pd_2 rfl) rfl (by show 2 * 0 + _ ≤ _; exact Nat.le_of_eq rfl) (hb hby d4_64) (fun _ _ => ⟨rfl, e0, (by decide : 0 + 0 ≤ _), (by decide : 0 + 0 ≤ _)⟩)
      dsimp only [Pt.U, Pt.locs, Pt.cells, Pt.slots] at X13 l13 y13 z13 st13 hQ13
      subst l13 y13 z13
      refine own_by (fun t kk_ => st13.trans kk_) ?_
      obtain ⟨rfl, N13q, K13, x13, fp13, fc13⟩ := hQ13
      have N13 := Fr.app N0 N13q
      have sz13 : n0 ≤ T13.heap.size := Nat.le_trans Z0 K13.1
      have f14 := Exa.keep EX K13
      have f15 := Keep.trans (Keep.refl h0 [a1, am]) K13 (allS (Or.inl (by simp)) all0)
      have f16 := OwnA.keep Am K13 (ninS (Ne.symm nam) nin0)
      show OwnG p e below s _ _ _ (T13.setTop (mkF m 67 #[.val (.ref a1), .val (.ref am), .val (.int p1), .val (.int p2), .val (.int p3), .val (.int (0 : Int32)), .unset] [(.int (own_nx Pg Cu))]))
      refine own_by (fun t kk_ => XS.istore X13.here hx rfl (hb hby d4_67) rfl (l' := #[.val (.ref a1), .val (.ref am), .val (.int p1), .val (.int p2), .val (.int p3), .val (.int (0 : Int32)), .val (.int (own_nx Pg Cu))]) rfl kk_) ?_
      show OwnG p e below s _ _ _ (T13.setTop (mkF m 69 #[.val (.ref a1), .val (.ref am), .val (.int p1), .val (.int p2), .val (.int p3), .val (.int (0 : Int32)), .val (.int (own_nx Pg Cu))] []))
      refine own_by (fun t kk_ => XS.aloadN X13.here hx rfl (hb hby d4_69) rfl rfl kk_) ?_
      show OwnG p e below s _ _ _ (T13.setTop (mkF m 70 #[.val (.ref a1), .val (.ref am), .val (.int p1), .val (.int p2), .val (.int p3), .val (.int (0 : Int32)), .val (.int (own_nx Pg Cu))] [(.ref am)]))
      refine own_by (fun t kk_ => XS.iconst X13.here hx rfl (hb hby d4_70) kk_) ?_
      show OwnG p e below s _ _ _ (T13.setTop (mkF m 71 #[.val (.ref a1), .val (.ref am), .val (.int p1), .val (.int p2), .val (.int p3), .val (.int (0 : Int32)), .val (.int (own_nx Pg Cu))] [(.int (1 : Int32)), (.ref am)]))
      refine own_by (fun t kk_ => XS.iload X13.here hx rfl (hb hby d4_71) rfl  kk_) ?_
      show OwnG p e below s _ _ _ (T13.setTop (mkF m 73 #[.val (.ref a1), .val (.ref am), .val (.int p1), .val (.int p2), .val (.int p3), .val (.int (0 : Int32)), .val (.int (own_nx Pg Cu))] [(.int (0 : Int32)), (.int (1 : Int32)), (.ref am)]))
      obtain ⟨T17, h17, X17, e17, W17, A17, st17⟩ := own_stI X13 hx hZ (rfl : T13.heap = T13.heap) f16 (j := (1 : Int32)) (i := 1) ⟨by decide, rfl, by decide⟩ (g := (mkF m 73 #[.val (.ref a1), .val (.ref am), .val (.int p1), .val (.int p2), .val (.int p3), .val (.int (0 : Int32)), .val (.int (own_nx Pg Cu))] [(.int (0 : Int32)), (.int (1 : Int32)), (.ref am)])) rfl rfl (hb hby d4_73)
      refine own_by (fun t kk_ => st17 _ kk_) ?_
      have f18 := Exa.wr W17 x13
      have f19 := Keep.wr f15 W17 (Or.inl (by simp))
      have f21 := Fld.other W17 fp13 (Or.inl nam)
      have f22 := Fld.other W17 fc13 (Or.inl nam)
      have N17 := Fr.snoc X17 N13 g2
      have sz17 : n0 ≤ h17.size := by rw [W17.size]; exact sz13
      show OwnG p e below s _ _ _ (T17.setTop (mkF m 74 #[.val (.ref a1), .val (.ref am), .val (.int p1), .val (.int p2), .val (.int p3), .val (.int (0 : Int32)), .val (.int (own_nx Pg Cu))] []))
      refine own_by (fun t kk_ => XS.iload X17.here hx rfl (hb hby d4_74) rfl  kk_) ?_
      show OwnG p e below s _ _ _ (T17.setTop (mkF m 76 #[.val (.ref a1), .val (.ref am), .val (.int p1), .val (.int p2), .val (.int p3), .val (.int (0 : Int32)), .val (.int (own_nx Pg Cu))] [(.int (own_nx Pg Cu))]))
      refine own_by (fun t kk_ => XS.iload X17.here hx rfl (hb hby d4_76) rfl  kk_) ?_
      show OwnG p e below s _ _ _ (T17.setTop (mkF m 78 #[.val (.ref a1), .val (.ref am), .val (.int p1), .val (.int p2), .val (.int p3), .val (.int (0 : Int32)), .val (.int (own_nx Pg Cu))] [(.int (0 : Int32)), (.int (own_nx Pg Cu))]))
      refine own_by (fun t kk_ => XS.icmpNo X17.here hx rfl (hb hby d4_78) rfl (teq (own_exp0 hi hB hb47_2)).2 kk_) ?_
      show OwnG p e below s _ _ _ (T17.setTop (mkF m 81 #[.val (.ref a1), .val (.ref am), .val (.int p1), .val (.int p2), .val (.int p3), .val (.int (0 : Int32)), .val (.int (own_nx Pg Cu))] []))
      refine own_by (fun t kk_ => XS.iconst X17.here hx rfl (hb hby d4_81) kk_) ?_
      show OwnG p e below s _ _ _ (T17.setTop (mkF m 82 #[.val (.ref a1), .val (.ref am), .val (.int p1), .val (.int p2), .val (.int p3), .val (.int (0 : Int32)), .val (.int (own_nx Pg Cu))] [(.int (1 : Int32))]))
      refine own_by (fun t kk_ => XS.goto X17.here hx rfl (pc0 := 82) (pc' := 86) rfl (hb hby d4_82) (by decide) (by decide) kk_) ?_
      show OwnG p e below s _ _ _ (T17.setTop (mkF m 86 #[.val (.ref a1), .val (.ref am), .val (.int p1), .val (.int p2), .val (.int p3), .val (.int (0 : Int32)), .val (.int (own_nx Pg Cu))] [(.int (1 : Int32))]))
      exact own_outN X17 hx hret (by simp) hlk (hb hby d4_86) rfl (by show _ ∧ _; rw [e17]; exact ⟨rfl, N17, f19, f18, _, _, _, _, own_mono (own_next hi hB), f21, f22, A17, by simp [ownSet, hm0], by simp [ownSet, (own_exp0 hi hB hb47_2)]⟩) (by decide) (by decide)
  · refine own_by (fun t kk_ => XS.ifNo X0.here hx rfl (hb hby d4_5) rfl ((if0 _ _).trans (feq hb5_1).1) kk_) ?_
    show OwnG p e below s _ _ _ (s₁.setTop (mkF m 8 #[.val (.ref a1), .val (.ref am), .val (.int p1), .val (.int p2), .val (.int p3), .unset, .unset] []))
    refine own_by (fun t kk_ => XS.aloadN X0.here hx rfl (hb hby d4_8) rfl rfl kk_) ?_
    show OwnG p e below s _ _ _ (s₁.setTop (mkF m 9 #[.val (.ref a1), .val (.ref am), .val (.int p1), .val (.int p2), .val (.int p3), .unset, .unset] [(.ref a1)]))
    refine own_by (fun t kk_ => XS.aloadN X0.here hx rfl (hb hby d4_9) rfl rfl kk_) ?_
    show OwnG p e below s _ _ _ (s₁.setTop (mkF m 10 #[.val (.ref a1), .val (.ref am), .val (.int p1), .val (.int p2), .val (.int p3), .unset, .unset] [(.ref am), (.ref a1)]))
    refine own_by (fun t kk_ => XS.iconst X0.here hx rfl (hb hby d4_10) kk_) ?_
    show OwnG p e below s _ _ _ (s₁.setTop (mkF m 11 #[.val (.ref a1), .val (.ref am), .val (.int p1), .val (.int p2), .val (.int p3), .unset, .unset] [(.int (0 : Int32)), (.ref am), (.ref a1)]))
    refine own_by (fun t kk_ => own_ldI X0 hx hZ e0 Am (j := (0 : Int32)) (i := 0) ⟨by decide, rfl, by decide⟩ (v := (.int Pg)) hm0 (g := (mkF m 11 #[.val (.ref a1), .val (.ref am), .val (.int p1), .val (.int p2), .val (.int p3), .unset, .unset] [(.int (0 : Int32)), (.ref am), (.ref a1)])) rfl rfl (hb hby d4_11) _ kk_) ?_
    show OwnG p e below s _ _ _ (s₁.setTop (mkF m 12 #[.val (.ref a1), .val (.ref am), .val (.int p1), .val (.int p2), .val (.int p3), .unset, .unset] [(.int Pg), (.ref a1)]))
    refine own_by (fun t kk_ => XS.iload X0.here hx rfl (hb hby d4_12) rfl  kk_) ?_
    show OwnG p e below s _ _ _ (s₁.setTop (mkF m 14 #[.val (.ref a1), .val (.ref am), .val (.int p1), .val (.int p2), .val (.int p3), .unset, .unset] [(.int p3), (.int Pg), (.ref a1)]))
    refine own_by (fun t kk_ => XS.iloadN X0.here hx rfl (hb hby d4_14) rfl  kk_) ?_
    show OwnG p e below s _ _ _ (s₁.setTop (mkF m 15 #[.val (.ref a1), .val (.ref am), .val (.int p1), .val (.int p2), .val (.int p3), .unset, .unset] [(.int p2), (.int p3), (.int Pg), (.ref a1)]))
    refine own_by (fun t kk_ => XS.iushr X0.here hx rfl (hb hby d4_15) rfl kk_) ?_
    show OwnG p e below s _ _ _ (s₁.setTop (mkF m 16 #[.val (.ref a1), .val (.ref am), .val (.int p1), .val (.int p2), .val (.int p3), .unset, .unset] [(.int ((p3.toUInt32 >>> (p2 &&& 31).toUInt32).toInt32)), (.int Pg), (.ref a1)]))
    refine own_by (fun t kk_ => XS.iconst X0.here hx rfl (hb hby d4_16) kk_) ?_
    show OwnG p e below s _ _ _ (s₁.setTop (mkF m 17 #[.val (.ref a1), .val (.ref am), .val (.int p1), .val (.int p2), .val (.int p3), .unset, .unset] [(.int (1 : Int32)), (.int ((p3.toUInt32 >>> (p2 &&& 31).toUInt32).toInt32)), (.int Pg), (.ref a1)]))
    refine own_by (fun t kk_ => XS.iand X0.here hx rfl (hb hby d4_17) rfl kk_) ?_
    show OwnG p e below s _ _ _ (s₁.setTop (mkF m 18 #[.val (.ref a1), .val (.ref am), .val (.int p1), .val (.int p2), .val (.int p3), .unset, .unset] [(.int (((p3.toUInt32 >>> (p2 &&& 31).toUInt32).toInt32) &&& (1 : Int32))), (.int Pg), (.ref a1)]))
    by_cases hb18_23 : (((p3.toUInt32 >>> (p2 &&& 31).toUInt32).toInt32) &&& (1 : Int32)) = (0 : Int32)
    · refine own_by (fun t kk_ => XS.ifYes X0.here hx rfl (pc0 := 18) (pc' := 25) rfl (hb hby d4_18) rfl ((if0 _ _).trans (teq hb18_23).1) (by decide) (by decide) kk_) ?_
      show OwnG p e below s _ _ _ (s₁.setTop (mkF m 25 #[.val (.ref a1), .val (.ref am), .val (.int p1), .val (.int p2), .val (.int p3), .unset, .unset] [(.int Pg), (.ref a1)]))
      refine own_by (fun t kk_ => XS.iconst X0.here hx rfl (hb hby d4_25) kk_) ?_
      show OwnG p e below s _ _ _ (s₁.setTop (mkF m 26 #[.val (.ref a1), .val (.ref am), .val (.int p1), .val (.int p2), .val (.int p3), .unset, .unset] [(.int (0 : Int32)), (.int Pg), (.ref a1)]))
      obtain ⟨cq24, kq24, q24a, q24b, q24c⟩ := isOf hZ e0 EX
      obtain ⟨_, _, ⟨T24, L24, k24, n24⟩, -, X24, ⟨Lc24, hQ24, l24, y24, z24⟩, st24⟩ := X0.virtualBack hx (y := (⟨"com/example/score_on_crawl/scoreoncrawl/engine/CycleSequence", "added", "(IZ)V"⟩ : MethodName)) (z := (⟨"com/example/score_on_crawl/scoreoncrawl/engine/CycleSequence", "added", "(IZ)V"⟩ : MethodName)) hown (mvT hZ (hw _ (List.mem_of_getElem? (i := 10) rfl))) (mvT hZ (hw _ (List.mem_of_getElem? (i := 11) rfl))) (notFace_of_selects (args := #[]) (mvT hZ (hw _ (List.mem_of_getElem? (i := 13) rfl)))) (mvT hZ (hw _ (List.mem_of_getElem? (i := 13) rfl))) (mvT hZ (hw _ (List.mem_of_getElem? (i := 12) rfl))) (by decide) (backOf (W := 0) (rm3 l Z a0 hw [] a1 Pg (0 : Int32) Pg Cu h0 n0 Z0 EX FP0 FC0 g1) hZ (hw _ (List.mem_of_getElem? (i := 14) rfl)) (hw _ (List.mem_of_getElem? (i := 2) rfl)) (by decide) (by decide)) q24a q24c (g := (mkF m 26 #[.val (.ref a1), .val (.ref am), .val (.int p1), .val (.int p2), .val (.int p3), .unset, .unset] [(.int (0 : Int32)), (.int Pg), (.ref a1)])) rfl (by rw [hml]; rfl) (Steps.refl _) (argsL := [(.int Pg), (.int (0 : Int32))]) (rest := []) (lenOf pd_1 rfl) rfl (by show 2 * 0 + _ ≤ _; exact Nat.le_of_eq rfl) (hb hby d4_26) (fun _ _ => ⟨rfl, e0, (by decide : 0 + 0 ≤ _), (by decide : 0 + 0 ≤ _)⟩)
      dsimp only [Pt.U, Pt.locs, Pt.cells, Pt.slots] at X24 l24 y24 z24 st24 hQ24
      subst l24 y24 z24
      refine own_by (fun t kk_ => st24.trans kk_) ?_
      obtain ⟨rfl, N24q, K24, x24, fp24, fc24⟩ := hQ24
      have N24 := Fr.app N0 N24q
      have sz24 : n0 ≤ T24.heap.size := Nat.le_trans Z0 K24.1
      have f25 := Exa.keep EX K24
      have f26 := Keep.trans (Keep.refl h0 [a1, am]) K24 (allS (Or.inl (by simp)) all0)
      have f27 := OwnA.keep Am K24 (ninS (Ne.symm nam) nin0)
      show OwnG p e below s _ _ _ (T24.setTop (mkF m 29 #[.val (.ref a1), .val (.ref am), .val (.int p1), .val (.int p2), .val (.int p3), .unset, .unset] []))
      refine own_by (fun t kk_ => XS.aloadN X24.here hx rfl (hb hby d4_29) rfl rfl kk_) ?_
      show OwnG p e below s _ _ _ (T24.setTop (mkF m 30 #[.val (.ref a1), .val (.ref am), .val (.int p1), .val (.int p2), .val (.int p3), .unset, .unset] [(.ref am)]))
      refine own_by (fun t kk_ => XS.iconst X24.here hx rfl (hb hby d4_30) kk_) ?_
      show OwnG p e below s _ _ _ (T24.setTop (mkF m 31 #[.val (.ref a1), .val (.ref am), .val (.int p1), .val (.int p2), .val (.int p3), .unset, .unset] [(.int (0 : Int32)), (.ref am)]))
      refine own_by (fun t kk_ => XS.aloadN X24.here hx rfl (hb hby d4_31) rfl rfl kk_) ?_
      show OwnG p e below s _ _ _ (T24.setTop (mkF m 32 #[.val (.ref a1), .val (.ref am), .val (.int p1), .val (.int p2), .val (.int p3), .unset, .unset] [(.ref am), (.int (0 : Int32)), (.ref am)]))
      refine own_by (fun t kk_ => XS.iconst X24.here hx rfl (hb hby d4_32) kk_) ?_
      show OwnG p e below s _ _ _ (T24.setTop (mkF m 33 #[.val (.ref a1), .val (.ref am), .val (.int p1), .val (.int p2), .val (.int p3), .unset, .unset] [(.int (0 : Int32)), (.ref am), (.int (0 : Int32)), (.ref am)]))
      refine own_by (fun t kk_ => own_ldI X24 hx hZ (rfl : T24.heap = T24.heap) f27 (j := (0 : Int32)) (i := 0) ⟨by decide, rfl, by decide⟩ (v := (.int Pg)) hm0 (g := (mkF m 33 #[.val (.ref a1), .val (.ref am), .val (.int p1), .val (.int p2), .val (.int p3), .unset, .unset] [(.int (0 : Int32)), (.ref am), (.int (0 : Int32)), (.ref am)])) rfl rfl (hb hby d4_33) _ kk_) ?_
      show OwnG p e below s _ _ _ (T24.setTop (mkF m 34 #[.val (.ref a1), .val (.ref am), .val (.int p1), .val (.int p2), .val (.int p3), .unset, .unset] [(.int Pg), (.int (0 : Int32)), (.ref am)]))
      refine own_by (fun t kk_ => XS.iconst X24.here hx rfl (hb hby d4_34) kk_) ?_
      show OwnG p e below s _ _ _ (T24.setTop (mkF m 35 #[.val (.ref a1), .val (.ref am), .val (.int p1), .val (.int p2), .val (.int p3), .unset, .unset] [(.int (1 : Int32)), (.int Pg), (.int (0 : Int32)), (.ref am)]))
      refine own_by (fun t kk_ => XS.iadd X24.here hx rfl (hb hby d4_35) rfl kk_) ?_
      show OwnG p e below s _ _ _ (T24.setTop (mkF m 36 #[.val (.ref a1), .val (.ref am), .val (.int p1), .val (.int p2), .val (.int p3), .unset, .unset] [(.int (Pg + (1 : Int32))), (.int (0 : Int32)), (.ref am)]))
      obtain ⟨T28, h28, X28, e28, W28, A28, st28⟩ := own_stI X24 hx hZ (rfl : T24.heap = T24.heap) f27 (j := (0 : Int32)) (i := 0) ⟨by decide, rfl, by decide⟩ (g := (mkF m 36 #[.val (.ref a1), .val (.ref am), .val (.int p1), .val (.int p2), .val (.int p3), .unset, .unset] [(.int (Pg + (1 : Int32))), (.int (0 : Int32)), (.ref am)])) rfl rfl (hb hby d4_36)
      refine own_by (fun t kk_ => st28 _ kk_) ?_
      have f29 := Exa.wr W28 x24
      have f30 := Keep.wr f26 W28 (Or.inl (by simp))
      have f32 := Fld.other W28 fp24 (Or.inl nam)
      have f33 := Fld.other W28 fc24 (Or.inl nam)
      have N28 := Fr.snoc X28 N24 g2
      have sz28 : n0 ≤ h28.size := by rw [W28.size]; exact sz24
      show OwnG p e below s _ _ _ (T28.setTop (mkF m 37 #[.val (.ref a1), .val (.ref am), .val (.int p1), .val (.int p2), .val (.int p3), .unset, .unset] []))
      refine own_by (fun t kk_ => XS.iconst X28.here hx rfl (hb hby d4_37) kk_) ?_
      show OwnG p e below s _ _ _ (T28.setTop (mkF m 38 #[.val (.ref a1), .val (.ref am), .val (.int p1), .val (.int p2), .val (.int p3), .unset, .unset] [(.int (1 : Int32))]))
      exact own_outN X28 hx hret (by simp) hlk (hb hby d4_38) rfl (by show _ ∧ _; rw [e28]; exact ⟨rfl, N28, f30, f29, _, _, M, _, own_grow hi hB, f32, f33, A28, by simp [ownSet], by simp [ownSet, hm1]⟩) (by decide) (by decide)
    · refine own_by (fun t kk_ => XS.ifNo X0.here hx rfl (hb hby d4_18) rfl ((if0 _ _).trans (feq hb18_23).1) kk_) ?_
      show OwnG p e below s _ _ _ (s₁.setTop (mkF m 21 #[.val (.ref a1), .val (.ref am), .val (.int p1), .val (.int p2), .val (.int p3), .unset, .unset] [(.int Pg), (.ref a1)]))
      refine own_by (fun t kk_ => XS.iconst X0.here hx rfl (hb hby d4_21) kk_) ?_
      show OwnG p e below s _ _ _ (s₁.setTop (mkF m 22 #[.val (.ref a1), .val (.ref am), .val (.int p1), .val (.int p2), .val (.int p3), .unset, .unset] [(.int (1 : Int32)), (.int Pg), (.ref a1)]))
      refine own_by (fun t kk_ => XS.goto X0.here hx rfl (pc0 := 22) (pc' := 26) rfl (hb hby d4_22) (by decide) (by decide) kk_) ?_
      show OwnG p e below s _ _ _ (s₁.setTop (mkF m 26 #[.val (.ref a1), .val (.ref am), .val (.int p1), .val (.int p2), .val (.int p3), .unset, .unset] [(.int (1 : Int32)), (.int Pg), (.ref a1)]))
      obtain ⟨cq34, kq34, q34a, q34b, q34c⟩ := isOf hZ e0 EX
      obtain ⟨_, _, ⟨T34, L34, k34, n34⟩, -, X34, ⟨Lc34, hQ34, l34, y34, z34⟩, st34⟩ := X0.virtualBack hx (y := (⟨"com/example/score_on_crawl/scoreoncrawl/engine/CycleSequence", "added", "(IZ)V"⟩ : MethodName)) (z := (⟨"com/example/score_on_crawl/scoreoncrawl/engine/CycleSequence", "added", "(IZ)V"⟩ : MethodName)) hown (mvT hZ (hw _ (List.mem_of_getElem? (i := 10) rfl))) (mvT hZ (hw _ (List.mem_of_getElem? (i := 11) rfl))) (notFace_of_selects (args := #[]) (mvT hZ (hw _ (List.mem_of_getElem? (i := 13) rfl)))) (mvT hZ (hw _ (List.mem_of_getElem? (i := 13) rfl))) (mvT hZ (hw _ (List.mem_of_getElem? (i := 12) rfl))) (by decide) (backOf (W := 0) (rm3 l Z a0 hw [] a1 Pg (1 : Int32) Pg Cu h0 n0 Z0 EX FP0 FC0 g1) hZ (hw _ (List.mem_of_getElem? (i := 14) rfl)) (hw _ (List.mem_of_getElem? (i := 2) rfl)) (by decide) (by decide)) q34a q34c (g := (mkF m 26 #[.val (.ref a1), .val (.ref am), .val (.int p1), .val (.int p2), .val (.int p3), .unset, .unset] [(.int (1 : Int32)), (.int Pg), (.ref a1)])) rfl (by rw [hml]; rfl) (Steps.refl _) (argsL := [(.int Pg), (.int (1 : Int32))]) (rest := []) (lenOf pd_1 rfl) rfl (by show 2 * 0 + _ ≤ _; exact Nat.le_of_eq rfl) (hb hby d4_26) (fun _ _ => ⟨rfl, e0, (by decide : 0 + 0 ≤ _), (by decide : 0 + 0 ≤ _)⟩)
      dsimp only [Pt.U, Pt.locs, Pt.cells, Pt.slots] at X34 l34 y34 z34 st34 hQ34
      subst l34 y34 z34
      refine own_by (fun t kk_ => st34.trans kk_) ?_
      obtain ⟨rfl, N34q, K34, x34, fp34, fc34⟩ := hQ34
      have N34 := Fr.app N0 N34q
      have sz34 : n0 ≤ T34.heap.size := Nat.le_trans Z0 K34.1
      have f35 := Exa.keep EX K34
      have f36 := Keep.trans (Keep.refl h0 [a1, am]) K34 (allS (Or.inl (by simp)) all0)
      have f37 := OwnA.keep Am K34 (ninS (Ne.symm nam) nin0)
      show OwnG p e below s _ _ _ (T34.setTop (mkF m 29 #[.val (.ref a1), .val (.ref am), .val (.int p1), .val (.int p2), .val (.int p3), .unset, .unset] []))
      refine own_by (fun t kk_ => XS.aloadN X34.here hx rfl (hb hby d4_29) rfl rfl kk_) ?_
      show OwnG p e below s _ _ _ (T34.setTop (mkF m 30 #[.val (.ref a1), .val (.ref am), .val (.int p1), .val (.int p2), .val (.int p3), .unset, .unset] [(.ref am)]))
      refine own_by (fun t kk_ => XS.iconst X34.here hx rfl (hb hby d4_30) kk_) ?_
      show OwnG p e below s _ _ _ (T34.setTop (mkF m 31 #[.val (.ref a1), .val (.ref am), .val (.int p1), .val (.int p2), .val (.int p3), .unset, .unset] [(.int (0 : Int32)), (.ref am)]))
      refine own_by (fun t kk_ => XS.aloadN X34.here hx rfl (hb hby d4_31) rfl rfl kk_) ?_
      show OwnG p e below s _ _ _ (T34.setTop (mkF m 32 #[.val (.ref a1), .val (.ref am), .val (.int p1), .val (.int p2), .val (.int p3), .unset, .unset] [(.ref am), (.int (0 : Int32)), (.ref am)]))
      refine own_by (fun t kk_ => XS.iconst X34.here hx rfl (hb hby d4_32) kk_) ?_
      show OwnG p e below s _ _ _ (T34.setTop (mkF m 33 #[.val (.ref a1), .val (.ref am), .val (.int p1), .val (.int p2), .val (.int p3), .unset, .unset] [(.int (0 : Int32)), (.ref am), (.int (0 : Int32)), (.ref am)]))
      refine own_by (fun t kk_ => own_ldI X34 hx hZ (rfl : T34.heap = T34.heap) f37 (j := (0 : Int32)) (i := 0) ⟨by decide, rfl, by decide⟩ (v := (.int Pg)) hm0 (g := (mkF m 33 #[.val (.ref a1), .val (.ref am), .val (.int p1), .val (.int p2), .val (.int p3), .unset, .unset] [(.int (0 : Int32)), (.ref am), (.int (0 : Int32)), (.ref am)])) rfl rfl (hb hby d4_33) _ kk_) ?_
      show OwnG p e below s _ _ _ (T34.setTop (mkF m 34 #[.val (.ref a1), .val (.ref am), .val (.int p1), .val (.int p2), .val (.int p3), .unset, .unset] [(.int Pg), (.int (0 : Int32)), (.ref am)]))
      refine own_by (fun t kk_ => XS.iconst X34.here hx rfl (hb hby d4_34) kk_) ?_
      show OwnG p e below s _ _ _ (T34.setTop (mkF m 35 #[.val (.ref a1), .val (.ref am), .val (.int p1), .val (.int p2), .val (.int p3), .unset, .unset] [(.int (1 : Int32)), (.int Pg), (.int (0 : Int32)), (.ref am)]))
      refine own_by (fun t kk_ => XS.iadd X34.here hx rfl (hb hby d4_35) rfl kk_) ?_
      show OwnG p e below s _ _ _ (T34.setTop (mkF m 36 #[.val (.ref a1), .val (.ref am), .val (.int p1), .val (.int p2), .val (.int p3), .unset, .unset] [(.int (Pg + (1 : Int32))), (.int (0 : Int32)), (.ref am)]))
      obtain ⟨T38, h38, X38, e38, W38, A38, st38⟩ := own_stI X34 hx hZ (rfl : T34.heap = T34.heap) f37 (j := (0 : Int32)) (i := 0) ⟨by decide, rfl, by decide⟩ (g := (mkF m 36 #[.val (.ref a1), .val (.ref am), .val (.int p1), .val (.int p2), .val (.int p3), .unset, .unset] [(.int (Pg + (1 : Int32))), (.int (0 : Int32)), (.ref am)])) rfl rfl (hb hby d4_36)
      refine own_by (fun t kk_ => st38 _ kk_) ?_
      have f39 := Exa.wr W38 x34
      have f40 := Keep.wr f36 W38 (Or.inl (by simp))
      have f42 := Fld.other W38 fp34 (Or.inl nam)
      have f43 := Fld.other W38 fc34 (Or.inl nam)
      have N38 := Fr.snoc X38 N34 g2
      have sz38 : n0 ≤ h38.size := by rw [W38.size]; exact sz34
      show OwnG p e below s _ _ _ (T38.setTop (mkF m 37 #[.val (.ref a1), .val (.ref am), .val (.int p1), .val (.int p2), .val (.int p3), .unset, .unset] []))
      refine own_by (fun t kk_ => XS.iconst X38.here hx rfl (hb hby d4_37) kk_) ?_
      show OwnG p e below s _ _ _ (T38.setTop (mkF m 38 #[.val (.ref a1), .val (.ref am), .val (.int p1), .val (.int p2), .val (.int p3), .unset, .unset] [(.int (1 : Int32))]))
      exact own_outN X38 hx hret (by simp) hlk (hb hby d4_38) rfl (by show _ ∧ _; rw [e38]; exact ⟨rfl, N38, f40, f39, _, _, M, _, own_grow hi hB, f42, f43, A38, by simp [ownSet], by simp [ownSet, hm1]⟩) (by decide) (by decide)
theorem pd_3 : parseMethodDescriptor "(Lcom/example/score_on_crawl/scoreoncrawl/engine/CycleSequence;[IIII)Z" = some ⟨[(.object "com/example/score_on_crawl/scoreoncrawl/engine/CycleSequence"), (.array .int), .int, .int, .int], some .boolean⟩ := by decide +kernel
theorem ef_0 (m : MethodId) (x0 : Int32) (x1 : Int32) : entryFrame m #[(.int x0), (.int x1)] maxLocals = mkF m 0 #[.val (.int x0), .val (.int x1), .unset, .unset, .unset] [] := by first | (simp [entryFrame, mkF, argsToLocals, Value.category, maxLocals]; done) | rfl
def Q0 (Z : State) (p1 p2 : Int32) (h0 : Heap) (n0 : Nat) (v : Option Value) (h : Heap) (L : List Loc) : Prop := v = some (.int (1 : Int32)) ∧ Fr n0 L
set_option maxRecDepth 65536 in
set_option maxHeartbeats 40000000 in
theorem rm0 (l : Launch) (Z : State) (a0 : Array Value) (hw : ∀ d ∈ tables_1, d.before a0 Z = true) (ws : List Jvm.Cond) (p1 p2 : Int32) (h0 : Heap) (n0 : Nat) (Z0 : n0 ≤ h0.size) :
    MetFree l x (head1 (Jvm.Cond.code x code maxLocals ret :: ws) room_1) (fun a U => a = #[(.int p1), (.int p2)] ∧ Z.Warmed39 U.vm ∧ U.heap = h0) (fun _ _ _ _ _ => True) (fun _ U o U' => ∃ v L, o = .returned v ∧ Q0 Z p1 p2 h0 n0 v U'.heap L ∧ FrameEnd U o U' L room_1.cells room_1.slots) := by
  refine own_met (Q := fun v h L => Q0 Z p1 p2 h0 n0 v h L) (plainFor_of_name pn_1) ?_
  intro p e s m below meth c s₁ hx hby hml hret hlk hown hnm hZ X0 e0
  have N0 := Fr.nil n0
  rw [ef_0 m p1 p2]
  show OwnG p e below s _ _ _ (s₁.setTop (mkF m 0 #[.val (.int p1), .val (.int p2), .unset, .unset, .unset] []))
  obtain ⟨T1, h1, X1, e1, E1, A1, D1, -, st1⟩ := newO X0 hx hZ hown (hw _ (List.mem_of_getElem? (i := 0) rfl)) (hw _ (List.mem_of_getElem? (i := 1) rfl)) (hw _ (List.mem_of_getElem? (i := 2) rfl)) e0 (g := (mkF m 0 #[.val (.int p1), .val (.int p2), .unset, .unset, .unset] [])) rfl (hb hby at_0) (by decide) (by decide)
  obtain ⟨ob, g1⟩ : ∃ z, z = h0.size := ⟨_, rfl⟩
  rw [← g1] at A1 D1 st1
  have gg_ob : n0 ≤ ob := by rw [g1]; exact Z0
  have sz1 : n0 ≤ h1.size := Nat.le_trans Z0 E1.1
  refine own_by (fun t kk_ => st1 _ kk_) ?_
  have f2 : Fld Z h1 ob "com/example/score_on_crawl/scoreoncrawl/engine/CycleSequence" "pages" "I" (.int (0 : Int32)) := D1 (Or.inl (hw _ (List.mem_of_getElem? (i := 16) rfl))) (ty := .int) (by decide)
  have f3 : Fld Z h1 ob "com/example/score_on_crawl/scoreoncrawl/engine/CycleSequence" "cursor" "I" (.int (0 : Int32)) := D1 (Or.inl (hw _ (List.mem_of_getElem? (i := 27) rfl))) (ty := .int) (by decide)
  show OwnG p e below s _ _ _ (T1.setTop (mkF m 3 #[.val (.int p1), .val (.int p2), .unset, .unset, .unset] [(.ref ob)]))
  refine own_by (fun t kk_ => XS.dup X1.here hx rfl (hb hby at_3) rfl rfl kk_) ?_
  show OwnG p e below s _ _ _ (T1.setTop (mkF m 4 #[.val (.int p1), .val (.int p2), .unset, .unset, .unset] [(.ref ob), (.ref ob)]))
  obtain ⟨_, _, ⟨T4, L4, k4, n4⟩, -, X4, ⟨Lc4, hQ4, l4, y4, z4⟩, st4⟩ := X1.specialBack hx (y := (⟨"com/example/score_on_crawl/scoreoncrawl/engine/CycleSequence", "<init>", "()V"⟩ : MethodName)) rfl hown (mvT hZ (hw _ (List.mem_of_getElem? (i := 3) rfl))) (mvT hZ (hw _ (List.mem_of_getElem? (i := 4) rfl))) (mvT hZ (hw _ (List.mem_of_getElem? (i := 5) rfl))) (by decide) (backOf (W := 1) (rm1 l Z a0 hw [] ob h1 n0 sz1) hZ (hw _ (List.mem_of_getElem? (i := 5) rfl)) (hw _ (List.mem_of_getElem? (i := 2) rfl)) (by decide) (by decide)) (g := (mkF m 4 #[.val (.int p1), .val (.int p2), .unset, .unset, .unset] [(.ref ob), (.ref ob)])) rfl (by rw [hml]; rfl) (Steps.refl _) (a := ob) (argsL := []) (rest := [(.ref ob)]) (lenOf pd_0 rfl) rfl (by show 2 * 0 + _ ≤ _; exact Nat.le_of_eq rfl) (hb hby at_4) (fun _ _ => ⟨rfl, e1, (by decide : 0 + 1 + 0 ≤ _), (by decide : 0 + 2 + 0 ≤ _)⟩)
  dsimp only [Pt.U, Pt.locs, Pt.cells, Pt.slots] at X4 l4 y4 z4 st4 hQ4
  subst l4 y4 z4
  refine own_by (fun t kk_ => st4.trans kk_) ?_
  obtain ⟨rfl, N4q, hh4⟩ := hQ4
  have N4 := Fr.app N0 N4q
  have f5 := A1
  rw [← hh4] at f5
  have f6 := f2
  rw [← hh4] at f6
  have f7 := f3
  rw [← hh4] at f7
  have sz4 : n0 ≤ T4.heap.size := by rw [hh4]; exact sz1
  show OwnG p e below s _ _ _ (T4.setTop (mkF m 7 #[.val (.int p1), .val (.int p2), .unset, .unset, .unset] [(.ref ob)]))
  refine own_by (fun t kk_ => XS.astoreN X4.here hx rfl (hb hby at_7) rfl rfl (l' := #[.val (.int p1), .val (.int p2), .val (.ref ob), .unset, .unset]) rfl kk_) ?_
  show OwnG p e below s _ _ _ (T4.setTop (mkF m 8 #[.val (.int p1), .val (.int p2), .val (.ref ob), .unset, .unset] []))
  refine own_by (fun t kk_ => XS.iconst X4.here hx rfl (hb hby at_8) kk_) ?_
  show OwnG p e below s _ _ _ (T4.setTop (mkF m 9 #[.val (.int p1), .val (.int p2), .val (.ref ob), .unset, .unset] [(.int (2 : Int32))]))
  obtain ⟨T8, h8, k8, X8, e8, E8, A8, st8⟩ := newP X4 hx hZ (hw _ (List.mem_of_getElem? (i := 9) rfl)) (rfl : T4.heap = T4.heap) (g := (mkF m 9 #[.val (.int p1), .val (.int p2), .val (.ref ob), .unset, .unset] [(.int (2 : Int32))])) rfl (hb hby at_9) rfl (by decide) (cap := 2) (by decide) (by decide) (by decide) (by decide)
  obtain ⟨ar, g8⟩ : ∃ z, z = T4.heap.size := ⟨_, rfl⟩
  rw [← g8] at A8 st8
  have ne9 : ob ≠ ar := fun q => absurd f5.lt (by rw [q, g8]; exact Nat.lt_irrefl _)
  have gg_ar : n0 ≤ ar := by rw [g8]; exact sz4
  have sz8 : n0 ≤ h8.size := Nat.le_trans sz4 E8.1
  refine own_by (fun t kk_ => st8 _ kk_) ?_
  have f10 := Exa.ext E8 f5
  have f11 := Fld.ext E8 f6
  have f12 := Fld.ext E8 f7
  have f13 : OwnA Z h8 ar .int 2 (fun _ => (defaultValue .int)) := OwnA.new A8 (n := 2) (by decide) rfl
  show OwnG p e below s _ _ _ (T8.setTop (mkF m 11 #[.val (.int p1), .val (.int p2), .val (.ref ob), .unset, .unset] [(.ref ar)]))
  refine own_by (fun t kk_ => XS.astoreN X8.here hx rfl (hb hby at_11) rfl rfl (l' := #[.val (.int p1), .val (.int p2), .val (.ref ob), .val (.ref ar), .unset]) rfl kk_) ?_
  show OwnG p e below s _ _ _ (T8.setTop (mkF m 12 #[.val (.int p1), .val (.int p2), .val (.ref ob), .val (.ref ar), .unset] []))
  refine own_by (fun t kk_ => XS.aloadN X8.here hx rfl (hb hby at_12) rfl rfl kk_) ?_
  show OwnG p e below s _ _ _ (T8.setTop (mkF m 13 #[.val (.int p1), .val (.int p2), .val (.ref ob), .val (.ref ar), .unset] [(.ref ar)]))
  refine own_by (fun t kk_ => XS.iconst X8.here hx rfl (hb hby at_13) kk_) ?_
  show OwnG p e below s _ _ _ (T8.setTop (mkF m 14 #[.val (.int p1), .val (.int p2), .val (.ref ob), .val (.ref ar), .unset] [(.int (0 : Int32)), (.ref ar)]))
  refine own_by (fun t kk_ => XS.iconst X8.here hx rfl (hb hby at_14) kk_) ?_
  show OwnG p e below s _ _ _ (T8.setTop (mkF m 15 #[.val (.int p1), .val (.int p2), .val (.ref ob), .val (.ref ar), .unset] [(.int (1 : Int32)), (.int (0 : Int32)), (.ref ar)]))
  obtain ⟨T14, h14, X14, e14, W14, A14, st14⟩ := own_stI X8 hx hZ e8 f13 (j := (0 : Int32)) (i := 0) ⟨by decide, rfl, by decide⟩ (g := (mkF m 15 #[.val (.int p1), .val (.int p2), .val (.ref ob), .val (.ref ar), .unset] [(.int (1 : Int32)), (.int (0 : Int32)), (.ref ar)])) rfl rfl (hb hby at_15)
  refine own_by (fun t kk_ => st14 _ kk_) ?_
  have f15 := Exa.wr W14 f10
  have f16 := Fld.other W14 f11 (Or.inl ne9)
  have f17 := Fld.other W14 f12 (Or.inl ne9)
  have N14 := Fr.snoc X14 N4 gg_ar
  have sz14 : n0 ≤ h14.size := by rw [W14.size]; exact sz8
  show OwnG p e below s _ _ _ (T14.setTop (mkF m 16 #[.val (.int p1), .val (.int p2), .val (.ref ob), .val (.ref ar), .unset] []))
  refine own_by (fun t kk_ => XS.aloadN X14.here hx rfl (hb hby at_16) rfl rfl kk_) ?_
  show OwnG p e below s _ _ _ (T14.setTop (mkF m 17 #[.val (.int p1), .val (.int p2), .val (.ref ob), .val (.ref ar), .unset] [(.ref ar)]))
  refine own_by (fun t kk_ => XS.iconst X14.here hx rfl (hb hby at_17) kk_) ?_
  show OwnG p e below s _ _ _ (T14.setTop (mkF m 18 #[.val (.int p1), .val (.int p2), .val (.ref ob), .val (.ref ar), .unset] [(.int (1 : Int32)), (.ref ar)]))
  refine own_by (fun t kk_ => XS.iconst X14.here hx rfl (hb hby at_18) kk_) ?_
  show OwnG p e below s _ _ _ (T14.setTop (mkF m 19 #[.val (.int p1), .val (.int p2), .val (.ref ob), .val (.ref ar), .unset] [(.int (-1 : Int32)), (.int (1 : Int32)), (.ref ar)]))
  obtain ⟨T19, h19, X19, e19, W19, A19, st19⟩ := own_stI X14 hx hZ e14 A14 (j := (1 : Int32)) (i := 1) ⟨by decide, rfl, by decide⟩ (g := (mkF m 19 #[.val (.int p1), .val (.int p2), .val (.ref ob), .val (.ref ar), .unset] [(.int (-1 : Int32)), (.int (1 : Int32)), (.ref ar)])) rfl rfl (hb hby at_19)
  refine own_by (fun t kk_ => st19 _ kk_) ?_
  have f20 := Exa.wr W19 f15
  have f21 := Fld.other W19 f16 (Or.inl ne9)
  have f22 := Fld.other W19 f17 (Or.inl ne9)
  have N19 := Fr.snoc X19 N14 gg_ar
  have sz19 : n0 ≤ h19.size := by rw [W19.size]; exact sz14
  show OwnG p e below s _ _ _ (T19.setTop (mkF m 20 #[.val (.int p1), .val (.int p2), .val (.ref ob), .val (.ref ar), .unset] []))
  refine own_by (fun t kk_ => XS.aloadN X19.here hx rfl (hb hby at_20) rfl rfl kk_) ?_
  show OwnG p e below s _ _ _ (T19.setTop (mkF m 21 #[.val (.int p1), .val (.int p2), .val (.ref ob), .val (.ref ar), .unset] [(.ref ob)]))
  refine own_by (fun t kk_ => XS.iconst X19.here hx rfl (hb hby at_21) kk_) ?_
  show OwnG p e below s _ _ _ (T19.setTop (mkF m 22 #[.val (.int p1), .val (.int p2), .val (.ref ob), .val (.ref ar), .unset] [(.int (0 : Int32)), (.ref ob)]))
  refine own_by (fun t kk_ => XS.iloadN X19.here hx rfl (hb hby at_22) rfl  kk_) ?_
  show OwnG p e below s _ _ _ (T19.setTop (mkF m 23 #[.val (.int p1), .val (.int p2), .val (.ref ob), .val (.ref ar), .unset] [(.int p2), (.int (0 : Int32)), (.ref ob)]))
  refine own_by (fun t kk_ => XS.bipush X19.here hx rfl (hb hby at_23) kk_) ?_
  show OwnG p e below s _ _ _ (T19.setTop (mkF m 25 #[.val (.int p1), .val (.int p2), .val (.ref ob), .val (.ref ar), .unset] [(.int (31 : Int32)), (.int p2), (.int (0 : Int32)), (.ref ob)]))
  refine own_by (fun t kk_ => XS.iushr X19.here hx rfl (hb hby at_25) rfl kk_) ?_
  show OwnG p e below s _ _ _ (T19.setTop (mkF m 26 #[.val (.int p1), .val (.int p2), .val (.ref ob), .val (.ref ar), .unset] [(.int ((p2.toUInt32 >>> ((31 : Int32) &&& 31).toUInt32).toInt32)), (.int (0 : Int32)), (.ref ob)]))
  refine own_by (fun t kk_ => XS.iconst X19.here hx rfl (hb hby at_26) kk_) ?_
  show OwnG p e below s _ _ _ (T19.setTop (mkF m 27 #[.val (.int p1), .val (.int p2), .val (.ref ob), .val (.ref ar), .unset] [(.int (1 : Int32)), (.int ((p2.toUInt32 >>> ((31 : Int32) &&& 31).toUInt32).toInt32)), (.int (0 : Int32)), (.ref ob)]))
  refine own_by (fun t kk_ => XS.iand X19.here hx rfl (hb hby at_27) rfl kk_) ?_
  show OwnG p e below s _ _ _ (T19.setTop (mkF m 28 #[.val (.int p1), .val (.int p2), .val (.ref ob), .val (.ref ar), .unset] [(.int (((p2.toUInt32 >>> ((31 : Int32) &&& 31).toUInt32).toInt32) &&& (1 : Int32))), (.int (0 : Int32)), (.ref ob)]))
  by_cases hb28_24 : (((p2.toUInt32 >>> ((31 : Int32) &&& 31).toUInt32).toInt32) &&& (1 : Int32)) = (0 : Int32)
  · refine own_by (fun t kk_ => XS.ifYes X19.here hx rfl (pc0 := 28) (pc' := 35) rfl (hb hby at_28) rfl ((if0 _ _).trans (teq hb28_24).1) (by decide) (by decide) kk_) ?_
    show OwnG p e below s _ _ _ (T19.setTop (mkF m 35 #[.val (.int p1), .val (.int p2), .val (.ref ob), .val (.ref ar), .unset] [(.int (0 : Int32)), (.ref ob)]))
    refine own_by (fun t kk_ => XS.iconst X19.here hx rfl (hb hby at_35) kk_) ?_
    show OwnG p e below s _ _ _ (T19.setTop (mkF m 36 #[.val (.int p1), .val (.int p2), .val (.ref ob), .val (.ref ar), .unset] [(.int (0 : Int32)), (.int (0 : Int32)), (.ref ob)]))
    obtain ⟨cq25, kq25, q25a, q25b, q25c⟩ := isOf hZ e19 f20
    obtain ⟨_, _, ⟨T25, L25, k25, n25⟩, -, X25, ⟨Lc25, hQ25, l25, y25, z25⟩, st25⟩ := X19.virtualBack hx (y := (⟨"com/example/score_on_crawl/scoreoncrawl/engine/CycleSequence", "added", "(IZ)V"⟩ : MethodName)) (z := (⟨"com/example/score_on_crawl/scoreoncrawl/engine/CycleSequence", "added", "(IZ)V"⟩ : MethodName)) hown (mvT hZ (hw _ (List.mem_of_getElem? (i := 10) rfl))) (mvT hZ (hw _ (List.mem_of_getElem? (i := 11) rfl))) (notFace_of_selects (args := #[]) (mvT hZ (hw _ (List.mem_of_getElem? (i := 13) rfl)))) (mvT hZ (hw _ (List.mem_of_getElem? (i := 13) rfl))) (mvT hZ (hw _ (List.mem_of_getElem? (i := 12) rfl))) (by decide) (backOf (W := 0) (rm3 l Z a0 hw [] ob (0 : Int32) (0 : Int32) (0 : Int32) (0 : Int32) h19 n0 sz19 f20 f21 f22 gg_ob) hZ (hw _ (List.mem_of_getElem? (i := 14) rfl)) (hw _ (List.mem_of_getElem? (i := 2) rfl)) (by decide) (by decide)) q25a q25c (g := (mkF m 36 #[.val (.int p1), .val (.int p2), .val (.ref ob), .val (.ref ar), .unset] [(.int (0 : Int32)), (.int (0 : Int32)), (.ref ob)])) rfl (by rw [hml]; rfl) (Steps.refl _) (argsL := [(.int (0 : Int32)), (.int (0 : Int32))]) (rest := []) (lenOf pd_1 rfl) rfl (by show 2 * 0 + _ ≤ _; exact Nat.le_of_eq rfl) (hb hby at_36) (fun _ _ => ⟨rfl, e19, (by decide : 0 + 1 + 1 + 0 ≤ _), (by decide : 0 + 2 + 2 + 0 ≤ _)⟩)
    dsimp only [Pt.U, Pt.locs, Pt.cells, Pt.slots] at X25 l25 y25 z25 st25 hQ25
    subst l25 y25 z25
    refine own_by (fun t kk_ => st25.trans kk_) ?_
    obtain ⟨rfl, N25q, K25, x25, fp25, fc25⟩ := hQ25
    have N25 := Fr.app N19 N25q
    have sz25 : n0 ≤ T25.heap.size := Nat.le_trans sz19 K25.1
    have f26 := Exa.keep f20 K25
    have f27 := OwnA.keep A19 K25 (ninS (Ne.symm ne9) nin0)
    have fpz : Fld Z T25.heap ob "com/example/score_on_crawl/scoreoncrawl/engine/CycleSequence" "pages" "I" (.int (1 : Int32)) := fp25
    show OwnG p e below s _ _ _ (T25.setTop (mkF m 39 #[.val (.int p1), .val (.int p2), .val (.ref ob), .val (.ref ar), .unset] []))
    refine own_by (fun t kk_ => XS.iconst X25.here hx rfl (hb hby at_39) kk_) ?_
    show OwnG p e below s _ _ _ (T25.setTop (mkF m 40 #[.val (.int p1), .val (.int p2), .val (.ref ob), .val (.ref ar), .unset] [(.int (1 : Int32))]))
    refine own_by (fun t kk_ => XS.istore X25.here hx rfl (hb hby at_40) rfl (l' := #[.val (.int p1), .val (.int p2), .val (.ref ob), .val (.ref ar), .val (.int (1 : Int32))]) rfl kk_) ?_
    show OwnG p e below s _ _ _ (T25.setTop (mkF m 42 #[.val (.int p1), .val (.int p2), .val (.ref ob), .val (.ref ar), .val (.int (1 : Int32))] []))
    refine own_by (fun t kk_ => XS.iload X25.here hx rfl (hb hby at_42) rfl  kk_) ?_
    show OwnG p e below s _ _ _ (T25.setTop (mkF m 44 #[.val (.int p1), .val (.int p2), .val (.ref ob), .val (.ref ar), .val (.int (1 : Int32))] [(.int (1 : Int32))]))
    refine own_by (fun t kk_ => XS.aloadN X25.here hx rfl (hb hby at_44) rfl rfl kk_) ?_
    show OwnG p e below s _ _ _ (T25.setTop (mkF m 45 #[.val (.int p1), .val (.int p2), .val (.ref ob), .val (.ref ar), .val (.int (1 : Int32))] [(.ref ob), (.int (1 : Int32))]))
    refine own_by (fun t kk_ => XS.aloadN X25.here hx rfl (hb hby at_45) rfl rfl kk_) ?_
    show OwnG p e below s _ _ _ (T25.setTop (mkF m 46 #[.val (.int p1), .val (.int p2), .val (.ref ob), .val (.ref ar), .val (.int (1 : Int32))] [(.ref ar), (.ref ob), (.int (1 : Int32))]))
    refine own_by (fun t kk_ => XS.iloadN X25.here hx rfl (hb hby at_46) rfl  kk_) ?_
    show OwnG p e below s _ _ _ (T25.setTop (mkF m 47 #[.val (.int p1), .val (.int p2), .val (.ref ob), .val (.ref ar), .val (.int (1 : Int32))] [(.int p1), (.ref ar), (.ref ob), (.int (1 : Int32))]))
    refine own_by (fun t kk_ => XS.iconst X25.here hx rfl (hb hby at_47) kk_) ?_
    show OwnG p e below s _ _ _ (T25.setTop (mkF m 48 #[.val (.int p1), .val (.int p2), .val (.ref ob), .val (.ref ar), .val (.int (1 : Int32))] [(.int (0 : Int32)), (.int p1), (.ref ar), (.ref ob), (.int (1 : Int32))]))
    refine own_by (fun t kk_ => XS.iloadN X25.here hx rfl (hb hby at_48) rfl  kk_) ?_
    show OwnG p e below s _ _ _ (T25.setTop (mkF m 49 #[.val (.int p1), .val (.int p2), .val (.ref ob), .val (.ref ar), .val (.int (1 : Int32))] [(.int p2), (.int (0 : Int32)), (.int p1), (.ref ar), (.ref ob), (.int (1 : Int32))]))
    obtain ⟨_, _, ⟨T28, L28, k28, n28⟩, -, X28, ⟨Lc28, hQ28, l28, y28, z28⟩, st28⟩ := Jvm.LawKit.callS X25 hx (y := (⟨"com/example/score_on_crawl/scoreoncrawl/engine/CycleSequenceNextPinLaw", "step", "(Lcom/example/score_on_crawl/scoreoncrawl/engine/CycleSequence;[IIII)Z"⟩ : MethodName)) hown (mvT hZ (hw _ (List.mem_of_getElem? (i := 17) rfl))) (mvT hZ (hw _ (List.mem_of_getElem? (i := 18) rfl))) (mvT hZ (hw _ (List.mem_of_getElem? (i := 19) rfl))) (mvT hZ (hw _ (List.mem_of_getElem? (i := 20) rfl))) (by decide) (backOf (W := 1) (rm4 l Z a0 hw [] ob ar p1 (0 : Int32) p2 (1 : Int32) (0 : Int32) (-1) (ownSet (ownSet (fun _ => (defaultValue .int)) 0 (.int (1 : Int32))) 1 (.int (-1 : Int32))) 1 T25.heap n0 sz25 x25 fpz fc25 gg_ob f27 rfl rfl ne9 gg_ar own_start  (by decide)) hZ (hw _ (List.mem_of_getElem? (i := 20) rfl)) (hw _ (List.mem_of_getElem? (i := 19) rfl)) (by decide) (by decide)) (g := (mkF m 49 #[.val (.int p1), .val (.int p2), .val (.ref ob), .val (.ref ar), .val (.int (1 : Int32))] [(.int p2), (.int (0 : Int32)), (.int p1), (.ref ar), (.ref ob), (.int (1 : Int32))])) rfl (by rw [hml]; rfl) (argsL := [(.ref ob), (.ref ar), (.int p1), (.int (0 : Int32)), (.int p2)]) (rest := [(.int (1 : Int32))]) (lenOf pd_3 rfl) rfl (by show 2 * 0 + _ ≤ _; exact Nat.le_of_eq rfl) (hb hby at_49) (fun _ _ => ⟨rfl, (rfl : T25.heap = T25.heap), (by decide : 0 + 1 + 1 + 0 ≤ _), (by decide : 0 + 2 + 2 + 0 ≤ _)⟩)
    dsimp only [Pt.U, Pt.locs, Pt.cells, Pt.slots] at X28 l28 y28 z28 st28 hQ28
    subst l28 y28 z28
    refine own_by (fun t kk_ => st28 _ kk_) ?_
    obtain ⟨rfl, N28q, K28, x28, Pg28, Cu28, M28, fm28, hi28, fp28, fc28, am28, hm028, hm128⟩ := hQ28
    have N28 := Fr.app N25 N28q
    have sz28 : n0 ≤ T28.heap.size := Nat.le_trans sz25 K28.1
    show OwnG p e below s _ _ _ (T28.setTop (mkF m 52 #[.val (.int p1), .val (.int p2), .val (.ref ob), .val (.ref ar), .val (.int (1 : Int32))] [(.int (1 : Int32)), (.int (1 : Int32))]))
    refine own_by (fun t kk_ => XS.iand X28.here hx rfl (hb hby at_52) rfl kk_) ?_
    show OwnG p e below s _ _ _ (T28.setTop (mkF m 53 #[.val (.int p1), .val (.int p2), .val (.ref ob), .val (.ref ar), .val (.int (1 : Int32))] [(.int ((1 : Int32) &&& (1 : Int32)))]))
    rw [own_11]
    show OwnG p e below s _ _ _ (T28.setTop (mkF m 53 #[.val (.int p1), .val (.int p2), .val (.ref ob), .val (.ref ar), .val (.int (1 : Int32))] [(.int (1 : Int32))]))
    refine own_by (fun t kk_ => XS.istore X28.here hx rfl (hb hby at_53) rfl (l' := #[.val (.int p1), .val (.int p2), .val (.ref ob), .val (.ref ar), .val (.int (1 : Int32))]) rfl kk_) ?_
    show OwnG p e below s _ _ _ (T28.setTop (mkF m 55 #[.val (.int p1), .val (.int p2), .val (.ref ob), .val (.ref ar), .val (.int (1 : Int32))] []))
    refine own_by (fun t kk_ => XS.iload X28.here hx rfl (hb hby at_55) rfl  kk_) ?_
    show OwnG p e below s _ _ _ (T28.setTop (mkF m 57 #[.val (.int p1), .val (.int p2), .val (.ref ob), .val (.ref ar), .val (.int (1 : Int32))] [(.int (1 : Int32))]))
    refine own_by (fun t kk_ => XS.aloadN X28.here hx rfl (hb hby at_57) rfl rfl kk_) ?_
    show OwnG p e below s _ _ _ (T28.setTop (mkF m 58 #[.val (.int p1), .val (.int p2), .val (.ref ob), .val (.ref ar), .val (.int (1 : Int32))] [(.ref ob), (.int (1 : Int32))]))
    refine own_by (fun t kk_ => XS.aloadN X28.here hx rfl (hb hby at_58) rfl rfl kk_) ?_
    show OwnG p e below s _ _ _ (T28.setTop (mkF m 59 #[.val (.int p1), .val (.int p2), .val (.ref ob), .val (.ref ar), .val (.int (1 : Int32))] [(.ref ar), (.ref ob), (.int (1 : Int32))]))
    refine own_by (fun t kk_ => XS.iloadN X28.here hx rfl (hb hby at_59) rfl  kk_) ?_
    show OwnG p e below s _ _ _ (T28.setTop (mkF m 60 #[.val (.int p1), .val (.int p2), .val (.ref ob), .val (.ref ar), .val (.int (1 : Int32))] [(.int p1), (.ref ar), (.ref ob), (.int (1 : Int32))]))
    refine own_by (fun t kk_ => XS.iconst X28.here hx rfl (hb hby at_60) kk_) ?_
    show OwnG p e below s _ _ _ (T28.setTop (mkF m 61 #[.val (.int p1), .val (.int p2), .val (.ref ob), .val (.ref ar), .val (.int (1 : Int32))] [(.int (1 : Int32)), (.int p1), (.ref ar), (.ref ob), (.int (1 : Int32))]))
    refine own_by (fun t kk_ => XS.iloadN X28.here hx rfl (hb hby at_61) rfl  kk_) ?_
    show OwnG p e below s _ _ _ (T28.setTop (mkF m 62 #[.val (.int p1), .val (.int p2), .val (.ref ob), .val (.ref ar), .val (.int (1 : Int32))] [(.int p2), (.int (1 : Int32)), (.int p1), (.ref ar), (.ref ob), (.int (1 : Int32))]))
    obtain ⟨_, _, ⟨T29, L29, k29, n29⟩, -, X29, ⟨Lc29, hQ29, l29, y29, z29⟩, st29⟩ := Jvm.LawKit.callS X28 hx (y := (⟨"com/example/score_on_crawl/scoreoncrawl/engine/CycleSequenceNextPinLaw", "step", "(Lcom/example/score_on_crawl/scoreoncrawl/engine/CycleSequence;[IIII)Z"⟩ : MethodName)) hown (mvT hZ (hw _ (List.mem_of_getElem? (i := 17) rfl))) (mvT hZ (hw _ (List.mem_of_getElem? (i := 18) rfl))) (mvT hZ (hw _ (List.mem_of_getElem? (i := 19) rfl))) (mvT hZ (hw _ (List.mem_of_getElem? (i := 20) rfl))) (by decide) (backOf (W := 1) (rm4 l Z a0 hw [] ob ar p1 (1 : Int32) p2 Pg28 Cu28 M28 fm28 2 T28.heap n0 sz28 x28 fp28 fc28 gg_ob am28 hm028 hm128 ne9 gg_ar hi28  (by decide)) hZ (hw _ (List.mem_of_getElem? (i := 20) rfl)) (hw _ (List.mem_of_getElem? (i := 19) rfl)) (by decide) (by decide)) (g := (mkF m 62 #[.val (.int p1), .val (.int p2), .val (.ref ob), .val (.ref ar), .val (.int (1 : Int32))] [(.int p2), (.int (1 : Int32)), (.int p1), (.ref ar), (.ref ob), (.int (1 : Int32))])) rfl (by rw [hml]; rfl) (argsL := [(.ref ob), (.ref ar), (.int p1), (.int (1 : Int32)), (.int p2)]) (rest := [(.int (1 : Int32))]) (lenOf pd_3 rfl) rfl (by show 2 * 0 + _ ≤ _; exact Nat.le_of_eq rfl) (hb hby at_62) (fun _ _ => ⟨rfl, (rfl : T28.heap = T28.heap), (by decide : 0 + 1 + 1 + 0 ≤ _), (by decide : 0 + 2 + 2 + 0 ≤ _)⟩)
    dsimp only [Pt.U, Pt.locs, Pt.cells, Pt.slots] at X29 l29 y29 z29 st29 hQ29
    subst l29 y29 z29
    refine own_by (fun t kk_ => st29 _ kk_) ?_
    obtain ⟨rfl, N29q, K29, x29, Pg29, Cu29, M29, fm29, hi29, fp29, fc29, am29, hm029, hm129⟩ := hQ29
    have N29 := Fr.app N28 N29q
    have sz29 : n0 ≤ T29.heap.size := Nat.le_trans sz28 K29.1
    show OwnG p e below s _ _ _ (T29.setTop (mkF m 65 #[.val (.int p1), .val (.int p2), .val (.ref ob), .val (.ref ar), .val (.int (1 : Int32))] [(.int (1 : Int32)), (.int (1 : Int32))]))
    refine own_by (fun t kk_ => XS.iand X29.here hx rfl (hb hby at_65) rfl kk_) ?_
    show OwnG p e below s _ _ _ (T29.setTop (mkF m 66 #[.val (.int p1), .val (.int p2), .val (.ref ob), .val (.ref ar), .val (.int (1 : Int32))] [(.int ((1 : Int32) &&& (1 : Int32)))]))
    rw [own_11]
    show OwnG p e below s _ _ _ (T29.setTop (mkF m 66 #[.val (.int p1), .val (.int p2), .val (.ref ob), .val (.ref ar), .val (.int (1 : Int32))] [(.int (1 : Int32))]))
    refine own_by (fun t kk_ => XS.istore X29.here hx rfl (hb hby at_66) rfl (l' := #[.val (.int p1), .val (.int p2), .val (.ref ob), .val (.ref ar), .val (.int (1 : Int32))]) rfl kk_) ?_
    show OwnG p e below s _ _ _ (T29.setTop (mkF m 68 #[.val (.int p1), .val (.int p2), .val (.ref ob), .val (.ref ar), .val (.int (1 : Int32))] []))
    refine own_by (fun t kk_ => XS.iload X29.here hx rfl (hb hby at_68) rfl  kk_) ?_
    show OwnG p e below s _ _ _ (T29.setTop (mkF m 70 #[.val (.int p1), .val (.int p2), .val (.ref ob), .val (.ref ar), .val (.int (1 : Int32))] [(.int (1 : Int32))]))
    refine own_by (fun t kk_ => XS.aloadN X29.here hx rfl (hb hby at_70) rfl rfl kk_) ?_
    show OwnG p e below s _ _ _ (T29.setTop (mkF m 71 #[.val (.int p1), .val (.int p2), .val (.ref ob), .val (.ref ar), .val (.int (1 : Int32))] [(.ref ob), (.int (1 : Int32))]))
    refine own_by (fun t kk_ => XS.aloadN X29.here hx rfl (hb hby at_71) rfl rfl kk_) ?_
    show OwnG p e below s _ _ _ (T29.setTop (mkF m 72 #[.val (.int p1), .val (.int p2), .val (.ref ob), .val (.ref ar), .val (.int (1 : Int32))] [(.ref ar), (.ref ob), (.int (1 : Int32))]))
    refine own_by (fun t kk_ => XS.iloadN X29.here hx rfl (hb hby at_72) rfl  kk_) ?_
    show OwnG p e below s _ _ _ (T29.setTop (mkF m 73 #[.val (.int p1), .val (.int p2), .val (.ref ob), .val (.ref ar), .val (.int (1 : Int32))] [(.int p1), (.ref ar), (.ref ob), (.int (1 : Int32))]))
    refine own_by (fun t kk_ => XS.iconst X29.here hx rfl (hb hby at_73) kk_) ?_
    show OwnG p e below s _ _ _ (T29.setTop (mkF m 74 #[.val (.int p1), .val (.int p2), .val (.ref ob), .val (.ref ar), .val (.int (1 : Int32))] [(.int (2 : Int32)), (.int p1), (.ref ar), (.ref ob), (.int (1 : Int32))]))
    refine own_by (fun t kk_ => XS.iloadN X29.here hx rfl (hb hby at_74) rfl  kk_) ?_
    show OwnG p e below s _ _ _ (T29.setTop (mkF m 75 #[.val (.int p1), .val (.int p2), .val (.ref ob), .val (.ref ar), .val (.int (1 : Int32))] [(.int p2), (.int (2 : Int32)), (.int p1), (.ref ar), (.ref ob), (.int (1 : Int32))]))
    obtain ⟨_, _, ⟨T30, L30, k30, n30⟩, -, X30, ⟨Lc30, hQ30, l30, y30, z30⟩, st30⟩ := Jvm.LawKit.callS X29 hx (y := (⟨"com/example/score_on_crawl/scoreoncrawl/engine/CycleSequenceNextPinLaw", "step", "(Lcom/example/score_on_crawl/scoreoncrawl/engine/CycleSequence;[IIII)Z"⟩ : MethodName)) hown (mvT hZ (hw _ (List.mem_of_getElem? (i := 17) rfl))) (mvT hZ (hw _ (List.mem_of_getElem? (i := 18) rfl))) (mvT hZ (hw _ (List.mem_of_getElem? (i := 19) rfl))) (mvT hZ (hw _ (List.mem_of_getElem? (i := 20) rfl))) (by decide) (backOf (W := 1) (rm4 l Z a0 hw [] ob ar p1 (2 : Int32) p2 Pg29 Cu29 M29 fm29 3 T29.heap n0 sz29 x29 fp29 fc29 gg_ob am29 hm029 hm129 ne9 gg_ar hi29  (by decide)) hZ (hw _ (List.mem_of_getElem? (i := 20) rfl)) (hw _ (List.mem_of_getElem? (i := 19) rfl)) (by decide) (by decide)) (g := (mkF m 75 #[.val (.int p1), .val (.int p2), .val (.ref ob), .val (.ref ar), .val (.int (1 : Int32))] [(.int p2), (.int (2 : Int32)), (.int p1), (.ref ar), (.ref ob), (.int (1 : Int32))])) rfl (by rw [hml]; rfl) (argsL := [(.ref ob), (.ref ar), (.int p1), (.int (2 : Int32)), (.int p2)]) (rest := [(.int (1 : Int32))]) (lenOf pd_3 rfl) rfl (by show 2 * 0 + _ ≤ _; exact Nat.le_of_eq rfl) (hb hby at_75) (fun _ _ => ⟨rfl, (rfl : T29.heap = T29.heap), (by decide : 0 + 1 + 1 + 0 ≤ _), (by decide : 0 + 2 + 2 + 0 ≤ _)⟩)
    dsimp only [Pt.U, Pt.locs, Pt.cells, Pt.slots] at X30 l30 y30 z30 st30 hQ30
    subst l30 y30 z30
    refine own_by (fun t kk_ => st30 _ kk_) ?_
    obtain ⟨rfl, N30q, K30, x30, Pg30, Cu30, M30, fm30, hi30, fp30, fc30, am30, hm030, hm130⟩ := hQ30
    have N30 := Fr.app N29 N30q
    have sz30 : n0 ≤ T30.heap.size := Nat.le_trans sz29 K30.1
    show OwnG p e below s _ _ _ (T30.setTop (mkF m 78 #[.val (.int p1), .val (.int p2), .val (.ref ob), .val (.ref ar), .val (.int (1 : Int32))] [(.int (1 : Int32)), (.int (1 : Int32))]))
    refine own_by (fun t kk_ => XS.iand X30.here hx rfl (hb hby at_78) rfl kk_) ?_
    show OwnG p e below s _ _ _ (T30.setTop (mkF m 79 #[.val (.int p1), .val (.int p2), .val (.ref ob), .val (.ref ar), .val (.int (1 : Int32))] [(.int ((1 : Int32) &&& (1 : Int32)))]))
    rw [own_11]
    show OwnG p e below s _ _ _ (T30.setTop (mkF m 79 #[.val (.int p1), .val (.int p2), .val (.ref ob), .val (.ref ar), .val (.int (1 : Int32))] [(.int (1 : Int32))]))
    refine own_by (fun t kk_ => XS.istore X30.here hx rfl (hb hby at_79) rfl (l' := #[.val (.int p1), .val (.int p2), .val (.ref ob), .val (.ref ar), .val (.int (1 : Int32))]) rfl kk_) ?_
    show OwnG p e below s _ _ _ (T30.setTop (mkF m 81 #[.val (.int p1), .val (.int p2), .val (.ref ob), .val (.ref ar), .val (.int (1 : Int32))] []))
    refine own_by (fun t kk_ => XS.iload X30.here hx rfl (hb hby at_81) rfl  kk_) ?_
    show OwnG p e below s _ _ _ (T30.setTop (mkF m 83 #[.val (.int p1), .val (.int p2), .val (.ref ob), .val (.ref ar), .val (.int (1 : Int32))] [(.int (1 : Int32))]))
    refine own_by (fun t kk_ => XS.aloadN X30.here hx rfl (hb hby at_83) rfl rfl kk_) ?_
    show OwnG p e below s _ _ _ (T30.setTop (mkF m 84 #[.val (.int p1), .val (.int p2), .val (.ref ob), .val (.ref ar), .val (.int (1 : Int32))] [(.ref ob), (.int (1 : Int32))]))
    refine own_by (fun t kk_ => XS.aloadN X30.here hx rfl (hb hby at_84) rfl rfl kk_) ?_
    show OwnG p e below s _ _ _ (T30.setTop (mkF m 85 #[.val (.int p1), .val (.int p2), .val (.ref ob), .val (.ref ar), .val (.int (1 : Int32))] [(.ref ar), (.ref ob), (.int (1 : Int32))]))
    refine own_by (fun t kk_ => XS.iloadN X30.here hx rfl (hb hby at_85) rfl  kk_) ?_
    show OwnG p e below s _ _ _ (T30.setTop (mkF m 86 #[.val (.int p1), .val (.int p2), .val (.ref ob), .val (.ref ar), .val (.int (1 : Int32))] [(.int p1), (.ref ar), (.ref ob), (.int (1 : Int32))]))
    refine own_by (fun t kk_ => XS.iconst X30.here hx rfl (hb hby at_86) kk_) ?_
    show OwnG p e below s _ _ _ (T30.setTop (mkF m 87 #[.val (.int p1), .val (.int p2), .val (.ref ob), .val (.ref ar), .val (.int (1 : Int32))] [(.int (3 : Int32)), (.int p1), (.ref ar), (.ref ob), (.int (1 : Int32))]))
    refine own_by (fun t kk_ => XS.iloadN X30.here hx rfl (hb hby at_87) rfl  kk_) ?_
    show OwnG p e below s _ _ _ (T30.setTop (mkF m 88 #[.val (.int p1), .val (.int p2), .val (.ref ob), .val (.ref ar), .val (.int (1 : Int32))] [(.int p2), (.int (3 : Int32)), (.int p1), (.ref ar), (.ref ob), (.int (1 : Int32))]))
    obtain ⟨_, _, ⟨T31, L31, k31, n31⟩, -, X31, ⟨Lc31, hQ31, l31, y31, z31⟩, st31⟩ := Jvm.LawKit.callS X30 hx (y := (⟨"com/example/score_on_crawl/scoreoncrawl/engine/CycleSequenceNextPinLaw", "step", "(Lcom/example/score_on_crawl/scoreoncrawl/engine/CycleSequence;[IIII)Z"⟩ : MethodName)) hown (mvT hZ (hw _ (List.mem_of_getElem? (i := 17) rfl))) (mvT hZ (hw _ (List.mem_of_getElem? (i := 18) rfl))) (mvT hZ (hw _ (List.mem_of_getElem? (i := 19) rfl))) (mvT hZ (hw _ (List.mem_of_getElem? (i := 20) rfl))) (by decide) (backOf (W := 1) (rm4 l Z a0 hw [] ob ar p1 (3 : Int32) p2 Pg30 Cu30 M30 fm30 4 T30.heap n0 sz30 x30 fp30 fc30 gg_ob am30 hm030 hm130 ne9 gg_ar hi30  (by decide)) hZ (hw _ (List.mem_of_getElem? (i := 20) rfl)) (hw _ (List.mem_of_getElem? (i := 19) rfl)) (by decide) (by decide)) (g := (mkF m 88 #[.val (.int p1), .val (.int p2), .val (.ref ob), .val (.ref ar), .val (.int (1 : Int32))] [(.int p2), (.int (3 : Int32)), (.int p1), (.ref ar), (.ref ob), (.int (1 : Int32))])) rfl (by rw [hml]; rfl) (argsL := [(.ref ob), (.ref ar), (.int p1), (.int (3 : Int32)), (.int p2)]) (rest := [(.int (1 : Int32))]) (lenOf pd_3 rfl) rfl (by show 2 * 0 + _ ≤ _; exact Nat.le_of_eq rfl) (hb hby at_88) (fun _ _ => ⟨rfl, (rfl : T30.heap = T30.heap), (by decide : 0 + 1 + 1 + 0 ≤ _), (by decide : 0 + 2 + 2 + 0 ≤ _)⟩)
    dsimp only [Pt.U, Pt.locs, Pt.cells, Pt.slots] at X31 l31 y31 z31 st31 hQ31
    subst l31 y31 z31
    refine own_by (fun t kk_ => st31 _ kk_) ?_
    obtain ⟨rfl, N31q, K31, x31, Pg31, Cu31, M31, fm31, hi31, fp31, fc31, am31, hm031, hm131⟩ := hQ31
    have N31 := Fr.app N30 N31q
    have sz31 : n0 ≤ T31.heap.size := Nat.le_trans sz30 K31.1
    show OwnG p e below s _ _ _ (T31.setTop (mkF m 91 #[.val (.int p1), .val (.int p2), .val (.ref ob), .val (.ref ar), .val (.int (1 : Int32))] [(.int (1 : Int32)), (.int (1 : Int32))]))
    refine own_by (fun t kk_ => XS.iand X31.here hx rfl (hb hby at_91) rfl kk_) ?_
    show OwnG p e below s _ _ _ (T31.setTop (mkF m 92 #[.val (.int p1), .val (.int p2), .val (.ref ob), .val (.ref ar), .val (.int (1 : Int32))] [(.int ((1 : Int32) &&& (1 : Int32)))]))
    rw [own_11]
    show OwnG p e below s _ _ _ (T31.setTop (mkF m 92 #[.val (.int p1), .val (.int p2), .val (.ref ob), .val (.ref ar), .val (.int (1 : Int32))] [(.int (1 : Int32))]))
    refine own_by (fun t kk_ => XS.istore X31.here hx rfl (hb hby at_92) rfl (l' := #[.val (.int p1), .val (.int p2), .val (.ref ob), .val (.ref ar), .val (.int (1 : Int32))]) rfl kk_) ?_
    show OwnG p e below s _ _ _ (T31.setTop (mkF m 94 #[.val (.int p1), .val (.int p2), .val (.ref ob), .val (.ref ar), .val (.int (1 : Int32))] []))
    refine own_by (fun t kk_ => XS.iload X31.here hx rfl (hb hby at_94) rfl  kk_) ?_
    show OwnG p e below s _ _ _ (T31.setTop (mkF m 96 #[.val (.int p1), .val (.int p2), .val (.ref ob), .val (.ref ar), .val (.int (1 : Int32))] [(.int (1 : Int32))]))
    refine own_by (fun t kk_ => XS.aloadN X31.here hx rfl (hb hby at_96) rfl rfl kk_) ?_
    show OwnG p e below s _ _ _ (T31.setTop (mkF m 97 #[.val (.int p1), .val (.int p2), .val (.ref ob), .val (.ref ar), .val (.int (1 : Int32))] [(.ref ob), (.int (1 : Int32))]))
    refine own_by (fun t kk_ => XS.aloadN X31.here hx rfl (hb hby at_97) rfl rfl kk_) ?_
    show OwnG p e below s _ _ _ (T31.setTop (mkF m 98 #[.val (.int p1), .val (.int p2), .val (.ref ob), .val (.ref ar), .val (.int (1 : Int32))] [(.ref ar), (.ref ob), (.int (1 : Int32))]))
    refine own_by (fun t kk_ => XS.iloadN X31.here hx rfl (hb hby at_98) rfl  kk_) ?_
    show OwnG p e below s _ _ _ (T31.setTop (mkF m 99 #[.val (.int p1), .val (.int p2), .val (.ref ob), .val (.ref ar), .val (.int (1 : Int32))] [(.int p1), (.ref ar), (.ref ob), (.int (1 : Int32))]))
    refine own_by (fun t kk_ => XS.iconst X31.here hx rfl (hb hby at_99) kk_) ?_
    show OwnG p e below s _ _ _ (T31.setTop (mkF m 100 #[.val (.int p1), .val (.int p2), .val (.ref ob), .val (.ref ar), .val (.int (1 : Int32))] [(.int (4 : Int32)), (.int p1), (.ref ar), (.ref ob), (.int (1 : Int32))]))
    refine own_by (fun t kk_ => XS.iloadN X31.here hx rfl (hb hby at_100) rfl  kk_) ?_
    show OwnG p e below s _ _ _ (T31.setTop (mkF m 101 #[.val (.int p1), .val (.int p2), .val (.ref ob), .val (.ref ar), .val (.int (1 : Int32))] [(.int p2), (.int (4 : Int32)), (.int p1), (.ref ar), (.ref ob), (.int (1 : Int32))]))
    obtain ⟨_, _, ⟨T32, L32, k32, n32⟩, -, X32, ⟨Lc32, hQ32, l32, y32, z32⟩, st32⟩ := Jvm.LawKit.callS X31 hx (y := (⟨"com/example/score_on_crawl/scoreoncrawl/engine/CycleSequenceNextPinLaw", "step", "(Lcom/example/score_on_crawl/scoreoncrawl/engine/CycleSequence;[IIII)Z"⟩ : MethodName)) hown (mvT hZ (hw _ (List.mem_of_getElem? (i := 17) rfl))) (mvT hZ (hw _ (List.mem_of_getElem? (i := 18) rfl))) (mvT hZ (hw _ (List.mem_of_getElem? (i := 19) rfl))) (mvT hZ (hw _ (List.mem_of_getElem? (i := 20) rfl))) (by decide) (backOf (W := 1) (rm4 l Z a0 hw [] ob ar p1 (4 : Int32) p2 Pg31 Cu31 M31 fm31 5 T31.heap n0 sz31 x31 fp31 fc31 gg_ob am31 hm031 hm131 ne9 gg_ar hi31  (by decide)) hZ (hw _ (List.mem_of_getElem? (i := 20) rfl)) (hw _ (List.mem_of_getElem? (i := 19) rfl)) (by decide) (by decide)) (g := (mkF m 101 #[.val (.int p1), .val (.int p2), .val (.ref ob), .val (.ref ar), .val (.int (1 : Int32))] [(.int p2), (.int (4 : Int32)), (.int p1), (.ref ar), (.ref ob), (.int (1 : Int32))])) rfl (by rw [hml]; rfl) (argsL := [(.ref ob), (.ref ar), (.int p1), (.int (4 : Int32)), (.int p2)]) (rest := [(.int (1 : Int32))]) (lenOf pd_3 rfl) rfl (by show 2 * 0 + _ ≤ _; exact Nat.le_of_eq rfl) (hb hby at_101) (fun _ _ => ⟨rfl, (rfl : T31.heap = T31.heap), (by decide : 0 + 1 + 1 + 0 ≤ _), (by decide : 0 + 2 + 2 + 0 ≤ _)⟩)
    dsimp only [Pt.U, Pt.locs, Pt.cells, Pt.slots] at X32 l32 y32 z32 st32 hQ32
    subst l32 y32 z32
    refine own_by (fun t kk_ => st32 _ kk_) ?_
    obtain ⟨rfl, N32q, K32, x32, Pg32, Cu32, M32, fm32, hi32, fp32, fc32, am32, hm032, hm132⟩ := hQ32
    have N32 := Fr.app N31 N32q
    have sz32 : n0 ≤ T32.heap.size := Nat.le_trans sz31 K32.1
    show OwnG p e below s _ _ _ (T32.setTop (mkF m 104 #[.val (.int p1), .val (.int p2), .val (.ref ob), .val (.ref ar), .val (.int (1 : Int32))] [(.int (1 : Int32)), (.int (1 : Int32))]))
    refine own_by (fun t kk_ => XS.iand X32.here hx rfl (hb hby at_104) rfl kk_) ?_
    show OwnG p e below s _ _ _ (T32.setTop (mkF m 105 #[.val (.int p1), .val (.int p2), .val (.ref ob), .val (.ref ar), .val (.int (1 : Int32))] [(.int ((1 : Int32) &&& (1 : Int32)))]))
    rw [own_11]
    show OwnG p e below s _ _ _ (T32.setTop (mkF m 105 #[.val (.int p1), .val (.int p2), .val (.ref ob), .val (.ref ar), .val (.int (1 : Int32))] [(.int (1 : Int32))]))
    refine own_by (fun t kk_ => XS.istore X32.here hx rfl (hb hby at_105) rfl (l' := #[.val (.int p1), .val (.int p2), .val (.ref ob), .val (.ref ar), .val (.int (1 : Int32))]) rfl kk_) ?_
    show OwnG p e below s _ _ _ (T32.setTop (mkF m 107 #[.val (.int p1), .val (.int p2), .val (.ref ob), .val (.ref ar), .val (.int (1 : Int32))] []))
    refine own_by (fun t kk_ => XS.iload X32.here hx rfl (hb hby at_107) rfl  kk_) ?_
    show OwnG p e below s _ _ _ (T32.setTop (mkF m 109 #[.val (.int p1), .val (.int p2), .val (.ref ob), .val (.ref ar), .val (.int (1 : Int32))] [(.int (1 : Int32))]))
    refine own_by (fun t kk_ => XS.aloadN X32.here hx rfl (hb hby at_109) rfl rfl kk_) ?_
    show OwnG p e below s _ _ _ (T32.setTop (mkF m 110 #[.val (.int p1), .val (.int p2), .val (.ref ob), .val (.ref ar), .val (.int (1 : Int32))] [(.ref ob), (.int (1 : Int32))]))
    refine own_by (fun t kk_ => XS.aloadN X32.here hx rfl (hb hby at_110) rfl rfl kk_) ?_
    show OwnG p e below s _ _ _ (T32.setTop (mkF m 111 #[.val (.int p1), .val (.int p2), .val (.ref ob), .val (.ref ar), .val (.int (1 : Int32))] [(.ref ar), (.ref ob), (.int (1 : Int32))]))
    refine own_by (fun t kk_ => XS.iloadN X32.here hx rfl (hb hby at_111) rfl  kk_) ?_
    show OwnG p e below s _ _ _ (T32.setTop (mkF m 112 #[.val (.int p1), .val (.int p2), .val (.ref ob), .val (.ref ar), .val (.int (1 : Int32))] [(.int p1), (.ref ar), (.ref ob), (.int (1 : Int32))]))
    refine own_by (fun t kk_ => XS.iconst X32.here hx rfl (hb hby at_112) kk_) ?_
    show OwnG p e below s _ _ _ (T32.setTop (mkF m 113 #[.val (.int p1), .val (.int p2), .val (.ref ob), .val (.ref ar), .val (.int (1 : Int32))] [(.int (5 : Int32)), (.int p1), (.ref ar), (.ref ob), (.int (1 : Int32))]))
    refine own_by (fun t kk_ => XS.iloadN X32.here hx rfl (hb hby at_113) rfl  kk_) ?_
    show OwnG p e below s _ _ _ (T32.setTop (mkF m 114 #[.val (.int p1), .val (.int p2), .val (.ref ob), .val (.ref ar), .val (.int (1 : Int32))] [(.int p2), (.int (5 : Int32)), (.int p1), (.ref ar), (.ref ob), (.int (1 : Int32))]))
    obtain ⟨_, _, ⟨T33, L33, k33, n33⟩, -, X33, ⟨Lc33, hQ33, l33, y33, z33⟩, st33⟩ := Jvm.LawKit.callS X32 hx (y := (⟨"com/example/score_on_crawl/scoreoncrawl/engine/CycleSequenceNextPinLaw", "step", "(Lcom/example/score_on_crawl/scoreoncrawl/engine/CycleSequence;[IIII)Z"⟩ : MethodName)) hown (mvT hZ (hw _ (List.mem_of_getElem? (i := 17) rfl))) (mvT hZ (hw _ (List.mem_of_getElem? (i := 18) rfl))) (mvT hZ (hw _ (List.mem_of_getElem? (i := 19) rfl))) (mvT hZ (hw _ (List.mem_of_getElem? (i := 20) rfl))) (by decide) (backOf (W := 1) (rm4 l Z a0 hw [] ob ar p1 (5 : Int32) p2 Pg32 Cu32 M32 fm32 6 T32.heap n0 sz32 x32 fp32 fc32 gg_ob am32 hm032 hm132 ne9 gg_ar hi32  (by decide)) hZ (hw _ (List.mem_of_getElem? (i := 20) rfl)) (hw _ (List.mem_of_getElem? (i := 19) rfl)) (by decide) (by decide)) (g := (mkF m 114 #[.val (.int p1), .val (.int p2), .val (.ref ob), .val (.ref ar), .val (.int (1 : Int32))] [(.int p2), (.int (5 : Int32)), (.int p1), (.ref ar), (.ref ob), (.int (1 : Int32))])) rfl (by rw [hml]; rfl) (argsL := [(.ref ob), (.ref ar), (.int p1), (.int (5 : Int32)), (.int p2)]) (rest := [(.int (1 : Int32))]) (lenOf pd_3 rfl) rfl (by show 2 * 0 + _ ≤ _; exact Nat.le_of_eq rfl) (hb hby at_114) (fun _ _ => ⟨rfl, (rfl : T32.heap = T32.heap), (by decide : 0 + 1 + 1 + 0 ≤ _), (by decide : 0 + 2 + 2 + 0 ≤ _)⟩)
    dsimp only [Pt.U, Pt.locs, Pt.cells, Pt.slots] at X33 l33 y33 z33 st33 hQ33
    subst l33 y33 z33
    refine own_by (fun t kk_ => st33 _ kk_) ?_
    obtain ⟨rfl, N33q, K33, x33, Pg33, Cu33, M33, fm33, hi33, fp33, fc33, am33, hm033, hm133⟩ := hQ33
    have N33 := Fr.app N32 N33q
    have sz33 : n0 ≤ T33.heap.size := Nat.le_trans sz32 K33.1
    show OwnG p e below s _ _ _ (T33.setTop (mkF m 117 #[.val (.int p1), .val (.int p2), .val (.ref ob), .val (.ref ar), .val (.int (1 : Int32))] [(.int (1 : Int32)), (.int (1 : Int32))]))
    refine own_by (fun t kk_ => XS.iand X33.here hx rfl (hb hby at_117) rfl kk_) ?_
    show OwnG p e below s _ _ _ (T33.setTop (mkF m 118 #[.val (.int p1), .val (.int p2), .val (.ref ob), .val (.ref ar), .val (.int (1 : Int32))] [(.int ((1 : Int32) &&& (1 : Int32)))]))
    rw [own_11]
    show OwnG p e below s _ _ _ (T33.setTop (mkF m 118 #[.val (.int p1), .val (.int p2), .val (.ref ob), .val (.ref ar), .val (.int (1 : Int32))] [(.int (1 : Int32))]))
    refine own_by (fun t kk_ => XS.istore X33.here hx rfl (hb hby at_118) rfl (l' := #[.val (.int p1), .val (.int p2), .val (.ref ob), .val (.ref ar), .val (.int (1 : Int32))]) rfl kk_) ?_
    show OwnG p e below s _ _ _ (T33.setTop (mkF m 120 #[.val (.int p1), .val (.int p2), .val (.ref ob), .val (.ref ar), .val (.int (1 : Int32))] []))
    refine own_by (fun t kk_ => XS.iload X33.here hx rfl (hb hby at_120) rfl  kk_) ?_
    show OwnG p e below s _ _ _ (T33.setTop (mkF m 122 #[.val (.int p1), .val (.int p2), .val (.ref ob), .val (.ref ar), .val (.int (1 : Int32))] [(.int (1 : Int32))]))
    refine own_by (fun t kk_ => XS.aloadN X33.here hx rfl (hb hby at_122) rfl rfl kk_) ?_
    show OwnG p e below s _ _ _ (T33.setTop (mkF m 123 #[.val (.int p1), .val (.int p2), .val (.ref ob), .val (.ref ar), .val (.int (1 : Int32))] [(.ref ob), (.int (1 : Int32))]))
    refine own_by (fun t kk_ => XS.aloadN X33.here hx rfl (hb hby at_123) rfl rfl kk_) ?_
    show OwnG p e below s _ _ _ (T33.setTop (mkF m 124 #[.val (.int p1), .val (.int p2), .val (.ref ob), .val (.ref ar), .val (.int (1 : Int32))] [(.ref ar), (.ref ob), (.int (1 : Int32))]))
    refine own_by (fun t kk_ => XS.iloadN X33.here hx rfl (hb hby at_124) rfl  kk_) ?_
    show OwnG p e below s _ _ _ (T33.setTop (mkF m 125 #[.val (.int p1), .val (.int p2), .val (.ref ob), .val (.ref ar), .val (.int (1 : Int32))] [(.int p1), (.ref ar), (.ref ob), (.int (1 : Int32))]))
    refine own_by (fun t kk_ => XS.bipush X33.here hx rfl (hb hby at_125) kk_) ?_
    show OwnG p e below s _ _ _ (T33.setTop (mkF m 127 #[.val (.int p1), .val (.int p2), .val (.ref ob), .val (.ref ar), .val (.int (1 : Int32))] [(.int (6 : Int32)), (.int p1), (.ref ar), (.ref ob), (.int (1 : Int32))]))
    refine own_by (fun t kk_ => XS.iloadN X33.here hx rfl (hb hby at_127) rfl  kk_) ?_
    show OwnG p e below s _ _ _ (T33.setTop (mkF m 128 #[.val (.int p1), .val (.int p2), .val (.ref ob), .val (.ref ar), .val (.int (1 : Int32))] [(.int p2), (.int (6 : Int32)), (.int p1), (.ref ar), (.ref ob), (.int (1 : Int32))]))
    obtain ⟨_, _, ⟨T34, L34, k34, n34⟩, -, X34, ⟨Lc34, hQ34, l34, y34, z34⟩, st34⟩ := Jvm.LawKit.callS X33 hx (y := (⟨"com/example/score_on_crawl/scoreoncrawl/engine/CycleSequenceNextPinLaw", "step", "(Lcom/example/score_on_crawl/scoreoncrawl/engine/CycleSequence;[IIII)Z"⟩ : MethodName)) hown (mvT hZ (hw _ (List.mem_of_getElem? (i := 17) rfl))) (mvT hZ (hw _ (List.mem_of_getElem? (i := 18) rfl))) (mvT hZ (hw _ (List.mem_of_getElem? (i := 19) rfl))) (mvT hZ (hw _ (List.mem_of_getElem? (i := 20) rfl))) (by decide) (backOf (W := 1) (rm4 l Z a0 hw [] ob ar p1 (6 : Int32) p2 Pg33 Cu33 M33 fm33 7 T33.heap n0 sz33 x33 fp33 fc33 gg_ob am33 hm033 hm133 ne9 gg_ar hi33  (by decide)) hZ (hw _ (List.mem_of_getElem? (i := 20) rfl)) (hw _ (List.mem_of_getElem? (i := 19) rfl)) (by decide) (by decide)) (g := (mkF m 128 #[.val (.int p1), .val (.int p2), .val (.ref ob), .val (.ref ar), .val (.int (1 : Int32))] [(.int p2), (.int (6 : Int32)), (.int p1), (.ref ar), (.ref ob), (.int (1 : Int32))])) rfl (by rw [hml]; rfl) (argsL := [(.ref ob), (.ref ar), (.int p1), (.int (6 : Int32)), (.int p2)]) (rest := [(.int (1 : Int32))]) (lenOf pd_3 rfl) rfl (by show 2 * 0 + _ ≤ _; exact Nat.le_of_eq rfl) (hb hby at_128) (fun _ _ => ⟨rfl, (rfl : T33.heap = T33.heap), (by decide : 0 + 1 + 1 + 0 ≤ _), (by decide : 0 + 2 + 2 + 0 ≤ _)⟩)
    dsimp only [Pt.U, Pt.locs, Pt.cells, Pt.slots] at X34 l34 y34 z34 st34 hQ34
    subst l34 y34 z34
    refine own_by (fun t kk_ => st34 _ kk_) ?_
    obtain ⟨rfl, N34q, K34, x34, Pg34, Cu34, M34, fm34, hi34, fp34, fc34, am34, hm034, hm134⟩ := hQ34
    have N34 := Fr.app N33 N34q
    have sz34 : n0 ≤ T34.heap.size := Nat.le_trans sz33 K34.1
    show OwnG p e below s _ _ _ (T34.setTop (mkF m 131 #[.val (.int p1), .val (.int p2), .val (.ref ob), .val (.ref ar), .val (.int (1 : Int32))] [(.int (1 : Int32)), (.int (1 : Int32))]))
    refine own_by (fun t kk_ => XS.iand X34.here hx rfl (hb hby at_131) rfl kk_) ?_
    show OwnG p e below s _ _ _ (T34.setTop (mkF m 132 #[.val (.int p1), .val (.int p2), .val (.ref ob), .val (.ref ar), .val (.int (1 : Int32))] [(.int ((1 : Int32) &&& (1 : Int32)))]))
    rw [own_11]
    show OwnG p e below s _ _ _ (T34.setTop (mkF m 132 #[.val (.int p1), .val (.int p2), .val (.ref ob), .val (.ref ar), .val (.int (1 : Int32))] [(.int (1 : Int32))]))
    refine own_by (fun t kk_ => XS.istore X34.here hx rfl (hb hby at_132) rfl (l' := #[.val (.int p1), .val (.int p2), .val (.ref ob), .val (.ref ar), .val (.int (1 : Int32))]) rfl kk_) ?_
    show OwnG p e below s _ _ _ (T34.setTop (mkF m 134 #[.val (.int p1), .val (.int p2), .val (.ref ob), .val (.ref ar), .val (.int (1 : Int32))] []))
    refine own_by (fun t kk_ => XS.iload X34.here hx rfl (hb hby at_134) rfl  kk_) ?_
    show OwnG p e below s _ _ _ (T34.setTop (mkF m 136 #[.val (.int p1), .val (.int p2), .val (.ref ob), .val (.ref ar), .val (.int (1 : Int32))] [(.int (1 : Int32))]))
    refine own_by (fun t kk_ => XS.aloadN X34.here hx rfl (hb hby at_136) rfl rfl kk_) ?_
    show OwnG p e below s _ _ _ (T34.setTop (mkF m 137 #[.val (.int p1), .val (.int p2), .val (.ref ob), .val (.ref ar), .val (.int (1 : Int32))] [(.ref ob), (.int (1 : Int32))]))
    refine own_by (fun t kk_ => XS.aloadN X34.here hx rfl (hb hby at_137) rfl rfl kk_) ?_
    show OwnG p e below s _ _ _ (T34.setTop (mkF m 138 #[.val (.int p1), .val (.int p2), .val (.ref ob), .val (.ref ar), .val (.int (1 : Int32))] [(.ref ar), (.ref ob), (.int (1 : Int32))]))
    refine own_by (fun t kk_ => XS.iloadN X34.here hx rfl (hb hby at_138) rfl  kk_) ?_
    show OwnG p e below s _ _ _ (T34.setTop (mkF m 139 #[.val (.int p1), .val (.int p2), .val (.ref ob), .val (.ref ar), .val (.int (1 : Int32))] [(.int p1), (.ref ar), (.ref ob), (.int (1 : Int32))]))
    refine own_by (fun t kk_ => XS.bipush X34.here hx rfl (hb hby at_139) kk_) ?_
    show OwnG p e below s _ _ _ (T34.setTop (mkF m 141 #[.val (.int p1), .val (.int p2), .val (.ref ob), .val (.ref ar), .val (.int (1 : Int32))] [(.int (7 : Int32)), (.int p1), (.ref ar), (.ref ob), (.int (1 : Int32))]))
    refine own_by (fun t kk_ => XS.iloadN X34.here hx rfl (hb hby at_141) rfl  kk_) ?_
    show OwnG p e below s _ _ _ (T34.setTop (mkF m 142 #[.val (.int p1), .val (.int p2), .val (.ref ob), .val (.ref ar), .val (.int (1 : Int32))] [(.int p2), (.int (7 : Int32)), (.int p1), (.ref ar), (.ref ob), (.int (1 : Int32))]))
    obtain ⟨_, _, ⟨T35, L35, k35, n35⟩, -, X35, ⟨Lc35, hQ35, l35, y35, z35⟩, st35⟩ := Jvm.LawKit.callS X34 hx (y := (⟨"com/example/score_on_crawl/scoreoncrawl/engine/CycleSequenceNextPinLaw", "step", "(Lcom/example/score_on_crawl/scoreoncrawl/engine/CycleSequence;[IIII)Z"⟩ : MethodName)) hown (mvT hZ (hw _ (List.mem_of_getElem? (i := 17) rfl))) (mvT hZ (hw _ (List.mem_of_getElem? (i := 18) rfl))) (mvT hZ (hw _ (List.mem_of_getElem? (i := 19) rfl))) (mvT hZ (hw _ (List.mem_of_getElem? (i := 20) rfl))) (by decide) (backOf (W := 1) (rm4 l Z a0 hw [] ob ar p1 (7 : Int32) p2 Pg34 Cu34 M34 fm34 8 T34.heap n0 sz34 x34 fp34 fc34 gg_ob am34 hm034 hm134 ne9 gg_ar hi34  (by decide)) hZ (hw _ (List.mem_of_getElem? (i := 20) rfl)) (hw _ (List.mem_of_getElem? (i := 19) rfl)) (by decide) (by decide)) (g := (mkF m 142 #[.val (.int p1), .val (.int p2), .val (.ref ob), .val (.ref ar), .val (.int (1 : Int32))] [(.int p2), (.int (7 : Int32)), (.int p1), (.ref ar), (.ref ob), (.int (1 : Int32))])) rfl (by rw [hml]; rfl) (argsL := [(.ref ob), (.ref ar), (.int p1), (.int (7 : Int32)), (.int p2)]) (rest := [(.int (1 : Int32))]) (lenOf pd_3 rfl) rfl (by show 2 * 0 + _ ≤ _; exact Nat.le_of_eq rfl) (hb hby at_142) (fun _ _ => ⟨rfl, (rfl : T34.heap = T34.heap), (by decide : 0 + 1 + 1 + 0 ≤ _), (by decide : 0 + 2 + 2 + 0 ≤ _)⟩)
    dsimp only [Pt.U, Pt.locs, Pt.cells, Pt.slots] at X35 l35 y35 z35 st35 hQ35
    subst l35 y35 z35
    refine own_by (fun t kk_ => st35 _ kk_) ?_
    obtain ⟨rfl, N35q, K35, x35, Pg35, Cu35, M35, fm35, hi35, fp35, fc35, am35, hm035, hm135⟩ := hQ35
    have N35 := Fr.app N34 N35q
    have sz35 : n0 ≤ T35.heap.size := Nat.le_trans sz34 K35.1
    show OwnG p e below s _ _ _ (T35.setTop (mkF m 145 #[.val (.int p1), .val (.int p2), .val (.ref ob), .val (.ref ar), .val (.int (1 : Int32))] [(.int (1 : Int32)), (.int (1 : Int32))]))
    refine own_by (fun t kk_ => XS.iand X35.here hx rfl (hb hby at_145) rfl kk_) ?_
    show OwnG p e below s _ _ _ (T35.setTop (mkF m 146 #[.val (.int p1), .val (.int p2), .val (.ref ob), .val (.ref ar), .val (.int (1 : Int32))] [(.int ((1 : Int32) &&& (1 : Int32)))]))
    rw [own_11]
    show OwnG p e below s _ _ _ (T35.setTop (mkF m 146 #[.val (.int p1), .val (.int p2), .val (.ref ob), .val (.ref ar), .val (.int (1 : Int32))] [(.int (1 : Int32))]))
    refine own_by (fun t kk_ => XS.istore X35.here hx rfl (hb hby at_146) rfl (l' := #[.val (.int p1), .val (.int p2), .val (.ref ob), .val (.ref ar), .val (.int (1 : Int32))]) rfl kk_) ?_
    show OwnG p e below s _ _ _ (T35.setTop (mkF m 148 #[.val (.int p1), .val (.int p2), .val (.ref ob), .val (.ref ar), .val (.int (1 : Int32))] []))
    refine own_by (fun t kk_ => XS.iload X35.here hx rfl (hb hby at_148) rfl  kk_) ?_
    show OwnG p e below s _ _ _ (T35.setTop (mkF m 150 #[.val (.int p1), .val (.int p2), .val (.ref ob), .val (.ref ar), .val (.int (1 : Int32))] [(.int (1 : Int32))]))
    refine own_by (fun t kk_ => XS.aloadN X35.here hx rfl (hb hby at_150) rfl rfl kk_) ?_
    show OwnG p e below s _ _ _ (T35.setTop (mkF m 151 #[.val (.int p1), .val (.int p2), .val (.ref ob), .val (.ref ar), .val (.int (1 : Int32))] [(.ref ob), (.int (1 : Int32))]))
    refine own_by (fun t kk_ => XS.aloadN X35.here hx rfl (hb hby at_151) rfl rfl kk_) ?_
    show OwnG p e below s _ _ _ (T35.setTop (mkF m 152 #[.val (.int p1), .val (.int p2), .val (.ref ob), .val (.ref ar), .val (.int (1 : Int32))] [(.ref ar), (.ref ob), (.int (1 : Int32))]))
    refine own_by (fun t kk_ => XS.iloadN X35.here hx rfl (hb hby at_152) rfl  kk_) ?_
    show OwnG p e below s _ _ _ (T35.setTop (mkF m 153 #[.val (.int p1), .val (.int p2), .val (.ref ob), .val (.ref ar), .val (.int (1 : Int32))] [(.int p1), (.ref ar), (.ref ob), (.int (1 : Int32))]))
    refine own_by (fun t kk_ => XS.bipush X35.here hx rfl (hb hby at_153) kk_) ?_
    show OwnG p e below s _ _ _ (T35.setTop (mkF m 155 #[.val (.int p1), .val (.int p2), .val (.ref ob), .val (.ref ar), .val (.int (1 : Int32))] [(.int (8 : Int32)), (.int p1), (.ref ar), (.ref ob), (.int (1 : Int32))]))
    refine own_by (fun t kk_ => XS.iloadN X35.here hx rfl (hb hby at_155) rfl  kk_) ?_
    show OwnG p e below s _ _ _ (T35.setTop (mkF m 156 #[.val (.int p1), .val (.int p2), .val (.ref ob), .val (.ref ar), .val (.int (1 : Int32))] [(.int p2), (.int (8 : Int32)), (.int p1), (.ref ar), (.ref ob), (.int (1 : Int32))]))
    obtain ⟨_, _, ⟨T36, L36, k36, n36⟩, -, X36, ⟨Lc36, hQ36, l36, y36, z36⟩, st36⟩ := Jvm.LawKit.callS X35 hx (y := (⟨"com/example/score_on_crawl/scoreoncrawl/engine/CycleSequenceNextPinLaw", "step", "(Lcom/example/score_on_crawl/scoreoncrawl/engine/CycleSequence;[IIII)Z"⟩ : MethodName)) hown (mvT hZ (hw _ (List.mem_of_getElem? (i := 17) rfl))) (mvT hZ (hw _ (List.mem_of_getElem? (i := 18) rfl))) (mvT hZ (hw _ (List.mem_of_getElem? (i := 19) rfl))) (mvT hZ (hw _ (List.mem_of_getElem? (i := 20) rfl))) (by decide) (backOf (W := 1) (rm4 l Z a0 hw [] ob ar p1 (8 : Int32) p2 Pg35 Cu35 M35 fm35 9 T35.heap n0 sz35 x35 fp35 fc35 gg_ob am35 hm035 hm135 ne9 gg_ar hi35  (by decide)) hZ (hw _ (List.mem_of_getElem? (i := 20) rfl)) (hw _ (List.mem_of_getElem? (i := 19) rfl)) (by decide) (by decide)) (g := (mkF m 156 #[.val (.int p1), .val (.int p2), .val (.ref ob), .val (.ref ar), .val (.int (1 : Int32))] [(.int p2), (.int (8 : Int32)), (.int p1), (.ref ar), (.ref ob), (.int (1 : Int32))])) rfl (by rw [hml]; rfl) (argsL := [(.ref ob), (.ref ar), (.int p1), (.int (8 : Int32)), (.int p2)]) (rest := [(.int (1 : Int32))]) (lenOf pd_3 rfl) rfl (by show 2 * 0 + _ ≤ _; exact Nat.le_of_eq rfl) (hb hby at_156) (fun _ _ => ⟨rfl, (rfl : T35.heap = T35.heap), (by decide : 0 + 1 + 1 + 0 ≤ _), (by decide : 0 + 2 + 2 + 0 ≤ _)⟩)
    dsimp only [Pt.U, Pt.locs, Pt.cells, Pt.slots] at X36 l36 y36 z36 st36 hQ36
    subst l36 y36 z36
    refine own_by (fun t kk_ => st36 _ kk_) ?_
    obtain ⟨rfl, N36q, K36, x36, Pg36, Cu36, M36, fm36, hi36, fp36, fc36, am36, hm036, hm136⟩ := hQ36
    have N36 := Fr.app N35 N36q
    have sz36 : n0 ≤ T36.heap.size := Nat.le_trans sz35 K36.1
    show OwnG p e below s _ _ _ (T36.setTop (mkF m 159 #[.val (.int p1), .val (.int p2), .val (.ref ob), .val (.ref ar), .val (.int (1 : Int32))] [(.int (1 : Int32)), (.int (1 : Int32))]))
    refine own_by (fun t kk_ => XS.iand X36.here hx rfl (hb hby at_159) rfl kk_) ?_
    show OwnG p e below s _ _ _ (T36.setTop (mkF m 160 #[.val (.int p1), .val (.int p2), .val (.ref ob), .val (.ref ar), .val (.int (1 : Int32))] [(.int ((1 : Int32) &&& (1 : Int32)))]))
    rw [own_11]
    show OwnG p e below s _ _ _ (T36.setTop (mkF m 160 #[.val (.int p1), .val (.int p2), .val (.ref ob), .val (.ref ar), .val (.int (1 : Int32))] [(.int (1 : Int32))]))
    refine own_by (fun t kk_ => XS.istore X36.here hx rfl (hb hby at_160) rfl (l' := #[.val (.int p1), .val (.int p2), .val (.ref ob), .val (.ref ar), .val (.int (1 : Int32))]) rfl kk_) ?_
    show OwnG p e below s _ _ _ (T36.setTop (mkF m 162 #[.val (.int p1), .val (.int p2), .val (.ref ob), .val (.ref ar), .val (.int (1 : Int32))] []))
    refine own_by (fun t kk_ => XS.iload X36.here hx rfl (hb hby at_162) rfl  kk_) ?_
    show OwnG p e below s _ _ _ (T36.setTop (mkF m 164 #[.val (.int p1), .val (.int p2), .val (.ref ob), .val (.ref ar), .val (.int (1 : Int32))] [(.int (1 : Int32))]))
    refine own_by (fun t kk_ => XS.aloadN X36.here hx rfl (hb hby at_164) rfl rfl kk_) ?_
    show OwnG p e below s _ _ _ (T36.setTop (mkF m 165 #[.val (.int p1), .val (.int p2), .val (.ref ob), .val (.ref ar), .val (.int (1 : Int32))] [(.ref ob), (.int (1 : Int32))]))
    refine own_by (fun t kk_ => XS.aloadN X36.here hx rfl (hb hby at_165) rfl rfl kk_) ?_
    show OwnG p e below s _ _ _ (T36.setTop (mkF m 166 #[.val (.int p1), .val (.int p2), .val (.ref ob), .val (.ref ar), .val (.int (1 : Int32))] [(.ref ar), (.ref ob), (.int (1 : Int32))]))
    refine own_by (fun t kk_ => XS.iloadN X36.here hx rfl (hb hby at_166) rfl  kk_) ?_
    show OwnG p e below s _ _ _ (T36.setTop (mkF m 167 #[.val (.int p1), .val (.int p2), .val (.ref ob), .val (.ref ar), .val (.int (1 : Int32))] [(.int p1), (.ref ar), (.ref ob), (.int (1 : Int32))]))
    refine own_by (fun t kk_ => XS.bipush X36.here hx rfl (hb hby at_167) kk_) ?_
    show OwnG p e below s _ _ _ (T36.setTop (mkF m 169 #[.val (.int p1), .val (.int p2), .val (.ref ob), .val (.ref ar), .val (.int (1 : Int32))] [(.int (9 : Int32)), (.int p1), (.ref ar), (.ref ob), (.int (1 : Int32))]))
    refine own_by (fun t kk_ => XS.iloadN X36.here hx rfl (hb hby at_169) rfl  kk_) ?_
    show OwnG p e below s _ _ _ (T36.setTop (mkF m 170 #[.val (.int p1), .val (.int p2), .val (.ref ob), .val (.ref ar), .val (.int (1 : Int32))] [(.int p2), (.int (9 : Int32)), (.int p1), (.ref ar), (.ref ob), (.int (1 : Int32))]))
    obtain ⟨_, _, ⟨T37, L37, k37, n37⟩, -, X37, ⟨Lc37, hQ37, l37, y37, z37⟩, st37⟩ := Jvm.LawKit.callS X36 hx (y := (⟨"com/example/score_on_crawl/scoreoncrawl/engine/CycleSequenceNextPinLaw", "step", "(Lcom/example/score_on_crawl/scoreoncrawl/engine/CycleSequence;[IIII)Z"⟩ : MethodName)) hown (mvT hZ (hw _ (List.mem_of_getElem? (i := 17) rfl))) (mvT hZ (hw _ (List.mem_of_getElem? (i := 18) rfl))) (mvT hZ (hw _ (List.mem_of_getElem? (i := 19) rfl))) (mvT hZ (hw _ (List.mem_of_getElem? (i := 20) rfl))) (by decide) (backOf (W := 1) (rm4 l Z a0 hw [] ob ar p1 (9 : Int32) p2 Pg36 Cu36 M36 fm36 10 T36.heap n0 sz36 x36 fp36 fc36 gg_ob am36 hm036 hm136 ne9 gg_ar hi36  (by decide)) hZ (hw _ (List.mem_of_getElem? (i := 20) rfl)) (hw _ (List.mem_of_getElem? (i := 19) rfl)) (by decide) (by decide)) (g := (mkF m 170 #[.val (.int p1), .val (.int p2), .val (.ref ob), .val (.ref ar), .val (.int (1 : Int32))] [(.int p2), (.int (9 : Int32)), (.int p1), (.ref ar), (.ref ob), (.int (1 : Int32))])) rfl (by rw [hml]; rfl) (argsL := [(.ref ob), (.ref ar), (.int p1), (.int (9 : Int32)), (.int p2)]) (rest := [(.int (1 : Int32))]) (lenOf pd_3 rfl) rfl (by show 2 * 0 + _ ≤ _; exact Nat.le_of_eq rfl) (hb hby at_170) (fun _ _ => ⟨rfl, (rfl : T36.heap = T36.heap), (by decide : 0 + 1 + 1 + 0 ≤ _), (by decide : 0 + 2 + 2 + 0 ≤ _)⟩)
    dsimp only [Pt.U, Pt.locs, Pt.cells, Pt.slots] at X37 l37 y37 z37 st37 hQ37
    subst l37 y37 z37
    refine own_by (fun t kk_ => st37 _ kk_) ?_
    obtain ⟨rfl, N37q, K37, x37, Pg37, Cu37, M37, fm37, hi37, fp37, fc37, am37, hm037, hm137⟩ := hQ37
    have N37 := Fr.app N36 N37q
    have sz37 : n0 ≤ T37.heap.size := Nat.le_trans sz36 K37.1
    show OwnG p e below s _ _ _ (T37.setTop (mkF m 173 #[.val (.int p1), .val (.int p2), .val (.ref ob), .val (.ref ar), .val (.int (1 : Int32))] [(.int (1 : Int32)), (.int (1 : Int32))]))
    refine own_by (fun t kk_ => XS.iand X37.here hx rfl (hb hby at_173) rfl kk_) ?_
    show OwnG p e below s _ _ _ (T37.setTop (mkF m 174 #[.val (.int p1), .val (.int p2), .val (.ref ob), .val (.ref ar), .val (.int (1 : Int32))] [(.int ((1 : Int32) &&& (1 : Int32)))]))
    rw [own_11]
    show OwnG p e below s _ _ _ (T37.setTop (mkF m 174 #[.val (.int p1), .val (.int p2), .val (.ref ob), .val (.ref ar), .val (.int (1 : Int32))] [(.int (1 : Int32))]))
    refine own_by (fun t kk_ => XS.istore X37.here hx rfl (hb hby at_174) rfl (l' := #[.val (.int p1), .val (.int p2), .val (.ref ob), .val (.ref ar), .val (.int (1 : Int32))]) rfl kk_) ?_
    show OwnG p e below s _ _ _ (T37.setTop (mkF m 176 #[.val (.int p1), .val (.int p2), .val (.ref ob), .val (.ref ar), .val (.int (1 : Int32))] []))
    refine own_by (fun t kk_ => XS.iload X37.here hx rfl (hb hby at_176) rfl  kk_) ?_
    show OwnG p e below s _ _ _ (T37.setTop (mkF m 178 #[.val (.int p1), .val (.int p2), .val (.ref ob), .val (.ref ar), .val (.int (1 : Int32))] [(.int (1 : Int32))]))
    exact own_outN X37 hx hret (by simp) hlk (hb hby at_178) rfl (⟨rfl, N37⟩) (by decide) (by decide)
  · refine own_by (fun t kk_ => XS.ifNo X19.here hx rfl (hb hby at_28) rfl ((if0 _ _).trans (feq hb28_24).1) kk_) ?_
    show OwnG p e below s _ _ _ (T19.setTop (mkF m 31 #[.val (.int p1), .val (.int p2), .val (.ref ob), .val (.ref ar), .unset] [(.int (0 : Int32)), (.ref ob)]))
    refine own_by (fun t kk_ => XS.iconst X19.here hx rfl (hb hby at_31) kk_) ?_
    show OwnG p e below s _ _ _ (T19.setTop (mkF m 32 #[.val (.int p1), .val (.int p2), .val (.ref ob), .val (.ref ar), .unset] [(.int (1 : Int32)), (.int (0 : Int32)), (.ref ob)]))
    refine own_by (fun t kk_ => XS.goto X19.here hx rfl (pc0 := 32) (pc' := 36) rfl (hb hby at_32) (by decide) (by decide) kk_) ?_
    show OwnG p e below s _ _ _ (T19.setTop (mkF m 36 #[.val (.int p1), .val (.int p2), .val (.ref ob), .val (.ref ar), .unset] [(.int (1 : Int32)), (.int (0 : Int32)), (.ref ob)]))
    obtain ⟨cq38, kq38, q38a, q38b, q38c⟩ := isOf hZ e19 f20
    obtain ⟨_, _, ⟨T38, L38, k38, n38⟩, -, X38, ⟨Lc38, hQ38, l38, y38, z38⟩, st38⟩ := X19.virtualBack hx (y := (⟨"com/example/score_on_crawl/scoreoncrawl/engine/CycleSequence", "added", "(IZ)V"⟩ : MethodName)) (z := (⟨"com/example/score_on_crawl/scoreoncrawl/engine/CycleSequence", "added", "(IZ)V"⟩ : MethodName)) hown (mvT hZ (hw _ (List.mem_of_getElem? (i := 10) rfl))) (mvT hZ (hw _ (List.mem_of_getElem? (i := 11) rfl))) (notFace_of_selects (args := #[]) (mvT hZ (hw _ (List.mem_of_getElem? (i := 13) rfl)))) (mvT hZ (hw _ (List.mem_of_getElem? (i := 13) rfl))) (mvT hZ (hw _ (List.mem_of_getElem? (i := 12) rfl))) (by decide) (backOf (W := 0) (rm3 l Z a0 hw [] ob (0 : Int32) (1 : Int32) (0 : Int32) (0 : Int32) h19 n0 sz19 f20 f21 f22 gg_ob) hZ (hw _ (List.mem_of_getElem? (i := 14) rfl)) (hw _ (List.mem_of_getElem? (i := 2) rfl)) (by decide) (by decide)) q38a q38c (g := (mkF m 36 #[.val (.int p1), .val (.int p2), .val (.ref ob), .val (.ref ar), .unset] [(.int (1 : Int32)), (.int (0 : Int32)), (.ref ob)])) rfl (by rw [hml]; rfl) (Steps.refl _) (argsL := [(.int (0 : Int32)), (.int (1 : Int32))]) (rest := []) (lenOf pd_1 rfl) rfl (by show 2 * 0 + _ ≤ _; exact Nat.le_of_eq rfl) (hb hby at_36) (fun _ _ => ⟨rfl, e19, (by decide : 0 + 1 + 1 + 0 ≤ _), (by decide : 0 + 2 + 2 + 0 ≤ _)⟩)
    dsimp only [Pt.U, Pt.locs, Pt.cells, Pt.slots] at X38 l38 y38 z38 st38 hQ38
    subst l38 y38 z38
    refine own_by (fun t kk_ => st38.trans kk_) ?_
    obtain ⟨rfl, N38q, K38, x38, fp38, fc38⟩ := hQ38
    have N38 := Fr.app N19 N38q
    have sz38 : n0 ≤ T38.heap.size := Nat.le_trans sz19 K38.1
    have f39 := Exa.keep f20 K38
    have f40 := OwnA.keep A19 K38 (ninS (Ne.symm ne9) nin0)
    have fpz : Fld Z T38.heap ob "com/example/score_on_crawl/scoreoncrawl/engine/CycleSequence" "pages" "I" (.int (1 : Int32)) := fp38
    show OwnG p e below s _ _ _ (T38.setTop (mkF m 39 #[.val (.int p1), .val (.int p2), .val (.ref ob), .val (.ref ar), .unset] []))
    refine own_by (fun t kk_ => XS.iconst X38.here hx rfl (hb hby at_39) kk_) ?_
    show OwnG p e below s _ _ _ (T38.setTop (mkF m 40 #[.val (.int p1), .val (.int p2), .val (.ref ob), .val (.ref ar), .unset] [(.int (1 : Int32))]))
    refine own_by (fun t kk_ => XS.istore X38.here hx rfl (hb hby at_40) rfl (l' := #[.val (.int p1), .val (.int p2), .val (.ref ob), .val (.ref ar), .val (.int (1 : Int32))]) rfl kk_) ?_
    show OwnG p e below s _ _ _ (T38.setTop (mkF m 42 #[.val (.int p1), .val (.int p2), .val (.ref ob), .val (.ref ar), .val (.int (1 : Int32))] []))
    refine own_by (fun t kk_ => XS.iload X38.here hx rfl (hb hby at_42) rfl  kk_) ?_
    show OwnG p e below s _ _ _ (T38.setTop (mkF m 44 #[.val (.int p1), .val (.int p2), .val (.ref ob), .val (.ref ar), .val (.int (1 : Int32))] [(.int (1 : Int32))]))
    refine own_by (fun t kk_ => XS.aloadN X38.here hx rfl (hb hby at_44) rfl rfl kk_) ?_
    show OwnG p e below s _ _ _ (T38.setTop (mkF m 45 #[.val (.int p1), .val (.int p2), .val (.ref ob), .val (.ref ar), .val (.int (1 : Int32))] [(.ref ob), (.int (1 : Int32))]))
    refine own_by (fun t kk_ => XS.aloadN X38.here hx rfl (hb hby at_45) rfl rfl kk_) ?_
    show OwnG p e below s _ _ _ (T38.setTop (mkF m 46 #[.val (.int p1), .val (.int p2), .val (.ref ob), .val (.ref ar), .val (.int (1 : Int32))] [(.ref ar), (.ref ob), (.int (1 : Int32))]))
    refine own_by (fun t kk_ => XS.iloadN X38.here hx rfl (hb hby at_46) rfl  kk_) ?_
    show OwnG p e below s _ _ _ (T38.setTop (mkF m 47 #[.val (.int p1), .val (.int p2), .val (.ref ob), .val (.ref ar), .val (.int (1 : Int32))] [(.int p1), (.ref ar), (.ref ob), (.int (1 : Int32))]))
    refine own_by (fun t kk_ => XS.iconst X38.here hx rfl (hb hby at_47) kk_) ?_
    show OwnG p e below s _ _ _ (T38.setTop (mkF m 48 #[.val (.int p1), .val (.int p2), .val (.ref ob), .val (.ref ar), .val (.int (1 : Int32))] [(.int (0 : Int32)), (.int p1), (.ref ar), (.ref ob), (.int (1 : Int32))]))
    refine own_by (fun t kk_ => XS.iloadN X38.here hx rfl (hb hby at_48) rfl  kk_) ?_
    show OwnG p e below s _ _ _ (T38.setTop (mkF m 49 #[.val (.int p1), .val (.int p2), .val (.ref ob), .val (.ref ar), .val (.int (1 : Int32))] [(.int p2), (.int (0 : Int32)), (.int p1), (.ref ar), (.ref ob), (.int (1 : Int32))]))
    obtain ⟨_, _, ⟨T41, L41, k41, n41⟩, -, X41, ⟨Lc41, hQ41, l41, y41, z41⟩, st41⟩ := Jvm.LawKit.callS X38 hx (y := (⟨"com/example/score_on_crawl/scoreoncrawl/engine/CycleSequenceNextPinLaw", "step", "(Lcom/example/score_on_crawl/scoreoncrawl/engine/CycleSequence;[IIII)Z"⟩ : MethodName)) hown (mvT hZ (hw _ (List.mem_of_getElem? (i := 17) rfl))) (mvT hZ (hw _ (List.mem_of_getElem? (i := 18) rfl))) (mvT hZ (hw _ (List.mem_of_getElem? (i := 19) rfl))) (mvT hZ (hw _ (List.mem_of_getElem? (i := 20) rfl))) (by decide) (backOf (W := 1) (rm4 l Z a0 hw [] ob ar p1 (0 : Int32) p2 (1 : Int32) (0 : Int32) (-1) (ownSet (ownSet (fun _ => (defaultValue .int)) 0 (.int (1 : Int32))) 1 (.int (-1 : Int32))) 1 T38.heap n0 sz38 x38 fpz fc38 gg_ob f40 rfl rfl ne9 gg_ar own_start  (by decide)) hZ (hw _ (List.mem_of_getElem? (i := 20) rfl)) (hw _ (List.mem_of_getElem? (i := 19) rfl)) (by decide) (by decide)) (g := (mkF m 49 #[.val (.int p1), .val (.int p2), .val (.ref ob), .val (.ref ar), .val (.int (1 : Int32))] [(.int p2), (.int (0 : Int32)), (.int p1), (.ref ar), (.ref ob), (.int (1 : Int32))])) rfl (by rw [hml]; rfl) (argsL := [(.ref ob), (.ref ar), (.int p1), (.int (0 : Int32)), (.int p2)]) (rest := [(.int (1 : Int32))]) (lenOf pd_3 rfl) rfl (by show 2 * 0 + _ ≤ _; exact Nat.le_of_eq rfl) (hb hby at_49) (fun _ _ => ⟨rfl, (rfl : T38.heap = T38.heap), (by decide : 0 + 1 + 1 + 0 ≤ _), (by decide : 0 + 2 + 2 + 0 ≤ _)⟩)
    dsimp only [Pt.U, Pt.locs, Pt.cells, Pt.slots] at X41 l41 y41 z41 st41 hQ41
    subst l41 y41 z41
    refine own_by (fun t kk_ => st41 _ kk_) ?_
    obtain ⟨rfl, N41q, K41, x41, Pg41, Cu41, M41, fm41, hi41, fp41, fc41, am41, hm041, hm141⟩ := hQ41
    have N41 := Fr.app N38 N41q
    have sz41 : n0 ≤ T41.heap.size := Nat.le_trans sz38 K41.1
    show OwnG p e below s _ _ _ (T41.setTop (mkF m 52 #[.val (.int p1), .val (.int p2), .val (.ref ob), .val (.ref ar), .val (.int (1 : Int32))] [(.int (1 : Int32)), (.int (1 : Int32))]))
    refine own_by (fun t kk_ => XS.iand X41.here hx rfl (hb hby at_52) rfl kk_) ?_
    show OwnG p e below s _ _ _ (T41.setTop (mkF m 53 #[.val (.int p1), .val (.int p2), .val (.ref ob), .val (.ref ar), .val (.int (1 : Int32))] [(.int ((1 : Int32) &&& (1 : Int32)))]))
    rw [own_11]
    show OwnG p e below s _ _ _ (T41.setTop (mkF m 53 #[.val (.int p1), .val (.int p2), .val (.ref ob), .val (.ref ar), .val (.int (1 : Int32))] [(.int (1 : Int32))]))
    refine own_by (fun t kk_ => XS.istore X41.here hx rfl (hb hby at_53) rfl (l' := #[.val (.int p1), .val (.int p2), .val (.ref ob), .val (.ref ar), .val (.int (1 : Int32))]) rfl kk_) ?_
    show OwnG p e below s _ _ _ (T41.setTop (mkF m 55 #[.val (.int p1), .val (.int p2), .val (.ref ob), .val (.ref ar), .val (.int (1 : Int32))] []))
    refine own_by (fun t kk_ => XS.iload X41.here hx rfl (hb hby at_55) rfl  kk_) ?_
    show OwnG p e below s _ _ _ (T41.setTop (mkF m 57 #[.val (.int p1), .val (.int p2), .val (.ref ob), .val (.ref ar), .val (.int (1 : Int32))] [(.int (1 : Int32))]))
    refine own_by (fun t kk_ => XS.aloadN X41.here hx rfl (hb hby at_57) rfl rfl kk_) ?_
    show OwnG p e below s _ _ _ (T41.setTop (mkF m 58 #[.val (.int p1), .val (.int p2), .val (.ref ob), .val (.ref ar), .val (.int (1 : Int32))] [(.ref ob), (.int (1 : Int32))]))
    refine own_by (fun t kk_ => XS.aloadN X41.here hx rfl (hb hby at_58) rfl rfl kk_) ?_
    show OwnG p e below s _ _ _ (T41.setTop (mkF m 59 #[.val (.int p1), .val (.int p2), .val (.ref ob), .val (.ref ar), .val (.int (1 : Int32))] [(.ref ar), (.ref ob), (.int (1 : Int32))]))
    refine own_by (fun t kk_ => XS.iloadN X41.here hx rfl (hb hby at_59) rfl  kk_) ?_
    show OwnG p e below s _ _ _ (T41.setTop (mkF m 60 #[.val (.int p1), .val (.int p2), .val (.ref ob), .val (.ref ar), .val (.int (1 : Int32))] [(.int p1), (.ref ar), (.ref ob), (.int (1 : Int32))]))
    refine own_by (fun t kk_ => XS.iconst X41.here hx rfl (hb hby at_60) kk_) ?_
    show OwnG p e below s _ _ _ (T41.setTop (mkF m 61 #[.val (.int p1), .val (.int p2), .val (.ref ob), .val (.ref ar), .val (.int (1 : Int32))] [(.int (1 : Int32)), (.int p1), (.ref ar), (.ref ob), (.int (1 : Int32))]))
    refine own_by (fun t kk_ => XS.iloadN X41.here hx rfl (hb hby at_61) rfl  kk_) ?_
    show OwnG p e below s _ _ _ (T41.setTop (mkF m 62 #[.val (.int p1), .val (.int p2), .val (.ref ob), .val (.ref ar), .val (.int (1 : Int32))] [(.int p2), (.int (1 : Int32)), (.int p1), (.ref ar), (.ref ob), (.int (1 : Int32))]))
    obtain ⟨_, _, ⟨T42, L42, k42, n42⟩, -, X42, ⟨Lc42, hQ42, l42, y42, z42⟩, st42⟩ := Jvm.LawKit.callS X41 hx (y := (⟨"com/example/score_on_crawl/scoreoncrawl/engine/CycleSequenceNextPinLaw", "step", "(Lcom/example/score_on_crawl/scoreoncrawl/engine/CycleSequence;[IIII)Z"⟩ : MethodName)) hown (mvT hZ (hw _ (List.mem_of_getElem? (i := 17) rfl))) (mvT hZ (hw _ (List.mem_of_getElem? (i := 18) rfl))) (mvT hZ (hw _ (List.mem_of_getElem? (i := 19) rfl))) (mvT hZ (hw _ (List.mem_of_getElem? (i := 20) rfl))) (by decide) (backOf (W := 1) (rm4 l Z a0 hw [] ob ar p1 (1 : Int32) p2 Pg41 Cu41 M41 fm41 2 T41.heap n0 sz41 x41 fp41 fc41 gg_ob am41 hm041 hm141 ne9 gg_ar hi41  (by decide)) hZ (hw _ (List.mem_of_getElem? (i := 20) rfl)) (hw _ (List.mem_of_getElem? (i := 19) rfl)) (by decide) (by decide)) (g := (mkF m 62 #[.val (.int p1), .val (.int p2), .val (.ref ob), .val (.ref ar), .val (.int (1 : Int32))] [(.int p2), (.int (1 : Int32)), (.int p1), (.ref ar), (.ref ob), (.int (1 : Int32))])) rfl (by rw [hml]; rfl) (argsL := [(.ref ob), (.ref ar), (.int p1), (.int (1 : Int32)), (.int p2)]) (rest := [(.int (1 : Int32))]) (lenOf pd_3 rfl) rfl (by show 2 * 0 + _ ≤ _; exact Nat.le_of_eq rfl) (hb hby at_62) (fun _ _ => ⟨rfl, (rfl : T41.heap = T41.heap), (by decide : 0 + 1 + 1 + 0 ≤ _), (by decide : 0 + 2 + 2 + 0 ≤ _)⟩)
    dsimp only [Pt.U, Pt.locs, Pt.cells, Pt.slots] at X42 l42 y42 z42 st42 hQ42
    subst l42 y42 z42
    refine own_by (fun t kk_ => st42 _ kk_) ?_
    obtain ⟨rfl, N42q, K42, x42, Pg42, Cu42, M42, fm42, hi42, fp42, fc42, am42, hm042, hm142⟩ := hQ42
    have N42 := Fr.app N41 N42q
    have sz42 : n0 ≤ T42.heap.size := Nat.le_trans sz41 K42.1
    show OwnG p e below s _ _ _ (T42.setTop (mkF m 65 #[.val (.int p1), .val (.int p2), .val (.ref ob), .val (.ref ar), .val (.int (1 : Int32))] [(.int (1 : Int32)), (.int (1 : Int32))]))
    refine own_by (fun t kk_ => XS.iand X42.here hx rfl (hb hby at_65) rfl kk_) ?_
    show OwnG p e below s _ _ _ (T42.setTop (mkF m 66 #[.val (.int p1), .val (.int p2), .val (.ref ob), .val (.ref ar), .val (.int (1 : Int32))] [(.int ((1 : Int32) &&& (1 : Int32)))]))
    rw [own_11]
    show OwnG p e below s _ _ _ (T42.setTop (mkF m 66 #[.val (.int p1), .val (.int p2), .val (.ref ob), .val (.ref ar), .val (.int (1 : Int32))] [(.int (1 : Int32))]))
    refine own_by (fun t kk_ => XS.istore X42.here hx rfl (hb hby at_66) rfl (l' := #[.val (.int p1), .val (.int p2), .val (.ref ob), .val (.ref ar), .val (.int (1 : Int32))]) rfl kk_) ?_
    show OwnG p e below s _ _ _ (T42.setTop (mkF m 68 #[.val (.int p1), .val (.int p2), .val (.ref ob), .val (.ref ar), .val (.int (1 : Int32))] []))
    refine own_by (fun t kk_ => XS.iload X42.here hx rfl (hb hby at_68) rfl  kk_) ?_
    show OwnG p e below s _ _ _ (T42.setTop (mkF m 70 #[.val (.int p1), .val (.int p2), .val (.ref ob), .val (.ref ar), .val (.int (1 : Int32))] [(.int (1 : Int32))]))
    refine own_by (fun t kk_ => XS.aloadN X42.here hx rfl (hb hby at_70) rfl rfl kk_) ?_
    show OwnG p e below s _ _ _ (T42.setTop (mkF m 71 #[.val (.int p1), .val (.int p2), .val (.ref ob), .val (.ref ar), .val (.int (1 : Int32))] [(.ref ob), (.int (1 : Int32))]))
    refine own_by (fun t kk_ => XS.aloadN X42.here hx rfl (hb hby at_71) rfl rfl kk_) ?_
    show OwnG p e below s _ _ _ (T42.setTop (mkF m 72 #[.val (.int p1), .val (.int p2), .val (.ref ob), .val (.ref ar), .val (.int (1 : Int32))] [(.ref ar), (.ref ob), (.int (1 : Int32))]))
    refine own_by (fun t kk_ => XS.iloadN X42.here hx rfl (hb hby at_72) rfl  kk_) ?_
    show OwnG p e below s _ _ _ (T42.setTop (mkF m 73 #[.val (.int p1), .val (.int p2), .val (.ref ob), .val (.ref ar), .val (.int (1 : Int32))] [(.int p1), (.ref ar), (.ref ob), (.int (1 : Int32))]))
    refine own_by (fun t kk_ => XS.iconst X42.here hx rfl (hb hby at_73) kk_) ?_
    show OwnG p e below s _ _ _ (T42.setTop (mkF m 74 #[.val (.int p1), .val (.int p2), .val (.ref ob), .val (.ref ar), .val (.int (1 : Int32))] [(.int (2 : Int32)), (.int p1), (.ref ar), (.ref ob), (.int (1 : Int32))]))
    refine own_by (fun t kk_ => XS.iloadN X42.here hx rfl (hb hby at_74) rfl  kk_) ?_
    show OwnG p e below s _ _ _ (T42.setTop (mkF m 75 #[.val (.int p1), .val (.int p2), .val (.ref ob), .val (.ref ar), .val (.int (1 : Int32))] [(.int p2), (.int (2 : Int32)), (.int p1), (.ref ar), (.ref ob), (.int (1 : Int32))]))
    obtain ⟨_, _, ⟨T43, L43, k43, n43⟩, -, X43, ⟨Lc43, hQ43, l43, y43, z43⟩, st43⟩ := Jvm.LawKit.callS X42 hx (y := (⟨"com/example/score_on_crawl/scoreoncrawl/engine/CycleSequenceNextPinLaw", "step", "(Lcom/example/score_on_crawl/scoreoncrawl/engine/CycleSequence;[IIII)Z"⟩ : MethodName)) hown (mvT hZ (hw _ (List.mem_of_getElem? (i := 17) rfl))) (mvT hZ (hw _ (List.mem_of_getElem? (i := 18) rfl))) (mvT hZ (hw _ (List.mem_of_getElem? (i := 19) rfl))) (mvT hZ (hw _ (List.mem_of_getElem? (i := 20) rfl))) (by decide) (backOf (W := 1) (rm4 l Z a0 hw [] ob ar p1 (2 : Int32) p2 Pg42 Cu42 M42 fm42 3 T42.heap n0 sz42 x42 fp42 fc42 gg_ob am42 hm042 hm142 ne9 gg_ar hi42  (by decide)) hZ (hw _ (List.mem_of_getElem? (i := 20) rfl)) (hw _ (List.mem_of_getElem? (i := 19) rfl)) (by decide) (by decide)) (g := (mkF m 75 #[.val (.int p1), .val (.int p2), .val (.ref ob), .val (.ref ar), .val (.int (1 : Int32))] [(.int p2), (.int (2 : Int32)), (.int p1), (.ref ar), (.ref ob), (.int (1 : Int32))])) rfl (by rw [hml]; rfl) (argsL := [(.ref ob), (.ref ar), (.int p1), (.int (2 : Int32)), (.int p2)]) (rest := [(.int (1 : Int32))]) (lenOf pd_3 rfl) rfl (by show 2 * 0 + _ ≤ _; exact Nat.le_of_eq rfl) (hb hby at_75) (fun _ _ => ⟨rfl, (rfl : T42.heap = T42.heap), (by decide : 0 + 1 + 1 + 0 ≤ _), (by decide : 0 + 2 + 2 + 0 ≤ _)⟩)
    dsimp only [Pt.U, Pt.locs, Pt.cells, Pt.slots] at X43 l43 y43 z43 st43 hQ43
    subst l43 y43 z43
    refine own_by (fun t kk_ => st43 _ kk_) ?_
    obtain ⟨rfl, N43q, K43, x43, Pg43, Cu43, M43, fm43, hi43, fp43, fc43, am43, hm043, hm143⟩ := hQ43
    have N43 := Fr.app N42 N43q
    have sz43 : n0 ≤ T43.heap.size := Nat.le_trans sz42 K43.1
    show OwnG p e below s _ _ _ (T43.setTop (mkF m 78 #[.val (.int p1), .val (.int p2), .val (.ref ob), .val (.ref ar), .val (.int (1 : Int32))] [(.int (1 : Int32)), (.int (1 : Int32))]))
    refine own_by (fun t kk_ => XS.iand X43.here hx rfl (hb hby at_78) rfl kk_) ?_
    show OwnG p e below s _ _ _ (T43.setTop (mkF m 79 #[.val (.int p1), .val (.int p2), .val (.ref ob), .val (.ref ar), .val (.int (1 : Int32))] [(.int ((1 : Int32) &&& (1 : Int32)))]))
    rw [own_11]
    show OwnG p e below s _ _ _ (T43.setTop (mkF m 79 #[.val (.int p1), .val (.int p2), .val (.ref ob), .val (.ref ar), .val (.int (1 : Int32))] [(.int (1 : Int32))]))
    refine own_by (fun t kk_ => XS.istore X43.here hx rfl (hb hby at_79) rfl (l' := #[.val (.int p1), .val (.int p2), .val (.ref ob), .val (.ref ar), .val (.int (1 : Int32))]) rfl kk_) ?_
    show OwnG p e below s _ _ _ (T43.setTop (mkF m 81 #[.val (.int p1), .val (.int p2), .val (.ref ob), .val (.ref ar), .val (.int (1 : Int32))] []))
    refine own_by (fun t kk_ => XS.iload X43.here hx rfl (hb hby at_81) rfl  kk_) ?_
    show OwnG p e below s _ _ _ (T43.setTop (mkF m 83 #[.val (.int p1), .val (.int p2), .val (.ref ob), .val (.ref ar), .val (.int (1 : Int32))] [(.int (1 : Int32))]))
    refine own_by (fun t kk_ => XS.aloadN X43.here hx rfl (hb hby at_83) rfl rfl kk_) ?_
    show OwnG p e below s _ _ _ (T43.setTop (mkF m 84 #[.val (.int p1), .val (.int p2), .val (.ref ob), .val (.ref ar), .val (.int (1 : Int32))] [(.ref ob), (.int (1 : Int32))]))
    refine own_by (fun t kk_ => XS.aloadN X43.here hx rfl (hb hby at_84) rfl rfl kk_) ?_
    show OwnG p e below s _ _ _ (T43.setTop (mkF m 85 #[.val (.int p1), .val (.int p2), .val (.ref ob), .val (.ref ar), .val (.int (1 : Int32))] [(.ref ar), (.ref ob), (.int (1 : Int32))]))
    refine own_by (fun t kk_ => XS.iloadN X43.here hx rfl (hb hby at_85) rfl  kk_) ?_
    show OwnG p e below s _ _ _ (T43.setTop (mkF m 86 #[.val (.int p1), .val (.int p2), .val (.ref ob), .val (.ref ar), .val (.int (1 : Int32))] [(.int p1), (.ref ar), (.ref ob), (.int (1 : Int32))]))
    refine own_by (fun t kk_ => XS.iconst X43.here hx rfl (hb hby at_86) kk_) ?_
    show OwnG p e below s _ _ _ (T43.setTop (mkF m 87 #[.val (.int p1), .val (.int p2), .val (.ref ob), .val (.ref ar), .val (.int (1 : Int32))] [(.int (3 : Int32)), (.int p1), (.ref ar), (.ref ob), (.int (1 : Int32))]))
    refine own_by (fun t kk_ => XS.iloadN X43.here hx rfl (hb hby at_87) rfl  kk_) ?_
    show OwnG p e below s _ _ _ (T43.setTop (mkF m 88 #[.val (.int p1), .val (.int p2), .val (.ref ob), .val (.ref ar), .val (.int (1 : Int32))] [(.int p2), (.int (3 : Int32)), (.int p1), (.ref ar), (.ref ob), (.int (1 : Int32))]))
    obtain ⟨_, _, ⟨T44, L44, k44, n44⟩, -, X44, ⟨Lc44, hQ44, l44, y44, z44⟩, st44⟩ := Jvm.LawKit.callS X43 hx (y := (⟨"com/example/score_on_crawl/scoreoncrawl/engine/CycleSequenceNextPinLaw", "step", "(Lcom/example/score_on_crawl/scoreoncrawl/engine/CycleSequence;[IIII)Z"⟩ : MethodName)) hown (mvT hZ (hw _ (List.mem_of_getElem? (i := 17) rfl))) (mvT hZ (hw _ (List.mem_of_getElem? (i := 18) rfl))) (mvT hZ (hw _ (List.mem_of_getElem? (i := 19) rfl))) (mvT hZ (hw _ (List.mem_of_getElem? (i := 20) rfl))) (by decide) (backOf (W := 1) (rm4 l Z a0 hw [] ob ar p1 (3 : Int32) p2 Pg43 Cu43 M43 fm43 4 T43.heap n0 sz43 x43 fp43 fc43 gg_ob am43 hm043 hm143 ne9 gg_ar hi43  (by decide)) hZ (hw _ (List.mem_of_getElem? (i := 20) rfl)) (hw _ (List.mem_of_getElem? (i := 19) rfl)) (by decide) (by decide)) (g := (mkF m 88 #[.val (.int p1), .val (.int p2), .val (.ref ob), .val (.ref ar), .val (.int (1 : Int32))] [(.int p2), (.int (3 : Int32)), (.int p1), (.ref ar), (.ref ob), (.int (1 : Int32))])) rfl (by rw [hml]; rfl) (argsL := [(.ref ob), (.ref ar), (.int p1), (.int (3 : Int32)), (.int p2)]) (rest := [(.int (1 : Int32))]) (lenOf pd_3 rfl) rfl (by show 2 * 0 + _ ≤ _; exact Nat.le_of_eq rfl) (hb hby at_88) (fun _ _ => ⟨rfl, (rfl : T43.heap = T43.heap), (by decide : 0 + 1 + 1 + 0 ≤ _), (by decide : 0 + 2 + 2 + 0 ≤ _)⟩)
    dsimp only [Pt.U, Pt.locs, Pt.cells, Pt.slots] at X44 l44 y44 z44 st44 hQ44
    subst l44 y44 z44
    refine own_by (fun t kk_ => st44 _ kk_) ?_
    obtain ⟨rfl, N44q, K44, x44, Pg44, Cu44, M44, fm44, hi44, fp44, fc44, am44, hm044, hm144⟩ := hQ44
    have N44 := Fr.app N43 N44q
    have sz44 : n0 ≤ T44.heap.size := Nat.le_trans sz43 K44.1
    show OwnG p e below s _ _ _ (T44.setTop (mkF m 91 #[.val (.int p1), .val (.int p2), .val (.ref ob), .val (.ref ar), .val (.int (1 : Int32))] [(.int (1 : Int32)), (.int (1 : Int32))]))
    refine own_by (fun t kk_ => XS.iand X44.here hx rfl (hb hby at_91) rfl kk_) ?_
    show OwnG p e below s _ _ _ (T44.setTop (mkF m 92 #[.val (.int p1), .val (.int p2), .val (.ref ob), .val (.ref ar), .val (.int (1 : Int32))] [(.int ((1 : Int32) &&& (1 : Int32)))]))
    rw [own_11]
    show OwnG p e below s _ _ _ (T44.setTop (mkF m 92 #[.val (.int p1), .val (.int p2), .val (.ref ob), .val (.ref ar), .val (.int (1 : Int32))] [(.int (1 : Int32))]))
    refine own_by (fun t kk_ => XS.istore X44.here hx rfl (hb hby at_92) rfl (l' := #[.val (.int p1), .val (.int p2), .val (.ref ob), .val (.ref ar), .val (.int (1 : Int32))]) rfl kk_) ?_
    show OwnG p e below s _ _ _ (T44.setTop (mkF m 94 #[.val (.int p1), .val (.int p2), .val (.ref ob), .val (.ref ar), .val (.int (1 : Int32))] []))
    refine own_by (fun t kk_ => XS.iload X44.here hx rfl (hb hby at_94) rfl  kk_) ?_
    show OwnG p e below s _ _ _ (T44.setTop (mkF m 96 #[.val (.int p1), .val (.int p2), .val (.ref ob), .val (.ref ar), .val (.int (1 : Int32))] [(.int (1 : Int32))]))
    refine own_by (fun t kk_ => XS.aloadN X44.here hx rfl (hb hby at_96) rfl rfl kk_) ?_
    show OwnG p e below s _ _ _ (T44.setTop (mkF m 97 #[.val (.int p1), .val (.int p2), .val (.ref ob), .val (.ref ar), .val (.int (1 : Int32))] [(.ref ob), (.int (1 : Int32))]))
    refine own_by (fun t kk_ => XS.aloadN X44.here hx rfl (hb hby at_97) rfl rfl kk_) ?_
    show OwnG p e below s _ _ _ (T44.setTop (mkF m 98 #[.val (.int p1), .val (.int p2), .val (.ref ob), .val (.ref ar), .val (.int (1 : Int32))] [(.ref ar), (.ref ob), (.int (1 : Int32))]))
    refine own_by (fun t kk_ => XS.iloadN X44.here hx rfl (hb hby at_98) rfl  kk_) ?_
    show OwnG p e below s _ _ _ (T44.setTop (mkF m 99 #[.val (.int p1), .val (.int p2), .val (.ref ob), .val (.ref ar), .val (.int (1 : Int32))] [(.int p1), (.ref ar), (.ref ob), (.int (1 : Int32))]))
    refine own_by (fun t kk_ => XS.iconst X44.here hx rfl (hb hby at_99) kk_) ?_
    show OwnG p e below s _ _ _ (T44.setTop (mkF m 100 #[.val (.int p1), .val (.int p2), .val (.ref ob), .val (.ref ar), .val (.int (1 : Int32))] [(.int (4 : Int32)), (.int p1), (.ref ar), (.ref ob), (.int (1 : Int32))]))
    refine own_by (fun t kk_ => XS.iloadN X44.here hx rfl (hb hby at_100) rfl  kk_) ?_
    show OwnG p e below s _ _ _ (T44.setTop (mkF m 101 #[.val (.int p1), .val (.int p2), .val (.ref ob), .val (.ref ar), .val (.int (1 : Int32))] [(.int p2), (.int (4 : Int32)), (.int p1), (.ref ar), (.ref ob), (.int (1 : Int32))]))
    obtain ⟨_, _, ⟨T45, L45, k45, n45⟩, -, X45, ⟨Lc45, hQ45, l45, y45, z45⟩, st45⟩ := Jvm.LawKit.callS X44 hx (y := (⟨"com/example/score_on_crawl/scoreoncrawl/engine/CycleSequenceNextPinLaw", "step", "(Lcom/example/score_on_crawl/scoreoncrawl/engine/CycleSequence;[IIII)Z"⟩ : MethodName)) hown (mvT hZ (hw _ (List.mem_of_getElem? (i := 17) rfl))) (mvT hZ (hw _ (List.mem_of_getElem? (i := 18) rfl))) (mvT hZ (hw _ (List.mem_of_getElem? (i := 19) rfl))) (mvT hZ (hw _ (List.mem_of_getElem? (i := 20) rfl))) (by decide) (backOf (W := 1) (rm4 l Z a0 hw [] ob ar p1 (4 : Int32) p2 Pg44 Cu44 M44 fm44 5 T44.heap n0 sz44 x44 fp44 fc44 gg_ob am44 hm044 hm144 ne9 gg_ar hi44  (by decide)) hZ (hw _ (List.mem_of_getElem? (i := 20) rfl)) (hw _ (List.mem_of_getElem? (i := 19) rfl)) (by decide) (by decide)) (g := (mkF m 101 #[.val (.int p1), .val (.int p2), .val (.ref ob), .val (.ref ar), .val (.int (1 : Int32))] [(.int p2), (.int (4 : Int32)), (.int p1), (.ref ar), (.ref ob), (.int (1 : Int32))])) rfl (by rw [hml]; rfl) (argsL := [(.ref ob), (.ref ar), (.int p1), (.int (4 : Int32)), (.int p2)]) (rest := [(.int (1 : Int32))]) (lenOf pd_3 rfl) rfl (by show 2 * 0 + _ ≤ _; exact Nat.le_of_eq rfl) (hb hby at_101) (fun _ _ => ⟨rfl, (rfl : T44.heap = T44.heap), (by decide : 0 + 1 + 1 + 0 ≤ _), (by decide : 0 + 2 + 2 + 0 ≤ _)⟩)
    dsimp only [Pt.U, Pt.locs, Pt.cells, Pt.slots] at X45 l45 y45 z45 st45 hQ45
    subst l45 y45 z45
    refine own_by (fun t kk_ => st45 _ kk_) ?_
    obtain ⟨rfl, N45q, K45, x45, Pg45, Cu45, M45, fm45, hi45, fp45, fc45, am45, hm045, hm145⟩ := hQ45
    have N45 := Fr.app N44 N45q
    have sz45 : n0 ≤ T45.heap.size := Nat.le_trans sz44 K45.1
    show OwnG p e below s _ _ _ (T45.setTop (mkF m 104 #[.val (.int p1), .val (.int p2), .val (.ref ob), .val (.ref ar), .val (.int (1 : Int32))] [(.int (1 : Int32)), (.int (1 : Int32))]))
    refine own_by (fun t kk_ => XS.iand X45.here hx rfl (hb hby at_104) rfl kk_) ?_
    show OwnG p e below s _ _ _ (T45.setTop (mkF m 105 #[.val (.int p1), .val (.int p2), .val (.ref ob), .val (.ref ar), .val (.int (1 : Int32))] [(.int ((1 : Int32) &&& (1 : Int32)))]))
    rw [own_11]
    show OwnG p e below s _ _ _ (T45.setTop (mkF m 105 #[.val (.int p1), .val (.int p2), .val (.ref ob), .val (.ref ar), .val (.int (1 : Int32))] [(.int (1 : Int32))]))
    refine own_by (fun t kk_ => XS.istore X45.here hx rfl (hb hby at_105) rfl (l' := #[.val (.int p1), .val (.int p2), .val (.ref ob), .val (.ref ar), .val (.int (1 : Int32))]) rfl kk_) ?_
    show OwnG p e below s _ _ _ (T45.setTop (mkF m 107 #[.val (.int p1), .val (.int p2), .val (.ref ob), .val (.ref ar), .val (.int (1 : Int32))] []))
    refine own_by (fun t kk_ => XS.iload X45.here hx rfl (hb hby at_107) rfl  kk_) ?_
    show OwnG p e below s _ _ _ (T45.setTop (mkF m 109 #[.val (.int p1), .val (.int p2), .val (.ref ob), .val (.ref ar), .val (.int (1 : Int32))] [(.int (1 : Int32))]))
    refine own_by (fun t kk_ => XS.aloadN X45.here hx rfl (hb hby at_109) rfl rfl kk_) ?_
    show OwnG p e below s _ _ _ (T45.setTop (mkF m 110 #[.val (.int p1), .val (.int p2), .val (.ref ob), .val (.ref ar), .val (.int (1 : Int32))] [(.ref ob), (.int (1 : Int32))]))
    refine own_by (fun t kk_ => XS.aloadN X45.here hx rfl (hb hby at_110) rfl rfl kk_) ?_
    show OwnG p e below s _ _ _ (T45.setTop (mkF m 111 #[.val (.int p1), .val (.int p2), .val (.ref ob), .val (.ref ar), .val (.int (1 : Int32))] [(.ref ar), (.ref ob), (.int (1 : Int32))]))
    refine own_by (fun t kk_ => XS.iloadN X45.here hx rfl (hb hby at_111) rfl  kk_) ?_
    show OwnG p e below s _ _ _ (T45.setTop (mkF m 112 #[.val (.int p1), .val (.int p2), .val (.ref ob), .val (.ref ar), .val (.int (1 : Int32))] [(.int p1), (.ref ar), (.ref ob), (.int (1 : Int32))]))
    refine own_by (fun t kk_ => XS.iconst X45.here hx rfl (hb hby at_112) kk_) ?_
    show OwnG p e below s _ _ _ (T45.setTop (mkF m 113 #[.val (.int p1), .val (.int p2), .val (.ref ob), .val (.ref ar), .val (.int (1 : Int32))] [(.int (5 : Int32)), (.int p1), (.ref ar), (.ref ob), (.int (1 : Int32))]))
    refine own_by (fun t kk_ => XS.iloadN X45.here hx rfl (hb hby at_113) rfl  kk_) ?_
    show OwnG p e below s _ _ _ (T45.setTop (mkF m 114 #[.val (.int p1), .val (.int p2), .val (.ref ob), .val (.ref ar), .val (.int (1 : Int32))] [(.int p2), (.int (5 : Int32)), (.int p1), (.ref ar), (.ref ob), (.int (1 : Int32))]))
    obtain ⟨_, _, ⟨T46, L46, k46, n46⟩, -, X46, ⟨Lc46, hQ46, l46, y46, z46⟩, st46⟩ := Jvm.LawKit.callS X45 hx (y := (⟨"com/example/score_on_crawl/scoreoncrawl/engine/CycleSequenceNextPinLaw", "step", "(Lcom/example/score_on_crawl/scoreoncrawl/engine/CycleSequence;[IIII)Z"⟩ : MethodName)) hown (mvT hZ (hw _ (List.mem_of_getElem? (i := 17) rfl))) (mvT hZ (hw _ (List.mem_of_getElem? (i := 18) rfl))) (mvT hZ (hw _ (List.mem_of_getElem? (i := 19) rfl))) (mvT hZ (hw _ (List.mem_of_getElem? (i := 20) rfl))) (by decide) (backOf (W := 1) (rm4 l Z a0 hw [] ob ar p1 (5 : Int32) p2 Pg45 Cu45 M45 fm45 6 T45.heap n0 sz45 x45 fp45 fc45 gg_ob am45 hm045 hm145 ne9 gg_ar hi45  (by decide)) hZ (hw _ (List.mem_of_getElem? (i := 20) rfl)) (hw _ (List.mem_of_getElem? (i := 19) rfl)) (by decide) (by decide)) (g := (mkF m 114 #[.val (.int p1), .val (.int p2), .val (.ref ob), .val (.ref ar), .val (.int (1 : Int32))] [(.int p2), (.int (5 : Int32)), (.int p1), (.ref ar), (.ref ob), (.int (1 : Int32))])) rfl (by rw [hml]; rfl) (argsL := [(.ref ob), (.ref ar), (.int p1), (.int (5 : Int32)), (.int p2)]) (rest := [(.int (1 : Int32))]) (lenOf pd_3 rfl) rfl (by show 2 * 0 + _ ≤ _; exact Nat.le_of_eq rfl) (hb hby at_114) (fun _ _ => ⟨rfl, (rfl : T45.heap = T45.heap), (by decide : 0 + 1 + 1 + 0 ≤ _), (by decide : 0 + 2 + 2 + 0 ≤ _)⟩)
    dsimp only [Pt.U, Pt.locs, Pt.cells, Pt.slots] at X46 l46 y46 z46 st46 hQ46
    subst l46 y46 z46
    refine own_by (fun t kk_ => st46 _ kk_) ?_
    obtain ⟨rfl, N46q, K46, x46, Pg46, Cu46, M46, fm46, hi46, fp46, fc46, am46, hm046, hm146⟩ := hQ46
    have N46 := Fr.app N45 N46q
    have sz46 : n0 ≤ T46.heap.size := Nat.le_trans sz45 K46.1
    show OwnG p e below s _ _ _ (T46.setTop (mkF m 117 #[.val (.int p1), .val (.int p2), .val (.ref ob), .val (.ref ar), .val (.int (1 : Int32))] [(.int (1 : Int32)), (.int (1 : Int32))]))
    refine own_by (fun t kk_ => XS.iand X46.here hx rfl (hb hby at_117) rfl kk_) ?_
    show OwnG p e below s _ _ _ (T46.setTop (mkF m 118 #[.val (.int p1), .val (.int p2), .val (.ref ob), .val (.ref ar), .val (.int (1 : Int32))] [(.int ((1 : Int32) &&& (1 : Int32)))]))
    rw [own_11]
    show OwnG p e below s _ _ _ (T46.setTop (mkF m 118 #[.val (.int p1), .val (.int p2), .val (.ref ob), .val (.ref ar), .val (.int (1 : Int32))] [(.int (1 : Int32))]))
    refine own_by (fun t kk_ => XS.istore X46.here hx rfl (hb hby at_118) rfl (l' := #[.val (.int p1), .val (.int p2), .val (.ref ob), .val (.ref ar), .val (.int (1 : Int32))]) rfl kk_) ?_
    show OwnG p e below s _ _ _ (T46.setTop (mkF m 120 #[.val (.int p1), .val (.int p2), .val (.ref ob), .val (.ref ar), .val (.int (1 : Int32))] []))
    refine own_by (fun t kk_ => XS.iload X46.here hx rfl (hb hby at_120) rfl  kk_) ?_
    show OwnG p e below s _ _ _ (T46.setTop (mkF m 122 #[.val (.int p1), .val (.int p2), .val (.ref ob), .val (.ref ar), .val (.int (1 : Int32))] [(.int (1 : Int32))]))
    refine own_by (fun t kk_ => XS.aloadN X46.here hx rfl (hb hby at_122) rfl rfl kk_) ?_
    show OwnG p e below s _ _ _ (T46.setTop (mkF m 123 #[.val (.int p1), .val (.int p2), .val (.ref ob), .val (.ref ar), .val (.int (1 : Int32))] [(.ref ob), (.int (1 : Int32))]))
    refine own_by (fun t kk_ => XS.aloadN X46.here hx rfl (hb hby at_123) rfl rfl kk_) ?_
    show OwnG p e below s _ _ _ (T46.setTop (mkF m 124 #[.val (.int p1), .val (.int p2), .val (.ref ob), .val (.ref ar), .val (.int (1 : Int32))] [(.ref ar), (.ref ob), (.int (1 : Int32))]))
    refine own_by (fun t kk_ => XS.iloadN X46.here hx rfl (hb hby at_124) rfl  kk_) ?_
    show OwnG p e below s _ _ _ (T46.setTop (mkF m 125 #[.val (.int p1), .val (.int p2), .val (.ref ob), .val (.ref ar), .val (.int (1 : Int32))] [(.int p1), (.ref ar), (.ref ob), (.int (1 : Int32))]))
    refine own_by (fun t kk_ => XS.bipush X46.here hx rfl (hb hby at_125) kk_) ?_
    show OwnG p e below s _ _ _ (T46.setTop (mkF m 127 #[.val (.int p1), .val (.int p2), .val (.ref ob), .val (.ref ar), .val (.int (1 : Int32))] [(.int (6 : Int32)), (.int p1), (.ref ar), (.ref ob), (.int (1 : Int32))]))
    refine own_by (fun t kk_ => XS.iloadN X46.here hx rfl (hb hby at_127) rfl  kk_) ?_
    show OwnG p e below s _ _ _ (T46.setTop (mkF m 128 #[.val (.int p1), .val (.int p2), .val (.ref ob), .val (.ref ar), .val (.int (1 : Int32))] [(.int p2), (.int (6 : Int32)), (.int p1), (.ref ar), (.ref ob), (.int (1 : Int32))]))
    obtain ⟨_, _, ⟨T47, L47, k47, n47⟩, -, X47, ⟨Lc47, hQ47, l47, y47, z47⟩, st47⟩ := Jvm.LawKit.callS X46 hx (y := (⟨"com/example/score_on_crawl/scoreoncrawl/engine/CycleSequenceNextPinLaw", "step", "(Lcom/example/score_on_crawl/scoreoncrawl/engine/CycleSequence;[IIII)Z"⟩ : MethodName)) hown (mvT hZ (hw _ (List.mem_of_getElem? (i := 17) rfl))) (mvT hZ (hw _ (List.mem_of_getElem? (i := 18) rfl))) (mvT hZ (hw _ (List.mem_of_getElem? (i := 19) rfl))) (mvT hZ (hw _ (List.mem_of_getElem? (i := 20) rfl))) (by decide) (backOf (W := 1) (rm4 l Z a0 hw [] ob ar p1 (6 : Int32) p2 Pg46 Cu46 M46 fm46 7 T46.heap n0 sz46 x46 fp46 fc46 gg_ob am46 hm046 hm146 ne9 gg_ar hi46  (by decide)) hZ (hw _ (List.mem_of_getElem? (i := 20) rfl)) (hw _ (List.mem_of_getElem? (i := 19) rfl)) (by decide) (by decide)) (g := (mkF m 128 #[.val (.int p1), .val (.int p2), .val (.ref ob), .val (.ref ar), .val (.int (1 : Int32))] [(.int p2), (.int (6 : Int32)), (.int p1), (.ref ar), (.ref ob), (.int (1 : Int32))])) rfl (by rw [hml]; rfl) (argsL := [(.ref ob), (.ref ar), (.int p1), (.int (6 : Int32)), (.int p2)]) (rest := [(.int (1 : Int32))]) (lenOf pd_3 rfl) rfl (by show 2 * 0 + _ ≤ _; exact Nat.le_of_eq rfl) (hb hby at_128) (fun _ _ => ⟨rfl, (rfl : T46.heap = T46.heap), (by decide : 0 + 1 + 1 + 0 ≤ _), (by decide : 0 + 2 + 2 + 0 ≤ _)⟩)
    dsimp only [Pt.U, Pt.locs, Pt.cells, Pt.slots] at X47 l47 y47 z47 st47 hQ47
    subst l47 y47 z47
    refine own_by (fun t kk_ => st47 _ kk_) ?_
    obtain ⟨rfl, N47q, K47, x47, Pg47, Cu47, M47, fm47, hi47, fp47, fc47, am47, hm047, hm147⟩ := hQ47
    have N47 := Fr.app N46 N47q
    have sz47 : n0 ≤ T47.heap.size := Nat.le_trans sz46 K47.1
    show OwnG p e below s _ _ _ (T47.setTop (mkF m 131 #[.val (.int p1), .val (.int p2), .val (.ref ob), .val (.ref ar), .val (.int (1 : Int32))] [(.int (1 : Int32)), (.int (1 : Int32))]))
    refine own_by (fun t kk_ => XS.iand X47.here hx rfl (hb hby at_131) rfl kk_) ?_
    show OwnG p e below s _ _ _ (T47.setTop (mkF m 132 #[.val (.int p1), .val (.int p2), .val (.ref ob), .val (.ref ar), .val (.int (1 : Int32))] [(.int ((1 : Int32) &&& (1 : Int32)))]))
    rw [own_11]
    show OwnG p e below s _ _ _ (T47.setTop (mkF m 132 #[.val (.int p1), .val (.int p2), .val (.ref ob), .val (.ref ar), .val (.int (1 : Int32))] [(.int (1 : Int32))]))
    refine own_by (fun t kk_ => XS.istore X47.here hx rfl (hb hby at_132) rfl (l' := #[.val (.int p1), .val (.int p2), .val (.ref ob), .val (.ref ar), .val (.int (1 : Int32))]) rfl kk_) ?_
    show OwnG p e below s _ _ _ (T47.setTop (mkF m 134 #[.val (.int p1), .val (.int p2), .val (.ref ob), .val (.ref ar), .val (.int (1 : Int32))] []))
    refine own_by (fun t kk_ => XS.iload X47.here hx rfl (hb hby at_134) rfl  kk_) ?_
    show OwnG p e below s _ _ _ (T47.setTop (mkF m 136 #[.val (.int p1), .val (.int p2), .val (.ref ob), .val (.ref ar), .val (.int (1 : Int32))] [(.int (1 : Int32))]))
    refine own_by (fun t kk_ => XS.aloadN X47.here hx rfl (hb hby at_136) rfl rfl kk_) ?_
    show OwnG p e below s _ _ _ (T47.setTop (mkF m 137 #[.val (.int p1), .val (.int p2), .val (.ref ob), .val (.ref ar), .val (.int (1 : Int32))] [(.ref ob), (.int (1 : Int32))]))
    refine own_by (fun t kk_ => XS.aloadN X47.here hx rfl (hb hby at_137) rfl rfl kk_) ?_
    show OwnG p e below s _ _ _ (T47.setTop (mkF m 138 #[.val (.int p1), .val (.int p2), .val (.ref ob), .val (.ref ar), .val (.int (1 : Int32))] [(.ref ar), (.ref ob), (.int (1 : Int32))]))
    refine own_by (fun t kk_ => XS.iloadN X47.here hx rfl (hb hby at_138) rfl  kk_) ?_
    show OwnG p e below s _ _ _ (T47.setTop (mkF m 139 #[.val (.int p1), .val (.int p2), .val (.ref ob), .val (.ref ar), .val (.int (1 : Int32))] [(.int p1), (.ref ar), (.ref ob), (.int (1 : Int32))]))
    refine own_by (fun t kk_ => XS.bipush X47.here hx rfl (hb hby at_139) kk_) ?_
    show OwnG p e below s _ _ _ (T47.setTop (mkF m 141 #[.val (.int p1), .val (.int p2), .val (.ref ob), .val (.ref ar), .val (.int (1 : Int32))] [(.int (7 : Int32)), (.int p1), (.ref ar), (.ref ob), (.int (1 : Int32))]))
    refine own_by (fun t kk_ => XS.iloadN X47.here hx rfl (hb hby at_141) rfl  kk_) ?_
    show OwnG p e below s _ _ _ (T47.setTop (mkF m 142 #[.val (.int p1), .val (.int p2), .val (.ref ob), .val (.ref ar), .val (.int (1 : Int32))] [(.int p2), (.int (7 : Int32)), (.int p1), (.ref ar), (.ref ob), (.int (1 : Int32))]))
    obtain ⟨_, _, ⟨T48, L48, k48, n48⟩, -, X48, ⟨Lc48, hQ48, l48, y48, z48⟩, st48⟩ := Jvm.LawKit.callS X47 hx (y := (⟨"com/example/score_on_crawl/scoreoncrawl/engine/CycleSequenceNextPinLaw", "step", "(Lcom/example/score_on_crawl/scoreoncrawl/engine/CycleSequence;[IIII)Z"⟩ : MethodName)) hown (mvT hZ (hw _ (List.mem_of_getElem? (i := 17) rfl))) (mvT hZ (hw _ (List.mem_of_getElem? (i := 18) rfl))) (mvT hZ (hw _ (List.mem_of_getElem? (i := 19) rfl))) (mvT hZ (hw _ (List.mem_of_getElem? (i := 20) rfl))) (by decide) (backOf (W := 1) (rm4 l Z a0 hw [] ob ar p1 (7 : Int32) p2 Pg47 Cu47 M47 fm47 8 T47.heap n0 sz47 x47 fp47 fc47 gg_ob am47 hm047 hm147 ne9 gg_ar hi47  (by decide)) hZ (hw _ (List.mem_of_getElem? (i := 20) rfl)) (hw _ (List.mem_of_getElem? (i := 19) rfl)) (by decide) (by decide)) (g := (mkF m 142 #[.val (.int p1), .val (.int p2), .val (.ref ob), .val (.ref ar), .val (.int (1 : Int32))] [(.int p2), (.int (7 : Int32)), (.int p1), (.ref ar), (.ref ob), (.int (1 : Int32))])) rfl (by rw [hml]; rfl) (argsL := [(.ref ob), (.ref ar), (.int p1), (.int (7 : Int32)), (.int p2)]) (rest := [(.int (1 : Int32))]) (lenOf pd_3 rfl) rfl (by show 2 * 0 + _ ≤ _; exact Nat.le_of_eq rfl) (hb hby at_142) (fun _ _ => ⟨rfl, (rfl : T47.heap = T47.heap), (by decide : 0 + 1 + 1 + 0 ≤ _), (by decide : 0 + 2 + 2 + 0 ≤ _)⟩)
    dsimp only [Pt.U, Pt.locs, Pt.cells, Pt.slots] at X48 l48 y48 z48 st48 hQ48
    subst l48 y48 z48
    refine own_by (fun t kk_ => st48 _ kk_) ?_
    obtain ⟨rfl, N48q, K48, x48, Pg48, Cu48, M48, fm48, hi48, fp48, fc48, am48, hm048, hm148⟩ := hQ48
    have N48 := Fr.app N47 N48q
    have sz48 : n0 ≤ T48.heap.size := Nat.le_trans sz47 K48.1
    show OwnG p e below s _ _ _ (T48.setTop (mkF m 145 #[.val (.int p1), .val (.int p2), .val (.ref ob), .val (.ref ar), .val (.int (1 : Int32))] [(.int (1 : Int32)), (.int (1 : Int32))]))
    refine own_by (fun t kk_ => XS.iand X48.here hx rfl (hb hby at_145) rfl kk_) ?_
    show OwnG p e below s _ _ _ (T48.setTop (mkF m 146 #[.val (.int p1), .val (.int p2), .val (.ref ob), .val (.ref ar), .val (.int (1 : Int32))] [(.int ((1 : Int32) &&& (1 : Int32)))]))
    rw [own_11]
    show OwnG p e below s _ _ _ (T48.setTop (mkF m 146 #[.val (.int p1), .val (.int p2), .val (.ref ob), .val (.ref ar), .val (.int (1 : Int32))] [(.int (1 : Int32))]))
    refine own_by (fun t kk_ => XS.istore X48.here hx rfl (hb hby at_146) rfl (l' := #[.val (.int p1), .val (.int p2), .val (.ref ob), .val (.ref ar), .val (.int (1 : Int32))]) rfl kk_) ?_
    show OwnG p e below s _ _ _ (T48.setTop (mkF m 148 #[.val (.int p1), .val (.int p2), .val (.ref ob), .val (.ref ar), .val (.int (1 : Int32))] []))
    refine own_by (fun t kk_ => XS.iload X48.here hx rfl (hb hby at_148) rfl  kk_) ?_
    show OwnG p e below s _ _ _ (T48.setTop (mkF m 150 #[.val (.int p1), .val (.int p2), .val (.ref ob), .val (.ref ar), .val (.int (1 : Int32))] [(.int (1 : Int32))]))
    refine own_by (fun t kk_ => XS.aloadN X48.here hx rfl (hb hby at_150) rfl rfl kk_) ?_
    show OwnG p e below s _ _ _ (T48.setTop (mkF m 151 #[.val (.int p1), .val (.int p2), .val (.ref ob), .val (.ref ar), .val (.int (1 : Int32))] [(.ref ob), (.int (1 : Int32))]))
    refine own_by (fun t kk_ => XS.aloadN X48.here hx rfl (hb hby at_151) rfl rfl kk_) ?_
    show OwnG p e below s _ _ _ (T48.setTop (mkF m 152 #[.val (.int p1), .val (.int p2), .val (.ref ob), .val (.ref ar), .val (.int (1 : Int32))] [(.ref ar), (.ref ob), (.int (1 : Int32))]))
    refine own_by (fun t kk_ => XS.iloadN X48.here hx rfl (hb hby at_152) rfl  kk_) ?_
    show OwnG p e below s _ _ _ (T48.setTop (mkF m 153 #[.val (.int p1), .val (.int p2), .val (.ref ob), .val (.ref ar), .val (.int (1 : Int32))] [(.int p1), (.ref ar), (.ref ob), (.int (1 : Int32))]))
    refine own_by (fun t kk_ => XS.bipush X48.here hx rfl (hb hby at_153) kk_) ?_
    show OwnG p e below s _ _ _ (T48.setTop (mkF m 155 #[.val (.int p1), .val (.int p2), .val (.ref ob), .val (.ref ar), .val (.int (1 : Int32))] [(.int (8 : Int32)), (.int p1), (.ref ar), (.ref ob), (.int (1 : Int32))]))
    refine own_by (fun t kk_ => XS.iloadN X48.here hx rfl (hb hby at_155) rfl  kk_) ?_
    show OwnG p e below s _ _ _ (T48.setTop (mkF m 156 #[.val (.int p1), .val (.int p2), .val (.ref ob), .val (.ref ar), .val (.int (1 : Int32))] [(.int p2), (.int (8 : Int32)), (.int p1), (.ref ar), (.ref ob), (.int (1 : Int32))]))
    obtain ⟨_, _, ⟨T49, L49, k49, n49⟩, -, X49, ⟨Lc49, hQ49, l49, y49, z49⟩, st49⟩ := Jvm.LawKit.callS X48 hx (y := (⟨"com/example/score_on_crawl/scoreoncrawl/engine/CycleSequenceNextPinLaw", "step", "(Lcom/example/score_on_crawl/scoreoncrawl/engine/CycleSequence;[IIII)Z"⟩ : MethodName)) hown (mvT hZ (hw _ (List.mem_of_getElem? (i := 17) rfl))) (mvT hZ (hw _ (List.mem_of_getElem? (i := 18) rfl))) (mvT hZ (hw _ (List.mem_of_getElem? (i := 19) rfl))) (mvT hZ (hw _ (List.mem_of_getElem? (i := 20) rfl))) (by decide) (backOf (W := 1) (rm4 l Z a0 hw [] ob ar p1 (8 : Int32) p2 Pg48 Cu48 M48 fm48 9 T48.heap n0 sz48 x48 fp48 fc48 gg_ob am48 hm048 hm148 ne9 gg_ar hi48  (by decide)) hZ (hw _ (List.mem_of_getElem? (i := 20) rfl)) (hw _ (List.mem_of_getElem? (i := 19) rfl)) (by decide) (by decide)) (g := (mkF m 156 #[.val (.int p1), .val (.int p2), .val (.ref ob), .val (.ref ar), .val (.int (1 : Int32))] [(.int p2), (.int (8 : Int32)), (.int p1), (.ref ar), (.ref ob), (.int (1 : Int32))])) rfl (by rw [hml]; rfl) (argsL := [(.ref ob), (.ref ar), (.int p1), (.int (8 : Int32)), (.int p2)]) (rest := [(.int (1 : Int32))]) (lenOf pd_3 rfl) rfl (by show 2 * 0 + _ ≤ _; exact Nat.le_of_eq rfl) (hb hby at_156) (fun _ _ => ⟨rfl, (rfl : T48.heap = T48.heap), (by decide : 0 + 1 + 1 + 0 ≤ _), (by decide : 0 + 2 + 2 + 0 ≤ _)⟩)
    dsimp only [Pt.U, Pt.locs, Pt.cells, Pt.slots] at X49 l49 y49 z49 st49 hQ49
    subst l49 y49 z49
    refine own_by (fun t kk_ => st49 _ kk_) ?_
    obtain ⟨rfl, N49q, K49, x49, Pg49, Cu49, M49, fm49, hi49, fp49, fc49, am49, hm049, hm149⟩ := hQ49
    have N49 := Fr.app N48 N49q
    have sz49 : n0 ≤ T49.heap.size := Nat.le_trans sz48 K49.1
    show OwnG p e below s _ _ _ (T49.setTop (mkF m 159 #[.val (.int p1), .val (.int p2), .val (.ref ob), .val (.ref ar), .val (.int (1 : Int32))] [(.int (1 : Int32)), (.int (1 : Int32))]))
    refine own_by (fun t kk_ => XS.iand X49.here hx rfl (hb hby at_159) rfl kk_) ?_
    show OwnG p e below s _ _ _ (T49.setTop (mkF m 160 #[.val (.int p1), .val (.int p2), .val (.ref ob), .val (.ref ar), .val (.int (1 : Int32))] [(.int ((1 : Int32) &&& (1 : Int32)))]))
    rw [own_11]
    show OwnG p e below s _ _ _ (T49.setTop (mkF m 160 #[.val (.int p1), .val (.int p2), .val (.ref ob), .val (.ref ar), .val (.int (1 : Int32))] [(.int (1 : Int32))]))
    refine own_by (fun t kk_ => XS.istore X49.here hx rfl (hb hby at_160) rfl (l' := #[.val (.int p1), .val (.int p2), .val (.ref ob), .val (.ref ar), .val (.int (1 : Int32))]) rfl kk_) ?_
    show OwnG p e below s _ _ _ (T49.setTop (mkF m 162 #[.val (.int p1), .val (.int p2), .val (.ref ob), .val (.ref ar), .val (.int (1 : Int32))] []))
    refine own_by (fun t kk_ => XS.iload X49.here hx rfl (hb hby at_162) rfl  kk_) ?_
    show OwnG p e below s _ _ _ (T49.setTop (mkF m 164 #[.val (.int p1), .val (.int p2), .val (.ref ob), .val (.ref ar), .val (.int (1 : Int32))] [(.int (1 : Int32))]))
    refine own_by (fun t kk_ => XS.aloadN X49.here hx rfl (hb hby at_164) rfl rfl kk_) ?_
    show OwnG p e below s _ _ _ (T49.setTop (mkF m 165 #[.val (.int p1), .val (.int p2), .val (.ref ob), .val (.ref ar), .val (.int (1 : Int32))] [(.ref ob), (.int (1 : Int32))]))
    refine own_by (fun t kk_ => XS.aloadN X49.here hx rfl (hb hby at_165) rfl rfl kk_) ?_
    show OwnG p e below s _ _ _ (T49.setTop (mkF m 166 #[.val (.int p1), .val (.int p2), .val (.ref ob), .val (.ref ar), .val (.int (1 : Int32))] [(.ref ar), (.ref ob), (.int (1 : Int32))]))
    refine own_by (fun t kk_ => XS.iloadN X49.here hx rfl (hb hby at_166) rfl  kk_) ?_
    show OwnG p e below s _ _ _ (T49.setTop (mkF m 167 #[.val (.int p1), .val (.int p2), .val (.ref ob), .val (.ref ar), .val (.int (1 : Int32))] [(.int p1), (.ref ar), (.ref ob), (.int (1 : Int32))]))
    refine own_by (fun t kk_ => XS.bipush X49.here hx rfl (hb hby at_167) kk_) ?_
    show OwnG p e below s _ _ _ (T49.setTop (mkF m 169 #[.val (.int p1), .val (.int p2), .val (.ref ob), .val (.ref ar), .val (.int (1 : Int32))] [(.int (9 : Int32)), (.int p1), (.ref ar), (.ref ob), (.int (1 : Int32))]))
    refine own_by (fun t kk_ => XS.iloadN X49.here hx rfl (hb hby at_169) rfl  kk_) ?_
    show OwnG p e below s _ _ _ (T49.setTop (mkF m 170 #[.val (.int p1), .val (.int p2), .val (.ref ob), .val (.ref ar), .val (.int (1 : Int32))] [(.int p2), (.int (9 : Int32)), (.int p1), (.ref ar), (.ref ob), (.int (1 : Int32))]))
    obtain ⟨_, _, ⟨T50, L50, k50, n50⟩, -, X50, ⟨Lc50, hQ50, l50, y50, z50⟩, st50⟩ := Jvm.LawKit.callS X49 hx (y := (⟨"com/example/score_on_crawl/scoreoncrawl/engine/CycleSequenceNextPinLaw", "step", "(Lcom/example/score_on_crawl/scoreoncrawl/engine/CycleSequence;[IIII)Z"⟩ : MethodName)) hown (mvT hZ (hw _ (List.mem_of_getElem? (i := 17) rfl))) (mvT hZ (hw _ (List.mem_of_getElem? (i := 18) rfl))) (mvT hZ (hw _ (List.mem_of_getElem? (i := 19) rfl))) (mvT hZ (hw _ (List.mem_of_getElem? (i := 20) rfl))) (by decide) (backOf (W := 1) (rm4 l Z a0 hw [] ob ar p1 (9 : Int32) p2 Pg49 Cu49 M49 fm49 10 T49.heap n0 sz49 x49 fp49 fc49 gg_ob am49 hm049 hm149 ne9 gg_ar hi49  (by decide)) hZ (hw _ (List.mem_of_getElem? (i := 20) rfl)) (hw _ (List.mem_of_getElem? (i := 19) rfl)) (by decide) (by decide)) (g := (mkF m 170 #[.val (.int p1), .val (.int p2), .val (.ref ob), .val (.ref ar), .val (.int (1 : Int32))] [(.int p2), (.int (9 : Int32)), (.int p1), (.ref ar), (.ref ob), (.int (1 : Int32))])) rfl (by rw [hml]; rfl) (argsL := [(.ref ob), (.ref ar), (.int p1), (.int (9 : Int32)), (.int p2)]) (rest := [(.int (1 : Int32))]) (lenOf pd_3 rfl) rfl (by show 2 * 0 + _ ≤ _; exact Nat.le_of_eq rfl) (hb hby at_170) (fun _ _ => ⟨rfl, (rfl : T49.heap = T49.heap), (by decide : 0 + 1 + 1 + 0 ≤ _), (by decide : 0 + 2 + 2 + 0 ≤ _)⟩)
    dsimp only [Pt.U, Pt.locs, Pt.cells, Pt.slots] at X50 l50 y50 z50 st50 hQ50
    subst l50 y50 z50
    refine own_by (fun t kk_ => st50 _ kk_) ?_
    obtain ⟨rfl, N50q, K50, x50, Pg50, Cu50, M50, fm50, hi50, fp50, fc50, am50, hm050, hm150⟩ := hQ50
    have N50 := Fr.app N49 N50q
    have sz50 : n0 ≤ T50.heap.size := Nat.le_trans sz49 K50.1
    show OwnG p e below s _ _ _ (T50.setTop (mkF m 173 #[.val (.int p1), .val (.int p2), .val (.ref ob), .val (.ref ar), .val (.int (1 : Int32))] [(.int (1 : Int32)), (.int (1 : Int32))]))
    refine own_by (fun t kk_ => XS.iand X50.here hx rfl (hb hby at_173) rfl kk_) ?_
    show OwnG p e below s _ _ _ (T50.setTop (mkF m 174 #[.val (.int p1), .val (.int p2), .val (.ref ob), .val (.ref ar), .val (.int (1 : Int32))] [(.int ((1 : Int32) &&& (1 : Int32)))]))
    rw [own_11]
    show OwnG p e below s _ _ _ (T50.setTop (mkF m 174 #[.val (.int p1), .val (.int p2), .val (.ref ob), .val (.ref ar), .val (.int (1 : Int32))] [(.int (1 : Int32))]))
    refine own_by (fun t kk_ => XS.istore X50.here hx rfl (hb hby at_174) rfl (l' := #[.val (.int p1), .val (.int p2), .val (.ref ob), .val (.ref ar), .val (.int (1 : Int32))]) rfl kk_) ?_
    show OwnG p e below s _ _ _ (T50.setTop (mkF m 176 #[.val (.int p1), .val (.int p2), .val (.ref ob), .val (.ref ar), .val (.int (1 : Int32))] []))
    refine own_by (fun t kk_ => XS.iload X50.here hx rfl (hb hby at_176) rfl  kk_) ?_
    show OwnG p e below s _ _ _ (T50.setTop (mkF m 178 #[.val (.int p1), .val (.int p2), .val (.ref ob), .val (.ref ar), .val (.int (1 : Int32))] [(.int (1 : Int32))]))
    exact own_outN X50 hx hret (by simp) hlk (hb hby at_178) rfl (⟨rfl, N50⟩) (by decide) (by decide)
set_option maxRecDepth 65536 in
set_option maxHeartbeats 40000000 in
theorem comes_1 {Post : Tables → Env → Array Value → State → Outcome → State → Prop} (hpost : ∀ tb e args s v u, (limb_1_1.after args s (.returned v) u = true ∧ limb_1_2.after args s (.returned v) u = true ∧ True) → FrameEnd s (.returned v) u (Jvm.fieldLocs frame_1_writes args s ++ Jvm.arrayLocs frame_1_arrays args s ++ Jvm.staticLocs frame_1_statics s) 16 128 → Post tb e args s (.returned v) u) :
    ArmFor flags0 classFile x code maxLocals ret World_1 tables_1 room_1 Calls_1 rest_1 Pre_1 Post := by
  intro l hfl _ _ p e ha hc hk s m args below hf hA hF happ hP
  obtain ⟨hcalls, hrest, hpre⟩ := hP
  obtain ⟨-, -, -, hnamed, -, -, -, hat⟩ := (Spec.applies_iff hf).mp happ
  obtain ⟨hg, hn⟩ := and_e (Cond.before_iff.mp (show (Jvm.Cond.and given_1 narrow_1).before args s = true from hpre))
  obtain ⟨gc, gr0⟩ := and_e hg
  obtain ⟨ga0, gr1⟩ := and_e gr0
  obtain ⟨w0, w1, rfl⟩ : ∃ w0 w1 : Value, args = #[w0, w1] := by
    have hs : args.size = 2 := by simpa [Cond.value, given_1] using gc
    obtain ⟨L⟩ := args
    match L, hs with
    | [w0, w1], _ => exact ⟨w0, w1, rfl⟩
  have hw := fun d (hd : d ∈ tables_1) => atoms_spec (ws := Jvm.Cond.code x code maxLocals ret :: tables_1) hat d (List.mem_cons_of_mem _ hd)
  obtain ⟨i0, ei0⟩ := is_v ga0
  obtain rfl : w0 = (.int i0) := Option.some.inj ei0
  obtain ⟨i1, ei1⟩ := is_v gr1
  obtain rfl : w1 = (.int i1) := Option.some.inj ei1
  obtain ⟨n, o, h1, h2, h3, _, L, rfl, ⟨rfl, N⟩, hq⟩ := rm0 l s _ hw tables_1 i0 i1 s.heap s.heap.size (Nat.le_refl _) p e ha hc hk s m _ below hf ((Spec.applies_iff_loose hf).mp happ).1 ⟨rfl, State.Warmed39.refl s, rfl⟩ trivial
  refine ⟨n, _, h1, h2, h3, hpost _ _ _ _ _ _ ⟨Cond.after_iff.mpr rfl, Cond.after_iff.mpr (eq_i res_at (Term.int_eval (1)) rfl), trivial⟩ ⟨hq.1, hq.2.1, (hq.2.2.sift fun y hy => Or.inr (N y hy)).mono (by decide) (by decide)⟩⟩
theorem main_1_1 : Claimed_1_1 := comes_1 fun _ _ _ _ _ _ h hF => ⟨h.1, hF⟩
theorem main_1_2 : Claimed_1_2 := comes_1 fun _ _ _ _ _ _ h hF => ⟨h.2.1, hF⟩
end Jvm.Pilot.@@N@@
namespace Jvm.Pilot.@@N@@
open Jvm Jvm.ClassFile Sem Op Lib Jvm.Free Jvm.Stand Jvm.Pilot.@@N@@.Jvm.D
/-! MADE BY PROGRAM (witnessworld.py) out of the Statement's table words and the real class files: 10 classes; the members and pool entries that the words name. The judged class is class 1, her method 2. -/
namespace start1
open Jvm.ClassFile
def u (s : String) : CpInfo := .utf8 (stringToUtf16 s)
/-- a pool by its gaps: so many unusable entries, then the entry; so many at the end -/
def gap : Nat → List CpInfo → List CpInfo
  | 0, r => r
  | n + 1, r => .unusable :: gap n r
def poolList (es : List (Nat × CpInfo)) (last : Nat) : List CpInfo := es.foldr (fun e r => gap e.1 (e.2 :: r)) (gap last [])
def pool (es : List (Nat × CpInfo)) (last : Nat) : Array CpInfo := ⟨poolList es last⟩
def fileOf (pool : Array CpInfo) (this : Nat) (attrs : Array Attribute := #[]) (ms : Array MethodInfo := #[]) (fl : Nat := 33) (sup : Nat := 0) (ifs : Array Nat := #[]) (fds : Array FieldInfo := #[]) : ClassFile where
  minorVersion := 0
  majorVersion := 65
  constantPool := pool
  accessFlags := fl
  thisClass := this
  superClass := sup
  interfaces := ifs
  fields := fds
  methods := ms
  attributes := attrs
def plain (name : String) (sup : Option ClassId) : Class where
  name := name
  kind := .ordinary
  loader := none
  accessFlags := 33
  super := sup
  interfaces := #[]
  cf := none
  fields := #[]
  methods := #[]
  instanceTypes := #[]
  staticTypes := #[]
  resolved := #[]
  callSites := []
  init := .initialized
  statics := none
  mirror := none

def pool0 : Array CpInfo := pool [(5, u "<init>"), (0, u "()V"), (1, .class_ 10), (1, u "java/lang/Object")] 113

def k0c0 : Code := { maxStack := 0, maxLocals := 1, code := object_method_1_code, exceptionTable := #[], attributes := #[] }
def k0m0 : Method := { name := "<init>", desc := "()V", sig := { parameters := [], returnType := none }, accessFlags := 1, code := some k0c0 }
/-- java/lang/Object -/
def k0 : Class := { plain "java/lang/Object" none with
  accessFlags := 33
  interfaces := #[]
  cf := some (fileOf pool0 8 #[] #[{ accessFlags := 1, nameIndex := 5, descriptorIndex := 6, attributes := #[] }] 33 0 #[] #[])
  fields := #[]
  methods := #[k0m0]
  instanceTypes := #[]
  staticTypes := #[]
  resolved := Array.replicate 124 none
  statics := none }

def pool1 : Array CpInfo := pool [(2, .class_ 4), (0, .nameAndType 5 6), (0, u "java/lang/Object"), (0, u "<init>"), (0, u "()V"), (0, .methodref 8 9), (0, .class_ 10), (0, .nameAndType 11 12), (0, u "com/example/score_on_crawl/scoreoncrawl/engine/CycleSequence"), (0, u "added"), (0, u "(IZ)V"), (0, .methodref 8 14), (0, .nameAndType 15 16), (0, u "next"), (0, u "()I"), (0, .methodref 8 3), (0, .methodref 19 20), (0, .class_ 21), (0, .nameAndType 22 23), (0, u "com/example/score_on_crawl/scoreoncrawl/engine/CycleSequenceNextPinLaw"), (0, u "step"), (0, u "(Lcom/example/score_on_crawl/scoreoncrawl/engine/CycleSequence;[IIII)Z"), (5, u "law"), (0, u "(II)Z")] 2

def k1m0 : Method := { name := "<init>", desc := "()V", sig := { parameters := [], returnType := none }, accessFlags := 2, code := none }
def k1c1 : Code := { maxStack := 4, maxLocals := 7, code := method_2_code, exceptionTable := #[], attributes := #[] }
def k1m1 : Method := { name := "step", desc := "(Lcom/example/score_on_crawl/scoreoncrawl/engine/CycleSequence;[IIII)Z", sig := { parameters := [(.object "com/example/score_on_crawl/scoreoncrawl/engine/CycleSequence"), (.array .int), .int, .int, .int], returnType := some .boolean }, accessFlags := 10, code := some k1c1 }
def k1c2 : Code := { maxStack := 6, maxLocals := 5, code := code, exceptionTable := #[], attributes := #[] }
def k1m2 : Method := { name := "law", desc := "(II)Z", sig := { parameters := [.int, .int], returnType := some .boolean }, accessFlags := 9, code := some k1c2 }
/-- com/example/score_on_crawl/scoreoncrawl/engine/CycleSequenceNextPinLaw -/
def k1 : Class := { plain "com/example/score_on_crawl/scoreoncrawl/engine/CycleSequenceNextPinLaw" (some 0) with
  accessFlags := 49
  interfaces := #[]
  cf := some (fileOf pool1 19 #[] #[{ accessFlags := 2, nameIndex := 5, descriptorIndex := 6, attributes := #[] }, { accessFlags := 10, nameIndex := 22, descriptorIndex := 23, attributes := #[] }, { accessFlags := 9, nameIndex := 29, descriptorIndex := 30, attributes := #[] }] 49 2 #[] #[])
  fields := #[]
  methods := #[k1m0, k1m1, k1m2]
  instanceTypes := #[]
  staticTypes := #[]
  resolved := Array.replicate 33 none
  statics := none }

def pool2 : Array CpInfo := pool [(1, .class_ 2), (0, u "com/example/score_on_crawl/scoreoncrawl/engine/CrawlOrder$Sequence"), (0, .class_ 4), (0, u "java/lang/Object"), (22, .class_ 28), (0, u "com/example/score_on_crawl/scoreoncrawl/engine/CrawlOrder")] 2

/-- com/example/score_on_crawl/scoreoncrawl/engine/CrawlOrder$Sequence -/
def k2 : Class := { plain "com/example/score_on_crawl/scoreoncrawl/engine/CrawlOrder$Sequence" (some 0) with
  accessFlags := 1536
  interfaces := #[]
  cf := some (fileOf pool2 1 #[.nestHost 27] #[] 1536 3 #[] #[])
  fields := #[]
  methods := #[]
  instanceTypes := #[]
  staticTypes := #[]
  resolved := Array.replicate 31 none
  statics := none }

def pool3 : Array CpInfo := pool [(1, .methodref 2 3), (0, .class_ 4), (0, .nameAndType 5 6), (0, u "java/lang/Object"), (0, u "<init>"), (0, u "()V"), (0, .fieldref 8 9), (0, .class_ 10), (0, .nameAndType 11 12), (0, u "com/example/score_on_crawl/scoreoncrawl/engine/CycleSequence"), (0, u "pages"), (0, u "I"), (0, .fieldref 8 14), (0, .nameAndType 15 12), (0, u "cursor"), (29, .class_ 46), (0, u "com/example/score_on_crawl/scoreoncrawl/engine/CrawlOrder$Sequence"), (0, u "CURSOR"), (0, u "Ljava/lang/String;"), (3, u "added"), (0, u "(IZ)V"), (0, u "next"), (0, u "()I")] 25

def k3c0 : Code := { maxStack := 1, maxLocals := 1, code := prog_6_method_1_code, exceptionTable := #[], attributes := #[] }
def k3m0 : Method := { name := "<init>", desc := "()V", sig := { parameters := [], returnType := none }, accessFlags := 0, code := some k3c0 }
def k3c1 : Code := { maxStack := 3, maxLocals := 3, code := prog_6_method_2_code, exceptionTable := #[], attributes := #[] }
def k3m1 : Method := { name := "added", desc := "(IZ)V", sig := { parameters := [.int, .boolean], returnType := none }, accessFlags := 1, code := some k3c1 }
def k3c2 : Code := { maxStack := 4, maxLocals := 1, code := prog_6_method_3_code, exceptionTable := #[], attributes := #[] }
def k3m2 : Method := { name := "next", desc := "()I", sig := { parameters := [], returnType := some .int }, accessFlags := 1, code := some k3c2 }
/-- com/example/score_on_crawl/scoreoncrawl/engine/CycleSequence -/
def k3 : Class := { plain "com/example/score_on_crawl/scoreoncrawl/engine/CycleSequence" (some 0) with
  accessFlags := 48
  interfaces := #[2]
  cf := some (fileOf pool3 8 #[] #[{ accessFlags := 0, nameIndex := 5, descriptorIndex := 6, attributes := #[] }, { accessFlags := 1, nameIndex := 52, descriptorIndex := 53, attributes := #[] }, { accessFlags := 1, nameIndex := 54, descriptorIndex := 55, attributes := #[] }] 48 2 #[45] #[{ accessFlags := 26, nameIndex := 47, descriptorIndex := 48, attributes := #[] }, { accessFlags := 2, nameIndex := 11, descriptorIndex := 12, attributes := #[] }, { accessFlags := 2, nameIndex := 15, descriptorIndex := 12, attributes := #[] }])
  fields := #[{ name := "CURSOR", type := (.object "java/lang/String"), accessFlags := 26, slot := 0, constantValue := 0 }, { name := "pages", type := .int, accessFlags := 2, slot := 0, constantValue := 0 }, { name := "cursor", type := .int, accessFlags := 2, slot := 1, constantValue := 0 }]
  methods := #[k3m0, k3m1, k3m2]
  instanceTypes := #[.int, .int]
  staticTypes := #[(.object "java/lang/String")]
  resolved := Array.replicate 81 none
  statics := none }

def pool4 : Array CpInfo := pool [(1, u "java/lang/Cloneable"), (0, .class_ 1), (0, u "java/lang/Object"), (0, .class_ 3)] 3

/-- java/lang/Cloneable -/
def k4 : Class := { plain "java/lang/Cloneable" (some 0) with
  accessFlags := 1537
  interfaces := #[]
  cf := some (fileOf pool4 2 #[] #[] 1537 4 #[] #[])
  fields := #[]
  methods := #[]
  instanceTypes := #[]
  staticTypes := #[]
  resolved := Array.replicate 8 none
  statics := none }

def pool5 : Array CpInfo := pool [(1, u "java/io/Serializable"), (0, .class_ 1), (0, u "java/lang/Object"), (0, .class_ 3)] 3

/-- java/io/Serializable -/
def k5 : Class := { plain "java/io/Serializable" (some 0) with
  accessFlags := 1537
  interfaces := #[]
  cf := some (fileOf pool5 2 #[] #[] 1537 4 #[] #[])
  fields := #[]
  methods := #[]
  instanceTypes := #[]
  staticTypes := #[]
  resolved := Array.replicate 8 none
  statics := none }

/-- the primitive byte -/
def k6 : Class := { plain "byte" none with kind := .primitive 'B', accessFlags := 0x411 }
/-- [B -/
def k7 : Class := { plain "[B" (some 0) with kind := .array 6 .byte, interfaces := #[4, 5], accessFlags := 1041 }

/-- the primitive int -/
def k8 : Class := { plain "int" none with kind := .primitive 'I', accessFlags := 0x411 }
/-- [I -/
def k9 : Class := { plain "[I" (some 0) with kind := .array 8 .int, interfaces := #[4, 5], accessFlags := 1041 }

def heap : Heap := #[]
def classes : Array Class := #[k0, k1, k2, k3, k4, k5, k6, k7, k8, k9]
def interned : List (Array UInt16 × Addr) := []
def slotsUsed : Nat := 0
def theMethod : MethodId := ⟨1, 2⟩
def args0 : Array Value := #[.int 5, .int 3]
def aboutOver (below : List Frame) : State where
  vm := { classes := classes, interned := interned.toArray }
  heap := heap
  slotsUsed := slotsUsed
  threads := #[{ frames := .invoking theMethod args0 :: below }]
def below0 : List Frame := [.native { method := ⟨0, 0⟩, args := #[] }]
def about1 : State := aboutOver below0
def p0 : Program := .bare "" "" ""
def e0 : Env := launch0.env 0 0 0
theorem w_frames : about1.frames = Frame.invoking theMethod args0 :: below0 := rfl
set_option maxRecDepth 65536 in
theorem w_args : argsFit about1.vm theMethod args0 = true := by decide +kernel
set_option maxRecDepth 65536 in
theorem w_heap : heapFits about1 = true := by decide +kernel
set_option maxRecDepth 65536 in
theorem w_runnable : about1.curStatus? = some .runnable := by decide +kernel
set_option maxRecDepth 65536 in
theorem w_alone : about1.alone = true := by decide +kernel
set_option maxRecDepth 65536 in
theorem w_named : about1.methodNamed? x = some theMethod := by decide +kernel
set_option maxRecDepth 65536 in
theorem w_hears : about1.hears theMethod below0 = true := by decide +kernel
set_option maxRecDepth 65536 in
theorem w_ripe : about1.ripe theMethod args0 below0 = true := by decide +kernel
theorem w_running : about1.status = .running := rfl
set_option maxRecDepth 65536 in
theorem w_room : about1.hasRoom e0.platform room_1 = true :=
  launch0.hasRoom_least _ room_1 (by decide +kernel) (by decide +kernel) (by decide +kernel) (by decide +kernel) (by decide +kernel) (by decide +kernel)
theorem allAtoms_all (ts : List Jvm.Cond) (a : Array Jvm.Value) (st : Jvm.State) : (allAtoms ts).before a st = ts.all (fun c => c.before a st) := by
  induction ts with
  | nil => rfl
  | cons c t ih =>
    show (Jvm.Cond.and c (allAtoms t)).before a st = _
    rw [Jvm.Cond.before_and, ih, List.all_cons]
def words1 : List Jvm.Cond := Jvm.Cond.code x code maxLocals ret :: tables_1
/-- a 'code' word, met by the world's own term for the bytes: nothing is compared byte by byte -/
theorem code_word {y : MethodName} {bytes : ByteArray} {mx : Nat} {rt : Option FieldType} {a : Array Value} {s : State} {m : MethodId} {meth : Method} {c : Code} (h1 : s.methodNamed? y = some m) (h2 : s.vm.method? m = some meth) (h3 : meth.code = some c) (h4 : c.code = bytes)
    (h5 : (c.maxLocals == mx && c.exceptionTable.isEmpty && decide (c.maxStack ≤ mostOperands) && decide (meth.sig.returnType = rt) && !meth.locks && decide (parseMethodDescriptor y.desc = some meth.sig)) = true) : (Jvm.Cond.code y bytes mx rt).before a s = true := by
  simp only [Bool.and_eq_true, beq_iff_eq, Bool.not_eq_true', decide_eq_true_eq] at h5
  obtain ⟨⟨⟨⟨⟨g1, g2⟩, g3⟩, g4⟩, g5⟩, g6⟩ := h5
  simp [Cond.before, Cond.holds, Cond.value, h1, h2, h3, h4, g1, g2, g3, g4, g5, g6]
def isCode : Jvm.Cond → Bool
  | .code _ _ _ _ => true
  | _ => false
theorem all_split {L : List Jvm.Cond} {P : Jvm.Cond → Bool} (h1 : L.all (fun c => isCode c || P c) = true) (h2 : ∀ c ∈ L.filter isCode, P c = true) : L.all P = true := by
  refine List.all_eq_true.mpr fun c hc => ?_
  have h := List.all_eq_true.mp h1 c hc
  rcases Bool.eq_false_or_eq_true (isCode c) with hi | hi
  · exact h2 c (List.mem_filter.mpr ⟨hc, hi⟩)
  · simpa [hi] using h
set_option maxRecDepth 65536 in
theorem w_c0 : (Jvm.Cond.code x code maxLocals ret).before args0 about1 = true := code_word (m := ⟨1, 2⟩) (meth := k1m2) (c := k1c2) (by decide +kernel) rfl rfl rfl (by decide +kernel)
set_option maxRecDepth 65536 in
theorem w_c1 : (Jvm.Cond.code ({ cls := "com/example/score_on_crawl/scoreoncrawl/engine/CycleSequence", name := "<init>", desc := "()V" } : Jvm.MethodName) prog_6_method_1_code (1 : Nat) (Option.none : Option Jvm.ClassFile.FieldType)).before args0 about1 = true := code_word (m := ⟨3, 0⟩) (meth := k3m0) (c := k3c0) (by decide +kernel) rfl rfl rfl (by decide +kernel)
set_option maxRecDepth 65536 in
theorem w_c2 : (Jvm.Cond.code ({ cls := "java/lang/Object", name := "<init>", desc := "()V" } : Jvm.MethodName) object_method_1_code (1 : Nat) (Option.none : Option Jvm.ClassFile.FieldType)).before args0 about1 = true := code_word (m := ⟨0, 0⟩) (meth := k0m0) (c := k0c0) (by decide +kernel) rfl rfl rfl (by decide +kernel)
set_option maxRecDepth 65536 in
theorem w_c3 : (Jvm.Cond.code ({ cls := "com/example/score_on_crawl/scoreoncrawl/engine/CycleSequence", name := "added", desc := "(IZ)V" } : Jvm.MethodName) prog_6_method_2_code (3 : Nat) (Option.none : Option Jvm.ClassFile.FieldType)).before args0 about1 = true := code_word (m := ⟨3, 1⟩) (meth := k3m1) (c := k3c1) (by decide +kernel) rfl rfl rfl (by decide +kernel)
set_option maxRecDepth 65536 in
theorem w_c4 : (Jvm.Cond.code ({ cls := "com/example/score_on_crawl/scoreoncrawl/engine/CycleSequenceNextPinLaw", name := "step", desc := "(Lcom/example/score_on_crawl/scoreoncrawl/engine/CycleSequence;[IIII)Z" } : Jvm.MethodName) method_2_code (7 : Nat) (Option.some Jvm.ClassFile.FieldType.boolean)).before args0 about1 = true := code_word (m := ⟨1, 1⟩) (meth := k1m1) (c := k1c1) (by decide +kernel) rfl rfl rfl (by decide +kernel)
set_option maxRecDepth 65536 in
theorem w_c5 : (Jvm.Cond.code ({ cls := "com/example/score_on_crawl/scoreoncrawl/engine/CycleSequence", name := "next", desc := "()I" } : Jvm.MethodName) prog_6_method_3_code (1 : Nat) (Option.some Jvm.ClassFile.FieldType.int)).before args0 about1 = true := code_word (m := ⟨3, 2⟩) (meth := k3m2) (c := k3c2) (by decide +kernel) rfl rfl rfl (by decide +kernel)
def codes1 : List Jvm.Cond := [Jvm.Cond.code x code maxLocals ret, Jvm.Cond.code ({ cls := "com/example/score_on_crawl/scoreoncrawl/engine/CycleSequence", name := "<init>", desc := "()V" } : Jvm.MethodName) prog_6_method_1_code (1 : Nat) (Option.none : Option Jvm.ClassFile.FieldType), Jvm.Cond.code ({ cls := "java/lang/Object", name := "<init>", desc := "()V" } : Jvm.MethodName) object_method_1_code (1 : Nat) (Option.none : Option Jvm.ClassFile.FieldType), Jvm.Cond.code ({ cls := "com/example/score_on_crawl/scoreoncrawl/engine/CycleSequence", name := "added", desc := "(IZ)V" } : Jvm.MethodName) prog_6_method_2_code (3 : Nat) (Option.none : Option Jvm.ClassFile.FieldType), Jvm.Cond.code ({ cls := "com/example/score_on_crawl/scoreoncrawl/engine/CycleSequenceNextPinLaw", name := "step", desc := "(Lcom/example/score_on_crawl/scoreoncrawl/engine/CycleSequence;[IIII)Z" } : Jvm.MethodName) method_2_code (7 : Nat) (Option.some Jvm.ClassFile.FieldType.boolean), Jvm.Cond.code ({ cls := "com/example/score_on_crawl/scoreoncrawl/engine/CycleSequence", name := "next", desc := "()I" } : Jvm.MethodName) prog_6_method_3_code (1 : Nat) (Option.some Jvm.ClassFile.FieldType.int)]
set_option maxRecDepth 65536 in
theorem codes_eq : words1.filter isCode = codes1 := rfl
theorem w_codes : ∀ c ∈ words1.filter isCode, c.before args0 about1 = true := by
  rw [codes_eq]
  intro c hc
  simp only [codes1, List.mem_cons, List.not_mem_nil, or_false] at hc
  rcases hc with rfl | rfl | rfl | rfl | rfl | rfl
  · exact w_c0
  · exact w_c1
  · exact w_c2
  · exact w_c3
  · exact w_c4
  · exact w_c5
set_option maxRecDepth 65536 in
theorem w_t1 : (words1.take 24).all (fun c => isCode c || c.before args0 about1) = true := by decide +kernel
set_option maxRecDepth 65536 in
theorem w_t2 : (words1.drop 24).all (fun c => isCode c || c.before args0 about1) = true := by decide +kernel
theorem w_tables : (allAtoms (Jvm.Cond.code x code maxLocals ret :: tables_1)).before args0 about1 = true := by
  rw [allAtoms_all]
  show words1.all (fun c => c.before args0 about1) = true
  refine all_split ?_ w_codes
  rw [← List.take_append_drop 24 words1, List.all_append, w_t1, w_t2]
  rfl
set_option maxRecDepth 65536 in
theorem w_case : (Jvm.Cond.and given_1 narrow_1).before args0 about1 = true := by decide +kernel
theorem w_applies : (headSpec (Jvm.Cond.code x code maxLocals ret :: tables_1) room_1).applies x e0.platform about1 = true :=
  (Spec.applies_iff w_frames).mpr ⟨w_running, w_runnable, w_alone, w_named, w_hears, w_ripe, w_room, w_tables⟩
theorem atStart : AtStart classFile x code maxLocals ret World_1 tables_1 room_1 Calls_1 rest_1 Pre_1 launch0 p0 e0 about1 theMethod args0 below0 :=
  ⟨lists_1, trivial, launch0.admits_env _ _ _, launch0.least_env, fairChoices_fair.cas, fairChoices_fair.clock, w_frames, w_args, w_heap, w_applies, trivial, trivial, w_case⟩
end start1
theorem witness_1 : WitnessClaimed_1 := ⟨start1.p0, start1.e0, start1.about1, start1.theMethod, start1.args0, start1.below0, start1.atStart⟩
end Jvm.Pilot.@@N@@
