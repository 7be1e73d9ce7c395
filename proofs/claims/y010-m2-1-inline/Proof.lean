import JvmDerived
import JvmDerived.Pilot.@@N@@Statement
import JvmDerived.Pilot.@@N@@Code
set_option linter.unusedVariables false
set_option linter.unusedSimpArgs false
namespace Jvm.Pilot.@@N@@
open Jvm Jvm.ClassFile Sem Op Lib Jvm.Free Jvm.Stand Jvm.LawKit Jvm.RoadKit Bundle Jvm.Pilot.@@N@@.Jvm.D
namespace Wk
open Jvm Jvm.ClassFile Sem Op Lib Jvm.Free Jvm.Stand Jvm.LawKit Jvm.RoadKit
/-- the fixed part of a walk: program, environment, the state at the invocation, the method, its arguments, the frames below, the method's record, its code -/
abbrev Wd : Type := Program × Env × State × MethodId × Array Value × List Frame × Method × Code
abbrev Wd.p (W : Wd) : Program := W.1
abbrev Wd.e (W : Wd) : Env := W.2.1
abbrev Wd.s (W : Wd) : State := W.2.2.1
abbrev Wd.m (W : Wd) : MethodId := W.2.2.2.1
abbrev Wd.a (W : Wd) : Array Value := W.2.2.2.2.1
abbrev Wd.b (W : Wd) : List Frame := W.2.2.2.2.2.1
abbrev Wd.t (W : Wd) : Method := W.2.2.2.2.2.2.1
abbrev Wd.c (W : Wd) : Code := W.2.2.2.2.2.2.2
abbrev Post : Type := Option Value → Heap → Prop
def Go (R : Room) (Z : State) (W : Wd) (Q : Post) (A : State) : Prop :=
  ∃ s₂ o, Steps W.p.tables W.e W.b A s₂ ∧ s₂.status = .running ∧ Ended s₂ W.b o ∧ ∃ v L, o = .returned v ∧ (Q v s₂.heap ∧ Ext Z.heap s₂.heap ∧ Fr Z.heap.size L) ∧ FrameEnd W.s o s₂ L R.cells R.slots
abbrev Std (l : Launch) (R : Room) (W : Wd) (T : State) (locs : List Loc) (k n : Nat) : Prop := Stand W.p l W.e R W.s W.m W.a W.b W.t W.c T locs k n
def Run (l : Launch) (R : Room) (Z : State) (W : Wd) (Q : Post) (h : Heap) (k n : Nat) (f : JFrame) : Prop :=
  ∀ T locs, Std l R W T locs k n → T.heap = h → Fr Z.heap.size locs → Ext Z.heap h → Go R Z W Q (T.setTop f)
def Cx (Z : State) (W : Wd) (own nm : String) (code : ByteArray) (maxL : Nat) (ret : Option FieldType) : Prop :=
  W.p.tables.exec = Jvm.exec ∧ W.c.code = code ∧ W.c.maxLocals = maxL ∧ W.s.vm.findClass own = some W.m.cls ∧ Z.Warmed39 W.s.vm ∧ W.t.sig.returnType = ret ∧ W.t.name = nm ∧ W.t.locks = false
section Kit
variable {l : Launch} {R : Room} {Z : State} {W : Wd} {Q : Post} {h : Heap} {k n : Nat} {own nm : String} {code : ByteArray} {maxL : Nat} {ret : Option FieldType} {a0 : Array Value} {pc pc' : Nat} {Ls : Array Slot} {st : List Value}
theorem Cx.hx (C : Cx Z W own nm code maxL ret) : W.p.tables.exec = Jvm.exec := C.1
theorem Cx.hb (C : Cx Z W own nm code maxL ret) {pc : Nat} {r : Except ClassFile.DecodeError (ClassFile.Instr × Nat)} (h2 : decode code pc = r) : decode W.c.code pc = r := C.2.1 ▸ h2
theorem Cx.ow (C : Cx Z W own nm code maxL ret) : W.s.vm.findClass own = some W.m.cls := C.2.2.2.1
theorem Cx.hZ (C : Cx Z W own nm code maxL ret) : Z.Warmed39 W.s.vm := C.2.2.2.2.1
theorem Cx.ml (C : Cx Z W own nm code maxL ret) : W.c.maxLocals = maxL := C.2.2.1
theorem Cx.rt (C : Cx Z W own nm code maxL ret) : W.t.sig.returnType = ret := C.2.2.2.2.2.1
theorem Cx.nme (C : Cx Z W own nm code maxL ret) : W.t.name = nm := C.2.2.2.2.2.2.1
theorem Cx.lk (C : Cx Z W own nm code maxL ret) : W.t.locks = false := C.2.2.2.2.2.2.2
theorem old_of (O : Ext Z.heap h) : Old Z Z.heap.size h := ⟨rfl, O⟩
theorem Go.step {A B : State} (f : ∀ t, Steps W.p.tables W.e W.b B t → Steps W.p.tables W.e W.b A t) (g : Go R Z W Q B) : Go R Z W Q A := by
  obtain ⟨t, o, h1, r⟩ := g
  exact ⟨t, o, f t h1, r⟩
theorem Run.one {g g' : JFrame} (f : ∀ T locs, Std l R W T locs k n → T.heap = h → ∀ t, Steps W.p.tables W.e W.b (T.setTop g') t → Steps W.p.tables W.e W.b (T.setTop g) t) (r : Run l R Z W Q h k n g') : Run l R Z W Q h k n g :=
  fun T locs X eT N O => Go.step (f T locs X eT) (r T locs X eT N O)
theorem Run.old {f : JFrame} (r : Ext Z.heap h → Run l R Z W Q h k n f) : Run l R Z W Q h k n f := fun T locs X eT N O => r O T locs X eT N O
theorem Run.grow {f : JFrame} {k' n' : Nat} (hk : k ≤ k') (hn : n ≤ n') (r : Run l R Z W Q h k' n' f) : Run l R Z W Q h k n f := fun T locs X eT N O =>
  r T locs ⟨X.admits, X.cas, X.clock, X.frames, X.room, X.hears, X.method, X.code, X.here, X.tail, X.warmed, X.limits, X.bytes, X.same.mono hk hn⟩ eT N O

theorem iloadN (C : Cx Z W own nm code maxL ret) {i : Fin 4} {v : Int32} (hd : decode code pc = .ok (.iload_n i, 1)) (hl : Ls[i.val]? = some (.val (.int v))) (hp : pc + 1 = pc')
    (r : Run l R Z W Q h k n (mkF W.m pc' Ls (.int v :: st))) : Run l R Z W Q h k n (mkF W.m pc Ls (st)) := by
  subst hp
  exact Run.one (fun T locs X _ t g => XS.iloadN X.here C.hx rfl (C.hb hd) hl g) r
theorem iload (C : Cx Z W own nm code maxL ret) {i : Nat} {v : Int32} (hd : decode code pc = .ok (.iload i, 2)) (hl : Ls[i]? = some (.val (.int v))) (hp : pc + 2 = pc')
    (r : Run l R Z W Q h k n (mkF W.m pc' Ls (.int v :: st))) : Run l R Z W Q h k n (mkF W.m pc Ls (st)) := by
  subst hp
  exact Run.one (fun T locs X _ t g => XS.iload X.here C.hx rfl (C.hb hd) hl g) r
theorem lloadN (C : Cx Z W own nm code maxL ret) {i : Fin 4} {v : Int64} (hd : decode code pc = .ok (.lload_n i, 1)) (hl : Ls[i.val]? = some (.val (.long v))) (hp : pc + 1 = pc')
    (r : Run l R Z W Q h k n (mkF W.m pc' Ls (.long v :: st))) : Run l R Z W Q h k n (mkF W.m pc Ls (st)) := by
  subst hp
  exact Run.one (fun T locs X _ t g => XS.lloadN X.here C.hx rfl (C.hb hd) hl g) r
theorem lload (C : Cx Z W own nm code maxL ret) {i : Nat} {v : Int64} (hd : decode code pc = .ok (.lload i, 2)) (hl : Ls[i]? = some (.val (.long v))) (hp : pc + 2 = pc')
    (r : Run l R Z W Q h k n (mkF W.m pc' Ls (.long v :: st))) : Run l R Z W Q h k n (mkF W.m pc Ls (st)) := by
  subst hp
  exact Run.one (fun T locs X _ t g => XS.lload X.here C.hx rfl (C.hb hd) hl g) r
theorem aloadN (C : Cx Z W own nm code maxL ret) {i : Fin 4} {v : Value} (hd : decode code pc = .ok (.aload_n i, 1)) (hl : Ls[i.val]? = some (.val v)) (hv : v.isRef = true) (hp : pc + 1 = pc')
    (r : Run l R Z W Q h k n (mkF W.m pc' Ls (v :: st))) : Run l R Z W Q h k n (mkF W.m pc Ls (st)) := by
  subst hp
  exact Run.one (fun T locs X _ t g => XS.aloadN X.here C.hx rfl (C.hb hd) hl hv g) r
theorem aload (C : Cx Z W own nm code maxL ret) {i : Nat} {v : Value} (hd : decode code pc = .ok (.aload i, 2)) (hl : Ls[i]? = some (.val v)) (hv : v.isRef = true) (hp : pc + 2 = pc')
    (r : Run l R Z W Q h k n (mkF W.m pc' Ls (v :: st))) : Run l R Z W Q h k n (mkF W.m pc Ls (st)) := by
  subst hp
  exact Run.one (fun T locs X _ t g => XS.aload X.here C.hx rfl (C.hb hd) hl hv g) r
theorem istoreN (C : Cx Z W own nm code maxL ret) {i : Fin 4} {v : Int32} {Ls' : Array Slot} (hd : decode code pc = .ok (.istore_n i, 1)) (hl : storeLocals Ls i.val (.int v) = some Ls') (hp : pc + 1 = pc')
    (r : Run l R Z W Q h k n (mkF W.m pc' Ls' (st))) : Run l R Z W Q h k n (mkF W.m pc Ls (.int v :: st)) := by
  subst hp
  exact Run.one (fun T locs X _ t g => XS.istoreN X.here C.hx rfl (C.hb hd) rfl hl g) r
theorem istore (C : Cx Z W own nm code maxL ret) {i : Nat} {v : Int32} {Ls' : Array Slot} (hd : decode code pc = .ok (.istore i, 2)) (hl : storeLocals Ls i (.int v) = some Ls') (hp : pc + 2 = pc')
    (r : Run l R Z W Q h k n (mkF W.m pc' Ls' (st))) : Run l R Z W Q h k n (mkF W.m pc Ls (.int v :: st)) := by
  subst hp
  exact Run.one (fun T locs X _ t g => XS.istore X.here C.hx rfl (C.hb hd) rfl hl g) r
theorem lstoreN (C : Cx Z W own nm code maxL ret) {i : Fin 4} {v : Int64} {Ls' : Array Slot} (hd : decode code pc = .ok (.lstore_n i, 1)) (hl : storeLocals Ls i.val (.long v) = some Ls') (hp : pc + 1 = pc')
    (r : Run l R Z W Q h k n (mkF W.m pc' Ls' (st))) : Run l R Z W Q h k n (mkF W.m pc Ls (.long v :: st)) := by
  subst hp
  exact Run.one (fun T locs X _ t g => XS.lstoreN X.here C.hx rfl (C.hb hd) rfl hl g) r
theorem lstore (C : Cx Z W own nm code maxL ret) {i : Nat} {v : Int64} {Ls' : Array Slot} (hd : decode code pc = .ok (.lstore i, 2)) (hl : storeLocals Ls i (.long v) = some Ls') (hp : pc + 2 = pc')
    (r : Run l R Z W Q h k n (mkF W.m pc' Ls' (st))) : Run l R Z W Q h k n (mkF W.m pc Ls (.long v :: st)) := by
  subst hp
  exact Run.one (fun T locs X _ t g => XS.lstore X.here C.hx rfl (C.hb hd) rfl hl g) r
theorem astoreN (C : Cx Z W own nm code maxL ret) {i : Fin 4} {v : Value} {Ls' : Array Slot} (hd : decode code pc = .ok (.astore_n i, 1)) (hv : v.isRef = true) (hl : storeLocals Ls i.val v = some Ls') (hp : pc + 1 = pc')
    (r : Run l R Z W Q h k n (mkF W.m pc' Ls' (st))) : Run l R Z W Q h k n (mkF W.m pc Ls (v :: st)) := by
  subst hp
  exact Run.one (fun T locs X _ t g => XS.astoreN X.here C.hx rfl (C.hb hd) rfl hv hl g) r
theorem astore (C : Cx Z W own nm code maxL ret) {i : Nat} {v : Value} {Ls' : Array Slot} (hd : decode code pc = .ok (.astore i, 2)) (hv : v.isRef = true) (hl : storeLocals Ls i v = some Ls') (hp : pc + 2 = pc')
    (r : Run l R Z W Q h k n (mkF W.m pc' Ls' (st))) : Run l R Z W Q h k n (mkF W.m pc Ls (v :: st)) := by
  subst hp
  exact Run.one (fun T locs X _ t g => XS.astore X.here C.hx rfl (C.hb hd) rfl hv hl g) r
theorem iconst (C : Cx Z W own nm code maxL ret) {i : Int} {v : Int32} (hd : decode code pc = .ok (.iconst i, 1)) (hv : Int32.ofInt i = v) (hp : pc + 1 = pc')
    (r : Run l R Z W Q h k n (mkF W.m pc' Ls (.int v :: st))) : Run l R Z W Q h k n (mkF W.m pc Ls (st)) := by
  subst hp
  exact Run.one (fun T locs X _ t g => XS.iconst X.here C.hx rfl (C.hb hd) (hv ▸ g)) r
theorem bipush (C : Cx Z W own nm code maxL ret) {i : Int} {v : Int32} (hd : decode code pc = .ok (.bipush i, 2)) (hv : (Int8.ofInt i).toInt32 = v) (hp : pc + 2 = pc')
    (r : Run l R Z W Q h k n (mkF W.m pc' Ls (.int v :: st))) : Run l R Z W Q h k n (mkF W.m pc Ls (st)) := by
  subst hp
  exact Run.one (fun T locs X _ t g => XS.bipush X.here C.hx rfl (C.hb hd) (hv ▸ g)) r
theorem sipush (C : Cx Z W own nm code maxL ret) {i : Int} {v : Int32} (hd : decode code pc = .ok (.sipush i, 3)) (hv : (Int16.ofInt i).toInt32 = v) (hp : pc + 3 = pc')
    (r : Run l R Z W Q h k n (mkF W.m pc' Ls (.int v :: st))) : Run l R Z W Q h k n (mkF W.m pc Ls (st)) := by
  subst hp
  exact Run.one (fun T locs X _ t g => XS.sipush X.here C.hx rfl (C.hb hd) (hv ▸ g)) r
theorem lconst (C : Cx Z W own nm code maxL ret) {i : Fin 2} {v : Int64} (hd : decode code pc = .ok (.lconst i, 1)) (hv : Int64.ofNat i = v) (hp : pc + 1 = pc')
    (r : Run l R Z W Q h k n (mkF W.m pc' Ls (.long v :: st))) : Run l R Z W Q h k n (mkF W.m pc Ls (st)) := by
  subst hp
  exact Run.one (fun T locs X _ t g => XS.lconst X.here C.hx rfl (C.hb hd) (hv ▸ g)) r
theorem aconstNull (C : Cx Z W own nm code maxL ret)  (hd : decode code pc = .ok (.aconst_null, 1)) (hp : pc + 1 = pc')
    (r : Run l R Z W Q h k n (mkF W.m pc' Ls (.null :: st))) : Run l R Z W Q h k n (mkF W.m pc Ls (st)) := by
  subst hp
  exact Run.one (fun T locs X _ t g => XS.aconstNull X.here C.hx rfl (C.hb hd) g) r
theorem iadd (C : Cx Z W own nm code maxL ret) {x y v : Int32} (hd : decode code pc = .ok (.iadd, 1)) (hv : x + y = v) (hp : pc + 1 = pc')
    (r : Run l R Z W Q h k n (mkF W.m pc' Ls (.int v :: st))) : Run l R Z W Q h k n (mkF W.m pc Ls (.int y :: .int x :: st)) := by
  subst hp
  exact Run.one (fun T locs X _ t g => XS.iadd X.here C.hx rfl (C.hb hd) rfl (hv ▸ g)) r
theorem isub (C : Cx Z W own nm code maxL ret) {x y v : Int32} (hd : decode code pc = .ok (.isub, 1)) (hv : x - y = v) (hp : pc + 1 = pc')
    (r : Run l R Z W Q h k n (mkF W.m pc' Ls (.int v :: st))) : Run l R Z W Q h k n (mkF W.m pc Ls (.int y :: .int x :: st)) := by
  subst hp
  exact Run.one (fun T locs X _ t g => XS.isub X.here C.hx rfl (C.hb hd) rfl (hv ▸ g)) r
theorem imul (C : Cx Z W own nm code maxL ret) {x y v : Int32} (hd : decode code pc = .ok (.imul, 1)) (hv : x * y = v) (hp : pc + 1 = pc')
    (r : Run l R Z W Q h k n (mkF W.m pc' Ls (.int v :: st))) : Run l R Z W Q h k n (mkF W.m pc Ls (.int y :: .int x :: st)) := by
  subst hp
  exact Run.one (fun T locs X _ t g => XS.imul X.here C.hx rfl (C.hb hd) rfl (hv ▸ g)) r
theorem iand (C : Cx Z W own nm code maxL ret) {x y v : Int32} (hd : decode code pc = .ok (.iand, 1)) (hv : x &&& y = v) (hp : pc + 1 = pc')
    (r : Run l R Z W Q h k n (mkF W.m pc' Ls (.int v :: st))) : Run l R Z W Q h k n (mkF W.m pc Ls (.int y :: .int x :: st)) := by
  subst hp
  exact Run.one (fun T locs X _ t g => XS.iand X.here C.hx rfl (C.hb hd) rfl (hv ▸ g)) r
theorem ior (C : Cx Z W own nm code maxL ret) {x y v : Int32} (hd : decode code pc = .ok (.ior, 1)) (hv : x ||| y = v) (hp : pc + 1 = pc')
    (r : Run l R Z W Q h k n (mkF W.m pc' Ls (.int v :: st))) : Run l R Z W Q h k n (mkF W.m pc Ls (.int y :: .int x :: st)) := by
  subst hp
  exact Run.one (fun T locs X _ t g => XS.ior X.here C.hx rfl (C.hb hd) rfl (hv ▸ g)) r
theorem ixor (C : Cx Z W own nm code maxL ret) {x y v : Int32} (hd : decode code pc = .ok (.ixor, 1)) (hv : x ^^^ y = v) (hp : pc + 1 = pc')
    (r : Run l R Z W Q h k n (mkF W.m pc' Ls (.int v :: st))) : Run l R Z W Q h k n (mkF W.m pc Ls (.int y :: .int x :: st)) := by
  subst hp
  exact Run.one (fun T locs X _ t g => XS.ixor X.here C.hx rfl (C.hb hd) rfl (hv ▸ g)) r
theorem ladd (C : Cx Z W own nm code maxL ret) {x y v : Int64} (hd : decode code pc = .ok (.ladd, 1)) (hv : x + y = v) (hp : pc + 1 = pc')
    (r : Run l R Z W Q h k n (mkF W.m pc' Ls (.long v :: st))) : Run l R Z W Q h k n (mkF W.m pc Ls (.long y :: .long x :: st)) := by
  subst hp
  exact Run.one (fun T locs X _ t g => XS.ladd X.here C.hx rfl (C.hb hd) rfl (hv ▸ g)) r
theorem lsub (C : Cx Z W own nm code maxL ret) {x y v : Int64} (hd : decode code pc = .ok (.lsub, 1)) (hv : x - y = v) (hp : pc + 1 = pc')
    (r : Run l R Z W Q h k n (mkF W.m pc' Ls (.long v :: st))) : Run l R Z W Q h k n (mkF W.m pc Ls (.long y :: .long x :: st)) := by
  subst hp
  exact Run.one (fun T locs X _ t g => XS.lsub X.here C.hx rfl (C.hb hd) rfl (hv ▸ g)) r
theorem lmul (C : Cx Z W own nm code maxL ret) {x y v : Int64} (hd : decode code pc = .ok (.lmul, 1)) (hv : x * y = v) (hp : pc + 1 = pc')
    (r : Run l R Z W Q h k n (mkF W.m pc' Ls (.long v :: st))) : Run l R Z W Q h k n (mkF W.m pc Ls (.long y :: .long x :: st)) := by
  subst hp
  exact Run.one (fun T locs X _ t g => XS.lmul X.here C.hx rfl (C.hb hd) rfl (hv ▸ g)) r
theorem land (C : Cx Z W own nm code maxL ret) {x y v : Int64} (hd : decode code pc = .ok (.land, 1)) (hv : x &&& y = v) (hp : pc + 1 = pc')
    (r : Run l R Z W Q h k n (mkF W.m pc' Ls (.long v :: st))) : Run l R Z W Q h k n (mkF W.m pc Ls (.long y :: .long x :: st)) := by
  subst hp
  exact Run.one (fun T locs X _ t g => XS.land X.here C.hx rfl (C.hb hd) rfl (hv ▸ g)) r
theorem lor (C : Cx Z W own nm code maxL ret) {x y v : Int64} (hd : decode code pc = .ok (.lor, 1)) (hv : x ||| y = v) (hp : pc + 1 = pc')
    (r : Run l R Z W Q h k n (mkF W.m pc' Ls (.long v :: st))) : Run l R Z W Q h k n (mkF W.m pc Ls (.long y :: .long x :: st)) := by
  subst hp
  exact Run.one (fun T locs X _ t g => XS.lor X.here C.hx rfl (C.hb hd) rfl (hv ▸ g)) r
theorem lxor (C : Cx Z W own nm code maxL ret) {x y v : Int64} (hd : decode code pc = .ok (.lxor, 1)) (hv : x ^^^ y = v) (hp : pc + 1 = pc')
    (r : Run l R Z W Q h k n (mkF W.m pc' Ls (.long v :: st))) : Run l R Z W Q h k n (mkF W.m pc Ls (.long y :: .long x :: st)) := by
  subst hp
  exact Run.one (fun T locs X _ t g => XS.lxor X.here C.hx rfl (C.hb hd) rfl (hv ▸ g)) r
theorem idiv (C : Cx Z W own nm code maxL ret) {x y v : Int32} (hd : decode code pc = .ok (.idiv, 1)) (hy : ¬ y = 0) (hv : x / y = v) (hp : pc + 1 = pc')
    (r : Run l R Z W Q h k n (mkF W.m pc' Ls (.int v :: st))) : Run l R Z W Q h k n (mkF W.m pc Ls (.int y :: .int x :: st)) := by
  subst hp
  exact Run.one (fun T locs X _ t g => XS.idiv X.here C.hx rfl (C.hb hd) rfl hy (hv ▸ g)) r
theorem irem (C : Cx Z W own nm code maxL ret) {x y v : Int32} (hd : decode code pc = .ok (.irem, 1)) (hy : ¬ y = 0) (hv : x % y = v) (hp : pc + 1 = pc')
    (r : Run l R Z W Q h k n (mkF W.m pc' Ls (.int v :: st))) : Run l R Z W Q h k n (mkF W.m pc Ls (.int y :: .int x :: st)) := by
  subst hp
  exact Run.one (fun T locs X _ t g => iremM X C.hx rfl (C.hb hd) rfl hy (hv ▸ g)) r
theorem ineg (C : Cx Z W own nm code maxL ret) {x v : Int32} (hd : decode code pc = .ok (.ineg, 1)) (hv : -x = v) (hp : pc + 1 = pc')
    (r : Run l R Z W Q h k n (mkF W.m pc' Ls (.int v :: st))) : Run l R Z W Q h k n (mkF W.m pc Ls (.int x :: st)) := by
  subst hp
  exact Run.one (fun T locs X _ t g => XS.ineg X.here C.hx rfl (C.hb hd) rfl (hv ▸ g)) r
theorem ishl (C : Cx Z W own nm code maxL ret) {x y v : Int32} (hd : decode code pc = .ok (.ishl, 1)) (hv : x <<< (y &&& 31) = v) (hp : pc + 1 = pc')
    (r : Run l R Z W Q h k n (mkF W.m pc' Ls (.int v :: st))) : Run l R Z W Q h k n (mkF W.m pc Ls (.int y :: .int x :: st)) := by
  subst hp
  exact Run.one (fun T locs X _ t g => XS.ishl X.here C.hx rfl (C.hb hd) rfl (hv ▸ g)) r
theorem ishr (C : Cx Z W own nm code maxL ret) {x y v : Int32} (hd : decode code pc = .ok (.ishr, 1)) (hv : x >>> (y &&& 31) = v) (hp : pc + 1 = pc')
    (r : Run l R Z W Q h k n (mkF W.m pc' Ls (.int v :: st))) : Run l R Z W Q h k n (mkF W.m pc Ls (.int y :: .int x :: st)) := by
  subst hp
  exact Run.one (fun T locs X _ t g => XS.ishr X.here C.hx rfl (C.hb hd) rfl (hv ▸ g)) r
theorem iushr (C : Cx Z W own nm code maxL ret) {x y v : Int32} (hd : decode code pc = .ok (.iushr, 1)) (hv : (x.toUInt32 >>> (y &&& 31).toUInt32).toInt32 = v) (hp : pc + 1 = pc')
    (r : Run l R Z W Q h k n (mkF W.m pc' Ls (.int v :: st))) : Run l R Z W Q h k n (mkF W.m pc Ls (.int y :: .int x :: st)) := by
  subst hp
  exact Run.one (fun T locs X _ t g => XS.iushr X.here C.hx rfl (C.hb hd) rfl (hv ▸ g)) r
theorem lshl (C : Cx Z W own nm code maxL ret) {x : Int64} {y : Int32} {v : Int64} (hd : decode code pc = .ok (.lshl, 1)) (hv : x <<< (y &&& 0x3f).toInt64 = v) (hp : pc + 1 = pc')
    (r : Run l R Z W Q h k n (mkF W.m pc' Ls (.long v :: st))) : Run l R Z W Q h k n (mkF W.m pc Ls (.int y :: .long x :: st)) := by
  subst hp
  exact Run.one (fun T locs X _ t g => XS.lshl X.here C.hx rfl (C.hb hd) rfl (hv ▸ g)) r
theorem lshr (C : Cx Z W own nm code maxL ret) {x : Int64} {y : Int32} {v : Int64} (hd : decode code pc = .ok (.lshr, 1)) (hv : x >>> (y &&& 0x3f).toInt64 = v) (hp : pc + 1 = pc')
    (r : Run l R Z W Q h k n (mkF W.m pc' Ls (.long v :: st))) : Run l R Z W Q h k n (mkF W.m pc Ls (.int y :: .long x :: st)) := by
  subst hp
  exact Run.one (fun T locs X _ t g => XS.lshr X.here C.hx rfl (C.hb hd) rfl (hv ▸ g)) r
theorem lushr (C : Cx Z W own nm code maxL ret) {x : Int64} {y : Int32} {v : Int64} (hd : decode code pc = .ok (.lushr, 1)) (hv : (x.toUInt64 >>> (y &&& 0x3f).toInt64.toUInt64).toInt64 = v) (hp : pc + 1 = pc')
    (r : Run l R Z W Q h k n (mkF W.m pc' Ls (.long v :: st))) : Run l R Z W Q h k n (mkF W.m pc Ls (.int y :: .long x :: st)) := by
  subst hp
  exact Run.one (fun T locs X _ t g => XS.lushr X.here C.hx rfl (C.hb hd) rfl (hv ▸ g)) r
theorem i2l (C : Cx Z W own nm code maxL ret) {x : Int32} {v : Int64} (hd : decode code pc = .ok (.i2l, 1)) (hv : x.toInt64 = v) (hp : pc + 1 = pc')
    (r : Run l R Z W Q h k n (mkF W.m pc' Ls (.long v :: st))) : Run l R Z W Q h k n (mkF W.m pc Ls (.int x :: st)) := by
  subst hp
  exact Run.one (fun T locs X _ t g => XS.i2l X.here C.hx rfl (C.hb hd) rfl (hv ▸ g)) r
theorem l2i (C : Cx Z W own nm code maxL ret) {x : Int64} {v : Int32} (hd : decode code pc = .ok (.l2i, 1)) (hv : x.toInt32 = v) (hp : pc + 1 = pc')
    (r : Run l R Z W Q h k n (mkF W.m pc' Ls (.int v :: st))) : Run l R Z W Q h k n (mkF W.m pc Ls (.long x :: st)) := by
  subst hp
  exact Run.one (fun T locs X _ t g => XS.l2i X.here C.hx rfl (C.hb hd) rfl (hv ▸ g)) r
theorem i2b (C : Cx Z W own nm code maxL ret) {x : Int32} {v : Int32} (hd : decode code pc = .ok (.i2b, 1)) (hv : x.toInt8.toInt32 = v) (hp : pc + 1 = pc')
    (r : Run l R Z W Q h k n (mkF W.m pc' Ls (.int v :: st))) : Run l R Z W Q h k n (mkF W.m pc Ls (.int x :: st)) := by
  subst hp
  exact Run.one (fun T locs X _ t g => XS.i2b X.here C.hx rfl (C.hb hd) rfl (hv ▸ g)) r
theorem i2c (C : Cx Z W own nm code maxL ret) {x : Int32} {v : Int32} (hd : decode code pc = .ok (.i2c, 1)) (hv : x.toUInt32.toUInt16.toUInt32.toInt32 = v) (hp : pc + 1 = pc')
    (r : Run l R Z W Q h k n (mkF W.m pc' Ls (.int v :: st))) : Run l R Z W Q h k n (mkF W.m pc Ls (.int x :: st)) := by
  subst hp
  exact Run.one (fun T locs X _ t g => XS.i2c X.here C.hx rfl (C.hb hd) rfl (hv ▸ g)) r
theorem i2s (C : Cx Z W own nm code maxL ret) {x : Int32} {v : Int32} (hd : decode code pc = .ok (.i2s, 1)) (hv : x.toInt16.toInt32 = v) (hp : pc + 1 = pc')
    (r : Run l R Z W Q h k n (mkF W.m pc' Ls (.int v :: st))) : Run l R Z W Q h k n (mkF W.m pc Ls (.int x :: st)) := by
  subst hp
  exact Run.one (fun T locs X _ t g => XS.i2s X.here C.hx rfl (C.hb hd) rfl (hv ▸ g)) r
theorem lcmp (C : Cx Z W own nm code maxL ret) {x y : Int64} (hd : decode code pc = .ok (.lcmp, 1)) (hp : pc + 1 = pc')
    (r : Run l R Z W Q h k n (mkF W.m pc' Ls (.int (lcmpW x y) :: st))) : Run l R Z W Q h k n (mkF W.m pc Ls (.long y :: .long x :: st)) := by
  subst hp
  exact Run.one (fun T locs X _ t g => XS.lcmp X.here C.hx rfl (C.hb hd) rfl g) r
theorem dup (C : Cx Z W own nm code maxL ret) {v : Value} (hd : decode code pc = .ok (.dup, 1)) (hc : v.category = 1) (hp : pc + 1 = pc')
    (r : Run l R Z W Q h k n (mkF W.m pc' Ls (v :: v :: st))) : Run l R Z W Q h k n (mkF W.m pc Ls (v :: st)) := by
  subst hp
  exact Run.one (fun T locs X _ t g => XS.dup X.here C.hx rfl (C.hb hd) rfl hc g) r
theorem dupX1 (C : Cx Z W own nm code maxL ret) {v w : Value} (hd : decode code pc = .ok (.dup_x1, 1)) (hc : v.category = 1) (hc' : w.category = 1) (hp : pc + 1 = pc')
    (r : Run l R Z W Q h k n (mkF W.m pc' Ls (v :: w :: v :: st))) : Run l R Z W Q h k n (mkF W.m pc Ls (v :: w :: st)) := by
  subst hp
  exact Run.one (fun T locs X _ t g => XS.dupX1 X.here C.hx rfl (C.hb hd) rfl hc hc' g) r
theorem dup2 (C : Cx Z W own nm code maxL ret) {v w : Value} (hd : decode code pc = .ok (.dup2, 1)) (hc : v.category = 1) (hc' : w.category = 1) (hp : pc + 1 = pc')
    (r : Run l R Z W Q h k n (mkF W.m pc' Ls (v :: w :: v :: w :: st))) : Run l R Z W Q h k n (mkF W.m pc Ls (v :: w :: st)) := by
  subst hp
  exact Run.one (fun T locs X _ t g => XT.dup2 X.here C.hx rfl (C.hb hd) rfl hc hc' g) r
theorem pop (C : Cx Z W own nm code maxL ret) {v : Value} (hd : decode code pc = .ok (.pop, 1)) (hc : v.category = 1) (hp : pc + 1 = pc')
    (r : Run l R Z W Q h k n (mkF W.m pc' Ls (st))) : Run l R Z W Q h k n (mkF W.m pc Ls (v :: st)) := by
  subst hp
  exact Run.one (fun T locs X _ t g => XS.pop X.here C.hx rfl (C.hb hd) rfl hc g) r
theorem swap (C : Cx Z W own nm code maxL ret) {v w : Value} (hd : decode code pc = .ok (.swap, 1)) (hc : v.category = 1) (hc' : w.category = 1) (hp : pc + 1 = pc')
    (r : Run l R Z W Q h k n (mkF W.m pc' Ls (w :: v :: st))) : Run l R Z W Q h k n (mkF W.m pc Ls (v :: w :: st)) := by
  subst hp
  exact Run.one (fun T locs X _ t g => XS.swap X.here C.hx rfl (C.hb hd) rfl hc hc' g) r
theorem iinc (C : Cx Z W own nm code maxL ret) {i : Nat} {d : Int} {x v : Int32} {Ls' : Array Slot} (hd : decode code pc = .ok (.iinc i d, 3)) (hl : Ls[i]? = some (.val (.int x))) (hv : x + Int32.ofInt d = v) (hl' : storeLocals Ls i (.int v) = some Ls') (hp : pc + 3 = pc')
    (r : Run l R Z W Q h k n (mkF W.m pc' Ls' st)) : Run l R Z W Q h k n (mkF W.m pc Ls st) := by
  subst hp hv
  exact Run.one (fun T locs X _ t g => XS.iinc X.here C.hx rfl (C.hb hd) hl hl' g) r
theorem goto (C : Cx Z W own nm code maxL ret) {o : Int} (hd : decode code pc = .ok (.goto o, 3)) (ho : 0 ≤ (pc : Int) + o) (hp : ((pc : Int) + o).toNat = pc')
    (r : Run l R Z W Q h k n (mkF W.m pc' Ls st)) : Run l R Z W Q h k n (mkF W.m pc Ls st) :=
  Run.one (fun T locs X _ t g => XS.goto X.here C.hx rfl rfl (C.hb hd) ho hp g) r
theorem icmp_eq (C : Cx Z W own nm code maxL ret) {x y : Int32} {o : Int} {pcT : Nat} (hd : decode code pc = .ok (.if_icmp .eq o, 3)) (ho : 0 ≤ (pc : Int) + o) (hp : ((pc : Int) + o).toNat = pcT) (hp' : pc + 3 = pc')
    (rt : x = y → Run l R Z W Q h k n (mkF W.m pcT Ls st)) (rf : ¬ x = y → Run l R Z W Q h k n (mkF W.m pc' Ls st)) : Run l R Z W Q h k n (mkF W.m pc Ls (.int y :: .int x :: st)) := by
  subst hp'
  by_cases q : x = y
  · exact Run.one (fun T locs X _ t g => XS.icmpYes X.here C.hx rfl rfl (C.hb hd) rfl (teq q).1 ho hp g) (rt q)
  · exact Run.one (fun T locs X _ t g => XS.icmpNo X.here C.hx rfl (C.hb hd) rfl (feq q).1 g) (rf q)
theorem if_eq (C : Cx Z W own nm code maxL ret) {x : Int32} {o : Int} {pcT : Nat} (hd : decode code pc = .ok (.ifCond .eq o, 3)) (ho : 0 ≤ (pc : Int) + o) (hp : ((pc : Int) + o).toNat = pcT) (hp' : pc + 3 = pc')
    (rt : x = (0 : Int32) → Run l R Z W Q h k n (mkF W.m pcT Ls st)) (rf : ¬ x = (0 : Int32) → Run l R Z W Q h k n (mkF W.m pc' Ls st)) : Run l R Z W Q h k n (mkF W.m pc Ls (.int x :: st)) := by
  subst hp'
  by_cases q : x = (0 : Int32)
  · exact Run.one (fun T locs X _ t g => XS.ifYes X.here C.hx rfl rfl (C.hb hd) rfl ((if0 _ _).trans (teq q).1) ho hp g) (rt q)
  · exact Run.one (fun T locs X _ t g => XS.ifNo X.here C.hx rfl (C.hb hd) rfl ((if0 _ _).trans (feq q).1) g) (rf q)
theorem icmp_ne (C : Cx Z W own nm code maxL ret) {x y : Int32} {o : Int} {pcT : Nat} (hd : decode code pc = .ok (.if_icmp .ne o, 3)) (ho : 0 ≤ (pc : Int) + o) (hp : ((pc : Int) + o).toNat = pcT) (hp' : pc + 3 = pc')
    (rt : ¬ x = y → Run l R Z W Q h k n (mkF W.m pcT Ls st)) (rf : x = y → Run l R Z W Q h k n (mkF W.m pc' Ls st)) : Run l R Z W Q h k n (mkF W.m pc Ls (.int y :: .int x :: st)) := by
  subst hp'
  by_cases q : x = y
  · exact Run.one (fun T locs X _ t g => XS.icmpNo X.here C.hx rfl (C.hb hd) rfl (teq q).2 g) (rf q)
  · exact Run.one (fun T locs X _ t g => XS.icmpYes X.here C.hx rfl rfl (C.hb hd) rfl (feq q).2 ho hp g) (rt q)
theorem if_ne (C : Cx Z W own nm code maxL ret) {x : Int32} {o : Int} {pcT : Nat} (hd : decode code pc = .ok (.ifCond .ne o, 3)) (ho : 0 ≤ (pc : Int) + o) (hp : ((pc : Int) + o).toNat = pcT) (hp' : pc + 3 = pc')
    (rt : ¬ x = (0 : Int32) → Run l R Z W Q h k n (mkF W.m pcT Ls st)) (rf : x = (0 : Int32) → Run l R Z W Q h k n (mkF W.m pc' Ls st)) : Run l R Z W Q h k n (mkF W.m pc Ls (.int x :: st)) := by
  subst hp'
  by_cases q : x = (0 : Int32)
  · exact Run.one (fun T locs X _ t g => XS.ifNo X.here C.hx rfl (C.hb hd) rfl ((if0 _ _).trans (teq q).2) g) (rf q)
  · exact Run.one (fun T locs X _ t g => XS.ifYes X.here C.hx rfl rfl (C.hb hd) rfl ((if0 _ _).trans (feq q).2) ho hp g) (rt q)
theorem icmp_lt (C : Cx Z W own nm code maxL ret) {x y : Int32} {o : Int} {pcT : Nat} (hd : decode code pc = .ok (.if_icmp .lt o, 3)) (ho : 0 ≤ (pc : Int) + o) (hp : ((pc : Int) + o).toNat = pcT) (hp' : pc + 3 = pc')
    (rt : x < y → Run l R Z W Q h k n (mkF W.m pcT Ls st)) (rf : ¬ x < y → Run l R Z W Q h k n (mkF W.m pc' Ls st)) : Run l R Z W Q h k n (mkF W.m pc Ls (.int y :: .int x :: st)) := by
  subst hp'
  by_cases q : x < y
  · exact Run.one (fun T locs X _ t g => XS.icmpYes X.here C.hx rfl rfl (C.hb hd) rfl (tlt q).1 ho hp g) (rt q)
  · exact Run.one (fun T locs X _ t g => XS.icmpNo X.here C.hx rfl (C.hb hd) rfl (flt q).1 g) (rf q)
theorem if_lt (C : Cx Z W own nm code maxL ret) {x : Int32} {o : Int} {pcT : Nat} (hd : decode code pc = .ok (.ifCond .lt o, 3)) (ho : 0 ≤ (pc : Int) + o) (hp : ((pc : Int) + o).toNat = pcT) (hp' : pc + 3 = pc')
    (rt : x < (0 : Int32) → Run l R Z W Q h k n (mkF W.m pcT Ls st)) (rf : ¬ x < (0 : Int32) → Run l R Z W Q h k n (mkF W.m pc' Ls st)) : Run l R Z W Q h k n (mkF W.m pc Ls (.int x :: st)) := by
  subst hp'
  by_cases q : x < (0 : Int32)
  · exact Run.one (fun T locs X _ t g => XS.ifYes X.here C.hx rfl rfl (C.hb hd) rfl ((if0 _ _).trans (tlt q).1) ho hp g) (rt q)
  · exact Run.one (fun T locs X _ t g => XS.ifNo X.here C.hx rfl (C.hb hd) rfl ((if0 _ _).trans (flt q).1) g) (rf q)
theorem icmp_ge (C : Cx Z W own nm code maxL ret) {x y : Int32} {o : Int} {pcT : Nat} (hd : decode code pc = .ok (.if_icmp .ge o, 3)) (ho : 0 ≤ (pc : Int) + o) (hp : ((pc : Int) + o).toNat = pcT) (hp' : pc + 3 = pc')
    (rt : ¬ x < y → Run l R Z W Q h k n (mkF W.m pcT Ls st)) (rf : x < y → Run l R Z W Q h k n (mkF W.m pc' Ls st)) : Run l R Z W Q h k n (mkF W.m pc Ls (.int y :: .int x :: st)) := by
  subst hp'
  by_cases q : x < y
  · exact Run.one (fun T locs X _ t g => XS.icmpNo X.here C.hx rfl (C.hb hd) rfl (tlt q).2.1 g) (rf q)
  · exact Run.one (fun T locs X _ t g => XS.icmpYes X.here C.hx rfl rfl (C.hb hd) rfl (flt q).2.1 ho hp g) (rt q)
theorem if_ge (C : Cx Z W own nm code maxL ret) {x : Int32} {o : Int} {pcT : Nat} (hd : decode code pc = .ok (.ifCond .ge o, 3)) (ho : 0 ≤ (pc : Int) + o) (hp : ((pc : Int) + o).toNat = pcT) (hp' : pc + 3 = pc')
    (rt : ¬ x < (0 : Int32) → Run l R Z W Q h k n (mkF W.m pcT Ls st)) (rf : x < (0 : Int32) → Run l R Z W Q h k n (mkF W.m pc' Ls st)) : Run l R Z W Q h k n (mkF W.m pc Ls (.int x :: st)) := by
  subst hp'
  by_cases q : x < (0 : Int32)
  · exact Run.one (fun T locs X _ t g => XS.ifNo X.here C.hx rfl (C.hb hd) rfl ((if0 _ _).trans (tlt q).2.1) g) (rf q)
  · exact Run.one (fun T locs X _ t g => XS.ifYes X.here C.hx rfl rfl (C.hb hd) rfl ((if0 _ _).trans (flt q).2.1) ho hp g) (rt q)
theorem icmp_gt (C : Cx Z W own nm code maxL ret) {x y : Int32} {o : Int} {pcT : Nat} (hd : decode code pc = .ok (.if_icmp .gt o, 3)) (ho : 0 ≤ (pc : Int) + o) (hp : ((pc : Int) + o).toNat = pcT) (hp' : pc + 3 = pc')
    (rt : y < x → Run l R Z W Q h k n (mkF W.m pcT Ls st)) (rf : ¬ y < x → Run l R Z W Q h k n (mkF W.m pc' Ls st)) : Run l R Z W Q h k n (mkF W.m pc Ls (.int y :: .int x :: st)) := by
  subst hp'
  by_cases q : y < x
  · exact Run.one (fun T locs X _ t g => XS.icmpYes X.here C.hx rfl rfl (C.hb hd) rfl (tlt q).2.2.1 ho hp g) (rt q)
  · exact Run.one (fun T locs X _ t g => XS.icmpNo X.here C.hx rfl (C.hb hd) rfl (flt q).2.2.1 g) (rf q)
theorem if_gt (C : Cx Z W own nm code maxL ret) {x : Int32} {o : Int} {pcT : Nat} (hd : decode code pc = .ok (.ifCond .gt o, 3)) (ho : 0 ≤ (pc : Int) + o) (hp : ((pc : Int) + o).toNat = pcT) (hp' : pc + 3 = pc')
    (rt : (0 : Int32) < x → Run l R Z W Q h k n (mkF W.m pcT Ls st)) (rf : ¬ (0 : Int32) < x → Run l R Z W Q h k n (mkF W.m pc' Ls st)) : Run l R Z W Q h k n (mkF W.m pc Ls (.int x :: st)) := by
  subst hp'
  by_cases q : (0 : Int32) < x
  · exact Run.one (fun T locs X _ t g => XS.ifYes X.here C.hx rfl rfl (C.hb hd) rfl ((if0 _ _).trans (tlt q).2.2.1) ho hp g) (rt q)
  · exact Run.one (fun T locs X _ t g => XS.ifNo X.here C.hx rfl (C.hb hd) rfl ((if0 _ _).trans (flt q).2.2.1) g) (rf q)
theorem icmp_le (C : Cx Z W own nm code maxL ret) {x y : Int32} {o : Int} {pcT : Nat} (hd : decode code pc = .ok (.if_icmp .le o, 3)) (ho : 0 ≤ (pc : Int) + o) (hp : ((pc : Int) + o).toNat = pcT) (hp' : pc + 3 = pc')
    (rt : ¬ y < x → Run l R Z W Q h k n (mkF W.m pcT Ls st)) (rf : y < x → Run l R Z W Q h k n (mkF W.m pc' Ls st)) : Run l R Z W Q h k n (mkF W.m pc Ls (.int y :: .int x :: st)) := by
  subst hp'
  by_cases q : y < x
  · exact Run.one (fun T locs X _ t g => XS.icmpNo X.here C.hx rfl (C.hb hd) rfl (tlt q).2.2.2 g) (rf q)
  · exact Run.one (fun T locs X _ t g => XS.icmpYes X.here C.hx rfl rfl (C.hb hd) rfl (flt q).2.2.2 ho hp g) (rt q)
theorem if_le (C : Cx Z W own nm code maxL ret) {x : Int32} {o : Int} {pcT : Nat} (hd : decode code pc = .ok (.ifCond .le o, 3)) (ho : 0 ≤ (pc : Int) + o) (hp : ((pc : Int) + o).toNat = pcT) (hp' : pc + 3 = pc')
    (rt : ¬ (0 : Int32) < x → Run l R Z W Q h k n (mkF W.m pcT Ls st)) (rf : (0 : Int32) < x → Run l R Z W Q h k n (mkF W.m pc' Ls st)) : Run l R Z W Q h k n (mkF W.m pc Ls (.int x :: st)) := by
  subst hp'
  by_cases q : (0 : Int32) < x
  · exact Run.one (fun T locs X _ t g => XS.ifNo X.here C.hx rfl (C.hb hd) rfl ((if0 _ _).trans (tlt q).2.2.2) g) (rf q)
  · exact Run.one (fun T locs X _ t g => XS.ifYes X.here C.hx rfl rfl (C.hb hd) rfl ((if0 _ _).trans (flt q).2.2.2) ho hp g) (rt q)
theorem ifnullY (C : Cx Z W own nm code maxL ret) {o : Int} (hd : decode code pc = .ok (.ifnull o, 3)) (ho : 0 ≤ (pc : Int) + o) (hp : ((pc : Int) + o).toNat = pc') (r : Run l R Z W Q h k n (mkF W.m pc' Ls st)) : Run l R Z W Q h k n (mkF W.m pc Ls (.null :: st)) :=
  Run.one (fun T locs X _ t g => XS.ifnullYes X.here C.hx rfl rfl (C.hb hd) rfl ho hp g) r
theorem ifnullN (C : Cx Z W own nm code maxL ret) {o : Int} {b : Addr} (hd : decode code pc = .ok (.ifnull o, 3)) (hp : pc + 3 = pc') (r : Run l R Z W Q h k n (mkF W.m pc' Ls st)) : Run l R Z W Q h k n (mkF W.m pc Ls (.ref b :: st)) := by
  subst hp
  exact Run.one (fun T locs X _ t g => XS.ifnullNo X.here C.hx rfl (C.hb hd) rfl g) r
theorem ifnonnullY (C : Cx Z W own nm code maxL ret) {o : Int} {b : Addr} (hd : decode code pc = .ok (.ifnonnull o, 3)) (ho : 0 ≤ (pc : Int) + o) (hp : ((pc : Int) + o).toNat = pc') (r : Run l R Z W Q h k n (mkF W.m pc' Ls st)) : Run l R Z W Q h k n (mkF W.m pc Ls (.ref b :: st)) :=
  Run.one (fun T locs X _ t g => XS.ifnonnullYes X.here C.hx rfl rfl (C.hb hd) rfl ho hp g) r
theorem ifnonnullN (C : Cx Z W own nm code maxL ret) {o : Int} (hd : decode code pc = .ok (.ifnonnull o, 3)) (hp : pc + 3 = pc') (r : Run l R Z W Q h k n (mkF W.m pc' Ls st)) : Run l R Z W Q h k n (mkF W.m pc Ls (.null :: st)) := by
  subst hp
  exact Run.one (fun T locs X _ t g => XS.ifnonnullNo X.here C.hx rfl (C.hb hd) rfl g) r
theorem acmp_eq (C : Cx Z W own nm code maxL ret) {o : Int} {x y : Value} {pcT : Nat} (hd : decode code pc = .ok (.if_acmp .eq o, 3)) (hx' : x.isRef = true) (hy' : y.isRef = true) (ho : 0 ≤ (pc : Int) + o) (hp : ((pc : Int) + o).toNat = pcT) (hp' : pc + 3 = pc')
    (rt : x = y → Run l R Z W Q h k n (mkF W.m pcT Ls st)) (rf : ¬ x = y → Run l R Z W Q h k n (mkF W.m pc' Ls st)) : Run l R Z W Q h k n (mkF W.m pc Ls (y :: x :: st)) := by
  subst hp'
  by_cases q : x = y
  · exact Run.one (fun T locs X _ t g => XT.acmpYes X.here C.hx rfl rfl (C.hb hd) rfl hx' hy' (XT.aa_eq_t q) ho hp g) (rt q)
  · exact Run.one (fun T locs X _ t g => XT.acmpNo X.here C.hx rfl (C.hb hd) rfl hx' hy' (XT.aa_eq_f q) g) (rf q)
theorem acmp_ne (C : Cx Z W own nm code maxL ret) {o : Int} {x y : Value} {pcT : Nat} (hd : decode code pc = .ok (.if_acmp .ne o, 3)) (hx' : x.isRef = true) (hy' : y.isRef = true) (ho : 0 ≤ (pc : Int) + o) (hp : ((pc : Int) + o).toNat = pcT) (hp' : pc + 3 = pc')
    (rt : ¬ x = y → Run l R Z W Q h k n (mkF W.m pcT Ls st)) (rf : x = y → Run l R Z W Q h k n (mkF W.m pc' Ls st)) : Run l R Z W Q h k n (mkF W.m pc Ls (y :: x :: st)) := by
  subst hp'
  by_cases q : x = y
  · exact Run.one (fun T locs X _ t g => XT.acmpNo X.here C.hx rfl (C.hb hd) rfl hx' hy' (XT.aa_ne_f q) g) (rf q)
  · exact Run.one (fun T locs X _ t g => XT.acmpYes X.here C.hx rfl rfl (C.hb hd) rfl hx' hy' (XT.aa_ne_t q) ho hp g) (rt q)
theorem tswIn (C : Cx Z W own nm code maxL ret) {d lo hi o : Int} {offs : Array Int} {ln : Nat} {i : Int32} (hd : decode code pc = .ok (.tableswitch d lo hi offs, ln)) (hin : ¬ (i.toInt < lo ∨ i.toInt > hi)) (ho : offs[(i.toInt - lo).toNat]? = some o) (h0 : 0 ≤ (pc : Int) + o) (hp : ((pc : Int) + o).toNat = pc')
    (r : Run l R Z W Q h k n (mkF W.m pc' Ls st)) : Run l R Z W Q h k n (mkF W.m pc Ls (.int i :: st)) :=
  Run.one (fun T locs X _ t g => XS.tswIn X.here C.hx rfl rfl (C.hb hd) rfl hin ho h0 hp g) r
theorem ldcI (C : Cx Z W own nm code maxL ret) {ix : Nat} {v : Int32} (hd : decode code pc = .ok (.ldc ix, 2)) (w : (Cond.constant own ix v).before a0 Z = true) (hp : pc + 2 = pc') (r : Run l R Z W Q h k n (mkF W.m pc' Ls (.int v :: st))) : Run l R Z W Q h k n (mkF W.m pc Ls st) := by
  subst hp
  exact Run.one (fun T locs X _ t g => X.ldcInt C.hx C.ow (mvT C.hZ w) (g := mkF W.m pc Ls st) rfl (C.hb hd) t g) r
theorem ldcWI (C : Cx Z W own nm code maxL ret) {ix : Nat} {v : Int32} (hd : decode code pc = .ok (.ldc_w ix, 3)) (w : (Cond.constant own ix v).before a0 Z = true) (hp : pc + 3 = pc') (r : Run l R Z W Q h k n (mkF W.m pc' Ls (.int v :: st))) : Run l R Z W Q h k n (mkF W.m pc Ls st) := by
  subst hp
  exact Run.one (fun T locs X _ t g => X.ldcWInt C.hx C.ow (mvT C.hZ w) (g := mkF W.m pc Ls st) rfl (C.hb hd) t g) r
theorem ldc2J (C : Cx Z W own nm code maxL ret) {ix : Nat} {v : Int64} (hd : decode code pc = .ok (.ldc2_w ix, 3)) (w : (Cond.constantLong own ix v).before a0 Z = true) (hp : pc + 3 = pc') (r : Run l R Z W Q h k n (mkF W.m pc' Ls (.long v :: st))) : Run l R Z W Q h k n (mkF W.m pc Ls st) := by
  subst hp
  exact Run.one (fun T locs X _ t g => X.ldc2Long C.hx C.ow (mvT C.hZ w) (g := mkF W.m pc Ls st) rfl (C.hb hd) t g) r
theorem Run.via {g g' : JFrame} (f : ∀ T locs, Std l R W T locs k n → T.heap = h → ∃ T', Std l R W T' locs k n ∧ T'.heap = h ∧ ∀ t, Steps W.p.tables W.e W.b (T'.setTop g') t → Steps W.p.tables W.e W.b (T.setTop g) t) (r : Run l R Z W Q h k n g') : Run l R Z W Q h k n g :=
  fun T locs X eT N O => by
    obtain ⟨T', X', e', s'⟩ := f T locs X eT
    exact Go.step s' (r T' locs X' e' N O)
theorem getF (C : Cx Z W own nm code maxL ret) {R0 O nmF d : String} {ix : Nat} (hd : decode code pc = .ok (.getfield ix, 3)) (w : (Cond.fieldLink own ix R0 nmF d).before a0 Z = true) (via : Via Z R0 O nmF d) {a : Addr} {v : Value} (F : Fld Z h a O nmF d v) (hp : pc + 3 = pc')
    (r : Run l R Z W Q h k n (mkF W.m pc' Ls (v :: st))) : Run l R Z W Q h k n (mkF W.m pc Ls (.ref a :: st)) := by
  subst hp
  exact Run.via (fun T locs X eT => RoadKit.getF X C.hx C.hZ C.ow (host := "") (Or.inl w) via eT F (g := mkF W.m pc Ls (.ref a :: st)) rfl rfl (C.hb hd)) r
theorem getFN (C : Cx Z W own nm code maxL ret) {R0 O nmF d host : String} {ix : Nat} (hd : decode code pc = .ok (.getfield ix, 3)) (w : (Cond.fieldLinkNest own ix R0 nmF d host).before a0 Z = true) (via : Via Z R0 O nmF d) {a : Addr} {v : Value} (F : Fld Z h a O nmF d v) (hp : pc + 3 = pc')
    (r : Run l R Z W Q h k n (mkF W.m pc' Ls (v :: st))) : Run l R Z W Q h k n (mkF W.m pc Ls (.ref a :: st)) := by
  subst hp
  exact Run.via (fun T locs X eT => RoadKit.getF X C.hx C.hZ C.ow (Or.inr w) via eT F (g := mkF W.m pc Ls (.ref a :: st)) rfl rfl (C.hb hd)) r
theorem getS (C : Cx Z W own nm code maxL ret) {R0 O nmF d : String} {ix : Nat} (hd : decode code pc = .ok (.getstatic ix, 3)) (w : (Cond.fieldLink own ix R0 nmF d).before a0 Z = true) (via : Via Z R0 O nmF d) {v : Value} (F : Sta Z h O nmF d v) (hp : pc + 3 = pc')
    (r : Run l R Z W Q h k n (mkF W.m pc' Ls (v :: st))) : Run l R Z W Q h k n (mkF W.m pc Ls st) := by
  subst hp
  exact Run.via (fun T locs X eT => getS2 X C.hx C.hZ C.ow (host := "") (Or.inl w) via eT F (g := mkF W.m pc Ls st) rfl (C.hb hd)) r
theorem getSN (C : Cx Z W own nm code maxL ret) {R0 O nmF d host : String} {ix : Nat} (hd : decode code pc = .ok (.getstatic ix, 3)) (w : (Cond.fieldLinkNest own ix R0 nmF d host).before a0 Z = true) (via : Via Z R0 O nmF d) {v : Value} (F : Sta Z h O nmF d v) (hp : pc + 3 = pc')
    (r : Run l R Z W Q h k n (mkF W.m pc' Ls (v :: st))) : Run l R Z W Q h k n (mkF W.m pc Ls st) := by
  subst hp
  exact Run.via (fun T locs X eT => getS2 X C.hx C.hZ C.ow (Or.inr w) via eT F (g := mkF W.m pc Ls st) rfl (C.hb hd)) r
theorem castY (C : Cx Z W own nm code maxL ret) {K : String} {ix : Nat} (hd : decode code pc = .ok (.checkcast ix, 3)) (w : (Cond.classLink own ix K).before a0 Z = true) {a : Addr} (F : Ins Z h a K true) (hp : pc + 3 = pc')
    (r : Run l R Z W Q h k n (mkF W.m pc' Ls (.ref a :: st))) : Run l R Z W Q h k n (mkF W.m pc Ls (.ref a :: st)) := by
  subst hp
  exact Run.via (fun T locs X eT => RoadKit.castY X C.hx C.hZ C.ow w eT F (g := mkF W.m pc Ls (.ref a :: st)) rfl rfl (C.hb hd)) r
theorem instY (C : Cx Z W own nm code maxL ret) {K : String} {ix : Nat} (hd : decode code pc = .ok (.instanceof ix, 3)) (w : (Cond.classLink own ix K).before a0 Z = true) {a : Addr} (F : Ins Z h a K true) (hp : pc + 3 = pc')
    (r : Run l R Z W Q h k n (mkF W.m pc' Ls (.int 1 :: st))) : Run l R Z W Q h k n (mkF W.m pc Ls (.ref a :: st)) := by
  subst hp
  exact Run.via (fun T locs X eT => RoadKit.instY X C.hx C.hZ C.ow w eT F (g := mkF W.m pc Ls (.ref a :: st)) rfl rfl (C.hb hd)) r
theorem instNull (C : Cx Z W own nm code maxL ret) {ix : Nat} (hd : decode code pc = .ok (.instanceof ix, 3)) (hp : pc + 3 = pc')
    (r : Run l R Z W Q h k n (mkF W.m pc' Ls (.int 0 :: st))) : Run l R Z W Q h k n (mkF W.m pc Ls (.null :: st)) := by
  subst hp
  exact Run.one (fun T locs X eT t g => X.instanceofNull C.hx (g := mkF W.m pc Ls (.null :: st)) rfl rfl (C.hb hd) t g) r
theorem castNull (C : Cx Z W own nm code maxL ret) {ix : Nat} (hd : decode code pc = .ok (.checkcast ix, 3)) (hp : pc + 3 = pc')
    (r : Run l R Z W Q h k n (mkF W.m pc' Ls (.null :: st))) : Run l R Z W Q h k n (mkF W.m pc Ls (.null :: st)) := by
  subst hp
  exact Run.one (fun T locs X eT t g => X.checkcastNull C.hx (g := mkF W.m pc Ls (.null :: st)) rfl rfl (C.hb hd) t g) r
/-- an array as a list: its kind, its length, its elements -/
def Ary (Z : State) (h : Heap) (a : Addr) (ty : FieldType) (vs : List Value) : Prop := ∃ c : Cell, Arr Z h a c ty ∧ c.slots = vs.toArray ∧ vs.length < 2 ^ 31 ∧ ∀ v ∈ vs, fits ty v = true
theorem Ary.lt {a : Addr} {ty : FieldType} {vs : List Value} (F : Ary Z h a ty vs) : a < h.size := by obtain ⟨c, A, -⟩ := F; exact A.lt
theorem Ary.ext {h' : Heap} {a : Addr} {ty : FieldType} {vs : List Value} (F : Ary Z h a ty vs) (E : Ext h h') : Ary Z h' a ty vs := by obtain ⟨c, A, r⟩ := F; exact ⟨c, A.ext E, r⟩
theorem Ary.other {h' : Heap} {a b : Addr} {sl : Nat} {v : Value} {ty : FieldType} {vs : List Value} (F : Ary Z h b ty vs) (X : Wr h h' a sl v) (q : b ≠ a) : Ary Z h' b ty vs := by obtain ⟨c, A, r⟩ := F; exact ⟨c, A.other X q, r⟩
theorem Ary.keep {h' : Heap} {a : Addr} {ws : List Addr} {ty : FieldType} {vs : List Value} (F : Ary Z h a ty vs) (K : Keep h h' ws) (q : a ∉ ws) : Ary Z h' a ty vs := by obtain ⟨c, A, r⟩ := F; exact ⟨c, ⟨K.2.1 a c A.1 q, A.2⟩, r⟩
theorem Ary.set {h' : Heap} {a : Addr} {i : Nat} {v : Value} {ty : FieldType} {vs : List Value} (F : Ary Z h a ty vs) (X : Wr h h' a i v) (hv : fits ty v = true) : Ary Z h' a ty (vs.set i v) := by
  obtain ⟨c, A, e, q, f⟩ := F
  refine ⟨_, A.same X, ?_, by simpa using q, fun w hw => ?_⟩
  · show (c.slots.setIfInBounds i v) = _
    rw [e]; simp
  · rcases List.mem_or_eq_of_mem_set hw with hw | rfl
    · exact f w hw
    · exact hv
theorem Ary.inb {a : Addr} {ty : FieldType} {vs : List Value} {c : Cell} {j : Int32} (e : c.slots = vs.toArray) (h0 : ¬ j < 0) (h1 : j.toNatClampNeg < vs.length) : ¬ (j < 0 ∨ c.slots.size ≤ j.toNatClampNeg) := by
  rw [e]
  rintro (q | q)
  · exact h0 q
  · simp at q; omega
theorem Ary.arv {a : Addr} {ty : FieldType} {vs : List Value} {d : Value} (F : Ary Z h a ty vs) : ∃ kc, Arv Z h a kc ty (Int32.ofNat vs.length) vs d := by
  obtain ⟨c, A, e, q, f⟩ := F
  have hn : (Int32.ofNat vs.length).toNatClampNeg = vs.length := by
    rw [Int32.toNatClampNeg_ofNat_of_lt q]
  refine ⟨c.cls, c, A, rfl, by rw [hn, e]; simp, ?_, fun i hi => ?_, fun i hi => ?_⟩
  · rw [Int32.lt_iff_toInt_lt, Int32.toInt_ofNat_of_lt q]; simp
  · have hi' : i < vs.length := by rw [e] at hi; simpa using hi
    rw [e]; simp [List.getD_eq_getElem?_getD, hi']
  · have hi' : i < vs.length := by rw [e] at hi; simpa using hi
    have := f _ (List.getElem_mem hi')
    simpa [List.getD_eq_getElem?_getD, hi'] using this
theorem Ary.of_arv {a : Addr} {kc : ClassId} {ty : FieldType} {z : Int32} {vs : List Value} {d : Value} (F : Arv Z h a kc ty z vs d) (hz : z.toNatClampNeg = vs.length) : Ary Z h a ty vs := by
  obtain ⟨c, A, -, S, z0, H, G⟩ := F
  have hs : c.slots.size = vs.length := S.trans hz
  refine ⟨c, A, ?_, by rw [← hz]; exact (back32 z0).2, fun v hv => ?_⟩
  · apply Array.ext
    · simpa using hs
    · intro i h1 h2
      have q := H i h1
      rw [Array.getElem?_eq_getElem h1] at q
      have h3 : i < vs.length := by omega
      simpa [List.getD_eq_getElem?_getD, h3] using q
  · obtain ⟨i, hi, rfl⟩ := List.getElem_of_mem hv
    have := G i (by omega)
    simpa [List.getD_eq_getElem?_getD, hi] using this
theorem alen (C : Cx Z W own nm code maxL ret) (hd : decode code pc = .ok (.arraylength, 1)) {a : Addr} {ty : FieldType} {vs : List Value} {z : Int32} (F : Ary Z h a ty vs) (hz : Int32.ofNat vs.length = z) (hp : pc + 1 = pc')
    (r : Run l R Z W Q h k n (mkF W.m pc' Ls (.int z :: st))) : Run l R Z W Q h k n (mkF W.m pc Ls (.ref a :: st)) := by
  subst hp hz
  obtain ⟨c, A, e, -⟩ := F
  have e2 : c.slots.size.toInt32 = Int32.ofNat vs.length := by rw [e]; simp
  exact Run.one (fun T locs X eT t g => X.arraylength C.hx (by rw [eT]; exact A.1) (State.isArrayOf_alike C.hZ.alike A.2.1) (g := mkF W.m pc Ls (.ref a :: st)) rfl rfl (C.hb hd) t (by rw [e2]; exact g)) r
theorem caload (C : Cx Z W own nm code maxL ret) (hd : decode code pc = .ok (.caload, 1)) {a : Addr} {vs : List Value} {j : Int32} {v : Value} (F : Ary Z h a .char vs) (h0 : ¬ j < 0) (hv : vs[j.toNatClampNeg]? = some v) (hp : pc + 1 = pc')
    (r : Run l R Z W Q h k n (mkF W.m pc' Ls (v :: st))) : Run l R Z W Q h k n (mkF W.m pc Ls (.int j :: .ref a :: st)) := by
  subst hp
  obtain ⟨c, A, e, -⟩ := F
  have h1 : j.toNatClampNeg < vs.length := (List.getElem?_eq_some_iff.mp hv).1
  exact Run.one (fun T locs X eT t g => X.caload C.hx (by rw [eT]; exact A.1) (State.isArrayOf_alike C.hZ.alike A.2.1) A.2.2 (Ary.inb (a := a) (ty := .char) e h0 h1) (by rw [e]; simpa using hv) (g := mkF W.m pc Ls (.int j :: .ref a :: st)) rfl rfl (C.hb hd) t g) r
theorem iaload (C : Cx Z W own nm code maxL ret) (hd : decode code pc = .ok (.iaload, 1)) {a : Addr} {vs : List Value} {j : Int32} {v : Value} (F : Ary Z h a .int vs) (h0 : ¬ j < 0) (hv : vs[j.toNatClampNeg]? = some v) (hp : pc + 1 = pc')
    (r : Run l R Z W Q h k n (mkF W.m pc' Ls (v :: st))) : Run l R Z W Q h k n (mkF W.m pc Ls (.int j :: .ref a :: st)) := by
  subst hp
  obtain ⟨c, A, e, -⟩ := F
  have h1 : j.toNatClampNeg < vs.length := (List.getElem?_eq_some_iff.mp hv).1
  exact Run.one (fun T locs X eT t g => X.iaload C.hx (by rw [eT]; exact A.1) (State.isArrayOf_alike C.hZ.alike A.2.1) A.2.2 (Ary.inb (a := a) (ty := .int) e h0 h1) (by rw [e]; simpa using hv) (g := mkF W.m pc Ls (.int j :: .ref a :: st)) rfl rfl (C.hb hd) t g) r
theorem baload (C : Cx Z W own nm code maxL ret) (hd : decode code pc = .ok (.baload, 1)) {a : Addr} {vs : List Value} {j : Int32} {v : Value} (F : Ary Z h a .byte vs) (h0 : ¬ j < 0) (hv : vs[j.toNatClampNeg]? = some v) (hp : pc + 1 = pc')
    (r : Run l R Z W Q h k n (mkF W.m pc' Ls (v :: st))) : Run l R Z W Q h k n (mkF W.m pc Ls (.int j :: .ref a :: st)) := by
  subst hp
  obtain ⟨c, A, e, -⟩ := F
  have h1 : j.toNatClampNeg < vs.length := (List.getElem?_eq_some_iff.mp hv).1
  exact Run.one (fun T locs X eT t g => X.baloadBytes C.hx (by rw [eT]; exact A.1) (State.isArrayOf_alike C.hZ.alike A.2.1) A.2.2 (Ary.inb (a := a) (ty := .byte) e h0 h1) (by rw [e]; simpa using hv) (g := mkF W.m pc Ls (.int j :: .ref a :: st)) rfl rfl (C.hb hd) t g) r
theorem saload (C : Cx Z W own nm code maxL ret) (hd : decode code pc = .ok (.saload, 1)) {a : Addr} {vs : List Value} {j : Int32} {v : Value} (F : Ary Z h a .short vs) (h0 : ¬ j < 0) (hv : vs[j.toNatClampNeg]? = some v) (hp : pc + 1 = pc')
    (r : Run l R Z W Q h k n (mkF W.m pc' Ls (v :: st))) : Run l R Z W Q h k n (mkF W.m pc Ls (.int j :: .ref a :: st)) := by
  subst hp
  obtain ⟨c, A, e, -⟩ := F
  have h1 : j.toNatClampNeg < vs.length := (List.getElem?_eq_some_iff.mp hv).1
  exact Run.one (fun T locs X eT t g => X.saload C.hx (by rw [eT]; exact A.1) (State.isArrayOf_alike C.hZ.alike A.2.1) A.2.2 (Ary.inb (a := a) (ty := .short) e h0 h1) (by rw [e]; simpa using hv) (g := mkF W.m pc Ls (.int j :: .ref a :: st)) rfl rfl (C.hb hd) t g) r
theorem laload (C : Cx Z W own nm code maxL ret) (hd : decode code pc = .ok (.laload, 1)) {a : Addr} {vs : List Value} {j : Int32} {v : Value} (F : Ary Z h a .long vs) (h0 : ¬ j < 0) (hv : vs[j.toNatClampNeg]? = some v) (hp : pc + 1 = pc')
    (r : Run l R Z W Q h k n (mkF W.m pc' Ls (v :: st))) : Run l R Z W Q h k n (mkF W.m pc Ls (.int j :: .ref a :: st)) := by
  subst hp
  obtain ⟨c, A, e, -⟩ := F
  have h1 : j.toNatClampNeg < vs.length := (List.getElem?_eq_some_iff.mp hv).1
  exact Run.one (fun T locs X eT t g => X.laload C.hx (by rw [eT]; exact A.1) (State.isArrayOf_alike C.hZ.alike A.2.1) A.2.2 (Ary.inb (a := a) (ty := .long) e h0 h1) (by rw [e]; simpa using hv) (g := mkF W.m pc Ls (.int j :: .ref a :: st)) rfl rfl (C.hb hd) t g) r
theorem aaload (C : Cx Z W own nm code maxL ret) (hd : decode code pc = .ok (.aaload, 1)) {a : Addr} {ty : FieldType} {vs : List Value} {j : Int32} {v : Value} (F : Ary Z h a ty vs) (ht : ty.isReference = true) (h0 : ¬ j < 0) (hv : vs[j.toNatClampNeg]? = some v) (hp : pc + 1 = pc')
    (r : Run l R Z W Q h k n (mkF W.m pc' Ls (v :: st))) : Run l R Z W Q h k n (mkF W.m pc Ls (.int j :: .ref a :: st)) := by
  subst hp
  obtain ⟨c, A, e, -⟩ := F
  have h1 : j.toNatClampNeg < vs.length := (List.getElem?_eq_some_iff.mp hv).1
  exact Run.one (fun T locs X eT t g => X.aaload C.hx (by rw [eT]; exact A.1) (State.isArrayOf_alike C.hZ.alike A.2.1) ht A.2.2 (Ary.inb (a := a) (ty := ty) e h0 h1) (by rw [e]; simpa using hv) (g := mkF W.m pc Ls (.int j :: .ref a :: st)) rfl rfl (C.hb hd) t g) r
theorem Run.wrote {a : Addr} {sl : Nat} {v : Value} {g g' : JFrame} (ha : Z.heap.size ≤ a) (f : ∀ T locs, Std l R W T locs k n → T.heap = h → ∃ T' h', Std l R W T' (locs ++ [⟨a, sl⟩]) k n ∧ T'.heap = h' ∧ Wr h h' a sl v ∧ ∀ t, Steps W.p.tables W.e W.b (T'.setTop g') t → Steps W.p.tables W.e W.b (T.setTop g) t)
    (r : ∀ h', Wr h h' a sl v → Ext Z.heap h' → Run l R Z W Q h' k n g') : Run l R Z W Q h k n g := fun T locs X eT N O => by
  obtain ⟨T', h', X', e', w', s'⟩ := f T locs X eT
  have O' : Ext Z.heap h' := ((old_of O).wr w' ha).2
  exact Go.step s' (r h' w' O' T' _ X' e' (Fr.snoc X' N ha) O')
theorem putF (C : Cx Z W own nm code maxL ret) {R0 O nmF d K : String} {ix kk : Nat} {ty : FieldType} (hd : decode code pc = .ok (.putfield ix, 3)) (w : (Cond.fieldLink own ix R0 nmF d).before a0 Z = true) (via : Via Z R0 O nmF d) {a : Addr} {v old : Value} (F : Fld Z h a O nmF d old) (E : Exa Z h a K)
    (L : (Cond.lays K O nmF d).before a0 Z = true ∨ ((Cond.laysFinal K O nmF d).before a0 Z = true ∧ own = O ∧ nm = "<init>")) (wi : (Cond.instantiable K kk).before a0 Z = true) (hty : parseFieldDescriptor d = some ty) (hn : narrow ty v = v) (hf : fits ty v = true) (ha : Z.heap.size ≤ a) (hp : pc + 3 = pc')
    (r : ∀ h', Wr h h' a (RoadKit.slotOf Z O nmF d) v → Ext Z.heap h' → Run l R Z W Q h' k n (mkF W.m pc' Ls st)) : Run l R Z W Q h k n (mkF W.m pc Ls (v :: .ref a :: st)) := by
  subst hp
  exact Run.wrote ha (fun T locs X eT => RoadKit.putF X C.hx C.hZ C.ow (host := "") (Or.inl w) via eT F E (L.imp id fun q => ⟨q.1, q.2.1, C.nme.trans q.2.2⟩) wi hty hn hf (g := mkF W.m pc Ls (v :: .ref a :: st)) rfl rfl (C.hb hd)) r
theorem castore (C : Cx Z W own nm code maxL ret) (hd : decode code pc = .ok (.castore, 1)) {a : Addr} {vs vs' : List Value} {j x : Int32} (F : Ary Z h a .char vs) (h0 : ¬ j < 0) (h1 : j.toNatClampNeg < vs.length) (hx : nar .char x = x) (hs : vs.set j.toNatClampNeg (.int x) = vs') (ha : Z.heap.size ≤ a) (hp : pc + 1 = pc')
    (r : ∀ h', Wr h h' a j.toNatClampNeg (.int x) → Ary Z h' a .char vs' → Ext Z.heap h' → Run l R Z W Q h' k n (mkF W.m pc' Ls st)) : Run l R Z W Q h k n (mkF W.m pc Ls (.int x :: .int j :: .ref a :: st)) := by
  subst hp hs
  have F' := F
  obtain ⟨c, A, e, -⟩ := F'
  exact Run.wrote ha (fun T locs X eT => by have w0 := RoadKit.stC X C.hx C.hZ eT A (Ary.inb (a := a) (ty := .char) e h0 h1) (g := mkF W.m pc Ls (.int x :: .int j :: .ref a :: st)) rfl rfl (C.hb hd); rw [hx] at w0; exact w0) (fun h' w' O' => r h' w' (F.set w' (hx ▸ fits_nar_char x)) O')
theorem bastore (C : Cx Z W own nm code maxL ret) (hd : decode code pc = .ok (.bastore, 1)) {a : Addr} {vs vs' : List Value} {j x : Int32} (F : Ary Z h a .byte vs) (h0 : ¬ j < 0) (h1 : j.toNatClampNeg < vs.length) (hs : vs.set j.toNatClampNeg (.int (nar .byte x)) = vs') (ha : Z.heap.size ≤ a) (hp : pc + 1 = pc')
    (r : ∀ h', Wr h h' a j.toNatClampNeg (.int (nar .byte x)) → Ary Z h' a .byte vs' → Ext Z.heap h' → Run l R Z W Q h' k n (mkF W.m pc' Ls st)) : Run l R Z W Q h k n (mkF W.m pc Ls (.int x :: .int j :: .ref a :: st)) := by
  subst hp hs
  have F' := F
  obtain ⟨c, A, e, -⟩ := F'
  exact Run.wrote ha (fun T locs X eT => by have w0 := RoadKit.stB X C.hx C.hZ eT A (Ary.inb (a := a) (ty := .byte) e h0 h1) (g := mkF W.m pc Ls (.int x :: .int j :: .ref a :: st)) rfl rfl (C.hb hd); exact w0) (fun h' w' O' => r h' w' (F.set w' (fits_nar_byte x)) O')
theorem iastore (C : Cx Z W own nm code maxL ret) (hd : decode code pc = .ok (.iastore, 1)) {a : Addr} {vs vs' : List Value} {j x : Int32} (F : Ary Z h a .int vs) (h0 : ¬ j < 0) (h1 : j.toNatClampNeg < vs.length) (hs : vs.set j.toNatClampNeg (.int x) = vs') (ha : Z.heap.size ≤ a) (hp : pc + 1 = pc')
    (r : ∀ h', Wr h h' a j.toNatClampNeg (.int x) → Ary Z h' a .int vs' → Ext Z.heap h' → Run l R Z W Q h' k n (mkF W.m pc' Ls st)) : Run l R Z W Q h k n (mkF W.m pc Ls (.int x :: .int j :: .ref a :: st)) := by
  subst hp hs
  have F' := F
  obtain ⟨c, A, e, -⟩ := F'
  exact Run.wrote ha (fun T locs X eT => by have w0 := RoadKit.stI X C.hx C.hZ eT A (Ary.inb (a := a) (ty := .int) e h0 h1) (g := mkF W.m pc Ls (.int x :: .int j :: .ref a :: st)) rfl rfl (C.hb hd); exact w0) (fun h' w' O' => r h' w' (F.set w' rfl) O')
theorem aastore (C : Cx Z W own nm code maxL ret) (hd : decode code pc = .ok (.aastore, 1)) {a : Addr} {ty : FieldType} {vs vs' : List Value} {j : Int32} {v : Value} (F : Ary Z h a ty vs) (h0 : ¬ j < 0) (h1 : j.toNatClampNeg < vs.length) (ht : ty.isReference = true) (So : Sto Z h a v) (hf : fits ty v = true) (hs : vs.set j.toNatClampNeg v = vs') (ha : Z.heap.size ≤ a) (hp : pc + 1 = pc')
    (r : ∀ h', Wr h h' a j.toNatClampNeg v → Ary Z h' a ty vs' → Ext Z.heap h' → Run l R Z W Q h' k n (mkF W.m pc' Ls st)) : Run l R Z W Q h k n (mkF W.m pc Ls (v :: .int j :: .ref a :: st)) := by
  subst hp hs
  have F' := F
  obtain ⟨c, A, e, -⟩ := F'
  exact Run.wrote ha (fun T locs X eT => stR X C.hx C.hZ eT A (Ary.inb (a := a) (ty := ty) e h0 h1) ht So (g := mkF W.m pc Ls (v :: .int j :: .ref a :: st)) rfl rfl (C.hb hd)) (fun h' w' O' => r h' w' (F.set w' hf) O')
/-- what a fresh object holds -/
abbrev Fresh (Z : State) (a0 : Array Value) (h' : Heap) (a : Addr) (K : String) : Prop := ∀ {O nm d : String} {ty : FieldType}, Laid Z a0 K O nm d → parseFieldDescriptor d = some ty → Fld Z h' a O nm d (defaultValue ty)
theorem newO (C : Cx Z W own nm code maxL ret) {K : String} {ix sl k' n' : Nat} (hd : decode code pc = .ok (.new ix, 3)) (w : (Cond.classLink own ix K).before a0 Z = true) (wi : (Cond.instantiable K sl).before a0 Z = true) (wz : (Cond.initialized K).before a0 Z = true) (hc : k + 1 = k') (hl : n + sl = n') (hc' : k' ≤ R.cells) (hl' : n' ≤ R.slots) (hp : pc + 3 = pc')
    (r : ∀ a h', a = h.size → Z.heap.size ≤ a → Ext h h' → Exa Z h' a K → Fresh Z a0 h' a K → Unt h' a → Ext Z.heap h' → Run l R Z W Q h' k' n' (mkF W.m pc' Ls (.ref a :: st))) : Run l R Z W Q h k n (mkF W.m pc Ls st) := by
  subst hp hc hl
  intro T locs X eT N O
  obtain ⟨T', h', X', e', E', A', D', U', s'⟩ := RoadKit.newO X C.hx C.hZ C.ow w wi wz eT (g := mkF W.m pc Ls st) rfl (C.hb hd) hc' hl'
  have O' : Ext Z.heap h' := ((old_of O).ext E').2
  exact Go.step s' (r h.size h' rfl O.1 E' A' D' U' O' T' locs X' e' N O')
theorem newA (C : Cx Z W own nm code maxL ret) {aty : ArrayType} {ty : FieldType} {z : Int32} {k' n' cap : Nat} (hd : decode code pc = .ok (.newarray aty, 2)) (ht : newarray.typeOf aty = ty) (w : (Cond.arrayClass ty).before a0 Z = true) (hz : ¬ z < 0) (hcap : z.toNatClampNeg ≤ cap) (hb : cap * 8 ≤ 536870912) (hc : k + 1 = k') (hl : n + cap = n') (hc' : k' ≤ R.cells) (hl' : n' ≤ R.slots) (hdf : fits ty (defaultValue ty) = true) (hp : pc + 2 = pc')
    (r : ∀ a h', a = h.size → Z.heap.size ≤ a → Ext h h' → Ary Z h' a ty (List.replicate z.toNatClampNeg (defaultValue ty)) → Ext Z.heap h' → Run l R Z W Q h' k' n' (mkF W.m pc' Ls (.ref a :: st))) : Run l R Z W Q h k n (mkF W.m pc Ls (.int z :: st)) := by
  subst hp hc hl ht
  intro T locs X eT N O
  obtain ⟨T', h', cA, X', e', E', A', s'⟩ := newP X C.hx C.hZ w eT (g := mkF W.m pc Ls (.int z :: st)) rfl (C.hb hd) rfl hz hcap hb hc' hl'
  have O' : Ext Z.heap h' := ((old_of O).ext E').2
  have hz2 : z.toNatClampNeg < 2 ^ 31 := (back32 hz).2
  refine Go.step s' (r h.size h' rfl O.1 E' ⟨_, A', ?_, by simpa using hz2, fun v hv => ?_⟩ O' T' locs X' e' N O')
  · show Array.replicate _ _ = _
    simp
  · rw [(List.mem_replicate.mp hv).2]; exact hdf
/-- an array of references to K: its class -/
def RefA (Z : State) (h : Heap) (a : Addr) (K : String) : Prop := ∃ cl : Cell, h[a]? = some cl ∧ Ovr Z cl.cls K
theorem RefA.ext {h' : Heap} {a : Addr} {K : String} (F : RefA Z h a K) (E : Ext h h') : RefA Z h' a K := by
  obtain ⟨cl, h1, r⟩ := F
  exact ⟨cl, E.2 _ _ h1, r⟩
theorem RefA.wr {h' : Heap} {a b : Addr} {K : String} {sl : Nat} {v : Value} (F : RefA Z h a K) (W : Wr h h' b sl v) : RefA Z h' a K := by
  obtain ⟨cl, h1, r⟩ := F
  obtain ⟨d, d1, d2, -⟩ := wr_at W h1
  exact ⟨d, d1, by rw [d2]; exact r⟩
theorem RefA.sto {a y : Addr} {K : String} {ty : FieldType} {vs : List Value} (F : RefA Z h a K) (V : Ary Z h a ty vs) (I : Ins Z h y K true) : Sto Z h a (.ref y) := by
  obtain ⟨cl, h1, r⟩ := F
  obtain ⟨c, A, -⟩ := V
  cases h1.symm.trans A.1
  exact Sto.of A r I
theorem newR (C : Cx Z W own nm code maxL ret) {K ad : String} {z : Int32} {ix k' n' cap : Nat} (hd : decode code pc = .ok (.anewarray ix, 3)) (w1 : (Cond.classLink own ix K).before a0 Z = true) (w2 : (Cond.arrayOver (.object K)).before a0 Z = true) (had : "[" ++ (FieldType.object K).toString = ad) (hz : ¬ z < 0) (hcap : z.toNatClampNeg ≤ cap) (hb : cap * 8 ≤ 536870912) (hc : k + 1 = k') (hl : n + cap = n') (hc' : k' ≤ R.cells) (hl' : n' ≤ R.slots) (hp : pc + 3 = pc')
    (r : ∀ a h', a = h.size → Z.heap.size ≤ a → Ext h h' → Ary Z h' a (.object K) (List.replicate z.toNatClampNeg .null) → Exa Z h' a ad → RefA Z h' a K → Ext Z.heap h' → Run l R Z W Q h' k' n' (mkF W.m pc' Ls (.ref a :: st))) : Run l R Z W Q h k n (mkF W.m pc Ls (.int z :: st)) := by
  subst hp hc hl
  intro T locs X eT N O
  obtain ⟨T', h', cA, X', e', E', A', I', O2, s'⟩ := newRE X C.hx C.hZ C.ow w1 w2 eT (g := mkF W.m pc Ls (.int z :: st)) rfl (C.hb hd) rfl hz hcap hb hc' hl' had
  have O' : Ext Z.heap h' := ((old_of O).ext E').2
  have hz2 : z.toNatClampNeg < 2 ^ 31 := (back32 hz).2
  refine Go.step s' (r h.size h' rfl O.1 E' ⟨_, A', ?_, by simpa using hz2, fun v hv => ?_⟩ I' ⟨_, A'.1, O2⟩ O' T' locs X' e' N O')
  · show Array.replicate _ (defaultValue (.object K)) = _
    rw [show defaultValue (.object K) = Value.null from rfl]
    simp
  · rw [(List.mem_replicate.mp hv).2]; rfl
theorem declOf {y : MethodName} {bytes : ByteArray} {mxL : Nat} {rt : Option FieldType} (w1 : (Cond.instanceMethod y).before a0 Z = true) (w2 : (Cond.code y bytes mxL rt).before a0 Z = true) : (Cond.declares y).before a0 Z = true := by
  obtain ⟨m, meth, h1, h2, h3, -⟩ := Cond.instanceMethod_spec w1
  obtain ⟨meth', c', g1, -, -, -, -, -, -, g2⟩ := Cond.code_spec h1 w2
  cases h2.symm.trans g1
  simp [Cond.before, Cond.holds, Cond.value, h1, h2, h3, g2]
theorem cloneA (C : Cx Z W own nm code maxL ret) {ad : String} {ty : FieldType} {vs : List Value} {ix Wn k' n' : Nat} {a : Addr} (hd : decode code pc = .ok (.invokevirtual ix, 3)) (F : Ary Z h a ty vs) (E : Exa Z h a ad)
    (w1 : (Cond.methodLink own ix ⟨ad, "clone", "()Ljava/lang/Object;"⟩).before a0 Z = true) (w2 : (Cond.sameMethod ad "java/lang/Object" "clone" "()Ljava/lang/Object;").before a0 Z = true) (w3 : (Cond.native ⟨"java/lang/Object", "clone", "()Ljava/lang/Object;"⟩).before a0 Z = true) (w4 : (Cond.instanceMethod ⟨"java/lang/Object", "clone", "()Ljava/lang/Object;"⟩).before a0 Z = true)
    (w5 : (Cond.selects ad ⟨ad, "clone", "()Ljava/lang/Object;"⟩ ⟨"java/lang/Object", "clone", "()Ljava/lang/Object;"⟩).before a0 Z = true) (w6 : (Cond.castable ad "java/lang/Cloneable").before a0 Z = true) (hsz : Ls.size = maxL) (hf : 1 ≤ R.frames) (hW : (st.map fun v => v.category).sum ≤ Wn) (hlo : Wn + 14 ≤ R.locals) (hc : k + 1 = k') (hl : n + vs.length = n') (hc' : k' ≤ R.cells) (hl' : n' ≤ R.slots) (hp : pc + 3 = pc')
    (r : ∀ b h', b = h.size → Z.heap.size ≤ b → Ext h h' → Ary Z h' b ty vs → Exa Z h' b ad → Ext Z.heap h' → Run l R Z W Q h' k' n' (mkF W.m pc' Ls (.ref b :: st))) : Run l R Z W Q h k n (mkF W.m pc Ls (.ref a :: st)) := by
  subst hp hc hl
  intro T locs X eT N O
  obtain ⟨c, A, e, q, f⟩ := F
  have hs : c.slots.size = vs.length := by rw [e]; simp
  obtain ⟨T', h', X', e', E', A', X2, s'⟩ := RoadKit.cloneA X C.hx C.hZ C.ow w1 w2 w3 w4 w5 w6 eT A E (fitC_of A fun i hi v hv => f v (by rw [e] at hv; exact List.mem_of_getElem? (by simpa using hv))) (g := mkF W.m pc Ls (.ref a :: st)) rfl (hsz.trans C.ml.symm) rfl (C.hb hd) hf (W := Wn) (cap := vs.length) (by show 2 * 0 + _ ≤ _; omega) hlo (by omega) hc' hl'
  have O' : Ext Z.heap h' := ((old_of O).ext E').2
  exact Go.step s' (r h.size h' rfl O.1 E' ⟨_, A', e, q, f⟩ X2 O' T' locs X' e' N O')
theorem initO (C : Cx Z W own nm code maxL ret) {ix Wn : Nat} (hd : decode code pc = .ok (.invokespecial ix, 3)) (w1 : (Cond.methodLink own ix Lib.objectInit).before a0 Z = true) (w2 : (Cond.instanceMethod Lib.objectInit).before a0 Z = true) (w3 : (Cond.code Lib.objectInit ⟨#[0xb1]⟩ 1 none).before a0 Z = true) {a : Addr} (hsz : Ls.size = maxL) (hf : 1 ≤ R.frames) (hW : (st.map fun v => v.category).sum ≤ Wn) (hl : Wn + 12 ≤ R.locals) (hp : pc + 3 = pc')
    (r : Run l R Z W Q h k n (mkF W.m pc' Ls st)) : Run l R Z W Q h k n (mkF W.m pc Ls (.ref a :: st)) := by
  subst hp
  exact Run.via (fun T locs X eT => RoadKit.initO X C.hx C.hZ C.ow w1 w2 w3 eT (g := mkF W.m pc Ls (.ref a :: st)) rfl (hsz.trans C.ml.symm) rfl (C.hb hd) hf (W := Wn) (by show 2 * 0 + _ ≤ _; omega) hl) r
/-! ## contracts and calls -/
/-- the method y, called with these arguments at the heap h0, returns with Q -/
def Con (l : Launch) (Z : State) (y : MethodName) (bytes : ByteArray) (maxL : Nat) (ret : Option FieldType) (rm : Room) (as' : Array Value) (h0 : Heap) (Q : Post) : Prop :=
  ∀ ws, MetFree l y (head1 (Jvm.Cond.code y bytes maxL ret :: ws) rm) (fun a U => a = as' ∧ Z.Warmed39 U.vm ∧ U.heap = h0) (fun _ _ _ _ _ => True) (fun _ U o U' => ∃ v L, o = .returned v ∧ (Q v U'.heap ∧ Ext Z.heap U'.heap ∧ Fr Z.heap.size L) ∧ FrameEnd U o U' L rm.cells rm.slots)
theorem Con.intro {y : MethodName} {bytes : ByteArray} {rm : Room} {as' : Array Value} {Ls0 : Array Slot} (hy : plainFor y = true) (O : Ext Z.heap h) (he : ∀ m, entryFrame m as' maxL = mkF m 0 Ls0 [])
    (body : ∀ W : Wd, Cx Z W y.cls y.name bytes maxL ret → Run l rm Z W Q h 0 0 (mkF W.m 0 Ls0 [])) : Con l Z y bytes maxL ret rm as' h Q := by
  intro ws
  refine MetFree.of_bodySF hy hisR ?_
  intro p e s m args below meth c s₁ Bd hml0 hP hK
  obtain ⟨rfl, hZ, hh⟩ := hP
  have e0 : s₁.heap = h := by rw [← hh, Bd.state]; rfl
  have X0 : Stand p l e rm s m args below meth c s₁ [] 0 0 := Stand.of_body Bd
  have r := body (p, e, s, m, args, below, meth, c) ⟨Bd.exec, Bd.bytes, hml0, findClass_of_methodNamed Bd.named, hZ, Bd.returns, (name_of_methodNamed Bd.named Bd.method).1, Bd.notSynchronized⟩ s₁ [] X0 e0 (Fr.nil _) O
  rw [he m]
  exact r
theorem Con.mono {y : MethodName} {bytes : ByteArray} {rm : Room} {as' : Array Value} {Q' : Post} (c : Con l Z y bytes maxL ret rm as' h Q) (f : ∀ v h', Q v h' → Q' v h') : Con l Z y bytes maxL ret rm as' h Q' := by
  intro ws p e ha hc hk s m args below hf happ hP hK
  obtain ⟨n, o, h1, h2, h3, v, L, h4, ⟨h5, h6⟩, h7⟩ := c ws p e ha hc hk s m args below hf happ hP hK
  exact ⟨n, o, h1, h2, h3, v, L, h4, ⟨f _ _ h5, h6⟩, h7⟩
section Calls
variable {y : MethodName} {bytes : ByteArray} {mxL : Nat} {rt : Option FieldType} {rm : Room} {Qc : Post} {argsL : List Value} {as' : Array Value} {ix Wn k' n' kc nc : Nat} {st' : List Value}
/-- a law of the library, or a contract, as a call takes it -/
abbrev Pays (l : Launch) (R : Room) (W : Wd) (y : MethodName) (ln Wn : Nat) (as' : Array Value) (h : Heap) (kc nc : Nat) (Qv : Option Value → Heap → List Loc → Prop) : Prop :=
  Back l R W.p W.e W.b W.s W.a y ln Wn (fun P a => a = as' ∧ P.U.heap = h ∧ P.cells + kc ≤ R.cells ∧ P.slots + nc ≤ R.slots) (fun P _ v B => ∃ L, Qv v B.U.heap L ∧ B.locs = P.locs ++ L ∧ B.cells = P.cells + kc ∧ B.slots = P.slots + nc)
abbrev Clean (Z : State) (Qc : Post) (Qv : Option Value → Heap → List Loc → Prop) : Prop := ∀ v h' L, Qv v h' L → Qc v h' ∧ Ext Z.heap h' ∧ Fr Z.heap.size L
theorem Con.pays (C : Cx Z W own nm code maxL ret) {ln : Nat} (K : Con l Z y bytes mxL rt rm as' h Qc) (w4 : (Cond.code y bytes mxL rt).before a0 Z = true) (wz : (Cond.initialized y.cls).before a0 Z = true) (hf : rm.frames + 1 ≤ R.frames) (hl : Wn + (mxL + 11) + rm.locals ≤ R.locals) :
    Pays l R W y ln Wn as' h rm.cells rm.slots (fun v h' L => Qc v h' ∧ Ext Z.heap h' ∧ Fr Z.heap.size L) := backOf (W := Wn) (Q := fun v h' L => Qc v h' ∧ Ext Z.heap h' ∧ Fr Z.heap.size L) (K []) C.hZ w4 wz hf hl
theorem callS (C : Cx Z W own nm code maxL ret) (hd : decode code pc = .ok (.invokestatic ix, 3)) {Qv : Option Value → Heap → List Loc → Prop} (K : Pays l R W y 3 Wn as' h kc nc Qv) (hQ : Clean Z Qc Qv) (w1 : (Cond.methodLink own ix y).before a0 Z = true) (w2 : (Cond.static y).before a0 Z = true) (w3 : (Cond.initialized y.cls).before a0 Z = true) (w4 : (Cond.code y bytes mxL rt).before a0 Z = true) (hy : y.cls ≠ "java/lang/invoke/MethodHandle" ∧ y.cls ≠ "java/lang/invoke/VarHandle")
    (has : argsL.toArray = as') (hst : argsL.reverse ++ st = st') (hlen : ∀ sig, parseMethodDescriptor y.desc = some sig → argsL.length = sig.parameters.length) (hsz : Ls.size = maxL) (hW : (st.map fun v => v.category).sum ≤ Wn) (hk : k + kc = k') (hn : n + nc = n') (hk' : k' ≤ R.cells) (hn' : n' ≤ R.slots) (hp : pc + 3 = pc')
    (r : ∀ v h', Qc v h' → Ext Z.heap h' → Run l R Z W Q h' k' n' (mkF W.m pc' Ls (v.toList ++ st))) : Run l R Z W Q h k n (mkF W.m pc Ls st') := by
  subst hp hk hn has hst
  intro T locs X eT N O
  obtain ⟨v, vm₁, ⟨T', L', k', n'⟩, -, X', ⟨L, q0, l1, y1, z1⟩, s'⟩ := Jvm.LawKit.callS X C.hx (y := y) C.ow (mvT C.hZ w1) (mvT C.hZ w2) (mvT C.hZ w3) (mvT C.hZ w4) hy K (g := mkF W.m pc Ls (argsL.reverse ++ st)) rfl (hsz.trans C.ml.symm) (argsL := argsL) (rest := st) hlen rfl (by show 2 * 0 + _ ≤ _; omega) (C.hb hd) (fun _ _ => ⟨rfl, eT, hk', hn'⟩)
  dsimp only [Pt.U, Pt.locs, Pt.cells, Pt.slots] at X' l1 y1 z1 s' q0
  subst l1 y1 z1
  obtain ⟨q1, q2, q3⟩ := hQ _ _ _ q0
  exact Go.step s' (r v T'.heap q1 q2 T' _ X' rfl (N.app q3) q2)
theorem callI (C : Cx Z W own nm code maxL ret) (hd : decode code pc = .ok (.invokespecial ix, 3)) {a : Addr} {Qv : Option Value → Heap → List Loc → Prop} (K : Pays l R W y 3 Wn as' h kc nc Qv) (hQ : Clean Z Qc Qv) (hi : y.name = "<init>") (w1 : (Cond.methodLink own ix y).before a0 Z = true) (w2 : (Cond.instanceMethod y).before a0 Z = true) (w4 : (Cond.code y bytes mxL none).before a0 Z = true) (hy : y.cls ≠ "java/lang/invoke/MethodHandle" ∧ y.cls ≠ "java/lang/invoke/VarHandle")
    (has : (Value.ref a :: argsL).toArray = as') (hst : argsL.reverse ++ .ref a :: st = st') (hlen : ∀ sig, parseMethodDescriptor y.desc = some sig → argsL.length = sig.parameters.length) (hsz : Ls.size = maxL) (hW : (st.map fun v => v.category).sum ≤ Wn) (hk : k + kc = k') (hn : n + nc = n') (hk' : k' ≤ R.cells) (hn' : n' ≤ R.slots) (hp : pc + 3 = pc')
    (r : ∀ v h', Qc v h' → Ext Z.heap h' → Run l R Z W Q h' k' n' (mkF W.m pc' Ls (v.toList ++ st))) : Run l R Z W Q h k n (mkF W.m pc Ls st') := by
  subst hp hk hn has hst
  intro T locs X eT N O
  obtain ⟨v, vm₁, ⟨T', L', k', n'⟩, -, X', ⟨L, q0, l1, y1, z1⟩, s'⟩ := X.specialBack C.hx (y := y) hi C.ow (mvT C.hZ w1) (mvT C.hZ w2) (mvT C.hZ w4) hy K (g := mkF W.m pc Ls (argsL.reverse ++ .ref a :: st)) rfl (hsz.trans C.ml.symm) (Steps.refl _) (a := a) (argsL := argsL) (rest := st) hlen rfl (by show 2 * 0 + _ ≤ _; omega) (C.hb hd) (fun _ _ => ⟨rfl, eT, hk', hn'⟩)
  dsimp only [Pt.U, Pt.locs, Pt.cells, Pt.slots] at X' l1 y1 z1 s' q0
  subst l1 y1 z1
  obtain ⟨q1, q2, q3⟩ := hQ _ _ _ q0
  exact Go.step (fun t => s'.trans) (r v T'.heap q1 q2 T' _ X' rfl (N.app q3) q2)
theorem callV (C : Cx Z W own nm code maxL ret) (hd : decode code pc = .ok (.invokevirtual ix, 3)) {y0 : MethodName} {K0 : String} {a : Addr} {Qv : Option Value → Heap → List Loc → Prop} (K : Pays l R W y 3 Wn as' h kc nc Qv) (hQ : Clean Z Qc Qv) (E : Exa Z h a K0) (w1 : (Cond.methodLink own ix y0).before a0 Z = true) (w2 : (Cond.declares y0).before a0 Z = true) (nf : NotFace W.s y0) (w3 : (Cond.selects K0 y0 y).before a0 Z = true) (w5 : (Cond.instanceMethod y).before a0 Z = true) (hy : y0.cls ≠ "java/lang/invoke/MethodHandle" ∧ y0.cls ≠ "java/lang/invoke/VarHandle")
    (has : (Value.ref a :: argsL).toArray = as') (hst : argsL.reverse ++ .ref a :: st = st') (hlen : ∀ sig, parseMethodDescriptor y0.desc = some sig → argsL.length = sig.parameters.length) (hsz : Ls.size = maxL) (hW : (st.map fun v => v.category).sum ≤ Wn) (hk : k + kc = k') (hn : n + nc = n') (hk' : k' ≤ R.cells) (hn' : n' ≤ R.slots) (hp : pc + 3 = pc')
    (r : ∀ v h', Qc v h' → Ext Z.heap h' → Run l R Z W Q h' k' n' (mkF W.m pc' Ls (v.toList ++ st))) : Run l R Z W Q h k n (mkF W.m pc Ls st') := by
  subst hp hk hn has hst
  intro T locs X eT N O
  obtain ⟨cq, kq, qa, qb, qc⟩ := isOf C.hZ eT E
  obtain ⟨v, vm₁, ⟨T', L', k', n'⟩, -, X', ⟨L, q0, l1, y1, z1⟩, s'⟩ := X.virtualBack C.hx (y := y0) (z := y) C.ow (mvT C.hZ w1) (mvT C.hZ w2) nf (mvT C.hZ w3) (mvT C.hZ w5) hy K qa qc (g := mkF W.m pc Ls (argsL.reverse ++ .ref a :: st)) rfl (hsz.trans C.ml.symm) (Steps.refl _) (argsL := argsL) (rest := st) hlen rfl (by show 2 * 0 + _ ≤ _; omega) (C.hb hd) (fun _ _ => ⟨rfl, eT, hk', hn'⟩)
  dsimp only [Pt.U, Pt.locs, Pt.cells, Pt.slots] at X' l1 y1 z1 s' q0
  subst l1 y1 z1
  obtain ⟨q1, q2, q3⟩ := hQ _ _ _ q0
  exact Go.step (fun t => s'.trans) (r v T'.heap q1 q2 T' _ X' rfl (N.app q3) q2)
theorem callVU (C : Cx Z W own nm code maxL ret) (hd : decode code pc = .ok (.invokevirtual ix, 3)) {y0 : MethodName} {K0 owner : String} {a : Addr} {Qv : Option Value → Heap → List Loc → Prop} (K : Pays l R W y 3 Wn as' h kc nc Qv) (hQ : Clean Z Qc Qv) (E : Exa Z h a K0) (w1 : (Cond.methodLink own ix y0).before a0 Z = true) (w0 : (Cond.sameMethod y0.cls owner y0.name y0.desc).before a0 Z = true) (w2 : (Cond.declares ⟨owner, y0.name, y0.desc⟩).before a0 Z = true) (w3 : (Cond.selects K0 y0 y).before a0 Z = true) (w5 : (Cond.instanceMethod y).before a0 Z = true) (hy : owner ≠ "java/lang/invoke/MethodHandle" ∧ owner ≠ "java/lang/invoke/VarHandle")
    (has : (Value.ref a :: argsL).toArray = as') (hst : argsL.reverse ++ .ref a :: st = st') (hlen : ∀ sig, parseMethodDescriptor y0.desc = some sig → argsL.length = sig.parameters.length) (hsz : Ls.size = maxL) (hW : (st.map fun v => v.category).sum ≤ Wn) (hk : k + kc = k') (hn : n + nc = n') (hk' : k' ≤ R.cells) (hn' : n' ≤ R.slots) (hp : pc + 3 = pc')
    (r : ∀ v h', Qc v h' → Ext Z.heap h' → Run l R Z W Q h' k' n' (mkF W.m pc' Ls (v.toList ++ st))) : Run l R Z W Q h k n (mkF W.m pc Ls st') := by
  subst hp hk hn has hst
  intro T locs X eT N O
  obtain ⟨cq, kq, qa, qb, qc⟩ := isOf C.hZ eT E
  obtain ⟨v, vm₁, ⟨T', L', k', n'⟩, -, X', ⟨L, q0, l1, y1, z1⟩, s'⟩ := X.virtualBackUp C.hx (x := y0) (y := y) C.ow (mvT C.hZ w1) (mvT C.hZ w0) (mvT C.hZ w2) hy (mvT C.hZ w3) (mvT C.hZ w5) K qa qc (g := mkF W.m pc Ls (argsL.reverse ++ .ref a :: st)) rfl (hsz.trans C.ml.symm) (Steps.refl _) (argsL := argsL) (rest := st) hlen rfl (by show 2 * 0 + _ ≤ _; omega) (C.hb hd) (fun _ _ => ⟨rfl, eT, hk', hn'⟩)
  dsimp only [Pt.U, Pt.locs, Pt.cells, Pt.slots] at X' l1 y1 z1 s' q0
  subst l1 y1 z1
  obtain ⟨q1, q2, q3⟩ := hQ _ _ _ q0
  exact Go.step (fun t => s'.trans) (r v T'.heap q1 q2 T' _ X' rfl (N.app q3) q2)
/-- invokespecial of a superclass's method -/
theorem callSup (C : Cx Z W own nm code maxL ret) (hd : decode code pc = .ok (.invokespecial ix, 3)) {K0 : String} {a : Addr} {Qv : Option Value → Heap → List Loc → Prop} (K : Pays l R W y 3 Wn as' h kc nc Qv) (hQ : Clean Z Qc Qv) (E : Exa Z h a K0) (w1 : (Cond.methodLink own ix y).before a0 Z = true) (w2 : (Cond.sameMethod y.cls y.cls y.name y.desc).before a0 Z = true) (w3 : (Cond.instanceMethod y).before a0 Z = true) (w4 : (Cond.superclass own y.cls).before a0 Z = true) (wc : (Cond.code y bytes mxL rt).before a0 Z = true) (hi : y.name ≠ "<init>")
    (has : (Value.ref a :: argsL).toArray = as') (hst : argsL.reverse ++ .ref a :: st = st') (hlen : ∀ sig, parseMethodDescriptor y.desc = some sig → argsL.length = sig.parameters.length) (hsz : Ls.size = maxL) (hW : (st.map fun v => v.category).sum ≤ Wn) (hk : k + kc = k') (hn : n + nc = n') (hk' : k' ≤ R.cells) (hn' : n' ≤ R.slots) (hp : pc + 3 = pc')
    (r : ∀ v h', Qc v h' → Ext Z.heap h' → Run l R Z W Q h' k' n' (mkF W.m pc' Ls (v.toList ++ st))) : Run l R Z W Q h k n (mkF W.m pc Ls st') := by
  subst hp hk hn has hst
  intro T locs X eT N O
  obtain ⟨v, vm₁, ⟨T', L', k', n'⟩, -, X', ⟨L, q0, l1, y1, z1⟩, s'⟩ := superBack X C.hx C.hZ (y := y) C.ow w1 w2 w3 w4 hi K eT (Ins.self E) (g := mkF W.m pc Ls (argsL.reverse ++ .ref a :: st)) rfl (hsz.trans C.ml.symm) wc (argsL := argsL) (rest := st) hlen rfl (by show 2 * 0 + _ ≤ _; omega) (C.hb hd) (fun _ _ => ⟨rfl, eT, hk', hn'⟩)
  dsimp only [Pt.U, Pt.locs, Pt.cells, Pt.slots] at X' l1 y1 z1 s' q0
  subst l1 y1 z1
  obtain ⟨q1, q2, q3⟩ := hQ _ _ _ q0
  exact Go.step (fun t => s'.trans) (r v T'.heap q1 q2 T' _ X' rfl (N.app q3) q2)
/-- a class of which one method is selected as its own is no interface -/
theorem sameOf {y g : MethodName} {K : String} (w1 : (Cond.instanceMethod y).before a0 Z = true) (w2 : (Cond.selects K g g).before a0 Z = true) (hc : g.cls = y.cls) (hy : y.cls ≠ "java/lang/invoke/MethodHandle" ∧ y.cls ≠ "java/lang/invoke/VarHandle") : (Cond.sameMethod y.cls y.cls y.name y.desc).before a0 Z = true := by
  obtain ⟨m, meth, h1, -⟩ := Cond.instanceMethod_spec w1
  obtain ⟨-, -, m2, -, -, q3, -, kP, hkP, hkPi⟩ := Cond.selects_spec w2
  have c1 := findClass_of_methodNamed h1
  have c2 := findClass_of_methodNamed q3
  rw [hc, c1] at c2
  have e : m.cls = m2.cls := Option.some.inj c2
  have f := State.methodFound?_of_named h1 hy
  have h2 : Z.methodNamed? ⟨y.cls, y.name, y.desc⟩ = some m := h1
  rw [← e] at hkP
  simp [Cond.before, Cond.holds, Cond.value, c1, f, h2, hkP, hkPi]
theorem nfOf {s : State} {y g : MethodName} {K : String} {args : Array Value} (w2 : (Cond.selects K g g).before args s = true) (hc : g.cls = y.cls) : NotFace s y := fun r0 h0 => by
  obtain ⟨-, -, m2, -, -, q3, -, kP, hkP, hkPi⟩ := Cond.selects_spec w2
  have c1 := findClass_of_methodNamed h0
  have c2 := findClass_of_methodNamed q3
  rw [hc, c1] at c2
  exact ⟨kP, by rw [Option.some.inj c2]; exact hkP, hkPi⟩
theorem clean0 {Qv : Post} (O : Ext Z.heap h) : Clean Z (fun v h' => Qv v h' ∧ h' = h) (fun v h' L => (Qv v h' ∧ h' = h) ∧ L = []) := fun v h' L q => by
  obtain ⟨⟨q1, rfl⟩, rfl⟩ := q
  exact ⟨⟨q1, rfl⟩, O, Fr.nil _⟩
theorem cleanC {Qc : Post} : Clean Z Qc (fun v h' L => Qc v h' ∧ Ext Z.heap h' ∧ Fr Z.heap.size L) := fun v h' L q => q
end Calls
theorem Ext.refl (h : Heap) : Ext h h := ⟨Nat.le_refl _, fun _ _ q => q⟩
theorem Ext.trans {h1 h2 h3 : Heap} (A : Ext h1 h2) (B : Ext h2 h3) : Ext h1 h3 := ⟨Nat.le_trans A.1 B.1, fun a c q => B.2 a c (A.2 a c q)⟩
theorem Ext.wr {Z : State} {h1 h2 h3 : Heap} {a : Addr} {sl : Nat} {v : Value} (A : Ext h1 h2) (B : Wr h2 h3 a sl v) (q : h1.size ≤ a) : Ext h1 h3 := ((old_of (Z := { Z with heap := h1 }) A).wr B q).2
theorem Ext.keep1 {Z : State} {h1 h2 h3 : Heap} {a : Addr} (A : Ext h1 h2) (B : Keep h2 h3 [a]) (q : h1.size ≤ a) : Ext h1 h3 := ((old_of (Z := { Z with heap := h1 }) A).keep B (allS q all0)).2
theorem Ext.keepN {Z : State} {h1 h2 h3 : Heap} {ws : List Addr} (A : Ext h1 h2) (B : Keep h2 h3 ws) (q : ∀ x ∈ ws, h1.size ≤ x) : Ext h1 h3 := ((old_of (Z := { Z with heap := h1 }) A).keep B q).2
theorem Keep.toExt {h1 h2 : Heap} (A : Keep h1 h2 []) : Ext h1 h2 := ⟨A.1, fun a c q => A.2.1 a c q nin0⟩
/-- System.arraycopy of primitive components, between two arrays -/
theorem acopy (C : Cx Z W own nm code maxL ret) {ix Wn : Nat} (hd : decode code pc = .ok (.invokestatic ix, 3)) (w1 : (Cond.methodLink own ix Jvm.Stand.acN).before a0 Z = true) (w2 : (Cond.native Jvm.Stand.acN).before a0 Z = true) (w3 : (Cond.static Jvm.Stand.acN).before a0 Z = true) (w4 : (Cond.initialized "java/lang/System").before a0 Z = true)
    {a b : Addr} {ty : FieldType} {vs vd vd' : List Value} {sp dp nn : Int32} (F : Ary Z h a ty vs) (G : Ary Z h b ty vd) (hty : refKind ty = false) (h1 : ¬ sp < 0) (h2 : ¬ dp < 0) (h3 : ¬ nn < 0) (h4 : sp.toNatClampNeg + nn.toNatClampNeg ≤ vs.length) (h5 : dp.toNatClampNeg + nn.toNatClampNeg ≤ vd.length)
    (hv : vd.take dp.toNatClampNeg ++ (vs.drop sp.toNatClampNeg).take nn.toNatClampNeg ++ vd.drop (dp.toNatClampNeg + nn.toNatClampNeg) = vd') (ha : Z.heap.size ≤ b) (hsz : Ls.size = maxL) (hf : 1 ≤ R.frames) (hW : (st.map fun v => v.category).sum ≤ Wn) (hlo : Wn + 18 ≤ R.locals) (hp : pc + 3 = pc')
    (r : ∀ h', Keep h h' [b] → Ary Z h' b ty vd' → Ext Z.heap h' → Run l R Z W Q h' k n (mkF W.m pc' Ls st)) : Run l R Z W Q h k n (mkF W.m pc Ls (.int nn :: .int dp :: .ref b :: .int sp :: .ref a :: st)) := by
  subst hp
  intro T locs X eT N O
  have l1 : vs.length < 2 ^ 31 := by obtain ⟨_, _, _, q, _⟩ := F; exact q
  have l2 : vd.length < 2 ^ 31 := by obtain ⟨_, _, _, q, _⟩ := G; exact q
  obtain ⟨ka, A⟩ := F.arv (d := .int 0)
  obtain ⟨kb, B⟩ := G.arv (d := .int 0)
  have n1 : (Int32.ofNat vs.length).toNatClampNeg = vs.length := Int32.toNatClampNeg_ofNat_of_lt l1
  have n2 : (Int32.ofNat vd.length).toNatClampNeg = vd.length := Int32.toNatClampNeg_ofNat_of_lt l2
  obtain ⟨T', h', L, X', e', N', K', V', s'⟩ := cpA X C.hx C.hZ C.ow w1 w2 w3 w4 eT A B (Or.inl ⟨rfl, hty⟩) h1 h2 h3 (by rw [n1]; exact h4) (by rw [n2]; exact h5) rfl h5 N ha (g := mkF W.m pc Ls (.int nn :: .int dp :: .ref b :: .int sp :: .ref a :: st)) rfl (hsz.trans C.ml.symm) rfl (C.hb hd) hf (W := Wn) (by show 2 * 0 + _ ≤ _; omega) hlo
  have O' : Ext Z.heap h' := Ext.keep1 (Z := Z) O K' ha
  have eu : ((List.range nn.toNatClampNeg).map fun i => vs.getD (sp.toNatClampNeg + i) (.int 0)) = (vs.drop sp.toNatClampNeg).take nn.toNatClampNeg := by
    apply List.ext_getElem
    · simp; omega
    · intro i q1 q2
      have q3 : sp.toNatClampNeg + i < vs.length := by simp at q1; omega
      simp [List.getD_eq_getElem?_getD, q3]
  rw [eu, hv] at V'
  have hlen : (Int32.ofNat vd.length).toNatClampNeg = vd'.length := by rw [n2, ← hv]; simp; omega
  exact Go.step s' (r h' K' (Ary.of_arv V' hlen) O' T' L X' e' N' O')
/-! ## returns -/
theorem Run.leave (C : Cx Z W own nm code maxL ret) {v : Option Value} {f : JFrame} (hv : ret = none → v = none) (q : Q v h) (hk : k ≤ R.cells) (hn : n ≤ R.slots)
    (s' : ∀ T locs, Std l R W T locs k n → ∀ fs, (∀ (f : JFrame) (acts : List Action), f.method = W.m → f.locked = none → f.entered = [] → (doReturn W.e (T.setTop f) acts v).1 = T.setFrames fs) → Steps W.p.tables W.e W.b (T.setTop f) (T.setFrames fs)) : Run l R Z W Q h k n f := by
  intro T locs X eT N O
  have hlk : W.t.locks = false := C.lk
  obtain ⟨fs, hr, hrun, hended, hW, hsame⟩ := X.leave (v := v) (fun hh => hv (C.rt.symm.trans hh))
  have e2 : (T.setFrames fs).heap = h := eT
  exact ⟨_, _, s' T locs X fs hr, hrun, hended, _, _, rfl, ⟨by rw [e2]; exact q, by rw [e2]; exact O, N⟩, ⟨_, rfl⟩, hW, hsame.mono hk hn⟩
theorem retV (C : Cx Z W own nm code maxL none) (hd : decode code pc = .ok (.return_, 1)) (hk : k ≤ R.cells) (hn : n ≤ R.slots) (q : Q none h) : Run l R Z W Q h k n (mkF W.m pc Ls []) :=
  Run.leave C (fun _ => rfl) q hk hn (fun T locs X fs hr => X.returnOut C.hx C.rt (C.hb hd) hr)
theorem retI (C : Cx Z W own nm code maxL (some .int)) (hd : decode code pc = .ok (.ireturn, 1)) {z : Int32} (hk : k ≤ R.cells) (hn : n ≤ R.slots) (q : Q (some (.int z)) h) : Run l R Z W Q h k n (mkF W.m pc Ls (.int z :: st)) :=
  Run.leave C (fun hh => nomatch hh) q hk hn (fun T locs X fs hr => retOut X C.hx C.rt rfl (Or.inl ⟨rfl, Or.inl rfl, z, rfl⟩) (C.hb hd) hr)
theorem retNar {ty : FieldType} (C : Cx Z W own nm code maxL (some ty)) (ht : ty = .boolean ∨ ty = .byte ∨ ty = .char ∨ ty = .short) (hd : decode code pc = .ok (.ireturn, 1)) {z z' : Int32} (hz : nar ty z = z') (hk : k ≤ R.cells) (hn : n ≤ R.slots) (q : Q (some (.int z')) h) : Run l R Z W Q h k n (mkF W.m pc Ls (.int z :: st)) := by
  subst hz
  exact Run.leave C (fun hh => nomatch hh) q hk hn (fun T locs X fs hr => retN X C.hx C.rt ht (C.hb hd) hr)
theorem retL (C : Cx Z W own nm code maxL (some .long)) (hd : decode code pc = .ok (.lreturn, 1)) {z : Int64} (hk : k ≤ R.cells) (hn : n ≤ R.slots) (q : Q (some (.long z)) h) : Run l R Z W Q h k n (mkF W.m pc Ls (.long z :: st)) :=
  Run.leave C (fun hh => nomatch hh) q hk hn (fun T locs X fs hr => retOut X C.hx C.rt rfl (Or.inr (Or.inl ⟨rfl, rfl, z, rfl⟩)) (C.hb hd) hr)
theorem retA {ty : FieldType} {v : Value} (C : Cx Z W own nm code maxL (some ty)) (ht : ty.isReference = true) (hv : v.isRef = true) (hd : decode code pc = .ok (.areturn, 1)) (hk : k ≤ R.cells) (hn : n ≤ R.slots) (q : Q (some v) h) : Run l R Z W Q h k n (mkF W.m pc Ls (v :: st)) :=
  Run.leave C (fun hh => nomatch hh) q hk hn (fun T locs X fs hr => retOut X C.hx C.rt (by rcases ref_cases hv with rfl | ⟨a, rfl⟩ <;> cases ty <;> simp [FieldType.isReference] at ht <;> rfl) (Or.inr (Or.inr (Or.inr (Or.inr ⟨rfl, ht, hv⟩)))) (C.hb hd) hr)
end Kit
end Wk

def Ws (a0 : Array Value) (Z : State) : Prop := ∀ d ∈ tables_1, d.before a0 Z = true
theorem Wk.nar_i2c {x v : Int32} (h : x.toUInt32.toUInt16.toUInt32.toInt32 = v) : nar .char v = v := by subst h; simp only [nar, UInt32.toUInt32_toInt32, UInt16.toUInt16_toUInt32]
theorem Wk.nar_i2b {x v : Int32} (h : x.toInt8.toInt32 = v) : nar .byte v = v := by
  subst h
  show x.toInt8.toInt32.toInt8.toInt32 = _
  simp
theorem Wk.catR {v : Value} (h : v.isRef = true) : v.category = 1 := by rcases ref_cases h with rfl | ⟨a, rfl⟩ <;> rfl
theorem Wk.narR {v : Value} {t : FieldType} (h : v.isRef = true) (ht : t.isReference = true) : narrow t v = v := by rcases ref_cases h with rfl | ⟨a, rfl⟩ <;> cases t <;> simp [FieldType.isReference] at ht <;> rfl
theorem Wk.fitR {v : Value} {t : FieldType} (h : v.isRef = true) (ht : t.isReference = true) : fits t v = true := by rcases ref_cases h with rfl | ⟨a, rfl⟩ <;> cases t <;> simp [FieldType.isReference] at ht <;> rfl
theorem Wk.rng255 {p v w : Int32} (h : p &&& 255 = v) (h' : v.toUInt32.toUInt16.toUInt32.toInt32 = w) : ¬ w < 0 ∧ ¬ (255 : Int32) < w := by
  subst h h'
  rw [i2c_mask, Int32.lt_iff_toInt_lt, Int32.lt_iff_toInt_lt, c_mask p 255 8 (by decide) (by decide)]
  have : (0 : Int32).toInt = 0 := by decide
  have : (255 : Int32).toInt = 255 := by decide
  omega
theorem Wk.rng255L {p a : Int64} {b w : Int32} (h : p &&& 255 = a) (h1 : a.toInt32 = b) (h' : b.toUInt32.toUInt16.toUInt32.toInt32 = w) : ¬ w < 0 ∧ ¬ (255 : Int32) < w := by
  subst h h1 h'
  have a1 := c_maskL p 255 8 (by decide) (by decide)
  have a2 := c_l2i (p &&& 255)
  have a3 := c_i2c (p &&& 255).toInt32
  have a4 := rng32 (p &&& 255).toInt32
  have e0 : (0 : Int32).toInt = 0 := by decide
  have e1 : (255 : Int32).toInt = 255 := by decide
  rw [Int32.lt_iff_toInt_lt, Int32.lt_iff_toInt_lt]
  omega
theorem Wk.ord {args : Array Value} {s : State} {t : Term} {a : Addr} {C n : String} {k : Int32} (ht : t.eval args s none [] s = some (.ref a)) (h : (Jvm.Cond.eq (.field t C n "I") (.int k)).value args s none s [] = some true) : Fld s s.heap a C n "I" (.int k) := by
  obtain ⟨x, y, e1, e2, -, kin⟩ := cmp_v (Or.inl h)
  cases (Term.int_eval k).symm.trans e2
  obtain ⟨z, rfl⟩ := kin
  cases gotT (Cond.eq_ints e1 e2) h
  exact Fld.start ((fld_at ht).symm.trans e1)
theorem Wk.ordB {args : Array Value} {s : State} {t : Term} {a : Addr} {C n : String} {k : Int32} (ht : t.eval args s none [] s = some (.ref a)) (h : (Jvm.Cond.eq (.field t C n "B") (.int k)).value args s none s [] = some true) : Fld s s.heap a C n "B" (.int k) := by
  obtain ⟨x, y, e1, e2, -, kin⟩ := cmp_v (Or.inl h)
  cases (Term.int_eval k).symm.trans e2
  obtain ⟨z, rfl⟩ := kin
  cases gotT (Cond.eq_ints e1 e2) h
  exact Fld.start ((fld_at ht).symm.trans e1)
theorem Wk.nar_rng {c : Int32} (h : ¬ c < 0 ∧ ¬ (255 : Int32) < c) : nar .char c = c := by
  show c.toUInt32.toUInt16.toUInt32.toInt32 = c
  have h1 := c_i2c c
  obtain ⟨h2, h3⟩ := h
  rw [Int32.lt_iff_toInt_lt] at h2 h3
  have e0 : (0 : Int32).toInt = 0 := by decide
  have e1 : (255 : Int32).toInt = 255 := by decide
  exact Int32.toInt_inj.mp (by omega)
theorem Wk.mask31 {f v : Int32} (h : f &&& 2147483647 = v) : 0 ≤ v.toInt := by
  subst h
  rw [c_mask f 2147483647 31 (by decide) (by decide)]
  omega
theorem Wk.modr {v d w : Int32} (h0 : 0 ≤ v.toInt) (hd : 0 < d.toInt) (h : v % d = w) : 0 ≤ w.toInt ∧ w.toInt < d.toInt := by
  subst h
  have q := (c_iremV v d).1 h0 hd
  exact ⟨q.1, q.2.1⟩
theorem Wk.addI {x y v : Int32} (h : x + y = v) : (v.toInt - (x.toInt + y.toInt)) % 4294967296 = 0 := h ▸ c_iadd x y
theorem Wk.subI {x y v : Int32} (h : x - y = v) : (v.toInt - (x.toInt - y.toInt)) % 4294967296 = 0 := h ▸ c_isub x y
theorem Wk.mulI {x y v : Int32} (h : x * y = v) : (v.toInt - (x.toInt * y.toInt)) % 4294967296 = 0 := h ▸ c_imul x y
theorem Wk.eqI {x y : Int32} (h : x.toInt = y.toInt) : x = y := Int32.toInt_inj.mp h
theorem Wk.ltI {x y : Int32} : x < y ↔ x.toInt < y.toInt := Int32.lt_iff_toInt_lt
theorem Wk.nn {x : Int32} (h : 0 ≤ x.toInt) : ¬ x < 0 := by
  have e0 : (0 : Int32).toInt = 0 := by decide
  rw [Wk.ltI]; omega
theorem Wk.clamp {x : Int32} (h : 0 ≤ x.toInt) : (x.toNatClampNeg : Int) = x.toInt := (nat_of (Wk.nn h)).symm
theorem Wk.ofNat {x : Int32} (h : 0 ≤ x.toInt) : x = Int32.ofNat x.toNatClampNeg := ((back32 (Wk.nn h)).1).symm
theorem Wk.getd {cs : List Int32} {i : Nat} (h : i < cs.length) : (cs.map Value.int)[i]? = some (.int (cs.getD i 0)) := by simp [List.getD_eq_getElem?_getD, h]
theorem Wk.nat32 {n : Nat} (h : n ≤ 4000) : (Int32.ofNat n).toInt = n ∧ (Int32.ofNat n).toNatClampNeg = n := ⟨Int32.toInt_ofNat_of_lt (by omega), Int32.toNatClampNeg_ofNat_of_lt (by omega)⟩
theorem Wk.succ32 {n : Nat} (h : n < 4000) : Int32.ofNat n + Int32.ofInt 1 = Int32.ofNat (n + 1) := by
  have a := c_iadd (Int32.ofNat n) 1
  have b := rng32 (Int32.ofNat n + 1)
  have c1 : (1 : Int32).toInt = 1 := by decide
  have c2 := (Wk.nat32 (n := n) (by omega)).1
  have c3 := (Wk.nat32 (n := n + 1) (by omega)).1
  exact Wk.eqI (by show (Int32.ofNat n + 1).toInt = _; omega)
theorem Wk.lt32 {a b : Nat} (ha : a ≤ 4000) (hb : b ≤ 4000) : Int32.ofNat a < Int32.ofNat b ↔ a < b := by rw [Wk.ltI, (Wk.nat32 ha).1, (Wk.nat32 hb).1]; omega
theorem Wk.eq32 {a b : Nat} (ha : a ≤ 4000) (hb : b ≤ 4000) : Int32.ofNat a = Int32.ofNat b ↔ a = b := by
  constructor
  · intro h; have q := congrArg Int32.toInt h; rw [(Wk.nat32 ha).1, (Wk.nat32 hb).1] at q; omega
  · rintro rfl; rfl
theorem Wk.sub32 {a b : Nat} {v : Int32} (h : b ≤ a) (ha : a ≤ 4000) (hv : Int32.ofNat a - Int32.ofNat b = v) : v = Int32.ofNat (a - b) := by
  have q := Wk.subI hv
  have r := rng32 v
  rw [(Wk.nat32 ha).1, (Wk.nat32 (n := b) (by omega)).1] at q
  exact Wk.eqI (by rw [(Wk.nat32 (n := a - b) (by omega)).1]; omega)
theorem Wk.add32 {a b : Nat} {v : Int32} (h : a + b ≤ 4000) (hv : Int32.ofNat a + Int32.ofNat b = v) : v = Int32.ofNat (a + b) := by
  have q := Wk.addI hv
  have r := rng32 v
  rw [(Wk.nat32 (n := a) (by omega)).1, (Wk.nat32 (n := b) (by omega)).1] at q
  exact Wk.eqI (by rw [(Wk.nat32 (n := a + b) (by omega)).1]; omega)
theorem Wk.dec32 {a : Nat} {v : Int32} (ha : a < 4000) (hv : Int32.ofNat (a + 1) + Int32.ofInt (-1) = v) : v = Int32.ofNat a := by
  have q := Wk.addI hv
  have r := rng32 v
  have c : (Int32.ofInt (-1)).toInt = -1 := by decide
  rw [(Wk.nat32 (n := a + 1) (by omega)).1, c] at q
  exact Wk.eqI (by rw [(Wk.nat32 (n := a) (by omega)).1]; omega)
theorem Wk.nn32 {a : Nat} (ha : a ≤ 4000) : ¬ Int32.ofNat a < 0 := Wk.nn (by rw [(Wk.nat32 ha).1]; omega)
theorem Wk.orE {args : Array Value} {s : State} {idx : List Nat} {c d : Cond} (h : (Cond.or c d).value args s none s idx = some true) : c.value args s none s idx = some true ∨ d.value args s none s idx = some true := by
  simp only [Cond.value] at h
  cases h1 : c.value args s none s idx with
  | none => simp [h1] at h
  | some x => cases x <;> simp [h1] at h ⊢ <;> exact h
theorem Wk.elemI {args : Array Value} {s : State} {t u : Term} {a : Addr} {cl : Cell} {ty : FieldType} {i : Nat} {v : Int32} (ht : t.eval args s none [i] s = some (.ref a)) (A : Arr s s.heap a cl ty) (hu : u.eval args s none [i] s = some (.int v)) (hi : i.toInt32.toNatClampNeg = i) (h : (Jvm.Cond.eq (.elem t (.index 0)) u).value args s none s [i] = some true) : cl.slots[i]? = some (.int v) := by
  obtain ⟨x, y, e1, e2, -, kin⟩ := cmp_v (Or.inl h)
  cases hu.symm.trans e2
  obtain ⟨z, rfl⟩ := kin
  cases gotT (Cond.eq_ints e1 e2) h
  have q := (elem_in e1 ht (show (Term.index 0).eval args s none [i] s = some (.int i.toInt32) from rfl) A.1).2
  rwa [hi] at q
theorem Wk.elemL {args : Array Value} {s : State} {t : Term} {a : Addr} {cl : Cell} {ty : FieldType} {i : Nat} {v : Int32} {m : Int64} (ht : t.eval args s none [i] s = some (.ref a)) (A : Arr s s.heap a cl ty) (hv : i.toInt32.toInt64 + m = v.toInt64) (hi : i.toInt32.toNatClampNeg = i) (h : (Jvm.Cond.eq (.op1 .i2l (.elem t (.index 0))) (.op2 .ladd (.op1 .i2l (.index 0)) (.long m))).value args s none s [i] = some true) : cl.slots[i]? = some (.int v) := by
  have e2 : (Term.op2 .ladd (.op1 .i2l (.index 0)) (.long m)).eval args s none [i] s = some (.long (i.toInt32.toInt64 + m)) := rfl
  obtain ⟨x', y', e3, e4, -, kin⟩ := cmp_v (Or.inl h)
  cases e0 : (Term.elem t (.index 0)).eval args s none [i] s with
  | none =>
    rw [show (Term.op1 .i2l (.elem t (.index 0))).eval args s none [i] s = ((Term.elem t (.index 0)).eval args s none [i] s).bind (Unary.apply .i2l) from rfl, e0] at e3
    cases e3
  | some x =>
    have e1 := op1_f (f := .i2l) e0
    rw [e1] at e3
    have : ∃ z, x = .int z := by cases x <;> simp [Unary.apply] at e3 ⊢
    obtain ⟨z, rfl⟩ := this
    have e5 : (Term.op1 .i2l (.elem t (.index 0))).eval args s none [i] s = some (.long z.toInt64) := e1
    have e6 := gotT (eq_L e5 e2) h
    have e7 : z = v := by
      have q := congrArg Int64.toInt (e6.trans hv)
      rw [Int32.toInt_toInt64, Int32.toInt_toInt64] at q
      exact Wk.eqI q
    subst e7
    have q := (elem_in e0 ht (show (Term.index 0).eval args s none [i] s = some (.int i.toInt32) from rfl) A.1).2
    rwa [hi] at q
theorem Wk.aryT {Z : State} {h : Heap} {a : Addr} {cl : Cell} {ty : FieldType} {f : Nat → Int32} {n : Nat} {z : Int32} (A : Arr Z h a cl ty) (hn : cl.slots.size < 2 ^ 31 ∧ cl.slots.size.toInt32 = z) (hl : z.toNatClampNeg = n) (H : ∀ i, i < n → cl.slots[i]? = some (.int (f i))) (hf : ∀ i, i < n → fits ty (.int (f i)) = true) : Wk.Ary Z h a ty ((List.range n).map fun i => .int (f i)) := by
  have hs : cl.slots.size = n := by
    rw [← hl, ← hn.2]
    exact (Int32.toNatClampNeg_ofNat_of_lt hn.1).symm
  refine ⟨cl, A, ?_, by simpa [hs] using hn.1, ?_⟩
  · apply Array.ext
    · simpa using hs
    · intro i h1 h2
      have q := H i (by omega)
      rw [Array.getElem?_eq_getElem h1] at q
      simpa using q
  · intro v hv
    obtain ⟨i, hi, rfl⟩ := List.mem_map.mp hv
    exact hf i (List.mem_range.mp hi)
theorem Wk.lenS {args : Array Value} {s : State} {t : Term} {a : Addr} {cl : Cell} {ty : FieldType} {n : Int32} (ht : t.eval args s none [] s = some (.ref a)) (A : Arr s s.heap a cl ty) (h : (Jvm.Cond.eq (.length t) (.int n)).value args s none s [] = some true) : cl.slots.size < 2 ^ 31 ∧ cl.slots.size.toInt32 = n := by
  obtain ⟨x, y, e1, e2, -, kin⟩ := cmp_v (Or.inl h)
  cases (Term.int_eval n).symm.trans e2
  obtain ⟨z, rfl⟩ := kin
  have e3 := gotT (Cond.eq_ints e1 e2) h
  have ha : s.arrayAt? a = some cl := A.fin (Vm.Alike.refl _)
  by_cases q : cl.slots.size < 2 ^ 31
  · refine ⟨q, ?_⟩
    have e4 := len_f ht ha q
    rw [e4] at e1
    cases e1
    exact e3
  · simp [Term.eval, ht, ha, q] at e1
theorem Wk.elemS {args : Array Value} {s : State} {t : Term} {a : Addr} {cl : Cell} {ty : FieldType} {j v : Int32} (ht : t.eval args s none [] s = some (.ref a)) (A : Arr s s.heap a cl ty) (h : (Jvm.Cond.eq (.elem t (.int j)) (.int v)).value args s none s [] = some true) : cl.slots[j.toNatClampNeg]? = some (.int v) := by
  obtain ⟨x, y, e1, e2, -, kin⟩ := cmp_v (Or.inl h)
  cases (Term.int_eval v).symm.trans e2
  obtain ⟨z, rfl⟩ := kin
  cases gotT (Cond.eq_ints e1 e2) h
  exact (elem_in e1 ht (Term.int_eval j) A.1).2
theorem Wk.elemR {args : Array Value} {s : State} {t u : Term} {a b : Addr} {cl : Cell} {ty : FieldType} {j : Int32} (ht : t.eval args s none [] s = some (.ref a)) (hu : u.eval args s none [] s = some (.ref b)) (A : Arr s s.heap a cl ty) (h : (Jvm.Cond.eq (.elem t (.int j)) u).value args s none s [] = some true) : cl.slots[j.toNatClampNeg]? = some (.ref b) := by
  obtain ⟨x, y, e1, e2, -, kin⟩ := cmp_v (Or.inl h)
  cases hu.symm.trans e2
  cases gotT (eq_R e1 e2 kin.2 rfl) h
  exact (elem_in e1 ht (Term.int_eval j) A.1).2
theorem Wk.aryS {Z : State} {h : Heap} {a : Addr} {cl : Cell} {ty : FieldType} {vs : List Value} {n : Int32} (A : Arr Z h a cl ty) (hn : cl.slots.size < 2 ^ 31 ∧ cl.slots.size.toInt32 = n) (hl : n.toNatClampNeg = vs.length) (H : HasL cl 0 vs) (hf : ∀ v ∈ vs, fits ty v = true) : Wk.Ary Z h a ty vs := by
  have hs : cl.slots.size = vs.length := by
    rw [← hl, ← hn.2]
    exact (Int32.toNatClampNeg_ofNat_of_lt hn.1).symm
  refine ⟨cl, A, ?_, by omega, hf⟩
  apply Array.ext
  · simpa using hs
  · intro i h1 h2
    have q := HasL.at (dv := .null) vs 0 H i (by omega)
    rw [Nat.zero_add, Array.getElem?_eq_getElem h1] at q
    have h3 : i < vs.length := by omega
    simpa [List.getD_eq_getElem?_getD, h3] using q
abbrev StN : String := "java/lang/String"
abbrev PcN : String := "jdk/internal/util/Preconditions"
/-- null, or a String -/
def SN (Z : State) (h : Heap) (v : Value) : Prop := v = .null ∨ ∃ x, v = .ref x ∧ Exa Z h x StN
theorem SN.ext {Z : State} {h h' : Heap} {v : Value} (F : SN Z h v) (E : Ext h h') : SN Z h' v := F.imp id fun ⟨x, e, A⟩ => ⟨x, e, A.ext E⟩
theorem SN.wr {Z : State} {h h' : Heap} {v u : Value} {b : Addr} {sl : Nat} (F : SN Z h v) (W : Wr h h' b sl u) : SN Z h' v := F.imp id fun ⟨x, e, A⟩ => ⟨x, e, A.wr W⟩
theorem SN.keep {Z : State} {h h' : Heap} {v : Value} {ws : List Addr} (F : SN Z h v) (K : Keep h h' ws) : SN Z h' v := F.imp id fun ⟨x, e, A⟩ => ⟨x, e, A.keep K⟩
theorem SN.ref {Z : State} {h : Heap} {v : Value} (F : SN Z h v) : v.isRef = true := by rcases F with rfl | ⟨x, rfl, -⟩ <;> rfl
theorem Wk.conjB {a0 : Array Value} {Z : State} : ∀ {L : List Cond}, (∀ w ∈ L, w.before a0 Z = true) → (Jvm.Free.Exc.conj L).before a0 Z = true
  | [], _ => rfl
  | c :: L, h => by
    show (Cond.and c (Jvm.Free.Exc.conj L)).before a0 Z = true
    rw [Cond.before_and, Bool.and_eq_true]
    exact ⟨h c (List.mem_cons_self ..), Wk.conjB fun w hw => h w (List.mem_cons_of_mem _ hw)⟩
/-- the named sets of the JDK's statics, at the start -/
def Sets (Z : State) : Prop := ∃ (z : Int32) (fm : Value), Sta Z Z.heap StN "COMPACT_STRINGS" "Z" (.int z) ∧ ¬ z = 0 ∧ Sta Z Z.heap PcN "SIOOBE_FORMATTER" "Ljava/util/function/BiFunction;" fm ∧ fm.isRef = true
theorem w0 {a0 : Array Value} {Z : State} (hw : Ws a0 Z) : (Jvm.Cond.constant "com/example/isomorph/isomorph/JavaNamesUnicodeEscapePinLaw" (7 : Nat) (65535 : Int32)).before a0 Z = true := hw _ (List.mem_of_getElem? (i := 0) rfl)
theorem w1 {a0 : Array Value} {Z : State} (hw : Ws a0 Z) : (Jvm.Cond.methodLink "com/example/isomorph/isomorph/JavaNamesUnicodeEscapePinLaw" (8 : Nat) ({ cls := "com/example/isomorph/isomorph/JavaNames", name := "unicodeEscape", desc := "(C)Ljava/lang/String;" } : Jvm.MethodName)).before a0 Z = true := hw _ (List.mem_of_getElem? (i := 1) rfl)
theorem w2 {a0 : Array Value} {Z : State} (hw : Ws a0 Z) : (Jvm.Cond.static ({ cls := "com/example/isomorph/isomorph/JavaNames", name := "unicodeEscape", desc := "(C)Ljava/lang/String;" } : Jvm.MethodName)).before a0 Z = true := hw _ (List.mem_of_getElem? (i := 2) rfl)
theorem w3 {a0 : Array Value} {Z : State} (hw : Ws a0 Z) : (Jvm.Cond.initialized "com/example/isomorph/isomorph/JavaNames").before a0 Z = true := hw _ (List.mem_of_getElem? (i := 3) rfl)
theorem w4 {a0 : Array Value} {Z : State} (hw : Ws a0 Z) : (Jvm.Cond.code ({ cls := "com/example/isomorph/isomorph/JavaNames", name := "unicodeEscape", desc := "(C)Ljava/lang/String;" } : Jvm.MethodName) prog_1_method_2_code (2 : Nat) (Option.some (Jvm.ClassFile.FieldType.object "java/lang/String"))).before a0 Z = true := hw _ (List.mem_of_getElem? (i := 4) rfl)
theorem w5 {a0 : Array Value} {Z : State} (hw : Ws a0 Z) : (Jvm.Cond.methodLink "com/example/isomorph/isomorph/JavaNames" (7 : Nat) ({ cls := "java/lang/Integer", name := "toHexString", desc := "(I)Ljava/lang/String;" } : Jvm.MethodName)).before a0 Z = true := hw _ (List.mem_of_getElem? (i := 5) rfl)
theorem w6 {a0 : Array Value} {Z : State} (hw : Ws a0 Z) : (Jvm.Cond.static ({ cls := "java/lang/Integer", name := "toHexString", desc := "(I)Ljava/lang/String;" } : Jvm.MethodName)).before a0 Z = true := hw _ (List.mem_of_getElem? (i := 6) rfl)
theorem w7 {a0 : Array Value} {Z : State} (hw : Ws a0 Z) : (Jvm.Cond.initialized "java/lang/Integer").before a0 Z = true := hw _ (List.mem_of_getElem? (i := 7) rfl)
theorem w8 {a0 : Array Value} {Z : State} (hw : Ws a0 Z) : (Jvm.Cond.code ({ cls := "java/lang/Integer", name := "toHexString", desc := "(I)Ljava/lang/String;" } : Jvm.MethodName) jdk_33_method_4_code (1 : Nat) (Option.some (Jvm.ClassFile.FieldType.object "java/lang/String"))).before a0 Z = true := hw _ (List.mem_of_getElem? (i := 8) rfl)
theorem w9 {a0 : Array Value} {Z : State} (hw : Ws a0 Z) : (Jvm.Cond.methodLink "java/lang/Integer" (48 : Nat) ({ cls := "java/lang/Integer", name := "toUnsignedString0", desc := "(II)Ljava/lang/String;" } : Jvm.MethodName)).before a0 Z = true := hw _ (List.mem_of_getElem? (i := 9) rfl)
theorem w10 {a0 : Array Value} {Z : State} (hw : Ws a0 Z) : (Jvm.Cond.static ({ cls := "java/lang/Integer", name := "toUnsignedString0", desc := "(II)Ljava/lang/String;" } : Jvm.MethodName)).before a0 Z = true := hw _ (List.mem_of_getElem? (i := 10) rfl)
theorem w11 {a0 : Array Value} {Z : State} (hw : Ws a0 Z) : (Jvm.Cond.code ({ cls := "java/lang/Integer", name := "toUnsignedString0", desc := "(II)Ljava/lang/String;" } : Jvm.MethodName) jdk_33_method_7_code (5 : Nat) (Option.some (Jvm.ClassFile.FieldType.object "java/lang/String"))).before a0 Z = true := hw _ (List.mem_of_getElem? (i := 11) rfl)
theorem w12 {a0 : Array Value} {Z : State} (hw : Ws a0 Z) : (Jvm.Cond.methodLink "java/lang/Integer" (51 : Nat) ({ cls := "java/lang/Integer", name := "numberOfLeadingZeros", desc := "(I)I" } : Jvm.MethodName)).before a0 Z = true := hw _ (List.mem_of_getElem? (i := 12) rfl)
theorem w13 {a0 : Array Value} {Z : State} (hw : Ws a0 Z) : (Jvm.Cond.static ({ cls := "java/lang/Integer", name := "numberOfLeadingZeros", desc := "(I)I" } : Jvm.MethodName)).before a0 Z = true := hw _ (List.mem_of_getElem? (i := 13) rfl)
theorem w14 {a0 : Array Value} {Z : State} (hw : Ws a0 Z) : (Jvm.Cond.code ({ cls := "java/lang/Integer", name := "numberOfLeadingZeros", desc := "(I)I" } : Jvm.MethodName) jdk_33_method_47_code (2 : Nat) (Option.some Jvm.ClassFile.FieldType.int)).before a0 Z = true := hw _ (List.mem_of_getElem? (i := 14) rfl)
theorem w15 {a0 : Array Value} {Z : State} (hw : Ws a0 Z) : (Jvm.Cond.methodLink "java/lang/Integer" (55 : Nat) ({ cls := "java/lang/Math", name := "max", desc := "(II)I" } : Jvm.MethodName)).before a0 Z = true := hw _ (List.mem_of_getElem? (i := 15) rfl)
theorem w16 {a0 : Array Value} {Z : State} (hw : Ws a0 Z) : (Jvm.Cond.static ({ cls := "java/lang/Math", name := "max", desc := "(II)I" } : Jvm.MethodName)).before a0 Z = true := hw _ (List.mem_of_getElem? (i := 16) rfl)
theorem w17 {a0 : Array Value} {Z : State} (hw : Ws a0 Z) : (Jvm.Cond.initialized "java/lang/Math").before a0 Z = true := hw _ (List.mem_of_getElem? (i := 17) rfl)
theorem w18 {a0 : Array Value} {Z : State} (hw : Ws a0 Z) : (Jvm.Cond.code ({ cls := "java/lang/Math", name := "max", desc := "(II)I" } : Jvm.MethodName) jdk_29_method_65_code (2 : Nat) (Option.some Jvm.ClassFile.FieldType.int)).before a0 Z = true := hw _ (List.mem_of_getElem? (i := 18) rfl)
theorem w19 {a0 : Array Value} {Z : State} (hw : Ws a0 Z) : (Jvm.Cond.fieldLink "java/lang/Integer" (13 : Nat) "java/lang/String" "COMPACT_STRINGS" "Z").before a0 Z = true := hw _ (List.mem_of_getElem? (i := 19) rfl)
theorem w20 {a0 : Array Value} {Z : State} (hw : Ws a0 Z) : (Jvm.Cond.initialized "java/lang/String").before a0 Z = true := hw _ (List.mem_of_getElem? (i := 20) rfl)
theorem w21 {a0 : Array Value} {Z : State} (hw : Ws a0 Z) : (Jvm.Cond.arrayClass Jvm.ClassFile.FieldType.byte).before a0 Z = true := hw _ (List.mem_of_getElem? (i := 21) rfl)
theorem w22 {a0 : Array Value} {Z : State} (hw : Ws a0 Z) : (Jvm.Cond.methodLink "java/lang/Integer" (61 : Nat) ({ cls := "java/lang/Integer", name := "formatUnsignedInt", desc := "(II[BI)V" } : Jvm.MethodName)).before a0 Z = true := hw _ (List.mem_of_getElem? (i := 22) rfl)
theorem w23 {a0 : Array Value} {Z : State} (hw : Ws a0 Z) : (Jvm.Cond.static ({ cls := "java/lang/Integer", name := "formatUnsignedInt", desc := "(II[BI)V" } : Jvm.MethodName)).before a0 Z = true := hw _ (List.mem_of_getElem? (i := 23) rfl)
theorem w24 {a0 : Array Value} {Z : State} (hw : Ws a0 Z) : (Jvm.Cond.code ({ cls := "java/lang/Integer", name := "formatUnsignedInt", desc := "(II[BI)V" } : Jvm.MethodName) jdk_33_method_8_code (7 : Nat) (Option.none : Option Jvm.ClassFile.FieldType)).before a0 Z = true := hw _ (List.mem_of_getElem? (i := 24) rfl)
theorem w25 {a0 : Array Value} {Z : State} (hw : Ws a0 Z) : (Jvm.Cond.fieldLink "java/lang/Integer" (17 : Nat) "java/lang/Integer" "digits" "[C").before a0 Z = true := hw _ (List.mem_of_getElem? (i := 25) rfl)
theorem w26 {a0 : Array Value} {Z : State} (hw : Ws a0 Z) : (Jvm.Cond.classLink "java/lang/Integer" (5 : Nat) "java/lang/String").before a0 Z = true := hw _ (List.mem_of_getElem? (i := 26) rfl)
theorem w27 {a0 : Array Value} {Z : State} (hw : Ws a0 Z) : (Jvm.Cond.instantiable "java/lang/String" (4 : Nat)).before a0 Z = true := hw _ (List.mem_of_getElem? (i := 27) rfl)
theorem w28 {a0 : Array Value} {Z : State} (hw : Ws a0 Z) : (Jvm.Cond.methodLink "java/lang/Integer" (65 : Nat) ({ cls := "java/lang/String", name := "<init>", desc := "([BB)V" } : Jvm.MethodName)).before a0 Z = true := hw _ (List.mem_of_getElem? (i := 28) rfl)
theorem w29 {a0 : Array Value} {Z : State} (hw : Ws a0 Z) : (Jvm.Cond.instanceMethod ({ cls := "java/lang/String", name := "<init>", desc := "([BB)V" } : Jvm.MethodName)).before a0 Z = true := hw _ (List.mem_of_getElem? (i := 29) rfl)
theorem w31 {a0 : Array Value} {Z : State} (hw : Ws a0 Z) : (Jvm.Cond.code ({ cls := "java/lang/String", name := "<init>", desc := "([BB)V" } : Jvm.MethodName) jdk_42_method_151_code (3 : Nat) (Option.none : Option Jvm.ClassFile.FieldType)).before a0 Z = true := hw _ (List.mem_of_getElem? (i := 31) rfl)
theorem w32 {a0 : Array Value} {Z : State} (hw : Ws a0 Z) : (Jvm.Cond.methodLink "java/lang/String" (1 : Nat) ({ cls := "java/lang/Object", name := "<init>", desc := "()V" } : Jvm.MethodName)).before a0 Z = true := hw _ (List.mem_of_getElem? (i := 32) rfl)
theorem w33 {a0 : Array Value} {Z : State} (hw : Ws a0 Z) : (Jvm.Cond.instanceMethod ({ cls := "java/lang/Object", name := "<init>", desc := "()V" } : Jvm.MethodName)).before a0 Z = true := hw _ (List.mem_of_getElem? (i := 33) rfl)
theorem w34 {a0 : Array Value} {Z : State} (hw : Ws a0 Z) : (Jvm.Cond.code ({ cls := "java/lang/Object", name := "<init>", desc := "()V" } : Jvm.MethodName) object_method_1_code (1 : Nat) (Option.none : Option Jvm.ClassFile.FieldType)).before a0 Z = true := hw _ (List.mem_of_getElem? (i := 34) rfl)
theorem w35 {a0 : Array Value} {Z : State} (hw : Ws a0 Z) : (Jvm.Cond.fieldLink "java/lang/String" (9 : Nat) "java/lang/String" "value" "[B").before a0 Z = true := hw _ (List.mem_of_getElem? (i := 35) rfl)
theorem w36 {a0 : Array Value} {Z : State} (hw : Ws a0 Z) : (Jvm.Cond.laysFinal "java/lang/String" "java/lang/String" "value" "[B").before a0 Z = true := hw _ (List.mem_of_getElem? (i := 36) rfl)
theorem w37 {a0 : Array Value} {Z : State} (hw : Ws a0 Z) : (Jvm.Cond.fieldLink "java/lang/String" (15 : Nat) "java/lang/String" "coder" "B").before a0 Z = true := hw _ (List.mem_of_getElem? (i := 37) rfl)
theorem w38 {a0 : Array Value} {Z : State} (hw : Ws a0 Z) : (Jvm.Cond.laysFinal "java/lang/String" "java/lang/String" "coder" "B").before a0 Z = true := hw _ (List.mem_of_getElem? (i := 38) rfl)
theorem w39 {a0 : Array Value} {Z : State} (hw : Ws a0 Z) : (Jvm.Cond.classLink "com/example/isomorph/isomorph/JavaNames" (13 : Nat) "java/lang/StringBuilder").before a0 Z = true := hw _ (List.mem_of_getElem? (i := 39) rfl)
theorem w40 {a0 : Array Value} {Z : State} (hw : Ws a0 Z) : (Jvm.Cond.instantiable "java/lang/StringBuilder" (4 : Nat)).before a0 Z = true := hw _ (List.mem_of_getElem? (i := 40) rfl)
theorem w41 {a0 : Array Value} {Z : State} (hw : Ws a0 Z) : (Jvm.Cond.initialized "java/lang/StringBuilder").before a0 Z = true := hw _ (List.mem_of_getElem? (i := 41) rfl)
theorem w42 {a0 : Array Value} {Z : State} (hw : Ws a0 Z) : (Jvm.Cond.methodLink "com/example/isomorph/isomorph/JavaNames" (15 : Nat) ({ cls := "java/lang/StringBuilder", name := "<init>", desc := "()V" } : Jvm.MethodName)).before a0 Z = true := hw _ (List.mem_of_getElem? (i := 42) rfl)
theorem w43 {a0 : Array Value} {Z : State} (hw : Ws a0 Z) : (Jvm.Cond.instanceMethod ({ cls := "java/lang/StringBuilder", name := "<init>", desc := "()V" } : Jvm.MethodName)).before a0 Z = true := hw _ (List.mem_of_getElem? (i := 43) rfl)
theorem w44 {a0 : Array Value} {Z : State} (hw : Ws a0 Z) : (Jvm.Cond.code ({ cls := "java/lang/StringBuilder", name := "<init>", desc := "()V" } : Jvm.MethodName) jdk_67_method_1_code (1 : Nat) (Option.none : Option Jvm.ClassFile.FieldType)).before a0 Z = true := hw _ (List.mem_of_getElem? (i := 44) rfl)
theorem w45 {a0 : Array Value} {Z : State} (hw : Ws a0 Z) : (Jvm.Cond.methodLink "java/lang/StringBuilder" (1 : Nat) ({ cls := "java/lang/AbstractStringBuilder", name := "<init>", desc := "(I)V" } : Jvm.MethodName)).before a0 Z = true := hw _ (List.mem_of_getElem? (i := 45) rfl)
theorem w46 {a0 : Array Value} {Z : State} (hw : Ws a0 Z) : (Jvm.Cond.instanceMethod ({ cls := "java/lang/AbstractStringBuilder", name := "<init>", desc := "(I)V" } : Jvm.MethodName)).before a0 Z = true := hw _ (List.mem_of_getElem? (i := 46) rfl)
theorem w49 {a0 : Array Value} {Z : State} (hw : Ws a0 Z) : (Jvm.Cond.initialized "java/lang/AbstractStringBuilder").before a0 Z = true := hw _ (List.mem_of_getElem? (i := 49) rfl)
theorem w50 {a0 : Array Value} {Z : State} (hw : Ws a0 Z) : (Jvm.Cond.code ({ cls := "java/lang/AbstractStringBuilder", name := "<init>", desc := "(I)V" } : Jvm.MethodName) jdk_68_method_2_code (2 : Nat) (Option.none : Option Jvm.ClassFile.FieldType)).before a0 Z = true := hw _ (List.mem_of_getElem? (i := 50) rfl)
theorem w51 {a0 : Array Value} {Z : State} (hw : Ws a0 Z) : (Jvm.Cond.methodLink "java/lang/AbstractStringBuilder" (3 : Nat) ({ cls := "java/lang/Object", name := "<init>", desc := "()V" } : Jvm.MethodName)).before a0 Z = true := hw _ (List.mem_of_getElem? (i := 51) rfl)
theorem w52 {a0 : Array Value} {Z : State} (hw : Ws a0 Z) : (Jvm.Cond.fieldLink "java/lang/AbstractStringBuilder" (18 : Nat) "java/lang/String" "COMPACT_STRINGS" "Z").before a0 Z = true := hw _ (List.mem_of_getElem? (i := 52) rfl)
theorem w53 {a0 : Array Value} {Z : State} (hw : Ws a0 Z) : (Jvm.Cond.fieldLink "java/lang/AbstractStringBuilder" (15 : Nat) "java/lang/AbstractStringBuilder" "value" "[B").before a0 Z = true := hw _ (List.mem_of_getElem? (i := 53) rfl)
theorem w54 {a0 : Array Value} {Z : State} (hw : Ws a0 Z) : (Jvm.Cond.lays "java/lang/StringBuilder" "java/lang/AbstractStringBuilder" "value" "[B").before a0 Z = true := hw _ (List.mem_of_getElem? (i := 54) rfl)
theorem w55 {a0 : Array Value} {Z : State} (hw : Ws a0 Z) : (Jvm.Cond.fieldLink "java/lang/AbstractStringBuilder" (22 : Nat) "java/lang/AbstractStringBuilder" "coder" "B").before a0 Z = true := hw _ (List.mem_of_getElem? (i := 55) rfl)
theorem w56 {a0 : Array Value} {Z : State} (hw : Ws a0 Z) : (Jvm.Cond.lays "java/lang/StringBuilder" "java/lang/AbstractStringBuilder" "coder" "B").before a0 Z = true := hw _ (List.mem_of_getElem? (i := 56) rfl)
theorem w57 {a0 : Array Value} {Z : State} (hw : Ws a0 Z) : (Jvm.Cond.stringLink "com/example/isomorph/isomorph/JavaNames" (16 : Nat) "\\u").before a0 Z = true := hw _ (List.mem_of_getElem? (i := 57) rfl)
theorem w58 {a0 : Array Value} {Z : State} (hw : Ws a0 Z) : (Jvm.Cond.soleField "java/lang/String" "value").before a0 Z = true := hw _ (List.mem_of_getElem? (i := 58) rfl)
theorem w59 {a0 : Array Value} {Z : State} (hw : Ws a0 Z) : (Jvm.Cond.soleField "java/lang/String" "coder").before a0 Z = true := hw _ (List.mem_of_getElem? (i := 59) rfl)
theorem w60 {a0 : Array Value} {Z : State} (hw : Ws a0 Z) : (Jvm.Cond.methodLink "com/example/isomorph/isomorph/JavaNames" (18 : Nat) ({ cls := "java/lang/StringBuilder", name := "append", desc := "(Ljava/lang/String;)Ljava/lang/StringBuilder;" } : Jvm.MethodName)).before a0 Z = true := hw _ (List.mem_of_getElem? (i := 60) rfl)
theorem w61 {a0 : Array Value} {Z : State} (hw : Ws a0 Z) : (Jvm.Cond.declares ({ cls := "java/lang/StringBuilder", name := "append", desc := "(Ljava/lang/String;)Ljava/lang/StringBuilder;" } : Jvm.MethodName)).before a0 Z = true := hw _ (List.mem_of_getElem? (i := 61) rfl)
theorem w62 {a0 : Array Value} {Z : State} (hw : Ws a0 Z) : (Jvm.Cond.instanceMethod ({ cls := "java/lang/StringBuilder", name := "append", desc := "(Ljava/lang/String;)Ljava/lang/StringBuilder;" } : Jvm.MethodName)).before a0 Z = true := hw _ (List.mem_of_getElem? (i := 62) rfl)
theorem w63 {a0 : Array Value} {Z : State} (hw : Ws a0 Z) : (Jvm.Cond.selects "java/lang/StringBuilder" ({ cls := "java/lang/StringBuilder", name := "append", desc := "(Ljava/lang/String;)Ljava/lang/StringBuilder;" } : Jvm.MethodName) ({ cls := "java/lang/StringBuilder", name := "append", desc := "(Ljava/lang/String;)Ljava/lang/StringBuilder;" } : Jvm.MethodName)).before a0 Z = true := hw _ (List.mem_of_getElem? (i := 63) rfl)
theorem w64 {a0 : Array Value} {Z : State} (hw : Ws a0 Z) : (Jvm.Cond.code ({ cls := "java/lang/StringBuilder", name := "append", desc := "(Ljava/lang/String;)Ljava/lang/StringBuilder;" } : Jvm.MethodName) jdk_67_method_7_code (2 : Nat) (Option.some (Jvm.ClassFile.FieldType.object "java/lang/StringBuilder"))).before a0 Z = true := hw _ (List.mem_of_getElem? (i := 64) rfl)
theorem w65 {a0 : Array Value} {Z : State} (hw : Ws a0 Z) : (Jvm.Cond.methodLink "java/lang/StringBuilder" (29 : Nat) ({ cls := "java/lang/AbstractStringBuilder", name := "append", desc := "(Ljava/lang/String;)Ljava/lang/AbstractStringBuilder;" } : Jvm.MethodName)).before a0 Z = true := hw _ (List.mem_of_getElem? (i := 65) rfl)
theorem w66 {a0 : Array Value} {Z : State} (hw : Ws a0 Z) : (Jvm.Cond.instanceMethod ({ cls := "java/lang/AbstractStringBuilder", name := "append", desc := "(Ljava/lang/String;)Ljava/lang/AbstractStringBuilder;" } : Jvm.MethodName)).before a0 Z = true := hw _ (List.mem_of_getElem? (i := 66) rfl)
theorem w67 {a0 : Array Value} {Z : State} (hw : Ws a0 Z) : (Jvm.Cond.superclass "java/lang/StringBuilder" "java/lang/AbstractStringBuilder").before a0 Z = true := hw _ (List.mem_of_getElem? (i := 67) rfl)
theorem w69 {a0 : Array Value} {Z : State} (hw : Ws a0 Z) : (Jvm.Cond.code ({ cls := "java/lang/AbstractStringBuilder", name := "append", desc := "(Ljava/lang/String;)Ljava/lang/AbstractStringBuilder;" } : Jvm.MethodName) jdk_68_method_22_code (3 : Nat) (Option.some (Jvm.ClassFile.FieldType.object "java/lang/AbstractStringBuilder"))).before a0 Z = true := hw _ (List.mem_of_getElem? (i := 69) rfl)
theorem w70 {a0 : Array Value} {Z : State} (hw : Ws a0 Z) : (Jvm.Cond.methodLink "java/lang/AbstractStringBuilder" (32 : Nat) ({ cls := "java/lang/String", name := "length", desc := "()I" } : Jvm.MethodName)).before a0 Z = true := hw _ (List.mem_of_getElem? (i := 70) rfl)
theorem w71 {a0 : Array Value} {Z : State} (hw : Ws a0 Z) : (Jvm.Cond.declares ({ cls := "java/lang/String", name := "length", desc := "()I" } : Jvm.MethodName)).before a0 Z = true := hw _ (List.mem_of_getElem? (i := 71) rfl)
theorem w72 {a0 : Array Value} {Z : State} (hw : Ws a0 Z) : (Jvm.Cond.instanceMethod ({ cls := "java/lang/String", name := "length", desc := "()I" } : Jvm.MethodName)).before a0 Z = true := hw _ (List.mem_of_getElem? (i := 72) rfl)
theorem w73 {a0 : Array Value} {Z : State} (hw : Ws a0 Z) : (Jvm.Cond.selects "java/lang/String" ({ cls := "java/lang/String", name := "length", desc := "()I" } : Jvm.MethodName) ({ cls := "java/lang/String", name := "length", desc := "()I" } : Jvm.MethodName)).before a0 Z = true := hw _ (List.mem_of_getElem? (i := 73) rfl)
theorem w74 {a0 : Array Value} {Z : State} (hw : Ws a0 Z) : (Jvm.Cond.code ({ cls := "java/lang/String", name := "length", desc := "()I" } : Jvm.MethodName) jdk_42_method_54_code (1 : Nat) (Option.some Jvm.ClassFile.FieldType.int)).before a0 Z = true := hw _ (List.mem_of_getElem? (i := 74) rfl)
theorem w75 {a0 : Array Value} {Z : State} (hw : Ws a0 Z) : (Jvm.Cond.methodLink "java/lang/String" (335 : Nat) ({ cls := "java/lang/String", name := "coder", desc := "()B" } : Jvm.MethodName)).before a0 Z = true := hw _ (List.mem_of_getElem? (i := 75) rfl)
theorem w76 {a0 : Array Value} {Z : State} (hw : Ws a0 Z) : (Jvm.Cond.declares ({ cls := "java/lang/String", name := "coder", desc := "()B" } : Jvm.MethodName)).before a0 Z = true := hw _ (List.mem_of_getElem? (i := 76) rfl)
theorem w77 {a0 : Array Value} {Z : State} (hw : Ws a0 Z) : (Jvm.Cond.instanceMethod ({ cls := "java/lang/String", name := "coder", desc := "()B" } : Jvm.MethodName)).before a0 Z = true := hw _ (List.mem_of_getElem? (i := 77) rfl)
theorem w78 {a0 : Array Value} {Z : State} (hw : Ws a0 Z) : (Jvm.Cond.selects "java/lang/String" ({ cls := "java/lang/String", name := "coder", desc := "()B" } : Jvm.MethodName) ({ cls := "java/lang/String", name := "coder", desc := "()B" } : Jvm.MethodName)).before a0 Z = true := hw _ (List.mem_of_getElem? (i := 78) rfl)
theorem w79 {a0 : Array Value} {Z : State} (hw : Ws a0 Z) : (Jvm.Cond.code ({ cls := "java/lang/String", name := "coder", desc := "()B" } : Jvm.MethodName) jdk_42_method_152_code (1 : Nat) (Option.some Jvm.ClassFile.FieldType.byte)).before a0 Z = true := hw _ (List.mem_of_getElem? (i := 79) rfl)
theorem w80 {a0 : Array Value} {Z : State} (hw : Ws a0 Z) : (Jvm.Cond.fieldLink "java/lang/String" (38 : Nat) "java/lang/String" "COMPACT_STRINGS" "Z").before a0 Z = true := hw _ (List.mem_of_getElem? (i := 80) rfl)
theorem w81 {a0 : Array Value} {Z : State} (hw : Ws a0 Z) : (Jvm.Cond.fieldLink "java/lang/AbstractStringBuilder" (79 : Nat) "java/lang/AbstractStringBuilder" "count" "I").before a0 Z = true := hw _ (List.mem_of_getElem? (i := 81) rfl)
theorem w82 {a0 : Array Value} {Z : State} (hw : Ws a0 Z) : (Jvm.Cond.lays "java/lang/StringBuilder" "java/lang/AbstractStringBuilder" "count" "I").before a0 Z = true := hw _ (List.mem_of_getElem? (i := 82) rfl)
theorem w83 {a0 : Array Value} {Z : State} (hw : Ws a0 Z) : (Jvm.Cond.methodLink "java/lang/AbstractStringBuilder" (100 : Nat) ({ cls := "java/lang/AbstractStringBuilder", name := "ensureCapacityInternal", desc := "(I)V" } : Jvm.MethodName)).before a0 Z = true := hw _ (List.mem_of_getElem? (i := 83) rfl)
theorem w84 {a0 : Array Value} {Z : State} (hw : Ws a0 Z) : (Jvm.Cond.instanceMethod ({ cls := "java/lang/AbstractStringBuilder", name := "ensureCapacityInternal", desc := "(I)V" } : Jvm.MethodName)).before a0 Z = true := hw _ (List.mem_of_getElem? (i := 84) rfl)
theorem w86 {a0 : Array Value} {Z : State} (hw : Ws a0 Z) : (Jvm.Cond.selects "java/lang/StringBuilder" ({ cls := "java/lang/AbstractStringBuilder", name := "ensureCapacityInternal", desc := "(I)V" } : Jvm.MethodName) ({ cls := "java/lang/AbstractStringBuilder", name := "ensureCapacityInternal", desc := "(I)V" } : Jvm.MethodName)).before a0 Z = true := hw _ (List.mem_of_getElem? (i := 86) rfl)
theorem w87 {a0 : Array Value} {Z : State} (hw : Ws a0 Z) : (Jvm.Cond.code ({ cls := "java/lang/AbstractStringBuilder", name := "ensureCapacityInternal", desc := "(I)V" } : Jvm.MethodName) jdk_68_method_9_code (3 : Nat) (Option.none : Option Jvm.ClassFile.FieldType)).before a0 Z = true := hw _ (List.mem_of_getElem? (i := 87) rfl)
theorem w88 {a0 : Array Value} {Z : State} (hw : Ws a0 Z) : (Jvm.Cond.methodLink "java/lang/AbstractStringBuilder" (208 : Nat) ({ cls := "java/lang/AbstractStringBuilder", name := "putStringAt", desc := "(ILjava/lang/String;)V" } : Jvm.MethodName)).before a0 Z = true := hw _ (List.mem_of_getElem? (i := 88) rfl)
theorem w89 {a0 : Array Value} {Z : State} (hw : Ws a0 Z) : (Jvm.Cond.instanceMethod ({ cls := "java/lang/AbstractStringBuilder", name := "putStringAt", desc := "(ILjava/lang/String;)V" } : Jvm.MethodName)).before a0 Z = true := hw _ (List.mem_of_getElem? (i := 89) rfl)
theorem w91 {a0 : Array Value} {Z : State} (hw : Ws a0 Z) : (Jvm.Cond.selects "java/lang/StringBuilder" ({ cls := "java/lang/AbstractStringBuilder", name := "putStringAt", desc := "(ILjava/lang/String;)V" } : Jvm.MethodName) ({ cls := "java/lang/AbstractStringBuilder", name := "putStringAt", desc := "(ILjava/lang/String;)V" } : Jvm.MethodName)).before a0 Z = true := hw _ (List.mem_of_getElem? (i := 91) rfl)
theorem w92 {a0 : Array Value} {Z : State} (hw : Ws a0 Z) : (Jvm.Cond.code ({ cls := "java/lang/AbstractStringBuilder", name := "putStringAt", desc := "(ILjava/lang/String;)V" } : Jvm.MethodName) jdk_68_method_73_code (3 : Nat) (Option.none : Option Jvm.ClassFile.FieldType)).before a0 Z = true := hw _ (List.mem_of_getElem? (i := 92) rfl)
theorem w93 {a0 : Array Value} {Z : State} (hw : Ws a0 Z) : (Jvm.Cond.methodLink "java/lang/AbstractStringBuilder" (397 : Nat) ({ cls := "java/lang/AbstractStringBuilder", name := "inflateIfNeededFor", desc := "(Ljava/lang/String;)V" } : Jvm.MethodName)).before a0 Z = true := hw _ (List.mem_of_getElem? (i := 93) rfl)
theorem w94 {a0 : Array Value} {Z : State} (hw : Ws a0 Z) : (Jvm.Cond.instanceMethod ({ cls := "java/lang/AbstractStringBuilder", name := "inflateIfNeededFor", desc := "(Ljava/lang/String;)V" } : Jvm.MethodName)).before a0 Z = true := hw _ (List.mem_of_getElem? (i := 94) rfl)
theorem w96 {a0 : Array Value} {Z : State} (hw : Ws a0 Z) : (Jvm.Cond.selects "java/lang/StringBuilder" ({ cls := "java/lang/AbstractStringBuilder", name := "inflateIfNeededFor", desc := "(Ljava/lang/String;)V" } : Jvm.MethodName) ({ cls := "java/lang/AbstractStringBuilder", name := "inflateIfNeededFor", desc := "(Ljava/lang/String;)V" } : Jvm.MethodName)).before a0 Z = true := hw _ (List.mem_of_getElem? (i := 96) rfl)
theorem w97 {a0 : Array Value} {Z : State} (hw : Ws a0 Z) : (Jvm.Cond.code ({ cls := "java/lang/AbstractStringBuilder", name := "inflateIfNeededFor", desc := "(Ljava/lang/String;)V" } : Jvm.MethodName) jdk_68_method_71_code (2 : Nat) (Option.none : Option Jvm.ClassFile.FieldType)).before a0 Z = true := hw _ (List.mem_of_getElem? (i := 97) rfl)
theorem w98 {a0 : Array Value} {Z : State} (hw : Ws a0 Z) : (Jvm.Cond.methodLink "java/lang/AbstractStringBuilder" (40 : Nat) ({ cls := "java/lang/String", name := "coder", desc := "()B" } : Jvm.MethodName)).before a0 Z = true := hw _ (List.mem_of_getElem? (i := 98) rfl)
theorem w99 {a0 : Array Value} {Z : State} (hw : Ws a0 Z) : (Jvm.Cond.methodLink "java/lang/AbstractStringBuilder" (399 : Nat) ({ cls := "java/lang/String", name := "getBytes", desc := "([BIB)V" } : Jvm.MethodName)).before a0 Z = true := hw _ (List.mem_of_getElem? (i := 99) rfl)
theorem w100 {a0 : Array Value} {Z : State} (hw : Ws a0 Z) : (Jvm.Cond.declares ({ cls := "java/lang/String", name := "getBytes", desc := "([BIB)V" } : Jvm.MethodName)).before a0 Z = true := hw _ (List.mem_of_getElem? (i := 100) rfl)
theorem w101 {a0 : Array Value} {Z : State} (hw : Ws a0 Z) : (Jvm.Cond.instanceMethod ({ cls := "java/lang/String", name := "getBytes", desc := "([BIB)V" } : Jvm.MethodName)).before a0 Z = true := hw _ (List.mem_of_getElem? (i := 101) rfl)
theorem w102 {a0 : Array Value} {Z : State} (hw : Ws a0 Z) : (Jvm.Cond.selects "java/lang/String" ({ cls := "java/lang/String", name := "getBytes", desc := "([BIB)V" } : Jvm.MethodName) ({ cls := "java/lang/String", name := "getBytes", desc := "([BIB)V" } : Jvm.MethodName)).before a0 Z = true := hw _ (List.mem_of_getElem? (i := 102) rfl)
theorem w103 {a0 : Array Value} {Z : State} (hw : Ws a0 Z) : (Jvm.Cond.code ({ cls := "java/lang/String", name := "getBytes", desc := "([BIB)V" } : Jvm.MethodName) jdk_42_method_147_code (4 : Nat) (Option.none : Option Jvm.ClassFile.FieldType)).before a0 Z = true := hw _ (List.mem_of_getElem? (i := 103) rfl)
theorem w104 {a0 : Array Value} {Z : State} (hw : Ws a0 Z) : (Jvm.Cond.methodLink "java/lang/String" (212 : Nat) ({ cls := "java/lang/System", name := "arraycopy", desc := "(Ljava/lang/Object;ILjava/lang/Object;II)V" } : Jvm.MethodName)).before a0 Z = true := hw _ (List.mem_of_getElem? (i := 104) rfl)
theorem w105 {a0 : Array Value} {Z : State} (hw : Ws a0 Z) : (Jvm.Cond.static ({ cls := "java/lang/System", name := "arraycopy", desc := "(Ljava/lang/Object;ILjava/lang/Object;II)V" } : Jvm.MethodName)).before a0 Z = true := hw _ (List.mem_of_getElem? (i := 105) rfl)
theorem w106 {a0 : Array Value} {Z : State} (hw : Ws a0 Z) : (Jvm.Cond.initialized "java/lang/System").before a0 Z = true := hw _ (List.mem_of_getElem? (i := 106) rfl)
theorem w107 {a0 : Array Value} {Z : State} (hw : Ws a0 Z) : (Jvm.Cond.native ({ cls := "java/lang/System", name := "arraycopy", desc := "(Ljava/lang/Object;ILjava/lang/Object;II)V" } : Jvm.MethodName)).before a0 Z = true := hw _ (List.mem_of_getElem? (i := 107) rfl)
theorem w108 {a0 : Array Value} {Z : State} (hw : Ws a0 Z) : (Jvm.Cond.stringLink "com/example/isomorph/isomorph/JavaNames" (24 : Nat) "0000").before a0 Z = true := hw _ (List.mem_of_getElem? (i := 108) rfl)
theorem w109 {a0 : Array Value} {Z : State} (hw : Ws a0 Z) : (Jvm.Cond.methodLink "com/example/isomorph/isomorph/JavaNames" (26 : Nat) ({ cls := "java/lang/String", name := "length", desc := "()I" } : Jvm.MethodName)).before a0 Z = true := hw _ (List.mem_of_getElem? (i := 109) rfl)
theorem w110 {a0 : Array Value} {Z : State} (hw : Ws a0 Z) : (Jvm.Cond.methodLink "com/example/isomorph/isomorph/JavaNames" (32 : Nat) ({ cls := "java/lang/String", name := "substring", desc := "(I)Ljava/lang/String;" } : Jvm.MethodName)).before a0 Z = true := hw _ (List.mem_of_getElem? (i := 110) rfl)
theorem w111 {a0 : Array Value} {Z : State} (hw : Ws a0 Z) : (Jvm.Cond.declares ({ cls := "java/lang/String", name := "substring", desc := "(I)Ljava/lang/String;" } : Jvm.MethodName)).before a0 Z = true := hw _ (List.mem_of_getElem? (i := 111) rfl)
theorem w112 {a0 : Array Value} {Z : State} (hw : Ws a0 Z) : (Jvm.Cond.instanceMethod ({ cls := "java/lang/String", name := "substring", desc := "(I)Ljava/lang/String;" } : Jvm.MethodName)).before a0 Z = true := hw _ (List.mem_of_getElem? (i := 112) rfl)
theorem w113 {a0 : Array Value} {Z : State} (hw : Ws a0 Z) : (Jvm.Cond.selects "java/lang/String" ({ cls := "java/lang/String", name := "substring", desc := "(I)Ljava/lang/String;" } : Jvm.MethodName) ({ cls := "java/lang/String", name := "substring", desc := "(I)Ljava/lang/String;" } : Jvm.MethodName)).before a0 Z = true := hw _ (List.mem_of_getElem? (i := 113) rfl)
theorem w114 {a0 : Array Value} {Z : State} (hw : Ws a0 Z) : (Jvm.Cond.code ({ cls := "java/lang/String", name := "substring", desc := "(I)Ljava/lang/String;" } : Jvm.MethodName) jdk_42_method_91_code (2 : Nat) (Option.some (Jvm.ClassFile.FieldType.object "java/lang/String"))).before a0 Z = true := hw _ (List.mem_of_getElem? (i := 114) rfl)
theorem w115 {a0 : Array Value} {Z : State} (hw : Ws a0 Z) : (Jvm.Cond.methodLink "java/lang/String" (505 : Nat) ({ cls := "java/lang/String", name := "length", desc := "()I" } : Jvm.MethodName)).before a0 Z = true := hw _ (List.mem_of_getElem? (i := 115) rfl)
theorem w116 {a0 : Array Value} {Z : State} (hw : Ws a0 Z) : (Jvm.Cond.methodLink "java/lang/String" (681 : Nat) ({ cls := "java/lang/String", name := "substring", desc := "(II)Ljava/lang/String;" } : Jvm.MethodName)).before a0 Z = true := hw _ (List.mem_of_getElem? (i := 116) rfl)
theorem w117 {a0 : Array Value} {Z : State} (hw : Ws a0 Z) : (Jvm.Cond.declares ({ cls := "java/lang/String", name := "substring", desc := "(II)Ljava/lang/String;" } : Jvm.MethodName)).before a0 Z = true := hw _ (List.mem_of_getElem? (i := 117) rfl)
theorem w118 {a0 : Array Value} {Z : State} (hw : Ws a0 Z) : (Jvm.Cond.instanceMethod ({ cls := "java/lang/String", name := "substring", desc := "(II)Ljava/lang/String;" } : Jvm.MethodName)).before a0 Z = true := hw _ (List.mem_of_getElem? (i := 118) rfl)
theorem w119 {a0 : Array Value} {Z : State} (hw : Ws a0 Z) : (Jvm.Cond.selects "java/lang/String" ({ cls := "java/lang/String", name := "substring", desc := "(II)Ljava/lang/String;" } : Jvm.MethodName) ({ cls := "java/lang/String", name := "substring", desc := "(II)Ljava/lang/String;" } : Jvm.MethodName)).before a0 Z = true := hw _ (List.mem_of_getElem? (i := 119) rfl)
theorem w120 {a0 : Array Value} {Z : State} (hw : Ws a0 Z) : (Jvm.Cond.code ({ cls := "java/lang/String", name := "substring", desc := "(II)Ljava/lang/String;" } : Jvm.MethodName) jdk_42_method_92_code (5 : Nat) (Option.some (Jvm.ClassFile.FieldType.object "java/lang/String"))).before a0 Z = true := hw _ (List.mem_of_getElem? (i := 120) rfl)
theorem w121 {a0 : Array Value} {Z : State} (hw : Ws a0 Z) : (Jvm.Cond.methodLink "java/lang/String" (521 : Nat) ({ cls := "java/lang/String", name := "checkBoundsBeginEnd", desc := "(III)V" } : Jvm.MethodName)).before a0 Z = true := hw _ (List.mem_of_getElem? (i := 121) rfl)
theorem w122 {a0 : Array Value} {Z : State} (hw : Ws a0 Z) : (Jvm.Cond.static ({ cls := "java/lang/String", name := "checkBoundsBeginEnd", desc := "(III)V" } : Jvm.MethodName)).before a0 Z = true := hw _ (List.mem_of_getElem? (i := 122) rfl)
theorem w123 {a0 : Array Value} {Z : State} (hw : Ws a0 Z) : (Jvm.Cond.code ({ cls := "java/lang/String", name := "checkBoundsBeginEnd", desc := "(III)V" } : Jvm.MethodName) jdk_42_method_158_code (3 : Nat) (Option.none : Option Jvm.ClassFile.FieldType)).before a0 Z = true := hw _ (List.mem_of_getElem? (i := 123) rfl)
theorem w124 {a0 : Array Value} {Z : State} (hw : Ws a0 Z) : (Jvm.Cond.fieldLink "java/lang/String" (1053 : Nat) "jdk/internal/util/Preconditions" "SIOOBE_FORMATTER" "Ljava/util/function/BiFunction;").before a0 Z = true := hw _ (List.mem_of_getElem? (i := 124) rfl)
theorem w125 {a0 : Array Value} {Z : State} (hw : Ws a0 Z) : (Jvm.Cond.initialized "jdk/internal/util/Preconditions").before a0 Z = true := hw _ (List.mem_of_getElem? (i := 125) rfl)
theorem w126 {a0 : Array Value} {Z : State} (hw : Ws a0 Z) : (Jvm.Cond.methodLink "java/lang/String" (1062 : Nat) ({ cls := "jdk/internal/util/Preconditions", name := "checkFromToIndex", desc := "(IIILjava/util/function/BiFunction;)I" } : Jvm.MethodName)).before a0 Z = true := hw _ (List.mem_of_getElem? (i := 126) rfl)
theorem w127 {a0 : Array Value} {Z : State} (hw : Ws a0 Z) : (Jvm.Cond.static ({ cls := "jdk/internal/util/Preconditions", name := "checkFromToIndex", desc := "(IIILjava/util/function/BiFunction;)I" } : Jvm.MethodName)).before a0 Z = true := hw _ (List.mem_of_getElem? (i := 127) rfl)
theorem w128 {a0 : Array Value} {Z : State} (hw : Ws a0 Z) : (Jvm.Cond.code ({ cls := "jdk/internal/util/Preconditions", name := "checkFromToIndex", desc := "(IIILjava/util/function/BiFunction;)I" } : Jvm.MethodName) jdk_41_method_12_code (4 : Nat) (Option.some Jvm.ClassFile.FieldType.int)).before a0 Z = true := hw _ (List.mem_of_getElem? (i := 128) rfl)
theorem w129 {a0 : Array Value} {Z : State} (hw : Ws a0 Z) : (Jvm.Cond.methodLink "java/lang/String" (492 : Nat) ({ cls := "java/lang/String", name := "isLatin1", desc := "()Z" } : Jvm.MethodName)).before a0 Z = true := hw _ (List.mem_of_getElem? (i := 129) rfl)
theorem w130 {a0 : Array Value} {Z : State} (hw : Ws a0 Z) : (Jvm.Cond.declares ({ cls := "java/lang/String", name := "isLatin1", desc := "()Z" } : Jvm.MethodName)).before a0 Z = true := hw _ (List.mem_of_getElem? (i := 130) rfl)
theorem w131 {a0 : Array Value} {Z : State} (hw : Ws a0 Z) : (Jvm.Cond.instanceMethod ({ cls := "java/lang/String", name := "isLatin1", desc := "()Z" } : Jvm.MethodName)).before a0 Z = true := hw _ (List.mem_of_getElem? (i := 131) rfl)
theorem w132 {a0 : Array Value} {Z : State} (hw : Ws a0 Z) : (Jvm.Cond.selects "java/lang/String" ({ cls := "java/lang/String", name := "isLatin1", desc := "()Z" } : Jvm.MethodName) ({ cls := "java/lang/String", name := "isLatin1", desc := "()Z" } : Jvm.MethodName)).before a0 Z = true := hw _ (List.mem_of_getElem? (i := 132) rfl)
theorem w133 {a0 : Array Value} {Z : State} (hw : Ws a0 Z) : (Jvm.Cond.code ({ cls := "java/lang/String", name := "isLatin1", desc := "()Z" } : Jvm.MethodName) jdk_42_method_154_code (1 : Nat) (Option.some Jvm.ClassFile.FieldType.boolean)).before a0 Z = true := hw _ (List.mem_of_getElem? (i := 133) rfl)
theorem w134 {a0 : Array Value} {Z : State} (hw : Ws a0 Z) : (Jvm.Cond.methodLink "java/lang/String" (685 : Nat) ({ cls := "java/lang/StringLatin1", name := "newString", desc := "([BII)Ljava/lang/String;" } : Jvm.MethodName)).before a0 Z = true := hw _ (List.mem_of_getElem? (i := 134) rfl)
theorem w135 {a0 : Array Value} {Z : State} (hw : Ws a0 Z) : (Jvm.Cond.static ({ cls := "java/lang/StringLatin1", name := "newString", desc := "([BII)Ljava/lang/String;" } : Jvm.MethodName)).before a0 Z = true := hw _ (List.mem_of_getElem? (i := 135) rfl)
theorem w136 {a0 : Array Value} {Z : State} (hw : Ws a0 Z) : (Jvm.Cond.initialized "java/lang/StringLatin1").before a0 Z = true := hw _ (List.mem_of_getElem? (i := 136) rfl)
theorem w137 {a0 : Array Value} {Z : State} (hw : Ws a0 Z) : (Jvm.Cond.code ({ cls := "java/lang/StringLatin1", name := "newString", desc := "([BII)Ljava/lang/String;" } : Jvm.MethodName) jdk_43_method_47_code (3 : Nat) (Option.some (Jvm.ClassFile.FieldType.object "java/lang/String"))).before a0 Z = true := hw _ (List.mem_of_getElem? (i := 137) rfl)
theorem w138 {a0 : Array Value} {Z : State} (hw : Ws a0 Z) : (Jvm.Cond.classLink "java/lang/StringLatin1" (1 : Nat) "java/lang/String").before a0 Z = true := hw _ (List.mem_of_getElem? (i := 138) rfl)
theorem w139 {a0 : Array Value} {Z : State} (hw : Ws a0 Z) : (Jvm.Cond.methodLink "java/lang/StringLatin1" (232 : Nat) ({ cls := "java/util/Arrays", name := "copyOfRange", desc := "([BII)[B" } : Jvm.MethodName)).before a0 Z = true := hw _ (List.mem_of_getElem? (i := 139) rfl)
theorem w140 {a0 : Array Value} {Z : State} (hw : Ws a0 Z) : (Jvm.Cond.static ({ cls := "java/util/Arrays", name := "copyOfRange", desc := "([BII)[B" } : Jvm.MethodName)).before a0 Z = true := hw _ (List.mem_of_getElem? (i := 140) rfl)
theorem w141 {a0 : Array Value} {Z : State} (hw : Ws a0 Z) : (Jvm.Cond.initialized "java/util/Arrays").before a0 Z = true := hw _ (List.mem_of_getElem? (i := 141) rfl)
theorem w142 {a0 : Array Value} {Z : State} (hw : Ws a0 Z) : (Jvm.Cond.code ({ cls := "java/util/Arrays", name := "copyOfRange", desc := "([BII)[B" } : Jvm.MethodName) jdk_65_method_132_code (3 : Nat) (Option.some (Jvm.ClassFile.FieldType.array Jvm.ClassFile.FieldType.byte))).before a0 Z = true := hw _ (List.mem_of_getElem? (i := 142) rfl)
theorem w143 {a0 : Array Value} {Z : State} (hw : Ws a0 Z) : (Jvm.Cond.methodLink "java/util/Arrays" (339 : Nat) ({ cls := "java/util/Arrays", name := "copyOfRangeByte", desc := "([BII)[B" } : Jvm.MethodName)).before a0 Z = true := hw _ (List.mem_of_getElem? (i := 143) rfl)
theorem w144 {a0 : Array Value} {Z : State} (hw : Ws a0 Z) : (Jvm.Cond.static ({ cls := "java/util/Arrays", name := "copyOfRangeByte", desc := "([BII)[B" } : Jvm.MethodName)).before a0 Z = true := hw _ (List.mem_of_getElem? (i := 144) rfl)
theorem w145 {a0 : Array Value} {Z : State} (hw : Ws a0 Z) : (Jvm.Cond.code ({ cls := "java/util/Arrays", name := "copyOfRangeByte", desc := "([BII)[B" } : Jvm.MethodName) jdk_65_method_133_code (5 : Nat) (Option.some (Jvm.ClassFile.FieldType.array Jvm.ClassFile.FieldType.byte))).before a0 Z = true := hw _ (List.mem_of_getElem? (i := 145) rfl)
theorem w146 {a0 : Array Value} {Z : State} (hw : Ws a0 Z) : (Jvm.Cond.methodLink "java/util/Arrays" (343 : Nat) ({ cls := "java/util/Arrays", name := "checkLength", desc := "(II)V" } : Jvm.MethodName)).before a0 Z = true := hw _ (List.mem_of_getElem? (i := 146) rfl)
theorem w147 {a0 : Array Value} {Z : State} (hw : Ws a0 Z) : (Jvm.Cond.static ({ cls := "java/util/Arrays", name := "checkLength", desc := "(II)V" } : Jvm.MethodName)).before a0 Z = true := hw _ (List.mem_of_getElem? (i := 147) rfl)
theorem w148 {a0 : Array Value} {Z : State} (hw : Ws a0 Z) : (Jvm.Cond.code ({ cls := "java/util/Arrays", name := "checkLength", desc := "(II)V" } : Jvm.MethodName) jdk_65_method_131_code (2 : Nat) (Option.none : Option Jvm.ClassFile.FieldType)).before a0 Z = true := hw _ (List.mem_of_getElem? (i := 148) rfl)
theorem w149 {a0 : Array Value} {Z : State} (hw : Ws a0 Z) : (Jvm.Cond.methodLink "java/util/Arrays" (304 : Nat) ({ cls := "java/lang/Math", name := "min", desc := "(II)I" } : Jvm.MethodName)).before a0 Z = true := hw _ (List.mem_of_getElem? (i := 149) rfl)
theorem w150 {a0 : Array Value} {Z : State} (hw : Ws a0 Z) : (Jvm.Cond.static ({ cls := "java/lang/Math", name := "min", desc := "(II)I" } : Jvm.MethodName)).before a0 Z = true := hw _ (List.mem_of_getElem? (i := 150) rfl)
theorem w151 {a0 : Array Value} {Z : State} (hw : Ws a0 Z) : (Jvm.Cond.code ({ cls := "java/lang/Math", name := "min", desc := "(II)I" } : Jvm.MethodName) jdk_29_method_69_code (2 : Nat) (Option.some Jvm.ClassFile.FieldType.int)).before a0 Z = true := hw _ (List.mem_of_getElem? (i := 151) rfl)
theorem w152 {a0 : Array Value} {Z : State} (hw : Ws a0 Z) : (Jvm.Cond.methodLink "java/util/Arrays" (150 : Nat) ({ cls := "java/lang/System", name := "arraycopy", desc := "(Ljava/lang/Object;ILjava/lang/Object;II)V" } : Jvm.MethodName)).before a0 Z = true := hw _ (List.mem_of_getElem? (i := 152) rfl)
theorem w153 {a0 : Array Value} {Z : State} (hw : Ws a0 Z) : (Jvm.Cond.methodLink "java/lang/StringLatin1" (112 : Nat) ({ cls := "java/lang/String", name := "<init>", desc := "([BB)V" } : Jvm.MethodName)).before a0 Z = true := hw _ (List.mem_of_getElem? (i := 153) rfl)
theorem w154 {a0 : Array Value} {Z : State} (hw : Ws a0 Z) : (Jvm.Cond.methodLink "com/example/isomorph/isomorph/JavaNames" (35 : Nat) ({ cls := "java/lang/StringBuilder", name := "toString", desc := "()Ljava/lang/String;" } : Jvm.MethodName)).before a0 Z = true := hw _ (List.mem_of_getElem? (i := 154) rfl)
theorem w155 {a0 : Array Value} {Z : State} (hw : Ws a0 Z) : (Jvm.Cond.declares ({ cls := "java/lang/StringBuilder", name := "toString", desc := "()Ljava/lang/String;" } : Jvm.MethodName)).before a0 Z = true := hw _ (List.mem_of_getElem? (i := 155) rfl)
theorem w156 {a0 : Array Value} {Z : State} (hw : Ws a0 Z) : (Jvm.Cond.instanceMethod ({ cls := "java/lang/StringBuilder", name := "toString", desc := "()Ljava/lang/String;" } : Jvm.MethodName)).before a0 Z = true := hw _ (List.mem_of_getElem? (i := 156) rfl)
theorem w157 {a0 : Array Value} {Z : State} (hw : Ws a0 Z) : (Jvm.Cond.selects "java/lang/StringBuilder" ({ cls := "java/lang/StringBuilder", name := "toString", desc := "()Ljava/lang/String;" } : Jvm.MethodName) ({ cls := "java/lang/StringBuilder", name := "toString", desc := "()Ljava/lang/String;" } : Jvm.MethodName)).before a0 Z = true := hw _ (List.mem_of_getElem? (i := 157) rfl)
theorem w158 {a0 : Array Value} {Z : State} (hw : Ws a0 Z) : (Jvm.Cond.code ({ cls := "java/lang/StringBuilder", name := "toString", desc := "()Ljava/lang/String;" } : Jvm.MethodName) jdk_67_method_42_code (1 : Nat) (Option.some (Jvm.ClassFile.FieldType.object "java/lang/String"))).before a0 Z = true := hw _ (List.mem_of_getElem? (i := 158) rfl)
theorem w159 {a0 : Array Value} {Z : State} (hw : Ws a0 Z) : (Jvm.Cond.classLink "java/lang/StringBuilder" (18 : Nat) "java/lang/String").before a0 Z = true := hw _ (List.mem_of_getElem? (i := 159) rfl)
theorem w160 {a0 : Array Value} {Z : State} (hw : Ws a0 Z) : (Jvm.Cond.methodLink "java/lang/StringBuilder" (137 : Nat) ({ cls := "java/lang/String", name := "<init>", desc := "(Ljava/lang/StringBuilder;)V" } : Jvm.MethodName)).before a0 Z = true := hw _ (List.mem_of_getElem? (i := 160) rfl)
theorem w161 {a0 : Array Value} {Z : State} (hw : Ws a0 Z) : (Jvm.Cond.instanceMethod ({ cls := "java/lang/String", name := "<init>", desc := "(Ljava/lang/StringBuilder;)V" } : Jvm.MethodName)).before a0 Z = true := hw _ (List.mem_of_getElem? (i := 161) rfl)
theorem w162 {a0 : Array Value} {Z : State} (hw : Ws a0 Z) : (Jvm.Cond.code ({ cls := "java/lang/String", name := "<init>", desc := "(Ljava/lang/StringBuilder;)V" } : Jvm.MethodName) jdk_42_method_53_code (2 : Nat) (Option.none : Option Jvm.ClassFile.FieldType)).before a0 Z = true := hw _ (List.mem_of_getElem? (i := 162) rfl)
theorem w163 {a0 : Array Value} {Z : State} (hw : Ws a0 Z) : (Jvm.Cond.methodLink "java/lang/String" (489 : Nat) ({ cls := "java/lang/String", name := "<init>", desc := "(Ljava/lang/AbstractStringBuilder;Ljava/lang/Void;)V" } : Jvm.MethodName)).before a0 Z = true := hw _ (List.mem_of_getElem? (i := 163) rfl)
theorem w164 {a0 : Array Value} {Z : State} (hw : Ws a0 Z) : (Jvm.Cond.instanceMethod ({ cls := "java/lang/String", name := "<init>", desc := "(Ljava/lang/AbstractStringBuilder;Ljava/lang/Void;)V" } : Jvm.MethodName)).before a0 Z = true := hw _ (List.mem_of_getElem? (i := 164) rfl)
theorem w165 {a0 : Array Value} {Z : State} (hw : Ws a0 Z) : (Jvm.Cond.code ({ cls := "java/lang/String", name := "<init>", desc := "(Ljava/lang/AbstractStringBuilder;Ljava/lang/Void;)V" } : Jvm.MethodName) jdk_42_method_150_code (5 : Nat) (Option.none : Option Jvm.ClassFile.FieldType)).before a0 Z = true := hw _ (List.mem_of_getElem? (i := 165) rfl)
theorem w166 {a0 : Array Value} {Z : State} (hw : Ws a0 Z) : (Jvm.Cond.methodLink "java/lang/String" (552 : Nat) ({ cls := "java/lang/AbstractStringBuilder", name := "getValue", desc := "()[B" } : Jvm.MethodName)).before a0 Z = true := hw _ (List.mem_of_getElem? (i := 166) rfl)
theorem w167 {a0 : Array Value} {Z : State} (hw : Ws a0 Z) : (Jvm.Cond.declares ({ cls := "java/lang/AbstractStringBuilder", name := "getValue", desc := "()[B" } : Jvm.MethodName)).before a0 Z = true := hw _ (List.mem_of_getElem? (i := 167) rfl)
theorem w168 {a0 : Array Value} {Z : State} (hw : Ws a0 Z) : (Jvm.Cond.instanceMethod ({ cls := "java/lang/AbstractStringBuilder", name := "getValue", desc := "()[B" } : Jvm.MethodName)).before a0 Z = true := hw _ (List.mem_of_getElem? (i := 168) rfl)
theorem w169 {a0 : Array Value} {Z : State} (hw : Ws a0 Z) : (Jvm.Cond.selects "java/lang/StringBuilder" ({ cls := "java/lang/AbstractStringBuilder", name := "getValue", desc := "()[B" } : Jvm.MethodName) ({ cls := "java/lang/AbstractStringBuilder", name := "getValue", desc := "()[B" } : Jvm.MethodName)).before a0 Z = true := hw _ (List.mem_of_getElem? (i := 169) rfl)
theorem w170 {a0 : Array Value} {Z : State} (hw : Ws a0 Z) : (Jvm.Cond.code ({ cls := "java/lang/AbstractStringBuilder", name := "getValue", desc := "()[B" } : Jvm.MethodName) jdk_68_method_64_code (1 : Nat) (Option.some (Jvm.ClassFile.FieldType.array Jvm.ClassFile.FieldType.byte))).before a0 Z = true := hw _ (List.mem_of_getElem? (i := 170) rfl)
theorem w171 {a0 : Array Value} {Z : State} (hw : Ws a0 Z) : (Jvm.Cond.methodLink "java/lang/String" (549 : Nat) ({ cls := "java/lang/AbstractStringBuilder", name := "length", desc := "()I" } : Jvm.MethodName)).before a0 Z = true := hw _ (List.mem_of_getElem? (i := 171) rfl)
theorem w172 {a0 : Array Value} {Z : State} (hw : Ws a0 Z) : (Jvm.Cond.declares ({ cls := "java/lang/AbstractStringBuilder", name := "length", desc := "()I" } : Jvm.MethodName)).before a0 Z = true := hw _ (List.mem_of_getElem? (i := 172) rfl)
theorem w173 {a0 : Array Value} {Z : State} (hw : Ws a0 Z) : (Jvm.Cond.instanceMethod ({ cls := "java/lang/AbstractStringBuilder", name := "length", desc := "()I" } : Jvm.MethodName)).before a0 Z = true := hw _ (List.mem_of_getElem? (i := 173) rfl)
theorem w174 {a0 : Array Value} {Z : State} (hw : Ws a0 Z) : (Jvm.Cond.selects "java/lang/StringBuilder" ({ cls := "java/lang/AbstractStringBuilder", name := "length", desc := "()I" } : Jvm.MethodName) ({ cls := "java/lang/StringBuilder", name := "length", desc := "()I" } : Jvm.MethodName)).before a0 Z = true := hw _ (List.mem_of_getElem? (i := 174) rfl)
theorem w175 {a0 : Array Value} {Z : State} (hw : Ws a0 Z) : (Jvm.Cond.instanceMethod ({ cls := "java/lang/StringBuilder", name := "length", desc := "()I" } : Jvm.MethodName)).before a0 Z = true := hw _ (List.mem_of_getElem? (i := 175) rfl)
theorem w176 {a0 : Array Value} {Z : State} (hw : Ws a0 Z) : (Jvm.Cond.code ({ cls := "java/lang/StringBuilder", name := "length", desc := "()I" } : Jvm.MethodName) jdk_67_method_93_code (1 : Nat) (Option.some Jvm.ClassFile.FieldType.int)).before a0 Z = true := hw _ (List.mem_of_getElem? (i := 176) rfl)
theorem w177 {a0 : Array Value} {Z : State} (hw : Ws a0 Z) : (Jvm.Cond.methodLink "java/lang/StringBuilder" (343 : Nat) ({ cls := "java/lang/AbstractStringBuilder", name := "length", desc := "()I" } : Jvm.MethodName)).before a0 Z = true := hw _ (List.mem_of_getElem? (i := 177) rfl)
theorem w178 {a0 : Array Value} {Z : State} (hw : Ws a0 Z) : (Jvm.Cond.code ({ cls := "java/lang/AbstractStringBuilder", name := "length", desc := "()I" } : Jvm.MethodName) jdk_68_method_6_code (1 : Nat) (Option.some Jvm.ClassFile.FieldType.int)).before a0 Z = true := hw _ (List.mem_of_getElem? (i := 178) rfl)
theorem w179 {a0 : Array Value} {Z : State} (hw : Ws a0 Z) : (Jvm.Cond.methodLink "java/lang/String" (1047 : Nat) ({ cls := "java/lang/AbstractStringBuilder", name := "isLatin1", desc := "()Z" } : Jvm.MethodName)).before a0 Z = true := hw _ (List.mem_of_getElem? (i := 179) rfl)
theorem w180 {a0 : Array Value} {Z : State} (hw : Ws a0 Z) : (Jvm.Cond.declares ({ cls := "java/lang/AbstractStringBuilder", name := "isLatin1", desc := "()Z" } : Jvm.MethodName)).before a0 Z = true := hw _ (List.mem_of_getElem? (i := 180) rfl)
theorem w181 {a0 : Array Value} {Z : State} (hw : Ws a0 Z) : (Jvm.Cond.instanceMethod ({ cls := "java/lang/AbstractStringBuilder", name := "isLatin1", desc := "()Z" } : Jvm.MethodName)).before a0 Z = true := hw _ (List.mem_of_getElem? (i := 181) rfl)
theorem w182 {a0 : Array Value} {Z : State} (hw : Ws a0 Z) : (Jvm.Cond.selects "java/lang/StringBuilder" ({ cls := "java/lang/AbstractStringBuilder", name := "isLatin1", desc := "()Z" } : Jvm.MethodName) ({ cls := "java/lang/AbstractStringBuilder", name := "isLatin1", desc := "()Z" } : Jvm.MethodName)).before a0 Z = true := hw _ (List.mem_of_getElem? (i := 182) rfl)
theorem w183 {a0 : Array Value} {Z : State} (hw : Ws a0 Z) : (Jvm.Cond.code ({ cls := "java/lang/AbstractStringBuilder", name := "isLatin1", desc := "()Z" } : Jvm.MethodName) jdk_68_method_68_code (1 : Nat) (Option.some Jvm.ClassFile.FieldType.boolean)).before a0 Z = true := hw _ (List.mem_of_getElem? (i := 183) rfl)
theorem w184 {a0 : Array Value} {Z : State} (hw : Ws a0 Z) : (Jvm.Cond.methodLink "java/lang/String" (54 : Nat) ({ cls := "java/util/Arrays", name := "copyOfRange", desc := "([BII)[B" } : Jvm.MethodName)).before a0 Z = true := hw _ (List.mem_of_getElem? (i := 184) rfl)
theorem w185 {a0 : Array Value} {Z : State} (hw : Ws a0 Z) : (Jvm.Cond.methodLink "com/example/isomorph/isomorph/JavaNamesUnicodeEscapePinLaw" (14 : Nat) ({ cls := "java/lang/String", name := "length", desc := "()I" } : Jvm.MethodName)).before a0 Z = true := hw _ (List.mem_of_getElem? (i := 185) rfl)
theorem w186 {a0 : Array Value} {Z : State} (hw : Ws a0 Z) : (Jvm.Cond.methodLink "com/example/isomorph/isomorph/JavaNamesUnicodeEscapePinLaw" (20 : Nat) ({ cls := "java/lang/String", name := "charAt", desc := "(I)C" } : Jvm.MethodName)).before a0 Z = true := hw _ (List.mem_of_getElem? (i := 186) rfl)
theorem w187 {a0 : Array Value} {Z : State} (hw : Ws a0 Z) : (Jvm.Cond.declares ({ cls := "java/lang/String", name := "charAt", desc := "(I)C" } : Jvm.MethodName)).before a0 Z = true := hw _ (List.mem_of_getElem? (i := 187) rfl)
theorem w188 {a0 : Array Value} {Z : State} (hw : Ws a0 Z) : (Jvm.Cond.instanceMethod ({ cls := "java/lang/String", name := "charAt", desc := "(I)C" } : Jvm.MethodName)).before a0 Z = true := hw _ (List.mem_of_getElem? (i := 188) rfl)
theorem w189 {a0 : Array Value} {Z : State} (hw : Ws a0 Z) : (Jvm.Cond.selects "java/lang/String" ({ cls := "java/lang/String", name := "charAt", desc := "(I)C" } : Jvm.MethodName) ({ cls := "java/lang/String", name := "charAt", desc := "(I)C" } : Jvm.MethodName)).before a0 Z = true := hw _ (List.mem_of_getElem? (i := 189) rfl)
theorem w190 {a0 : Array Value} {Z : State} (hw : Ws a0 Z) : (Jvm.Cond.code ({ cls := "java/lang/String", name := "charAt", desc := "(I)C" } : Jvm.MethodName) jdk_42_method_56_code (2 : Nat) (Option.some Jvm.ClassFile.FieldType.char)).before a0 Z = true := hw _ (List.mem_of_getElem? (i := 190) rfl)
theorem w191 {a0 : Array Value} {Z : State} (hw : Ws a0 Z) : (Jvm.Cond.methodLink "java/lang/String" (495 : Nat) ({ cls := "java/lang/StringLatin1", name := "charAt", desc := "([BI)C" } : Jvm.MethodName)).before a0 Z = true := hw _ (List.mem_of_getElem? (i := 191) rfl)
theorem w192 {a0 : Array Value} {Z : State} (hw : Ws a0 Z) : (Jvm.Cond.static ({ cls := "java/lang/StringLatin1", name := "charAt", desc := "([BI)C" } : Jvm.MethodName)).before a0 Z = true := hw _ (List.mem_of_getElem? (i := 192) rfl)
theorem w193 {a0 : Array Value} {Z : State} (hw : Ws a0 Z) : (Jvm.Cond.code ({ cls := "java/lang/StringLatin1", name := "charAt", desc := "([BI)C" } : Jvm.MethodName) jdk_43_method_2_code (2 : Nat) (Option.some Jvm.ClassFile.FieldType.char)).before a0 Z = true := hw _ (List.mem_of_getElem? (i := 193) rfl)
theorem w194 {a0 : Array Value} {Z : State} (hw : Ws a0 Z) : (Jvm.Cond.methodLink "java/lang/StringLatin1" (9 : Nat) ({ cls := "java/lang/String", name := "checkIndex", desc := "(II)V" } : Jvm.MethodName)).before a0 Z = true := hw _ (List.mem_of_getElem? (i := 194) rfl)
theorem w195 {a0 : Array Value} {Z : State} (hw : Ws a0 Z) : (Jvm.Cond.static ({ cls := "java/lang/String", name := "checkIndex", desc := "(II)V" } : Jvm.MethodName)).before a0 Z = true := hw _ (List.mem_of_getElem? (i := 195) rfl)
theorem w196 {a0 : Array Value} {Z : State} (hw : Ws a0 Z) : (Jvm.Cond.code ({ cls := "java/lang/String", name := "checkIndex", desc := "(II)V" } : Jvm.MethodName) jdk_42_method_155_code (2 : Nat) (Option.none : Option Jvm.ClassFile.FieldType)).before a0 Z = true := hw _ (List.mem_of_getElem? (i := 196) rfl)
theorem w197 {a0 : Array Value} {Z : State} (hw : Ws a0 Z) : (Jvm.Cond.methodLink "java/lang/String" (1059 : Nat) ({ cls := "jdk/internal/util/Preconditions", name := "checkIndex", desc := "(IILjava/util/function/BiFunction;)I" } : Jvm.MethodName)).before a0 Z = true := hw _ (List.mem_of_getElem? (i := 197) rfl)
theorem w198 {a0 : Array Value} {Z : State} (hw : Ws a0 Z) : (Jvm.Cond.static ({ cls := "jdk/internal/util/Preconditions", name := "checkIndex", desc := "(IILjava/util/function/BiFunction;)I" } : Jvm.MethodName)).before a0 Z = true := hw _ (List.mem_of_getElem? (i := 198) rfl)
theorem w199 {a0 : Array Value} {Z : State} (hw : Ws a0 Z) : (Jvm.Cond.code ({ cls := "jdk/internal/util/Preconditions", name := "checkIndex", desc := "(IILjava/util/function/BiFunction;)I" } : Jvm.MethodName) jdk_41_method_11_code (3 : Nat) (Option.some Jvm.ClassFile.FieldType.int)).before a0 Z = true := hw _ (List.mem_of_getElem? (i := 199) rfl)
theorem w200 {a0 : Array Value} {Z : State} (hw : Ws a0 Z) : (Jvm.Cond.methodLink "com/example/isomorph/isomorph/JavaNamesUnicodeEscapePinLaw" (24 : Nat) ({ cls := "com/example/isomorph/isomorph/JavaNamesUnicodeEscapePinLaw", name := "hex", desc := "(I)C" } : Jvm.MethodName)).before a0 Z = true := hw _ (List.mem_of_getElem? (i := 200) rfl)
theorem w201 {a0 : Array Value} {Z : State} (hw : Ws a0 Z) : (Jvm.Cond.static ({ cls := "com/example/isomorph/isomorph/JavaNamesUnicodeEscapePinLaw", name := "hex", desc := "(I)C" } : Jvm.MethodName)).before a0 Z = true := hw _ (List.mem_of_getElem? (i := 201) rfl)
theorem w202 {a0 : Array Value} {Z : State} (hw : Ws a0 Z) : (Jvm.Cond.initialized "com/example/isomorph/isomorph/JavaNamesUnicodeEscapePinLaw").before a0 Z = true := hw _ (List.mem_of_getElem? (i := 202) rfl)
theorem w203 {a0 : Array Value} {Z : State} (hw : Ws a0 Z) : (Jvm.Cond.code ({ cls := "com/example/isomorph/isomorph/JavaNamesUnicodeEscapePinLaw", name := "hex", desc := "(I)C" } : Jvm.MethodName) method_2_code (1 : Nat) (Option.some Jvm.ClassFile.FieldType.char)).before a0 Z = true := hw _ (List.mem_of_getElem? (i := 203) rfl)
theorem w204 {a0 : Array Value} {Z : State} (hw : Ws a0 Z) : (Jvm.Cond.constant "java/lang/Integer" (264 : Nat) (65536 : Int32)).before a0 Z = true := hw _ (List.mem_of_getElem? (i := 204) rfl)
theorem w205 {a0 : Array Value} {Z : State} (hw : Ws a0 Z) : (Jvm.Cond.stringLink "java/lang/StringLatin1" (151 : Nat) "").before a0 Z = true := hw _ (List.mem_of_getElem? (i := 205) rfl)
theorem d_jdk_42m152_0 : decode jdk_42_method_152_code 0 = .ok (.getstatic 38, 3) := by decide +kernel
theorem d_jdk_42m152_3 : decode jdk_42_method_152_code 3 = .ok (.ifCond .eq 10, 3) := by decide +kernel
theorem d_jdk_42m152_6 : decode jdk_42_method_152_code 6 = .ok (.aload_n 0, 1) := by decide +kernel
theorem d_jdk_42m152_7 : decode jdk_42_method_152_code 7 = .ok (.getfield 15, 3) := by decide +kernel
theorem d_jdk_42m152_10 : decode jdk_42_method_152_code 10 = .ok (.goto 4, 3) := by decide +kernel
theorem d_jdk_42m152_14 : decode jdk_42_method_152_code 14 = .ok (.ireturn, 1) := by decide +kernel
theorem d_jdk_42m154_0 : decode jdk_42_method_154_code 0 = .ok (.getstatic 38, 3) := by decide +kernel
theorem d_jdk_42m154_3 : decode jdk_42_method_154_code 3 = .ok (.ifCond .eq 14, 3) := by decide +kernel
theorem d_jdk_42m154_6 : decode jdk_42_method_154_code 6 = .ok (.aload_n 0, 1) := by decide +kernel
theorem d_jdk_42m154_7 : decode jdk_42_method_154_code 7 = .ok (.getfield 15, 3) := by decide +kernel
theorem d_jdk_42m154_10 : decode jdk_42_method_154_code 10 = .ok (.ifCond .ne 7, 3) := by decide +kernel
theorem d_jdk_42m154_13 : decode jdk_42_method_154_code 13 = .ok (.iconst 1, 1) := by decide +kernel
theorem d_jdk_42m154_14 : decode jdk_42_method_154_code 14 = .ok (.goto 4, 3) := by decide +kernel
theorem d_jdk_42m154_18 : decode jdk_42_method_154_code 18 = .ok (.ireturn, 1) := by decide +kernel
theorem d_jdk_42m54_0 : decode jdk_42_method_54_code 0 = .ok (.aload_n 0, 1) := by decide +kernel
theorem d_jdk_42m54_1 : decode jdk_42_method_54_code 1 = .ok (.getfield 9, 3) := by decide +kernel
theorem d_jdk_42m54_4 : decode jdk_42_method_54_code 4 = .ok (.arraylength, 1) := by decide +kernel
theorem d_jdk_42m54_5 : decode jdk_42_method_54_code 5 = .ok (.aload_n 0, 1) := by decide +kernel
theorem d_jdk_42m54_6 : decode jdk_42_method_54_code 6 = .ok (.invokevirtual 335, 3) := by decide +kernel
theorem d_jdk_42m54_9 : decode jdk_42_method_54_code 9 = .ok (.ishr, 1) := by decide +kernel
theorem d_jdk_42m54_10 : decode jdk_42_method_54_code 10 = .ok (.ireturn, 1) := by decide +kernel
theorem d_jdk_41m11_0 : decode jdk_41_method_11_code 0 = .ok (.iload_n 0, 1) := by decide +kernel
theorem d_jdk_41m11_1 : decode jdk_41_method_11_code 1 = .ok (.ifCond .lt 8, 3) := by decide +kernel
theorem d_jdk_41m11_4 : decode jdk_41_method_11_code 4 = .ok (.iload_n 0, 1) := by decide +kernel
theorem d_jdk_41m11_5 : decode jdk_41_method_11_code 5 = .ok (.iload_n 1, 1) := by decide +kernel
theorem d_jdk_41m11_6 : decode jdk_41_method_11_code 6 = .ok (.if_icmp .lt 10, 3) := by decide +kernel
theorem d_jdk_41m11_16 : decode jdk_41_method_11_code 16 = .ok (.iload_n 0, 1) := by decide +kernel
theorem d_jdk_41m11_17 : decode jdk_41_method_11_code 17 = .ok (.ireturn, 1) := by decide +kernel
theorem d_jdk_42m155_0 : decode jdk_42_method_155_code 0 = .ok (.iload_n 0, 1) := by decide +kernel
theorem d_jdk_42m155_1 : decode jdk_42_method_155_code 1 = .ok (.iload_n 1, 1) := by decide +kernel
theorem d_jdk_42m155_2 : decode jdk_42_method_155_code 2 = .ok (.getstatic 1053, 3) := by decide +kernel
theorem d_jdk_42m155_5 : decode jdk_42_method_155_code 5 = .ok (.invokestatic 1059, 3) := by decide +kernel
theorem d_jdk_42m155_8 : decode jdk_42_method_155_code 8 = .ok (.pop, 1) := by decide +kernel
theorem d_jdk_42m155_9 : decode jdk_42_method_155_code 9 = .ok (.return_, 1) := by decide +kernel
theorem d_jdk_43m2_0 : decode jdk_43_method_2_code 0 = .ok (.iload_n 1, 1) := by decide +kernel
theorem d_jdk_43m2_1 : decode jdk_43_method_2_code 1 = .ok (.aload_n 0, 1) := by decide +kernel
theorem d_jdk_43m2_2 : decode jdk_43_method_2_code 2 = .ok (.arraylength, 1) := by decide +kernel
theorem d_jdk_43m2_3 : decode jdk_43_method_2_code 3 = .ok (.invokestatic 9, 3) := by decide +kernel
theorem d_jdk_43m2_6 : decode jdk_43_method_2_code 6 = .ok (.aload_n 0, 1) := by decide +kernel
theorem d_jdk_43m2_7 : decode jdk_43_method_2_code 7 = .ok (.iload_n 1, 1) := by decide +kernel
theorem d_jdk_43m2_8 : decode jdk_43_method_2_code 8 = .ok (.baload, 1) := by decide +kernel
theorem d_jdk_43m2_9 : decode jdk_43_method_2_code 9 = .ok (.sipush 255, 3) := by decide +kernel
theorem d_jdk_43m2_12 : decode jdk_43_method_2_code 12 = .ok (.iand, 1) := by decide +kernel
theorem d_jdk_43m2_13 : decode jdk_43_method_2_code 13 = .ok (.i2c, 1) := by decide +kernel
theorem d_jdk_43m2_14 : decode jdk_43_method_2_code 14 = .ok (.ireturn, 1) := by decide +kernel
theorem d_jdk_42m56_0 : decode jdk_42_method_56_code 0 = .ok (.aload_n 0, 1) := by decide +kernel
theorem d_jdk_42m56_1 : decode jdk_42_method_56_code 1 = .ok (.invokevirtual 492, 3) := by decide +kernel
theorem d_jdk_42m56_4 : decode jdk_42_method_56_code 4 = .ok (.ifCond .eq 12, 3) := by decide +kernel
theorem d_jdk_42m56_7 : decode jdk_42_method_56_code 7 = .ok (.aload_n 0, 1) := by decide +kernel
theorem d_jdk_42m56_8 : decode jdk_42_method_56_code 8 = .ok (.getfield 9, 3) := by decide +kernel
theorem d_jdk_42m56_11 : decode jdk_42_method_56_code 11 = .ok (.iload_n 1, 1) := by decide +kernel
theorem d_jdk_42m56_12 : decode jdk_42_method_56_code 12 = .ok (.invokestatic 495, 3) := by decide +kernel
theorem d_jdk_42m56_15 : decode jdk_42_method_56_code 15 = .ok (.ireturn, 1) := by decide +kernel
theorem d_jdk_65m131_0 : decode jdk_65_method_131_code 0 = .ok (.iload_n 1, 1) := by decide +kernel
theorem d_jdk_65m131_1 : decode jdk_65_method_131_code 1 = .ok (.iload_n 0, 1) := by decide +kernel
theorem d_jdk_65m131_2 : decode jdk_65_method_131_code 2 = .ok (.if_icmp .ge 35, 3) := by decide +kernel
theorem d_jdk_65m131_37 : decode jdk_65_method_131_code 37 = .ok (.return_, 1) := by decide +kernel
theorem d_jdk_29m69_0 : decode jdk_29_method_69_code 0 = .ok (.iload_n 0, 1) := by decide +kernel
theorem d_jdk_29m69_1 : decode jdk_29_method_69_code 1 = .ok (.iload_n 1, 1) := by decide +kernel
theorem d_jdk_29m69_2 : decode jdk_29_method_69_code 2 = .ok (.if_icmp .gt 7, 3) := by decide +kernel
theorem d_jdk_29m69_9 : decode jdk_29_method_69_code 9 = .ok (.iload_n 1, 1) := by decide +kernel
theorem d_jdk_29m69_10 : decode jdk_29_method_69_code 10 = .ok (.ireturn, 1) := by decide +kernel
theorem d_jdk_29m69_5 : decode jdk_29_method_69_code 5 = .ok (.iload_n 0, 1) := by decide +kernel
theorem d_jdk_29m69_6 : decode jdk_29_method_69_code 6 = .ok (.goto 4, 3) := by decide +kernel
theorem d_jdk_65m133_0 : decode jdk_65_method_133_code 0 = .ok (.iload_n 1, 1) := by decide +kernel
theorem d_jdk_65m133_1 : decode jdk_65_method_133_code 1 = .ok (.iload_n 2, 1) := by decide +kernel
theorem d_jdk_65m133_2 : decode jdk_65_method_133_code 2 = .ok (.invokestatic 343, 3) := by decide +kernel
theorem d_jdk_65m133_5 : decode jdk_65_method_133_code 5 = .ok (.iload_n 2, 1) := by decide +kernel
theorem d_jdk_65m133_6 : decode jdk_65_method_133_code 6 = .ok (.iload_n 1, 1) := by decide +kernel
theorem d_jdk_65m133_7 : decode jdk_65_method_133_code 7 = .ok (.isub, 1) := by decide +kernel
theorem d_jdk_65m133_8 : decode jdk_65_method_133_code 8 = .ok (.istore_n 3, 1) := by decide +kernel
theorem d_jdk_65m133_9 : decode jdk_65_method_133_code 9 = .ok (.iload_n 3, 1) := by decide +kernel
theorem d_jdk_65m133_10 : decode jdk_65_method_133_code 10 = .ok (.newarray .byte, 2) := by decide +kernel
theorem d_jdk_65m133_12 : decode jdk_65_method_133_code 12 = .ok (.astore 4, 2) := by decide +kernel
theorem d_jdk_65m133_14 : decode jdk_65_method_133_code 14 = .ok (.aload_n 0, 1) := by decide +kernel
theorem d_jdk_65m133_15 : decode jdk_65_method_133_code 15 = .ok (.iload_n 1, 1) := by decide +kernel
theorem d_jdk_65m133_16 : decode jdk_65_method_133_code 16 = .ok (.aload 4, 2) := by decide +kernel
theorem d_jdk_65m133_18 : decode jdk_65_method_133_code 18 = .ok (.iconst 0, 1) := by decide +kernel
theorem d_jdk_65m133_19 : decode jdk_65_method_133_code 19 = .ok (.aload_n 0, 1) := by decide +kernel
theorem d_jdk_65m133_20 : decode jdk_65_method_133_code 20 = .ok (.arraylength, 1) := by decide +kernel
theorem d_jdk_65m133_21 : decode jdk_65_method_133_code 21 = .ok (.iload_n 1, 1) := by decide +kernel
theorem d_jdk_65m133_22 : decode jdk_65_method_133_code 22 = .ok (.isub, 1) := by decide +kernel
theorem d_jdk_65m133_23 : decode jdk_65_method_133_code 23 = .ok (.iload_n 3, 1) := by decide +kernel
theorem d_jdk_65m133_24 : decode jdk_65_method_133_code 24 = .ok (.invokestatic 304, 3) := by decide +kernel
theorem d_jdk_65m133_27 : decode jdk_65_method_133_code 27 = .ok (.invokestatic 150, 3) := by decide +kernel
theorem d_jdk_65m133_30 : decode jdk_65_method_133_code 30 = .ok (.aload 4, 2) := by decide +kernel
theorem d_jdk_65m133_32 : decode jdk_65_method_133_code 32 = .ok (.areturn, 1) := by decide +kernel
theorem d_jdk_65m132_0 : decode jdk_65_method_132_code 0 = .ok (.iload_n 1, 1) := by decide +kernel
theorem d_jdk_65m132_1 : decode jdk_65_method_132_code 1 = .ok (.ifCond .ne 9, 3) := by decide +kernel
theorem d_jdk_65m132_10 : decode jdk_65_method_132_code 10 = .ok (.aload_n 0, 1) := by decide +kernel
theorem d_jdk_65m132_11 : decode jdk_65_method_132_code 11 = .ok (.iload_n 1, 1) := by decide +kernel
theorem d_jdk_65m132_12 : decode jdk_65_method_132_code 12 = .ok (.iload_n 2, 1) := by decide +kernel
theorem d_jdk_65m132_13 : decode jdk_65_method_132_code 13 = .ok (.invokestatic 339, 3) := by decide +kernel
theorem d_jdk_65m132_16 : decode jdk_65_method_132_code 16 = .ok (.areturn, 1) := by decide +kernel
theorem d_jdk_65m132_4 : decode jdk_65_method_132_code 4 = .ok (.iload_n 2, 1) := by decide +kernel
theorem d_jdk_65m132_5 : decode jdk_65_method_132_code 5 = .ok (.aload_n 0, 1) := by decide +kernel
theorem d_jdk_65m132_6 : decode jdk_65_method_132_code 6 = .ok (.arraylength, 1) := by decide +kernel
theorem d_jdk_65m132_7 : decode jdk_65_method_132_code 7 = .ok (.if_icmp .eq 10, 3) := by decide +kernel
theorem d_jdk_42m151_0 : decode jdk_42_method_151_code 0 = .ok (.aload_n 0, 1) := by decide +kernel
theorem d_jdk_42m151_1 : decode jdk_42_method_151_code 1 = .ok (.invokespecial 1, 3) := by decide +kernel
theorem d_jdk_42m151_4 : decode jdk_42_method_151_code 4 = .ok (.aload_n 0, 1) := by decide +kernel
theorem d_jdk_42m151_5 : decode jdk_42_method_151_code 5 = .ok (.aload_n 1, 1) := by decide +kernel
theorem d_jdk_42m151_6 : decode jdk_42_method_151_code 6 = .ok (.putfield 9, 3) := by decide +kernel
theorem d_jdk_42m151_9 : decode jdk_42_method_151_code 9 = .ok (.aload_n 0, 1) := by decide +kernel
theorem d_jdk_42m151_10 : decode jdk_42_method_151_code 10 = .ok (.iload_n 2, 1) := by decide +kernel
theorem d_jdk_42m151_11 : decode jdk_42_method_151_code 11 = .ok (.putfield 15, 3) := by decide +kernel
theorem d_jdk_42m151_14 : decode jdk_42_method_151_code 14 = .ok (.return_, 1) := by decide +kernel
theorem d_jdk_41m12_0 : decode jdk_41_method_12_code 0 = .ok (.iload_n 0, 1) := by decide +kernel
theorem d_jdk_41m12_1 : decode jdk_41_method_12_code 1 = .ok (.ifCond .lt 13, 3) := by decide +kernel
theorem d_jdk_41m12_4 : decode jdk_41_method_12_code 4 = .ok (.iload_n 0, 1) := by decide +kernel
theorem d_jdk_41m12_5 : decode jdk_41_method_12_code 5 = .ok (.iload_n 1, 1) := by decide +kernel
theorem d_jdk_41m12_6 : decode jdk_41_method_12_code 6 = .ok (.if_icmp .gt 8, 3) := by decide +kernel
theorem d_jdk_41m12_9 : decode jdk_41_method_12_code 9 = .ok (.iload_n 1, 1) := by decide +kernel
theorem d_jdk_41m12_10 : decode jdk_41_method_12_code 10 = .ok (.iload_n 2, 1) := by decide +kernel
theorem d_jdk_41m12_11 : decode jdk_41_method_12_code 11 = .ok (.if_icmp .le 11, 3) := by decide +kernel
theorem d_jdk_41m12_22 : decode jdk_41_method_12_code 22 = .ok (.iload_n 0, 1) := by decide +kernel
theorem d_jdk_41m12_23 : decode jdk_41_method_12_code 23 = .ok (.ireturn, 1) := by decide +kernel
theorem d_jdk_42m158_0 : decode jdk_42_method_158_code 0 = .ok (.iload_n 0, 1) := by decide +kernel
theorem d_jdk_42m158_1 : decode jdk_42_method_158_code 1 = .ok (.iload_n 1, 1) := by decide +kernel
theorem d_jdk_42m158_2 : decode jdk_42_method_158_code 2 = .ok (.iload_n 2, 1) := by decide +kernel
theorem d_jdk_42m158_3 : decode jdk_42_method_158_code 3 = .ok (.getstatic 1053, 3) := by decide +kernel
theorem d_jdk_42m158_6 : decode jdk_42_method_158_code 6 = .ok (.invokestatic 1062, 3) := by decide +kernel
theorem d_jdk_42m158_9 : decode jdk_42_method_158_code 9 = .ok (.pop, 1) := by decide +kernel
theorem d_jdk_42m158_10 : decode jdk_42_method_158_code 10 = .ok (.return_, 1) := by decide +kernel
theorem d_jdk_43m47_0 : decode jdk_43_method_47_code 0 = .ok (.iload_n 2, 1) := by decide +kernel
theorem d_jdk_43m47_1 : decode jdk_43_method_47_code 1 = .ok (.ifCond .ne 6, 3) := by decide +kernel
theorem d_jdk_43m47_7 : decode jdk_43_method_47_code 7 = .ok (.new 1, 3) := by decide +kernel
theorem d_jdk_43m47_10 : decode jdk_43_method_47_code 10 = .ok (.dup, 1) := by decide +kernel
theorem d_jdk_43m47_11 : decode jdk_43_method_47_code 11 = .ok (.aload_n 0, 1) := by decide +kernel
theorem d_jdk_43m47_12 : decode jdk_43_method_47_code 12 = .ok (.iload_n 1, 1) := by decide +kernel
theorem d_jdk_43m47_13 : decode jdk_43_method_47_code 13 = .ok (.iload_n 1, 1) := by decide +kernel
theorem d_jdk_43m47_14 : decode jdk_43_method_47_code 14 = .ok (.iload_n 2, 1) := by decide +kernel
theorem d_jdk_43m47_15 : decode jdk_43_method_47_code 15 = .ok (.iadd, 1) := by decide +kernel
theorem d_jdk_43m47_16 : decode jdk_43_method_47_code 16 = .ok (.invokestatic 232, 3) := by decide +kernel
theorem d_jdk_43m47_19 : decode jdk_43_method_47_code 19 = .ok (.iconst 0, 1) := by decide +kernel
theorem d_jdk_43m47_20 : decode jdk_43_method_47_code 20 = .ok (.invokespecial 112, 3) := by decide +kernel
theorem d_jdk_43m47_23 : decode jdk_43_method_47_code 23 = .ok (.areturn, 1) := by decide +kernel
theorem d_jdk_43m47_4 : decode jdk_43_method_47_code 4 = .ok (.ldc 151, 2) := by decide +kernel
theorem d_jdk_43m47_6 : decode jdk_43_method_47_code 6 = .ok (.areturn, 1) := by decide +kernel
theorem d_jdk_42m92_0 : decode jdk_42_method_92_code 0 = .ok (.aload_n 0, 1) := by decide +kernel
theorem d_jdk_42m92_1 : decode jdk_42_method_92_code 1 = .ok (.invokevirtual 505, 3) := by decide +kernel
theorem d_jdk_42m92_4 : decode jdk_42_method_92_code 4 = .ok (.istore_n 3, 1) := by decide +kernel
theorem d_jdk_42m92_5 : decode jdk_42_method_92_code 5 = .ok (.iload_n 1, 1) := by decide +kernel
theorem d_jdk_42m92_6 : decode jdk_42_method_92_code 6 = .ok (.iload_n 2, 1) := by decide +kernel
theorem d_jdk_42m92_7 : decode jdk_42_method_92_code 7 = .ok (.iload_n 3, 1) := by decide +kernel
theorem d_jdk_42m92_8 : decode jdk_42_method_92_code 8 = .ok (.invokestatic 521, 3) := by decide +kernel
theorem d_jdk_42m92_11 : decode jdk_42_method_92_code 11 = .ok (.iload_n 1, 1) := by decide +kernel
theorem d_jdk_42m92_12 : decode jdk_42_method_92_code 12 = .ok (.ifCond .ne 10, 3) := by decide +kernel
theorem d_jdk_42m92_22 : decode jdk_42_method_92_code 22 = .ok (.iload_n 2, 1) := by decide +kernel
theorem d_jdk_42m92_23 : decode jdk_42_method_92_code 23 = .ok (.iload_n 1, 1) := by decide +kernel
theorem d_jdk_42m92_24 : decode jdk_42_method_92_code 24 = .ok (.isub, 1) := by decide +kernel
theorem d_jdk_42m92_25 : decode jdk_42_method_92_code 25 = .ok (.istore 4, 2) := by decide +kernel
theorem d_jdk_42m92_27 : decode jdk_42_method_92_code 27 = .ok (.aload_n 0, 1) := by decide +kernel
theorem d_jdk_42m92_28 : decode jdk_42_method_92_code 28 = .ok (.invokevirtual 492, 3) := by decide +kernel
theorem d_jdk_42m92_31 : decode jdk_42_method_92_code 31 = .ok (.ifCond .eq 16, 3) := by decide +kernel
theorem d_jdk_42m92_34 : decode jdk_42_method_92_code 34 = .ok (.aload_n 0, 1) := by decide +kernel
theorem d_jdk_42m92_35 : decode jdk_42_method_92_code 35 = .ok (.getfield 9, 3) := by decide +kernel
theorem d_jdk_42m92_38 : decode jdk_42_method_92_code 38 = .ok (.iload_n 1, 1) := by decide +kernel
theorem d_jdk_42m92_39 : decode jdk_42_method_92_code 39 = .ok (.iload 4, 2) := by decide +kernel
theorem d_jdk_42m92_41 : decode jdk_42_method_92_code 41 = .ok (.invokestatic 685, 3) := by decide +kernel
theorem d_jdk_42m92_44 : decode jdk_42_method_92_code 44 = .ok (.goto 13, 3) := by decide +kernel
theorem d_jdk_42m92_57 : decode jdk_42_method_92_code 57 = .ok (.areturn, 1) := by decide +kernel
theorem d_jdk_42m92_15 : decode jdk_42_method_92_code 15 = .ok (.iload_n 2, 1) := by decide +kernel
theorem d_jdk_42m92_16 : decode jdk_42_method_92_code 16 = .ok (.iload_n 3, 1) := by decide +kernel
theorem d_jdk_42m92_17 : decode jdk_42_method_92_code 17 = .ok (.if_icmp .ne 5, 3) := by decide +kernel
theorem d_jdk_42m92_20 : decode jdk_42_method_92_code 20 = .ok (.aload_n 0, 1) := by decide +kernel
theorem d_jdk_42m92_21 : decode jdk_42_method_92_code 21 = .ok (.areturn, 1) := by decide +kernel
theorem d_jdk_68m2_0 : decode jdk_68_method_2_code 0 = .ok (.aload_n 0, 1) := by decide +kernel
theorem d_jdk_68m2_1 : decode jdk_68_method_2_code 1 = .ok (.invokespecial 3, 3) := by decide +kernel
theorem d_jdk_68m2_4 : decode jdk_68_method_2_code 4 = .ok (.getstatic 18, 3) := by decide +kernel
theorem d_jdk_68m2_7 : decode jdk_68_method_2_code 7 = .ok (.ifCond .eq 18, 3) := by decide +kernel
theorem d_jdk_68m2_10 : decode jdk_68_method_2_code 10 = .ok (.aload_n 0, 1) := by decide +kernel
theorem d_jdk_68m2_11 : decode jdk_68_method_2_code 11 = .ok (.iload_n 1, 1) := by decide +kernel
theorem d_jdk_68m2_12 : decode jdk_68_method_2_code 12 = .ok (.newarray .byte, 2) := by decide +kernel
theorem d_jdk_68m2_14 : decode jdk_68_method_2_code 14 = .ok (.putfield 15, 3) := by decide +kernel
theorem d_jdk_68m2_17 : decode jdk_68_method_2_code 17 = .ok (.aload_n 0, 1) := by decide +kernel
theorem d_jdk_68m2_18 : decode jdk_68_method_2_code 18 = .ok (.iconst 0, 1) := by decide +kernel
theorem d_jdk_68m2_19 : decode jdk_68_method_2_code 19 = .ok (.putfield 22, 3) := by decide +kernel
theorem d_jdk_68m2_22 : decode jdk_68_method_2_code 22 = .ok (.goto 16, 3) := by decide +kernel
theorem d_jdk_68m2_38 : decode jdk_68_method_2_code 38 = .ok (.return_, 1) := by decide +kernel
theorem d_jdk_67m1_0 : decode jdk_67_method_1_code 0 = .ok (.aload_n 0, 1) := by decide +kernel
theorem d_jdk_67m1_1 : decode jdk_67_method_1_code 1 = .ok (.bipush 16, 2) := by decide +kernel
theorem d_jdk_67m1_3 : decode jdk_67_method_1_code 3 = .ok (.invokespecial 1, 3) := by decide +kernel
theorem d_jdk_67m1_6 : decode jdk_67_method_1_code 6 = .ok (.return_, 1) := by decide +kernel
theorem d_jdk_68m9_0 : decode jdk_68_method_9_code 0 = .ok (.aload_n 0, 1) := by decide +kernel
theorem d_jdk_68m9_1 : decode jdk_68_method_9_code 1 = .ok (.getfield 15, 3) := by decide +kernel
theorem d_jdk_68m9_4 : decode jdk_68_method_9_code 4 = .ok (.arraylength, 1) := by decide +kernel
theorem d_jdk_68m9_5 : decode jdk_68_method_9_code 5 = .ok (.aload_n 0, 1) := by decide +kernel
theorem d_jdk_68m9_6 : decode jdk_68_method_9_code 6 = .ok (.getfield 22, 3) := by decide +kernel
theorem d_jdk_68m9_9 : decode jdk_68_method_9_code 9 = .ok (.ishr, 1) := by decide +kernel
theorem d_jdk_68m9_10 : decode jdk_68_method_9_code 10 = .ok (.istore_n 2, 1) := by decide +kernel
theorem d_jdk_68m9_11 : decode jdk_68_method_9_code 11 = .ok (.iload_n 1, 1) := by decide +kernel
theorem d_jdk_68m9_12 : decode jdk_68_method_9_code 12 = .ok (.iload_n 2, 1) := by decide +kernel
theorem d_jdk_68m9_13 : decode jdk_68_method_9_code 13 = .ok (.isub, 1) := by decide +kernel
theorem d_jdk_68m9_14 : decode jdk_68_method_9_code 14 = .ok (.ifCond .le 24, 3) := by decide +kernel
theorem d_jdk_68m9_38 : decode jdk_68_method_9_code 38 = .ok (.return_, 1) := by decide +kernel
theorem d_jdk_68m71_0 : decode jdk_68_method_71_code 0 = .ok (.getstatic 18, 3) := by decide +kernel
theorem d_jdk_68m71_3 : decode jdk_68_method_71_code 3 = .ok (.ifCond .eq 18, 3) := by decide +kernel
theorem d_jdk_68m71_6 : decode jdk_68_method_71_code 6 = .ok (.aload_n 0, 1) := by decide +kernel
theorem d_jdk_68m71_7 : decode jdk_68_method_71_code 7 = .ok (.getfield 22, 3) := by decide +kernel
theorem d_jdk_68m71_10 : decode jdk_68_method_71_code 10 = .ok (.aload_n 1, 1) := by decide +kernel
theorem d_jdk_68m71_11 : decode jdk_68_method_71_code 11 = .ok (.invokevirtual 40, 3) := by decide +kernel
theorem d_jdk_68m71_14 : decode jdk_68_method_71_code 14 = .ok (.if_icmp .eq 7, 3) := by decide +kernel
theorem d_jdk_68m71_21 : decode jdk_68_method_71_code 21 = .ok (.return_, 1) := by decide +kernel
theorem d_jdk_42m147_0 : decode jdk_42_method_147_code 0 = .ok (.aload_n 0, 1) := by decide +kernel
theorem d_jdk_42m147_1 : decode jdk_42_method_147_code 1 = .ok (.invokevirtual 335, 3) := by decide +kernel
theorem d_jdk_42m147_4 : decode jdk_42_method_147_code 4 = .ok (.iload_n 3, 1) := by decide +kernel
theorem d_jdk_42m147_5 : decode jdk_42_method_147_code 5 = .ok (.if_icmp .ne 23, 3) := by decide +kernel
theorem d_jdk_42m147_8 : decode jdk_42_method_147_code 8 = .ok (.aload_n 0, 1) := by decide +kernel
theorem d_jdk_42m147_9 : decode jdk_42_method_147_code 9 = .ok (.getfield 9, 3) := by decide +kernel
theorem d_jdk_42m147_12 : decode jdk_42_method_147_code 12 = .ok (.iconst 0, 1) := by decide +kernel
theorem d_jdk_42m147_13 : decode jdk_42_method_147_code 13 = .ok (.aload_n 1, 1) := by decide +kernel
theorem d_jdk_42m147_14 : decode jdk_42_method_147_code 14 = .ok (.iload_n 2, 1) := by decide +kernel
theorem d_jdk_42m147_15 : decode jdk_42_method_147_code 15 = .ok (.iload_n 3, 1) := by decide +kernel
theorem d_jdk_42m147_16 : decode jdk_42_method_147_code 16 = .ok (.ishl, 1) := by decide +kernel
theorem d_jdk_42m147_17 : decode jdk_42_method_147_code 17 = .ok (.aload_n 0, 1) := by decide +kernel
theorem d_jdk_42m147_18 : decode jdk_42_method_147_code 18 = .ok (.getfield 9, 3) := by decide +kernel
theorem d_jdk_42m147_21 : decode jdk_42_method_147_code 21 = .ok (.arraylength, 1) := by decide +kernel
theorem d_jdk_42m147_22 : decode jdk_42_method_147_code 22 = .ok (.invokestatic 212, 3) := by decide +kernel
theorem d_jdk_42m147_25 : decode jdk_42_method_147_code 25 = .ok (.goto 18, 3) := by decide +kernel
theorem d_jdk_42m147_43 : decode jdk_42_method_147_code 43 = .ok (.return_, 1) := by decide +kernel
theorem d_jdk_68m73_0 : decode jdk_68_method_73_code 0 = .ok (.aload_n 0, 1) := by decide +kernel
theorem d_jdk_68m73_1 : decode jdk_68_method_73_code 1 = .ok (.aload_n 2, 1) := by decide +kernel
theorem d_jdk_68m73_2 : decode jdk_68_method_73_code 2 = .ok (.invokevirtual 397, 3) := by decide +kernel
theorem d_jdk_68m73_5 : decode jdk_68_method_73_code 5 = .ok (.aload_n 2, 1) := by decide +kernel
theorem d_jdk_68m73_6 : decode jdk_68_method_73_code 6 = .ok (.aload_n 0, 1) := by decide +kernel
theorem d_jdk_68m73_7 : decode jdk_68_method_73_code 7 = .ok (.getfield 15, 3) := by decide +kernel
theorem d_jdk_68m73_10 : decode jdk_68_method_73_code 10 = .ok (.iload_n 1, 1) := by decide +kernel
theorem d_jdk_68m73_11 : decode jdk_68_method_73_code 11 = .ok (.aload_n 0, 1) := by decide +kernel
theorem d_jdk_68m73_12 : decode jdk_68_method_73_code 12 = .ok (.getfield 22, 3) := by decide +kernel
theorem d_jdk_68m73_15 : decode jdk_68_method_73_code 15 = .ok (.invokevirtual 399, 3) := by decide +kernel
theorem d_jdk_68m73_18 : decode jdk_68_method_73_code 18 = .ok (.return_, 1) := by decide +kernel
theorem d_jdk_68m22_0 : decode jdk_68_method_22_code 0 = .ok (.aload_n 1, 1) := by decide +kernel
theorem d_jdk_68m22_1 : decode jdk_68_method_22_code 1 = .ok (.ifnonnull 8, 3) := by decide +kernel
theorem d_jdk_68m22_9 : decode jdk_68_method_22_code 9 = .ok (.aload_n 1, 1) := by decide +kernel
theorem d_jdk_68m22_10 : decode jdk_68_method_22_code 10 = .ok (.invokevirtual 32, 3) := by decide +kernel
theorem d_jdk_68m22_13 : decode jdk_68_method_22_code 13 = .ok (.istore_n 2, 1) := by decide +kernel
theorem d_jdk_68m22_14 : decode jdk_68_method_22_code 14 = .ok (.aload_n 0, 1) := by decide +kernel
theorem d_jdk_68m22_15 : decode jdk_68_method_22_code 15 = .ok (.aload_n 0, 1) := by decide +kernel
theorem d_jdk_68m22_16 : decode jdk_68_method_22_code 16 = .ok (.getfield 79, 3) := by decide +kernel
theorem d_jdk_68m22_19 : decode jdk_68_method_22_code 19 = .ok (.iload_n 2, 1) := by decide +kernel
theorem d_jdk_68m22_20 : decode jdk_68_method_22_code 20 = .ok (.iadd, 1) := by decide +kernel
theorem d_jdk_68m22_21 : decode jdk_68_method_22_code 21 = .ok (.invokevirtual 100, 3) := by decide +kernel
theorem d_jdk_68m22_24 : decode jdk_68_method_22_code 24 = .ok (.aload_n 0, 1) := by decide +kernel
theorem d_jdk_68m22_25 : decode jdk_68_method_22_code 25 = .ok (.aload_n 0, 1) := by decide +kernel
theorem d_jdk_68m22_26 : decode jdk_68_method_22_code 26 = .ok (.getfield 79, 3) := by decide +kernel
theorem d_jdk_68m22_29 : decode jdk_68_method_22_code 29 = .ok (.aload_n 1, 1) := by decide +kernel
theorem d_jdk_68m22_30 : decode jdk_68_method_22_code 30 = .ok (.invokevirtual 208, 3) := by decide +kernel
theorem d_jdk_68m22_33 : decode jdk_68_method_22_code 33 = .ok (.aload_n 0, 1) := by decide +kernel
theorem d_jdk_68m22_34 : decode jdk_68_method_22_code 34 = .ok (.dup, 1) := by decide +kernel
theorem d_jdk_68m22_35 : decode jdk_68_method_22_code 35 = .ok (.getfield 79, 3) := by decide +kernel
theorem d_jdk_68m22_38 : decode jdk_68_method_22_code 38 = .ok (.iload_n 2, 1) := by decide +kernel
theorem d_jdk_68m22_39 : decode jdk_68_method_22_code 39 = .ok (.iadd, 1) := by decide +kernel
theorem d_jdk_68m22_40 : decode jdk_68_method_22_code 40 = .ok (.putfield 79, 3) := by decide +kernel
theorem d_jdk_68m22_43 : decode jdk_68_method_22_code 43 = .ok (.aload_n 0, 1) := by decide +kernel
theorem d_jdk_68m22_44 : decode jdk_68_method_22_code 44 = .ok (.areturn, 1) := by decide +kernel
theorem d_jdk_67m7_0 : decode jdk_67_method_7_code 0 = .ok (.aload_n 0, 1) := by decide +kernel
theorem d_jdk_67m7_1 : decode jdk_67_method_7_code 1 = .ok (.aload_n 1, 1) := by decide +kernel
theorem d_jdk_67m7_2 : decode jdk_67_method_7_code 2 = .ok (.invokespecial 29, 3) := by decide +kernel
theorem d_jdk_67m7_5 : decode jdk_67_method_7_code 5 = .ok (.pop, 1) := by decide +kernel
theorem d_jdk_67m7_6 : decode jdk_67_method_7_code 6 = .ok (.aload_n 0, 1) := by decide +kernel
theorem d_jdk_67m7_7 : decode jdk_67_method_7_code 7 = .ok (.areturn, 1) := by decide +kernel
theorem d_jdk_68m64_0 : decode jdk_68_method_64_code 0 = .ok (.aload_n 0, 1) := by decide +kernel
theorem d_jdk_68m64_1 : decode jdk_68_method_64_code 1 = .ok (.getfield 15, 3) := by decide +kernel
theorem d_jdk_68m64_4 : decode jdk_68_method_64_code 4 = .ok (.areturn, 1) := by decide +kernel
theorem d_jdk_68m6_0 : decode jdk_68_method_6_code 0 = .ok (.aload_n 0, 1) := by decide +kernel
theorem d_jdk_68m6_1 : decode jdk_68_method_6_code 1 = .ok (.getfield 79, 3) := by decide +kernel
theorem d_jdk_68m6_4 : decode jdk_68_method_6_code 4 = .ok (.ireturn, 1) := by decide +kernel
theorem d_jdk_67m93_0 : decode jdk_67_method_93_code 0 = .ok (.aload_n 0, 1) := by decide +kernel
theorem d_jdk_67m93_1 : decode jdk_67_method_93_code 1 = .ok (.invokespecial 343, 3) := by decide +kernel
theorem d_jdk_67m93_4 : decode jdk_67_method_93_code 4 = .ok (.ireturn, 1) := by decide +kernel
theorem d_jdk_68m68_0 : decode jdk_68_method_68_code 0 = .ok (.getstatic 18, 3) := by decide +kernel
theorem d_jdk_68m68_3 : decode jdk_68_method_68_code 3 = .ok (.ifCond .eq 14, 3) := by decide +kernel
theorem d_jdk_68m68_6 : decode jdk_68_method_68_code 6 = .ok (.aload_n 0, 1) := by decide +kernel
theorem d_jdk_68m68_7 : decode jdk_68_method_68_code 7 = .ok (.getfield 22, 3) := by decide +kernel
theorem d_jdk_68m68_10 : decode jdk_68_method_68_code 10 = .ok (.ifCond .ne 7, 3) := by decide +kernel
theorem d_jdk_68m68_13 : decode jdk_68_method_68_code 13 = .ok (.iconst 1, 1) := by decide +kernel
theorem d_jdk_68m68_14 : decode jdk_68_method_68_code 14 = .ok (.goto 4, 3) := by decide +kernel
theorem d_jdk_68m68_18 : decode jdk_68_method_68_code 18 = .ok (.ireturn, 1) := by decide +kernel
theorem d_jdk_42m150_0 : decode jdk_42_method_150_code 0 = .ok (.aload_n 0, 1) := by decide +kernel
theorem d_jdk_42m150_1 : decode jdk_42_method_150_code 1 = .ok (.invokespecial 1, 3) := by decide +kernel
theorem d_jdk_42m150_4 : decode jdk_42_method_150_code 4 = .ok (.aload_n 1, 1) := by decide +kernel
theorem d_jdk_42m150_5 : decode jdk_42_method_150_code 5 = .ok (.invokevirtual 552, 3) := by decide +kernel
theorem d_jdk_42m150_8 : decode jdk_42_method_150_code 8 = .ok (.astore_n 3, 1) := by decide +kernel
theorem d_jdk_42m150_9 : decode jdk_42_method_150_code 9 = .ok (.aload_n 1, 1) := by decide +kernel
theorem d_jdk_42m150_10 : decode jdk_42_method_150_code 10 = .ok (.invokevirtual 549, 3) := by decide +kernel
theorem d_jdk_42m150_13 : decode jdk_42_method_150_code 13 = .ok (.istore 4, 2) := by decide +kernel
theorem d_jdk_42m150_15 : decode jdk_42_method_150_code 15 = .ok (.aload_n 1, 1) := by decide +kernel
theorem d_jdk_42m150_16 : decode jdk_42_method_150_code 16 = .ok (.invokevirtual 1047, 3) := by decide +kernel
theorem d_jdk_42m150_19 : decode jdk_42_method_150_code 19 = .ok (.ifCond .eq 22, 3) := by decide +kernel
theorem d_jdk_42m150_22 : decode jdk_42_method_150_code 22 = .ok (.aload_n 0, 1) := by decide +kernel
theorem d_jdk_42m150_23 : decode jdk_42_method_150_code 23 = .ok (.iconst 0, 1) := by decide +kernel
theorem d_jdk_42m150_24 : decode jdk_42_method_150_code 24 = .ok (.putfield 15, 3) := by decide +kernel
theorem d_jdk_42m150_27 : decode jdk_42_method_150_code 27 = .ok (.aload_n 0, 1) := by decide +kernel
theorem d_jdk_42m150_28 : decode jdk_42_method_150_code 28 = .ok (.aload_n 3, 1) := by decide +kernel
theorem d_jdk_42m150_29 : decode jdk_42_method_150_code 29 = .ok (.iconst 0, 1) := by decide +kernel
theorem d_jdk_42m150_30 : decode jdk_42_method_150_code 30 = .ok (.iload 4, 2) := by decide +kernel
theorem d_jdk_42m150_32 : decode jdk_42_method_150_code 32 = .ok (.invokestatic 54, 3) := by decide +kernel
theorem d_jdk_42m150_35 : decode jdk_42_method_150_code 35 = .ok (.putfield 9, 3) := by decide +kernel
theorem d_jdk_42m150_38 : decode jdk_42_method_150_code 38 = .ok (.goto 59, 3) := by decide +kernel
theorem d_jdk_42m150_97 : decode jdk_42_method_150_code 97 = .ok (.return_, 1) := by decide +kernel
theorem d_jdk_42m53_0 : decode jdk_42_method_53_code 0 = .ok (.aload_n 0, 1) := by decide +kernel
theorem d_jdk_42m53_1 : decode jdk_42_method_53_code 1 = .ok (.aload_n 1, 1) := by decide +kernel
theorem d_jdk_42m53_2 : decode jdk_42_method_53_code 2 = .ok (.aconst_null, 1) := by decide +kernel
theorem d_jdk_42m53_3 : decode jdk_42_method_53_code 3 = .ok (.invokespecial 489, 3) := by decide +kernel
theorem d_jdk_42m53_6 : decode jdk_42_method_53_code 6 = .ok (.return_, 1) := by decide +kernel
theorem d_jdk_67m42_0 : decode jdk_67_method_42_code 0 = .ok (.new 18, 3) := by decide +kernel
theorem d_jdk_67m42_3 : decode jdk_67_method_42_code 3 = .ok (.dup, 1) := by decide +kernel
theorem d_jdk_67m42_4 : decode jdk_67_method_42_code 4 = .ok (.aload_n 0, 1) := by decide +kernel
theorem d_jdk_67m42_5 : decode jdk_67_method_42_code 5 = .ok (.invokespecial 137, 3) := by decide +kernel
theorem d_jdk_67m42_8 : decode jdk_67_method_42_code 8 = .ok (.areturn, 1) := by decide +kernel
theorem d_jdk_33m47_0 : decode jdk_33_method_47_code 0 = .ok (.iload_n 0, 1) := by decide +kernel
theorem d_jdk_33m47_1 : decode jdk_33_method_47_code 1 = .ok (.ifCond .gt 14, 3) := by decide +kernel
theorem d_jdk_33m47_15 : decode jdk_33_method_47_code 15 = .ok (.bipush 31, 2) := by decide +kernel
theorem d_jdk_33m47_17 : decode jdk_33_method_47_code 17 = .ok (.istore_n 1, 1) := by decide +kernel
theorem d_jdk_33m47_18 : decode jdk_33_method_47_code 18 = .ok (.iload_n 0, 1) := by decide +kernel
theorem d_jdk_33m47_19 : decode jdk_33_method_47_code 19 = .ok (.ldc_w 264, 3) := by decide +kernel
theorem d_jdk_33m47_22 : decode jdk_33_method_47_code 22 = .ok (.if_icmp .lt 11, 3) := by decide +kernel
theorem d_jdk_33m47_33 : decode jdk_33_method_47_code 33 = .ok (.iload_n 0, 1) := by decide +kernel
theorem d_jdk_33m47_34 : decode jdk_33_method_47_code 34 = .ok (.sipush 256, 3) := by decide +kernel
theorem d_jdk_33m47_37 : decode jdk_33_method_47_code 37 = .ok (.if_icmp .lt 11, 3) := by decide +kernel
theorem d_jdk_33m47_48 : decode jdk_33_method_47_code 48 = .ok (.iload_n 0, 1) := by decide +kernel
theorem d_jdk_33m47_49 : decode jdk_33_method_47_code 49 = .ok (.bipush 16, 2) := by decide +kernel
theorem d_jdk_33m47_51 : decode jdk_33_method_47_code 51 = .ok (.if_icmp .lt 10, 3) := by decide +kernel
theorem d_jdk_33m47_61 : decode jdk_33_method_47_code 61 = .ok (.iload_n 0, 1) := by decide +kernel
theorem d_jdk_33m47_62 : decode jdk_33_method_47_code 62 = .ok (.iconst 4, 1) := by decide +kernel
theorem d_jdk_33m47_63 : decode jdk_33_method_47_code 63 = .ok (.if_icmp .lt 10, 3) := by decide +kernel
theorem d_jdk_33m47_73 : decode jdk_33_method_47_code 73 = .ok (.iload_n 1, 1) := by decide +kernel
theorem d_jdk_33m47_74 : decode jdk_33_method_47_code 74 = .ok (.iload_n 0, 1) := by decide +kernel
theorem d_jdk_33m47_75 : decode jdk_33_method_47_code 75 = .ok (.iconst 1, 1) := by decide +kernel
theorem d_jdk_33m47_76 : decode jdk_33_method_47_code 76 = .ok (.iushr, 1) := by decide +kernel
theorem d_jdk_33m47_77 : decode jdk_33_method_47_code 77 = .ok (.isub, 1) := by decide +kernel
theorem d_jdk_33m47_78 : decode jdk_33_method_47_code 78 = .ok (.ireturn, 1) := by decide +kernel
theorem d_jdk_33m47_66 : decode jdk_33_method_47_code 66 = .ok (.iinc 1 (-2), 3) := by decide +kernel
theorem d_jdk_33m47_69 : decode jdk_33_method_47_code 69 = .ok (.iload_n 0, 1) := by decide +kernel
theorem d_jdk_33m47_70 : decode jdk_33_method_47_code 70 = .ok (.iconst 2, 1) := by decide +kernel
theorem d_jdk_33m47_71 : decode jdk_33_method_47_code 71 = .ok (.iushr, 1) := by decide +kernel
theorem d_jdk_33m47_72 : decode jdk_33_method_47_code 72 = .ok (.istore_n 0, 1) := by decide +kernel
theorem d_jdk_33m47_54 : decode jdk_33_method_47_code 54 = .ok (.iinc 1 (-4), 3) := by decide +kernel
theorem d_jdk_33m47_57 : decode jdk_33_method_47_code 57 = .ok (.iload_n 0, 1) := by decide +kernel
theorem d_jdk_33m47_58 : decode jdk_33_method_47_code 58 = .ok (.iconst 4, 1) := by decide +kernel
theorem d_jdk_33m47_59 : decode jdk_33_method_47_code 59 = .ok (.iushr, 1) := by decide +kernel
theorem d_jdk_33m47_60 : decode jdk_33_method_47_code 60 = .ok (.istore_n 0, 1) := by decide +kernel
theorem d_jdk_33m47_40 : decode jdk_33_method_47_code 40 = .ok (.iinc 1 (-8), 3) := by decide +kernel
theorem d_jdk_33m47_43 : decode jdk_33_method_47_code 43 = .ok (.iload_n 0, 1) := by decide +kernel
theorem d_jdk_33m47_44 : decode jdk_33_method_47_code 44 = .ok (.bipush 8, 2) := by decide +kernel
theorem d_jdk_33m47_46 : decode jdk_33_method_47_code 46 = .ok (.iushr, 1) := by decide +kernel
theorem d_jdk_33m47_47 : decode jdk_33_method_47_code 47 = .ok (.istore_n 0, 1) := by decide +kernel
theorem d_jdk_33m47_4 : decode jdk_33_method_47_code 4 = .ok (.iload_n 0, 1) := by decide +kernel
theorem d_jdk_33m47_5 : decode jdk_33_method_47_code 5 = .ok (.ifCond .ne 8, 3) := by decide +kernel
theorem d_jdk_33m47_8 : decode jdk_33_method_47_code 8 = .ok (.bipush 32, 2) := by decide +kernel
theorem d_jdk_33m47_10 : decode jdk_33_method_47_code 10 = .ok (.goto 4, 3) := by decide +kernel
theorem d_jdk_33m47_14 : decode jdk_33_method_47_code 14 = .ok (.ireturn, 1) := by decide +kernel
theorem d_jdk_29m65_0 : decode jdk_29_method_65_code 0 = .ok (.iload_n 0, 1) := by decide +kernel
theorem d_jdk_29m65_1 : decode jdk_29_method_65_code 1 = .ok (.iload_n 1, 1) := by decide +kernel
theorem d_jdk_29m65_2 : decode jdk_29_method_65_code 2 = .ok (.if_icmp .lt 7, 3) := by decide +kernel
theorem d_jdk_29m65_9 : decode jdk_29_method_65_code 9 = .ok (.iload_n 1, 1) := by decide +kernel
theorem d_jdk_29m65_10 : decode jdk_29_method_65_code 10 = .ok (.ireturn, 1) := by decide +kernel
theorem d_jdk_29m65_5 : decode jdk_29_method_65_code 5 = .ok (.iload_n 0, 1) := by decide +kernel
theorem d_jdk_29m65_6 : decode jdk_29_method_65_code 6 = .ok (.goto 4, 3) := by decide +kernel
theorem d_jdk_33m8_0 : decode jdk_33_method_8_code 0 = .ok (.iload_n 3, 1) := by decide +kernel
theorem d_jdk_33m8_1 : decode jdk_33_method_8_code 1 = .ok (.istore 4, 2) := by decide +kernel
theorem d_jdk_33m8_3 : decode jdk_33_method_8_code 3 = .ok (.iconst 1, 1) := by decide +kernel
theorem d_jdk_33m8_4 : decode jdk_33_method_8_code 4 = .ok (.iload_n 1, 1) := by decide +kernel
theorem d_jdk_33m8_5 : decode jdk_33_method_8_code 5 = .ok (.ishl, 1) := by decide +kernel
theorem d_jdk_33m8_6 : decode jdk_33_method_8_code 6 = .ok (.istore 5, 2) := by decide +kernel
theorem d_jdk_33m8_8 : decode jdk_33_method_8_code 8 = .ok (.iload 5, 2) := by decide +kernel
theorem d_jdk_33m8_10 : decode jdk_33_method_8_code 10 = .ok (.iconst 1, 1) := by decide +kernel
theorem d_jdk_33m8_11 : decode jdk_33_method_8_code 11 = .ok (.isub, 1) := by decide +kernel
theorem d_jdk_33m8_12 : decode jdk_33_method_8_code 12 = .ok (.istore 6, 2) := by decide +kernel
theorem d_jdk_33m8_14 : decode jdk_33_method_8_code 14 = .ok (.aload_n 2, 1) := by decide +kernel
theorem d_jdk_33m8_15 : decode jdk_33_method_8_code 15 = .ok (.iinc 4 (-1), 3) := by decide +kernel
theorem d_jdk_33m8_18 : decode jdk_33_method_8_code 18 = .ok (.iload 4, 2) := by decide +kernel
theorem d_jdk_33m8_20 : decode jdk_33_method_8_code 20 = .ok (.getstatic 17, 3) := by decide +kernel
theorem d_jdk_33m8_23 : decode jdk_33_method_8_code 23 = .ok (.iload_n 0, 1) := by decide +kernel
theorem d_jdk_33m8_24 : decode jdk_33_method_8_code 24 = .ok (.iload 6, 2) := by decide +kernel
theorem d_jdk_33m8_26 : decode jdk_33_method_8_code 26 = .ok (.iand, 1) := by decide +kernel
theorem d_jdk_33m8_27 : decode jdk_33_method_8_code 27 = .ok (.caload, 1) := by decide +kernel
theorem d_jdk_33m8_28 : decode jdk_33_method_8_code 28 = .ok (.i2b, 1) := by decide +kernel
theorem d_jdk_33m8_29 : decode jdk_33_method_8_code 29 = .ok (.bastore, 1) := by decide +kernel
theorem d_jdk_33m8_30 : decode jdk_33_method_8_code 30 = .ok (.iload_n 0, 1) := by decide +kernel
theorem d_jdk_33m8_31 : decode jdk_33_method_8_code 31 = .ok (.iload_n 1, 1) := by decide +kernel
theorem d_jdk_33m8_32 : decode jdk_33_method_8_code 32 = .ok (.iushr, 1) := by decide +kernel
theorem d_jdk_33m8_33 : decode jdk_33_method_8_code 33 = .ok (.istore_n 0, 1) := by decide +kernel
theorem d_jdk_33m8_34 : decode jdk_33_method_8_code 34 = .ok (.iload 4, 2) := by decide +kernel
theorem d_jdk_33m8_36 : decode jdk_33_method_8_code 36 = .ok (.ifCond .gt (-22), 3) := by decide +kernel
theorem d_jdk_33m8_39 : decode jdk_33_method_8_code 39 = .ok (.return_, 1) := by decide +kernel
theorem d_jdk_33m7_0 : decode jdk_33_method_7_code 0 = .ok (.bipush 32, 2) := by decide +kernel
theorem d_jdk_33m7_2 : decode jdk_33_method_7_code 2 = .ok (.iload_n 0, 1) := by decide +kernel
theorem d_jdk_33m7_3 : decode jdk_33_method_7_code 3 = .ok (.invokestatic 51, 3) := by decide +kernel
theorem d_jdk_33m7_6 : decode jdk_33_method_7_code 6 = .ok (.isub, 1) := by decide +kernel
theorem d_jdk_33m7_7 : decode jdk_33_method_7_code 7 = .ok (.istore_n 2, 1) := by decide +kernel
theorem d_jdk_33m7_8 : decode jdk_33_method_7_code 8 = .ok (.iload_n 2, 1) := by decide +kernel
theorem d_jdk_33m7_9 : decode jdk_33_method_7_code 9 = .ok (.iload_n 1, 1) := by decide +kernel
theorem d_jdk_33m7_10 : decode jdk_33_method_7_code 10 = .ok (.iconst 1, 1) := by decide +kernel
theorem d_jdk_33m7_11 : decode jdk_33_method_7_code 11 = .ok (.isub, 1) := by decide +kernel
theorem d_jdk_33m7_12 : decode jdk_33_method_7_code 12 = .ok (.iadd, 1) := by decide +kernel
theorem d_jdk_33m7_13 : decode jdk_33_method_7_code 13 = .ok (.iload_n 1, 1) := by decide +kernel
theorem d_jdk_33m7_14 : decode jdk_33_method_7_code 14 = .ok (.idiv, 1) := by decide +kernel
theorem d_jdk_33m7_15 : decode jdk_33_method_7_code 15 = .ok (.iconst 1, 1) := by decide +kernel
theorem d_jdk_33m7_16 : decode jdk_33_method_7_code 16 = .ok (.invokestatic 55, 3) := by decide +kernel
theorem d_jdk_33m7_19 : decode jdk_33_method_7_code 19 = .ok (.istore_n 3, 1) := by decide +kernel
theorem d_jdk_33m7_20 : decode jdk_33_method_7_code 20 = .ok (.getstatic 13, 3) := by decide +kernel
theorem d_jdk_33m7_23 : decode jdk_33_method_7_code 23 = .ok (.ifCond .eq 27, 3) := by decide +kernel
theorem d_jdk_33m7_26 : decode jdk_33_method_7_code 26 = .ok (.iload_n 3, 1) := by decide +kernel
theorem d_jdk_33m7_27 : decode jdk_33_method_7_code 27 = .ok (.newarray .byte, 2) := by decide +kernel
theorem d_jdk_33m7_29 : decode jdk_33_method_7_code 29 = .ok (.astore 4, 2) := by decide +kernel
theorem d_jdk_33m7_31 : decode jdk_33_method_7_code 31 = .ok (.iload_n 0, 1) := by decide +kernel
theorem d_jdk_33m7_32 : decode jdk_33_method_7_code 32 = .ok (.iload_n 1, 1) := by decide +kernel
theorem d_jdk_33m7_33 : decode jdk_33_method_7_code 33 = .ok (.aload 4, 2) := by decide +kernel
theorem d_jdk_33m7_35 : decode jdk_33_method_7_code 35 = .ok (.iload_n 3, 1) := by decide +kernel
theorem d_jdk_33m7_36 : decode jdk_33_method_7_code 36 = .ok (.invokestatic 61, 3) := by decide +kernel
theorem d_jdk_33m7_39 : decode jdk_33_method_7_code 39 = .ok (.new 5, 3) := by decide +kernel
theorem d_jdk_33m7_42 : decode jdk_33_method_7_code 42 = .ok (.dup, 1) := by decide +kernel
theorem d_jdk_33m7_43 : decode jdk_33_method_7_code 43 = .ok (.aload 4, 2) := by decide +kernel
theorem d_jdk_33m7_45 : decode jdk_33_method_7_code 45 = .ok (.iconst 0, 1) := by decide +kernel
theorem d_jdk_33m7_46 : decode jdk_33_method_7_code 46 = .ok (.invokespecial 65, 3) := by decide +kernel
theorem d_jdk_33m7_49 : decode jdk_33_method_7_code 49 = .ok (.areturn, 1) := by decide +kernel
theorem d_jdk_33m4_0 : decode jdk_33_method_4_code 0 = .ok (.iload_n 0, 1) := by decide +kernel
theorem d_jdk_33m4_1 : decode jdk_33_method_4_code 1 = .ok (.iconst 4, 1) := by decide +kernel
theorem d_jdk_33m4_2 : decode jdk_33_method_4_code 2 = .ok (.invokestatic 48, 3) := by decide +kernel
theorem d_jdk_33m4_5 : decode jdk_33_method_4_code 5 = .ok (.areturn, 1) := by decide +kernel
theorem d_jdk_42m91_0 : decode jdk_42_method_91_code 0 = .ok (.aload_n 0, 1) := by decide +kernel
theorem d_jdk_42m91_1 : decode jdk_42_method_91_code 1 = .ok (.iload_n 1, 1) := by decide +kernel
theorem d_jdk_42m91_2 : decode jdk_42_method_91_code 2 = .ok (.aload_n 0, 1) := by decide +kernel
theorem d_jdk_42m91_3 : decode jdk_42_method_91_code 3 = .ok (.invokevirtual 505, 3) := by decide +kernel
theorem d_jdk_42m91_6 : decode jdk_42_method_91_code 6 = .ok (.invokevirtual 681, 3) := by decide +kernel
theorem d_jdk_42m91_9 : decode jdk_42_method_91_code 9 = .ok (.areturn, 1) := by decide +kernel
theorem d_prog_1m2_0 : decode prog_1_method_2_code 0 = .ok (.iload_n 0, 1) := by decide +kernel
theorem d_prog_1m2_1 : decode prog_1_method_2_code 1 = .ok (.invokestatic 7, 3) := by decide +kernel
theorem d_prog_1m2_4 : decode prog_1_method_2_code 4 = .ok (.astore_n 1, 1) := by decide +kernel
theorem d_prog_1m2_5 : decode prog_1_method_2_code 5 = .ok (.new 13, 3) := by decide +kernel
theorem d_prog_1m2_8 : decode prog_1_method_2_code 8 = .ok (.dup, 1) := by decide +kernel
theorem d_prog_1m2_9 : decode prog_1_method_2_code 9 = .ok (.invokespecial 15, 3) := by decide +kernel
theorem d_prog_1m2_12 : decode prog_1_method_2_code 12 = .ok (.ldc 16, 2) := by decide +kernel
theorem d_prog_1m2_14 : decode prog_1_method_2_code 14 = .ok (.invokevirtual 18, 3) := by decide +kernel
theorem d_prog_1m2_17 : decode prog_1_method_2_code 17 = .ok (.ldc 24, 2) := by decide +kernel
theorem d_prog_1m2_19 : decode prog_1_method_2_code 19 = .ok (.aload_n 1, 1) := by decide +kernel
theorem d_prog_1m2_20 : decode prog_1_method_2_code 20 = .ok (.invokevirtual 26, 3) := by decide +kernel
theorem d_prog_1m2_23 : decode prog_1_method_2_code 23 = .ok (.invokevirtual 32, 3) := by decide +kernel
theorem d_prog_1m2_26 : decode prog_1_method_2_code 26 = .ok (.invokevirtual 18, 3) := by decide +kernel
theorem d_prog_1m2_29 : decode prog_1_method_2_code 29 = .ok (.aload_n 1, 1) := by decide +kernel
theorem d_prog_1m2_30 : decode prog_1_method_2_code 30 = .ok (.invokevirtual 18, 3) := by decide +kernel
theorem d_prog_1m2_33 : decode prog_1_method_2_code 33 = .ok (.invokevirtual 35, 3) := by decide +kernel
theorem d_prog_1m2_36 : decode prog_1_method_2_code 36 = .ok (.areturn, 1) := by decide +kernel
theorem d_method_2_0 : decode method_2_code 0 = .ok (.iload_n 0, 1) := by decide +kernel
theorem d_method_2_1 : decode method_2_code 1 = .ok (.bipush 10, 2) := by decide +kernel
theorem d_method_2_3 : decode method_2_code 3 = .ok (.if_icmp .ge 9, 3) := by decide +kernel
theorem d_method_2_12 : decode method_2_code 12 = .ok (.bipush 97, 2) := by decide +kernel
theorem d_method_2_14 : decode method_2_code 14 = .ok (.iload_n 0, 1) := by decide +kernel
theorem d_method_2_15 : decode method_2_code 15 = .ok (.bipush 10, 2) := by decide +kernel
theorem d_method_2_17 : decode method_2_code 17 = .ok (.isub, 1) := by decide +kernel
theorem d_method_2_18 : decode method_2_code 18 = .ok (.iadd, 1) := by decide +kernel
theorem d_method_2_19 : decode method_2_code 19 = .ok (.i2c, 1) := by decide +kernel
theorem d_method_2_20 : decode method_2_code 20 = .ok (.ireturn, 1) := by decide +kernel
theorem d_method_2_6 : decode method_2_code 6 = .ok (.bipush 48, 2) := by decide +kernel
theorem d_method_2_8 : decode method_2_code 8 = .ok (.iload_n 0, 1) := by decide +kernel
theorem d_method_2_9 : decode method_2_code 9 = .ok (.iadd, 1) := by decide +kernel
theorem d_method_2_10 : decode method_2_code 10 = .ok (.i2c, 1) := by decide +kernel
theorem d_method_2_11 : decode method_2_code 11 = .ok (.ireturn, 1) := by decide +kernel
theorem pd0 : parseMethodDescriptor "()B" = some ⟨[], some .byte⟩ := by decide +kernel
theorem pd1 : parseMethodDescriptor "(IILjava/util/function/BiFunction;)I" = some ⟨[.int, .int, (.object "java/util/function/BiFunction")], some .int⟩ := by decide +kernel
theorem pd2 : parseMethodDescriptor "(II)V" = some ⟨[.int, .int], none⟩ := by decide +kernel
theorem pd3 : parseMethodDescriptor "()Z" = some ⟨[], some .boolean⟩ := by decide +kernel
theorem pd4 : parseMethodDescriptor "([BI)C" = some ⟨[(.array .byte), .int], some .char⟩ := by decide +kernel
theorem pd5 : parseMethodDescriptor "(II)I" = some ⟨[.int, .int], some .int⟩ := by decide +kernel
theorem pd6 : parseMethodDescriptor "([BII)[B" = some ⟨[(.array .byte), .int, .int], some (.array .byte)⟩ := by decide +kernel
theorem pd7 : parseMethodDescriptor "(IIILjava/util/function/BiFunction;)I" = some ⟨[.int, .int, .int, (.object "java/util/function/BiFunction")], some .int⟩ := by decide +kernel
theorem pd8 : parseMethodDescriptor "([BB)V" = some ⟨[(.array .byte), .byte], none⟩ := by decide +kernel
theorem pd9 : parseMethodDescriptor "()I" = some ⟨[], some .int⟩ := by decide +kernel
theorem pd10 : parseMethodDescriptor "(III)V" = some ⟨[.int, .int, .int], none⟩ := by decide +kernel
theorem pd11 : parseMethodDescriptor "([BII)Ljava/lang/String;" = some ⟨[(.array .byte), .int, .int], some (.object "java/lang/String")⟩ := by decide +kernel
theorem pd12 : parseMethodDescriptor "(I)V" = some ⟨[.int], none⟩ := by decide +kernel
theorem pd13 : parseMethodDescriptor "(Ljava/lang/String;)V" = some ⟨[(.object "java/lang/String")], none⟩ := by decide +kernel
theorem pd14 : parseMethodDescriptor "([BIB)V" = some ⟨[(.array .byte), .int, .byte], none⟩ := by decide +kernel
theorem pd15 : parseMethodDescriptor "(ILjava/lang/String;)V" = some ⟨[.int, (.object "java/lang/String")], none⟩ := by decide +kernel
theorem pd16 : parseMethodDescriptor "(Ljava/lang/String;)Ljava/lang/AbstractStringBuilder;" = some ⟨[(.object "java/lang/String")], some (.object "java/lang/AbstractStringBuilder")⟩ := by decide +kernel
theorem pd17 : parseMethodDescriptor "()[B" = some ⟨[], some (.array .byte)⟩ := by decide +kernel
theorem pd18 : parseMethodDescriptor "(Ljava/lang/AbstractStringBuilder;Ljava/lang/Void;)V" = some ⟨[(.object "java/lang/AbstractStringBuilder"), (.object "java/lang/Void")], none⟩ := by decide +kernel
theorem pd19 : parseMethodDescriptor "(Ljava/lang/StringBuilder;)V" = some ⟨[(.object "java/lang/StringBuilder")], none⟩ := by decide +kernel
theorem pd20 : parseMethodDescriptor "(I)I" = some ⟨[.int], some .int⟩ := by decide +kernel
theorem pd21 : parseMethodDescriptor "(II[BI)V" = some ⟨[.int, .int, (.array .byte), .int], none⟩ := by decide +kernel
theorem pd22 : parseMethodDescriptor "(II)Ljava/lang/String;" = some ⟨[.int, .int], some (.object "java/lang/String")⟩ := by decide +kernel
theorem pd23 : parseMethodDescriptor "(I)Ljava/lang/String;" = some ⟨[.int], some (.object "java/lang/String")⟩ := by decide +kernel
theorem pd24 : parseMethodDescriptor "()V" = some ⟨[], none⟩ := by decide +kernel
theorem pd25 : parseMethodDescriptor "(Ljava/lang/String;)Ljava/lang/StringBuilder;" = some ⟨[(.object "java/lang/String")], some (.object "java/lang/StringBuilder")⟩ := by decide +kernel
theorem pd26 : parseMethodDescriptor "()Ljava/lang/String;" = some ⟨[], some (.object "java/lang/String")⟩ := by decide +kernel
theorem pd27 : parseMethodDescriptor "(C)Ljava/lang/String;" = some ⟨[.char], some (.object "java/lang/String")⟩ := by decide +kernel
theorem pd28 : parseMethodDescriptor "(I)C" = some ⟨[.int], some .char⟩ := by decide +kernel
theorem pn0 : plainName "java/lang/String" = true := by first | (simp [plainName, overriddenIn]; done) | decide +kernel
theorem pn1 : plainName "jdk/internal/util/Preconditions" = true := by first | (simp [plainName, overriddenIn]; done) | decide +kernel
theorem pn2 : plainName "java/lang/StringLatin1" = true := by first | (simp [plainName, overriddenIn]; done) | decide +kernel
theorem pn3 : plainName "java/util/Arrays" = true := by first | (simp [plainName, overriddenIn]; done) | decide +kernel
theorem pn4 : plainName "java/lang/AbstractStringBuilder" = true := by first | (simp [plainName, overriddenIn]; done) | decide +kernel
theorem pn5 : plainName "java/lang/StringBuilder" = true := by first | (simp [plainName, overriddenIn]; done) | decide +kernel
theorem pn6 : plainName "java/lang/Integer" = true := by first | (simp [plainName, overriddenIn]; done) | decide +kernel
theorem pn7 : plainName "com/example/isomorph/isomorph/JavaNames" = true := by first | (simp [plainName, overriddenIn]; done) | decide +kernel
theorem pn8 : plainName "com/example/isomorph/isomorph/JavaNamesUnicodeEscapePinLaw" = true := by first | (simp [plainName, overriddenIn]; done) | decide +kernel
theorem ef0 (m : MethodId) (x0 : Addr) : entryFrame m #[(.ref x0)] 1 = mkF m 0 #[.val (.ref x0)] [] := by (first | (simp [entryFrame, mkF, argsToLocals, Value.category]; done) | rfl)
theorem ef1 (m : MethodId) (x0 : Addr) : entryFrame m #[(.ref x0)] 1 = mkF m 0 #[.val (.ref x0)] [] := by (first | (simp [entryFrame, mkF, argsToLocals, Value.category]; done) | rfl)
theorem ef2 (m : MethodId) (x0 : Addr) : entryFrame m #[(.ref x0)] 1 = mkF m 0 #[.val (.ref x0)] [] := by (first | (simp [entryFrame, mkF, argsToLocals, Value.category]; done) | rfl)
theorem ef3 (m : MethodId) (x0 : Int32) (x1 : Int32) (x2 : Value) (hx2 : x2.isRef = true) : entryFrame m #[(.int x0), (.int x1), x2] 3 = mkF m 0 #[.val (.int x0), .val (.int x1), .val x2] [] := by rcases ref_cases hx2 with rfl | ⟨_, rfl⟩ <;> (first | (simp [entryFrame, mkF, argsToLocals, Value.category]; done) | rfl)
theorem ef4 (m : MethodId) (x0 : Int32) (x1 : Int32) : entryFrame m #[(.int x0), (.int x1)] 2 = mkF m 0 #[.val (.int x0), .val (.int x1)] [] := by (first | (simp [entryFrame, mkF, argsToLocals, Value.category]; done) | rfl)
theorem ef5 (m : MethodId) (x0 : Addr) (x1 : Int32) : entryFrame m #[(.ref x0), (.int x1)] 2 = mkF m 0 #[.val (.ref x0), .val (.int x1)] [] := by (first | (simp [entryFrame, mkF, argsToLocals, Value.category]; done) | rfl)
theorem ef6 (m : MethodId) (x0 : Addr) (x1 : Int32) : entryFrame m #[(.ref x0), (.int x1)] 2 = mkF m 0 #[.val (.ref x0), .val (.int x1)] [] := by (first | (simp [entryFrame, mkF, argsToLocals, Value.category]; done) | rfl)
theorem ef7 (m : MethodId) (x0 : Int32) (x1 : Int32) : entryFrame m #[(.int x0), (.int x1)] 2 = mkF m 0 #[.val (.int x0), .val (.int x1)] [] := by (first | (simp [entryFrame, mkF, argsToLocals, Value.category]; done) | rfl)
theorem ef8 (m : MethodId) (x0 : Int32) (x1 : Int32) : entryFrame m #[(.int x0), (.int x1)] 2 = mkF m 0 #[.val (.int x0), .val (.int x1)] [] := by (first | (simp [entryFrame, mkF, argsToLocals, Value.category]; done) | rfl)
theorem ef9 (m : MethodId) (x0 : Addr) (x1 : Int32) (x2 : Int32) : entryFrame m #[(.ref x0), (.int x1), (.int x2)] 5 = mkF m 0 #[.val (.ref x0), .val (.int x1), .val (.int x2), .unset, .unset] [] := by (first | (simp [entryFrame, mkF, argsToLocals, Value.category]; done) | rfl)
theorem ef10 (m : MethodId) (x0 : Addr) (x1 : Int32) (x2 : Int32) : entryFrame m #[(.ref x0), (.int x1), (.int x2)] 3 = mkF m 0 #[.val (.ref x0), .val (.int x1), .val (.int x2)] [] := by (first | (simp [entryFrame, mkF, argsToLocals, Value.category]; done) | rfl)
theorem ef11 (m : MethodId) (x0 : Addr) (x1 : Addr) : entryFrame m #[(.ref x0), (.ref x1), (.int (0 : Int32))] 3 = mkF m 0 #[.val (.ref x0), .val (.ref x1), .val (.int (0 : Int32))] [] := by (first | (simp [entryFrame, mkF, argsToLocals, Value.category]; done) | rfl)
theorem ef12 (m : MethodId) (x0 : Int32) (x1 : Int32) (x2 : Int32) (x3 : Value) (hx3 : x3.isRef = true) : entryFrame m #[(.int x0), (.int x1), (.int x2), x3] 4 = mkF m 0 #[.val (.int x0), .val (.int x1), .val (.int x2), .val x3] [] := by rcases ref_cases hx3 with rfl | ⟨_, rfl⟩ <;> (first | (simp [entryFrame, mkF, argsToLocals, Value.category]; done) | rfl)
theorem ef13 (m : MethodId) (x0 : Int32) (x1 : Int32) (x2 : Int32) : entryFrame m #[(.int x0), (.int x1), (.int x2)] 3 = mkF m 0 #[.val (.int x0), .val (.int x1), .val (.int x2)] [] := by (first | (simp [entryFrame, mkF, argsToLocals, Value.category]; done) | rfl)
theorem ef14 (m : MethodId) (x0 : Addr) (x1 : Int32) (x2 : Int32) : entryFrame m #[(.ref x0), (.int x1), (.int x2)] 3 = mkF m 0 #[.val (.ref x0), .val (.int x1), .val (.int x2)] [] := by (first | (simp [entryFrame, mkF, argsToLocals, Value.category]; done) | rfl)
theorem ef15 (m : MethodId) (x0 : Addr) (x1 : Int32) (x2 : Int32) : entryFrame m #[(.ref x0), (.int x1), (.int x2)] 5 = mkF m 0 #[.val (.ref x0), .val (.int x1), .val (.int x2), .unset, .unset] [] := by (first | (simp [entryFrame, mkF, argsToLocals, Value.category]; done) | rfl)
theorem ef16 (m : MethodId) (x0 : Addr) : entryFrame m #[(.ref x0), (.int (16 : Int32))] 2 = mkF m 0 #[.val (.ref x0), .val (.int (16 : Int32))] [] := by (first | (simp [entryFrame, mkF, argsToLocals, Value.category]; done) | rfl)
theorem ef17 (m : MethodId) (x0 : Addr) : entryFrame m #[(.ref x0)] 1 = mkF m 0 #[.val (.ref x0)] [] := by (first | (simp [entryFrame, mkF, argsToLocals, Value.category]; done) | rfl)
theorem ef18 (m : MethodId) (x0 : Addr) (x1 : Int32) : entryFrame m #[(.ref x0), (.int x1)] 3 = mkF m 0 #[.val (.ref x0), .val (.int x1), .unset] [] := by (first | (simp [entryFrame, mkF, argsToLocals, Value.category]; done) | rfl)
theorem ef19 (m : MethodId) (x0 : Addr) (x1 : Addr) : entryFrame m #[(.ref x0), (.ref x1)] 2 = mkF m 0 #[.val (.ref x0), .val (.ref x1)] [] := by (first | (simp [entryFrame, mkF, argsToLocals, Value.category]; done) | rfl)
theorem ef20 (m : MethodId) (x0 : Addr) (x1 : Addr) (x2 : Int32) : entryFrame m #[(.ref x0), (.ref x1), (.int x2), (.int (0 : Int32))] 4 = mkF m 0 #[.val (.ref x0), .val (.ref x1), .val (.int x2), .val (.int (0 : Int32))] [] := by (first | (simp [entryFrame, mkF, argsToLocals, Value.category]; done) | rfl)
theorem ef21 (m : MethodId) (x0 : Addr) (x1 : Int32) (x2 : Addr) : entryFrame m #[(.ref x0), (.int x1), (.ref x2)] 3 = mkF m 0 #[.val (.ref x0), .val (.int x1), .val (.ref x2)] [] := by (first | (simp [entryFrame, mkF, argsToLocals, Value.category]; done) | rfl)
theorem ef22 (m : MethodId) (x0 : Addr) (x1 : Addr) : entryFrame m #[(.ref x0), (.ref x1)] 3 = mkF m 0 #[.val (.ref x0), .val (.ref x1), .unset] [] := by (first | (simp [entryFrame, mkF, argsToLocals, Value.category]; done) | rfl)
theorem ef23 (m : MethodId) (x0 : Addr) (x1 : Addr) : entryFrame m #[(.ref x0), (.ref x1)] 2 = mkF m 0 #[.val (.ref x0), .val (.ref x1)] [] := by (first | (simp [entryFrame, mkF, argsToLocals, Value.category]; done) | rfl)
theorem ef24 (m : MethodId) (x0 : Addr) : entryFrame m #[(.ref x0)] 1 = mkF m 0 #[.val (.ref x0)] [] := by (first | (simp [entryFrame, mkF, argsToLocals, Value.category]; done) | rfl)
theorem ef25 (m : MethodId) (x0 : Addr) : entryFrame m #[(.ref x0)] 1 = mkF m 0 #[.val (.ref x0)] [] := by (first | (simp [entryFrame, mkF, argsToLocals, Value.category]; done) | rfl)
theorem ef26 (m : MethodId) (x0 : Addr) : entryFrame m #[(.ref x0)] 1 = mkF m 0 #[.val (.ref x0)] [] := by (first | (simp [entryFrame, mkF, argsToLocals, Value.category]; done) | rfl)
theorem ef27 (m : MethodId) (x0 : Addr) : entryFrame m #[(.ref x0)] 1 = mkF m 0 #[.val (.ref x0)] [] := by (first | (simp [entryFrame, mkF, argsToLocals, Value.category]; done) | rfl)
theorem ef28 (m : MethodId) (x0 : Addr) (x1 : Addr) : entryFrame m #[(.ref x0), (.ref x1), .null] 5 = mkF m 0 #[.val (.ref x0), .val (.ref x1), .val .null, .unset, .unset] [] := by (first | (simp [entryFrame, mkF, argsToLocals, Value.category]; done) | rfl)
theorem ef29 (m : MethodId) (x0 : Addr) (x1 : Addr) : entryFrame m #[(.ref x0), (.ref x1)] 2 = mkF m 0 #[.val (.ref x0), .val (.ref x1)] [] := by (first | (simp [entryFrame, mkF, argsToLocals, Value.category]; done) | rfl)
theorem ef30 (m : MethodId) (x0 : Addr) : entryFrame m #[(.ref x0)] 1 = mkF m 0 #[.val (.ref x0)] [] := by (first | (simp [entryFrame, mkF, argsToLocals, Value.category]; done) | rfl)
theorem ef31 (m : MethodId) (x0 : Int32) : entryFrame m #[(.int x0)] 2 = mkF m 0 #[.val (.int x0), .unset] [] := by (first | (simp [entryFrame, mkF, argsToLocals, Value.category]; done) | rfl)
theorem ef32 (m : MethodId) (x0 : Int32) (x1 : Int32) : entryFrame m #[(.int x0), (.int x1)] 2 = mkF m 0 #[.val (.int x0), .val (.int x1)] [] := by (first | (simp [entryFrame, mkF, argsToLocals, Value.category]; done) | rfl)
theorem ef33 (m : MethodId) (x0 : Int32) (x2 : Addr) : entryFrame m #[(.int x0), (.int (4 : Int32)), (.ref x2), (.int (1 : Int32))] 7 = mkF m 0 #[.val (.int x0), .val (.int (4 : Int32)), .val (.ref x2), .val (.int (1 : Int32)), .unset, .unset, .unset] [] := by (first | (simp [entryFrame, mkF, argsToLocals, Value.category]; done) | rfl)
theorem ef34 (m : MethodId) (x0 : Int32) (x2 : Addr) : entryFrame m #[(.int x0), (.int (4 : Int32)), (.ref x2), (.int (2 : Int32))] 7 = mkF m 0 #[.val (.int x0), .val (.int (4 : Int32)), .val (.ref x2), .val (.int (2 : Int32)), .unset, .unset, .unset] [] := by (first | (simp [entryFrame, mkF, argsToLocals, Value.category]; done) | rfl)
theorem ef35 (m : MethodId) (x0 : Int32) (x2 : Addr) : entryFrame m #[(.int x0), (.int (4 : Int32)), (.ref x2), (.int (3 : Int32))] 7 = mkF m 0 #[.val (.int x0), .val (.int (4 : Int32)), .val (.ref x2), .val (.int (3 : Int32)), .unset, .unset, .unset] [] := by (first | (simp [entryFrame, mkF, argsToLocals, Value.category]; done) | rfl)
theorem ef36 (m : MethodId) (x0 : Int32) (x2 : Addr) : entryFrame m #[(.int x0), (.int (4 : Int32)), (.ref x2), (.int (4 : Int32))] 7 = mkF m 0 #[.val (.int x0), .val (.int (4 : Int32)), .val (.ref x2), .val (.int (4 : Int32)), .unset, .unset, .unset] [] := by (first | (simp [entryFrame, mkF, argsToLocals, Value.category]; done) | rfl)
theorem ef37 (m : MethodId) (x0 : Int32) : entryFrame m #[(.int x0), (.int (4 : Int32))] 5 = mkF m 0 #[.val (.int x0), .val (.int (4 : Int32)), .unset, .unset, .unset] [] := by (first | (simp [entryFrame, mkF, argsToLocals, Value.category]; done) | rfl)
theorem ef38 (m : MethodId) (x0 : Int32) : entryFrame m #[(.int x0)] 1 = mkF m 0 #[.val (.int x0)] [] := by (first | (simp [entryFrame, mkF, argsToLocals, Value.category]; done) | rfl)
theorem ef39 (m : MethodId) (x0 : Addr) (x1 : Int32) : entryFrame m #[(.ref x0), (.int x1)] 2 = mkF m 0 #[.val (.ref x0), .val (.int x1)] [] := by (first | (simp [entryFrame, mkF, argsToLocals, Value.category]; done) | rfl)
theorem ef40 (m : MethodId) (x0 : Int32) : entryFrame m #[(.int x0)] 2 = mkF m 0 #[.val (.int x0), .unset] [] := by (first | (simp [entryFrame, mkF, argsToLocals, Value.category]; done) | rfl)
theorem ef41 (m : MethodId) (x0 : Int32) : entryFrame m #[(.int x0)] 1 = mkF m 0 #[.val (.int x0)] [] := by (first | (simp [entryFrame, mkF, argsToLocals, Value.category]; done) | rfl)
theorem ef42 (m : MethodId) (x0 : Int32) : entryFrame m #[(.int x0)] maxLocals = mkF m 0 #[.val (.int x0), .unset, .unset, .unset] [] := by (first | (simp [entryFrame, mkF, argsToLocals, Value.category, maxLocals]; done) | rfl)
/-- the String at x spells cs (Latin-1, at most 4,000 signs) -/
def Str (Z : State) (h : Heap) (x : Addr) (cs : List Int32) : Prop := Exa Z h x StN ∧ Fld Z h x StN "coder" "B" (.int 0) ∧ (∃ t, Fld Z h x StN "value" "[B" (.ref t) ∧ Wk.Ary Z h t .byte ((cs.map fun c => c.toInt8.toInt32).map Value.int)) ∧ (∀ c ∈ cs, ¬ c < 0 ∧ ¬ (255 : Int32) < c) ∧ cs.length ≤ 4000
theorem Str.ext {Z : State} {h h' : Heap} {x : Addr} {cs : List Int32} (F : Str Z h x cs) (E : Ext h h') : Str Z h' x cs := by
  obtain ⟨a, b, ⟨t, c, d⟩, r⟩ := F
  exact ⟨a.ext E, b.ext E, ⟨t, c.ext E, d.ext E⟩, r⟩
theorem Str.exa {Z : State} {h : Heap} {x : Addr} {cs : List Int32} (F : Str Z h x cs) : Exa Z h x StN := F.1
theorem Str.lt {Z : State} {h : Heap} {x : Addr} {cs : List Int32} (F : Str Z h x cs) : x < h.size := F.1.lt
theorem pureC {Z : State} {h : Heap} {P : Option Value → Prop} (O : Ext Z.heap h) : Wk.Clean Z (fun v h' => P v ∧ h' = h) (fun v h' L => P v ∧ L = [] ∧ h' = h) := by
  rintro v h' L ⟨q, rfl, rfl⟩
  exact ⟨⟨q, rfl⟩, O, Fr.nil _⟩
namespace Ww
open Jvm Jvm.ClassFile Sem Op Lib Jvm.Free Jvm.Stand Jvm.LawKit Jvm.RoadKit Wk
def Go (R : Room) (Z : State) (EL : List (String × Nat)) (W : Wd) (Q : Post) (A : State) : Prop :=
  ∃ s₂ o, Steps W.p.tables W.e W.b A s₂ ∧ s₂.status = .running ∧ Ended s₂ W.b o ∧ ∃ v L, o = .returned v ∧ (Q v s₂.heap ∧ Ext Z.heap s₂.heap ∧ Fr Z.heap.size L) ∧ CHr Z EL W.s.vm W.s.heap s₂.vm s₂.heap ∧ ReturnedEndW W.s o s₂ L R.cells R.slots
abbrev At (W : Wd) (vm0 : Vm) : Wd := (W.p, W.e, W.s.setVm vm0, W.m, W.a, W.b, W.t, W.c)
abbrev Std (l : Launch) (R : Room) (W : Wd) (vm0 : Vm) (T : State) (locs : List Loc) (k n : Nat) : Prop := Stand W.p l W.e R (W.s.setVm vm0) W.m W.a W.b W.t W.c T locs k n
def Inv (Z : State) (EL : List (String × Nat)) (W : Wd) (S : List Addr) (vm0 : Vm) (h : Heap) : Prop :=
  (∃ k0, W.s.Since vm0 k0 ∧ k0 ≤ h.size) ∧ Z.Warmed39 vm0 ∧ CHr Z EL W.s.vm W.s.heap vm0 h ∧ ∀ x ∈ S, x < h.size ∧ Safe Z EL vm0 h x
def Run (l : Launch) (R : Room) (Z : State) (EL : List (String × Nat)) (W : Wd) (Q : Post) (S : List Addr) (h : Heap) (k n : Nat) (f : JFrame) : Prop :=
  ∀ vm0 T locs, Std l R W vm0 T locs k n → T.heap = h → Fr Z.heap.size locs → Ext Z.heap h → Inv Z EL W S vm0 h → Go R Z EL W Q (T.setTop f)
section Kit
variable {l : Launch} {R : Room} {Z : State} {EL : List (String × Nat)} {W : Wd} {Q : Post} {S : List Addr} {h : Heap} {k n : Nat} {own nm : String} {code : ByteArray} {maxL : Nat} {ret : Option FieldType} {a0 : Array Value} {pc pc' : Nat} {Ls : Array Slot} {st : List Value}
theorem Inv.hZ {vm0 : Vm} (I : Inv Z EL W S vm0 h) : Z.Warmed39 (W.s.setVm vm0).vm := I.2.1
theorem Inv.ow {vm0 : Vm} (I : Inv Z EL W S vm0 h) (C : Cx Z W own nm code maxL ret) : (W.s.setVm vm0).vm.findClass own = some W.m.cls := by
  obtain ⟨k0, hS, -⟩ := I.1
  show vm0.findClass own = _
  rw [hS.1.alike.findClass]; exact C.ow
theorem Inv.cx {vm0 : Vm} (I : Inv Z EL W S vm0 h) (C : Cx Z W own nm code maxL ret) : Cx Z (At W vm0) own nm code maxL ret :=
  ⟨C.1, C.2.1, C.2.2.1, I.ow C, I.hZ, C.2.2.2.2.2.1, C.2.2.2.2.2.2.1, C.2.2.2.2.2.2.2⟩
theorem Inv.ch {vm0 : Vm} (I : Inv Z EL W S vm0 h) : CHv Z EL vm0 h := I.2.2.1.1
theorem Inv.ext {vm0 : Vm} {h' : Heap} (I : Inv Z EL W S vm0 h) (E : Ext h h') : Inv Z EL W S vm0 h' := by
  obtain ⟨⟨k0, hS, hk⟩, hZ, hr, hs⟩ := I
  exact ⟨⟨k0, hS, Nat.le_trans hk E.1⟩, hZ, hr.trans (CHr.ext E hr.1), fun x hx => ⟨Nat.lt_of_lt_of_le (hs x hx).1 E.1, (hs x hx).2.ext E hr.1⟩⟩
theorem Inv.keep {vm0 : Vm} {h' : Heap} {ws : List Addr} (I : Inv Z EL W S vm0 h) (K : Keep h h' ws) (q : ∀ x ∈ ws, x ∈ S) : Inv Z EL W S vm0 h' := by
  obtain ⟨⟨k0, hS, hk⟩, hZ, hr, hs⟩ := I
  have hq : ∀ x ∈ ws, Safe Z EL vm0 h x := fun x hx => (hs x (q x hx)).2
  exact ⟨⟨k0, hS, Nat.le_trans hk K.1⟩, hZ, hr.trans (CHr.keep K hq hr.1), fun x hx => ⟨Nat.lt_of_lt_of_le (hs x hx).1 K.1, (hs x hx).2.keep K hq hr.1⟩⟩
theorem Inv.add {vm0 : Vm} {x : Addr} (I : Inv Z EL W S vm0 h) (hx : x < h.size) (sf : Safe Z EL vm0 h x) : Inv Z EL W (x :: S) vm0 h :=
  ⟨I.1, I.2.1, I.2.2.1, fun y hy => (List.mem_cons.mp hy).elim (fun e => e ▸ ⟨hx, sf⟩) (I.2.2.2 y)⟩
theorem Inv.fresh {vm0 : Vm} {h' : Heap} (I : Inv Z EL W S vm0 h) (E : Ext h h') (hx : h.size < h'.size) : Inv Z EL W (h.size :: S) vm0 h' :=
  (I.ext E).add hx ((Safe.new (Nat.le_refl _)).ext E I.ch)
theorem Go.step {A B : State} (f : ∀ t, Steps W.p.tables W.e W.b B t → Steps W.p.tables W.e W.b A t) (g : Go R Z EL W Q B) : Go R Z EL W Q A := by
  obtain ⟨t, o, h1, r⟩ := g
  exact ⟨t, o, f t h1, r⟩
theorem Run.one {g g' : JFrame} (f : ∀ vm0 T locs, Std l R W vm0 T locs k n → T.heap = h → Inv Z EL W S vm0 h → ∀ t, Steps W.p.tables W.e W.b (T.setTop g') t → Steps W.p.tables W.e W.b (T.setTop g) t) (r : Run l R Z EL W Q S h k n g') : Run l R Z EL W Q S h k n g :=
  fun vm0 T locs X eT N O I => Go.step (f vm0 T locs X eT I) (r vm0 T locs X eT N O I)
theorem Run.old {f : JFrame} (r : Ext Z.heap h → Run l R Z EL W Q S h k n f) : Run l R Z EL W Q S h k n f := fun vm0 T locs X eT N O I => r O vm0 T locs X eT N O I
theorem Run.grow {f : JFrame} {k' n' : Nat} (hk : k ≤ k') (hn : n ≤ n') (r : Run l R Z EL W Q S h k' n' f) : Run l R Z EL W Q S h k n f := fun vm0 T locs X eT N O I =>
  r vm0 T locs ⟨X.admits, X.cas, X.clock, X.frames, X.room, X.hears, X.method, X.code, X.here, X.tail, X.warmed, X.limits, X.bytes, X.same.mono hk hn⟩ eT N O I
theorem Run.less {f : JFrame} {S' : List Addr} (q : ∀ x ∈ S', x ∈ S) (r : Run l R Z EL W Q S' h k n f) : Run l R Z EL W Q S h k n f := fun vm0 T locs X eT N O I => r vm0 T locs X eT N O ⟨I.1, I.2.1, I.2.2.1, fun x hx => I.2.2.2 x (q x hx)⟩
/-- what is no constant of EL's, by what it holds -/
def SafeAt (Z : State) (EL : List (String × Nat)) (h : Heap) (x : Addr) : Prop := ∀ vm, Z.vm.Alike vm → CHv Z EL vm h → Safe Z EL vm h x
theorem Run.safe {f : JFrame} {x : Addr} (hx : x < h.size) (sf : SafeAt Z EL h x) (r : Run l R Z EL W Q (x :: S) h k n f) : Run l R Z EL W Q S h k n f :=
  fun vm0 T locs X eT N O I => r vm0 T locs X eT N O (I.add hx (sf vm0 I.2.1.alike I.ch))
theorem SafeAt.exa {x : Addr} {C : String} (E : Exa Z h x C) (h1 : C ≠ "java/lang/String") (h2 : C ≠ "[B") : SafeAt Z EL h x := fun vm al _ => Safe.exa al E h1 h2
theorem SafeAt.ary {x : Addr} {ty : FieldType} {vs : List Value} (F : Ary Z h x ty vs) (ht : ty ≠ .byte) : SafeAt Z EL h x := fun vm al _ => by
  obtain ⟨c, A, -⟩ := F
  exact Safe.arr al A ht
theorem SafeAt.str0 {x : Addr} (E : Exa Z h x "java/lang/String") (V : Fld Z h x "java/lang/String" "value" "[B" .null) : SafeAt Z EL h x := fun vm al _ B => by
  obtain ⟨p, -, u, a, -, q, -, F, rfl | rfl⟩ := B
  · obtain ⟨cS, ⟨⟨ha, -, -, ⟨c1, k1, i1, f1, -⟩, -, -, -, v1, -⟩, -⟩, -⟩ := F
    obtain ⟨cell, cf, k, i, f, h1, h2, -, -, -, -, h7⟩ := V
    cases (show h[q.sa]? = some q.sC from ha).symm.trans h1
    obtain ⟨k3, e3, -⟩ := State.fieldFound?_setVm (s := Z) al h2
    have e4 := (show (Wst Z vm h).fieldFound? _ _ _ = _ from e3).symm.trans f1
    simp only [Option.some.injEq, Prod.mk.injEq] at e4
    rw [e4.2.2.2, v1] at h7
    cases h7
  · obtain ⟨cell, k, e1, e2, -⟩ := E
    cases (show h[q.sd]? = some q.SA from F.hd).symm.trans e1
    obtain ⟨cS, -, -, f, -⟩ := F
    have f' : Z.vm.findClass "[B" = some q.SA.cls := by rw [← al.findClass]; exact f
    exact ids_ne f' e2 (by decide) rfl
theorem iloadN (C : Cx Z W own nm code maxL ret) {i : Fin 4} {v : Int32} (hd : decode code pc = .ok (.iload_n i, 1)) (hl : Ls[i.val]? = some (.val (.int v))) (hp : pc + 1 = pc')
    (r : Run l R Z EL W Q S h k n (mkF W.m pc' Ls (.int v :: st))) : Run l R Z EL W Q S h k n (mkF W.m pc Ls (st)) := by
  subst hp
  exact Run.one (fun vm0 T locs X _ I t g => XS.iloadN X.here C.hx rfl (C.hb hd) hl g) r
theorem iload (C : Cx Z W own nm code maxL ret) {i : Nat} {v : Int32} (hd : decode code pc = .ok (.iload i, 2)) (hl : Ls[i]? = some (.val (.int v))) (hp : pc + 2 = pc')
    (r : Run l R Z EL W Q S h k n (mkF W.m pc' Ls (.int v :: st))) : Run l R Z EL W Q S h k n (mkF W.m pc Ls (st)) := by
  subst hp
  exact Run.one (fun vm0 T locs X _ I t g => XS.iload X.here C.hx rfl (C.hb hd) hl g) r
theorem lloadN (C : Cx Z W own nm code maxL ret) {i : Fin 4} {v : Int64} (hd : decode code pc = .ok (.lload_n i, 1)) (hl : Ls[i.val]? = some (.val (.long v))) (hp : pc + 1 = pc')
    (r : Run l R Z EL W Q S h k n (mkF W.m pc' Ls (.long v :: st))) : Run l R Z EL W Q S h k n (mkF W.m pc Ls (st)) := by
  subst hp
  exact Run.one (fun vm0 T locs X _ I t g => XS.lloadN X.here C.hx rfl (C.hb hd) hl g) r
theorem lload (C : Cx Z W own nm code maxL ret) {i : Nat} {v : Int64} (hd : decode code pc = .ok (.lload i, 2)) (hl : Ls[i]? = some (.val (.long v))) (hp : pc + 2 = pc')
    (r : Run l R Z EL W Q S h k n (mkF W.m pc' Ls (.long v :: st))) : Run l R Z EL W Q S h k n (mkF W.m pc Ls (st)) := by
  subst hp
  exact Run.one (fun vm0 T locs X _ I t g => XS.lload X.here C.hx rfl (C.hb hd) hl g) r
theorem aloadN (C : Cx Z W own nm code maxL ret) {i : Fin 4} {v : Value} (hd : decode code pc = .ok (.aload_n i, 1)) (hl : Ls[i.val]? = some (.val v)) (hv : v.isRef = true) (hp : pc + 1 = pc')
    (r : Run l R Z EL W Q S h k n (mkF W.m pc' Ls (v :: st))) : Run l R Z EL W Q S h k n (mkF W.m pc Ls (st)) := by
  subst hp
  exact Run.one (fun vm0 T locs X _ I t g => XS.aloadN X.here C.hx rfl (C.hb hd) hl hv g) r
theorem aload (C : Cx Z W own nm code maxL ret) {i : Nat} {v : Value} (hd : decode code pc = .ok (.aload i, 2)) (hl : Ls[i]? = some (.val v)) (hv : v.isRef = true) (hp : pc + 2 = pc')
    (r : Run l R Z EL W Q S h k n (mkF W.m pc' Ls (v :: st))) : Run l R Z EL W Q S h k n (mkF W.m pc Ls (st)) := by
  subst hp
  exact Run.one (fun vm0 T locs X _ I t g => XS.aload X.here C.hx rfl (C.hb hd) hl hv g) r
theorem istoreN (C : Cx Z W own nm code maxL ret) {i : Fin 4} {v : Int32} {Ls' : Array Slot} (hd : decode code pc = .ok (.istore_n i, 1)) (hl : storeLocals Ls i.val (.int v) = some Ls') (hp : pc + 1 = pc')
    (r : Run l R Z EL W Q S h k n (mkF W.m pc' Ls' (st))) : Run l R Z EL W Q S h k n (mkF W.m pc Ls (.int v :: st)) := by
  subst hp
  exact Run.one (fun vm0 T locs X _ I t g => XS.istoreN X.here C.hx rfl (C.hb hd) rfl hl g) r
theorem istore (C : Cx Z W own nm code maxL ret) {i : Nat} {v : Int32} {Ls' : Array Slot} (hd : decode code pc = .ok (.istore i, 2)) (hl : storeLocals Ls i (.int v) = some Ls') (hp : pc + 2 = pc')
    (r : Run l R Z EL W Q S h k n (mkF W.m pc' Ls' (st))) : Run l R Z EL W Q S h k n (mkF W.m pc Ls (.int v :: st)) := by
  subst hp
  exact Run.one (fun vm0 T locs X _ I t g => XS.istore X.here C.hx rfl (C.hb hd) rfl hl g) r
theorem lstoreN (C : Cx Z W own nm code maxL ret) {i : Fin 4} {v : Int64} {Ls' : Array Slot} (hd : decode code pc = .ok (.lstore_n i, 1)) (hl : storeLocals Ls i.val (.long v) = some Ls') (hp : pc + 1 = pc')
    (r : Run l R Z EL W Q S h k n (mkF W.m pc' Ls' (st))) : Run l R Z EL W Q S h k n (mkF W.m pc Ls (.long v :: st)) := by
  subst hp
  exact Run.one (fun vm0 T locs X _ I t g => XS.lstoreN X.here C.hx rfl (C.hb hd) rfl hl g) r
theorem lstore (C : Cx Z W own nm code maxL ret) {i : Nat} {v : Int64} {Ls' : Array Slot} (hd : decode code pc = .ok (.lstore i, 2)) (hl : storeLocals Ls i (.long v) = some Ls') (hp : pc + 2 = pc')
    (r : Run l R Z EL W Q S h k n (mkF W.m pc' Ls' (st))) : Run l R Z EL W Q S h k n (mkF W.m pc Ls (.long v :: st)) := by
  subst hp
  exact Run.one (fun vm0 T locs X _ I t g => XS.lstore X.here C.hx rfl (C.hb hd) rfl hl g) r
theorem astoreN (C : Cx Z W own nm code maxL ret) {i : Fin 4} {v : Value} {Ls' : Array Slot} (hd : decode code pc = .ok (.astore_n i, 1)) (hv : v.isRef = true) (hl : storeLocals Ls i.val v = some Ls') (hp : pc + 1 = pc')
    (r : Run l R Z EL W Q S h k n (mkF W.m pc' Ls' (st))) : Run l R Z EL W Q S h k n (mkF W.m pc Ls (v :: st)) := by
  subst hp
  exact Run.one (fun vm0 T locs X _ I t g => XS.astoreN X.here C.hx rfl (C.hb hd) rfl hv hl g) r
theorem astore (C : Cx Z W own nm code maxL ret) {i : Nat} {v : Value} {Ls' : Array Slot} (hd : decode code pc = .ok (.astore i, 2)) (hv : v.isRef = true) (hl : storeLocals Ls i v = some Ls') (hp : pc + 2 = pc')
    (r : Run l R Z EL W Q S h k n (mkF W.m pc' Ls' (st))) : Run l R Z EL W Q S h k n (mkF W.m pc Ls (v :: st)) := by
  subst hp
  exact Run.one (fun vm0 T locs X _ I t g => XS.astore X.here C.hx rfl (C.hb hd) rfl hv hl g) r
theorem iconst (C : Cx Z W own nm code maxL ret) {i : Int} {v : Int32} (hd : decode code pc = .ok (.iconst i, 1)) (hv : Int32.ofInt i = v) (hp : pc + 1 = pc')
    (r : Run l R Z EL W Q S h k n (mkF W.m pc' Ls (.int v :: st))) : Run l R Z EL W Q S h k n (mkF W.m pc Ls (st)) := by
  subst hp
  exact Run.one (fun vm0 T locs X _ I t g => XS.iconst X.here C.hx rfl (C.hb hd) (hv ▸ g)) r
theorem bipush (C : Cx Z W own nm code maxL ret) {i : Int} {v : Int32} (hd : decode code pc = .ok (.bipush i, 2)) (hv : (Int8.ofInt i).toInt32 = v) (hp : pc + 2 = pc')
    (r : Run l R Z EL W Q S h k n (mkF W.m pc' Ls (.int v :: st))) : Run l R Z EL W Q S h k n (mkF W.m pc Ls (st)) := by
  subst hp
  exact Run.one (fun vm0 T locs X _ I t g => XS.bipush X.here C.hx rfl (C.hb hd) (hv ▸ g)) r
theorem sipush (C : Cx Z W own nm code maxL ret) {i : Int} {v : Int32} (hd : decode code pc = .ok (.sipush i, 3)) (hv : (Int16.ofInt i).toInt32 = v) (hp : pc + 3 = pc')
    (r : Run l R Z EL W Q S h k n (mkF W.m pc' Ls (.int v :: st))) : Run l R Z EL W Q S h k n (mkF W.m pc Ls (st)) := by
  subst hp
  exact Run.one (fun vm0 T locs X _ I t g => XS.sipush X.here C.hx rfl (C.hb hd) (hv ▸ g)) r
theorem lconst (C : Cx Z W own nm code maxL ret) {i : Fin 2} {v : Int64} (hd : decode code pc = .ok (.lconst i, 1)) (hv : Int64.ofNat i = v) (hp : pc + 1 = pc')
    (r : Run l R Z EL W Q S h k n (mkF W.m pc' Ls (.long v :: st))) : Run l R Z EL W Q S h k n (mkF W.m pc Ls (st)) := by
  subst hp
  exact Run.one (fun vm0 T locs X _ I t g => XS.lconst X.here C.hx rfl (C.hb hd) (hv ▸ g)) r
theorem aconstNull (C : Cx Z W own nm code maxL ret)  (hd : decode code pc = .ok (.aconst_null, 1)) (hp : pc + 1 = pc')
    (r : Run l R Z EL W Q S h k n (mkF W.m pc' Ls (.null :: st))) : Run l R Z EL W Q S h k n (mkF W.m pc Ls (st)) := by
  subst hp
  exact Run.one (fun vm0 T locs X _ I t g => XS.aconstNull X.here C.hx rfl (C.hb hd) g) r
theorem iadd (C : Cx Z W own nm code maxL ret) {x y v : Int32} (hd : decode code pc = .ok (.iadd, 1)) (hv : x + y = v) (hp : pc + 1 = pc')
    (r : Run l R Z EL W Q S h k n (mkF W.m pc' Ls (.int v :: st))) : Run l R Z EL W Q S h k n (mkF W.m pc Ls (.int y :: .int x :: st)) := by
  subst hp
  exact Run.one (fun vm0 T locs X _ I t g => XS.iadd X.here C.hx rfl (C.hb hd) rfl (hv ▸ g)) r
theorem isub (C : Cx Z W own nm code maxL ret) {x y v : Int32} (hd : decode code pc = .ok (.isub, 1)) (hv : x - y = v) (hp : pc + 1 = pc')
    (r : Run l R Z EL W Q S h k n (mkF W.m pc' Ls (.int v :: st))) : Run l R Z EL W Q S h k n (mkF W.m pc Ls (.int y :: .int x :: st)) := by
  subst hp
  exact Run.one (fun vm0 T locs X _ I t g => XS.isub X.here C.hx rfl (C.hb hd) rfl (hv ▸ g)) r
theorem imul (C : Cx Z W own nm code maxL ret) {x y v : Int32} (hd : decode code pc = .ok (.imul, 1)) (hv : x * y = v) (hp : pc + 1 = pc')
    (r : Run l R Z EL W Q S h k n (mkF W.m pc' Ls (.int v :: st))) : Run l R Z EL W Q S h k n (mkF W.m pc Ls (.int y :: .int x :: st)) := by
  subst hp
  exact Run.one (fun vm0 T locs X _ I t g => XS.imul X.here C.hx rfl (C.hb hd) rfl (hv ▸ g)) r
theorem iand (C : Cx Z W own nm code maxL ret) {x y v : Int32} (hd : decode code pc = .ok (.iand, 1)) (hv : x &&& y = v) (hp : pc + 1 = pc')
    (r : Run l R Z EL W Q S h k n (mkF W.m pc' Ls (.int v :: st))) : Run l R Z EL W Q S h k n (mkF W.m pc Ls (.int y :: .int x :: st)) := by
  subst hp
  exact Run.one (fun vm0 T locs X _ I t g => XS.iand X.here C.hx rfl (C.hb hd) rfl (hv ▸ g)) r
theorem ior (C : Cx Z W own nm code maxL ret) {x y v : Int32} (hd : decode code pc = .ok (.ior, 1)) (hv : x ||| y = v) (hp : pc + 1 = pc')
    (r : Run l R Z EL W Q S h k n (mkF W.m pc' Ls (.int v :: st))) : Run l R Z EL W Q S h k n (mkF W.m pc Ls (.int y :: .int x :: st)) := by
  subst hp
  exact Run.one (fun vm0 T locs X _ I t g => XS.ior X.here C.hx rfl (C.hb hd) rfl (hv ▸ g)) r
theorem ixor (C : Cx Z W own nm code maxL ret) {x y v : Int32} (hd : decode code pc = .ok (.ixor, 1)) (hv : x ^^^ y = v) (hp : pc + 1 = pc')
    (r : Run l R Z EL W Q S h k n (mkF W.m pc' Ls (.int v :: st))) : Run l R Z EL W Q S h k n (mkF W.m pc Ls (.int y :: .int x :: st)) := by
  subst hp
  exact Run.one (fun vm0 T locs X _ I t g => XS.ixor X.here C.hx rfl (C.hb hd) rfl (hv ▸ g)) r
theorem ladd (C : Cx Z W own nm code maxL ret) {x y v : Int64} (hd : decode code pc = .ok (.ladd, 1)) (hv : x + y = v) (hp : pc + 1 = pc')
    (r : Run l R Z EL W Q S h k n (mkF W.m pc' Ls (.long v :: st))) : Run l R Z EL W Q S h k n (mkF W.m pc Ls (.long y :: .long x :: st)) := by
  subst hp
  exact Run.one (fun vm0 T locs X _ I t g => XS.ladd X.here C.hx rfl (C.hb hd) rfl (hv ▸ g)) r
theorem lsub (C : Cx Z W own nm code maxL ret) {x y v : Int64} (hd : decode code pc = .ok (.lsub, 1)) (hv : x - y = v) (hp : pc + 1 = pc')
    (r : Run l R Z EL W Q S h k n (mkF W.m pc' Ls (.long v :: st))) : Run l R Z EL W Q S h k n (mkF W.m pc Ls (.long y :: .long x :: st)) := by
  subst hp
  exact Run.one (fun vm0 T locs X _ I t g => XS.lsub X.here C.hx rfl (C.hb hd) rfl (hv ▸ g)) r
theorem lmul (C : Cx Z W own nm code maxL ret) {x y v : Int64} (hd : decode code pc = .ok (.lmul, 1)) (hv : x * y = v) (hp : pc + 1 = pc')
    (r : Run l R Z EL W Q S h k n (mkF W.m pc' Ls (.long v :: st))) : Run l R Z EL W Q S h k n (mkF W.m pc Ls (.long y :: .long x :: st)) := by
  subst hp
  exact Run.one (fun vm0 T locs X _ I t g => XS.lmul X.here C.hx rfl (C.hb hd) rfl (hv ▸ g)) r
theorem land (C : Cx Z W own nm code maxL ret) {x y v : Int64} (hd : decode code pc = .ok (.land, 1)) (hv : x &&& y = v) (hp : pc + 1 = pc')
    (r : Run l R Z EL W Q S h k n (mkF W.m pc' Ls (.long v :: st))) : Run l R Z EL W Q S h k n (mkF W.m pc Ls (.long y :: .long x :: st)) := by
  subst hp
  exact Run.one (fun vm0 T locs X _ I t g => XS.land X.here C.hx rfl (C.hb hd) rfl (hv ▸ g)) r
theorem lor (C : Cx Z W own nm code maxL ret) {x y v : Int64} (hd : decode code pc = .ok (.lor, 1)) (hv : x ||| y = v) (hp : pc + 1 = pc')
    (r : Run l R Z EL W Q S h k n (mkF W.m pc' Ls (.long v :: st))) : Run l R Z EL W Q S h k n (mkF W.m pc Ls (.long y :: .long x :: st)) := by
  subst hp
  exact Run.one (fun vm0 T locs X _ I t g => XS.lor X.here C.hx rfl (C.hb hd) rfl (hv ▸ g)) r
theorem lxor (C : Cx Z W own nm code maxL ret) {x y v : Int64} (hd : decode code pc = .ok (.lxor, 1)) (hv : x ^^^ y = v) (hp : pc + 1 = pc')
    (r : Run l R Z EL W Q S h k n (mkF W.m pc' Ls (.long v :: st))) : Run l R Z EL W Q S h k n (mkF W.m pc Ls (.long y :: .long x :: st)) := by
  subst hp
  exact Run.one (fun vm0 T locs X _ I t g => XS.lxor X.here C.hx rfl (C.hb hd) rfl (hv ▸ g)) r
theorem idiv (C : Cx Z W own nm code maxL ret) {x y v : Int32} (hd : decode code pc = .ok (.idiv, 1)) (hy : ¬ y = 0) (hv : x / y = v) (hp : pc + 1 = pc')
    (r : Run l R Z EL W Q S h k n (mkF W.m pc' Ls (.int v :: st))) : Run l R Z EL W Q S h k n (mkF W.m pc Ls (.int y :: .int x :: st)) := by
  subst hp
  exact Run.one (fun vm0 T locs X _ I t g => XS.idiv X.here C.hx rfl (C.hb hd) rfl hy (hv ▸ g)) r
theorem irem (C : Cx Z W own nm code maxL ret) {x y v : Int32} (hd : decode code pc = .ok (.irem, 1)) (hy : ¬ y = 0) (hv : x % y = v) (hp : pc + 1 = pc')
    (r : Run l R Z EL W Q S h k n (mkF W.m pc' Ls (.int v :: st))) : Run l R Z EL W Q S h k n (mkF W.m pc Ls (.int y :: .int x :: st)) := by
  subst hp
  exact Run.one (fun vm0 T locs X _ I t g => iremM X C.hx rfl (C.hb hd) rfl hy (hv ▸ g)) r
theorem ineg (C : Cx Z W own nm code maxL ret) {x v : Int32} (hd : decode code pc = .ok (.ineg, 1)) (hv : -x = v) (hp : pc + 1 = pc')
    (r : Run l R Z EL W Q S h k n (mkF W.m pc' Ls (.int v :: st))) : Run l R Z EL W Q S h k n (mkF W.m pc Ls (.int x :: st)) := by
  subst hp
  exact Run.one (fun vm0 T locs X _ I t g => XS.ineg X.here C.hx rfl (C.hb hd) rfl (hv ▸ g)) r
theorem ishl (C : Cx Z W own nm code maxL ret) {x y v : Int32} (hd : decode code pc = .ok (.ishl, 1)) (hv : x <<< (y &&& 31) = v) (hp : pc + 1 = pc')
    (r : Run l R Z EL W Q S h k n (mkF W.m pc' Ls (.int v :: st))) : Run l R Z EL W Q S h k n (mkF W.m pc Ls (.int y :: .int x :: st)) := by
  subst hp
  exact Run.one (fun vm0 T locs X _ I t g => XS.ishl X.here C.hx rfl (C.hb hd) rfl (hv ▸ g)) r
theorem ishr (C : Cx Z W own nm code maxL ret) {x y v : Int32} (hd : decode code pc = .ok (.ishr, 1)) (hv : x >>> (y &&& 31) = v) (hp : pc + 1 = pc')
    (r : Run l R Z EL W Q S h k n (mkF W.m pc' Ls (.int v :: st))) : Run l R Z EL W Q S h k n (mkF W.m pc Ls (.int y :: .int x :: st)) := by
  subst hp
  exact Run.one (fun vm0 T locs X _ I t g => XS.ishr X.here C.hx rfl (C.hb hd) rfl (hv ▸ g)) r
theorem iushr (C : Cx Z W own nm code maxL ret) {x y v : Int32} (hd : decode code pc = .ok (.iushr, 1)) (hv : (x.toUInt32 >>> (y &&& 31).toUInt32).toInt32 = v) (hp : pc + 1 = pc')
    (r : Run l R Z EL W Q S h k n (mkF W.m pc' Ls (.int v :: st))) : Run l R Z EL W Q S h k n (mkF W.m pc Ls (.int y :: .int x :: st)) := by
  subst hp
  exact Run.one (fun vm0 T locs X _ I t g => XS.iushr X.here C.hx rfl (C.hb hd) rfl (hv ▸ g)) r
theorem lshl (C : Cx Z W own nm code maxL ret) {x : Int64} {y : Int32} {v : Int64} (hd : decode code pc = .ok (.lshl, 1)) (hv : x <<< (y &&& 0x3f).toInt64 = v) (hp : pc + 1 = pc')
    (r : Run l R Z EL W Q S h k n (mkF W.m pc' Ls (.long v :: st))) : Run l R Z EL W Q S h k n (mkF W.m pc Ls (.int y :: .long x :: st)) := by
  subst hp
  exact Run.one (fun vm0 T locs X _ I t g => XS.lshl X.here C.hx rfl (C.hb hd) rfl (hv ▸ g)) r
theorem lshr (C : Cx Z W own nm code maxL ret) {x : Int64} {y : Int32} {v : Int64} (hd : decode code pc = .ok (.lshr, 1)) (hv : x >>> (y &&& 0x3f).toInt64 = v) (hp : pc + 1 = pc')
    (r : Run l R Z EL W Q S h k n (mkF W.m pc' Ls (.long v :: st))) : Run l R Z EL W Q S h k n (mkF W.m pc Ls (.int y :: .long x :: st)) := by
  subst hp
  exact Run.one (fun vm0 T locs X _ I t g => XS.lshr X.here C.hx rfl (C.hb hd) rfl (hv ▸ g)) r
theorem lushr (C : Cx Z W own nm code maxL ret) {x : Int64} {y : Int32} {v : Int64} (hd : decode code pc = .ok (.lushr, 1)) (hv : (x.toUInt64 >>> (y &&& 0x3f).toInt64.toUInt64).toInt64 = v) (hp : pc + 1 = pc')
    (r : Run l R Z EL W Q S h k n (mkF W.m pc' Ls (.long v :: st))) : Run l R Z EL W Q S h k n (mkF W.m pc Ls (.int y :: .long x :: st)) := by
  subst hp
  exact Run.one (fun vm0 T locs X _ I t g => XS.lushr X.here C.hx rfl (C.hb hd) rfl (hv ▸ g)) r
theorem i2l (C : Cx Z W own nm code maxL ret) {x : Int32} {v : Int64} (hd : decode code pc = .ok (.i2l, 1)) (hv : x.toInt64 = v) (hp : pc + 1 = pc')
    (r : Run l R Z EL W Q S h k n (mkF W.m pc' Ls (.long v :: st))) : Run l R Z EL W Q S h k n (mkF W.m pc Ls (.int x :: st)) := by
  subst hp
  exact Run.one (fun vm0 T locs X _ I t g => XS.i2l X.here C.hx rfl (C.hb hd) rfl (hv ▸ g)) r
theorem l2i (C : Cx Z W own nm code maxL ret) {x : Int64} {v : Int32} (hd : decode code pc = .ok (.l2i, 1)) (hv : x.toInt32 = v) (hp : pc + 1 = pc')
    (r : Run l R Z EL W Q S h k n (mkF W.m pc' Ls (.int v :: st))) : Run l R Z EL W Q S h k n (mkF W.m pc Ls (.long x :: st)) := by
  subst hp
  exact Run.one (fun vm0 T locs X _ I t g => XS.l2i X.here C.hx rfl (C.hb hd) rfl (hv ▸ g)) r
theorem i2b (C : Cx Z W own nm code maxL ret) {x : Int32} {v : Int32} (hd : decode code pc = .ok (.i2b, 1)) (hv : x.toInt8.toInt32 = v) (hp : pc + 1 = pc')
    (r : Run l R Z EL W Q S h k n (mkF W.m pc' Ls (.int v :: st))) : Run l R Z EL W Q S h k n (mkF W.m pc Ls (.int x :: st)) := by
  subst hp
  exact Run.one (fun vm0 T locs X _ I t g => XS.i2b X.here C.hx rfl (C.hb hd) rfl (hv ▸ g)) r
theorem i2c (C : Cx Z W own nm code maxL ret) {x : Int32} {v : Int32} (hd : decode code pc = .ok (.i2c, 1)) (hv : x.toUInt32.toUInt16.toUInt32.toInt32 = v) (hp : pc + 1 = pc')
    (r : Run l R Z EL W Q S h k n (mkF W.m pc' Ls (.int v :: st))) : Run l R Z EL W Q S h k n (mkF W.m pc Ls (.int x :: st)) := by
  subst hp
  exact Run.one (fun vm0 T locs X _ I t g => XS.i2c X.here C.hx rfl (C.hb hd) rfl (hv ▸ g)) r
theorem i2s (C : Cx Z W own nm code maxL ret) {x : Int32} {v : Int32} (hd : decode code pc = .ok (.i2s, 1)) (hv : x.toInt16.toInt32 = v) (hp : pc + 1 = pc')
    (r : Run l R Z EL W Q S h k n (mkF W.m pc' Ls (.int v :: st))) : Run l R Z EL W Q S h k n (mkF W.m pc Ls (.int x :: st)) := by
  subst hp
  exact Run.one (fun vm0 T locs X _ I t g => XS.i2s X.here C.hx rfl (C.hb hd) rfl (hv ▸ g)) r
theorem lcmp (C : Cx Z W own nm code maxL ret) {x y : Int64} (hd : decode code pc = .ok (.lcmp, 1)) (hp : pc + 1 = pc')
    (r : Run l R Z EL W Q S h k n (mkF W.m pc' Ls (.int (lcmpW x y) :: st))) : Run l R Z EL W Q S h k n (mkF W.m pc Ls (.long y :: .long x :: st)) := by
  subst hp
  exact Run.one (fun vm0 T locs X _ I t g => XS.lcmp X.here C.hx rfl (C.hb hd) rfl g) r
theorem dup (C : Cx Z W own nm code maxL ret) {v : Value} (hd : decode code pc = .ok (.dup, 1)) (hc : v.category = 1) (hp : pc + 1 = pc')
    (r : Run l R Z EL W Q S h k n (mkF W.m pc' Ls (v :: v :: st))) : Run l R Z EL W Q S h k n (mkF W.m pc Ls (v :: st)) := by
  subst hp
  exact Run.one (fun vm0 T locs X _ I t g => XS.dup X.here C.hx rfl (C.hb hd) rfl hc g) r
theorem dupX1 (C : Cx Z W own nm code maxL ret) {v w : Value} (hd : decode code pc = .ok (.dup_x1, 1)) (hc : v.category = 1) (hc' : w.category = 1) (hp : pc + 1 = pc')
    (r : Run l R Z EL W Q S h k n (mkF W.m pc' Ls (v :: w :: v :: st))) : Run l R Z EL W Q S h k n (mkF W.m pc Ls (v :: w :: st)) := by
  subst hp
  exact Run.one (fun vm0 T locs X _ I t g => XS.dupX1 X.here C.hx rfl (C.hb hd) rfl hc hc' g) r
theorem dup2 (C : Cx Z W own nm code maxL ret) {v w : Value} (hd : decode code pc = .ok (.dup2, 1)) (hc : v.category = 1) (hc' : w.category = 1) (hp : pc + 1 = pc')
    (r : Run l R Z EL W Q S h k n (mkF W.m pc' Ls (v :: w :: v :: w :: st))) : Run l R Z EL W Q S h k n (mkF W.m pc Ls (v :: w :: st)) := by
  subst hp
  exact Run.one (fun vm0 T locs X _ I t g => XT.dup2 X.here C.hx rfl (C.hb hd) rfl hc hc' g) r
theorem pop (C : Cx Z W own nm code maxL ret) {v : Value} (hd : decode code pc = .ok (.pop, 1)) (hc : v.category = 1) (hp : pc + 1 = pc')
    (r : Run l R Z EL W Q S h k n (mkF W.m pc' Ls (st))) : Run l R Z EL W Q S h k n (mkF W.m pc Ls (v :: st)) := by
  subst hp
  exact Run.one (fun vm0 T locs X _ I t g => XS.pop X.here C.hx rfl (C.hb hd) rfl hc g) r
theorem swap (C : Cx Z W own nm code maxL ret) {v w : Value} (hd : decode code pc = .ok (.swap, 1)) (hc : v.category = 1) (hc' : w.category = 1) (hp : pc + 1 = pc')
    (r : Run l R Z EL W Q S h k n (mkF W.m pc' Ls (w :: v :: st))) : Run l R Z EL W Q S h k n (mkF W.m pc Ls (v :: w :: st)) := by
  subst hp
  exact Run.one (fun vm0 T locs X _ I t g => XS.swap X.here C.hx rfl (C.hb hd) rfl hc hc' g) r
theorem iinc (C : Cx Z W own nm code maxL ret) {i : Nat} {d : Int} {x v : Int32} {Ls' : Array Slot} (hd : decode code pc = .ok (.iinc i d, 3)) (hl : Ls[i]? = some (.val (.int x))) (hv : x + Int32.ofInt d = v) (hl' : storeLocals Ls i (.int v) = some Ls') (hp : pc + 3 = pc')
    (r : Run l R Z EL W Q S h k n (mkF W.m pc' Ls' st)) : Run l R Z EL W Q S h k n (mkF W.m pc Ls st) := by
  subst hp hv
  exact Run.one (fun vm0 T locs X _ I t g => XS.iinc X.here C.hx rfl (C.hb hd) hl hl' g) r
theorem goto (C : Cx Z W own nm code maxL ret) {o : Int} (hd : decode code pc = .ok (.goto o, 3)) (ho : 0 ≤ (pc : Int) + o) (hp : ((pc : Int) + o).toNat = pc')
    (r : Run l R Z EL W Q S h k n (mkF W.m pc' Ls st)) : Run l R Z EL W Q S h k n (mkF W.m pc Ls st) :=
  Run.one (fun vm0 T locs X _ I t g => XS.goto X.here C.hx rfl rfl (C.hb hd) ho hp g) r
theorem icmp_eq (C : Cx Z W own nm code maxL ret) {x y : Int32} {o : Int} {pcT : Nat} (hd : decode code pc = .ok (.if_icmp .eq o, 3)) (ho : 0 ≤ (pc : Int) + o) (hp : ((pc : Int) + o).toNat = pcT) (hp' : pc + 3 = pc')
    (rt : x = y → Run l R Z EL W Q S h k n (mkF W.m pcT Ls st)) (rf : ¬ x = y → Run l R Z EL W Q S h k n (mkF W.m pc' Ls st)) : Run l R Z EL W Q S h k n (mkF W.m pc Ls (.int y :: .int x :: st)) := by
  subst hp'
  by_cases q : x = y
  · exact Run.one (fun vm0 T locs X _ I t g => XS.icmpYes X.here C.hx rfl rfl (C.hb hd) rfl (teq q).1 ho hp g) (rt q)
  · exact Run.one (fun vm0 T locs X _ I t g => XS.icmpNo X.here C.hx rfl (C.hb hd) rfl (feq q).1 g) (rf q)
theorem if_eq (C : Cx Z W own nm code maxL ret) {x : Int32} {o : Int} {pcT : Nat} (hd : decode code pc = .ok (.ifCond .eq o, 3)) (ho : 0 ≤ (pc : Int) + o) (hp : ((pc : Int) + o).toNat = pcT) (hp' : pc + 3 = pc')
    (rt : x = (0 : Int32) → Run l R Z EL W Q S h k n (mkF W.m pcT Ls st)) (rf : ¬ x = (0 : Int32) → Run l R Z EL W Q S h k n (mkF W.m pc' Ls st)) : Run l R Z EL W Q S h k n (mkF W.m pc Ls (.int x :: st)) := by
  subst hp'
  by_cases q : x = (0 : Int32)
  · exact Run.one (fun vm0 T locs X _ I t g => XS.ifYes X.here C.hx rfl rfl (C.hb hd) rfl ((if0 _ _).trans (teq q).1) ho hp g) (rt q)
  · exact Run.one (fun vm0 T locs X _ I t g => XS.ifNo X.here C.hx rfl (C.hb hd) rfl ((if0 _ _).trans (feq q).1) g) (rf q)
theorem icmp_ne (C : Cx Z W own nm code maxL ret) {x y : Int32} {o : Int} {pcT : Nat} (hd : decode code pc = .ok (.if_icmp .ne o, 3)) (ho : 0 ≤ (pc : Int) + o) (hp : ((pc : Int) + o).toNat = pcT) (hp' : pc + 3 = pc')
    (rt : ¬ x = y → Run l R Z EL W Q S h k n (mkF W.m pcT Ls st)) (rf : x = y → Run l R Z EL W Q S h k n (mkF W.m pc' Ls st)) : Run l R Z EL W Q S h k n (mkF W.m pc Ls (.int y :: .int x :: st)) := by
  subst hp'
  by_cases q : x = y
  · exact Run.one (fun vm0 T locs X _ I t g => XS.icmpNo X.here C.hx rfl (C.hb hd) rfl (teq q).2 g) (rf q)
  · exact Run.one (fun vm0 T locs X _ I t g => XS.icmpYes X.here C.hx rfl rfl (C.hb hd) rfl (feq q).2 ho hp g) (rt q)
theorem if_ne (C : Cx Z W own nm code maxL ret) {x : Int32} {o : Int} {pcT : Nat} (hd : decode code pc = .ok (.ifCond .ne o, 3)) (ho : 0 ≤ (pc : Int) + o) (hp : ((pc : Int) + o).toNat = pcT) (hp' : pc + 3 = pc')
    (rt : ¬ x = (0 : Int32) → Run l R Z EL W Q S h k n (mkF W.m pcT Ls st)) (rf : x = (0 : Int32) → Run l R Z EL W Q S h k n (mkF W.m pc' Ls st)) : Run l R Z EL W Q S h k n (mkF W.m pc Ls (.int x :: st)) := by
  subst hp'
  by_cases q : x = (0 : Int32)
  · exact Run.one (fun vm0 T locs X _ I t g => XS.ifNo X.here C.hx rfl (C.hb hd) rfl ((if0 _ _).trans (teq q).2) g) (rf q)
  · exact Run.one (fun vm0 T locs X _ I t g => XS.ifYes X.here C.hx rfl rfl (C.hb hd) rfl ((if0 _ _).trans (feq q).2) ho hp g) (rt q)
theorem icmp_lt (C : Cx Z W own nm code maxL ret) {x y : Int32} {o : Int} {pcT : Nat} (hd : decode code pc = .ok (.if_icmp .lt o, 3)) (ho : 0 ≤ (pc : Int) + o) (hp : ((pc : Int) + o).toNat = pcT) (hp' : pc + 3 = pc')
    (rt : x < y → Run l R Z EL W Q S h k n (mkF W.m pcT Ls st)) (rf : ¬ x < y → Run l R Z EL W Q S h k n (mkF W.m pc' Ls st)) : Run l R Z EL W Q S h k n (mkF W.m pc Ls (.int y :: .int x :: st)) := by
  subst hp'
  by_cases q : x < y
  · exact Run.one (fun vm0 T locs X _ I t g => XS.icmpYes X.here C.hx rfl rfl (C.hb hd) rfl (tlt q).1 ho hp g) (rt q)
  · exact Run.one (fun vm0 T locs X _ I t g => XS.icmpNo X.here C.hx rfl (C.hb hd) rfl (flt q).1 g) (rf q)
theorem if_lt (C : Cx Z W own nm code maxL ret) {x : Int32} {o : Int} {pcT : Nat} (hd : decode code pc = .ok (.ifCond .lt o, 3)) (ho : 0 ≤ (pc : Int) + o) (hp : ((pc : Int) + o).toNat = pcT) (hp' : pc + 3 = pc')
    (rt : x < (0 : Int32) → Run l R Z EL W Q S h k n (mkF W.m pcT Ls st)) (rf : ¬ x < (0 : Int32) → Run l R Z EL W Q S h k n (mkF W.m pc' Ls st)) : Run l R Z EL W Q S h k n (mkF W.m pc Ls (.int x :: st)) := by
  subst hp'
  by_cases q : x < (0 : Int32)
  · exact Run.one (fun vm0 T locs X _ I t g => XS.ifYes X.here C.hx rfl rfl (C.hb hd) rfl ((if0 _ _).trans (tlt q).1) ho hp g) (rt q)
  · exact Run.one (fun vm0 T locs X _ I t g => XS.ifNo X.here C.hx rfl (C.hb hd) rfl ((if0 _ _).trans (flt q).1) g) (rf q)
theorem icmp_ge (C : Cx Z W own nm code maxL ret) {x y : Int32} {o : Int} {pcT : Nat} (hd : decode code pc = .ok (.if_icmp .ge o, 3)) (ho : 0 ≤ (pc : Int) + o) (hp : ((pc : Int) + o).toNat = pcT) (hp' : pc + 3 = pc')
    (rt : ¬ x < y → Run l R Z EL W Q S h k n (mkF W.m pcT Ls st)) (rf : x < y → Run l R Z EL W Q S h k n (mkF W.m pc' Ls st)) : Run l R Z EL W Q S h k n (mkF W.m pc Ls (.int y :: .int x :: st)) := by
  subst hp'
  by_cases q : x < y
  · exact Run.one (fun vm0 T locs X _ I t g => XS.icmpNo X.here C.hx rfl (C.hb hd) rfl (tlt q).2.1 g) (rf q)
  · exact Run.one (fun vm0 T locs X _ I t g => XS.icmpYes X.here C.hx rfl rfl (C.hb hd) rfl (flt q).2.1 ho hp g) (rt q)
theorem if_ge (C : Cx Z W own nm code maxL ret) {x : Int32} {o : Int} {pcT : Nat} (hd : decode code pc = .ok (.ifCond .ge o, 3)) (ho : 0 ≤ (pc : Int) + o) (hp : ((pc : Int) + o).toNat = pcT) (hp' : pc + 3 = pc')
    (rt : ¬ x < (0 : Int32) → Run l R Z EL W Q S h k n (mkF W.m pcT Ls st)) (rf : x < (0 : Int32) → Run l R Z EL W Q S h k n (mkF W.m pc' Ls st)) : Run l R Z EL W Q S h k n (mkF W.m pc Ls (.int x :: st)) := by
  subst hp'
  by_cases q : x < (0 : Int32)
  · exact Run.one (fun vm0 T locs X _ I t g => XS.ifNo X.here C.hx rfl (C.hb hd) rfl ((if0 _ _).trans (tlt q).2.1) g) (rf q)
  · exact Run.one (fun vm0 T locs X _ I t g => XS.ifYes X.here C.hx rfl rfl (C.hb hd) rfl ((if0 _ _).trans (flt q).2.1) ho hp g) (rt q)
theorem icmp_gt (C : Cx Z W own nm code maxL ret) {x y : Int32} {o : Int} {pcT : Nat} (hd : decode code pc = .ok (.if_icmp .gt o, 3)) (ho : 0 ≤ (pc : Int) + o) (hp : ((pc : Int) + o).toNat = pcT) (hp' : pc + 3 = pc')
    (rt : y < x → Run l R Z EL W Q S h k n (mkF W.m pcT Ls st)) (rf : ¬ y < x → Run l R Z EL W Q S h k n (mkF W.m pc' Ls st)) : Run l R Z EL W Q S h k n (mkF W.m pc Ls (.int y :: .int x :: st)) := by
  subst hp'
  by_cases q : y < x
  · exact Run.one (fun vm0 T locs X _ I t g => XS.icmpYes X.here C.hx rfl rfl (C.hb hd) rfl (tlt q).2.2.1 ho hp g) (rt q)
  · exact Run.one (fun vm0 T locs X _ I t g => XS.icmpNo X.here C.hx rfl (C.hb hd) rfl (flt q).2.2.1 g) (rf q)
theorem if_gt (C : Cx Z W own nm code maxL ret) {x : Int32} {o : Int} {pcT : Nat} (hd : decode code pc = .ok (.ifCond .gt o, 3)) (ho : 0 ≤ (pc : Int) + o) (hp : ((pc : Int) + o).toNat = pcT) (hp' : pc + 3 = pc')
    (rt : (0 : Int32) < x → Run l R Z EL W Q S h k n (mkF W.m pcT Ls st)) (rf : ¬ (0 : Int32) < x → Run l R Z EL W Q S h k n (mkF W.m pc' Ls st)) : Run l R Z EL W Q S h k n (mkF W.m pc Ls (.int x :: st)) := by
  subst hp'
  by_cases q : (0 : Int32) < x
  · exact Run.one (fun vm0 T locs X _ I t g => XS.ifYes X.here C.hx rfl rfl (C.hb hd) rfl ((if0 _ _).trans (tlt q).2.2.1) ho hp g) (rt q)
  · exact Run.one (fun vm0 T locs X _ I t g => XS.ifNo X.here C.hx rfl (C.hb hd) rfl ((if0 _ _).trans (flt q).2.2.1) g) (rf q)
theorem icmp_le (C : Cx Z W own nm code maxL ret) {x y : Int32} {o : Int} {pcT : Nat} (hd : decode code pc = .ok (.if_icmp .le o, 3)) (ho : 0 ≤ (pc : Int) + o) (hp : ((pc : Int) + o).toNat = pcT) (hp' : pc + 3 = pc')
    (rt : ¬ y < x → Run l R Z EL W Q S h k n (mkF W.m pcT Ls st)) (rf : y < x → Run l R Z EL W Q S h k n (mkF W.m pc' Ls st)) : Run l R Z EL W Q S h k n (mkF W.m pc Ls (.int y :: .int x :: st)) := by
  subst hp'
  by_cases q : y < x
  · exact Run.one (fun vm0 T locs X _ I t g => XS.icmpNo X.here C.hx rfl (C.hb hd) rfl (tlt q).2.2.2 g) (rf q)
  · exact Run.one (fun vm0 T locs X _ I t g => XS.icmpYes X.here C.hx rfl rfl (C.hb hd) rfl (flt q).2.2.2 ho hp g) (rt q)
theorem if_le (C : Cx Z W own nm code maxL ret) {x : Int32} {o : Int} {pcT : Nat} (hd : decode code pc = .ok (.ifCond .le o, 3)) (ho : 0 ≤ (pc : Int) + o) (hp : ((pc : Int) + o).toNat = pcT) (hp' : pc + 3 = pc')
    (rt : ¬ (0 : Int32) < x → Run l R Z EL W Q S h k n (mkF W.m pcT Ls st)) (rf : (0 : Int32) < x → Run l R Z EL W Q S h k n (mkF W.m pc' Ls st)) : Run l R Z EL W Q S h k n (mkF W.m pc Ls (.int x :: st)) := by
  subst hp'
  by_cases q : (0 : Int32) < x
  · exact Run.one (fun vm0 T locs X _ I t g => XS.ifNo X.here C.hx rfl (C.hb hd) rfl ((if0 _ _).trans (tlt q).2.2.2) g) (rf q)
  · exact Run.one (fun vm0 T locs X _ I t g => XS.ifYes X.here C.hx rfl rfl (C.hb hd) rfl ((if0 _ _).trans (flt q).2.2.2) ho hp g) (rt q)
theorem ifnullY (C : Cx Z W own nm code maxL ret) {o : Int} (hd : decode code pc = .ok (.ifnull o, 3)) (ho : 0 ≤ (pc : Int) + o) (hp : ((pc : Int) + o).toNat = pc') (r : Run l R Z EL W Q S h k n (mkF W.m pc' Ls st)) : Run l R Z EL W Q S h k n (mkF W.m pc Ls (.null :: st)) :=
  Run.one (fun vm0 T locs X _ I t g => XS.ifnullYes X.here C.hx rfl rfl (C.hb hd) rfl ho hp g) r
theorem ifnullN (C : Cx Z W own nm code maxL ret) {o : Int} {b : Addr} (hd : decode code pc = .ok (.ifnull o, 3)) (hp : pc + 3 = pc') (r : Run l R Z EL W Q S h k n (mkF W.m pc' Ls st)) : Run l R Z EL W Q S h k n (mkF W.m pc Ls (.ref b :: st)) := by
  subst hp
  exact Run.one (fun vm0 T locs X _ I t g => XS.ifnullNo X.here C.hx rfl (C.hb hd) rfl g) r
theorem ifnonnullY (C : Cx Z W own nm code maxL ret) {o : Int} {b : Addr} (hd : decode code pc = .ok (.ifnonnull o, 3)) (ho : 0 ≤ (pc : Int) + o) (hp : ((pc : Int) + o).toNat = pc') (r : Run l R Z EL W Q S h k n (mkF W.m pc' Ls st)) : Run l R Z EL W Q S h k n (mkF W.m pc Ls (.ref b :: st)) :=
  Run.one (fun vm0 T locs X _ I t g => XS.ifnonnullYes X.here C.hx rfl rfl (C.hb hd) rfl ho hp g) r
theorem ifnonnullN (C : Cx Z W own nm code maxL ret) {o : Int} (hd : decode code pc = .ok (.ifnonnull o, 3)) (hp : pc + 3 = pc') (r : Run l R Z EL W Q S h k n (mkF W.m pc' Ls st)) : Run l R Z EL W Q S h k n (mkF W.m pc Ls (.null :: st)) := by
  subst hp
  exact Run.one (fun vm0 T locs X _ I t g => XS.ifnonnullNo X.here C.hx rfl (C.hb hd) rfl g) r
theorem acmp_eq (C : Cx Z W own nm code maxL ret) {o : Int} {x y : Value} {pcT : Nat} (hd : decode code pc = .ok (.if_acmp .eq o, 3)) (hx' : x.isRef = true) (hy' : y.isRef = true) (ho : 0 ≤ (pc : Int) + o) (hp : ((pc : Int) + o).toNat = pcT) (hp' : pc + 3 = pc')
    (rt : x = y → Run l R Z EL W Q S h k n (mkF W.m pcT Ls st)) (rf : ¬ x = y → Run l R Z EL W Q S h k n (mkF W.m pc' Ls st)) : Run l R Z EL W Q S h k n (mkF W.m pc Ls (y :: x :: st)) := by
  subst hp'
  by_cases q : x = y
  · exact Run.one (fun vm0 T locs X _ I t g => XT.acmpYes X.here C.hx rfl rfl (C.hb hd) rfl hx' hy' (XT.aa_eq_t q) ho hp g) (rt q)
  · exact Run.one (fun vm0 T locs X _ I t g => XT.acmpNo X.here C.hx rfl (C.hb hd) rfl hx' hy' (XT.aa_eq_f q) g) (rf q)
theorem acmp_ne (C : Cx Z W own nm code maxL ret) {o : Int} {x y : Value} {pcT : Nat} (hd : decode code pc = .ok (.if_acmp .ne o, 3)) (hx' : x.isRef = true) (hy' : y.isRef = true) (ho : 0 ≤ (pc : Int) + o) (hp : ((pc : Int) + o).toNat = pcT) (hp' : pc + 3 = pc')
    (rt : ¬ x = y → Run l R Z EL W Q S h k n (mkF W.m pcT Ls st)) (rf : x = y → Run l R Z EL W Q S h k n (mkF W.m pc' Ls st)) : Run l R Z EL W Q S h k n (mkF W.m pc Ls (y :: x :: st)) := by
  subst hp'
  by_cases q : x = y
  · exact Run.one (fun vm0 T locs X _ I t g => XT.acmpNo X.here C.hx rfl (C.hb hd) rfl hx' hy' (XT.aa_ne_f q) g) (rf q)
  · exact Run.one (fun vm0 T locs X _ I t g => XT.acmpYes X.here C.hx rfl rfl (C.hb hd) rfl hx' hy' (XT.aa_ne_t q) ho hp g) (rt q)
theorem tswIn (C : Cx Z W own nm code maxL ret) {d lo hi o : Int} {offs : Array Int} {ln : Nat} {i : Int32} (hd : decode code pc = .ok (.tableswitch d lo hi offs, ln)) (hin : ¬ (i.toInt < lo ∨ i.toInt > hi)) (ho : offs[(i.toInt - lo).toNat]? = some o) (h0 : 0 ≤ (pc : Int) + o) (hp : ((pc : Int) + o).toNat = pc')
    (r : Run l R Z EL W Q S h k n (mkF W.m pc' Ls st)) : Run l R Z EL W Q S h k n (mkF W.m pc Ls (.int i :: st)) :=
  Run.one (fun vm0 T locs X _ I t g => XS.tswIn X.here C.hx rfl rfl (C.hb hd) rfl hin ho h0 hp g) r
theorem ldcI (C : Cx Z W own nm code maxL ret) {ix : Nat} {v : Int32} (hd : decode code pc = .ok (.ldc ix, 2)) (w : (Cond.constant own ix v).before a0 Z = true) (hp : pc + 2 = pc') (r : Run l R Z EL W Q S h k n (mkF W.m pc' Ls (.int v :: st))) : Run l R Z EL W Q S h k n (mkF W.m pc Ls st) := by
  subst hp
  exact Run.one (fun vm0 T locs X _ I t g => X.ldcInt C.hx (I.ow C) (mvT I.hZ w) (g := mkF W.m pc Ls st) rfl (C.hb hd) t g) r
theorem ldcWI (C : Cx Z W own nm code maxL ret) {ix : Nat} {v : Int32} (hd : decode code pc = .ok (.ldc_w ix, 3)) (w : (Cond.constant own ix v).before a0 Z = true) (hp : pc + 3 = pc') (r : Run l R Z EL W Q S h k n (mkF W.m pc' Ls (.int v :: st))) : Run l R Z EL W Q S h k n (mkF W.m pc Ls st) := by
  subst hp
  exact Run.one (fun vm0 T locs X _ I t g => X.ldcWInt C.hx (I.ow C) (mvT I.hZ w) (g := mkF W.m pc Ls st) rfl (C.hb hd) t g) r
theorem ldc2J (C : Cx Z W own nm code maxL ret) {ix : Nat} {v : Int64} (hd : decode code pc = .ok (.ldc2_w ix, 3)) (w : (Cond.constantLong own ix v).before a0 Z = true) (hp : pc + 3 = pc') (r : Run l R Z EL W Q S h k n (mkF W.m pc' Ls (.long v :: st))) : Run l R Z EL W Q S h k n (mkF W.m pc Ls st) := by
  subst hp
  exact Run.one (fun vm0 T locs X _ I t g => X.ldc2Long C.hx (I.ow C) (mvT I.hZ w) (g := mkF W.m pc Ls st) rfl (C.hb hd) t g) r
theorem Run.via {g g' : JFrame} (f : ∀ vm0 T locs, Std l R W vm0 T locs k n → T.heap = h → Inv Z EL W S vm0 h → ∃ T', Std l R W vm0 T' locs k n ∧ T'.heap = h ∧ ∀ t, Steps W.p.tables W.e W.b (T'.setTop g') t → Steps W.p.tables W.e W.b (T.setTop g) t) (r : Run l R Z EL W Q S h k n g') : Run l R Z EL W Q S h k n g :=
  fun vm0 T locs X eT N O I => by
    obtain ⟨T', X', e', s'⟩ := f vm0 T locs X eT I
    exact Go.step s' (r vm0 T' locs X' e' N O I)
theorem getF (C : Cx Z W own nm code maxL ret) {R0 O nmF d : String} {ix : Nat} (hd : decode code pc = .ok (.getfield ix, 3)) (w : (Cond.fieldLink own ix R0 nmF d).before a0 Z = true) (via : Via Z R0 O nmF d) {a : Addr} {v : Value} (F : Fld Z h a O nmF d v) (hp : pc + 3 = pc')
    (r : Run l R Z EL W Q S h k n (mkF W.m pc' Ls (v :: st))) : Run l R Z EL W Q S h k n (mkF W.m pc Ls (.ref a :: st)) := by
  subst hp
  exact Run.via (fun vm0 T locs X eT I => RoadKit.getF X C.hx I.hZ (I.ow C) (host := "") (Or.inl w) via eT F (g := mkF W.m pc Ls (.ref a :: st)) rfl rfl (C.hb hd)) r
theorem getFN (C : Cx Z W own nm code maxL ret) {R0 O nmF d host : String} {ix : Nat} (hd : decode code pc = .ok (.getfield ix, 3)) (w : (Cond.fieldLinkNest own ix R0 nmF d host).before a0 Z = true) (via : Via Z R0 O nmF d) {a : Addr} {v : Value} (F : Fld Z h a O nmF d v) (hp : pc + 3 = pc')
    (r : Run l R Z EL W Q S h k n (mkF W.m pc' Ls (v :: st))) : Run l R Z EL W Q S h k n (mkF W.m pc Ls (.ref a :: st)) := by
  subst hp
  exact Run.via (fun vm0 T locs X eT I => RoadKit.getF X C.hx I.hZ (I.ow C) (Or.inr w) via eT F (g := mkF W.m pc Ls (.ref a :: st)) rfl rfl (C.hb hd)) r
theorem getS (C : Cx Z W own nm code maxL ret) {R0 O nmF d : String} {ix : Nat} (hd : decode code pc = .ok (.getstatic ix, 3)) (w : (Cond.fieldLink own ix R0 nmF d).before a0 Z = true) (via : Via Z R0 O nmF d) {v : Value} (F : Sta Z h O nmF d v) (hp : pc + 3 = pc')
    (r : Run l R Z EL W Q S h k n (mkF W.m pc' Ls (v :: st))) : Run l R Z EL W Q S h k n (mkF W.m pc Ls st) := by
  subst hp
  exact Run.via (fun vm0 T locs X eT I => getS2 X C.hx I.hZ (I.ow C) (host := "") (Or.inl w) via eT F (g := mkF W.m pc Ls st) rfl (C.hb hd)) r
theorem getSN (C : Cx Z W own nm code maxL ret) {R0 O nmF d host : String} {ix : Nat} (hd : decode code pc = .ok (.getstatic ix, 3)) (w : (Cond.fieldLinkNest own ix R0 nmF d host).before a0 Z = true) (via : Via Z R0 O nmF d) {v : Value} (F : Sta Z h O nmF d v) (hp : pc + 3 = pc')
    (r : Run l R Z EL W Q S h k n (mkF W.m pc' Ls (v :: st))) : Run l R Z EL W Q S h k n (mkF W.m pc Ls st) := by
  subst hp
  exact Run.via (fun vm0 T locs X eT I => getS2 X C.hx I.hZ (I.ow C) (Or.inr w) via eT F (g := mkF W.m pc Ls st) rfl (C.hb hd)) r
theorem castY (C : Cx Z W own nm code maxL ret) {K : String} {ix : Nat} (hd : decode code pc = .ok (.checkcast ix, 3)) (w : (Cond.classLink own ix K).before a0 Z = true) {a : Addr} (F : Ins Z h a K true) (hp : pc + 3 = pc')
    (r : Run l R Z EL W Q S h k n (mkF W.m pc' Ls (.ref a :: st))) : Run l R Z EL W Q S h k n (mkF W.m pc Ls (.ref a :: st)) := by
  subst hp
  exact Run.via (fun vm0 T locs X eT I => RoadKit.castY X C.hx I.hZ (I.ow C) w eT F (g := mkF W.m pc Ls (.ref a :: st)) rfl rfl (C.hb hd)) r
theorem instY (C : Cx Z W own nm code maxL ret) {K : String} {ix : Nat} (hd : decode code pc = .ok (.instanceof ix, 3)) (w : (Cond.classLink own ix K).before a0 Z = true) {a : Addr} (F : Ins Z h a K true) (hp : pc + 3 = pc')
    (r : Run l R Z EL W Q S h k n (mkF W.m pc' Ls (.int 1 :: st))) : Run l R Z EL W Q S h k n (mkF W.m pc Ls (.ref a :: st)) := by
  subst hp
  exact Run.via (fun vm0 T locs X eT I => RoadKit.instY X C.hx I.hZ (I.ow C) w eT F (g := mkF W.m pc Ls (.ref a :: st)) rfl rfl (C.hb hd)) r
theorem instNull (C : Cx Z W own nm code maxL ret) {ix : Nat} (hd : decode code pc = .ok (.instanceof ix, 3)) (hp : pc + 3 = pc')
    (r : Run l R Z EL W Q S h k n (mkF W.m pc' Ls (.int 0 :: st))) : Run l R Z EL W Q S h k n (mkF W.m pc Ls (.null :: st)) := by
  subst hp
  exact Run.one (fun vm0 T locs X eT I t g => X.instanceofNull C.hx (g := mkF W.m pc Ls (.null :: st)) rfl rfl (C.hb hd) t g) r
theorem castNull (C : Cx Z W own nm code maxL ret) {ix : Nat} (hd : decode code pc = .ok (.checkcast ix, 3)) (hp : pc + 3 = pc')
    (r : Run l R Z EL W Q S h k n (mkF W.m pc' Ls (.null :: st))) : Run l R Z EL W Q S h k n (mkF W.m pc Ls (.null :: st)) := by
  subst hp
  exact Run.one (fun vm0 T locs X eT I t g => X.checkcastNull C.hx (g := mkF W.m pc Ls (.null :: st)) rfl rfl (C.hb hd) t g) r
theorem alen (C : Cx Z W own nm code maxL ret) (hd : decode code pc = .ok (.arraylength, 1)) {a : Addr} {ty : FieldType} {vs : List Value} {z : Int32} (F : Ary Z h a ty vs) (hz : Int32.ofNat vs.length = z) (hp : pc + 1 = pc')
    (r : Run l R Z EL W Q S h k n (mkF W.m pc' Ls (.int z :: st))) : Run l R Z EL W Q S h k n (mkF W.m pc Ls (.ref a :: st)) := by
  subst hp hz
  obtain ⟨c, A, e, -⟩ := F
  have e2 : c.slots.size.toInt32 = Int32.ofNat vs.length := by rw [e]; simp
  exact Run.one (fun vm0 T locs X eT I t g => X.arraylength C.hx (by rw [eT]; exact A.1) (State.isArrayOf_alike I.hZ.alike A.2.1) (g := mkF W.m pc Ls (.ref a :: st)) rfl rfl (C.hb hd) t (by rw [e2]; exact g)) r
theorem caload (C : Cx Z W own nm code maxL ret) (hd : decode code pc = .ok (.caload, 1)) {a : Addr} {vs : List Value} {j : Int32} {v : Value} (F : Ary Z h a .char vs) (h0 : ¬ j < 0) (hv : vs[j.toNatClampNeg]? = some v) (hp : pc + 1 = pc')
    (r : Run l R Z EL W Q S h k n (mkF W.m pc' Ls (v :: st))) : Run l R Z EL W Q S h k n (mkF W.m pc Ls (.int j :: .ref a :: st)) := by
  subst hp
  obtain ⟨c, A, e, -⟩ := F
  have h1 : j.toNatClampNeg < vs.length := (List.getElem?_eq_some_iff.mp hv).1
  exact Run.one (fun vm0 T locs X eT I t g => X.caload C.hx (by rw [eT]; exact A.1) (State.isArrayOf_alike I.hZ.alike A.2.1) A.2.2 (Ary.inb (a := a) (ty := .char) e h0 h1) (by rw [e]; simpa using hv) (g := mkF W.m pc Ls (.int j :: .ref a :: st)) rfl rfl (C.hb hd) t g) r
theorem iaload (C : Cx Z W own nm code maxL ret) (hd : decode code pc = .ok (.iaload, 1)) {a : Addr} {vs : List Value} {j : Int32} {v : Value} (F : Ary Z h a .int vs) (h0 : ¬ j < 0) (hv : vs[j.toNatClampNeg]? = some v) (hp : pc + 1 = pc')
    (r : Run l R Z EL W Q S h k n (mkF W.m pc' Ls (v :: st))) : Run l R Z EL W Q S h k n (mkF W.m pc Ls (.int j :: .ref a :: st)) := by
  subst hp
  obtain ⟨c, A, e, -⟩ := F
  have h1 : j.toNatClampNeg < vs.length := (List.getElem?_eq_some_iff.mp hv).1
  exact Run.one (fun vm0 T locs X eT I t g => X.iaload C.hx (by rw [eT]; exact A.1) (State.isArrayOf_alike I.hZ.alike A.2.1) A.2.2 (Ary.inb (a := a) (ty := .int) e h0 h1) (by rw [e]; simpa using hv) (g := mkF W.m pc Ls (.int j :: .ref a :: st)) rfl rfl (C.hb hd) t g) r
theorem baload (C : Cx Z W own nm code maxL ret) (hd : decode code pc = .ok (.baload, 1)) {a : Addr} {vs : List Value} {j : Int32} {v : Value} (F : Ary Z h a .byte vs) (h0 : ¬ j < 0) (hv : vs[j.toNatClampNeg]? = some v) (hp : pc + 1 = pc')
    (r : Run l R Z EL W Q S h k n (mkF W.m pc' Ls (v :: st))) : Run l R Z EL W Q S h k n (mkF W.m pc Ls (.int j :: .ref a :: st)) := by
  subst hp
  obtain ⟨c, A, e, -⟩ := F
  have h1 : j.toNatClampNeg < vs.length := (List.getElem?_eq_some_iff.mp hv).1
  exact Run.one (fun vm0 T locs X eT I t g => X.baloadBytes C.hx (by rw [eT]; exact A.1) (State.isArrayOf_alike I.hZ.alike A.2.1) A.2.2 (Ary.inb (a := a) (ty := .byte) e h0 h1) (by rw [e]; simpa using hv) (g := mkF W.m pc Ls (.int j :: .ref a :: st)) rfl rfl (C.hb hd) t g) r
theorem saload (C : Cx Z W own nm code maxL ret) (hd : decode code pc = .ok (.saload, 1)) {a : Addr} {vs : List Value} {j : Int32} {v : Value} (F : Ary Z h a .short vs) (h0 : ¬ j < 0) (hv : vs[j.toNatClampNeg]? = some v) (hp : pc + 1 = pc')
    (r : Run l R Z EL W Q S h k n (mkF W.m pc' Ls (v :: st))) : Run l R Z EL W Q S h k n (mkF W.m pc Ls (.int j :: .ref a :: st)) := by
  subst hp
  obtain ⟨c, A, e, -⟩ := F
  have h1 : j.toNatClampNeg < vs.length := (List.getElem?_eq_some_iff.mp hv).1
  exact Run.one (fun vm0 T locs X eT I t g => X.saload C.hx (by rw [eT]; exact A.1) (State.isArrayOf_alike I.hZ.alike A.2.1) A.2.2 (Ary.inb (a := a) (ty := .short) e h0 h1) (by rw [e]; simpa using hv) (g := mkF W.m pc Ls (.int j :: .ref a :: st)) rfl rfl (C.hb hd) t g) r
theorem laload (C : Cx Z W own nm code maxL ret) (hd : decode code pc = .ok (.laload, 1)) {a : Addr} {vs : List Value} {j : Int32} {v : Value} (F : Ary Z h a .long vs) (h0 : ¬ j < 0) (hv : vs[j.toNatClampNeg]? = some v) (hp : pc + 1 = pc')
    (r : Run l R Z EL W Q S h k n (mkF W.m pc' Ls (v :: st))) : Run l R Z EL W Q S h k n (mkF W.m pc Ls (.int j :: .ref a :: st)) := by
  subst hp
  obtain ⟨c, A, e, -⟩ := F
  have h1 : j.toNatClampNeg < vs.length := (List.getElem?_eq_some_iff.mp hv).1
  exact Run.one (fun vm0 T locs X eT I t g => X.laload C.hx (by rw [eT]; exact A.1) (State.isArrayOf_alike I.hZ.alike A.2.1) A.2.2 (Ary.inb (a := a) (ty := .long) e h0 h1) (by rw [e]; simpa using hv) (g := mkF W.m pc Ls (.int j :: .ref a :: st)) rfl rfl (C.hb hd) t g) r
theorem aaload (C : Cx Z W own nm code maxL ret) (hd : decode code pc = .ok (.aaload, 1)) {a : Addr} {ty : FieldType} {vs : List Value} {j : Int32} {v : Value} (F : Ary Z h a ty vs) (ht : ty.isReference = true) (h0 : ¬ j < 0) (hv : vs[j.toNatClampNeg]? = some v) (hp : pc + 1 = pc')
    (r : Run l R Z EL W Q S h k n (mkF W.m pc' Ls (v :: st))) : Run l R Z EL W Q S h k n (mkF W.m pc Ls (.int j :: .ref a :: st)) := by
  subst hp
  obtain ⟨c, A, e, -⟩ := F
  have h1 : j.toNatClampNeg < vs.length := (List.getElem?_eq_some_iff.mp hv).1
  exact Run.one (fun vm0 T locs X eT I t g => X.aaload C.hx (by rw [eT]; exact A.1) (State.isArrayOf_alike I.hZ.alike A.2.1) ht A.2.2 (Ary.inb (a := a) (ty := ty) e h0 h1) (by rw [e]; simpa using hv) (g := mkF W.m pc Ls (.int j :: .ref a :: st)) rfl rfl (C.hb hd) t g) r
theorem Run.wrote {a : Addr} {sl : Nat} {v : Value} {g g' : JFrame} (ha : Z.heap.size ≤ a) (hs : a ∈ S) (f : ∀ vm0 T locs, Std l R W vm0 T locs k n → T.heap = h → Inv Z EL W S vm0 h → ∃ T' h', Std l R W vm0 T' (locs ++ [⟨a, sl⟩]) k n ∧ T'.heap = h' ∧ Wr h h' a sl v ∧ ∀ t, Steps W.p.tables W.e W.b (T'.setTop g') t → Steps W.p.tables W.e W.b (T.setTop g) t)
    (r : ∀ h', Wr h h' a sl v → Ext Z.heap h' → Run l R Z EL W Q S h' k n g') : Run l R Z EL W Q S h k n g := fun vm0 T locs X eT N O I => by
  obtain ⟨T', h', X', e', w', s'⟩ := f vm0 T locs X eT I
  have O' : Ext Z.heap h' := ((old_of O).wr w' ha).2
  exact Go.step s' (r h' w' O' vm0 T' _ X' e' (Fr.snoc X' N ha) O' (I.keep (Keep.of_wr w') fun x hx => by cases List.mem_singleton.mp hx; exact hs))
theorem putF (C : Cx Z W own nm code maxL ret) {R0 O nmF d K : String} {ix kk : Nat} {ty : FieldType} (hd : decode code pc = .ok (.putfield ix, 3)) (w : (Cond.fieldLink own ix R0 nmF d).before a0 Z = true) (via : Via Z R0 O nmF d) {a : Addr} {v old : Value} (F : Fld Z h a O nmF d old) (E : Exa Z h a K)
    (L : (Cond.lays K O nmF d).before a0 Z = true ∨ ((Cond.laysFinal K O nmF d).before a0 Z = true ∧ own = O ∧ nm = "<init>")) (wi : (Cond.instantiable K kk).before a0 Z = true) (hty : parseFieldDescriptor d = some ty) (hn : narrow ty v = v) (hf : fits ty v = true) (ha : Z.heap.size ≤ a) (hs' : a ∈ S) (hp : pc + 3 = pc')
    (r : ∀ h', Wr h h' a (RoadKit.slotOf Z O nmF d) v → Ext Z.heap h' → Run l R Z EL W Q S h' k n (mkF W.m pc' Ls st)) : Run l R Z EL W Q S h k n (mkF W.m pc Ls (v :: .ref a :: st)) := by
  subst hp
  exact Run.wrote ha hs' (fun vm0 T locs X eT I => RoadKit.putF X C.hx I.hZ (I.ow C) (host := "") (Or.inl w) via eT F E (L.imp id fun q => ⟨q.1, q.2.1, C.nme.trans q.2.2⟩) wi hty hn hf (g := mkF W.m pc Ls (v :: .ref a :: st)) rfl rfl (C.hb hd)) r
theorem castore (C : Cx Z W own nm code maxL ret) (hd : decode code pc = .ok (.castore, 1)) {a : Addr} {vs vs' : List Value} {j x : Int32} (F : Ary Z h a .char vs) (h0 : ¬ j < 0) (h1 : j.toNatClampNeg < vs.length) (hx : nar .char x = x) (hs : vs.set j.toNatClampNeg (.int x) = vs') (ha : Z.heap.size ≤ a) (hs' : a ∈ S) (hp : pc + 1 = pc')
    (r : ∀ h', Wr h h' a j.toNatClampNeg (.int x) → Ary Z h' a .char vs' → Ext Z.heap h' → Run l R Z EL W Q S h' k n (mkF W.m pc' Ls st)) : Run l R Z EL W Q S h k n (mkF W.m pc Ls (.int x :: .int j :: .ref a :: st)) := by
  subst hp hs
  have F' := F
  obtain ⟨c, A, e, -⟩ := F'
  exact Run.wrote ha hs' (fun vm0 T locs X eT I => by have w0 := RoadKit.stC X C.hx I.hZ eT A (Ary.inb (a := a) (ty := .char) e h0 h1) (g := mkF W.m pc Ls (.int x :: .int j :: .ref a :: st)) rfl rfl (C.hb hd); rw [hx] at w0; exact w0) (fun h' w' O' => r h' w' (F.set w' (hx ▸ fits_nar_char x)) O')
theorem bastore (C : Cx Z W own nm code maxL ret) (hd : decode code pc = .ok (.bastore, 1)) {a : Addr} {vs vs' : List Value} {j x : Int32} (F : Ary Z h a .byte vs) (h0 : ¬ j < 0) (h1 : j.toNatClampNeg < vs.length) (hs : vs.set j.toNatClampNeg (.int (nar .byte x)) = vs') (ha : Z.heap.size ≤ a) (hs' : a ∈ S) (hp : pc + 1 = pc')
    (r : ∀ h', Wr h h' a j.toNatClampNeg (.int (nar .byte x)) → Ary Z h' a .byte vs' → Ext Z.heap h' → Run l R Z EL W Q S h' k n (mkF W.m pc' Ls st)) : Run l R Z EL W Q S h k n (mkF W.m pc Ls (.int x :: .int j :: .ref a :: st)) := by
  subst hp hs
  have F' := F
  obtain ⟨c, A, e, -⟩ := F'
  exact Run.wrote ha hs' (fun vm0 T locs X eT I => by have w0 := RoadKit.stB X C.hx I.hZ eT A (Ary.inb (a := a) (ty := .byte) e h0 h1) (g := mkF W.m pc Ls (.int x :: .int j :: .ref a :: st)) rfl rfl (C.hb hd); exact w0) (fun h' w' O' => r h' w' (F.set w' (fits_nar_byte x)) O')
theorem iastore (C : Cx Z W own nm code maxL ret) (hd : decode code pc = .ok (.iastore, 1)) {a : Addr} {vs vs' : List Value} {j x : Int32} (F : Ary Z h a .int vs) (h0 : ¬ j < 0) (h1 : j.toNatClampNeg < vs.length) (hs : vs.set j.toNatClampNeg (.int x) = vs') (ha : Z.heap.size ≤ a) (hs' : a ∈ S) (hp : pc + 1 = pc')
    (r : ∀ h', Wr h h' a j.toNatClampNeg (.int x) → Ary Z h' a .int vs' → Ext Z.heap h' → Run l R Z EL W Q S h' k n (mkF W.m pc' Ls st)) : Run l R Z EL W Q S h k n (mkF W.m pc Ls (.int x :: .int j :: .ref a :: st)) := by
  subst hp hs
  have F' := F
  obtain ⟨c, A, e, -⟩ := F'
  exact Run.wrote ha hs' (fun vm0 T locs X eT I => by have w0 := RoadKit.stI X C.hx I.hZ eT A (Ary.inb (a := a) (ty := .int) e h0 h1) (g := mkF W.m pc Ls (.int x :: .int j :: .ref a :: st)) rfl rfl (C.hb hd); exact w0) (fun h' w' O' => r h' w' (F.set w' rfl) O')
theorem aastore (C : Cx Z W own nm code maxL ret) (hd : decode code pc = .ok (.aastore, 1)) {a : Addr} {ty : FieldType} {vs vs' : List Value} {j : Int32} {v : Value} (F : Ary Z h a ty vs) (h0 : ¬ j < 0) (h1 : j.toNatClampNeg < vs.length) (ht : ty.isReference = true) (So : Sto Z h a v) (hf : fits ty v = true) (hs : vs.set j.toNatClampNeg v = vs') (ha : Z.heap.size ≤ a) (hs' : a ∈ S) (hp : pc + 1 = pc')
    (r : ∀ h', Wr h h' a j.toNatClampNeg v → Ary Z h' a ty vs' → Ext Z.heap h' → Run l R Z EL W Q S h' k n (mkF W.m pc' Ls st)) : Run l R Z EL W Q S h k n (mkF W.m pc Ls (v :: .int j :: .ref a :: st)) := by
  subst hp hs
  have F' := F
  obtain ⟨c, A, e, -⟩ := F'
  exact Run.wrote ha hs' (fun vm0 T locs X eT I => stR X C.hx I.hZ eT A (Ary.inb (a := a) (ty := ty) e h0 h1) ht So (g := mkF W.m pc Ls (v :: .int j :: .ref a :: st)) rfl rfl (C.hb hd)) (fun h' w' O' => r h' w' (F.set w' hf) O')
theorem newO (C : Cx Z W own nm code maxL ret) {K : String} {ix sl k' n' : Nat} (hd : decode code pc = .ok (.new ix, 3)) (w : (Cond.classLink own ix K).before a0 Z = true) (wi : (Cond.instantiable K sl).before a0 Z = true) (wz : (Cond.initialized K).before a0 Z = true) (hc : k + 1 = k') (hl : n + sl = n') (hc' : k' ≤ R.cells) (hl' : n' ≤ R.slots) (hp : pc + 3 = pc')
    (r : ∀ a h', a = h.size → Z.heap.size ≤ a → Ext h h' → Exa Z h' a K → Fresh Z a0 h' a K → Unt h' a → Ext Z.heap h' → Run l R Z EL W Q (a :: S) h' k' n' (mkF W.m pc' Ls (.ref a :: st))) : Run l R Z EL W Q S h k n (mkF W.m pc Ls st) := by
  subst hp hc hl
  intro vm0 T locs X eT N O I
  obtain ⟨T', h', X', e', E', A', D', U', s'⟩ := RoadKit.newO X C.hx I.hZ (I.ow C) w wi wz eT (g := mkF W.m pc Ls st) rfl (C.hb hd) hc' hl'
  have O' : Ext Z.heap h' := ((old_of O).ext E').2
  exact Go.step s' (r h.size h' rfl O.1 E' A' D' U' O' vm0 T' locs X' e' N O' (I.fresh E' A'.lt))
theorem newA (C : Cx Z W own nm code maxL ret) {aty : ArrayType} {ty : FieldType} {z : Int32} {k' n' cap : Nat} (hd : decode code pc = .ok (.newarray aty, 2)) (ht : newarray.typeOf aty = ty) (w : (Cond.arrayClass ty).before a0 Z = true) (hz : ¬ z < 0) (hcap : z.toNatClampNeg ≤ cap) (hb : cap * 8 ≤ 536870912) (hc : k + 1 = k') (hl : n + cap = n') (hc' : k' ≤ R.cells) (hl' : n' ≤ R.slots) (hdf : fits ty (defaultValue ty) = true) (hp : pc + 2 = pc')
    (r : ∀ a h', a = h.size → Z.heap.size ≤ a → Ext h h' → Ary Z h' a ty (List.replicate z.toNatClampNeg (defaultValue ty)) → Ext Z.heap h' → Run l R Z EL W Q (a :: S) h' k' n' (mkF W.m pc' Ls (.ref a :: st))) : Run l R Z EL W Q S h k n (mkF W.m pc Ls (.int z :: st)) := by
  subst hp hc hl ht
  intro vm0 T locs X eT N O I
  obtain ⟨T', h', cA, X', e', E', A', s'⟩ := newP X C.hx I.hZ w eT (g := mkF W.m pc Ls (.int z :: st)) rfl (C.hb hd) rfl hz hcap hb hc' hl'
  have O' : Ext Z.heap h' := ((old_of O).ext E').2
  have hz2 : z.toNatClampNeg < 2 ^ 31 := (back32 hz).2
  refine Go.step s' (r h.size h' rfl O.1 E' ⟨_, A', ?_, by simpa using hz2, fun v hv => ?_⟩ O' vm0 T' locs X' e' N O' (I.fresh E' A'.lt))
  · show Array.replicate _ _ = _
    simp
  · rw [(List.mem_replicate.mp hv).2]; exact hdf
theorem initO (C : Cx Z W own nm code maxL ret) {ix Wn : Nat} (hd : decode code pc = .ok (.invokespecial ix, 3)) (w1 : (Cond.methodLink own ix Lib.objectInit).before a0 Z = true) (w2 : (Cond.instanceMethod Lib.objectInit).before a0 Z = true) (w3 : (Cond.code Lib.objectInit ⟨#[0xb1]⟩ 1 none).before a0 Z = true) {a : Addr} (hsz : Ls.size = maxL) (hf : 1 ≤ R.frames) (hW : (st.map fun v => v.category).sum ≤ Wn) (hl : Wn + 12 ≤ R.locals) (hp : pc + 3 = pc')
    (r : Run l R Z EL W Q S h k n (mkF W.m pc' Ls st)) : Run l R Z EL W Q S h k n (mkF W.m pc Ls (.ref a :: st)) := by
  subst hp
  exact Run.via (fun vm0 T locs X eT I => RoadKit.initO X C.hx I.hZ (I.ow C) w1 w2 w3 eT (g := mkF W.m pc Ls (.ref a :: st)) rfl (hsz.trans C.ml.symm) rfl (C.hb hd) hf (W := Wn) (by show 2 * 0 + _ ≤ _; omega) hl) r
/-- a String constant -/
theorem ldcS (C : Cx Z W own nm code maxL ret) {ix k' n' nb : Nat} {text : String} {vs : List Value} {z : Int32} (hd : decode code pc = .ok (.ldc ix, 2)) (w : (Cond.stringLink own ix text).before a0 Z = true) (wS : ∀ a ∈ Bundle.stringAtoms, a.before a0 Z = true) (hE : EW Z a0 EL) (hm : (own, ix) ∈ EL) (ht : (∀ c ∈ text.toList, c.toNat < 256) ∧ text.toList.map (fun c => Value.int (Jvm.Lit.byteI c.toNat.toUInt16)) = vs) (hz : ¬ z < 0) (hl : z.toNatClampNeg = vs.length)
    (hn : 4 * text.toList.length ≤ nb) (hb : nb ≤ 536870912) (hk : k + 2 = k') (hn' : n + (nb + 4) = n') (hc : k' ≤ R.cells) (hl' : n' ≤ R.slots) (hp : pc + 2 = pc')
    (r : ∀ a b h', Ext h h' → Exa Z h' a "java/lang/String" → Fld Z h' a "java/lang/String" "coder" "B" (.int 0) → Fld Z h' a "java/lang/String" "value" "[B" (.ref b) → Ary Z h' b .byte vs → (∀ x ∈ S, x ≠ a ∧ x ≠ b) → Ext Z.heap h' → Run l R Z EL W Q S h' k' n' (mkF W.m pc' Ls (.ref a :: st))) : Run l R Z EL W Q S h k n (mkF W.m pc Ls st) := by
  subst hp hk hn'
  intro vm0 T locs X eT N O I
  have I0 := I
  obtain ⟨⟨k0, hS, hk0⟩, hZ, hr, hs⟩ := I
  obtain ⟨a, T', h', k1, b, kc, X', e', E', hS', hk1, hZ', -, A', Cd', V', F', -, -, CH', -, ne', s'⟩ := ldcCH X C.hx hZ (I0.ow C) w wS eT hS hk0 hE hm hr.1 ht hz hl (g := mkF W.m pc Ls st) rfl (C.hb hd) hn hb hc hl'
  have O' : Ext Z.heap h' := ((old_of O).ext E').2
  have I' : Inv Z EL W S T'.vm h' := ⟨⟨k1, hS', hk1⟩, hZ', hr.trans CH', fun x hx => ⟨Nat.lt_of_lt_of_le (hs x hx).1 E'.1, CH'.safe (hs x hx).1 (hs x hx).2⟩⟩
  exact Go.step s' (r a b h' E' A' Cd' V' (Ary.of_arv F' hl) (fun x hx => ne' x (I'.2.2.2 x hx).2) O' T'.vm T' locs X' e' N O' I')
/-- a String constant of which nothing is said -/
theorem ldcS0 (C : Cx Z W own nm code maxL ret) {ix k' n' nb : Nat} {text : String} (hd : decode code pc = .ok (.ldc ix, 2)) (w : (Cond.stringLink own ix text).before a0 Z = true) (wS : ∀ a ∈ Bundle.stringAtoms, a.before a0 Z = true) (hEL : EL = [])
    (hn : 4 * text.toList.length ≤ nb) (hb : nb ≤ 536870912) (hk : k + 2 = k') (hn' : n + (nb + 4) = n') (hc : k' ≤ R.cells) (hl' : n' ≤ R.slots) (hp : pc + 2 = pc')
    (r : ∀ a h', Ext h h' → Ext Z.heap h' → Run l R Z EL W Q S h' k' n' (mkF W.m pc' Ls (.ref a :: st))) : Run l R Z EL W Q S h k n (mkF W.m pc Ls st) := by
  subst hp hk hn' hEL
  intro vm0 T locs X eT N O I
  have I0 := I
  obtain ⟨⟨k0, hS, hk0⟩, hZ, hr, hs⟩ := I
  obtain ⟨a, T', h', k1, X', e', E', hS', hk1, hZ', -, s'⟩ := Jvm.RoadKit.ldcS X C.hx hZ (I0.ow C) w wS eT hS hk0 (g := mkF W.m pc Ls st) rfl (C.hb hd) hn hb hc hl'
  have O' : Ext Z.heap h' := ((old_of O).ext E').2
  have I' : Inv Z [] W S T'.vm h' := ⟨⟨k1, hS', hk1⟩, hZ', ⟨(fun p hp => nomatch hp), Nat.le_trans hr.2.1 E'.1, fun y q => by obtain ⟨p, hp, -⟩ := q; cases hp⟩, fun x hx => ⟨Nat.lt_of_lt_of_le (hs x hx).1 E'.1, fun q => by obtain ⟨p, hp, -⟩ := q; cases hp⟩⟩
  exact Go.step s' (r a h' E' O' T'.vm T' locs X' e' N O' I')
/-! ## contracts and calls -/
def Con (l : Launch) (Z : State) (EL : List (String × Nat)) (y : MethodName) (bytes : ByteArray) (maxL : Nat) (ret : Option FieldType) (rm : Room) (as' : Array Value) (h0 : Heap) (Q : Post) : Prop :=
  ∀ ws, MetFree l y (head1 (Jvm.Cond.code y bytes maxL ret :: ws) rm) (fun a U => a = as' ∧ Z.Warmed39 U.vm ∧ U.heap = h0 ∧ CHv Z EL U.vm h0) (fun _ _ _ _ _ => True) (fun _ U o U' => ∃ v L, o = .returned v ∧ (Q v U'.heap ∧ Ext Z.heap U'.heap ∧ Fr Z.heap.size L) ∧ CHr Z EL U.vm U.heap U'.vm U'.heap ∧ ReturnedEndW U o U' L rm.cells rm.slots)
theorem Con.intro {y : MethodName} {bytes : ByteArray} {rm : Room} {as' : Array Value} {Ls0 : Array Slot} (hy : plainFor y = true) (O : Ext Z.heap h) (he : ∀ m, entryFrame m as' maxL = mkF m 0 Ls0 [])
    (body : ∀ W : Wd, Cx Z W y.cls y.name bytes maxL ret → Run l rm Z EL W Q [] h 0 0 (mkF W.m 0 Ls0 [])) : Con l Z EL y bytes maxL ret rm as' h Q := by
  intro ws
  refine MetFree.of_bodySF hy hisR ?_
  intro p e s m args below meth c s₁ Bd hml0 hP hK
  obtain ⟨rfl, hZ, hh, hCH⟩ := hP
  have e0 : s₁.heap = h := by rw [← hh, Bd.state]; rfl
  have X0 : Stand p l e rm s m args below meth c s₁ [] 0 0 := Stand.of_body Bd
  have I0 : Inv Z EL (p, e, s, m, args, below, meth, c) [] s.vm h := ⟨⟨h.size, (State.WarmedH.refl s).since _, Nat.le_refl _⟩, hZ, by rw [← hh] at hCH ⊢; exact CHr.refl hCH, fun _ q => nomatch q⟩
  have r := body (p, e, s, m, args, below, meth, c) ⟨Bd.exec, Bd.bytes, hml0, findClass_of_methodNamed Bd.named, hZ, Bd.returns, (name_of_methodNamed Bd.named Bd.method).1, Bd.notSynchronized⟩ s.vm s₁ [] X0 e0 (Fr.nil _) O I0
  rw [he m]
  exact r
section Calls
variable {y : MethodName} {bytes : ByteArray} {mxL : Nat} {rt : Option FieldType} {rm : Room} {Qc : Post} {argsL : List Value} {as' : Array Value} {ix Wn k' n' kc nc : Nat} {st' : List Value}
/-- how a narrow callee leaves the heap -/
def Car (S : List Addr) (h h' : Heap) : Prop := h' = h ∨ Ext h h' ∨ ∃ ws : List Addr, (∀ x ∈ ws, x ∈ S) ∧ Keep h h' ws
theorem Inv.car {vm0 : Vm} {h' : Heap} (I : Inv Z EL W S vm0 h) (c : Car S h h') : Inv Z EL W S vm0 h' := by
  rcases c with rfl | E | ⟨ws, ha, K⟩
  · exact I
  · exact I.ext E
  · exact I.keep K ha
/-- how a narrow callee leaves the heap, in general: what it wrote was safe or is new; S': what is safe behind it -/
def CarN (S S' : List Addr) (h h' : Heap) : Prop := ∃ ws, (∀ x ∈ ws, x ∈ S ∨ h.size ≤ x) ∧ Keep h h' ws ∧ ∀ x ∈ S', x ∈ S ∨ (h.size ≤ x ∧ x < h'.size)
theorem Inv.carN {vm0 : Vm} {h' : Heap} {S' : List Addr} (I : Inv Z EL W S vm0 h) (c : CarN S S' h h') : Inv Z EL W S' vm0 h' := by
  obtain ⟨ws, q, K, n⟩ := c
  obtain ⟨⟨k0, hS, hk⟩, hZ, hr, hs⟩ := I
  have hq : ∀ x ∈ ws, Safe Z EL vm0 h x := fun x hx => (q x hx).elim (fun m => (hs x m).2) (fun m => Safe.new m)
  refine ⟨⟨k0, hS, Nat.le_trans hk K.1⟩, hZ, hr.trans (CHr.keep K hq hr.1), fun x hx => ?_⟩
  rcases n x hx with m | ⟨m1, m2⟩
  · exact ⟨Nat.lt_of_lt_of_le (hs x m).1 K.1, (hs x m).2.keep K hq hr.1⟩
  · exact ⟨m2, (Safe.new m1).keep K hq hr.1⟩
abbrev PaysS (l : Launch) (R : Room) (Z : State) (EL : List (String × Nat)) (W : Wd) (vm0 : Vm) (y : MethodName) (ln Wn : Nat) (as' : Array Value) (h : Heap) (kc nc : Nat) (Qv : Option Value → Heap → List Loc → Prop) : Prop :=
  BackS l R W.p W.e W.b (W.s.setVm vm0) W.a y ln Wn (fun P a => a = as' ∧ P.U.heap = h ∧ P.cells + kc ≤ R.cells ∧ P.slots + nc ≤ R.slots) (fun P _ v B => ∃ L, Qv v B.U.heap L ∧ B.locs = P.locs ++ L ∧ B.cells = P.cells + kc ∧ B.slots = P.slots + nc ∧ CHr Z EL vm0 h B.U.vm B.U.heap)
theorem Con.pays {ln : Nat} (hE : EW Z a0 EL) (K : Con l Z EL y bytes mxL rt rm as' h Qc) (w4 : (Cond.code y bytes mxL rt).before a0 Z = true) (wz : (Cond.initialized y.cls).before a0 Z = true) (hf : rm.frames + 1 ≤ R.frames) (hl : Wn + (mxL + 11) + rm.locals ≤ R.locals) : ∀ vm0, Inv Z EL W S vm0 h →
    PaysS l R Z EL W vm0 y ln Wn as' h rm.cells rm.slots (fun v h' L => Qc v h' ∧ Ext Z.heap h' ∧ Fr Z.heap.size L) := fun vm0 I => backOfSH (W := Wn) (Q := fun v h' L => Qc v h' ∧ Ext Z.heap h' ∧ Fr Z.heap.size L) (K []) I.2.1 w4 wz hf hl hE I.ch
theorem Inv.back {vm0 vm1 : Vm} {h1 : Heap} (I : Inv Z EL W S vm0 h) (hS : (W.s.setVm vm0).Since vm1 h1.size) (hg : h.size ≤ h1.size) (hr : CHr Z EL vm0 h vm1 h1) : Inv Z EL W S vm1 h1 := by
  obtain ⟨⟨k0, hS0, hk⟩, hZ, hr0, hs⟩ := I
  exact ⟨⟨h1.size, hS0.trans hS (Nat.le_trans hk hg), Nat.le_refl _⟩, State.Warmed39.trans (t := W.s.setVm vm0) hZ hS.1, hr0.trans hr, fun x hx => ⟨Nat.lt_of_lt_of_le (hs x hx).1 hg, hr.safe (hs x hx).1 (hs x hx).2⟩⟩
theorem callSN (C : Cx Z W own nm code maxL ret) (hd : decode code pc = .ok (.invokestatic ix, 3)) {τ : Type} {Qd : τ → Post} {S' : τ → List Addr} {Qv : Option Value → Heap → List Loc → Prop} (K : ∀ vm0, Cx Z (At W vm0) own nm code maxL ret → Wk.Pays l R (At W vm0) y 3 Wn as' h kc nc Qv) (hQ : Clean Z (fun v h' => ∃ t, Qd t v h') Qv) (hcar : ∀ t v h', Qd t v h' → CarN S (S' t) h h') (w1 : (Cond.methodLink own ix y).before a0 Z = true) (w2 : (Cond.static y).before a0 Z = true) (w3 : (Cond.initialized y.cls).before a0 Z = true) (w4 : (Cond.code y bytes mxL rt).before a0 Z = true) (hy : y.cls ≠ "java/lang/invoke/MethodHandle" ∧ y.cls ≠ "java/lang/invoke/VarHandle")
    (has : argsL.toArray = as') (hst : argsL.reverse ++ st = st') (hlen : ∀ sig, parseMethodDescriptor y.desc = some sig → argsL.length = sig.parameters.length) (hsz : Ls.size = maxL) (hW : (st.map fun v => v.category).sum ≤ Wn) (hk : k + kc = k') (hn : n + nc = n') (hk' : k' ≤ R.cells) (hn' : n' ≤ R.slots) (hp : pc + 3 = pc')
    (r : ∀ t v h', Qd t v h' → Ext Z.heap h' → Run l R Z EL W Q (S' t) h' k' n' (mkF W.m pc' Ls (v.toList ++ st))) : Run l R Z EL W Q S h k n (mkF W.m pc Ls st') := by
  subst hp hk hn has hst
  intro vm0 T locs X eT N O I
  obtain ⟨v, vm₁, ⟨T', L', k', n'⟩, -, X', ⟨L, q0, l1, y1, z1⟩, s'⟩ := Jvm.LawKit.callS X C.hx (y := y) (I.ow C) (mvT I.hZ w1) (mvT I.hZ w2) (mvT I.hZ w3) (mvT I.hZ w4) hy (K vm0 (I.cx C)) (g := mkF W.m pc Ls (argsL.reverse ++ st)) rfl (hsz.trans C.ml.symm) (argsL := argsL) (rest := st) hlen rfl (by show 2 * 0 + _ ≤ _; omega) (C.hb hd) (fun _ _ => ⟨rfl, eT, hk', hn'⟩)
  dsimp only [Pt.U, Pt.locs, Pt.cells, Pt.slots] at X' l1 y1 z1 s' q0
  subst l1 y1 z1
  obtain ⟨⟨t, q1⟩, q2, q3⟩ := hQ _ _ _ q0
  exact Go.step s' (r t v T'.heap q1 q2 vm0 T' _ X' rfl (N.app q3) q2 (I.carN (hcar _ _ _ q1)))
theorem callS (C : Cx Z W own nm code maxL ret) (hd : decode code pc = .ok (.invokestatic ix, 3)) {Qv : Option Value → Heap → List Loc → Prop} (K : ∀ vm0, Cx Z (At W vm0) own nm code maxL ret → Wk.Pays l R (At W vm0) y 3 Wn as' h kc nc Qv) (hQ : Clean Z Qc Qv) (hcar : ∀ v h', Qc v h' → Car S h h') (w1 : (Cond.methodLink own ix y).before a0 Z = true) (w2 : (Cond.static y).before a0 Z = true) (w3 : (Cond.initialized y.cls).before a0 Z = true) (w4 : (Cond.code y bytes mxL rt).before a0 Z = true) (hy : y.cls ≠ "java/lang/invoke/MethodHandle" ∧ y.cls ≠ "java/lang/invoke/VarHandle")
    (has : argsL.toArray = as') (hst : argsL.reverse ++ st = st') (hlen : ∀ sig, parseMethodDescriptor y.desc = some sig → argsL.length = sig.parameters.length) (hsz : Ls.size = maxL) (hW : (st.map fun v => v.category).sum ≤ Wn) (hk : k + kc = k') (hn : n + nc = n') (hk' : k' ≤ R.cells) (hn' : n' ≤ R.slots) (hp : pc + 3 = pc')
    (r : ∀ v h', Qc v h' → Ext Z.heap h' → Run l R Z EL W Q S h' k' n' (mkF W.m pc' Ls (v.toList ++ st))) : Run l R Z EL W Q S h k n (mkF W.m pc Ls st') := by
  subst hp hk hn has hst
  intro vm0 T locs X eT N O I
  obtain ⟨v, vm₁, ⟨T', L', k', n'⟩, -, X', ⟨L, q0, l1, y1, z1⟩, s'⟩ := Jvm.LawKit.callS X C.hx (y := y) (I.ow C) (mvT I.hZ w1) (mvT I.hZ w2) (mvT I.hZ w3) (mvT I.hZ w4) hy (K vm0 (I.cx C)) (g := mkF W.m pc Ls (argsL.reverse ++ st)) rfl (hsz.trans C.ml.symm) (argsL := argsL) (rest := st) hlen rfl (by show 2 * 0 + _ ≤ _; omega) (C.hb hd) (fun _ _ => ⟨rfl, eT, hk', hn'⟩)
  dsimp only [Pt.U, Pt.locs, Pt.cells, Pt.slots] at X' l1 y1 z1 s' q0
  subst l1 y1 z1
  obtain ⟨q1, q2, q3⟩ := hQ _ _ _ q0
  exact Go.step s' (r v T'.heap q1 q2 vm0 T' _ X' rfl (N.app q3) q2 (I.car (hcar _ _ q1)))
theorem callSS (C : Cx Z W own nm code maxL ret) (hd : decode code pc = .ok (.invokestatic ix, 3)) {Qv : Option Value → Heap → List Loc → Prop} (K : ∀ vm0, Inv Z EL W S vm0 h → PaysS l R Z EL W vm0 y 3 Wn as' h kc nc Qv) (hQ : Clean Z Qc Qv) (w1 : (Cond.methodLink own ix y).before a0 Z = true) (w2 : (Cond.static y).before a0 Z = true) (w3 : (Cond.initialized y.cls).before a0 Z = true) (w4 : (Cond.code y bytes mxL rt).before a0 Z = true) (hy : y.cls ≠ "java/lang/invoke/MethodHandle" ∧ y.cls ≠ "java/lang/invoke/VarHandle")
    (has : argsL.toArray = as') (hst : argsL.reverse ++ st = st') (hlen : ∀ sig, parseMethodDescriptor y.desc = some sig → argsL.length = sig.parameters.length) (hsz : Ls.size = maxL) (hW : (st.map fun v => v.category).sum ≤ Wn) (hk : k + kc = k') (hn : n + nc = n') (hk' : k' ≤ R.cells) (hn' : n' ≤ R.slots) (hp : pc + 3 = pc')
    (r : ∀ v h', Qc v h' → Ext Z.heap h' → Run l R Z EL W Q S h' k' n' (mkF W.m pc' Ls (v.toList ++ st))) : Run l R Z EL W Q S h k n (mkF W.m pc Ls st') := by
  subst hp hk hn has hst
  intro vm0 T locs X eT N O I
  obtain ⟨v, vm₁, ⟨T', L', k', n'⟩, -, X', hS, hg, ⟨L, q0, l1, y1, z1, hr⟩, s'⟩ := callSS X C.hx (y := y) (I.ow C) (mvT I.hZ w1) (mvT I.hZ w2) (mvT I.hZ w3) (mvT I.hZ w4) hy (K vm0 I) (g := mkF W.m pc Ls (argsL.reverse ++ st)) rfl (hsz.trans C.ml.symm) (argsL := argsL) (rest := st) hlen rfl (by show 2 * 0 + _ ≤ _; omega) (C.hb hd) (fun _ _ => ⟨rfl, eT, hk', hn'⟩)
  dsimp only [Pt.U, Pt.locs, Pt.cells, Pt.slots] at X' l1 y1 z1 s' q0 hS hg hr
  subst l1 y1 z1
  obtain ⟨q1, q2, q3⟩ := hQ _ _ _ q0
  exact Go.step (fun t => s'.trans) (r v T'.heap q1 q2 T'.vm T' _ X' rfl (N.app q3) q2 (I.back hS (eT ▸ hg) hr))
theorem callIN (C : Cx Z W own nm code maxL ret) (hd : decode code pc = .ok (.invokespecial ix, 3)) {a : Addr} {τ : Type} {Qd : τ → Post} {S' : τ → List Addr} {Qv : Option Value → Heap → List Loc → Prop} (K : ∀ vm0, Cx Z (At W vm0) own nm code maxL ret → Wk.Pays l R (At W vm0) y 3 Wn as' h kc nc Qv) (hQ : Clean Z (fun v h' => ∃ t, Qd t v h') Qv) (hcar : ∀ t v h', Qd t v h' → CarN S (S' t) h h') (hi : y.name = "<init>") (w1 : (Cond.methodLink own ix y).before a0 Z = true) (w2 : (Cond.instanceMethod y).before a0 Z = true) (w4 : (Cond.code y bytes mxL none).before a0 Z = true) (hy : y.cls ≠ "java/lang/invoke/MethodHandle" ∧ y.cls ≠ "java/lang/invoke/VarHandle")
    (has : (Value.ref a :: argsL).toArray = as') (hst : argsL.reverse ++ .ref a :: st = st') (hlen : ∀ sig, parseMethodDescriptor y.desc = some sig → argsL.length = sig.parameters.length) (hsz : Ls.size = maxL) (hW : (st.map fun v => v.category).sum ≤ Wn) (hk : k + kc = k') (hn : n + nc = n') (hk' : k' ≤ R.cells) (hn' : n' ≤ R.slots) (hp : pc + 3 = pc')
    (r : ∀ t v h', Qd t v h' → Ext Z.heap h' → Run l R Z EL W Q (S' t) h' k' n' (mkF W.m pc' Ls (v.toList ++ st))) : Run l R Z EL W Q S h k n (mkF W.m pc Ls st') := by
  subst hp hk hn has hst
  intro vm0 T locs X eT N O I
  obtain ⟨v, vm₁, ⟨T', L', k', n'⟩, -, X', ⟨L, q0, l1, y1, z1⟩, s'⟩ := X.specialBack C.hx (y := y) hi (I.ow C) (mvT I.hZ w1) (mvT I.hZ w2) (mvT I.hZ w4) hy (K vm0 (I.cx C)) (g := mkF W.m pc Ls (argsL.reverse ++ .ref a :: st)) rfl (hsz.trans C.ml.symm) (Steps.refl _) (a := a) (argsL := argsL) (rest := st) hlen rfl (by show 2 * 0 + _ ≤ _; omega) (C.hb hd) (fun _ _ => ⟨rfl, eT, hk', hn'⟩)
  dsimp only [Pt.U, Pt.locs, Pt.cells, Pt.slots] at X' l1 y1 z1 s' q0
  subst l1 y1 z1
  obtain ⟨⟨t, q1⟩, q2, q3⟩ := hQ _ _ _ q0
  exact Go.step (fun t => s'.trans) (r t v T'.heap q1 q2 vm0 T' _ X' rfl (N.app q3) q2 (I.carN (hcar _ _ _ q1)))
theorem callI (C : Cx Z W own nm code maxL ret) (hd : decode code pc = .ok (.invokespecial ix, 3)) {a : Addr} {Qv : Option Value → Heap → List Loc → Prop} (K : ∀ vm0, Cx Z (At W vm0) own nm code maxL ret → Wk.Pays l R (At W vm0) y 3 Wn as' h kc nc Qv) (hQ : Clean Z Qc Qv) (hcar : ∀ v h', Qc v h' → Car S h h') (hi : y.name = "<init>") (w1 : (Cond.methodLink own ix y).before a0 Z = true) (w2 : (Cond.instanceMethod y).before a0 Z = true) (w4 : (Cond.code y bytes mxL none).before a0 Z = true) (hy : y.cls ≠ "java/lang/invoke/MethodHandle" ∧ y.cls ≠ "java/lang/invoke/VarHandle")
    (has : (Value.ref a :: argsL).toArray = as') (hst : argsL.reverse ++ .ref a :: st = st') (hlen : ∀ sig, parseMethodDescriptor y.desc = some sig → argsL.length = sig.parameters.length) (hsz : Ls.size = maxL) (hW : (st.map fun v => v.category).sum ≤ Wn) (hk : k + kc = k') (hn : n + nc = n') (hk' : k' ≤ R.cells) (hn' : n' ≤ R.slots) (hp : pc + 3 = pc')
    (r : ∀ v h', Qc v h' → Ext Z.heap h' → Run l R Z EL W Q S h' k' n' (mkF W.m pc' Ls (v.toList ++ st))) : Run l R Z EL W Q S h k n (mkF W.m pc Ls st') := by
  subst hp hk hn has hst
  intro vm0 T locs X eT N O I
  obtain ⟨v, vm₁, ⟨T', L', k', n'⟩, -, X', ⟨L, q0, l1, y1, z1⟩, s'⟩ := X.specialBack C.hx (y := y) hi (I.ow C) (mvT I.hZ w1) (mvT I.hZ w2) (mvT I.hZ w4) hy (K vm0 (I.cx C)) (g := mkF W.m pc Ls (argsL.reverse ++ .ref a :: st)) rfl (hsz.trans C.ml.symm) (Steps.refl _) (a := a) (argsL := argsL) (rest := st) hlen rfl (by show 2 * 0 + _ ≤ _; omega) (C.hb hd) (fun _ _ => ⟨rfl, eT, hk', hn'⟩)
  dsimp only [Pt.U, Pt.locs, Pt.cells, Pt.slots] at X' l1 y1 z1 s' q0
  subst l1 y1 z1
  obtain ⟨q1, q2, q3⟩ := hQ _ _ _ q0
  exact Go.step (fun t => s'.trans) (r v T'.heap q1 q2 vm0 T' _ X' rfl (N.app q3) q2 (I.car (hcar _ _ q1)))
theorem callIS (C : Cx Z W own nm code maxL ret) (hd : decode code pc = .ok (.invokespecial ix, 3)) {a : Addr} {Qv : Option Value → Heap → List Loc → Prop} (K : ∀ vm0, Inv Z EL W S vm0 h → PaysS l R Z EL W vm0 y 3 Wn as' h kc nc Qv) (hQ : Clean Z Qc Qv) (hi : y.name = "<init>") (w1 : (Cond.methodLink own ix y).before a0 Z = true) (w2 : (Cond.instanceMethod y).before a0 Z = true) (w4 : (Cond.code y bytes mxL none).before a0 Z = true) (hy : y.cls ≠ "java/lang/invoke/MethodHandle" ∧ y.cls ≠ "java/lang/invoke/VarHandle")
    (has : (Value.ref a :: argsL).toArray = as') (hst : argsL.reverse ++ .ref a :: st = st') (hlen : ∀ sig, parseMethodDescriptor y.desc = some sig → argsL.length = sig.parameters.length) (hsz : Ls.size = maxL) (hW : (st.map fun v => v.category).sum ≤ Wn) (hk : k + kc = k') (hn : n + nc = n') (hk' : k' ≤ R.cells) (hn' : n' ≤ R.slots) (hp : pc + 3 = pc')
    (r : ∀ v h', Qc v h' → Ext Z.heap h' → Run l R Z EL W Q S h' k' n' (mkF W.m pc' Ls (v.toList ++ st))) : Run l R Z EL W Q S h k n (mkF W.m pc Ls st') := by
  subst hp hk hn has hst
  intro vm0 T locs X eT N O I
  obtain ⟨v, vm₁, ⟨T', L', k', n'⟩, -, X', hS, hg, ⟨L, q0, l1, y1, z1, hr⟩, s'⟩ := X.specialBackS C.hx (y := y) hi (I.ow C) (mvT I.hZ w1) (mvT I.hZ w2) (mvT I.hZ w4) hy (K vm0 I) (g := mkF W.m pc Ls (argsL.reverse ++ .ref a :: st)) rfl (hsz.trans C.ml.symm) (Steps.refl _) (a := a) (argsL := argsL) (rest := st) hlen rfl (by show 2 * 0 + _ ≤ _; omega) (C.hb hd) (fun _ _ => ⟨rfl, eT, hk', hn'⟩)
  dsimp only [Pt.U, Pt.locs, Pt.cells, Pt.slots] at X' l1 y1 z1 s' q0 hS hg hr
  subst l1 y1 z1
  obtain ⟨q1, q2, q3⟩ := hQ _ _ _ q0
  exact Go.step (fun t => s'.trans) (r v T'.heap q1 q2 T'.vm T' _ X' rfl (N.app q3) q2 (I.back hS (eT ▸ hg) hr))
theorem callVN (C : Cx Z W own nm code maxL ret) (hd : decode code pc = .ok (.invokevirtual ix, 3)) {y0 : MethodName} {K0 : String} {a : Addr} {τ : Type} {Qd : τ → Post} {S' : τ → List Addr} {Qv : Option Value → Heap → List Loc → Prop} (K : ∀ vm0, Cx Z (At W vm0) own nm code maxL ret → Wk.Pays l R (At W vm0) y 3 Wn as' h kc nc Qv) (hQ : Clean Z (fun v h' => ∃ t, Qd t v h') Qv) (hcar : ∀ t v h', Qd t v h' → CarN S (S' t) h h') (E : Exa Z h a K0) (w1 : (Cond.methodLink own ix y0).before a0 Z = true) (w2 : (Cond.declares y0).before a0 Z = true) (nf : ∀ vm0, Z.Warmed39 vm0 → NotFace (W.s.setVm vm0) y0) (w3 : (Cond.selects K0 y0 y).before a0 Z = true) (w5 : (Cond.instanceMethod y).before a0 Z = true) (hy : y0.cls ≠ "java/lang/invoke/MethodHandle" ∧ y0.cls ≠ "java/lang/invoke/VarHandle")
    (has : (Value.ref a :: argsL).toArray = as') (hst : argsL.reverse ++ .ref a :: st = st') (hlen : ∀ sig, parseMethodDescriptor y0.desc = some sig → argsL.length = sig.parameters.length) (hsz : Ls.size = maxL) (hW : (st.map fun v => v.category).sum ≤ Wn) (hk : k + kc = k') (hn : n + nc = n') (hk' : k' ≤ R.cells) (hn' : n' ≤ R.slots) (hp : pc + 3 = pc')
    (r : ∀ t v h', Qd t v h' → Ext Z.heap h' → Run l R Z EL W Q (S' t) h' k' n' (mkF W.m pc' Ls (v.toList ++ st))) : Run l R Z EL W Q S h k n (mkF W.m pc Ls st') := by
  subst hp hk hn has hst
  intro vm0 T locs X eT N O I
  obtain ⟨cq, kq, qa, qb, qc⟩ := isOf I.hZ eT E
  obtain ⟨v, vm₁, ⟨T', L', k', n'⟩, -, X', ⟨L, q0, l1, y1, z1⟩, s'⟩ := X.virtualBack C.hx (y := y0) (z := y) (I.ow C) (mvT I.hZ w1) (mvT I.hZ w2) (nf vm0 I.2.1) (mvT I.hZ w3) (mvT I.hZ w5) hy (K vm0 (I.cx C)) qa qc (g := mkF W.m pc Ls (argsL.reverse ++ .ref a :: st)) rfl (hsz.trans C.ml.symm) (Steps.refl _) (argsL := argsL) (rest := st) hlen rfl (by show 2 * 0 + _ ≤ _; omega) (C.hb hd) (fun _ _ => ⟨rfl, eT, hk', hn'⟩)
  dsimp only [Pt.U, Pt.locs, Pt.cells, Pt.slots] at X' l1 y1 z1 s' q0
  subst l1 y1 z1
  obtain ⟨⟨t, q1⟩, q2, q3⟩ := hQ _ _ _ q0
  exact Go.step (fun t => s'.trans) (r t v T'.heap q1 q2 vm0 T' _ X' rfl (N.app q3) q2 (I.carN (hcar _ _ _ q1)))
theorem callV (C : Cx Z W own nm code maxL ret) (hd : decode code pc = .ok (.invokevirtual ix, 3)) {y0 : MethodName} {K0 : String} {a : Addr} {Qv : Option Value → Heap → List Loc → Prop} (K : ∀ vm0, Cx Z (At W vm0) own nm code maxL ret → Wk.Pays l R (At W vm0) y 3 Wn as' h kc nc Qv) (hQ : Clean Z Qc Qv) (hcar : ∀ v h', Qc v h' → Car S h h') (E : Exa Z h a K0) (w1 : (Cond.methodLink own ix y0).before a0 Z = true) (w2 : (Cond.declares y0).before a0 Z = true) (nf : ∀ vm0, Z.Warmed39 vm0 → NotFace (W.s.setVm vm0) y0) (w3 : (Cond.selects K0 y0 y).before a0 Z = true) (w5 : (Cond.instanceMethod y).before a0 Z = true) (hy : y0.cls ≠ "java/lang/invoke/MethodHandle" ∧ y0.cls ≠ "java/lang/invoke/VarHandle")
    (has : (Value.ref a :: argsL).toArray = as') (hst : argsL.reverse ++ .ref a :: st = st') (hlen : ∀ sig, parseMethodDescriptor y0.desc = some sig → argsL.length = sig.parameters.length) (hsz : Ls.size = maxL) (hW : (st.map fun v => v.category).sum ≤ Wn) (hk : k + kc = k') (hn : n + nc = n') (hk' : k' ≤ R.cells) (hn' : n' ≤ R.slots) (hp : pc + 3 = pc')
    (r : ∀ v h', Qc v h' → Ext Z.heap h' → Run l R Z EL W Q S h' k' n' (mkF W.m pc' Ls (v.toList ++ st))) : Run l R Z EL W Q S h k n (mkF W.m pc Ls st') := by
  subst hp hk hn has hst
  intro vm0 T locs X eT N O I
  obtain ⟨cq, kq, qa, qb, qc⟩ := isOf I.hZ eT E
  obtain ⟨v, vm₁, ⟨T', L', k', n'⟩, -, X', ⟨L, q0, l1, y1, z1⟩, s'⟩ := X.virtualBack C.hx (y := y0) (z := y) (I.ow C) (mvT I.hZ w1) (mvT I.hZ w2) (nf vm0 I.2.1) (mvT I.hZ w3) (mvT I.hZ w5) hy (K vm0 (I.cx C)) qa qc (g := mkF W.m pc Ls (argsL.reverse ++ .ref a :: st)) rfl (hsz.trans C.ml.symm) (Steps.refl _) (argsL := argsL) (rest := st) hlen rfl (by show 2 * 0 + _ ≤ _; omega) (C.hb hd) (fun _ _ => ⟨rfl, eT, hk', hn'⟩)
  dsimp only [Pt.U, Pt.locs, Pt.cells, Pt.slots] at X' l1 y1 z1 s' q0
  subst l1 y1 z1
  obtain ⟨q1, q2, q3⟩ := hQ _ _ _ q0
  exact Go.step (fun t => s'.trans) (r v T'.heap q1 q2 vm0 T' _ X' rfl (N.app q3) q2 (I.car (hcar _ _ q1)))
theorem callVS (C : Cx Z W own nm code maxL ret) (hd : decode code pc = .ok (.invokevirtual ix, 3)) {y0 : MethodName} {K0 : String} {a : Addr} {Qv : Option Value → Heap → List Loc → Prop} (K : ∀ vm0, Inv Z EL W S vm0 h → PaysS l R Z EL W vm0 y 3 Wn as' h kc nc Qv) (hQ : Clean Z Qc Qv) (E : Exa Z h a K0) (w1 : (Cond.methodLink own ix y0).before a0 Z = true) (w2 : (Cond.declares y0).before a0 Z = true) (nf : ∀ vm0, Z.Warmed39 vm0 → NotFace (W.s.setVm vm0) y0) (w3 : (Cond.selects K0 y0 y).before a0 Z = true) (w5 : (Cond.instanceMethod y).before a0 Z = true) (hy : y0.cls ≠ "java/lang/invoke/MethodHandle" ∧ y0.cls ≠ "java/lang/invoke/VarHandle")
    (has : (Value.ref a :: argsL).toArray = as') (hst : argsL.reverse ++ .ref a :: st = st') (hlen : ∀ sig, parseMethodDescriptor y0.desc = some sig → argsL.length = sig.parameters.length) (hsz : Ls.size = maxL) (hW : (st.map fun v => v.category).sum ≤ Wn) (hk : k + kc = k') (hn : n + nc = n') (hk' : k' ≤ R.cells) (hn' : n' ≤ R.slots) (hp : pc + 3 = pc')
    (r : ∀ v h', Qc v h' → Ext Z.heap h' → Run l R Z EL W Q S h' k' n' (mkF W.m pc' Ls (v.toList ++ st))) : Run l R Z EL W Q S h k n (mkF W.m pc Ls st') := by
  subst hp hk hn has hst
  intro vm0 T locs X eT N O I
  obtain ⟨cq, kq, qa, qb, qc⟩ := isOf I.hZ eT E
  obtain ⟨v, vm₁, ⟨T', L', k', n'⟩, -, X', hS, hg, ⟨L, q0, l1, y1, z1, hr⟩, s'⟩ := X.virtualBackS C.hx (y := y0) (z := y) (I.ow C) (mvT I.hZ w1) (mvT I.hZ w2) (nf vm0 I.2.1) (mvT I.hZ w3) (mvT I.hZ w5) hy (K vm0 I) qa qc (g := mkF W.m pc Ls (argsL.reverse ++ .ref a :: st)) rfl (hsz.trans C.ml.symm) (Steps.refl _) (argsL := argsL) (rest := st) hlen rfl (by show 2 * 0 + _ ≤ _; omega) (C.hb hd) (fun _ _ => ⟨rfl, eT, hk', hn'⟩)
  dsimp only [Pt.U, Pt.locs, Pt.cells, Pt.slots] at X' l1 y1 z1 s' q0 hS hg hr
  subst l1 y1 z1
  obtain ⟨q1, q2, q3⟩ := hQ _ _ _ q0
  exact Go.step (fun t => s'.trans) (r v T'.heap q1 q2 T'.vm T' _ X' rfl (N.app q3) q2 (I.back hS (eT ▸ hg) hr))
end Calls
/-! ## returns -/
theorem Run.leave (C : Cx Z W own nm code maxL ret) (hE : EW Z a0 EL) {v : Option Value} {f : JFrame} (hv : ret = none → v = none) (q : Q v h) (hk : k ≤ R.cells) (hn : n ≤ R.slots)
    (s' : ∀ vm0 T locs, Std l R W vm0 T locs k n → ∀ fs, (∀ (f : JFrame) (acts : List Action), f.method = W.m → f.locked = none → f.entered = [] → (doReturn W.e (T.setTop f) acts v).1 = T.setFrames fs) → Steps W.p.tables W.e W.b (T.setTop f) (T.setFrames fs)) : Run l R Z EL W Q S h k n f := by
  intro vm0 T locs X eT N O I
  have hlk : W.t.locks = false := C.lk
  obtain ⟨fs, hr, hrun, hended, hW, hsame⟩ := X.leave (v := v) (fun hh => hv (C.rt.symm.trans hh))
  have e2 : (T.setFrames fs).heap = h := eT
  obtain ⟨⟨k0, hS, hk0⟩, hZ, hr0, -⟩ := I
  have hc := CHv.at X hZ hE hr0.1
  obtain ⟨e4, e5, e6⟩ := hS.ended (U := T.setFrames fs) hW (by rw [e2]; exact hk0) hsame
  exact ⟨_, _, s' vm0 T locs X fs hr, hrun, hended, _, _, rfl, ⟨by rw [e2]; exact q, by rw [e2]; exact O, N⟩, by rw [e2]; exact hr0.trans hc, ⟨_, rfl⟩, e4, e5, e6.mono hk hn⟩
theorem retV (C : Cx Z W own nm code maxL none) (hE : EW Z a0 EL) (hd : decode code pc = .ok (.return_, 1)) (hk : k ≤ R.cells) (hn : n ≤ R.slots) (q : Q none h) : Run l R Z EL W Q S h k n (mkF W.m pc Ls []) :=
  Run.leave C hE (fun _ => rfl) q hk hn (fun vm0 T locs X fs hr => X.returnOut C.hx C.rt (C.hb hd) hr)
theorem retI (C : Cx Z W own nm code maxL (some .int)) (hE : EW Z a0 EL) (hd : decode code pc = .ok (.ireturn, 1)) {z : Int32} (hk : k ≤ R.cells) (hn : n ≤ R.slots) (q : Q (some (.int z)) h) : Run l R Z EL W Q S h k n (mkF W.m pc Ls (.int z :: st)) :=
  Run.leave C hE (fun hh => nomatch hh) q hk hn (fun vm0 T locs X fs hr => retOut X C.hx C.rt rfl (Or.inl ⟨rfl, Or.inl rfl, z, rfl⟩) (C.hb hd) hr)
theorem retNar {ty : FieldType} (C : Cx Z W own nm code maxL (some ty)) (hE : EW Z a0 EL) (ht : ty = .boolean ∨ ty = .byte ∨ ty = .char ∨ ty = .short) (hd : decode code pc = .ok (.ireturn, 1)) {z z' : Int32} (hz : nar ty z = z') (hk : k ≤ R.cells) (hn : n ≤ R.slots) (q : Q (some (.int z')) h) : Run l R Z EL W Q S h k n (mkF W.m pc Ls (.int z :: st)) := by
  subst hz
  exact Run.leave C hE (fun hh => nomatch hh) q hk hn (fun vm0 T locs X fs hr => retN X C.hx C.rt ht (C.hb hd) hr)
theorem retL (C : Cx Z W own nm code maxL (some .long)) (hE : EW Z a0 EL) (hd : decode code pc = .ok (.lreturn, 1)) {z : Int64} (hk : k ≤ R.cells) (hn : n ≤ R.slots) (q : Q (some (.long z)) h) : Run l R Z EL W Q S h k n (mkF W.m pc Ls (.long z :: st)) :=
  Run.leave C hE (fun hh => nomatch hh) q hk hn (fun vm0 T locs X fs hr => retOut X C.hx C.rt rfl (Or.inr (Or.inl ⟨rfl, rfl, z, rfl⟩)) (C.hb hd) hr)
theorem retA {ty : FieldType} {v : Value} (C : Cx Z W own nm code maxL (some ty)) (hE : EW Z a0 EL) (ht : ty.isReference = true) (hv : v.isRef = true) (hd : decode code pc = .ok (.areturn, 1)) (hk : k ≤ R.cells) (hn : n ≤ R.slots) (q : Q (some v) h) : Run l R Z EL W Q S h k n (mkF W.m pc Ls (v :: st)) :=
  Run.leave C hE (fun hh => nomatch hh) q hk hn (fun vm0 T locs X fs hr => retOut X C.hx C.rt (by rcases ref_cases hv with rfl | ⟨a, rfl⟩ <;> cases ty <;> simp [FieldType.isReference] at ht <;> rfl) (Or.inr (Or.inr (Or.inr (Or.inr ⟨rfl, ht, hv⟩)))) (C.hb hd) hr)
end Kit
end Ww
abbrev EL : List (String × Nat) := consts_1
theorem own_EW {a0 : Array Value} {Z : State} (hw : Ws a0 Z) : EW Z a0 EL := (EW.cons (w57 hw) (by decide) (EW.cons (w108 hw) (by decide) (EW.cons (w205 hw) (by decide) EW.nil)))
theorem wS {a0 : Array Value} {Z : State} (hw : Ws a0 Z) : ∀ a ∈ Bundle.stringAtoms, a.before a0 Z = true := by
  intro a ha
  simp only [Bundle.stringAtoms, List.mem_cons, List.not_mem_nil, or_false] at ha
  rcases ha with rfl | rfl | rfl | rfl | rfl | rfl | rfl
  · exact (w20 hw)
  · exact (w27 hw)
  · exact (w21 hw)
  · exact (w36 hw)
  · exact (w38 hw)
  · exact (w58 hw)
  · exact (w59 hw)
set_option maxRecDepth 65536 in
set_option maxHeartbeats 40000000 in
theorem own_coder (l : Launch) {Z : State} {a0 : Array Value} (hw : Ws a0 Z) {h0 : Heap} (O0 : Ext Z.heap h0) (hs : Sets Z) (x : Addr) (ds : List Int32) (F : Str Z h0 x ds) :
    Wk.Con l Z (⟨"java/lang/String", "coder", "()B"⟩ : MethodName) jdk_42_method_152_code 1 (some .byte) ({ frames := 0, cells := 0, slots := 0, locals := 0 } : Room) #[(.ref x)] h0 (fun v h' => v = some (.int 0) ∧ h' = h0) := by
  refine Wk.Con.intro (plainFor_of_name pn0) O0 (fun m => ef0 m x) ?_
  intro W C
  replace C : Wk.Cx Z W "java/lang/String" "coder" jdk_42_method_152_code 1 (some .byte) := C
  obtain ⟨zc, fm, SC, hzc, -, -⟩ := hs
  refine Wk.getS (pc' := 3) C d_jdk_42m152_0 (w80 hw) Via.refl (SC.ext O0) rfl ?_
  refine Wk.if_eq C d_jdk_42m152_3 (by decide) (pcT := 13) (by decide) (pc' := 6) rfl (fun q => absurd q hzc) (fun q11 => ?_)
  refine Wk.aloadN (pc' := 7) C d_jdk_42m152_6 rfl rfl rfl ?_
  refine Wk.getF (pc' := 10) C d_jdk_42m152_7 (w37 hw) Via.refl F.2.1 rfl ?_
  refine Wk.goto C d_jdk_42m152_10 (by decide) (pc' := 14) (by decide) ?_
  exact Wk.retNar (ty := .byte) C (by simp) d_jdk_42m152_14 rfl (by decide) (by decide) ⟨rfl, rfl⟩
set_option maxRecDepth 65536 in
set_option maxHeartbeats 40000000 in
theorem own_isLatin1 (l : Launch) {Z : State} {a0 : Array Value} (hw : Ws a0 Z) {h0 : Heap} (O0 : Ext Z.heap h0) (hs : Sets Z) (a1 : Addr) (cs : List Int32) (F : Str Z h0 a1 cs) :
    Wk.Con l Z (⟨"java/lang/String", "isLatin1", "()Z"⟩ : MethodName) jdk_42_method_154_code 1 (some .boolean) ({ frames := 0, cells := 0, slots := 0, locals := 0 } : Room) #[(.ref a1)] h0 (fun v h' => v = some (.int 1) ∧ h' = h0) := by
  refine Wk.Con.intro (plainFor_of_name pn0) O0 (fun m => ef1 m a1) ?_
  intro W C
  replace C : Wk.Cx Z W "java/lang/String" "isLatin1" jdk_42_method_154_code 1 (some .boolean) := C
  obtain ⟨zc, fm, SC, hzc, -, -⟩ := hs
  refine Wk.getS (pc' := 3) C d_jdk_42m154_0 (w80 hw) Via.refl (SC.ext O0) rfl ?_
  refine Wk.if_eq C d_jdk_42m154_3 (by decide) (pcT := 17) (by decide) (pc' := 6) rfl (fun q => absurd q hzc) (fun q11 => ?_)
  refine Wk.aloadN (pc' := 7) C d_jdk_42m154_6 rfl rfl rfl ?_
  refine Wk.getF (pc' := 10) C d_jdk_42m154_7 (w37 hw) Via.refl F.2.1 rfl ?_
  refine Wk.if_ne C d_jdk_42m154_10 (by decide) (pcT := 17) (by decide) (pc' := 13) rfl (fun q => absurd q (by decide)) (fun q12 => ?_)
  refine Wk.iconst (pc' := 14) C d_jdk_42m154_13 (v := (1 : Int32)) rfl rfl ?_
  refine Wk.goto C d_jdk_42m154_14 (by decide) (pc' := 18) (by decide) ?_
  exact Wk.retNar (ty := .boolean) C (by simp) d_jdk_42m154_18 rfl (by decide) (by decide) ⟨rfl, rfl⟩
theorem own_shr0 {x v : Int32} (h : x >>> ((0 : Int32) &&& 31) = v) : v = x := by
  have q := c_ishr x 0 0 (by decide)
  rw [h] at q
  exact Wk.eqI (by omega)
theorem own_b255 {c v : Int32} (r : ¬ c < 0 ∧ ¬ (255 : Int32) < c) (h : c.toInt8.toInt32 &&& 255 = v) : v = c := by
  have q := c_mask c.toInt8.toInt32 255 8 (by decide) (by decide)
  rw [h] at q
  have q2 := c_i2b c
  obtain ⟨r1, r2⟩ := r
  rw [Wk.ltI] at r1 r2
  have e0 : (0 : Int32).toInt = 0 := by decide
  have e1 : (255 : Int32).toInt = 255 := by decide
  exact Wk.eqI (by omega)
theorem own_i2cc {c v : Int32} (r : ¬ c < 0 ∧ ¬ (255 : Int32) < c) (h : c.toUInt32.toUInt16.toUInt32.toInt32 = v) : v = c := h.symm.trans (Wk.nar_rng r)
theorem own_inS {cs : List Int32} (hp : ∀ c ∈ cs, ¬ c < 0 ∧ ¬ (255 : Int32) < c) {j : Nat} (h : j < cs.length) : ¬ cs.getD j 0 < 0 ∧ ¬ (255 : Int32) < cs.getD j 0 := by
  have e : cs.getD j 0 = cs[j] := by simp [List.getD_eq_getElem?_getD, h]
  rw [e]; exact hp _ (List.getElem_mem h)
theorem own_getB8 {cs : List Int32} {j : Nat} (h : j < cs.length) : ((cs.map fun c => c.toInt8.toInt32).map Value.int)[j]? = some (.int (cs.getD j 0).toInt8.toInt32) := by simp [List.getD_eq_getElem?_getD, h]
set_option maxRecDepth 65536 in
set_option maxHeartbeats 40000000 in
theorem own_length (l : Launch) {Z : State} {a0 : Array Value} (hw : Ws a0 Z) {h0 : Heap} (O0 : Ext Z.heap h0) (hs : Sets Z) (x : Addr) (cs : List Int32) (F : Str Z h0 x cs) :
    Wk.Con l Z (⟨"java/lang/String", "length", "()I"⟩ : MethodName) jdk_42_method_54_code 1 (some .int) ({ frames := 1, cells := 0, slots := 0, locals := 13 } : Room) #[(.ref x)] h0 (fun v h' => v = some (.int (Int32.ofNat cs.length)) ∧ h' = h0) := by
  refine Wk.Con.intro (plainFor_of_name pn0) O0 (fun m => ef2 m x) ?_
  intro W C
  replace C : Wk.Cx Z W "java/lang/String" "length" jdk_42_method_54_code 1 (some .int) := C
  obtain ⟨t, F1, V⟩ := F.2.2.1
  have hl := F.2.2.2.2
  refine Wk.aloadN (pc' := 1) C d_jdk_42m54_0 rfl rfl rfl ?_
  refine Wk.getF (pc' := 4) C d_jdk_42m54_1 (w35 hw) Via.refl F1 rfl ?_
  refine Wk.alen (pc' := 5) C d_jdk_42m54_4 V (z := (Int32.ofNat cs.length)) (by simp) rfl ?_
  refine Wk.aloadN (pc' := 6) C d_jdk_42m54_5 rfl rfl rfl ?_
  refine Wk.callV (pc' := 9) C d_jdk_42m54_6 (a := x) (Wk.Con.pays C (Wn := 1) (own_coder l hw O0 hs x cs F) (w79 hw) (w20 hw) (by decide) (by decide)) Wk.cleanC F.exa (w75 hw) (w76 hw) (notFace_of_selects (args := #[]) (mvT C.hZ (w78 hw))) (w78 hw) (w77 hw) (by decide) (argsL := []) (st := [(.int (Int32.ofNat cs.length))]) rfl rfl (lenOf pd0 rfl) rfl (Nat.le_of_eq rfl) (k' := 0) rfl (n' := 0) rfl (by decide) (by decide) rfl ?_
  intro r11 h12 Q12 O12
  obtain ⟨rfl, e13⟩ := Q12
  obtain rfl := e13.symm
  obtain ⟨v14, hv14⟩ : ∃ z : Int32, (Int32.ofNat cs.length) >>> ((0 : Int32) &&& 31) = z := ⟨_, rfl⟩
  refine Wk.ishr (pc' := 10) C d_jdk_42m54_9 hv14 rfl ?_
  have f15 : v14 = (Int32.ofNat cs.length) := own_shr0 hv14
  rw [f15]
  exact Wk.retI C d_jdk_42m54_10 (by decide) (by decide) ⟨rfl, rfl⟩
set_option maxRecDepth 65536 in
set_option maxHeartbeats 40000000 in
theorem own_ckP (l : Launch) {Z : State} {a0 : Array Value} (hw : Ws a0 Z) {h0 : Heap} (O0 : Ext Z.heap h0) (i n : Int32) (fm : Value) (rf : fm.isRef = true) (h1 : ¬ i < 0) (h2 : i < n) :
    Wk.Con l Z (⟨"jdk/internal/util/Preconditions", "checkIndex", "(IILjava/util/function/BiFunction;)I"⟩ : MethodName) jdk_41_method_11_code 3 (some .int) ({ frames := 0, cells := 0, slots := 0, locals := 0 } : Room) #[(.int i), (.int n), fm] h0 (fun v h' => v = some (.int i) ∧ h' = h0) := by
  refine Wk.Con.intro (plainFor_of_name pn1) O0 (fun m => ef3 m i n fm rf) ?_
  intro W C
  replace C : Wk.Cx Z W "jdk/internal/util/Preconditions" "checkIndex" jdk_41_method_11_code 3 (some .int) := C
  refine Wk.iloadN (pc' := 1) C d_jdk_41m11_0 rfl rfl ?_
  refine Wk.if_lt C d_jdk_41m11_1 (by decide) (pcT := 9) (by decide) (pc' := 4) rfl (fun q => absurd q h1) (fun q11 => ?_)
  refine Wk.iloadN (pc' := 5) C d_jdk_41m11_4 rfl rfl ?_
  refine Wk.iloadN (pc' := 6) C d_jdk_41m11_5 rfl rfl ?_
  refine Wk.icmp_lt C d_jdk_41m11_6 (by decide) (pcT := 16) (by decide) (pc' := 9) rfl (fun q12 => ?_) (fun q => absurd h2 q)
  refine Wk.iloadN (pc' := 17) C d_jdk_41m11_16 rfl rfl ?_
  exact Wk.retI C d_jdk_41m11_17 (by decide) (by decide) ⟨rfl, rfl⟩
set_option maxRecDepth 65536 in
set_option maxHeartbeats 40000000 in
theorem own_ck (l : Launch) {Z : State} {a0 : Array Value} (hw : Ws a0 Z) {h0 : Heap} (O0 : Ext Z.heap h0) (hs : Sets Z) (i n : Int32) (h1 : ¬ i < 0) (h2 : i < n) :
    Wk.Con l Z (⟨"java/lang/String", "checkIndex", "(II)V"⟩ : MethodName) jdk_42_method_155_code 2 none ({ frames := 1, cells := 0, slots := 0, locals := 14 } : Room) #[(.int i), (.int n)] h0 (fun v h' => v = none ∧ h' = h0) := by
  refine Wk.Con.intro (plainFor_of_name pn0) O0 (fun m => ef4 m i n) ?_
  intro W C
  replace C : Wk.Cx Z W "java/lang/String" "checkIndex" jdk_42_method_155_code 2 none := C
  obtain ⟨zc, fm, -, -, SF, rf⟩ := hs
  refine Wk.iloadN (pc' := 1) C d_jdk_42m155_0 rfl rfl ?_
  refine Wk.iloadN (pc' := 2) C d_jdk_42m155_1 rfl rfl ?_
  refine Wk.getS (pc' := 5) C d_jdk_42m155_2 (w124 hw) Via.refl (SF.ext O0) rfl ?_
  refine Wk.callS (pc' := 8) C d_jdk_42m155_5 (Wk.Con.pays C (Wn := 0) (own_ckP l hw O0 i n fm rf h1 h2) (w199 hw) (w125 hw) (by decide) (by decide)) Wk.cleanC (w197 hw) (w198 hw) (w125 hw) (w199 hw) (by decide) (argsL := [(.int i), (.int n), fm]) (st := []) rfl rfl (lenOf pd1 rfl) rfl (Nat.le_of_eq rfl) (k' := 0) rfl (n' := 0) rfl (by decide) (by decide) rfl ?_
  intro r11 h12 Q12 O12
  obtain ⟨rfl, e13⟩ := Q12
  obtain rfl := e13.symm
  refine Wk.pop (pc' := 9) C d_jdk_42m155_8 rfl rfl ?_
  exact Wk.retV C d_jdk_42m155_9 (by decide) (by decide) ⟨rfl, rfl⟩
set_option maxRecDepth 65536 in
set_option maxHeartbeats 40000000 in
theorem own_lchar (l : Launch) {Z : State} {a0 : Array Value} (hw : Ws a0 Z) {h0 : Heap} (O0 : Ext Z.heap h0) (hs : Sets Z) (t : Addr) (cs : List Int32) (i : Nat) (V : Wk.Ary Z h0 t .byte ((cs.map fun c => c.toInt8.toInt32).map Value.int)) (hp : ∀ c ∈ cs, ¬ c < 0 ∧ ¬ (255 : Int32) < c) (hl : cs.length ≤ 4000) (hi : i < cs.length) :
    Wk.Con l Z (⟨"java/lang/StringLatin1", "charAt", "([BI)C"⟩ : MethodName) jdk_43_method_2_code 2 (some .char) ({ frames := 2, cells := 0, slots := 0, locals := 27 } : Room) #[(.ref t), (.int (Int32.ofNat i))] h0 (fun v h' => v = some (.int (cs.getD i 0)) ∧ h' = h0) := by
  refine Wk.Con.intro (plainFor_of_name pn2) O0 (fun m => ef5 m t (Int32.ofNat i)) ?_
  intro W C
  replace C : Wk.Cx Z W "java/lang/StringLatin1" "charAt" jdk_43_method_2_code 2 (some .char) := C
  refine Wk.iloadN (pc' := 1) C d_jdk_43m2_0 rfl rfl ?_
  refine Wk.aloadN (pc' := 2) C d_jdk_43m2_1 rfl rfl rfl ?_
  refine Wk.alen (pc' := 3) C d_jdk_43m2_2 V (z := (Int32.ofNat cs.length)) (by simp) rfl ?_
  refine Wk.callS (pc' := 6) C d_jdk_43m2_3 (Wk.Con.pays C (Wn := 0) (own_ck l hw O0 hs (Int32.ofNat i) (Int32.ofNat cs.length) (Wk.nn32 (by omega)) ((Wk.lt32 (by omega) (by omega)).mpr (by omega))) (w196 hw) (w20 hw) (by decide) (by decide)) Wk.cleanC (w194 hw) (w195 hw) (w20 hw) (w196 hw) (by decide) (argsL := [(.int (Int32.ofNat i)), (.int (Int32.ofNat cs.length))]) (st := []) rfl rfl (lenOf pd2 rfl) rfl (Nat.le_of_eq rfl) (k' := 0) rfl (n' := 0) rfl (by decide) (by decide) rfl ?_
  intro r11 h12 Q12 O12
  obtain ⟨rfl, e13⟩ := Q12
  obtain rfl := e13.symm
  refine Wk.aloadN (pc' := 7) C d_jdk_43m2_6 rfl rfl rfl ?_
  refine Wk.iloadN (pc' := 8) C d_jdk_43m2_7 rfl rfl ?_
  refine Wk.baload (pc' := 9) C d_jdk_43m2_8 V (Wk.nn32 (by omega)) (v := (.int (cs.getD i 0).toInt8.toInt32)) (by rw [(Wk.nat32 (n := i) (by omega)).2]; exact own_getB8 hi) rfl ?_
  refine Wk.sipush (pc' := 12) C d_jdk_43m2_9 (v := (255 : Int32)) rfl rfl ?_
  obtain ⟨v14, hv14⟩ : ∃ z : Int32, (cs.getD i 0).toInt8.toInt32 &&& (255 : Int32) = z := ⟨_, rfl⟩
  refine Wk.iand (pc' := 13) C d_jdk_43m2_12 hv14 rfl ?_
  have f15 : v14 = (cs.getD i 0) := own_b255 (own_inS hp hi) hv14
  rw [f15]
  obtain ⟨v16, hv16⟩ : ∃ z : Int32, (cs.getD i 0).toUInt32.toUInt16.toUInt32.toInt32 = z := ⟨_, rfl⟩
  refine Wk.i2c (pc' := 14) C d_jdk_43m2_13 hv16 rfl ?_
  exact Wk.retNar (ty := .char) C (by simp) d_jdk_43m2_14 ((congrArg (nar .char) (own_i2cc (own_inS hp hi) hv16)).trans (Wk.nar_rng (own_inS hp hi))) (by decide) (by decide) ⟨rfl, rfl⟩
set_option maxRecDepth 65536 in
set_option maxHeartbeats 40000000 in
theorem own_charAt (l : Launch) {Z : State} {a0 : Array Value} (hw : Ws a0 Z) {h0 : Heap} (O0 : Ext Z.heap h0) (hs : Sets Z) (x : Addr) (cs : List Int32) (i : Nat) (F : Str Z h0 x cs) (hi : i < cs.length) :
    Wk.Con l Z (⟨"java/lang/String", "charAt", "(I)C"⟩ : MethodName) jdk_42_method_56_code 2 (some .char) ({ frames := 3, cells := 0, slots := 0, locals := 42 } : Room) #[(.ref x), (.int (Int32.ofNat i))] h0 (fun v h' => v = some (.int (cs.getD i 0)) ∧ h' = h0) := by
  refine Wk.Con.intro (plainFor_of_name pn0) O0 (fun m => ef6 m x (Int32.ofNat i)) ?_
  intro W C
  replace C : Wk.Cx Z W "java/lang/String" "charAt" jdk_42_method_56_code 2 (some .char) := C
  obtain ⟨t, F1, V⟩ := F.2.2.1
  have hl := F.2.2.2.2
  refine Wk.aloadN (pc' := 1) C d_jdk_42m56_0 rfl rfl rfl ?_
  refine Wk.callV (pc' := 4) C d_jdk_42m56_1 (a := x) (Wk.Con.pays C (Wn := 0) (own_isLatin1 l hw O0 hs x cs F) (w133 hw) (w20 hw) (by decide) (by decide)) Wk.cleanC F.exa (w129 hw) (w130 hw) (notFace_of_selects (args := #[]) (mvT C.hZ (w132 hw))) (w132 hw) (w131 hw) (by decide) (argsL := []) (st := []) rfl rfl (lenOf pd3 rfl) rfl (Nat.le_of_eq rfl) (k' := 0) rfl (n' := 0) rfl (by decide) (by decide) rfl ?_
  intro r11 h12 Q12 O12
  obtain ⟨rfl, e13⟩ := Q12
  obtain rfl := e13.symm
  refine Wk.if_eq C d_jdk_42m56_4 (by decide) (pcT := 16) (by decide) (pc' := 7) rfl (fun q => absurd q (by decide)) (fun q14 => ?_)
  refine Wk.aloadN (pc' := 8) C d_jdk_42m56_7 rfl rfl rfl ?_
  refine Wk.getF (pc' := 11) C d_jdk_42m56_8 (w35 hw) Via.refl F1 rfl ?_
  refine Wk.iloadN (pc' := 12) C d_jdk_42m56_11 rfl rfl ?_
  refine Wk.callS (pc' := 15) C d_jdk_42m56_12 (Wk.Con.pays C (Wn := 0) (own_lchar l hw O0 hs t cs i V F.2.2.2.1 hl hi) (w193 hw) (w136 hw) (by decide) (by decide)) Wk.cleanC (w191 hw) (w192 hw) (w136 hw) (w193 hw) (by decide) (argsL := [(.ref t), (.int (Int32.ofNat i))]) (st := []) rfl rfl (lenOf pd4 rfl) rfl (Nat.le_of_eq rfl) (k' := 0) rfl (n' := 0) rfl (by decide) (by decide) rfl ?_
  intro r15 h16 Q16 O16
  obtain ⟨rfl, e17⟩ := Q16
  obtain rfl := e17.symm
  exact Wk.retNar (ty := .char) C (by simp) d_jdk_42m56_15 (Wk.nar_rng (own_inS F.2.2.2.1 hi)) (by decide) (by decide) ⟨rfl, rfl⟩
set_option maxRecDepth 65536 in
set_option maxHeartbeats 40000000 in
theorem own_chkLen (l : Launch) {Z : State} {a0 : Array Value} (hw : Ws a0 Z) {h0 : Heap} (O0 : Ext Z.heap h0) (x y : Int32) (h1 : ¬ y < x) :
    Wk.Con l Z (⟨"java/util/Arrays", "checkLength", "(II)V"⟩ : MethodName) jdk_65_method_131_code 2 none ({ frames := 0, cells := 0, slots := 0, locals := 0 } : Room) #[(.int x), (.int y)] h0 (fun v h' => v = none ∧ h' = h0) := by
  refine Wk.Con.intro (plainFor_of_name pn3) O0 (fun m => ef7 m x y) ?_
  intro W C
  replace C : Wk.Cx Z W "java/util/Arrays" "checkLength" jdk_65_method_131_code 2 none := C
  refine Wk.iloadN (pc' := 1) C d_jdk_65m131_0 rfl rfl ?_
  refine Wk.iloadN (pc' := 2) C d_jdk_65m131_1 rfl rfl ?_
  refine Wk.icmp_ge C d_jdk_65m131_2 (by decide) (pcT := 37) (by decide) (pc' := 5) rfl (fun q11 => ?_) (fun q => absurd q h1)
  exact Wk.retV C d_jdk_65m131_37 (by decide) (by decide) ⟨rfl, rfl⟩
set_option maxRecDepth 65536 in
set_option maxHeartbeats 40000000 in
theorem own_min2 (l : Launch) {Z : State} {a0 : Array Value} (hw : Ws a0 Z) {h0 : Heap} (O0 : Ext Z.heap h0) (x y : Int32) (h1 : ¬ x < y) :
    Wk.Con l Z (⟨"java/lang/Math", "min", "(II)I"⟩ : MethodName) jdk_29_method_69_code 2 (some .int) ({ frames := 0, cells := 0, slots := 0, locals := 0 } : Room) #[(.int x), (.int y)] h0 (fun v h' => v = some (.int y) ∧ h' = h0) := by
  refine Wk.Con.intro (Jvm.Free.JP.mathPlain rfl (by decide +kernel)) O0 (fun m => ef8 m x y) ?_
  intro W C
  replace C : Wk.Cx Z W "java/lang/Math" "min" jdk_29_method_69_code 2 (some .int) := C
  refine Wk.iloadN (pc' := 1) C d_jdk_29m69_0 rfl rfl ?_
  refine Wk.iloadN (pc' := 2) C d_jdk_29m69_1 rfl rfl ?_
  refine Wk.icmp_gt C d_jdk_29m69_2 (by decide) (pcT := 9) (by decide) (pc' := 5) rfl (fun q11 => ?_) (fun q11 => ?_)
  · -- pc 2: taken
    refine Wk.iloadN (pc' := 10) C d_jdk_29m69_9 rfl rfl ?_
    exact Wk.retI C d_jdk_29m69_10 (by decide) (by decide) ⟨rfl, rfl⟩
  · -- pc 2: not taken
    refine Wk.iloadN (pc' := 6) C d_jdk_29m69_5 rfl rfl ?_
    refine Wk.goto C d_jdk_29m69_6 (by decide) (pc' := 10) (by decide) ?_
    have he : x = y := by
      have a := h1
      have b := q11
      rw [Wk.ltI] at a b
      exact Wk.eqI (by omega)
    exact Wk.retI C d_jdk_29m69_10 (by decide) (by decide) ⟨by rw [he], rfl⟩
set_option maxRecDepth 65536 in
set_option maxHeartbeats 40000000 in
theorem own_corB (l : Launch) {Z : State} {a0 : Array Value} (hw : Ws a0 Z) {h0 : Heap} (O0 : Ext Z.heap h0) (t : Addr) (vs : List Value) (s e : Nat) (V : Wk.Ary Z h0 t .byte vs) (hN : vs.length ≤ 16) (hse : s ≤ e) (he : e ≤ vs.length) :
    Wk.Con l Z (⟨"java/util/Arrays", "copyOfRangeByte", "([BII)[B"⟩ : MethodName) jdk_65_method_133_code 5 (some (.array .byte)) ({ frames := 1, cells := 1, slots := 16, locals := 22 } : Room) #[(.ref t), (.int (Int32.ofNat s)), (.int (Int32.ofNat e))] h0 (fun v h' => ∃ b : Addr, v = some (.ref b) ∧ b = h0.size ∧ Ext h0 h' ∧ Wk.Ary Z h' b .byte ((vs.drop s).take (e - s))) := by
  refine Wk.Con.intro (plainFor_of_name pn3) O0 (fun m => ef9 m t (Int32.ofNat s) (Int32.ofNat e)) ?_
  intro W C
  replace C : Wk.Cx Z W "java/util/Arrays" "copyOfRangeByte" jdk_65_method_133_code 5 (some (.array .byte)) := C
  refine Wk.iloadN (pc' := 1) C d_jdk_65m133_0 rfl rfl ?_
  refine Wk.iloadN (pc' := 2) C d_jdk_65m133_1 rfl rfl ?_
  refine Wk.callS (pc' := 5) C d_jdk_65m133_2 (Wk.Con.pays C (Wn := 0) (own_chkLen l hw O0 (Int32.ofNat s) (Int32.ofNat e) (fun q => absurd ((Wk.lt32 (by omega) (by omega)).mp q) (by omega))) (w148 hw) (w141 hw) (by decide) (by decide)) Wk.cleanC (w146 hw) (w147 hw) (w141 hw) (w148 hw) (by decide) (argsL := [(.int (Int32.ofNat s)), (.int (Int32.ofNat e))]) (st := []) rfl rfl (lenOf pd2 rfl) rfl (Nat.le_of_eq rfl) (k' := 0) rfl (n' := 0) rfl (by decide) (by decide) rfl ?_
  intro r11 h12 Q12 O12
  obtain ⟨rfl, e13⟩ := Q12
  obtain rfl := e13.symm
  refine Wk.iloadN (pc' := 6) C d_jdk_65m133_5 rfl rfl ?_
  refine Wk.iloadN (pc' := 7) C d_jdk_65m133_6 rfl rfl ?_
  obtain ⟨v14, hv14⟩ : ∃ z : Int32, (Int32.ofNat e) - (Int32.ofNat s) = z := ⟨_, rfl⟩
  refine Wk.isub (pc' := 8) C d_jdk_65m133_7 hv14 rfl ?_
  have f15 : v14 = (Int32.ofNat (e - s)) := Wk.sub32 hse (by omega) hv14
  rw [f15]
  refine Wk.istoreN (pc' := 9) C d_jdk_65m133_8 (Ls' := #[.val (.ref t), .val (.int (Int32.ofNat s)), .val (.int (Int32.ofNat e)), .val (.int (Int32.ofNat (e - s))), .unset]) rfl rfl ?_
  refine Wk.iloadN (pc' := 10) C d_jdk_65m133_9 rfl rfl ?_
  refine Wk.newA (pc' := 12) C d_jdk_65m133_10 (ty := .byte) rfl (w21 hw) (Wk.nn32 (by omega)) (cap := 16) (by rw [(Wk.nat32 (n := e - s) (by omega)).2]; omega) (by decide) (k' := 1) rfl (n' := 16) rfl (by decide) (by decide) rfl rfl ?_
  intro a16 h17 ga16 za16 E17 Va16 O17
  have V18 : Wk.Ary Z h17 a16 .byte (List.replicate (e - s) (.int 0)) := by rw [← (Wk.nat32 (n := e - s) (by omega)).2]; exact Va16
  refine Wk.astore (pc' := 14) C d_jdk_65m133_12 rfl (Ls' := #[.val (.ref t), .val (.int (Int32.ofNat s)), .val (.int (Int32.ofNat e)), .val (.int (Int32.ofNat (e - s))), .val (.ref a16)]) rfl rfl ?_
  refine Wk.aloadN (pc' := 15) C d_jdk_65m133_14 rfl rfl rfl ?_
  refine Wk.iloadN (pc' := 16) C d_jdk_65m133_15 rfl rfl ?_
  refine Wk.aload (pc' := 18) C d_jdk_65m133_16 rfl rfl rfl ?_
  refine Wk.iconst (pc' := 19) C d_jdk_65m133_18 (v := (0 : Int32)) rfl rfl ?_
  refine Wk.aloadN (pc' := 20) C d_jdk_65m133_19 rfl rfl rfl ?_
  refine Wk.alen (pc' := 21) C d_jdk_65m133_20 (V.ext E17) (z := (Int32.ofNat vs.length)) rfl rfl ?_
  refine Wk.iloadN (pc' := 22) C d_jdk_65m133_21 rfl rfl ?_
  obtain ⟨v19, hv19⟩ : ∃ z : Int32, (Int32.ofNat vs.length) - (Int32.ofNat s) = z := ⟨_, rfl⟩
  refine Wk.isub (pc' := 23) C d_jdk_65m133_22 hv19 rfl ?_
  have f20 : v19 = (Int32.ofNat (vs.length - s)) := Wk.sub32 (by omega) (by omega) hv19
  rw [f20]
  refine Wk.iloadN (pc' := 24) C d_jdk_65m133_23 rfl rfl ?_
  refine Wk.callS (pc' := 27) C d_jdk_65m133_24 (Wk.Con.pays C (Wn := 4) (own_min2 l hw O17 (Int32.ofNat (vs.length - s)) (Int32.ofNat (e - s)) (fun q => absurd ((Wk.lt32 (by omega) (by omega)).mp q) (by omega))) (w151 hw) (w17 hw) (by decide) (by decide)) Wk.cleanC (w149 hw) (w150 hw) (w17 hw) (w151 hw) (by decide) (argsL := [(.int (Int32.ofNat (vs.length - s))), (.int (Int32.ofNat (e - s)))]) (st := [(.int (0 : Int32)), (.ref a16), (.int (Int32.ofNat s)), (.ref t)]) rfl rfl (lenOf pd5 rfl) rfl (Nat.le_of_eq rfl) (k' := 1) rfl (n' := 16) rfl (by decide) (by decide) rfl ?_
  intro r21 h22 Q22 O22
  obtain ⟨rfl, e23⟩ := Q22
  obtain rfl := e23.symm
  refine Wk.acopy (pc' := 30) C d_jdk_65m133_27 (w152 hw) (w107 hw) (w105 hw) (w106 hw) (Wn := 0) (V.ext E17) V18 rfl (Wk.nn32 (by omega)) (by decide) (Wk.nn32 (by omega)) (by rw [(Wk.nat32 (n := s) (by omega)).2, (Wk.nat32 (n := e - s) (by omega)).2]; omega) (by rw [(Wk.nat32 (n := e - s) (by omega)).2]; simp) (vd' := ((vs.drop s).take (e - s))) (by rw [(Wk.nat32 (n := s) (by omega)).2, (Wk.nat32 (n := e - s) (by omega)).2]; simp) za16 rfl (by decide) (Nat.le_of_eq rfl) (by decide) rfl ?_
  intro h24 K24 V24 O24
  refine Wk.aload (pc' := 32) C d_jdk_65m133_30 rfl rfl rfl ?_
  have X25 : Ext h0 h24 := Wk.Ext.keep1 (Z := Z) E17 K24 (Nat.le_of_eq ga16.symm)
  exact Wk.retA C rfl rfl d_jdk_65m133_32 (by decide) (by decide) ⟨_, rfl, ga16, X25, V24⟩
set_option maxRecDepth 65536 in
set_option maxHeartbeats 40000000 in
theorem own_cor (l : Launch) {Z : State} {a0 : Array Value} (hw : Ws a0 Z) {h0 : Heap} (O0 : Ext Z.heap h0) (t : Addr) (vs : List Value) (s e : Nat) (V : Wk.Ary Z h0 t .byte vs) (hN : vs.length ≤ 16) (hse : s ≤ e) (he : e ≤ vs.length) (hne : ¬ (s = 0 ∧ e = vs.length)) :
    Wk.Con l Z (⟨"java/util/Arrays", "copyOfRange", "([BII)[B"⟩ : MethodName) jdk_65_method_132_code 3 (some (.array .byte)) ({ frames := 2, cells := 1, slots := 16, locals := 40 } : Room) #[(.ref t), (.int (Int32.ofNat s)), (.int (Int32.ofNat e))] h0 (fun v h' => ∃ b : Addr, v = some (.ref b) ∧ b = h0.size ∧ Ext h0 h' ∧ Wk.Ary Z h' b .byte ((vs.drop s).take (e - s))) := by
  refine Wk.Con.intro (plainFor_of_name pn3) O0 (fun m => ef10 m t (Int32.ofNat s) (Int32.ofNat e)) ?_
  intro W C
  replace C : Wk.Cx Z W "java/util/Arrays" "copyOfRange" jdk_65_method_132_code 3 (some (.array .byte)) := C
  refine Wk.iloadN (pc' := 1) C d_jdk_65m132_0 rfl rfl ?_
  refine Wk.if_ne C d_jdk_65m132_1 (by decide) (pcT := 10) (by decide) (pc' := 4) rfl (fun q11 => ?_) (fun q11 => ?_)
  · -- pc 1: taken
    refine Wk.aloadN (pc' := 11) C d_jdk_65m132_10 rfl rfl rfl ?_
    refine Wk.iloadN (pc' := 12) C d_jdk_65m132_11 rfl rfl ?_
    refine Wk.iloadN (pc' := 13) C d_jdk_65m132_12 rfl rfl ?_
    refine Wk.callS (pc' := 16) C d_jdk_65m132_13 (Wk.Con.pays C (Wn := 0) (own_corB l hw O0 t vs s e V hN hse he) (w145 hw) (w141 hw) (by decide) (by decide)) Wk.cleanC (w143 hw) (w144 hw) (w141 hw) (w145 hw) (by decide) (argsL := [(.ref t), (.int (Int32.ofNat s)), (.int (Int32.ofNat e))]) (st := []) rfl rfl (lenOf pd6 rfl) rfl (Nat.le_of_eq rfl) (k' := 1) rfl (n' := 16) rfl (by decide) (by decide) rfl ?_
    intro r12 h13 Q13 O13
    obtain ⟨b14, rfl, gb14, E13, V13⟩ := Q13
    exact Wk.retA C rfl rfl d_jdk_65m132_16 (by decide) (by decide) ⟨_, rfl, gb14, E13, V13⟩
  · -- pc 1: not taken
    refine Wk.iloadN (pc' := 5) C d_jdk_65m132_4 rfl rfl ?_
    refine Wk.aloadN (pc' := 6) C d_jdk_65m132_5 rfl rfl rfl ?_
    refine Wk.alen (pc' := 7) C d_jdk_65m132_6 V (z := (Int32.ofNat vs.length)) rfl rfl ?_
    refine Wk.icmp_eq C d_jdk_65m132_7 (by decide) (pcT := 17) (by decide) (pc' := 10) rfl (fun q => absurd ⟨(Wk.eq32 (b := 0) (by omega) (by omega)).mp q11, (Wk.eq32 (by omega) (by omega)).mp q⟩ hne) (fun q15 => ?_)
    refine Wk.aloadN (pc' := 11) C d_jdk_65m132_10 rfl rfl rfl ?_
    refine Wk.iloadN (pc' := 12) C d_jdk_65m132_11 rfl rfl ?_
    refine Wk.iloadN (pc' := 13) C d_jdk_65m132_12 rfl rfl ?_
    refine Wk.callS (pc' := 16) C d_jdk_65m132_13 (Wk.Con.pays C (Wn := 0) (own_corB l hw O0 t vs s e V hN hse he) (w145 hw) (w141 hw) (by decide) (by decide)) Wk.cleanC (w143 hw) (w144 hw) (w141 hw) (w145 hw) (by decide) (argsL := [(.ref t), (.int (Int32.ofNat s)), (.int (Int32.ofNat e))]) (st := []) rfl rfl (lenOf pd6 rfl) rfl (Nat.le_of_eq rfl) (k' := 1) rfl (n' := 16) rfl (by decide) (by decide) rfl ?_
    intro r16 h17 Q17 O17
    obtain ⟨b18, rfl, gb18, E17, V17⟩ := Q17
    exact Wk.retA C rfl rfl d_jdk_65m132_16 (by decide) (by decide) ⟨_, rfl, gb18, E17, V17⟩
set_option maxRecDepth 65536 in
set_option maxHeartbeats 40000000 in
theorem own_strInitB (l : Launch) {Z : State} {a0 : Array Value} (hw : Ws a0 Z) {h0 : Heap} (O0 : Ext Z.heap h0) (a1 a2 : Addr) (v0 c0 : Value) (g1 : Z.heap.size ≤ a1) (E1 : Exa Z h0 a1 "java/lang/String") (F1 : Fld Z h0 a1 "java/lang/String" "value" "[B" v0) (F2 : Fld Z h0 a1 "java/lang/String" "coder" "B" c0) :
    Wk.Con l Z (⟨"java/lang/String", "<init>", "([BB)V"⟩ : MethodName) jdk_42_method_151_code 3 none ({ frames := 1, cells := 0, slots := 0, locals := 12 } : Room) #[(.ref a1), (.ref a2), (.int (0 : Int32))] h0 (fun v h' => v = none ∧ Keep h0 h' [a1] ∧ Exa Z h' a1 "java/lang/String" ∧ Fld Z h' a1 "java/lang/String" "value" "[B" (.ref a2) ∧ Fld Z h' a1 "java/lang/String" "coder" "B" (.int 0)) := by
  refine Wk.Con.intro (plainFor_of_name pn0) O0 (fun m => ef11 m a1 a2) ?_
  intro W C
  replace C : Wk.Cx Z W "java/lang/String" "<init>" jdk_42_method_151_code 3 none := C
  refine Wk.aloadN (pc' := 1) C d_jdk_42m151_0 rfl rfl rfl ?_
  refine Wk.initO (pc' := 4) C d_jdk_42m151_1 (Wn := 0) (w32 hw) (w33 hw) (w34 hw) rfl (by decide) (Nat.le_of_eq rfl) (by decide) rfl ?_
  refine Wk.aloadN (pc' := 5) C d_jdk_42m151_4 rfl rfl rfl ?_
  refine Wk.aloadN (pc' := 6) C d_jdk_42m151_5 rfl rfl rfl ?_
  refine Wk.putF (pc' := 9) C d_jdk_42m151_6 (w35 hw) Via.refl F1 E1 (Or.inr ⟨(w36 hw), rfl, rfl⟩) (w27 hw) (ty := (.array .byte)) (by decide) rfl rfl g1 rfl ?_
  intro h11 W11 O11
  have F12 := F1.same W11
  refine Wk.aloadN (pc' := 10) C d_jdk_42m151_9 rfl rfl rfl ?_
  refine Wk.iloadN (pc' := 11) C d_jdk_42m151_10 rfl rfl ?_
  refine Wk.putF (pc' := 14) C d_jdk_42m151_11 (w37 hw) Via.refl (F2.other W11 (Or.inr (slot_ne (Or.inr (w38 hw)) (Or.inr (w36 hw)) (by decide) (t := .byte) (t' := (.array .byte)) (by decide) (by decide)))) (E1.wr W11) (Or.inr ⟨(w38 hw), rfl, rfl⟩) (w27 hw) (ty := .byte) (by decide) (by decide) (by decide) g1 rfl ?_
  intro h13 W13 O13
  have F14 := (F2.other W11 (Or.inr (slot_ne (Or.inr (w38 hw)) (Or.inr (w36 hw)) (by decide) (t := .byte) (t' := (.array .byte)) (by decide) (by decide)))).same W13
  exact Wk.retV C d_jdk_42m151_14 (by decide) (by decide) ⟨rfl, (((Keep.refl _ _).wr W11 (Or.inl (List.mem_singleton.mpr rfl))).wr W13 (Or.inl (List.mem_singleton.mpr rfl))), ((E1.wr W11).wr W13), (F12.other W13 (Or.inr (slot_ne (Or.inr (w36 hw)) (Or.inr (w38 hw)) (by decide) (t := (.array .byte)) (t' := .byte) (by decide) (by decide)))), F14⟩
set_option maxRecDepth 65536 in
set_option maxHeartbeats 40000000 in
theorem own_cft (l : Launch) {Z : State} {a0 : Array Value} (hw : Ws a0 Z) {h0 : Heap} (O0 : Ext Z.heap h0) (x y n : Int32) (fm : Value) (rf : fm.isRef = true) (h1 : ¬ x < 0) (h2 : ¬ y < x) (h3 : ¬ n < y) :
    Wk.Con l Z (⟨"jdk/internal/util/Preconditions", "checkFromToIndex", "(IIILjava/util/function/BiFunction;)I"⟩ : MethodName) jdk_41_method_12_code 4 (some .int) ({ frames := 0, cells := 0, slots := 0, locals := 0 } : Room) #[(.int x), (.int y), (.int n), fm] h0 (fun v h' => v = some (.int x) ∧ h' = h0) := by
  refine Wk.Con.intro (plainFor_of_name pn1) O0 (fun m => ef12 m x y n fm rf) ?_
  intro W C
  replace C : Wk.Cx Z W "jdk/internal/util/Preconditions" "checkFromToIndex" jdk_41_method_12_code 4 (some .int) := C
  refine Wk.iloadN (pc' := 1) C d_jdk_41m12_0 rfl rfl ?_
  refine Wk.if_lt C d_jdk_41m12_1 (by decide) (pcT := 14) (by decide) (pc' := 4) rfl (fun q => absurd q h1) (fun q11 => ?_)
  refine Wk.iloadN (pc' := 5) C d_jdk_41m12_4 rfl rfl ?_
  refine Wk.iloadN (pc' := 6) C d_jdk_41m12_5 rfl rfl ?_
  refine Wk.icmp_gt C d_jdk_41m12_6 (by decide) (pcT := 14) (by decide) (pc' := 9) rfl (fun q => absurd q h2) (fun q12 => ?_)
  refine Wk.iloadN (pc' := 10) C d_jdk_41m12_9 rfl rfl ?_
  refine Wk.iloadN (pc' := 11) C d_jdk_41m12_10 rfl rfl ?_
  refine Wk.icmp_le C d_jdk_41m12_11 (by decide) (pcT := 22) (by decide) (pc' := 14) rfl (fun q13 => ?_) (fun q => absurd q h3)
  refine Wk.iloadN (pc' := 23) C d_jdk_41m12_22 rfl rfl ?_
  exact Wk.retI C d_jdk_41m12_23 (by decide) (by decide) ⟨rfl, rfl⟩
set_option maxRecDepth 65536 in
set_option maxHeartbeats 40000000 in
theorem own_cbe (l : Launch) {Z : State} {a0 : Array Value} (hw : Ws a0 Z) {h0 : Heap} (O0 : Ext Z.heap h0) (hs : Sets Z) (x y n : Int32) (h1 : ¬ x < 0) (h2 : ¬ y < x) (h3 : ¬ n < y) :
    Wk.Con l Z (⟨"java/lang/String", "checkBoundsBeginEnd", "(III)V"⟩ : MethodName) jdk_42_method_158_code 3 none ({ frames := 1, cells := 0, slots := 0, locals := 15 } : Room) #[(.int x), (.int y), (.int n)] h0 (fun v h' => v = none ∧ h' = h0) := by
  refine Wk.Con.intro (plainFor_of_name pn0) O0 (fun m => ef13 m x y n) ?_
  intro W C
  replace C : Wk.Cx Z W "java/lang/String" "checkBoundsBeginEnd" jdk_42_method_158_code 3 none := C
  obtain ⟨zc, fm, -, -, SF, rf⟩ := hs
  refine Wk.iloadN (pc' := 1) C d_jdk_42m158_0 rfl rfl ?_
  refine Wk.iloadN (pc' := 2) C d_jdk_42m158_1 rfl rfl ?_
  refine Wk.iloadN (pc' := 3) C d_jdk_42m158_2 rfl rfl ?_
  refine Wk.getS (pc' := 6) C d_jdk_42m158_3 (w124 hw) Via.refl (SF.ext O0) rfl ?_
  refine Wk.callS (pc' := 9) C d_jdk_42m158_6 (Wk.Con.pays C (Wn := 0) (own_cft l hw O0 x y n fm rf h1 h2 h3) (w128 hw) (w125 hw) (by decide) (by decide)) Wk.cleanC (w126 hw) (w127 hw) (w125 hw) (w128 hw) (by decide) (argsL := [(.int x), (.int y), (.int n), fm]) (st := []) rfl rfl (lenOf pd7 rfl) rfl (Nat.le_of_eq rfl) (k' := 0) rfl (n' := 0) rfl (by decide) (by decide) rfl ?_
  intro r11 h12 Q12 O12
  obtain ⟨rfl, e13⟩ := Q12
  obtain rfl := e13.symm
  refine Wk.pop (pc' := 10) C d_jdk_42m158_9 rfl rfl ?_
  exact Wk.retV C d_jdk_42m158_10 (by decide) (by decide) ⟨rfl, rfl⟩
set_option maxRecDepth 65536 in
set_option maxHeartbeats 40000000 in
theorem own_newS (l : Launch) {Z : State} {a0 : Array Value} (hw : Ws a0 Z) (hE : EW Z a0 EL) {h0 : Heap} (O0 : Ext Z.heap h0) (t : Addr) (cs : List Int32) (s mm : Nat) (V : Wk.Ary Z h0 t .byte ((cs.map fun c => c.toInt8.toInt32).map Value.int)) (hp : ∀ c ∈ cs, ¬ c < 0 ∧ ¬ (255 : Int32) < c) (hl4 : cs.length ≤ 4) (he : s + mm ≤ cs.length) (hne : ¬ (s = 0 ∧ s + mm = cs.length)) :
    Ww.Con l Z EL (⟨"java/lang/StringLatin1", "newString", "([BII)Ljava/lang/String;"⟩ : MethodName) jdk_43_method_47_code 3 (some (.object "java/lang/String")) ({ frames := 3, cells := 4, slots := 24, locals := 60 } : Room) #[(.ref t), (.int (Int32.ofNat s)), (.int (Int32.ofNat mm))] h0 (fun v h' => ∃ x' : Addr, v = some (.ref x') ∧ Ext h0 h' ∧ Str Z h' x' ((cs.drop s).take mm)) := by
  refine Ww.Con.intro (plainFor_of_name pn2) O0 (fun m => ef14 m t (Int32.ofNat s) (Int32.ofNat mm)) ?_
  intro W C
  replace C : Wk.Cx Z W "java/lang/StringLatin1" "newString" jdk_43_method_47_code 3 (some (.object "java/lang/String")) := C
  refine Ww.iloadN (pc' := 1) C d_jdk_43m47_0 rfl rfl ?_
  refine Ww.if_ne C d_jdk_43m47_1 (by decide) (pcT := 7) (by decide) (pc' := 4) rfl (fun q11 => ?_) (fun q11 => ?_)
  · -- pc 1: taken
    refine Ww.newO (pc' := 10) C d_jdk_43m47_7 (w138 hw) (w27 hw) (w20 hw) (k' := 1) rfl (n' := 4) rfl (by decide) (by decide) rfl ?_
    intro a12 h13 ga12 za12 E13 Aa12 Da12 Ua12 O13
    have F14 : Fld Z h13 a12 "java/lang/String" "value" "[B" .null := Da12 (Or.inr (w36 hw)) (ty := (.array .byte)) (by decide)
    have F15 : Fld Z h13 a12 "java/lang/String" "coder" "B" (.int (0 : Int32)) := Da12 (Or.inr (w38 hw)) (ty := .byte) (by decide)
    refine Ww.dup (pc' := 11) C d_jdk_43m47_10 rfl rfl ?_
    refine Ww.aloadN (pc' := 12) C d_jdk_43m47_11 rfl rfl rfl ?_
    refine Ww.iloadN (pc' := 13) C d_jdk_43m47_12 rfl rfl ?_
    refine Ww.iloadN (pc' := 14) C d_jdk_43m47_13 rfl rfl ?_
    refine Ww.iloadN (pc' := 15) C d_jdk_43m47_14 rfl rfl ?_
    obtain ⟨v16, hv16⟩ : ∃ z : Int32, (Int32.ofNat s) + (Int32.ofNat mm) = z := ⟨_, rfl⟩
    refine Ww.iadd (pc' := 16) C d_jdk_43m47_15 hv16 rfl ?_
    have f17 : v16 = (Int32.ofNat (s + mm)) := Wk.add32 (by omega) hv16
    rw [f17]
    refine Ww.callS (pc' := 19) C d_jdk_43m47_16 (fun vm0 C => (Wk.Con.pays C (Wn := 2) (own_cor l hw O13 t ((cs.map fun c => c.toInt8.toInt32).map Value.int) s (s + mm) (V.ext E13) (by simp; omega) (by omega) (by simp; omega) (by simp only [List.length_map]; exact hne)) (w142 hw) (w141 hw) (by decide) (by decide))) Wk.cleanC (fun v h' q => by obtain ⟨_, -, -, e, -⟩ := q; exact Or.inr (Or.inl e)) (w139 hw) (w140 hw) (w141 hw) (w142 hw) (by decide) (argsL := [(.ref t), (.int (Int32.ofNat s)), (.int (Int32.ofNat (s + mm)))]) (st := [(.ref a12), (.ref a12)]) rfl rfl (lenOf pd6 rfl) rfl (Nat.le_of_eq rfl) (k' := 2) rfl (n' := 20) rfl (by decide) (by decide) rfl ?_
    intro r18 h19 Q19 O19
    obtain ⟨b20, rfl, gb20, E19, V19⟩ := Q19
    refine Ww.iconst (pc' := 20) C d_jdk_43m47_19 (v := (0 : Int32)) rfl rfl ?_
    refine Ww.callI (pc' := 23) C d_jdk_43m47_20 (a := a12) (fun vm0 C => (Wk.Con.pays C (Wn := 1) (own_strInitB l hw O19 a12 b20 _ _ za12 (Aa12.ext E19) (F14.ext E19) (F15.ext E19)) (w31 hw) (w20 hw) (by decide) (by decide))) Wk.cleanC (fun v h' q => Or.inr (Or.inr ⟨[a12], allS (List.mem_of_getElem? (i := 0) rfl) all0, q.2.1⟩)) rfl (w153 hw) (w29 hw) (w31 hw) (by decide) (argsL := [(.ref b20), (.int (0 : Int32))]) (st := [(.ref a12)]) rfl rfl (lenOf pd8 rfl) rfl (Nat.le_of_eq rfl) (k' := 2) rfl (n' := 20) rfl (by decide) (by decide) rfl ?_
    intro r21 h22 Q22 O22
    obtain ⟨rfl, Kh22, Ah22, Vh22, Ch22⟩ := Q22
    have X23 : Ext h0 h19 := Wk.Ext.trans E13 E19
    have X24 : Ext h0 h22 := Wk.Ext.keep1 (Z := Z) X23 Kh22 (Nat.le_of_eq ga12.symm)
    have em : s + mm - s = mm := by
      omega
    have V9 := (V19.keep Kh22 (ninS (Ne.symm (Nat.ne_of_lt (Nat.lt_of_lt_of_le Aa12.lt (Nat.le_of_eq gb20.symm)))) nin0))
    rw [em, ← List.map_drop, ← List.map_drop, ← List.map_take, ← List.map_take] at V9
    exact Ww.retA C hE rfl rfl d_jdk_43m47_23 (by decide) (by decide) ⟨_, rfl, X24, Ah22, Ch22, ⟨_, Vh22, V9⟩, (fun c hc => hp c (List.mem_of_mem_drop (List.mem_of_mem_take hc))), by simp; omega⟩
  · -- pc 1: not taken
    refine Ww.ldcS (pc' := 6) C d_jdk_43m47_4 (w205 hw) (wS hw) hE (by decide) (vs := []) ⟨by decide, by decide⟩ (z := (0 : Int32)) (by decide) (by decide) (nb := 0) (by decide) (by decide) (k' := 2) rfl (n' := 4) rfl (by decide) (by decide) rfl ?_
    intro a25 b26 h27 E27 A27 C27 V27 B27 N27 O27
    have m0 : mm = 0 := by
      exact (Wk.eq32 (b := 0) (by omega) (by omega)).mp q11
    exact Ww.retA C hE rfl rfl d_jdk_43m47_6 (by decide) (by decide) ⟨_, rfl, E27, by rw [m0, List.take_zero]; exact ⟨A27, C27, ⟨_, V27, B27⟩, (fun _ h => nomatch h), Nat.zero_le _⟩⟩
set_option maxRecDepth 65536 in
set_option maxHeartbeats 40000000 in
theorem own_substring (l : Launch) {Z : State} {a0 : Array Value} (hw : Ws a0 Z) (hE : EW Z a0 EL) {h0 : Heap} (O0 : Ext Z.heap h0) (hs : Sets Z) (x : Addr) (cs : List Int32) (s e : Nat) (F : Str Z h0 x cs) (hl4 : cs.length ≤ 4) (hse : s ≤ e) (he : e ≤ cs.length) :
    Ww.Con l Z EL (⟨"java/lang/String", "substring", "(II)Ljava/lang/String;"⟩ : MethodName) jdk_42_method_92_code 5 (some (.object "java/lang/String")) ({ frames := 4, cells := 4, slots := 24, locals := 80 } : Room) #[(.ref x), (.int (Int32.ofNat s)), (.int (Int32.ofNat e))] h0 (fun v h' => ∃ x' : Addr, v = some (.ref x') ∧ Ext h0 h' ∧ Str Z h' x' ((cs.drop s).take (e - s))) := by
  refine Ww.Con.intro (plainFor_of_name pn0) O0 (fun m => ef15 m x (Int32.ofNat s) (Int32.ofNat e)) ?_
  intro W C
  replace C : Wk.Cx Z W "java/lang/String" "substring" jdk_42_method_92_code 5 (some (.object "java/lang/String")) := C
  obtain ⟨t, F1, V⟩ := F.2.2.1
  refine Ww.aloadN (pc' := 1) C d_jdk_42m92_0 rfl rfl rfl ?_
  refine Ww.callV (pc' := 4) C d_jdk_42m92_1 (a := x) (fun vm0 C => (Wk.Con.pays C (Wn := 0) (own_length l hw O0 hs x cs F) (w74 hw) (w20 hw) (by decide) (by decide))) Wk.cleanC (fun v h' q => Or.inl q.2) F.exa (w115 hw) (w71 hw) (fun vm0 hZ0 => notFace_of_selects (args := #[]) (mvT (s := W.s.setVm vm0) hZ0 (w73 hw))) (w73 hw) (w72 hw) (by decide) (argsL := []) (st := []) rfl rfl (lenOf pd9 rfl) rfl (Nat.le_of_eq rfl) (k' := 0) rfl (n' := 0) rfl (by decide) (by decide) rfl ?_
  intro r11 h12 Q12 O12
  obtain ⟨rfl, e13⟩ := Q12
  obtain rfl := e13.symm
  refine Ww.istoreN (pc' := 5) C d_jdk_42m92_4 (Ls' := #[.val (.ref x), .val (.int (Int32.ofNat s)), .val (.int (Int32.ofNat e)), .val (.int (Int32.ofNat cs.length)), .unset]) rfl rfl ?_
  refine Ww.iloadN (pc' := 6) C d_jdk_42m92_5 rfl rfl ?_
  refine Ww.iloadN (pc' := 7) C d_jdk_42m92_6 rfl rfl ?_
  refine Ww.iloadN (pc' := 8) C d_jdk_42m92_7 rfl rfl ?_
  refine Ww.callS (pc' := 11) C d_jdk_42m92_8 (fun vm0 C => (Wk.Con.pays C (Wn := 0) (own_cbe l hw O0 hs (Int32.ofNat s) (Int32.ofNat e) (Int32.ofNat cs.length) (Wk.nn32 (by omega)) (fun q => absurd ((Wk.lt32 (by omega) (by omega)).mp q) (by omega)) (fun q => absurd ((Wk.lt32 (by omega) (by omega)).mp q) (by omega))) (w123 hw) (w20 hw) (by decide) (by decide))) Wk.cleanC (fun v h' q => Or.inl q.2) (w121 hw) (w122 hw) (w20 hw) (w123 hw) (by decide) (argsL := [(.int (Int32.ofNat s)), (.int (Int32.ofNat e)), (.int (Int32.ofNat cs.length))]) (st := []) rfl rfl (lenOf pd10 rfl) rfl (Nat.le_of_eq rfl) (k' := 0) rfl (n' := 0) rfl (by decide) (by decide) rfl ?_
  intro r14 h15 Q15 O15
  obtain ⟨rfl, e16⟩ := Q15
  obtain rfl := e16.symm
  refine Ww.iloadN (pc' := 12) C d_jdk_42m92_11 rfl rfl ?_
  refine Ww.if_ne C d_jdk_42m92_12 (by decide) (pcT := 22) (by decide) (pc' := 15) rfl (fun q17 => ?_) (fun q17 => ?_)
  · -- pc 12: taken
    refine Ww.iloadN (pc' := 23) C d_jdk_42m92_22 rfl rfl ?_
    refine Ww.iloadN (pc' := 24) C d_jdk_42m92_23 rfl rfl ?_
    obtain ⟨v18, hv18⟩ : ∃ z : Int32, (Int32.ofNat e) - (Int32.ofNat s) = z := ⟨_, rfl⟩
    refine Ww.isub (pc' := 25) C d_jdk_42m92_24 hv18 rfl ?_
    have f19 : v18 = (Int32.ofNat (e - s)) := Wk.sub32 hse (by omega) hv18
    rw [f19]
    refine Ww.istore (pc' := 27) C d_jdk_42m92_25 (Ls' := #[.val (.ref x), .val (.int (Int32.ofNat s)), .val (.int (Int32.ofNat e)), .val (.int (Int32.ofNat cs.length)), .val (.int (Int32.ofNat (e - s)))]) rfl rfl ?_
    have hne : ¬ (s = 0 ∧ s + (e - s) = cs.length) := fun z => q17 (congrArg Int32.ofNat z.1)
    refine Ww.aloadN (pc' := 28) C d_jdk_42m92_27 rfl rfl rfl ?_
    refine Ww.callV (pc' := 31) C d_jdk_42m92_28 (a := x) (fun vm0 C => (Wk.Con.pays C (Wn := 0) (own_isLatin1 l hw O0 hs x cs F) (w133 hw) (w20 hw) (by decide) (by decide))) Wk.cleanC (fun v h' q => Or.inl q.2) F.exa (w129 hw) (w130 hw) (fun vm0 hZ0 => notFace_of_selects (args := #[]) (mvT (s := W.s.setVm vm0) hZ0 (w132 hw))) (w132 hw) (w131 hw) (by decide) (argsL := []) (st := []) rfl rfl (lenOf pd3 rfl) rfl (Nat.le_of_eq rfl) (k' := 0) rfl (n' := 0) rfl (by decide) (by decide) rfl ?_
    intro r20 h21 Q21 O21
    obtain ⟨rfl, e22⟩ := Q21
    obtain rfl := e22.symm
    refine Ww.if_eq C d_jdk_42m92_31 (by decide) (pcT := 47) (by decide) (pc' := 34) rfl (fun q => absurd q (by decide)) (fun q23 => ?_)
    refine Ww.aloadN (pc' := 35) C d_jdk_42m92_34 rfl rfl rfl ?_
    refine Ww.getF (pc' := 38) C d_jdk_42m92_35 (w35 hw) Via.refl F1 rfl ?_
    refine Ww.iloadN (pc' := 39) C d_jdk_42m92_38 rfl rfl ?_
    refine Ww.iload (pc' := 41) C d_jdk_42m92_39 rfl rfl ?_
    refine Ww.callSS (pc' := 44) C d_jdk_42m92_41 (Ww.Con.pays hE (Wn := 0) (own_newS l hw hE O0 t cs s (e - s) V F.2.2.2.1 hl4 (by omega) hne) (w137 hw) (w136 hw) (by decide) (by decide)) Wk.cleanC (w134 hw) (w135 hw) (w136 hw) (w137 hw) (by decide) (argsL := [(.ref t), (.int (Int32.ofNat s)), (.int (Int32.ofNat (e - s)))]) (st := []) rfl rfl (lenOf pd11 rfl) rfl (Nat.le_of_eq rfl) (k' := 4) rfl (n' := 24) rfl (by decide) (by decide) rfl ?_
    intro r24 h25 Q25 O25
    obtain ⟨x26, rfl, E25, S25⟩ := Q25
    refine Ww.goto C d_jdk_42m92_44 (by decide) (pc' := 57) (by decide) ?_
    exact Ww.retA C hE rfl rfl d_jdk_42m92_57 (by decide) (by decide) ⟨_, rfl, E25, S25⟩
  · -- pc 12: not taken
    refine Ww.iloadN (pc' := 16) C d_jdk_42m92_15 rfl rfl ?_
    refine Ww.iloadN (pc' := 17) C d_jdk_42m92_16 rfl rfl ?_
    refine Ww.icmp_ne C d_jdk_42m92_17 (by decide) (pcT := 22) (by decide) (pc' := 20) rfl (fun q27 => ?_) (fun q27 => ?_)
    · -- pc 17: taken
      refine Ww.iloadN (pc' := 23) C d_jdk_42m92_22 rfl rfl ?_
      refine Ww.iloadN (pc' := 24) C d_jdk_42m92_23 rfl rfl ?_
      obtain ⟨v28, hv28⟩ : ∃ z : Int32, (Int32.ofNat e) - (Int32.ofNat s) = z := ⟨_, rfl⟩
      refine Ww.isub (pc' := 25) C d_jdk_42m92_24 hv28 rfl ?_
      have f29 : v28 = (Int32.ofNat (e - s)) := Wk.sub32 hse (by omega) hv28
      rw [f29]
      refine Ww.istore (pc' := 27) C d_jdk_42m92_25 (Ls' := #[.val (.ref x), .val (.int (Int32.ofNat s)), .val (.int (Int32.ofNat e)), .val (.int (Int32.ofNat cs.length)), .val (.int (Int32.ofNat (e - s)))]) rfl rfl ?_
      have hne : ¬ (s = 0 ∧ s + (e - s) = cs.length) := fun z => q27 (congrArg Int32.ofNat (by omega))
      refine Ww.aloadN (pc' := 28) C d_jdk_42m92_27 rfl rfl rfl ?_
      refine Ww.callV (pc' := 31) C d_jdk_42m92_28 (a := x) (fun vm0 C => (Wk.Con.pays C (Wn := 0) (own_isLatin1 l hw O0 hs x cs F) (w133 hw) (w20 hw) (by decide) (by decide))) Wk.cleanC (fun v h' q => Or.inl q.2) F.exa (w129 hw) (w130 hw) (fun vm0 hZ0 => notFace_of_selects (args := #[]) (mvT (s := W.s.setVm vm0) hZ0 (w132 hw))) (w132 hw) (w131 hw) (by decide) (argsL := []) (st := []) rfl rfl (lenOf pd3 rfl) rfl (Nat.le_of_eq rfl) (k' := 0) rfl (n' := 0) rfl (by decide) (by decide) rfl ?_
      intro r30 h31 Q31 O31
      obtain ⟨rfl, e32⟩ := Q31
      obtain rfl := e32.symm
      refine Ww.if_eq C d_jdk_42m92_31 (by decide) (pcT := 47) (by decide) (pc' := 34) rfl (fun q => absurd q (by decide)) (fun q33 => ?_)
      refine Ww.aloadN (pc' := 35) C d_jdk_42m92_34 rfl rfl rfl ?_
      refine Ww.getF (pc' := 38) C d_jdk_42m92_35 (w35 hw) Via.refl F1 rfl ?_
      refine Ww.iloadN (pc' := 39) C d_jdk_42m92_38 rfl rfl ?_
      refine Ww.iload (pc' := 41) C d_jdk_42m92_39 rfl rfl ?_
      refine Ww.callSS (pc' := 44) C d_jdk_42m92_41 (Ww.Con.pays hE (Wn := 0) (own_newS l hw hE O0 t cs s (e - s) V F.2.2.2.1 hl4 (by omega) hne) (w137 hw) (w136 hw) (by decide) (by decide)) Wk.cleanC (w134 hw) (w135 hw) (w136 hw) (w137 hw) (by decide) (argsL := [(.ref t), (.int (Int32.ofNat s)), (.int (Int32.ofNat (e - s)))]) (st := []) rfl rfl (lenOf pd11 rfl) rfl (Nat.le_of_eq rfl) (k' := 4) rfl (n' := 24) rfl (by decide) (by decide) rfl ?_
      intro r34 h35 Q35 O35
      obtain ⟨x36, rfl, E35, S35⟩ := Q35
      refine Ww.goto C d_jdk_42m92_44 (by decide) (pc' := 57) (by decide) ?_
      exact Ww.retA C hE rfl rfl d_jdk_42m92_57 (by decide) (by decide) ⟨_, rfl, E35, S35⟩
    · -- pc 17: not taken
      refine Ww.aloadN (pc' := 21) C d_jdk_42m92_20 rfl rfl rfl ?_
      have s0 : s = 0 := by
        exact (Wk.eq32 (b := 0) (by omega) (by omega)).mp q17
      have en : e = cs.length := by
        exact (Wk.eq32 (by omega) (by omega)).mp q27
      exact Ww.retA C hE rfl rfl d_jdk_42m92_21 (by decide) (by decide) ⟨_, rfl, Wk.Ext.refl _, by rw [s0, en]; simpa using F⟩
def sb16 (cs : List Int32) : List Value := (cs.map fun c => c.toInt8.toInt32).map Value.int ++ List.replicate (16 - cs.length) (.int 0)
theorem sb16_len {cs : List Int32} (h : cs.length ≤ 16) : (sb16 cs).length = 16 := by simp [sb16]; omega
theorem sb16_app {cs ds : List Int32} (h : cs.length + ds.length ≤ 16) : (sb16 cs).take cs.length ++ (((ds.map fun c => c.toInt8.toInt32).map Value.int).drop 0).take ds.length ++ (sb16 cs).drop (cs.length + ds.length) = sb16 (cs ++ ds) := by
  have e1 : (sb16 cs).take cs.length = (cs.map fun c => c.toInt8.toInt32).map Value.int := by
    unfold sb16
    rw [List.take_append_of_le_length (by simp), List.take_of_length_le (by simp)]
  have e2 : (sb16 cs).drop (cs.length + ds.length) = List.replicate (16 - (cs.length + ds.length)) (.int 0) := by
    unfold sb16
    rw [List.drop_append, List.drop_eq_nil_of_le (by simp), List.nil_append, List.length_map, List.length_map, List.drop_replicate]
    congr 1; omega
  rw [e1, e2, List.drop_zero, List.take_of_length_le (by simp)]
  simp [sb16]
theorem sb16_take {cs : List Int32} : ((sb16 cs).drop 0).take (cs.length - 0) = (cs.map fun c => c.toInt8.toInt32).map Value.int := by
  rw [List.drop_zero, Nat.sub_zero]
  unfold sb16
  rw [List.take_append_of_le_length (by simp), List.take_of_length_le (by simp)]
theorem own_shl0 {x v : Int32} (h : x <<< ((0 : Int32) &&& 31) = v) : v = x := by
  rw [← h, show ((0 : Int32) &&& 31) = 0 by decide]
  exact Int32.shiftLeft_zero
set_option maxRecDepth 65536 in
set_option maxHeartbeats 40000000 in
theorem own_sbI (l : Launch) {Z : State} {a0 : Array Value} (hw : Ws a0 Z) {h0 : Heap} (O0 : Ext Z.heap h0) (hs : Sets Z) (a1 : Addr) (g1 : Z.heap.size ≤ a1) (E1 : Exa Z h0 a1 "java/lang/StringBuilder") (F1 : Fld Z h0 a1 "java/lang/AbstractStringBuilder" "value" "[B" .null) (F2 : Fld Z h0 a1 "java/lang/AbstractStringBuilder" "coder" "B" (.int (0 : Int32))) (F3 : Fld Z h0 a1 "java/lang/AbstractStringBuilder" "count" "I" (.int (0 : Int32))) :
    Wk.Con l Z (⟨"java/lang/AbstractStringBuilder", "<init>", "(I)V"⟩ : MethodName) jdk_68_method_2_code 2 none ({ frames := 1, cells := 1, slots := 16, locals := 14 } : Room) #[(.ref a1), (.int (16 : Int32))] h0 (fun v h' => ∃ t : Addr, v = none ∧ t = h0.size ∧ Z.heap.size ≤ t ∧ Keep h0 h' [a1] ∧ Exa Z h' a1 "java/lang/StringBuilder" ∧ Fld Z h' a1 "java/lang/AbstractStringBuilder" "value" "[B" (.ref t) ∧ Fld Z h' a1 "java/lang/AbstractStringBuilder" "coder" "B" (.int 0) ∧ Fld Z h' a1 "java/lang/AbstractStringBuilder" "count" "I" (.int (Int32.ofNat ([] : List Int32).length)) ∧ Wk.Ary Z h' t .byte (sb16 ([] : List Int32))) := by
  refine Wk.Con.intro (plainFor_of_name pn4) O0 (fun m => ef16 m a1) ?_
  intro W C
  replace C : Wk.Cx Z W "java/lang/AbstractStringBuilder" "<init>" jdk_68_method_2_code 2 none := C
  obtain ⟨zc, fm, SC, hzc, -, -⟩ := hs
  refine Wk.aloadN (pc' := 1) C d_jdk_68m2_0 rfl rfl rfl ?_
  refine Wk.initO (pc' := 4) C d_jdk_68m2_1 (Wn := 0) (w51 hw) (w33 hw) (w34 hw) rfl (by decide) (Nat.le_of_eq rfl) (by decide) rfl ?_
  refine Wk.getS (pc' := 7) C d_jdk_68m2_4 (w52 hw) Via.refl (SC.ext O0) rfl ?_
  refine Wk.if_eq C d_jdk_68m2_7 (by decide) (pcT := 25) (by decide) (pc' := 10) rfl (fun q => absurd q hzc) (fun q11 => ?_)
  refine Wk.aloadN (pc' := 11) C d_jdk_68m2_10 rfl rfl rfl ?_
  refine Wk.iloadN (pc' := 12) C d_jdk_68m2_11 rfl rfl ?_
  refine Wk.newA (pc' := 14) C d_jdk_68m2_12 (ty := .byte) rfl (w21 hw) (by decide) (cap := 16) (by decide) (by decide) (k' := 1) rfl (n' := 16) rfl (by decide) (by decide) rfl rfl ?_
  intro a12 h13 ga12 za12 E13 Va12 O13
  have V14 : Wk.Ary Z h13 a12 .byte [(.int (0 : Int32)), (.int (0 : Int32)), (.int (0 : Int32)), (.int (0 : Int32)), (.int (0 : Int32)), (.int (0 : Int32)), (.int (0 : Int32)), (.int (0 : Int32)), (.int (0 : Int32)), (.int (0 : Int32)), (.int (0 : Int32)), (.int (0 : Int32)), (.int (0 : Int32)), (.int (0 : Int32)), (.int (0 : Int32)), (.int (0 : Int32))] := Va12
  refine Wk.putF (pc' := 17) C d_jdk_68m2_14 (w53 hw) Via.refl (F1.ext E13) (E1.ext E13) (Or.inl (w54 hw)) (w40 hw) (ty := (.array .byte)) (by decide) rfl rfl g1 rfl ?_
  intro h15 W15 O15
  have F16 := (F1.ext E13).same W15
  refine Wk.aloadN (pc' := 18) C d_jdk_68m2_17 rfl rfl rfl ?_
  refine Wk.iconst (pc' := 19) C d_jdk_68m2_18 (v := (0 : Int32)) rfl rfl ?_
  refine Wk.putF (pc' := 22) C d_jdk_68m2_19 (w55 hw) Via.refl ((F2.ext E13).other W15 (Or.inr (slot_ne (Or.inl (w56 hw)) (Or.inl (w54 hw)) (by decide) (t := .byte) (t' := (.array .byte)) (by decide) (by decide)))) ((E1.ext E13).wr W15) (Or.inl (w56 hw)) (w40 hw) (ty := .byte) (by decide) (by decide) (by decide) g1 rfl ?_
  intro h17 W17 O17
  have F18 := ((F2.ext E13).other W15 (Or.inr (slot_ne (Or.inl (w56 hw)) (Or.inl (w54 hw)) (by decide) (t := .byte) (t' := (.array .byte)) (by decide) (by decide)))).same W17
  refine Wk.goto C d_jdk_68m2_22 (by decide) (pc' := 38) (by decide) ?_
  exact Wk.retV C d_jdk_68m2_38 (by decide) (by decide) ⟨a12, rfl, ga12, za12, ((((Keep.refl _ _).ext E13).wr W15 (Or.inl (List.mem_singleton.mpr rfl))).wr W17 (Or.inl (List.mem_singleton.mpr rfl))), (((E1.ext E13).wr W15).wr W17), (F16.other W17 (Or.inr (slot_ne (Or.inl (w54 hw)) (Or.inl (w56 hw)) (by decide) (t := (.array .byte)) (t' := .byte) (by decide) (by decide)))), F18, (((F3.ext E13).other W15 (Or.inr (slot_ne (Or.inl (w82 hw)) (Or.inl (w54 hw)) (by decide) (t := .int) (t' := (.array .byte)) (by decide) (by decide)))).other W17 (Or.inr (slot_ne (Or.inl (w82 hw)) (Or.inl (w56 hw)) (by decide) (t := .int) (t' := .byte) (by decide) (by decide)))), ((V14.other W15 (Ne.symm (Nat.ne_of_lt (Nat.lt_of_lt_of_le E1.lt (Nat.le_of_eq ga12.symm))))).other W17 (Ne.symm (Nat.ne_of_lt (Nat.lt_of_lt_of_le E1.lt (Nat.le_of_eq ga12.symm)))))⟩
set_option maxRecDepth 65536 in
set_option maxHeartbeats 40000000 in
theorem own_sb0 (l : Launch) {Z : State} {a0 : Array Value} (hw : Ws a0 Z) {h0 : Heap} (O0 : Ext Z.heap h0) (hs : Sets Z) (a1 : Addr) (g1 : Z.heap.size ≤ a1) (E1 : Exa Z h0 a1 "java/lang/StringBuilder") (F1 : Fld Z h0 a1 "java/lang/AbstractStringBuilder" "value" "[B" .null) (F2 : Fld Z h0 a1 "java/lang/AbstractStringBuilder" "coder" "B" (.int (0 : Int32))) (F3 : Fld Z h0 a1 "java/lang/AbstractStringBuilder" "count" "I" (.int (0 : Int32))) :
    Wk.Con l Z (⟨"java/lang/StringBuilder", "<init>", "()V"⟩ : MethodName) jdk_67_method_1_code 1 none ({ frames := 2, cells := 1, slots := 16, locals := 30 } : Room) #[(.ref a1)] h0 (fun v h' => ∃ t : Addr, v = none ∧ t = h0.size ∧ Z.heap.size ≤ t ∧ Keep h0 h' [a1] ∧ Exa Z h' a1 "java/lang/StringBuilder" ∧ Fld Z h' a1 "java/lang/AbstractStringBuilder" "value" "[B" (.ref t) ∧ Fld Z h' a1 "java/lang/AbstractStringBuilder" "coder" "B" (.int 0) ∧ Fld Z h' a1 "java/lang/AbstractStringBuilder" "count" "I" (.int (Int32.ofNat ([] : List Int32).length)) ∧ Wk.Ary Z h' t .byte (sb16 ([] : List Int32))) := by
  refine Wk.Con.intro (plainFor_of_name pn5) O0 (fun m => ef17 m a1) ?_
  intro W C
  replace C : Wk.Cx Z W "java/lang/StringBuilder" "<init>" jdk_67_method_1_code 1 none := C
  refine Wk.aloadN (pc' := 1) C d_jdk_67m1_0 rfl rfl rfl ?_
  refine Wk.bipush (pc' := 3) C d_jdk_67m1_1 (v := (16 : Int32)) rfl rfl ?_
  refine Wk.callI (pc' := 6) C d_jdk_67m1_3 (a := a1) (Wk.Con.pays C (Wn := 0) (own_sbI l hw O0 hs a1 g1 E1 F1 F2 F3) (w50 hw) (w49 hw) (by decide) (by decide)) Wk.cleanC rfl (w45 hw) (w46 hw) (w50 hw) (by decide) (argsL := [(.int (16 : Int32))]) (st := []) rfl rfl (lenOf pd12 rfl) rfl (Nat.le_of_eq rfl) (k' := 1) rfl (n' := 16) rfl (by decide) (by decide) rfl ?_
  intro r11 h12 Q12 O12
  obtain ⟨t13, rfl, gt13, zt13, K12, A12, U12, C12, N12, V12⟩ := Q12
  exact Wk.retV C d_jdk_67m1_6 (by decide) (by decide) ⟨t13, rfl, gt13, zt13, ((Keep.refl _ _).trans K12 (allS (Or.inl (List.mem_singleton.mpr rfl)) all0)), A12, U12, C12, N12, V12⟩
set_option maxRecDepth 65536 in
set_option maxHeartbeats 40000000 in
theorem own_ecap (l : Launch) {Z : State} {a0 : Array Value} (hw : Ws a0 Z) {h0 : Heap} (O0 : Ext Z.heap h0) (a1 t : Addr) (cs : List Int32) (n : Nat) (g1 : Z.heap.size ≤ a1) (gt : Z.heap.size ≤ t) (nt : t ≠ a1) (E1 : Exa Z h0 a1 "java/lang/StringBuilder") (F1 : Fld Z h0 a1 "java/lang/AbstractStringBuilder" "value" "[B" (.ref t)) (F2 : Fld Z h0 a1 "java/lang/AbstractStringBuilder" "coder" "B" (.int 0)) (F3 : Fld Z h0 a1 "java/lang/AbstractStringBuilder" "count" "I" (.int (Int32.ofNat cs.length))) (F4 : Wk.Ary Z h0 t .byte (sb16 cs)) (hc : cs.length ≤ 16) (hn : n ≤ 16) :
    Wk.Con l Z (⟨"java/lang/AbstractStringBuilder", "ensureCapacityInternal", "(I)V"⟩ : MethodName) jdk_68_method_9_code 3 none ({ frames := 0, cells := 0, slots := 0, locals := 0 } : Room) #[(.ref a1), (.int (Int32.ofNat n))] h0 (fun v h' => v = none ∧ h' = h0) := by
  refine Wk.Con.intro (plainFor_of_name pn4) O0 (fun m => ef18 m a1 (Int32.ofNat n)) ?_
  intro W C
  replace C : Wk.Cx Z W "java/lang/AbstractStringBuilder" "ensureCapacityInternal" jdk_68_method_9_code 3 none := C
  refine Wk.aloadN (pc' := 1) C d_jdk_68m9_0 rfl rfl rfl ?_
  refine Wk.getF (pc' := 4) C d_jdk_68m9_1 (w53 hw) Via.refl F1 rfl ?_
  refine Wk.alen (pc' := 5) C d_jdk_68m9_4 F4 (z := (16 : Int32)) (by rw [sb16_len hc]; rfl) rfl ?_
  refine Wk.aloadN (pc' := 6) C d_jdk_68m9_5 rfl rfl rfl ?_
  refine Wk.getF (pc' := 9) C d_jdk_68m9_6 (w55 hw) Via.refl F2 rfl ?_
  refine Wk.ishr (pc' := 10) C d_jdk_68m9_9 (v := (16 : Int32)) (by decide) rfl ?_
  refine Wk.istoreN (pc' := 11) C d_jdk_68m9_10 (Ls' := #[.val (.ref a1), .val (.int (Int32.ofNat n)), .val (.int (16 : Int32))]) rfl rfl ?_
  refine Wk.iloadN (pc' := 12) C d_jdk_68m9_11 rfl rfl ?_
  refine Wk.iloadN (pc' := 13) C d_jdk_68m9_12 rfl rfl ?_
  obtain ⟨v11, hv11⟩ : ∃ z : Int32, (Int32.ofNat n) - (16 : Int32) = z := ⟨_, rfl⟩
  refine Wk.isub (pc' := 14) C d_jdk_68m9_13 hv11 rfl ?_
  have hle : ¬ (0 : Int32) < v11 := by
    have a := Wk.subI hv11
    have b := rng32 v11
    have c16 : (16 : Int32).toInt = 16 := by decide
    have c0 : (0 : Int32).toInt = 0 := by decide
    rw [(Wk.nat32 (n := n) (by omega)).1, c16] at a
    rw [Wk.ltI, c0]
    omega
  refine Wk.if_le C d_jdk_68m9_14 (by decide) (pcT := 38) (by decide) (pc' := 17) rfl (fun q12 => ?_) (fun q => absurd q hle)
  exact Wk.retV C d_jdk_68m9_38 (by decide) (by decide) ⟨rfl, rfl⟩
set_option maxRecDepth 65536 in
set_option maxHeartbeats 40000000 in
theorem own_infl (l : Launch) {Z : State} {a0 : Array Value} (hw : Ws a0 Z) {h0 : Heap} (O0 : Ext Z.heap h0) (hs : Sets Z) (a1 t x : Addr) (cs ds : List Int32) (g1 : Z.heap.size ≤ a1) (gt : Z.heap.size ≤ t) (nt : t ≠ a1) (E1 : Exa Z h0 a1 "java/lang/StringBuilder") (F1 : Fld Z h0 a1 "java/lang/AbstractStringBuilder" "value" "[B" (.ref t)) (F2 : Fld Z h0 a1 "java/lang/AbstractStringBuilder" "coder" "B" (.int 0)) (F3 : Fld Z h0 a1 "java/lang/AbstractStringBuilder" "count" "I" (.int (Int32.ofNat cs.length))) (F4 : Wk.Ary Z h0 t .byte (sb16 cs)) (F : Str Z h0 x ds) :
    Wk.Con l Z (⟨"java/lang/AbstractStringBuilder", "inflateIfNeededFor", "(Ljava/lang/String;)V"⟩ : MethodName) jdk_68_method_71_code 2 none ({ frames := 1, cells := 0, slots := 0, locals := 14 } : Room) #[(.ref a1), (.ref x)] h0 (fun v h' => v = none ∧ h' = h0) := by
  refine Wk.Con.intro (plainFor_of_name pn4) O0 (fun m => ef19 m a1 x) ?_
  intro W C
  replace C : Wk.Cx Z W "java/lang/AbstractStringBuilder" "inflateIfNeededFor" jdk_68_method_71_code 2 none := C
  have hs0 := hs
  obtain ⟨zc, fm, SC, hzc, -, -⟩ := hs
  have hs := hs0
  refine Wk.getS (pc' := 3) C d_jdk_68m71_0 (w52 hw) Via.refl (SC.ext O0) rfl ?_
  refine Wk.if_eq C d_jdk_68m71_3 (by decide) (pcT := 21) (by decide) (pc' := 6) rfl (fun q => absurd q hzc) (fun q11 => ?_)
  refine Wk.aloadN (pc' := 7) C d_jdk_68m71_6 rfl rfl rfl ?_
  refine Wk.getF (pc' := 10) C d_jdk_68m71_7 (w55 hw) Via.refl F2 rfl ?_
  refine Wk.aloadN (pc' := 11) C d_jdk_68m71_10 rfl rfl rfl ?_
  refine Wk.callV (pc' := 14) C d_jdk_68m71_11 (a := x) (Wk.Con.pays C (Wn := 1) (own_coder l hw O0 hs x ds F) (w79 hw) (w20 hw) (by decide) (by decide)) Wk.cleanC F.exa (w98 hw) (w76 hw) (notFace_of_selects (args := #[]) (mvT C.hZ (w78 hw))) (w78 hw) (w77 hw) (by decide) (argsL := []) (st := [(.int (0 : Int32))]) rfl rfl (lenOf pd0 rfl) rfl (Nat.le_of_eq rfl) (k' := 0) rfl (n' := 0) rfl (by decide) (by decide) rfl ?_
  intro r12 h13 Q13 O13
  obtain ⟨rfl, e14⟩ := Q13
  obtain rfl := e14.symm
  refine Wk.icmp_eq C d_jdk_68m71_14 (by decide) (pcT := 21) (by decide) (pc' := 17) rfl (fun q15 => ?_) (fun q => absurd q (by decide))
  exact Wk.retV C d_jdk_68m71_21 (by decide) (by decide) ⟨rfl, rfl⟩
set_option maxRecDepth 65536 in
set_option maxHeartbeats 40000000 in
theorem own_getB (l : Launch) {Z : State} {a0 : Array Value} (hw : Ws a0 Z) {h0 : Heap} (O0 : Ext Z.heap h0) (hs : Sets Z) (t x : Addr) (cs ds : List Int32) (gt : Z.heap.size ≤ t) (F4 : Wk.Ary Z h0 t .byte (sb16 cs)) (F : Str Z h0 x ds) (hl : cs.length + ds.length ≤ 16) :
    Wk.Con l Z (⟨"java/lang/String", "getBytes", "([BIB)V"⟩ : MethodName) jdk_42_method_147_code 4 none ({ frames := 1, cells := 0, slots := 0, locals := 18 } : Room) #[(.ref x), (.ref t), (.int (Int32.ofNat cs.length)), (.int (0 : Int32))] h0 (fun v h' => v = none ∧ Keep h0 h' [t] ∧ Wk.Ary Z h' t .byte (sb16 (cs ++ ds))) := by
  refine Wk.Con.intro (plainFor_of_name pn0) O0 (fun m => ef20 m x t (Int32.ofNat cs.length)) ?_
  intro W C
  replace C : Wk.Cx Z W "java/lang/String" "getBytes" jdk_42_method_147_code 4 none := C
  obtain ⟨u, G1, U⟩ := F.2.2.1
  refine Wk.aloadN (pc' := 1) C d_jdk_42m147_0 rfl rfl rfl ?_
  refine Wk.callV (pc' := 4) C d_jdk_42m147_1 (a := x) (Wk.Con.pays C (Wn := 0) (own_coder l hw O0 hs x ds F) (w79 hw) (w20 hw) (by decide) (by decide)) Wk.cleanC F.exa (w75 hw) (w76 hw) (notFace_of_selects (args := #[]) (mvT C.hZ (w78 hw))) (w78 hw) (w77 hw) (by decide) (argsL := []) (st := []) rfl rfl (lenOf pd0 rfl) rfl (Nat.le_of_eq rfl) (k' := 0) rfl (n' := 0) rfl (by decide) (by decide) rfl ?_
  intro r11 h12 Q12 O12
  obtain ⟨rfl, e13⟩ := Q12
  obtain rfl := e13.symm
  refine Wk.iloadN (pc' := 5) C d_jdk_42m147_4 rfl rfl ?_
  refine Wk.icmp_ne C d_jdk_42m147_5 (by decide) (pcT := 28) (by decide) (pc' := 8) rfl (fun q => absurd q (by decide)) (fun q14 => ?_)
  refine Wk.aloadN (pc' := 9) C d_jdk_42m147_8 rfl rfl rfl ?_
  refine Wk.getF (pc' := 12) C d_jdk_42m147_9 (w35 hw) Via.refl G1 rfl ?_
  refine Wk.iconst (pc' := 13) C d_jdk_42m147_12 (v := (0 : Int32)) rfl rfl ?_
  refine Wk.aloadN (pc' := 14) C d_jdk_42m147_13 rfl rfl rfl ?_
  refine Wk.iloadN (pc' := 15) C d_jdk_42m147_14 rfl rfl ?_
  refine Wk.iloadN (pc' := 16) C d_jdk_42m147_15 rfl rfl ?_
  obtain ⟨v15, hv15⟩ : ∃ z : Int32, (Int32.ofNat cs.length) <<< ((0 : Int32) &&& 31) = z := ⟨_, rfl⟩
  refine Wk.ishl (pc' := 17) C d_jdk_42m147_16 hv15 rfl ?_
  have f16 : v15 = (Int32.ofNat cs.length) := own_shl0 hv15
  rw [f16]
  refine Wk.aloadN (pc' := 18) C d_jdk_42m147_17 rfl rfl rfl ?_
  refine Wk.getF (pc' := 21) C d_jdk_42m147_18 (w35 hw) Via.refl G1 rfl ?_
  refine Wk.alen (pc' := 22) C d_jdk_42m147_21 U (z := (Int32.ofNat ds.length)) (by simp) rfl ?_
  refine Wk.acopy (pc' := 25) C d_jdk_42m147_22 (w104 hw) (w107 hw) (w105 hw) (w106 hw) (Wn := 0) U F4 rfl (by decide) (Wk.nn32 (by omega)) (Wk.nn32 (by omega)) (by rw [(Wk.nat32 (n := ds.length) (by omega)).2]; show 0 + _ ≤ _; simp) (by rw [(Wk.nat32 (n := cs.length) (by omega)).2, (Wk.nat32 (n := ds.length) (by omega)).2, sb16_len (by omega)]; exact hl) (vd' := (sb16 (cs ++ ds))) (by rw [(Wk.nat32 (n := cs.length) (by omega)).2, (Wk.nat32 (n := ds.length) (by omega)).2]; exact sb16_app hl) gt rfl (by decide) (Nat.le_of_eq rfl) (by decide) rfl ?_
  intro h17 K17 V17 O17
  refine Wk.goto C d_jdk_42m147_25 (by decide) (pc' := 43) (by decide) ?_
  exact Wk.retV C d_jdk_42m147_43 (by decide) (by decide) ⟨rfl, ((Keep.refl _ _).trans K17 (allS (Or.inl (List.mem_singleton.mpr rfl)) all0)), V17⟩
set_option maxRecDepth 65536 in
set_option maxHeartbeats 40000000 in
theorem own_put (l : Launch) {Z : State} {a0 : Array Value} (hw : Ws a0 Z) {h0 : Heap} (O0 : Ext Z.heap h0) (hs : Sets Z) (a1 t x : Addr) (cs ds : List Int32) (g1 : Z.heap.size ≤ a1) (gt : Z.heap.size ≤ t) (nt : t ≠ a1) (E1 : Exa Z h0 a1 "java/lang/StringBuilder") (F1 : Fld Z h0 a1 "java/lang/AbstractStringBuilder" "value" "[B" (.ref t)) (F2 : Fld Z h0 a1 "java/lang/AbstractStringBuilder" "coder" "B" (.int 0)) (F3 : Fld Z h0 a1 "java/lang/AbstractStringBuilder" "count" "I" (.int (Int32.ofNat cs.length))) (F4 : Wk.Ary Z h0 t .byte (sb16 cs)) (F : Str Z h0 x ds) (hl : cs.length + ds.length ≤ 16) :
    Wk.Con l Z (⟨"java/lang/AbstractStringBuilder", "putStringAt", "(ILjava/lang/String;)V"⟩ : MethodName) jdk_68_method_73_code 3 none ({ frames := 2, cells := 0, slots := 0, locals := 36 } : Room) #[(.ref a1), (.int (Int32.ofNat cs.length)), (.ref x)] h0 (fun v h' => v = none ∧ Keep h0 h' [t] ∧ Wk.Ary Z h' t .byte (sb16 (cs ++ ds))) := by
  refine Wk.Con.intro (plainFor_of_name pn4) O0 (fun m => ef21 m a1 (Int32.ofNat cs.length) x) ?_
  intro W C
  replace C : Wk.Cx Z W "java/lang/AbstractStringBuilder" "putStringAt" jdk_68_method_73_code 3 none := C
  refine Wk.aloadN (pc' := 1) C d_jdk_68m73_0 rfl rfl rfl ?_
  refine Wk.aloadN (pc' := 2) C d_jdk_68m73_1 rfl rfl rfl ?_
  refine Wk.callV (pc' := 5) C d_jdk_68m73_2 (a := a1) (Wk.Con.pays C (Wn := 0) (own_infl l hw O0 hs a1 t x cs ds g1 gt nt E1 F1 F2 F3 F4 F) (w97 hw) (w49 hw) (by decide) (by decide)) Wk.cleanC E1 (w93 hw) (Wk.declOf (w94 hw) (w97 hw)) (notFace_of_selects (args := #[]) (mvT C.hZ (w96 hw))) (w96 hw) (w94 hw) (by decide) (argsL := [(.ref x)]) (st := []) rfl rfl (lenOf pd13 rfl) rfl (Nat.le_of_eq rfl) (k' := 0) rfl (n' := 0) rfl (by decide) (by decide) rfl ?_
  intro r11 h12 Q12 O12
  obtain ⟨rfl, e13⟩ := Q12
  obtain rfl := e13.symm
  refine Wk.aloadN (pc' := 6) C d_jdk_68m73_5 rfl rfl rfl ?_
  refine Wk.aloadN (pc' := 7) C d_jdk_68m73_6 rfl rfl rfl ?_
  refine Wk.getF (pc' := 10) C d_jdk_68m73_7 (w53 hw) Via.refl F1 rfl ?_
  refine Wk.iloadN (pc' := 11) C d_jdk_68m73_10 rfl rfl ?_
  refine Wk.aloadN (pc' := 12) C d_jdk_68m73_11 rfl rfl rfl ?_
  refine Wk.getF (pc' := 15) C d_jdk_68m73_12 (w55 hw) Via.refl F2 rfl ?_
  refine Wk.callV (pc' := 18) C d_jdk_68m73_15 (a := x) (Wk.Con.pays C (Wn := 0) (own_getB l hw O0 hs t x cs ds gt F4 F hl) (w103 hw) (w20 hw) (by decide) (by decide)) Wk.cleanC F.exa (w99 hw) (w100 hw) (notFace_of_selects (args := #[]) (mvT C.hZ (w102 hw))) (w102 hw) (w101 hw) (by decide) (argsL := [(.ref t), (.int (Int32.ofNat cs.length)), (.int (0 : Int32))]) (st := []) rfl rfl (lenOf pd14 rfl) rfl (Nat.le_of_eq rfl) (k' := 0) rfl (n' := 0) rfl (by decide) (by decide) rfl ?_
  intro r14 h15 Q15 O15
  obtain ⟨rfl, K15, V15⟩ := Q15
  exact Wk.retV C d_jdk_68m73_18 (by decide) (by decide) ⟨rfl, ((Keep.refl _ _).trans K15 (allS (Or.inl (List.mem_singleton.mpr rfl)) all0)), V15⟩
set_option maxRecDepth 65536 in
set_option maxHeartbeats 40000000 in
theorem own_aappend (l : Launch) {Z : State} {a0 : Array Value} (hw : Ws a0 Z) {h0 : Heap} (O0 : Ext Z.heap h0) (hs : Sets Z) (a1 t x : Addr) (cs ds : List Int32) (g1 : Z.heap.size ≤ a1) (gt : Z.heap.size ≤ t) (nt : t ≠ a1) (E1 : Exa Z h0 a1 "java/lang/StringBuilder") (F1 : Fld Z h0 a1 "java/lang/AbstractStringBuilder" "value" "[B" (.ref t)) (F2 : Fld Z h0 a1 "java/lang/AbstractStringBuilder" "coder" "B" (.int 0)) (F3 : Fld Z h0 a1 "java/lang/AbstractStringBuilder" "count" "I" (.int (Int32.ofNat cs.length))) (F4 : Wk.Ary Z h0 t .byte (sb16 cs)) (F : Str Z h0 x ds) (hl : cs.length + ds.length ≤ 16) :
    Wk.Con l Z (⟨"java/lang/AbstractStringBuilder", "append", "(Ljava/lang/String;)Ljava/lang/AbstractStringBuilder;"⟩ : MethodName) jdk_68_method_22_code 3 (some (.object "java/lang/AbstractStringBuilder")) ({ frames := 3, cells := 0, slots := 0, locals := 52 } : Room) #[(.ref a1), (.ref x)] h0 (fun v h' => v = some (.ref a1) ∧ Keep h0 h' [a1, t] ∧ Exa Z h' a1 "java/lang/StringBuilder" ∧ Fld Z h' a1 "java/lang/AbstractStringBuilder" "value" "[B" (.ref t) ∧ Fld Z h' a1 "java/lang/AbstractStringBuilder" "coder" "B" (.int 0) ∧ Fld Z h' a1 "java/lang/AbstractStringBuilder" "count" "I" (.int (Int32.ofNat (cs ++ ds).length)) ∧ Wk.Ary Z h' t .byte (sb16 (cs ++ ds))) := by
  refine Wk.Con.intro (plainFor_of_name pn4) O0 (fun m => ef22 m a1 x) ?_
  intro W C
  replace C : Wk.Cx Z W "java/lang/AbstractStringBuilder" "append" jdk_68_method_22_code 3 (some (.object "java/lang/AbstractStringBuilder")) := C
  refine Wk.aloadN (pc' := 1) C d_jdk_68m22_0 rfl rfl rfl ?_
  refine Wk.ifnonnullY C d_jdk_68m22_1 (by decide) (pc' := 9) (by decide) ?_
  refine Wk.aloadN (pc' := 10) C d_jdk_68m22_9 rfl rfl rfl ?_
  refine Wk.callV (pc' := 13) C d_jdk_68m22_10 (a := x) (Wk.Con.pays C (Wn := 0) (own_length l hw O0 hs x ds F) (w74 hw) (w20 hw) (by decide) (by decide)) Wk.cleanC F.exa (w70 hw) (w71 hw) (notFace_of_selects (args := #[]) (mvT C.hZ (w73 hw))) (w73 hw) (w72 hw) (by decide) (argsL := []) (st := []) rfl rfl (lenOf pd9 rfl) rfl (Nat.le_of_eq rfl) (k' := 0) rfl (n' := 0) rfl (by decide) (by decide) rfl ?_
  intro r11 h12 Q12 O12
  obtain ⟨rfl, e13⟩ := Q12
  obtain rfl := e13.symm
  refine Wk.istoreN (pc' := 14) C d_jdk_68m22_13 (Ls' := #[.val (.ref a1), .val (.ref x), .val (.int (Int32.ofNat ds.length))]) rfl rfl ?_
  refine Wk.aloadN (pc' := 15) C d_jdk_68m22_14 rfl rfl rfl ?_
  refine Wk.aloadN (pc' := 16) C d_jdk_68m22_15 rfl rfl rfl ?_
  refine Wk.getF (pc' := 19) C d_jdk_68m22_16 (w81 hw) Via.refl F3 rfl ?_
  refine Wk.iloadN (pc' := 20) C d_jdk_68m22_19 rfl rfl ?_
  obtain ⟨v14, hv14⟩ : ∃ z : Int32, (Int32.ofNat cs.length) + (Int32.ofNat ds.length) = z := ⟨_, rfl⟩
  refine Wk.iadd (pc' := 21) C d_jdk_68m22_20 hv14 rfl ?_
  have f15 : v14 = (Int32.ofNat (cs.length + ds.length)) := Wk.add32 (by omega) hv14
  rw [f15]
  refine Wk.callV (pc' := 24) C d_jdk_68m22_21 (a := a1) (Wk.Con.pays C (Wn := 0) (own_ecap l hw O0 a1 t cs (cs.length + ds.length) g1 gt nt E1 F1 F2 F3 F4 (by omega) (by omega)) (w87 hw) (w49 hw) (by decide) (by decide)) Wk.cleanC E1 (w83 hw) (Wk.declOf (w84 hw) (w87 hw)) (notFace_of_selects (args := #[]) (mvT C.hZ (w86 hw))) (w86 hw) (w84 hw) (by decide) (argsL := [(.int (Int32.ofNat (cs.length + ds.length)))]) (st := []) rfl rfl (lenOf pd12 rfl) rfl (Nat.le_of_eq rfl) (k' := 0) rfl (n' := 0) rfl (by decide) (by decide) rfl ?_
  intro r16 h17 Q17 O17
  obtain ⟨rfl, e18⟩ := Q17
  obtain rfl := e18.symm
  refine Wk.aloadN (pc' := 25) C d_jdk_68m22_24 rfl rfl rfl ?_
  refine Wk.aloadN (pc' := 26) C d_jdk_68m22_25 rfl rfl rfl ?_
  refine Wk.getF (pc' := 29) C d_jdk_68m22_26 (w81 hw) Via.refl F3 rfl ?_
  refine Wk.aloadN (pc' := 30) C d_jdk_68m22_29 rfl rfl rfl ?_
  refine Wk.callV (pc' := 33) C d_jdk_68m22_30 (a := a1) (Wk.Con.pays C (Wn := 0) (own_put l hw O0 hs a1 t x cs ds g1 gt nt E1 F1 F2 F3 F4 F hl) (w92 hw) (w49 hw) (by decide) (by decide)) Wk.cleanC E1 (w88 hw) (Wk.declOf (w89 hw) (w92 hw)) (notFace_of_selects (args := #[]) (mvT C.hZ (w91 hw))) (w91 hw) (w89 hw) (by decide) (argsL := [(.int (Int32.ofNat cs.length)), (.ref x)]) (st := []) rfl rfl (lenOf pd15 rfl) rfl (Nat.le_of_eq rfl) (k' := 0) rfl (n' := 0) rfl (by decide) (by decide) rfl ?_
  intro r19 h20 Q20 O20
  obtain ⟨rfl, K20, V20⟩ := Q20
  refine Wk.aloadN (pc' := 34) C d_jdk_68m22_33 rfl rfl rfl ?_
  refine Wk.dup (pc' := 35) C d_jdk_68m22_34 rfl rfl ?_
  refine Wk.getF (pc' := 38) C d_jdk_68m22_35 (w81 hw) Via.refl (F3.keep K20 (ninS (Ne.symm nt) nin0)) rfl ?_
  refine Wk.iloadN (pc' := 39) C d_jdk_68m22_38 rfl rfl ?_
  refine Wk.iadd (pc' := 40) C d_jdk_68m22_39 hv14 rfl ?_
  have f21 : v14 = (Int32.ofNat (cs.length + ds.length)) := Wk.add32 (by omega) hv14
  rw [f21]
  refine Wk.putF (pc' := 43) C d_jdk_68m22_40 (w81 hw) Via.refl (F3.keep K20 (ninS (Ne.symm nt) nin0)) (E1.keep K20) (Or.inl (w82 hw)) (w40 hw) (ty := .int) (by decide) rfl rfl g1 rfl ?_
  intro h22 W22 O22
  have F23 := (F3.keep K20 (ninS (Ne.symm nt) nin0)).same W22
  refine Wk.aloadN (pc' := 44) C d_jdk_68m22_43 rfl rfl rfl ?_
  exact Wk.retA C rfl rfl d_jdk_68m22_44 (by decide) (by decide) ⟨rfl, (((Keep.refl _ _).trans K20 (allS (Or.inl (List.mem_of_getElem? (i := 1) rfl)) all0)).wr W22 (Or.inl (List.mem_of_getElem? (i := 0) rfl))), ((E1.keep K20).wr W22), ((F1.keep K20 (ninS (Ne.symm nt) nin0)).other W22 (Or.inr (slot_ne (Or.inl (w54 hw)) (Or.inl (w82 hw)) (by decide) (t := (.array .byte)) (t' := .int) (by decide) (by decide)))), ((F2.keep K20 (ninS (Ne.symm nt) nin0)).other W22 (Or.inr (slot_ne (Or.inl (w56 hw)) (Or.inl (w82 hw)) (by decide) (t := .byte) (t' := .int) (by decide) (by decide)))), by rw [List.length_append]; exact F23, (V20.other W22 nt)⟩
set_option maxRecDepth 65536 in
set_option maxHeartbeats 40000000 in
theorem own_append (l : Launch) {Z : State} {a0 : Array Value} (hw : Ws a0 Z) {h0 : Heap} (O0 : Ext Z.heap h0) (hs : Sets Z) (a1 t x : Addr) (cs ds : List Int32) (g1 : Z.heap.size ≤ a1) (gt : Z.heap.size ≤ t) (nt : t ≠ a1) (E1 : Exa Z h0 a1 "java/lang/StringBuilder") (F1 : Fld Z h0 a1 "java/lang/AbstractStringBuilder" "value" "[B" (.ref t)) (F2 : Fld Z h0 a1 "java/lang/AbstractStringBuilder" "coder" "B" (.int 0)) (F3 : Fld Z h0 a1 "java/lang/AbstractStringBuilder" "count" "I" (.int (Int32.ofNat cs.length))) (F4 : Wk.Ary Z h0 t .byte (sb16 cs)) (F : Str Z h0 x ds) (hl : cs.length + ds.length ≤ 16) :
    Wk.Con l Z (⟨"java/lang/StringBuilder", "append", "(Ljava/lang/String;)Ljava/lang/StringBuilder;"⟩ : MethodName) jdk_67_method_7_code 2 (some (.object "java/lang/StringBuilder")) ({ frames := 4, cells := 0, slots := 0, locals := 68 } : Room) #[(.ref a1), (.ref x)] h0 (fun v h' => v = some (.ref a1) ∧ Keep h0 h' [a1, t] ∧ Exa Z h' a1 "java/lang/StringBuilder" ∧ Fld Z h' a1 "java/lang/AbstractStringBuilder" "value" "[B" (.ref t) ∧ Fld Z h' a1 "java/lang/AbstractStringBuilder" "coder" "B" (.int 0) ∧ Fld Z h' a1 "java/lang/AbstractStringBuilder" "count" "I" (.int (Int32.ofNat (cs ++ ds).length)) ∧ Wk.Ary Z h' t .byte (sb16 (cs ++ ds))) := by
  refine Wk.Con.intro (plainFor_of_name pn5) O0 (fun m => ef23 m a1 x) ?_
  intro W C
  replace C : Wk.Cx Z W "java/lang/StringBuilder" "append" jdk_67_method_7_code 2 (some (.object "java/lang/StringBuilder")) := C
  refine Wk.aloadN (pc' := 1) C d_jdk_67m7_0 rfl rfl rfl ?_
  refine Wk.aloadN (pc' := 2) C d_jdk_67m7_1 rfl rfl rfl ?_
  refine Wk.callSup (pc' := 5) C d_jdk_67m7_2 (a := a1) (Wk.Con.pays C (Wn := 0) (own_aappend l hw O0 hs a1 t x cs ds g1 gt nt E1 F1 F2 F3 F4 F hl) (w69 hw) (w49 hw) (by decide) (by decide)) Wk.cleanC E1 (w65 hw) (Wk.sameOf (w66 hw) (w86 hw) rfl (by decide)) (w66 hw) (w67 hw) (w69 hw) (by decide) (argsL := [(.ref x)]) (st := []) rfl rfl (lenOf pd16 rfl) rfl (Nat.le_of_eq rfl) (k' := 0) rfl (n' := 0) rfl (by decide) (by decide) rfl ?_
  intro r11 h12 Q12 O12
  obtain ⟨rfl, K12, A12, U12, C12, N12, V12⟩ := Q12
  refine Wk.pop (pc' := 6) C d_jdk_67m7_5 rfl rfl ?_
  refine Wk.aloadN (pc' := 7) C d_jdk_67m7_6 rfl rfl rfl ?_
  exact Wk.retA C rfl rfl d_jdk_67m7_7 (by decide) (by decide) ⟨rfl, ((Keep.refl _ _).trans K12 (allS (Or.inl (List.mem_of_getElem? (i := 0) rfl)) (allS (Or.inl (List.mem_of_getElem? (i := 1) rfl)) all0))), A12, U12, C12, N12, V12⟩
set_option maxRecDepth 65536 in
set_option maxHeartbeats 40000000 in
theorem own_gv (l : Launch) {Z : State} {a0 : Array Value} (hw : Ws a0 Z) {h0 : Heap} (O0 : Ext Z.heap h0) (a1 t : Addr) (cs : List Int32) (g1 : Z.heap.size ≤ a1) (gt : Z.heap.size ≤ t) (nt : t ≠ a1) (E1 : Exa Z h0 a1 "java/lang/StringBuilder") (F1 : Fld Z h0 a1 "java/lang/AbstractStringBuilder" "value" "[B" (.ref t)) (F2 : Fld Z h0 a1 "java/lang/AbstractStringBuilder" "coder" "B" (.int 0)) (F3 : Fld Z h0 a1 "java/lang/AbstractStringBuilder" "count" "I" (.int (Int32.ofNat cs.length))) (F4 : Wk.Ary Z h0 t .byte (sb16 cs)) :
    Wk.Con l Z (⟨"java/lang/AbstractStringBuilder", "getValue", "()[B"⟩ : MethodName) jdk_68_method_64_code 1 (some (.array .byte)) ({ frames := 0, cells := 0, slots := 0, locals := 0 } : Room) #[(.ref a1)] h0 (fun v h' => v = some (.ref t) ∧ h' = h0) := by
  refine Wk.Con.intro (plainFor_of_name pn4) O0 (fun m => ef24 m a1) ?_
  intro W C
  replace C : Wk.Cx Z W "java/lang/AbstractStringBuilder" "getValue" jdk_68_method_64_code 1 (some (.array .byte)) := C
  refine Wk.aloadN (pc' := 1) C d_jdk_68m64_0 rfl rfl rfl ?_
  refine Wk.getF (pc' := 4) C d_jdk_68m64_1 (w53 hw) Via.refl F1 rfl ?_
  exact Wk.retA C rfl rfl d_jdk_68m64_4 (by decide) (by decide) ⟨rfl, rfl⟩
set_option maxRecDepth 65536 in
set_option maxHeartbeats 40000000 in
theorem own_alen (l : Launch) {Z : State} {a0 : Array Value} (hw : Ws a0 Z) {h0 : Heap} (O0 : Ext Z.heap h0) (a1 t : Addr) (cs : List Int32) (g1 : Z.heap.size ≤ a1) (gt : Z.heap.size ≤ t) (nt : t ≠ a1) (E1 : Exa Z h0 a1 "java/lang/StringBuilder") (F1 : Fld Z h0 a1 "java/lang/AbstractStringBuilder" "value" "[B" (.ref t)) (F2 : Fld Z h0 a1 "java/lang/AbstractStringBuilder" "coder" "B" (.int 0)) (F3 : Fld Z h0 a1 "java/lang/AbstractStringBuilder" "count" "I" (.int (Int32.ofNat cs.length))) (F4 : Wk.Ary Z h0 t .byte (sb16 cs)) :
    Wk.Con l Z (⟨"java/lang/AbstractStringBuilder", "length", "()I"⟩ : MethodName) jdk_68_method_6_code 1 (some .int) ({ frames := 0, cells := 0, slots := 0, locals := 0 } : Room) #[(.ref a1)] h0 (fun v h' => v = some (.int (Int32.ofNat cs.length)) ∧ h' = h0) := by
  refine Wk.Con.intro (plainFor_of_name pn4) O0 (fun m => ef25 m a1) ?_
  intro W C
  replace C : Wk.Cx Z W "java/lang/AbstractStringBuilder" "length" jdk_68_method_6_code 1 (some .int) := C
  refine Wk.aloadN (pc' := 1) C d_jdk_68m6_0 rfl rfl rfl ?_
  refine Wk.getF (pc' := 4) C d_jdk_68m6_1 (w81 hw) Via.refl F3 rfl ?_
  exact Wk.retI C d_jdk_68m6_4 (by decide) (by decide) ⟨rfl, rfl⟩
set_option maxRecDepth 65536 in
set_option maxHeartbeats 40000000 in
theorem own_slen (l : Launch) {Z : State} {a0 : Array Value} (hw : Ws a0 Z) {h0 : Heap} (O0 : Ext Z.heap h0) (a1 t : Addr) (cs : List Int32) (g1 : Z.heap.size ≤ a1) (gt : Z.heap.size ≤ t) (nt : t ≠ a1) (E1 : Exa Z h0 a1 "java/lang/StringBuilder") (F1 : Fld Z h0 a1 "java/lang/AbstractStringBuilder" "value" "[B" (.ref t)) (F2 : Fld Z h0 a1 "java/lang/AbstractStringBuilder" "coder" "B" (.int 0)) (F3 : Fld Z h0 a1 "java/lang/AbstractStringBuilder" "count" "I" (.int (Int32.ofNat cs.length))) (F4 : Wk.Ary Z h0 t .byte (sb16 cs)) :
    Wk.Con l Z (⟨"java/lang/StringBuilder", "length", "()I"⟩ : MethodName) jdk_67_method_93_code 1 (some .int) ({ frames := 1, cells := 0, slots := 0, locals := 12 } : Room) #[(.ref a1)] h0 (fun v h' => v = some (.int (Int32.ofNat cs.length)) ∧ h' = h0) := by
  refine Wk.Con.intro (plainFor_of_name pn5) O0 (fun m => ef26 m a1) ?_
  intro W C
  replace C : Wk.Cx Z W "java/lang/StringBuilder" "length" jdk_67_method_93_code 1 (some .int) := C
  refine Wk.aloadN (pc' := 1) C d_jdk_67m93_0 rfl rfl rfl ?_
  refine Wk.callSup (pc' := 4) C d_jdk_67m93_1 (a := a1) (Wk.Con.pays C (Wn := 0) (own_alen l hw O0  a1 t cs g1 gt nt E1 F1 F2 F3 F4) (w178 hw) (w49 hw) (by decide) (by decide)) Wk.cleanC E1 (w177 hw) (Wk.sameOf (w173 hw) (w86 hw) rfl (by decide)) (w173 hw) (w67 hw) (w178 hw) (by decide) (argsL := []) (st := []) rfl rfl (lenOf pd9 rfl) rfl (Nat.le_of_eq rfl) (k' := 0) rfl (n' := 0) rfl (by decide) (by decide) rfl ?_
  intro r11 h12 Q12 O12
  obtain ⟨rfl, e13⟩ := Q12
  obtain rfl := e13.symm
  exact Wk.retI C d_jdk_67m93_4 (by decide) (by decide) ⟨rfl, rfl⟩
set_option maxRecDepth 65536 in
set_option maxHeartbeats 40000000 in
theorem own_sbL1 (l : Launch) {Z : State} {a0 : Array Value} (hw : Ws a0 Z) {h0 : Heap} (O0 : Ext Z.heap h0) (hs : Sets Z) (a1 t : Addr) (cs : List Int32) (g1 : Z.heap.size ≤ a1) (gt : Z.heap.size ≤ t) (nt : t ≠ a1) (E1 : Exa Z h0 a1 "java/lang/StringBuilder") (F1 : Fld Z h0 a1 "java/lang/AbstractStringBuilder" "value" "[B" (.ref t)) (F2 : Fld Z h0 a1 "java/lang/AbstractStringBuilder" "coder" "B" (.int 0)) (F3 : Fld Z h0 a1 "java/lang/AbstractStringBuilder" "count" "I" (.int (Int32.ofNat cs.length))) (F4 : Wk.Ary Z h0 t .byte (sb16 cs)) :
    Wk.Con l Z (⟨"java/lang/AbstractStringBuilder", "isLatin1", "()Z"⟩ : MethodName) jdk_68_method_68_code 1 (some .boolean) ({ frames := 0, cells := 0, slots := 0, locals := 0 } : Room) #[(.ref a1)] h0 (fun v h' => v = some (.int 1) ∧ h' = h0) := by
  refine Wk.Con.intro (plainFor_of_name pn4) O0 (fun m => ef27 m a1) ?_
  intro W C
  replace C : Wk.Cx Z W "java/lang/AbstractStringBuilder" "isLatin1" jdk_68_method_68_code 1 (some .boolean) := C
  obtain ⟨zc, fm, SC, hzc, -, -⟩ := hs
  refine Wk.getS (pc' := 3) C d_jdk_68m68_0 (w52 hw) Via.refl (SC.ext O0) rfl ?_
  refine Wk.if_eq C d_jdk_68m68_3 (by decide) (pcT := 17) (by decide) (pc' := 6) rfl (fun q => absurd q hzc) (fun q11 => ?_)
  refine Wk.aloadN (pc' := 7) C d_jdk_68m68_6 rfl rfl rfl ?_
  refine Wk.getF (pc' := 10) C d_jdk_68m68_7 (w55 hw) Via.refl F2 rfl ?_
  refine Wk.if_ne C d_jdk_68m68_10 (by decide) (pcT := 17) (by decide) (pc' := 13) rfl (fun q => absurd q (by decide)) (fun q12 => ?_)
  refine Wk.iconst (pc' := 14) C d_jdk_68m68_13 (v := (1 : Int32)) rfl rfl ?_
  refine Wk.goto C d_jdk_68m68_14 (by decide) (pc' := 18) (by decide) ?_
  exact Wk.retNar (ty := .boolean) C (by simp) d_jdk_68m68_18 rfl (by decide) (by decide) ⟨rfl, rfl⟩
set_option maxRecDepth 65536 in
set_option maxHeartbeats 40000000 in
theorem own_strSB2 (l : Launch) {Z : State} {a0 : Array Value} (hw : Ws a0 Z) {h0 : Heap} (O0 : Ext Z.heap h0) (hs : Sets Z) (a1 t x0 : Addr) (cs : List Int32) (g1 : Z.heap.size ≤ a1) (gt : Z.heap.size ≤ t) (nt : t ≠ a1) (E1 : Exa Z h0 a1 "java/lang/StringBuilder") (F1 : Fld Z h0 a1 "java/lang/AbstractStringBuilder" "value" "[B" (.ref t)) (F2 : Fld Z h0 a1 "java/lang/AbstractStringBuilder" "coder" "B" (.int 0)) (F3 : Fld Z h0 a1 "java/lang/AbstractStringBuilder" "count" "I" (.int (Int32.ofNat cs.length))) (F4 : Wk.Ary Z h0 t .byte (sb16 cs)) (g0 : Z.heap.size ≤ x0) (E0 : Exa Z h0 x0 "java/lang/String") (G1 : Fld Z h0 x0 "java/lang/String" "value" "[B" .null) (G2 : Fld Z h0 x0 "java/lang/String" "coder" "B" (.int (0 : Int32))) (n0 : x0 ≠ a1) (n1 : x0 ≠ t) (hp : ∀ c ∈ cs, ¬ c < 0 ∧ ¬ (255 : Int32) < c) (hl : cs.length < 16) :
    Wk.Con l Z (⟨"java/lang/String", "<init>", "(Ljava/lang/AbstractStringBuilder;Ljava/lang/Void;)V"⟩ : MethodName) jdk_42_method_150_code 5 none ({ frames := 3, cells := 1, slots := 16, locals := 56 } : Room) #[(.ref x0), (.ref a1), .null] h0 (fun v h' => v = none ∧ Keep h0 h' [x0] ∧ Str Z h' x0 cs) := by
  refine Wk.Con.intro (plainFor_of_name pn0) O0 (fun m => ef28 m x0 a1) ?_
  intro W C
  replace C : Wk.Cx Z W "java/lang/String" "<init>" jdk_42_method_150_code 5 none := C
  refine Wk.aloadN (pc' := 1) C d_jdk_42m150_0 rfl rfl rfl ?_
  refine Wk.initO (pc' := 4) C d_jdk_42m150_1 (Wn := 0) (w32 hw) (w33 hw) (w34 hw) rfl (by decide) (Nat.le_of_eq rfl) (by decide) rfl ?_
  refine Wk.aloadN (pc' := 5) C d_jdk_42m150_4 rfl rfl rfl ?_
  refine Wk.callV (pc' := 8) C d_jdk_42m150_5 (a := a1) (Wk.Con.pays C (Wn := 0) (own_gv l hw O0  a1 t cs g1 gt nt E1 F1 F2 F3 F4) (w170 hw) (w49 hw) (by decide) (by decide)) Wk.cleanC E1 (w166 hw) (w167 hw) (notFace_of_selects (args := #[]) (mvT C.hZ (w169 hw))) (w169 hw) (w168 hw) (by decide) (argsL := []) (st := []) rfl rfl (lenOf pd17 rfl) rfl (Nat.le_of_eq rfl) (k' := 0) rfl (n' := 0) rfl (by decide) (by decide) rfl ?_
  intro r11 h12 Q12 O12
  obtain ⟨rfl, e13⟩ := Q12
  obtain rfl := e13.symm
  refine Wk.astoreN (pc' := 9) C d_jdk_42m150_8 rfl (Ls' := #[.val (.ref x0), .val (.ref a1), .val .null, .val (.ref t), .unset]) rfl rfl ?_
  refine Wk.aloadN (pc' := 10) C d_jdk_42m150_9 rfl rfl rfl ?_
  refine Wk.callV (pc' := 13) C d_jdk_42m150_10 (a := a1) (Wk.Con.pays C (Wn := 0) (own_slen l hw O0  a1 t cs g1 gt nt E1 F1 F2 F3 F4) (w176 hw) (w41 hw) (by decide) (by decide)) Wk.cleanC E1 (w171 hw) (w172 hw) (Wk.nfOf (args := #[]) (mvT C.hZ (w86 hw)) rfl) (w174 hw) (w175 hw) (by decide) (argsL := []) (st := []) rfl rfl (lenOf pd9 rfl) rfl (Nat.le_of_eq rfl) (k' := 0) rfl (n' := 0) rfl (by decide) (by decide) rfl ?_
  intro r14 h15 Q15 O15
  obtain ⟨rfl, e16⟩ := Q15
  obtain rfl := e16.symm
  refine Wk.istore (pc' := 15) C d_jdk_42m150_13 (Ls' := #[.val (.ref x0), .val (.ref a1), .val .null, .val (.ref t), .val (.int (Int32.ofNat cs.length))]) rfl rfl ?_
  refine Wk.aloadN (pc' := 16) C d_jdk_42m150_15 rfl rfl rfl ?_
  refine Wk.callV (pc' := 19) C d_jdk_42m150_16 (a := a1) (Wk.Con.pays C (Wn := 0) (own_sbL1 l hw O0 hs a1 t cs g1 gt nt E1 F1 F2 F3 F4) (w183 hw) (w49 hw) (by decide) (by decide)) Wk.cleanC E1 (w179 hw) (w180 hw) (notFace_of_selects (args := #[]) (mvT C.hZ (w182 hw))) (w182 hw) (w181 hw) (by decide) (argsL := []) (st := []) rfl rfl (lenOf pd3 rfl) rfl (Nat.le_of_eq rfl) (k' := 0) rfl (n' := 0) rfl (by decide) (by decide) rfl ?_
  intro r17 h18 Q18 O18
  obtain ⟨rfl, e19⟩ := Q18
  obtain rfl := e19.symm
  refine Wk.if_eq C d_jdk_42m150_19 (by decide) (pcT := 41) (by decide) (pc' := 22) rfl (fun q => absurd q (by decide)) (fun q20 => ?_)
  refine Wk.aloadN (pc' := 23) C d_jdk_42m150_22 rfl rfl rfl ?_
  refine Wk.iconst (pc' := 24) C d_jdk_42m150_23 (v := (0 : Int32)) rfl rfl ?_
  refine Wk.putF (pc' := 27) C d_jdk_42m150_24 (w37 hw) Via.refl G2 E0 (Or.inr ⟨(w38 hw), rfl, rfl⟩) (w27 hw) (ty := .byte) (by decide) (by decide) (by decide) g0 rfl ?_
  intro h21 W21 O21
  have F22 := G2.same W21
  refine Wk.aloadN (pc' := 28) C d_jdk_42m150_27 rfl rfl rfl ?_
  refine Wk.aloadN (pc' := 29) C d_jdk_42m150_28 rfl rfl rfl ?_
  refine Wk.iconst (pc' := 30) C d_jdk_42m150_29 (v := (0 : Int32)) rfl rfl ?_
  refine Wk.iload (pc' := 32) C d_jdk_42m150_30 rfl rfl ?_
  refine Wk.callS (pc' := 35) C d_jdk_42m150_32 (Wk.Con.pays C (Wn := 1) (own_cor l hw O21 t (sb16 cs) 0 cs.length (F4.other W21 (Ne.symm n1)) (by rw [sb16_len (by omega)]; omega) (by omega) (by rw [sb16_len (by omega)]; omega) (by rw [sb16_len (by omega)]; omega)) (w142 hw) (w141 hw) (by decide) (by decide)) Wk.cleanC (w184 hw) (w140 hw) (w141 hw) (w142 hw) (by decide) (argsL := [(.ref t), (.int (0 : Int32)), (.int (Int32.ofNat cs.length))]) (st := [(.ref x0)]) rfl rfl (lenOf pd6 rfl) rfl (Nat.le_of_eq rfl) (k' := 1) rfl (n' := 16) rfl (by decide) (by decide) rfl ?_
  intro r23 h24 Q24 O24
  obtain ⟨b25, rfl, gb25, E24, V24⟩ := Q24
  refine Wk.putF (pc' := 38) C d_jdk_42m150_35 (w35 hw) Via.refl ((G1.other W21 (Or.inr (slot_ne (Or.inr (w36 hw)) (Or.inr (w38 hw)) (by decide) (t := (.array .byte)) (t' := .byte) (by decide) (by decide)))).ext E24) ((E0.wr W21).ext E24) (Or.inr ⟨(w36 hw), rfl, rfl⟩) (w27 hw) (ty := (.array .byte)) (by decide) rfl rfl g0 rfl ?_
  intro h26 W26 O26
  have F27 := ((G1.other W21 (Or.inr (slot_ne (Or.inr (w36 hw)) (Or.inr (w38 hw)) (by decide) (t := (.array .byte)) (t' := .byte) (by decide) (by decide)))).ext E24).same W26
  refine Wk.goto C d_jdk_42m150_38 (by decide) (pc' := 97) (by decide) ?_
  exact Wk.retV C d_jdk_42m150_97 (by decide) (by decide) ⟨rfl, ((((Keep.refl _ _).wr W21 (Or.inl (List.mem_singleton.mpr rfl))).ext E24).wr W26 (Or.inl (List.mem_singleton.mpr rfl))), (((E0.wr W21).ext E24).wr W26), ((F22.ext E24).other W26 (Or.inr (slot_ne (Or.inr (w38 hw)) (Or.inr (w36 hw)) (by decide) (t := .byte) (t' := (.array .byte)) (by decide) (by decide)))), ⟨_, F27, by rw [← sb16_take]; exact (V24.other W26 (Ne.symm (Nat.ne_of_lt (Nat.lt_of_lt_of_le (E0.wr W21).lt (Nat.le_of_eq gb25.symm)))))⟩, hp, by omega⟩
set_option maxRecDepth 65536 in
set_option maxHeartbeats 40000000 in
theorem own_strSB1 (l : Launch) {Z : State} {a0 : Array Value} (hw : Ws a0 Z) {h0 : Heap} (O0 : Ext Z.heap h0) (hs : Sets Z) (a1 t x0 : Addr) (cs : List Int32) (g1 : Z.heap.size ≤ a1) (gt : Z.heap.size ≤ t) (nt : t ≠ a1) (E1 : Exa Z h0 a1 "java/lang/StringBuilder") (F1 : Fld Z h0 a1 "java/lang/AbstractStringBuilder" "value" "[B" (.ref t)) (F2 : Fld Z h0 a1 "java/lang/AbstractStringBuilder" "coder" "B" (.int 0)) (F3 : Fld Z h0 a1 "java/lang/AbstractStringBuilder" "count" "I" (.int (Int32.ofNat cs.length))) (F4 : Wk.Ary Z h0 t .byte (sb16 cs)) (g0 : Z.heap.size ≤ x0) (E0 : Exa Z h0 x0 "java/lang/String") (G1 : Fld Z h0 x0 "java/lang/String" "value" "[B" .null) (G2 : Fld Z h0 x0 "java/lang/String" "coder" "B" (.int (0 : Int32))) (n0 : x0 ≠ a1) (n1 : x0 ≠ t) (hp : ∀ c ∈ cs, ¬ c < 0 ∧ ¬ (255 : Int32) < c) (hl : cs.length < 16) :
    Wk.Con l Z (⟨"java/lang/String", "<init>", "(Ljava/lang/StringBuilder;)V"⟩ : MethodName) jdk_42_method_53_code 2 none ({ frames := 4, cells := 1, slots := 16, locals := 73 } : Room) #[(.ref x0), (.ref a1)] h0 (fun v h' => v = none ∧ Keep h0 h' [x0] ∧ Str Z h' x0 cs) := by
  refine Wk.Con.intro (plainFor_of_name pn0) O0 (fun m => ef29 m x0 a1) ?_
  intro W C
  replace C : Wk.Cx Z W "java/lang/String" "<init>" jdk_42_method_53_code 2 none := C
  refine Wk.aloadN (pc' := 1) C d_jdk_42m53_0 rfl rfl rfl ?_
  refine Wk.aloadN (pc' := 2) C d_jdk_42m53_1 rfl rfl rfl ?_
  refine Wk.aconstNull (pc' := 3) C d_jdk_42m53_2 rfl ?_
  refine Wk.callI (pc' := 6) C d_jdk_42m53_3 (a := x0) (Wk.Con.pays C (Wn := 0) (own_strSB2 l hw O0 hs a1 t x0 cs g1 gt nt E1 F1 F2 F3 F4 g0 E0 G1 G2 n0 n1 hp hl) (w165 hw) (w20 hw) (by decide) (by decide)) Wk.cleanC rfl (w163 hw) (w164 hw) (w165 hw) (by decide) (argsL := [(.ref a1), .null]) (st := []) rfl rfl (lenOf pd18 rfl) rfl (Nat.le_of_eq rfl) (k' := 1) rfl (n' := 16) rfl (by decide) (by decide) rfl ?_
  intro r11 h12 Q12 O12
  obtain ⟨rfl, K12, S12⟩ := Q12
  exact Wk.retV C d_jdk_42m53_6 (by decide) (by decide) ⟨rfl, ((Keep.refl _ _).trans K12 (allS (Or.inl (List.mem_singleton.mpr rfl)) all0)), S12⟩
set_option maxRecDepth 65536 in
set_option maxHeartbeats 40000000 in
theorem own_toStr (l : Launch) {Z : State} {a0 : Array Value} (hw : Ws a0 Z) {h0 : Heap} (O0 : Ext Z.heap h0) (hs : Sets Z) (a1 t : Addr) (cs : List Int32) (g1 : Z.heap.size ≤ a1) (gt : Z.heap.size ≤ t) (nt : t ≠ a1) (E1 : Exa Z h0 a1 "java/lang/StringBuilder") (F1 : Fld Z h0 a1 "java/lang/AbstractStringBuilder" "value" "[B" (.ref t)) (F2 : Fld Z h0 a1 "java/lang/AbstractStringBuilder" "coder" "B" (.int 0)) (F3 : Fld Z h0 a1 "java/lang/AbstractStringBuilder" "count" "I" (.int (Int32.ofNat cs.length))) (F4 : Wk.Ary Z h0 t .byte (sb16 cs)) (hp : ∀ c ∈ cs, ¬ c < 0 ∧ ¬ (255 : Int32) < c) (hl : cs.length < 16) :
    Wk.Con l Z (⟨"java/lang/StringBuilder", "toString", "()Ljava/lang/String;"⟩ : MethodName) jdk_67_method_42_code 1 (some (.object "java/lang/String")) ({ frames := 5, cells := 2, slots := 20, locals := 88 } : Room) #[(.ref a1)] h0 (fun v h' => ∃ x' : Addr, v = some (.ref x') ∧ x' = h0.size ∧ Ext h0 h' ∧ Str Z h' x' cs) := by
  refine Wk.Con.intro (plainFor_of_name pn5) O0 (fun m => ef30 m a1) ?_
  intro W C
  replace C : Wk.Cx Z W "java/lang/StringBuilder" "toString" jdk_67_method_42_code 1 (some (.object "java/lang/String")) := C
  refine Wk.newO (pc' := 3) C d_jdk_67m42_0 (w159 hw) (w27 hw) (w20 hw) (k' := 1) rfl (n' := 4) rfl (by decide) (by decide) rfl ?_
  intro a11 h12 ga11 za11 E12 Aa11 Da11 Ua11 O12
  have F13 : Fld Z h12 a11 "java/lang/String" "value" "[B" .null := Da11 (Or.inr (w36 hw)) (ty := (.array .byte)) (by decide)
  have F14 : Fld Z h12 a11 "java/lang/String" "coder" "B" (.int (0 : Int32)) := Da11 (Or.inr (w38 hw)) (ty := .byte) (by decide)
  refine Wk.dup (pc' := 4) C d_jdk_67m42_3 rfl rfl ?_
  refine Wk.aloadN (pc' := 5) C d_jdk_67m42_4 rfl rfl rfl ?_
  refine Wk.callI (pc' := 8) C d_jdk_67m42_5 (a := a11) (Wk.Con.pays C (Wn := 1) (own_strSB1 l hw O12 hs a1 t a11 cs g1 gt nt (E1.ext E12) (F1.ext E12) (F2.ext E12) (F3.ext E12) (F4.ext E12) za11 Aa11 F13 F14 (Ne.symm (Nat.ne_of_lt (Nat.lt_of_lt_of_le E1.lt (Nat.le_of_eq ga11.symm)))) (Ne.symm (Nat.ne_of_lt (Nat.lt_of_lt_of_le F4.lt (Nat.le_of_eq ga11.symm)))) hp hl) (w162 hw) (w20 hw) (by decide) (by decide)) Wk.cleanC rfl (w160 hw) (w161 hw) (w162 hw) (by decide) (argsL := [(.ref a1)]) (st := [(.ref a11)]) rfl rfl (lenOf pd19 rfl) rfl (Nat.le_of_eq rfl) (k' := 2) rfl (n' := 20) rfl (by decide) (by decide) rfl ?_
  intro r15 h16 Q16 O16
  obtain ⟨rfl, K16, S16⟩ := Q16
  have X17 : Ext h0 h16 := Wk.Ext.keep1 (Z := Z) E12 K16 (Nat.le_of_eq ga11.symm)
  exact Wk.retA C rfl rfl d_jdk_67m42_8 (by decide) (by decide) ⟨_, rfl, ga11, X17, S16⟩
def digL : List Int32 := [48, 49, 50, 51, 52, 53, 54, 55, 56, 57, 97, 98, 99, 100, 101, 102, 103, 104, 105, 106, 107, 108, 109, 110, 111, 112, 113, 114, 115, 116, 117, 118, 119, 120, 121, 122]
theorem own_digLen : digL.length = 36 := rfl
def hexc (d : Nat) : Int32 := digL.getD d 0
theorem own_hexr : ∀ d, d < 16 → ¬ hexc d < 0 ∧ ¬ (255 : Int32) < hexc d := by decide +kernel
theorem own_hx : ∀ d, d < 16 → (Int32.ofNat d < 10 → ((48 : Int32) + Int32.ofNat d).toUInt32.toUInt16.toUInt32.toInt32 = hexc d) ∧ (¬ Int32.ofNat d < 10 → ((97 : Int32) + (Int32.ofNat d - 10)).toUInt32.toUInt16.toUInt32.toInt32 = hexc d) := by decide +kernel
theorem own_n16 {n : Nat} (h : n < 65536) : (Int32.ofNat n).toInt = n ∧ (Int32.ofNat n).toNatClampNeg = n := ⟨Int32.toInt_ofNat_of_lt (by omega), Int32.toNatClampNeg_ofNat_of_lt (by omega)⟩
theorem own_ushr {n k d : Nat} {q v : Int32} (h : n < 65536) (hk : q.toBitVec.toNat % 32 = k) (h0 : 0 < k) (hd : 2 ^ k = d) (hv : ((Int32.ofNat n).toUInt32 >>> (q &&& 31).toUInt32).toInt32 = v) : v = Int32.ofNat (n / d) := by
  have a := c_iushr (Int32.ofNat n) q k hk h0
  rw [hv, (own_n16 h).1, hd] at a
  have b : n / d ≤ n := Nat.div_le_self n d
  refine Wk.eqI ?_
  rw [a, (own_n16 (n := n / d) (by omega)).1]
  rw [Int.emod_eq_of_lt (by omega) (by omega)]
  omega
theorem own_shr {n k d : Nat} {q v : Int32} (h : n < 65536) (hk : q.toBitVec.toNat % 32 = k) (hd : 2 ^ k = d) (hv : Int32.ofNat n >>> (q &&& 31) = v) : v = Int32.ofNat (n / d) := by
  have a := c_ishr (Int32.ofNat n) q k hk
  rw [hv, (own_n16 h).1, hd] at a
  have b : n / d ≤ n := Nat.div_le_self n d
  refine Wk.eqI ?_
  rw [a, (own_n16 (n := n / d) (by omega)).1]
  omega
theorem own_and {n k d : Nat} {m v : Int32} (h : n < 65536) (hk : k ≤ 31) (hm : m.toBitVec.toNat = 2 ^ k - 1) (hd : 2 ^ k = d) (hv : Int32.ofNat n &&& m = v) : v = Int32.ofNat (n % d) := by
  have a := c_mask (Int32.ofNat n) m k hk hm
  rw [hv, (own_n16 h).1, hd] at a
  have b : n % d ≤ n := Nat.mod_le n d
  refine Wk.eqI ?_
  rw [a, (own_n16 (n := n % d) (by omega)).1]
  omega
def nlzP (n : Nat) (z : Int) : Prop := (n < 16 → 28 ≤ z ∧ z ≤ 32) ∧ (16 ≤ n → n < 256 → 24 ≤ z ∧ z ≤ 27) ∧ (256 ≤ n → n < 4096 → 20 ≤ z ∧ z ≤ 23) ∧ (4096 ≤ n → 16 ≤ z ∧ z ≤ 19)
def hexL (n : Nat) : List Int32 := if n < 16 then [hexc (n % 16)] else if n < 256 then [hexc (n / 16 % 16), hexc (n % 16)] else if n < 4096 then [hexc (n / 16 / 16 % 16), hexc (n / 16 % 16), hexc (n % 16)] else [hexc (n / 16 / 16 / 16 % 16), hexc (n / 16 / 16 % 16), hexc (n / 16 % 16), hexc (n % 16)]
theorem own_hexLen (n : Nat) : 1 ≤ (hexL n).length ∧ (hexL n).length ≤ 4 := by unfold hexL; (repeat' split) <;> simp
theorem own_hexIn (n : Nat) : ∀ c ∈ hexL n, ¬ c < 0 ∧ ¬ (255 : Int32) < c := by
  have q : ∀ m, ¬ hexc (m % 16) < 0 ∧ ¬ (255 : Int32) < hexc (m % 16) := fun m => own_hexr _ (Nat.mod_lt _ (by decide))
  unfold hexL
  intro c hc
  (repeat' split at hc) <;> simp only [List.mem_cons, List.not_mem_nil, or_false] at hc
  · subst hc; exact q _
  · rcases hc with rfl | rfl <;> exact q _
  · rcases hc with rfl | rfl | rfl <;> exact q _
  · rcases hc with rfl | rfl | rfl | rfl <;> exact q _
theorem own_esc (n : Nat) (h : n < 65536) : ((([] ++ [92, 117]) ++ (([48, 48, 48, 48] : List Int32).drop (hexL n).length).take (4 - (hexL n).length)) ++ hexL n) = [92, 117, hexc (n / 4096 % 16), hexc (n / 256 % 16), hexc (n / 16 % 16), hexc (n % 16)] := by
  have z : hexc 0 = 48 := rfl
  have e1 : n / 16 / 16 = n / 256 := by omega
  have e2 : n / 16 / 16 / 16 = n / 4096 := by omega
  unfold hexL
  by_cases k1 : n < 16
  · rw [if_pos k1, show n / 4096 = 0 by omega, show n / 256 = 0 by omega, show n / 16 = 0 by omega]; simp [z]
  · by_cases k2 : n < 256
    · rw [if_neg k1, if_pos k2, show n / 4096 = 0 by omega, show n / 256 = 0 by omega]; simp [z]
    · by_cases k3 : n < 4096
      · rw [if_neg k1, if_neg k2, if_pos k3, e1, show n / 4096 = 0 by omega]; simp [z]
      · rw [if_neg k1, if_neg k2, if_neg k3, e2, e1]; simp
set_option maxRecDepth 65536 in
set_option maxHeartbeats 40000000 in
theorem own_nlz (l : Launch) {Z : State} {a0 : Array Value} (hw : Ws a0 Z) {h0 : Heap} (O0 : Ext Z.heap h0) (n : Nat) (hn : n < 65536) :
    Wk.Con l Z (⟨"java/lang/Integer", "numberOfLeadingZeros", "(I)I"⟩ : MethodName) jdk_33_method_47_code 2 (some .int) ({ frames := 0, cells := 0, slots := 0, locals := 0 } : Room) #[(.int (Int32.ofNat n))] h0 (fun v h' => ∃ z : Int32, v = some (.int z) ∧ nlzP n z.toInt ∧ h' = h0) := by
  refine Wk.Con.intro (plainFor_of_name pn6) O0 (fun m => ef31 m (Int32.ofNat n)) ?_
  intro W C
  replace C : Wk.Cx Z W "java/lang/Integer" "numberOfLeadingZeros" jdk_33_method_47_code 2 (some .int) := C
  refine Wk.iloadN (pc' := 1) C d_jdk_33m47_0 rfl rfl ?_
  refine Wk.if_gt C d_jdk_33m47_1 (by decide) (pcT := 15) (by decide) (pc' := 4) rfl (fun q11 => ?_) (fun q11 => ?_)
  · -- pc 1: taken
    refine Wk.bipush (pc' := 17) C d_jdk_33m47_15 (v := (31 : Int32)) rfl rfl ?_
    refine Wk.istoreN (pc' := 18) C d_jdk_33m47_17 (Ls' := #[.val (.int (Int32.ofNat n)), .val (.int (31 : Int32))]) rfl rfl ?_
    refine Wk.iloadN (pc' := 19) C d_jdk_33m47_18 rfl rfl ?_
    refine Wk.ldcWI (pc' := 22) C d_jdk_33m47_19 (w204 hw) rfl ?_
    have h65 : Int32.ofNat n < (65536 : Int32) := by
      have c : (65536 : Int32).toInt = 65536 := by decide
      rw [Wk.ltI, (own_n16 hn).1, c]; omega
    refine Wk.icmp_lt C d_jdk_33m47_22 (by decide) (pcT := 33) (by decide) (pc' := 25) rfl (fun q12 => ?_) (fun q => absurd h65 q)
    refine Wk.iloadN (pc' := 34) C d_jdk_33m47_33 rfl rfl ?_
    refine Wk.sipush (pc' := 37) C d_jdk_33m47_34 (v := (256 : Int32)) rfl rfl ?_
    refine Wk.icmp_lt C d_jdk_33m47_37 (by decide) (pcT := 48) (by decide) (pc' := 40) rfl (fun q13 => ?_) (fun q13 => ?_)
    · -- pc 37: taken
      refine Wk.iloadN (pc' := 49) C d_jdk_33m47_48 rfl rfl ?_
      refine Wk.bipush (pc' := 51) C d_jdk_33m47_49 (v := (16 : Int32)) rfl rfl ?_
      refine Wk.icmp_lt C d_jdk_33m47_51 (by decide) (pcT := 61) (by decide) (pc' := 54) rfl (fun q14 => ?_) (fun q14 => ?_)
      · -- pc 51: taken
        refine Wk.iloadN (pc' := 62) C d_jdk_33m47_61 rfl rfl ?_
        refine Wk.iconst (pc' := 63) C d_jdk_33m47_62 (v := (4 : Int32)) rfl rfl ?_
        refine Wk.icmp_lt C d_jdk_33m47_63 (by decide) (pcT := 73) (by decide) (pc' := 66) rfl (fun q15 => ?_) (fun q15 => ?_)
        · -- pc 63: taken
          refine Wk.iloadN (pc' := 74) C d_jdk_33m47_73 rfl rfl ?_
          refine Wk.iloadN (pc' := 75) C d_jdk_33m47_74 rfl rfl ?_
          refine Wk.iconst (pc' := 76) C d_jdk_33m47_75 (v := (1 : Int32)) rfl rfl ?_
          obtain ⟨v16, hv16⟩ : ∃ z : Int32, ((Int32.ofNat n).toUInt32 >>> ((1 : Int32) &&& 31).toUInt32).toInt32 = z := ⟨_, rfl⟩
          refine Wk.iushr (pc' := 77) C d_jdk_33m47_76 hv16 rfl ?_
          have f17 : v16 = (Int32.ofNat (n / 2)) := own_ushr (k := 1) (d := 2) (by omega) (by decide) (by decide) (by decide) hv16
          rw [f17]
          obtain ⟨v18, hv18⟩ : ∃ z : Int32, (31 : Int32) - (Int32.ofNat (n / 2)) = z := ⟨_, rfl⟩
          refine Wk.isub (pc' := 78) C d_jdk_33m47_77 hv18 rfl ?_
          have hz : nlzP n v18.toInt := by
            have c0 : (0 : Int32).toInt = 0 := by decide
            have c4 : (4 : Int32).toInt = 4 := by decide
            have c16 : (16 : Int32).toInt = 16 := by decide
            have c256 : (256 : Int32).toInt = 256 := by decide
            have ck : (31 : Int32).toInt = 31 := by decide
            have sv := Wk.subI hv18
            have rv := rng32 v18
            rw [ck, (own_n16 (n := (n / 2)) (by omega)).1] at sv
            have b37 := q13
            rw [Wk.ltI, (own_n16 (n := n) (by omega)).1, c256] at b37
            have b51 := q14
            rw [Wk.ltI, (own_n16 (n := n) (by omega)).1, c16] at b51
            have b63 := q15
            rw [Wk.ltI, (own_n16 (n := n) (by omega)).1, c4] at b63
            have b1 := q11
            rw [Wk.ltI, (own_n16 hn).1, c0] at b1
            refine ⟨fun _ => ?_, fun _ _ => ?_, fun _ _ => ?_, fun _ => ?_⟩ <;> omega
          exact Wk.retI C d_jdk_33m47_78 (by decide) (by decide) ⟨_, rfl, hz, rfl⟩
        · -- pc 63: not taken
          refine Wk.iinc (pc' := 69) C d_jdk_33m47_66 rfl (v := (29 : Int32)) (by decide) (Ls' := #[.val (.int (Int32.ofNat n)), .val (.int (29 : Int32))]) rfl rfl ?_
          refine Wk.iloadN (pc' := 70) C d_jdk_33m47_69 rfl rfl ?_
          refine Wk.iconst (pc' := 71) C d_jdk_33m47_70 (v := (2 : Int32)) rfl rfl ?_
          obtain ⟨v19, hv19⟩ : ∃ z : Int32, ((Int32.ofNat n).toUInt32 >>> ((2 : Int32) &&& 31).toUInt32).toInt32 = z := ⟨_, rfl⟩
          refine Wk.iushr (pc' := 72) C d_jdk_33m47_71 hv19 rfl ?_
          have f20 : v19 = (Int32.ofNat (n / 4)) := own_ushr (k := 2) (d := 4) (by omega) (by decide) (by decide) (by decide) hv19
          rw [f20]
          refine Wk.istoreN (pc' := 73) C d_jdk_33m47_72 (Ls' := #[.val (.int (Int32.ofNat (n / 4))), .val (.int (29 : Int32))]) rfl rfl ?_
          refine Wk.iloadN (pc' := 74) C d_jdk_33m47_73 rfl rfl ?_
          refine Wk.iloadN (pc' := 75) C d_jdk_33m47_74 rfl rfl ?_
          refine Wk.iconst (pc' := 76) C d_jdk_33m47_75 (v := (1 : Int32)) rfl rfl ?_
          obtain ⟨v21, hv21⟩ : ∃ z : Int32, ((Int32.ofNat (n / 4)).toUInt32 >>> ((1 : Int32) &&& 31).toUInt32).toInt32 = z := ⟨_, rfl⟩
          refine Wk.iushr (pc' := 77) C d_jdk_33m47_76 hv21 rfl ?_
          have f22 : v21 = (Int32.ofNat ((n / 4) / 2)) := own_ushr (k := 1) (d := 2) (by omega) (by decide) (by decide) (by decide) hv21
          rw [f22]
          obtain ⟨v23, hv23⟩ : ∃ z : Int32, (29 : Int32) - (Int32.ofNat ((n / 4) / 2)) = z := ⟨_, rfl⟩
          refine Wk.isub (pc' := 78) C d_jdk_33m47_77 hv23 rfl ?_
          have hz : nlzP n v23.toInt := by
            have c0 : (0 : Int32).toInt = 0 := by decide
            have c4 : (4 : Int32).toInt = 4 := by decide
            have c16 : (16 : Int32).toInt = 16 := by decide
            have c256 : (256 : Int32).toInt = 256 := by decide
            have ck : (29 : Int32).toInt = 29 := by decide
            have sv := Wk.subI hv23
            have rv := rng32 v23
            rw [ck, (own_n16 (n := ((n / 4) / 2)) (by omega)).1] at sv
            have b37 := q13
            rw [Wk.ltI, (own_n16 (n := n) (by omega)).1, c256] at b37
            have b51 := q14
            rw [Wk.ltI, (own_n16 (n := n) (by omega)).1, c16] at b51
            have b63 := q15
            rw [Wk.ltI, (own_n16 (n := n) (by omega)).1, c4] at b63
            have b1 := q11
            rw [Wk.ltI, (own_n16 hn).1, c0] at b1
            refine ⟨fun _ => ?_, fun _ _ => ?_, fun _ _ => ?_, fun _ => ?_⟩ <;> omega
          exact Wk.retI C d_jdk_33m47_78 (by decide) (by decide) ⟨_, rfl, hz, rfl⟩
      · -- pc 51: not taken
        refine Wk.iinc (pc' := 57) C d_jdk_33m47_54 rfl (v := (27 : Int32)) (by decide) (Ls' := #[.val (.int (Int32.ofNat n)), .val (.int (27 : Int32))]) rfl rfl ?_
        refine Wk.iloadN (pc' := 58) C d_jdk_33m47_57 rfl rfl ?_
        refine Wk.iconst (pc' := 59) C d_jdk_33m47_58 (v := (4 : Int32)) rfl rfl ?_
        obtain ⟨v24, hv24⟩ : ∃ z : Int32, ((Int32.ofNat n).toUInt32 >>> ((4 : Int32) &&& 31).toUInt32).toInt32 = z := ⟨_, rfl⟩
        refine Wk.iushr (pc' := 60) C d_jdk_33m47_59 hv24 rfl ?_
        have f25 : v24 = (Int32.ofNat (n / 16)) := own_ushr (k := 4) (d := 16) (by omega) (by decide) (by decide) (by decide) hv24
        rw [f25]
        refine Wk.istoreN (pc' := 61) C d_jdk_33m47_60 (Ls' := #[.val (.int (Int32.ofNat (n / 16))), .val (.int (27 : Int32))]) rfl rfl ?_
        refine Wk.iloadN (pc' := 62) C d_jdk_33m47_61 rfl rfl ?_
        refine Wk.iconst (pc' := 63) C d_jdk_33m47_62 (v := (4 : Int32)) rfl rfl ?_
        refine Wk.icmp_lt C d_jdk_33m47_63 (by decide) (pcT := 73) (by decide) (pc' := 66) rfl (fun q26 => ?_) (fun q26 => ?_)
        · -- pc 63: taken
          refine Wk.iloadN (pc' := 74) C d_jdk_33m47_73 rfl rfl ?_
          refine Wk.iloadN (pc' := 75) C d_jdk_33m47_74 rfl rfl ?_
          refine Wk.iconst (pc' := 76) C d_jdk_33m47_75 (v := (1 : Int32)) rfl rfl ?_
          obtain ⟨v27, hv27⟩ : ∃ z : Int32, ((Int32.ofNat (n / 16)).toUInt32 >>> ((1 : Int32) &&& 31).toUInt32).toInt32 = z := ⟨_, rfl⟩
          refine Wk.iushr (pc' := 77) C d_jdk_33m47_76 hv27 rfl ?_
          have f28 : v27 = (Int32.ofNat ((n / 16) / 2)) := own_ushr (k := 1) (d := 2) (by omega) (by decide) (by decide) (by decide) hv27
          rw [f28]
          obtain ⟨v29, hv29⟩ : ∃ z : Int32, (27 : Int32) - (Int32.ofNat ((n / 16) / 2)) = z := ⟨_, rfl⟩
          refine Wk.isub (pc' := 78) C d_jdk_33m47_77 hv29 rfl ?_
          have hz : nlzP n v29.toInt := by
            have c0 : (0 : Int32).toInt = 0 := by decide
            have c4 : (4 : Int32).toInt = 4 := by decide
            have c16 : (16 : Int32).toInt = 16 := by decide
            have c256 : (256 : Int32).toInt = 256 := by decide
            have ck : (27 : Int32).toInt = 27 := by decide
            have sv := Wk.subI hv29
            have rv := rng32 v29
            rw [ck, (own_n16 (n := ((n / 16) / 2)) (by omega)).1] at sv
            have b37 := q13
            rw [Wk.ltI, (own_n16 (n := n) (by omega)).1, c256] at b37
            have b51 := q14
            rw [Wk.ltI, (own_n16 (n := n) (by omega)).1, c16] at b51
            have b63 := q26
            rw [Wk.ltI, (own_n16 (n := (n / 16)) (by omega)).1, c4] at b63
            have b1 := q11
            rw [Wk.ltI, (own_n16 hn).1, c0] at b1
            refine ⟨fun _ => ?_, fun _ _ => ?_, fun _ _ => ?_, fun _ => ?_⟩ <;> omega
          exact Wk.retI C d_jdk_33m47_78 (by decide) (by decide) ⟨_, rfl, hz, rfl⟩
        · -- pc 63: not taken
          refine Wk.iinc (pc' := 69) C d_jdk_33m47_66 rfl (v := (25 : Int32)) (by decide) (Ls' := #[.val (.int (Int32.ofNat (n / 16))), .val (.int (25 : Int32))]) rfl rfl ?_
          refine Wk.iloadN (pc' := 70) C d_jdk_33m47_69 rfl rfl ?_
          refine Wk.iconst (pc' := 71) C d_jdk_33m47_70 (v := (2 : Int32)) rfl rfl ?_
          obtain ⟨v30, hv30⟩ : ∃ z : Int32, ((Int32.ofNat (n / 16)).toUInt32 >>> ((2 : Int32) &&& 31).toUInt32).toInt32 = z := ⟨_, rfl⟩
          refine Wk.iushr (pc' := 72) C d_jdk_33m47_71 hv30 rfl ?_
          have f31 : v30 = (Int32.ofNat ((n / 16) / 4)) := own_ushr (k := 2) (d := 4) (by omega) (by decide) (by decide) (by decide) hv30
          rw [f31]
          refine Wk.istoreN (pc' := 73) C d_jdk_33m47_72 (Ls' := #[.val (.int (Int32.ofNat ((n / 16) / 4))), .val (.int (25 : Int32))]) rfl rfl ?_
          refine Wk.iloadN (pc' := 74) C d_jdk_33m47_73 rfl rfl ?_
          refine Wk.iloadN (pc' := 75) C d_jdk_33m47_74 rfl rfl ?_
          refine Wk.iconst (pc' := 76) C d_jdk_33m47_75 (v := (1 : Int32)) rfl rfl ?_
          obtain ⟨v32, hv32⟩ : ∃ z : Int32, ((Int32.ofNat ((n / 16) / 4)).toUInt32 >>> ((1 : Int32) &&& 31).toUInt32).toInt32 = z := ⟨_, rfl⟩
          refine Wk.iushr (pc' := 77) C d_jdk_33m47_76 hv32 rfl ?_
          have f33 : v32 = (Int32.ofNat (((n / 16) / 4) / 2)) := own_ushr (k := 1) (d := 2) (by omega) (by decide) (by decide) (by decide) hv32
          rw [f33]
          obtain ⟨v34, hv34⟩ : ∃ z : Int32, (25 : Int32) - (Int32.ofNat (((n / 16) / 4) / 2)) = z := ⟨_, rfl⟩
          refine Wk.isub (pc' := 78) C d_jdk_33m47_77 hv34 rfl ?_
          have hz : nlzP n v34.toInt := by
            have c0 : (0 : Int32).toInt = 0 := by decide
            have c4 : (4 : Int32).toInt = 4 := by decide
            have c16 : (16 : Int32).toInt = 16 := by decide
            have c256 : (256 : Int32).toInt = 256 := by decide
            have ck : (25 : Int32).toInt = 25 := by decide
            have sv := Wk.subI hv34
            have rv := rng32 v34
            rw [ck, (own_n16 (n := (((n / 16) / 4) / 2)) (by omega)).1] at sv
            have b37 := q13
            rw [Wk.ltI, (own_n16 (n := n) (by omega)).1, c256] at b37
            have b51 := q14
            rw [Wk.ltI, (own_n16 (n := n) (by omega)).1, c16] at b51
            have b63 := q26
            rw [Wk.ltI, (own_n16 (n := (n / 16)) (by omega)).1, c4] at b63
            have b1 := q11
            rw [Wk.ltI, (own_n16 hn).1, c0] at b1
            refine ⟨fun _ => ?_, fun _ _ => ?_, fun _ _ => ?_, fun _ => ?_⟩ <;> omega
          exact Wk.retI C d_jdk_33m47_78 (by decide) (by decide) ⟨_, rfl, hz, rfl⟩
    · -- pc 37: not taken
      refine Wk.iinc (pc' := 43) C d_jdk_33m47_40 rfl (v := (23 : Int32)) (by decide) (Ls' := #[.val (.int (Int32.ofNat n)), .val (.int (23 : Int32))]) rfl rfl ?_
      refine Wk.iloadN (pc' := 44) C d_jdk_33m47_43 rfl rfl ?_
      refine Wk.bipush (pc' := 46) C d_jdk_33m47_44 (v := (8 : Int32)) rfl rfl ?_
      obtain ⟨v35, hv35⟩ : ∃ z : Int32, ((Int32.ofNat n).toUInt32 >>> ((8 : Int32) &&& 31).toUInt32).toInt32 = z := ⟨_, rfl⟩
      refine Wk.iushr (pc' := 47) C d_jdk_33m47_46 hv35 rfl ?_
      have f36 : v35 = (Int32.ofNat (n / 256)) := own_ushr (k := 8) (d := 256) (by omega) (by decide) (by decide) (by decide) hv35
      rw [f36]
      refine Wk.istoreN (pc' := 48) C d_jdk_33m47_47 (Ls' := #[.val (.int (Int32.ofNat (n / 256))), .val (.int (23 : Int32))]) rfl rfl ?_
      refine Wk.iloadN (pc' := 49) C d_jdk_33m47_48 rfl rfl ?_
      refine Wk.bipush (pc' := 51) C d_jdk_33m47_49 (v := (16 : Int32)) rfl rfl ?_
      refine Wk.icmp_lt C d_jdk_33m47_51 (by decide) (pcT := 61) (by decide) (pc' := 54) rfl (fun q37 => ?_) (fun q37 => ?_)
      · -- pc 51: taken
        refine Wk.iloadN (pc' := 62) C d_jdk_33m47_61 rfl rfl ?_
        refine Wk.iconst (pc' := 63) C d_jdk_33m47_62 (v := (4 : Int32)) rfl rfl ?_
        refine Wk.icmp_lt C d_jdk_33m47_63 (by decide) (pcT := 73) (by decide) (pc' := 66) rfl (fun q38 => ?_) (fun q38 => ?_)
        · -- pc 63: taken
          refine Wk.iloadN (pc' := 74) C d_jdk_33m47_73 rfl rfl ?_
          refine Wk.iloadN (pc' := 75) C d_jdk_33m47_74 rfl rfl ?_
          refine Wk.iconst (pc' := 76) C d_jdk_33m47_75 (v := (1 : Int32)) rfl rfl ?_
          obtain ⟨v39, hv39⟩ : ∃ z : Int32, ((Int32.ofNat (n / 256)).toUInt32 >>> ((1 : Int32) &&& 31).toUInt32).toInt32 = z := ⟨_, rfl⟩
          refine Wk.iushr (pc' := 77) C d_jdk_33m47_76 hv39 rfl ?_
          have f40 : v39 = (Int32.ofNat ((n / 256) / 2)) := own_ushr (k := 1) (d := 2) (by omega) (by decide) (by decide) (by decide) hv39
          rw [f40]
          obtain ⟨v41, hv41⟩ : ∃ z : Int32, (23 : Int32) - (Int32.ofNat ((n / 256) / 2)) = z := ⟨_, rfl⟩
          refine Wk.isub (pc' := 78) C d_jdk_33m47_77 hv41 rfl ?_
          have hz : nlzP n v41.toInt := by
            have c0 : (0 : Int32).toInt = 0 := by decide
            have c4 : (4 : Int32).toInt = 4 := by decide
            have c16 : (16 : Int32).toInt = 16 := by decide
            have c256 : (256 : Int32).toInt = 256 := by decide
            have ck : (23 : Int32).toInt = 23 := by decide
            have sv := Wk.subI hv41
            have rv := rng32 v41
            rw [ck, (own_n16 (n := ((n / 256) / 2)) (by omega)).1] at sv
            have b37 := q13
            rw [Wk.ltI, (own_n16 (n := n) (by omega)).1, c256] at b37
            have b51 := q37
            rw [Wk.ltI, (own_n16 (n := (n / 256)) (by omega)).1, c16] at b51
            have b63 := q38
            rw [Wk.ltI, (own_n16 (n := (n / 256)) (by omega)).1, c4] at b63
            have b1 := q11
            rw [Wk.ltI, (own_n16 hn).1, c0] at b1
            refine ⟨fun _ => ?_, fun _ _ => ?_, fun _ _ => ?_, fun _ => ?_⟩ <;> omega
          exact Wk.retI C d_jdk_33m47_78 (by decide) (by decide) ⟨_, rfl, hz, rfl⟩
        · -- pc 63: not taken
          refine Wk.iinc (pc' := 69) C d_jdk_33m47_66 rfl (v := (21 : Int32)) (by decide) (Ls' := #[.val (.int (Int32.ofNat (n / 256))), .val (.int (21 : Int32))]) rfl rfl ?_
          refine Wk.iloadN (pc' := 70) C d_jdk_33m47_69 rfl rfl ?_
          refine Wk.iconst (pc' := 71) C d_jdk_33m47_70 (v := (2 : Int32)) rfl rfl ?_
          obtain ⟨v42, hv42⟩ : ∃ z : Int32, ((Int32.ofNat (n / 256)).toUInt32 >>> ((2 : Int32) &&& 31).toUInt32).toInt32 = z := ⟨_, rfl⟩
          refine Wk.iushr (pc' := 72) C d_jdk_33m47_71 hv42 rfl ?_
          have f43 : v42 = (Int32.ofNat ((n / 256) / 4)) := own_ushr (k := 2) (d := 4) (by omega) (by decide) (by decide) (by decide) hv42
          rw [f43]
          refine Wk.istoreN (pc' := 73) C d_jdk_33m47_72 (Ls' := #[.val (.int (Int32.ofNat ((n / 256) / 4))), .val (.int (21 : Int32))]) rfl rfl ?_
          refine Wk.iloadN (pc' := 74) C d_jdk_33m47_73 rfl rfl ?_
          refine Wk.iloadN (pc' := 75) C d_jdk_33m47_74 rfl rfl ?_
          refine Wk.iconst (pc' := 76) C d_jdk_33m47_75 (v := (1 : Int32)) rfl rfl ?_
          obtain ⟨v44, hv44⟩ : ∃ z : Int32, ((Int32.ofNat ((n / 256) / 4)).toUInt32 >>> ((1 : Int32) &&& 31).toUInt32).toInt32 = z := ⟨_, rfl⟩
          refine Wk.iushr (pc' := 77) C d_jdk_33m47_76 hv44 rfl ?_
          have f45 : v44 = (Int32.ofNat (((n / 256) / 4) / 2)) := own_ushr (k := 1) (d := 2) (by omega) (by decide) (by decide) (by decide) hv44
          rw [f45]
          obtain ⟨v46, hv46⟩ : ∃ z : Int32, (21 : Int32) - (Int32.ofNat (((n / 256) / 4) / 2)) = z := ⟨_, rfl⟩
          refine Wk.isub (pc' := 78) C d_jdk_33m47_77 hv46 rfl ?_
          have hz : nlzP n v46.toInt := by
            have c0 : (0 : Int32).toInt = 0 := by decide
            have c4 : (4 : Int32).toInt = 4 := by decide
            have c16 : (16 : Int32).toInt = 16 := by decide
            have c256 : (256 : Int32).toInt = 256 := by decide
            have ck : (21 : Int32).toInt = 21 := by decide
            have sv := Wk.subI hv46
            have rv := rng32 v46
            rw [ck, (own_n16 (n := (((n / 256) / 4) / 2)) (by omega)).1] at sv
            have b37 := q13
            rw [Wk.ltI, (own_n16 (n := n) (by omega)).1, c256] at b37
            have b51 := q37
            rw [Wk.ltI, (own_n16 (n := (n / 256)) (by omega)).1, c16] at b51
            have b63 := q38
            rw [Wk.ltI, (own_n16 (n := (n / 256)) (by omega)).1, c4] at b63
            have b1 := q11
            rw [Wk.ltI, (own_n16 hn).1, c0] at b1
            refine ⟨fun _ => ?_, fun _ _ => ?_, fun _ _ => ?_, fun _ => ?_⟩ <;> omega
          exact Wk.retI C d_jdk_33m47_78 (by decide) (by decide) ⟨_, rfl, hz, rfl⟩
      · -- pc 51: not taken
        refine Wk.iinc (pc' := 57) C d_jdk_33m47_54 rfl (v := (19 : Int32)) (by decide) (Ls' := #[.val (.int (Int32.ofNat (n / 256))), .val (.int (19 : Int32))]) rfl rfl ?_
        refine Wk.iloadN (pc' := 58) C d_jdk_33m47_57 rfl rfl ?_
        refine Wk.iconst (pc' := 59) C d_jdk_33m47_58 (v := (4 : Int32)) rfl rfl ?_
        obtain ⟨v47, hv47⟩ : ∃ z : Int32, ((Int32.ofNat (n / 256)).toUInt32 >>> ((4 : Int32) &&& 31).toUInt32).toInt32 = z := ⟨_, rfl⟩
        refine Wk.iushr (pc' := 60) C d_jdk_33m47_59 hv47 rfl ?_
        have f48 : v47 = (Int32.ofNat ((n / 256) / 16)) := own_ushr (k := 4) (d := 16) (by omega) (by decide) (by decide) (by decide) hv47
        rw [f48]
        refine Wk.istoreN (pc' := 61) C d_jdk_33m47_60 (Ls' := #[.val (.int (Int32.ofNat ((n / 256) / 16))), .val (.int (19 : Int32))]) rfl rfl ?_
        refine Wk.iloadN (pc' := 62) C d_jdk_33m47_61 rfl rfl ?_
        refine Wk.iconst (pc' := 63) C d_jdk_33m47_62 (v := (4 : Int32)) rfl rfl ?_
        refine Wk.icmp_lt C d_jdk_33m47_63 (by decide) (pcT := 73) (by decide) (pc' := 66) rfl (fun q49 => ?_) (fun q49 => ?_)
        · -- pc 63: taken
          refine Wk.iloadN (pc' := 74) C d_jdk_33m47_73 rfl rfl ?_
          refine Wk.iloadN (pc' := 75) C d_jdk_33m47_74 rfl rfl ?_
          refine Wk.iconst (pc' := 76) C d_jdk_33m47_75 (v := (1 : Int32)) rfl rfl ?_
          obtain ⟨v50, hv50⟩ : ∃ z : Int32, ((Int32.ofNat ((n / 256) / 16)).toUInt32 >>> ((1 : Int32) &&& 31).toUInt32).toInt32 = z := ⟨_, rfl⟩
          refine Wk.iushr (pc' := 77) C d_jdk_33m47_76 hv50 rfl ?_
          have f51 : v50 = (Int32.ofNat (((n / 256) / 16) / 2)) := own_ushr (k := 1) (d := 2) (by omega) (by decide) (by decide) (by decide) hv50
          rw [f51]
          obtain ⟨v52, hv52⟩ : ∃ z : Int32, (19 : Int32) - (Int32.ofNat (((n / 256) / 16) / 2)) = z := ⟨_, rfl⟩
          refine Wk.isub (pc' := 78) C d_jdk_33m47_77 hv52 rfl ?_
          have hz : nlzP n v52.toInt := by
            have c0 : (0 : Int32).toInt = 0 := by decide
            have c4 : (4 : Int32).toInt = 4 := by decide
            have c16 : (16 : Int32).toInt = 16 := by decide
            have c256 : (256 : Int32).toInt = 256 := by decide
            have ck : (19 : Int32).toInt = 19 := by decide
            have sv := Wk.subI hv52
            have rv := rng32 v52
            rw [ck, (own_n16 (n := (((n / 256) / 16) / 2)) (by omega)).1] at sv
            have b37 := q13
            rw [Wk.ltI, (own_n16 (n := n) (by omega)).1, c256] at b37
            have b51 := q37
            rw [Wk.ltI, (own_n16 (n := (n / 256)) (by omega)).1, c16] at b51
            have b63 := q49
            rw [Wk.ltI, (own_n16 (n := ((n / 256) / 16)) (by omega)).1, c4] at b63
            have b1 := q11
            rw [Wk.ltI, (own_n16 hn).1, c0] at b1
            refine ⟨fun _ => ?_, fun _ _ => ?_, fun _ _ => ?_, fun _ => ?_⟩ <;> omega
          exact Wk.retI C d_jdk_33m47_78 (by decide) (by decide) ⟨_, rfl, hz, rfl⟩
        · -- pc 63: not taken
          refine Wk.iinc (pc' := 69) C d_jdk_33m47_66 rfl (v := (17 : Int32)) (by decide) (Ls' := #[.val (.int (Int32.ofNat ((n / 256) / 16))), .val (.int (17 : Int32))]) rfl rfl ?_
          refine Wk.iloadN (pc' := 70) C d_jdk_33m47_69 rfl rfl ?_
          refine Wk.iconst (pc' := 71) C d_jdk_33m47_70 (v := (2 : Int32)) rfl rfl ?_
          obtain ⟨v53, hv53⟩ : ∃ z : Int32, ((Int32.ofNat ((n / 256) / 16)).toUInt32 >>> ((2 : Int32) &&& 31).toUInt32).toInt32 = z := ⟨_, rfl⟩
          refine Wk.iushr (pc' := 72) C d_jdk_33m47_71 hv53 rfl ?_
          have f54 : v53 = (Int32.ofNat (((n / 256) / 16) / 4)) := own_ushr (k := 2) (d := 4) (by omega) (by decide) (by decide) (by decide) hv53
          rw [f54]
          refine Wk.istoreN (pc' := 73) C d_jdk_33m47_72 (Ls' := #[.val (.int (Int32.ofNat (((n / 256) / 16) / 4))), .val (.int (17 : Int32))]) rfl rfl ?_
          refine Wk.iloadN (pc' := 74) C d_jdk_33m47_73 rfl rfl ?_
          refine Wk.iloadN (pc' := 75) C d_jdk_33m47_74 rfl rfl ?_
          refine Wk.iconst (pc' := 76) C d_jdk_33m47_75 (v := (1 : Int32)) rfl rfl ?_
          obtain ⟨v55, hv55⟩ : ∃ z : Int32, ((Int32.ofNat (((n / 256) / 16) / 4)).toUInt32 >>> ((1 : Int32) &&& 31).toUInt32).toInt32 = z := ⟨_, rfl⟩
          refine Wk.iushr (pc' := 77) C d_jdk_33m47_76 hv55 rfl ?_
          have f56 : v55 = (Int32.ofNat ((((n / 256) / 16) / 4) / 2)) := own_ushr (k := 1) (d := 2) (by omega) (by decide) (by decide) (by decide) hv55
          rw [f56]
          obtain ⟨v57, hv57⟩ : ∃ z : Int32, (17 : Int32) - (Int32.ofNat ((((n / 256) / 16) / 4) / 2)) = z := ⟨_, rfl⟩
          refine Wk.isub (pc' := 78) C d_jdk_33m47_77 hv57 rfl ?_
          have hz : nlzP n v57.toInt := by
            have c0 : (0 : Int32).toInt = 0 := by decide
            have c4 : (4 : Int32).toInt = 4 := by decide
            have c16 : (16 : Int32).toInt = 16 := by decide
            have c256 : (256 : Int32).toInt = 256 := by decide
            have ck : (17 : Int32).toInt = 17 := by decide
            have sv := Wk.subI hv57
            have rv := rng32 v57
            rw [ck, (own_n16 (n := ((((n / 256) / 16) / 4) / 2)) (by omega)).1] at sv
            have b37 := q13
            rw [Wk.ltI, (own_n16 (n := n) (by omega)).1, c256] at b37
            have b51 := q37
            rw [Wk.ltI, (own_n16 (n := (n / 256)) (by omega)).1, c16] at b51
            have b63 := q49
            rw [Wk.ltI, (own_n16 (n := ((n / 256) / 16)) (by omega)).1, c4] at b63
            have b1 := q11
            rw [Wk.ltI, (own_n16 hn).1, c0] at b1
            refine ⟨fun _ => ?_, fun _ _ => ?_, fun _ _ => ?_, fun _ => ?_⟩ <;> omega
          exact Wk.retI C d_jdk_33m47_78 (by decide) (by decide) ⟨_, rfl, hz, rfl⟩
  · -- pc 1: not taken
    refine Wk.iloadN (pc' := 5) C d_jdk_33m47_4 rfl rfl ?_
    have z0 : Int32.ofNat n = 0 := by
      have a := q11
      have c0 : (0 : Int32).toInt = 0 := by decide
      have c4 : (4 : Int32).toInt = 4 := by decide
      have c16 : (16 : Int32).toInt = 16 := by decide
      have c256 : (256 : Int32).toInt = 256 := by decide
      rw [Wk.ltI, (own_n16 hn).1, c0] at a
      exact Wk.eqI (by rw [(own_n16 hn).1, c0]; omega)
    refine Wk.if_ne C d_jdk_33m47_5 (by decide) (pcT := 13) (by decide) (pc' := 8) rfl (fun q => absurd z0 q) (fun q58 => ?_)
    refine Wk.bipush (pc' := 10) C d_jdk_33m47_8 (v := (32 : Int32)) rfl rfl ?_
    refine Wk.goto C d_jdk_33m47_10 (by decide) (pc' := 14) (by decide) ?_
    have hz : nlzP n (32 : Int32).toInt := by
      have a := q11
      have c0 : (0 : Int32).toInt = 0 := by decide
      have c4 : (4 : Int32).toInt = 4 := by decide
      have c16 : (16 : Int32).toInt = 16 := by decide
      have c256 : (256 : Int32).toInt = 256 := by decide
      rw [Wk.ltI, (own_n16 hn).1, c0] at a
      have c32 : (32 : Int32).toInt = 32 := by decide
      rw [c32]
      exact ⟨fun _ => by omega, fun _ _ => by omega, fun _ _ => by omega, fun _ => by omega⟩
    exact Wk.retI C d_jdk_33m47_14 (by decide) (by decide) ⟨_, rfl, hz, rfl⟩
set_option maxRecDepth 65536 in
set_option maxHeartbeats 40000000 in
theorem own_max2 (l : Launch) {Z : State} {a0 : Array Value} (hw : Ws a0 Z) {h0 : Heap} (O0 : Ext Z.heap h0) (x y : Int32)  :
    Wk.Con l Z (⟨"java/lang/Math", "max", "(II)I"⟩ : MethodName) jdk_29_method_65_code 2 (some .int) ({ frames := 0, cells := 0, slots := 0, locals := 0 } : Room) #[(.int x), (.int y)] h0 (fun v h' => v = some (.int (if x < y then y else x)) ∧ h' = h0) := by
  refine Wk.Con.intro (Jvm.Free.JP.mathPlain rfl (by decide +kernel)) O0 (fun m => ef32 m x y) ?_
  intro W C
  replace C : Wk.Cx Z W "java/lang/Math" "max" jdk_29_method_65_code 2 (some .int) := C
  refine Wk.iloadN (pc' := 1) C d_jdk_29m65_0 rfl rfl ?_
  refine Wk.iloadN (pc' := 2) C d_jdk_29m65_1 rfl rfl ?_
  refine Wk.icmp_lt C d_jdk_29m65_2 (by decide) (pcT := 9) (by decide) (pc' := 5) rfl (fun q11 => ?_) (fun q11 => ?_)
  · -- pc 2: taken
    refine Wk.iloadN (pc' := 10) C d_jdk_29m65_9 rfl rfl ?_
    exact Wk.retI C d_jdk_29m65_10 (by decide) (by decide) ⟨congrArg (fun z => some (Value.int z)) (if_pos q11).symm, rfl⟩
  · -- pc 2: not taken
    refine Wk.iloadN (pc' := 6) C d_jdk_29m65_5 rfl rfl ?_
    refine Wk.goto C d_jdk_29m65_6 (by decide) (pc' := 10) (by decide) ?_
    exact Wk.retI C d_jdk_29m65_10 (by decide) (by decide) ⟨congrArg (fun z => some (Value.int z)) (if_neg q11).symm, rfl⟩
set_option maxRecDepth 65536 in
set_option maxHeartbeats 40000000 in
theorem own_fmt1 (l : Launch) {Z : State} {a0 : Array Value} (hw : Ws a0 Z) {h0 : Heap} (O0 : Ext Z.heap h0) (aG b : Addr) (n : Nat) (SG : Sta Z Z.heap "java/lang/Integer" "digits" "[C" (.ref aG)) (VG : Wk.Ary Z Z.heap aG .char (digL.map Value.int)) (hn : n < 65536) (gb : Z.heap.size ≤ b) (VB : Wk.Ary Z h0 b .byte [(.int (0 : Int32))]) (nG : aG ≠ b) :
    Wk.Con l Z (⟨"java/lang/Integer", "formatUnsignedInt", "(II[BI)V"⟩ : MethodName) jdk_33_method_8_code 7 none ({ frames := 0, cells := 0, slots := 0, locals := 0 } : Room) #[(.int (Int32.ofNat n)), (.int (4 : Int32)), (.ref b), (.int (1 : Int32))] h0 (fun v h' => v = none ∧ Keep h0 h' [b] ∧ Wk.Ary Z h' b .byte [(.int (hexc (n % 16)).toInt8.toInt32)]) := by
  refine Wk.Con.intro (plainFor_of_name pn6) O0 (fun m => ef33 m (Int32.ofNat n) b) ?_
  intro W C
  replace C : Wk.Cx Z W "java/lang/Integer" "formatUnsignedInt" jdk_33_method_8_code 7 none := C
  refine Wk.iloadN (pc' := 1) C d_jdk_33m8_0 rfl rfl ?_
  refine Wk.istore (pc' := 3) C d_jdk_33m8_1 (Ls' := #[.val (.int (Int32.ofNat n)), .val (.int (4 : Int32)), .val (.ref b), .val (.int (1 : Int32)), .val (.int (1 : Int32)), .unset, .unset]) rfl rfl ?_
  refine Wk.iconst (pc' := 4) C d_jdk_33m8_3 (v := (1 : Int32)) rfl rfl ?_
  refine Wk.iloadN (pc' := 5) C d_jdk_33m8_4 rfl rfl ?_
  refine Wk.ishl (pc' := 6) C d_jdk_33m8_5 (v := (16 : Int32)) (by decide) rfl ?_
  refine Wk.istore (pc' := 8) C d_jdk_33m8_6 (Ls' := #[.val (.int (Int32.ofNat n)), .val (.int (4 : Int32)), .val (.ref b), .val (.int (1 : Int32)), .val (.int (1 : Int32)), .val (.int (16 : Int32)), .unset]) rfl rfl ?_
  refine Wk.iload (pc' := 10) C d_jdk_33m8_8 rfl rfl ?_
  refine Wk.iconst (pc' := 11) C d_jdk_33m8_10 (v := (1 : Int32)) rfl rfl ?_
  refine Wk.isub (pc' := 12) C d_jdk_33m8_11 (v := (15 : Int32)) (by decide) rfl ?_
  refine Wk.istore (pc' := 14) C d_jdk_33m8_12 (Ls' := #[.val (.int (Int32.ofNat n)), .val (.int (4 : Int32)), .val (.ref b), .val (.int (1 : Int32)), .val (.int (1 : Int32)), .val (.int (16 : Int32)), .val (.int (15 : Int32))]) rfl rfl ?_
  refine Wk.aloadN (pc' := 15) C d_jdk_33m8_14 rfl rfl rfl ?_
  refine Wk.iinc (pc' := 18) C d_jdk_33m8_15 rfl (v := (0 : Int32)) (by decide) (Ls' := #[.val (.int (Int32.ofNat n)), .val (.int (4 : Int32)), .val (.ref b), .val (.int (1 : Int32)), .val (.int (0 : Int32)), .val (.int (16 : Int32)), .val (.int (15 : Int32))]) rfl rfl ?_
  refine Wk.iload (pc' := 20) C d_jdk_33m8_18 rfl rfl ?_
  refine Wk.getS (pc' := 23) C d_jdk_33m8_20 (w25 hw) Via.refl (SG.ext O0) rfl ?_
  refine Wk.iloadN (pc' := 24) C d_jdk_33m8_23 rfl rfl ?_
  refine Wk.iload (pc' := 26) C d_jdk_33m8_24 rfl rfl ?_
  obtain ⟨v11, hv11⟩ : ∃ z : Int32, (Int32.ofNat n) &&& (15 : Int32) = z := ⟨_, rfl⟩
  refine Wk.iand (pc' := 27) C d_jdk_33m8_26 hv11 rfl ?_
  have f12 : v11 = (Int32.ofNat (n % 16)) := own_and (k := 4) (d := 16) (by omega) (by decide) (by decide) (by decide) hv11
  rw [f12]
  refine Wk.caload (pc' := 28) C d_jdk_33m8_27 (VG.ext O0) (Wk.nn32 (by omega)) (v := (.int (hexc (n % 16)))) (by rw [(own_n16 (n := (n % 16)) (by omega)).2]; exact Wk.getd (by rw [own_digLen]; omega)) rfl ?_
  obtain ⟨v13, hv13⟩ : ∃ z : Int32, (hexc (n % 16)).toInt8.toInt32 = z := ⟨_, rfl⟩
  refine Wk.i2b (pc' := 29) C d_jdk_33m8_28 hv13 rfl ?_
  refine Wk.bastore (pc' := 30) C d_jdk_33m8_29 VB (by decide) (show _ < _ from Nat.le_of_ble_eq_true rfl) (vs' := [(.int v13)]) (by rw [Wk.nar_i2b hv13]; rfl) gb rfl ?_
  intro h14 W14 V14 O14
  refine Wk.iloadN (pc' := 31) C d_jdk_33m8_30 rfl rfl ?_
  refine Wk.iloadN (pc' := 32) C d_jdk_33m8_31 rfl rfl ?_
  obtain ⟨v15, hv15⟩ : ∃ z : Int32, ((Int32.ofNat n).toUInt32 >>> ((4 : Int32) &&& 31).toUInt32).toInt32 = z := ⟨_, rfl⟩
  refine Wk.iushr (pc' := 33) C d_jdk_33m8_32 hv15 rfl ?_
  have f16 : v15 = (Int32.ofNat (n / 16)) := own_ushr (k := 4) (d := 16) (by omega) (by decide) (by decide) (by decide) hv15
  rw [f16]
  refine Wk.istoreN (pc' := 34) C d_jdk_33m8_33 (Ls' := #[.val (.int (Int32.ofNat (n / 16))), .val (.int (4 : Int32)), .val (.ref b), .val (.int (1 : Int32)), .val (.int (0 : Int32)), .val (.int (16 : Int32)), .val (.int (15 : Int32))]) rfl rfl ?_
  refine Wk.iload (pc' := 36) C d_jdk_33m8_34 rfl rfl ?_
  refine Wk.if_gt C d_jdk_33m8_36 (by decide) (pcT := 14) (by decide) (pc' := 39) rfl (fun q => absurd q (by decide)) (fun q17 => ?_)
  exact Wk.retV C d_jdk_33m8_39 (by decide) (by decide) ⟨rfl, ((Keep.refl _ _).wr W14 (Or.inl (List.mem_singleton.mpr rfl))), by rw [hv13]; exact V14⟩
set_option maxRecDepth 65536 in
set_option maxHeartbeats 40000000 in
theorem own_fmt2 (l : Launch) {Z : State} {a0 : Array Value} (hw : Ws a0 Z) {h0 : Heap} (O0 : Ext Z.heap h0) (aG b : Addr) (n : Nat) (SG : Sta Z Z.heap "java/lang/Integer" "digits" "[C" (.ref aG)) (VG : Wk.Ary Z Z.heap aG .char (digL.map Value.int)) (hn : n < 65536) (gb : Z.heap.size ≤ b) (VB : Wk.Ary Z h0 b .byte [(.int (0 : Int32)), (.int (0 : Int32))]) (nG : aG ≠ b) :
    Wk.Con l Z (⟨"java/lang/Integer", "formatUnsignedInt", "(II[BI)V"⟩ : MethodName) jdk_33_method_8_code 7 none ({ frames := 0, cells := 0, slots := 0, locals := 0 } : Room) #[(.int (Int32.ofNat n)), (.int (4 : Int32)), (.ref b), (.int (2 : Int32))] h0 (fun v h' => v = none ∧ Keep h0 h' [b] ∧ Wk.Ary Z h' b .byte [(.int (hexc ((n / 16) % 16)).toInt8.toInt32), (.int (hexc (n % 16)).toInt8.toInt32)]) := by
  refine Wk.Con.intro (plainFor_of_name pn6) O0 (fun m => ef34 m (Int32.ofNat n) b) ?_
  intro W C
  replace C : Wk.Cx Z W "java/lang/Integer" "formatUnsignedInt" jdk_33_method_8_code 7 none := C
  refine Wk.iloadN (pc' := 1) C d_jdk_33m8_0 rfl rfl ?_
  refine Wk.istore (pc' := 3) C d_jdk_33m8_1 (Ls' := #[.val (.int (Int32.ofNat n)), .val (.int (4 : Int32)), .val (.ref b), .val (.int (2 : Int32)), .val (.int (2 : Int32)), .unset, .unset]) rfl rfl ?_
  refine Wk.iconst (pc' := 4) C d_jdk_33m8_3 (v := (1 : Int32)) rfl rfl ?_
  refine Wk.iloadN (pc' := 5) C d_jdk_33m8_4 rfl rfl ?_
  refine Wk.ishl (pc' := 6) C d_jdk_33m8_5 (v := (16 : Int32)) (by decide) rfl ?_
  refine Wk.istore (pc' := 8) C d_jdk_33m8_6 (Ls' := #[.val (.int (Int32.ofNat n)), .val (.int (4 : Int32)), .val (.ref b), .val (.int (2 : Int32)), .val (.int (2 : Int32)), .val (.int (16 : Int32)), .unset]) rfl rfl ?_
  refine Wk.iload (pc' := 10) C d_jdk_33m8_8 rfl rfl ?_
  refine Wk.iconst (pc' := 11) C d_jdk_33m8_10 (v := (1 : Int32)) rfl rfl ?_
  refine Wk.isub (pc' := 12) C d_jdk_33m8_11 (v := (15 : Int32)) (by decide) rfl ?_
  refine Wk.istore (pc' := 14) C d_jdk_33m8_12 (Ls' := #[.val (.int (Int32.ofNat n)), .val (.int (4 : Int32)), .val (.ref b), .val (.int (2 : Int32)), .val (.int (2 : Int32)), .val (.int (16 : Int32)), .val (.int (15 : Int32))]) rfl rfl ?_
  refine Wk.aloadN (pc' := 15) C d_jdk_33m8_14 rfl rfl rfl ?_
  refine Wk.iinc (pc' := 18) C d_jdk_33m8_15 rfl (v := (1 : Int32)) (by decide) (Ls' := #[.val (.int (Int32.ofNat n)), .val (.int (4 : Int32)), .val (.ref b), .val (.int (2 : Int32)), .val (.int (1 : Int32)), .val (.int (16 : Int32)), .val (.int (15 : Int32))]) rfl rfl ?_
  refine Wk.iload (pc' := 20) C d_jdk_33m8_18 rfl rfl ?_
  refine Wk.getS (pc' := 23) C d_jdk_33m8_20 (w25 hw) Via.refl (SG.ext O0) rfl ?_
  refine Wk.iloadN (pc' := 24) C d_jdk_33m8_23 rfl rfl ?_
  refine Wk.iload (pc' := 26) C d_jdk_33m8_24 rfl rfl ?_
  obtain ⟨v11, hv11⟩ : ∃ z : Int32, (Int32.ofNat n) &&& (15 : Int32) = z := ⟨_, rfl⟩
  refine Wk.iand (pc' := 27) C d_jdk_33m8_26 hv11 rfl ?_
  have f12 : v11 = (Int32.ofNat (n % 16)) := own_and (k := 4) (d := 16) (by omega) (by decide) (by decide) (by decide) hv11
  rw [f12]
  refine Wk.caload (pc' := 28) C d_jdk_33m8_27 (VG.ext O0) (Wk.nn32 (by omega)) (v := (.int (hexc (n % 16)))) (by rw [(own_n16 (n := (n % 16)) (by omega)).2]; exact Wk.getd (by rw [own_digLen]; omega)) rfl ?_
  obtain ⟨v13, hv13⟩ : ∃ z : Int32, (hexc (n % 16)).toInt8.toInt32 = z := ⟨_, rfl⟩
  refine Wk.i2b (pc' := 29) C d_jdk_33m8_28 hv13 rfl ?_
  refine Wk.bastore (pc' := 30) C d_jdk_33m8_29 VB (by decide) (show _ < _ from Nat.le_of_ble_eq_true rfl) (vs' := [(.int (0 : Int32)), (.int v13)]) (by rw [Wk.nar_i2b hv13]; rfl) gb rfl ?_
  intro h14 W14 V14 O14
  refine Wk.iloadN (pc' := 31) C d_jdk_33m8_30 rfl rfl ?_
  refine Wk.iloadN (pc' := 32) C d_jdk_33m8_31 rfl rfl ?_
  obtain ⟨v15, hv15⟩ : ∃ z : Int32, ((Int32.ofNat n).toUInt32 >>> ((4 : Int32) &&& 31).toUInt32).toInt32 = z := ⟨_, rfl⟩
  refine Wk.iushr (pc' := 33) C d_jdk_33m8_32 hv15 rfl ?_
  have f16 : v15 = (Int32.ofNat (n / 16)) := own_ushr (k := 4) (d := 16) (by omega) (by decide) (by decide) (by decide) hv15
  rw [f16]
  refine Wk.istoreN (pc' := 34) C d_jdk_33m8_33 (Ls' := #[.val (.int (Int32.ofNat (n / 16))), .val (.int (4 : Int32)), .val (.ref b), .val (.int (2 : Int32)), .val (.int (1 : Int32)), .val (.int (16 : Int32)), .val (.int (15 : Int32))]) rfl rfl ?_
  refine Wk.iload (pc' := 36) C d_jdk_33m8_34 rfl rfl ?_
  refine Wk.if_gt C d_jdk_33m8_36 (by decide) (pcT := 14) (by decide) (pc' := 39) rfl (fun q17 => ?_) (fun q => absurd q (by decide))
  refine Wk.aloadN (pc' := 15) C d_jdk_33m8_14 rfl rfl rfl ?_
  refine Wk.iinc (pc' := 18) C d_jdk_33m8_15 rfl (v := (0 : Int32)) (by decide) (Ls' := #[.val (.int (Int32.ofNat (n / 16))), .val (.int (4 : Int32)), .val (.ref b), .val (.int (2 : Int32)), .val (.int (0 : Int32)), .val (.int (16 : Int32)), .val (.int (15 : Int32))]) rfl rfl ?_
  refine Wk.iload (pc' := 20) C d_jdk_33m8_18 rfl rfl ?_
  refine Wk.getS (pc' := 23) C d_jdk_33m8_20 (w25 hw) Via.refl (SG.ext O14) rfl ?_
  refine Wk.iloadN (pc' := 24) C d_jdk_33m8_23 rfl rfl ?_
  refine Wk.iload (pc' := 26) C d_jdk_33m8_24 rfl rfl ?_
  obtain ⟨v18, hv18⟩ : ∃ z : Int32, (Int32.ofNat (n / 16)) &&& (15 : Int32) = z := ⟨_, rfl⟩
  refine Wk.iand (pc' := 27) C d_jdk_33m8_26 hv18 rfl ?_
  have f19 : v18 = (Int32.ofNat ((n / 16) % 16)) := own_and (k := 4) (d := 16) (by omega) (by decide) (by decide) (by decide) hv18
  rw [f19]
  refine Wk.caload (pc' := 28) C d_jdk_33m8_27 ((VG.ext O0).other W14 nG) (Wk.nn32 (by omega)) (v := (.int (hexc ((n / 16) % 16)))) (by rw [(own_n16 (n := ((n / 16) % 16)) (by omega)).2]; exact Wk.getd (by rw [own_digLen]; omega)) rfl ?_
  obtain ⟨v20, hv20⟩ : ∃ z : Int32, (hexc ((n / 16) % 16)).toInt8.toInt32 = z := ⟨_, rfl⟩
  refine Wk.i2b (pc' := 29) C d_jdk_33m8_28 hv20 rfl ?_
  refine Wk.bastore (pc' := 30) C d_jdk_33m8_29 V14 (by decide) (show _ < _ from Nat.le_of_ble_eq_true rfl) (vs' := [(.int v20), (.int v13)]) (by rw [Wk.nar_i2b hv20]; rfl) gb rfl ?_
  intro h21 W21 V21 O21
  refine Wk.iloadN (pc' := 31) C d_jdk_33m8_30 rfl rfl ?_
  refine Wk.iloadN (pc' := 32) C d_jdk_33m8_31 rfl rfl ?_
  obtain ⟨v22, hv22⟩ : ∃ z : Int32, ((Int32.ofNat (n / 16)).toUInt32 >>> ((4 : Int32) &&& 31).toUInt32).toInt32 = z := ⟨_, rfl⟩
  refine Wk.iushr (pc' := 33) C d_jdk_33m8_32 hv22 rfl ?_
  have f23 : v22 = (Int32.ofNat ((n / 16) / 16)) := own_ushr (k := 4) (d := 16) (by omega) (by decide) (by decide) (by decide) hv22
  rw [f23]
  refine Wk.istoreN (pc' := 34) C d_jdk_33m8_33 (Ls' := #[.val (.int (Int32.ofNat ((n / 16) / 16))), .val (.int (4 : Int32)), .val (.ref b), .val (.int (2 : Int32)), .val (.int (0 : Int32)), .val (.int (16 : Int32)), .val (.int (15 : Int32))]) rfl rfl ?_
  refine Wk.iload (pc' := 36) C d_jdk_33m8_34 rfl rfl ?_
  refine Wk.if_gt C d_jdk_33m8_36 (by decide) (pcT := 14) (by decide) (pc' := 39) rfl (fun q => absurd q (by decide)) (fun q24 => ?_)
  exact Wk.retV C d_jdk_33m8_39 (by decide) (by decide) ⟨rfl, (((Keep.refl _ _).wr W14 (Or.inl (List.mem_singleton.mpr rfl))).wr W21 (Or.inl (List.mem_singleton.mpr rfl))), by rw [hv20, hv13]; exact V21⟩
set_option maxRecDepth 65536 in
set_option maxHeartbeats 40000000 in
theorem own_fmt3 (l : Launch) {Z : State} {a0 : Array Value} (hw : Ws a0 Z) {h0 : Heap} (O0 : Ext Z.heap h0) (aG b : Addr) (n : Nat) (SG : Sta Z Z.heap "java/lang/Integer" "digits" "[C" (.ref aG)) (VG : Wk.Ary Z Z.heap aG .char (digL.map Value.int)) (hn : n < 65536) (gb : Z.heap.size ≤ b) (VB : Wk.Ary Z h0 b .byte [(.int (0 : Int32)), (.int (0 : Int32)), (.int (0 : Int32))]) (nG : aG ≠ b) :
    Wk.Con l Z (⟨"java/lang/Integer", "formatUnsignedInt", "(II[BI)V"⟩ : MethodName) jdk_33_method_8_code 7 none ({ frames := 0, cells := 0, slots := 0, locals := 0 } : Room) #[(.int (Int32.ofNat n)), (.int (4 : Int32)), (.ref b), (.int (3 : Int32))] h0 (fun v h' => v = none ∧ Keep h0 h' [b] ∧ Wk.Ary Z h' b .byte [(.int (hexc ((n / 16 / 16) % 16)).toInt8.toInt32), (.int (hexc ((n / 16) % 16)).toInt8.toInt32), (.int (hexc (n % 16)).toInt8.toInt32)]) := by
  refine Wk.Con.intro (plainFor_of_name pn6) O0 (fun m => ef35 m (Int32.ofNat n) b) ?_
  intro W C
  replace C : Wk.Cx Z W "java/lang/Integer" "formatUnsignedInt" jdk_33_method_8_code 7 none := C
  refine Wk.iloadN (pc' := 1) C d_jdk_33m8_0 rfl rfl ?_
  refine Wk.istore (pc' := 3) C d_jdk_33m8_1 (Ls' := #[.val (.int (Int32.ofNat n)), .val (.int (4 : Int32)), .val (.ref b), .val (.int (3 : Int32)), .val (.int (3 : Int32)), .unset, .unset]) rfl rfl ?_
  refine Wk.iconst (pc' := 4) C d_jdk_33m8_3 (v := (1 : Int32)) rfl rfl ?_
  refine Wk.iloadN (pc' := 5) C d_jdk_33m8_4 rfl rfl ?_
  refine Wk.ishl (pc' := 6) C d_jdk_33m8_5 (v := (16 : Int32)) (by decide) rfl ?_
  refine Wk.istore (pc' := 8) C d_jdk_33m8_6 (Ls' := #[.val (.int (Int32.ofNat n)), .val (.int (4 : Int32)), .val (.ref b), .val (.int (3 : Int32)), .val (.int (3 : Int32)), .val (.int (16 : Int32)), .unset]) rfl rfl ?_
  refine Wk.iload (pc' := 10) C d_jdk_33m8_8 rfl rfl ?_
  refine Wk.iconst (pc' := 11) C d_jdk_33m8_10 (v := (1 : Int32)) rfl rfl ?_
  refine Wk.isub (pc' := 12) C d_jdk_33m8_11 (v := (15 : Int32)) (by decide) rfl ?_
  refine Wk.istore (pc' := 14) C d_jdk_33m8_12 (Ls' := #[.val (.int (Int32.ofNat n)), .val (.int (4 : Int32)), .val (.ref b), .val (.int (3 : Int32)), .val (.int (3 : Int32)), .val (.int (16 : Int32)), .val (.int (15 : Int32))]) rfl rfl ?_
  refine Wk.aloadN (pc' := 15) C d_jdk_33m8_14 rfl rfl rfl ?_
  refine Wk.iinc (pc' := 18) C d_jdk_33m8_15 rfl (v := (2 : Int32)) (by decide) (Ls' := #[.val (.int (Int32.ofNat n)), .val (.int (4 : Int32)), .val (.ref b), .val (.int (3 : Int32)), .val (.int (2 : Int32)), .val (.int (16 : Int32)), .val (.int (15 : Int32))]) rfl rfl ?_
  refine Wk.iload (pc' := 20) C d_jdk_33m8_18 rfl rfl ?_
  refine Wk.getS (pc' := 23) C d_jdk_33m8_20 (w25 hw) Via.refl (SG.ext O0) rfl ?_
  refine Wk.iloadN (pc' := 24) C d_jdk_33m8_23 rfl rfl ?_
  refine Wk.iload (pc' := 26) C d_jdk_33m8_24 rfl rfl ?_
  obtain ⟨v11, hv11⟩ : ∃ z : Int32, (Int32.ofNat n) &&& (15 : Int32) = z := ⟨_, rfl⟩
  refine Wk.iand (pc' := 27) C d_jdk_33m8_26 hv11 rfl ?_
  have f12 : v11 = (Int32.ofNat (n % 16)) := own_and (k := 4) (d := 16) (by omega) (by decide) (by decide) (by decide) hv11
  rw [f12]
  refine Wk.caload (pc' := 28) C d_jdk_33m8_27 (VG.ext O0) (Wk.nn32 (by omega)) (v := (.int (hexc (n % 16)))) (by rw [(own_n16 (n := (n % 16)) (by omega)).2]; exact Wk.getd (by rw [own_digLen]; omega)) rfl ?_
  obtain ⟨v13, hv13⟩ : ∃ z : Int32, (hexc (n % 16)).toInt8.toInt32 = z := ⟨_, rfl⟩
  refine Wk.i2b (pc' := 29) C d_jdk_33m8_28 hv13 rfl ?_
  refine Wk.bastore (pc' := 30) C d_jdk_33m8_29 VB (by decide) (show _ < _ from Nat.le_of_ble_eq_true rfl) (vs' := [(.int (0 : Int32)), (.int (0 : Int32)), (.int v13)]) (by rw [Wk.nar_i2b hv13]; rfl) gb rfl ?_
  intro h14 W14 V14 O14
  refine Wk.iloadN (pc' := 31) C d_jdk_33m8_30 rfl rfl ?_
  refine Wk.iloadN (pc' := 32) C d_jdk_33m8_31 rfl rfl ?_
  obtain ⟨v15, hv15⟩ : ∃ z : Int32, ((Int32.ofNat n).toUInt32 >>> ((4 : Int32) &&& 31).toUInt32).toInt32 = z := ⟨_, rfl⟩
  refine Wk.iushr (pc' := 33) C d_jdk_33m8_32 hv15 rfl ?_
  have f16 : v15 = (Int32.ofNat (n / 16)) := own_ushr (k := 4) (d := 16) (by omega) (by decide) (by decide) (by decide) hv15
  rw [f16]
  refine Wk.istoreN (pc' := 34) C d_jdk_33m8_33 (Ls' := #[.val (.int (Int32.ofNat (n / 16))), .val (.int (4 : Int32)), .val (.ref b), .val (.int (3 : Int32)), .val (.int (2 : Int32)), .val (.int (16 : Int32)), .val (.int (15 : Int32))]) rfl rfl ?_
  refine Wk.iload (pc' := 36) C d_jdk_33m8_34 rfl rfl ?_
  refine Wk.if_gt C d_jdk_33m8_36 (by decide) (pcT := 14) (by decide) (pc' := 39) rfl (fun q17 => ?_) (fun q => absurd q (by decide))
  refine Wk.aloadN (pc' := 15) C d_jdk_33m8_14 rfl rfl rfl ?_
  refine Wk.iinc (pc' := 18) C d_jdk_33m8_15 rfl (v := (1 : Int32)) (by decide) (Ls' := #[.val (.int (Int32.ofNat (n / 16))), .val (.int (4 : Int32)), .val (.ref b), .val (.int (3 : Int32)), .val (.int (1 : Int32)), .val (.int (16 : Int32)), .val (.int (15 : Int32))]) rfl rfl ?_
  refine Wk.iload (pc' := 20) C d_jdk_33m8_18 rfl rfl ?_
  refine Wk.getS (pc' := 23) C d_jdk_33m8_20 (w25 hw) Via.refl (SG.ext O14) rfl ?_
  refine Wk.iloadN (pc' := 24) C d_jdk_33m8_23 rfl rfl ?_
  refine Wk.iload (pc' := 26) C d_jdk_33m8_24 rfl rfl ?_
  obtain ⟨v18, hv18⟩ : ∃ z : Int32, (Int32.ofNat (n / 16)) &&& (15 : Int32) = z := ⟨_, rfl⟩
  refine Wk.iand (pc' := 27) C d_jdk_33m8_26 hv18 rfl ?_
  have f19 : v18 = (Int32.ofNat ((n / 16) % 16)) := own_and (k := 4) (d := 16) (by omega) (by decide) (by decide) (by decide) hv18
  rw [f19]
  refine Wk.caload (pc' := 28) C d_jdk_33m8_27 ((VG.ext O0).other W14 nG) (Wk.nn32 (by omega)) (v := (.int (hexc ((n / 16) % 16)))) (by rw [(own_n16 (n := ((n / 16) % 16)) (by omega)).2]; exact Wk.getd (by rw [own_digLen]; omega)) rfl ?_
  obtain ⟨v20, hv20⟩ : ∃ z : Int32, (hexc ((n / 16) % 16)).toInt8.toInt32 = z := ⟨_, rfl⟩
  refine Wk.i2b (pc' := 29) C d_jdk_33m8_28 hv20 rfl ?_
  refine Wk.bastore (pc' := 30) C d_jdk_33m8_29 V14 (by decide) (show _ < _ from Nat.le_of_ble_eq_true rfl) (vs' := [(.int (0 : Int32)), (.int v20), (.int v13)]) (by rw [Wk.nar_i2b hv20]; rfl) gb rfl ?_
  intro h21 W21 V21 O21
  refine Wk.iloadN (pc' := 31) C d_jdk_33m8_30 rfl rfl ?_
  refine Wk.iloadN (pc' := 32) C d_jdk_33m8_31 rfl rfl ?_
  obtain ⟨v22, hv22⟩ : ∃ z : Int32, ((Int32.ofNat (n / 16)).toUInt32 >>> ((4 : Int32) &&& 31).toUInt32).toInt32 = z := ⟨_, rfl⟩
  refine Wk.iushr (pc' := 33) C d_jdk_33m8_32 hv22 rfl ?_
  have f23 : v22 = (Int32.ofNat ((n / 16) / 16)) := own_ushr (k := 4) (d := 16) (by omega) (by decide) (by decide) (by decide) hv22
  rw [f23]
  refine Wk.istoreN (pc' := 34) C d_jdk_33m8_33 (Ls' := #[.val (.int (Int32.ofNat ((n / 16) / 16))), .val (.int (4 : Int32)), .val (.ref b), .val (.int (3 : Int32)), .val (.int (1 : Int32)), .val (.int (16 : Int32)), .val (.int (15 : Int32))]) rfl rfl ?_
  refine Wk.iload (pc' := 36) C d_jdk_33m8_34 rfl rfl ?_
  refine Wk.if_gt C d_jdk_33m8_36 (by decide) (pcT := 14) (by decide) (pc' := 39) rfl (fun q24 => ?_) (fun q => absurd q (by decide))
  refine Wk.aloadN (pc' := 15) C d_jdk_33m8_14 rfl rfl rfl ?_
  refine Wk.iinc (pc' := 18) C d_jdk_33m8_15 rfl (v := (0 : Int32)) (by decide) (Ls' := #[.val (.int (Int32.ofNat ((n / 16) / 16))), .val (.int (4 : Int32)), .val (.ref b), .val (.int (3 : Int32)), .val (.int (0 : Int32)), .val (.int (16 : Int32)), .val (.int (15 : Int32))]) rfl rfl ?_
  refine Wk.iload (pc' := 20) C d_jdk_33m8_18 rfl rfl ?_
  refine Wk.getS (pc' := 23) C d_jdk_33m8_20 (w25 hw) Via.refl (SG.ext O21) rfl ?_
  refine Wk.iloadN (pc' := 24) C d_jdk_33m8_23 rfl rfl ?_
  refine Wk.iload (pc' := 26) C d_jdk_33m8_24 rfl rfl ?_
  obtain ⟨v25, hv25⟩ : ∃ z : Int32, (Int32.ofNat ((n / 16) / 16)) &&& (15 : Int32) = z := ⟨_, rfl⟩
  refine Wk.iand (pc' := 27) C d_jdk_33m8_26 hv25 rfl ?_
  have f26 : v25 = (Int32.ofNat (((n / 16) / 16) % 16)) := own_and (k := 4) (d := 16) (by omega) (by decide) (by decide) (by decide) hv25
  rw [f26]
  refine Wk.caload (pc' := 28) C d_jdk_33m8_27 (((VG.ext O0).other W14 nG).other W21 nG) (Wk.nn32 (by omega)) (v := (.int (hexc (((n / 16) / 16) % 16)))) (by rw [(own_n16 (n := (((n / 16) / 16) % 16)) (by omega)).2]; exact Wk.getd (by rw [own_digLen]; omega)) rfl ?_
  obtain ⟨v27, hv27⟩ : ∃ z : Int32, (hexc (((n / 16) / 16) % 16)).toInt8.toInt32 = z := ⟨_, rfl⟩
  refine Wk.i2b (pc' := 29) C d_jdk_33m8_28 hv27 rfl ?_
  refine Wk.bastore (pc' := 30) C d_jdk_33m8_29 V21 (by decide) (show _ < _ from Nat.le_of_ble_eq_true rfl) (vs' := [(.int v27), (.int v20), (.int v13)]) (by rw [Wk.nar_i2b hv27]; rfl) gb rfl ?_
  intro h28 W28 V28 O28
  refine Wk.iloadN (pc' := 31) C d_jdk_33m8_30 rfl rfl ?_
  refine Wk.iloadN (pc' := 32) C d_jdk_33m8_31 rfl rfl ?_
  obtain ⟨v29, hv29⟩ : ∃ z : Int32, ((Int32.ofNat ((n / 16) / 16)).toUInt32 >>> ((4 : Int32) &&& 31).toUInt32).toInt32 = z := ⟨_, rfl⟩
  refine Wk.iushr (pc' := 33) C d_jdk_33m8_32 hv29 rfl ?_
  have f30 : v29 = (Int32.ofNat (((n / 16) / 16) / 16)) := own_ushr (k := 4) (d := 16) (by omega) (by decide) (by decide) (by decide) hv29
  rw [f30]
  refine Wk.istoreN (pc' := 34) C d_jdk_33m8_33 (Ls' := #[.val (.int (Int32.ofNat (((n / 16) / 16) / 16))), .val (.int (4 : Int32)), .val (.ref b), .val (.int (3 : Int32)), .val (.int (0 : Int32)), .val (.int (16 : Int32)), .val (.int (15 : Int32))]) rfl rfl ?_
  refine Wk.iload (pc' := 36) C d_jdk_33m8_34 rfl rfl ?_
  refine Wk.if_gt C d_jdk_33m8_36 (by decide) (pcT := 14) (by decide) (pc' := 39) rfl (fun q => absurd q (by decide)) (fun q31 => ?_)
  exact Wk.retV C d_jdk_33m8_39 (by decide) (by decide) ⟨rfl, ((((Keep.refl _ _).wr W14 (Or.inl (List.mem_singleton.mpr rfl))).wr W21 (Or.inl (List.mem_singleton.mpr rfl))).wr W28 (Or.inl (List.mem_singleton.mpr rfl))), by rw [hv27, hv20, hv13]; exact V28⟩
set_option maxRecDepth 65536 in
set_option maxHeartbeats 40000000 in
theorem own_fmt4 (l : Launch) {Z : State} {a0 : Array Value} (hw : Ws a0 Z) {h0 : Heap} (O0 : Ext Z.heap h0) (aG b : Addr) (n : Nat) (SG : Sta Z Z.heap "java/lang/Integer" "digits" "[C" (.ref aG)) (VG : Wk.Ary Z Z.heap aG .char (digL.map Value.int)) (hn : n < 65536) (gb : Z.heap.size ≤ b) (VB : Wk.Ary Z h0 b .byte [(.int (0 : Int32)), (.int (0 : Int32)), (.int (0 : Int32)), (.int (0 : Int32))]) (nG : aG ≠ b) :
    Wk.Con l Z (⟨"java/lang/Integer", "formatUnsignedInt", "(II[BI)V"⟩ : MethodName) jdk_33_method_8_code 7 none ({ frames := 0, cells := 0, slots := 0, locals := 0 } : Room) #[(.int (Int32.ofNat n)), (.int (4 : Int32)), (.ref b), (.int (4 : Int32))] h0 (fun v h' => v = none ∧ Keep h0 h' [b] ∧ Wk.Ary Z h' b .byte [(.int (hexc ((n / 16 / 16 / 16) % 16)).toInt8.toInt32), (.int (hexc ((n / 16 / 16) % 16)).toInt8.toInt32), (.int (hexc ((n / 16) % 16)).toInt8.toInt32), (.int (hexc (n % 16)).toInt8.toInt32)]) := by
  refine Wk.Con.intro (plainFor_of_name pn6) O0 (fun m => ef36 m (Int32.ofNat n) b) ?_
  intro W C
  replace C : Wk.Cx Z W "java/lang/Integer" "formatUnsignedInt" jdk_33_method_8_code 7 none := C
  refine Wk.iloadN (pc' := 1) C d_jdk_33m8_0 rfl rfl ?_
  refine Wk.istore (pc' := 3) C d_jdk_33m8_1 (Ls' := #[.val (.int (Int32.ofNat n)), .val (.int (4 : Int32)), .val (.ref b), .val (.int (4 : Int32)), .val (.int (4 : Int32)), .unset, .unset]) rfl rfl ?_
  refine Wk.iconst (pc' := 4) C d_jdk_33m8_3 (v := (1 : Int32)) rfl rfl ?_
  refine Wk.iloadN (pc' := 5) C d_jdk_33m8_4 rfl rfl ?_
  refine Wk.ishl (pc' := 6) C d_jdk_33m8_5 (v := (16 : Int32)) (by decide) rfl ?_
  refine Wk.istore (pc' := 8) C d_jdk_33m8_6 (Ls' := #[.val (.int (Int32.ofNat n)), .val (.int (4 : Int32)), .val (.ref b), .val (.int (4 : Int32)), .val (.int (4 : Int32)), .val (.int (16 : Int32)), .unset]) rfl rfl ?_
  refine Wk.iload (pc' := 10) C d_jdk_33m8_8 rfl rfl ?_
  refine Wk.iconst (pc' := 11) C d_jdk_33m8_10 (v := (1 : Int32)) rfl rfl ?_
  refine Wk.isub (pc' := 12) C d_jdk_33m8_11 (v := (15 : Int32)) (by decide) rfl ?_
  refine Wk.istore (pc' := 14) C d_jdk_33m8_12 (Ls' := #[.val (.int (Int32.ofNat n)), .val (.int (4 : Int32)), .val (.ref b), .val (.int (4 : Int32)), .val (.int (4 : Int32)), .val (.int (16 : Int32)), .val (.int (15 : Int32))]) rfl rfl ?_
  refine Wk.aloadN (pc' := 15) C d_jdk_33m8_14 rfl rfl rfl ?_
  refine Wk.iinc (pc' := 18) C d_jdk_33m8_15 rfl (v := (3 : Int32)) (by decide) (Ls' := #[.val (.int (Int32.ofNat n)), .val (.int (4 : Int32)), .val (.ref b), .val (.int (4 : Int32)), .val (.int (3 : Int32)), .val (.int (16 : Int32)), .val (.int (15 : Int32))]) rfl rfl ?_
  refine Wk.iload (pc' := 20) C d_jdk_33m8_18 rfl rfl ?_
  refine Wk.getS (pc' := 23) C d_jdk_33m8_20 (w25 hw) Via.refl (SG.ext O0) rfl ?_
  refine Wk.iloadN (pc' := 24) C d_jdk_33m8_23 rfl rfl ?_
  refine Wk.iload (pc' := 26) C d_jdk_33m8_24 rfl rfl ?_
  obtain ⟨v11, hv11⟩ : ∃ z : Int32, (Int32.ofNat n) &&& (15 : Int32) = z := ⟨_, rfl⟩
  refine Wk.iand (pc' := 27) C d_jdk_33m8_26 hv11 rfl ?_
  have f12 : v11 = (Int32.ofNat (n % 16)) := own_and (k := 4) (d := 16) (by omega) (by decide) (by decide) (by decide) hv11
  rw [f12]
  refine Wk.caload (pc' := 28) C d_jdk_33m8_27 (VG.ext O0) (Wk.nn32 (by omega)) (v := (.int (hexc (n % 16)))) (by rw [(own_n16 (n := (n % 16)) (by omega)).2]; exact Wk.getd (by rw [own_digLen]; omega)) rfl ?_
  obtain ⟨v13, hv13⟩ : ∃ z : Int32, (hexc (n % 16)).toInt8.toInt32 = z := ⟨_, rfl⟩
  refine Wk.i2b (pc' := 29) C d_jdk_33m8_28 hv13 rfl ?_
  refine Wk.bastore (pc' := 30) C d_jdk_33m8_29 VB (by decide) (show _ < _ from Nat.le_of_ble_eq_true rfl) (vs' := [(.int (0 : Int32)), (.int (0 : Int32)), (.int (0 : Int32)), (.int v13)]) (by rw [Wk.nar_i2b hv13]; rfl) gb rfl ?_
  intro h14 W14 V14 O14
  refine Wk.iloadN (pc' := 31) C d_jdk_33m8_30 rfl rfl ?_
  refine Wk.iloadN (pc' := 32) C d_jdk_33m8_31 rfl rfl ?_
  obtain ⟨v15, hv15⟩ : ∃ z : Int32, ((Int32.ofNat n).toUInt32 >>> ((4 : Int32) &&& 31).toUInt32).toInt32 = z := ⟨_, rfl⟩
  refine Wk.iushr (pc' := 33) C d_jdk_33m8_32 hv15 rfl ?_
  have f16 : v15 = (Int32.ofNat (n / 16)) := own_ushr (k := 4) (d := 16) (by omega) (by decide) (by decide) (by decide) hv15
  rw [f16]
  refine Wk.istoreN (pc' := 34) C d_jdk_33m8_33 (Ls' := #[.val (.int (Int32.ofNat (n / 16))), .val (.int (4 : Int32)), .val (.ref b), .val (.int (4 : Int32)), .val (.int (3 : Int32)), .val (.int (16 : Int32)), .val (.int (15 : Int32))]) rfl rfl ?_
  refine Wk.iload (pc' := 36) C d_jdk_33m8_34 rfl rfl ?_
  refine Wk.if_gt C d_jdk_33m8_36 (by decide) (pcT := 14) (by decide) (pc' := 39) rfl (fun q17 => ?_) (fun q => absurd q (by decide))
  refine Wk.aloadN (pc' := 15) C d_jdk_33m8_14 rfl rfl rfl ?_
  refine Wk.iinc (pc' := 18) C d_jdk_33m8_15 rfl (v := (2 : Int32)) (by decide) (Ls' := #[.val (.int (Int32.ofNat (n / 16))), .val (.int (4 : Int32)), .val (.ref b), .val (.int (4 : Int32)), .val (.int (2 : Int32)), .val (.int (16 : Int32)), .val (.int (15 : Int32))]) rfl rfl ?_
  refine Wk.iload (pc' := 20) C d_jdk_33m8_18 rfl rfl ?_
  refine Wk.getS (pc' := 23) C d_jdk_33m8_20 (w25 hw) Via.refl (SG.ext O14) rfl ?_
  refine Wk.iloadN (pc' := 24) C d_jdk_33m8_23 rfl rfl ?_
  refine Wk.iload (pc' := 26) C d_jdk_33m8_24 rfl rfl ?_
  obtain ⟨v18, hv18⟩ : ∃ z : Int32, (Int32.ofNat (n / 16)) &&& (15 : Int32) = z := ⟨_, rfl⟩
  refine Wk.iand (pc' := 27) C d_jdk_33m8_26 hv18 rfl ?_
  have f19 : v18 = (Int32.ofNat ((n / 16) % 16)) := own_and (k := 4) (d := 16) (by omega) (by decide) (by decide) (by decide) hv18
  rw [f19]
  refine Wk.caload (pc' := 28) C d_jdk_33m8_27 ((VG.ext O0).other W14 nG) (Wk.nn32 (by omega)) (v := (.int (hexc ((n / 16) % 16)))) (by rw [(own_n16 (n := ((n / 16) % 16)) (by omega)).2]; exact Wk.getd (by rw [own_digLen]; omega)) rfl ?_
  obtain ⟨v20, hv20⟩ : ∃ z : Int32, (hexc ((n / 16) % 16)).toInt8.toInt32 = z := ⟨_, rfl⟩
  refine Wk.i2b (pc' := 29) C d_jdk_33m8_28 hv20 rfl ?_
  refine Wk.bastore (pc' := 30) C d_jdk_33m8_29 V14 (by decide) (show _ < _ from Nat.le_of_ble_eq_true rfl) (vs' := [(.int (0 : Int32)), (.int (0 : Int32)), (.int v20), (.int v13)]) (by rw [Wk.nar_i2b hv20]; rfl) gb rfl ?_
  intro h21 W21 V21 O21
  refine Wk.iloadN (pc' := 31) C d_jdk_33m8_30 rfl rfl ?_
  refine Wk.iloadN (pc' := 32) C d_jdk_33m8_31 rfl rfl ?_
  obtain ⟨v22, hv22⟩ : ∃ z : Int32, ((Int32.ofNat (n / 16)).toUInt32 >>> ((4 : Int32) &&& 31).toUInt32).toInt32 = z := ⟨_, rfl⟩
  refine Wk.iushr (pc' := 33) C d_jdk_33m8_32 hv22 rfl ?_
  have f23 : v22 = (Int32.ofNat ((n / 16) / 16)) := own_ushr (k := 4) (d := 16) (by omega) (by decide) (by decide) (by decide) hv22
  rw [f23]
  refine Wk.istoreN (pc' := 34) C d_jdk_33m8_33 (Ls' := #[.val (.int (Int32.ofNat ((n / 16) / 16))), .val (.int (4 : Int32)), .val (.ref b), .val (.int (4 : Int32)), .val (.int (2 : Int32)), .val (.int (16 : Int32)), .val (.int (15 : Int32))]) rfl rfl ?_
  refine Wk.iload (pc' := 36) C d_jdk_33m8_34 rfl rfl ?_
  refine Wk.if_gt C d_jdk_33m8_36 (by decide) (pcT := 14) (by decide) (pc' := 39) rfl (fun q24 => ?_) (fun q => absurd q (by decide))
  refine Wk.aloadN (pc' := 15) C d_jdk_33m8_14 rfl rfl rfl ?_
  refine Wk.iinc (pc' := 18) C d_jdk_33m8_15 rfl (v := (1 : Int32)) (by decide) (Ls' := #[.val (.int (Int32.ofNat ((n / 16) / 16))), .val (.int (4 : Int32)), .val (.ref b), .val (.int (4 : Int32)), .val (.int (1 : Int32)), .val (.int (16 : Int32)), .val (.int (15 : Int32))]) rfl rfl ?_
  refine Wk.iload (pc' := 20) C d_jdk_33m8_18 rfl rfl ?_
  refine Wk.getS (pc' := 23) C d_jdk_33m8_20 (w25 hw) Via.refl (SG.ext O21) rfl ?_
  refine Wk.iloadN (pc' := 24) C d_jdk_33m8_23 rfl rfl ?_
  refine Wk.iload (pc' := 26) C d_jdk_33m8_24 rfl rfl ?_
  obtain ⟨v25, hv25⟩ : ∃ z : Int32, (Int32.ofNat ((n / 16) / 16)) &&& (15 : Int32) = z := ⟨_, rfl⟩
  refine Wk.iand (pc' := 27) C d_jdk_33m8_26 hv25 rfl ?_
  have f26 : v25 = (Int32.ofNat (((n / 16) / 16) % 16)) := own_and (k := 4) (d := 16) (by omega) (by decide) (by decide) (by decide) hv25
  rw [f26]
  refine Wk.caload (pc' := 28) C d_jdk_33m8_27 (((VG.ext O0).other W14 nG).other W21 nG) (Wk.nn32 (by omega)) (v := (.int (hexc (((n / 16) / 16) % 16)))) (by rw [(own_n16 (n := (((n / 16) / 16) % 16)) (by omega)).2]; exact Wk.getd (by rw [own_digLen]; omega)) rfl ?_
  obtain ⟨v27, hv27⟩ : ∃ z : Int32, (hexc (((n / 16) / 16) % 16)).toInt8.toInt32 = z := ⟨_, rfl⟩
  refine Wk.i2b (pc' := 29) C d_jdk_33m8_28 hv27 rfl ?_
  refine Wk.bastore (pc' := 30) C d_jdk_33m8_29 V21 (by decide) (show _ < _ from Nat.le_of_ble_eq_true rfl) (vs' := [(.int (0 : Int32)), (.int v27), (.int v20), (.int v13)]) (by rw [Wk.nar_i2b hv27]; rfl) gb rfl ?_
  intro h28 W28 V28 O28
  refine Wk.iloadN (pc' := 31) C d_jdk_33m8_30 rfl rfl ?_
  refine Wk.iloadN (pc' := 32) C d_jdk_33m8_31 rfl rfl ?_
  obtain ⟨v29, hv29⟩ : ∃ z : Int32, ((Int32.ofNat ((n / 16) / 16)).toUInt32 >>> ((4 : Int32) &&& 31).toUInt32).toInt32 = z := ⟨_, rfl⟩
  refine Wk.iushr (pc' := 33) C d_jdk_33m8_32 hv29 rfl ?_
  have f30 : v29 = (Int32.ofNat (((n / 16) / 16) / 16)) := own_ushr (k := 4) (d := 16) (by omega) (by decide) (by decide) (by decide) hv29
  rw [f30]
  refine Wk.istoreN (pc' := 34) C d_jdk_33m8_33 (Ls' := #[.val (.int (Int32.ofNat (((n / 16) / 16) / 16))), .val (.int (4 : Int32)), .val (.ref b), .val (.int (4 : Int32)), .val (.int (1 : Int32)), .val (.int (16 : Int32)), .val (.int (15 : Int32))]) rfl rfl ?_
  refine Wk.iload (pc' := 36) C d_jdk_33m8_34 rfl rfl ?_
  refine Wk.if_gt C d_jdk_33m8_36 (by decide) (pcT := 14) (by decide) (pc' := 39) rfl (fun q31 => ?_) (fun q => absurd q (by decide))
  refine Wk.aloadN (pc' := 15) C d_jdk_33m8_14 rfl rfl rfl ?_
  refine Wk.iinc (pc' := 18) C d_jdk_33m8_15 rfl (v := (0 : Int32)) (by decide) (Ls' := #[.val (.int (Int32.ofNat (((n / 16) / 16) / 16))), .val (.int (4 : Int32)), .val (.ref b), .val (.int (4 : Int32)), .val (.int (0 : Int32)), .val (.int (16 : Int32)), .val (.int (15 : Int32))]) rfl rfl ?_
  refine Wk.iload (pc' := 20) C d_jdk_33m8_18 rfl rfl ?_
  refine Wk.getS (pc' := 23) C d_jdk_33m8_20 (w25 hw) Via.refl (SG.ext O28) rfl ?_
  refine Wk.iloadN (pc' := 24) C d_jdk_33m8_23 rfl rfl ?_
  refine Wk.iload (pc' := 26) C d_jdk_33m8_24 rfl rfl ?_
  obtain ⟨v32, hv32⟩ : ∃ z : Int32, (Int32.ofNat (((n / 16) / 16) / 16)) &&& (15 : Int32) = z := ⟨_, rfl⟩
  refine Wk.iand (pc' := 27) C d_jdk_33m8_26 hv32 rfl ?_
  have f33 : v32 = (Int32.ofNat ((((n / 16) / 16) / 16) % 16)) := own_and (k := 4) (d := 16) (by omega) (by decide) (by decide) (by decide) hv32
  rw [f33]
  refine Wk.caload (pc' := 28) C d_jdk_33m8_27 ((((VG.ext O0).other W14 nG).other W21 nG).other W28 nG) (Wk.nn32 (by omega)) (v := (.int (hexc ((((n / 16) / 16) / 16) % 16)))) (by rw [(own_n16 (n := ((((n / 16) / 16) / 16) % 16)) (by omega)).2]; exact Wk.getd (by rw [own_digLen]; omega)) rfl ?_
  obtain ⟨v34, hv34⟩ : ∃ z : Int32, (hexc ((((n / 16) / 16) / 16) % 16)).toInt8.toInt32 = z := ⟨_, rfl⟩
  refine Wk.i2b (pc' := 29) C d_jdk_33m8_28 hv34 rfl ?_
  refine Wk.bastore (pc' := 30) C d_jdk_33m8_29 V28 (by decide) (show _ < _ from Nat.le_of_ble_eq_true rfl) (vs' := [(.int v34), (.int v27), (.int v20), (.int v13)]) (by rw [Wk.nar_i2b hv34]; rfl) gb rfl ?_
  intro h35 W35 V35 O35
  refine Wk.iloadN (pc' := 31) C d_jdk_33m8_30 rfl rfl ?_
  refine Wk.iloadN (pc' := 32) C d_jdk_33m8_31 rfl rfl ?_
  obtain ⟨v36, hv36⟩ : ∃ z : Int32, ((Int32.ofNat (((n / 16) / 16) / 16)).toUInt32 >>> ((4 : Int32) &&& 31).toUInt32).toInt32 = z := ⟨_, rfl⟩
  refine Wk.iushr (pc' := 33) C d_jdk_33m8_32 hv36 rfl ?_
  have f37 : v36 = (Int32.ofNat ((((n / 16) / 16) / 16) / 16)) := own_ushr (k := 4) (d := 16) (by omega) (by decide) (by decide) (by decide) hv36
  rw [f37]
  refine Wk.istoreN (pc' := 34) C d_jdk_33m8_33 (Ls' := #[.val (.int (Int32.ofNat ((((n / 16) / 16) / 16) / 16))), .val (.int (4 : Int32)), .val (.ref b), .val (.int (4 : Int32)), .val (.int (0 : Int32)), .val (.int (16 : Int32)), .val (.int (15 : Int32))]) rfl rfl ?_
  refine Wk.iload (pc' := 36) C d_jdk_33m8_34 rfl rfl ?_
  refine Wk.if_gt C d_jdk_33m8_36 (by decide) (pcT := 14) (by decide) (pc' := 39) rfl (fun q => absurd q (by decide)) (fun q38 => ?_)
  exact Wk.retV C d_jdk_33m8_39 (by decide) (by decide) ⟨rfl, (((((Keep.refl _ _).wr W14 (Or.inl (List.mem_singleton.mpr rfl))).wr W21 (Or.inl (List.mem_singleton.mpr rfl))).wr W28 (Or.inl (List.mem_singleton.mpr rfl))).wr W35 (Or.inl (List.mem_singleton.mpr rfl))), by rw [hv34, hv27, hv20, hv13]; exact V35⟩
set_option maxRecDepth 65536 in
set_option maxHeartbeats 40000000 in
theorem own_us0 (l : Launch) {Z : State} {a0 : Array Value} (hw : Ws a0 Z) {h0 : Heap} (O0 : Ext Z.heap h0) (hs : Sets Z) (aG : Addr) (n : Nat) (SG : Sta Z Z.heap "java/lang/Integer" "digits" "[C" (.ref aG)) (VG : Wk.Ary Z Z.heap aG .char (digL.map Value.int)) (hn : n < 65536) :
    Wk.Con l Z (⟨"java/lang/Integer", "toUnsignedString0", "(II)Ljava/lang/String;"⟩ : MethodName) jdk_33_method_7_code 5 (some (.object "java/lang/String")) ({ frames := 2, cells := 2, slots := 8, locals := 40 } : Room) #[(.int (Int32.ofNat n)), (.int (4 : Int32))] h0 (fun v h' => ∃ x' : Addr, v = some (.ref x') ∧ Ext h0 h' ∧ Str Z h' x' (hexL n)) := by
  refine Wk.Con.intro (plainFor_of_name pn6) O0 (fun m => ef37 m (Int32.ofNat n)) ?_
  intro W C
  replace C : Wk.Cx Z W "java/lang/Integer" "toUnsignedString0" jdk_33_method_7_code 5 (some (.object "java/lang/String")) := C
  obtain ⟨zc, fm, SC, hzc, -, -⟩ := hs
  refine Wk.bipush (pc' := 2) C d_jdk_33m7_0 (v := (32 : Int32)) rfl rfl ?_
  refine Wk.iloadN (pc' := 3) C d_jdk_33m7_2 rfl rfl ?_
  refine Wk.callS (pc' := 6) C d_jdk_33m7_3 (Wk.Con.pays C (Wn := 1) (own_nlz l hw O0 n hn) (w14 hw) (w7 hw) (by decide) (by decide)) Wk.cleanC (w12 hw) (w13 hw) (w7 hw) (w14 hw) (by decide) (argsL := [(.int (Int32.ofNat n))]) (st := [(.int (32 : Int32))]) rfl rfl (lenOf pd20 rfl) rfl (Nat.le_of_eq rfl) (k' := 0) rfl (n' := 0) rfl (by decide) (by decide) rfl ?_
  intro r11 h12 Q12 O12
  obtain ⟨z13, rfl, pz13, e14⟩ := Q12
  obtain rfl := e14.symm
  obtain ⟨v15, hv15⟩ : ∃ z : Int32, (32 : Int32) - z13 = z := ⟨_, rfl⟩
  refine Wk.isub (pc' := 7) C d_jdk_33m7_6 hv15 rfl ?_
  refine Wk.istoreN (pc' := 8) C d_jdk_33m7_7 (Ls' := #[.val (.int (Int32.ofNat n)), .val (.int (4 : Int32)), .val (.int v15), .unset, .unset]) rfl rfl ?_
  refine Wk.iloadN (pc' := 9) C d_jdk_33m7_8 rfl rfl ?_
  refine Wk.iloadN (pc' := 10) C d_jdk_33m7_9 rfl rfl ?_
  refine Wk.iconst (pc' := 11) C d_jdk_33m7_10 (v := (1 : Int32)) rfl rfl ?_
  refine Wk.isub (pc' := 12) C d_jdk_33m7_11 (v := (3 : Int32)) (by decide) rfl ?_
  obtain ⟨v16, hv16⟩ : ∃ z : Int32, v15 + (3 : Int32) = z := ⟨_, rfl⟩
  refine Wk.iadd (pc' := 13) C d_jdk_33m7_12 hv16 rfl ?_
  refine Wk.iloadN (pc' := 14) C d_jdk_33m7_13 rfl rfl ?_
  obtain ⟨v17, hv17⟩ : ∃ z : Int32, v16 / (4 : Int32) = z := ⟨_, rfl⟩
  refine Wk.idiv (pc' := 15) C d_jdk_33m7_14 (by decide) hv17 rfl ?_
  refine Wk.iconst (pc' := 16) C d_jdk_33m7_15 (v := (1 : Int32)) rfl rfl ?_
  refine Wk.callS (pc' := 19) C d_jdk_33m7_16 (Wk.Con.pays C (Wn := 0) (own_max2 l hw O0 v17 (1 : Int32)) (w18 hw) (w17 hw) (by decide) (by decide)) Wk.cleanC (w15 hw) (w16 hw) (w17 hw) (w18 hw) (by decide) (argsL := [(.int v17), (.int (1 : Int32))]) (st := []) rfl rfl (lenOf pd5 rfl) rfl (Nat.le_of_eq rfl) (k' := 0) rfl (n' := 0) rfl (by decide) (by decide) rfl ?_
  intro r18 h19 Q19 O19
  obtain ⟨rfl, e20⟩ := Q19
  obtain rfl := e20.symm
  obtain ⟨kk, hkk⟩ : ∃ z : Int32, (if v17 < (1 : Int32) then (1 : Int32) else v17) = z := ⟨_, rfl⟩
  have hK : (kk = 1 ∧ n < 16) ∨ (kk = 2 ∧ 16 ≤ n ∧ n < 256) ∨ (kk = 3 ∧ 256 ≤ n ∧ n < 4096) ∨ (kk = 4 ∧ 4096 ≤ n) := by
    obtain ⟨q1, q2, q3, q4⟩ := pz13
    have a1 := Wk.subI hv15
    have a2 := Wk.addI hv16
    have r1 := rng32 v15
    have r2 := rng32 v16
    have c32 : (32 : Int32).toInt = 32 := by decide
    have c1 : (1 : Int32).toInt = 1 := by decide
    have c2 : (2 : Int32).toInt = 2 := by decide
    have c3 : (3 : Int32).toInt = 3 := by decide
    have c4 : (4 : Int32).toInt = 4 := by decide
    have a3 := (c_idiv v16 4 4 c4 (by decide)).1
    rw [hv17] at a3
    rw [c32] at a1
    rw [c3] at a2
    by_cases k1 : v17 < 1
    · rw [if_pos k1] at hkk
      rw [Wk.ltI, c1] at k1
      refine Or.inl ⟨hkk.symm, ?_⟩
      omega
    · rw [if_neg k1] at hkk
      rw [Wk.ltI, c1] at k1
      rw [← hkk]
      by_cases m1 : n < 16
      · exact Or.inl ⟨Wk.eqI (by rw [c1]; omega), m1⟩
      · by_cases m2 : n < 256
        · exact Or.inr (Or.inl ⟨Wk.eqI (by rw [c2]; omega), by omega, m2⟩)
        · by_cases m3 : n < 4096
          · exact Or.inr (Or.inr (Or.inl ⟨Wk.eqI (by rw [c3]; omega), by omega, m3⟩))
          · exact Or.inr (Or.inr (Or.inr ⟨Wk.eqI (by rw [c4]; omega), by omega⟩))
  rw [hkk]
  rcases hK with ⟨rfl, hk⟩ | ⟨rfl, hk⟩ | ⟨rfl, hk⟩ | ⟨rfl, hk⟩
  · -- 1 digits
    refine Wk.istoreN (pc' := 20) C d_jdk_33m7_19 (Ls' := #[.val (.int (Int32.ofNat n)), .val (.int (4 : Int32)), .val (.int v15), .val (.int (1 : Int32)), .unset]) rfl rfl ?_
    refine Wk.getS (pc' := 23) C d_jdk_33m7_20 (w19 hw) Via.refl (SC.ext O0) rfl ?_
    refine Wk.if_eq C d_jdk_33m7_23 (by decide) (pcT := 50) (by decide) (pc' := 26) rfl (fun q => absurd q hzc) (fun q21 => ?_)
    refine Wk.iloadN (pc' := 27) C d_jdk_33m7_26 rfl rfl ?_
    refine Wk.newA (pc' := 29) C d_jdk_33m7_27 (ty := .byte) rfl (w21 hw) (by decide) (cap := 1) (by decide) (by decide) (k' := 1) rfl (n' := 1) rfl (by decide) (by decide) rfl rfl ?_
    intro a22 h23 ga22 za22 E23 Va22 O23
    have V24 : Wk.Ary Z h23 a22 .byte [(.int (0 : Int32))] := Va22
    refine Wk.astore (pc' := 31) C d_jdk_33m7_29 rfl (Ls' := #[.val (.int (Int32.ofNat n)), .val (.int (4 : Int32)), .val (.int v15), .val (.int (1 : Int32)), .val (.ref a22)]) rfl rfl ?_
    refine Wk.iloadN (pc' := 32) C d_jdk_33m7_31 rfl rfl ?_
    refine Wk.iloadN (pc' := 33) C d_jdk_33m7_32 rfl rfl ?_
    refine Wk.aload (pc' := 35) C d_jdk_33m7_33 rfl rfl rfl ?_
    refine Wk.iloadN (pc' := 36) C d_jdk_33m7_35 rfl rfl ?_
    refine Wk.callS (pc' := 39) C d_jdk_33m7_36 (Wk.Con.pays C (Wn := 0) (own_fmt1 l hw O23 aG a22 n SG VG hn za22 V24 (Nat.ne_of_lt (Nat.lt_of_lt_of_le (VG.ext O0).lt (Nat.le_of_eq ga22.symm)))) (w24 hw) (w7 hw) (by decide) (by decide)) Wk.cleanC (w22 hw) (w23 hw) (w7 hw) (w24 hw) (by decide) (argsL := [(.int (Int32.ofNat n)), (.int (4 : Int32)), (.ref a22), (.int (1 : Int32))]) (st := []) rfl rfl (lenOf pd21 rfl) rfl (Nat.le_of_eq rfl) (k' := 1) rfl (n' := 1) rfl (by decide) (by decide) rfl ?_
    intro r25 h26 Q26 O26
    obtain ⟨rfl, K26, V26⟩ := Q26
    refine Wk.newO (pc' := 42) C d_jdk_33m7_39 (w26 hw) (w27 hw) (w20 hw) (k' := 2) rfl (n' := 5) rfl (by decide) (by decide) rfl ?_
    intro a27 h28 ga27 za27 E28 Aa27 Da27 Ua27 O28
    have F29 : Fld Z h28 a27 "java/lang/String" "value" "[B" .null := Da27 (Or.inr (w36 hw)) (ty := (.array .byte)) (by decide)
    have F30 : Fld Z h28 a27 "java/lang/String" "coder" "B" (.int (0 : Int32)) := Da27 (Or.inr (w38 hw)) (ty := .byte) (by decide)
    refine Wk.dup (pc' := 43) C d_jdk_33m7_42 rfl rfl ?_
    refine Wk.aload (pc' := 45) C d_jdk_33m7_43 rfl rfl rfl ?_
    refine Wk.iconst (pc' := 46) C d_jdk_33m7_45 (v := (0 : Int32)) rfl rfl ?_
    refine Wk.callI (pc' := 49) C d_jdk_33m7_46 (a := a27) (Wk.Con.pays C (Wn := 1) (own_strInitB l hw O28 a27 a22 _ _ za27 Aa27 F29 F30) (w31 hw) (w20 hw) (by decide) (by decide)) Wk.cleanC rfl (w28 hw) (w29 hw) (w31 hw) (by decide) (argsL := [(.ref a22), (.int (0 : Int32))]) (st := [(.ref a27)]) rfl rfl (lenOf pd8 rfl) rfl (Nat.le_of_eq rfl) (k' := 2) rfl (n' := 5) rfl (by decide) (by decide) rfl ?_
    intro r31 h32 Q32 O32
    obtain ⟨rfl, Kh32, Ah32, Vh32, Ch32⟩ := Q32
    have hL : hexL n = [hexc (n % 16)] := if_pos hk
    have hI := own_hexIn n
    have hN := (own_hexLen n).2
    rw [hL] at hI hN
    have X33 : Ext h0 h26 := Wk.Ext.keep1 (Z := Z) E23 K26 (Nat.le_of_eq ga22.symm)
    have X34 : Ext h0 h28 := Wk.Ext.trans X33 E28
    have X35 : Ext h0 h32 := Wk.Ext.keep1 (Z := Z) X34 Kh32 (Nat.le_trans X33.1 (Nat.le_of_eq ga27.symm))
    have X36 : Ext h26 h32 := Wk.Ext.keep1 (Z := Z) E28 Kh32 (Nat.le_of_eq ga27.symm)
    exact Wk.retA C rfl rfl d_jdk_33m7_49 (by decide) (by decide) ⟨_, rfl, X35, by rw [hL]; exact ⟨Ah32, Ch32, ⟨_, Vh32, (V26.ext X36)⟩, hI, by omega⟩⟩
  · -- 2 digits
    refine Wk.istoreN (pc' := 20) C d_jdk_33m7_19 (Ls' := #[.val (.int (Int32.ofNat n)), .val (.int (4 : Int32)), .val (.int v15), .val (.int (2 : Int32)), .unset]) rfl rfl ?_
    refine Wk.getS (pc' := 23) C d_jdk_33m7_20 (w19 hw) Via.refl (SC.ext O0) rfl ?_
    refine Wk.if_eq C d_jdk_33m7_23 (by decide) (pcT := 50) (by decide) (pc' := 26) rfl (fun q => absurd q hzc) (fun q37 => ?_)
    refine Wk.iloadN (pc' := 27) C d_jdk_33m7_26 rfl rfl ?_
    refine Wk.newA (pc' := 29) C d_jdk_33m7_27 (ty := .byte) rfl (w21 hw) (by decide) (cap := 2) (by decide) (by decide) (k' := 1) rfl (n' := 2) rfl (by decide) (by decide) rfl rfl ?_
    intro a38 h39 ga38 za38 E39 Va38 O39
    have V40 : Wk.Ary Z h39 a38 .byte [(.int (0 : Int32)), (.int (0 : Int32))] := Va38
    refine Wk.astore (pc' := 31) C d_jdk_33m7_29 rfl (Ls' := #[.val (.int (Int32.ofNat n)), .val (.int (4 : Int32)), .val (.int v15), .val (.int (2 : Int32)), .val (.ref a38)]) rfl rfl ?_
    refine Wk.iloadN (pc' := 32) C d_jdk_33m7_31 rfl rfl ?_
    refine Wk.iloadN (pc' := 33) C d_jdk_33m7_32 rfl rfl ?_
    refine Wk.aload (pc' := 35) C d_jdk_33m7_33 rfl rfl rfl ?_
    refine Wk.iloadN (pc' := 36) C d_jdk_33m7_35 rfl rfl ?_
    refine Wk.callS (pc' := 39) C d_jdk_33m7_36 (Wk.Con.pays C (Wn := 0) (own_fmt2 l hw O39 aG a38 n SG VG hn za38 V40 (Nat.ne_of_lt (Nat.lt_of_lt_of_le (VG.ext O0).lt (Nat.le_of_eq ga38.symm)))) (w24 hw) (w7 hw) (by decide) (by decide)) Wk.cleanC (w22 hw) (w23 hw) (w7 hw) (w24 hw) (by decide) (argsL := [(.int (Int32.ofNat n)), (.int (4 : Int32)), (.ref a38), (.int (2 : Int32))]) (st := []) rfl rfl (lenOf pd21 rfl) rfl (Nat.le_of_eq rfl) (k' := 1) rfl (n' := 2) rfl (by decide) (by decide) rfl ?_
    intro r41 h42 Q42 O42
    obtain ⟨rfl, K42, V42⟩ := Q42
    refine Wk.newO (pc' := 42) C d_jdk_33m7_39 (w26 hw) (w27 hw) (w20 hw) (k' := 2) rfl (n' := 6) rfl (by decide) (by decide) rfl ?_
    intro a43 h44 ga43 za43 E44 Aa43 Da43 Ua43 O44
    have F45 : Fld Z h44 a43 "java/lang/String" "value" "[B" .null := Da43 (Or.inr (w36 hw)) (ty := (.array .byte)) (by decide)
    have F46 : Fld Z h44 a43 "java/lang/String" "coder" "B" (.int (0 : Int32)) := Da43 (Or.inr (w38 hw)) (ty := .byte) (by decide)
    refine Wk.dup (pc' := 43) C d_jdk_33m7_42 rfl rfl ?_
    refine Wk.aload (pc' := 45) C d_jdk_33m7_43 rfl rfl rfl ?_
    refine Wk.iconst (pc' := 46) C d_jdk_33m7_45 (v := (0 : Int32)) rfl rfl ?_
    refine Wk.callI (pc' := 49) C d_jdk_33m7_46 (a := a43) (Wk.Con.pays C (Wn := 1) (own_strInitB l hw O44 a43 a38 _ _ za43 Aa43 F45 F46) (w31 hw) (w20 hw) (by decide) (by decide)) Wk.cleanC rfl (w28 hw) (w29 hw) (w31 hw) (by decide) (argsL := [(.ref a38), (.int (0 : Int32))]) (st := [(.ref a43)]) rfl rfl (lenOf pd8 rfl) rfl (Nat.le_of_eq rfl) (k' := 2) rfl (n' := 6) rfl (by decide) (by decide) rfl ?_
    intro r47 h48 Q48 O48
    obtain ⟨rfl, Kh48, Ah48, Vh48, Ch48⟩ := Q48
    have hL : hexL n = [hexc ((n / 16) % 16), hexc (n % 16)] := (if_neg (by omega)).trans (if_pos hk.2)
    have hI := own_hexIn n
    have hN := (own_hexLen n).2
    rw [hL] at hI hN
    have X49 : Ext h0 h42 := Wk.Ext.keep1 (Z := Z) E39 K42 (Nat.le_of_eq ga38.symm)
    have X50 : Ext h0 h44 := Wk.Ext.trans X49 E44
    have X51 : Ext h0 h48 := Wk.Ext.keep1 (Z := Z) X50 Kh48 (Nat.le_trans X49.1 (Nat.le_of_eq ga43.symm))
    have X52 : Ext h42 h48 := Wk.Ext.keep1 (Z := Z) E44 Kh48 (Nat.le_of_eq ga43.symm)
    exact Wk.retA C rfl rfl d_jdk_33m7_49 (by decide) (by decide) ⟨_, rfl, X51, by rw [hL]; exact ⟨Ah48, Ch48, ⟨_, Vh48, (V42.ext X52)⟩, hI, by omega⟩⟩
  · -- 3 digits
    refine Wk.istoreN (pc' := 20) C d_jdk_33m7_19 (Ls' := #[.val (.int (Int32.ofNat n)), .val (.int (4 : Int32)), .val (.int v15), .val (.int (3 : Int32)), .unset]) rfl rfl ?_
    refine Wk.getS (pc' := 23) C d_jdk_33m7_20 (w19 hw) Via.refl (SC.ext O0) rfl ?_
    refine Wk.if_eq C d_jdk_33m7_23 (by decide) (pcT := 50) (by decide) (pc' := 26) rfl (fun q => absurd q hzc) (fun q53 => ?_)
    refine Wk.iloadN (pc' := 27) C d_jdk_33m7_26 rfl rfl ?_
    refine Wk.newA (pc' := 29) C d_jdk_33m7_27 (ty := .byte) rfl (w21 hw) (by decide) (cap := 3) (by decide) (by decide) (k' := 1) rfl (n' := 3) rfl (by decide) (by decide) rfl rfl ?_
    intro a54 h55 ga54 za54 E55 Va54 O55
    have V56 : Wk.Ary Z h55 a54 .byte [(.int (0 : Int32)), (.int (0 : Int32)), (.int (0 : Int32))] := Va54
    refine Wk.astore (pc' := 31) C d_jdk_33m7_29 rfl (Ls' := #[.val (.int (Int32.ofNat n)), .val (.int (4 : Int32)), .val (.int v15), .val (.int (3 : Int32)), .val (.ref a54)]) rfl rfl ?_
    refine Wk.iloadN (pc' := 32) C d_jdk_33m7_31 rfl rfl ?_
    refine Wk.iloadN (pc' := 33) C d_jdk_33m7_32 rfl rfl ?_
    refine Wk.aload (pc' := 35) C d_jdk_33m7_33 rfl rfl rfl ?_
    refine Wk.iloadN (pc' := 36) C d_jdk_33m7_35 rfl rfl ?_
    refine Wk.callS (pc' := 39) C d_jdk_33m7_36 (Wk.Con.pays C (Wn := 0) (own_fmt3 l hw O55 aG a54 n SG VG hn za54 V56 (Nat.ne_of_lt (Nat.lt_of_lt_of_le (VG.ext O0).lt (Nat.le_of_eq ga54.symm)))) (w24 hw) (w7 hw) (by decide) (by decide)) Wk.cleanC (w22 hw) (w23 hw) (w7 hw) (w24 hw) (by decide) (argsL := [(.int (Int32.ofNat n)), (.int (4 : Int32)), (.ref a54), (.int (3 : Int32))]) (st := []) rfl rfl (lenOf pd21 rfl) rfl (Nat.le_of_eq rfl) (k' := 1) rfl (n' := 3) rfl (by decide) (by decide) rfl ?_
    intro r57 h58 Q58 O58
    obtain ⟨rfl, K58, V58⟩ := Q58
    refine Wk.newO (pc' := 42) C d_jdk_33m7_39 (w26 hw) (w27 hw) (w20 hw) (k' := 2) rfl (n' := 7) rfl (by decide) (by decide) rfl ?_
    intro a59 h60 ga59 za59 E60 Aa59 Da59 Ua59 O60
    have F61 : Fld Z h60 a59 "java/lang/String" "value" "[B" .null := Da59 (Or.inr (w36 hw)) (ty := (.array .byte)) (by decide)
    have F62 : Fld Z h60 a59 "java/lang/String" "coder" "B" (.int (0 : Int32)) := Da59 (Or.inr (w38 hw)) (ty := .byte) (by decide)
    refine Wk.dup (pc' := 43) C d_jdk_33m7_42 rfl rfl ?_
    refine Wk.aload (pc' := 45) C d_jdk_33m7_43 rfl rfl rfl ?_
    refine Wk.iconst (pc' := 46) C d_jdk_33m7_45 (v := (0 : Int32)) rfl rfl ?_
    refine Wk.callI (pc' := 49) C d_jdk_33m7_46 (a := a59) (Wk.Con.pays C (Wn := 1) (own_strInitB l hw O60 a59 a54 _ _ za59 Aa59 F61 F62) (w31 hw) (w20 hw) (by decide) (by decide)) Wk.cleanC rfl (w28 hw) (w29 hw) (w31 hw) (by decide) (argsL := [(.ref a54), (.int (0 : Int32))]) (st := [(.ref a59)]) rfl rfl (lenOf pd8 rfl) rfl (Nat.le_of_eq rfl) (k' := 2) rfl (n' := 7) rfl (by decide) (by decide) rfl ?_
    intro r63 h64 Q64 O64
    obtain ⟨rfl, Kh64, Ah64, Vh64, Ch64⟩ := Q64
    have hL : hexL n = [hexc ((n / 16 / 16) % 16), hexc ((n / 16) % 16), hexc (n % 16)] := (if_neg (by omega)).trans ((if_neg (by omega)).trans (if_pos hk.2))
    have hI := own_hexIn n
    have hN := (own_hexLen n).2
    rw [hL] at hI hN
    have X65 : Ext h0 h58 := Wk.Ext.keep1 (Z := Z) E55 K58 (Nat.le_of_eq ga54.symm)
    have X66 : Ext h0 h60 := Wk.Ext.trans X65 E60
    have X67 : Ext h0 h64 := Wk.Ext.keep1 (Z := Z) X66 Kh64 (Nat.le_trans X65.1 (Nat.le_of_eq ga59.symm))
    have X68 : Ext h58 h64 := Wk.Ext.keep1 (Z := Z) E60 Kh64 (Nat.le_of_eq ga59.symm)
    exact Wk.retA C rfl rfl d_jdk_33m7_49 (by decide) (by decide) ⟨_, rfl, X67, by rw [hL]; exact ⟨Ah64, Ch64, ⟨_, Vh64, (V58.ext X68)⟩, hI, by omega⟩⟩
  · -- 4 digits
    refine Wk.istoreN (pc' := 20) C d_jdk_33m7_19 (Ls' := #[.val (.int (Int32.ofNat n)), .val (.int (4 : Int32)), .val (.int v15), .val (.int (4 : Int32)), .unset]) rfl rfl ?_
    refine Wk.getS (pc' := 23) C d_jdk_33m7_20 (w19 hw) Via.refl (SC.ext O0) rfl ?_
    refine Wk.if_eq C d_jdk_33m7_23 (by decide) (pcT := 50) (by decide) (pc' := 26) rfl (fun q => absurd q hzc) (fun q69 => ?_)
    refine Wk.iloadN (pc' := 27) C d_jdk_33m7_26 rfl rfl ?_
    refine Wk.newA (pc' := 29) C d_jdk_33m7_27 (ty := .byte) rfl (w21 hw) (by decide) (cap := 4) (by decide) (by decide) (k' := 1) rfl (n' := 4) rfl (by decide) (by decide) rfl rfl ?_
    intro a70 h71 ga70 za70 E71 Va70 O71
    have V72 : Wk.Ary Z h71 a70 .byte [(.int (0 : Int32)), (.int (0 : Int32)), (.int (0 : Int32)), (.int (0 : Int32))] := Va70
    refine Wk.astore (pc' := 31) C d_jdk_33m7_29 rfl (Ls' := #[.val (.int (Int32.ofNat n)), .val (.int (4 : Int32)), .val (.int v15), .val (.int (4 : Int32)), .val (.ref a70)]) rfl rfl ?_
    refine Wk.iloadN (pc' := 32) C d_jdk_33m7_31 rfl rfl ?_
    refine Wk.iloadN (pc' := 33) C d_jdk_33m7_32 rfl rfl ?_
    refine Wk.aload (pc' := 35) C d_jdk_33m7_33 rfl rfl rfl ?_
    refine Wk.iloadN (pc' := 36) C d_jdk_33m7_35 rfl rfl ?_
    refine Wk.callS (pc' := 39) C d_jdk_33m7_36 (Wk.Con.pays C (Wn := 0) (own_fmt4 l hw O71 aG a70 n SG VG hn za70 V72 (Nat.ne_of_lt (Nat.lt_of_lt_of_le (VG.ext O0).lt (Nat.le_of_eq ga70.symm)))) (w24 hw) (w7 hw) (by decide) (by decide)) Wk.cleanC (w22 hw) (w23 hw) (w7 hw) (w24 hw) (by decide) (argsL := [(.int (Int32.ofNat n)), (.int (4 : Int32)), (.ref a70), (.int (4 : Int32))]) (st := []) rfl rfl (lenOf pd21 rfl) rfl (Nat.le_of_eq rfl) (k' := 1) rfl (n' := 4) rfl (by decide) (by decide) rfl ?_
    intro r73 h74 Q74 O74
    obtain ⟨rfl, K74, V74⟩ := Q74
    refine Wk.newO (pc' := 42) C d_jdk_33m7_39 (w26 hw) (w27 hw) (w20 hw) (k' := 2) rfl (n' := 8) rfl (by decide) (by decide) rfl ?_
    intro a75 h76 ga75 za75 E76 Aa75 Da75 Ua75 O76
    have F77 : Fld Z h76 a75 "java/lang/String" "value" "[B" .null := Da75 (Or.inr (w36 hw)) (ty := (.array .byte)) (by decide)
    have F78 : Fld Z h76 a75 "java/lang/String" "coder" "B" (.int (0 : Int32)) := Da75 (Or.inr (w38 hw)) (ty := .byte) (by decide)
    refine Wk.dup (pc' := 43) C d_jdk_33m7_42 rfl rfl ?_
    refine Wk.aload (pc' := 45) C d_jdk_33m7_43 rfl rfl rfl ?_
    refine Wk.iconst (pc' := 46) C d_jdk_33m7_45 (v := (0 : Int32)) rfl rfl ?_
    refine Wk.callI (pc' := 49) C d_jdk_33m7_46 (a := a75) (Wk.Con.pays C (Wn := 1) (own_strInitB l hw O76 a75 a70 _ _ za75 Aa75 F77 F78) (w31 hw) (w20 hw) (by decide) (by decide)) Wk.cleanC rfl (w28 hw) (w29 hw) (w31 hw) (by decide) (argsL := [(.ref a70), (.int (0 : Int32))]) (st := [(.ref a75)]) rfl rfl (lenOf pd8 rfl) rfl (Nat.le_of_eq rfl) (k' := 2) rfl (n' := 8) rfl (by decide) (by decide) rfl ?_
    intro r79 h80 Q80 O80
    obtain ⟨rfl, Kh80, Ah80, Vh80, Ch80⟩ := Q80
    have hL : hexL n = [hexc ((n / 16 / 16 / 16) % 16), hexc ((n / 16 / 16) % 16), hexc ((n / 16) % 16), hexc (n % 16)] := (if_neg (by omega)).trans ((if_neg (by omega)).trans (if_neg (by omega)))
    have hI := own_hexIn n
    have hN := (own_hexLen n).2
    rw [hL] at hI hN
    have X81 : Ext h0 h74 := Wk.Ext.keep1 (Z := Z) E71 K74 (Nat.le_of_eq ga70.symm)
    have X82 : Ext h0 h76 := Wk.Ext.trans X81 E76
    have X83 : Ext h0 h80 := Wk.Ext.keep1 (Z := Z) X82 Kh80 (Nat.le_trans X81.1 (Nat.le_of_eq ga75.symm))
    have X84 : Ext h74 h80 := Wk.Ext.keep1 (Z := Z) E76 Kh80 (Nat.le_of_eq ga75.symm)
    exact Wk.retA C rfl rfl d_jdk_33m7_49 (by decide) (by decide) ⟨_, rfl, X83, by rw [hL]; exact ⟨Ah80, Ch80, ⟨_, Vh80, (V74.ext X84)⟩, hI, by omega⟩⟩
set_option maxRecDepth 65536 in
set_option maxHeartbeats 40000000 in
theorem own_hexS (l : Launch) {Z : State} {a0 : Array Value} (hw : Ws a0 Z) {h0 : Heap} (O0 : Ext Z.heap h0) (hs : Sets Z) (aG : Addr) (n : Nat) (SG : Sta Z Z.heap "java/lang/Integer" "digits" "[C" (.ref aG)) (VG : Wk.Ary Z Z.heap aG .char (digL.map Value.int)) (hn : n < 65536) :
    Wk.Con l Z (⟨"java/lang/Integer", "toHexString", "(I)Ljava/lang/String;"⟩ : MethodName) jdk_33_method_4_code 1 (some (.object "java/lang/String")) ({ frames := 3, cells := 2, slots := 8, locals := 58 } : Room) #[(.int (Int32.ofNat n))] h0 (fun v h' => ∃ x' : Addr, v = some (.ref x') ∧ Ext h0 h' ∧ Str Z h' x' (hexL n)) := by
  refine Wk.Con.intro (plainFor_of_name pn6) O0 (fun m => ef38 m (Int32.ofNat n)) ?_
  intro W C
  replace C : Wk.Cx Z W "java/lang/Integer" "toHexString" jdk_33_method_4_code 1 (some (.object "java/lang/String")) := C
  refine Wk.iloadN (pc' := 1) C d_jdk_33m4_0 rfl rfl ?_
  refine Wk.iconst (pc' := 2) C d_jdk_33m4_1 (v := (4 : Int32)) rfl rfl ?_
  refine Wk.callS (pc' := 5) C d_jdk_33m4_2 (Wk.Con.pays C (Wn := 0) (own_us0 l hw O0 hs aG n SG VG hn) (w11 hw) (w7 hw) (by decide) (by decide)) Wk.cleanC (w9 hw) (w10 hw) (w7 hw) (w11 hw) (by decide) (argsL := [(.int (Int32.ofNat n)), (.int (4 : Int32))]) (st := []) rfl rfl (lenOf pd22 rfl) rfl (Nat.le_of_eq rfl) (k' := 2) rfl (n' := 8) rfl (by decide) (by decide) rfl ?_
  intro r11 h12 Q12 O12
  obtain ⟨x13, rfl, E12, S12⟩ := Q12
  exact Wk.retA C rfl rfl d_jdk_33m4_5 (by decide) (by decide) ⟨_, rfl, E12, S12⟩
set_option maxRecDepth 65536 in
set_option maxHeartbeats 40000000 in
theorem own_sub1 (l : Launch) {Z : State} {a0 : Array Value} (hw : Ws a0 Z) (hE : EW Z a0 EL) {h0 : Heap} (O0 : Ext Z.heap h0) (hs : Sets Z) (x : Addr) (cs : List Int32) (s : Nat) (F : Str Z h0 x cs) (hl4 : cs.length ≤ 4) (hse : s ≤ cs.length) :
    Ww.Con l Z EL (⟨"java/lang/String", "substring", "(I)Ljava/lang/String;"⟩ : MethodName) jdk_42_method_91_code 2 (some (.object "java/lang/String")) ({ frames := 5, cells := 4, slots := 24, locals := 96 } : Room) #[(.ref x), (.int (Int32.ofNat s))] h0 (fun v h' => ∃ x' : Addr, v = some (.ref x') ∧ Ext h0 h' ∧ Str Z h' x' ((cs.drop s).take (cs.length - s))) := by
  refine Ww.Con.intro (plainFor_of_name pn0) O0 (fun m => ef39 m x (Int32.ofNat s)) ?_
  intro W C
  replace C : Wk.Cx Z W "java/lang/String" "substring" jdk_42_method_91_code 2 (some (.object "java/lang/String")) := C
  refine Ww.aloadN (pc' := 1) C d_jdk_42m91_0 rfl rfl rfl ?_
  refine Ww.iloadN (pc' := 2) C d_jdk_42m91_1 rfl rfl ?_
  refine Ww.aloadN (pc' := 3) C d_jdk_42m91_2 rfl rfl rfl ?_
  refine Ww.callV (pc' := 6) C d_jdk_42m91_3 (a := x) (fun vm0 C => (Wk.Con.pays C (Wn := 2) (own_length l hw O0 hs x cs F) (w74 hw) (w20 hw) (by decide) (by decide))) Wk.cleanC (fun v h' q => Or.inl q.2) F.exa (w115 hw) (w71 hw) (fun vm0 hZ0 => notFace_of_selects (args := #[]) (mvT (s := W.s.setVm vm0) hZ0 (w73 hw))) (w73 hw) (w72 hw) (by decide) (argsL := []) (st := [(.int (Int32.ofNat s)), (.ref x)]) rfl rfl (lenOf pd9 rfl) rfl (Nat.le_of_eq rfl) (k' := 0) rfl (n' := 0) rfl (by decide) (by decide) rfl ?_
  intro r11 h12 Q12 O12
  obtain ⟨rfl, e13⟩ := Q12
  obtain rfl := e13.symm
  refine Ww.callVS (pc' := 9) C d_jdk_42m91_6 (a := x) (Ww.Con.pays hE (Wn := 0) (own_substring l hw hE O0 hs x cs s cs.length F hl4 hse (Nat.le_refl _)) (w120 hw) (w20 hw) (by decide) (by decide)) Wk.cleanC F.exa (w116 hw) (w117 hw) (fun vm0 hZ0 => notFace_of_selects (args := #[]) (mvT (s := W.s.setVm vm0) hZ0 (w119 hw))) (w119 hw) (w118 hw) (by decide) (argsL := [(.int (Int32.ofNat s)), (.int (Int32.ofNat cs.length))]) (st := []) rfl rfl (lenOf pd22 rfl) rfl (Nat.le_of_eq rfl) (k' := 4) rfl (n' := 24) rfl (by decide) (by decide) rfl ?_
  intro r14 h15 Q15 O15
  obtain ⟨x16, rfl, E15, S15⟩ := Q15
  exact Ww.retA C hE rfl rfl d_jdk_42m91_9 (by decide) (by decide) ⟨_, rfl, E15, S15⟩
set_option maxRecDepth 65536 in
set_option maxHeartbeats 40000000 in
theorem own_escape (l : Launch) {Z : State} {a0 : Array Value} (hw : Ws a0 Z) (hE : EW Z a0 EL) {h0 : Heap} (O0 : Ext Z.heap h0) (hs : Sets Z) (aG : Addr) (n : Nat) (SG : Sta Z Z.heap "java/lang/Integer" "digits" "[C" (.ref aG)) (VG : Wk.Ary Z Z.heap aG .char (digL.map Value.int)) (hn : n < 65536) :
    Ww.Con l Z EL (⟨"com/example/isomorph/isomorph/JavaNames", "unicodeEscape", "(C)Ljava/lang/String;"⟩ : MethodName) prog_1_method_2_code 2 (some (.object "java/lang/String")) ({ frames := 6, cells := 16, slots := 160, locals := 116 } : Room) #[(.int (Int32.ofNat n))] h0 (fun v h' => ∃ x' : Addr, v = some (.ref x') ∧ Ext h0 h' ∧ Str Z h' x' [92, 117, hexc (n / 4096 % 16), hexc (n / 256 % 16), hexc (n / 16 % 16), hexc (n % 16)]) := by
  refine Ww.Con.intro (plainFor_of_name pn7) O0 (fun m => ef40 m (Int32.ofNat n)) ?_
  intro W C
  replace C : Wk.Cx Z W "com/example/isomorph/isomorph/JavaNames" "unicodeEscape" prog_1_method_2_code 2 (some (.object "java/lang/String")) := C
  refine Ww.iloadN (pc' := 1) C d_prog_1m2_0 rfl rfl ?_
  refine Ww.callS (pc' := 4) C d_prog_1m2_1 (fun vm0 C => (Wk.Con.pays C (Wn := 0) (own_hexS l hw O0 hs aG n SG VG hn) (w8 hw) (w7 hw) (by decide) (by decide))) Wk.cleanC (fun v h' q => by obtain ⟨_, -, e, -⟩ := q; exact Or.inr (Or.inl e)) (w5 hw) (w6 hw) (w7 hw) (w8 hw) (by decide) (argsL := [(.int (Int32.ofNat n))]) (st := []) rfl rfl (lenOf pd23 rfl) rfl (Nat.le_of_eq rfl) (k' := 2) rfl (n' := 8) rfl (by decide) (by decide) rfl ?_
  intro r11 h12 Q12 O12
  obtain ⟨x13, rfl, E12, S12⟩ := Q12
  refine Ww.astoreN (pc' := 5) C d_prog_1m2_4 rfl (Ls' := #[.val (.int (Int32.ofNat n)), .val (.ref x13)]) rfl rfl ?_
  refine Ww.newO (pc' := 8) C d_prog_1m2_5 (w39 hw) (w40 hw) (w41 hw) (k' := 3) rfl (n' := 12) rfl (by decide) (by decide) rfl ?_
  intro a14 h15 ga14 za14 E15 Aa14 Da14 Ua14 O15
  have F16 : Fld Z h15 a14 "java/lang/AbstractStringBuilder" "value" "[B" .null := Da14 (Or.inl (w54 hw)) (ty := (.array .byte)) (by decide)
  have F17 : Fld Z h15 a14 "java/lang/AbstractStringBuilder" "coder" "B" (.int (0 : Int32)) := Da14 (Or.inl (w56 hw)) (ty := .byte) (by decide)
  have F18 : Fld Z h15 a14 "java/lang/AbstractStringBuilder" "count" "I" (.int (0 : Int32)) := Da14 (Or.inl (w82 hw)) (ty := .int) (by decide)
  refine Ww.dup (pc' := 9) C d_prog_1m2_8 rfl rfl ?_
  refine Ww.callIN (pc' := 12) C d_prog_1m2_9 (a := a14) (fun vm0 C => (Wk.Con.pays C (Wn := 1) (own_sb0 l hw O15 hs a14 za14 Aa14 F16 F17 F18) (w44 hw) (w41 hw) (by decide) (by decide))) (S' := fun t21 => [t21, a14]) Wk.cleanC (fun t21 v h' q => ⟨[a14], allS (Or.inl (List.mem_of_getElem? (i := 0) rfl)) all0, q.2.2.2.1, allS (Or.inr ⟨Nat.le_of_eq q.2.1.symm, q.2.2.2.2.2.2.2.2.lt⟩) (fun x hx => Or.inl hx)⟩) rfl (w42 hw) (w43 hw) (w44 hw) (by decide) (argsL := []) (st := [(.ref a14)]) rfl rfl (lenOf pd24 rfl) rfl (Nat.le_of_eq rfl) (k' := 4) rfl (n' := 28) rfl (by decide) (by decide) rfl ?_
  intro t21 r19 h20 Q20 O20
  obtain ⟨rfl, gt21, zt21, K20, A20, U20, C20, N20, V20⟩ := Q20
  refine Ww.ldcS (pc' := 14) C d_prog_1m2_12 (w57 hw) (wS hw) hE (by decide) (vs := [(.int (92 : Int32)), (.int (117 : Int32))]) ⟨by decide, by decide⟩ (z := (2 : Int32)) (by decide) (by decide) (nb := 8) (by decide) (by decide) (k' := 6) rfl (n' := 40) rfl (by decide) (by decide) rfl ?_
  intro a22 b23 h24 E24 A24 C24 V24 B24 N24 O24
  have SD25 : Str Z h24 a22 [92, 117] := by
    have e92 : ((92 : Int32).toInt8.toInt32) = 92 := by decide
    have e117 : ((117 : Int32).toInt8.toInt32) = 117 := by decide
    refine ⟨A24, C24, ⟨_, V24, ?_⟩, by decide, by decide⟩
    show Wk.Ary Z _ _ .byte [.int ((92 : Int32).toInt8.toInt32), .int ((117 : Int32).toInt8.toInt32)]
    rw [e92, e117]
    exact B24
  refine Ww.callV (pc' := 17) C d_prog_1m2_14 (a := a14) (fun vm0 C => (Wk.Con.pays C (Wn := 0) (own_append l hw O24 hs a14 t21 a22 ([] : List Int32) ([92, 117] : List Int32) za14 zt21 (Ne.symm (Nat.ne_of_lt (Nat.lt_of_lt_of_le Aa14.lt (Nat.le_of_eq gt21.symm)))) (A20.ext E24) (U20.ext E24) (C20.ext E24) (N20.ext E24) (V20.ext E24) SD25 (by have := own_hexLen n; simp only [List.length_append, List.length_nil, List.length_cons, List.length_take, List.length_drop]; omega)) (w64 hw) (w41 hw) (by decide) (by decide))) Wk.cleanC (fun v h' q => Or.inr (Or.inr ⟨[a14, t21], allS (List.mem_of_getElem? (i := 1) rfl) (allS (List.mem_of_getElem? (i := 0) rfl) all0), q.2.1⟩)) (A20.ext E24) (w60 hw) (w61 hw) (fun vm0 hZ0 => notFace_of_selects (args := #[]) (mvT (s := W.s.setVm vm0) hZ0 (w63 hw))) (w63 hw) (w62 hw) (by decide) (argsL := [(.ref a22)]) (st := []) rfl rfl (lenOf pd25 rfl) rfl (Nat.le_of_eq rfl) (k' := 6) rfl (n' := 40) rfl (by decide) (by decide) rfl ?_
  intro r26 h27 Q27 O27
  obtain ⟨rfl, K27, A27, U27, C27, N27, V27⟩ := Q27
  refine Ww.ldcS (pc' := 19) C d_prog_1m2_17 (w108 hw) (wS hw) hE (by decide) (vs := [(.int (48 : Int32)), (.int (48 : Int32)), (.int (48 : Int32)), (.int (48 : Int32))]) ⟨by decide, by decide⟩ (z := (4 : Int32)) (by decide) (by decide) (nb := 16) (by decide) (by decide) (k' := 8) rfl (n' := 60) rfl (by decide) (by decide) rfl ?_
  intro a28 b29 h30 E30 A30 C30 V30 B30 N30 O30
  have SD31 : Str Z h30 a28 [48, 48, 48, 48] := by
    have e48 : ((48 : Int32).toInt8.toInt32) = 48 := by decide
    refine ⟨A30, C30, ⟨_, V30, ?_⟩, by decide, by decide⟩
    show Wk.Ary Z _ _ .byte [.int ((48 : Int32).toInt8.toInt32), .int ((48 : Int32).toInt8.toInt32), .int ((48 : Int32).toInt8.toInt32), .int ((48 : Int32).toInt8.toInt32)]
    rw [e48]
    exact B30
  refine Ww.aloadN (pc' := 20) C d_prog_1m2_19 rfl rfl rfl ?_
  have X32 : Ext h12 h20 := Wk.Ext.keep1 (Z := Z) E15 K20 (Nat.le_of_eq ga14.symm)
  have X33 : Ext h12 h24 := Wk.Ext.trans X32 E24
  have X34 : Ext h12 h27 := Wk.Ext.keepN (Z := Z) X33 K27 (allS (Nat.le_of_eq ga14.symm) (allS (Nat.le_trans E15.1 (Nat.le_of_eq gt21.symm)) all0))
  have X35 : Ext h12 h30 := Wk.Ext.trans X34 E30
  refine Ww.callV (pc' := 23) C d_prog_1m2_20 (a := x13) (fun vm0 C => (Wk.Con.pays C (Wn := 2) (own_length l hw O30 hs x13 (hexL n) (S12.ext X35)) (w74 hw) (w20 hw) (by decide) (by decide))) Wk.cleanC (fun v h' q => Or.inl q.2) (S12.exa.ext X35) (w109 hw) (w71 hw) (fun vm0 hZ0 => notFace_of_selects (args := #[]) (mvT (s := W.s.setVm vm0) hZ0 (w73 hw))) (w73 hw) (w72 hw) (by decide) (argsL := []) (st := [(.ref a28), (.ref a14)]) rfl rfl (lenOf pd9 rfl) rfl (Nat.le_of_eq rfl) (k' := 8) rfl (n' := 60) rfl (by decide) (by decide) rfl ?_
  intro r36 h37 Q37 O37
  obtain ⟨rfl, e38⟩ := Q37
  obtain rfl := e38.symm
  refine Ww.callVS (pc' := 26) C d_prog_1m2_23 (a := a28) (Ww.Con.pays hE (Wn := 1) (own_sub1 l hw hE O30 hs a28 ([48, 48, 48, 48] : List Int32) (hexL n).length SD31 (by decide) (own_hexLen n).2) (w114 hw) (w20 hw) (by decide) (by decide)) Wk.cleanC A30 (w110 hw) (w111 hw) (fun vm0 hZ0 => notFace_of_selects (args := #[]) (mvT (s := W.s.setVm vm0) hZ0 (w113 hw))) (w113 hw) (w112 hw) (by decide) (argsL := [(.int (Int32.ofNat (hexL n).length))]) (st := [(.ref a14)]) rfl rfl (lenOf pd23 rfl) rfl (Nat.le_of_eq rfl) (k' := 12) rfl (n' := 84) rfl (by decide) (by decide) rfl ?_
  intro r39 h40 Q40 O40
  obtain ⟨x41, rfl, E40, S40⟩ := Q40
  have X42 : Ext h27 h40 := Wk.Ext.trans E30 E40
  refine Ww.callV (pc' := 29) C d_prog_1m2_26 (a := a14) (fun vm0 C => (Wk.Con.pays C (Wn := 0) (own_append l hw O40 hs a14 t21 x41 (([] : List Int32) ++ ([92, 117] : List Int32)) ((([48, 48, 48, 48] : List Int32).drop (hexL n).length).take (([48, 48, 48, 48] : List Int32).length - (hexL n).length)) za14 zt21 (Ne.symm (Nat.ne_of_lt (Nat.lt_of_lt_of_le Aa14.lt (Nat.le_of_eq gt21.symm)))) (A27.ext X42) (U27.ext X42) (C27.ext X42) (N27.ext X42) (V27.ext X42) S40 (by have := own_hexLen n; simp only [List.length_append, List.length_nil, List.length_cons, List.length_take, List.length_drop]; omega)) (w64 hw) (w41 hw) (by decide) (by decide))) Wk.cleanC (fun v h' q => Or.inr (Or.inr ⟨[a14, t21], allS (List.mem_of_getElem? (i := 1) rfl) (allS (List.mem_of_getElem? (i := 0) rfl) all0), q.2.1⟩)) (A27.ext X42) (w60 hw) (w61 hw) (fun vm0 hZ0 => notFace_of_selects (args := #[]) (mvT (s := W.s.setVm vm0) hZ0 (w63 hw))) (w63 hw) (w62 hw) (by decide) (argsL := [(.ref x41)]) (st := []) rfl rfl (lenOf pd25 rfl) rfl (Nat.le_of_eq rfl) (k' := 12) rfl (n' := 84) rfl (by decide) (by decide) rfl ?_
  intro r43 h44 Q44 O44
  obtain ⟨rfl, K44, A44, U44, C44, N44, V44⟩ := Q44
  refine Ww.aloadN (pc' := 30) C d_prog_1m2_29 rfl rfl rfl ?_
  have X45 : Ext h12 h40 := Wk.Ext.trans X35 E40
  have X46 : Ext h12 h44 := Wk.Ext.keepN (Z := Z) X45 K44 (allS (Nat.le_of_eq ga14.symm) (allS (Nat.le_trans E15.1 (Nat.le_of_eq gt21.symm)) all0))
  refine Ww.callV (pc' := 33) C d_prog_1m2_30 (a := a14) (fun vm0 C => (Wk.Con.pays C (Wn := 0) (own_append l hw O44 hs a14 t21 x13 ((([] : List Int32) ++ ([92, 117] : List Int32)) ++ ((([48, 48, 48, 48] : List Int32).drop (hexL n).length).take (([48, 48, 48, 48] : List Int32).length - (hexL n).length))) (hexL n) za14 zt21 (Ne.symm (Nat.ne_of_lt (Nat.lt_of_lt_of_le Aa14.lt (Nat.le_of_eq gt21.symm)))) A44 U44 C44 N44 V44 (S12.ext X46) (by have := own_hexLen n; simp only [List.length_append, List.length_nil, List.length_cons, List.length_take, List.length_drop]; omega)) (w64 hw) (w41 hw) (by decide) (by decide))) Wk.cleanC (fun v h' q => Or.inr (Or.inr ⟨[a14, t21], allS (List.mem_of_getElem? (i := 1) rfl) (allS (List.mem_of_getElem? (i := 0) rfl) all0), q.2.1⟩)) A44 (w60 hw) (w61 hw) (fun vm0 hZ0 => notFace_of_selects (args := #[]) (mvT (s := W.s.setVm vm0) hZ0 (w63 hw))) (w63 hw) (w62 hw) (by decide) (argsL := [(.ref x13)]) (st := []) rfl rfl (lenOf pd25 rfl) rfl (Nat.le_of_eq rfl) (k' := 12) rfl (n' := 84) rfl (by decide) (by decide) rfl ?_
  intro r47 h48 Q48 O48
  obtain ⟨rfl, K48, A48, U48, C48, N48, V48⟩ := Q48
  have hE9 : (((([] : List Int32) ++ ([92, 117] : List Int32)) ++ ((([48, 48, 48, 48] : List Int32).drop (hexL n).length).take (([48, 48, 48, 48] : List Int32).length - (hexL n).length))) ++ (hexL n)) = [92, 117, hexc (n / 4096 % 16), hexc (n / 256 % 16), hexc (n / 16 % 16), hexc (n % 16)] := own_esc n hn
  have hp9 : ∀ c ∈ (((([] : List Int32) ++ ([92, 117] : List Int32)) ++ ((([48, 48, 48, 48] : List Int32).drop (hexL n).length).take (([48, 48, 48, 48] : List Int32).length - (hexL n).length))) ++ (hexL n)), ¬ c < 0 ∧ ¬ (255 : Int32) < c := by
    rw [hE9]
    have q : ∀ m, ¬ hexc (m % 16) < 0 ∧ ¬ (255 : Int32) < hexc (m % 16) := fun m => own_hexr _ (Nat.mod_lt _ (by decide))
    intro c hc
    simp only [List.mem_cons, List.not_mem_nil, or_false] at hc
    rcases hc with rfl | rfl | rfl | rfl | rfl | rfl
    · decide
    · decide
    · exact q _
    · exact q _
    · exact q _
    · exact q _
  have hl9 : (((([] : List Int32) ++ ([92, 117] : List Int32)) ++ ((([48, 48, 48, 48] : List Int32).drop (hexL n).length).take (([48, 48, 48, 48] : List Int32).length - (hexL n).length))) ++ (hexL n)).length < 16 := by
    rw [hE9]; show 6 < 16; decide
  refine Ww.callV (pc' := 36) C d_prog_1m2_33 (a := a14) (fun vm0 C => (Wk.Con.pays C (Wn := 0) (own_toStr l hw O48 hs a14 t21 (((([] : List Int32) ++ ([92, 117] : List Int32)) ++ ((([48, 48, 48, 48] : List Int32).drop (hexL n).length).take (([48, 48, 48, 48] : List Int32).length - (hexL n).length))) ++ (hexL n)) za14 zt21 (Ne.symm (Nat.ne_of_lt (Nat.lt_of_lt_of_le Aa14.lt (Nat.le_of_eq gt21.symm)))) A48 U48 C48 N48 V48 hp9 hl9) (w158 hw) (w41 hw) (by decide) (by decide))) Wk.cleanC (fun v h' q => by obtain ⟨_, -, -, e, -⟩ := q; exact Or.inr (Or.inl e)) A48 (w154 hw) (w155 hw) (fun vm0 hZ0 => notFace_of_selects (args := #[]) (mvT (s := W.s.setVm vm0) hZ0 (w157 hw))) (w157 hw) (w156 hw) (by decide) (argsL := []) (st := []) rfl rfl (lenOf pd26 rfl) rfl (Nat.le_of_eq rfl) (k' := 14) rfl (n' := 104) rfl (by decide) (by decide) rfl ?_
  intro r49 h50 Q50 O50
  obtain ⟨x51, rfl, gx51, E50, S50⟩ := Q50
  have X52 : Ext h0 h15 := Wk.Ext.trans E12 E15
  have X53 : Ext h0 h20 := Wk.Ext.keep1 (Z := Z) X52 K20 (Nat.le_trans E12.1 (Nat.le_of_eq ga14.symm))
  have X54 : Ext h0 h24 := Wk.Ext.trans X53 E24
  have X55 : Ext h0 h27 := Wk.Ext.keepN (Z := Z) X54 K27 (allS (Nat.le_trans E12.1 (Nat.le_of_eq ga14.symm)) (allS (Nat.le_trans X52.1 (Nat.le_of_eq gt21.symm)) all0))
  have X56 : Ext h0 h30 := Wk.Ext.trans X55 E30
  have X57 : Ext h0 h40 := Wk.Ext.trans X56 E40
  have X58 : Ext h0 h44 := Wk.Ext.keepN (Z := Z) X57 K44 (allS (Nat.le_trans E12.1 (Nat.le_of_eq ga14.symm)) (allS (Nat.le_trans X52.1 (Nat.le_of_eq gt21.symm)) all0))
  have X59 : Ext h0 h48 := Wk.Ext.keepN (Z := Z) X58 K48 (allS (Nat.le_trans E12.1 (Nat.le_of_eq ga14.symm)) (allS (Nat.le_trans X52.1 (Nat.le_of_eq gt21.symm)) all0))
  have X60 : Ext h0 h50 := Wk.Ext.trans X59 E50
  exact Ww.retA C hE rfl rfl d_prog_1m2_36 (by decide) (by decide) ⟨_, rfl, X60, by rw [← hE9]; exact S50⟩
set_option maxRecDepth 65536 in
set_option maxHeartbeats 40000000 in
theorem own_hexd (l : Launch) {Z : State} {a0 : Array Value} (hw : Ws a0 Z) {h0 : Heap} (O0 : Ext Z.heap h0) (d : Nat) (hd : d < 16) :
    Wk.Con l Z (⟨"com/example/isomorph/isomorph/JavaNamesUnicodeEscapePinLaw", "hex", "(I)C"⟩ : MethodName) method_2_code 1 (some .char) ({ frames := 0, cells := 0, slots := 0, locals := 0 } : Room) #[(.int (Int32.ofNat d))] h0 (fun v h' => v = some (.int (hexc d)) ∧ h' = h0) := by
  refine Wk.Con.intro (plainFor_of_name pn8) O0 (fun m => ef41 m (Int32.ofNat d)) ?_
  intro W C
  replace C : Wk.Cx Z W "com/example/isomorph/isomorph/JavaNamesUnicodeEscapePinLaw" "hex" method_2_code 1 (some .char) := C
  refine Wk.iloadN (pc' := 1) C d_method_2_0 rfl rfl ?_
  refine Wk.bipush (pc' := 3) C d_method_2_1 (v := (10 : Int32)) rfl rfl ?_
  refine Wk.icmp_ge C d_method_2_3 (by decide) (pcT := 12) (by decide) (pc' := 6) rfl (fun q11 => ?_) (fun q11 => ?_)
  · -- pc 3: taken
    refine Wk.bipush (pc' := 14) C d_method_2_12 (v := (97 : Int32)) rfl rfl ?_
    refine Wk.iloadN (pc' := 15) C d_method_2_14 rfl rfl ?_
    refine Wk.bipush (pc' := 17) C d_method_2_15 (v := (10 : Int32)) rfl rfl ?_
    obtain ⟨v12, hv12⟩ : ∃ z : Int32, (Int32.ofNat d) - (10 : Int32) = z := ⟨_, rfl⟩
    refine Wk.isub (pc' := 18) C d_method_2_17 hv12 rfl ?_
    obtain ⟨v13, hv13⟩ : ∃ z : Int32, (97 : Int32) + v12 = z := ⟨_, rfl⟩
    refine Wk.iadd (pc' := 19) C d_method_2_18 hv13 rfl ?_
    obtain ⟨v14, hv14⟩ : ∃ z : Int32, v13.toUInt32.toUInt16.toUInt32.toInt32 = z := ⟨_, rfl⟩
    refine Wk.i2c (pc' := 20) C d_method_2_19 hv14 rfl ?_
    have hv : v14 = hexc d := by rw [← hv14, ← hv13, ← hv12]; exact (own_hx d hd).2 q11
    exact Wk.retNar (ty := .char) C (by simp) d_method_2_20 ((congrArg (nar .char) hv).trans (Wk.nar_rng (own_hexr d hd))) (by decide) (by decide) ⟨rfl, rfl⟩
  · -- pc 3: not taken
    refine Wk.bipush (pc' := 8) C d_method_2_6 (v := (48 : Int32)) rfl rfl ?_
    refine Wk.iloadN (pc' := 9) C d_method_2_8 rfl rfl ?_
    obtain ⟨v15, hv15⟩ : ∃ z : Int32, (48 : Int32) + (Int32.ofNat d) = z := ⟨_, rfl⟩
    refine Wk.iadd (pc' := 10) C d_method_2_9 hv15 rfl ?_
    obtain ⟨v16, hv16⟩ : ∃ z : Int32, v15.toUInt32.toUInt16.toUInt32.toInt32 = z := ⟨_, rfl⟩
    refine Wk.i2c (pc' := 11) C d_method_2_10 hv16 rfl ?_
    have hv : v16 = hexc d := by rw [← hv16, ← hv15]; exact (own_hx d hd).1 q11
    exact Wk.retNar (ty := .char) C (by simp) d_method_2_11 ((congrArg (nar .char) hv).trans (Wk.nar_rng (own_hexr d hd))) (by decide) (by decide) ⟨rfl, rfl⟩
set_option maxRecDepth 65536 in
set_option maxHeartbeats 80000000 in
theorem own_law (l : Launch) {Z : State} {a0 : Array Value} (hw : Ws a0 Z) (hE : EW Z a0 EL) (p0 : Int32) (hs : Sets Z) (aG : Addr) (SG : Sta Z Z.heap "java/lang/Integer" "digits" "[C" (.ref aG)) (VG : Wk.Ary Z Z.heap aG .char (digL.map Value.int)) :
    Ww.Con l Z EL x code maxLocals ret room_1 #[(.int p0)] Z.heap (fun v _ => v = some (.int 1)) := by
  refine Ww.Con.intro (plainFor_of_name pn8) (Wk.Ext.refl _) (fun m => ef42 m p0) ?_
  intro W C
  replace C : Wk.Cx Z W "com/example/isomorph/isomorph/JavaNamesUnicodeEscapePinLaw" "law" code 4 (some .boolean) := C
  have O0 : Ext Z.heap Z.heap := Wk.Ext.refl _
  refine Ww.iloadN (pc' := 1) C at_0 rfl rfl ?_
  refine Ww.ldcI (pc' := 3) C at_1 (w0 hw) rfl ?_
  obtain ⟨v11, hv11⟩ : ∃ z : Int32, p0 &&& (65535 : Int32) = z := ⟨_, rfl⟩
  refine Ww.iand (pc' := 4) C at_3 hv11 rfl ?_
  refine Ww.istoreN (pc' := 5) C at_4 (Ls' := #[.val (.int p0), .val (.int v11), .unset, .unset]) rfl rfl ?_
  have t0 : 0 ≤ v11.toInt ∧ v11.toInt < 65536 := by
    rw [← hv11, c_mask p0 65535 16 (by decide) (by decide)]
    omega
  obtain ⟨n, hnn⟩ : ∃ j, v11.toNatClampNeg = j := ⟨_, rfl⟩
  have kn : (n : Int) = v11.toInt := by rw [← hnn]; exact Wk.clamp t0.1
  have hn : n < 65536 := by omega
  have f12 : v11 = (Int32.ofNat n) := by rw [← hnn]; exact Wk.ofNat t0.1
  rw [f12]
  refine Ww.iloadN (pc' := 6) C at_5 rfl rfl ?_
  obtain ⟨v13, hv13⟩ : ∃ z : Int32, (Int32.ofNat n).toUInt32.toUInt16.toUInt32.toInt32 = z := ⟨_, rfl⟩
  refine Ww.i2c (pc' := 7) C at_6 hv13 rfl ?_
  have f14 : v13 = Int32.ofNat n := by
    have a := c_i2c (Int32.ofNat n)
    rw [hv13, (own_n16 hn).1] at a
    exact Wk.eqI (by rw [(own_n16 hn).1]; omega)
  rw [f14]
  refine Ww.istoreN (pc' := 8) C at_7 (Ls' := #[.val (.int p0), .val (.int (Int32.ofNat n)), .val (.int (Int32.ofNat n)), .unset]) rfl rfl ?_
  refine Ww.iloadN (pc' := 9) C at_8 rfl rfl ?_
  refine Ww.callSS (pc' := 12) C at_9 (Ww.Con.pays hE (Wn := 0) (own_escape l hw hE O0 hs aG n SG VG hn) (w4 hw) (w3 hw) (by decide) (by decide)) Wk.cleanC (w1 hw) (w2 hw) (w3 hw) (w4 hw) (by decide) (argsL := [(.int (Int32.ofNat n))]) (st := []) rfl rfl (lenOf pd27 rfl) rfl (Nat.le_of_eq rfl) (k' := 16) rfl (n' := 160) rfl (by decide) (by decide) rfl ?_
  intro r15 h16 Q16 O16
  obtain ⟨x17, rfl, E16, S16⟩ := Q16
  refine Ww.astoreN (pc' := 13) C at_12 rfl (Ls' := #[.val (.int p0), .val (.int (Int32.ofNat n)), .val (.int (Int32.ofNat n)), .val (.ref x17)]) rfl rfl ?_
  refine Ww.aloadN (pc' := 14) C at_13 rfl rfl rfl ?_
  refine Ww.ifnullN (pc' := 17) C at_14 rfl ?_
  refine Ww.aloadN (pc' := 18) C at_17 rfl rfl rfl ?_
  refine Ww.callV (pc' := 21) C at_18 (a := x17) (fun vm0 C => (Wk.Con.pays C (Wn := 0) (own_length l hw O16 hs x17 ([92, 117, hexc (n / 4096 % 16), hexc (n / 256 % 16), hexc (n / 16 % 16), hexc (n % 16)] : List Int32) S16) (w74 hw) (w20 hw) (by decide) (by decide))) Wk.cleanC (fun v h' q => Or.inl q.2) S16.exa (w185 hw) (w71 hw) (fun vm0 hZ0 => notFace_of_selects (args := #[]) (mvT (s := W.s.setVm vm0) hZ0 (w73 hw))) (w73 hw) (w72 hw) (by decide) (argsL := []) (st := []) rfl rfl (lenOf pd9 rfl) rfl (Nat.le_of_eq rfl) (k' := 16) rfl (n' := 160) rfl (by decide) (by decide) rfl ?_
  intro r18 h19 Q19 O19
  obtain ⟨rfl, e20⟩ := Q19
  obtain rfl := e20.symm
  refine Ww.bipush (pc' := 23) C at_21 (v := (6 : Int32)) rfl rfl ?_
  refine Ww.icmp_eq C at_23 (by decide) (pcT := 28) (by decide) (pc' := 26) rfl (fun q21 => ?_) (fun q => absurd rfl q)
  refine Ww.aloadN (pc' := 29) C at_28 rfl rfl rfl ?_
  refine Ww.iconst (pc' := 30) C at_29 (v := (0 : Int32)) rfl rfl ?_
  refine Ww.callV (pc' := 33) C at_30 (a := x17) (fun vm0 C => (Wk.Con.pays C (Wn := 0) (own_charAt l hw O16 hs x17 ([92, 117, hexc (n / 4096 % 16), hexc (n / 256 % 16), hexc (n / 16 % 16), hexc (n % 16)] : List Int32) 0 S16 (show _ < _ from Nat.le_of_ble_eq_true rfl)) (w190 hw) (w20 hw) (by decide) (by decide))) Wk.cleanC (fun v h' q => Or.inl q.2) S16.exa (w186 hw) (w187 hw) (fun vm0 hZ0 => notFace_of_selects (args := #[]) (mvT (s := W.s.setVm vm0) hZ0 (w189 hw))) (w189 hw) (w188 hw) (by decide) (argsL := [(.int (0 : Int32))]) (st := []) rfl rfl (lenOf pd28 rfl) rfl (Nat.le_of_eq rfl) (k' := 16) rfl (n' := 160) rfl (by decide) (by decide) rfl ?_
  intro r22 h23 Q23 O23
  obtain ⟨rfl, e24⟩ := Q23
  obtain rfl := e24.symm
  refine Ww.bipush (pc' := 35) C at_33 (v := (92 : Int32)) rfl rfl ?_
  refine Ww.icmp_ne C at_35 (by decide) (pcT := 120) (by decide) (pc' := 38) rfl (fun q => absurd rfl q) (fun q25 => ?_)
  refine Ww.aloadN (pc' := 39) C at_38 rfl rfl rfl ?_
  refine Ww.iconst (pc' := 40) C at_39 (v := (1 : Int32)) rfl rfl ?_
  refine Ww.callV (pc' := 43) C at_40 (a := x17) (fun vm0 C => (Wk.Con.pays C (Wn := 0) (own_charAt l hw O16 hs x17 ([92, 117, hexc (n / 4096 % 16), hexc (n / 256 % 16), hexc (n / 16 % 16), hexc (n % 16)] : List Int32) 1 S16 (show _ < _ from Nat.le_of_ble_eq_true rfl)) (w190 hw) (w20 hw) (by decide) (by decide))) Wk.cleanC (fun v h' q => Or.inl q.2) S16.exa (w186 hw) (w187 hw) (fun vm0 hZ0 => notFace_of_selects (args := #[]) (mvT (s := W.s.setVm vm0) hZ0 (w189 hw))) (w189 hw) (w188 hw) (by decide) (argsL := [(.int (1 : Int32))]) (st := []) rfl rfl (lenOf pd28 rfl) rfl (Nat.le_of_eq rfl) (k' := 16) rfl (n' := 160) rfl (by decide) (by decide) rfl ?_
  intro r26 h27 Q27 O27
  obtain ⟨rfl, e28⟩ := Q27
  obtain rfl := e28.symm
  refine Ww.bipush (pc' := 45) C at_43 (v := (117 : Int32)) rfl rfl ?_
  refine Ww.icmp_ne C at_45 (by decide) (pcT := 120) (by decide) (pc' := 48) rfl (fun q => absurd rfl q) (fun q29 => ?_)
  refine Ww.aloadN (pc' := 49) C at_48 rfl rfl rfl ?_
  refine Ww.iconst (pc' := 50) C at_49 (v := (2 : Int32)) rfl rfl ?_
  refine Ww.callV (pc' := 53) C at_50 (a := x17) (fun vm0 C => (Wk.Con.pays C (Wn := 0) (own_charAt l hw O16 hs x17 ([92, 117, hexc (n / 4096 % 16), hexc (n / 256 % 16), hexc (n / 16 % 16), hexc (n % 16)] : List Int32) 2 S16 (show _ < _ from Nat.le_of_ble_eq_true rfl)) (w190 hw) (w20 hw) (by decide) (by decide))) Wk.cleanC (fun v h' q => Or.inl q.2) S16.exa (w186 hw) (w187 hw) (fun vm0 hZ0 => notFace_of_selects (args := #[]) (mvT (s := W.s.setVm vm0) hZ0 (w189 hw))) (w189 hw) (w188 hw) (by decide) (argsL := [(.int (2 : Int32))]) (st := []) rfl rfl (lenOf pd28 rfl) rfl (Nat.le_of_eq rfl) (k' := 16) rfl (n' := 160) rfl (by decide) (by decide) rfl ?_
  intro r30 h31 Q31 O31
  obtain ⟨rfl, e32⟩ := Q31
  obtain rfl := e32.symm
  refine Ww.iloadN (pc' := 54) C at_53 rfl rfl ?_
  refine Ww.bipush (pc' := 56) C at_54 (v := (12 : Int32)) rfl rfl ?_
  obtain ⟨v33, hv33⟩ : ∃ z : Int32, (Int32.ofNat n) >>> ((12 : Int32) &&& 31) = z := ⟨_, rfl⟩
  refine Ww.ishr (pc' := 57) C at_56 hv33 rfl ?_
  have f34 : v33 = (Int32.ofNat (n / 4096)) := own_shr (k := 12) (d := 4096) hn (by decide) (by decide) hv33
  rw [f34]
  refine Ww.bipush (pc' := 59) C at_57 (v := (15 : Int32)) rfl rfl ?_
  obtain ⟨v35, hv35⟩ : ∃ z : Int32, (Int32.ofNat (n / 4096)) &&& (15 : Int32) = z := ⟨_, rfl⟩
  refine Ww.iand (pc' := 60) C at_59 hv35 rfl ?_
  have f36 : v35 = (Int32.ofNat ((n / 4096) % 16)) := own_and (k := 4) (d := 16) (by omega) (by decide) (by decide) (by decide) hv35
  rw [f36]
  refine Ww.callS (pc' := 63) C at_60 (fun vm0 C => (Wk.Con.pays C (Wn := 1) (own_hexd l hw O16 ((n / 4096) % 16) (by omega)) (w203 hw) (w202 hw) (by decide) (by decide))) Wk.cleanC (fun v h' q => Or.inl q.2) (w200 hw) (w201 hw) (w202 hw) (w203 hw) (by decide) (argsL := [(.int (Int32.ofNat ((n / 4096) % 16)))]) (st := [(.int (([92, 117, hexc (n / 4096 % 16), hexc (n / 256 % 16), hexc (n / 16 % 16), hexc (n % 16)] : List Int32).getD 2 0))]) rfl rfl (lenOf pd28 rfl) rfl (Nat.le_of_eq rfl) (k' := 16) rfl (n' := 160) rfl (by decide) (by decide) rfl ?_
  intro r37 h38 Q38 O38
  obtain ⟨rfl, e39⟩ := Q38
  obtain rfl := e39.symm
  refine Ww.icmp_ne C at_63 (by decide) (pcT := 120) (by decide) (pc' := 66) rfl (fun q => absurd rfl q) (fun q40 => ?_)
  refine Ww.aloadN (pc' := 67) C at_66 rfl rfl rfl ?_
  refine Ww.iconst (pc' := 68) C at_67 (v := (3 : Int32)) rfl rfl ?_
  refine Ww.callV (pc' := 71) C at_68 (a := x17) (fun vm0 C => (Wk.Con.pays C (Wn := 0) (own_charAt l hw O16 hs x17 ([92, 117, hexc (n / 4096 % 16), hexc (n / 256 % 16), hexc (n / 16 % 16), hexc (n % 16)] : List Int32) 3 S16 (show _ < _ from Nat.le_of_ble_eq_true rfl)) (w190 hw) (w20 hw) (by decide) (by decide))) Wk.cleanC (fun v h' q => Or.inl q.2) S16.exa (w186 hw) (w187 hw) (fun vm0 hZ0 => notFace_of_selects (args := #[]) (mvT (s := W.s.setVm vm0) hZ0 (w189 hw))) (w189 hw) (w188 hw) (by decide) (argsL := [(.int (3 : Int32))]) (st := []) rfl rfl (lenOf pd28 rfl) rfl (Nat.le_of_eq rfl) (k' := 16) rfl (n' := 160) rfl (by decide) (by decide) rfl ?_
  intro r41 h42 Q42 O42
  obtain ⟨rfl, e43⟩ := Q42
  obtain rfl := e43.symm
  refine Ww.iloadN (pc' := 72) C at_71 rfl rfl ?_
  refine Ww.bipush (pc' := 74) C at_72 (v := (8 : Int32)) rfl rfl ?_
  obtain ⟨v44, hv44⟩ : ∃ z : Int32, (Int32.ofNat n) >>> ((8 : Int32) &&& 31) = z := ⟨_, rfl⟩
  refine Ww.ishr (pc' := 75) C at_74 hv44 rfl ?_
  have f45 : v44 = (Int32.ofNat (n / 256)) := own_shr (k := 8) (d := 256) hn (by decide) (by decide) hv44
  rw [f45]
  refine Ww.bipush (pc' := 77) C at_75 (v := (15 : Int32)) rfl rfl ?_
  obtain ⟨v46, hv46⟩ : ∃ z : Int32, (Int32.ofNat (n / 256)) &&& (15 : Int32) = z := ⟨_, rfl⟩
  refine Ww.iand (pc' := 78) C at_77 hv46 rfl ?_
  have f47 : v46 = (Int32.ofNat ((n / 256) % 16)) := own_and (k := 4) (d := 16) (by omega) (by decide) (by decide) (by decide) hv46
  rw [f47]
  refine Ww.callS (pc' := 81) C at_78 (fun vm0 C => (Wk.Con.pays C (Wn := 1) (own_hexd l hw O16 ((n / 256) % 16) (by omega)) (w203 hw) (w202 hw) (by decide) (by decide))) Wk.cleanC (fun v h' q => Or.inl q.2) (w200 hw) (w201 hw) (w202 hw) (w203 hw) (by decide) (argsL := [(.int (Int32.ofNat ((n / 256) % 16)))]) (st := [(.int (([92, 117, hexc (n / 4096 % 16), hexc (n / 256 % 16), hexc (n / 16 % 16), hexc (n % 16)] : List Int32).getD 3 0))]) rfl rfl (lenOf pd28 rfl) rfl (Nat.le_of_eq rfl) (k' := 16) rfl (n' := 160) rfl (by decide) (by decide) rfl ?_
  intro r48 h49 Q49 O49
  obtain ⟨rfl, e50⟩ := Q49
  obtain rfl := e50.symm
  refine Ww.icmp_ne C at_81 (by decide) (pcT := 120) (by decide) (pc' := 84) rfl (fun q => absurd rfl q) (fun q51 => ?_)
  refine Ww.aloadN (pc' := 85) C at_84 rfl rfl rfl ?_
  refine Ww.iconst (pc' := 86) C at_85 (v := (4 : Int32)) rfl rfl ?_
  refine Ww.callV (pc' := 89) C at_86 (a := x17) (fun vm0 C => (Wk.Con.pays C (Wn := 0) (own_charAt l hw O16 hs x17 ([92, 117, hexc (n / 4096 % 16), hexc (n / 256 % 16), hexc (n / 16 % 16), hexc (n % 16)] : List Int32) 4 S16 (show _ < _ from Nat.le_of_ble_eq_true rfl)) (w190 hw) (w20 hw) (by decide) (by decide))) Wk.cleanC (fun v h' q => Or.inl q.2) S16.exa (w186 hw) (w187 hw) (fun vm0 hZ0 => notFace_of_selects (args := #[]) (mvT (s := W.s.setVm vm0) hZ0 (w189 hw))) (w189 hw) (w188 hw) (by decide) (argsL := [(.int (4 : Int32))]) (st := []) rfl rfl (lenOf pd28 rfl) rfl (Nat.le_of_eq rfl) (k' := 16) rfl (n' := 160) rfl (by decide) (by decide) rfl ?_
  intro r52 h53 Q53 O53
  obtain ⟨rfl, e54⟩ := Q53
  obtain rfl := e54.symm
  refine Ww.iloadN (pc' := 90) C at_89 rfl rfl ?_
  refine Ww.iconst (pc' := 91) C at_90 (v := (4 : Int32)) rfl rfl ?_
  obtain ⟨v55, hv55⟩ : ∃ z : Int32, (Int32.ofNat n) >>> ((4 : Int32) &&& 31) = z := ⟨_, rfl⟩
  refine Ww.ishr (pc' := 92) C at_91 hv55 rfl ?_
  have f56 : v55 = (Int32.ofNat (n / 16)) := own_shr (k := 4) (d := 16) hn (by decide) (by decide) hv55
  rw [f56]
  refine Ww.bipush (pc' := 94) C at_92 (v := (15 : Int32)) rfl rfl ?_
  obtain ⟨v57, hv57⟩ : ∃ z : Int32, (Int32.ofNat (n / 16)) &&& (15 : Int32) = z := ⟨_, rfl⟩
  refine Ww.iand (pc' := 95) C at_94 hv57 rfl ?_
  have f58 : v57 = (Int32.ofNat ((n / 16) % 16)) := own_and (k := 4) (d := 16) (by omega) (by decide) (by decide) (by decide) hv57
  rw [f58]
  refine Ww.callS (pc' := 98) C at_95 (fun vm0 C => (Wk.Con.pays C (Wn := 1) (own_hexd l hw O16 ((n / 16) % 16) (by omega)) (w203 hw) (w202 hw) (by decide) (by decide))) Wk.cleanC (fun v h' q => Or.inl q.2) (w200 hw) (w201 hw) (w202 hw) (w203 hw) (by decide) (argsL := [(.int (Int32.ofNat ((n / 16) % 16)))]) (st := [(.int (([92, 117, hexc (n / 4096 % 16), hexc (n / 256 % 16), hexc (n / 16 % 16), hexc (n % 16)] : List Int32).getD 4 0))]) rfl rfl (lenOf pd28 rfl) rfl (Nat.le_of_eq rfl) (k' := 16) rfl (n' := 160) rfl (by decide) (by decide) rfl ?_
  intro r59 h60 Q60 O60
  obtain ⟨rfl, e61⟩ := Q60
  obtain rfl := e61.symm
  refine Ww.icmp_ne C at_98 (by decide) (pcT := 120) (by decide) (pc' := 101) rfl (fun q => absurd rfl q) (fun q62 => ?_)
  refine Ww.aloadN (pc' := 102) C at_101 rfl rfl rfl ?_
  refine Ww.iconst (pc' := 103) C at_102 (v := (5 : Int32)) rfl rfl ?_
  refine Ww.callV (pc' := 106) C at_103 (a := x17) (fun vm0 C => (Wk.Con.pays C (Wn := 0) (own_charAt l hw O16 hs x17 ([92, 117, hexc (n / 4096 % 16), hexc (n / 256 % 16), hexc (n / 16 % 16), hexc (n % 16)] : List Int32) 5 S16 (show _ < _ from Nat.le_of_ble_eq_true rfl)) (w190 hw) (w20 hw) (by decide) (by decide))) Wk.cleanC (fun v h' q => Or.inl q.2) S16.exa (w186 hw) (w187 hw) (fun vm0 hZ0 => notFace_of_selects (args := #[]) (mvT (s := W.s.setVm vm0) hZ0 (w189 hw))) (w189 hw) (w188 hw) (by decide) (argsL := [(.int (5 : Int32))]) (st := []) rfl rfl (lenOf pd28 rfl) rfl (Nat.le_of_eq rfl) (k' := 16) rfl (n' := 160) rfl (by decide) (by decide) rfl ?_
  intro r63 h64 Q64 O64
  obtain ⟨rfl, e65⟩ := Q64
  obtain rfl := e65.symm
  refine Ww.iloadN (pc' := 107) C at_106 rfl rfl ?_
  refine Ww.bipush (pc' := 109) C at_107 (v := (15 : Int32)) rfl rfl ?_
  obtain ⟨v66, hv66⟩ : ∃ z : Int32, (Int32.ofNat n) &&& (15 : Int32) = z := ⟨_, rfl⟩
  refine Ww.iand (pc' := 110) C at_109 hv66 rfl ?_
  have f67 : v66 = (Int32.ofNat (n % 16)) := own_and (k := 4) (d := 16) (by omega) (by decide) (by decide) (by decide) hv66
  rw [f67]
  refine Ww.callS (pc' := 113) C at_110 (fun vm0 C => (Wk.Con.pays C (Wn := 1) (own_hexd l hw O16 (n % 16) (by omega)) (w203 hw) (w202 hw) (by decide) (by decide))) Wk.cleanC (fun v h' q => Or.inl q.2) (w200 hw) (w201 hw) (w202 hw) (w203 hw) (by decide) (argsL := [(.int (Int32.ofNat (n % 16)))]) (st := [(.int (([92, 117, hexc (n / 4096 % 16), hexc (n / 256 % 16), hexc (n / 16 % 16), hexc (n % 16)] : List Int32).getD 5 0))]) rfl rfl (lenOf pd28 rfl) rfl (Nat.le_of_eq rfl) (k' := 16) rfl (n' := 160) rfl (by decide) (by decide) rfl ?_
  intro r68 h69 Q69 O69
  obtain ⟨rfl, e70⟩ := Q69
  obtain rfl := e70.symm
  refine Ww.icmp_ne C at_113 (by decide) (pcT := 120) (by decide) (pc' := 116) rfl (fun q => absurd rfl q) (fun q71 => ?_)
  refine Ww.iconst (pc' := 117) C at_116 (v := (1 : Int32)) rfl rfl ?_
  refine Ww.goto C at_117 (by decide) (pc' := 121) (by decide) ?_
  exact Ww.retNar (ty := .boolean) C hE (by simp) at_121 rfl (by decide) (by decide) rfl
set_option maxRecDepth 65536 in
set_option maxHeartbeats 40000000 in
theorem comes_1 {Post : Tables → Env → Array Value → State → Outcome → State → Prop} (hpost : ∀ tb e args s v u, (limb_1_1.after args s (.returned v) u = true ∧ limb_1_2.after args s (.returned v) u = true ∧ True) → ReturnedEndW s (.returned v) u (Jvm.fieldLocs frame_1_writes args s ++ Jvm.arrayLocs frame_1_arrays args s ++ Jvm.staticLocs frame_1_statics s) 32 3264 → Post tb e args s (.returned v) u) :
    ArmFor flags0 classFile x code maxLocals ret World_1 tables_1 room_1 Calls_1 rest_1 Pre_1 Post := by
  intro l hfl _ _ p e ha hc hk s m args below hf hA hF happ hP
  obtain ⟨hcalls, hrest, hpre⟩ := hP
  obtain ⟨-, -, -, hnamed, -, -, -, hat⟩ := (Spec.applies_iff hf).mp happ
  obtain ⟨hg, hn⟩ := and_e (Cond.before_iff.mp (show (Jvm.Cond.and given_1 narrow_1).before args s = true from hpre))
  obtain ⟨gc0, gr0⟩ := and_e hg
  obtain ⟨w0, rfl⟩ : ∃ w0 : Value, args = #[w0] := by
    have hs : args.size = 1 := by simpa [Cond.value, given_1] using gc0
    obtain ⟨L⟩ := args
    match L, hs with
    | [w0], _ => exact ⟨w0, rfl⟩
  have hw : Ws _ s := fun d (hd : d ∈ tables_1) => atoms_spec (ws := Jvm.Cond.code x code maxLocals ret :: tables_1) hat d (List.mem_cons_of_mem _ hd)
  have hfit : Fit s := fun {y c} hc i hi => by
    obtain ⟨ha, rfl⟩ := Array.getElem?_eq_some_iff.mp hc
    have q := List.all_eq_true.mp ((Array.all_eq_true_iff_forall_mem.mp hF) _ (Array.getElem_mem ha)) i (List.mem_range.mpr hi)
    simpa [Array.getElem?_eq_getElem hi] using q
  obtain ⟨i0, ei0⟩ := is_v gr0
  obtain rfl : w0 = (.int i0) := Option.some.inj ei0
  obtain ⟨hsets, hown0⟩ := atoms_of _ (rest_1_c_eq ▸ (show rest_1_c.before _ s = true from hrest))
  have hS : Sets s := by
    have n5 := not_v (Cond.before_iff.mp (hsets _ (List.mem_of_getElem? (i := 2) rfl)))
    obtain ⟨zc, ez⟩ := is_v (Cond.before_iff.mp (hsets _ (List.mem_of_getElem? (i := 1) rfl)))
    obtain ⟨fm, ef, rf⟩ := isR_v (Cond.before_iff.mp (hsets _ (List.mem_of_getElem? (i := 8) rfl)))
    exact ⟨zc, fm, Sta.start ez (Or.inl (hsets _ (List.mem_of_getElem? (i := 0) rfl))), gotF (Cond.eq_ints ez (Term.int_eval (0))) n5, Sta.start ef (Or.inl (hsets _ (List.mem_of_getElem? (i := 7) rfl))), rf⟩
  obtain ⟨aG, eG⟩ := arr_v (Cond.before_iff.mp (hsets _ (List.mem_of_getElem? (i := 11) rfl)))
  obtain ⟨cG, AG⟩ := Arr.start eG (Cond.before_iff.mp (hsets _ (List.mem_of_getElem? (i := 11) rfl)))
  have SG := Sta.start eG (Or.inl (hsets _ (List.mem_of_getElem? (i := 10) rfl)))
  have hn := Wk.lenS eG AG (Cond.before_iff.mp (hsets _ (List.mem_of_getElem? (i := 13) rfl)))
  have x0 : cG.slots[0]? = some (.int (48 : Int32)) := Wk.elemS eG AG (Cond.before_iff.mp (hsets _ (List.mem_of_getElem? (i := 14) rfl)))
  have x1 : cG.slots[1]? = some (.int (49 : Int32)) := Wk.elemS eG AG (Cond.before_iff.mp (hsets _ (List.mem_of_getElem? (i := 15) rfl)))
  have x2 : cG.slots[2]? = some (.int (50 : Int32)) := Wk.elemS eG AG (Cond.before_iff.mp (hsets _ (List.mem_of_getElem? (i := 16) rfl)))
  have x3 : cG.slots[3]? = some (.int (51 : Int32)) := Wk.elemS eG AG (Cond.before_iff.mp (hsets _ (List.mem_of_getElem? (i := 17) rfl)))
  have x4 : cG.slots[4]? = some (.int (52 : Int32)) := Wk.elemS eG AG (Cond.before_iff.mp (hsets _ (List.mem_of_getElem? (i := 18) rfl)))
  have x5 : cG.slots[5]? = some (.int (53 : Int32)) := Wk.elemS eG AG (Cond.before_iff.mp (hsets _ (List.mem_of_getElem? (i := 19) rfl)))
  have x6 : cG.slots[6]? = some (.int (54 : Int32)) := Wk.elemS eG AG (Cond.before_iff.mp (hsets _ (List.mem_of_getElem? (i := 20) rfl)))
  have x7 : cG.slots[7]? = some (.int (55 : Int32)) := Wk.elemS eG AG (Cond.before_iff.mp (hsets _ (List.mem_of_getElem? (i := 21) rfl)))
  have x8 : cG.slots[8]? = some (.int (56 : Int32)) := Wk.elemS eG AG (Cond.before_iff.mp (hsets _ (List.mem_of_getElem? (i := 22) rfl)))
  have x9 : cG.slots[9]? = some (.int (57 : Int32)) := Wk.elemS eG AG (Cond.before_iff.mp (hsets _ (List.mem_of_getElem? (i := 23) rfl)))
  have x10 : cG.slots[10]? = some (.int (97 : Int32)) := Wk.elemS eG AG (Cond.before_iff.mp (hsets _ (List.mem_of_getElem? (i := 24) rfl)))
  have x11 : cG.slots[11]? = some (.int (98 : Int32)) := Wk.elemS eG AG (Cond.before_iff.mp (hsets _ (List.mem_of_getElem? (i := 25) rfl)))
  have x12 : cG.slots[12]? = some (.int (99 : Int32)) := Wk.elemS eG AG (Cond.before_iff.mp (hsets _ (List.mem_of_getElem? (i := 26) rfl)))
  have x13 : cG.slots[13]? = some (.int (100 : Int32)) := Wk.elemS eG AG (Cond.before_iff.mp (hsets _ (List.mem_of_getElem? (i := 27) rfl)))
  have x14 : cG.slots[14]? = some (.int (101 : Int32)) := Wk.elemS eG AG (Cond.before_iff.mp (hsets _ (List.mem_of_getElem? (i := 28) rfl)))
  have x15 : cG.slots[15]? = some (.int (102 : Int32)) := Wk.elemS eG AG (Cond.before_iff.mp (hsets _ (List.mem_of_getElem? (i := 29) rfl)))
  have x16 : cG.slots[16]? = some (.int (103 : Int32)) := Wk.elemS eG AG (Cond.before_iff.mp (hsets _ (List.mem_of_getElem? (i := 30) rfl)))
  have x17 : cG.slots[17]? = some (.int (104 : Int32)) := Wk.elemS eG AG (Cond.before_iff.mp (hsets _ (List.mem_of_getElem? (i := 31) rfl)))
  have x18 : cG.slots[18]? = some (.int (105 : Int32)) := Wk.elemS eG AG (Cond.before_iff.mp (hsets _ (List.mem_of_getElem? (i := 32) rfl)))
  have x19 : cG.slots[19]? = some (.int (106 : Int32)) := Wk.elemS eG AG (Cond.before_iff.mp (hsets _ (List.mem_of_getElem? (i := 33) rfl)))
  have x20 : cG.slots[20]? = some (.int (107 : Int32)) := Wk.elemS eG AG (Cond.before_iff.mp (hsets _ (List.mem_of_getElem? (i := 34) rfl)))
  have x21 : cG.slots[21]? = some (.int (108 : Int32)) := Wk.elemS eG AG (Cond.before_iff.mp (hsets _ (List.mem_of_getElem? (i := 35) rfl)))
  have x22 : cG.slots[22]? = some (.int (109 : Int32)) := Wk.elemS eG AG (Cond.before_iff.mp (hsets _ (List.mem_of_getElem? (i := 36) rfl)))
  have x23 : cG.slots[23]? = some (.int (110 : Int32)) := Wk.elemS eG AG (Cond.before_iff.mp (hsets _ (List.mem_of_getElem? (i := 37) rfl)))
  have x24 : cG.slots[24]? = some (.int (111 : Int32)) := Wk.elemS eG AG (Cond.before_iff.mp (hsets _ (List.mem_of_getElem? (i := 38) rfl)))
  have x25 : cG.slots[25]? = some (.int (112 : Int32)) := Wk.elemS eG AG (Cond.before_iff.mp (hsets _ (List.mem_of_getElem? (i := 39) rfl)))
  have x26 : cG.slots[26]? = some (.int (113 : Int32)) := Wk.elemS eG AG (Cond.before_iff.mp (hsets _ (List.mem_of_getElem? (i := 40) rfl)))
  have x27 : cG.slots[27]? = some (.int (114 : Int32)) := Wk.elemS eG AG (Cond.before_iff.mp (hsets _ (List.mem_of_getElem? (i := 41) rfl)))
  have x28 : cG.slots[28]? = some (.int (115 : Int32)) := Wk.elemS eG AG (Cond.before_iff.mp (hsets _ (List.mem_of_getElem? (i := 42) rfl)))
  have x29 : cG.slots[29]? = some (.int (116 : Int32)) := Wk.elemS eG AG (Cond.before_iff.mp (hsets _ (List.mem_of_getElem? (i := 43) rfl)))
  have x30 : cG.slots[30]? = some (.int (117 : Int32)) := Wk.elemS eG AG (Cond.before_iff.mp (hsets _ (List.mem_of_getElem? (i := 44) rfl)))
  have x31 : cG.slots[31]? = some (.int (118 : Int32)) := Wk.elemS eG AG (Cond.before_iff.mp (hsets _ (List.mem_of_getElem? (i := 45) rfl)))
  have x32 : cG.slots[32]? = some (.int (119 : Int32)) := Wk.elemS eG AG (Cond.before_iff.mp (hsets _ (List.mem_of_getElem? (i := 46) rfl)))
  have x33 : cG.slots[33]? = some (.int (120 : Int32)) := Wk.elemS eG AG (Cond.before_iff.mp (hsets _ (List.mem_of_getElem? (i := 47) rfl)))
  have x34 : cG.slots[34]? = some (.int (121 : Int32)) := Wk.elemS eG AG (Cond.before_iff.mp (hsets _ (List.mem_of_getElem? (i := 48) rfl)))
  have x35 : cG.slots[35]? = some (.int (122 : Int32)) := Wk.elemS eG AG (Cond.before_iff.mp (hsets _ (List.mem_of_getElem? (i := 49) rfl)))
  have VG : Wk.Ary s s.heap aG .char (digL.map Value.int) := Wk.aryS AG hn rfl ⟨x0, x1, x2, x3, x4, x5, x6, x7, x8, x9, x10, x11, x12, x13, x14, x15, x16, x17, x18, x19, x20, x21, x22, x23, x24, x25, x26, x27, x28, x29, x30, x31, x32, x33, x34, x35, trivial⟩ (by decide)
  have hE := own_EW hw
  have hCH : CHv s EL s.vm s.heap := CHv.start hE hcalls.1 (hsets _ (List.mem_of_getElem? (i := 2) rfl)) (w21 hw) (w27 hw)
  obtain ⟨n, o, h1, h2, h3, _, L, rfl, ⟨rfl, -, N⟩, -, hq⟩ := own_law l hw hE i0 hS aG SG VG tables_1 p e ha hc hk s m _ below hf ((Spec.applies_iff_loose hf).mp happ).1 ⟨rfl, State.Warmed39.refl s, rfl, hCH⟩ trivial
  refine ⟨n, _, h1, h2, h3, hpost _ _ _ _ _ _ ⟨Cond.after_iff.mpr rfl, Cond.after_iff.mpr (eq_i res_at (Term.int_eval (1)) rfl), trivial⟩ ⟨hq.1, hq.2.1, hq.2.2.1, (hq.2.2.2.sift fun y hy => Or.inr (N y hy)).mono (by decide) (by decide)⟩⟩
theorem main_1_1 : Claimed_1_1 := comes_1 fun _ _ _ _ _ _ h hF => ⟨h.1, hF⟩
theorem main_1_2 : Claimed_1_2 := comes_1 fun _ _ _ _ _ _ h hF => ⟨h.2.1, hF⟩
end Jvm.Pilot.@@N@@
namespace Jvm.Pilot.@@N@@
open Jvm Jvm.ClassFile Sem Op Lib Jvm.Free Jvm.Stand Jvm.Pilot.@@N@@.Jvm.D
/-! MADE BY PROGRAM (witnessworld.py) out of the Statement's table words and the real class files: 27 classes; the members and pool entries that the words name. The judged class is class 1, her method 2. -/
namespace start1
open Jvm.ClassFile
def u (s : String) : CpInfo := .utf8 (stringToUtf16 s)
/-- a pool by its gaps: so many unusable entries, then the entry; so many at the end -/
def gap : Nat → List CpInfo → List CpInfo
  | 0, r => r
  | n + 1, r => .unusable :: gap n r
def poolList (es : List (Nat × CpInfo)) (last : Nat) : List CpInfo := es.foldr (fun e r => gap e.1 (e.2 :: r)) (gap last [])
def pool (es : List (Nat × CpInfo)) (last : Nat) : Array CpInfo := ⟨poolList es last⟩
def fileOf (pool : Array CpInfo) (this : Nat) (attrs : Array Attribute := #[]) (ms : Array MethodInfo := #[]) (fl : Nat := 33) (sup : Nat := 0) (ifs : Array Nat := #[]) (fds : Array FieldInfo := #[]) : ClassFile where
  minorVersion := 0
  majorVersion := 65
  constantPool := pool
  accessFlags := fl
  thisClass := this
  superClass := sup
  interfaces := ifs
  fields := fds
  methods := ms
  attributes := attrs
def plain (name : String) (sup : Option ClassId) : Class where
  name := name
  kind := .ordinary
  loader := none
  accessFlags := 33
  super := sup
  interfaces := #[]
  cf := none
  fields := #[]
  methods := #[]
  instanceTypes := #[]
  staticTypes := #[]
  resolved := #[]
  callSites := []
  init := .initialized
  statics := none
  mirror := none

def pool0 : Array CpInfo := pool [(5, u "<init>"), (0, u "()V"), (1, .class_ 10), (1, u "java/lang/Object")] 113

def k0c0 : Code := { maxStack := 0, maxLocals := 1, code := object_method_1_code, exceptionTable := #[], attributes := #[] }
def k0m0 : Method := { name := "<init>", desc := "()V", sig := { parameters := [], returnType := none }, accessFlags := 1, code := some k0c0 }
/-- java/lang/Object -/
def k0 : Class := { plain "java/lang/Object" none with
  accessFlags := 33
  interfaces := #[]
  cf := some (fileOf pool0 8 #[] #[{ accessFlags := 1, nameIndex := 5, descriptorIndex := 6, attributes := #[] }] 33 0 #[] #[])
  fields := #[]
  methods := #[k0m0]
  instanceTypes := #[]
  staticTypes := #[]
  resolved := Array.replicate 124 none
  statics := none }

def pool1 : Array CpInfo := pool [(2, .class_ 4), (1, u "java/lang/Object"), (0, u "<init>"), (0, u "()V"), (0, .integer 65535), (0, .methodref 9 10), (0, .class_ 11), (0, .nameAndType 12 13), (0, u "com/example/isomorph/isomorph/JavaNames"), (0, u "unicodeEscape"), (0, u "(C)Ljava/lang/String;"), (0, .methodref 15 16), (0, .class_ 17), (0, .nameAndType 18 19), (0, u "java/lang/String"), (0, u "length"), (0, u "()I"), (0, .methodref 15 21), (0, .nameAndType 22 23), (0, u "charAt"), (0, u "(I)C"), (0, .methodref 25 26), (0, .class_ 27), (0, .nameAndType 28 23), (0, u "com/example/isomorph/isomorph/JavaNamesUnicodeEscapePinLaw"), (0, u "hex"), (3, u "law"), (0, u "(I)Z")] 2

def k1m0 : Method := { name := "<init>", desc := "()V", sig := { parameters := [], returnType := none }, accessFlags := 2, code := none }
def k1c1 : Code := { maxStack := 3, maxLocals := 1, code := method_2_code, exceptionTable := #[], attributes := #[] }
def k1m1 : Method := { name := "hex", desc := "(I)C", sig := { parameters := [.int], returnType := some .char }, accessFlags := 10, code := some k1c1 }
def k1c2 : Code := { maxStack := 3, maxLocals := 4, code := code, exceptionTable := #[], attributes := #[] }
def k1m2 : Method := { name := "law", desc := "(I)Z", sig := { parameters := [.int], returnType := some .boolean }, accessFlags := 9, code := some k1c2 }
/-- com/example/isomorph/isomorph/JavaNamesUnicodeEscapePinLaw -/
def k1 : Class := { plain "com/example/isomorph/isomorph/JavaNamesUnicodeEscapePinLaw" (some 0) with
  accessFlags := 49
  interfaces := #[]
  cf := some (fileOf pool1 25 #[] #[{ accessFlags := 2, nameIndex := 5, descriptorIndex := 6, attributes := #[] }, { accessFlags := 10, nameIndex := 28, descriptorIndex := 23, attributes := #[] }, { accessFlags := 9, nameIndex := 32, descriptorIndex := 33, attributes := #[] }] 49 2 #[] #[])
  fields := #[]
  methods := #[k1m0, k1m1, k1m2]
  instanceTypes := #[]
  staticTypes := #[]
  resolved := Array.replicate 36 none
  statics := none }

def pool2 : Array CpInfo := pool [(2, .class_ 4), (0, .nameAndType 5 6), (0, u "java/lang/Object"), (0, u "<init>"), (0, u "()V"), (0, .methodref 8 9), (0, .class_ 10), (0, .nameAndType 11 12), (0, u "java/lang/Integer"), (0, u "toHexString"), (0, u "(I)Ljava/lang/String;"), (0, .class_ 14), (0, u "java/lang/StringBuilder"), (0, .methodref 13 3), (0, .string 17), (0, u "\\u"), (0, .methodref 13 19), (0, .nameAndType 20 21), (0, u "append"), (0, u "(Ljava/lang/String;)Ljava/lang/StringBuilder;"), (0, .class_ 23), (0, u "com/example/isomorph/isomorph/JavaNames"), (0, .string 25), (0, u "0000"), (0, .methodref 27 28), (0, .class_ 29), (0, .nameAndType 30 31), (0, u "java/lang/String"), (0, u "length"), (0, u "()I"), (0, .methodref 27 33), (0, .nameAndType 34 12), (0, u "substring"), (0, .methodref 13 36), (0, .nameAndType 37 38), (0, u "toString"), (0, u "()Ljava/lang/String;"), (16, u "ESCAPE_DIGITS"), (0, u "Ljava/lang/String;"), (3, u "unicodeEscape"), (0, u "(C)Ljava/lang/String;")] 5

def k2m0 : Method := { name := "<init>", desc := "()V", sig := { parameters := [], returnType := none }, accessFlags := 2, code := none }
def k2c1 : Code := { maxStack := 3, maxLocals := 2, code := prog_1_method_2_code, exceptionTable := #[], attributes := #[] }
def k2m1 : Method := { name := "unicodeEscape", desc := "(C)Ljava/lang/String;", sig := { parameters := [.char], returnType := some (.object "java/lang/String") }, accessFlags := 8, code := some k2c1 }
/-- com/example/isomorph/isomorph/JavaNames -/
def k2 : Class := { plain "com/example/isomorph/isomorph/JavaNames" (some 0) with
  accessFlags := 48
  interfaces := #[]
  cf := some (fileOf pool2 22 #[] #[{ accessFlags := 2, nameIndex := 5, descriptorIndex := 6, attributes := #[] }, { accessFlags := 8, nameIndex := 60, descriptorIndex := 61, attributes := #[] }] 48 2 #[] #[{ accessFlags := 26, nameIndex := 55, descriptorIndex := 56, attributes := #[] }])
  fields := #[{ name := "ESCAPE_DIGITS", type := (.object "java/lang/String"), accessFlags := 26, slot := 0, constantValue := 0 }]
  methods := #[k2m0, k2m1]
  instanceTypes := #[]
  staticTypes := #[(.object "java/lang/String")]
  resolved := Array.replicate 67 none
  statics := none }

def pool3 : Array CpInfo := pool [(1, .class_ 2), (0, u "java/io/Serializable"), (0, .class_ 4), (0, u "java/lang/Object")] 2

/-- java/io/Serializable -/
def k3 : Class := { plain "java/io/Serializable" (some 0) with
  accessFlags := 1537
  interfaces := #[]
  cf := some (fileOf pool3 1 #[] #[] 1537 3 #[] #[])
  fields := #[]
  methods := #[]
  instanceTypes := #[]
  staticTypes := #[]
  resolved := Array.replicate 7 none
  statics := none }

def pool4 : Array CpInfo := pool [(2, .class_ 4), (1, u "java/lang/Object"), (0, u "<init>"), (0, u "()V"), (1, .class_ 10), (1, u "java/lang/Number"), (2, .class_ 14), (0, u "java/io/Serializable"), (0, u "serialVersionUID"), (0, u "J")] 20

def k4m0 : Method := { name := "<init>", desc := "()V", sig := { parameters := [], returnType := none }, accessFlags := 1, code := none }
/-- java/lang/Number -/
def k4 : Class := { plain "java/lang/Number" (some 0) with
  accessFlags := 1057
  interfaces := #[3]
  cf := some (fileOf pool4 8 #[] #[{ accessFlags := 1, nameIndex := 5, descriptorIndex := 6, attributes := #[] }] 1057 2 #[13] #[{ accessFlags := 26, nameIndex := 15, descriptorIndex := 16, attributes := #[] }])
  fields := #[{ name := "serialVersionUID", type := .long, accessFlags := 26, slot := 0, constantValue := 0 }]
  methods := #[k4m0]
  instanceTypes := #[]
  staticTypes := #[.long]
  resolved := Array.replicate 37 none
  statics := none }

def pool5 : Array CpInfo := pool [(1, .class_ 2), (0, u "java/lang/Comparable"), (0, .class_ 4), (0, u "java/lang/Object")] 7

/-- java/lang/Comparable -/
def k5 : Class := { plain "java/lang/Comparable" (some 0) with
  accessFlags := 1537
  interfaces := #[]
  cf := some (fileOf pool5 1 #[] #[] 1537 3 #[] #[])
  fields := #[]
  methods := #[]
  instanceTypes := #[]
  staticTypes := #[]
  resolved := Array.replicate 12 none
  statics := none }

def pool6 : Array CpInfo := pool [(1, .class_ 2), (0, u "java/lang/constant/Constable"), (0, .class_ 4), (0, u "java/lang/Object")] 6

/-- java/lang/constant/Constable -/
def k6 : Class := { plain "java/lang/constant/Constable" (some 0) with
  accessFlags := 1537
  interfaces := #[]
  cf := some (fileOf pool6 1 #[] #[] 1537 3 #[] #[])
  fields := #[]
  methods := #[]
  instanceTypes := #[]
  staticTypes := #[]
  resolved := Array.replicate 11 none
  statics := none }

def pool7 : Array CpInfo := pool [(1, .class_ 2), (0, u "java/lang/constant/ConstantDesc"), (0, .class_ 4), (0, u "java/lang/Object")] 32

/-- java/lang/constant/ConstantDesc -/
def k7 : Class := { plain "java/lang/constant/ConstantDesc" (some 0) with
  accessFlags := 1537
  interfaces := #[]
  cf := some (fileOf pool7 1 #[] #[] 1537 3 #[] #[])
  fields := #[]
  methods := #[]
  instanceTypes := #[]
  staticTypes := #[]
  resolved := Array.replicate 37 none
  statics := none }

def pool8 : Array CpInfo := pool [(1, .class_ 2), (0, u "java/lang/Integer"), (2, .class_ 6), (0, u "java/lang/String"), (5, u "(I)Ljava/lang/String;"), (0, .fieldref 5 14), (0, .nameAndType 15 16), (0, u "COMPACT_STRINGS"), (0, u "Z"), (0, .fieldref 1 18), (0, .nameAndType 19 20), (0, u "digits"), (0, u "[C"), (9, u "(II)Ljava/lang/String;"), (17, .methodref 1 49), (0, .nameAndType 50 30), (0, u "toUnsignedString0"), (0, .methodref 1 52), (0, .nameAndType 53 54), (0, u "numberOfLeadingZeros"), (0, u "(I)I"), (0, .methodref 56 57), (0, .class_ 58), (0, .nameAndType 59 60), (0, u "java/lang/Math"), (0, u "max"), (0, u "(II)I"), (0, .methodref 1 62), (0, .nameAndType 63 64), (0, u "formatUnsignedInt"), (0, u "(II[BI)V"), (0, .methodref 5 66), (0, .nameAndType 67 68), (0, u "<init>"), (0, u "([BB)V"), (16, u "DigitOnes"), (0, u "[B"), (2, u "DigitTens"), (99, .class_ 190), (0, u "java/lang/Integer$IntegerCache"), (3, u "I"), (8, .class_ 204), (0, u "java/lang/Number"), (2, u "value"), (56, .integer 65536), (37, u "TYPE"), (0, u "Ljava/lang/Class;"), (0, .class_ 305), (0, u "java/lang/Comparable"), (0, .class_ 307), (0, u "java/lang/constant/Constable"), (0, .class_ 309), (0, u "java/lang/constant/ConstantDesc"), (0, u "MIN_VALUE"), (1, u "MAX_VALUE"), (3, u "SIZE"), (1, u "BYTES"), (1, u "serialVersionUID"), (0, u "J"), (12, u "toHexString")] 118

def k8c0 : Code := { maxStack := 2, maxLocals := 1, code := jdk_33_method_4_code, exceptionTable := #[], attributes := #[] }
def k8m0 : Method := { name := "toHexString", desc := "(I)Ljava/lang/String;", sig := { parameters := [.int], returnType := some (.object "java/lang/String") }, accessFlags := 9, code := some k8c0 }
def k8c1 : Code := { maxStack := 4, maxLocals := 5, code := jdk_33_method_7_code, exceptionTable := #[], attributes := #[] }
def k8m1 : Method := { name := "toUnsignedString0", desc := "(II)Ljava/lang/String;", sig := { parameters := [.int, .int], returnType := some (.object "java/lang/String") }, accessFlags := 10, code := some k8c1 }
def k8c2 : Code := { maxStack := 5, maxLocals := 7, code := jdk_33_method_8_code, exceptionTable := #[], attributes := #[] }
def k8m2 : Method := { name := "formatUnsignedInt", desc := "(II[BI)V", sig := { parameters := [.int, .int, (.array .byte), .int], returnType := none }, accessFlags := 10, code := some k8c2 }
def k8c3 : Code := { maxStack := 3, maxLocals := 2, code := jdk_33_method_47_code, exceptionTable := #[], attributes := #[] }
def k8m3 : Method := { name := "numberOfLeadingZeros", desc := "(I)I", sig := { parameters := [.int], returnType := some .int }, accessFlags := 9, code := some k8c3 }
/-- java/lang/Integer -/
def k8 : Class := { plain "java/lang/Integer" (some 4) with
  accessFlags := 49
  interfaces := #[5, 6, 7]
  cf := some (fileOf pool8 1 #[.nestMembers #[189]] #[{ accessFlags := 9, nameIndex := 334, descriptorIndex := 12, attributes := #[] }, { accessFlags := 10, nameIndex := 50, descriptorIndex := 30, attributes := #[] }, { accessFlags := 10, nameIndex := 63, descriptorIndex := 64, attributes := #[] }, { accessFlags := 9, nameIndex := 53, descriptorIndex := 54, attributes := #[] }] 49 203 #[304, 306, 308] #[{ accessFlags := 25, nameIndex := 310, descriptorIndex := 194, attributes := #[] }, { accessFlags := 25, nameIndex := 312, descriptorIndex := 194, attributes := #[] }, { accessFlags := 25, nameIndex := 302, descriptorIndex := 303, attributes := #[] }, { accessFlags := 24, nameIndex := 19, descriptorIndex := 20, attributes := #[] }, { accessFlags := 24, nameIndex := 89, descriptorIndex := 86, attributes := #[] }, { accessFlags := 24, nameIndex := 85, descriptorIndex := 86, attributes := #[] }, { accessFlags := 18, nameIndex := 207, descriptorIndex := 194, attributes := #[] }, { accessFlags := 25, nameIndex := 316, descriptorIndex := 194, attributes := #[] }, { accessFlags := 25, nameIndex := 318, descriptorIndex := 194, attributes := #[] }, { accessFlags := 26, nameIndex := 320, descriptorIndex := 321, attributes := #[] }])
  fields := #[{ name := "MIN_VALUE", type := .int, accessFlags := 25, slot := 0, constantValue := 0 }, { name := "MAX_VALUE", type := .int, accessFlags := 25, slot := 1, constantValue := 0 }, { name := "TYPE", type := (.object "java/lang/Class"), accessFlags := 25, slot := 2, constantValue := 0 }, { name := "digits", type := (.array .char), accessFlags := 24, slot := 3, constantValue := 0 }, { name := "DigitTens", type := (.array .byte), accessFlags := 24, slot := 4, constantValue := 0 }, { name := "DigitOnes", type := (.array .byte), accessFlags := 24, slot := 5, constantValue := 0 }, { name := "value", type := .int, accessFlags := 18, slot := 0, constantValue := 0 }, { name := "SIZE", type := .int, accessFlags := 25, slot := 6, constantValue := 0 }, { name := "BYTES", type := .int, accessFlags := 25, slot := 7, constantValue := 0 }, { name := "serialVersionUID", type := .long, accessFlags := 26, slot := 8, constantValue := 0 }]
  methods := #[k8m0, k8m1, k8m2, k8m3]
  instanceTypes := #[.int]
  staticTypes := #[.int, .int, (.object "java/lang/Class"), (.array .char), (.array .byte), (.array .byte), .int, .int, .long]
  resolved := Array.replicate 453 none
  statics := some 0 }

def pool9 : Array CpInfo := pool [(1, .class_ 2), (0, u "java/lang/Math"), (1, .class_ 6), (1, u "java/lang/Object"), (0, u "<init>"), (0, u "()V"), (89, .class_ 100), (1, u "java/lang/Math$RandomNumberGeneratorHolder"), (71, u "negativeZeroFloatBits"), (0, u "J"), (2, u "negativeZeroDoubleBits"), (21, u "max"), (2, u "min"), (43, u "$assertionsDisabled"), (0, u "Z"), (88, u "(II)I"), (2, u "twoToTheDoubleScaleDown"), (0, u "D"), (4, u "twoToTheDoubleScaleUp"), (9, u "E"), (3, u "PI"), (2, u "TAU"), (2, u "DEGREES_TO_RADIANS"), (0, u "RADIANS_TO_DEGREES")] 94

def k9m0 : Method := { name := "<init>", desc := "()V", sig := { parameters := [], returnType := none }, accessFlags := 2, code := none }
def k9c1 : Code := { maxStack := 2, maxLocals := 2, code := jdk_29_method_65_code, exceptionTable := #[], attributes := #[] }
def k9m1 : Method := { name := "max", desc := "(II)I", sig := { parameters := [.int, .int], returnType := some .int }, accessFlags := 9, code := some k9c1 }
def k9c2 : Code := { maxStack := 2, maxLocals := 2, code := jdk_29_method_69_code, exceptionTable := #[], attributes := #[] }
def k9m2 : Method := { name := "min", desc := "(II)I", sig := { parameters := [.int, .int], returnType := some .int }, accessFlags := 9, code := some k9c2 }
/-- java/lang/Math -/
def k9 : Class := { plain "java/lang/Math" (some 0) with
  accessFlags := 49
  interfaces := #[]
  cf := some (fileOf pool9 1 #[.nestMembers #[98]] #[{ accessFlags := 2, nameIndex := 7, descriptorIndex := 8, attributes := #[] }, { accessFlags := 9, nameIndex := 198, descriptorIndex := 335, attributes := #[] }, { accessFlags := 9, nameIndex := 201, descriptorIndex := 335, attributes := #[] }] 49 4 #[] #[{ accessFlags := 25, nameIndex := 354, descriptorIndex := 339, attributes := #[] }, { accessFlags := 25, nameIndex := 358, descriptorIndex := 339, attributes := #[] }, { accessFlags := 25, nameIndex := 361, descriptorIndex := 339, attributes := #[] }, { accessFlags := 26, nameIndex := 364, descriptorIndex := 339, attributes := #[] }, { accessFlags := 26, nameIndex := 365, descriptorIndex := 339, attributes := #[] }, { accessFlags := 26, nameIndex := 172, descriptorIndex := 173, attributes := #[] }, { accessFlags := 26, nameIndex := 176, descriptorIndex := 173, attributes := #[] }, { accessFlags := 8, nameIndex := 344, descriptorIndex := 339, attributes := #[] }, { accessFlags := 8, nameIndex := 338, descriptorIndex := 339, attributes := #[] }, { accessFlags := 4120, nameIndex := 245, descriptorIndex := 246, attributes := #[] }])
  fields := #[{ name := "E", type := .double, accessFlags := 25, slot := 0, constantValue := 0 }, { name := "PI", type := .double, accessFlags := 25, slot := 1, constantValue := 0 }, { name := "TAU", type := .double, accessFlags := 25, slot := 2, constantValue := 0 }, { name := "DEGREES_TO_RADIANS", type := .double, accessFlags := 26, slot := 3, constantValue := 0 }, { name := "RADIANS_TO_DEGREES", type := .double, accessFlags := 26, slot := 4, constantValue := 0 }, { name := "negativeZeroFloatBits", type := .long, accessFlags := 26, slot := 5, constantValue := 0 }, { name := "negativeZeroDoubleBits", type := .long, accessFlags := 26, slot := 6, constantValue := 0 }, { name := "twoToTheDoubleScaleUp", type := .double, accessFlags := 8, slot := 7, constantValue := 0 }, { name := "twoToTheDoubleScaleDown", type := .double, accessFlags := 8, slot := 8, constantValue := 0 }, { name := "$assertionsDisabled", type := .boolean, accessFlags := 4120, slot := 9, constantValue := 0 }]
  methods := #[k9m0, k9m1, k9m2]
  instanceTypes := #[]
  staticTypes := #[.double, .double, .double, .double, .double, .long, .long, .double, .double, .boolean]
  resolved := Array.replicate 460 none
  statics := none }

def pool10 : Array CpInfo := pool [(2, .class_ 4), (1, u "java/lang/CharSequence"), (42, .class_ 48), (0, u "java/lang/CharSequence$1CodePointIterator"), (10, .class_ 60), (0, u "java/lang/CharSequence$1CharIterator"), (5, .class_ 67), (0, u "java/lang/Object")] 63

/-- java/lang/CharSequence -/
def k10 : Class := { plain "java/lang/CharSequence" (some 0) with
  accessFlags := 1537
  interfaces := #[]
  cf := some (fileOf pool10 2 #[.nestMembers #[47, 59]] #[] 1537 66 #[] #[])
  fields := #[]
  methods := #[]
  instanceTypes := #[]
  staticTypes := #[]
  resolved := Array.replicate 131 none
  statics := none }

def pool11 : Array CpInfo := pool [(1, .methodref 2 3), (0, .class_ 4), (0, .nameAndType 5 6), (0, u "java/lang/Object"), (0, u "<init>"), (0, u "()V"), (2, .fieldref 10 11), (0, .class_ 12), (0, .nameAndType 13 14), (0, u "java/lang/String"), (0, u "value"), (0, u "[B"), (0, .fieldref 10 16), (0, .nameAndType 17 18), (0, u "coder"), (0, u "B"), (2, u "hash"), (0, u "I"), (2, u "hashIsZero"), (0, u "Z"), (11, .fieldref 10 39), (0, .nameAndType 40 26), (0, u "COMPACT_STRINGS"), (13, .methodref 55 56), (0, .class_ 57), (0, .nameAndType 58 59), (0, u "java/util/Arrays"), (0, u "copyOfRange"), (0, u "([BII)[B"), (47, .class_ 109), (1, u "java/lang/StringLatin1"), (32, u "()Z"), (50, .class_ 195), (1, u "java/lang/System"), (15, u "([BB)V"), (0, .methodref 193 213), (0, .nameAndType 214 215), (0, u "arraycopy"), (0, u "(Ljava/lang/Object;ILjava/lang/Object;II)V"), (118, u "()I"), (0, .methodref 10 336), (0, .nameAndType 17 337), (0, u "()B"), (2, u "()[B"), (22, u "([BI)C"), (27, u "(II)V"), (35, u "(I)C"), (61, .methodref 10 490), (0, .nameAndType 5 491), (0, u "(Ljava/lang/AbstractStringBuilder;Ljava/lang/Void;)V"), (0, .methodref 10 493), (0, .nameAndType 494 142), (0, u "isLatin1"), (0, .methodref 107 496), (0, .nameAndType 497 363), (0, u "charAt"), (3, u "checkIndex"), (3, .methodref 10 506), (0, .nameAndType 507 334), (0, u "length"), (5, u "checkFromToIndex"), (7, .methodref 10 522), (0, .nameAndType 523 524), (0, u "checkBoundsBeginEnd"), (0, u "(III)V"), (7, u "getBytes"), (16, .methodref 550 506), (0, .class_ 551), (0, u "java/lang/AbstractStringBuilder"), (0, .methodref 550 553), (0, .nameAndType 554 340), (0, u "getValue"), (20, .class_ 576), (0, u "java/lang/CharSequence"), (22, u "CASE_INSENSITIVE_ORDER"), (0, u "Ljava/util/Comparator;"), (80, .methodref 10 682), (0, .nameAndType 683 684), (0, u "substring"), (0, u "(II)Ljava/lang/String;"), (0, .methodref 107 686), (0, .nameAndType 687 688), (0, u "newString"), (0, u "([BII)Ljava/lang/String;"), (132, u "([BIB)V"), (70, u "(I)Ljava/lang/String;"), (154, .methodref 550 493), (5, .fieldref 1054 1055), (0, .class_ 1056), (0, .nameAndType 1057 1058), (0, u "jdk/internal/util/Preconditions"), (0, u "SIOOBE_FORMATTER"), (0, u "Ljava/util/function/BiFunction;"), (0, .methodref 1054 1060), (0, .nameAndType 501 1061), (0, u "(IILjava/util/function/BiFunction;)I"), (0, .methodref 1054 1063), (0, .nameAndType 513 1064), (0, u "(IIILjava/util/function/BiFunction;)I"), (36, u "serialPersistentFields"), (0, u "[Ljava/io/ObjectStreamField;"), (0, .class_ 1104), (0, u "java/lang/String$CaseInsensitiveComparator"), (1, .class_ 1107), (0, u "java/io/Serializable"), (0, .class_ 1109), (0, u "java/lang/Comparable"), (0, .class_ 1111), (0, u "java/lang/constant/Constable"), (0, .class_ 1113), (0, u "java/lang/constant/ConstantDesc"), (2, u "serialVersionUID"), (0, u "J"), (3, u "REPL"), (0, u "C"), (2, u "LATIN1"), (1, u "UTF16"), (105, u "(Ljava/lang/StringBuilder;)V")] 217

def k11m0 : Method := { name := "<init>", desc := "()V", sig := { parameters := [], returnType := none }, accessFlags := 1, code := none }
def k11c1 : Code := { maxStack := 3, maxLocals := 2, code := jdk_42_method_53_code, exceptionTable := #[], attributes := #[] }
def k11m1 : Method := { name := "<init>", desc := "(Ljava/lang/StringBuilder;)V", sig := { parameters := [(.object "java/lang/StringBuilder")], returnType := none }, accessFlags := 1, code := some k11c1 }
def k11c2 : Code := { maxStack := 2, maxLocals := 1, code := jdk_42_method_54_code, exceptionTable := #[], attributes := #[] }
def k11m2 : Method := { name := "length", desc := "()I", sig := { parameters := [], returnType := some .int }, accessFlags := 1, code := some k11c2 }
def k11c3 : Code := { maxStack := 2, maxLocals := 2, code := jdk_42_method_56_code, exceptionTable := #[], attributes := #[] }
def k11m3 : Method := { name := "charAt", desc := "(I)C", sig := { parameters := [.int], returnType := some .char }, accessFlags := 1, code := some k11c3 }
def k11c4 : Code := { maxStack := 3, maxLocals := 2, code := jdk_42_method_91_code, exceptionTable := #[], attributes := #[] }
def k11m4 : Method := { name := "substring", desc := "(I)Ljava/lang/String;", sig := { parameters := [.int], returnType := some (.object "java/lang/String") }, accessFlags := 1, code := some k11c4 }
def k11c5 : Code := { maxStack := 3, maxLocals := 5, code := jdk_42_method_92_code, exceptionTable := #[], attributes := #[] }
def k11m5 : Method := { name := "substring", desc := "(II)Ljava/lang/String;", sig := { parameters := [.int, .int], returnType := some (.object "java/lang/String") }, accessFlags := 1, code := some k11c5 }
def k11c6 : Code := { maxStack := 5, maxLocals := 4, code := jdk_42_method_147_code, exceptionTable := #[], attributes := #[] }
def k11m6 : Method := { name := "getBytes", desc := "([BIB)V", sig := { parameters := [(.array .byte), .int, .byte], returnType := none }, accessFlags := 0, code := some k11c6 }
def k11c7 : Code := { maxStack := 5, maxLocals := 5, code := jdk_42_method_150_code, exceptionTable := #[], attributes := #[] }
def k11m7 : Method := { name := "<init>", desc := "(Ljava/lang/AbstractStringBuilder;Ljava/lang/Void;)V", sig := { parameters := [(.object "java/lang/AbstractStringBuilder"), (.object "java/lang/Void")], returnType := none }, accessFlags := 0, code := some k11c7 }
def k11c8 : Code := { maxStack := 2, maxLocals := 3, code := jdk_42_method_151_code, exceptionTable := #[], attributes := #[] }
def k11m8 : Method := { name := "<init>", desc := "([BB)V", sig := { parameters := [(.array .byte), .byte], returnType := none }, accessFlags := 0, code := some k11c8 }
def k11c9 : Code := { maxStack := 1, maxLocals := 1, code := jdk_42_method_152_code, exceptionTable := #[], attributes := #[] }
def k11m9 : Method := { name := "coder", desc := "()B", sig := { parameters := [], returnType := some .byte }, accessFlags := 0, code := some k11c9 }
def k11c10 : Code := { maxStack := 1, maxLocals := 1, code := jdk_42_method_154_code, exceptionTable := #[], attributes := #[] }
def k11m10 : Method := { name := "isLatin1", desc := "()Z", sig := { parameters := [], returnType := some .boolean }, accessFlags := 0, code := some k11c10 }
def k11c11 : Code := { maxStack := 3, maxLocals := 2, code := jdk_42_method_155_code, exceptionTable := #[], attributes := #[] }
def k11m11 : Method := { name := "checkIndex", desc := "(II)V", sig := { parameters := [.int, .int], returnType := none }, accessFlags := 8, code := some k11c11 }
def k11c12 : Code := { maxStack := 4, maxLocals := 3, code := jdk_42_method_158_code, exceptionTable := #[], attributes := #[] }
def k11m12 : Method := { name := "checkBoundsBeginEnd", desc := "(III)V", sig := { parameters := [.int, .int, .int], returnType := none }, accessFlags := 8, code := some k11c12 }
/-- java/lang/String -/
def k11 : Class := { plain "java/lang/String" (some 0) with
  accessFlags := 49
  interfaces := #[3, 5, 10, 6, 7]
  cf := some (fileOf pool11 10 #[.nestMembers #[1103]] #[{ accessFlags := 1, nameIndex := 5, descriptorIndex := 6, attributes := #[] }, { accessFlags := 1, nameIndex := 5, descriptorIndex := 1233, attributes := #[] }, { accessFlags := 1, nameIndex := 507, descriptorIndex := 334, attributes := #[] }, { accessFlags := 1, nameIndex := 497, descriptorIndex := 427, attributes := #[] }, { accessFlags := 1, nameIndex := 683, descriptorIndex := 892, attributes := #[] }, { accessFlags := 1, nameIndex := 683, descriptorIndex := 684, attributes := #[] }, { accessFlags := 0, nameIndex := 532, descriptorIndex := 821, attributes := #[] }, { accessFlags := 0, nameIndex := 5, descriptorIndex := 491, attributes := #[] }, { accessFlags := 0, nameIndex := 5, descriptorIndex := 211, attributes := #[] }, { accessFlags := 0, nameIndex := 17, descriptorIndex := 337, attributes := #[] }, { accessFlags := 0, nameIndex := 494, descriptorIndex := 142, attributes := #[] }, { accessFlags := 8, nameIndex := 501, descriptorIndex := 391, attributes := #[] }, { accessFlags := 8, nameIndex := 523, descriptorIndex := 524, attributes := #[] }] 49 2 #[1106, 1108, 575, 1110, 1112] #[{ accessFlags := 18, nameIndex := 13, descriptorIndex := 14, attributes := #[] }, { accessFlags := 18, nameIndex := 17, descriptorIndex := 18, attributes := #[] }, { accessFlags := 2, nameIndex := 21, descriptorIndex := 22, attributes := #[] }, { accessFlags := 2, nameIndex := 25, descriptorIndex := 26, attributes := #[] }, { accessFlags := 26, nameIndex := 1116, descriptorIndex := 1117, attributes := #[] }, { accessFlags := 24, nameIndex := 40, descriptorIndex := 26, attributes := #[] }, { accessFlags := 26, nameIndex := 1101, descriptorIndex := 1102, attributes := #[] }, { accessFlags := 26, nameIndex := 1121, descriptorIndex := 1122, attributes := #[] }, { accessFlags := 25, nameIndex := 599, descriptorIndex := 600, attributes := #[] }, { accessFlags := 24, nameIndex := 1125, descriptorIndex := 18, attributes := #[] }, { accessFlags := 24, nameIndex := 1127, descriptorIndex := 18, attributes := #[] }])
  fields := #[{ name := "value", type := (.array .byte), accessFlags := 18, slot := 0, constantValue := 0 }, { name := "coder", type := .byte, accessFlags := 18, slot := 1, constantValue := 0 }, { name := "hash", type := .int, accessFlags := 2, slot := 2, constantValue := 0 }, { name := "hashIsZero", type := .boolean, accessFlags := 2, slot := 3, constantValue := 0 }, { name := "serialVersionUID", type := .long, accessFlags := 26, slot := 0, constantValue := 0 }, { name := "COMPACT_STRINGS", type := .boolean, accessFlags := 24, slot := 1, constantValue := 0 }, { name := "serialPersistentFields", type := (.array (.object "java/io/ObjectStreamField")), accessFlags := 26, slot := 2, constantValue := 0 }, { name := "REPL", type := .char, accessFlags := 26, slot := 3, constantValue := 0 }, { name := "CASE_INSENSITIVE_ORDER", type := (.object "java/util/Comparator"), accessFlags := 25, slot := 4, constantValue := 0 }, { name := "LATIN1", type := .byte, accessFlags := 24, slot := 5, constantValue := 0 }, { name := "UTF16", type := .byte, accessFlags := 24, slot := 6, constantValue := 0 }]
  methods := #[k11m0, k11m1, k11m2, k11m3, k11m4, k11m5, k11m6, k11m7, k11m8, k11m9, k11m10, k11m11, k11m12]
  instanceTypes := #[(.array .byte), .byte, .int, .boolean]
  staticTypes := #[.long, .boolean, (.array (.object "java/io/ObjectStreamField")), .char, (.object "java/util/Comparator"), .byte, .byte]
  resolved := Array.replicate 1451 none
  statics := some 1 }

def pool12 : Array CpInfo := pool [(1, .class_ 2), (0, u "java/lang/Appendable"), (0, .class_ 4), (0, u "java/lang/Object")] 9

/-- java/lang/Appendable -/
def k12 : Class := { plain "java/lang/Appendable" (some 0) with
  accessFlags := 1537
  interfaces := #[]
  cf := some (fileOf pool12 1 #[] #[] 1537 3 #[] #[])
  fields := #[]
  methods := #[]
  instanceTypes := #[]
  staticTypes := #[]
  resolved := Array.replicate 14 none
  statics := none }

def pool13 : Array CpInfo := pool [(1, .class_ 2), (0, u "java/lang/String"), (0, .methodref 4 5), (0, .class_ 6), (0, .nameAndType 7 8), (0, u "java/lang/Object"), (0, u "<init>"), (0, u "()V"), (1, .class_ 12), (1, u "java/lang/AbstractStringBuilder"), (0, u "EMPTYVALUE"), (0, u "[B"), (0, .fieldref 10 16), (0, .nameAndType 17 14), (0, u "value"), (0, .fieldref 1 19), (0, .nameAndType 20 21), (0, u "COMPACT_STRINGS"), (0, u "Z"), (0, .fieldref 10 23), (0, .nameAndType 24 25), (0, u "coder"), (0, u "B"), (6, .methodref 1 33), (0, .nameAndType 34 35), (0, u "length"), (0, u "()I"), (4, .methodref 1 41), (0, .nameAndType 24 42), (0, u "()B"), (2, u "append"), (0, u "(Ljava/lang/String;)Ljava/lang/AbstractStringBuilder;"), (1, .class_ 49), (0, u "java/lang/CharSequence"), (19, u "(Ljava/lang/String;)V"), (5, u "maybeLatin1"), (3, .fieldref 10 80), (0, .nameAndType 81 82), (0, u "count"), (0, u "I"), (2, u "isLatin1"), (0, u "()Z"), (13, .methodref 10 101), (0, .nameAndType 102 103), (0, u "ensureCapacityInternal"), (0, u "(I)V"), (104, .methodref 10 209), (0, .nameAndType 210 211), (0, u "putStringAt"), (0, u "(ILjava/lang/String;)V"), (5, u "inflateIfNeededFor"), (2, .nameAndType 221 222), (0, u "getBytes"), (0, u "([BIB)V"), (174, .methodref 10 398), (0, .nameAndType 217 69), (0, .methodref 1 220), (3, u "()[B"), (40, .class_ 445), (0, u "java/lang/Appendable"), (106, u "getValue")] 56

def k13m0 : Method := { name := "<init>", desc := "()V", sig := { parameters := [], returnType := none }, accessFlags := 0, code := none }
def k13c1 : Code := { maxStack := 2, maxLocals := 2, code := jdk_68_method_2_code, exceptionTable := #[], attributes := #[] }
def k13m1 : Method := { name := "<init>", desc := "(I)V", sig := { parameters := [.int], returnType := none }, accessFlags := 0, code := some k13c1 }
def k13c2 : Code := { maxStack := 1, maxLocals := 1, code := jdk_68_method_6_code, exceptionTable := #[], attributes := #[] }
def k13m2 : Method := { name := "length", desc := "()I", sig := { parameters := [], returnType := some .int }, accessFlags := 1, code := some k13c2 }
def k13c3 : Code := { maxStack := 4, maxLocals := 3, code := jdk_68_method_9_code, exceptionTable := #[], attributes := #[] }
def k13m3 : Method := { name := "ensureCapacityInternal", desc := "(I)V", sig := { parameters := [.int], returnType := none }, accessFlags := 2, code := some k13c3 }
def k13c4 : Code := { maxStack := 3, maxLocals := 3, code := jdk_68_method_22_code, exceptionTable := #[], attributes := #[] }
def k13m4 : Method := { name := "append", desc := "(Ljava/lang/String;)Ljava/lang/AbstractStringBuilder;", sig := { parameters := [(.object "java/lang/String")], returnType := some (.object "java/lang/AbstractStringBuilder") }, accessFlags := 1, code := some k13c4 }
def k13c5 : Code := { maxStack := 1, maxLocals := 1, code := jdk_68_method_64_code, exceptionTable := #[], attributes := #[] }
def k13m5 : Method := { name := "getValue", desc := "()[B", sig := { parameters := [], returnType := some (.array .byte) }, accessFlags := 16, code := some k13c5 }
def k13c6 : Code := { maxStack := 1, maxLocals := 1, code := jdk_68_method_68_code, exceptionTable := #[], attributes := #[] }
def k13m6 : Method := { name := "isLatin1", desc := "()Z", sig := { parameters := [], returnType := some .boolean }, accessFlags := 16, code := some k13c6 }
def k13c7 : Code := { maxStack := 2, maxLocals := 2, code := jdk_68_method_71_code, exceptionTable := #[], attributes := #[] }
def k13m7 : Method := { name := "inflateIfNeededFor", desc := "(Ljava/lang/String;)V", sig := { parameters := [(.object "java/lang/String")], returnType := none }, accessFlags := 2, code := some k13c7 }
def k13c8 : Code := { maxStack := 4, maxLocals := 3, code := jdk_68_method_73_code, exceptionTable := #[], attributes := #[] }
def k13m8 : Method := { name := "putStringAt", desc := "(ILjava/lang/String;)V", sig := { parameters := [.int, (.object "java/lang/String")], returnType := none }, accessFlags := 2, code := some k13c8 }
/-- java/lang/AbstractStringBuilder -/
def k13 : Class := { plain "java/lang/AbstractStringBuilder" (some 0) with
  accessFlags := 1056
  interfaces := #[12, 10]
  cf := some (fileOf pool13 10 #[] #[{ accessFlags := 0, nameIndex := 7, descriptorIndex := 8, attributes := #[] }, { accessFlags := 0, nameIndex := 7, descriptorIndex := 103, attributes := #[] }, { accessFlags := 1, nameIndex := 34, descriptorIndex := 35, attributes := #[] }, { accessFlags := 2, nameIndex := 102, descriptorIndex := 103, attributes := #[] }, { accessFlags := 1, nameIndex := 45, descriptorIndex := 46, attributes := #[] }, { accessFlags := 16, nameIndex := 552, descriptorIndex := 403, attributes := #[] }, { accessFlags := 16, nameIndex := 85, descriptorIndex := 86, attributes := #[] }, { accessFlags := 2, nameIndex := 217, descriptorIndex := 69, attributes := #[] }, { accessFlags := 2, nameIndex := 210, descriptorIndex := 211, attributes := #[] }] 1056 4 #[444, 48] #[{ accessFlags := 0, nameIndex := 17, descriptorIndex := 14, attributes := #[] }, { accessFlags := 0, nameIndex := 24, descriptorIndex := 25, attributes := #[] }, { accessFlags := 0, nameIndex := 75, descriptorIndex := 21, attributes := #[] }, { accessFlags := 0, nameIndex := 81, descriptorIndex := 82, attributes := #[] }, { accessFlags := 26, nameIndex := 13, descriptorIndex := 14, attributes := #[] }])
  fields := #[{ name := "value", type := (.array .byte), accessFlags := 0, slot := 0, constantValue := 0 }, { name := "coder", type := .byte, accessFlags := 0, slot := 1, constantValue := 0 }, { name := "maybeLatin1", type := .boolean, accessFlags := 0, slot := 2, constantValue := 0 }, { name := "count", type := .int, accessFlags := 0, slot := 3, constantValue := 0 }, { name := "EMPTYVALUE", type := (.array .byte), accessFlags := 26, slot := 0, constantValue := 0 }]
  methods := #[k13m0, k13m1, k13m2, k13m3, k13m4, k13m5, k13m6, k13m7, k13m8]
  instanceTypes := #[(.array .byte), .byte, .boolean, .int]
  staticTypes := #[(.array .byte)]
  resolved := Array.replicate 609 none
  statics := none }

def pool14 : Array CpInfo := pool [(1, .methodref 2 3), (0, .class_ 4), (0, .nameAndType 5 6), (0, u "java/lang/AbstractStringBuilder"), (0, u "<init>"), (0, u "(I)V"), (11, .class_ 20), (1, u "java/lang/String"), (3, .class_ 26), (1, u "java/lang/StringBuilder"), (0, u "append"), (0, u "(Ljava/lang/String;)Ljava/lang/StringBuilder;"), (0, .methodref 2 30), (0, .nameAndType 27 31), (0, u "(Ljava/lang/String;)Ljava/lang/AbstractStringBuilder;"), (105, .methodref 18 138), (0, .nameAndType 5 139), (0, u "(Ljava/lang/StringBuilder;)V"), (5, u "()V"), (10, u "()I"), (186, .methodref 2 344), (0, .nameAndType 345 156), (0, u "length"), (3, .class_ 350), (0, u "java/lang/Appendable"), (0, .class_ 352), (0, u "java/io/Serializable"), (0, .class_ 354), (0, u "java/lang/Comparable"), (0, .class_ 356), (0, u "java/lang/CharSequence"), (0, u "serialVersionUID"), (0, u "J"), (40, u "toString"), (0, u "()Ljava/lang/String;")] 21

def k14c0 : Code := { maxStack := 2, maxLocals := 1, code := jdk_67_method_1_code, exceptionTable := #[], attributes := #[] }
def k14m0 : Method := { name := "<init>", desc := "()V", sig := { parameters := [], returnType := none }, accessFlags := 1, code := some k14c0 }
def k14c1 : Code := { maxStack := 2, maxLocals := 2, code := jdk_67_method_7_code, exceptionTable := #[], attributes := #[] }
def k14m1 : Method := { name := "append", desc := "(Ljava/lang/String;)Ljava/lang/StringBuilder;", sig := { parameters := [(.object "java/lang/String")], returnType := some (.object "java/lang/StringBuilder") }, accessFlags := 1, code := some k14c1 }
def k14c2 : Code := { maxStack := 3, maxLocals := 1, code := jdk_67_method_42_code, exceptionTable := #[], attributes := #[] }
def k14m2 : Method := { name := "toString", desc := "()Ljava/lang/String;", sig := { parameters := [], returnType := some (.object "java/lang/String") }, accessFlags := 1, code := some k14c2 }
def k14c3 : Code := { maxStack := 1, maxLocals := 1, code := jdk_67_method_93_code, exceptionTable := #[], attributes := #[] }
def k14m3 : Method := { name := "length", desc := "()I", sig := { parameters := [], returnType := some .int }, accessFlags := 4161, code := some k14c3 }
/-- java/lang/StringBuilder -/
def k14 : Class := { plain "java/lang/StringBuilder" (some 13) with
  accessFlags := 49
  interfaces := #[12, 3, 5, 10]
  cf := some (fileOf pool14 24 #[] #[{ accessFlags := 1, nameIndex := 5, descriptorIndex := 145, attributes := #[] }, { accessFlags := 1, nameIndex := 27, descriptorIndex := 28, attributes := #[] }, { accessFlags := 1, nameIndex := 399, descriptorIndex := 400, attributes := #[] }, { accessFlags := 4161, nameIndex := 345, descriptorIndex := 156, attributes := #[] }] 49 2 #[349, 351, 353, 355] #[{ accessFlags := 24, nameIndex := 357, descriptorIndex := 358, attributes := #[] }])
  fields := #[{ name := "serialVersionUID", type := .long, accessFlags := 24, slot := 0, constantValue := 0 }]
  methods := #[k14m0, k14m1, k14m2, k14m3]
  instanceTypes := #[(.array .byte), .byte, .boolean, .int]
  staticTypes := #[.long]
  resolved := Array.replicate 422 none
  statics := none }

def pool15 : Array CpInfo := pool [(2, .class_ 4), (1, u "java/lang/Object"), (0, u "<init>"), (0, u "()V"), (1, .class_ 10), (1, u "java/lang/System"), (0, u "allowSecurityManager"), (0, u "I"), (16, u "cons"), (0, u "Ljava/io/Console;"), (77, .class_ 110), (1, u "java/lang/System$CallersHolder"), (43, u "initialErrStream"), (0, u "Ljava/io/PrintStream;"), (19, u "security"), (0, u "Ljava/lang/SecurityManager;"), (31, .class_ 209), (0, u "java/lang/System$1"), (7, u "props"), (0, u "Ljava/util/Properties;"), (2, u "lineSeparator"), (0, u "Ljava/lang/String;"), (96, .class_ 321), (1, u "java/lang/System$LoggerFinder"), (5, .class_ 328), (0, u "java/lang/System$Logger"), (67, u "err"), (2, u "out"), (91, u "notSupportedJnuEncoding"), (15, u "in"), (17, u "initialIn"), (0, u "Ljava/io/InputStream;"), (35, u "bootLayer"), (0, u "Ljava/lang/ModuleLayer;"), (99, .class_ 664), (0, u "java/lang/System$2"), (9, u "NEVER"), (2, u "MAYBE"), (49, u "arraycopy"), (0, u "(Ljava/lang/Object;ILjava/lang/Object;II)V"), (72, .class_ 802), (0, u "java/lang/System$Logger$Level")] 31

def k15m0 : Method := { name := "<init>", desc := "()V", sig := { parameters := [], returnType := none }, accessFlags := 2, code := none }
def k15m1 : Method := { name := "arraycopy", desc := "(Ljava/lang/Object;ILjava/lang/Object;II)V", sig := { parameters := [(.object "java/lang/Object"), .int, (.object "java/lang/Object"), .int, .int], returnType := none }, accessFlags := 265, code := none }
/-- java/lang/System -/
def k15 : Class := { plain "java/lang/System" (some 0) with
  accessFlags := 49
  interfaces := #[]
  cf := some (fileOf pool15 8 #[.nestMembers #[319, 327, 801, 108, 663, 208]] #[{ accessFlags := 2, nameIndex := 5, descriptorIndex := 6, attributes := #[] }, { accessFlags := 265, nameIndex := 727, descriptorIndex := 728, attributes := #[] }] 49 2 #[] #[{ accessFlags := 25, nameIndex := 507, descriptorIndex := 526, attributes := #[] }, { accessFlags := 25, nameIndex := 399, descriptorIndex := 155, attributes := #[] }, { accessFlags := 25, nameIndex := 396, descriptorIndex := 155, attributes := #[] }, { accessFlags := 10, nameIndex := 525, descriptorIndex := 526, attributes := #[] }, { accessFlags := 26, nameIndex := 674, descriptorIndex := 12, attributes := #[] }, { accessFlags := 26, nameIndex := 677, descriptorIndex := 12, attributes := #[] }, { accessFlags := 10, nameIndex := 11, descriptorIndex := 12, attributes := #[] }, { accessFlags := 74, nameIndex := 175, descriptorIndex := 176, attributes := #[] }, { accessFlags := 10, nameIndex := 491, descriptorIndex := 222, attributes := #[] }, { accessFlags := 74, nameIndex := 29, descriptorIndex := 30, attributes := #[] }, { accessFlags := 74, nameIndex := 154, descriptorIndex := 155, attributes := #[] }, { accessFlags := 10, nameIndex := 217, descriptorIndex := 218, attributes := #[] }, { accessFlags := 10, nameIndex := 221, descriptorIndex := 222, attributes := #[] }, { accessFlags := 8, nameIndex := 562, descriptorIndex := 563, attributes := #[] }])
  fields := #[{ name := "in", type := (.object "java/io/InputStream"), accessFlags := 25, slot := 0, constantValue := 0 }, { name := "out", type := (.object "java/io/PrintStream"), accessFlags := 25, slot := 1, constantValue := 0 }, { name := "err", type := (.object "java/io/PrintStream"), accessFlags := 25, slot := 2, constantValue := 0 }, { name := "initialIn", type := (.object "java/io/InputStream"), accessFlags := 10, slot := 3, constantValue := 0 }, { name := "NEVER", type := .int, accessFlags := 26, slot := 4, constantValue := 0 }, { name := "MAYBE", type := .int, accessFlags := 26, slot := 5, constantValue := 0 }, { name := "allowSecurityManager", type := .int, accessFlags := 10, slot := 6, constantValue := 0 }, { name := "security", type := (.object "java/lang/SecurityManager"), accessFlags := 74, slot := 7, constantValue := 0 }, { name := "notSupportedJnuEncoding", type := (.object "java/lang/String"), accessFlags := 10, slot := 8, constantValue := 0 }, { name := "cons", type := (.object "java/io/Console"), accessFlags := 74, slot := 9, constantValue := 0 }, { name := "initialErrStream", type := (.object "java/io/PrintStream"), accessFlags := 74, slot := 10, constantValue := 0 }, { name := "props", type := (.object "java/util/Properties"), accessFlags := 10, slot := 11, constantValue := 0 }, { name := "lineSeparator", type := (.object "java/lang/String"), accessFlags := 10, slot := 12, constantValue := 0 }, { name := "bootLayer", type := (.object "java/lang/ModuleLayer"), accessFlags := 8, slot := 13, constantValue := 0 }]
  methods := #[k15m0, k15m1]
  instanceTypes := #[]
  staticTypes := #[(.object "java/io/InputStream"), (.object "java/io/PrintStream"), (.object "java/io/PrintStream"), (.object "java/io/InputStream"), .int, .int, .int, (.object "java/lang/SecurityManager"), (.object "java/lang/String"), (.object "java/io/Console"), (.object "java/io/PrintStream"), (.object "java/util/Properties"), (.object "java/lang/String"), (.object "java/lang/ModuleLayer")]
  resolved := Array.replicate 834 none
  statics := none }

def pool16 : Array CpInfo := pool [(2, .class_ 4), (1, u "java/lang/Object"), (0, u "<init>"), (0, u "()V"), (17, .class_ 26), (1, u "jdk/internal/util/Preconditions"), (6, u "checkIndex"), (13, u "checkFromToIndex"), (7, .class_ 56), (0, u "jdk/internal/util/Preconditions$4"), (57, .class_ 115), (0, u "jdk/internal/util/Preconditions$1"), (7, u "SIOOBE_FORMATTER"), (0, u "Ljava/util/function/BiFunction;"), (0, .class_ 126), (0, u "jdk/internal/util/Preconditions$2"), (3, u "AIOOBE_FORMATTER"), (0, .class_ 132), (0, u "jdk/internal/util/Preconditions$3"), (3, u "IOOBE_FORMATTER"), (41, u "(IILjava/util/function/BiFunction;)I"), (4, u "(IIILjava/util/function/BiFunction;)I")] 10

def k16m0 : Method := { name := "<init>", desc := "()V", sig := { parameters := [], returnType := none }, accessFlags := 1, code := none }
def k16c1 : Code := { maxStack := 3, maxLocals := 3, code := jdk_41_method_11_code, exceptionTable := #[], attributes := #[] }
def k16m1 : Method := { name := "checkIndex", desc := "(IILjava/util/function/BiFunction;)I", sig := { parameters := [.int, .int, (.object "java/util/function/BiFunction")], returnType := some .int }, accessFlags := 9, code := some k16c1 }
def k16c2 : Code := { maxStack := 4, maxLocals := 4, code := jdk_41_method_12_code, exceptionTable := #[], attributes := #[] }
def k16m2 : Method := { name := "checkFromToIndex", desc := "(IIILjava/util/function/BiFunction;)I", sig := { parameters := [.int, .int, .int, (.object "java/util/function/BiFunction")], returnType := some .int }, accessFlags := 9, code := some k16c2 }
/-- jdk/internal/util/Preconditions -/
def k16 : Class := { plain "jdk/internal/util/Preconditions" (some 0) with
  accessFlags := 33
  interfaces := #[]
  cf := some (fileOf pool16 24 #[.nestMembers #[55, 131, 125, 114]] #[{ accessFlags := 1, nameIndex := 5, descriptorIndex := 6, attributes := #[] }, { accessFlags := 9, nameIndex := 33, descriptorIndex := 178, attributes := #[] }, { accessFlags := 9, nameIndex := 47, descriptorIndex := 183, attributes := #[] }] 33 2 #[] #[{ accessFlags := 25, nameIndex := 123, descriptorIndex := 124, attributes := #[] }, { accessFlags := 25, nameIndex := 130, descriptorIndex := 124, attributes := #[] }, { accessFlags := 25, nameIndex := 136, descriptorIndex := 124, attributes := #[] }])
  fields := #[{ name := "SIOOBE_FORMATTER", type := (.object "java/util/function/BiFunction"), accessFlags := 25, slot := 0, constantValue := 0 }, { name := "AIOOBE_FORMATTER", type := (.object "java/util/function/BiFunction"), accessFlags := 25, slot := 1, constantValue := 0 }, { name := "IOOBE_FORMATTER", type := (.object "java/util/function/BiFunction"), accessFlags := 25, slot := 2, constantValue := 0 }]
  methods := #[k16m0, k16m1, k16m2]
  instanceTypes := #[]
  staticTypes := #[(.object "java/util/function/BiFunction"), (.object "java/util/function/BiFunction"), (.object "java/util/function/BiFunction")]
  resolved := Array.replicate 194 none
  statics := some 2 }

def pool17 : Array CpInfo := pool [(1, .class_ 2), (0, u "java/lang/String"), (1, .class_ 6), (1, u "java/lang/Object"), (0, u "<init>"), (0, u "()V"), (0, .methodref 1 10), (0, .nameAndType 11 12), (0, u "checkIndex"), (0, u "(II)V"), (1, .class_ 16), (1, u "java/lang/StringLatin1"), (36, u "([BI)C"), (58, .methodref 1 113), (0, .nameAndType 7 114), (0, u "([BB)V"), (6, u "$assertionsDisabled"), (0, u "Z"), (8, .class_ 133), (1, u "java/util/Arrays"), (17, .string 152), (0, u ""), (43, u "newString"), (0, u "([BII)Ljava/lang/String;"), (23, .class_ 223), (1, u "java/lang/StringLatin1$LinesSpliterator"), (8, .methodref 131 233), (0, .nameAndType 234 235), (0, u "copyOfRange"), (0, u "([BII)[B"), (16, u "charAt"), (137, .class_ 391), (0, u "java/lang/StringLatin1$CharsSpliterator")] 3

def k17m0 : Method := { name := "<init>", desc := "()V", sig := { parameters := [], returnType := none }, accessFlags := 0, code := none }
def k17c1 : Code := { maxStack := 2, maxLocals := 2, code := jdk_43_method_2_code, exceptionTable := #[], attributes := #[] }
def k17m1 : Method := { name := "charAt", desc := "([BI)C", sig := { parameters := [(.array .byte), .int], returnType := some .char }, accessFlags := 9, code := some k17c1 }
def k17c2 : Code := { maxStack := 6, maxLocals := 3, code := jdk_43_method_47_code, exceptionTable := #[], attributes := #[] }
def k17m2 : Method := { name := "newString", desc := "([BII)Ljava/lang/String;", sig := { parameters := [(.array .byte), .int, .int], returnType := some (.object "java/lang/String") }, accessFlags := 9, code := some k17c2 }
/-- java/lang/StringLatin1 -/
def k17 : Class := { plain "java/lang/StringLatin1" (some 0) with
  accessFlags := 48
  interfaces := #[]
  cf := some (fileOf pool17 14 #[.nestMembers #[390, 221]] #[{ accessFlags := 0, nameIndex := 7, descriptorIndex := 8, attributes := #[] }, { accessFlags := 9, nameIndex := 252, descriptorIndex := 53, attributes := #[] }, { accessFlags := 9, nameIndex := 196, descriptorIndex := 197, attributes := #[] }] 48 4 #[] #[{ accessFlags := 4120, nameIndex := 121, descriptorIndex := 122, attributes := #[] }])
  fields := #[{ name := "$assertionsDisabled", type := .boolean, accessFlags := 4120, slot := 0, constantValue := 0 }]
  methods := #[k17m0, k17m1, k17m2]
  instanceTypes := #[]
  staticTypes := #[.boolean]
  resolved := Array.replicate 395 none
  statics := none }

def pool18 : Array CpInfo := pool [(2, .class_ 4), (1, u "java/lang/Object"), (0, u "<init>"), (0, u "()V"), (7, .class_ 16), (1, u "java/util/Arrays"), (57, .class_ 76), (1, u "java/util/Arrays$NaturalOrder"), (36, .class_ 115), (1, u "java/util/Arrays$LegacyMergeSort"), (1, u "Z"), (21, u "copyOfRange"), (10, .methodref 151 152), (0, .class_ 153), (0, .nameAndType 154 155), (0, u "java/lang/System"), (0, u "arraycopy"), (0, u "(Ljava/lang/Object;ILjava/lang/Object;II)V"), (148, .methodref 305 306), (0, .class_ 307), (0, .nameAndType 308 309), (0, u "java/lang/Math"), (0, u "min"), (0, u "(II)I"), (29, .methodref 14 340), (0, .nameAndType 341 342), (0, u "copyOfRangeByte"), (0, u "([BII)[B"), (0, .methodref 14 344), (0, .nameAndType 345 346), (0, u "checkLength"), (0, u "(II)V"), (28, .class_ 376), (0, u "java/util/Arrays$ArrayList"), (68, u "$assertionsDisabled"), (269, u "MIN_ARRAY_SORT_GRAN"), (0, u "I"), (2, u "INSERTIONSORT_THRESHOLD"), (255, .class_ 976), (0, u "java/util/Arrays$ArrayItr")] 52

def k18m0 : Method := { name := "<init>", desc := "()V", sig := { parameters := [], returnType := none }, accessFlags := 2, code := none }
def k18c1 : Code := { maxStack := 4, maxLocals := 2, code := jdk_65_method_131_code, exceptionTable := #[], attributes := #[] }
def k18m1 : Method := { name := "checkLength", desc := "(II)V", sig := { parameters := [.int, .int], returnType := none }, accessFlags := 10, code := some k18c1 }
def k18c2 : Code := { maxStack := 3, maxLocals := 3, code := jdk_65_method_132_code, exceptionTable := #[], attributes := #[] }
def k18m2 : Method := { name := "copyOfRange", desc := "([BII)[B", sig := { parameters := [(.array .byte), .int, .int], returnType := some (.array .byte) }, accessFlags := 9, code := some k18c2 }
def k18c3 : Code := { maxStack := 6, maxLocals := 5, code := jdk_65_method_133_code, exceptionTable := #[], attributes := #[] }
def k18m3 : Method := { name := "copyOfRangeByte", desc := "([BII)[B", sig := { parameters := [(.array .byte), .int, .int], returnType := some (.array .byte) }, accessFlags := 10, code := some k18c3 }
/-- java/util/Arrays -/
def k18 : Class := { plain "java/util/Arrays" (some 0) with
  accessFlags := 49
  interfaces := #[]
  cf := some (fileOf pool18 14 #[.nestMembers #[975, 375, 113, 74]] #[{ accessFlags := 2, nameIndex := 5, descriptorIndex := 6, attributes := #[] }, { accessFlags := 10, nameIndex := 345, descriptorIndex := 346, attributes := #[] }, { accessFlags := 9, nameIndex := 139, descriptorIndex := 342, attributes := #[] }, { accessFlags := 10, nameIndex := 341, descriptorIndex := 342, attributes := #[] }] 49 2 #[] #[{ accessFlags := 26, nameIndex := 715, descriptorIndex := 716, attributes := #[] }, { accessFlags := 26, nameIndex := 719, descriptorIndex := 716, attributes := #[] }, { accessFlags := 4120, nameIndex := 445, descriptorIndex := 117, attributes := #[] }])
  fields := #[{ name := "MIN_ARRAY_SORT_GRAN", type := .int, accessFlags := 26, slot := 0, constantValue := 0 }, { name := "INSERTIONSORT_THRESHOLD", type := .int, accessFlags := 26, slot := 1, constantValue := 0 }, { name := "$assertionsDisabled", type := .boolean, accessFlags := 4120, slot := 2, constantValue := 0 }]
  methods := #[k18m0, k18m1, k18m2, k18m3]
  instanceTypes := #[]
  staticTypes := #[.int, .int, .boolean]
  resolved := Array.replicate 1029 none
  statics := none }

def pool19 : Array CpInfo := pool [(9, u "<init>"), (6, .class_ 18), (1, u "java/lang/Object"), (0, u "()V"), (1, .class_ 23), (1, u "jdk/internal/util/ArraysSupport"), (0, u "LOG2_ARRAY_LONG_INDEX_SCALE"), (0, u "I"), (2, u "U"), (0, u "Ljdk/internal/misc/Unsafe;"), (8, u "BIG_ENDIAN"), (0, u "Z"), (8, u "LOG2_BYTE_BIT_SIZE"), (4, u "LOG2_ARRAY_INT_INDEX_SCALE"), (54, u "JLA"), (0, u "Ljdk/internal/access/JavaLangAccess;"), (11, u "LOG2_ARRAY_BOOLEAN_INDEX_SCALE"), (9, u "LOG2_ARRAY_BYTE_INDEX_SCALE"), (5, u "LOG2_ARRAY_CHAR_INDEX_SCALE"), (5, u "LOG2_ARRAY_SHORT_INDEX_SCALE"), (18, u "LOG2_ARRAY_FLOAT_INDEX_SCALE"), (24, u "LOG2_ARRAY_DOUBLE_INDEX_SCALE"), (89, u "T_BOOLEAN"), (2, u "T_CHAR"), (1, u "T_FLOAT"), (1, u "T_DOUBLE"), (1, u "T_BYTE"), (1, u "T_SHORT"), (1, u "T_INT"), (1, u "T_LONG"), (1, u "SOFT_MAX_ARRAY_LENGTH")] 83

def k19m0 : Method := { name := "<init>", desc := "()V", sig := { parameters := [], returnType := none }, accessFlags := 2, code := none }
/-- jdk/internal/util/ArraysSupport -/
def k19 : Class := { plain "jdk/internal/util/ArraysSupport" (some 0) with
  accessFlags := 33
  interfaces := #[]
  cf := some (fileOf pool19 21 #[] #[{ accessFlags := 2, nameIndex := 9, descriptorIndex := 19, attributes := #[] }] 33 16 #[] #[{ accessFlags := 24, nameIndex := 28, descriptorIndex := 29, attributes := #[] }, { accessFlags := 26, nameIndex := 38, descriptorIndex := 39, attributes := #[] }, { accessFlags := 25, nameIndex := 121, descriptorIndex := 25, attributes := #[] }, { accessFlags := 25, nameIndex := 131, descriptorIndex := 25, attributes := #[] }, { accessFlags := 25, nameIndex := 137, descriptorIndex := 25, attributes := #[] }, { accessFlags := 25, nameIndex := 143, descriptorIndex := 25, attributes := #[] }, { accessFlags := 25, nameIndex := 53, descriptorIndex := 25, attributes := #[] }, { accessFlags := 25, nameIndex := 24, descriptorIndex := 25, attributes := #[] }, { accessFlags := 25, nameIndex := 162, descriptorIndex := 25, attributes := #[] }, { accessFlags := 25, nameIndex := 187, descriptorIndex := 25, attributes := #[] }, { accessFlags := 26, nameIndex := 48, descriptorIndex := 25, attributes := #[] }, { accessFlags := 25, nameIndex := 277, descriptorIndex := 25, attributes := #[] }, { accessFlags := 25, nameIndex := 280, descriptorIndex := 25, attributes := #[] }, { accessFlags := 25, nameIndex := 282, descriptorIndex := 25, attributes := #[] }, { accessFlags := 25, nameIndex := 284, descriptorIndex := 25, attributes := #[] }, { accessFlags := 25, nameIndex := 286, descriptorIndex := 25, attributes := #[] }, { accessFlags := 25, nameIndex := 288, descriptorIndex := 25, attributes := #[] }, { accessFlags := 25, nameIndex := 290, descriptorIndex := 25, attributes := #[] }, { accessFlags := 25, nameIndex := 292, descriptorIndex := 25, attributes := #[] }, { accessFlags := 26, nameIndex := 108, descriptorIndex := 109, attributes := #[] }, { accessFlags := 25, nameIndex := 294, descriptorIndex := 25, attributes := #[] }])
  fields := #[{ name := "U", type := (.object "jdk/internal/misc/Unsafe"), accessFlags := 24, slot := 0, constantValue := 0 }, { name := "BIG_ENDIAN", type := .boolean, accessFlags := 26, slot := 1, constantValue := 0 }, { name := "LOG2_ARRAY_BOOLEAN_INDEX_SCALE", type := .int, accessFlags := 25, slot := 2, constantValue := 0 }, { name := "LOG2_ARRAY_BYTE_INDEX_SCALE", type := .int, accessFlags := 25, slot := 3, constantValue := 0 }, { name := "LOG2_ARRAY_CHAR_INDEX_SCALE", type := .int, accessFlags := 25, slot := 4, constantValue := 0 }, { name := "LOG2_ARRAY_SHORT_INDEX_SCALE", type := .int, accessFlags := 25, slot := 5, constantValue := 0 }, { name := "LOG2_ARRAY_INT_INDEX_SCALE", type := .int, accessFlags := 25, slot := 6, constantValue := 0 }, { name := "LOG2_ARRAY_LONG_INDEX_SCALE", type := .int, accessFlags := 25, slot := 7, constantValue := 0 }, { name := "LOG2_ARRAY_FLOAT_INDEX_SCALE", type := .int, accessFlags := 25, slot := 8, constantValue := 0 }, { name := "LOG2_ARRAY_DOUBLE_INDEX_SCALE", type := .int, accessFlags := 25, slot := 9, constantValue := 0 }, { name := "LOG2_BYTE_BIT_SIZE", type := .int, accessFlags := 26, slot := 10, constantValue := 0 }, { name := "T_BOOLEAN", type := .int, accessFlags := 25, slot := 11, constantValue := 0 }, { name := "T_CHAR", type := .int, accessFlags := 25, slot := 12, constantValue := 0 }, { name := "T_FLOAT", type := .int, accessFlags := 25, slot := 13, constantValue := 0 }, { name := "T_DOUBLE", type := .int, accessFlags := 25, slot := 14, constantValue := 0 }, { name := "T_BYTE", type := .int, accessFlags := 25, slot := 15, constantValue := 0 }, { name := "T_SHORT", type := .int, accessFlags := 25, slot := 16, constantValue := 0 }, { name := "T_INT", type := .int, accessFlags := 25, slot := 17, constantValue := 0 }, { name := "T_LONG", type := .int, accessFlags := 25, slot := 18, constantValue := 0 }, { name := "JLA", type := (.object "jdk/internal/access/JavaLangAccess"), accessFlags := 26, slot := 19, constantValue := 0 }, { name := "SOFT_MAX_ARRAY_LENGTH", type := .int, accessFlags := 25, slot := 20, constantValue := 0 }]
  methods := #[k19m0]
  instanceTypes := #[]
  staticTypes := #[(.object "jdk/internal/misc/Unsafe"), .boolean, .int, .int, .int, .int, .int, .int, .int, .int, .int, .int, .int, .int, .int, .int, .int, .int, .int, (.object "jdk/internal/access/JavaLangAccess"), .int]
  resolved := Array.replicate 378 none
  statics := none }

def pool20 : Array CpInfo := pool [(1, u "java/lang/Cloneable"), (0, .class_ 1), (0, u "java/lang/Object"), (0, .class_ 3)] 3

/-- java/lang/Cloneable -/
def k20 : Class := { plain "java/lang/Cloneable" (some 0) with
  accessFlags := 1537
  interfaces := #[]
  cf := some (fileOf pool20 2 #[] #[] 1537 4 #[] #[])
  fields := #[]
  methods := #[]
  instanceTypes := #[]
  staticTypes := #[]
  resolved := Array.replicate 8 none
  statics := none }

/-- the primitive byte -/
def k21 : Class := { plain "byte" none with kind := .primitive 'B', accessFlags := 0x411 }
/-- [B -/
def k22 : Class := { plain "[B" (some 0) with kind := .array 21 .byte, interfaces := #[20, 3], accessFlags := 1041 }

/-- the primitive char -/
def k23 : Class := { plain "char" none with kind := .primitive 'C', accessFlags := 0x411 }
/-- [C -/
def k24 : Class := { plain "[C" (some 0) with kind := .array 23 .char, interfaces := #[20, 3], accessFlags := 1041 }

/-- the primitive int -/
def k25 : Class := { plain "int" none with kind := .primitive 'I', accessFlags := 0x411 }
/-- [I -/
def k26 : Class := { plain "[I" (some 0) with kind := .array 25 .int, interfaces := #[20, 3], accessFlags := 1041 }

def heap : Heap := #[{ cls := 8, slots := #[.int 0, .int 0, .null, .ref 3, .null, .null, .int 0, .int 0, .long 0], vm := .statics 8 },
  { cls := 11, slots := #[.long 0, .int 1, .null, .int 0, .null, .int 0, .int 0], vm := .statics 11 },
  { cls := 16, slots := #[.null, .null, .null], vm := .statics 16 },
  { cls := 24, slots := #[.int 48, .int 49, .int 50, .int 51, .int 52, .int 53, .int 54, .int 55, .int 56, .int 57, .int 97, .int 98, .int 99, .int 100, .int 101, .int 102, .int 103, .int 104, .int 105, .int 106, .int 107, .int 108, .int 109, .int 110, .int 111, .int 112, .int 113, .int 114, .int 115, .int 116, .int 117, .int 118, .int 119, .int 120, .int 121, .int 122], vm := .none }]
def classes : Array Class := #[k0, k1, k2, k3, k4, k5, k6, k7, k8, k9, k10, k11, k12, k13, k14, k15, k16, k17, k18, k19, k20, k21, k22, k23, k24, k25, k26]
def interned : List (Array UInt16 × Addr) := []
def slotsUsed : Nat := 55
def theMethod : MethodId := ⟨1, 2⟩
def args0 : Array Value := #[.int 70001]
def aboutOver (below : List Frame) : State where
  vm := { classes := classes, interned := interned.toArray }
  heap := heap
  slotsUsed := slotsUsed
  threads := #[{ frames := .invoking theMethod args0 :: below }]
def below0 : List Frame := [.native { method := ⟨0, 0⟩, args := #[] }]
def about1 : State := aboutOver below0
def p0 : Program := .bare "" "" ""
def e0 : Env := launch0.env 0 0 0
theorem w_frames : about1.frames = Frame.invoking theMethod args0 :: below0 := rfl
set_option maxRecDepth 65536 in
theorem w_args : argsFit about1.vm theMethod args0 = true := by decide +kernel
set_option maxRecDepth 65536 in
theorem w_heap : heapFits about1 = true := by decide +kernel
set_option maxRecDepth 65536 in
theorem w_runnable : about1.curStatus? = some .runnable := by decide +kernel
set_option maxRecDepth 65536 in
theorem w_alone : about1.alone = true := by decide +kernel
set_option maxRecDepth 65536 in
theorem w_named : about1.methodNamed? x = some theMethod := by decide +kernel
set_option maxRecDepth 65536 in
theorem w_hears : about1.hears theMethod below0 = true := by decide +kernel
set_option maxRecDepth 65536 in
theorem w_ripe : about1.ripe theMethod args0 below0 = true := by decide +kernel
theorem w_running : about1.status = .running := rfl
set_option maxRecDepth 65536 in
theorem w_room : about1.hasRoom e0.platform room_1 = true :=
  launch0.hasRoom_least _ room_1 (by decide +kernel) (by decide +kernel) (by decide +kernel) (by decide +kernel) (by decide +kernel) (by decide +kernel)
theorem allAtoms_all (ts : List Jvm.Cond) (a : Array Jvm.Value) (st : Jvm.State) : (allAtoms ts).before a st = ts.all (fun c => c.before a st) := by
  induction ts with
  | nil => rfl
  | cons c t ih =>
    show (Jvm.Cond.and c (allAtoms t)).before a st = _
    rw [Jvm.Cond.before_and, ih, List.all_cons]
def words1 : List Jvm.Cond := Jvm.Cond.code x code maxLocals ret :: tables_1
/-- a 'code' word, met by the world's own term for the bytes: nothing is compared byte by byte -/
theorem code_word {y : MethodName} {bytes : ByteArray} {mx : Nat} {rt : Option FieldType} {a : Array Value} {s : State} {m : MethodId} {meth : Method} {c : Code} (h1 : s.methodNamed? y = some m) (h2 : s.vm.method? m = some meth) (h3 : meth.code = some c) (h4 : c.code = bytes)
    (h5 : (c.maxLocals == mx && c.exceptionTable.isEmpty && decide (c.maxStack ≤ mostOperands) && decide (meth.sig.returnType = rt) && !meth.locks && decide (parseMethodDescriptor y.desc = some meth.sig)) = true) : (Jvm.Cond.code y bytes mx rt).before a s = true := by
  simp only [Bool.and_eq_true, beq_iff_eq, Bool.not_eq_true', decide_eq_true_eq] at h5
  obtain ⟨⟨⟨⟨⟨g1, g2⟩, g3⟩, g4⟩, g5⟩, g6⟩ := h5
  simp [Cond.before, Cond.holds, Cond.value, h1, h2, h3, h4, g1, g2, g3, g4, g5, g6]
def isCode : Jvm.Cond → Bool
  | .code _ _ _ _ => true
  | _ => false
theorem all_split {L : List Jvm.Cond} {P : Jvm.Cond → Bool} (h1 : L.all (fun c => isCode c || P c) = true) (h2 : ∀ c ∈ L.filter isCode, P c = true) : L.all P = true := by
  refine List.all_eq_true.mpr fun c hc => ?_
  have h := List.all_eq_true.mp h1 c hc
  rcases Bool.eq_false_or_eq_true (isCode c) with hi | hi
  · exact h2 c (List.mem_filter.mpr ⟨hc, hi⟩)
  · simpa [hi] using h
set_option maxRecDepth 65536 in
theorem w_c0 : (Jvm.Cond.code x code maxLocals ret).before args0 about1 = true := code_word (m := ⟨1, 2⟩) (meth := k1m2) (c := k1c2) (by decide +kernel) rfl rfl rfl (by decide +kernel)
set_option maxRecDepth 65536 in
theorem w_c1 : (Jvm.Cond.code ({ cls := "com/example/isomorph/isomorph/JavaNames", name := "unicodeEscape", desc := "(C)Ljava/lang/String;" } : Jvm.MethodName) prog_1_method_2_code (2 : Nat) (Option.some (Jvm.ClassFile.FieldType.object "java/lang/String"))).before args0 about1 = true := code_word (m := ⟨2, 1⟩) (meth := k2m1) (c := k2c1) (by decide +kernel) rfl rfl rfl (by decide +kernel)
set_option maxRecDepth 65536 in
theorem w_c2 : (Jvm.Cond.code ({ cls := "java/lang/Integer", name := "toHexString", desc := "(I)Ljava/lang/String;" } : Jvm.MethodName) jdk_33_method_4_code (1 : Nat) (Option.some (Jvm.ClassFile.FieldType.object "java/lang/String"))).before args0 about1 = true := code_word (m := ⟨8, 0⟩) (meth := k8m0) (c := k8c0) (by decide +kernel) rfl rfl rfl (by decide +kernel)
set_option maxRecDepth 65536 in
theorem w_c3 : (Jvm.Cond.code ({ cls := "java/lang/Integer", name := "toUnsignedString0", desc := "(II)Ljava/lang/String;" } : Jvm.MethodName) jdk_33_method_7_code (5 : Nat) (Option.some (Jvm.ClassFile.FieldType.object "java/lang/String"))).before args0 about1 = true := code_word (m := ⟨8, 1⟩) (meth := k8m1) (c := k8c1) (by decide +kernel) rfl rfl rfl (by decide +kernel)
set_option maxRecDepth 65536 in
theorem w_c4 : (Jvm.Cond.code ({ cls := "java/lang/Integer", name := "numberOfLeadingZeros", desc := "(I)I" } : Jvm.MethodName) jdk_33_method_47_code (2 : Nat) (Option.some Jvm.ClassFile.FieldType.int)).before args0 about1 = true := code_word (m := ⟨8, 3⟩) (meth := k8m3) (c := k8c3) (by decide +kernel) rfl rfl rfl (by decide +kernel)
set_option maxRecDepth 65536 in
theorem w_c5 : (Jvm.Cond.code ({ cls := "java/lang/Math", name := "max", desc := "(II)I" } : Jvm.MethodName) jdk_29_method_65_code (2 : Nat) (Option.some Jvm.ClassFile.FieldType.int)).before args0 about1 = true := code_word (m := ⟨9, 1⟩) (meth := k9m1) (c := k9c1) (by decide +kernel) rfl rfl rfl (by decide +kernel)
set_option maxRecDepth 65536 in
theorem w_c6 : (Jvm.Cond.code ({ cls := "java/lang/Integer", name := "formatUnsignedInt", desc := "(II[BI)V" } : Jvm.MethodName) jdk_33_method_8_code (7 : Nat) (Option.none : Option Jvm.ClassFile.FieldType)).before args0 about1 = true := code_word (m := ⟨8, 2⟩) (meth := k8m2) (c := k8c2) (by decide +kernel) rfl rfl rfl (by decide +kernel)
set_option maxRecDepth 65536 in
theorem w_c7 : (Jvm.Cond.code ({ cls := "java/lang/String", name := "<init>", desc := "([BB)V" } : Jvm.MethodName) jdk_42_method_151_code (3 : Nat) (Option.none : Option Jvm.ClassFile.FieldType)).before args0 about1 = true := code_word (m := ⟨11, 8⟩) (meth := k11m8) (c := k11c8) (by decide +kernel) rfl rfl rfl (by decide +kernel)
set_option maxRecDepth 65536 in
theorem w_c8 : (Jvm.Cond.code ({ cls := "java/lang/Object", name := "<init>", desc := "()V" } : Jvm.MethodName) object_method_1_code (1 : Nat) (Option.none : Option Jvm.ClassFile.FieldType)).before args0 about1 = true := code_word (m := ⟨0, 0⟩) (meth := k0m0) (c := k0c0) (by decide +kernel) rfl rfl rfl (by decide +kernel)
set_option maxRecDepth 65536 in
theorem w_c9 : (Jvm.Cond.code ({ cls := "java/lang/StringBuilder", name := "<init>", desc := "()V" } : Jvm.MethodName) jdk_67_method_1_code (1 : Nat) (Option.none : Option Jvm.ClassFile.FieldType)).before args0 about1 = true := code_word (m := ⟨14, 0⟩) (meth := k14m0) (c := k14c0) (by decide +kernel) rfl rfl rfl (by decide +kernel)
set_option maxRecDepth 65536 in
theorem w_c10 : (Jvm.Cond.code ({ cls := "java/lang/AbstractStringBuilder", name := "<init>", desc := "(I)V" } : Jvm.MethodName) jdk_68_method_2_code (2 : Nat) (Option.none : Option Jvm.ClassFile.FieldType)).before args0 about1 = true := code_word (m := ⟨13, 1⟩) (meth := k13m1) (c := k13c1) (by decide +kernel) rfl rfl rfl (by decide +kernel)
set_option maxRecDepth 65536 in
theorem w_c11 : (Jvm.Cond.code ({ cls := "java/lang/StringBuilder", name := "append", desc := "(Ljava/lang/String;)Ljava/lang/StringBuilder;" } : Jvm.MethodName) jdk_67_method_7_code (2 : Nat) (Option.some (Jvm.ClassFile.FieldType.object "java/lang/StringBuilder"))).before args0 about1 = true := code_word (m := ⟨14, 1⟩) (meth := k14m1) (c := k14c1) (by decide +kernel) rfl rfl rfl (by decide +kernel)
set_option maxRecDepth 65536 in
theorem w_c12 : (Jvm.Cond.code ({ cls := "java/lang/AbstractStringBuilder", name := "append", desc := "(Ljava/lang/String;)Ljava/lang/AbstractStringBuilder;" } : Jvm.MethodName) jdk_68_method_22_code (3 : Nat) (Option.some (Jvm.ClassFile.FieldType.object "java/lang/AbstractStringBuilder"))).before args0 about1 = true := code_word (m := ⟨13, 4⟩) (meth := k13m4) (c := k13c4) (by decide +kernel) rfl rfl rfl (by decide +kernel)
set_option maxRecDepth 65536 in
theorem w_c13 : (Jvm.Cond.code ({ cls := "java/lang/String", name := "length", desc := "()I" } : Jvm.MethodName) jdk_42_method_54_code (1 : Nat) (Option.some Jvm.ClassFile.FieldType.int)).before args0 about1 = true := code_word (m := ⟨11, 2⟩) (meth := k11m2) (c := k11c2) (by decide +kernel) rfl rfl rfl (by decide +kernel)
set_option maxRecDepth 65536 in
theorem w_c14 : (Jvm.Cond.code ({ cls := "java/lang/String", name := "coder", desc := "()B" } : Jvm.MethodName) jdk_42_method_152_code (1 : Nat) (Option.some Jvm.ClassFile.FieldType.byte)).before args0 about1 = true := code_word (m := ⟨11, 9⟩) (meth := k11m9) (c := k11c9) (by decide +kernel) rfl rfl rfl (by decide +kernel)
set_option maxRecDepth 65536 in
theorem w_c15 : (Jvm.Cond.code ({ cls := "java/lang/AbstractStringBuilder", name := "ensureCapacityInternal", desc := "(I)V" } : Jvm.MethodName) jdk_68_method_9_code (3 : Nat) (Option.none : Option Jvm.ClassFile.FieldType)).before args0 about1 = true := code_word (m := ⟨13, 3⟩) (meth := k13m3) (c := k13c3) (by decide +kernel) rfl rfl rfl (by decide +kernel)
set_option maxRecDepth 65536 in
theorem w_c16 : (Jvm.Cond.code ({ cls := "java/lang/AbstractStringBuilder", name := "putStringAt", desc := "(ILjava/lang/String;)V" } : Jvm.MethodName) jdk_68_method_73_code (3 : Nat) (Option.none : Option Jvm.ClassFile.FieldType)).before args0 about1 = true := code_word (m := ⟨13, 8⟩) (meth := k13m8) (c := k13c8) (by decide +kernel) rfl rfl rfl (by decide +kernel)
set_option maxRecDepth 65536 in
theorem w_c17 : (Jvm.Cond.code ({ cls := "java/lang/AbstractStringBuilder", name := "inflateIfNeededFor", desc := "(Ljava/lang/String;)V" } : Jvm.MethodName) jdk_68_method_71_code (2 : Nat) (Option.none : Option Jvm.ClassFile.FieldType)).before args0 about1 = true := code_word (m := ⟨13, 7⟩) (meth := k13m7) (c := k13c7) (by decide +kernel) rfl rfl rfl (by decide +kernel)
set_option maxRecDepth 65536 in
theorem w_c18 : (Jvm.Cond.code ({ cls := "java/lang/String", name := "getBytes", desc := "([BIB)V" } : Jvm.MethodName) jdk_42_method_147_code (4 : Nat) (Option.none : Option Jvm.ClassFile.FieldType)).before args0 about1 = true := code_word (m := ⟨11, 6⟩) (meth := k11m6) (c := k11c6) (by decide +kernel) rfl rfl rfl (by decide +kernel)
set_option maxRecDepth 65536 in
theorem w_c19 : (Jvm.Cond.code ({ cls := "java/lang/String", name := "substring", desc := "(I)Ljava/lang/String;" } : Jvm.MethodName) jdk_42_method_91_code (2 : Nat) (Option.some (Jvm.ClassFile.FieldType.object "java/lang/String"))).before args0 about1 = true := code_word (m := ⟨11, 4⟩) (meth := k11m4) (c := k11c4) (by decide +kernel) rfl rfl rfl (by decide +kernel)
set_option maxRecDepth 65536 in
theorem w_c20 : (Jvm.Cond.code ({ cls := "java/lang/String", name := "substring", desc := "(II)Ljava/lang/String;" } : Jvm.MethodName) jdk_42_method_92_code (5 : Nat) (Option.some (Jvm.ClassFile.FieldType.object "java/lang/String"))).before args0 about1 = true := code_word (m := ⟨11, 5⟩) (meth := k11m5) (c := k11c5) (by decide +kernel) rfl rfl rfl (by decide +kernel)
set_option maxRecDepth 65536 in
theorem w_c21 : (Jvm.Cond.code ({ cls := "java/lang/String", name := "checkBoundsBeginEnd", desc := "(III)V" } : Jvm.MethodName) jdk_42_method_158_code (3 : Nat) (Option.none : Option Jvm.ClassFile.FieldType)).before args0 about1 = true := code_word (m := ⟨11, 12⟩) (meth := k11m12) (c := k11c12) (by decide +kernel) rfl rfl rfl (by decide +kernel)
set_option maxRecDepth 65536 in
theorem w_c22 : (Jvm.Cond.code ({ cls := "jdk/internal/util/Preconditions", name := "checkFromToIndex", desc := "(IIILjava/util/function/BiFunction;)I" } : Jvm.MethodName) jdk_41_method_12_code (4 : Nat) (Option.some Jvm.ClassFile.FieldType.int)).before args0 about1 = true := code_word (m := ⟨16, 2⟩) (meth := k16m2) (c := k16c2) (by decide +kernel) rfl rfl rfl (by decide +kernel)
set_option maxRecDepth 65536 in
theorem w_c23 : (Jvm.Cond.code ({ cls := "java/lang/String", name := "isLatin1", desc := "()Z" } : Jvm.MethodName) jdk_42_method_154_code (1 : Nat) (Option.some Jvm.ClassFile.FieldType.boolean)).before args0 about1 = true := code_word (m := ⟨11, 10⟩) (meth := k11m10) (c := k11c10) (by decide +kernel) rfl rfl rfl (by decide +kernel)
set_option maxRecDepth 65536 in
theorem w_c24 : (Jvm.Cond.code ({ cls := "java/lang/StringLatin1", name := "newString", desc := "([BII)Ljava/lang/String;" } : Jvm.MethodName) jdk_43_method_47_code (3 : Nat) (Option.some (Jvm.ClassFile.FieldType.object "java/lang/String"))).before args0 about1 = true := code_word (m := ⟨17, 2⟩) (meth := k17m2) (c := k17c2) (by decide +kernel) rfl rfl rfl (by decide +kernel)
set_option maxRecDepth 65536 in
theorem w_c25 : (Jvm.Cond.code ({ cls := "java/util/Arrays", name := "copyOfRange", desc := "([BII)[B" } : Jvm.MethodName) jdk_65_method_132_code (3 : Nat) (Option.some (Jvm.ClassFile.FieldType.array Jvm.ClassFile.FieldType.byte))).before args0 about1 = true := code_word (m := ⟨18, 2⟩) (meth := k18m2) (c := k18c2) (by decide +kernel) rfl rfl rfl (by decide +kernel)
set_option maxRecDepth 65536 in
theorem w_c26 : (Jvm.Cond.code ({ cls := "java/util/Arrays", name := "copyOfRangeByte", desc := "([BII)[B" } : Jvm.MethodName) jdk_65_method_133_code (5 : Nat) (Option.some (Jvm.ClassFile.FieldType.array Jvm.ClassFile.FieldType.byte))).before args0 about1 = true := code_word (m := ⟨18, 3⟩) (meth := k18m3) (c := k18c3) (by decide +kernel) rfl rfl rfl (by decide +kernel)
set_option maxRecDepth 65536 in
theorem w_c27 : (Jvm.Cond.code ({ cls := "java/util/Arrays", name := "checkLength", desc := "(II)V" } : Jvm.MethodName) jdk_65_method_131_code (2 : Nat) (Option.none : Option Jvm.ClassFile.FieldType)).before args0 about1 = true := code_word (m := ⟨18, 1⟩) (meth := k18m1) (c := k18c1) (by decide +kernel) rfl rfl rfl (by decide +kernel)
set_option maxRecDepth 65536 in
theorem w_c28 : (Jvm.Cond.code ({ cls := "java/lang/Math", name := "min", desc := "(II)I" } : Jvm.MethodName) jdk_29_method_69_code (2 : Nat) (Option.some Jvm.ClassFile.FieldType.int)).before args0 about1 = true := code_word (m := ⟨9, 2⟩) (meth := k9m2) (c := k9c2) (by decide +kernel) rfl rfl rfl (by decide +kernel)
set_option maxRecDepth 65536 in
theorem w_c29 : (Jvm.Cond.code ({ cls := "java/lang/StringBuilder", name := "toString", desc := "()Ljava/lang/String;" } : Jvm.MethodName) jdk_67_method_42_code (1 : Nat) (Option.some (Jvm.ClassFile.FieldType.object "java/lang/String"))).before args0 about1 = true := code_word (m := ⟨14, 2⟩) (meth := k14m2) (c := k14c2) (by decide +kernel) rfl rfl rfl (by decide +kernel)
set_option maxRecDepth 65536 in
theorem w_c30 : (Jvm.Cond.code ({ cls := "java/lang/String", name := "<init>", desc := "(Ljava/lang/StringBuilder;)V" } : Jvm.MethodName) jdk_42_method_53_code (2 : Nat) (Option.none : Option Jvm.ClassFile.FieldType)).before args0 about1 = true := code_word (m := ⟨11, 1⟩) (meth := k11m1) (c := k11c1) (by decide +kernel) rfl rfl rfl (by decide +kernel)
set_option maxRecDepth 65536 in
theorem w_c31 : (Jvm.Cond.code ({ cls := "java/lang/String", name := "<init>", desc := "(Ljava/lang/AbstractStringBuilder;Ljava/lang/Void;)V" } : Jvm.MethodName) jdk_42_method_150_code (5 : Nat) (Option.none : Option Jvm.ClassFile.FieldType)).before args0 about1 = true := code_word (m := ⟨11, 7⟩) (meth := k11m7) (c := k11c7) (by decide +kernel) rfl rfl rfl (by decide +kernel)
set_option maxRecDepth 65536 in
theorem w_c32 : (Jvm.Cond.code ({ cls := "java/lang/AbstractStringBuilder", name := "getValue", desc := "()[B" } : Jvm.MethodName) jdk_68_method_64_code (1 : Nat) (Option.some (Jvm.ClassFile.FieldType.array Jvm.ClassFile.FieldType.byte))).before args0 about1 = true := code_word (m := ⟨13, 5⟩) (meth := k13m5) (c := k13c5) (by decide +kernel) rfl rfl rfl (by decide +kernel)
set_option maxRecDepth 65536 in
theorem w_c33 : (Jvm.Cond.code ({ cls := "java/lang/StringBuilder", name := "length", desc := "()I" } : Jvm.MethodName) jdk_67_method_93_code (1 : Nat) (Option.some Jvm.ClassFile.FieldType.int)).before args0 about1 = true := code_word (m := ⟨14, 3⟩) (meth := k14m3) (c := k14c3) (by decide +kernel) rfl rfl rfl (by decide +kernel)
set_option maxRecDepth 65536 in
theorem w_c34 : (Jvm.Cond.code ({ cls := "java/lang/AbstractStringBuilder", name := "length", desc := "()I" } : Jvm.MethodName) jdk_68_method_6_code (1 : Nat) (Option.some Jvm.ClassFile.FieldType.int)).before args0 about1 = true := code_word (m := ⟨13, 2⟩) (meth := k13m2) (c := k13c2) (by decide +kernel) rfl rfl rfl (by decide +kernel)
set_option maxRecDepth 65536 in
theorem w_c35 : (Jvm.Cond.code ({ cls := "java/lang/AbstractStringBuilder", name := "isLatin1", desc := "()Z" } : Jvm.MethodName) jdk_68_method_68_code (1 : Nat) (Option.some Jvm.ClassFile.FieldType.boolean)).before args0 about1 = true := code_word (m := ⟨13, 6⟩) (meth := k13m6) (c := k13c6) (by decide +kernel) rfl rfl rfl (by decide +kernel)
set_option maxRecDepth 65536 in
theorem w_c36 : (Jvm.Cond.code ({ cls := "java/lang/String", name := "charAt", desc := "(I)C" } : Jvm.MethodName) jdk_42_method_56_code (2 : Nat) (Option.some Jvm.ClassFile.FieldType.char)).before args0 about1 = true := code_word (m := ⟨11, 3⟩) (meth := k11m3) (c := k11c3) (by decide +kernel) rfl rfl rfl (by decide +kernel)
set_option maxRecDepth 65536 in
theorem w_c37 : (Jvm.Cond.code ({ cls := "java/lang/StringLatin1", name := "charAt", desc := "([BI)C" } : Jvm.MethodName) jdk_43_method_2_code (2 : Nat) (Option.some Jvm.ClassFile.FieldType.char)).before args0 about1 = true := code_word (m := ⟨17, 1⟩) (meth := k17m1) (c := k17c1) (by decide +kernel) rfl rfl rfl (by decide +kernel)
set_option maxRecDepth 65536 in
theorem w_c38 : (Jvm.Cond.code ({ cls := "java/lang/String", name := "checkIndex", desc := "(II)V" } : Jvm.MethodName) jdk_42_method_155_code (2 : Nat) (Option.none : Option Jvm.ClassFile.FieldType)).before args0 about1 = true := code_word (m := ⟨11, 11⟩) (meth := k11m11) (c := k11c11) (by decide +kernel) rfl rfl rfl (by decide +kernel)
set_option maxRecDepth 65536 in
theorem w_c39 : (Jvm.Cond.code ({ cls := "jdk/internal/util/Preconditions", name := "checkIndex", desc := "(IILjava/util/function/BiFunction;)I" } : Jvm.MethodName) jdk_41_method_11_code (3 : Nat) (Option.some Jvm.ClassFile.FieldType.int)).before args0 about1 = true := code_word (m := ⟨16, 1⟩) (meth := k16m1) (c := k16c1) (by decide +kernel) rfl rfl rfl (by decide +kernel)
set_option maxRecDepth 65536 in
theorem w_c40 : (Jvm.Cond.code ({ cls := "com/example/isomorph/isomorph/JavaNamesUnicodeEscapePinLaw", name := "hex", desc := "(I)C" } : Jvm.MethodName) method_2_code (1 : Nat) (Option.some Jvm.ClassFile.FieldType.char)).before args0 about1 = true := code_word (m := ⟨1, 1⟩) (meth := k1m1) (c := k1c1) (by decide +kernel) rfl rfl rfl (by decide +kernel)
def codes1 : List Jvm.Cond := [Jvm.Cond.code x code maxLocals ret, Jvm.Cond.code ({ cls := "com/example/isomorph/isomorph/JavaNames", name := "unicodeEscape", desc := "(C)Ljava/lang/String;" } : Jvm.MethodName) prog_1_method_2_code (2 : Nat) (Option.some (Jvm.ClassFile.FieldType.object "java/lang/String")), Jvm.Cond.code ({ cls := "java/lang/Integer", name := "toHexString", desc := "(I)Ljava/lang/String;" } : Jvm.MethodName) jdk_33_method_4_code (1 : Nat) (Option.some (Jvm.ClassFile.FieldType.object "java/lang/String")), Jvm.Cond.code ({ cls := "java/lang/Integer", name := "toUnsignedString0", desc := "(II)Ljava/lang/String;" } : Jvm.MethodName) jdk_33_method_7_code (5 : Nat) (Option.some (Jvm.ClassFile.FieldType.object "java/lang/String")), Jvm.Cond.code ({ cls := "java/lang/Integer", name := "numberOfLeadingZeros", desc := "(I)I" } : Jvm.MethodName) jdk_33_method_47_code (2 : Nat) (Option.some Jvm.ClassFile.FieldType.int), Jvm.Cond.code ({ cls := "java/lang/Math", name := "max", desc := "(II)I" } : Jvm.MethodName) jdk_29_method_65_code (2 : Nat) (Option.some Jvm.ClassFile.FieldType.int), Jvm.Cond.code ({ cls := "java/lang/Integer", name := "formatUnsignedInt", desc := "(II[BI)V" } : Jvm.MethodName) jdk_33_method_8_code (7 : Nat) (Option.none : Option Jvm.ClassFile.FieldType), Jvm.Cond.code ({ cls := "java/lang/String", name := "<init>", desc := "([BB)V" } : Jvm.MethodName) jdk_42_method_151_code (3 : Nat) (Option.none : Option Jvm.ClassFile.FieldType), Jvm.Cond.code ({ cls := "java/lang/Object", name := "<init>", desc := "()V" } : Jvm.MethodName) object_method_1_code (1 : Nat) (Option.none : Option Jvm.ClassFile.FieldType), Jvm.Cond.code ({ cls := "java/lang/StringBuilder", name := "<init>", desc := "()V" } : Jvm.MethodName) jdk_67_method_1_code (1 : Nat) (Option.none : Option Jvm.ClassFile.FieldType), Jvm.Cond.code ({ cls := "java/lang/AbstractStringBuilder", name := "<init>", desc := "(I)V" } : Jvm.MethodName) jdk_68_method_2_code (2 : Nat) (Option.none : Option Jvm.ClassFile.FieldType), Jvm.Cond.code ({ cls := "java/lang/StringBuilder", name := "append", desc := "(Ljava/lang/String;)Ljava/lang/StringBuilder;" } : Jvm.MethodName) jdk_67_method_7_code (2 : Nat) (Option.some (Jvm.ClassFile.FieldType.object "java/lang/StringBuilder")), Jvm.Cond.code ({ cls := "java/lang/AbstractStringBuilder", name := "append", desc := "(Ljava/lang/String;)Ljava/lang/AbstractStringBuilder;" } : Jvm.MethodName) jdk_68_method_22_code (3 : Nat) (Option.some (Jvm.ClassFile.FieldType.object "java/lang/AbstractStringBuilder")), Jvm.Cond.code ({ cls := "java/lang/String", name := "length", desc := "()I" } : Jvm.MethodName) jdk_42_method_54_code (1 : Nat) (Option.some Jvm.ClassFile.FieldType.int), Jvm.Cond.code ({ cls := "java/lang/String", name := "coder", desc := "()B" } : Jvm.MethodName) jdk_42_method_152_code (1 : Nat) (Option.some Jvm.ClassFile.FieldType.byte), Jvm.Cond.code ({ cls := "java/lang/AbstractStringBuilder", name := "ensureCapacityInternal", desc := "(I)V" } : Jvm.MethodName) jdk_68_method_9_code (3 : Nat) (Option.none : Option Jvm.ClassFile.FieldType), Jvm.Cond.code ({ cls := "java/lang/AbstractStringBuilder", name := "putStringAt", desc := "(ILjava/lang/String;)V" } : Jvm.MethodName) jdk_68_method_73_code (3 : Nat) (Option.none : Option Jvm.ClassFile.FieldType), Jvm.Cond.code ({ cls := "java/lang/AbstractStringBuilder", name := "inflateIfNeededFor", desc := "(Ljava/lang/String;)V" } : Jvm.MethodName) jdk_68_method_71_code (2 : Nat) (Option.none : Option Jvm.ClassFile.FieldType), Jvm.Cond.code ({ cls := "java/lang/String", name := "getBytes", desc := "([BIB)V" } : Jvm.MethodName) jdk_42_method_147_code (4 : Nat) (Option.none : Option Jvm.ClassFile.FieldType), Jvm.Cond.code ({ cls := "java/lang/String", name := "substring", desc := "(I)Ljava/lang/String;" } : Jvm.MethodName) jdk_42_method_91_code (2 : Nat) (Option.some (Jvm.ClassFile.FieldType.object "java/lang/String")), Jvm.Cond.code ({ cls := "java/lang/String", name := "substring", desc := "(II)Ljava/lang/String;" } : Jvm.MethodName) jdk_42_method_92_code (5 : Nat) (Option.some (Jvm.ClassFile.FieldType.object "java/lang/String")), Jvm.Cond.code ({ cls := "java/lang/String", name := "checkBoundsBeginEnd", desc := "(III)V" } : Jvm.MethodName) jdk_42_method_158_code (3 : Nat) (Option.none : Option Jvm.ClassFile.FieldType), Jvm.Cond.code ({ cls := "jdk/internal/util/Preconditions", name := "checkFromToIndex", desc := "(IIILjava/util/function/BiFunction;)I" } : Jvm.MethodName) jdk_41_method_12_code (4 : Nat) (Option.some Jvm.ClassFile.FieldType.int), Jvm.Cond.code ({ cls := "java/lang/String", name := "isLatin1", desc := "()Z" } : Jvm.MethodName) jdk_42_method_154_code (1 : Nat) (Option.some Jvm.ClassFile.FieldType.boolean), Jvm.Cond.code ({ cls := "java/lang/StringLatin1", name := "newString", desc := "([BII)Ljava/lang/String;" } : Jvm.MethodName) jdk_43_method_47_code (3 : Nat) (Option.some (Jvm.ClassFile.FieldType.object "java/lang/String")), Jvm.Cond.code ({ cls := "java/util/Arrays", name := "copyOfRange", desc := "([BII)[B" } : Jvm.MethodName) jdk_65_method_132_code (3 : Nat) (Option.some (Jvm.ClassFile.FieldType.array Jvm.ClassFile.FieldType.byte)), Jvm.Cond.code ({ cls := "java/util/Arrays", name := "copyOfRangeByte", desc := "([BII)[B" } : Jvm.MethodName) jdk_65_method_133_code (5 : Nat) (Option.some (Jvm.ClassFile.FieldType.array Jvm.ClassFile.FieldType.byte)), Jvm.Cond.code ({ cls := "java/util/Arrays", name := "checkLength", desc := "(II)V" } : Jvm.MethodName) jdk_65_method_131_code (2 : Nat) (Option.none : Option Jvm.ClassFile.FieldType), Jvm.Cond.code ({ cls := "java/lang/Math", name := "min", desc := "(II)I" } : Jvm.MethodName) jdk_29_method_69_code (2 : Nat) (Option.some Jvm.ClassFile.FieldType.int), Jvm.Cond.code ({ cls := "java/lang/StringBuilder", name := "toString", desc := "()Ljava/lang/String;" } : Jvm.MethodName) jdk_67_method_42_code (1 : Nat) (Option.some (Jvm.ClassFile.FieldType.object "java/lang/String")), Jvm.Cond.code ({ cls := "java/lang/String", name := "<init>", desc := "(Ljava/lang/StringBuilder;)V" } : Jvm.MethodName) jdk_42_method_53_code (2 : Nat) (Option.none : Option Jvm.ClassFile.FieldType), Jvm.Cond.code ({ cls := "java/lang/String", name := "<init>", desc := "(Ljava/lang/AbstractStringBuilder;Ljava/lang/Void;)V" } : Jvm.MethodName) jdk_42_method_150_code (5 : Nat) (Option.none : Option Jvm.ClassFile.FieldType), Jvm.Cond.code ({ cls := "java/lang/AbstractStringBuilder", name := "getValue", desc := "()[B" } : Jvm.MethodName) jdk_68_method_64_code (1 : Nat) (Option.some (Jvm.ClassFile.FieldType.array Jvm.ClassFile.FieldType.byte)), Jvm.Cond.code ({ cls := "java/lang/StringBuilder", name := "length", desc := "()I" } : Jvm.MethodName) jdk_67_method_93_code (1 : Nat) (Option.some Jvm.ClassFile.FieldType.int), Jvm.Cond.code ({ cls := "java/lang/AbstractStringBuilder", name := "length", desc := "()I" } : Jvm.MethodName) jdk_68_method_6_code (1 : Nat) (Option.some Jvm.ClassFile.FieldType.int), Jvm.Cond.code ({ cls := "java/lang/AbstractStringBuilder", name := "isLatin1", desc := "()Z" } : Jvm.MethodName) jdk_68_method_68_code (1 : Nat) (Option.some Jvm.ClassFile.FieldType.boolean), Jvm.Cond.code ({ cls := "java/lang/String", name := "charAt", desc := "(I)C" } : Jvm.MethodName) jdk_42_method_56_code (2 : Nat) (Option.some Jvm.ClassFile.FieldType.char), Jvm.Cond.code ({ cls := "java/lang/StringLatin1", name := "charAt", desc := "([BI)C" } : Jvm.MethodName) jdk_43_method_2_code (2 : Nat) (Option.some Jvm.ClassFile.FieldType.char), Jvm.Cond.code ({ cls := "java/lang/String", name := "checkIndex", desc := "(II)V" } : Jvm.MethodName) jdk_42_method_155_code (2 : Nat) (Option.none : Option Jvm.ClassFile.FieldType), Jvm.Cond.code ({ cls := "jdk/internal/util/Preconditions", name := "checkIndex", desc := "(IILjava/util/function/BiFunction;)I" } : Jvm.MethodName) jdk_41_method_11_code (3 : Nat) (Option.some Jvm.ClassFile.FieldType.int), Jvm.Cond.code ({ cls := "com/example/isomorph/isomorph/JavaNamesUnicodeEscapePinLaw", name := "hex", desc := "(I)C" } : Jvm.MethodName) method_2_code (1 : Nat) (Option.some Jvm.ClassFile.FieldType.char)]
set_option maxRecDepth 65536 in
theorem codes_eq : words1.filter isCode = codes1 := rfl
theorem w_codes : ∀ c ∈ words1.filter isCode, c.before args0 about1 = true := by
  rw [codes_eq]
  intro c hc
  simp only [codes1, List.mem_cons, List.not_mem_nil, or_false] at hc
  rcases hc with rfl | rfl | rfl | rfl | rfl | rfl | rfl | rfl | rfl | rfl | rfl | rfl | rfl | rfl | rfl | rfl | rfl | rfl | rfl | rfl | rfl | rfl | rfl | rfl | rfl | rfl | rfl | rfl | rfl | rfl | rfl | rfl | rfl | rfl | rfl | rfl | rfl | rfl | rfl | rfl | rfl
  · exact w_c0
  · exact w_c1
  · exact w_c2
  · exact w_c3
  · exact w_c4
  · exact w_c5
  · exact w_c6
  · exact w_c7
  · exact w_c8
  · exact w_c9
  · exact w_c10
  · exact w_c11
  · exact w_c12
  · exact w_c13
  · exact w_c14
  · exact w_c15
  · exact w_c16
  · exact w_c17
  · exact w_c18
  · exact w_c19
  · exact w_c20
  · exact w_c21
  · exact w_c22
  · exact w_c23
  · exact w_c24
  · exact w_c25
  · exact w_c26
  · exact w_c27
  · exact w_c28
  · exact w_c29
  · exact w_c30
  · exact w_c31
  · exact w_c32
  · exact w_c33
  · exact w_c34
  · exact w_c35
  · exact w_c36
  · exact w_c37
  · exact w_c38
  · exact w_c39
  · exact w_c40
set_option maxRecDepth 65536 in
theorem w_t1 : (words1.take 24).all (fun c => isCode c || c.before args0 about1) = true := by decide +kernel
set_option maxRecDepth 65536 in
theorem w_t2 : ((words1.drop 24).take 24).all (fun c => isCode c || c.before args0 about1) = true := by decide +kernel
set_option maxRecDepth 65536 in
theorem w_t3 : (((words1.drop 24).drop 24).take 24).all (fun c => isCode c || c.before args0 about1) = true := by decide +kernel
set_option maxRecDepth 65536 in
theorem w_t4 : ((((words1.drop 24).drop 24).drop 24).take 24).all (fun c => isCode c || c.before args0 about1) = true := by decide +kernel
set_option maxRecDepth 65536 in
theorem w_t5 : (((((words1.drop 24).drop 24).drop 24).drop 24).take 24).all (fun c => isCode c || c.before args0 about1) = true := by decide +kernel
set_option maxRecDepth 65536 in
theorem w_t6 : ((((((words1.drop 24).drop 24).drop 24).drop 24).drop 24).take 24).all (fun c => isCode c || c.before args0 about1) = true := by decide +kernel
set_option maxRecDepth 65536 in
theorem w_t7 : (((((((words1.drop 24).drop 24).drop 24).drop 24).drop 24).drop 24).take 24).all (fun c => isCode c || c.before args0 about1) = true := by decide +kernel
set_option maxRecDepth 65536 in
theorem w_t8 : ((((((((words1.drop 24).drop 24).drop 24).drop 24).drop 24).drop 24).drop 24).take 24).all (fun c => isCode c || c.before args0 about1) = true := by decide +kernel
set_option maxRecDepth 65536 in
theorem w_t9 : ((((((((words1.drop 24).drop 24).drop 24).drop 24).drop 24).drop 24).drop 24).drop 24).all (fun c => isCode c || c.before args0 about1) = true := by decide +kernel
theorem w_tables : (allAtoms (Jvm.Cond.code x code maxLocals ret :: tables_1)).before args0 about1 = true := by
  rw [allAtoms_all]
  show words1.all (fun c => c.before args0 about1) = true
  refine all_split ?_ w_codes
  rw [← List.take_append_drop 24 words1, List.all_append, w_t1, ← List.take_append_drop 24 (words1.drop 24), List.all_append, w_t2, ← List.take_append_drop 24 ((words1.drop 24).drop 24), List.all_append, w_t3, ← List.take_append_drop 24 (((words1.drop 24).drop 24).drop 24), List.all_append, w_t4, ← List.take_append_drop 24 ((((words1.drop 24).drop 24).drop 24).drop 24), List.all_append, w_t5, ← List.take_append_drop 24 (((((words1.drop 24).drop 24).drop 24).drop 24).drop 24), List.all_append, w_t6, ← List.take_append_drop 24 ((((((words1.drop 24).drop 24).drop 24).drop 24).drop 24).drop 24), List.all_append, w_t7, ← List.take_append_drop 24 (((((((words1.drop 24).drop 24).drop 24).drop 24).drop 24).drop 24).drop 24), List.all_append, w_t8, w_t9]
  rfl
set_option maxRecDepth 65536 in
theorem w_rest : rest_1_c.before args0 about1 = true := by decide +kernel
set_option maxRecDepth 65536 in
theorem w_case : (Jvm.Cond.and given_1 narrow_1).before args0 about1 = true := by decide +kernel
set_option maxRecDepth 65536 in
theorem w_consts : constsHeld consts_1 about1 := Jvm.Lit.constsHeldB_iff.mp (by decide +kernel)
theorem w_applies : (headSpec (Jvm.Cond.code x code maxLocals ret :: tables_1) room_1).applies x e0.platform about1 = true :=
  (Spec.applies_iff w_frames).mpr ⟨w_running, w_runnable, w_alone, w_named, w_hears, w_ripe, w_room, w_tables⟩
theorem atStart : AtStart classFile x code maxLocals ret World_1 tables_1 room_1 Calls_1 rest_1 Pre_1 launch0 p0 e0 about1 theMethod args0 below0 :=
  ⟨lists_1, trivial, launch0.admits_env _ _ _, launch0.least_env, fairChoices_fair.cas, fairChoices_fair.clock, w_frames, w_args, w_heap, w_applies, ⟨w_consts, trivial⟩, w_rest, w_case⟩
end start1
theorem witness_1 : WitnessClaimed_1 := ⟨start1.p0, start1.e0, start1.about1, start1.theMethod, start1.args0, start1.below0, start1.atStart⟩
end Jvm.Pilot.@@N@@
