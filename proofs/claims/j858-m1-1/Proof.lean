import JvmDerived
import JvmDerived.Pilot.@@N@@Statement
import JvmDerived.Pilot.@@N@@Code
set_option linter.unusedVariables false
set_option linter.unusedSimpArgs false
namespace Jvm.Pilot.@@N@@.W
open Jvm Jvm.ClassFile Sem Op Lib Jvm.Free Jvm.Stand Jvm.LawKit Jvm.RoadKit Bundle

/-- the invocation comes to its end from (T, f): what it returns and the heap there are as G says; nothing below n0 is written; at most K cells, N slots are made -/
def Ends (p : Program) (e : Env) (below : List Frame) (Y : State → Outcome → List Loc → Prop) (n0 : Nat) (G : Option Value → Heap → Prop) (T : State) (f : JFrame) : Prop :=
  ∃ s₂ o, Steps p.tables e below (T.setTop f) s₂ ∧ s₂.status = .running ∧ Ended s₂ below o ∧ ∃ v L, o = .returned v ∧ (G v s₂.heap ∧ Fr n0 L) ∧ Y s₂ o L
/-- the walk stands in T, whose heap is h -/
def St (p : Program) (l : Launch) (e : Env) (R : Room) (s : State) (m : MethodId) (args : Array Value) (below : List Frame) (meth : Method) (c : Code) (n0 : Nat) (h : Heap) (k n : Nat) (T : State) : Prop :=
  ∃ locs, Fr n0 locs ∧ Stand p l e R s m args below meth c T locs k n ∧ T.heap = h
/-- what stays through a walk: the machine, the tables of the start, the body, its class, what it returns -/
def Cx (p : Program) (s : State) (m : MethodId) (meth : Method) (c : Code) (Z : State) (n0 : Nat) (own : String) (bytes : ByteArray) (ml : Nat) (ret : Option FieldType) : Prop :=
  p.tables.exec = Jvm.exec ∧ Z.Warmed39 s.vm ∧ c.code = bytes ∧ c.maxLocals = ml ∧ s.vm.findClass own = some m.cls ∧ meth.sig.returnType = ret ∧ meth.locks = false ∧ n0 ≤ s.heap.size
/-- from every state that stands so, with the frame f on top, the invocation comes to its end -/
def Go (p : Program) (l : Launch) (e : Env) (R : Room) (s : State) (m : MethodId) (args : Array Value) (below : List Frame) (meth : Method) (c : Code) (Y : State → Outcome → List Loc → Prop) (n0 : Nat) (G : Option Value → Heap → Prop) (h : Heap) (k n : Nat) (f : JFrame) : Prop :=
  ∀ T, St p l e R s m args below meth c n0 h k n T → Ends p e below Y n0 G T f
/-- a body's contract -/
abbrev Con (l : Launch) (Z : State) (y : MethodName) (bytes : ByteArray) (ml : Nat) (ret : Option FieldType) (ws : List Cond) (rm : Room) (K N : Nat) (as : Array Value) (h0 : Heap) (n0 : Nat) (G : Option Value → Heap → Prop) : Prop :=
  MetFree l y (head1 (Cond.code y bytes ml ret :: ws) rm) (fun a U => a = as ∧ Z.Warmed39 U.vm ∧ U.heap = h0) (fun _ _ _ _ _ => True) (fun _ U o U' => ∃ v L, o = .returned v ∧ (G v U'.heap ∧ Fr n0 L) ∧ FrameEnd U o U' L K N)

section Walk
variable {p : Program} {l : Launch} {e : Env} {R : Room} {s : State} {m : MethodId} {args : Array Value} {below : List Frame} {meth : Method} {c : Code} {K N n0 k n : Nat} {G : Option Value → Heap → Prop} {Y : State → Outcome → List Loc → Prop}
  {Z : State} {a0 : Array Value} {own : String} {bytes : ByteArray} {ml : Nat} {ret : Option FieldType} {Ls Ls' : Array Slot} {S : List Value} {pc pc' pn : Nat} {h h' : Heap}

theorem step {T T' : State} {f f' : JFrame} (q : ∀ target, Steps p.tables e below (T'.setTop f') target → Steps p.tables e below (T.setTop f) target) (g : Ends p e below Y n0 G T' f') : Ends p e below Y n0 G T f := by
  obtain ⟨s₂, o, h1, h2⟩ := g
  exact ⟨s₂, o, q _ h1, h2⟩
theorem stepG {f f' : JFrame} (q : ∀ T locs, Stand p l e R s m args below meth c T locs k n → T.heap = h → ∀ target, Steps p.tables e below (T.setTop f') target → Steps p.tables e below (T.setTop f) target)
    (g : Go p l e R s m args below meth c Y n0 G h k n f') : Go p l e R s m args below meth c Y n0 G h k n f := fun T ⟨locs, F, X, eT⟩ => step (q T locs X eT) (g T ⟨locs, F, X, eT⟩)
theorem Go.mono {f : JFrame} {k2 n2 : Nat} (g : Go p l e R s m args below meth c Y n0 G h k2 n2 f) (h1 : k ≤ k2) (h2 : n ≤ n2) : Go p l e R s m args below meth c Y n0 G h k n f := fun T ⟨locs, F, X, eT⟩ =>
  g T ⟨locs, F, ⟨X.admits, X.cas, X.clock, X.frames, X.room, X.hears, X.method, X.code, X.here, X.tail, X.warmed, X.limits, X.bytes, X.same.mono h1 h2⟩, eT⟩
theorem Go.castF {f f' : JFrame} (q : f = f') (g : Go p l e R s m args below meth c Y n0 G h k n f') : Go p l e R s m args below meth c Y n0 G h k n f := q ▸ g

/-- entering -/
theorem enter {y : MethodName} {as : Array Value} {ws : List Cond} {rm : Room} {h0 : Heap} (hp : plainFor y = true) (Z0 : n0 ≤ h0.size)
    (body : ∀ p e s m below meth c, Cx p s m meth c Z n0 y.cls bytes ml ret → meth.name = y.name → s.heap = h0 → Go p l e rm s m as below meth c (fun s₂ o L => FrameEnd s o s₂ L K N) n0 G h0 0 0 (entryFrame m as ml)) : Con l Z y bytes ml ret ws rm K N as h0 n0 G := by
  refine MetFree.of_bodySF hp hisR ?_
  intro p e s m args below meth c s₁ Bd hml0 hP hK
  obtain ⟨rfl, hZ, hh⟩ := hP
  have X0 : Stand p l e rm s m args below meth c s₁ [] 0 0 := Stand.of_body Bd
  have e0 : s₁.heap = h0 := by rw [← hh, Bd.state]; rfl
  obtain ⟨s₂, o, h1, h2, h3, h4⟩ := body p e s m below meth c ⟨Bd.exec, hZ, Bd.bytes, hml0, findClass_of_methodNamed Bd.named, Bd.returns, Bd.notSynchronized, by rw [hh]; exact Z0⟩ (name_of_methodNamed Bd.named Bd.method).1 hh s₁ ⟨[], Fr.nil _, X0, e0⟩
  exact ⟨s₂, o, h1, h2, h3, h4⟩

/-! loads, stores, constants -/
theorem iloadN (C : Cx p s m meth c Z n0 own bytes ml ret) {i : Fin 4} {v : Int32} (hd : decode bytes pc = .ok (.iload_n i, 1)) (hp : pc + 1 = pc') (hl : Ls[i.val]? = some (.val (.int v)))
    (g : Go p l e R s m args below meth c Y n0 G h k n (mkF m pc' Ls (.int v :: S))) : Go p l e R s m args below meth c Y n0 G h k n (mkF m pc Ls S) := by
  subst hp; exact stepG (fun T locs X _ _ q => XS.iloadN X.here C.1 rfl (hb C.2.2.1 hd) hl q) g
theorem iload (C : Cx p s m meth c Z n0 own bytes ml ret) {i : Nat} {v : Int32} (hd : decode bytes pc = .ok (.iload i, 2)) (hp : pc + 2 = pc') (hl : Ls[i]? = some (.val (.int v)))
    (g : Go p l e R s m args below meth c Y n0 G h k n (mkF m pc' Ls (.int v :: S))) : Go p l e R s m args below meth c Y n0 G h k n (mkF m pc Ls S) := by
  subst hp; exact stepG (fun T locs X _ _ q => XS.iload X.here C.1 rfl (hb C.2.2.1 hd) hl q) g
theorem lloadN (C : Cx p s m meth c Z n0 own bytes ml ret) {i : Fin 4} {v : Int64} (hd : decode bytes pc = .ok (.lload_n i, 1)) (hp : pc + 1 = pc') (hl : Ls[i.val]? = some (.val (.long v)))
    (g : Go p l e R s m args below meth c Y n0 G h k n (mkF m pc' Ls (.long v :: S))) : Go p l e R s m args below meth c Y n0 G h k n (mkF m pc Ls S) := by
  subst hp; exact stepG (fun T locs X _ _ q => XS.lloadN X.here C.1 rfl (hb C.2.2.1 hd) hl q) g
theorem lload (C : Cx p s m meth c Z n0 own bytes ml ret) {i : Nat} {v : Int64} (hd : decode bytes pc = .ok (.lload i, 2)) (hp : pc + 2 = pc') (hl : Ls[i]? = some (.val (.long v)))
    (g : Go p l e R s m args below meth c Y n0 G h k n (mkF m pc' Ls (.long v :: S))) : Go p l e R s m args below meth c Y n0 G h k n (mkF m pc Ls S) := by
  subst hp; exact stepG (fun T locs X _ _ q => XS.lload X.here C.1 rfl (hb C.2.2.1 hd) hl q) g
theorem aloadN (C : Cx p s m meth c Z n0 own bytes ml ret) {i : Fin 4} {v : Value} (hd : decode bytes pc = .ok (.aload_n i, 1)) (hp : pc + 1 = pc') (hl : Ls[i.val]? = some (.val v)) (hv : v.isRef = true)
    (g : Go p l e R s m args below meth c Y n0 G h k n (mkF m pc' Ls (v :: S))) : Go p l e R s m args below meth c Y n0 G h k n (mkF m pc Ls S) := by
  subst hp; exact stepG (fun T locs X _ _ q => XS.aloadN X.here C.1 rfl (hb C.2.2.1 hd) hl hv q) g
theorem aload (C : Cx p s m meth c Z n0 own bytes ml ret) {i : Nat} {v : Value} (hd : decode bytes pc = .ok (.aload i, 2)) (hp : pc + 2 = pc') (hl : Ls[i]? = some (.val v)) (hv : v.isRef = true)
    (g : Go p l e R s m args below meth c Y n0 G h k n (mkF m pc' Ls (v :: S))) : Go p l e R s m args below meth c Y n0 G h k n (mkF m pc Ls S) := by
  subst hp; exact stepG (fun T locs X _ _ q => XS.aload X.here C.1 rfl (hb C.2.2.1 hd) hl hv q) g
theorem istoreN (C : Cx p s m meth c Z n0 own bytes ml ret) {i : Fin 4} {x : Int32} (hd : decode bytes pc = .ok (.istore_n i, 1)) (hp : pc + 1 = pc') (hl : storeLocals Ls i.val (.int x) = some Ls')
    (g : Go p l e R s m args below meth c Y n0 G h k n (mkF m pc' Ls' S)) : Go p l e R s m args below meth c Y n0 G h k n (mkF m pc Ls (.int x :: S)) := by
  subst hp; exact stepG (fun T locs X _ _ q => XS.istoreN X.here C.1 rfl (hb C.2.2.1 hd) rfl hl q) g
theorem istore (C : Cx p s m meth c Z n0 own bytes ml ret) {i : Nat} {x : Int32} (hd : decode bytes pc = .ok (.istore i, 2)) (hp : pc + 2 = pc') (hl : storeLocals Ls i (.int x) = some Ls')
    (g : Go p l e R s m args below meth c Y n0 G h k n (mkF m pc' Ls' S)) : Go p l e R s m args below meth c Y n0 G h k n (mkF m pc Ls (.int x :: S)) := by
  subst hp; exact stepG (fun T locs X _ _ q => XS.istore X.here C.1 rfl (hb C.2.2.1 hd) rfl hl q) g
theorem lstoreN (C : Cx p s m meth c Z n0 own bytes ml ret) {i : Fin 4} {x : Int64} (hd : decode bytes pc = .ok (.lstore_n i, 1)) (hp : pc + 1 = pc') (hl : storeLocals Ls i.val (.long x) = some Ls')
    (g : Go p l e R s m args below meth c Y n0 G h k n (mkF m pc' Ls' S)) : Go p l e R s m args below meth c Y n0 G h k n (mkF m pc Ls (.long x :: S)) := by
  subst hp; exact stepG (fun T locs X _ _ q => XS.lstoreN X.here C.1 rfl (hb C.2.2.1 hd) rfl hl q) g
theorem lstore (C : Cx p s m meth c Z n0 own bytes ml ret) {i : Nat} {x : Int64} (hd : decode bytes pc = .ok (.lstore i, 2)) (hp : pc + 2 = pc') (hl : storeLocals Ls i (.long x) = some Ls')
    (g : Go p l e R s m args below meth c Y n0 G h k n (mkF m pc' Ls' S)) : Go p l e R s m args below meth c Y n0 G h k n (mkF m pc Ls (.long x :: S)) := by
  subst hp; exact stepG (fun T locs X _ _ q => XS.lstore X.here C.1 rfl (hb C.2.2.1 hd) rfl hl q) g
theorem astoreN (C : Cx p s m meth c Z n0 own bytes ml ret) {i : Fin 4} {x : Value} (hd : decode bytes pc = .ok (.astore_n i, 1)) (hp : pc + 1 = pc') (hv : x.isRef = true) (hl : storeLocals Ls i.val x = some Ls')
    (g : Go p l e R s m args below meth c Y n0 G h k n (mkF m pc' Ls' S)) : Go p l e R s m args below meth c Y n0 G h k n (mkF m pc Ls (x :: S)) := by
  subst hp; exact stepG (fun T locs X _ _ q => XS.astoreN X.here C.1 rfl (hb C.2.2.1 hd) rfl hv hl q) g
theorem astore (C : Cx p s m meth c Z n0 own bytes ml ret) {i : Nat} {x : Value} (hd : decode bytes pc = .ok (.astore i, 2)) (hp : pc + 2 = pc') (hv : x.isRef = true) (hl : storeLocals Ls i x = some Ls')
    (g : Go p l e R s m args below meth c Y n0 G h k n (mkF m pc' Ls' S)) : Go p l e R s m args below meth c Y n0 G h k n (mkF m pc Ls (x :: S)) := by
  subst hp; exact stepG (fun T locs X _ _ q => XS.astore X.here C.1 rfl (hb C.2.2.1 hd) rfl hv hl q) g
theorem iconst (C : Cx p s m meth c Z n0 own bytes ml ret) {i : Int} {x : Int32} (hd : decode bytes pc = .ok (.iconst i, 1)) (hp : pc + 1 = pc') (hv : Int32.ofInt i = x)
    (g : Go p l e R s m args below meth c Y n0 G h k n (mkF m pc' Ls (.int x :: S))) : Go p l e R s m args below meth c Y n0 G h k n (mkF m pc Ls S) := by
  subst hp hv; exact stepG (fun T locs X _ _ q => XS.iconst X.here C.1 rfl (hb C.2.2.1 hd) q) g
theorem bipush (C : Cx p s m meth c Z n0 own bytes ml ret) {i : Int} {x : Int32} (hd : decode bytes pc = .ok (.bipush i, 2)) (hp : pc + 2 = pc') (hv : (Int8.ofInt i).toInt32 = x)
    (g : Go p l e R s m args below meth c Y n0 G h k n (mkF m pc' Ls (.int x :: S))) : Go p l e R s m args below meth c Y n0 G h k n (mkF m pc Ls S) := by
  subst hp hv; exact stepG (fun T locs X _ _ q => XS.bipush X.here C.1 rfl (hb C.2.2.1 hd) q) g
theorem sipush (C : Cx p s m meth c Z n0 own bytes ml ret) {i : Int} {x : Int32} (hd : decode bytes pc = .ok (.sipush i, 3)) (hp : pc + 3 = pc') (hv : (Int16.ofInt i).toInt32 = x)
    (g : Go p l e R s m args below meth c Y n0 G h k n (mkF m pc' Ls (.int x :: S))) : Go p l e R s m args below meth c Y n0 G h k n (mkF m pc Ls S) := by
  subst hp hv; exact stepG (fun T locs X _ _ q => XS.sipush X.here C.1 rfl (hb C.2.2.1 hd) q) g
theorem lconst (C : Cx p s m meth c Z n0 own bytes ml ret) {i : Fin 2} {x : Int64} (hd : decode bytes pc = .ok (.lconst i, 1)) (hp : pc + 1 = pc') (hv : Int64.ofNat i = x)
    (g : Go p l e R s m args below meth c Y n0 G h k n (mkF m pc' Ls (.long x :: S))) : Go p l e R s m args below meth c Y n0 G h k n (mkF m pc Ls S) := by
  subst hp hv; exact stepG (fun T locs X _ _ q => XS.lconst X.here C.1 rfl (hb C.2.2.1 hd) q) g
theorem aconst_null (C : Cx p s m meth c Z n0 own bytes ml ret) (hd : decode bytes pc = .ok (.aconst_null, 1)) (hp : pc + 1 = pc')
    (g : Go p l e R s m args below meth c Y n0 G h k n (mkF m pc' Ls (.null :: S))) : Go p l e R s m args below meth c Y n0 G h k n (mkF m pc Ls S) := by
  subst hp; exact stepG (fun T locs X _ _ q => XS.aconstNull X.here C.1 rfl (hb C.2.2.1 hd) q) g
theorem ldcI (C : Cx p s m meth c Z n0 own bytes ml ret) {i : Nat} {v : Int32} (w : (Cond.constant own i v).before a0 Z = true) (hd : decode bytes pc = .ok (.ldc i, 2)) (hp : pc + 2 = pc')
    (g : Go p l e R s m args below meth c Y n0 G h k n (mkF m pc' Ls (.int v :: S))) : Go p l e R s m args below meth c Y n0 G h k n (mkF m pc Ls S) := by
  subst hp; exact stepG (fun T locs X _ t q => X.ldcInt C.1 C.2.2.2.2.1 (mvT C.2.1 w) (g := mkF m pc Ls S) rfl (hb C.2.2.1 hd) t q) g
theorem ldcwI (C : Cx p s m meth c Z n0 own bytes ml ret) {i : Nat} {v : Int32} (w : (Cond.constant own i v).before a0 Z = true) (hd : decode bytes pc = .ok (.ldc_w i, 3)) (hp : pc + 3 = pc')
    (g : Go p l e R s m args below meth c Y n0 G h k n (mkF m pc' Ls (.int v :: S))) : Go p l e R s m args below meth c Y n0 G h k n (mkF m pc Ls S) := by
  subst hp; exact stepG (fun T locs X _ t q => X.ldcwInt C.1 C.2.2.2.2.1 (mvT C.2.1 w) (g := mkF m pc Ls S) rfl (hb C.2.2.1 hd) t q) g
theorem ldc2 (C : Cx p s m meth c Z n0 own bytes ml ret) {i : Nat} {v : Int64} (w : (Cond.constantLong own i v).before a0 Z = true) (hd : decode bytes pc = .ok (.ldc2_w i, 3)) (hp : pc + 3 = pc')
    (g : Go p l e R s m args below meth c Y n0 G h k n (mkF m pc' Ls (.long v :: S))) : Go p l e R s m args below meth c Y n0 G h k n (mkF m pc Ls S) := by
  subst hp; exact stepG (fun T locs X _ t q => X.ldc2Long C.1 C.2.2.2.2.1 (mvT C.2.1 w) (g := mkF m pc Ls S) rfl (hb C.2.2.1 hd) t q) g
theorem iadd (C : Cx p s m meth c Z n0 own bytes ml ret) {x y z : Int32} (hd : decode bytes pc = .ok (.iadd, 1)) (hp : pc + 1 = pc') (hv : x + y = z)
    (g : Go p l e R s m args below meth c Y n0 G h k n (mkF m pc' Ls (.int z :: S))) : Go p l e R s m args below meth c Y n0 G h k n (mkF m pc Ls (.int y :: .int x :: S)) := by
  subst hp hv; exact stepG (fun T locs X _ _ q => XS.iadd X.here C.1 rfl (hb C.2.2.1 hd) rfl q) g
theorem isub (C : Cx p s m meth c Z n0 own bytes ml ret) {x y z : Int32} (hd : decode bytes pc = .ok (.isub, 1)) (hp : pc + 1 = pc') (hv : x - y = z)
    (g : Go p l e R s m args below meth c Y n0 G h k n (mkF m pc' Ls (.int z :: S))) : Go p l e R s m args below meth c Y n0 G h k n (mkF m pc Ls (.int y :: .int x :: S)) := by
  subst hp hv; exact stepG (fun T locs X _ _ q => XS.isub X.here C.1 rfl (hb C.2.2.1 hd) rfl q) g
theorem imul (C : Cx p s m meth c Z n0 own bytes ml ret) {x y z : Int32} (hd : decode bytes pc = .ok (.imul, 1)) (hp : pc + 1 = pc') (hv : x * y = z)
    (g : Go p l e R s m args below meth c Y n0 G h k n (mkF m pc' Ls (.int z :: S))) : Go p l e R s m args below meth c Y n0 G h k n (mkF m pc Ls (.int y :: .int x :: S)) := by
  subst hp hv; exact stepG (fun T locs X _ _ q => XS.imul X.here C.1 rfl (hb C.2.2.1 hd) rfl q) g
theorem iand (C : Cx p s m meth c Z n0 own bytes ml ret) {x y z : Int32} (hd : decode bytes pc = .ok (.iand, 1)) (hp : pc + 1 = pc') (hv : x &&& y = z)
    (g : Go p l e R s m args below meth c Y n0 G h k n (mkF m pc' Ls (.int z :: S))) : Go p l e R s m args below meth c Y n0 G h k n (mkF m pc Ls (.int y :: .int x :: S)) := by
  subst hp hv; exact stepG (fun T locs X _ _ q => XS.iand X.here C.1 rfl (hb C.2.2.1 hd) rfl q) g
theorem ior (C : Cx p s m meth c Z n0 own bytes ml ret) {x y z : Int32} (hd : decode bytes pc = .ok (.ior, 1)) (hp : pc + 1 = pc') (hv : x ||| y = z)
    (g : Go p l e R s m args below meth c Y n0 G h k n (mkF m pc' Ls (.int z :: S))) : Go p l e R s m args below meth c Y n0 G h k n (mkF m pc Ls (.int y :: .int x :: S)) := by
  subst hp hv; exact stepG (fun T locs X _ _ q => XS.ior X.here C.1 rfl (hb C.2.2.1 hd) rfl q) g
theorem ixor (C : Cx p s m meth c Z n0 own bytes ml ret) {x y z : Int32} (hd : decode bytes pc = .ok (.ixor, 1)) (hp : pc + 1 = pc') (hv : x ^^^ y = z)
    (g : Go p l e R s m args below meth c Y n0 G h k n (mkF m pc' Ls (.int z :: S))) : Go p l e R s m args below meth c Y n0 G h k n (mkF m pc Ls (.int y :: .int x :: S)) := by
  subst hp hv; exact stepG (fun T locs X _ _ q => XS.ixor X.here C.1 rfl (hb C.2.2.1 hd) rfl q) g
theorem ladd (C : Cx p s m meth c Z n0 own bytes ml ret) {x y z : Int64} (hd : decode bytes pc = .ok (.ladd, 1)) (hp : pc + 1 = pc') (hv : x + y = z)
    (g : Go p l e R s m args below meth c Y n0 G h k n (mkF m pc' Ls (.long z :: S))) : Go p l e R s m args below meth c Y n0 G h k n (mkF m pc Ls (.long y :: .long x :: S)) := by
  subst hp hv; exact stepG (fun T locs X _ _ q => XS.ladd X.here C.1 rfl (hb C.2.2.1 hd) rfl q) g
theorem lsub (C : Cx p s m meth c Z n0 own bytes ml ret) {x y z : Int64} (hd : decode bytes pc = .ok (.lsub, 1)) (hp : pc + 1 = pc') (hv : x - y = z)
    (g : Go p l e R s m args below meth c Y n0 G h k n (mkF m pc' Ls (.long z :: S))) : Go p l e R s m args below meth c Y n0 G h k n (mkF m pc Ls (.long y :: .long x :: S)) := by
  subst hp hv; exact stepG (fun T locs X _ _ q => XS.lsub X.here C.1 rfl (hb C.2.2.1 hd) rfl q) g
theorem lmul (C : Cx p s m meth c Z n0 own bytes ml ret) {x y z : Int64} (hd : decode bytes pc = .ok (.lmul, 1)) (hp : pc + 1 = pc') (hv : x * y = z)
    (g : Go p l e R s m args below meth c Y n0 G h k n (mkF m pc' Ls (.long z :: S))) : Go p l e R s m args below meth c Y n0 G h k n (mkF m pc Ls (.long y :: .long x :: S)) := by
  subst hp hv; exact stepG (fun T locs X _ _ q => XS.lmul X.here C.1 rfl (hb C.2.2.1 hd) rfl q) g
theorem land (C : Cx p s m meth c Z n0 own bytes ml ret) {x y z : Int64} (hd : decode bytes pc = .ok (.land, 1)) (hp : pc + 1 = pc') (hv : x &&& y = z)
    (g : Go p l e R s m args below meth c Y n0 G h k n (mkF m pc' Ls (.long z :: S))) : Go p l e R s m args below meth c Y n0 G h k n (mkF m pc Ls (.long y :: .long x :: S)) := by
  subst hp hv; exact stepG (fun T locs X _ _ q => XS.land X.here C.1 rfl (hb C.2.2.1 hd) rfl q) g
theorem lor (C : Cx p s m meth c Z n0 own bytes ml ret) {x y z : Int64} (hd : decode bytes pc = .ok (.lor, 1)) (hp : pc + 1 = pc') (hv : x ||| y = z)
    (g : Go p l e R s m args below meth c Y n0 G h k n (mkF m pc' Ls (.long z :: S))) : Go p l e R s m args below meth c Y n0 G h k n (mkF m pc Ls (.long y :: .long x :: S)) := by
  subst hp hv; exact stepG (fun T locs X _ _ q => XS.lor X.here C.1 rfl (hb C.2.2.1 hd) rfl q) g
theorem lxor (C : Cx p s m meth c Z n0 own bytes ml ret) {x y z : Int64} (hd : decode bytes pc = .ok (.lxor, 1)) (hp : pc + 1 = pc') (hv : x ^^^ y = z)
    (g : Go p l e R s m args below meth c Y n0 G h k n (mkF m pc' Ls (.long z :: S))) : Go p l e R s m args below meth c Y n0 G h k n (mkF m pc Ls (.long y :: .long x :: S)) := by
  subst hp hv; exact stepG (fun T locs X _ _ q => XS.lxor X.here C.1 rfl (hb C.2.2.1 hd) rfl q) g
theorem ishl (C : Cx p s m meth c Z n0 own bytes ml ret) {x z : Int32} {y : Int32} (hd : decode bytes pc = .ok (.ishl, 1)) (hp : pc + 1 = pc') (hv : (x <<< (y &&& 31)) = z)
    (g : Go p l e R s m args below meth c Y n0 G h k n (mkF m pc' Ls (.int z :: S))) : Go p l e R s m args below meth c Y n0 G h k n (mkF m pc Ls (.int y :: .int x :: S)) := by
  subst hp hv; exact stepG (fun T locs X _ _ q => XS.ishl X.here C.1 rfl (hb C.2.2.1 hd) rfl q) g
theorem ishr (C : Cx p s m meth c Z n0 own bytes ml ret) {x z : Int32} {y : Int32} (hd : decode bytes pc = .ok (.ishr, 1)) (hp : pc + 1 = pc') (hv : (x >>> (y &&& 31)) = z)
    (g : Go p l e R s m args below meth c Y n0 G h k n (mkF m pc' Ls (.int z :: S))) : Go p l e R s m args below meth c Y n0 G h k n (mkF m pc Ls (.int y :: .int x :: S)) := by
  subst hp hv; exact stepG (fun T locs X _ _ q => XS.ishr X.here C.1 rfl (hb C.2.2.1 hd) rfl q) g
theorem iushr (C : Cx p s m meth c Z n0 own bytes ml ret) {x z : Int32} {y : Int32} (hd : decode bytes pc = .ok (.iushr, 1)) (hp : pc + 1 = pc') (hv : ((x).toUInt32 >>> (y &&& 31).toUInt32).toInt32 = z)
    (g : Go p l e R s m args below meth c Y n0 G h k n (mkF m pc' Ls (.int z :: S))) : Go p l e R s m args below meth c Y n0 G h k n (mkF m pc Ls (.int y :: .int x :: S)) := by
  subst hp hv; exact stepG (fun T locs X _ _ q => XS.iushr X.here C.1 rfl (hb C.2.2.1 hd) rfl q) g
theorem lshl (C : Cx p s m meth c Z n0 own bytes ml ret) {x z : Int64} {y : Int32} (hd : decode bytes pc = .ok (.lshl, 1)) (hp : pc + 1 = pc') (hv : (x <<< (y &&& 0x3f).toInt64) = z)
    (g : Go p l e R s m args below meth c Y n0 G h k n (mkF m pc' Ls (.long z :: S))) : Go p l e R s m args below meth c Y n0 G h k n (mkF m pc Ls (.int y :: .long x :: S)) := by
  subst hp hv; exact stepG (fun T locs X _ _ q => XS.lshl X.here C.1 rfl (hb C.2.2.1 hd) rfl q) g
theorem lshr (C : Cx p s m meth c Z n0 own bytes ml ret) {x z : Int64} {y : Int32} (hd : decode bytes pc = .ok (.lshr, 1)) (hp : pc + 1 = pc') (hv : (x >>> (y &&& 0x3f).toInt64) = z)
    (g : Go p l e R s m args below meth c Y n0 G h k n (mkF m pc' Ls (.long z :: S))) : Go p l e R s m args below meth c Y n0 G h k n (mkF m pc Ls (.int y :: .long x :: S)) := by
  subst hp hv; exact stepG (fun T locs X _ _ q => XS.lshr X.here C.1 rfl (hb C.2.2.1 hd) rfl q) g
theorem lushr (C : Cx p s m meth c Z n0 own bytes ml ret) {x z : Int64} {y : Int32} (hd : decode bytes pc = .ok (.lushr, 1)) (hp : pc + 1 = pc') (hv : ((x).toUInt64 >>> (y &&& 0x3f).toInt64.toUInt64).toInt64 = z)
    (g : Go p l e R s m args below meth c Y n0 G h k n (mkF m pc' Ls (.long z :: S))) : Go p l e R s m args below meth c Y n0 G h k n (mkF m pc Ls (.int y :: .long x :: S)) := by
  subst hp hv; exact stepG (fun T locs X _ _ q => XS.lushr X.here C.1 rfl (hb C.2.2.1 hd) rfl q) g
theorem ineg (C : Cx p s m meth c Z n0 own bytes ml ret) {x : Int32} {z : Int32} (hd : decode bytes pc = .ok (.ineg, 1)) (hp : pc + 1 = pc') (hv : (-x) = z)
    (g : Go p l e R s m args below meth c Y n0 G h k n (mkF m pc' Ls (.int z :: S))) : Go p l e R s m args below meth c Y n0 G h k n (mkF m pc Ls (.int x :: S)) := by
  subst hp hv; exact stepG (fun T locs X _ _ q => XS.ineg X.here C.1 rfl (hb C.2.2.1 hd) rfl q) g
theorem lneg (C : Cx p s m meth c Z n0 own bytes ml ret) {x : Int64} {z : Int64} (hd : decode bytes pc = .ok (.lneg, 1)) (hp : pc + 1 = pc') (hv : (-x) = z)
    (g : Go p l e R s m args below meth c Y n0 G h k n (mkF m pc' Ls (.long z :: S))) : Go p l e R s m args below meth c Y n0 G h k n (mkF m pc Ls (.long x :: S)) := by
  subst hp hv; exact stepG (fun T locs X _ _ q => XS.lneg X.here C.1 rfl (hb C.2.2.1 hd) rfl q) g
theorem i2l (C : Cx p s m meth c Z n0 own bytes ml ret) {x : Int32} {z : Int64} (hd : decode bytes pc = .ok (.i2l, 1)) (hp : pc + 1 = pc') (hv : (x).toInt64 = z)
    (g : Go p l e R s m args below meth c Y n0 G h k n (mkF m pc' Ls (.long z :: S))) : Go p l e R s m args below meth c Y n0 G h k n (mkF m pc Ls (.int x :: S)) := by
  subst hp hv; exact stepG (fun T locs X _ _ q => XS.i2l X.here C.1 rfl (hb C.2.2.1 hd) rfl q) g
theorem l2i (C : Cx p s m meth c Z n0 own bytes ml ret) {x : Int64} {z : Int32} (hd : decode bytes pc = .ok (.l2i, 1)) (hp : pc + 1 = pc') (hv : (x).toInt32 = z)
    (g : Go p l e R s m args below meth c Y n0 G h k n (mkF m pc' Ls (.int z :: S))) : Go p l e R s m args below meth c Y n0 G h k n (mkF m pc Ls (.long x :: S)) := by
  subst hp hv; exact stepG (fun T locs X _ _ q => XS.l2i X.here C.1 rfl (hb C.2.2.1 hd) rfl q) g
theorem i2b (C : Cx p s m meth c Z n0 own bytes ml ret) {x : Int32} {z : Int32} (hd : decode bytes pc = .ok (.i2b, 1)) (hp : pc + 1 = pc') (hv : (x).toInt8.toInt32 = z)
    (g : Go p l e R s m args below meth c Y n0 G h k n (mkF m pc' Ls (.int z :: S))) : Go p l e R s m args below meth c Y n0 G h k n (mkF m pc Ls (.int x :: S)) := by
  subst hp hv; exact stepG (fun T locs X _ _ q => XS.i2b X.here C.1 rfl (hb C.2.2.1 hd) rfl q) g
theorem i2s (C : Cx p s m meth c Z n0 own bytes ml ret) {x : Int32} {z : Int32} (hd : decode bytes pc = .ok (.i2s, 1)) (hp : pc + 1 = pc') (hv : (x).toInt16.toInt32 = z)
    (g : Go p l e R s m args below meth c Y n0 G h k n (mkF m pc' Ls (.int z :: S))) : Go p l e R s m args below meth c Y n0 G h k n (mkF m pc Ls (.int x :: S)) := by
  subst hp hv; exact stepG (fun T locs X _ _ q => XS.i2s X.here C.1 rfl (hb C.2.2.1 hd) rfl q) g
theorem i2c (C : Cx p s m meth c Z n0 own bytes ml ret) {x : Int32} {z : Int32} (hd : decode bytes pc = .ok (.i2c, 1)) (hp : pc + 1 = pc') (hv : (x).toUInt32.toUInt16.toUInt32.toInt32 = z)
    (g : Go p l e R s m args below meth c Y n0 G h k n (mkF m pc' Ls (.int z :: S))) : Go p l e R s m args below meth c Y n0 G h k n (mkF m pc Ls (.int x :: S)) := by
  subst hp hv; exact stepG (fun T locs X _ _ q => XS.i2c X.here C.1 rfl (hb C.2.2.1 hd) rfl q) g
theorem idiv (C : Cx p s m meth c Z n0 own bytes ml ret) {x y z : Int32} (hd : decode bytes pc = .ok (.idiv, 1)) (hp : pc + 1 = pc') (hy : y ≠ 0) (hv : x / y = z)
    (g : Go p l e R s m args below meth c Y n0 G h k n (mkF m pc' Ls (.int z :: S))) : Go p l e R s m args below meth c Y n0 G h k n (mkF m pc Ls (.int y :: .int x :: S)) := by
  subst hp hv; exact stepG (fun T locs X _ _ q => XS.idiv X.here C.1 rfl (hb C.2.2.1 hd) rfl hy q) g
theorem ldiv (C : Cx p s m meth c Z n0 own bytes ml ret) {x y z : Int64} (hd : decode bytes pc = .ok (.ldiv, 1)) (hp : pc + 1 = pc') (hy : y ≠ 0) (hv : x / y = z)
    (g : Go p l e R s m args below meth c Y n0 G h k n (mkF m pc' Ls (.long z :: S))) : Go p l e R s m args below meth c Y n0 G h k n (mkF m pc Ls (.long y :: .long x :: S)) := by
  subst hp hv; exact stepG (fun T locs X _ _ q => XS.ldiv X.here C.1 rfl (hb C.2.2.1 hd) rfl hy q) g
theorem irem (C : Cx p s m meth c Z n0 own bytes ml ret) {x y z : Int32} (hd : decode bytes pc = .ok (.irem, 1)) (hp : pc + 1 = pc') (hy : y ≠ 0) (hv : x % y = z)
    (g : Go p l e R s m args below meth c Y n0 G h k n (mkF m pc' Ls (.int z :: S))) : Go p l e R s m args below meth c Y n0 G h k n (mkF m pc Ls (.int y :: .int x :: S)) := by
  subst hp; rw [← irem_eq_mod x y] at hv; subst hv; exact stepG (fun T locs X _ _ q => XS.irem X.here C.1 rfl (hb C.2.2.1 hd) rfl hy q) g
theorem lrem (C : Cx p s m meth c Z n0 own bytes ml ret) {x y z : Int64} (hd : decode bytes pc = .ok (.lrem, 1)) (hp : pc + 1 = pc') (hy : y ≠ 0) (hv : x % y = z)
    (g : Go p l e R s m args below meth c Y n0 G h k n (mkF m pc' Ls (.long z :: S))) : Go p l e R s m args below meth c Y n0 G h k n (mkF m pc Ls (.long y :: .long x :: S)) := by
  subst hp; rw [← lrem_mod x y] at hv; subst hv; exact stepG (fun T locs X _ _ q => XS.lrem X.here C.1 rfl (hb C.2.2.1 hd) rfl hy q) g
theorem iinc (C : Cx p s m meth c Z n0 own bytes ml ret) {i : Nat} {cst : Int} {x z : Int32} (hd : decode bytes pc = .ok (.iinc i cst, 3)) (hp : pc + 3 = pc') (hl : Ls[i]? = some (.val (.int x))) (hv : x + Int32.ofInt cst = z) (hl' : storeLocals Ls i (.int z) = some Ls')
    (g : Go p l e R s m args below meth c Y n0 G h k n (mkF m pc' Ls' S)) : Go p l e R s m args below meth c Y n0 G h k n (mkF m pc Ls S) := by
  subst hp hv; exact stepG (fun T locs X _ _ q => XS.iinc X.here C.1 rfl (hb C.2.2.1 hd) hl hl' q) g
theorem dup (C : Cx p s m meth c Z n0 own bytes ml ret) {x : Value} (hd : decode bytes pc = .ok (.dup, 1)) (hp : pc + 1 = pc') (hc : x.category = 1)
    (g : Go p l e R s m args below meth c Y n0 G h k n (mkF m pc' Ls (x :: x :: S))) : Go p l e R s m args below meth c Y n0 G h k n (mkF m pc Ls (x :: S)) := by
  subst hp; exact stepG (fun T locs X _ _ q => XS.dup X.here C.1 rfl (hb C.2.2.1 hd) rfl hc q) g
theorem dup_x1 (C : Cx p s m meth c Z n0 own bytes ml ret) {x y : Value} (hd : decode bytes pc = .ok (.dup_x1, 1)) (hp : pc + 1 = pc') (hc : x.category = 1) (hc2 : y.category = 1)
    (g : Go p l e R s m args below meth c Y n0 G h k n (mkF m pc' Ls (x :: y :: x :: S))) : Go p l e R s m args below meth c Y n0 G h k n (mkF m pc Ls (x :: y :: S)) := by
  subst hp; exact stepG (fun T locs X _ _ q => XS.dupX1 X.here C.1 rfl (hb C.2.2.1 hd) rfl hc hc2 q) g
theorem dup2L (C : Cx p s m meth c Z n0 own bytes ml ret) {x : Int64} (hd : decode bytes pc = .ok (.dup2, 1)) (hp : pc + 1 = pc')
    (g : Go p l e R s m args below meth c Y n0 G h k n (mkF m pc' Ls (.long x :: .long x :: S))) : Go p l e R s m args below meth c Y n0 G h k n (mkF m pc Ls (.long x :: S)) := by
  subst hp; exact stepG (fun T locs X _ _ q => Jvm.Free.XT.dup2L X.here C.1 rfl (hb C.2.2.1 hd) rfl q) g
theorem dup2 (C : Cx p s m meth c Z n0 own bytes ml ret) {x y : Value} (hd : decode bytes pc = .ok (.dup2, 1)) (hp : pc + 1 = pc') (hc : x.category = 1) (hc2 : y.category = 1)
    (g : Go p l e R s m args below meth c Y n0 G h k n (mkF m pc' Ls (x :: y :: x :: y :: S))) : Go p l e R s m args below meth c Y n0 G h k n (mkF m pc Ls (x :: y :: S)) := by
  subst hp; exact stepG (fun T locs X _ _ q => Jvm.Free.XT.dup2 X.here C.1 rfl (hb C.2.2.1 hd) rfl hc hc2 q) g
theorem pop (C : Cx p s m meth c Z n0 own bytes ml ret) {x : Value} (hd : decode bytes pc = .ok (.pop, 1)) (hp : pc + 1 = pc') (hc : x.category = 1)
    (g : Go p l e R s m args below meth c Y n0 G h k n (mkF m pc' Ls S)) : Go p l e R s m args below meth c Y n0 G h k n (mkF m pc Ls (x :: S)) := by
  subst hp; exact stepG (fun T locs X _ _ q => XS.pop X.here C.1 rfl (hb C.2.2.1 hd) rfl hc q) g
theorem goto (C : Cx p s m meth c Z n0 own bytes ml ret) {o : Int} (hd : decode bytes pc = .ok (.goto o, 3)) (ho : 0 ≤ (pc : Int) + o) (hp : ((pc : Int) + o).toNat = pc')
    (g : Go p l e R s m args below meth c Y n0 G h k n (mkF m pc' Ls S)) : Go p l e R s m args below meth c Y n0 G h k n (mkF m pc Ls S) := by
  exact stepG (fun T locs X _ _ q => XS.goto X.here C.1 rfl (pc0 := pc) rfl (hb C.2.2.1 hd) ho hp q) g

/-! branches: P: taken, P': not taken -/
theorem icmp (C : Cx p s m meth c Z n0 own bytes ml ret) {cd : ClassFile.Cond} {o : Int} {x y : Int32} (hd : decode bytes pc = .ok (.if_icmp cd o, 3)) (ho : 0 ≤ (pc : Int) + o) (hp : ((pc : Int) + o).toNat = pc') (hn : pc + 3 = pn)
    {P P' : Prop} (q : (P → if_icmp.holds cd x y = true) ∧ (P' → if_icmp.holds cd x y = false) ∧ (P ∨ P'))
    (g1 : P → Go p l e R s m args below meth c Y n0 G h k n (mkF m pc' Ls S)) (g2 : P' → Go p l e R s m args below meth c Y n0 G h k n (mkF m pn Ls S)) : Go p l e R s m args below meth c Y n0 G h k n (mkF m pc Ls (.int y :: .int x :: S)) := by
  rcases q.2.2 with hP | hP
  · exact stepG (fun T locs X _ _ z => XS.icmpYes X.here C.1 rfl (pc0 := pc) rfl (hb C.2.2.1 hd) rfl (q.1 hP) ho hp z) (g1 hP)
  · subst hn; exact stepG (fun T locs X _ _ z => XS.icmpNo X.here C.1 rfl (hb C.2.2.1 hd) rfl (q.2.1 hP) z) (g2 hP)
theorem ifc (C : Cx p s m meth c Z n0 own bytes ml ret) {cd : ClassFile.Cond} {o : Int} {x : Int32} (hd : decode bytes pc = .ok (.ifCond cd o, 3)) (ho : 0 ≤ (pc : Int) + o) (hp : ((pc : Int) + o).toNat = pc') (hn : pc + 3 = pn)
    {P P' : Prop} (q : (P → if_icmp.holds cd x 0 = true) ∧ (P' → if_icmp.holds cd x 0 = false) ∧ (P ∨ P'))
    (g1 : P → Go p l e R s m args below meth c Y n0 G h k n (mkF m pc' Ls S)) (g2 : P' → Go p l e R s m args below meth c Y n0 G h k n (mkF m pn Ls S)) : Go p l e R s m args below meth c Y n0 G h k n (mkF m pc Ls (.int x :: S)) := by
  rcases q.2.2 with hP | hP
  · exact stepG (fun T locs X _ _ z => XS.ifYes X.here C.1 rfl (pc0 := pc) rfl (hb C.2.2.1 hd) rfl ((if0 _ _).trans (q.1 hP)) ho hp z) (g1 hP)
  · subst hn; exact stepG (fun T locs X _ _ z => XS.ifNo X.here C.1 rfl (hb C.2.2.1 hd) rfl ((if0 _ _).trans (q.2.1 hP)) z) (g2 hP)
/-- lcmp and the branch behind it -/
theorem lcif (C : Cx p s m meth c Z n0 own bytes ml ret) {cd : ClassFile.Cond} {o : Int} {x y : Int64} {pm : Nat} (hd0 : decode bytes pc = .ok (.lcmp, 1)) (hm : pc + 1 = pm) (hd : decode bytes pm = .ok (.ifCond cd o, 3)) (ho : 0 ≤ (pm : Int) + o) (hp : ((pm : Int) + o).toNat = pc') (hn : pm + 3 = pn)
    {P P' : Prop} (q : (P → if_icmp.holds cd (lcmpW x y) 0 = true) ∧ (P' → if_icmp.holds cd (lcmpW x y) 0 = false) ∧ (P ∨ P'))
    (g1 : P → Go p l e R s m args below meth c Y n0 G h k n (mkF m pc' Ls S)) (g2 : P' → Go p l e R s m args below meth c Y n0 G h k n (mkF m pn Ls S)) : Go p l e R s m args below meth c Y n0 G h k n (mkF m pc Ls (.long y :: .long x :: S)) := by
  subst hm
  exact stepG (fun T locs X _ _ z => XS.lcmp X.here C.1 rfl (hb C.2.2.1 hd0) rfl z) (ifc C hd ho hp hn q g1 g2)
theorem q_lt (x y : Int32) : (x.toInt < y.toInt → if_icmp.holds .lt x y = true) ∧ (y.toInt ≤ x.toInt → if_icmp.holds .lt x y = false) ∧ (x.toInt < y.toInt ∨ y.toInt ≤ x.toInt) :=
  ⟨fun q => (tlt (Int32.lt_iff_toInt_lt.mpr q)).1, fun q => (flt (fun w => absurd (Int32.lt_iff_toInt_lt.mp w) (Int.not_lt.mpr q))).1, Int.lt_or_le _ _⟩
theorem q_ge (x y : Int32) : (y.toInt ≤ x.toInt → if_icmp.holds .ge x y = true) ∧ (x.toInt < y.toInt → if_icmp.holds .ge x y = false) ∧ (y.toInt ≤ x.toInt ∨ x.toInt < y.toInt) :=
  ⟨fun q => (flt (fun w => absurd (Int32.lt_iff_toInt_lt.mp w) (Int.not_lt.mpr q))).2.1, fun q => (tlt (Int32.lt_iff_toInt_lt.mpr q)).2.1, (Int.lt_or_le _ _).symm⟩
theorem q_gt (x y : Int32) : (y.toInt < x.toInt → if_icmp.holds .gt x y = true) ∧ (x.toInt ≤ y.toInt → if_icmp.holds .gt x y = false) ∧ (y.toInt < x.toInt ∨ x.toInt ≤ y.toInt) :=
  ⟨fun q => (tlt (Int32.lt_iff_toInt_lt.mpr q)).2.2.1, fun q => (flt (fun w => absurd (Int32.lt_iff_toInt_lt.mp w) (Int.not_lt.mpr q))).2.2.1, Int.lt_or_le _ _⟩
theorem q_le (x y : Int32) : (x.toInt ≤ y.toInt → if_icmp.holds .le x y = true) ∧ (y.toInt < x.toInt → if_icmp.holds .le x y = false) ∧ (x.toInt ≤ y.toInt ∨ y.toInt < x.toInt) :=
  ⟨fun q => (flt (fun w => absurd (Int32.lt_iff_toInt_lt.mp w) (Int.not_lt.mpr q))).2.2.2, fun q => (tlt (Int32.lt_iff_toInt_lt.mpr q)).2.2.2, (Int.lt_or_le _ _).symm⟩
theorem q_eq (x y : Int32) : (x = y → if_icmp.holds .eq x y = true) ∧ (¬ x = y → if_icmp.holds .eq x y = false) ∧ (x = y ∨ ¬ x = y) := ⟨fun q => (teq q).1, fun q => (feq q).1, Classical.em _⟩
theorem q_ne (x y : Int32) : (¬ x = y → if_icmp.holds .ne x y = true) ∧ (x = y → if_icmp.holds .ne x y = false) ∧ (¬ x = y ∨ x = y) := ⟨fun q => (feq q).2, fun q => (teq q).2, (Classical.em _).symm⟩
theorem ql_lt (x y : Int64) : (x.toInt < y.toInt → if_icmp.holds .lt (lcmpW x y) 0 = true) ∧ (y.toInt ≤ x.toInt → if_icmp.holds .lt (lcmpW x y) 0 = false) ∧ (x.toInt < y.toInt ∨ y.toInt ≤ x.toInt) :=
  ⟨fun q => (tlt ((lw_lt x y).mpr (Int64.lt_iff_toInt_lt.mpr q))).1, fun q => (flt (fun w => absurd (Int64.lt_iff_toInt_lt.mp ((lw_lt x y).mp w)) (Int.not_lt.mpr q))).1, Int.lt_or_le _ _⟩
theorem ql_ge (x y : Int64) : (y.toInt ≤ x.toInt → if_icmp.holds .ge (lcmpW x y) 0 = true) ∧ (x.toInt < y.toInt → if_icmp.holds .ge (lcmpW x y) 0 = false) ∧ (y.toInt ≤ x.toInt ∨ x.toInt < y.toInt) :=
  ⟨fun q => (flt (fun w => absurd (Int64.lt_iff_toInt_lt.mp ((lw_lt x y).mp w)) (Int.not_lt.mpr q))).2.1, fun q => (tlt ((lw_lt x y).mpr (Int64.lt_iff_toInt_lt.mpr q))).2.1, (Int.lt_or_le _ _).symm⟩
theorem ql_gt (x y : Int64) : (y.toInt < x.toInt → if_icmp.holds .gt (lcmpW x y) 0 = true) ∧ (x.toInt ≤ y.toInt → if_icmp.holds .gt (lcmpW x y) 0 = false) ∧ (y.toInt < x.toInt ∨ x.toInt ≤ y.toInt) :=
  ⟨fun q => (tlt ((lw_gt x y).mpr (Int64.lt_iff_toInt_lt.mpr q))).2.2.1, fun q => (flt (fun w => absurd (Int64.lt_iff_toInt_lt.mp ((lw_gt x y).mp w)) (Int.not_lt.mpr q))).2.2.1, Int.lt_or_le _ _⟩
theorem ql_le (x y : Int64) : (x.toInt ≤ y.toInt → if_icmp.holds .le (lcmpW x y) 0 = true) ∧ (y.toInt < x.toInt → if_icmp.holds .le (lcmpW x y) 0 = false) ∧ (x.toInt ≤ y.toInt ∨ y.toInt < x.toInt) :=
  ⟨fun q => (flt (fun w => absurd (Int64.lt_iff_toInt_lt.mp ((lw_gt x y).mp w)) (Int.not_lt.mpr q))).2.2.2, fun q => (tlt ((lw_gt x y).mpr (Int64.lt_iff_toInt_lt.mpr q))).2.2.2, (Int.lt_or_le _ _).symm⟩
theorem ql_eq (x y : Int64) : (x = y → if_icmp.holds .eq (lcmpW x y) 0 = true) ∧ (¬ x = y → if_icmp.holds .eq (lcmpW x y) 0 = false) ∧ (x = y ∨ ¬ x = y) := ⟨fun q => (teq ((lw_eq x y).mpr q)).1, fun q => (feq (fun w => q ((lw_eq x y).mp w))).1, Classical.em _⟩
theorem ql_ne (x y : Int64) : (¬ x = y → if_icmp.holds .ne (lcmpW x y) 0 = true) ∧ (x = y → if_icmp.holds .ne (lcmpW x y) 0 = false) ∧ (¬ x = y ∨ x = y) := ⟨fun q => (feq (fun w => q ((lw_eq x y).mp w))).2, fun q => (teq ((lw_eq x y).mpr q)).2, (Classical.em _).symm⟩

theorem acmp (C : Cx p s m meth c Z n0 own bytes ml ret) {cd : ACond} {o : Int} {x y : Value} (h1 : x.isRef = true) (h2 : y.isRef = true) (hd : decode bytes pc = .ok (.if_acmp cd o, 3)) (ho : 0 ≤ (pc : Int) + o) (hp : ((pc : Int) + o).toNat = pc') (hn : pc + 3 = pn)
    {P P' : Prop} (q : (P → acV cd (decide (x = y)) = true) ∧ (P' → acV cd (decide (x = y)) = false) ∧ (P ∨ P'))
    (g1 : P → Go p l e R s m args below meth c Y n0 G h k n (mkF m pc' Ls S)) (g2 : P' → Go p l e R s m args below meth c Y n0 G h k n (mkF m pn Ls S)) : Go p l e R s m args below meth c Y n0 G h k n (mkF m pc Ls (y :: x :: S)) := by
  rcases q.2.2 with hP | hP
  · exact stepG (fun T locs X _ _ z => Jvm.RoadKit.acmp (g := mkF m pc Ls (y :: x :: S)) X C.1 rfl h1 h2 (pc0 := pc) (pc' := pc') (same := decide (x = y)) rfl (hb C.2.2.1 hd) rfl rfl ho (by rw [q.1 hP]; exact hp.symm) z) (g1 hP)
  · exact stepG (fun T locs X _ _ z => Jvm.RoadKit.acmp (g := mkF m pc Ls (y :: x :: S)) X C.1 rfl h1 h2 (pc0 := pc) (pc' := pn) (same := decide (x = y)) rfl (hb C.2.2.1 hd) rfl rfl ho (by rw [q.2.1 hP]; exact hn.symm) z) (g2 hP)
theorem qa_eq (a b : Addr) : (a = b → acV .eq (decide (Value.ref a = Value.ref b)) = true) ∧ (¬ a = b → acV .eq (decide (Value.ref a = Value.ref b)) = false) ∧ (a = b ∨ ¬ a = b) :=
  ⟨fun q => decide_eq_true (congrArg Value.ref q), fun q => decide_eq_false fun z => q (Value.ref.inj z), Classical.em _⟩
theorem qa_ne (a b : Addr) : (¬ a = b → acV .ne (decide (Value.ref a = Value.ref b)) = true) ∧ (a = b → acV .ne (decide (Value.ref a = Value.ref b)) = false) ∧ (¬ a = b ∨ a = b) :=
  ⟨fun q => by rw [decide_eq_false fun z => q (Value.ref.inj z)]; rfl, fun q => by rw [decide_eq_true (congrArg Value.ref q)]; rfl, (Classical.em _).symm⟩
theorem ifnullT (C : Cx p s m meth c Z n0 own bytes ml ret) {o : Int} (hd : decode bytes pc = .ok (.ifnull o, 3)) (ho : 0 ≤ (pc : Int) + o) (hp : ((pc : Int) + o).toNat = pc')
    (g : Go p l e R s m args below meth c Y n0 G h k n (mkF m pc' Ls S)) : Go p l e R s m args below meth c Y n0 G h k n (mkF m pc Ls (.null :: S)) := stepG (fun T locs X _ _ z => XS.ifnullYes X.here C.1 rfl (pc0 := pc) rfl (hb C.2.2.1 hd) rfl ho hp z) g
theorem ifnullF (C : Cx p s m meth c Z n0 own bytes ml ret) {o : Int} {a : Addr} (hd : decode bytes pc = .ok (.ifnull o, 3)) (hp : pc + 3 = pc')
    (g : Go p l e R s m args below meth c Y n0 G h k n (mkF m pc' Ls S)) : Go p l e R s m args below meth c Y n0 G h k n (mkF m pc Ls (.ref a :: S)) := by subst hp; exact stepG (fun T locs X _ _ z => XS.ifnullNo X.here C.1 rfl (hb C.2.2.1 hd) rfl z) g
theorem ifnonnullT (C : Cx p s m meth c Z n0 own bytes ml ret) {o : Int} {a : Addr} (hd : decode bytes pc = .ok (.ifnonnull o, 3)) (ho : 0 ≤ (pc : Int) + o) (hp : ((pc : Int) + o).toNat = pc')
    (g : Go p l e R s m args below meth c Y n0 G h k n (mkF m pc' Ls S)) : Go p l e R s m args below meth c Y n0 G h k n (mkF m pc Ls (.ref a :: S)) := stepG (fun T locs X _ _ z => XS.ifnonnullYes X.here C.1 rfl (pc0 := pc) rfl (hb C.2.2.1 hd) rfl ho hp z) g
theorem ifnonnullF (C : Cx p s m meth c Z n0 own bytes ml ret) {o : Int} (hd : decode bytes pc = .ok (.ifnonnull o, 3)) (hp : pc + 3 = pc')
    (g : Go p l e R s m args below meth c Y n0 G h k n (mkF m pc' Ls S)) : Go p l e R s m args below meth c Y n0 G h k n (mkF m pc Ls (.null :: S)) := by subst hp; exact stepG (fun T locs X _ _ z => XS.ifnonnullNo X.here C.1 rfl (hb C.2.2.1 hd) rfl z) g

/-! returns -/
theorem retZ {t : FieldType} (C : Cx p s m meth c Z n0 own bytes ml (some t)) {z w : Int32} (ht : t = .boolean ∨ t = .byte ∨ t = .char ∨ t = .short) (hd : decode bytes pc = .ok (.ireturn, 1)) (hv : nar t z = w) (hk : k ≤ K) (hn : n ≤ N) (hY : ∀ s₂ o L, s₂.heap = h → FrameEnd s o s₂ L K N → Y s₂ o L) (g : G (some (.int w)) h) :
    Go p l e R s m args below meth c Y n0 G h k n (mkF m pc Ls (.int z :: S)) := fun T ⟨locs, F, X, eT⟩ => by
  subst hv eT
  have hlk : meth.locks = false := C.2.2.2.2.2.2.1
  obtain ⟨fs, hr, hrun, hended, hW, hsame⟩ := X.leave (v := some (.int (nar t z))) (fun q => by rw [C.2.2.2.2.2.1] at q; cases q) hlk
  exact ⟨_, _, retN X C.1 (t := t) C.2.2.2.2.2.1 ht (hb C.2.2.1 hd) hr, hrun, hended, _, _, rfl, ⟨g, F⟩, hY _ _ _ rfl ⟨⟨_, rfl⟩, hW, hsame.mono hk hn⟩⟩
theorem retV {t : FieldType} (C : Cx p s m meth c Z n0 own bytes ml (some t)) {w : Value} {i : Instr} (hv : narrow t w = w)
    (hi : (i = .ireturn ∧ (t = .int ∨ t = .boolean ∨ t = .byte ∨ t = .char ∨ t = .short) ∧ ∃ z, w = .int z) ∨ (i = .lreturn ∧ t = .long ∧ ∃ z, w = .long z) ∨ (i = .dreturn ∧ t = .double ∧ ∃ z, w = .double z) ∨ (i = .freturn ∧ t = .float ∧ ∃ z, w = .float z) ∨ (i = .areturn ∧ t.isReference = true ∧ w.isRef = true))
    (hd : decode bytes pc = .ok (i, 1)) (hk : k ≤ K) (hn : n ≤ N) (hY : ∀ s₂ o L, s₂.heap = h → FrameEnd s o s₂ L K N → Y s₂ o L) (g : G (some w) h) :
    Go p l e R s m args below meth c Y n0 G h k n (mkF m pc Ls (w :: S)) := fun T ⟨locs, F, X, eT⟩ => by
  subst eT
  have hlk : meth.locks = false := C.2.2.2.2.2.2.1
  obtain ⟨fs, hr, hrun, hended, hW, hsame⟩ := X.leave (v := some w) (fun q => by rw [C.2.2.2.2.2.1] at q; cases q) hlk
  exact ⟨_, _, retOut X C.1 (t := t) C.2.2.2.2.2.1 hv hi (hb C.2.2.1 hd) hr, hrun, hended, _, _, rfl, ⟨g, F⟩, hY _ _ _ rfl ⟨⟨_, rfl⟩, hW, hsame.mono hk hn⟩⟩
theorem retI (C : Cx p s m meth c Z n0 own bytes ml (some .int)) {z : Int32} (hd : decode bytes pc = .ok (.ireturn, 1)) (hk : k ≤ K) (hn : n ≤ N) (hY : ∀ s₂ o L, s₂.heap = h → FrameEnd s o s₂ L K N → Y s₂ o L) (g : G (some (.int z)) h) :
    Go p l e R s m args below meth c Y n0 G h k n (mkF m pc Ls (.int z :: S)) := retV C rfl (Or.inl ⟨rfl, Or.inl rfl, _, rfl⟩) hd hk hn hY g
theorem retL (C : Cx p s m meth c Z n0 own bytes ml (some .long)) {z : Int64} (hd : decode bytes pc = .ok (.lreturn, 1)) (hk : k ≤ K) (hn : n ≤ N) (hY : ∀ s₂ o L, s₂.heap = h → FrameEnd s o s₂ L K N → Y s₂ o L) (g : G (some (.long z)) h) :
    Go p l e R s m args below meth c Y n0 G h k n (mkF m pc Ls (.long z :: S)) := retV C rfl (Or.inr (Or.inl ⟨rfl, rfl, _, rfl⟩)) hd hk hn hY g
theorem retA {t : FieldType} (C : Cx p s m meth c Z n0 own bytes ml (some t)) {w : Value} (ht : t.isReference = true) (hw : w.isRef = true) (hn' : narrow t w = w) (hd : decode bytes pc = .ok (.areturn, 1)) (hk : k ≤ K) (hn : n ≤ N) (hY : ∀ s₂ o L, s₂.heap = h → FrameEnd s o s₂ L K N → Y s₂ o L) (g : G (some w) h) :
    Go p l e R s m args below meth c Y n0 G h k n (mkF m pc Ls (w :: S)) := retV C hn' (Or.inr (Or.inr (Or.inr (Or.inr ⟨rfl, ht, hw⟩)))) hd hk hn hY g
theorem ret0 (C : Cx p s m meth c Z n0 own bytes ml none) (hd : decode bytes pc = .ok (.return_, 1)) (hk : k ≤ K) (hn : n ≤ N) (hY : ∀ s₂ o L, s₂.heap = h → FrameEnd s o s₂ L K N → Y s₂ o L) (g : G none h) :
    Go p l e R s m args below meth c Y n0 G h k n (mkF m pc Ls []) := fun T ⟨locs, F, X, eT⟩ => by
  subst eT
  have hlk : meth.locks = false := C.2.2.2.2.2.2.1
  obtain ⟨fs, hr, hrun, hended, hW, hsame⟩ := X.leave (v := none) (fun _ => rfl) hlk
  exact ⟨_, _, X.returnOut C.1 C.2.2.2.2.2.1 (hb C.2.2.1 hd) hr, hrun, hended, _, _, rfl, ⟨g, F⟩, hY _ _ _ rfl ⟨⟨_, rfl⟩, hW, hsame.mono hk hn⟩⟩

theorem hz (C : Cx p s m meth c Z n0 own bytes ml ret) {T : State} {locs : List Loc} (X : Stand p l e R s m args below meth c T locs k n) (eT : T.heap = h) : n0 ≤ h.size := eT ▸ Nat.le_trans C.2.2.2.2.2.2.2 X.same.2.1
/-! calls -/
theorem callS (C : Cx p s m meth c Z n0 own bytes ml ret) {i : Nat} {y : MethodName} {b' : ByteArray} {mL : Nat} {r' : Option FieldType} {rm : Room} {Gc : Option Value → Heap → Prop} {argsL rest : List Value} {W : Nat}
    (w1 : (Cond.methodLink own i y).before a0 Z = true) (w2 : (Cond.static y).before a0 Z = true) (w3 : (Cond.initialized y.cls).before a0 Z = true) (w4 : (Cond.code y b' mL r').before a0 Z = true)
    (hy : y.cls ≠ "java/lang/invoke/MethodHandle" ∧ y.cls ≠ "java/lang/invoke/VarHandle") (con : n0 ≤ h.size → Con l Z y b' mL r' [] rm rm.cells rm.slots argsL.toArray h n0 Gc)
    (hd : decode bytes pc = .ok (.invokestatic i, 3)) (hp : pc + 3 = pc') (hsz : Ls.size = ml) {ps : List FieldType} {rr : Option FieldType} (hds : parseMethodDescriptor y.desc = some ⟨ps, rr⟩) (hlen : argsL.length = ps.length)
    (hS : S = argsL.reverse ++ rest) (hW : (rest.map fun v => v.category).sum = W) (hf : rm.frames + 1 ≤ R.frames) (hl : W + (mL + 11) + rm.locals ≤ R.locals) (hc : k + rm.cells ≤ R.cells) (hs : n + rm.slots ≤ R.slots) {k' n' : Nat} (hk' : k + rm.cells = k') (hn' : n + rm.slots = n')
    (g : ∀ h' v, Gc v h' → Go p l e R s m args below meth c Y n0 G h' k' n' (mkF m pc' Ls (v.toList ++ rest))) :
    Go p l e R s m args below meth c Y n0 G h k n (mkF m pc Ls S) := fun T ⟨locs, F, X, eT⟩ => by
  subst hp hS hk' hn'
  obtain ⟨v, _, ⟨T', L', k', n'⟩, -, X', ⟨Lc, ⟨hQ, hF⟩, l1, y1, z1⟩, st⟩ := Jvm.LawKit.callS X C.1 C.2.2.2.2.1 (mvT C.2.1 w1) (mvT C.2.1 w2) (mvT C.2.1 w3) (mvT C.2.1 w4) hy
    (backOf (W := W) (Q := fun v h L => Gc v h ∧ Fr n0 L) (con (hz C X eT)) C.2.1 w4 w3 hf hl) (g := mkF m pc Ls (argsL.reverse ++ rest)) rfl (hsz.trans C.2.2.2.1.symm) (argsL := argsL) (rest := rest) (lenOf hds hlen) rfl (by show 2 * 0 + _ ≤ _; rw [Nat.mul_zero, Nat.zero_add]; exact Nat.le_of_eq hW) (hb C.2.2.1 hd) (fun _ _ => ⟨rfl, eT, hc, hs⟩)
  dsimp only [Pt.U, Pt.locs, Pt.cells, Pt.slots] at X' l1 y1 z1 st hQ
  subst l1 y1 z1
  exact step (fun t q => st t q) (g T'.heap v hQ T' ⟨_, Fr.app F hF, X', rfl⟩)
theorem callSp (C : Cx p s m meth c Z n0 own bytes ml ret) {i : Nat} {y : MethodName} {b' : ByteArray} {mL : Nat} {rm : Room} {Gc : Option Value → Heap → Prop} {a : Addr} {argsL rest : List Value} {W : Nat} (hy1 : y.name = "<init>")
    (w1 : (Cond.methodLink own i y).before a0 Z = true) (w2 : (Cond.instanceMethod y).before a0 Z = true) (w3 : (Cond.initialized y.cls).before a0 Z = true) (w4 : (Cond.code y b' mL none).before a0 Z = true)
    (hy : y.cls ≠ "java/lang/invoke/MethodHandle" ∧ y.cls ≠ "java/lang/invoke/VarHandle") (con : n0 ≤ h.size → Con l Z y b' mL none [] rm rm.cells rm.slots (.ref a :: argsL).toArray h n0 Gc)
    (hd : decode bytes pc = .ok (.invokespecial i, 3)) (hp : pc + 3 = pc') (hsz : Ls.size = ml) {ps : List FieldType} {rr : Option FieldType} (hds : parseMethodDescriptor y.desc = some ⟨ps, rr⟩) (hlen : argsL.length = ps.length)
    (hS : S = argsL.reverse ++ .ref a :: rest) (hW : (rest.map fun v => v.category).sum = W) (hf : rm.frames + 1 ≤ R.frames) (hl : W + (mL + 11) + rm.locals ≤ R.locals) (hc : k + rm.cells ≤ R.cells) (hs : n + rm.slots ≤ R.slots) {k' n' : Nat} (hk' : k + rm.cells = k') (hn' : n + rm.slots = n')
    (g : ∀ h' v, Gc v h' → Go p l e R s m args below meth c Y n0 G h' k' n' (mkF m pc' Ls (v.toList ++ rest))) :
    Go p l e R s m args below meth c Y n0 G h k n (mkF m pc Ls S) := fun T ⟨locs, F, X, eT⟩ => by
  subst hp hS hk' hn'
  obtain ⟨v, _, ⟨T', L', k', n'⟩, -, X', ⟨Lc, ⟨hQ, hF⟩, l1, y1, z1⟩, st⟩ := X.specialBack C.1 hy1 C.2.2.2.2.1 (mvT C.2.1 w1) (mvT C.2.1 w2) (mvT C.2.1 w4) hy
    (backOf (W := W) (Q := fun v h L => Gc v h ∧ Fr n0 L) (con (hz C X eT)) C.2.1 w4 w3 hf hl) (g := mkF m pc Ls (argsL.reverse ++ .ref a :: rest)) rfl (hsz.trans C.2.2.2.1.symm) (Steps.refl _) (a := a) (argsL := argsL) (rest := rest) (lenOf hds hlen) rfl (by show 2 * 0 + _ ≤ _; rw [Nat.mul_zero, Nat.zero_add]; exact Nat.le_of_eq hW) (hb C.2.2.1 hd) (fun _ _ => ⟨rfl, eT, hc, hs⟩)
  dsimp only [Pt.U, Pt.locs, Pt.cells, Pt.slots] at X' l1 y1 z1 st hQ
  subst l1 y1 z1
  exact step (fun t q => st.trans q) (g T'.heap v hQ T' ⟨_, Fr.app F hF, X', rfl⟩)
theorem callV (C : Cx p s m meth c Z n0 own bytes ml ret) {i : Nat} {y z : MethodName} {b' : ByteArray} {mL : Nat} {r' : Option FieldType} {rm : Room} {Gc : Option Value → Heap → Prop} {a : Addr} {argsL rest : List Value} {W : Nat} {Cn : String}
    (w1 : (Cond.methodLink own i y).before a0 Z = true) (w2 : (Cond.declares y).before a0 Z = true) (hnf : NotFace s y) (w5 : (Cond.selects Cn y z).before a0 Z = true) (w6 : (Cond.instanceMethod z).before a0 Z = true) (w3 : (Cond.initialized z.cls).before a0 Z = true) (w4 : (Cond.code z b' mL r').before a0 Z = true)
    (hy : y.cls ≠ "java/lang/invoke/MethodHandle" ∧ y.cls ≠ "java/lang/invoke/VarHandle") (E : Exa Z h a Cn) (con : n0 ≤ h.size → Con l Z z b' mL r' [] rm rm.cells rm.slots (.ref a :: argsL).toArray h n0 Gc)
    (hd : decode bytes pc = .ok (.invokevirtual i, 3)) (hp : pc + 3 = pc') (hsz : Ls.size = ml) {ps : List FieldType} {rr : Option FieldType} (hds : parseMethodDescriptor y.desc = some ⟨ps, rr⟩) (hlen : argsL.length = ps.length)
    (hS : S = argsL.reverse ++ .ref a :: rest) (hW : (rest.map fun v => v.category).sum = W) (hf : rm.frames + 1 ≤ R.frames) (hl : W + (mL + 11) + rm.locals ≤ R.locals) (hc : k + rm.cells ≤ R.cells) (hs : n + rm.slots ≤ R.slots) {k' n' : Nat} (hk' : k + rm.cells = k') (hn' : n + rm.slots = n')
    (g : ∀ h' v, Gc v h' → Go p l e R s m args below meth c Y n0 G h' k' n' (mkF m pc' Ls (v.toList ++ rest))) :
    Go p l e R s m args below meth c Y n0 G h k n (mkF m pc Ls S) := fun T ⟨locs, F, X, eT⟩ => by
  subst hp hS hk' hn'
  obtain ⟨cq, kq, qa, qb, qc⟩ := isOf C.2.1 eT E
  obtain ⟨v, _, ⟨T', L', k', n'⟩, -, X', ⟨Lc, ⟨hQ, hF⟩, l1, y1, z1⟩, st⟩ := X.virtualBack C.1 C.2.2.2.2.1 (mvT C.2.1 w1) (mvT C.2.1 w2) hnf (mvT C.2.1 w5) (mvT C.2.1 w6) hy
    (backOf (W := W) (Q := fun v h L => Gc v h ∧ Fr n0 L) (con (hz C X eT)) C.2.1 w4 w3 hf hl) qa qc (g := mkF m pc Ls (argsL.reverse ++ .ref a :: rest)) rfl (hsz.trans C.2.2.2.1.symm) (Steps.refl _) (argsL := argsL) (rest := rest) (lenOf hds hlen) rfl (by show 2 * 0 + _ ≤ _; rw [Nat.mul_zero, Nat.zero_add]; exact Nat.le_of_eq hW) (hb C.2.2.1 hd) (fun _ _ => ⟨rfl, eT, hc, hs⟩)
  dsimp only [Pt.U, Pt.locs, Pt.cells, Pt.slots] at X' l1 y1 z1 st hQ
  subst l1 y1 z1
  exact step (fun t q => st.trans q) (g T'.heap v hQ T' ⟨_, Fr.app F hF, X', rfl⟩)
theorem callI (C : Cx p s m meth c Z n0 own bytes ml ret) {i cnt : Nat} {y z : MethodName} {b' : ByteArray} {mL : Nat} {r' : Option FieldType} {rm : Room} {Gc : Option Value → Heap → Prop} {a : Addr} {argsL rest : List Value} {W : Nat} {Cn : String}
    (w1 : (Cond.methodLink own i y).before a0 Z = true) (w2 : (Cond.declares y).before a0 Z = true) (w7 : (Cond.interfaceMethod y.cls y.cls y.name y.desc).before a0 Z = true) (w5 : (Cond.selects Cn y z).before a0 Z = true) (w6 : (Cond.instanceMethod z).before a0 Z = true) (w8 : (Cond.publicMethod z).before a0 Z = true) (w9 : (Cond.unhidden Cn y.name y.desc).before a0 Z = true) (w10 : (Cond.castable Cn y.cls).before a0 Z = true)
    (w3 : (Cond.initialized z.cls).before a0 Z = true) (w4 : (Cond.code z b' mL r').before a0 Z = true)
    (hy : y.cls ≠ "java/lang/invoke/MethodHandle" ∧ y.cls ≠ "java/lang/invoke/VarHandle") (E : Exa Z h a Cn) (con : n0 ≤ h.size → Con l Z z b' mL r' [] rm rm.cells rm.slots (.ref a :: argsL).toArray h n0 Gc)
    (hd : decode bytes pc = .ok (.invokeinterface i cnt, 5)) (hp : pc + 5 = pc') (hsz : Ls.size = ml) {ps : List FieldType} {rr : Option FieldType} (hds : parseMethodDescriptor y.desc = some ⟨ps, rr⟩) (hlen : argsL.length = ps.length)
    (hS : S = argsL.reverse ++ .ref a :: rest) (hW : (rest.map fun v => v.category).sum = W) (hf : rm.frames + 1 ≤ R.frames) (hl : W + (mL + 11) + rm.locals ≤ R.locals) (hc : k + rm.cells ≤ R.cells) (hs : n + rm.slots ≤ R.slots) {k' n' : Nat} (hk' : k + rm.cells = k') (hn' : n + rm.slots = n')
    (g : ∀ h' v, Gc v h' → Go p l e R s m args below meth c Y n0 G h' k' n' (mkF m pc' Ls (v.toList ++ rest))) :
    Go p l e R s m args below meth c Y n0 G h k n (mkF m pc Ls S) := fun T ⟨locs, F, X, eT⟩ => by
  subst hp hS hk' hn'
  obtain ⟨cq, kq, qa, qb, qc⟩ := isOf C.2.1 eT E
  obtain ⟨v, _, ⟨T', L', k', n'⟩, -, X', ⟨Lc, ⟨hQ, hF⟩, l1, y1, z1⟩, st⟩ := X.interfaceBack C.1 C.2.2.2.2.1 (mvT C.2.1 w1) (mvT C.2.1 w2) (mvT C.2.1 w7 (by simp [Cond.onTables, Cond.keepsFace, Cond.keeps, Cond.steady, Cond.faceAtom, hy.1, hy.2])) (mvT C.2.1 w5) (mvT C.2.1 w6) (mvT C.2.1 w8) (mvT C.2.1 w9) (mvT C.2.1 w10) hy
    (backOf (W := W) (Q := fun v h L => Gc v h ∧ Fr n0 L) (con (hz C X eT)) C.2.1 w4 w3 hf hl) qa qb qc (g := mkF m pc Ls (argsL.reverse ++ .ref a :: rest)) rfl (hsz.trans C.2.2.2.1.symm) (Steps.refl _) (argsL := argsL) (rest := rest) (lenOf hds hlen) rfl (by show 2 * 0 + _ ≤ _; rw [Nat.mul_zero, Nat.zero_add]; exact Nat.le_of_eq hW) (hb C.2.2.1 hd) (fun _ _ => ⟨rfl, eT, hc, hs⟩)
  dsimp only [Pt.U, Pt.locs, Pt.cells, Pt.slots] at X' l1 y1 z1 st hQ
  subst l1 y1 z1
  exact step (fun t q => st.trans q) (g T'.heap v hQ T' ⟨_, Fr.app F hF, X', rfl⟩)
/-- a private method by invokevirtual: no 'selects' word is wanted; the class is instantiable -/
theorem callP (C : Cx p s m meth c Z n0 own bytes ml ret) {i q : Nat} {y : MethodName} {b' : ByteArray} {mL : Nat} {r' : Option FieldType} {rm : Room} {Gc : Option Value → Heap → Prop} {a : Addr} {argsL rest : List Value} {W : Nat} {Cn : String}
    (w1 : (Cond.methodLink own i y).before a0 Z = true) (w6 : (Cond.instanceMethod y).before a0 Z = true) (w7 : (Cond.privateMethod y).before a0 Z = true) (w8 : (Cond.instantiable y.cls q).before a0 Z = true) (w3 : (Cond.initialized y.cls).before a0 Z = true) (w4 : (Cond.code y b' mL r').before a0 Z = true)
    (hy : y.cls ≠ "java/lang/invoke/MethodHandle" ∧ y.cls ≠ "java/lang/invoke/VarHandle") (E : Exa Z h a Cn) (con : n0 ≤ h.size → Con l Z y b' mL r' [] rm rm.cells rm.slots (.ref a :: argsL).toArray h n0 Gc)
    (hd : decode bytes pc = .ok (.invokevirtual i, 3)) (hp : pc + 3 = pc') (hsz : Ls.size = ml) {ps : List FieldType} {rr : Option FieldType} (hds : parseMethodDescriptor y.desc = some ⟨ps, rr⟩) (hlen : argsL.length = ps.length)
    (hS : S = argsL.reverse ++ .ref a :: rest) (hW : (rest.map fun v => v.category).sum = W) (hf : rm.frames + 1 ≤ R.frames) (hl : W + (mL + 11) + rm.locals ≤ R.locals) (hc : k + rm.cells ≤ R.cells) (hs : n + rm.slots ≤ R.slots) {k' n' : Nat} (hk' : k + rm.cells = k') (hn' : n + rm.slots = n')
    (g : ∀ h' v, Gc v h' → Go p l e R s m args below meth c Y n0 G h' k' n' (mkF m pc' Ls (v.toList ++ rest))) :
    Go p l e R s m args below meth c Y n0 G h k n (mkF m pc Ls S) := fun T ⟨locs, F, X, eT⟩ => by
  subst hp hS hk' hn'
  obtain ⟨cell, hc1, hc2⟩ := E.cell
  obtain ⟨mk, methM, hnamed, hmethM, hstM, habM⟩ := Cond.instanceMethod_spec (mvT (args := args) C.2.1 w6)
  obtain ⟨methM', cM, hmethM', -, -, -, -, -, -, hsigM⟩ := Cond.code_spec hnamed (mvT (args := args) C.2.1 w4)
  cases hmethM.symm.trans hmethM'
  obtain ⟨cid, kP, z1, z2, z3, z4, -⟩ := Cond.instantiable_spec (mvT (args := args) C.2.1 w8)
  have z5 : cid = mk.cls := Option.some.inj (z1.symm.trans (findClass_of_methodNamed hnamed))
  subst z5
  have z6 : kP.isInterface = false := by simp only [Bool.or_eq_false_iff] at z4; exact z4.1
  obtain ⟨vm₁, X₁, hstep₁⟩ := X.invokevirtual C.1 C.2.2.2.2.1 (mvT C.2.1 w1) hnamed hmethM hstM z2 z6 hy (a := a) (cell := cell) (by rw [eT]; exact hc1) hc2 (selectMethod_private hmethM (Cond.privateMethod_at (mvP C.2.1 w7 (args := #[])) mk methM hnamed hmethM)) hmethM habM z2 z6 (g := mkF m pc Ls (argsL.reverse ++ .ref a :: rest)) rfl (argsL := argsL) (rest := rest) (lenOf hds hlen _ hsigM) rfl (hb C.2.2.1 hd)
  obtain ⟨v, ⟨T', L', k', n'⟩, X', ⟨Lc, ⟨hQ, hF⟩, l1, y1, z1⟩, hsteps⟩ := (backOf (W := W) (len := 3) (Q := fun v h L => Gc v h ∧ Fr n0 L) (con (hz C X eT)) C.2.1 w4 w3 hf hl) m meth c ⟨T.setVm vm₁, locs, k, n⟩ (mkF m pc Ls rest) (.invokevirtual i) mk (.ref a :: argsL).toArray X₁ rfl (hsz.trans C.2.2.2.1.symm) (hb C.2.2.1 hd) (by show 2 * 0 + _ ≤ _; rw [Nat.mul_zero, Nat.zero_add]; exact Nat.le_of_eq hW) (X₁.named hnamed) ⟨rfl, eT, hc, hs⟩
  dsimp only [Pt.U, Pt.locs, Pt.cells, Pt.slots] at X' l1 y1 z1 hsteps hQ
  subst l1 y1 z1
  exact step (fun t q => (hstep₁ _ fun acts => by rw [doInvoke_state]; exact hsteps).trans q) (g T'.heap v hQ T' ⟨_, Fr.app F hF, X', rfl⟩)
theorem arraycopy (C : Cx p s m meth c Z n0 own bytes ml ret) {i : Nat} {a b : Addr} {ka kb : ClassId} {ty : FieldType} {za zb sp dp nn : Int32} {vs vd : List Value} {dv dd : Value} {W : Nat}
    (w1 : (Cond.methodLink own i Jvm.Stand.acN).before a0 Z = true) (w2 : (Cond.native Jvm.Stand.acN).before a0 Z = true) (w3 : (Cond.static Jvm.Stand.acN).before a0 Z = true) (w4 : (Cond.initialized "java/lang/System").before a0 Z = true)
    (A : Arv Z h a ka ty za vs dv) (B : Arv Z h b kb ty zb vd dd) (hty : refKind ty = false) (h1 : 0 ≤ sp.toInt) (h2 : 0 ≤ dp.toInt) (h3 : 0 ≤ nn.toInt) (h4 : sp.toInt + nn.toInt ≤ za.toInt) (h5 : dp.toInt + nn.toInt ≤ zb.toInt) (hl : dp.toInt.toNat + nn.toInt.toNat ≤ vd.length) (ge : n0 ≤ b)
    (hd : decode bytes pc = .ok (.invokestatic i, 3)) (hp : pc + 3 = pc') (hsz : Ls.size = ml) (hf : 1 ≤ R.frames) (hW : (S.map fun v => v.category).sum = W) (hlo : W + 18 ≤ R.locals)
    (g : ∀ h', Keep h h' [b] → Arv Z h' b kb ty zb (vd.take dp.toInt.toNat ++ (List.range nn.toInt.toNat).map (fun j => vs.getD (sp.toInt.toNat + j) dv) ++ vd.drop (dp.toInt.toNat + nn.toInt.toNat)) dd → Go p l e R s m args below meth c Y n0 G h' k n (mkF m pc' Ls S)) :
    Go p l e R s m args below meth c Y n0 G h k n (mkF m pc Ls (.int nn :: .int dp :: .ref b :: .int sp :: .ref a :: S)) := fun T ⟨locs, F, X, eT⟩ => by
  subst hp
  have nn0 : ∀ {x : Int32}, 0 ≤ x.toInt → ¬ x < 0 := fun {x} q w => by have := Int32.lt_iff_toInt_lt.mp w; simp only [Int32.reduceToInt] at this; omega
  obtain ⟨T', h', L', X', e', F', K', V', st⟩ := cpA X C.1 C.2.1 C.2.2.2.2.1 w1 w2 w3 w4 eT A B (Or.inl ⟨rfl, hty⟩) (nn0 h1) (nn0 h2) (nn0 h3) (by show sp.toInt.toNat + nn.toInt.toNat ≤ za.toInt.toNat; omega) (by show dp.toInt.toNat + nn.toInt.toNat ≤ zb.toInt.toNat; omega) rfl hl F ge
    (g := mkF m pc Ls (.int nn :: .int dp :: .ref b :: .int sp :: .ref a :: S)) rfl (hsz.trans C.2.2.2.1.symm) rfl (hb C.2.2.1 hd) hf (W := W) (by show 2 * 0 + _ ≤ _; rw [Nat.mul_zero, Nat.zero_add]; exact Nat.le_of_eq hW) (by show W + (7 + 11) ≤ _; exact hlo)
  exact step st (g h' K' V' T' ⟨_, F', X', e'⟩)
theorem nf_sel (C : Cx p s m meth c Z n0 own bytes ml ret) {Cn : String} {y : MethodName} (w : (Cond.selects Cn y y).before a0 Z = true) : NotFace s y := notFace_of_selects (args := #[]) (mvT C.2.1 w)
theorem initObj (C : Cx p s m meth c Z n0 own bytes ml ret) {i : Nat} {a : Addr} {W : Nat} (w1 : (Cond.methodLink own i Lib.objectInit).before a0 Z = true) (w2 : (Cond.instanceMethod Lib.objectInit).before a0 Z = true) (w3 : (Cond.code Lib.objectInit ⟨#[0xb1]⟩ 1 none).before a0 Z = true)
    (hd : decode bytes pc = .ok (.invokespecial i, 3)) (hp : pc + 3 = pc') (hsz : Ls.size = ml) (hf : 1 ≤ R.frames) (hW : (S.map fun v => v.category).sum = W) (hl : W + 12 ≤ R.locals)
    (g : Go p l e R s m args below meth c Y n0 G h k n (mkF m pc' Ls S)) : Go p l e R s m args below meth c Y n0 G h k n (mkF m pc Ls (.ref a :: S)) := fun T ⟨locs, F, X, eT⟩ => by
  subst hp
  obtain ⟨T', X', e', st⟩ := initO X C.1 C.2.1 C.2.2.2.2.1 w1 w2 w3 eT (g := mkF m pc Ls (.ref a :: S)) rfl (hsz.trans C.2.2.2.1.symm) rfl (hb C.2.2.1 hd) hf (W := W) (by show 2 * 0 + _ ≤ _; rw [Nat.mul_zero, Nat.zero_add]; exact Nat.le_of_eq hW) hl
  exact step st (g T' ⟨_, F, X', e'⟩)

/-! fields and objects -/
theorem getfield (C : Cx p s m meth c Z n0 own bytes ml ret) {i : Nat} {R0 O f d : String} {a : Addr} {v : Value} (w : (Cond.fieldLink own i R0 f d).before a0 Z = true) (via : Via Z R0 O f d) (F : Fld Z h a O f d v) (hd : decode bytes pc = .ok (.getfield i, 3)) (hp : pc + 3 = pc')
    (g : Go p l e R s m args below meth c Y n0 G h k n (mkF m pc' Ls (v :: S))) : Go p l e R s m args below meth c Y n0 G h k n (mkF m pc Ls (.ref a :: S)) := fun T ⟨locs, Fz, X, eT⟩ => by
  subst hp
  obtain ⟨T', X', e', st⟩ := getF X C.1 C.2.1 C.2.2.2.2.1 (host := "") (Or.inl w) via eT F (g := mkF m pc Ls (.ref a :: S)) rfl rfl (hb C.2.2.1 hd)
  exact step st (g T' ⟨_, Fz, X', e'⟩)
theorem getstatic (C : Cx p s m meth c Z n0 own bytes ml ret) {i : Nat} {R0 O f d : String} {v : Value} (w : (Cond.fieldLink own i R0 f d).before a0 Z = true) (via : Via Z R0 O f d) (F : Sta Z h O f d v) (hd : decode bytes pc = .ok (.getstatic i, 3)) (hp : pc + 3 = pc')
    (g : Go p l e R s m args below meth c Y n0 G h k n (mkF m pc' Ls (v :: S))) : Go p l e R s m args below meth c Y n0 G h k n (mkF m pc Ls S) := fun T ⟨locs, Fz, X, eT⟩ => by
  subst hp
  obtain ⟨T', X', e', st⟩ := getS2 X C.1 C.2.1 C.2.2.2.2.1 (host := "") (Or.inl w) via eT F (g := mkF m pc Ls S) rfl (hb C.2.2.1 hd)
  exact step st (g T' ⟨_, Fz, X', e'⟩)
theorem putfield (C : Cx p s m meth c Z n0 own bytes ml ret) {i kk : Nat} {R0 O f d Cn : String} {ty : FieldType} {a : Addr} {v old : Value} (w : (Cond.fieldLink own i R0 f d).before a0 Z = true) (via : Via Z R0 O f d) (F : Fld Z h a O f d old) (E : Exa Z h a Cn)
    (L : (Cond.lays Cn O f d).before a0 Z = true ∨ ((Cond.laysFinal Cn O f d).before a0 Z = true ∧ own = O ∧ meth.name = "<init>")) (wi : (Cond.instantiable Cn kk).before a0 Z = true) (hty : parseFieldDescriptor d = some ty) (hnr : narrow ty v = v) (hft : fits ty v = true) (hd : decode bytes pc = .ok (.putfield i, 3)) (hp : pc + 3 = pc') (ha : n0 ≤ a)
    (g : ∀ h', Wr h h' a (Jvm.RoadKit.slotOf Z O f d) v → Go p l e R s m args below meth c Y n0 G h' k n (mkF m pc' Ls S)) : Go p l e R s m args below meth c Y n0 G h k n (mkF m pc Ls (v :: .ref a :: S)) := fun T ⟨locs, Fz, X, eT⟩ => by
  subst hp
  obtain ⟨T', h', X', e', W, st⟩ := putF X C.1 C.2.1 C.2.2.2.2.1 (host := "") (Or.inl w) via eT F E L wi hty hnr hft (g := mkF m pc Ls (v :: .ref a :: S)) rfl rfl (hb C.2.2.1 hd)
  exact step st (g h' W T' ⟨_, Fr.snoc X' Fz ha, X', e'⟩)
theorem new (C : Cx p s m meth c Z n0 own bytes ml ret) {i sz : Nat} {Cn : String} (w : (Cond.classLink own i Cn).before a0 Z = true) (wi : (Cond.instantiable Cn sz).before a0 Z = true) (wz : (Cond.initialized Cn).before a0 Z = true) (hd : decode bytes pc = .ok (.new i, 3)) (hp : pc + 3 = pc') (hc : k + 1 ≤ R.cells) (hs : n + sz ≤ R.slots) {k' n' : Nat} (hk' : k + 1 = k') (hn' : n + sz = n')
    (g : ∀ h' a, a = h.size → n0 ≤ a → Ext h h' → Exa Z h' a Cn → (∀ {O nm d : String} {ty : FieldType}, Laid Z a0 Cn O nm d → parseFieldDescriptor d = some ty → Fld Z h' a O nm d (defaultValue ty)) → Go p l e R s m args below meth c Y n0 G h' k' n' (mkF m pc' Ls (.ref a :: S))) :
    Go p l e R s m args below meth c Y n0 G h k n (mkF m pc Ls S) := fun T ⟨locs, Fz, X, eT⟩ => by
  subst hp hk' hn'
  obtain ⟨T', h', X', e', E, A, D, -, st⟩ := newO X C.1 C.2.1 C.2.2.2.2.1 w wi wz eT (g := mkF m pc Ls S) rfl (hb C.2.2.1 hd) hc hs
  exact step st (g h' _ rfl (hz C X eT) E A D T' ⟨_, Fz, X', e'⟩)
/-! arrays -/
theorem newarray (C : Cx p s m meth c Z n0 own bytes ml ret) {aty : ArrayType} {x : Int32} {cap : Nat} (w : (Cond.arrayClass (newarray.typeOf aty)).before a0 Z = true) (hd : decode bytes pc = .ok (.newarray aty, 2)) (hp : pc + 2 = pc') (hx : ¬ x < 0) (hcap : x.toNatClampNeg ≤ cap) (hbig : cap * 8 ≤ 536870912) (hc : k + 1 ≤ R.cells) (hs : n + cap ≤ R.slots) {k' n' : Nat} (hk' : k + 1 = k') (hn' : n + cap = n')
    (g : ∀ h' a kc, a = h.size → n0 ≤ a → Ext h h' → Arv Z h' a kc (newarray.typeOf aty) x [] (defaultValue (newarray.typeOf aty)) → Go p l e R s m args below meth c Y n0 G h' k' n' (mkF m pc' Ls (.ref a :: S))) :
    Go p l e R s m args below meth c Y n0 G h k n (mkF m pc Ls (.int x :: S)) := fun T ⟨locs, Fz, X, eT⟩ => by
  subst hp hk' hn'
  obtain ⟨T', h', kc, X', e', E, A, st⟩ := newP X C.1 C.2.1 w eT (g := mkF m pc Ls (.int x :: S)) rfl (hb C.2.2.1 hd) rfl hx hcap hbig hc hs
  exact step st (g h' _ kc rfl (hz C X eT) E (Arv.new A hx) T' ⟨_, Fz, X', e'⟩)
theorem arraylength (C : Cx p s m meth c Z n0 own bytes ml ret) {a : Addr} {kc : ClassId} {ty : FieldType} {z : Int32} {vs : List Value} {dv : Value} (A : Arv Z h a kc ty z vs dv) (hd : decode bytes pc = .ok (.arraylength, 1)) (hp : pc + 1 = pc')
    (g : Go p l e R s m args below meth c Y n0 G h k n (mkF m pc' Ls (.int z :: S))) : Go p l e R s m args below meth c Y n0 G h k n (mkF m pc Ls (.ref a :: S)) := by
  subst hp
  obtain ⟨cl, Ar, -, Sz, Nz, -, -⟩ := A
  refine stepG (fun T locs X eT t q => X.arraylength C.1 (by rw [eT]; exact Ar.1) (State.isArrayOf_alike C.2.1.alike Ar.2.1) (g := mkF m pc Ls (.ref a :: S)) rfl rfl (hb C.2.2.1 hd) t ?_) g
  rw [len_of Sz Nz]; exact q
theorem arv_at {a : Addr} {kc : ClassId} {ty : FieldType} {z : Int32} {vs : List Value} {dv : Value} (A : Arv Z h a kc ty z vs dv) {j : Int32} (h0 : 0 ≤ j.toInt) (h1 : j.toInt < z.toInt) {v : Value} (hv : vs.getD j.toInt.toNat dv = v) :
    ∃ cl, Arr Z h a cl ty ∧ ¬ (j < 0 ∨ cl.slots.size ≤ j.toNatClampNeg) ∧ cl.slots[j.toNatClampNeg]? = some v := by
  obtain ⟨cl, Ar, -, Sz, Nz, H, -⟩ := A
  have hj : ¬ j < 0 := fun q => by have := Int32.lt_iff_toInt_lt.mp q; simp at this; omega
  have hin := inb_of Sz (j := j) ⟨hj, Int32.lt_iff_toInt_lt.mpr h1⟩
  exact ⟨cl, Ar, hin, H.at hin hv⟩
theorem iaload (C : Cx p s m meth c Z n0 own bytes ml ret) {a : Addr} {kc : ClassId} {z j : Int32} {vs : List Value} {dv v : Value} (A : Arv Z h a kc .int z vs dv) (h0 : 0 ≤ j.toInt) (h1 : j.toInt < z.toInt) (hv : vs.getD j.toInt.toNat dv = v) (hd : decode bytes pc = .ok (.iaload, 1)) (hp : pc + 1 = pc')
    (g : Go p l e R s m args below meth c Y n0 G h k n (mkF m pc' Ls (v :: S))) : Go p l e R s m args below meth c Y n0 G h k n (mkF m pc Ls (.int j :: .ref a :: S)) := by
  subst hp
  obtain ⟨cl, Ar, hin, hat⟩ := arv_at A h0 h1 hv
  exact stepG (fun T locs X eT t q => X.iaload C.1 (by rw [eT]; exact Ar.1) (State.isArrayOf_alike C.2.1.alike Ar.2.1) Ar.2.2 hin hat (g := mkF m pc Ls (.int j :: .ref a :: S)) rfl rfl (hb C.2.2.1 hd) t q) g
theorem laload (C : Cx p s m meth c Z n0 own bytes ml ret) {a : Addr} {kc : ClassId} {z j : Int32} {vs : List Value} {dv v : Value} (A : Arv Z h a kc .long z vs dv) (h0 : 0 ≤ j.toInt) (h1 : j.toInt < z.toInt) (hv : vs.getD j.toInt.toNat dv = v) (hd : decode bytes pc = .ok (.laload, 1)) (hp : pc + 1 = pc')
    (g : Go p l e R s m args below meth c Y n0 G h k n (mkF m pc' Ls (v :: S))) : Go p l e R s m args below meth c Y n0 G h k n (mkF m pc Ls (.int j :: .ref a :: S)) := by
  subst hp
  obtain ⟨cl, Ar, hin, hat⟩ := arv_at A h0 h1 hv
  exact stepG (fun T locs X eT t q => X.laload C.1 (by rw [eT]; exact Ar.1) (State.isArrayOf_alike C.2.1.alike Ar.2.1) Ar.2.2 hin hat (g := mkF m pc Ls (.int j :: .ref a :: S)) rfl rfl (hb C.2.2.1 hd) t q) g
theorem caload (C : Cx p s m meth c Z n0 own bytes ml ret) {a : Addr} {kc : ClassId} {z j : Int32} {vs : List Value} {dv v : Value} (A : Arv Z h a kc .char z vs dv) (h0 : 0 ≤ j.toInt) (h1 : j.toInt < z.toInt) (hv : vs.getD j.toInt.toNat dv = v) (hd : decode bytes pc = .ok (.caload, 1)) (hp : pc + 1 = pc')
    (g : Go p l e R s m args below meth c Y n0 G h k n (mkF m pc' Ls (v :: S))) : Go p l e R s m args below meth c Y n0 G h k n (mkF m pc Ls (.int j :: .ref a :: S)) := by
  subst hp
  obtain ⟨cl, Ar, hin, hat⟩ := arv_at A h0 h1 hv
  exact stepG (fun T locs X eT t q => X.caload C.1 (by rw [eT]; exact Ar.1) (State.isArrayOf_alike C.2.1.alike Ar.2.1) Ar.2.2 hin hat (g := mkF m pc Ls (.int j :: .ref a :: S)) rfl rfl (hb C.2.2.1 hd) t q) g
theorem baload (C : Cx p s m meth c Z n0 own bytes ml ret) {a : Addr} {kc : ClassId} {z j : Int32} {vs : List Value} {dv v : Value} (A : Arv Z h a kc .byte z vs dv) (h0 : 0 ≤ j.toInt) (h1 : j.toInt < z.toInt) (hv : vs.getD j.toInt.toNat dv = v) (hd : decode bytes pc = .ok (.baload, 1)) (hp : pc + 1 = pc')
    (g : Go p l e R s m args below meth c Y n0 G h k n (mkF m pc' Ls (v :: S))) : Go p l e R s m args below meth c Y n0 G h k n (mkF m pc Ls (.int j :: .ref a :: S)) := by
  subst hp
  obtain ⟨cl, Ar, hin, hat⟩ := arv_at A h0 h1 hv
  exact stepG (fun T locs X eT t q => X.baloadBytes C.1 (by rw [eT]; exact Ar.1) (State.isArrayOf_alike C.2.1.alike Ar.2.1) Ar.2.2 hin hat (g := mkF m pc Ls (.int j :: .ref a :: S)) rfl rfl (hb C.2.2.1 hd) t q) g
theorem aaload (C : Cx p s m meth c Z n0 own bytes ml ret) {a : Addr} {cl : Cell} {ty : FieldType} {j : Int32} {v : Value} (A : Arr Z h a cl ty) (hty : ty.isReference = true) (hin : ¬ (j < 0 ∨ cl.slots.size ≤ j.toNatClampNeg)) (hat : cl.slots[j.toNatClampNeg]? = some v) (hd : decode bytes pc = .ok (.aaload, 1)) (hp : pc + 1 = pc')
    (g : Go p l e R s m args below meth c Y n0 G h k n (mkF m pc' Ls (v :: S))) : Go p l e R s m args below meth c Y n0 G h k n (mkF m pc Ls (.int j :: .ref a :: S)) := by
  subst hp
  exact stepG (fun T locs X eT t q => X.aaload C.1 (by rw [eT]; exact A.1) (State.isArrayOf_alike C.2.1.alike A.2.1) hty A.2.2 hin hat (g := mkF m pc Ls (.int j :: .ref a :: S)) rfl rfl (hb C.2.2.1 hd) t q) g
theorem instT (C : Cx p s m meth c Z n0 own bytes ml ret) {i : Nat} {Kn : String} {a : Addr} (w : (Cond.classLink own i Kn).before a0 Z = true) (I : Ins Z h a Kn true) (hd : decode bytes pc = .ok (.instanceof i, 3)) (hp : pc + 3 = pc')
    (g : Go p l e R s m args below meth c Y n0 G h k n (mkF m pc' Ls (.int 1 :: S))) : Go p l e R s m args below meth c Y n0 G h k n (mkF m pc Ls (.ref a :: S)) := fun T ⟨locs, Fz, X, eT⟩ => by
  subst hp
  obtain ⟨T', X', e', st⟩ := instY X C.1 C.2.1 C.2.2.2.2.1 w eT I (g := mkF m pc Ls (.ref a :: S)) rfl rfl (hb C.2.2.1 hd)
  exact step st (g T' ⟨_, Fz, X', e'⟩)
theorem instF (C : Cx p s m meth c Z n0 own bytes ml ret) {i : Nat} {Kn Cn : String} {a : Addr} (w : (Cond.classLink own i Kn).before a0 Z = true) (E : Exa Z h a Cn) (I : ∃ c t, Z.vm.findClass Cn = some c ∧ Z.vm.findClass Kn = some t ∧ Z.vm.assignable c t = false) (hd : decode bytes pc = .ok (.instanceof i, 3)) (hp : pc + 3 = pc')
    (g : Go p l e R s m args below meth c Y n0 G h k n (mkF m pc' Ls (.int 0 :: S))) : Go p l e R s m args below meth c Y n0 G h k n (mkF m pc Ls (.ref a :: S)) := fun T ⟨locs, Fz, X, eT⟩ => by
  subst hp
  obtain ⟨T', X', e', st⟩ := instNo X C.1 C.2.1 C.2.2.2.2.1 w eT E I (g := mkF m pc Ls (.ref a :: S)) rfl rfl (hb C.2.2.1 hd)
  exact step st (g T' ⟨_, Fz, X', e'⟩)
theorem instN (C : Cx p s m meth c Z n0 own bytes ml ret) {i : Nat} (hd : decode bytes pc = .ok (.instanceof i, 3)) (hp : pc + 3 = pc')
    (g : Go p l e R s m args below meth c Y n0 G h k n (mkF m pc' Ls (.int 0 :: S))) : Go p l e R s m args below meth c Y n0 G h k n (mkF m pc Ls (.null :: S)) := by
  subst hp; exact stepG (fun T locs X eT t q => X.instanceofNull C.1 (g := mkF m pc Ls (.null :: S)) rfl rfl (hb C.2.2.1 hd) t q) g
theorem castT (C : Cx p s m meth c Z n0 own bytes ml ret) {i : Nat} {Kn : String} {a : Addr} (w : (Cond.classLink own i Kn).before a0 Z = true) (I : Ins Z h a Kn true) (hd : decode bytes pc = .ok (.checkcast i, 3)) (hp : pc + 3 = pc')
    (g : Go p l e R s m args below meth c Y n0 G h k n (mkF m pc' Ls (.ref a :: S))) : Go p l e R s m args below meth c Y n0 G h k n (mkF m pc Ls (.ref a :: S)) := fun T ⟨locs, Fz, X, eT⟩ => by
  subst hp
  obtain ⟨T', X', e', st⟩ := castY X C.1 C.2.1 C.2.2.2.2.1 w eT I (g := mkF m pc Ls (.ref a :: S)) rfl rfl (hb C.2.2.1 hd)
  exact step st (g T' ⟨_, Fz, X', e'⟩)
theorem ns_root {O Kn : String} {q : Nat} (w : (Cond.noSuperclass O).before a0 Z = true) (wk : (Cond.instantiable Kn q).before a0 Z = true) (hn : O ≠ Kn) : NS Z O Kn := by
  obtain ⟨c, k, h1, h2, h3, -, -⟩ := Cond.noSuperclass_spec w
  obtain ⟨t, kt, g1, -⟩ := Cond.instantiable_spec wk
  have ne := ids_ne h1 g1 hn
  refine ⟨c, t, h1, g1, fun fuel => ?_⟩
  cases fuel with
  | zero => rfl
  | succ f => simp [Vm.isSubclassAux, ne, h2, h3]
theorem ns_no {Cn Sn Kn : String} {q : Nat} (w : (Cond.superclass Cn Sn).before a0 Z = true) (wk : (Cond.instantiable Kn q).before a0 Z = true) (n : NS Z Cn Kn) (hn : Cn ≠ Kn) : ∃ c t, Z.vm.findClass Cn = some c ∧ Z.vm.findClass Kn = some t ∧ Z.vm.assignable c t = false := by
  obtain ⟨c, t, h0, g0, n3⟩ := n
  obtain ⟨p, k, kp, h1, h2, h3, h4, h5, -, h7⟩ := Cond.superclass_spec h0 w
  obtain ⟨t', k', g1, g2, g5, g7, -⟩ := Cond.instantiable_spec wk
  cases g0.symm.trans g1
  have ne := ids_ne h0 g0 hn
  have g8 : k'.isInterface = false := by simp only [Bool.or_eq_false_iff] at g7; exact g7.1
  refine ⟨c, t, h0, g0, ?_⟩
  show Z.vm.assignableAux (255 + 1) c t = false
  simp [Vm.assignableAux, ne, h2, g2, h5, g5, g8, Vm.isSubclass, n3]
theorem iastore (C : Cx p s m meth c Z n0 own bytes ml ret) {a : Addr} {kc : ClassId} {z j : Int32} {x : Int32} {vs : List Value} {dv : Value} (A : Arv Z h a kc .int z vs dv) (h0 : 0 ≤ j.toInt) (h1 : j.toInt < z.toInt) (hlen : j.toInt.toNat < vs.length) (ha : n0 ≤ a) (hd : decode bytes pc = .ok (.iastore, 1)) (hp : pc + 1 = pc')
    (g : ∀ h', Wr h h' a j.toNatClampNeg (.int x) → Arv Z h' a kc .int z (vs.set j.toInt.toNat (.int x)) dv → Go p l e R s m args below meth c Y n0 G h' k n (mkF m pc' Ls S)) : Go p l e R s m args below meth c Y n0 G h k n (mkF m pc Ls (.int x :: .int j :: .ref a :: S)) := fun T ⟨locs, Fz, X, eT⟩ => by
  subst hp
  obtain ⟨cl, Ar, q1, Sz, Nz, H, Gf⟩ := A
  have hj : ¬ j < 0 := fun q => by have := Int32.lt_iff_toInt_lt.mp q; simp at this; omega
  have hin := inb_of Sz (j := j) ⟨hj, Int32.lt_iff_toInt_lt.mpr h1⟩
  obtain ⟨T', h', X', e', W, st⟩ := stI X C.1 C.2.1 eT Ar hin (g := mkF m pc Ls (.int x :: .int j :: .ref a :: S)) rfl rfl (hb C.2.2.1 hd)
  exact step st (g h' W (Arv.set Ar q1 Sz Nz H Gf rfl W _ rfl hlen) T' ⟨_, Fr.snoc X' Fz ha, X', e'⟩)
theorem lastore (C : Cx p s m meth c Z n0 own bytes ml ret) {a : Addr} {kc : ClassId} {z j : Int32} {x : Int64} {vs : List Value} {dv : Value} (A : Arv Z h a kc .long z vs dv) (h0 : 0 ≤ j.toInt) (h1 : j.toInt < z.toInt) (hlen : j.toInt.toNat < vs.length) (ha : n0 ≤ a) (hd : decode bytes pc = .ok (.lastore, 1)) (hp : pc + 1 = pc')
    (g : ∀ h', Wr h h' a j.toNatClampNeg (.long x) → Arv Z h' a kc .long z (vs.set j.toInt.toNat (.long x)) dv → Go p l e R s m args below meth c Y n0 G h' k n (mkF m pc' Ls S)) : Go p l e R s m args below meth c Y n0 G h k n (mkF m pc Ls (.long x :: .int j :: .ref a :: S)) := fun T ⟨locs, Fz, X, eT⟩ => by
  subst hp
  obtain ⟨cl, Ar, q1, Sz, Nz, H, Gf⟩ := A
  have hj : ¬ j < 0 := fun q => by have := Int32.lt_iff_toInt_lt.mp q; simp at this; omega
  have hin := inb_of Sz (j := j) ⟨hj, Int32.lt_iff_toInt_lt.mpr h1⟩
  obtain ⟨T', h', X', e', W, st⟩ := stJ X C.1 C.2.1 eT Ar hin (g := mkF m pc Ls (.long x :: .int j :: .ref a :: S)) rfl rfl (hb C.2.2.1 hd)
  exact step st (g h' W (Arv.set Ar q1 Sz Nz H Gf rfl W _ rfl hlen) T' ⟨_, Fr.snoc X' Fz ha, X', e'⟩)
theorem castore (C : Cx p s m meth c Z n0 own bytes ml ret) {a : Addr} {kc : ClassId} {z j : Int32} {x : Int32} {vs : List Value} {dv : Value} (A : Arv Z h a kc .char z vs dv) (h0 : 0 ≤ j.toInt) (h1 : j.toInt < z.toInt) (hlen : j.toInt.toNat < vs.length) (ha : n0 ≤ a) (hd : decode bytes pc = .ok (.castore, 1)) (hp : pc + 1 = pc')
    (g : ∀ h', Wr h h' a j.toNatClampNeg (.int (nar .char x)) → Arv Z h' a kc .char z (vs.set j.toInt.toNat (.int (nar .char x))) dv → Go p l e R s m args below meth c Y n0 G h' k n (mkF m pc' Ls S)) : Go p l e R s m args below meth c Y n0 G h k n (mkF m pc Ls (.int x :: .int j :: .ref a :: S)) := fun T ⟨locs, Fz, X, eT⟩ => by
  subst hp
  obtain ⟨cl, Ar, q1, Sz, Nz, H, Gf⟩ := A
  have hj : ¬ j < 0 := fun q => by have := Int32.lt_iff_toInt_lt.mp q; simp at this; omega
  have hin := inb_of Sz (j := j) ⟨hj, Int32.lt_iff_toInt_lt.mpr h1⟩
  obtain ⟨T', h', X', e', W, st⟩ := stC X C.1 C.2.1 eT Ar hin (g := mkF m pc Ls (.int x :: .int j :: .ref a :: S)) rfl rfl (hb C.2.2.1 hd)
  exact step st (g h' W (Arv.set Ar q1 Sz Nz H Gf (fits_nar_char _) W _ rfl hlen) T' ⟨_, Fr.snoc X' Fz ha, X', e'⟩)
theorem bastore (C : Cx p s m meth c Z n0 own bytes ml ret) {a : Addr} {kc : ClassId} {z j : Int32} {x : Int32} {vs : List Value} {dv : Value} (A : Arv Z h a kc .byte z vs dv) (h0 : 0 ≤ j.toInt) (h1 : j.toInt < z.toInt) (hlen : j.toInt.toNat < vs.length) (ha : n0 ≤ a) (hd : decode bytes pc = .ok (.bastore, 1)) (hp : pc + 1 = pc')
    (g : ∀ h', Wr h h' a j.toNatClampNeg (.int (nar .byte x)) → Arv Z h' a kc .byte z (vs.set j.toInt.toNat (.int (nar .byte x))) dv → Go p l e R s m args below meth c Y n0 G h' k n (mkF m pc' Ls S)) : Go p l e R s m args below meth c Y n0 G h k n (mkF m pc Ls (.int x :: .int j :: .ref a :: S)) := fun T ⟨locs, Fz, X, eT⟩ => by
  subst hp
  obtain ⟨cl, Ar, q1, Sz, Nz, H, Gf⟩ := A
  have hj : ¬ j < 0 := fun q => by have := Int32.lt_iff_toInt_lt.mp q; simp at this; omega
  have hin := inb_of Sz (j := j) ⟨hj, Int32.lt_iff_toInt_lt.mpr h1⟩
  obtain ⟨T', h', X', e', W, st⟩ := stB X C.1 C.2.1 eT Ar hin (g := mkF m pc Ls (.int x :: .int j :: .ref a :: S)) rfl rfl (hb C.2.2.1 hd)
  exact step st (g h' W (Arv.set Ar q1 Sz Nz H Gf (fits_nar_byte _) W _ rfl hlen) T' ⟨_, Fr.snoc X' Fz ha, X', e'⟩)
end Walk
end Jvm.Pilot.@@N@@.W
namespace Jvm.Pilot.@@N@@
open Jvm Jvm.ClassFile Sem Op Lib Jvm.Free Jvm.Stand Jvm.LawKit Jvm.RoadKit Bundle Jvm.Pilot.@@N@@.Jvm.D
theorem ef_1 (m : MethodId) (o0 : Addr) (q1 : Int64) (p2 : Int32) (p3 : Int32) (p4 : Int32) : entryFrame m #[(.ref o0), (.long q1), (.int p2), (.int p3), (.int p4)] 6 = mkF m 0 #[.val (.ref o0), .val (.long q1), .second, .val (.int p2), .val (.int p3), .val (.int p4)] [] := by first | (simp [entryFrame, mkF, argsToLocals, Value.category]; done) | rfl
theorem pn_0 : plainName "com/example/interval/interval/join/PairCount" = true := by first | (simp [plainName, overriddenIn]; done) | decide +kernel
theorem d1_0 : decode prog_60_method_1_code 0 = .ok (.aload_n 0, 1) := by decide +kernel
theorem d1_1 : decode prog_60_method_1_code 1 = .ok (.invokespecial 1, 3) := by decide +kernel
theorem d1_4 : decode prog_60_method_1_code 4 = .ok (.aload_n 0, 1) := by decide +kernel
theorem d1_5 : decode prog_60_method_1_code 5 = .ok (.lload_n 1, 1) := by decide +kernel
theorem d1_6 : decode prog_60_method_1_code 6 = .ok (.putfield 7, 3) := by decide +kernel
theorem d1_9 : decode prog_60_method_1_code 9 = .ok (.aload_n 0, 1) := by decide +kernel
theorem d1_10 : decode prog_60_method_1_code 10 = .ok (.iload_n 3, 1) := by decide +kernel
theorem d1_11 : decode prog_60_method_1_code 11 = .ok (.putfield 13, 3) := by decide +kernel
theorem d1_14 : decode prog_60_method_1_code 14 = .ok (.aload_n 0, 1) := by decide +kernel
theorem d1_15 : decode prog_60_method_1_code 15 = .ok (.iload 4, 2) := by decide +kernel
theorem d1_17 : decode prog_60_method_1_code 17 = .ok (.putfield 17, 3) := by decide +kernel
theorem d1_20 : decode prog_60_method_1_code 20 = .ok (.aload_n 0, 1) := by decide +kernel
theorem d1_21 : decode prog_60_method_1_code 21 = .ok (.iload 5, 2) := by decide +kernel
theorem d1_23 : decode prog_60_method_1_code 23 = .ok (.putfield 20, 3) := by decide +kernel
theorem d1_26 : decode prog_60_method_1_code 26 = .ok (.return_, 1) := by decide +kernel
theorem ef_6 (m : MethodId) (o0 : Addr) : entryFrame m #[(.ref o0)] 1 = mkF m 0 #[.val (.ref o0)] [] := by first | (simp [entryFrame, mkF, argsToLocals, Value.category]; done) | rfl
theorem pn_1 : plainName "java/lang/Number" = true := by first | (simp [plainName, overriddenIn]; done) | decide +kernel
theorem d6_0 : decode jdk_18_method_1_code 0 = .ok (.aload_n 0, 1) := by decide +kernel
theorem d6_1 : decode jdk_18_method_1_code 1 = .ok (.invokespecial 1, 3) := by decide +kernel
theorem d6_4 : decode jdk_18_method_1_code 4 = .ok (.return_, 1) := by decide +kernel
theorem ef_5 (m : MethodId) (o0 : Addr) (q1 : Int64) : entryFrame m #[(.ref o0), (.long q1)] 3 = mkF m 0 #[.val (.ref o0), .val (.long q1), .second] [] := by first | (simp [entryFrame, mkF, argsToLocals, Value.category]; done) | rfl
theorem pn_2 : plainName "java/lang/Long" = true := by first | (simp [plainName, overriddenIn]; done) | decide +kernel
theorem d5_0 : decode jdk_35_method_26_code 0 = .ok (.aload_n 0, 1) := by decide +kernel
theorem d5_1 : decode jdk_35_method_26_code 1 = .ok (.invokespecial 270, 3) := by decide +kernel
theorem pd_0 : parseMethodDescriptor "()V" = some ⟨[], none⟩ := by decide +kernel
theorem d5_4 : decode jdk_35_method_26_code 4 = .ok (.aload_n 0, 1) := by decide +kernel
theorem d5_5 : decode jdk_35_method_26_code 5 = .ok (.lload_n 1, 1) := by decide +kernel
theorem d5_6 : decode jdk_35_method_26_code 6 = .ok (.putfield 273, 3) := by decide +kernel
theorem d5_9 : decode jdk_35_method_26_code 9 = .ok (.return_, 1) := by decide +kernel
theorem ef_3 (m : MethodId) (q0 : Int64) : entryFrame m #[(.long q0)] 3 = mkF m 0 #[.val (.long q0), .second, .unset] [] := by first | (simp [entryFrame, mkF, argsToLocals, Value.category]; done) | rfl
theorem d3_0 : decode jdk_35_method_24_code 0 = .ok (.sipush 128, 3) := by decide +kernel
theorem d3_3 : decode jdk_35_method_24_code 3 = .ok (.istore_n 2, 1) := by decide +kernel
theorem d3_4 : decode jdk_35_method_24_code 4 = .ok (.lload_n 0, 1) := by decide +kernel
theorem d3_5 : decode jdk_35_method_24_code 5 = .ok (.ldc2_w 230, 3) := by decide +kernel
theorem d3_8 : decode jdk_35_method_24_code 8 = .ok (.lcmp, 1) := by decide +kernel
theorem d3_9 : decode jdk_35_method_24_code 9 = .ok (.ifCond .lt 22, 3) := by decide +kernel
theorem d3_31 : decode jdk_35_method_24_code 31 = .ok (.new 1, 3) := by decide +kernel
theorem d3_34 : decode jdk_35_method_24_code 34 = .ok (.dup, 1) := by decide +kernel
theorem d3_35 : decode jdk_35_method_24_code 35 = .ok (.lload_n 0, 1) := by decide +kernel
theorem d3_36 : decode jdk_35_method_24_code 36 = .ok (.invokespecial 240, 3) := by decide +kernel
theorem pd_1 : parseMethodDescriptor "(J)V" = some ⟨[.long], none⟩ := by decide +kernel
theorem d3_39 : decode jdk_35_method_24_code 39 = .ok (.areturn, 1) := by decide +kernel
theorem d3_12 : decode jdk_35_method_24_code 12 = .ok (.lload_n 0, 1) := by decide +kernel
theorem d3_13 : decode jdk_35_method_24_code 13 = .ok (.ldc2_w 232, 3) := by decide +kernel
theorem d3_16 : decode jdk_35_method_24_code 16 = .ok (.lcmp, 1) := by decide +kernel
theorem d3_17 : decode jdk_35_method_24_code 17 = .ok (.ifCond .gt 14, 3) := by decide +kernel
theorem d3_20 : decode jdk_35_method_24_code 20 = .ok (.getstatic 234, 3) := by decide +kernel
theorem d3_23 : decode jdk_35_method_24_code 23 = .ok (.lload_n 0, 1) := by decide +kernel
theorem d3_24 : decode jdk_35_method_24_code 24 = .ok (.l2i, 1) := by decide +kernel
theorem d3_25 : decode jdk_35_method_24_code 25 = .ok (.sipush 128, 3) := by decide +kernel
theorem d3_28 : decode jdk_35_method_24_code 28 = .ok (.iadd, 1) := by decide +kernel
theorem d3_29 : decode jdk_35_method_24_code 29 = .ok (.aaload, 1) := by decide +kernel
theorem d3_30 : decode jdk_35_method_24_code 30 = .ok (.areturn, 1) := by decide +kernel
theorem ef_4 (m : MethodId) (o0 : Addr) (o1 : Addr) : entryFrame m #[(.ref o0), (.ref o1)] 3 = mkF m 0 #[.val (.ref o0), .val (.ref o1), .unset] [] := by first | (simp [entryFrame, mkF, argsToLocals, Value.category]; done) | rfl
theorem d4_0 : decode prog_60_method_6_code 0 = .ok (.aload_n 1, 1) := by decide +kernel
theorem d4_1 : decode prog_60_method_6_code 1 = .ok (.instanceof 8, 3) := by decide +kernel
theorem d4_4 : decode prog_60_method_6_code 4 = .ok (.ifCond .eq 57, 3) := by decide +kernel
theorem d4_7 : decode prog_60_method_6_code 7 = .ok (.aload_n 1, 1) := by decide +kernel
theorem d4_8 : decode prog_60_method_6_code 8 = .ok (.checkcast 8, 3) := by decide +kernel
theorem d4_11 : decode prog_60_method_6_code 11 = .ok (.astore_n 2, 1) := by decide +kernel
theorem d4_12 : decode prog_60_method_6_code 12 = .ok (.aload_n 0, 1) := by decide +kernel
theorem d4_13 : decode prog_60_method_6_code 13 = .ok (.getfield 7, 3) := by decide +kernel
theorem d4_16 : decode prog_60_method_6_code 16 = .ok (.aload_n 2, 1) := by decide +kernel
theorem d4_17 : decode prog_60_method_6_code 17 = .ok (.getfield 7, 3) := by decide +kernel
theorem d4_20 : decode prog_60_method_6_code 20 = .ok (.lcmp, 1) := by decide +kernel
theorem d4_21 : decode prog_60_method_6_code 21 = .ok (.ifCond .ne 40, 3) := by decide +kernel
theorem d4_61 : decode prog_60_method_6_code 61 = .ok (.iconst 0, 1) := by decide +kernel
theorem d4_62 : decode prog_60_method_6_code 62 = .ok (.ireturn, 1) := by decide +kernel
theorem d4_24 : decode prog_60_method_6_code 24 = .ok (.aload_n 0, 1) := by decide +kernel
theorem d4_25 : decode prog_60_method_6_code 25 = .ok (.getfield 13, 3) := by decide +kernel
theorem d4_28 : decode prog_60_method_6_code 28 = .ok (.aload_n 2, 1) := by decide +kernel
theorem d4_29 : decode prog_60_method_6_code 29 = .ok (.getfield 13, 3) := by decide +kernel
theorem d4_32 : decode prog_60_method_6_code 32 = .ok (.if_icmp .ne 29, 3) := by decide +kernel
theorem d4_35 : decode prog_60_method_6_code 35 = .ok (.aload_n 0, 1) := by decide +kernel
theorem d4_36 : decode prog_60_method_6_code 36 = .ok (.getfield 17, 3) := by decide +kernel
theorem d4_39 : decode prog_60_method_6_code 39 = .ok (.aload_n 2, 1) := by decide +kernel
theorem d4_40 : decode prog_60_method_6_code 40 = .ok (.getfield 17, 3) := by decide +kernel
theorem d4_43 : decode prog_60_method_6_code 43 = .ok (.if_icmp .ne 18, 3) := by decide +kernel
theorem d4_46 : decode prog_60_method_6_code 46 = .ok (.aload_n 0, 1) := by decide +kernel
theorem d4_47 : decode prog_60_method_6_code 47 = .ok (.getfield 20, 3) := by decide +kernel
theorem d4_50 : decode prog_60_method_6_code 50 = .ok (.aload_n 2, 1) := by decide +kernel
theorem d4_51 : decode prog_60_method_6_code 51 = .ok (.getfield 20, 3) := by decide +kernel
theorem d4_54 : decode prog_60_method_6_code 54 = .ok (.if_icmp .ne 7, 3) := by decide +kernel
theorem d4_57 : decode prog_60_method_6_code 57 = .ok (.iconst 1, 1) := by decide +kernel
theorem d4_58 : decode prog_60_method_6_code 58 = .ok (.goto 4, 3) := by decide +kernel
theorem ef_4n (m : MethodId) (o0 : Addr) : entryFrame m #[(.ref o0), .null] 3 = mkF m 0 #[.val (.ref o0), .val .null, .unset] [] := by first | (simp [entryFrame, mkF, argsToLocals, Value.category]; done) | rfl
theorem ef_4b (m : MethodId) (o0 : Addr) (o1 : Addr) : entryFrame m #[(.ref o0), (.ref o1)] 3 = mkF m 0 #[.val (.ref o0), .val (.ref o1), .unset] [] := by first | (simp [entryFrame, mkF, argsToLocals, Value.category]; done) | rfl
theorem ef_0 (m : MethodId) (q0 : Int64) (p1 : Int32) (p2 : Int32) (p3 : Int32) (p4 : Int32) (q5 : Int64) : entryFrame m #[(.long q0), (.int p1), (.int p2), (.int p3), (.int p4), (.long q5)] maxLocals = mkF m 0 #[.val (.long q0), .second, .val (.int p1), .val (.int p2), .val (.int p3), .val (.int p4), .val (.long q5), .second, .unset, .unset, .unset, .unset, .unset, .unset, .unset, .unset, .unset, .unset, .unset] [] := by first | (simp [entryFrame, mkF, argsToLocals, Value.category, maxLocals]; done) | rfl
theorem pn_3 : plainName "com/example/interval/interval/join/PairCountEqualsPinLaw" = true := by first | (simp [plainName, overriddenIn]; done) | decide +kernel
theorem pd_2 : parseMethodDescriptor "(JIII)V" = some ⟨[.long, .int, .int, .int], none⟩ := by decide +kernel
theorem pd_3 : parseMethodDescriptor "(J)Ljava/lang/Long;" = some ⟨[.long], some (.object "java/lang/Long")⟩ := by decide +kernel
theorem pd_4 : parseMethodDescriptor "(Ljava/lang/Object;)Z" = some ⟨[(.object "java/lang/Object")], some .boolean⟩ := by decide +kernel
def own_P (Z : State) (h : Heap) (a : Addr) (x0 : Int64) (x1 : Int32) (x2 : Int32) (x3 : Int32) : Prop := Exa Z h a "com/example/interval/interval/join/PairCount" ∧ Fld Z h a "com/example/interval/interval/join/PairCount" "pairs" "J" (.long x0) ∧ Fld Z h a "com/example/interval/interval/join/PairCount" "sources" "I" (.int x1) ∧ Fld Z h a "com/example/interval/interval/join/PairCount" "targets" "I" (.int x2) ∧ Fld Z h a "com/example/interval/interval/join/PairCount" "elementsRead" "I" (.int x3)
theorem own_addL (a d : Int64) : a = a + d ↔ d = 0 := by
  have h1 := c_ladd a d; have h2 := rng64 a; have h3 := rng64 d; have h4 := rng64 (a + d)
  rw [← Int64.toInt_inj, ← Int64.toInt_inj (x := d)]; simp only [Int64.reduceToInt]; omega
theorem own_addI (a d : Int32) : a = a + d ↔ d = 0 := by
  have h1 := c_iadd a d; have h2 := rng32 a; have h3 := rng32 d; have h4 := rng32 (a + d)
  rw [← Int32.toInt_inj, ← Int32.toInt_inj (x := d)]; simp only [Int32.reduceToInt]; omega
theorem own_len {Z : State} {args : Array Value} {t : Term} {a : Addr} {c : Cell} {ty : FieldType} {k : Int32} (ht : t.eval args Z none [] Z = some (.ref a)) (A : Arr Z Z.heap a c ty) (h : (Cond.eq (Term.length t) (Term.int k)).value args Z none Z [] = some true) : c.slots.size < 2 ^ 31 ∧ c.slots.size.toInt32 = k := by
  have e := eqv_i (F := Term.int k) rfl h
  have hq : Z.arrayAt? a = some c := A.fin (Vm.Alike.refl _)
  by_cases q : c.slots.size < 2 ^ 31
  · rw [len_f ht hq q] at e
    exact ⟨q, Value.int.inj (Option.some.inj e)⟩
  · exfalso
    simp [Term.eval, ht, hq, q] at e
theorem own_idx {Z : State} {args : Array Value} (j : Int32) (hj : ¬ j < 0) : (Term.sub (Term.index 0) (Term.int 128)).eval args Z none [j.toNatClampNeg] Z = some (.int (j - 128)) := by
  have e : j.toNatClampNeg.toInt32 = j := (back32 hj).1
  have l : j.toNatClampNeg < 2 ^ 31 := (back32 hj).2
  simp [Term.eval, e, l]
set_option maxRecDepth 65536 in
set_option maxHeartbeats 40000000 in
theorem rm1 (l : Launch) (Z : State) (a0 : Array Value) (hw : ∀ d ∈ tables_1, d.before a0 Z = true) (ws : List Jvm.Cond) (o0 : Addr) (q1 : Int64) (p2 : Int32) (p3 : Int32) (p4 : Int32) (h0 : Heap) (n0 : Nat) (Z0 : n0 ≤ h0.size) (O : own_P Z h0 o0 (0 : Int64) (0 : Int32) (0 : Int32) (0 : Int32)) (g0_o0 : n0 ≤ o0) :
    W.Con l Z (⟨"com/example/interval/interval/join/PairCount", "<init>", "(JIII)V"⟩ : MethodName) prog_60_method_1_code 6 none ws ({ frames := 1, cells := 0, slots := 0, locals := 12 } : Room) ({ frames := 1, cells := 0, slots := 0, locals := 12 } : Room).cells ({ frames := 1, cells := 0, slots := 0, locals := 12 } : Room).slots #[(.ref o0), (.long q1), (.int p2), (.int p3), (.int p4)] h0 n0 (fun v h => v = none ∧ Keep h0 h [o0] ∧ own_P Z h o0 q1 p2 p3 p4) := by
  refine W.enter (plainFor_of_name pn_0) Z0 ?_
  intro p e s m below meth c C hnm hsh
  have C : W.Cx p s m meth c Z n0 "com/example/interval/interval/join/PairCount" prog_60_method_1_code 6 none := C
  refine W.Go.castF (ef_1 m o0 q1 p2 p3 p4) ?_
  refine W.aloadN C d1_0 rfl rfl rfl ?_
  refine W.initObj C (hw _ (List.mem_of_getElem? (i := 6) rfl)) (hw _ (List.mem_of_getElem? (i := 7) rfl)) (hw _ (List.mem_of_getElem? (i := 8) rfl)) d1_1 rfl rfl (by decide) rfl (by decide) ?_
  refine W.aloadN C d1_4 rfl rfl rfl ?_
  refine W.lloadN C d1_5 rfl rfl ?_
  refine W.putfield C (hw _ (List.mem_of_getElem? (i := 9) rfl)) Via.refl O.2.1 O.1 (Or.inr ⟨(hw _ (List.mem_of_getElem? (i := 10) rfl)), rfl, hnm⟩) (hw _ (List.mem_of_getElem? (i := 1) rfl)) (ty := .long) (by decide) rfl rfl d1_6 rfl g0_o0 ?_
  intro h1 W1
  refine W.aloadN C d1_9 rfl rfl rfl ?_
  refine W.iloadN C d1_10 rfl rfl ?_
  refine W.putfield C (hw _ (List.mem_of_getElem? (i := 11) rfl)) Via.refl (O.2.2.1.other W1 (Or.inr (slot_ne (Or.inr (hw _ (List.mem_of_getElem? (i := 12) rfl))) (Or.inr (hw _ (List.mem_of_getElem? (i := 10) rfl))) (by decide) (t := .int) (t' := .long) (by decide) (by decide)))) (O.1.wr W1) (Or.inr ⟨(hw _ (List.mem_of_getElem? (i := 12) rfl)), rfl, hnm⟩) (hw _ (List.mem_of_getElem? (i := 1) rfl)) (ty := .int) (by decide) rfl rfl d1_11 rfl g0_o0 ?_
  intro h2 W2
  refine W.aloadN C d1_14 rfl rfl rfl ?_
  refine W.iload C d1_15 rfl rfl ?_
  refine W.putfield C (hw _ (List.mem_of_getElem? (i := 13) rfl)) Via.refl ((O.2.2.2.1.other W1 (Or.inr (slot_ne (Or.inr (hw _ (List.mem_of_getElem? (i := 14) rfl))) (Or.inr (hw _ (List.mem_of_getElem? (i := 10) rfl))) (by decide) (t := .int) (t' := .long) (by decide) (by decide)))).other W2 (Or.inr (slot_ne (Or.inr (hw _ (List.mem_of_getElem? (i := 14) rfl))) (Or.inr (hw _ (List.mem_of_getElem? (i := 12) rfl))) (by decide) (t := .int) (t' := .int) (by decide) (by decide)))) ((O.1.wr W1).wr W2) (Or.inr ⟨(hw _ (List.mem_of_getElem? (i := 14) rfl)), rfl, hnm⟩) (hw _ (List.mem_of_getElem? (i := 1) rfl)) (ty := .int) (by decide) rfl rfl d1_17 rfl g0_o0 ?_
  intro h3 W3
  refine W.aloadN C d1_20 rfl rfl rfl ?_
  refine W.iload C d1_21 rfl rfl ?_
  refine W.putfield C (hw _ (List.mem_of_getElem? (i := 15) rfl)) Via.refl (((O.2.2.2.2.other W1 (Or.inr (slot_ne (Or.inr (hw _ (List.mem_of_getElem? (i := 16) rfl))) (Or.inr (hw _ (List.mem_of_getElem? (i := 10) rfl))) (by decide) (t := .int) (t' := .long) (by decide) (by decide)))).other W2 (Or.inr (slot_ne (Or.inr (hw _ (List.mem_of_getElem? (i := 16) rfl))) (Or.inr (hw _ (List.mem_of_getElem? (i := 12) rfl))) (by decide) (t := .int) (t' := .int) (by decide) (by decide)))).other W3 (Or.inr (slot_ne (Or.inr (hw _ (List.mem_of_getElem? (i := 16) rfl))) (Or.inr (hw _ (List.mem_of_getElem? (i := 14) rfl))) (by decide) (t := .int) (t' := .int) (by decide) (by decide)))) (((O.1.wr W1).wr W2).wr W3) (Or.inr ⟨(hw _ (List.mem_of_getElem? (i := 16) rfl)), rfl, hnm⟩) (hw _ (List.mem_of_getElem? (i := 1) rfl)) (ty := .int) (by decide) rfl rfl d1_23 rfl g0_o0 ?_
  intro h4 W4
  refine W.ret0 C d1_26 (by decide) (by decide) (fun _ _ _ _ q => q) ?_
  exact ⟨rfl, (((((Keep.refl h0 [o0]).wr W1 (Or.inl (List.mem_of_getElem? (i := 0) rfl))).wr W2 (Or.inl (List.mem_of_getElem? (i := 0) rfl))).wr W3 (Or.inl (List.mem_of_getElem? (i := 0) rfl))).wr W4 (Or.inl (List.mem_of_getElem? (i := 0) rfl))), ⟨((((O.1.wr W1).wr W2).wr W3).wr W4), ((((O.2.1.same W1).other W2 (Or.inr (slot_ne (Or.inr (hw _ (List.mem_of_getElem? (i := 10) rfl))) (Or.inr (hw _ (List.mem_of_getElem? (i := 12) rfl))) (by decide) (t := .long) (t' := .int) (by decide) (by decide)))).other W3 (Or.inr (slot_ne (Or.inr (hw _ (List.mem_of_getElem? (i := 10) rfl))) (Or.inr (hw _ (List.mem_of_getElem? (i := 14) rfl))) (by decide) (t := .long) (t' := .int) (by decide) (by decide)))).other W4 (Or.inr (slot_ne (Or.inr (hw _ (List.mem_of_getElem? (i := 10) rfl))) (Or.inr (hw _ (List.mem_of_getElem? (i := 16) rfl))) (by decide) (t := .long) (t' := .int) (by decide) (by decide)))), ((((O.2.2.1.other W1 (Or.inr (slot_ne (Or.inr (hw _ (List.mem_of_getElem? (i := 12) rfl))) (Or.inr (hw _ (List.mem_of_getElem? (i := 10) rfl))) (by decide) (t := .int) (t' := .long) (by decide) (by decide)))).same W2).other W3 (Or.inr (slot_ne (Or.inr (hw _ (List.mem_of_getElem? (i := 12) rfl))) (Or.inr (hw _ (List.mem_of_getElem? (i := 14) rfl))) (by decide) (t := .int) (t' := .int) (by decide) (by decide)))).other W4 (Or.inr (slot_ne (Or.inr (hw _ (List.mem_of_getElem? (i := 12) rfl))) (Or.inr (hw _ (List.mem_of_getElem? (i := 16) rfl))) (by decide) (t := .int) (t' := .int) (by decide) (by decide)))), ((((O.2.2.2.1.other W1 (Or.inr (slot_ne (Or.inr (hw _ (List.mem_of_getElem? (i := 14) rfl))) (Or.inr (hw _ (List.mem_of_getElem? (i := 10) rfl))) (by decide) (t := .int) (t' := .long) (by decide) (by decide)))).other W2 (Or.inr (slot_ne (Or.inr (hw _ (List.mem_of_getElem? (i := 14) rfl))) (Or.inr (hw _ (List.mem_of_getElem? (i := 12) rfl))) (by decide) (t := .int) (t' := .int) (by decide) (by decide)))).same W3).other W4 (Or.inr (slot_ne (Or.inr (hw _ (List.mem_of_getElem? (i := 14) rfl))) (Or.inr (hw _ (List.mem_of_getElem? (i := 16) rfl))) (by decide) (t := .int) (t' := .int) (by decide) (by decide)))), ((((O.2.2.2.2.other W1 (Or.inr (slot_ne (Or.inr (hw _ (List.mem_of_getElem? (i := 16) rfl))) (Or.inr (hw _ (List.mem_of_getElem? (i := 10) rfl))) (by decide) (t := .int) (t' := .long) (by decide) (by decide)))).other W2 (Or.inr (slot_ne (Or.inr (hw _ (List.mem_of_getElem? (i := 16) rfl))) (Or.inr (hw _ (List.mem_of_getElem? (i := 12) rfl))) (by decide) (t := .int) (t' := .int) (by decide) (by decide)))).other W3 (Or.inr (slot_ne (Or.inr (hw _ (List.mem_of_getElem? (i := 16) rfl))) (Or.inr (hw _ (List.mem_of_getElem? (i := 14) rfl))) (by decide) (t := .int) (t' := .int) (by decide) (by decide)))).same W4)⟩⟩
set_option maxRecDepth 65536 in
set_option maxHeartbeats 40000000 in
theorem rm6 (l : Launch) (Z : State) (a0 : Array Value) (hw : ∀ d ∈ tables_1, d.before a0 Z = true) (ws : List Jvm.Cond) (o0 : Addr) (h0 : Heap) (n0 : Nat) (Z0 : n0 ≤ h0.size) :
    W.Con l Z (⟨"java/lang/Number", "<init>", "()V"⟩ : MethodName) jdk_18_method_1_code 1 none ws ({ frames := 1, cells := 0, slots := 0, locals := 12 } : Room) ({ frames := 1, cells := 0, slots := 0, locals := 12 } : Room).cells ({ frames := 1, cells := 0, slots := 0, locals := 12 } : Room).slots #[(.ref o0)] h0 n0 (fun v h => v = none ∧ h0 = h) := by
  refine W.enter (plainFor_of_name pn_1) Z0 ?_
  intro p e s m below meth c C hnm hsh
  have C : W.Cx p s m meth c Z n0 "java/lang/Number" jdk_18_method_1_code 1 none := C
  refine W.Go.castF (ef_6 m o0) ?_
  refine W.aloadN C d6_0 rfl rfl rfl ?_
  refine W.initObj C (hw _ (List.mem_of_getElem? (i := 44) rfl)) (hw _ (List.mem_of_getElem? (i := 7) rfl)) (hw _ (List.mem_of_getElem? (i := 8) rfl)) d6_1 rfl rfl (by decide) rfl (by decide) ?_
  refine W.ret0 C d6_4 (by decide) (by decide) (fun _ _ _ _ q => q) ?_
  exact ⟨rfl, rfl⟩
set_option maxRecDepth 65536 in
set_option maxHeartbeats 40000000 in
theorem rm5 (l : Launch) (Z : State) (a0 : Array Value) (hw : ∀ d ∈ tables_1, d.before a0 Z = true) (ws : List Jvm.Cond) (o0 : Addr) (q1 : Int64) (h0 : Heap) (n0 : Nat) (Z0 : n0 ≤ h0.size) (E0 : Exa Z h0 o0 "java/lang/Long") (F0 : Fld Z h0 o0 "java/lang/Long" "value" "J" (.long (0 : Int64))) (g0_o0 : n0 ≤ o0) :
    W.Con l Z (⟨"java/lang/Long", "<init>", "(J)V"⟩ : MethodName) jdk_35_method_26_code 3 none ws ({ frames := 2, cells := 0, slots := 0, locals := 24 } : Room) ({ frames := 2, cells := 0, slots := 0, locals := 24 } : Room).cells ({ frames := 2, cells := 0, slots := 0, locals := 24 } : Room).slots #[(.ref o0), (.long q1)] h0 n0 (fun v h => v = none ∧ Keep h0 h [o0]) := by
  refine W.enter (plainFor_of_name pn_2) Z0 ?_
  intro p e s m below meth c C hnm hsh
  have C : W.Cx p s m meth c Z n0 "java/lang/Long" jdk_35_method_26_code 3 none := C
  refine W.Go.castF (ef_5 m o0 q1) ?_
  refine W.aloadN C d5_0 rfl rfl rfl ?_
  refine W.callSp C (y := (⟨"java/lang/Number", "<init>", "()V"⟩ : MethodName)) (a := o0) rfl (hw _ (List.mem_of_getElem? (i := 38) rfl)) (hw _ (List.mem_of_getElem? (i := 39) rfl)) (hw _ (List.mem_of_getElem? (i := 42) rfl)) (hw _ (List.mem_of_getElem? (i := 43) rfl)) (by decide) (fun hz => rm6 l Z a0 hw [] o0 h0 n0 hz) d5_1 rfl rfl pd_0 rfl (argsL := []) (rest := []) rfl (W := 0) rfl (by decide) (by decide) (by decide) (by decide) (k' := 0) (n' := 0) rfl rfl ?_
  rintro h1 _ ⟨rfl, rfl⟩
  show W.Go p l e _ _ m _ below meth c _ _ _ _ _ _ (mkF m 4 #[.val (.ref o0), .val (.long q1), .second] [])
  refine W.aloadN C d5_4 rfl rfl rfl ?_
  refine W.lloadN C d5_5 rfl rfl ?_
  refine W.putfield C (hw _ (List.mem_of_getElem? (i := 45) rfl)) Via.refl F0 E0 (Or.inr ⟨(hw _ (List.mem_of_getElem? (i := 46) rfl)), rfl, hnm⟩) (hw _ (List.mem_of_getElem? (i := 33) rfl)) (ty := .long) (by decide) rfl rfl d5_6 rfl g0_o0 ?_
  intro h2 W2
  refine W.ret0 C d5_9 (by decide) (by decide) (fun _ _ _ _ q => q) ?_
  exact ⟨rfl, ((Keep.refl h0 [o0]).wr W2 (Or.inl (List.mem_of_getElem? (i := 0) rfl)))⟩
set_option maxRecDepth 65536 in
set_option maxHeartbeats 40000000 in
theorem rm3 (l : Launch) (Z : State) (a0 : Array Value) (hw : ∀ d ∈ tables_1, d.before a0 Z = true) (ws : List Jvm.Cond) (q0 : Int64) (ac : Addr) (cc : Cell) (val : Int32 → Value) (h0 : Heap) (n0 : Nat) (Z0 : n0 ≤ h0.size) (SC : Sta Z h0 "java/lang/Long$LongCache" "cache" "[Ljava/lang/Long;" (.ref ac)) (BX : Bxs Z ac cc "java/lang/Long" "J" 256 val) (OO : Old Z n0 h0) :
    W.Con l Z (⟨"java/lang/Long", "valueOf", "(J)Ljava/lang/Long;"⟩ : MethodName) jdk_35_method_24_code 3 (some (.object "java/lang/Long")) ws ({ frames := 3, cells := 1, slots := 1, locals := 39 } : Room) ({ frames := 3, cells := 1, slots := 1, locals := 39 } : Room).cells ({ frames := 3, cells := 1, slots := 1, locals := 39 } : Room).slots #[(.long q0)] h0 n0 (fun v h => ∃ b : Addr, v = some (.ref b) ∧ Exa Z h b "java/lang/Long" ∧ Keep h0 h []) := by
  refine W.enter (plainFor_of_name pn_2) Z0 ?_
  intro p e s m below meth c C hnm hsh
  have C : W.Cx p s m meth c Z n0 "java/lang/Long" jdk_35_method_24_code 3 (some (.object "java/lang/Long")) := C
  refine W.Go.castF (ef_3 m q0) ?_
  have rx := rng64 q0
  refine W.sipush C (x := (128 : Int32)) d3_0 rfl rfl ?_
  refine W.istoreN C (Ls' := #[.val (.long q0), .second, .val (.int (128 : Int32))]) d3_3 rfl rfl ?_
  refine W.lloadN C d3_4 rfl rfl ?_
  refine W.ldc2 C (hw _ (List.mem_of_getElem? (i := 21) rfl)) d3_5 rfl ?_
  refine W.lcif C (pm := 9) (pc' := 31) (pn := 12) d3_8 rfl d3_9 (by decide) rfl rfl (W.ql_lt q0 (-128 : Int64)) (fun hc8 => ?_) (fun hc8 => ?_)
  · refine W.new C (hw _ (List.mem_of_getElem? (i := 32) rfl)) (hw _ (List.mem_of_getElem? (i := 33) rfl)) (hw _ (List.mem_of_getElem? (i := 19) rfl)) d3_31 rfl (by decide) (by decide) (k' := 1) (n' := 1) rfl rfl ?_
    intro h1 b1 gb1 g0_b1 E1 Ab1 Db1
    have sz_b1 : h0.size ≤ b1 := by rw [gb1]; exact (Keep.refl h0 []).1
    have Fb1_value : Fld Z h1 b1 "java/lang/Long" "value" "J" (.long (0 : Int64)) := Db1 (Or.inr (hw _ (List.mem_of_getElem? (i := 46) rfl))) (ty := .long) (by decide)
    refine W.dup C d3_34 rfl rfl ?_
    refine W.lloadN C d3_35 rfl rfl ?_
    refine W.callSp C (y := (⟨"java/lang/Long", "<init>", "(J)V"⟩ : MethodName)) (a := b1) rfl (hw _ (List.mem_of_getElem? (i := 34) rfl)) (hw _ (List.mem_of_getElem? (i := 35) rfl)) (hw _ (List.mem_of_getElem? (i := 19) rfl)) (hw _ (List.mem_of_getElem? (i := 37) rfl)) (by decide) (fun hz => rm5 l Z a0 hw [] b1 q0 h1 n0 hz Ab1 Fb1_value g0_b1) d3_36 rfl rfl pd_1 rfl (argsL := [(.long q0)]) (rest := [(.ref b1)]) rfl (W := 1) rfl (by decide) (by decide) (by decide) (by decide) (k' := 1) (n' := 1) rfl rfl ?_
    rintro h2 _ ⟨rfl, K2⟩
    show W.Go p l e _ _ m _ below meth c _ _ _ _ _ _ (mkF m 39 #[.val (.long q0), .second, .val (.int (128 : Int32))] [(.ref b1)])
    refine W.retA C rfl rfl rfl d3_39 (by decide) (by decide) (fun _ _ _ _ q => q) ?_
    exact ⟨_, rfl, (Ab1.keep K2), (((Keep.refl h0 []).ext E1).trans K2 (allS (Or.inr sz_b1) all0))⟩
  · refine W.lloadN C d3_12 rfl rfl ?_
    refine W.ldc2 C (hw _ (List.mem_of_getElem? (i := 22) rfl)) d3_13 rfl ?_
    refine W.lcif C (pm := 17) (pc' := 31) (pn := 20) d3_16 rfl d3_17 (by decide) rfl rfl (W.ql_gt q0 (127 : Int64)) (fun hc16 => ?_) (fun hc16 => ?_)
    · refine W.new C (hw _ (List.mem_of_getElem? (i := 32) rfl)) (hw _ (List.mem_of_getElem? (i := 33) rfl)) (hw _ (List.mem_of_getElem? (i := 19) rfl)) d3_31 rfl (by decide) (by decide) (k' := 1) (n' := 1) rfl rfl ?_
      intro h3 b3 gb3 g0_b3 E3 Ab3 Db3
      have sz_b3 : h0.size ≤ b3 := by rw [gb3]; exact (Keep.refl h0 []).1
      have Fb3_value : Fld Z h3 b3 "java/lang/Long" "value" "J" (.long (0 : Int64)) := Db3 (Or.inr (hw _ (List.mem_of_getElem? (i := 46) rfl))) (ty := .long) (by decide)
      refine W.dup C d3_34 rfl rfl ?_
      refine W.lloadN C d3_35 rfl rfl ?_
      refine W.callSp C (y := (⟨"java/lang/Long", "<init>", "(J)V"⟩ : MethodName)) (a := b3) rfl (hw _ (List.mem_of_getElem? (i := 34) rfl)) (hw _ (List.mem_of_getElem? (i := 35) rfl)) (hw _ (List.mem_of_getElem? (i := 19) rfl)) (hw _ (List.mem_of_getElem? (i := 37) rfl)) (by decide) (fun hz => rm5 l Z a0 hw [] b3 q0 h3 n0 hz Ab3 Fb3_value g0_b3) d3_36 rfl rfl pd_1 rfl (argsL := [(.long q0)]) (rest := [(.ref b3)]) rfl (W := 1) rfl (by decide) (by decide) (by decide) (by decide) (k' := 1) (n' := 1) rfl rfl ?_
      rintro h4 _ ⟨rfl, K4⟩
      show W.Go p l e _ _ m _ below meth c _ _ _ _ _ _ (mkF m 39 #[.val (.long q0), .second, .val (.int (128 : Int32))] [(.ref b3)])
      refine W.retA C rfl rfl rfl d3_39 (by decide) (by decide) (fun _ _ _ _ q => q) ?_
      exact ⟨_, rfl, (Ab3.keep K4), (((Keep.refl h0 []).ext E3).trans K4 (allS (Or.inr sz_b3) all0))⟩
    · refine W.getstatic C (hw _ (List.mem_of_getElem? (i := 23) rfl)) Via.refl SC d3_20 rfl ?_
      refine W.lloadN C d3_23 rfl rfl ?_
      refine W.l2i C (z := ((q0).toInt32)) d3_24 rfl rfl ?_
      refine W.sipush C (x := (128 : Int32)) d3_25 rfl rfl ?_
      refine W.iadd C (z := (((q0).toInt32) + (128 : Int32))) d3_28 rfl rfl ?_
      have jr : 0 ≤ ((((q0).toInt32) + (128 : Int32))).toInt ∧ ((((q0).toInt32) + (128 : Int32))).toInt < 256 := by
        have z1 := c_l2i q0
        have z2 := c_iadd (q0).toInt32 128
        have z3 := rng32 ((q0).toInt32 + 128)
        have z4 := rng32 (q0).toInt32
        simp only [Int64.reduceToInt, Int32.reduceToInt] at *
        omega
      have jn : ¬ (((q0).toInt32) + (128 : Int32)) < 0 ∧ (((q0).toInt32) + (128 : Int32)) < (256 : Int32) := ⟨fun q => by have := Int32.lt_iff_toInt_lt.mp q; simp only [Int32.reduceToInt] at this; omega, Int32.lt_iff_toInt_lt.mpr (by simp only [Int32.reduceToInt]; omega)⟩
      have jin := inb_of BX.2.1 jn
      obtain ⟨bq, hq1, hq2, -⟩ := BX.2.2.2 _ jin
      refine W.aaload C (BX.1.ext OO.2) rfl jin hq1 d3_29 rfl ?_
      refine W.retA C rfl rfl rfl d3_30 (by decide) (by decide) (fun _ _ _ _ q => q) ?_
      exact ⟨_, rfl, (hq2.ext OO.2), (Keep.refl h0 [])⟩
set_option maxRecDepth 65536 in
set_option maxHeartbeats 40000000 in
theorem rm4 (l : Launch) (Z : State) (a0 : Array Value) (hw : ∀ d ∈ tables_1, d.before a0 Z = true) (ws : List Jvm.Cond) (o0 o1 : Addr) (x0 : Int64) (x1 x2 x3 : Int32) (y0 : Int64) (y1 y2 y3 : Int32) (h0 : Heap) (n0 : Nat) (Z0 : n0 ≤ h0.size) (O : own_P Z h0 o0 x0 x1 x2 x3) (U : own_P Z h0 o1 y0 y1 y2 y3) :
    W.Con l Z (⟨"com/example/interval/interval/join/PairCount", "equals", "(Ljava/lang/Object;)Z"⟩ : MethodName) prog_60_method_6_code 3 (some .boolean) ws ({ frames := 0, cells := 0, slots := 0, locals := 0 } : Room) ({ frames := 0, cells := 0, slots := 0, locals := 0 } : Room).cells ({ frames := 0, cells := 0, slots := 0, locals := 0 } : Room).slots #[(.ref o0), (.ref o1)] h0 n0 (fun v h => (∃ w : Int32, v = some (.int w) ∧ ((w = 1 ∧ (x0 = y0 ∧ x1 = y1 ∧ x2 = y2 ∧ x3 = y3)) ∨ (w = 0 ∧ ¬ (x0 = y0 ∧ x1 = y1 ∧ x2 = y2 ∧ x3 = y3)))) ∧ h0 = h) := by
  refine W.enter (plainFor_of_name pn_0) Z0 ?_
  intro p e s m below meth c C hnm hsh
  have C : W.Cx p s m meth c Z n0 "com/example/interval/interval/join/PairCount" prog_60_method_6_code 3 (some .boolean) := C
  refine W.Go.castF (ef_4 m o0 o1) ?_
  refine W.aloadN C d4_0 rfl rfl rfl ?_
  refine W.instT C (hw _ (List.mem_of_getElem? (i := 30) rfl)) (Ins.self U.1) d4_1 rfl ?_
  refine W.ifc C (pc' := 61) (pn := 7) d4_4 (by decide) rfl rfl (W.q_eq (1 : Int32) (0 : Int32)) (fun hc4 => ?_) (fun hc4 => ?_)
  · exact absurd hc4 (by decide)
  refine W.aloadN C d4_7 rfl rfl rfl ?_
  refine W.castT C (hw _ (List.mem_of_getElem? (i := 30) rfl)) (Ins.self U.1) d4_8 rfl ?_
  refine W.astoreN C (Ls' := #[.val (.ref o0), .val (.ref o1), .val (.ref o1)]) d4_11 rfl rfl rfl ?_
  refine W.aloadN C d4_12 rfl rfl rfl ?_
  refine W.getfield C (hw _ (List.mem_of_getElem? (i := 9) rfl)) Via.refl O.2.1 d4_13 rfl ?_
  refine W.aloadN C d4_16 rfl rfl rfl ?_
  refine W.getfield C (hw _ (List.mem_of_getElem? (i := 9) rfl)) Via.refl U.2.1 d4_17 rfl ?_
  refine W.lcif C (pm := 21) (pc' := 61) (pn := 24) d4_20 rfl d4_21 (by decide) rfl rfl (W.ql_ne x0 y0) (fun hc20 => ?_) (fun hc20 => ?_)
  · refine W.iconst C (x := (0 : Int32)) d4_61 rfl rfl ?_
    refine W.retZ C (w := (0 : Int32)) (by simp) d4_62 (by decide) (by decide) (by decide) (fun _ _ _ _ q => q) ?_
    exact ⟨⟨_, rfl, Or.inr ⟨rfl, fun q => hc20 q.1⟩⟩, rfl⟩
  · refine W.aloadN C d4_24 rfl rfl rfl ?_
    refine W.getfield C (hw _ (List.mem_of_getElem? (i := 11) rfl)) Via.refl O.2.2.1 d4_25 rfl ?_
    refine W.aloadN C d4_28 rfl rfl rfl ?_
    refine W.getfield C (hw _ (List.mem_of_getElem? (i := 11) rfl)) Via.refl U.2.2.1 d4_29 rfl ?_
    refine W.icmp C (pc' := 61) (pn := 35) d4_32 (by decide) rfl rfl (W.q_ne x1 y1) (fun hc32 => ?_) (fun hc32 => ?_)
    · refine W.iconst C (x := (0 : Int32)) d4_61 rfl rfl ?_
      refine W.retZ C (w := (0 : Int32)) (by simp) d4_62 (by decide) (by decide) (by decide) (fun _ _ _ _ q => q) ?_
      exact ⟨⟨_, rfl, Or.inr ⟨rfl, fun q => hc32 q.2.1⟩⟩, rfl⟩
    · refine W.aloadN C d4_35 rfl rfl rfl ?_
      refine W.getfield C (hw _ (List.mem_of_getElem? (i := 13) rfl)) Via.refl O.2.2.2.1 d4_36 rfl ?_
      refine W.aloadN C d4_39 rfl rfl rfl ?_
      refine W.getfield C (hw _ (List.mem_of_getElem? (i := 13) rfl)) Via.refl U.2.2.2.1 d4_40 rfl ?_
      refine W.icmp C (pc' := 61) (pn := 46) d4_43 (by decide) rfl rfl (W.q_ne x2 y2) (fun hc43 => ?_) (fun hc43 => ?_)
      · refine W.iconst C (x := (0 : Int32)) d4_61 rfl rfl ?_
        refine W.retZ C (w := (0 : Int32)) (by simp) d4_62 (by decide) (by decide) (by decide) (fun _ _ _ _ q => q) ?_
        exact ⟨⟨_, rfl, Or.inr ⟨rfl, fun q => hc43 q.2.2.1⟩⟩, rfl⟩
      · refine W.aloadN C d4_46 rfl rfl rfl ?_
        refine W.getfield C (hw _ (List.mem_of_getElem? (i := 15) rfl)) Via.refl O.2.2.2.2 d4_47 rfl ?_
        refine W.aloadN C d4_50 rfl rfl rfl ?_
        refine W.getfield C (hw _ (List.mem_of_getElem? (i := 15) rfl)) Via.refl U.2.2.2.2 d4_51 rfl ?_
        refine W.icmp C (pc' := 61) (pn := 57) d4_54 (by decide) rfl rfl (W.q_ne x3 y3) (fun hc54 => ?_) (fun hc54 => ?_)
        · refine W.iconst C (x := (0 : Int32)) d4_61 rfl rfl ?_
          refine W.retZ C (w := (0 : Int32)) (by simp) d4_62 (by decide) (by decide) (by decide) (fun _ _ _ _ q => q) ?_
          exact ⟨⟨_, rfl, Or.inr ⟨rfl, fun q => hc54 q.2.2.2⟩⟩, rfl⟩
        · refine W.iconst C (x := (1 : Int32)) d4_57 rfl rfl ?_
          refine W.goto C (pc' := 62) d4_58 (by decide) rfl ?_
          refine W.retZ C (w := (1 : Int32)) (by simp) d4_62 (by decide) (by decide) (by decide) (fun _ _ _ _ q => q) ?_
          exact ⟨⟨_, rfl, Or.inl ⟨rfl, hc20, hc32, hc43, hc54⟩⟩, rfl⟩
set_option maxRecDepth 65536 in
set_option maxHeartbeats 40000000 in
theorem rm4n (l : Launch) (Z : State) (a0 : Array Value) (hw : ∀ d ∈ tables_1, d.before a0 Z = true) (ws : List Jvm.Cond) (o0 : Addr) (h0 : Heap) (n0 : Nat) (Z0 : n0 ≤ h0.size) :
    W.Con l Z (⟨"com/example/interval/interval/join/PairCount", "equals", "(Ljava/lang/Object;)Z"⟩ : MethodName) prog_60_method_6_code 3 (some .boolean) ws ({ frames := 0, cells := 0, slots := 0, locals := 0 } : Room) ({ frames := 0, cells := 0, slots := 0, locals := 0 } : Room).cells ({ frames := 0, cells := 0, slots := 0, locals := 0 } : Room).slots #[(.ref o0), .null] h0 n0 (fun v h => v = some (.int 0) ∧ h0 = h) := by
  refine W.enter (plainFor_of_name pn_0) Z0 ?_
  intro p e s m below meth c C hnm hsh
  have C : W.Cx p s m meth c Z n0 "com/example/interval/interval/join/PairCount" prog_60_method_6_code 3 (some .boolean) := C
  refine W.Go.castF (ef_4n m o0) ?_
  refine W.aloadN C d4_0 rfl rfl rfl ?_
  refine W.instN C d4_1 rfl ?_
  refine W.ifc C (pc' := 61) (pn := 7) d4_4 (by decide) rfl rfl (W.q_eq (0 : Int32) (0 : Int32)) (fun hc4 => ?_) (fun hc4 => ?_)
  rotate_left
  · exact absurd rfl hc4
  refine W.iconst C (x := (0 : Int32)) d4_61 rfl rfl ?_
  refine W.retZ C (w := (0 : Int32)) (by simp) d4_62 (by decide) (by decide) (by decide) (fun _ _ _ _ q => q) ?_
  exact ⟨rfl, rfl⟩
set_option maxRecDepth 65536 in
set_option maxHeartbeats 40000000 in
theorem rm4b (l : Launch) (Z : State) (a0 : Array Value) (hw : ∀ d ∈ tables_1, d.before a0 Z = true) (ws : List Jvm.Cond) (o0 : Addr) (o1 : Addr) (h0 : Heap) (n0 : Nat) (Z0 : n0 ≤ h0.size) (E1 : Exa Z h0 o1 "java/lang/Long") :
    W.Con l Z (⟨"com/example/interval/interval/join/PairCount", "equals", "(Ljava/lang/Object;)Z"⟩ : MethodName) prog_60_method_6_code 3 (some .boolean) ws ({ frames := 0, cells := 0, slots := 0, locals := 0 } : Room) ({ frames := 0, cells := 0, slots := 0, locals := 0 } : Room).cells ({ frames := 0, cells := 0, slots := 0, locals := 0 } : Room).slots #[(.ref o0), (.ref o1)] h0 n0 (fun v h => v = some (.int 0) ∧ h0 = h) := by
  refine W.enter (plainFor_of_name pn_0) Z0 ?_
  intro p e s m below meth c C hnm hsh
  have C : W.Cx p s m meth c Z n0 "com/example/interval/interval/join/PairCount" prog_60_method_6_code 3 (some .boolean) := C
  refine W.Go.castF (ef_4b m o0 o1) ?_
  refine W.aloadN C d4_0 rfl rfl rfl ?_
  refine W.instF C (hw _ (List.mem_of_getElem? (i := 30) rfl)) E1 (W.ns_no (hw _ (List.mem_of_getElem? (i := 47) rfl)) (hw _ (List.mem_of_getElem? (i := 1) rfl)) (NS.step (hw _ (List.mem_of_getElem? (i := 47) rfl)) (NS.step (hw _ (List.mem_of_getElem? (i := 48) rfl)) (W.ns_root (hw _ (List.mem_of_getElem? (i := 49) rfl)) (hw _ (List.mem_of_getElem? (i := 1) rfl)) (by decide)) (by decide)) (by decide)) (by decide)) d4_1 rfl ?_
  refine W.ifc C (pc' := 61) (pn := 7) d4_4 (by decide) rfl rfl (W.q_eq (0 : Int32) (0 : Int32)) (fun hc4 => ?_) (fun hc4 => ?_)
  rotate_left
  · exact absurd rfl hc4
  refine W.iconst C (x := (0 : Int32)) d4_61 rfl rfl ?_
  refine W.retZ C (w := (0 : Int32)) (by simp) d4_62 (by decide) (by decide) (by decide) (fun _ _ _ _ q => q) ?_
  exact ⟨rfl, rfl⟩
set_option maxRecDepth 65536 in
set_option maxHeartbeats 40000000 in
theorem rm0 (l : Launch) (Z : State) (a0 : Array Value) (hw : ∀ d ∈ tables_1, d.before a0 Z = true) (ws : List Jvm.Cond) (q0 : Int64) (p1 p2 p3 p4 : Int32) (q5 : Int64) (ac : Addr) (cc : Cell) (val : Int32 → Value) (h0 : Heap) (n0 : Nat) (Z0 : n0 ≤ h0.size) (SC : Sta Z Z.heap "java/lang/Long$LongCache" "cache" "[Ljava/lang/Long;" (.ref ac)) (BX : Bxs Z ac cc "java/lang/Long" "J" 256 val) (OO : Old Z n0 h0) :
    W.Con l Z x code maxLocals ret ws room_1 16 128 #[(.long q0), (.int p1), (.int p2), (.int p3), (.int p4), (.long q5)] h0 n0 (fun v _ => v = some (.int 1)) := by
  refine W.enter (plainFor_of_name pn_3) Z0 ?_
  intro p e s m below meth c C hnm hsh
  have C : W.Cx p s m meth c Z n0 "com/example/interval/interval/join/PairCountEqualsPinLaw" code 19 (some .boolean) := C
  refine W.Go.castF (ef_0 m q0 p1 p2 p3 p4 q5) ?_
  refine W.iload C at_0 rfl rfl ?_
  refine W.bipush C (x := (7 : Int32)) at_2 rfl rfl ?_
  refine W.iand C (z := (p4 &&& (7 : Int32))) at_4 rfl rfl ?_
  obtain ⟨kk, hkk⟩ : ∃ z, z = (p4 &&& (7 : Int32)) := ⟨_, rfl⟩
  rw [← hkk]
  have rkk : 0 ≤ kk.toInt ∧ kk.toInt < 8 := by
    have a := c_mask p4 7 3 (by decide) (by decide)
    simp only [Nat.reducePow, Int.cast_ofNat_Int] at a
    rw [hkk]; omega
  clear hkk
  refine W.istore C (Ls' := #[.val (.long q0), .second, .val (.int p1), .val (.int p2), .val (.int p3), .val (.int p4), .val (.long q5), .second, .val (.int kk), .unset, .unset, .unset, .unset, .unset, .unset, .unset, .unset, .unset, .unset]) at_5 rfl rfl ?_
  refine W.lload C at_7 rfl rfl ?_
  refine W.l2i C (z := ((q5).toInt32)) at_9 rfl rfl ?_
  obtain ⟨dd, hdd⟩ : ∃ z, z = ((q5).toInt32) := ⟨_, rfl⟩
  rw [← hdd]
  refine W.istore C (Ls' := #[.val (.long q0), .second, .val (.int p1), .val (.int p2), .val (.int p3), .val (.int p4), .val (.long q5), .second, .val (.int kk), .val (.int dd), .unset, .unset, .unset, .unset, .unset, .unset, .unset, .unset, .unset]) at_10 rfl rfl ?_
  refine W.lloadN C at_12 rfl rfl ?_
  refine W.lstore C (Ls' := #[.val (.long q0), .second, .val (.int p1), .val (.int p2), .val (.int p3), .val (.int p4), .val (.long q5), .second, .val (.int kk), .val (.int dd), .val (.long q0), .second, .unset, .unset, .unset, .unset, .unset, .unset, .unset]) at_13 rfl rfl ?_
  refine W.iloadN C at_15 rfl rfl ?_
  refine W.istore C (Ls' := #[.val (.long q0), .second, .val (.int p1), .val (.int p2), .val (.int p3), .val (.int p4), .val (.long q5), .second, .val (.int kk), .val (.int dd), .val (.long q0), .second, .val (.int p1), .unset, .unset, .unset, .unset, .unset, .unset]) at_16 rfl rfl ?_
  refine W.iloadN C at_18 rfl rfl ?_
  refine W.istore C (Ls' := #[.val (.long q0), .second, .val (.int p1), .val (.int p2), .val (.int p3), .val (.int p4), .val (.long q5), .second, .val (.int kk), .val (.int dd), .val (.long q0), .second, .val (.int p1), .val (.int p2), .unset, .unset, .unset, .unset, .unset]) at_19 rfl rfl ?_
  refine W.iload C at_21 rfl rfl ?_
  refine W.istore C (Ls' := #[.val (.long q0), .second, .val (.int p1), .val (.int p2), .val (.int p3), .val (.int p4), .val (.long q5), .second, .val (.int kk), .val (.int dd), .val (.long q0), .second, .val (.int p1), .val (.int p2), .val (.int p3), .unset, .unset, .unset, .unset]) at_23 rfl rfl ?_
  refine W.iload C at_25 rfl rfl ?_
  refine W.iconst C (x := (1 : Int32)) at_27 rfl rfl ?_
  refine W.icmp C (pc' := 40) (pn := 31) at_28 (by decide) rfl rfl (W.q_ne kk (1 : Int32)) (fun hc28 => ?_) (fun hc28 => ?_)
  · refine W.iload C at_40 rfl rfl ?_
    refine W.iconst C (x := (2 : Int32)) at_42 rfl rfl ?_
    refine W.icmp C (pc' := 55) (pn := 46) at_43 (by decide) rfl rfl (W.q_ne kk (2 : Int32)) (fun hc43 => ?_) (fun hc43 => ?_)
    · refine W.iload C at_55 rfl rfl ?_
      refine W.iconst C (x := (3 : Int32)) at_57 rfl rfl ?_
      refine W.icmp C (pc' := 70) (pn := 61) at_58 (by decide) rfl rfl (W.q_ne kk (3 : Int32)) (fun hc58 => ?_) (fun hc58 => ?_)
      · refine W.iload C at_70 rfl rfl ?_
        refine W.iconst C (x := (4 : Int32)) at_72 rfl rfl ?_
        refine W.icmp C (pc' := 83) (pn := 76) at_73 (by decide) rfl rfl (W.q_ne kk (4 : Int32)) (fun hc73 => ?_) (fun hc73 => ?_)
        · refine W.new C (hw _ (List.mem_of_getElem? (i := 0) rfl)) (hw _ (List.mem_of_getElem? (i := 1) rfl)) (hw _ (List.mem_of_getElem? (i := 2) rfl)) at_83 rfl (by decide) (by decide) (k' := 1) (n' := 4) rfl rfl ?_
          intro h1 b1 gb1 g0_b1 E1 Ab1 Db1
          have Fb1_pairs : Fld Z h1 b1 "com/example/interval/interval/join/PairCount" "pairs" "J" (.long (0 : Int64)) := Db1 (Or.inr (hw _ (List.mem_of_getElem? (i := 10) rfl))) (ty := .long) (by decide)
          have Fb1_sources : Fld Z h1 b1 "com/example/interval/interval/join/PairCount" "sources" "I" (.int (0 : Int32)) := Db1 (Or.inr (hw _ (List.mem_of_getElem? (i := 12) rfl))) (ty := .int) (by decide)
          have Fb1_targets : Fld Z h1 b1 "com/example/interval/interval/join/PairCount" "targets" "I" (.int (0 : Int32)) := Db1 (Or.inr (hw _ (List.mem_of_getElem? (i := 14) rfl))) (ty := .int) (by decide)
          have Fb1_elementsRead : Fld Z h1 b1 "com/example/interval/interval/join/PairCount" "elementsRead" "I" (.int (0 : Int32)) := Db1 (Or.inr (hw _ (List.mem_of_getElem? (i := 16) rfl))) (ty := .int) (by decide)
          refine W.dup C at_86 rfl rfl ?_
          refine W.lloadN C at_87 rfl rfl ?_
          refine W.iloadN C at_88 rfl rfl ?_
          refine W.iloadN C at_89 rfl rfl ?_
          refine W.iload C at_90 rfl rfl ?_
          refine W.callSp C (y := (⟨"com/example/interval/interval/join/PairCount", "<init>", "(JIII)V"⟩ : MethodName)) (a := b1) rfl (hw _ (List.mem_of_getElem? (i := 3) rfl)) (hw _ (List.mem_of_getElem? (i := 4) rfl)) (hw _ (List.mem_of_getElem? (i := 2) rfl)) (hw _ (List.mem_of_getElem? (i := 5) rfl)) (by decide) (fun hz => rm1 l Z a0 hw [] b1 q0 p1 p2 p3 h1 n0 hz ⟨Ab1, Fb1_pairs, Fb1_sources, Fb1_targets, Fb1_elementsRead⟩ g0_b1) at_92 rfl rfl pd_2 rfl (argsL := [(.long q0), (.int p1), (.int p2), (.int p3)]) (rest := [(.ref b1)]) rfl (W := 1) rfl (by decide) (by decide) (by decide) (by decide) (k' := 1) (n' := 4) rfl rfl ?_
          rintro h2 _ ⟨rfl, K2, O2⟩
          show W.Go p l e _ _ m _ below meth c _ _ _ _ _ _ (mkF m 95 #[.val (.long q0), .second, .val (.int p1), .val (.int p2), .val (.int p3), .val (.int p4), .val (.long q5), .second, .val (.int kk), .val (.int dd), .val (.long q0), .second, .val (.int p1), .val (.int p2), .val (.int p3), .unset, .unset, .unset, .unset] [(.ref b1)])
          refine W.astore C (Ls' := #[.val (.long q0), .second, .val (.int p1), .val (.int p2), .val (.int p3), .val (.int p4), .val (.long q5), .second, .val (.int kk), .val (.int dd), .val (.long q0), .second, .val (.int p1), .val (.int p2), .val (.int p3), .val (.ref b1), .unset, .unset, .unset]) at_95 rfl rfl rfl ?_
          refine W.new C (hw _ (List.mem_of_getElem? (i := 0) rfl)) (hw _ (List.mem_of_getElem? (i := 1) rfl)) (hw _ (List.mem_of_getElem? (i := 2) rfl)) at_97 rfl (by decide) (by decide) (k' := 2) (n' := 8) rfl rfl ?_
          intro h3 b3 gb3 g0_b3 E3 Ab3 Db3
          have ne_b1_b3 : b1 ≠ b3 := Nat.ne_of_lt (by rw [gb3]; exact O2.1.lt)
          have Fb3_pairs : Fld Z h3 b3 "com/example/interval/interval/join/PairCount" "pairs" "J" (.long (0 : Int64)) := Db3 (Or.inr (hw _ (List.mem_of_getElem? (i := 10) rfl))) (ty := .long) (by decide)
          have Fb3_sources : Fld Z h3 b3 "com/example/interval/interval/join/PairCount" "sources" "I" (.int (0 : Int32)) := Db3 (Or.inr (hw _ (List.mem_of_getElem? (i := 12) rfl))) (ty := .int) (by decide)
          have Fb3_targets : Fld Z h3 b3 "com/example/interval/interval/join/PairCount" "targets" "I" (.int (0 : Int32)) := Db3 (Or.inr (hw _ (List.mem_of_getElem? (i := 14) rfl))) (ty := .int) (by decide)
          have Fb3_elementsRead : Fld Z h3 b3 "com/example/interval/interval/join/PairCount" "elementsRead" "I" (.int (0 : Int32)) := Db3 (Or.inr (hw _ (List.mem_of_getElem? (i := 16) rfl))) (ty := .int) (by decide)
          refine W.dup C at_100 rfl rfl ?_
          refine W.lload C at_101 rfl rfl ?_
          refine W.iload C at_103 rfl rfl ?_
          refine W.iload C at_105 rfl rfl ?_
          refine W.iload C at_107 rfl rfl ?_
          refine W.callSp C (y := (⟨"com/example/interval/interval/join/PairCount", "<init>", "(JIII)V"⟩ : MethodName)) (a := b3) rfl (hw _ (List.mem_of_getElem? (i := 3) rfl)) (hw _ (List.mem_of_getElem? (i := 4) rfl)) (hw _ (List.mem_of_getElem? (i := 2) rfl)) (hw _ (List.mem_of_getElem? (i := 5) rfl)) (by decide) (fun hz => rm1 l Z a0 hw [] b3 q0 p1 p2 p3 h3 n0 hz ⟨Ab3, Fb3_pairs, Fb3_sources, Fb3_targets, Fb3_elementsRead⟩ g0_b3) at_109 rfl rfl pd_2 rfl (argsL := [(.long q0), (.int p1), (.int p2), (.int p3)]) (rest := [(.ref b3)]) rfl (W := 1) rfl (by decide) (by decide) (by decide) (by decide) (k' := 2) (n' := 8) rfl rfl ?_
          rintro h4 _ ⟨rfl, K4, O4⟩
          show W.Go p l e _ _ m _ below meth c _ _ _ _ _ _ (mkF m 112 #[.val (.long q0), .second, .val (.int p1), .val (.int p2), .val (.int p3), .val (.int p4), .val (.long q5), .second, .val (.int kk), .val (.int dd), .val (.long q0), .second, .val (.int p1), .val (.int p2), .val (.int p3), .val (.ref b1), .unset, .unset, .unset] [(.ref b3)])
          refine W.astore C (Ls' := #[.val (.long q0), .second, .val (.int p1), .val (.int p2), .val (.int p3), .val (.int p4), .val (.long q5), .second, .val (.int kk), .val (.int dd), .val (.long q0), .second, .val (.int p1), .val (.int p2), .val (.int p3), .val (.ref b1), .val (.ref b3), .unset, .unset]) at_112 rfl rfl rfl ?_
          refine W.lloadN C at_114 rfl rfl ?_
          refine W.callS C (y := (⟨"java/lang/Long", "valueOf", "(J)Ljava/lang/Long;"⟩ : MethodName)) (hw _ (List.mem_of_getElem? (i := 17) rfl)) (hw _ (List.mem_of_getElem? (i := 18) rfl)) (hw _ (List.mem_of_getElem? (i := 19) rfl)) (hw _ (List.mem_of_getElem? (i := 20) rfl)) (by decide) (fun hz => rm3 l Z a0 hw [] q0 ac cc val h4 n0 hz (SC.ext ((((OO.ext E1).keep K2 (allS g0_b1 all0)).ext E3).keep K4 (allS g0_b3 all0)).2) BX ((((OO.ext E1).keep K2 (allS g0_b1 all0)).ext E3).keep K4 (allS g0_b3 all0))) at_115 rfl rfl pd_3 rfl (argsL := [(.long q0)]) (rest := []) rfl (W := 0) rfl (by decide) (by decide) (by decide) (by decide) (k' := 3) (n' := 9) rfl rfl ?_
          rintro h5 _ ⟨b5, rfl, X5, K5⟩
          show W.Go p l e _ _ m _ below meth c _ _ _ _ _ _ (mkF m 118 #[.val (.long q0), .second, .val (.int p1), .val (.int p2), .val (.int p3), .val (.int p4), .val (.long q5), .second, .val (.int kk), .val (.int dd), .val (.long q0), .second, .val (.int p1), .val (.int p2), .val (.int p3), .val (.ref b1), .val (.ref b3), .unset, .unset] [(.ref b5)])
          refine W.astore C (Ls' := #[.val (.long q0), .second, .val (.int p1), .val (.int p2), .val (.int p3), .val (.int p4), .val (.long q5), .second, .val (.int kk), .val (.int dd), .val (.long q0), .second, .val (.int p1), .val (.int p2), .val (.int p3), .val (.ref b1), .val (.ref b3), .val (.ref b5), .unset]) at_118 rfl rfl rfl ?_
          refine W.iload C at_120 rfl rfl ?_
          refine W.iconst C (x := (5 : Int32)) at_122 rfl rfl ?_
          refine W.icmp C (pc' := 142) (pn := 126) at_123 (by decide) rfl rfl (W.q_ne kk (5 : Int32)) (fun hc123 => ?_) (fun hc123 => ?_)
          · refine W.iload C at_142 rfl rfl ?_
            refine W.bipush C (x := (6 : Int32)) at_144 rfl rfl ?_
            refine W.icmp C (pc' := 164) (pn := 149) at_146 (by decide) rfl rfl (W.q_ne kk (6 : Int32)) (fun hc146 => ?_) (fun hc146 => ?_)
            · refine W.iload C at_164 rfl rfl ?_
              refine W.bipush C (x := (7 : Int32)) at_166 rfl rfl ?_
              refine W.icmp C (pc' := 179) (pn := 171) at_168 (by decide) rfl rfl (W.q_ne kk (7 : Int32)) (fun hc168 => ?_) (fun hc168 => ?_)
              · refine W.iload C at_179 rfl rfl ?_
                refine W.ifc C (pc' := 190) (pn := 184) at_181 (by decide) rfl rfl (W.q_ne kk (0 : Int32)) (fun hc181 => ?_) (fun hc181 => ?_)
                · exfalso
                  have e0 : ¬ kk.toInt = 0 := fun q => hc181 (Int32.toInt_inj.mp q)
                  have e1 : ¬ kk.toInt = 1 := fun q => hc28 (Int32.toInt_inj.mp q)
                  have e2 : ¬ kk.toInt = 2 := fun q => hc43 (Int32.toInt_inj.mp q)
                  have e3 : ¬ kk.toInt = 3 := fun q => hc58 (Int32.toInt_inj.mp q)
                  have e4 : ¬ kk.toInt = 4 := fun q => hc73 (Int32.toInt_inj.mp q)
                  have e5 : ¬ kk.toInt = 5 := fun q => hc123 (Int32.toInt_inj.mp q)
                  have e6 : ¬ kk.toInt = 6 := fun q => hc146 (Int32.toInt_inj.mp q)
                  have e7 : ¬ kk.toInt = 7 := fun q => hc168 (Int32.toInt_inj.mp q)
                  omega
                · subst hc181
                  refine W.iconst C (x := (1 : Int32)) at_184 rfl rfl ?_
                  refine W.istore C (Ls' := #[.val (.long q0), .second, .val (.int p1), .val (.int p2), .val (.int p3), .val (.int p4), .val (.long q5), .second, .val (.int (0 : Int32)), .val (.int dd), .val (.long q0), .second, .val (.int p1), .val (.int p2), .val (.int p3), .val (.ref b1), .val (.ref b3), .val (.ref b5), .val (.int (1 : Int32))]) at_185 rfl rfl ?_
                  refine W.goto C (pc' := 225) at_187 (by decide) rfl ?_
                  refine W.aload C at_225 rfl rfl rfl ?_
                  refine W.aload C at_227 rfl rfl rfl ?_
                  refine W.callV C (y := (⟨"com/example/interval/interval/join/PairCount", "equals", "(Ljava/lang/Object;)Z"⟩ : MethodName)) (a := b1) (hw _ (List.mem_of_getElem? (i := 25) rfl)) (hw _ (List.mem_of_getElem? (i := 26) rfl)) (W.nf_sel C (hw _ (List.mem_of_getElem? (i := 28) rfl))) (hw _ (List.mem_of_getElem? (i := 28) rfl)) (hw _ (List.mem_of_getElem? (i := 27) rfl)) (hw _ (List.mem_of_getElem? (i := 2) rfl)) (hw _ (List.mem_of_getElem? (i := 29) rfl)) (by decide) (((O2.1.ext E3).keep K4).keep K5) (fun hz => rm4 l Z a0 hw [] b1 b3 q0 p1 p2 p3 q0 p1 p2 p3 h5 n0 hz ⟨(((O2.1.ext E3).keep K4).keep K5), (((O2.2.1.ext E3).keep K4 (ninS ne_b1_b3 nin0)).keep K5 nin0), (((O2.2.2.1.ext E3).keep K4 (ninS ne_b1_b3 nin0)).keep K5 nin0), (((O2.2.2.2.1.ext E3).keep K4 (ninS ne_b1_b3 nin0)).keep K5 nin0), (((O2.2.2.2.2.ext E3).keep K4 (ninS ne_b1_b3 nin0)).keep K5 nin0)⟩ ⟨(O4.1.keep K5), (O4.2.1.keep K5 nin0), (O4.2.2.1.keep K5 nin0), (O4.2.2.2.1.keep K5 nin0), (O4.2.2.2.2.keep K5 nin0)⟩) at_229 rfl rfl pd_4 rfl (argsL := [(.ref b3)]) (rest := []) rfl (W := 0) rfl (by decide) (by decide) (by decide) (by decide) (k' := 3) (n' := 9) rfl rfl ?_
                  rintro h6 _ ⟨⟨w6, rfl, q6⟩, rfl⟩
                  show W.Go p l e _ _ m _ below meth c _ _ _ _ _ _ (mkF m 232 #[.val (.long q0), .second, .val (.int p1), .val (.int p2), .val (.int p3), .val (.int p4), .val (.long q5), .second, .val (.int (0 : Int32)), .val (.int dd), .val (.long q0), .second, .val (.int p1), .val (.int p2), .val (.int p3), .val (.ref b1), .val (.ref b3), .val (.ref b5), .val (.int (1 : Int32))] [(.int w6)])
                  refine W.iload C at_232 rfl rfl ?_
                  refine W.icmp C (pc' := 253) (pn := 237) at_234 (by decide) rfl rfl (W.q_ne w6 (1 : Int32)) (fun hc234 => ?_) (fun hc234 => ?_)
                  · refine W.iconst C (x := (0 : Int32)) at_253 rfl rfl ?_
                    refine W.retZ C (w := (0 : Int32)) (by simp) at_254 (by decide) (by decide) (by decide) (fun _ _ _ _ q => q) ?_
                    exfalso
                    rcases q6 with ⟨rfl, g⟩ | ⟨rfl, g⟩
                    · first | exact hc234 rfl | (simp [own_addL, own_addI, eq_comm, own_addL] at g; done)
                    · first | exact hc234 rfl | (simp [own_addL, own_addI, eq_comm, own_addL] at g; done)
                  · refine W.aload C at_237 rfl rfl rfl ?_
                    refine W.aload C at_239 rfl rfl rfl ?_
                    refine W.callV C (y := (⟨"com/example/interval/interval/join/PairCount", "equals", "(Ljava/lang/Object;)Z"⟩ : MethodName)) (a := b3) (hw _ (List.mem_of_getElem? (i := 25) rfl)) (hw _ (List.mem_of_getElem? (i := 26) rfl)) (W.nf_sel C (hw _ (List.mem_of_getElem? (i := 28) rfl))) (hw _ (List.mem_of_getElem? (i := 28) rfl)) (hw _ (List.mem_of_getElem? (i := 27) rfl)) (hw _ (List.mem_of_getElem? (i := 2) rfl)) (hw _ (List.mem_of_getElem? (i := 29) rfl)) (by decide) (O4.1.keep K5) (fun hz => rm4 l Z a0 hw [] b3 b1 q0 p1 p2 p3 q0 p1 p2 p3 h5 n0 hz ⟨(O4.1.keep K5), (O4.2.1.keep K5 nin0), (O4.2.2.1.keep K5 nin0), (O4.2.2.2.1.keep K5 nin0), (O4.2.2.2.2.keep K5 nin0)⟩ ⟨(((O2.1.ext E3).keep K4).keep K5), (((O2.2.1.ext E3).keep K4 (ninS ne_b1_b3 nin0)).keep K5 nin0), (((O2.2.2.1.ext E3).keep K4 (ninS ne_b1_b3 nin0)).keep K5 nin0), (((O2.2.2.2.1.ext E3).keep K4 (ninS ne_b1_b3 nin0)).keep K5 nin0), (((O2.2.2.2.2.ext E3).keep K4 (ninS ne_b1_b3 nin0)).keep K5 nin0)⟩) at_241 rfl rfl pd_4 rfl (argsL := [(.ref b1)]) (rest := []) rfl (W := 0) rfl (by decide) (by decide) (by decide) (by decide) (k' := 3) (n' := 9) rfl rfl ?_
                    rintro h7 _ ⟨⟨w7, rfl, q7⟩, rfl⟩
                    show W.Go p l e _ _ m _ below meth c _ _ _ _ _ _ (mkF m 244 #[.val (.long q0), .second, .val (.int p1), .val (.int p2), .val (.int p3), .val (.int p4), .val (.long q5), .second, .val (.int (0 : Int32)), .val (.int dd), .val (.long q0), .second, .val (.int p1), .val (.int p2), .val (.int p3), .val (.ref b1), .val (.ref b3), .val (.ref b5), .val (.int (1 : Int32))] [(.int w7)])
                    refine W.iload C at_244 rfl rfl ?_
                    refine W.icmp C (pc' := 253) (pn := 249) at_246 (by decide) rfl rfl (W.q_ne w7 (1 : Int32)) (fun hc246 => ?_) (fun hc246 => ?_)
                    · refine W.iconst C (x := (0 : Int32)) at_253 rfl rfl ?_
                      refine W.retZ C (w := (0 : Int32)) (by simp) at_254 (by decide) (by decide) (by decide) (fun _ _ _ _ q => q) ?_
                      exfalso
                      rcases q7 with ⟨rfl, g⟩ | ⟨rfl, g⟩
                      · first | exact hc246 rfl | (simp [own_addL, own_addI, eq_comm, own_addL] at g; done)
                      · first | exact hc246 rfl | (simp [own_addL, own_addI, eq_comm, own_addL] at g; done)
                    · refine W.iconst C (x := (1 : Int32)) at_249 rfl rfl ?_
                      refine W.goto C (pc' := 254) at_250 (by decide) rfl ?_
                      refine W.retZ C (w := (1 : Int32)) (by simp) at_254 (by decide) (by decide) (by decide) (fun _ _ _ _ q => q) ?_
                      rfl
              · subst hc168
                refine W.aload C at_171 rfl rfl rfl ?_
                refine W.aload C at_173 rfl rfl rfl ?_
                refine W.callV C (y := (⟨"com/example/interval/interval/join/PairCount", "equals", "(Ljava/lang/Object;)Z"⟩ : MethodName)) (a := b1) (hw _ (List.mem_of_getElem? (i := 25) rfl)) (hw _ (List.mem_of_getElem? (i := 26) rfl)) (W.nf_sel C (hw _ (List.mem_of_getElem? (i := 28) rfl))) (hw _ (List.mem_of_getElem? (i := 28) rfl)) (hw _ (List.mem_of_getElem? (i := 27) rfl)) (hw _ (List.mem_of_getElem? (i := 2) rfl)) (hw _ (List.mem_of_getElem? (i := 29) rfl)) (by decide) (((O2.1.ext E3).keep K4).keep K5) (fun hz => rm4 l Z a0 hw [] b1 b1 q0 p1 p2 p3 q0 p1 p2 p3 h5 n0 hz ⟨(((O2.1.ext E3).keep K4).keep K5), (((O2.2.1.ext E3).keep K4 (ninS ne_b1_b3 nin0)).keep K5 nin0), (((O2.2.2.1.ext E3).keep K4 (ninS ne_b1_b3 nin0)).keep K5 nin0), (((O2.2.2.2.1.ext E3).keep K4 (ninS ne_b1_b3 nin0)).keep K5 nin0), (((O2.2.2.2.2.ext E3).keep K4 (ninS ne_b1_b3 nin0)).keep K5 nin0)⟩ ⟨(((O2.1.ext E3).keep K4).keep K5), (((O2.2.1.ext E3).keep K4 (ninS ne_b1_b3 nin0)).keep K5 nin0), (((O2.2.2.1.ext E3).keep K4 (ninS ne_b1_b3 nin0)).keep K5 nin0), (((O2.2.2.2.1.ext E3).keep K4 (ninS ne_b1_b3 nin0)).keep K5 nin0), (((O2.2.2.2.2.ext E3).keep K4 (ninS ne_b1_b3 nin0)).keep K5 nin0)⟩) at_175 rfl rfl pd_4 rfl (argsL := [(.ref b1)]) (rest := []) rfl (W := 0) rfl (by decide) (by decide) (by decide) (by decide) (k' := 3) (n' := 9) rfl rfl ?_
                rintro h8 _ ⟨⟨w8, rfl, q8⟩, rfl⟩
                show W.Go p l e _ _ m _ below meth c _ _ _ _ _ _ (mkF m 178 #[.val (.long q0), .second, .val (.int p1), .val (.int p2), .val (.int p3), .val (.int p4), .val (.long q5), .second, .val (.int (7 : Int32)), .val (.int dd), .val (.long q0), .second, .val (.int p1), .val (.int p2), .val (.int p3), .val (.ref b1), .val (.ref b3), .val (.ref b5), .unset] [(.int w8)])
                obtain rfl : w8 = 1 := by rcases q8 with ⟨q, -⟩ | ⟨-, q⟩; exact q; exact absurd ⟨rfl, rfl, rfl, rfl⟩ q
                refine W.retZ C (w := (1 : Int32)) (by simp) at_178 (by decide) (by decide) (by decide) (fun _ _ _ _ q => q) ?_
                rfl
            · subst hc146
              refine W.aload C at_149 rfl rfl rfl ?_
              refine W.aconst_null C at_151 rfl ?_
              refine W.callV C (y := (⟨"com/example/interval/interval/join/PairCount", "equals", "(Ljava/lang/Object;)Z"⟩ : MethodName)) (a := b1) (hw _ (List.mem_of_getElem? (i := 25) rfl)) (hw _ (List.mem_of_getElem? (i := 26) rfl)) (W.nf_sel C (hw _ (List.mem_of_getElem? (i := 28) rfl))) (hw _ (List.mem_of_getElem? (i := 28) rfl)) (hw _ (List.mem_of_getElem? (i := 27) rfl)) (hw _ (List.mem_of_getElem? (i := 2) rfl)) (hw _ (List.mem_of_getElem? (i := 29) rfl)) (by decide) (((O2.1.ext E3).keep K4).keep K5) (fun hz => rm4n l Z a0 hw [] b1 h5 n0 hz) at_152 rfl rfl pd_4 rfl (argsL := [.null]) (rest := []) rfl (W := 0) rfl (by decide) (by decide) (by decide) (by decide) (k' := 3) (n' := 9) rfl rfl ?_
              rintro h9 _ ⟨rfl, rfl⟩
              show W.Go p l e _ _ m _ below meth c _ _ _ _ _ _ (mkF m 155 #[.val (.long q0), .second, .val (.int p1), .val (.int p2), .val (.int p3), .val (.int p4), .val (.long q5), .second, .val (.int (6 : Int32)), .val (.int dd), .val (.long q0), .second, .val (.int p1), .val (.int p2), .val (.int p3), .val (.ref b1), .val (.ref b3), .val (.ref b5), .unset] [(.int (0 : Int32))])
              refine W.ifc C (pc' := 162) (pn := 158) at_155 (by decide) rfl rfl (W.q_ne (0 : Int32) (0 : Int32)) (fun hc155 => ?_) (fun hc155 => ?_)
              · exact absurd rfl hc155
              refine W.iconst C (x := (1 : Int32)) at_158 rfl rfl ?_
              refine W.goto C (pc' := 163) at_159 (by decide) rfl ?_
              refine W.retZ C (w := (1 : Int32)) (by simp) at_163 (by decide) (by decide) (by decide) (fun _ _ _ _ q => q) ?_
              rfl
          · subst hc123
            refine W.aload C at_126 rfl rfl rfl ?_
            refine W.aload C at_128 rfl rfl rfl ?_
            refine W.callV C (y := (⟨"com/example/interval/interval/join/PairCount", "equals", "(Ljava/lang/Object;)Z"⟩ : MethodName)) (a := b1) (hw _ (List.mem_of_getElem? (i := 25) rfl)) (hw _ (List.mem_of_getElem? (i := 26) rfl)) (W.nf_sel C (hw _ (List.mem_of_getElem? (i := 28) rfl))) (hw _ (List.mem_of_getElem? (i := 28) rfl)) (hw _ (List.mem_of_getElem? (i := 27) rfl)) (hw _ (List.mem_of_getElem? (i := 2) rfl)) (hw _ (List.mem_of_getElem? (i := 29) rfl)) (by decide) (((O2.1.ext E3).keep K4).keep K5) (fun hz => rm4b l Z a0 hw [] b1 b5 h5 n0 hz X5) at_130 rfl rfl pd_4 rfl (argsL := [(.ref b5)]) (rest := []) rfl (W := 0) rfl (by decide) (by decide) (by decide) (by decide) (k' := 3) (n' := 9) rfl rfl ?_
            rintro h10 _ ⟨rfl, rfl⟩
            show W.Go p l e _ _ m _ below meth c _ _ _ _ _ _ (mkF m 133 #[.val (.long q0), .second, .val (.int p1), .val (.int p2), .val (.int p3), .val (.int p4), .val (.long q5), .second, .val (.int (5 : Int32)), .val (.int dd), .val (.long q0), .second, .val (.int p1), .val (.int p2), .val (.int p3), .val (.ref b1), .val (.ref b3), .val (.ref b5), .unset] [(.int (0 : Int32))])
            refine W.ifc C (pc' := 140) (pn := 136) at_133 (by decide) rfl rfl (W.q_ne (0 : Int32) (0 : Int32)) (fun hc133 => ?_) (fun hc133 => ?_)
            · exact absurd rfl hc133
            refine W.iconst C (x := (1 : Int32)) at_136 rfl rfl ?_
            refine W.goto C (pc' := 141) at_137 (by decide) rfl ?_
            refine W.retZ C (w := (1 : Int32)) (by simp) at_141 (by decide) (by decide) (by decide) (fun _ _ _ _ q => q) ?_
            rfl
        · subst hc73
          refine W.iload C at_76 rfl rfl ?_
          refine W.iload C at_78 rfl rfl ?_
          refine W.iadd C (z := (p3 + dd)) at_80 rfl rfl ?_
          refine W.istore C (Ls' := #[.val (.long q0), .second, .val (.int p1), .val (.int p2), .val (.int p3), .val (.int p4), .val (.long q5), .second, .val (.int (4 : Int32)), .val (.int dd), .val (.long q0), .second, .val (.int p1), .val (.int p2), .val (.int (p3 + dd)), .unset, .unset, .unset, .unset]) at_81 rfl rfl ?_
          refine W.new C (hw _ (List.mem_of_getElem? (i := 0) rfl)) (hw _ (List.mem_of_getElem? (i := 1) rfl)) (hw _ (List.mem_of_getElem? (i := 2) rfl)) at_83 rfl (by decide) (by decide) (k' := 1) (n' := 4) rfl rfl ?_
          intro h11 b11 gb11 g0_b11 E11 Ab11 Db11
          have Fb11_pairs : Fld Z h11 b11 "com/example/interval/interval/join/PairCount" "pairs" "J" (.long (0 : Int64)) := Db11 (Or.inr (hw _ (List.mem_of_getElem? (i := 10) rfl))) (ty := .long) (by decide)
          have Fb11_sources : Fld Z h11 b11 "com/example/interval/interval/join/PairCount" "sources" "I" (.int (0 : Int32)) := Db11 (Or.inr (hw _ (List.mem_of_getElem? (i := 12) rfl))) (ty := .int) (by decide)
          have Fb11_targets : Fld Z h11 b11 "com/example/interval/interval/join/PairCount" "targets" "I" (.int (0 : Int32)) := Db11 (Or.inr (hw _ (List.mem_of_getElem? (i := 14) rfl))) (ty := .int) (by decide)
          have Fb11_elementsRead : Fld Z h11 b11 "com/example/interval/interval/join/PairCount" "elementsRead" "I" (.int (0 : Int32)) := Db11 (Or.inr (hw _ (List.mem_of_getElem? (i := 16) rfl))) (ty := .int) (by decide)
          refine W.dup C at_86 rfl rfl ?_
          refine W.lloadN C at_87 rfl rfl ?_
          refine W.iloadN C at_88 rfl rfl ?_
          refine W.iloadN C at_89 rfl rfl ?_
          refine W.iload C at_90 rfl rfl ?_
          refine W.callSp C (y := (⟨"com/example/interval/interval/join/PairCount", "<init>", "(JIII)V"⟩ : MethodName)) (a := b11) rfl (hw _ (List.mem_of_getElem? (i := 3) rfl)) (hw _ (List.mem_of_getElem? (i := 4) rfl)) (hw _ (List.mem_of_getElem? (i := 2) rfl)) (hw _ (List.mem_of_getElem? (i := 5) rfl)) (by decide) (fun hz => rm1 l Z a0 hw [] b11 q0 p1 p2 p3 h11 n0 hz ⟨Ab11, Fb11_pairs, Fb11_sources, Fb11_targets, Fb11_elementsRead⟩ g0_b11) at_92 rfl rfl pd_2 rfl (argsL := [(.long q0), (.int p1), (.int p2), (.int p3)]) (rest := [(.ref b11)]) rfl (W := 1) rfl (by decide) (by decide) (by decide) (by decide) (k' := 1) (n' := 4) rfl rfl ?_
          rintro h12 _ ⟨rfl, K12, O12⟩
          show W.Go p l e _ _ m _ below meth c _ _ _ _ _ _ (mkF m 95 #[.val (.long q0), .second, .val (.int p1), .val (.int p2), .val (.int p3), .val (.int p4), .val (.long q5), .second, .val (.int (4 : Int32)), .val (.int dd), .val (.long q0), .second, .val (.int p1), .val (.int p2), .val (.int (p3 + dd)), .unset, .unset, .unset, .unset] [(.ref b11)])
          refine W.astore C (Ls' := #[.val (.long q0), .second, .val (.int p1), .val (.int p2), .val (.int p3), .val (.int p4), .val (.long q5), .second, .val (.int (4 : Int32)), .val (.int dd), .val (.long q0), .second, .val (.int p1), .val (.int p2), .val (.int (p3 + dd)), .val (.ref b11), .unset, .unset, .unset]) at_95 rfl rfl rfl ?_
          refine W.new C (hw _ (List.mem_of_getElem? (i := 0) rfl)) (hw _ (List.mem_of_getElem? (i := 1) rfl)) (hw _ (List.mem_of_getElem? (i := 2) rfl)) at_97 rfl (by decide) (by decide) (k' := 2) (n' := 8) rfl rfl ?_
          intro h13 b13 gb13 g0_b13 E13 Ab13 Db13
          have ne_b11_b13 : b11 ≠ b13 := Nat.ne_of_lt (by rw [gb13]; exact O12.1.lt)
          have Fb13_pairs : Fld Z h13 b13 "com/example/interval/interval/join/PairCount" "pairs" "J" (.long (0 : Int64)) := Db13 (Or.inr (hw _ (List.mem_of_getElem? (i := 10) rfl))) (ty := .long) (by decide)
          have Fb13_sources : Fld Z h13 b13 "com/example/interval/interval/join/PairCount" "sources" "I" (.int (0 : Int32)) := Db13 (Or.inr (hw _ (List.mem_of_getElem? (i := 12) rfl))) (ty := .int) (by decide)
          have Fb13_targets : Fld Z h13 b13 "com/example/interval/interval/join/PairCount" "targets" "I" (.int (0 : Int32)) := Db13 (Or.inr (hw _ (List.mem_of_getElem? (i := 14) rfl))) (ty := .int) (by decide)
          have Fb13_elementsRead : Fld Z h13 b13 "com/example/interval/interval/join/PairCount" "elementsRead" "I" (.int (0 : Int32)) := Db13 (Or.inr (hw _ (List.mem_of_getElem? (i := 16) rfl))) (ty := .int) (by decide)
          refine W.dup C at_100 rfl rfl ?_
          refine W.lload C at_101 rfl rfl ?_
          refine W.iload C at_103 rfl rfl ?_
          refine W.iload C at_105 rfl rfl ?_
          refine W.iload C at_107 rfl rfl ?_
          refine W.callSp C (y := (⟨"com/example/interval/interval/join/PairCount", "<init>", "(JIII)V"⟩ : MethodName)) (a := b13) rfl (hw _ (List.mem_of_getElem? (i := 3) rfl)) (hw _ (List.mem_of_getElem? (i := 4) rfl)) (hw _ (List.mem_of_getElem? (i := 2) rfl)) (hw _ (List.mem_of_getElem? (i := 5) rfl)) (by decide) (fun hz => rm1 l Z a0 hw [] b13 q0 p1 p2 (p3 + dd) h13 n0 hz ⟨Ab13, Fb13_pairs, Fb13_sources, Fb13_targets, Fb13_elementsRead⟩ g0_b13) at_109 rfl rfl pd_2 rfl (argsL := [(.long q0), (.int p1), (.int p2), (.int (p3 + dd))]) (rest := [(.ref b13)]) rfl (W := 1) rfl (by decide) (by decide) (by decide) (by decide) (k' := 2) (n' := 8) rfl rfl ?_
          rintro h14 _ ⟨rfl, K14, O14⟩
          show W.Go p l e _ _ m _ below meth c _ _ _ _ _ _ (mkF m 112 #[.val (.long q0), .second, .val (.int p1), .val (.int p2), .val (.int p3), .val (.int p4), .val (.long q5), .second, .val (.int (4 : Int32)), .val (.int dd), .val (.long q0), .second, .val (.int p1), .val (.int p2), .val (.int (p3 + dd)), .val (.ref b11), .unset, .unset, .unset] [(.ref b13)])
          refine W.astore C (Ls' := #[.val (.long q0), .second, .val (.int p1), .val (.int p2), .val (.int p3), .val (.int p4), .val (.long q5), .second, .val (.int (4 : Int32)), .val (.int dd), .val (.long q0), .second, .val (.int p1), .val (.int p2), .val (.int (p3 + dd)), .val (.ref b11), .val (.ref b13), .unset, .unset]) at_112 rfl rfl rfl ?_
          refine W.lloadN C at_114 rfl rfl ?_
          refine W.callS C (y := (⟨"java/lang/Long", "valueOf", "(J)Ljava/lang/Long;"⟩ : MethodName)) (hw _ (List.mem_of_getElem? (i := 17) rfl)) (hw _ (List.mem_of_getElem? (i := 18) rfl)) (hw _ (List.mem_of_getElem? (i := 19) rfl)) (hw _ (List.mem_of_getElem? (i := 20) rfl)) (by decide) (fun hz => rm3 l Z a0 hw [] q0 ac cc val h14 n0 hz (SC.ext ((((OO.ext E11).keep K12 (allS g0_b11 all0)).ext E13).keep K14 (allS g0_b13 all0)).2) BX ((((OO.ext E11).keep K12 (allS g0_b11 all0)).ext E13).keep K14 (allS g0_b13 all0))) at_115 rfl rfl pd_3 rfl (argsL := [(.long q0)]) (rest := []) rfl (W := 0) rfl (by decide) (by decide) (by decide) (by decide) (k' := 3) (n' := 9) rfl rfl ?_
          rintro h15 _ ⟨b15, rfl, X15, K15⟩
          show W.Go p l e _ _ m _ below meth c _ _ _ _ _ _ (mkF m 118 #[.val (.long q0), .second, .val (.int p1), .val (.int p2), .val (.int p3), .val (.int p4), .val (.long q5), .second, .val (.int (4 : Int32)), .val (.int dd), .val (.long q0), .second, .val (.int p1), .val (.int p2), .val (.int (p3 + dd)), .val (.ref b11), .val (.ref b13), .unset, .unset] [(.ref b15)])
          refine W.astore C (Ls' := #[.val (.long q0), .second, .val (.int p1), .val (.int p2), .val (.int p3), .val (.int p4), .val (.long q5), .second, .val (.int (4 : Int32)), .val (.int dd), .val (.long q0), .second, .val (.int p1), .val (.int p2), .val (.int (p3 + dd)), .val (.ref b11), .val (.ref b13), .val (.ref b15), .unset]) at_118 rfl rfl rfl ?_
          refine W.iload C at_120 rfl rfl ?_
          refine W.iconst C (x := (5 : Int32)) at_122 rfl rfl ?_
          refine W.icmp C (pc' := 142) (pn := 126) at_123 (by decide) rfl rfl (W.q_ne (4 : Int32) (5 : Int32)) (fun hc123 => ?_) (fun hc123 => ?_)
          rotate_left
          · exact absurd hc123 (by decide)
          refine W.iload C at_142 rfl rfl ?_
          refine W.bipush C (x := (6 : Int32)) at_144 rfl rfl ?_
          refine W.icmp C (pc' := 164) (pn := 149) at_146 (by decide) rfl rfl (W.q_ne (4 : Int32) (6 : Int32)) (fun hc146 => ?_) (fun hc146 => ?_)
          rotate_left
          · exact absurd hc146 (by decide)
          refine W.iload C at_164 rfl rfl ?_
          refine W.bipush C (x := (7 : Int32)) at_166 rfl rfl ?_
          refine W.icmp C (pc' := 179) (pn := 171) at_168 (by decide) rfl rfl (W.q_ne (4 : Int32) (7 : Int32)) (fun hc168 => ?_) (fun hc168 => ?_)
          rotate_left
          · exact absurd hc168 (by decide)
          refine W.iload C at_179 rfl rfl ?_
          refine W.ifc C (pc' := 190) (pn := 184) at_181 (by decide) rfl rfl (W.q_ne (4 : Int32) (0 : Int32)) (fun hc181 => ?_) (fun hc181 => ?_)
          rotate_left
          · exact absurd hc181 (by decide)
          refine W.iload C at_190 rfl rfl ?_
          refine W.iconst C (x := (1 : Int32)) at_192 rfl rfl ?_
          refine W.icmp C (pc' := 213) (pn := 196) at_193 (by decide) rfl rfl (W.q_ne (4 : Int32) (1 : Int32)) (fun hc193 => ?_) (fun hc193 => ?_)
          rotate_left
          · exact absurd hc193 (by decide)
          refine W.iload C at_213 rfl rfl ?_
          refine W.ifc C (pc' := 222) (pn := 218) at_215 (by decide) rfl rfl (W.q_ne dd (0 : Int32)) (fun hc215 => ?_) (fun hc215 => ?_)
          · refine W.iconst C (x := (0 : Int32)) at_222 rfl rfl ?_
            refine W.istore C (Ls' := #[.val (.long q0), .second, .val (.int p1), .val (.int p2), .val (.int p3), .val (.int p4), .val (.long q5), .second, .val (.int (4 : Int32)), .val (.int dd), .val (.long q0), .second, .val (.int p1), .val (.int p2), .val (.int (p3 + dd)), .val (.ref b11), .val (.ref b13), .val (.ref b15), .val (.int (0 : Int32))]) at_223 rfl rfl ?_
            refine W.aload C at_225 rfl rfl rfl ?_
            refine W.aload C at_227 rfl rfl rfl ?_
            refine W.callV C (y := (⟨"com/example/interval/interval/join/PairCount", "equals", "(Ljava/lang/Object;)Z"⟩ : MethodName)) (a := b11) (hw _ (List.mem_of_getElem? (i := 25) rfl)) (hw _ (List.mem_of_getElem? (i := 26) rfl)) (W.nf_sel C (hw _ (List.mem_of_getElem? (i := 28) rfl))) (hw _ (List.mem_of_getElem? (i := 28) rfl)) (hw _ (List.mem_of_getElem? (i := 27) rfl)) (hw _ (List.mem_of_getElem? (i := 2) rfl)) (hw _ (List.mem_of_getElem? (i := 29) rfl)) (by decide) (((O12.1.ext E13).keep K14).keep K15) (fun hz => rm4 l Z a0 hw [] b11 b13 q0 p1 p2 p3 q0 p1 p2 (p3 + dd) h15 n0 hz ⟨(((O12.1.ext E13).keep K14).keep K15), (((O12.2.1.ext E13).keep K14 (ninS ne_b11_b13 nin0)).keep K15 nin0), (((O12.2.2.1.ext E13).keep K14 (ninS ne_b11_b13 nin0)).keep K15 nin0), (((O12.2.2.2.1.ext E13).keep K14 (ninS ne_b11_b13 nin0)).keep K15 nin0), (((O12.2.2.2.2.ext E13).keep K14 (ninS ne_b11_b13 nin0)).keep K15 nin0)⟩ ⟨(O14.1.keep K15), (O14.2.1.keep K15 nin0), (O14.2.2.1.keep K15 nin0), (O14.2.2.2.1.keep K15 nin0), (O14.2.2.2.2.keep K15 nin0)⟩) at_229 rfl rfl pd_4 rfl (argsL := [(.ref b13)]) (rest := []) rfl (W := 0) rfl (by decide) (by decide) (by decide) (by decide) (k' := 3) (n' := 9) rfl rfl ?_
            rintro h16 _ ⟨⟨w16, rfl, q16⟩, rfl⟩
            show W.Go p l e _ _ m _ below meth c _ _ _ _ _ _ (mkF m 232 #[.val (.long q0), .second, .val (.int p1), .val (.int p2), .val (.int p3), .val (.int p4), .val (.long q5), .second, .val (.int (4 : Int32)), .val (.int dd), .val (.long q0), .second, .val (.int p1), .val (.int p2), .val (.int (p3 + dd)), .val (.ref b11), .val (.ref b13), .val (.ref b15), .val (.int (0 : Int32))] [(.int w16)])
            refine W.iload C at_232 rfl rfl ?_
            refine W.icmp C (pc' := 253) (pn := 237) at_234 (by decide) rfl rfl (W.q_ne w16 (0 : Int32)) (fun hc234 => ?_) (fun hc234 => ?_)
            · refine W.iconst C (x := (0 : Int32)) at_253 rfl rfl ?_
              refine W.retZ C (w := (0 : Int32)) (by simp) at_254 (by decide) (by decide) (by decide) (fun _ _ _ _ q => q) ?_
              exfalso
              rcases q16 with ⟨rfl, g⟩ | ⟨rfl, g⟩
              · first | exact hc234 rfl | (simp [own_addL, own_addI, eq_comm, hc215] at g; done)
              · first | exact hc234 rfl | (simp [own_addL, own_addI, eq_comm, hc215] at g; done)
            · refine W.aload C at_237 rfl rfl rfl ?_
              refine W.aload C at_239 rfl rfl rfl ?_
              refine W.callV C (y := (⟨"com/example/interval/interval/join/PairCount", "equals", "(Ljava/lang/Object;)Z"⟩ : MethodName)) (a := b13) (hw _ (List.mem_of_getElem? (i := 25) rfl)) (hw _ (List.mem_of_getElem? (i := 26) rfl)) (W.nf_sel C (hw _ (List.mem_of_getElem? (i := 28) rfl))) (hw _ (List.mem_of_getElem? (i := 28) rfl)) (hw _ (List.mem_of_getElem? (i := 27) rfl)) (hw _ (List.mem_of_getElem? (i := 2) rfl)) (hw _ (List.mem_of_getElem? (i := 29) rfl)) (by decide) (O14.1.keep K15) (fun hz => rm4 l Z a0 hw [] b13 b11 q0 p1 p2 (p3 + dd) q0 p1 p2 p3 h15 n0 hz ⟨(O14.1.keep K15), (O14.2.1.keep K15 nin0), (O14.2.2.1.keep K15 nin0), (O14.2.2.2.1.keep K15 nin0), (O14.2.2.2.2.keep K15 nin0)⟩ ⟨(((O12.1.ext E13).keep K14).keep K15), (((O12.2.1.ext E13).keep K14 (ninS ne_b11_b13 nin0)).keep K15 nin0), (((O12.2.2.1.ext E13).keep K14 (ninS ne_b11_b13 nin0)).keep K15 nin0), (((O12.2.2.2.1.ext E13).keep K14 (ninS ne_b11_b13 nin0)).keep K15 nin0), (((O12.2.2.2.2.ext E13).keep K14 (ninS ne_b11_b13 nin0)).keep K15 nin0)⟩) at_241 rfl rfl pd_4 rfl (argsL := [(.ref b11)]) (rest := []) rfl (W := 0) rfl (by decide) (by decide) (by decide) (by decide) (k' := 3) (n' := 9) rfl rfl ?_
              rintro h17 _ ⟨⟨w17, rfl, q17⟩, rfl⟩
              show W.Go p l e _ _ m _ below meth c _ _ _ _ _ _ (mkF m 244 #[.val (.long q0), .second, .val (.int p1), .val (.int p2), .val (.int p3), .val (.int p4), .val (.long q5), .second, .val (.int (4 : Int32)), .val (.int dd), .val (.long q0), .second, .val (.int p1), .val (.int p2), .val (.int (p3 + dd)), .val (.ref b11), .val (.ref b13), .val (.ref b15), .val (.int (0 : Int32))] [(.int w17)])
              refine W.iload C at_244 rfl rfl ?_
              refine W.icmp C (pc' := 253) (pn := 249) at_246 (by decide) rfl rfl (W.q_ne w17 (0 : Int32)) (fun hc246 => ?_) (fun hc246 => ?_)
              · refine W.iconst C (x := (0 : Int32)) at_253 rfl rfl ?_
                refine W.retZ C (w := (0 : Int32)) (by simp) at_254 (by decide) (by decide) (by decide) (fun _ _ _ _ q => q) ?_
                exfalso
                rcases q17 with ⟨rfl, g⟩ | ⟨rfl, g⟩
                · first | exact hc246 rfl | (simp [own_addL, own_addI, eq_comm, hc215] at g; done)
                · first | exact hc246 rfl | (simp [own_addL, own_addI, eq_comm, hc215] at g; done)
              · refine W.iconst C (x := (1 : Int32)) at_249 rfl rfl ?_
                refine W.goto C (pc' := 254) at_250 (by decide) rfl ?_
                refine W.retZ C (w := (1 : Int32)) (by simp) at_254 (by decide) (by decide) (by decide) (fun _ _ _ _ q => q) ?_
                rfl
          · refine W.iconst C (x := (1 : Int32)) at_218 rfl rfl ?_
            refine W.goto C (pc' := 223) at_219 (by decide) rfl ?_
            refine W.istore C (Ls' := #[.val (.long q0), .second, .val (.int p1), .val (.int p2), .val (.int p3), .val (.int p4), .val (.long q5), .second, .val (.int (4 : Int32)), .val (.int dd), .val (.long q0), .second, .val (.int p1), .val (.int p2), .val (.int (p3 + dd)), .val (.ref b11), .val (.ref b13), .val (.ref b15), .val (.int (1 : Int32))]) at_223 rfl rfl ?_
            refine W.aload C at_225 rfl rfl rfl ?_
            refine W.aload C at_227 rfl rfl rfl ?_
            refine W.callV C (y := (⟨"com/example/interval/interval/join/PairCount", "equals", "(Ljava/lang/Object;)Z"⟩ : MethodName)) (a := b11) (hw _ (List.mem_of_getElem? (i := 25) rfl)) (hw _ (List.mem_of_getElem? (i := 26) rfl)) (W.nf_sel C (hw _ (List.mem_of_getElem? (i := 28) rfl))) (hw _ (List.mem_of_getElem? (i := 28) rfl)) (hw _ (List.mem_of_getElem? (i := 27) rfl)) (hw _ (List.mem_of_getElem? (i := 2) rfl)) (hw _ (List.mem_of_getElem? (i := 29) rfl)) (by decide) (((O12.1.ext E13).keep K14).keep K15) (fun hz => rm4 l Z a0 hw [] b11 b13 q0 p1 p2 p3 q0 p1 p2 (p3 + dd) h15 n0 hz ⟨(((O12.1.ext E13).keep K14).keep K15), (((O12.2.1.ext E13).keep K14 (ninS ne_b11_b13 nin0)).keep K15 nin0), (((O12.2.2.1.ext E13).keep K14 (ninS ne_b11_b13 nin0)).keep K15 nin0), (((O12.2.2.2.1.ext E13).keep K14 (ninS ne_b11_b13 nin0)).keep K15 nin0), (((O12.2.2.2.2.ext E13).keep K14 (ninS ne_b11_b13 nin0)).keep K15 nin0)⟩ ⟨(O14.1.keep K15), (O14.2.1.keep K15 nin0), (O14.2.2.1.keep K15 nin0), (O14.2.2.2.1.keep K15 nin0), (O14.2.2.2.2.keep K15 nin0)⟩) at_229 rfl rfl pd_4 rfl (argsL := [(.ref b13)]) (rest := []) rfl (W := 0) rfl (by decide) (by decide) (by decide) (by decide) (k' := 3) (n' := 9) rfl rfl ?_
            rintro h18 _ ⟨⟨w18, rfl, q18⟩, rfl⟩
            show W.Go p l e _ _ m _ below meth c _ _ _ _ _ _ (mkF m 232 #[.val (.long q0), .second, .val (.int p1), .val (.int p2), .val (.int p3), .val (.int p4), .val (.long q5), .second, .val (.int (4 : Int32)), .val (.int dd), .val (.long q0), .second, .val (.int p1), .val (.int p2), .val (.int (p3 + dd)), .val (.ref b11), .val (.ref b13), .val (.ref b15), .val (.int (1 : Int32))] [(.int w18)])
            refine W.iload C at_232 rfl rfl ?_
            refine W.icmp C (pc' := 253) (pn := 237) at_234 (by decide) rfl rfl (W.q_ne w18 (1 : Int32)) (fun hc234 => ?_) (fun hc234 => ?_)
            · refine W.iconst C (x := (0 : Int32)) at_253 rfl rfl ?_
              refine W.retZ C (w := (0 : Int32)) (by simp) at_254 (by decide) (by decide) (by decide) (fun _ _ _ _ q => q) ?_
              exfalso
              rcases q18 with ⟨rfl, g⟩ | ⟨rfl, g⟩
              · first | exact hc234 rfl | (simp [own_addL, own_addI, eq_comm, hc215] at g; done)
              · first | exact hc234 rfl | (simp [own_addL, own_addI, eq_comm, hc215] at g; done)
            · refine W.aload C at_237 rfl rfl rfl ?_
              refine W.aload C at_239 rfl rfl rfl ?_
              refine W.callV C (y := (⟨"com/example/interval/interval/join/PairCount", "equals", "(Ljava/lang/Object;)Z"⟩ : MethodName)) (a := b13) (hw _ (List.mem_of_getElem? (i := 25) rfl)) (hw _ (List.mem_of_getElem? (i := 26) rfl)) (W.nf_sel C (hw _ (List.mem_of_getElem? (i := 28) rfl))) (hw _ (List.mem_of_getElem? (i := 28) rfl)) (hw _ (List.mem_of_getElem? (i := 27) rfl)) (hw _ (List.mem_of_getElem? (i := 2) rfl)) (hw _ (List.mem_of_getElem? (i := 29) rfl)) (by decide) (O14.1.keep K15) (fun hz => rm4 l Z a0 hw [] b13 b11 q0 p1 p2 (p3 + dd) q0 p1 p2 p3 h15 n0 hz ⟨(O14.1.keep K15), (O14.2.1.keep K15 nin0), (O14.2.2.1.keep K15 nin0), (O14.2.2.2.1.keep K15 nin0), (O14.2.2.2.2.keep K15 nin0)⟩ ⟨(((O12.1.ext E13).keep K14).keep K15), (((O12.2.1.ext E13).keep K14 (ninS ne_b11_b13 nin0)).keep K15 nin0), (((O12.2.2.1.ext E13).keep K14 (ninS ne_b11_b13 nin0)).keep K15 nin0), (((O12.2.2.2.1.ext E13).keep K14 (ninS ne_b11_b13 nin0)).keep K15 nin0), (((O12.2.2.2.2.ext E13).keep K14 (ninS ne_b11_b13 nin0)).keep K15 nin0)⟩) at_241 rfl rfl pd_4 rfl (argsL := [(.ref b11)]) (rest := []) rfl (W := 0) rfl (by decide) (by decide) (by decide) (by decide) (k' := 3) (n' := 9) rfl rfl ?_
              rintro h19 _ ⟨⟨w19, rfl, q19⟩, rfl⟩
              show W.Go p l e _ _ m _ below meth c _ _ _ _ _ _ (mkF m 244 #[.val (.long q0), .second, .val (.int p1), .val (.int p2), .val (.int p3), .val (.int p4), .val (.long q5), .second, .val (.int (4 : Int32)), .val (.int dd), .val (.long q0), .second, .val (.int p1), .val (.int p2), .val (.int (p3 + dd)), .val (.ref b11), .val (.ref b13), .val (.ref b15), .val (.int (1 : Int32))] [(.int w19)])
              refine W.iload C at_244 rfl rfl ?_
              refine W.icmp C (pc' := 253) (pn := 249) at_246 (by decide) rfl rfl (W.q_ne w19 (1 : Int32)) (fun hc246 => ?_) (fun hc246 => ?_)
              · refine W.iconst C (x := (0 : Int32)) at_253 rfl rfl ?_
                refine W.retZ C (w := (0 : Int32)) (by simp) at_254 (by decide) (by decide) (by decide) (fun _ _ _ _ q => q) ?_
                exfalso
                rcases q19 with ⟨rfl, g⟩ | ⟨rfl, g⟩
                · first | exact hc246 rfl | (simp [own_addL, own_addI, eq_comm, hc215] at g; done)
                · first | exact hc246 rfl | (simp [own_addL, own_addI, eq_comm, hc215] at g; done)
              · refine W.iconst C (x := (1 : Int32)) at_249 rfl rfl ?_
                refine W.goto C (pc' := 254) at_250 (by decide) rfl ?_
                refine W.retZ C (w := (1 : Int32)) (by simp) at_254 (by decide) (by decide) (by decide) (fun _ _ _ _ q => q) ?_
                rfl
      · subst hc58
        refine W.iloadN C at_61 rfl rfl ?_
        refine W.iload C at_62 rfl rfl ?_
        refine W.iadd C (z := (p2 + dd)) at_64 rfl rfl ?_
        refine W.istore C (Ls' := #[.val (.long q0), .second, .val (.int p1), .val (.int p2), .val (.int p3), .val (.int p4), .val (.long q5), .second, .val (.int (3 : Int32)), .val (.int dd), .val (.long q0), .second, .val (.int p1), .val (.int (p2 + dd)), .val (.int p3), .unset, .unset, .unset, .unset]) at_65 rfl rfl ?_
        refine W.goto C (pc' := 83) at_67 (by decide) rfl ?_
        refine W.new C (hw _ (List.mem_of_getElem? (i := 0) rfl)) (hw _ (List.mem_of_getElem? (i := 1) rfl)) (hw _ (List.mem_of_getElem? (i := 2) rfl)) at_83 rfl (by decide) (by decide) (k' := 1) (n' := 4) rfl rfl ?_
        intro h20 b20 gb20 g0_b20 E20 Ab20 Db20
        have Fb20_pairs : Fld Z h20 b20 "com/example/interval/interval/join/PairCount" "pairs" "J" (.long (0 : Int64)) := Db20 (Or.inr (hw _ (List.mem_of_getElem? (i := 10) rfl))) (ty := .long) (by decide)
        have Fb20_sources : Fld Z h20 b20 "com/example/interval/interval/join/PairCount" "sources" "I" (.int (0 : Int32)) := Db20 (Or.inr (hw _ (List.mem_of_getElem? (i := 12) rfl))) (ty := .int) (by decide)
        have Fb20_targets : Fld Z h20 b20 "com/example/interval/interval/join/PairCount" "targets" "I" (.int (0 : Int32)) := Db20 (Or.inr (hw _ (List.mem_of_getElem? (i := 14) rfl))) (ty := .int) (by decide)
        have Fb20_elementsRead : Fld Z h20 b20 "com/example/interval/interval/join/PairCount" "elementsRead" "I" (.int (0 : Int32)) := Db20 (Or.inr (hw _ (List.mem_of_getElem? (i := 16) rfl))) (ty := .int) (by decide)
        refine W.dup C at_86 rfl rfl ?_
        refine W.lloadN C at_87 rfl rfl ?_
        refine W.iloadN C at_88 rfl rfl ?_
        refine W.iloadN C at_89 rfl rfl ?_
        refine W.iload C at_90 rfl rfl ?_
        refine W.callSp C (y := (⟨"com/example/interval/interval/join/PairCount", "<init>", "(JIII)V"⟩ : MethodName)) (a := b20) rfl (hw _ (List.mem_of_getElem? (i := 3) rfl)) (hw _ (List.mem_of_getElem? (i := 4) rfl)) (hw _ (List.mem_of_getElem? (i := 2) rfl)) (hw _ (List.mem_of_getElem? (i := 5) rfl)) (by decide) (fun hz => rm1 l Z a0 hw [] b20 q0 p1 p2 p3 h20 n0 hz ⟨Ab20, Fb20_pairs, Fb20_sources, Fb20_targets, Fb20_elementsRead⟩ g0_b20) at_92 rfl rfl pd_2 rfl (argsL := [(.long q0), (.int p1), (.int p2), (.int p3)]) (rest := [(.ref b20)]) rfl (W := 1) rfl (by decide) (by decide) (by decide) (by decide) (k' := 1) (n' := 4) rfl rfl ?_
        rintro h21 _ ⟨rfl, K21, O21⟩
        show W.Go p l e _ _ m _ below meth c _ _ _ _ _ _ (mkF m 95 #[.val (.long q0), .second, .val (.int p1), .val (.int p2), .val (.int p3), .val (.int p4), .val (.long q5), .second, .val (.int (3 : Int32)), .val (.int dd), .val (.long q0), .second, .val (.int p1), .val (.int (p2 + dd)), .val (.int p3), .unset, .unset, .unset, .unset] [(.ref b20)])
        refine W.astore C (Ls' := #[.val (.long q0), .second, .val (.int p1), .val (.int p2), .val (.int p3), .val (.int p4), .val (.long q5), .second, .val (.int (3 : Int32)), .val (.int dd), .val (.long q0), .second, .val (.int p1), .val (.int (p2 + dd)), .val (.int p3), .val (.ref b20), .unset, .unset, .unset]) at_95 rfl rfl rfl ?_
        refine W.new C (hw _ (List.mem_of_getElem? (i := 0) rfl)) (hw _ (List.mem_of_getElem? (i := 1) rfl)) (hw _ (List.mem_of_getElem? (i := 2) rfl)) at_97 rfl (by decide) (by decide) (k' := 2) (n' := 8) rfl rfl ?_
        intro h22 b22 gb22 g0_b22 E22 Ab22 Db22
        have ne_b20_b22 : b20 ≠ b22 := Nat.ne_of_lt (by rw [gb22]; exact O21.1.lt)
        have Fb22_pairs : Fld Z h22 b22 "com/example/interval/interval/join/PairCount" "pairs" "J" (.long (0 : Int64)) := Db22 (Or.inr (hw _ (List.mem_of_getElem? (i := 10) rfl))) (ty := .long) (by decide)
        have Fb22_sources : Fld Z h22 b22 "com/example/interval/interval/join/PairCount" "sources" "I" (.int (0 : Int32)) := Db22 (Or.inr (hw _ (List.mem_of_getElem? (i := 12) rfl))) (ty := .int) (by decide)
        have Fb22_targets : Fld Z h22 b22 "com/example/interval/interval/join/PairCount" "targets" "I" (.int (0 : Int32)) := Db22 (Or.inr (hw _ (List.mem_of_getElem? (i := 14) rfl))) (ty := .int) (by decide)
        have Fb22_elementsRead : Fld Z h22 b22 "com/example/interval/interval/join/PairCount" "elementsRead" "I" (.int (0 : Int32)) := Db22 (Or.inr (hw _ (List.mem_of_getElem? (i := 16) rfl))) (ty := .int) (by decide)
        refine W.dup C at_100 rfl rfl ?_
        refine W.lload C at_101 rfl rfl ?_
        refine W.iload C at_103 rfl rfl ?_
        refine W.iload C at_105 rfl rfl ?_
        refine W.iload C at_107 rfl rfl ?_
        refine W.callSp C (y := (⟨"com/example/interval/interval/join/PairCount", "<init>", "(JIII)V"⟩ : MethodName)) (a := b22) rfl (hw _ (List.mem_of_getElem? (i := 3) rfl)) (hw _ (List.mem_of_getElem? (i := 4) rfl)) (hw _ (List.mem_of_getElem? (i := 2) rfl)) (hw _ (List.mem_of_getElem? (i := 5) rfl)) (by decide) (fun hz => rm1 l Z a0 hw [] b22 q0 p1 (p2 + dd) p3 h22 n0 hz ⟨Ab22, Fb22_pairs, Fb22_sources, Fb22_targets, Fb22_elementsRead⟩ g0_b22) at_109 rfl rfl pd_2 rfl (argsL := [(.long q0), (.int p1), (.int (p2 + dd)), (.int p3)]) (rest := [(.ref b22)]) rfl (W := 1) rfl (by decide) (by decide) (by decide) (by decide) (k' := 2) (n' := 8) rfl rfl ?_
        rintro h23 _ ⟨rfl, K23, O23⟩
        show W.Go p l e _ _ m _ below meth c _ _ _ _ _ _ (mkF m 112 #[.val (.long q0), .second, .val (.int p1), .val (.int p2), .val (.int p3), .val (.int p4), .val (.long q5), .second, .val (.int (3 : Int32)), .val (.int dd), .val (.long q0), .second, .val (.int p1), .val (.int (p2 + dd)), .val (.int p3), .val (.ref b20), .unset, .unset, .unset] [(.ref b22)])
        refine W.astore C (Ls' := #[.val (.long q0), .second, .val (.int p1), .val (.int p2), .val (.int p3), .val (.int p4), .val (.long q5), .second, .val (.int (3 : Int32)), .val (.int dd), .val (.long q0), .second, .val (.int p1), .val (.int (p2 + dd)), .val (.int p3), .val (.ref b20), .val (.ref b22), .unset, .unset]) at_112 rfl rfl rfl ?_
        refine W.lloadN C at_114 rfl rfl ?_
        refine W.callS C (y := (⟨"java/lang/Long", "valueOf", "(J)Ljava/lang/Long;"⟩ : MethodName)) (hw _ (List.mem_of_getElem? (i := 17) rfl)) (hw _ (List.mem_of_getElem? (i := 18) rfl)) (hw _ (List.mem_of_getElem? (i := 19) rfl)) (hw _ (List.mem_of_getElem? (i := 20) rfl)) (by decide) (fun hz => rm3 l Z a0 hw [] q0 ac cc val h23 n0 hz (SC.ext ((((OO.ext E20).keep K21 (allS g0_b20 all0)).ext E22).keep K23 (allS g0_b22 all0)).2) BX ((((OO.ext E20).keep K21 (allS g0_b20 all0)).ext E22).keep K23 (allS g0_b22 all0))) at_115 rfl rfl pd_3 rfl (argsL := [(.long q0)]) (rest := []) rfl (W := 0) rfl (by decide) (by decide) (by decide) (by decide) (k' := 3) (n' := 9) rfl rfl ?_
        rintro h24 _ ⟨b24, rfl, X24, K24⟩
        show W.Go p l e _ _ m _ below meth c _ _ _ _ _ _ (mkF m 118 #[.val (.long q0), .second, .val (.int p1), .val (.int p2), .val (.int p3), .val (.int p4), .val (.long q5), .second, .val (.int (3 : Int32)), .val (.int dd), .val (.long q0), .second, .val (.int p1), .val (.int (p2 + dd)), .val (.int p3), .val (.ref b20), .val (.ref b22), .unset, .unset] [(.ref b24)])
        refine W.astore C (Ls' := #[.val (.long q0), .second, .val (.int p1), .val (.int p2), .val (.int p3), .val (.int p4), .val (.long q5), .second, .val (.int (3 : Int32)), .val (.int dd), .val (.long q0), .second, .val (.int p1), .val (.int (p2 + dd)), .val (.int p3), .val (.ref b20), .val (.ref b22), .val (.ref b24), .unset]) at_118 rfl rfl rfl ?_
        refine W.iload C at_120 rfl rfl ?_
        refine W.iconst C (x := (5 : Int32)) at_122 rfl rfl ?_
        refine W.icmp C (pc' := 142) (pn := 126) at_123 (by decide) rfl rfl (W.q_ne (3 : Int32) (5 : Int32)) (fun hc123 => ?_) (fun hc123 => ?_)
        rotate_left
        · exact absurd hc123 (by decide)
        refine W.iload C at_142 rfl rfl ?_
        refine W.bipush C (x := (6 : Int32)) at_144 rfl rfl ?_
        refine W.icmp C (pc' := 164) (pn := 149) at_146 (by decide) rfl rfl (W.q_ne (3 : Int32) (6 : Int32)) (fun hc146 => ?_) (fun hc146 => ?_)
        rotate_left
        · exact absurd hc146 (by decide)
        refine W.iload C at_164 rfl rfl ?_
        refine W.bipush C (x := (7 : Int32)) at_166 rfl rfl ?_
        refine W.icmp C (pc' := 179) (pn := 171) at_168 (by decide) rfl rfl (W.q_ne (3 : Int32) (7 : Int32)) (fun hc168 => ?_) (fun hc168 => ?_)
        rotate_left
        · exact absurd hc168 (by decide)
        refine W.iload C at_179 rfl rfl ?_
        refine W.ifc C (pc' := 190) (pn := 184) at_181 (by decide) rfl rfl (W.q_ne (3 : Int32) (0 : Int32)) (fun hc181 => ?_) (fun hc181 => ?_)
        rotate_left
        · exact absurd hc181 (by decide)
        refine W.iload C at_190 rfl rfl ?_
        refine W.iconst C (x := (1 : Int32)) at_192 rfl rfl ?_
        refine W.icmp C (pc' := 213) (pn := 196) at_193 (by decide) rfl rfl (W.q_ne (3 : Int32) (1 : Int32)) (fun hc193 => ?_) (fun hc193 => ?_)
        rotate_left
        · exact absurd hc193 (by decide)
        refine W.iload C at_213 rfl rfl ?_
        refine W.ifc C (pc' := 222) (pn := 218) at_215 (by decide) rfl rfl (W.q_ne dd (0 : Int32)) (fun hc215 => ?_) (fun hc215 => ?_)
        · refine W.iconst C (x := (0 : Int32)) at_222 rfl rfl ?_
          refine W.istore C (Ls' := #[.val (.long q0), .second, .val (.int p1), .val (.int p2), .val (.int p3), .val (.int p4), .val (.long q5), .second, .val (.int (3 : Int32)), .val (.int dd), .val (.long q0), .second, .val (.int p1), .val (.int (p2 + dd)), .val (.int p3), .val (.ref b20), .val (.ref b22), .val (.ref b24), .val (.int (0 : Int32))]) at_223 rfl rfl ?_
          refine W.aload C at_225 rfl rfl rfl ?_
          refine W.aload C at_227 rfl rfl rfl ?_
          refine W.callV C (y := (⟨"com/example/interval/interval/join/PairCount", "equals", "(Ljava/lang/Object;)Z"⟩ : MethodName)) (a := b20) (hw _ (List.mem_of_getElem? (i := 25) rfl)) (hw _ (List.mem_of_getElem? (i := 26) rfl)) (W.nf_sel C (hw _ (List.mem_of_getElem? (i := 28) rfl))) (hw _ (List.mem_of_getElem? (i := 28) rfl)) (hw _ (List.mem_of_getElem? (i := 27) rfl)) (hw _ (List.mem_of_getElem? (i := 2) rfl)) (hw _ (List.mem_of_getElem? (i := 29) rfl)) (by decide) (((O21.1.ext E22).keep K23).keep K24) (fun hz => rm4 l Z a0 hw [] b20 b22 q0 p1 p2 p3 q0 p1 (p2 + dd) p3 h24 n0 hz ⟨(((O21.1.ext E22).keep K23).keep K24), (((O21.2.1.ext E22).keep K23 (ninS ne_b20_b22 nin0)).keep K24 nin0), (((O21.2.2.1.ext E22).keep K23 (ninS ne_b20_b22 nin0)).keep K24 nin0), (((O21.2.2.2.1.ext E22).keep K23 (ninS ne_b20_b22 nin0)).keep K24 nin0), (((O21.2.2.2.2.ext E22).keep K23 (ninS ne_b20_b22 nin0)).keep K24 nin0)⟩ ⟨(O23.1.keep K24), (O23.2.1.keep K24 nin0), (O23.2.2.1.keep K24 nin0), (O23.2.2.2.1.keep K24 nin0), (O23.2.2.2.2.keep K24 nin0)⟩) at_229 rfl rfl pd_4 rfl (argsL := [(.ref b22)]) (rest := []) rfl (W := 0) rfl (by decide) (by decide) (by decide) (by decide) (k' := 3) (n' := 9) rfl rfl ?_
          rintro h25 _ ⟨⟨w25, rfl, q25⟩, rfl⟩
          show W.Go p l e _ _ m _ below meth c _ _ _ _ _ _ (mkF m 232 #[.val (.long q0), .second, .val (.int p1), .val (.int p2), .val (.int p3), .val (.int p4), .val (.long q5), .second, .val (.int (3 : Int32)), .val (.int dd), .val (.long q0), .second, .val (.int p1), .val (.int (p2 + dd)), .val (.int p3), .val (.ref b20), .val (.ref b22), .val (.ref b24), .val (.int (0 : Int32))] [(.int w25)])
          refine W.iload C at_232 rfl rfl ?_
          refine W.icmp C (pc' := 253) (pn := 237) at_234 (by decide) rfl rfl (W.q_ne w25 (0 : Int32)) (fun hc234 => ?_) (fun hc234 => ?_)
          · refine W.iconst C (x := (0 : Int32)) at_253 rfl rfl ?_
            refine W.retZ C (w := (0 : Int32)) (by simp) at_254 (by decide) (by decide) (by decide) (fun _ _ _ _ q => q) ?_
            exfalso
            rcases q25 with ⟨rfl, g⟩ | ⟨rfl, g⟩
            · first | exact hc234 rfl | (simp [own_addL, own_addI, eq_comm, hc215] at g; done)
            · first | exact hc234 rfl | (simp [own_addL, own_addI, eq_comm, hc215] at g; done)
          · refine W.aload C at_237 rfl rfl rfl ?_
            refine W.aload C at_239 rfl rfl rfl ?_
            refine W.callV C (y := (⟨"com/example/interval/interval/join/PairCount", "equals", "(Ljava/lang/Object;)Z"⟩ : MethodName)) (a := b22) (hw _ (List.mem_of_getElem? (i := 25) rfl)) (hw _ (List.mem_of_getElem? (i := 26) rfl)) (W.nf_sel C (hw _ (List.mem_of_getElem? (i := 28) rfl))) (hw _ (List.mem_of_getElem? (i := 28) rfl)) (hw _ (List.mem_of_getElem? (i := 27) rfl)) (hw _ (List.mem_of_getElem? (i := 2) rfl)) (hw _ (List.mem_of_getElem? (i := 29) rfl)) (by decide) (O23.1.keep K24) (fun hz => rm4 l Z a0 hw [] b22 b20 q0 p1 (p2 + dd) p3 q0 p1 p2 p3 h24 n0 hz ⟨(O23.1.keep K24), (O23.2.1.keep K24 nin0), (O23.2.2.1.keep K24 nin0), (O23.2.2.2.1.keep K24 nin0), (O23.2.2.2.2.keep K24 nin0)⟩ ⟨(((O21.1.ext E22).keep K23).keep K24), (((O21.2.1.ext E22).keep K23 (ninS ne_b20_b22 nin0)).keep K24 nin0), (((O21.2.2.1.ext E22).keep K23 (ninS ne_b20_b22 nin0)).keep K24 nin0), (((O21.2.2.2.1.ext E22).keep K23 (ninS ne_b20_b22 nin0)).keep K24 nin0), (((O21.2.2.2.2.ext E22).keep K23 (ninS ne_b20_b22 nin0)).keep K24 nin0)⟩) at_241 rfl rfl pd_4 rfl (argsL := [(.ref b20)]) (rest := []) rfl (W := 0) rfl (by decide) (by decide) (by decide) (by decide) (k' := 3) (n' := 9) rfl rfl ?_
            rintro h26 _ ⟨⟨w26, rfl, q26⟩, rfl⟩
            show W.Go p l e _ _ m _ below meth c _ _ _ _ _ _ (mkF m 244 #[.val (.long q0), .second, .val (.int p1), .val (.int p2), .val (.int p3), .val (.int p4), .val (.long q5), .second, .val (.int (3 : Int32)), .val (.int dd), .val (.long q0), .second, .val (.int p1), .val (.int (p2 + dd)), .val (.int p3), .val (.ref b20), .val (.ref b22), .val (.ref b24), .val (.int (0 : Int32))] [(.int w26)])
            refine W.iload C at_244 rfl rfl ?_
            refine W.icmp C (pc' := 253) (pn := 249) at_246 (by decide) rfl rfl (W.q_ne w26 (0 : Int32)) (fun hc246 => ?_) (fun hc246 => ?_)
            · refine W.iconst C (x := (0 : Int32)) at_253 rfl rfl ?_
              refine W.retZ C (w := (0 : Int32)) (by simp) at_254 (by decide) (by decide) (by decide) (fun _ _ _ _ q => q) ?_
              exfalso
              rcases q26 with ⟨rfl, g⟩ | ⟨rfl, g⟩
              · first | exact hc246 rfl | (simp [own_addL, own_addI, eq_comm, hc215] at g; done)
              · first | exact hc246 rfl | (simp [own_addL, own_addI, eq_comm, hc215] at g; done)
            · refine W.iconst C (x := (1 : Int32)) at_249 rfl rfl ?_
              refine W.goto C (pc' := 254) at_250 (by decide) rfl ?_
              refine W.retZ C (w := (1 : Int32)) (by simp) at_254 (by decide) (by decide) (by decide) (fun _ _ _ _ q => q) ?_
              rfl
        · refine W.iconst C (x := (1 : Int32)) at_218 rfl rfl ?_
          refine W.goto C (pc' := 223) at_219 (by decide) rfl ?_
          refine W.istore C (Ls' := #[.val (.long q0), .second, .val (.int p1), .val (.int p2), .val (.int p3), .val (.int p4), .val (.long q5), .second, .val (.int (3 : Int32)), .val (.int dd), .val (.long q0), .second, .val (.int p1), .val (.int (p2 + dd)), .val (.int p3), .val (.ref b20), .val (.ref b22), .val (.ref b24), .val (.int (1 : Int32))]) at_223 rfl rfl ?_
          refine W.aload C at_225 rfl rfl rfl ?_
          refine W.aload C at_227 rfl rfl rfl ?_
          refine W.callV C (y := (⟨"com/example/interval/interval/join/PairCount", "equals", "(Ljava/lang/Object;)Z"⟩ : MethodName)) (a := b20) (hw _ (List.mem_of_getElem? (i := 25) rfl)) (hw _ (List.mem_of_getElem? (i := 26) rfl)) (W.nf_sel C (hw _ (List.mem_of_getElem? (i := 28) rfl))) (hw _ (List.mem_of_getElem? (i := 28) rfl)) (hw _ (List.mem_of_getElem? (i := 27) rfl)) (hw _ (List.mem_of_getElem? (i := 2) rfl)) (hw _ (List.mem_of_getElem? (i := 29) rfl)) (by decide) (((O21.1.ext E22).keep K23).keep K24) (fun hz => rm4 l Z a0 hw [] b20 b22 q0 p1 p2 p3 q0 p1 (p2 + dd) p3 h24 n0 hz ⟨(((O21.1.ext E22).keep K23).keep K24), (((O21.2.1.ext E22).keep K23 (ninS ne_b20_b22 nin0)).keep K24 nin0), (((O21.2.2.1.ext E22).keep K23 (ninS ne_b20_b22 nin0)).keep K24 nin0), (((O21.2.2.2.1.ext E22).keep K23 (ninS ne_b20_b22 nin0)).keep K24 nin0), (((O21.2.2.2.2.ext E22).keep K23 (ninS ne_b20_b22 nin0)).keep K24 nin0)⟩ ⟨(O23.1.keep K24), (O23.2.1.keep K24 nin0), (O23.2.2.1.keep K24 nin0), (O23.2.2.2.1.keep K24 nin0), (O23.2.2.2.2.keep K24 nin0)⟩) at_229 rfl rfl pd_4 rfl (argsL := [(.ref b22)]) (rest := []) rfl (W := 0) rfl (by decide) (by decide) (by decide) (by decide) (k' := 3) (n' := 9) rfl rfl ?_
          rintro h27 _ ⟨⟨w27, rfl, q27⟩, rfl⟩
          show W.Go p l e _ _ m _ below meth c _ _ _ _ _ _ (mkF m 232 #[.val (.long q0), .second, .val (.int p1), .val (.int p2), .val (.int p3), .val (.int p4), .val (.long q5), .second, .val (.int (3 : Int32)), .val (.int dd), .val (.long q0), .second, .val (.int p1), .val (.int (p2 + dd)), .val (.int p3), .val (.ref b20), .val (.ref b22), .val (.ref b24), .val (.int (1 : Int32))] [(.int w27)])
          refine W.iload C at_232 rfl rfl ?_
          refine W.icmp C (pc' := 253) (pn := 237) at_234 (by decide) rfl rfl (W.q_ne w27 (1 : Int32)) (fun hc234 => ?_) (fun hc234 => ?_)
          · refine W.iconst C (x := (0 : Int32)) at_253 rfl rfl ?_
            refine W.retZ C (w := (0 : Int32)) (by simp) at_254 (by decide) (by decide) (by decide) (fun _ _ _ _ q => q) ?_
            exfalso
            rcases q27 with ⟨rfl, g⟩ | ⟨rfl, g⟩
            · first | exact hc234 rfl | (simp [own_addL, own_addI, eq_comm, hc215] at g; done)
            · first | exact hc234 rfl | (simp [own_addL, own_addI, eq_comm, hc215] at g; done)
          · refine W.aload C at_237 rfl rfl rfl ?_
            refine W.aload C at_239 rfl rfl rfl ?_
            refine W.callV C (y := (⟨"com/example/interval/interval/join/PairCount", "equals", "(Ljava/lang/Object;)Z"⟩ : MethodName)) (a := b22) (hw _ (List.mem_of_getElem? (i := 25) rfl)) (hw _ (List.mem_of_getElem? (i := 26) rfl)) (W.nf_sel C (hw _ (List.mem_of_getElem? (i := 28) rfl))) (hw _ (List.mem_of_getElem? (i := 28) rfl)) (hw _ (List.mem_of_getElem? (i := 27) rfl)) (hw _ (List.mem_of_getElem? (i := 2) rfl)) (hw _ (List.mem_of_getElem? (i := 29) rfl)) (by decide) (O23.1.keep K24) (fun hz => rm4 l Z a0 hw [] b22 b20 q0 p1 (p2 + dd) p3 q0 p1 p2 p3 h24 n0 hz ⟨(O23.1.keep K24), (O23.2.1.keep K24 nin0), (O23.2.2.1.keep K24 nin0), (O23.2.2.2.1.keep K24 nin0), (O23.2.2.2.2.keep K24 nin0)⟩ ⟨(((O21.1.ext E22).keep K23).keep K24), (((O21.2.1.ext E22).keep K23 (ninS ne_b20_b22 nin0)).keep K24 nin0), (((O21.2.2.1.ext E22).keep K23 (ninS ne_b20_b22 nin0)).keep K24 nin0), (((O21.2.2.2.1.ext E22).keep K23 (ninS ne_b20_b22 nin0)).keep K24 nin0), (((O21.2.2.2.2.ext E22).keep K23 (ninS ne_b20_b22 nin0)).keep K24 nin0)⟩) at_241 rfl rfl pd_4 rfl (argsL := [(.ref b20)]) (rest := []) rfl (W := 0) rfl (by decide) (by decide) (by decide) (by decide) (k' := 3) (n' := 9) rfl rfl ?_
            rintro h28 _ ⟨⟨w28, rfl, q28⟩, rfl⟩
            show W.Go p l e _ _ m _ below meth c _ _ _ _ _ _ (mkF m 244 #[.val (.long q0), .second, .val (.int p1), .val (.int p2), .val (.int p3), .val (.int p4), .val (.long q5), .second, .val (.int (3 : Int32)), .val (.int dd), .val (.long q0), .second, .val (.int p1), .val (.int (p2 + dd)), .val (.int p3), .val (.ref b20), .val (.ref b22), .val (.ref b24), .val (.int (1 : Int32))] [(.int w28)])
            refine W.iload C at_244 rfl rfl ?_
            refine W.icmp C (pc' := 253) (pn := 249) at_246 (by decide) rfl rfl (W.q_ne w28 (1 : Int32)) (fun hc246 => ?_) (fun hc246 => ?_)
            · refine W.iconst C (x := (0 : Int32)) at_253 rfl rfl ?_
              refine W.retZ C (w := (0 : Int32)) (by simp) at_254 (by decide) (by decide) (by decide) (fun _ _ _ _ q => q) ?_
              exfalso
              rcases q28 with ⟨rfl, g⟩ | ⟨rfl, g⟩
              · first | exact hc246 rfl | (simp [own_addL, own_addI, eq_comm, hc215] at g; done)
              · first | exact hc246 rfl | (simp [own_addL, own_addI, eq_comm, hc215] at g; done)
            · refine W.iconst C (x := (1 : Int32)) at_249 rfl rfl ?_
              refine W.goto C (pc' := 254) at_250 (by decide) rfl ?_
              refine W.retZ C (w := (1 : Int32)) (by simp) at_254 (by decide) (by decide) (by decide) (fun _ _ _ _ q => q) ?_
              rfl
    · subst hc43
      refine W.iloadN C at_46 rfl rfl ?_
      refine W.iload C at_47 rfl rfl ?_
      refine W.iadd C (z := (p1 + dd)) at_49 rfl rfl ?_
      refine W.istore C (Ls' := #[.val (.long q0), .second, .val (.int p1), .val (.int p2), .val (.int p3), .val (.int p4), .val (.long q5), .second, .val (.int (2 : Int32)), .val (.int dd), .val (.long q0), .second, .val (.int (p1 + dd)), .val (.int p2), .val (.int p3), .unset, .unset, .unset, .unset]) at_50 rfl rfl ?_
      refine W.goto C (pc' := 83) at_52 (by decide) rfl ?_
      refine W.new C (hw _ (List.mem_of_getElem? (i := 0) rfl)) (hw _ (List.mem_of_getElem? (i := 1) rfl)) (hw _ (List.mem_of_getElem? (i := 2) rfl)) at_83 rfl (by decide) (by decide) (k' := 1) (n' := 4) rfl rfl ?_
      intro h29 b29 gb29 g0_b29 E29 Ab29 Db29
      have Fb29_pairs : Fld Z h29 b29 "com/example/interval/interval/join/PairCount" "pairs" "J" (.long (0 : Int64)) := Db29 (Or.inr (hw _ (List.mem_of_getElem? (i := 10) rfl))) (ty := .long) (by decide)
      have Fb29_sources : Fld Z h29 b29 "com/example/interval/interval/join/PairCount" "sources" "I" (.int (0 : Int32)) := Db29 (Or.inr (hw _ (List.mem_of_getElem? (i := 12) rfl))) (ty := .int) (by decide)
      have Fb29_targets : Fld Z h29 b29 "com/example/interval/interval/join/PairCount" "targets" "I" (.int (0 : Int32)) := Db29 (Or.inr (hw _ (List.mem_of_getElem? (i := 14) rfl))) (ty := .int) (by decide)
      have Fb29_elementsRead : Fld Z h29 b29 "com/example/interval/interval/join/PairCount" "elementsRead" "I" (.int (0 : Int32)) := Db29 (Or.inr (hw _ (List.mem_of_getElem? (i := 16) rfl))) (ty := .int) (by decide)
      refine W.dup C at_86 rfl rfl ?_
      refine W.lloadN C at_87 rfl rfl ?_
      refine W.iloadN C at_88 rfl rfl ?_
      refine W.iloadN C at_89 rfl rfl ?_
      refine W.iload C at_90 rfl rfl ?_
      refine W.callSp C (y := (⟨"com/example/interval/interval/join/PairCount", "<init>", "(JIII)V"⟩ : MethodName)) (a := b29) rfl (hw _ (List.mem_of_getElem? (i := 3) rfl)) (hw _ (List.mem_of_getElem? (i := 4) rfl)) (hw _ (List.mem_of_getElem? (i := 2) rfl)) (hw _ (List.mem_of_getElem? (i := 5) rfl)) (by decide) (fun hz => rm1 l Z a0 hw [] b29 q0 p1 p2 p3 h29 n0 hz ⟨Ab29, Fb29_pairs, Fb29_sources, Fb29_targets, Fb29_elementsRead⟩ g0_b29) at_92 rfl rfl pd_2 rfl (argsL := [(.long q0), (.int p1), (.int p2), (.int p3)]) (rest := [(.ref b29)]) rfl (W := 1) rfl (by decide) (by decide) (by decide) (by decide) (k' := 1) (n' := 4) rfl rfl ?_
      rintro h30 _ ⟨rfl, K30, O30⟩
      show W.Go p l e _ _ m _ below meth c _ _ _ _ _ _ (mkF m 95 #[.val (.long q0), .second, .val (.int p1), .val (.int p2), .val (.int p3), .val (.int p4), .val (.long q5), .second, .val (.int (2 : Int32)), .val (.int dd), .val (.long q0), .second, .val (.int (p1 + dd)), .val (.int p2), .val (.int p3), .unset, .unset, .unset, .unset] [(.ref b29)])
      refine W.astore C (Ls' := #[.val (.long q0), .second, .val (.int p1), .val (.int p2), .val (.int p3), .val (.int p4), .val (.long q5), .second, .val (.int (2 : Int32)), .val (.int dd), .val (.long q0), .second, .val (.int (p1 + dd)), .val (.int p2), .val (.int p3), .val (.ref b29), .unset, .unset, .unset]) at_95 rfl rfl rfl ?_
      refine W.new C (hw _ (List.mem_of_getElem? (i := 0) rfl)) (hw _ (List.mem_of_getElem? (i := 1) rfl)) (hw _ (List.mem_of_getElem? (i := 2) rfl)) at_97 rfl (by decide) (by decide) (k' := 2) (n' := 8) rfl rfl ?_
      intro h31 b31 gb31 g0_b31 E31 Ab31 Db31
      have ne_b29_b31 : b29 ≠ b31 := Nat.ne_of_lt (by rw [gb31]; exact O30.1.lt)
      have Fb31_pairs : Fld Z h31 b31 "com/example/interval/interval/join/PairCount" "pairs" "J" (.long (0 : Int64)) := Db31 (Or.inr (hw _ (List.mem_of_getElem? (i := 10) rfl))) (ty := .long) (by decide)
      have Fb31_sources : Fld Z h31 b31 "com/example/interval/interval/join/PairCount" "sources" "I" (.int (0 : Int32)) := Db31 (Or.inr (hw _ (List.mem_of_getElem? (i := 12) rfl))) (ty := .int) (by decide)
      have Fb31_targets : Fld Z h31 b31 "com/example/interval/interval/join/PairCount" "targets" "I" (.int (0 : Int32)) := Db31 (Or.inr (hw _ (List.mem_of_getElem? (i := 14) rfl))) (ty := .int) (by decide)
      have Fb31_elementsRead : Fld Z h31 b31 "com/example/interval/interval/join/PairCount" "elementsRead" "I" (.int (0 : Int32)) := Db31 (Or.inr (hw _ (List.mem_of_getElem? (i := 16) rfl))) (ty := .int) (by decide)
      refine W.dup C at_100 rfl rfl ?_
      refine W.lload C at_101 rfl rfl ?_
      refine W.iload C at_103 rfl rfl ?_
      refine W.iload C at_105 rfl rfl ?_
      refine W.iload C at_107 rfl rfl ?_
      refine W.callSp C (y := (⟨"com/example/interval/interval/join/PairCount", "<init>", "(JIII)V"⟩ : MethodName)) (a := b31) rfl (hw _ (List.mem_of_getElem? (i := 3) rfl)) (hw _ (List.mem_of_getElem? (i := 4) rfl)) (hw _ (List.mem_of_getElem? (i := 2) rfl)) (hw _ (List.mem_of_getElem? (i := 5) rfl)) (by decide) (fun hz => rm1 l Z a0 hw [] b31 q0 (p1 + dd) p2 p3 h31 n0 hz ⟨Ab31, Fb31_pairs, Fb31_sources, Fb31_targets, Fb31_elementsRead⟩ g0_b31) at_109 rfl rfl pd_2 rfl (argsL := [(.long q0), (.int (p1 + dd)), (.int p2), (.int p3)]) (rest := [(.ref b31)]) rfl (W := 1) rfl (by decide) (by decide) (by decide) (by decide) (k' := 2) (n' := 8) rfl rfl ?_
      rintro h32 _ ⟨rfl, K32, O32⟩
      show W.Go p l e _ _ m _ below meth c _ _ _ _ _ _ (mkF m 112 #[.val (.long q0), .second, .val (.int p1), .val (.int p2), .val (.int p3), .val (.int p4), .val (.long q5), .second, .val (.int (2 : Int32)), .val (.int dd), .val (.long q0), .second, .val (.int (p1 + dd)), .val (.int p2), .val (.int p3), .val (.ref b29), .unset, .unset, .unset] [(.ref b31)])
      refine W.astore C (Ls' := #[.val (.long q0), .second, .val (.int p1), .val (.int p2), .val (.int p3), .val (.int p4), .val (.long q5), .second, .val (.int (2 : Int32)), .val (.int dd), .val (.long q0), .second, .val (.int (p1 + dd)), .val (.int p2), .val (.int p3), .val (.ref b29), .val (.ref b31), .unset, .unset]) at_112 rfl rfl rfl ?_
      refine W.lloadN C at_114 rfl rfl ?_
      refine W.callS C (y := (⟨"java/lang/Long", "valueOf", "(J)Ljava/lang/Long;"⟩ : MethodName)) (hw _ (List.mem_of_getElem? (i := 17) rfl)) (hw _ (List.mem_of_getElem? (i := 18) rfl)) (hw _ (List.mem_of_getElem? (i := 19) rfl)) (hw _ (List.mem_of_getElem? (i := 20) rfl)) (by decide) (fun hz => rm3 l Z a0 hw [] q0 ac cc val h32 n0 hz (SC.ext ((((OO.ext E29).keep K30 (allS g0_b29 all0)).ext E31).keep K32 (allS g0_b31 all0)).2) BX ((((OO.ext E29).keep K30 (allS g0_b29 all0)).ext E31).keep K32 (allS g0_b31 all0))) at_115 rfl rfl pd_3 rfl (argsL := [(.long q0)]) (rest := []) rfl (W := 0) rfl (by decide) (by decide) (by decide) (by decide) (k' := 3) (n' := 9) rfl rfl ?_
      rintro h33 _ ⟨b33, rfl, X33, K33⟩
      show W.Go p l e _ _ m _ below meth c _ _ _ _ _ _ (mkF m 118 #[.val (.long q0), .second, .val (.int p1), .val (.int p2), .val (.int p3), .val (.int p4), .val (.long q5), .second, .val (.int (2 : Int32)), .val (.int dd), .val (.long q0), .second, .val (.int (p1 + dd)), .val (.int p2), .val (.int p3), .val (.ref b29), .val (.ref b31), .unset, .unset] [(.ref b33)])
      refine W.astore C (Ls' := #[.val (.long q0), .second, .val (.int p1), .val (.int p2), .val (.int p3), .val (.int p4), .val (.long q5), .second, .val (.int (2 : Int32)), .val (.int dd), .val (.long q0), .second, .val (.int (p1 + dd)), .val (.int p2), .val (.int p3), .val (.ref b29), .val (.ref b31), .val (.ref b33), .unset]) at_118 rfl rfl rfl ?_
      refine W.iload C at_120 rfl rfl ?_
      refine W.iconst C (x := (5 : Int32)) at_122 rfl rfl ?_
      refine W.icmp C (pc' := 142) (pn := 126) at_123 (by decide) rfl rfl (W.q_ne (2 : Int32) (5 : Int32)) (fun hc123 => ?_) (fun hc123 => ?_)
      rotate_left
      · exact absurd hc123 (by decide)
      refine W.iload C at_142 rfl rfl ?_
      refine W.bipush C (x := (6 : Int32)) at_144 rfl rfl ?_
      refine W.icmp C (pc' := 164) (pn := 149) at_146 (by decide) rfl rfl (W.q_ne (2 : Int32) (6 : Int32)) (fun hc146 => ?_) (fun hc146 => ?_)
      rotate_left
      · exact absurd hc146 (by decide)
      refine W.iload C at_164 rfl rfl ?_
      refine W.bipush C (x := (7 : Int32)) at_166 rfl rfl ?_
      refine W.icmp C (pc' := 179) (pn := 171) at_168 (by decide) rfl rfl (W.q_ne (2 : Int32) (7 : Int32)) (fun hc168 => ?_) (fun hc168 => ?_)
      rotate_left
      · exact absurd hc168 (by decide)
      refine W.iload C at_179 rfl rfl ?_
      refine W.ifc C (pc' := 190) (pn := 184) at_181 (by decide) rfl rfl (W.q_ne (2 : Int32) (0 : Int32)) (fun hc181 => ?_) (fun hc181 => ?_)
      rotate_left
      · exact absurd hc181 (by decide)
      refine W.iload C at_190 rfl rfl ?_
      refine W.iconst C (x := (1 : Int32)) at_192 rfl rfl ?_
      refine W.icmp C (pc' := 213) (pn := 196) at_193 (by decide) rfl rfl (W.q_ne (2 : Int32) (1 : Int32)) (fun hc193 => ?_) (fun hc193 => ?_)
      rotate_left
      · exact absurd hc193 (by decide)
      refine W.iload C at_213 rfl rfl ?_
      refine W.ifc C (pc' := 222) (pn := 218) at_215 (by decide) rfl rfl (W.q_ne dd (0 : Int32)) (fun hc215 => ?_) (fun hc215 => ?_)
      · refine W.iconst C (x := (0 : Int32)) at_222 rfl rfl ?_
        refine W.istore C (Ls' := #[.val (.long q0), .second, .val (.int p1), .val (.int p2), .val (.int p3), .val (.int p4), .val (.long q5), .second, .val (.int (2 : Int32)), .val (.int dd), .val (.long q0), .second, .val (.int (p1 + dd)), .val (.int p2), .val (.int p3), .val (.ref b29), .val (.ref b31), .val (.ref b33), .val (.int (0 : Int32))]) at_223 rfl rfl ?_
        refine W.aload C at_225 rfl rfl rfl ?_
        refine W.aload C at_227 rfl rfl rfl ?_
        refine W.callV C (y := (⟨"com/example/interval/interval/join/PairCount", "equals", "(Ljava/lang/Object;)Z"⟩ : MethodName)) (a := b29) (hw _ (List.mem_of_getElem? (i := 25) rfl)) (hw _ (List.mem_of_getElem? (i := 26) rfl)) (W.nf_sel C (hw _ (List.mem_of_getElem? (i := 28) rfl))) (hw _ (List.mem_of_getElem? (i := 28) rfl)) (hw _ (List.mem_of_getElem? (i := 27) rfl)) (hw _ (List.mem_of_getElem? (i := 2) rfl)) (hw _ (List.mem_of_getElem? (i := 29) rfl)) (by decide) (((O30.1.ext E31).keep K32).keep K33) (fun hz => rm4 l Z a0 hw [] b29 b31 q0 p1 p2 p3 q0 (p1 + dd) p2 p3 h33 n0 hz ⟨(((O30.1.ext E31).keep K32).keep K33), (((O30.2.1.ext E31).keep K32 (ninS ne_b29_b31 nin0)).keep K33 nin0), (((O30.2.2.1.ext E31).keep K32 (ninS ne_b29_b31 nin0)).keep K33 nin0), (((O30.2.2.2.1.ext E31).keep K32 (ninS ne_b29_b31 nin0)).keep K33 nin0), (((O30.2.2.2.2.ext E31).keep K32 (ninS ne_b29_b31 nin0)).keep K33 nin0)⟩ ⟨(O32.1.keep K33), (O32.2.1.keep K33 nin0), (O32.2.2.1.keep K33 nin0), (O32.2.2.2.1.keep K33 nin0), (O32.2.2.2.2.keep K33 nin0)⟩) at_229 rfl rfl pd_4 rfl (argsL := [(.ref b31)]) (rest := []) rfl (W := 0) rfl (by decide) (by decide) (by decide) (by decide) (k' := 3) (n' := 9) rfl rfl ?_
        rintro h34 _ ⟨⟨w34, rfl, q34⟩, rfl⟩
        show W.Go p l e _ _ m _ below meth c _ _ _ _ _ _ (mkF m 232 #[.val (.long q0), .second, .val (.int p1), .val (.int p2), .val (.int p3), .val (.int p4), .val (.long q5), .second, .val (.int (2 : Int32)), .val (.int dd), .val (.long q0), .second, .val (.int (p1 + dd)), .val (.int p2), .val (.int p3), .val (.ref b29), .val (.ref b31), .val (.ref b33), .val (.int (0 : Int32))] [(.int w34)])
        refine W.iload C at_232 rfl rfl ?_
        refine W.icmp C (pc' := 253) (pn := 237) at_234 (by decide) rfl rfl (W.q_ne w34 (0 : Int32)) (fun hc234 => ?_) (fun hc234 => ?_)
        · refine W.iconst C (x := (0 : Int32)) at_253 rfl rfl ?_
          refine W.retZ C (w := (0 : Int32)) (by simp) at_254 (by decide) (by decide) (by decide) (fun _ _ _ _ q => q) ?_
          exfalso
          rcases q34 with ⟨rfl, g⟩ | ⟨rfl, g⟩
          · first | exact hc234 rfl | (simp [own_addL, own_addI, eq_comm, hc215] at g; done)
          · first | exact hc234 rfl | (simp [own_addL, own_addI, eq_comm, hc215] at g; done)
        · refine W.aload C at_237 rfl rfl rfl ?_
          refine W.aload C at_239 rfl rfl rfl ?_
          refine W.callV C (y := (⟨"com/example/interval/interval/join/PairCount", "equals", "(Ljava/lang/Object;)Z"⟩ : MethodName)) (a := b31) (hw _ (List.mem_of_getElem? (i := 25) rfl)) (hw _ (List.mem_of_getElem? (i := 26) rfl)) (W.nf_sel C (hw _ (List.mem_of_getElem? (i := 28) rfl))) (hw _ (List.mem_of_getElem? (i := 28) rfl)) (hw _ (List.mem_of_getElem? (i := 27) rfl)) (hw _ (List.mem_of_getElem? (i := 2) rfl)) (hw _ (List.mem_of_getElem? (i := 29) rfl)) (by decide) (O32.1.keep K33) (fun hz => rm4 l Z a0 hw [] b31 b29 q0 (p1 + dd) p2 p3 q0 p1 p2 p3 h33 n0 hz ⟨(O32.1.keep K33), (O32.2.1.keep K33 nin0), (O32.2.2.1.keep K33 nin0), (O32.2.2.2.1.keep K33 nin0), (O32.2.2.2.2.keep K33 nin0)⟩ ⟨(((O30.1.ext E31).keep K32).keep K33), (((O30.2.1.ext E31).keep K32 (ninS ne_b29_b31 nin0)).keep K33 nin0), (((O30.2.2.1.ext E31).keep K32 (ninS ne_b29_b31 nin0)).keep K33 nin0), (((O30.2.2.2.1.ext E31).keep K32 (ninS ne_b29_b31 nin0)).keep K33 nin0), (((O30.2.2.2.2.ext E31).keep K32 (ninS ne_b29_b31 nin0)).keep K33 nin0)⟩) at_241 rfl rfl pd_4 rfl (argsL := [(.ref b29)]) (rest := []) rfl (W := 0) rfl (by decide) (by decide) (by decide) (by decide) (k' := 3) (n' := 9) rfl rfl ?_
          rintro h35 _ ⟨⟨w35, rfl, q35⟩, rfl⟩
          show W.Go p l e _ _ m _ below meth c _ _ _ _ _ _ (mkF m 244 #[.val (.long q0), .second, .val (.int p1), .val (.int p2), .val (.int p3), .val (.int p4), .val (.long q5), .second, .val (.int (2 : Int32)), .val (.int dd), .val (.long q0), .second, .val (.int (p1 + dd)), .val (.int p2), .val (.int p3), .val (.ref b29), .val (.ref b31), .val (.ref b33), .val (.int (0 : Int32))] [(.int w35)])
          refine W.iload C at_244 rfl rfl ?_
          refine W.icmp C (pc' := 253) (pn := 249) at_246 (by decide) rfl rfl (W.q_ne w35 (0 : Int32)) (fun hc246 => ?_) (fun hc246 => ?_)
          · refine W.iconst C (x := (0 : Int32)) at_253 rfl rfl ?_
            refine W.retZ C (w := (0 : Int32)) (by simp) at_254 (by decide) (by decide) (by decide) (fun _ _ _ _ q => q) ?_
            exfalso
            rcases q35 with ⟨rfl, g⟩ | ⟨rfl, g⟩
            · first | exact hc246 rfl | (simp [own_addL, own_addI, eq_comm, hc215] at g; done)
            · first | exact hc246 rfl | (simp [own_addL, own_addI, eq_comm, hc215] at g; done)
          · refine W.iconst C (x := (1 : Int32)) at_249 rfl rfl ?_
            refine W.goto C (pc' := 254) at_250 (by decide) rfl ?_
            refine W.retZ C (w := (1 : Int32)) (by simp) at_254 (by decide) (by decide) (by decide) (fun _ _ _ _ q => q) ?_
            rfl
      · refine W.iconst C (x := (1 : Int32)) at_218 rfl rfl ?_
        refine W.goto C (pc' := 223) at_219 (by decide) rfl ?_
        refine W.istore C (Ls' := #[.val (.long q0), .second, .val (.int p1), .val (.int p2), .val (.int p3), .val (.int p4), .val (.long q5), .second, .val (.int (2 : Int32)), .val (.int dd), .val (.long q0), .second, .val (.int (p1 + dd)), .val (.int p2), .val (.int p3), .val (.ref b29), .val (.ref b31), .val (.ref b33), .val (.int (1 : Int32))]) at_223 rfl rfl ?_
        refine W.aload C at_225 rfl rfl rfl ?_
        refine W.aload C at_227 rfl rfl rfl ?_
        refine W.callV C (y := (⟨"com/example/interval/interval/join/PairCount", "equals", "(Ljava/lang/Object;)Z"⟩ : MethodName)) (a := b29) (hw _ (List.mem_of_getElem? (i := 25) rfl)) (hw _ (List.mem_of_getElem? (i := 26) rfl)) (W.nf_sel C (hw _ (List.mem_of_getElem? (i := 28) rfl))) (hw _ (List.mem_of_getElem? (i := 28) rfl)) (hw _ (List.mem_of_getElem? (i := 27) rfl)) (hw _ (List.mem_of_getElem? (i := 2) rfl)) (hw _ (List.mem_of_getElem? (i := 29) rfl)) (by decide) (((O30.1.ext E31).keep K32).keep K33) (fun hz => rm4 l Z a0 hw [] b29 b31 q0 p1 p2 p3 q0 (p1 + dd) p2 p3 h33 n0 hz ⟨(((O30.1.ext E31).keep K32).keep K33), (((O30.2.1.ext E31).keep K32 (ninS ne_b29_b31 nin0)).keep K33 nin0), (((O30.2.2.1.ext E31).keep K32 (ninS ne_b29_b31 nin0)).keep K33 nin0), (((O30.2.2.2.1.ext E31).keep K32 (ninS ne_b29_b31 nin0)).keep K33 nin0), (((O30.2.2.2.2.ext E31).keep K32 (ninS ne_b29_b31 nin0)).keep K33 nin0)⟩ ⟨(O32.1.keep K33), (O32.2.1.keep K33 nin0), (O32.2.2.1.keep K33 nin0), (O32.2.2.2.1.keep K33 nin0), (O32.2.2.2.2.keep K33 nin0)⟩) at_229 rfl rfl pd_4 rfl (argsL := [(.ref b31)]) (rest := []) rfl (W := 0) rfl (by decide) (by decide) (by decide) (by decide) (k' := 3) (n' := 9) rfl rfl ?_
        rintro h36 _ ⟨⟨w36, rfl, q36⟩, rfl⟩
        show W.Go p l e _ _ m _ below meth c _ _ _ _ _ _ (mkF m 232 #[.val (.long q0), .second, .val (.int p1), .val (.int p2), .val (.int p3), .val (.int p4), .val (.long q5), .second, .val (.int (2 : Int32)), .val (.int dd), .val (.long q0), .second, .val (.int (p1 + dd)), .val (.int p2), .val (.int p3), .val (.ref b29), .val (.ref b31), .val (.ref b33), .val (.int (1 : Int32))] [(.int w36)])
        refine W.iload C at_232 rfl rfl ?_
        refine W.icmp C (pc' := 253) (pn := 237) at_234 (by decide) rfl rfl (W.q_ne w36 (1 : Int32)) (fun hc234 => ?_) (fun hc234 => ?_)
        · refine W.iconst C (x := (0 : Int32)) at_253 rfl rfl ?_
          refine W.retZ C (w := (0 : Int32)) (by simp) at_254 (by decide) (by decide) (by decide) (fun _ _ _ _ q => q) ?_
          exfalso
          rcases q36 with ⟨rfl, g⟩ | ⟨rfl, g⟩
          · first | exact hc234 rfl | (simp [own_addL, own_addI, eq_comm, hc215] at g; done)
          · first | exact hc234 rfl | (simp [own_addL, own_addI, eq_comm, hc215] at g; done)
        · refine W.aload C at_237 rfl rfl rfl ?_
          refine W.aload C at_239 rfl rfl rfl ?_
          refine W.callV C (y := (⟨"com/example/interval/interval/join/PairCount", "equals", "(Ljava/lang/Object;)Z"⟩ : MethodName)) (a := b31) (hw _ (List.mem_of_getElem? (i := 25) rfl)) (hw _ (List.mem_of_getElem? (i := 26) rfl)) (W.nf_sel C (hw _ (List.mem_of_getElem? (i := 28) rfl))) (hw _ (List.mem_of_getElem? (i := 28) rfl)) (hw _ (List.mem_of_getElem? (i := 27) rfl)) (hw _ (List.mem_of_getElem? (i := 2) rfl)) (hw _ (List.mem_of_getElem? (i := 29) rfl)) (by decide) (O32.1.keep K33) (fun hz => rm4 l Z a0 hw [] b31 b29 q0 (p1 + dd) p2 p3 q0 p1 p2 p3 h33 n0 hz ⟨(O32.1.keep K33), (O32.2.1.keep K33 nin0), (O32.2.2.1.keep K33 nin0), (O32.2.2.2.1.keep K33 nin0), (O32.2.2.2.2.keep K33 nin0)⟩ ⟨(((O30.1.ext E31).keep K32).keep K33), (((O30.2.1.ext E31).keep K32 (ninS ne_b29_b31 nin0)).keep K33 nin0), (((O30.2.2.1.ext E31).keep K32 (ninS ne_b29_b31 nin0)).keep K33 nin0), (((O30.2.2.2.1.ext E31).keep K32 (ninS ne_b29_b31 nin0)).keep K33 nin0), (((O30.2.2.2.2.ext E31).keep K32 (ninS ne_b29_b31 nin0)).keep K33 nin0)⟩) at_241 rfl rfl pd_4 rfl (argsL := [(.ref b29)]) (rest := []) rfl (W := 0) rfl (by decide) (by decide) (by decide) (by decide) (k' := 3) (n' := 9) rfl rfl ?_
          rintro h37 _ ⟨⟨w37, rfl, q37⟩, rfl⟩
          show W.Go p l e _ _ m _ below meth c _ _ _ _ _ _ (mkF m 244 #[.val (.long q0), .second, .val (.int p1), .val (.int p2), .val (.int p3), .val (.int p4), .val (.long q5), .second, .val (.int (2 : Int32)), .val (.int dd), .val (.long q0), .second, .val (.int (p1 + dd)), .val (.int p2), .val (.int p3), .val (.ref b29), .val (.ref b31), .val (.ref b33), .val (.int (1 : Int32))] [(.int w37)])
          refine W.iload C at_244 rfl rfl ?_
          refine W.icmp C (pc' := 253) (pn := 249) at_246 (by decide) rfl rfl (W.q_ne w37 (1 : Int32)) (fun hc246 => ?_) (fun hc246 => ?_)
          · refine W.iconst C (x := (0 : Int32)) at_253 rfl rfl ?_
            refine W.retZ C (w := (0 : Int32)) (by simp) at_254 (by decide) (by decide) (by decide) (fun _ _ _ _ q => q) ?_
            exfalso
            rcases q37 with ⟨rfl, g⟩ | ⟨rfl, g⟩
            · first | exact hc246 rfl | (simp [own_addL, own_addI, eq_comm, hc215] at g; done)
            · first | exact hc246 rfl | (simp [own_addL, own_addI, eq_comm, hc215] at g; done)
          · refine W.iconst C (x := (1 : Int32)) at_249 rfl rfl ?_
            refine W.goto C (pc' := 254) at_250 (by decide) rfl ?_
            refine W.retZ C (w := (1 : Int32)) (by simp) at_254 (by decide) (by decide) (by decide) (fun _ _ _ _ q => q) ?_
            rfl
  · subst hc28
    refine W.lloadN C at_31 rfl rfl ?_
    refine W.lload C at_32 rfl rfl ?_
    refine W.ladd C (z := (q0 + q5)) at_34 rfl rfl ?_
    refine W.lstore C (Ls' := #[.val (.long q0), .second, .val (.int p1), .val (.int p2), .val (.int p3), .val (.int p4), .val (.long q5), .second, .val (.int (1 : Int32)), .val (.int dd), .val (.long (q0 + q5)), .second, .val (.int p1), .val (.int p2), .val (.int p3), .unset, .unset, .unset, .unset]) at_35 rfl rfl ?_
    refine W.goto C (pc' := 83) at_37 (by decide) rfl ?_
    refine W.new C (hw _ (List.mem_of_getElem? (i := 0) rfl)) (hw _ (List.mem_of_getElem? (i := 1) rfl)) (hw _ (List.mem_of_getElem? (i := 2) rfl)) at_83 rfl (by decide) (by decide) (k' := 1) (n' := 4) rfl rfl ?_
    intro h38 b38 gb38 g0_b38 E38 Ab38 Db38
    have Fb38_pairs : Fld Z h38 b38 "com/example/interval/interval/join/PairCount" "pairs" "J" (.long (0 : Int64)) := Db38 (Or.inr (hw _ (List.mem_of_getElem? (i := 10) rfl))) (ty := .long) (by decide)
    have Fb38_sources : Fld Z h38 b38 "com/example/interval/interval/join/PairCount" "sources" "I" (.int (0 : Int32)) := Db38 (Or.inr (hw _ (List.mem_of_getElem? (i := 12) rfl))) (ty := .int) (by decide)
    have Fb38_targets : Fld Z h38 b38 "com/example/interval/interval/join/PairCount" "targets" "I" (.int (0 : Int32)) := Db38 (Or.inr (hw _ (List.mem_of_getElem? (i := 14) rfl))) (ty := .int) (by decide)
    have Fb38_elementsRead : Fld Z h38 b38 "com/example/interval/interval/join/PairCount" "elementsRead" "I" (.int (0 : Int32)) := Db38 (Or.inr (hw _ (List.mem_of_getElem? (i := 16) rfl))) (ty := .int) (by decide)
    refine W.dup C at_86 rfl rfl ?_
    refine W.lloadN C at_87 rfl rfl ?_
    refine W.iloadN C at_88 rfl rfl ?_
    refine W.iloadN C at_89 rfl rfl ?_
    refine W.iload C at_90 rfl rfl ?_
    refine W.callSp C (y := (⟨"com/example/interval/interval/join/PairCount", "<init>", "(JIII)V"⟩ : MethodName)) (a := b38) rfl (hw _ (List.mem_of_getElem? (i := 3) rfl)) (hw _ (List.mem_of_getElem? (i := 4) rfl)) (hw _ (List.mem_of_getElem? (i := 2) rfl)) (hw _ (List.mem_of_getElem? (i := 5) rfl)) (by decide) (fun hz => rm1 l Z a0 hw [] b38 q0 p1 p2 p3 h38 n0 hz ⟨Ab38, Fb38_pairs, Fb38_sources, Fb38_targets, Fb38_elementsRead⟩ g0_b38) at_92 rfl rfl pd_2 rfl (argsL := [(.long q0), (.int p1), (.int p2), (.int p3)]) (rest := [(.ref b38)]) rfl (W := 1) rfl (by decide) (by decide) (by decide) (by decide) (k' := 1) (n' := 4) rfl rfl ?_
    rintro h39 _ ⟨rfl, K39, O39⟩
    show W.Go p l e _ _ m _ below meth c _ _ _ _ _ _ (mkF m 95 #[.val (.long q0), .second, .val (.int p1), .val (.int p2), .val (.int p3), .val (.int p4), .val (.long q5), .second, .val (.int (1 : Int32)), .val (.int dd), .val (.long (q0 + q5)), .second, .val (.int p1), .val (.int p2), .val (.int p3), .unset, .unset, .unset, .unset] [(.ref b38)])
    refine W.astore C (Ls' := #[.val (.long q0), .second, .val (.int p1), .val (.int p2), .val (.int p3), .val (.int p4), .val (.long q5), .second, .val (.int (1 : Int32)), .val (.int dd), .val (.long (q0 + q5)), .second, .val (.int p1), .val (.int p2), .val (.int p3), .val (.ref b38), .unset, .unset, .unset]) at_95 rfl rfl rfl ?_
    refine W.new C (hw _ (List.mem_of_getElem? (i := 0) rfl)) (hw _ (List.mem_of_getElem? (i := 1) rfl)) (hw _ (List.mem_of_getElem? (i := 2) rfl)) at_97 rfl (by decide) (by decide) (k' := 2) (n' := 8) rfl rfl ?_
    intro h40 b40 gb40 g0_b40 E40 Ab40 Db40
    have ne_b38_b40 : b38 ≠ b40 := Nat.ne_of_lt (by rw [gb40]; exact O39.1.lt)
    have Fb40_pairs : Fld Z h40 b40 "com/example/interval/interval/join/PairCount" "pairs" "J" (.long (0 : Int64)) := Db40 (Or.inr (hw _ (List.mem_of_getElem? (i := 10) rfl))) (ty := .long) (by decide)
    have Fb40_sources : Fld Z h40 b40 "com/example/interval/interval/join/PairCount" "sources" "I" (.int (0 : Int32)) := Db40 (Or.inr (hw _ (List.mem_of_getElem? (i := 12) rfl))) (ty := .int) (by decide)
    have Fb40_targets : Fld Z h40 b40 "com/example/interval/interval/join/PairCount" "targets" "I" (.int (0 : Int32)) := Db40 (Or.inr (hw _ (List.mem_of_getElem? (i := 14) rfl))) (ty := .int) (by decide)
    have Fb40_elementsRead : Fld Z h40 b40 "com/example/interval/interval/join/PairCount" "elementsRead" "I" (.int (0 : Int32)) := Db40 (Or.inr (hw _ (List.mem_of_getElem? (i := 16) rfl))) (ty := .int) (by decide)
    refine W.dup C at_100 rfl rfl ?_
    refine W.lload C at_101 rfl rfl ?_
    refine W.iload C at_103 rfl rfl ?_
    refine W.iload C at_105 rfl rfl ?_
    refine W.iload C at_107 rfl rfl ?_
    refine W.callSp C (y := (⟨"com/example/interval/interval/join/PairCount", "<init>", "(JIII)V"⟩ : MethodName)) (a := b40) rfl (hw _ (List.mem_of_getElem? (i := 3) rfl)) (hw _ (List.mem_of_getElem? (i := 4) rfl)) (hw _ (List.mem_of_getElem? (i := 2) rfl)) (hw _ (List.mem_of_getElem? (i := 5) rfl)) (by decide) (fun hz => rm1 l Z a0 hw [] b40 (q0 + q5) p1 p2 p3 h40 n0 hz ⟨Ab40, Fb40_pairs, Fb40_sources, Fb40_targets, Fb40_elementsRead⟩ g0_b40) at_109 rfl rfl pd_2 rfl (argsL := [(.long (q0 + q5)), (.int p1), (.int p2), (.int p3)]) (rest := [(.ref b40)]) rfl (W := 1) rfl (by decide) (by decide) (by decide) (by decide) (k' := 2) (n' := 8) rfl rfl ?_
    rintro h41 _ ⟨rfl, K41, O41⟩
    show W.Go p l e _ _ m _ below meth c _ _ _ _ _ _ (mkF m 112 #[.val (.long q0), .second, .val (.int p1), .val (.int p2), .val (.int p3), .val (.int p4), .val (.long q5), .second, .val (.int (1 : Int32)), .val (.int dd), .val (.long (q0 + q5)), .second, .val (.int p1), .val (.int p2), .val (.int p3), .val (.ref b38), .unset, .unset, .unset] [(.ref b40)])
    refine W.astore C (Ls' := #[.val (.long q0), .second, .val (.int p1), .val (.int p2), .val (.int p3), .val (.int p4), .val (.long q5), .second, .val (.int (1 : Int32)), .val (.int dd), .val (.long (q0 + q5)), .second, .val (.int p1), .val (.int p2), .val (.int p3), .val (.ref b38), .val (.ref b40), .unset, .unset]) at_112 rfl rfl rfl ?_
    refine W.lloadN C at_114 rfl rfl ?_
    refine W.callS C (y := (⟨"java/lang/Long", "valueOf", "(J)Ljava/lang/Long;"⟩ : MethodName)) (hw _ (List.mem_of_getElem? (i := 17) rfl)) (hw _ (List.mem_of_getElem? (i := 18) rfl)) (hw _ (List.mem_of_getElem? (i := 19) rfl)) (hw _ (List.mem_of_getElem? (i := 20) rfl)) (by decide) (fun hz => rm3 l Z a0 hw [] q0 ac cc val h41 n0 hz (SC.ext ((((OO.ext E38).keep K39 (allS g0_b38 all0)).ext E40).keep K41 (allS g0_b40 all0)).2) BX ((((OO.ext E38).keep K39 (allS g0_b38 all0)).ext E40).keep K41 (allS g0_b40 all0))) at_115 rfl rfl pd_3 rfl (argsL := [(.long q0)]) (rest := []) rfl (W := 0) rfl (by decide) (by decide) (by decide) (by decide) (k' := 3) (n' := 9) rfl rfl ?_
    rintro h42 _ ⟨b42, rfl, X42, K42⟩
    show W.Go p l e _ _ m _ below meth c _ _ _ _ _ _ (mkF m 118 #[.val (.long q0), .second, .val (.int p1), .val (.int p2), .val (.int p3), .val (.int p4), .val (.long q5), .second, .val (.int (1 : Int32)), .val (.int dd), .val (.long (q0 + q5)), .second, .val (.int p1), .val (.int p2), .val (.int p3), .val (.ref b38), .val (.ref b40), .unset, .unset] [(.ref b42)])
    refine W.astore C (Ls' := #[.val (.long q0), .second, .val (.int p1), .val (.int p2), .val (.int p3), .val (.int p4), .val (.long q5), .second, .val (.int (1 : Int32)), .val (.int dd), .val (.long (q0 + q5)), .second, .val (.int p1), .val (.int p2), .val (.int p3), .val (.ref b38), .val (.ref b40), .val (.ref b42), .unset]) at_118 rfl rfl rfl ?_
    refine W.iload C at_120 rfl rfl ?_
    refine W.iconst C (x := (5 : Int32)) at_122 rfl rfl ?_
    refine W.icmp C (pc' := 142) (pn := 126) at_123 (by decide) rfl rfl (W.q_ne (1 : Int32) (5 : Int32)) (fun hc123 => ?_) (fun hc123 => ?_)
    rotate_left
    · exact absurd hc123 (by decide)
    refine W.iload C at_142 rfl rfl ?_
    refine W.bipush C (x := (6 : Int32)) at_144 rfl rfl ?_
    refine W.icmp C (pc' := 164) (pn := 149) at_146 (by decide) rfl rfl (W.q_ne (1 : Int32) (6 : Int32)) (fun hc146 => ?_) (fun hc146 => ?_)
    rotate_left
    · exact absurd hc146 (by decide)
    refine W.iload C at_164 rfl rfl ?_
    refine W.bipush C (x := (7 : Int32)) at_166 rfl rfl ?_
    refine W.icmp C (pc' := 179) (pn := 171) at_168 (by decide) rfl rfl (W.q_ne (1 : Int32) (7 : Int32)) (fun hc168 => ?_) (fun hc168 => ?_)
    rotate_left
    · exact absurd hc168 (by decide)
    refine W.iload C at_179 rfl rfl ?_
    refine W.ifc C (pc' := 190) (pn := 184) at_181 (by decide) rfl rfl (W.q_ne (1 : Int32) (0 : Int32)) (fun hc181 => ?_) (fun hc181 => ?_)
    rotate_left
    · exact absurd hc181 (by decide)
    refine W.iload C at_190 rfl rfl ?_
    refine W.iconst C (x := (1 : Int32)) at_192 rfl rfl ?_
    refine W.icmp C (pc' := 213) (pn := 196) at_193 (by decide) rfl rfl (W.q_ne (1 : Int32) (1 : Int32)) (fun hc193 => ?_) (fun hc193 => ?_)
    · exact absurd rfl hc193
    refine W.lload C at_196 rfl rfl ?_
    refine W.lconst C (x := (0 : Int64)) at_198 rfl rfl ?_
    refine W.lcif C (pm := 200) (pc' := 207) (pn := 203) at_199 rfl at_200 (by decide) rfl rfl (W.ql_ne q5 (0 : Int64)) (fun hc199 => ?_) (fun hc199 => ?_)
    · refine W.iconst C (x := (0 : Int32)) at_207 rfl rfl ?_
      refine W.istore C (Ls' := #[.val (.long q0), .second, .val (.int p1), .val (.int p2), .val (.int p3), .val (.int p4), .val (.long q5), .second, .val (.int (1 : Int32)), .val (.int dd), .val (.long (q0 + q5)), .second, .val (.int p1), .val (.int p2), .val (.int p3), .val (.ref b38), .val (.ref b40), .val (.ref b42), .val (.int (0 : Int32))]) at_208 rfl rfl ?_
      refine W.goto C (pc' := 225) at_210 (by decide) rfl ?_
      refine W.aload C at_225 rfl rfl rfl ?_
      refine W.aload C at_227 rfl rfl rfl ?_
      refine W.callV C (y := (⟨"com/example/interval/interval/join/PairCount", "equals", "(Ljava/lang/Object;)Z"⟩ : MethodName)) (a := b38) (hw _ (List.mem_of_getElem? (i := 25) rfl)) (hw _ (List.mem_of_getElem? (i := 26) rfl)) (W.nf_sel C (hw _ (List.mem_of_getElem? (i := 28) rfl))) (hw _ (List.mem_of_getElem? (i := 28) rfl)) (hw _ (List.mem_of_getElem? (i := 27) rfl)) (hw _ (List.mem_of_getElem? (i := 2) rfl)) (hw _ (List.mem_of_getElem? (i := 29) rfl)) (by decide) (((O39.1.ext E40).keep K41).keep K42) (fun hz => rm4 l Z a0 hw [] b38 b40 q0 p1 p2 p3 (q0 + q5) p1 p2 p3 h42 n0 hz ⟨(((O39.1.ext E40).keep K41).keep K42), (((O39.2.1.ext E40).keep K41 (ninS ne_b38_b40 nin0)).keep K42 nin0), (((O39.2.2.1.ext E40).keep K41 (ninS ne_b38_b40 nin0)).keep K42 nin0), (((O39.2.2.2.1.ext E40).keep K41 (ninS ne_b38_b40 nin0)).keep K42 nin0), (((O39.2.2.2.2.ext E40).keep K41 (ninS ne_b38_b40 nin0)).keep K42 nin0)⟩ ⟨(O41.1.keep K42), (O41.2.1.keep K42 nin0), (O41.2.2.1.keep K42 nin0), (O41.2.2.2.1.keep K42 nin0), (O41.2.2.2.2.keep K42 nin0)⟩) at_229 rfl rfl pd_4 rfl (argsL := [(.ref b40)]) (rest := []) rfl (W := 0) rfl (by decide) (by decide) (by decide) (by decide) (k' := 3) (n' := 9) rfl rfl ?_
      rintro h43 _ ⟨⟨w43, rfl, q43⟩, rfl⟩
      show W.Go p l e _ _ m _ below meth c _ _ _ _ _ _ (mkF m 232 #[.val (.long q0), .second, .val (.int p1), .val (.int p2), .val (.int p3), .val (.int p4), .val (.long q5), .second, .val (.int (1 : Int32)), .val (.int dd), .val (.long (q0 + q5)), .second, .val (.int p1), .val (.int p2), .val (.int p3), .val (.ref b38), .val (.ref b40), .val (.ref b42), .val (.int (0 : Int32))] [(.int w43)])
      refine W.iload C at_232 rfl rfl ?_
      refine W.icmp C (pc' := 253) (pn := 237) at_234 (by decide) rfl rfl (W.q_ne w43 (0 : Int32)) (fun hc234 => ?_) (fun hc234 => ?_)
      · refine W.iconst C (x := (0 : Int32)) at_253 rfl rfl ?_
        refine W.retZ C (w := (0 : Int32)) (by simp) at_254 (by decide) (by decide) (by decide) (fun _ _ _ _ q => q) ?_
        exfalso
        rcases q43 with ⟨rfl, g⟩ | ⟨rfl, g⟩
        · first | exact hc234 rfl | (simp [own_addL, own_addI, eq_comm, hc199] at g; done)
        · first | exact hc234 rfl | (simp [own_addL, own_addI, eq_comm, hc199] at g; done)
      · refine W.aload C at_237 rfl rfl rfl ?_
        refine W.aload C at_239 rfl rfl rfl ?_
        refine W.callV C (y := (⟨"com/example/interval/interval/join/PairCount", "equals", "(Ljava/lang/Object;)Z"⟩ : MethodName)) (a := b40) (hw _ (List.mem_of_getElem? (i := 25) rfl)) (hw _ (List.mem_of_getElem? (i := 26) rfl)) (W.nf_sel C (hw _ (List.mem_of_getElem? (i := 28) rfl))) (hw _ (List.mem_of_getElem? (i := 28) rfl)) (hw _ (List.mem_of_getElem? (i := 27) rfl)) (hw _ (List.mem_of_getElem? (i := 2) rfl)) (hw _ (List.mem_of_getElem? (i := 29) rfl)) (by decide) (O41.1.keep K42) (fun hz => rm4 l Z a0 hw [] b40 b38 (q0 + q5) p1 p2 p3 q0 p1 p2 p3 h42 n0 hz ⟨(O41.1.keep K42), (O41.2.1.keep K42 nin0), (O41.2.2.1.keep K42 nin0), (O41.2.2.2.1.keep K42 nin0), (O41.2.2.2.2.keep K42 nin0)⟩ ⟨(((O39.1.ext E40).keep K41).keep K42), (((O39.2.1.ext E40).keep K41 (ninS ne_b38_b40 nin0)).keep K42 nin0), (((O39.2.2.1.ext E40).keep K41 (ninS ne_b38_b40 nin0)).keep K42 nin0), (((O39.2.2.2.1.ext E40).keep K41 (ninS ne_b38_b40 nin0)).keep K42 nin0), (((O39.2.2.2.2.ext E40).keep K41 (ninS ne_b38_b40 nin0)).keep K42 nin0)⟩) at_241 rfl rfl pd_4 rfl (argsL := [(.ref b38)]) (rest := []) rfl (W := 0) rfl (by decide) (by decide) (by decide) (by decide) (k' := 3) (n' := 9) rfl rfl ?_
        rintro h44 _ ⟨⟨w44, rfl, q44⟩, rfl⟩
        show W.Go p l e _ _ m _ below meth c _ _ _ _ _ _ (mkF m 244 #[.val (.long q0), .second, .val (.int p1), .val (.int p2), .val (.int p3), .val (.int p4), .val (.long q5), .second, .val (.int (1 : Int32)), .val (.int dd), .val (.long (q0 + q5)), .second, .val (.int p1), .val (.int p2), .val (.int p3), .val (.ref b38), .val (.ref b40), .val (.ref b42), .val (.int (0 : Int32))] [(.int w44)])
        refine W.iload C at_244 rfl rfl ?_
        refine W.icmp C (pc' := 253) (pn := 249) at_246 (by decide) rfl rfl (W.q_ne w44 (0 : Int32)) (fun hc246 => ?_) (fun hc246 => ?_)
        · refine W.iconst C (x := (0 : Int32)) at_253 rfl rfl ?_
          refine W.retZ C (w := (0 : Int32)) (by simp) at_254 (by decide) (by decide) (by decide) (fun _ _ _ _ q => q) ?_
          exfalso
          rcases q44 with ⟨rfl, g⟩ | ⟨rfl, g⟩
          · first | exact hc246 rfl | (simp [own_addL, own_addI, eq_comm, hc199] at g; done)
          · first | exact hc246 rfl | (simp [own_addL, own_addI, eq_comm, hc199] at g; done)
        · refine W.iconst C (x := (1 : Int32)) at_249 rfl rfl ?_
          refine W.goto C (pc' := 254) at_250 (by decide) rfl ?_
          refine W.retZ C (w := (1 : Int32)) (by simp) at_254 (by decide) (by decide) (by decide) (fun _ _ _ _ q => q) ?_
          rfl
    · refine W.iconst C (x := (1 : Int32)) at_203 rfl rfl ?_
      refine W.goto C (pc' := 208) at_204 (by decide) rfl ?_
      refine W.istore C (Ls' := #[.val (.long q0), .second, .val (.int p1), .val (.int p2), .val (.int p3), .val (.int p4), .val (.long q5), .second, .val (.int (1 : Int32)), .val (.int dd), .val (.long (q0 + q5)), .second, .val (.int p1), .val (.int p2), .val (.int p3), .val (.ref b38), .val (.ref b40), .val (.ref b42), .val (.int (1 : Int32))]) at_208 rfl rfl ?_
      refine W.goto C (pc' := 225) at_210 (by decide) rfl ?_
      refine W.aload C at_225 rfl rfl rfl ?_
      refine W.aload C at_227 rfl rfl rfl ?_
      refine W.callV C (y := (⟨"com/example/interval/interval/join/PairCount", "equals", "(Ljava/lang/Object;)Z"⟩ : MethodName)) (a := b38) (hw _ (List.mem_of_getElem? (i := 25) rfl)) (hw _ (List.mem_of_getElem? (i := 26) rfl)) (W.nf_sel C (hw _ (List.mem_of_getElem? (i := 28) rfl))) (hw _ (List.mem_of_getElem? (i := 28) rfl)) (hw _ (List.mem_of_getElem? (i := 27) rfl)) (hw _ (List.mem_of_getElem? (i := 2) rfl)) (hw _ (List.mem_of_getElem? (i := 29) rfl)) (by decide) (((O39.1.ext E40).keep K41).keep K42) (fun hz => rm4 l Z a0 hw [] b38 b40 q0 p1 p2 p3 (q0 + q5) p1 p2 p3 h42 n0 hz ⟨(((O39.1.ext E40).keep K41).keep K42), (((O39.2.1.ext E40).keep K41 (ninS ne_b38_b40 nin0)).keep K42 nin0), (((O39.2.2.1.ext E40).keep K41 (ninS ne_b38_b40 nin0)).keep K42 nin0), (((O39.2.2.2.1.ext E40).keep K41 (ninS ne_b38_b40 nin0)).keep K42 nin0), (((O39.2.2.2.2.ext E40).keep K41 (ninS ne_b38_b40 nin0)).keep K42 nin0)⟩ ⟨(O41.1.keep K42), (O41.2.1.keep K42 nin0), (O41.2.2.1.keep K42 nin0), (O41.2.2.2.1.keep K42 nin0), (O41.2.2.2.2.keep K42 nin0)⟩) at_229 rfl rfl pd_4 rfl (argsL := [(.ref b40)]) (rest := []) rfl (W := 0) rfl (by decide) (by decide) (by decide) (by decide) (k' := 3) (n' := 9) rfl rfl ?_
      rintro h45 _ ⟨⟨w45, rfl, q45⟩, rfl⟩
      show W.Go p l e _ _ m _ below meth c _ _ _ _ _ _ (mkF m 232 #[.val (.long q0), .second, .val (.int p1), .val (.int p2), .val (.int p3), .val (.int p4), .val (.long q5), .second, .val (.int (1 : Int32)), .val (.int dd), .val (.long (q0 + q5)), .second, .val (.int p1), .val (.int p2), .val (.int p3), .val (.ref b38), .val (.ref b40), .val (.ref b42), .val (.int (1 : Int32))] [(.int w45)])
      refine W.iload C at_232 rfl rfl ?_
      refine W.icmp C (pc' := 253) (pn := 237) at_234 (by decide) rfl rfl (W.q_ne w45 (1 : Int32)) (fun hc234 => ?_) (fun hc234 => ?_)
      · refine W.iconst C (x := (0 : Int32)) at_253 rfl rfl ?_
        refine W.retZ C (w := (0 : Int32)) (by simp) at_254 (by decide) (by decide) (by decide) (fun _ _ _ _ q => q) ?_
        exfalso
        rcases q45 with ⟨rfl, g⟩ | ⟨rfl, g⟩
        · first | exact hc234 rfl | (simp [own_addL, own_addI, eq_comm, hc199] at g; done)
        · first | exact hc234 rfl | (simp [own_addL, own_addI, eq_comm, hc199] at g; done)
      · refine W.aload C at_237 rfl rfl rfl ?_
        refine W.aload C at_239 rfl rfl rfl ?_
        refine W.callV C (y := (⟨"com/example/interval/interval/join/PairCount", "equals", "(Ljava/lang/Object;)Z"⟩ : MethodName)) (a := b40) (hw _ (List.mem_of_getElem? (i := 25) rfl)) (hw _ (List.mem_of_getElem? (i := 26) rfl)) (W.nf_sel C (hw _ (List.mem_of_getElem? (i := 28) rfl))) (hw _ (List.mem_of_getElem? (i := 28) rfl)) (hw _ (List.mem_of_getElem? (i := 27) rfl)) (hw _ (List.mem_of_getElem? (i := 2) rfl)) (hw _ (List.mem_of_getElem? (i := 29) rfl)) (by decide) (O41.1.keep K42) (fun hz => rm4 l Z a0 hw [] b40 b38 (q0 + q5) p1 p2 p3 q0 p1 p2 p3 h42 n0 hz ⟨(O41.1.keep K42), (O41.2.1.keep K42 nin0), (O41.2.2.1.keep K42 nin0), (O41.2.2.2.1.keep K42 nin0), (O41.2.2.2.2.keep K42 nin0)⟩ ⟨(((O39.1.ext E40).keep K41).keep K42), (((O39.2.1.ext E40).keep K41 (ninS ne_b38_b40 nin0)).keep K42 nin0), (((O39.2.2.1.ext E40).keep K41 (ninS ne_b38_b40 nin0)).keep K42 nin0), (((O39.2.2.2.1.ext E40).keep K41 (ninS ne_b38_b40 nin0)).keep K42 nin0), (((O39.2.2.2.2.ext E40).keep K41 (ninS ne_b38_b40 nin0)).keep K42 nin0)⟩) at_241 rfl rfl pd_4 rfl (argsL := [(.ref b38)]) (rest := []) rfl (W := 0) rfl (by decide) (by decide) (by decide) (by decide) (k' := 3) (n' := 9) rfl rfl ?_
        rintro h46 _ ⟨⟨w46, rfl, q46⟩, rfl⟩
        show W.Go p l e _ _ m _ below meth c _ _ _ _ _ _ (mkF m 244 #[.val (.long q0), .second, .val (.int p1), .val (.int p2), .val (.int p3), .val (.int p4), .val (.long q5), .second, .val (.int (1 : Int32)), .val (.int dd), .val (.long (q0 + q5)), .second, .val (.int p1), .val (.int p2), .val (.int p3), .val (.ref b38), .val (.ref b40), .val (.ref b42), .val (.int (1 : Int32))] [(.int w46)])
        refine W.iload C at_244 rfl rfl ?_
        refine W.icmp C (pc' := 253) (pn := 249) at_246 (by decide) rfl rfl (W.q_ne w46 (1 : Int32)) (fun hc246 => ?_) (fun hc246 => ?_)
        · refine W.iconst C (x := (0 : Int32)) at_253 rfl rfl ?_
          refine W.retZ C (w := (0 : Int32)) (by simp) at_254 (by decide) (by decide) (by decide) (fun _ _ _ _ q => q) ?_
          exfalso
          rcases q46 with ⟨rfl, g⟩ | ⟨rfl, g⟩
          · first | exact hc246 rfl | (simp [own_addL, own_addI, eq_comm, hc199] at g; done)
          · first | exact hc246 rfl | (simp [own_addL, own_addI, eq_comm, hc199] at g; done)
        · refine W.iconst C (x := (1 : Int32)) at_249 rfl rfl ?_
          refine W.goto C (pc' := 254) at_250 (by decide) rfl ?_
          refine W.retZ C (w := (1 : Int32)) (by simp) at_254 (by decide) (by decide) (by decide) (fun _ _ _ _ q => q) ?_
          rfl
set_option maxRecDepth 65536 in
set_option maxHeartbeats 40000000 in
theorem comes_1 {Post : Tables → Env → Array Value → State → Outcome → State → Prop} (hpost : ∀ tb e args s v u, (limb_1_1.after args s (.returned v) u = true ∧ limb_1_2.after args s (.returned v) u = true ∧ True) → FrameEnd s (.returned v) u (Jvm.fieldLocs frame_1_writes args s ++ Jvm.arrayLocs frame_1_arrays args s ++ Jvm.staticLocs frame_1_statics s) 16 128 → Post tb e args s (.returned v) u) :
    ArmFor flags0 classFile x code maxLocals ret World_1 tables_1 room_1 Calls_1 rest_1 Pre_1 Post := by
  intro l hfl _ _ p e ha hc hk s m args below hf hA hF happ hP
  obtain ⟨hcalls, hrest, hpre⟩ := hP
  obtain ⟨-, -, -, hnamed, -, -, -, hat⟩ := (Spec.applies_iff hf).mp happ
  obtain ⟨hg, hn⟩ := and_e (Cond.before_iff.mp (show (Jvm.Cond.and given_1 narrow_1).before args s = true from hpre))
  obtain ⟨gv1, gv2⟩ := and_e hg
  obtain ⟨gv3, gv4⟩ := and_e gv2
  obtain ⟨gv5, gv6⟩ := and_e gv4
  obtain ⟨gv7, gv8⟩ := and_e gv6
  obtain ⟨gv9, gv10⟩ := and_e gv8
  obtain ⟨gv11, gv12⟩ := and_e gv10
  obtain ⟨w0, w1, w2, w3, w4, w5, rfl⟩ : ∃ w0 w1 w2 w3 w4 w5 : Value, args = #[w0, w1, w2, w3, w4, w5] := by
    have hs : args.size = 6 := by simpa [Cond.value, given_1] using gv1
    obtain ⟨L⟩ := args
    match L, hs with
    | [w0, w1, w2, w3, w4, w5], _ => exact ⟨w0, w1, w2, w3, w4, w5, rfl⟩
  have hw := fun d (hd : d ∈ tables_1) => atoms_spec (ws := Jvm.Cond.code x code maxLocals ret :: tables_1) hat d (List.mem_cons_of_mem _ hd)
  have hfit : Fit s := fun {y c} hc i hi => by
    obtain ⟨ha, rfl⟩ := Array.getElem?_eq_some_iff.mp hc
    have q := List.all_eq_true.mp ((Array.all_eq_true_iff_forall_mem.mp hF) _ (Array.getElem_mem ha)) i (List.mem_range.mpr hi)
    simpa [Array.getElem?_eq_getElem hi] using q
  obtain ⟨hsets, hown0⟩ := atoms_of _ (rest_1_c_eq ▸ (show rest_1_c.before _ s = true from hrest))
  have hr0 := Cond.before_iff.mp hown0
  obtain ⟨i0, ei0⟩ := isL_v gv3
  obtain rfl : w0 = (.long i0) := Option.some.inj ei0
  obtain ⟨i1, ei1⟩ := is_v gv5
  obtain rfl : w1 = (.int i1) := Option.some.inj ei1
  obtain ⟨i2, ei2⟩ := is_v gv7
  obtain rfl : w2 = (.int i2) := Option.some.inj ei2
  obtain ⟨i3, ei3⟩ := is_v gv9
  obtain rfl : w3 = (.int i3) := Option.some.inj ei3
  obtain ⟨i4, ei4⟩ := is_v gv11
  obtain rfl : w4 = (.int i4) := Option.some.inj ei4
  obtain ⟨i5, ei5⟩ := isL_v gv12
  obtain rfl : w5 = (.long i5) := Option.some.inj ei5
  obtain ⟨ac, eac⟩ := arr_v (Cond.before_iff.mp (hsets _ (List.mem_of_getElem? (i := 2) rfl)))
  have eac' : ∀ idx : List Nat, (Term.static "java/lang/Long$LongCache" "cache" "[Ljava/lang/Long;").eval #[(.long i0), (.int i1), (.int i2), (.int i3), (.int i4), (.long i5)] s none idx s = some (.ref ac) := fun _ => eac
  obtain ⟨cc, AC⟩ := Arr.start eac (Cond.before_iff.mp (hsets _ (List.mem_of_getElem? (i := 2) rfl)))
  have SC : Sta s s.heap "java/lang/Long$LongCache" "cache" "[Ljava/lang/Long;" (.ref ac) := Sta.start eac (Or.inl (hsets _ (List.mem_of_getElem? (i := 1) rfl)))
  obtain ⟨qs, el⟩ : cc.slots.size < 2 ^ 31 ∧ cc.slots.size.toInt32 = (256 : Int32) := own_len eac AC (Cond.before_iff.mp (hsets _ (List.mem_of_getElem? (i := 4) rfl)))
  have BX := Bxs.start (val := fun j => .long (j - 128).toInt64) eac' AC qs el (by decide) (Cond.before_iff.mp (hsets _ (List.mem_of_getElem? (i := 5) rfl))) (fun X j hj h => eqv_l (i2l_at (own_idx j hj)) h)
  obtain ⟨n, o, h1, h2, h3, v, L, rfl, ⟨hGv, N⟩, hq⟩ := rm0 l s _ hw tables_1 i0 i1 i2 i3 i4 i5 ac cc _ s.heap s.heap.size (Nat.le_refl _) SC BX (Old.start s) p e ha hc hk s m _ below hf ((Spec.applies_iff_loose hf).mp happ).1 ⟨rfl, State.Warmed39.refl s, rfl⟩ trivial
  obtain rfl : v = some (.int 1) := hGv
  refine ⟨n, _, h1, h2, h3, hpost _ _ _ _ _ _ ⟨Cond.after_iff.mpr rfl, Cond.after_iff.mpr (eq_i res_at (Term.int_eval (1)) rfl), trivial⟩ ⟨hq.1, hq.2.1, (hq.2.2.sift fun y hy => Or.inr (N y hy)).mono (by decide) (by decide)⟩⟩
theorem main_1_1 : Claimed_1_1 := comes_1 fun _ _ _ _ _ _ h hF => ⟨h.1, hF⟩
theorem main_1_2 : Claimed_1_2 := comes_1 fun _ _ _ _ _ _ h hF => ⟨h.2.1, hF⟩
end Jvm.Pilot.@@N@@
namespace Jvm.Pilot.@@N@@
open Jvm Jvm.ClassFile Sem Op Lib Jvm.Free Jvm.Stand Jvm.Pilot.@@N@@.Jvm.D
/-! MADE BY PROGRAM (witnessworld.py) out of the Statement's table words and the real class files: 16 classes; the members and pool entries that the words name. The judged class is class 1, her method 1. -/
namespace start1
open Jvm.ClassFile
def u (s : String) : CpInfo := .utf8 (stringToUtf16 s)
/-- a pool by its gaps: so many unusable entries, then the entry; so many at the end -/
def gap : Nat → List CpInfo → List CpInfo
  | 0, r => r
  | n + 1, r => .unusable :: gap n r
def poolList (es : List (Nat × CpInfo)) (last : Nat) : List CpInfo := es.foldr (fun e r => gap e.1 (e.2 :: r)) (gap last [])
def pool (es : List (Nat × CpInfo)) (last : Nat) : Array CpInfo := ⟨poolList es last⟩
def fileOf (pool : Array CpInfo) (this : Nat) (attrs : Array Attribute := #[]) (ms : Array MethodInfo := #[]) (fl : Nat := 33) (sup : Nat := 0) (ifs : Array Nat := #[]) (fds : Array FieldInfo := #[]) : ClassFile where
  minorVersion := 0
  majorVersion := 65
  constantPool := pool
  accessFlags := fl
  thisClass := this
  superClass := sup
  interfaces := ifs
  fields := fds
  methods := ms
  attributes := attrs
def plain (name : String) (sup : Option ClassId) : Class where
  name := name
  kind := .ordinary
  loader := none
  accessFlags := 33
  super := sup
  interfaces := #[]
  cf := none
  fields := #[]
  methods := #[]
  instanceTypes := #[]
  staticTypes := #[]
  resolved := #[]
  callSites := []
  init := .initialized
  statics := none
  mirror := none

def pool0 : Array CpInfo := pool [(5, u "<init>"), (0, u "()V"), (1, .class_ 10), (1, u "java/lang/Object")] 113

def k0c0 : Code := { maxStack := 0, maxLocals := 1, code := object_method_1_code, exceptionTable := #[], attributes := #[] }
def k0m0 : Method := { name := "<init>", desc := "()V", sig := { parameters := [], returnType := none }, accessFlags := 1, code := some k0c0 }
/-- java/lang/Object -/
def k0 : Class := { plain "java/lang/Object" none with
  accessFlags := 33
  interfaces := #[]
  cf := some (fileOf pool0 8 #[] #[{ accessFlags := 1, nameIndex := 5, descriptorIndex := 6, attributes := #[] }] 33 0 #[] #[])
  fields := #[]
  methods := #[k0m0]
  instanceTypes := #[]
  staticTypes := #[]
  resolved := Array.replicate 124 none
  statics := none }

def pool1 : Array CpInfo := pool [(2, .class_ 4), (1, u "java/lang/Object"), (0, u "<init>"), (0, u "()V"), (0, .class_ 8), (0, u "com/example/interval/interval/join/PairCount"), (0, .methodref 7 10), (0, .nameAndType 5 11), (0, u "(JIII)V"), (0, .methodref 13 14), (0, .class_ 15), (0, .nameAndType 16 17), (0, u "java/lang/Long"), (0, u "valueOf"), (0, u "(J)Ljava/lang/Long;"), (0, .methodref 7 19), (0, .nameAndType 20 21), (0, u "equals"), (0, u "(Ljava/lang/Object;)Z"), (0, .class_ 23), (0, u "com/example/interval/interval/join/PairCountEqualsPinLaw"), (2, u "law"), (0, u "(JIIIIJ)Z")] 3

def k1m0 : Method := { name := "<init>", desc := "()V", sig := { parameters := [], returnType := none }, accessFlags := 1, code := none }
def k1c1 : Code := { maxStack := 7, maxLocals := 19, code := code, exceptionTable := #[], attributes := #[] }
def k1m1 : Method := { name := "law", desc := "(JIIIIJ)Z", sig := { parameters := [.long, .int, .int, .int, .int, .long], returnType := some .boolean }, accessFlags := 9, code := some k1c1 }
/-- com/example/interval/interval/join/PairCountEqualsPinLaw -/
def k1 : Class := { plain "com/example/interval/interval/join/PairCountEqualsPinLaw" (some 0) with
  accessFlags := 49
  interfaces := #[]
  cf := some (fileOf pool1 22 #[] #[{ accessFlags := 1, nameIndex := 5, descriptorIndex := 6, attributes := #[] }, { accessFlags := 9, nameIndex := 26, descriptorIndex := 27, attributes := #[] }] 49 2 #[] #[])
  fields := #[]
  methods := #[k1m0, k1m1]
  instanceTypes := #[]
  staticTypes := #[]
  resolved := Array.replicate 31 none
  statics := none }

def pool2 : Array CpInfo := pool [(1, .methodref 2 3), (0, .class_ 4), (0, .nameAndType 5 6), (0, u "java/lang/Object"), (0, u "<init>"), (0, u "()V"), (0, .fieldref 8 9), (0, .class_ 10), (0, .nameAndType 11 12), (0, u "com/example/interval/interval/join/PairCount"), (0, u "pairs"), (0, u "J"), (0, .fieldref 8 14), (0, .nameAndType 15 16), (0, u "sources"), (0, u "I"), (0, .fieldref 8 18), (0, .nameAndType 19 16), (0, u "targets"), (0, .fieldref 8 21), (0, .nameAndType 22 16), (0, u "elementsRead"), (21, u "(JIII)V"), (4, u "equals"), (0, u "(Ljava/lang/Object;)Z")] 21

def k2c0 : Code := { maxStack := 3, maxLocals := 6, code := prog_60_method_1_code, exceptionTable := #[], attributes := #[] }
def k2m0 : Method := { name := "<init>", desc := "(JIII)V", sig := { parameters := [.long, .int, .int, .int], returnType := none }, accessFlags := 0, code := some k2c0 }
def k2c1 : Code := { maxStack := 4, maxLocals := 3, code := prog_60_method_6_code, exceptionTable := #[], attributes := #[] }
def k2m1 : Method := { name := "equals", desc := "(Ljava/lang/Object;)Z", sig := { parameters := [(.object "java/lang/Object")], returnType := some .boolean }, accessFlags := 1, code := some k2c1 }
/-- com/example/interval/interval/join/PairCount -/
def k2 : Class := { plain "com/example/interval/interval/join/PairCount" (some 0) with
  accessFlags := 49
  interfaces := #[]
  cf := some (fileOf pool2 8 #[] #[{ accessFlags := 0, nameIndex := 5, descriptorIndex := 44, attributes := #[] }, { accessFlags := 1, nameIndex := 49, descriptorIndex := 50, attributes := #[] }] 49 2 #[] #[{ accessFlags := 18, nameIndex := 11, descriptorIndex := 12, attributes := #[] }, { accessFlags := 18, nameIndex := 15, descriptorIndex := 16, attributes := #[] }, { accessFlags := 18, nameIndex := 19, descriptorIndex := 16, attributes := #[] }, { accessFlags := 18, nameIndex := 22, descriptorIndex := 16, attributes := #[] }])
  fields := #[{ name := "pairs", type := .long, accessFlags := 18, slot := 0, constantValue := 0 }, { name := "sources", type := .int, accessFlags := 18, slot := 1, constantValue := 0 }, { name := "targets", type := .int, accessFlags := 18, slot := 2, constantValue := 0 }, { name := "elementsRead", type := .int, accessFlags := 18, slot := 3, constantValue := 0 }]
  methods := #[k2m0, k2m1]
  instanceTypes := #[.long, .int, .int, .int]
  staticTypes := #[]
  resolved := Array.replicate 72 none
  statics := none }

def pool3 : Array CpInfo := pool [(1, .class_ 2), (0, u "java/io/Serializable"), (0, .class_ 4), (0, u "java/lang/Object")] 2

/-- java/io/Serializable -/
def k3 : Class := { plain "java/io/Serializable" (some 0) with
  accessFlags := 1537
  interfaces := #[]
  cf := some (fileOf pool3 1 #[] #[] 1537 3 #[] #[])
  fields := #[]
  methods := #[]
  instanceTypes := #[]
  staticTypes := #[]
  resolved := Array.replicate 7 none
  statics := none }

def pool4 : Array CpInfo := pool [(1, .methodref 2 3), (0, .class_ 4), (0, .nameAndType 5 6), (0, u "java/lang/Object"), (0, u "<init>"), (0, u "()V"), (1, .class_ 10), (1, u "java/lang/Number"), (2, .class_ 14), (0, u "java/io/Serializable"), (0, u "serialVersionUID"), (0, u "J")] 20

def k4c0 : Code := { maxStack := 1, maxLocals := 1, code := jdk_18_method_1_code, exceptionTable := #[], attributes := #[] }
def k4m0 : Method := { name := "<init>", desc := "()V", sig := { parameters := [], returnType := none }, accessFlags := 1, code := some k4c0 }
/-- java/lang/Number -/
def k4 : Class := { plain "java/lang/Number" (some 0) with
  accessFlags := 1057
  interfaces := #[3]
  cf := some (fileOf pool4 8 #[] #[{ accessFlags := 1, nameIndex := 5, descriptorIndex := 6, attributes := #[] }] 1057 2 #[13] #[{ accessFlags := 26, nameIndex := 15, descriptorIndex := 16, attributes := #[] }])
  fields := #[{ name := "serialVersionUID", type := .long, accessFlags := 26, slot := 0, constantValue := 0 }]
  methods := #[k4m0]
  instanceTypes := #[]
  staticTypes := #[.long]
  resolved := Array.replicate 37 none
  statics := none }

def pool5 : Array CpInfo := pool [(1, .class_ 2), (0, u "java/lang/Comparable"), (0, .class_ 4), (0, u "java/lang/Object")] 7

/-- java/lang/Comparable -/
def k5 : Class := { plain "java/lang/Comparable" (some 0) with
  accessFlags := 1537
  interfaces := #[]
  cf := some (fileOf pool5 1 #[] #[] 1537 3 #[] #[])
  fields := #[]
  methods := #[]
  instanceTypes := #[]
  staticTypes := #[]
  resolved := Array.replicate 12 none
  statics := none }

def pool6 : Array CpInfo := pool [(1, .class_ 2), (0, u "java/lang/constant/Constable"), (0, .class_ 4), (0, u "java/lang/Object")] 6

/-- java/lang/constant/Constable -/
def k6 : Class := { plain "java/lang/constant/Constable" (some 0) with
  accessFlags := 1537
  interfaces := #[]
  cf := some (fileOf pool6 1 #[] #[] 1537 3 #[] #[])
  fields := #[]
  methods := #[]
  instanceTypes := #[]
  staticTypes := #[]
  resolved := Array.replicate 11 none
  statics := none }

def pool7 : Array CpInfo := pool [(1, .class_ 2), (0, u "java/lang/constant/ConstantDesc"), (0, .class_ 4), (0, u "java/lang/Object")] 32

/-- java/lang/constant/ConstantDesc -/
def k7 : Class := { plain "java/lang/constant/ConstantDesc" (some 0) with
  accessFlags := 1537
  interfaces := #[]
  cf := some (fileOf pool7 1 #[] #[] 1537 3 #[] #[])
  fields := #[]
  methods := #[]
  instanceTypes := #[]
  staticTypes := #[]
  resolved := Array.replicate 37 none
  statics := none }

def pool8 : Array CpInfo := pool [(1, .class_ 2), (0, u "java/lang/Long"), (55, .nameAndType 59 60), (0, u "<init>"), (0, u "()V"), (24, u "valueOf"), (143, u "(J)Ljava/lang/Long;"), (0, .long 18446744073709551488), (1, .long 127), (1, .fieldref 235 236), (0, .class_ 237), (0, .nameAndType 238 239), (0, u "java/lang/Long$LongCache"), (0, u "cache"), (0, u "[Ljava/lang/Long;"), (0, .methodref 1 241), (0, .nameAndType 59 242), (0, u "(J)V"), (27, .methodref 271 58), (0, .class_ 272), (0, u "java/lang/Number"), (0, .fieldref 1 274), (0, .nameAndType 275 276), (0, u "value"), (0, u "J"), (84, u "TYPE"), (0, u "Ljava/lang/Class;"), (0, .class_ 364), (0, u "java/lang/Comparable"), (0, .class_ 366), (0, u "java/lang/constant/Constable"), (0, .class_ 368), (0, u "java/lang/constant/ConstantDesc"), (0, u "MIN_VALUE"), (1, u "MAX_VALUE"), (4, u "SIZE"), (0, u "I"), (1, u "BYTES"), (1, u "serialVersionUID")] 142

def k8c0 : Code := { maxStack := 4, maxLocals := 3, code := jdk_35_method_24_code, exceptionTable := #[], attributes := #[] }
def k8m0 : Method := { name := "valueOf", desc := "(J)Ljava/lang/Long;", sig := { parameters := [.long], returnType := some (.object "java/lang/Long") }, accessFlags := 9, code := some k8c0 }
def k8c1 : Code := { maxStack := 3, maxLocals := 3, code := jdk_35_method_26_code, exceptionTable := #[], attributes := #[] }
def k8m1 : Method := { name := "<init>", desc := "(J)V", sig := { parameters := [.long], returnType := none }, accessFlags := 1, code := some k8c1 }
/-- java/lang/Long -/
def k8 : Class := { plain "java/lang/Long" (some 4) with
  accessFlags := 49
  interfaces := #[5, 6, 7]
  cf := some (fileOf pool8 1 #[.nestMembers #[235]] #[{ accessFlags := 9, nameIndex := 85, descriptorIndex := 229, attributes := #[] }, { accessFlags := 1, nameIndex := 59, descriptorIndex := 242, attributes := #[] }] 49 271 #[363, 365, 367] #[{ accessFlags := 25, nameIndex := 369, descriptorIndex := 276, attributes := #[] }, { accessFlags := 25, nameIndex := 371, descriptorIndex := 276, attributes := #[] }, { accessFlags := 25, nameIndex := 361, descriptorIndex := 362, attributes := #[] }, { accessFlags := 18, nameIndex := 275, descriptorIndex := 276, attributes := #[] }, { accessFlags := 25, nameIndex := 376, descriptorIndex := 377, attributes := #[] }, { accessFlags := 25, nameIndex := 379, descriptorIndex := 377, attributes := #[] }, { accessFlags := 26, nameIndex := 381, descriptorIndex := 276, attributes := #[] }])
  fields := #[{ name := "MIN_VALUE", type := .long, accessFlags := 25, slot := 0, constantValue := 0 }, { name := "MAX_VALUE", type := .long, accessFlags := 25, slot := 1, constantValue := 0 }, { name := "TYPE", type := (.object "java/lang/Class"), accessFlags := 25, slot := 2, constantValue := 0 }, { name := "value", type := .long, accessFlags := 18, slot := 0, constantValue := 0 }, { name := "SIZE", type := .int, accessFlags := 25, slot := 3, constantValue := 0 }, { name := "BYTES", type := .int, accessFlags := 25, slot := 4, constantValue := 0 }, { name := "serialVersionUID", type := .long, accessFlags := 26, slot := 5, constantValue := 0 }]
  methods := #[k8m0, k8m1]
  instanceTypes := #[.long]
  staticTypes := #[.long, .long, (.object "java/lang/Class"), .int, .int, .long]
  resolved := Array.replicate 524 none
  statics := none }

def pool9 : Array CpInfo := pool [(2, .class_ 4), (1, u "java/lang/Object"), (0, u "<init>"), (0, u "()V"), (0, .class_ 8), (0, u "java/lang/Long"), (7, .class_ 18), (1, u "java/lang/Long$LongCache"), (0, u "$assertionsDisabled"), (0, u "Z"), (8, u "archivedCache"), (0, u "[Ljava/lang/Long;"), (7, u "cache")] 24

def k9m0 : Method := { name := "<init>", desc := "()V", sig := { parameters := [], returnType := none }, accessFlags := 2, code := none }
/-- java/lang/Long$LongCache -/
def k9 : Class := { plain "java/lang/Long$LongCache" (some 0) with
  accessFlags := 48
  interfaces := #[]
  cf := some (fileOf pool9 16 #[.nestHost 7] #[{ accessFlags := 2, nameIndex := 5, descriptorIndex := 6, attributes := #[] }] 48 2 #[] #[{ accessFlags := 24, nameIndex := 38, descriptorIndex := 30, attributes := #[] }, { accessFlags := 8, nameIndex := 29, descriptorIndex := 30, attributes := #[] }, { accessFlags := 4120, nameIndex := 19, descriptorIndex := 20, attributes := #[] }])
  fields := #[{ name := "cache", type := (.array (.object "java/lang/Long")), accessFlags := 24, slot := 0, constantValue := 0 }, { name := "archivedCache", type := (.array (.object "java/lang/Long")), accessFlags := 8, slot := 1, constantValue := 0 }, { name := "$assertionsDisabled", type := .boolean, accessFlags := 4120, slot := 2, constantValue := 0 }]
  methods := #[k9m0]
  instanceTypes := #[]
  staticTypes := #[(.array (.object "java/lang/Long")), (.array (.object "java/lang/Long")), .boolean]
  resolved := Array.replicate 63 none
  statics := some 0 }

def pool10 : Array CpInfo := pool [(1, u "java/lang/Cloneable"), (0, .class_ 1), (0, u "java/lang/Object"), (0, .class_ 3)] 3

/-- java/lang/Cloneable -/
def k10 : Class := { plain "java/lang/Cloneable" (some 0) with
  accessFlags := 1537
  interfaces := #[]
  cf := some (fileOf pool10 2 #[] #[] 1537 4 #[] #[])
  fields := #[]
  methods := #[]
  instanceTypes := #[]
  staticTypes := #[]
  resolved := Array.replicate 8 none
  statics := none }

/-- the primitive byte -/
def k11 : Class := { plain "byte" none with kind := .primitive 'B', accessFlags := 0x411 }
/-- [B -/
def k12 : Class := { plain "[B" (some 0) with kind := .array 11 .byte, interfaces := #[10, 3], accessFlags := 1041 }

/-- the primitive int -/
def k13 : Class := { plain "int" none with kind := .primitive 'I', accessFlags := 0x411 }
/-- [I -/
def k14 : Class := { plain "[I" (some 0) with kind := .array 13 .int, interfaces := #[10, 3], accessFlags := 1041 }

/-- [Ljava/lang/Long; -/
def k15 : Class := { plain "[Ljava/lang/Long;" (some 0) with kind := .array 8 (.object "java/lang/Long"), interfaces := #[10, 3], accessFlags := 1041 }

def heap : Heap := #[{ cls := 9, slots := #[.ref 1, .null, .int 0], vm := .statics 9 },
  { cls := 15, slots := #[.ref 2, .ref 3, .ref 4, .ref 5, .ref 6, .ref 7, .ref 8, .ref 9, .ref 10, .ref 11, .ref 12, .ref 13, .ref 14, .ref 15, .ref 16, .ref 17, .ref 18, .ref 19, .ref 20, .ref 21, .ref 22, .ref 23, .ref 24, .ref 25, .ref 26, .ref 27, .ref 28, .ref 29, .ref 30, .ref 31, .ref 32, .ref 33, .ref 34, .ref 35, .ref 36, .ref 37, .ref 38, .ref 39, .ref 40, .ref 41, .ref 42, .ref 43, .ref 44, .ref 45, .ref 46, .ref 47, .ref 48, .ref 49, .ref 50, .ref 51, .ref 52, .ref 53, .ref 54, .ref 55, .ref 56, .ref 57, .ref 58, .ref 59, .ref 60, .ref 61, .ref 62, .ref 63, .ref 64, .ref 65, .ref 66, .ref 67, .ref 68, .ref 69, .ref 70, .ref 71, .ref 72, .ref 73, .ref 74, .ref 75, .ref 76, .ref 77, .ref 78, .ref 79, .ref 80, .ref 81, .ref 82, .ref 83, .ref 84, .ref 85, .ref 86, .ref 87, .ref 88, .ref 89, .ref 90, .ref 91, .ref 92, .ref 93, .ref 94, .ref 95, .ref 96, .ref 97, .ref 98, .ref 99, .ref 100, .ref 101, .ref 102, .ref 103, .ref 104, .ref 105, .ref 106, .ref 107, .ref 108, .ref 109, .ref 110, .ref 111, .ref 112, .ref 113, .ref 114, .ref 115, .ref 116, .ref 117, .ref 118, .ref 119, .ref 120, .ref 121, .ref 122, .ref 123, .ref 124, .ref 125, .ref 126, .ref 127, .ref 128, .ref 129, .ref 130, .ref 131, .ref 132, .ref 133, .ref 134, .ref 135, .ref 136, .ref 137, .ref 138, .ref 139, .ref 140, .ref 141, .ref 142, .ref 143, .ref 144, .ref 145, .ref 146, .ref 147, .ref 148, .ref 149, .ref 150, .ref 151, .ref 152, .ref 153, .ref 154, .ref 155, .ref 156, .ref 157, .ref 158, .ref 159, .ref 160, .ref 161, .ref 162, .ref 163, .ref 164, .ref 165, .ref 166, .ref 167, .ref 168, .ref 169, .ref 170, .ref 171, .ref 172, .ref 173, .ref 174, .ref 175, .ref 176, .ref 177, .ref 178, .ref 179, .ref 180, .ref 181, .ref 182, .ref 183, .ref 184, .ref 185, .ref 186, .ref 187, .ref 188, .ref 189, .ref 190, .ref 191, .ref 192, .ref 193, .ref 194, .ref 195, .ref 196, .ref 197, .ref 198, .ref 199, .ref 200, .ref 201, .ref 202, .ref 203, .ref 204, .ref 205, .ref 206, .ref 207, .ref 208, .ref 209, .ref 210, .ref 211, .ref 212, .ref 213, .ref 214, .ref 215, .ref 216, .ref 217, .ref 218, .ref 219, .ref 220, .ref 221, .ref 222, .ref 223, .ref 224, .ref 225, .ref 226, .ref 227, .ref 228, .ref 229, .ref 230, .ref 231, .ref 232, .ref 233, .ref 234, .ref 235, .ref 236, .ref 237, .ref 238, .ref 239, .ref 240, .ref 241, .ref 242, .ref 243, .ref 244, .ref 245, .ref 246, .ref 247, .ref 248, .ref 249, .ref 250, .ref 251, .ref 252, .ref 253, .ref 254, .ref 255, .ref 256, .ref 257], vm := .none },
  { cls := 8, slots := #[.long (-128)], vm := .none },
  { cls := 8, slots := #[.long (-127)], vm := .none },
  { cls := 8, slots := #[.long (-126)], vm := .none },
  { cls := 8, slots := #[.long (-125)], vm := .none },
  { cls := 8, slots := #[.long (-124)], vm := .none },
  { cls := 8, slots := #[.long (-123)], vm := .none },
  { cls := 8, slots := #[.long (-122)], vm := .none },
  { cls := 8, slots := #[.long (-121)], vm := .none },
  { cls := 8, slots := #[.long (-120)], vm := .none },
  { cls := 8, slots := #[.long (-119)], vm := .none },
  { cls := 8, slots := #[.long (-118)], vm := .none },
  { cls := 8, slots := #[.long (-117)], vm := .none },
  { cls := 8, slots := #[.long (-116)], vm := .none },
  { cls := 8, slots := #[.long (-115)], vm := .none },
  { cls := 8, slots := #[.long (-114)], vm := .none },
  { cls := 8, slots := #[.long (-113)], vm := .none },
  { cls := 8, slots := #[.long (-112)], vm := .none },
  { cls := 8, slots := #[.long (-111)], vm := .none },
  { cls := 8, slots := #[.long (-110)], vm := .none },
  { cls := 8, slots := #[.long (-109)], vm := .none },
  { cls := 8, slots := #[.long (-108)], vm := .none },
  { cls := 8, slots := #[.long (-107)], vm := .none },
  { cls := 8, slots := #[.long (-106)], vm := .none },
  { cls := 8, slots := #[.long (-105)], vm := .none },
  { cls := 8, slots := #[.long (-104)], vm := .none },
  { cls := 8, slots := #[.long (-103)], vm := .none },
  { cls := 8, slots := #[.long (-102)], vm := .none },
  { cls := 8, slots := #[.long (-101)], vm := .none },
  { cls := 8, slots := #[.long (-100)], vm := .none },
  { cls := 8, slots := #[.long (-99)], vm := .none },
  { cls := 8, slots := #[.long (-98)], vm := .none },
  { cls := 8, slots := #[.long (-97)], vm := .none },
  { cls := 8, slots := #[.long (-96)], vm := .none },
  { cls := 8, slots := #[.long (-95)], vm := .none },
  { cls := 8, slots := #[.long (-94)], vm := .none },
  { cls := 8, slots := #[.long (-93)], vm := .none },
  { cls := 8, slots := #[.long (-92)], vm := .none },
  { cls := 8, slots := #[.long (-91)], vm := .none },
  { cls := 8, slots := #[.long (-90)], vm := .none },
  { cls := 8, slots := #[.long (-89)], vm := .none },
  { cls := 8, slots := #[.long (-88)], vm := .none },
  { cls := 8, slots := #[.long (-87)], vm := .none },
  { cls := 8, slots := #[.long (-86)], vm := .none },
  { cls := 8, slots := #[.long (-85)], vm := .none },
  { cls := 8, slots := #[.long (-84)], vm := .none },
  { cls := 8, slots := #[.long (-83)], vm := .none },
  { cls := 8, slots := #[.long (-82)], vm := .none },
  { cls := 8, slots := #[.long (-81)], vm := .none },
  { cls := 8, slots := #[.long (-80)], vm := .none },
  { cls := 8, slots := #[.long (-79)], vm := .none },
  { cls := 8, slots := #[.long (-78)], vm := .none },
  { cls := 8, slots := #[.long (-77)], vm := .none },
  { cls := 8, slots := #[.long (-76)], vm := .none },
  { cls := 8, slots := #[.long (-75)], vm := .none },
  { cls := 8, slots := #[.long (-74)], vm := .none },
  { cls := 8, slots := #[.long (-73)], vm := .none },
  { cls := 8, slots := #[.long (-72)], vm := .none },
  { cls := 8, slots := #[.long (-71)], vm := .none },
  { cls := 8, slots := #[.long (-70)], vm := .none },
  { cls := 8, slots := #[.long (-69)], vm := .none },
  { cls := 8, slots := #[.long (-68)], vm := .none },
  { cls := 8, slots := #[.long (-67)], vm := .none },
  { cls := 8, slots := #[.long (-66)], vm := .none },
  { cls := 8, slots := #[.long (-65)], vm := .none },
  { cls := 8, slots := #[.long (-64)], vm := .none },
  { cls := 8, slots := #[.long (-63)], vm := .none },
  { cls := 8, slots := #[.long (-62)], vm := .none },
  { cls := 8, slots := #[.long (-61)], vm := .none },
  { cls := 8, slots := #[.long (-60)], vm := .none },
  { cls := 8, slots := #[.long (-59)], vm := .none },
  { cls := 8, slots := #[.long (-58)], vm := .none },
  { cls := 8, slots := #[.long (-57)], vm := .none },
  { cls := 8, slots := #[.long (-56)], vm := .none },
  { cls := 8, slots := #[.long (-55)], vm := .none },
  { cls := 8, slots := #[.long (-54)], vm := .none },
  { cls := 8, slots := #[.long (-53)], vm := .none },
  { cls := 8, slots := #[.long (-52)], vm := .none },
  { cls := 8, slots := #[.long (-51)], vm := .none },
  { cls := 8, slots := #[.long (-50)], vm := .none },
  { cls := 8, slots := #[.long (-49)], vm := .none },
  { cls := 8, slots := #[.long (-48)], vm := .none },
  { cls := 8, slots := #[.long (-47)], vm := .none },
  { cls := 8, slots := #[.long (-46)], vm := .none },
  { cls := 8, slots := #[.long (-45)], vm := .none },
  { cls := 8, slots := #[.long (-44)], vm := .none },
  { cls := 8, slots := #[.long (-43)], vm := .none },
  { cls := 8, slots := #[.long (-42)], vm := .none },
  { cls := 8, slots := #[.long (-41)], vm := .none },
  { cls := 8, slots := #[.long (-40)], vm := .none },
  { cls := 8, slots := #[.long (-39)], vm := .none },
  { cls := 8, slots := #[.long (-38)], vm := .none },
  { cls := 8, slots := #[.long (-37)], vm := .none },
  { cls := 8, slots := #[.long (-36)], vm := .none },
  { cls := 8, slots := #[.long (-35)], vm := .none },
  { cls := 8, slots := #[.long (-34)], vm := .none },
  { cls := 8, slots := #[.long (-33)], vm := .none },
  { cls := 8, slots := #[.long (-32)], vm := .none },
  { cls := 8, slots := #[.long (-31)], vm := .none },
  { cls := 8, slots := #[.long (-30)], vm := .none },
  { cls := 8, slots := #[.long (-29)], vm := .none },
  { cls := 8, slots := #[.long (-28)], vm := .none },
  { cls := 8, slots := #[.long (-27)], vm := .none },
  { cls := 8, slots := #[.long (-26)], vm := .none },
  { cls := 8, slots := #[.long (-25)], vm := .none },
  { cls := 8, slots := #[.long (-24)], vm := .none },
  { cls := 8, slots := #[.long (-23)], vm := .none },
  { cls := 8, slots := #[.long (-22)], vm := .none },
  { cls := 8, slots := #[.long (-21)], vm := .none },
  { cls := 8, slots := #[.long (-20)], vm := .none },
  { cls := 8, slots := #[.long (-19)], vm := .none },
  { cls := 8, slots := #[.long (-18)], vm := .none },
  { cls := 8, slots := #[.long (-17)], vm := .none },
  { cls := 8, slots := #[.long (-16)], vm := .none },
  { cls := 8, slots := #[.long (-15)], vm := .none },
  { cls := 8, slots := #[.long (-14)], vm := .none },
  { cls := 8, slots := #[.long (-13)], vm := .none },
  { cls := 8, slots := #[.long (-12)], vm := .none },
  { cls := 8, slots := #[.long (-11)], vm := .none },
  { cls := 8, slots := #[.long (-10)], vm := .none },
  { cls := 8, slots := #[.long (-9)], vm := .none },
  { cls := 8, slots := #[.long (-8)], vm := .none },
  { cls := 8, slots := #[.long (-7)], vm := .none },
  { cls := 8, slots := #[.long (-6)], vm := .none },
  { cls := 8, slots := #[.long (-5)], vm := .none },
  { cls := 8, slots := #[.long (-4)], vm := .none },
  { cls := 8, slots := #[.long (-3)], vm := .none },
  { cls := 8, slots := #[.long (-2)], vm := .none },
  { cls := 8, slots := #[.long (-1)], vm := .none },
  { cls := 8, slots := #[.long 0], vm := .none },
  { cls := 8, slots := #[.long 1], vm := .none },
  { cls := 8, slots := #[.long 2], vm := .none },
  { cls := 8, slots := #[.long 3], vm := .none },
  { cls := 8, slots := #[.long 4], vm := .none },
  { cls := 8, slots := #[.long 5], vm := .none },
  { cls := 8, slots := #[.long 6], vm := .none },
  { cls := 8, slots := #[.long 7], vm := .none },
  { cls := 8, slots := #[.long 8], vm := .none },
  { cls := 8, slots := #[.long 9], vm := .none },
  { cls := 8, slots := #[.long 10], vm := .none },
  { cls := 8, slots := #[.long 11], vm := .none },
  { cls := 8, slots := #[.long 12], vm := .none },
  { cls := 8, slots := #[.long 13], vm := .none },
  { cls := 8, slots := #[.long 14], vm := .none },
  { cls := 8, slots := #[.long 15], vm := .none },
  { cls := 8, slots := #[.long 16], vm := .none },
  { cls := 8, slots := #[.long 17], vm := .none },
  { cls := 8, slots := #[.long 18], vm := .none },
  { cls := 8, slots := #[.long 19], vm := .none },
  { cls := 8, slots := #[.long 20], vm := .none },
  { cls := 8, slots := #[.long 21], vm := .none },
  { cls := 8, slots := #[.long 22], vm := .none },
  { cls := 8, slots := #[.long 23], vm := .none },
  { cls := 8, slots := #[.long 24], vm := .none },
  { cls := 8, slots := #[.long 25], vm := .none },
  { cls := 8, slots := #[.long 26], vm := .none },
  { cls := 8, slots := #[.long 27], vm := .none },
  { cls := 8, slots := #[.long 28], vm := .none },
  { cls := 8, slots := #[.long 29], vm := .none },
  { cls := 8, slots := #[.long 30], vm := .none },
  { cls := 8, slots := #[.long 31], vm := .none },
  { cls := 8, slots := #[.long 32], vm := .none },
  { cls := 8, slots := #[.long 33], vm := .none },
  { cls := 8, slots := #[.long 34], vm := .none },
  { cls := 8, slots := #[.long 35], vm := .none },
  { cls := 8, slots := #[.long 36], vm := .none },
  { cls := 8, slots := #[.long 37], vm := .none },
  { cls := 8, slots := #[.long 38], vm := .none },
  { cls := 8, slots := #[.long 39], vm := .none },
  { cls := 8, slots := #[.long 40], vm := .none },
  { cls := 8, slots := #[.long 41], vm := .none },
  { cls := 8, slots := #[.long 42], vm := .none },
  { cls := 8, slots := #[.long 43], vm := .none },
  { cls := 8, slots := #[.long 44], vm := .none },
  { cls := 8, slots := #[.long 45], vm := .none },
  { cls := 8, slots := #[.long 46], vm := .none },
  { cls := 8, slots := #[.long 47], vm := .none },
  { cls := 8, slots := #[.long 48], vm := .none },
  { cls := 8, slots := #[.long 49], vm := .none },
  { cls := 8, slots := #[.long 50], vm := .none },
  { cls := 8, slots := #[.long 51], vm := .none },
  { cls := 8, slots := #[.long 52], vm := .none },
  { cls := 8, slots := #[.long 53], vm := .none },
  { cls := 8, slots := #[.long 54], vm := .none },
  { cls := 8, slots := #[.long 55], vm := .none },
  { cls := 8, slots := #[.long 56], vm := .none },
  { cls := 8, slots := #[.long 57], vm := .none },
  { cls := 8, slots := #[.long 58], vm := .none },
  { cls := 8, slots := #[.long 59], vm := .none },
  { cls := 8, slots := #[.long 60], vm := .none },
  { cls := 8, slots := #[.long 61], vm := .none },
  { cls := 8, slots := #[.long 62], vm := .none },
  { cls := 8, slots := #[.long 63], vm := .none },
  { cls := 8, slots := #[.long 64], vm := .none },
  { cls := 8, slots := #[.long 65], vm := .none },
  { cls := 8, slots := #[.long 66], vm := .none },
  { cls := 8, slots := #[.long 67], vm := .none },
  { cls := 8, slots := #[.long 68], vm := .none },
  { cls := 8, slots := #[.long 69], vm := .none },
  { cls := 8, slots := #[.long 70], vm := .none },
  { cls := 8, slots := #[.long 71], vm := .none },
  { cls := 8, slots := #[.long 72], vm := .none },
  { cls := 8, slots := #[.long 73], vm := .none },
  { cls := 8, slots := #[.long 74], vm := .none },
  { cls := 8, slots := #[.long 75], vm := .none },
  { cls := 8, slots := #[.long 76], vm := .none },
  { cls := 8, slots := #[.long 77], vm := .none },
  { cls := 8, slots := #[.long 78], vm := .none },
  { cls := 8, slots := #[.long 79], vm := .none },
  { cls := 8, slots := #[.long 80], vm := .none },
  { cls := 8, slots := #[.long 81], vm := .none },
  { cls := 8, slots := #[.long 82], vm := .none },
  { cls := 8, slots := #[.long 83], vm := .none },
  { cls := 8, slots := #[.long 84], vm := .none },
  { cls := 8, slots := #[.long 85], vm := .none },
  { cls := 8, slots := #[.long 86], vm := .none },
  { cls := 8, slots := #[.long 87], vm := .none },
  { cls := 8, slots := #[.long 88], vm := .none },
  { cls := 8, slots := #[.long 89], vm := .none },
  { cls := 8, slots := #[.long 90], vm := .none },
  { cls := 8, slots := #[.long 91], vm := .none },
  { cls := 8, slots := #[.long 92], vm := .none },
  { cls := 8, slots := #[.long 93], vm := .none },
  { cls := 8, slots := #[.long 94], vm := .none },
  { cls := 8, slots := #[.long 95], vm := .none },
  { cls := 8, slots := #[.long 96], vm := .none },
  { cls := 8, slots := #[.long 97], vm := .none },
  { cls := 8, slots := #[.long 98], vm := .none },
  { cls := 8, slots := #[.long 99], vm := .none },
  { cls := 8, slots := #[.long 100], vm := .none },
  { cls := 8, slots := #[.long 101], vm := .none },
  { cls := 8, slots := #[.long 102], vm := .none },
  { cls := 8, slots := #[.long 103], vm := .none },
  { cls := 8, slots := #[.long 104], vm := .none },
  { cls := 8, slots := #[.long 105], vm := .none },
  { cls := 8, slots := #[.long 106], vm := .none },
  { cls := 8, slots := #[.long 107], vm := .none },
  { cls := 8, slots := #[.long 108], vm := .none },
  { cls := 8, slots := #[.long 109], vm := .none },
  { cls := 8, slots := #[.long 110], vm := .none },
  { cls := 8, slots := #[.long 111], vm := .none },
  { cls := 8, slots := #[.long 112], vm := .none },
  { cls := 8, slots := #[.long 113], vm := .none },
  { cls := 8, slots := #[.long 114], vm := .none },
  { cls := 8, slots := #[.long 115], vm := .none },
  { cls := 8, slots := #[.long 116], vm := .none },
  { cls := 8, slots := #[.long 117], vm := .none },
  { cls := 8, slots := #[.long 118], vm := .none },
  { cls := 8, slots := #[.long 119], vm := .none },
  { cls := 8, slots := #[.long 120], vm := .none },
  { cls := 8, slots := #[.long 121], vm := .none },
  { cls := 8, slots := #[.long 122], vm := .none },
  { cls := 8, slots := #[.long 123], vm := .none },
  { cls := 8, slots := #[.long 124], vm := .none },
  { cls := 8, slots := #[.long 125], vm := .none },
  { cls := 8, slots := #[.long 126], vm := .none },
  { cls := 8, slots := #[.long 127], vm := .none }]
def classes : Array Class := #[k0, k1, k2, k3, k4, k5, k6, k7, k8, k9, k10, k11, k12, k13, k14, k15]
def interned : List (Array UInt16 × Addr) := []
def slotsUsed : Nat := 515
def theMethod : MethodId := ⟨1, 1⟩
def args0 : Array Value := #[.long 5, .int 6, .int 7, .int 8, .int 9, .long 7]
def aboutOver (below : List Frame) : State where
  vm := { classes := classes, interned := interned.toArray }
  heap := heap
  slotsUsed := slotsUsed
  threads := #[{ frames := .invoking theMethod args0 :: below }]
def below0 : List Frame := [.native { method := ⟨0, 0⟩, args := #[] }]
def about1 : State := aboutOver below0
def p0 : Program := .bare "" "" ""
def e0 : Env := launch0.env 0 0 0
theorem w_frames : about1.frames = Frame.invoking theMethod args0 :: below0 := rfl
set_option maxRecDepth 65536 in
theorem w_args : argsFit about1.vm theMethod args0 = true := by decide +kernel
set_option maxRecDepth 65536 in
theorem w_heap : heapFits about1 = true := by decide +kernel
set_option maxRecDepth 65536 in
theorem w_runnable : about1.curStatus? = some .runnable := by decide +kernel
set_option maxRecDepth 65536 in
theorem w_alone : about1.alone = true := by decide +kernel
set_option maxRecDepth 65536 in
theorem w_named : about1.methodNamed? x = some theMethod := by decide +kernel
set_option maxRecDepth 65536 in
theorem w_hears : about1.hears theMethod below0 = true := by decide +kernel
set_option maxRecDepth 65536 in
theorem w_ripe : about1.ripe theMethod args0 below0 = true := by decide +kernel
theorem w_running : about1.status = .running := rfl
set_option maxRecDepth 65536 in
theorem w_room : about1.hasRoom e0.platform room_1 = true :=
  launch0.hasRoom_least _ room_1 (by decide +kernel) (by decide +kernel) (by decide +kernel) (by decide +kernel) (by decide +kernel) (by decide +kernel)
theorem allAtoms_all (ts : List Jvm.Cond) (a : Array Jvm.Value) (st : Jvm.State) : (allAtoms ts).before a st = ts.all (fun c => c.before a st) := by
  induction ts with
  | nil => rfl
  | cons c t ih =>
    show (Jvm.Cond.and c (allAtoms t)).before a st = _
    rw [Jvm.Cond.before_and, ih, List.all_cons]
def words1 : List Jvm.Cond := Jvm.Cond.code x code maxLocals ret :: tables_1
/-- a 'code' word, met by the world's own term for the bytes: nothing is compared byte by byte -/
theorem code_word {y : MethodName} {bytes : ByteArray} {mx : Nat} {rt : Option FieldType} {a : Array Value} {s : State} {m : MethodId} {meth : Method} {c : Code} (h1 : s.methodNamed? y = some m) (h2 : s.vm.method? m = some meth) (h3 : meth.code = some c) (h4 : c.code = bytes)
    (h5 : (c.maxLocals == mx && c.exceptionTable.isEmpty && decide (c.maxStack ≤ mostOperands) && decide (meth.sig.returnType = rt) && !meth.locks && decide (parseMethodDescriptor y.desc = some meth.sig)) = true) : (Jvm.Cond.code y bytes mx rt).before a s = true := by
  simp only [Bool.and_eq_true, beq_iff_eq, Bool.not_eq_true', decide_eq_true_eq] at h5
  obtain ⟨⟨⟨⟨⟨g1, g2⟩, g3⟩, g4⟩, g5⟩, g6⟩ := h5
  simp [Cond.before, Cond.holds, Cond.value, h1, h2, h3, h4, g1, g2, g3, g4, g5, g6]
def isCode : Jvm.Cond → Bool
  | .code _ _ _ _ => true
  | _ => false
theorem all_split {L : List Jvm.Cond} {P : Jvm.Cond → Bool} (h1 : L.all (fun c => isCode c || P c) = true) (h2 : ∀ c ∈ L.filter isCode, P c = true) : L.all P = true := by
  refine List.all_eq_true.mpr fun c hc => ?_
  have h := List.all_eq_true.mp h1 c hc
  rcases Bool.eq_false_or_eq_true (isCode c) with hi | hi
  · exact h2 c (List.mem_filter.mpr ⟨hc, hi⟩)
  · simpa [hi] using h
set_option maxRecDepth 65536 in
theorem w_c0 : (Jvm.Cond.code x code maxLocals ret).before args0 about1 = true := code_word (m := ⟨1, 1⟩) (meth := k1m1) (c := k1c1) (by decide +kernel) rfl rfl rfl (by decide +kernel)
set_option maxRecDepth 65536 in
theorem w_c1 : (Jvm.Cond.code ({ cls := "com/example/interval/interval/join/PairCount", name := "<init>", desc := "(JIII)V" } : Jvm.MethodName) prog_60_method_1_code (6 : Nat) (Option.none : Option Jvm.ClassFile.FieldType)).before args0 about1 = true := code_word (m := ⟨2, 0⟩) (meth := k2m0) (c := k2c0) (by decide +kernel) rfl rfl rfl (by decide +kernel)
set_option maxRecDepth 65536 in
theorem w_c2 : (Jvm.Cond.code ({ cls := "java/lang/Object", name := "<init>", desc := "()V" } : Jvm.MethodName) object_method_1_code (1 : Nat) (Option.none : Option Jvm.ClassFile.FieldType)).before args0 about1 = true := code_word (m := ⟨0, 0⟩) (meth := k0m0) (c := k0c0) (by decide +kernel) rfl rfl rfl (by decide +kernel)
set_option maxRecDepth 65536 in
theorem w_c3 : (Jvm.Cond.code ({ cls := "java/lang/Long", name := "valueOf", desc := "(J)Ljava/lang/Long;" } : Jvm.MethodName) jdk_35_method_24_code (3 : Nat) (Option.some (Jvm.ClassFile.FieldType.object "java/lang/Long"))).before args0 about1 = true := code_word (m := ⟨8, 0⟩) (meth := k8m0) (c := k8c0) (by decide +kernel) rfl rfl rfl (by decide +kernel)
set_option maxRecDepth 65536 in
theorem w_c4 : (Jvm.Cond.code ({ cls := "com/example/interval/interval/join/PairCount", name := "equals", desc := "(Ljava/lang/Object;)Z" } : Jvm.MethodName) prog_60_method_6_code (3 : Nat) (Option.some Jvm.ClassFile.FieldType.boolean)).before args0 about1 = true := code_word (m := ⟨2, 1⟩) (meth := k2m1) (c := k2c1) (by decide +kernel) rfl rfl rfl (by decide +kernel)
set_option maxRecDepth 65536 in
theorem w_c5 : (Jvm.Cond.code ({ cls := "java/lang/Long", name := "<init>", desc := "(J)V" } : Jvm.MethodName) jdk_35_method_26_code (3 : Nat) (Option.none : Option Jvm.ClassFile.FieldType)).before args0 about1 = true := code_word (m := ⟨8, 1⟩) (meth := k8m1) (c := k8c1) (by decide +kernel) rfl rfl rfl (by decide +kernel)
set_option maxRecDepth 65536 in
theorem w_c6 : (Jvm.Cond.code ({ cls := "java/lang/Number", name := "<init>", desc := "()V" } : Jvm.MethodName) jdk_18_method_1_code (1 : Nat) (Option.none : Option Jvm.ClassFile.FieldType)).before args0 about1 = true := code_word (m := ⟨4, 0⟩) (meth := k4m0) (c := k4c0) (by decide +kernel) rfl rfl rfl (by decide +kernel)
def codes1 : List Jvm.Cond := [Jvm.Cond.code x code maxLocals ret, Jvm.Cond.code ({ cls := "com/example/interval/interval/join/PairCount", name := "<init>", desc := "(JIII)V" } : Jvm.MethodName) prog_60_method_1_code (6 : Nat) (Option.none : Option Jvm.ClassFile.FieldType), Jvm.Cond.code ({ cls := "java/lang/Object", name := "<init>", desc := "()V" } : Jvm.MethodName) object_method_1_code (1 : Nat) (Option.none : Option Jvm.ClassFile.FieldType), Jvm.Cond.code ({ cls := "java/lang/Long", name := "valueOf", desc := "(J)Ljava/lang/Long;" } : Jvm.MethodName) jdk_35_method_24_code (3 : Nat) (Option.some (Jvm.ClassFile.FieldType.object "java/lang/Long")), Jvm.Cond.code ({ cls := "com/example/interval/interval/join/PairCount", name := "equals", desc := "(Ljava/lang/Object;)Z" } : Jvm.MethodName) prog_60_method_6_code (3 : Nat) (Option.some Jvm.ClassFile.FieldType.boolean), Jvm.Cond.code ({ cls := "java/lang/Long", name := "<init>", desc := "(J)V" } : Jvm.MethodName) jdk_35_method_26_code (3 : Nat) (Option.none : Option Jvm.ClassFile.FieldType), Jvm.Cond.code ({ cls := "java/lang/Number", name := "<init>", desc := "()V" } : Jvm.MethodName) jdk_18_method_1_code (1 : Nat) (Option.none : Option Jvm.ClassFile.FieldType)]
set_option maxRecDepth 65536 in
theorem codes_eq : words1.filter isCode = codes1 := rfl
theorem w_codes : ∀ c ∈ words1.filter isCode, c.before args0 about1 = true := by
  rw [codes_eq]
  intro c hc
  simp only [codes1, List.mem_cons, List.not_mem_nil, or_false] at hc
  rcases hc with rfl | rfl | rfl | rfl | rfl | rfl | rfl
  · exact w_c0
  · exact w_c1
  · exact w_c2
  · exact w_c3
  · exact w_c4
  · exact w_c5
  · exact w_c6
set_option maxRecDepth 65536 in
theorem w_t1 : (words1.take 24).all (fun c => isCode c || c.before args0 about1) = true := by decide +kernel
set_option maxRecDepth 65536 in
theorem w_t2 : ((words1.drop 24).take 24).all (fun c => isCode c || c.before args0 about1) = true := by decide +kernel
set_option maxRecDepth 65536 in
theorem w_t3 : ((words1.drop 24).drop 24).all (fun c => isCode c || c.before args0 about1) = true := by decide +kernel
theorem w_tables : (allAtoms (Jvm.Cond.code x code maxLocals ret :: tables_1)).before args0 about1 = true := by
  rw [allAtoms_all]
  show words1.all (fun c => c.before args0 about1) = true
  refine all_split ?_ w_codes
  rw [← List.take_append_drop 24 words1, List.all_append, w_t1, ← List.take_append_drop 24 (words1.drop 24), List.all_append, w_t2, w_t3]
  rfl
set_option maxRecDepth 65536 in
theorem w_rest : rest_1_c.before args0 about1 = true := by decide +kernel
set_option maxRecDepth 65536 in
theorem w_case : (Jvm.Cond.and given_1 narrow_1).before args0 about1 = true := by decide +kernel
theorem w_applies : (headSpec (Jvm.Cond.code x code maxLocals ret :: tables_1) room_1).applies x e0.platform about1 = true :=
  (Spec.applies_iff w_frames).mpr ⟨w_running, w_runnable, w_alone, w_named, w_hears, w_ripe, w_room, w_tables⟩
theorem atStart : AtStart classFile x code maxLocals ret World_1 tables_1 room_1 Calls_1 rest_1 Pre_1 launch0 p0 e0 about1 theMethod args0 below0 :=
  ⟨lists_1, trivial, launch0.admits_env _ _ _, launch0.least_env, fairChoices_fair.cas, fairChoices_fair.clock, w_frames, w_args, w_heap, w_applies, trivial, w_rest, w_case⟩
end start1
theorem witness_1 : WitnessClaimed_1 := ⟨start1.p0, start1.e0, start1.about1, start1.theMethod, start1.args0, start1.below0, start1.atStart⟩
end Jvm.Pilot.@@N@@
