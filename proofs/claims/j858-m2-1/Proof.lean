import JvmDerived
import JvmDerived.Pilot.@@N@@Statement
import JvmDerived.Pilot.@@N@@Code
set_option linter.unusedVariables false
set_option linter.unusedSimpArgs false
namespace Jvm.Pilot.@@N@@.W
open Jvm Jvm.ClassFile Sem Op Lib Jvm.Free Jvm.Stand Jvm.LawKit Jvm.RoadKit Bundle

/-- the invocation comes to its end from (T, f): what it returns and the heap there are as G says; nothing below n0 is written; at most K cells, N slots are made -/
def Ends (p : Program) (e : Env) (below : List Frame) (Y : State → Outcome → List Loc → Prop) (n0 : Nat) (G : Option Value → Heap → Prop) (T : State) (f : JFrame) : Prop :=
  ∃ s₂ o, Steps p.tables e below (T.setTop f) s₂ ∧ s₂.status = .running ∧ Ended s₂ below o ∧ ∃ v L, o = .returned v ∧ (G v s₂.heap ∧ Fr n0 L) ∧ Y s₂ o L
/-- the walk stands in T, whose heap is h -/
def St (p : Program) (l : Launch) (e : Env) (R : Room) (s : State) (m : MethodId) (args : Array Value) (below : List Frame) (meth : Method) (c : Code) (n0 : Nat) (h : Heap) (k n : Nat) (T : State) : Prop :=
  ∃ locs, Fr n0 locs ∧ Stand p l e R s m args below meth c T locs k n ∧ T.heap = h
/-- what stays through a walk: the machine, the tables of the start, the body, its class, what it returns -/
def Cx (p : Program) (s : State) (m : MethodId) (meth : Method) (c : Code) (Z : State) (n0 : Nat) (own : String) (bytes : ByteArray) (ml : Nat) (ret : Option FieldType) : Prop :=
  p.tables.exec = Jvm.exec ∧ Z.Warmed39 s.vm ∧ c.code = bytes ∧ c.maxLocals = ml ∧ s.vm.findClass own = some m.cls ∧ meth.sig.returnType = ret ∧ meth.locks = false ∧ n0 ≤ s.heap.size
/-- from every state that stands so, with the frame f on top, the invocation comes to its end -/
def Go (p : Program) (l : Launch) (e : Env) (R : Room) (s : State) (m : MethodId) (args : Array Value) (below : List Frame) (meth : Method) (c : Code) (Y : State → Outcome → List Loc → Prop) (n0 : Nat) (G : Option Value → Heap → Prop) (h : Heap) (k n : Nat) (f : JFrame) : Prop :=
  ∀ T, St p l e R s m args below meth c n0 h k n T → Ends p e below Y n0 G T f
/-- a body's contract -/
abbrev Con (l : Launch) (Z : State) (y : MethodName) (bytes : ByteArray) (ml : Nat) (ret : Option FieldType) (ws : List Cond) (rm : Room) (K N : Nat) (as : Array Value) (h0 : Heap) (n0 : Nat) (G : Option Value → Heap → Prop) : Prop :=
  MetFree l y (head1 (Cond.code y bytes ml ret :: ws) rm) (fun a U => a = as ∧ Z.Warmed39 U.vm ∧ U.heap = h0) (fun _ _ _ _ _ => True) (fun _ U o U' => ∃ v L, o = .returned v ∧ (G v U'.heap ∧ Fr n0 L) ∧ FrameEnd U o U' L K N)

section Walk
variable {p : Program} {l : Launch} {e : Env} {R : Room} {s : State} {m : MethodId} {args : Array Value} {below : List Frame} {meth : Method} {c : Code} {K N n0 k n : Nat} {G : Option Value → Heap → Prop} {Y : State → Outcome → List Loc → Prop}
  {Z : State} {a0 : Array Value} {own : String} {bytes : ByteArray} {ml : Nat} {ret : Option FieldType} {Ls Ls' : Array Slot} {S : List Value} {pc pc' pn : Nat} {h h' : Heap}

theorem step {T T' : State} {f f' : JFrame} (q : ∀ target, Steps p.tables e below (T'.setTop f') target → Steps p.tables e below (T.setTop f) target) (g : Ends p e below Y n0 G T' f') : Ends p e below Y n0 G T f := by
  obtain ⟨s₂, o, h1, h2⟩ := g
  exact ⟨s₂, o, q _ h1, h2⟩
theorem stepG {f f' : JFrame} (q : ∀ T locs, Stand p l e R s m args below meth c T locs k n → T.heap = h → ∀ target, Steps p.tables e below (T.setTop f') target → Steps p.tables e below (T.setTop f) target)
    (g : Go p l e R s m args below meth c Y n0 G h k n f') : Go p l e R s m args below meth c Y n0 G h k n f := fun T ⟨locs, F, X, eT⟩ => step (q T locs X eT) (g T ⟨locs, F, X, eT⟩)
theorem Go.mono {f : JFrame} {k2 n2 : Nat} (g : Go p l e R s m args below meth c Y n0 G h k2 n2 f) (h1 : k ≤ k2) (h2 : n ≤ n2) : Go p l e R s m args below meth c Y n0 G h k n f := fun T ⟨locs, F, X, eT⟩ =>
  g T ⟨locs, F, ⟨X.admits, X.cas, X.clock, X.frames, X.room, X.hears, X.method, X.code, X.here, X.tail, X.warmed, X.limits, X.bytes, X.same.mono h1 h2⟩, eT⟩
theorem Go.castF {f f' : JFrame} (q : f = f') (g : Go p l e R s m args below meth c Y n0 G h k n f') : Go p l e R s m args below meth c Y n0 G h k n f := q ▸ g

/-- entering -/
theorem enter {y : MethodName} {as : Array Value} {ws : List Cond} {rm : Room} {h0 : Heap} (hp : plainFor y = true) (Z0 : n0 ≤ h0.size)
    (body : ∀ p e s m below meth c, Cx p s m meth c Z n0 y.cls bytes ml ret → meth.name = y.name → s.heap = h0 → Go p l e rm s m as below meth c (fun s₂ o L => FrameEnd s o s₂ L K N) n0 G h0 0 0 (entryFrame m as ml)) : Con l Z y bytes ml ret ws rm K N as h0 n0 G := by
  refine MetFree.of_bodySF hp hisR ?_
  intro p e s m args below meth c s₁ Bd hml0 hP hK
  obtain ⟨rfl, hZ, hh⟩ := hP
  have X0 : Stand p l e rm s m args below meth c s₁ [] 0 0 := Stand.of_body Bd
  have e0 : s₁.heap = h0 := by rw [← hh, Bd.state]; rfl
  obtain ⟨s₂, o, h1, h2, h3, h4⟩ := body p e s m below meth c ⟨Bd.exec, hZ, Bd.bytes, hml0, findClass_of_methodNamed Bd.named, Bd.returns, Bd.notSynchronized, by rw [hh]; exact Z0⟩ (name_of_methodNamed Bd.named Bd.method).1 hh s₁ ⟨[], Fr.nil _, X0, e0⟩
  exact ⟨s₂, o, h1, h2, h3, h4⟩

/-! loads, stores, constants -/
theorem iloadN (C : Cx p s m meth c Z n0 own bytes ml ret) {i : Fin 4} {v : Int32} (hd : decode bytes pc = .ok (.iload_n i, 1)) (hp : pc + 1 = pc') (hl : Ls[i.val]? = some (.val (.int v)))
    (g : Go p l e R s m args below meth c Y n0 G h k n (mkF m pc' Ls (.int v :: S))) : Go p l e R s m args below meth c Y n0 G h k n (mkF m pc Ls S) := by
  subst hp; exact stepG (fun T locs X _ _ q => XS.iloadN X.here C.1 rfl (hb C.2.2.1 hd) hl q) g
theorem iload (C : Cx p s m meth c Z n0 own bytes ml ret) {i : Nat} {v : Int32} (hd : decode bytes pc = .ok (.iload i, 2)) (hp : pc + 2 = pc') (hl : Ls[i]? = some (.val (.int v)))
    (g : Go p l e R s m args below meth c Y n0 G h k n (mkF m pc' Ls (.int v :: S))) : Go p l e R s m args below meth c Y n0 G h k n (mkF m pc Ls S) := by
  subst hp; exact stepG (fun T locs X _ _ q => XS.iload X.here C.1 rfl (hb C.2.2.1 hd) hl q) g
theorem lloadN (C : Cx p s m meth c Z n0 own bytes ml ret) {i : Fin 4} {v : Int64} (hd : decode bytes pc = .ok (.lload_n i, 1)) (hp : pc + 1 = pc') (hl : Ls[i.val]? = some (.val (.long v)))
    (g : Go p l e R s m args below meth c Y n0 G h k n (mkF m pc' Ls (.long v :: S))) : Go p l e R s m args below meth c Y n0 G h k n (mkF m pc Ls S) := by
  subst hp; exact stepG (fun T locs X _ _ q => XS.lloadN X.here C.1 rfl (hb C.2.2.1 hd) hl q) g
theorem lload (C : Cx p s m meth c Z n0 own bytes ml ret) {i : Nat} {v : Int64} (hd : decode bytes pc = .ok (.lload i, 2)) (hp : pc + 2 = pc') (hl : Ls[i]? = some (.val (.long v)))
    (g : Go p l e R s m args below meth c Y n0 G h k n (mkF m pc' Ls (.long v :: S))) : Go p l e R s m args below meth c Y n0 G h k n (mkF m pc Ls S) := by
  subst hp; exact stepG (fun T locs X _ _ q => XS.lload X.here C.1 rfl (hb C.2.2.1 hd) hl q) g
theorem aloadN (C : Cx p s m meth c Z n0 own bytes ml ret) {i : Fin 4} {v : Value} (hd : decode bytes pc = .ok (.aload_n i, 1)) (hp : pc + 1 = pc') (hl : Ls[i.val]? = some (.val v)) (hv : v.isRef = true)
    (g : Go p l e R s m args below meth c Y n0 G h k n (mkF m pc' Ls (v :: S))) : Go p l e R s m args below meth c Y n0 G h k n (mkF m pc Ls S) := by
  subst hp; exact stepG (fun T locs X _ _ q => XS.aloadN X.here C.1 rfl (hb C.2.2.1 hd) hl hv q) g
theorem aload (C : Cx p s m meth c Z n0 own bytes ml ret) {i : Nat} {v : Value} (hd : decode bytes pc = .ok (.aload i, 2)) (hp : pc + 2 = pc') (hl : Ls[i]? = some (.val v)) (hv : v.isRef = true)
    (g : Go p l e R s m args below meth c Y n0 G h k n (mkF m pc' Ls (v :: S))) : Go p l e R s m args below meth c Y n0 G h k n (mkF m pc Ls S) := by
  subst hp; exact stepG (fun T locs X _ _ q => XS.aload X.here C.1 rfl (hb C.2.2.1 hd) hl hv q) g
theorem istoreN (C : Cx p s m meth c Z n0 own bytes ml ret) {i : Fin 4} {x : Int32} (hd : decode bytes pc = .ok (.istore_n i, 1)) (hp : pc + 1 = pc') (hl : storeLocals Ls i.val (.int x) = some Ls')
    (g : Go p l e R s m args below meth c Y n0 G h k n (mkF m pc' Ls' S)) : Go p l e R s m args below meth c Y n0 G h k n (mkF m pc Ls (.int x :: S)) := by
  subst hp; exact stepG (fun T locs X _ _ q => XS.istoreN X.here C.1 rfl (hb C.2.2.1 hd) rfl hl q) g
theorem istore (C : Cx p s m meth c Z n0 own bytes ml ret) {i : Nat} {x : Int32} (hd : decode bytes pc = .ok (.istore i, 2)) (hp : pc + 2 = pc') (hl : storeLocals Ls i (.int x) = some Ls')
    (g : Go p l e R s m args below meth c Y n0 G h k n (mkF m pc' Ls' S)) : Go p l e R s m args below meth c Y n0 G h k n (mkF m pc Ls (.int x :: S)) := by
  subst hp; exact stepG (fun T locs X _ _ q => XS.istore X.here C.1 rfl (hb C.2.2.1 hd) rfl hl q) g
theorem lstoreN (C : Cx p s m meth c Z n0 own bytes ml ret) {i : Fin 4} {x : Int64} (hd : decode bytes pc = .ok (.lstore_n i, 1)) (hp : pc + 1 = pc') (hl : storeLocals Ls i.val (.long x) = some Ls')
    (g : Go p l e R s m args below meth c Y n0 G h k n (mkF m pc' Ls' S)) : Go p l e R s m args below meth c Y n0 G h k n (mkF m pc Ls (.long x :: S)) := by
  subst hp; exact stepG (fun T locs X _ _ q => XS.lstoreN X.here C.1 rfl (hb C.2.2.1 hd) rfl hl q) g
theorem lstore (C : Cx p s m meth c Z n0 own bytes ml ret) {i : Nat} {x : Int64} (hd : decode bytes pc = .ok (.lstore i, 2)) (hp : pc + 2 = pc') (hl : storeLocals Ls i (.long x) = some Ls')
    (g : Go p l e R s m args below meth c Y n0 G h k n (mkF m pc' Ls' S)) : Go p l e R s m args below meth c Y n0 G h k n (mkF m pc Ls (.long x :: S)) := by
  subst hp; exact stepG (fun T locs X _ _ q => XS.lstore X.here C.1 rfl (hb C.2.2.1 hd) rfl hl q) g
theorem astoreN (C : Cx p s m meth c Z n0 own bytes ml ret) {i : Fin 4} {x : Value} (hd : decode bytes pc = .ok (.astore_n i, 1)) (hp : pc + 1 = pc') (hv : x.isRef = true) (hl : storeLocals Ls i.val x = some Ls')
    (g : Go p l e R s m args below meth c Y n0 G h k n (mkF m pc' Ls' S)) : Go p l e R s m args below meth c Y n0 G h k n (mkF m pc Ls (x :: S)) := by
  subst hp; exact stepG (fun T locs X _ _ q => XS.astoreN X.here C.1 rfl (hb C.2.2.1 hd) rfl hv hl q) g
theorem astore (C : Cx p s m meth c Z n0 own bytes ml ret) {i : Nat} {x : Value} (hd : decode bytes pc = .ok (.astore i, 2)) (hp : pc + 2 = pc') (hv : x.isRef = true) (hl : storeLocals Ls i x = some Ls')
    (g : Go p l e R s m args below meth c Y n0 G h k n (mkF m pc' Ls' S)) : Go p l e R s m args below meth c Y n0 G h k n (mkF m pc Ls (x :: S)) := by
  subst hp; exact stepG (fun T locs X _ _ q => XS.astore X.here C.1 rfl (hb C.2.2.1 hd) rfl hv hl q) g
theorem iconst (C : Cx p s m meth c Z n0 own bytes ml ret) {i : Int} {x : Int32} (hd : decode bytes pc = .ok (.iconst i, 1)) (hp : pc + 1 = pc') (hv : Int32.ofInt i = x)
    (g : Go p l e R s m args below meth c Y n0 G h k n (mkF m pc' Ls (.int x :: S))) : Go p l e R s m args below meth c Y n0 G h k n (mkF m pc Ls S) := by
  subst hp hv; exact stepG (fun T locs X _ _ q => XS.iconst X.here C.1 rfl (hb C.2.2.1 hd) q) g
theorem bipush (C : Cx p s m meth c Z n0 own bytes ml ret) {i : Int} {x : Int32} (hd : decode bytes pc = .ok (.bipush i, 2)) (hp : pc + 2 = pc') (hv : (Int8.ofInt i).toInt32 = x)
    (g : Go p l e R s m args below meth c Y n0 G h k n (mkF m pc' Ls (.int x :: S))) : Go p l e R s m args below meth c Y n0 G h k n (mkF m pc Ls S) := by
  subst hp hv; exact stepG (fun T locs X _ _ q => XS.bipush X.here C.1 rfl (hb C.2.2.1 hd) q) g
theorem sipush (C : Cx p s m meth c Z n0 own bytes ml ret) {i : Int} {x : Int32} (hd : decode bytes pc = .ok (.sipush i, 3)) (hp : pc + 3 = pc') (hv : (Int16.ofInt i).toInt32 = x)
    (g : Go p l e R s m args below meth c Y n0 G h k n (mkF m pc' Ls (.int x :: S))) : Go p l e R s m args below meth c Y n0 G h k n (mkF m pc Ls S) := by
  subst hp hv; exact stepG (fun T locs X _ _ q => XS.sipush X.here C.1 rfl (hb C.2.2.1 hd) q) g
theorem lconst (C : Cx p s m meth c Z n0 own bytes ml ret) {i : Fin 2} {x : Int64} (hd : decode bytes pc = .ok (.lconst i, 1)) (hp : pc + 1 = pc') (hv : Int64.ofNat i = x)
    (g : Go p l e R s m args below meth c Y n0 G h k n (mkF m pc' Ls (.long x :: S))) : Go p l e R s m args below meth c Y n0 G h k n (mkF m pc Ls S) := by
  subst hp hv; exact stepG (fun T locs X _ _ q => XS.lconst X.here C.1 rfl (hb C.2.2.1 hd) q) g
theorem aconst_null (C : Cx p s m meth c Z n0 own bytes ml ret) (hd : decode bytes pc = .ok (.aconst_null, 1)) (hp : pc + 1 = pc')
    (g : Go p l e R s m args below meth c Y n0 G h k n (mkF m pc' Ls (.null :: S))) : Go p l e R s m args below meth c Y n0 G h k n (mkF m pc Ls S) := by
  subst hp; exact stepG (fun T locs X _ _ q => XS.aconstNull X.here C.1 rfl (hb C.2.2.1 hd) q) g
theorem ldcI (C : Cx p s m meth c Z n0 own bytes ml ret) {i : Nat} {v : Int32} (w : (Cond.constant own i v).before a0 Z = true) (hd : decode bytes pc = .ok (.ldc i, 2)) (hp : pc + 2 = pc')
    (g : Go p l e R s m args below meth c Y n0 G h k n (mkF m pc' Ls (.int v :: S))) : Go p l e R s m args below meth c Y n0 G h k n (mkF m pc Ls S) := by
  subst hp; exact stepG (fun T locs X _ t q => X.ldcInt C.1 C.2.2.2.2.1 (mvT C.2.1 w) (g := mkF m pc Ls S) rfl (hb C.2.2.1 hd) t q) g
theorem ldcwI (C : Cx p s m meth c Z n0 own bytes ml ret) {i : Nat} {v : Int32} (w : (Cond.constant own i v).before a0 Z = true) (hd : decode bytes pc = .ok (.ldc_w i, 3)) (hp : pc + 3 = pc')
    (g : Go p l e R s m args below meth c Y n0 G h k n (mkF m pc' Ls (.int v :: S))) : Go p l e R s m args below meth c Y n0 G h k n (mkF m pc Ls S) := by
  subst hp; exact stepG (fun T locs X _ t q => X.ldcwInt C.1 C.2.2.2.2.1 (mvT C.2.1 w) (g := mkF m pc Ls S) rfl (hb C.2.2.1 hd) t q) g
theorem ldc2 (C : Cx p s m meth c Z n0 own bytes ml ret) {i : Nat} {v : Int64} (w : (Cond.constantLong own i v).before a0 Z = true) (hd : decode bytes pc = .ok (.ldc2_w i, 3)) (hp : pc + 3 = pc')
    (g : Go p l e R s m args below meth c Y n0 G h k n (mkF m pc' Ls (.long v :: S))) : Go p l e R s m args below meth c Y n0 G h k n (mkF m pc Ls S) := by
  subst hp; exact stepG (fun T locs X _ t q => X.ldc2Long C.1 C.2.2.2.2.1 (mvT C.2.1 w) (g := mkF m pc Ls S) rfl (hb C.2.2.1 hd) t q) g
theorem iadd (C : Cx p s m meth c Z n0 own bytes ml ret) {x y z : Int32} (hd : decode bytes pc = .ok (.iadd, 1)) (hp : pc + 1 = pc') (hv : x + y = z)
    (g : Go p l e R s m args below meth c Y n0 G h k n (mkF m pc' Ls (.int z :: S))) : Go p l e R s m args below meth c Y n0 G h k n (mkF m pc Ls (.int y :: .int x :: S)) := by
  subst hp hv; exact stepG (fun T locs X _ _ q => XS.iadd X.here C.1 rfl (hb C.2.2.1 hd) rfl q) g
theorem isub (C : Cx p s m meth c Z n0 own bytes ml ret) {x y z : Int32} (hd : decode bytes pc = .ok (.isub, 1)) (hp : pc + 1 = pc') (hv : x - y = z)
    (g : Go p l e R s m args below meth c Y n0 G h k n (mkF m pc' Ls (.int z :: S))) : Go p l e R s m args below meth c Y n0 G h k n (mkF m pc Ls (.int y :: .int x :: S)) := by
  subst hp hv; exact stepG (fun T locs X _ _ q => XS.isub X.here C.1 rfl (hb C.2.2.1 hd) rfl q) g
theorem imul (C : Cx p s m meth c Z n0 own bytes ml ret) {x y z : Int32} (hd : decode bytes pc = .ok (.imul, 1)) (hp : pc + 1 = pc') (hv : x * y = z)
    (g : Go p l e R s m args below meth c Y n0 G h k n (mkF m pc' Ls (.int z :: S))) : Go p l e R s m args below meth c Y n0 G h k n (mkF m pc Ls (.int y :: .int x :: S)) := by
  subst hp hv; exact stepG (fun T locs X _ _ q => XS.imul X.here C.1 rfl (hb C.2.2.1 hd) rfl q) g
theorem iand (C : Cx p s m meth c Z n0 own bytes ml ret) {x y z : Int32} (hd : decode bytes pc = .ok (.iand, 1)) (hp : pc + 1 = pc') (hv : x &&& y = z)
    (g : Go p l e R s m args below meth c Y n0 G h k n (mkF m pc' Ls (.int z :: S))) : Go p l e R s m args below meth c Y n0 G h k n (mkF m pc Ls (.int y :: .int x :: S)) := by
  subst hp hv; exact stepG (fun T locs X _ _ q => XS.iand X.here C.1 rfl (hb C.2.2.1 hd) rfl q) g
theorem ior (C : Cx p s m meth c Z n0 own bytes ml ret) {x y z : Int32} (hd : decode bytes pc = .ok (.ior, 1)) (hp : pc + 1 = pc') (hv : x ||| y = z)
    (g : Go p l e R s m args below meth c Y n0 G h k n (mkF m pc' Ls (.int z :: S))) : Go p l e R s m args below meth c Y n0 G h k n (mkF m pc Ls (.int y :: .int x :: S)) := by
  subst hp hv; exact stepG (fun T locs X _ _ q => XS.ior X.here C.1 rfl (hb C.2.2.1 hd) rfl q) g
theorem ixor (C : Cx p s m meth c Z n0 own bytes ml ret) {x y z : Int32} (hd : decode bytes pc = .ok (.ixor, 1)) (hp : pc + 1 = pc') (hv : x ^^^ y = z)
    (g : Go p l e R s m args below meth c Y n0 G h k n (mkF m pc' Ls (.int z :: S))) : Go p l e R s m args below meth c Y n0 G h k n (mkF m pc Ls (.int y :: .int x :: S)) := by
  subst hp hv; exact stepG (fun T locs X _ _ q => XS.ixor X.here C.1 rfl (hb C.2.2.1 hd) rfl q) g
theorem ladd (C : Cx p s m meth c Z n0 own bytes ml ret) {x y z : Int64} (hd : decode bytes pc = .ok (.ladd, 1)) (hp : pc + 1 = pc') (hv : x + y = z)
    (g : Go p l e R s m args below meth c Y n0 G h k n (mkF m pc' Ls (.long z :: S))) : Go p l e R s m args below meth c Y n0 G h k n (mkF m pc Ls (.long y :: .long x :: S)) := by
  subst hp hv; exact stepG (fun T locs X _ _ q => XS.ladd X.here C.1 rfl (hb C.2.2.1 hd) rfl q) g
theorem lsub (C : Cx p s m meth c Z n0 own bytes ml ret) {x y z : Int64} (hd : decode bytes pc = .ok (.lsub, 1)) (hp : pc + 1 = pc') (hv : x - y = z)
    (g : Go p l e R s m args below meth c Y n0 G h k n (mkF m pc' Ls (.long z :: S))) : Go p l e R s m args below meth c Y n0 G h k n (mkF m pc Ls (.long y :: .long x :: S)) := by
  subst hp hv; exact stepG (fun T locs X _ _ q => XS.lsub X.here C.1 rfl (hb C.2.2.1 hd) rfl q) g
theorem lmul (C : Cx p s m meth c Z n0 own bytes ml ret) {x y z : Int64} (hd : decode bytes pc = .ok (.lmul, 1)) (hp : pc + 1 = pc') (hv : x * y = z)
    (g : Go p l e R s m args below meth c Y n0 G h k n (mkF m pc' Ls (.long z :: S))) : Go p l e R s m args below meth c Y n0 G h k n (mkF m pc Ls (.long y :: .long x :: S)) := by
  subst hp hv; exact stepG (fun T locs X _ _ q => XS.lmul X.here C.1 rfl (hb C.2.2.1 hd) rfl q) g
theorem land (C : Cx p s m meth c Z n0 own bytes ml ret) {x y z : Int64} (hd : decode bytes pc = .ok (.land, 1)) (hp : pc + 1 = pc') (hv : x &&& y = z)
    (g : Go p l e R s m args below meth c Y n0 G h k n (mkF m pc' Ls (.long z :: S))) : Go p l e R s m args below meth c Y n0 G h k n (mkF m pc Ls (.long y :: .long x :: S)) := by
  subst hp hv; exact stepG (fun T locs X _ _ q => XS.land X.here C.1 rfl (hb C.2.2.1 hd) rfl q) g
theorem lor (C : Cx p s m meth c Z n0 own bytes ml ret) {x y z : Int64} (hd : decode bytes pc = .ok (.lor, 1)) (hp : pc + 1 = pc') (hv : x ||| y = z)
    (g : Go p l e R s m args below meth c Y n0 G h k n (mkF m pc' Ls (.long z :: S))) : Go p l e R s m args below meth c Y n0 G h k n (mkF m pc Ls (.long y :: .long x :: S)) := by
  subst hp hv; exact stepG (fun T locs X _ _ q => XS.lor X.here C.1 rfl (hb C.2.2.1 hd) rfl q) g
theorem lxor (C : Cx p s m meth c Z n0 own bytes ml ret) {x y z : Int64} (hd : decode bytes pc = .ok (.lxor, 1)) (hp : pc + 1 = pc') (hv : x ^^^ y = z)
    (g : Go p l e R s m args below meth c Y n0 G h k n (mkF m pc' Ls (.long z :: S))) : Go p l e R s m args below meth c Y n0 G h k n (mkF m pc Ls (.long y :: .long x :: S)) := by
  subst hp hv; exact stepG (fun T locs X _ _ q => XS.lxor X.here C.1 rfl (hb C.2.2.1 hd) rfl q) g
theorem ishl (C : Cx p s m meth c Z n0 own bytes ml ret) {x z : Int32} {y : Int32} (hd : decode bytes pc = .ok (.ishl, 1)) (hp : pc + 1 = pc') (hv : (x <<< (y &&& 31)) = z)
    (g : Go p l e R s m args below meth c Y n0 G h k n (mkF m pc' Ls (.int z :: S))) : Go p l e R s m args below meth c Y n0 G h k n (mkF m pc Ls (.int y :: .int x :: S)) := by
  subst hp hv; exact stepG (fun T locs X _ _ q => XS.ishl X.here C.1 rfl (hb C.2.2.1 hd) rfl q) g
theorem ishr (C : Cx p s m meth c Z n0 own bytes ml ret) {x z : Int32} {y : Int32} (hd : decode bytes pc = .ok (.ishr, 1)) (hp : pc + 1 = pc') (hv : (x >>> (y &&& 31)) = z)
    (g : Go p l e R s m args below meth c Y n0 G h k n (mkF m pc' Ls (.int z :: S))) : Go p l e R s m args below meth c Y n0 G h k n (mkF m pc Ls (.int y :: .int x :: S)) := by
  subst hp hv; exact stepG (fun T locs X _ _ q => XS.ishr X.here C.1 rfl (hb C.2.2.1 hd) rfl q) g
theorem iushr (C : Cx p s m meth c Z n0 own bytes ml ret) {x z : Int32} {y : Int32} (hd : decode bytes pc = .ok (.iushr, 1)) (hp : pc + 1 = pc') (hv : ((x).toUInt32 >>> (y &&& 31).toUInt32).toInt32 = z)
    (g : Go p l e R s m args below meth c Y n0 G h k n (mkF m pc' Ls (.int z :: S))) : Go p l e R s m args below meth c Y n0 G h k n (mkF m pc Ls (.int y :: .int x :: S)) := by
  subst hp hv; exact stepG (fun T locs X _ _ q => XS.iushr X.here C.1 rfl (hb C.2.2.1 hd) rfl q) g
theorem lshl (C : Cx p s m meth c Z n0 own bytes ml ret) {x z : Int64} {y : Int32} (hd : decode bytes pc = .ok (.lshl, 1)) (hp : pc + 1 = pc') (hv : (x <<< (y &&& 0x3f).toInt64) = z)
    (g : Go p l e R s m args below meth c Y n0 G h k n (mkF m pc' Ls (.long z :: S))) : Go p l e R s m args below meth c Y n0 G h k n (mkF m pc Ls (.int y :: .long x :: S)) := by
  subst hp hv; exact stepG (fun T locs X _ _ q => XS.lshl X.here C.1 rfl (hb C.2.2.1 hd) rfl q) g
theorem lshr (C : Cx p s m meth c Z n0 own bytes ml ret) {x z : Int64} {y : Int32} (hd : decode bytes pc = .ok (.lshr, 1)) (hp : pc + 1 = pc') (hv : (x >>> (y &&& 0x3f).toInt64) = z)
    (g : Go p l e R s m args below meth c Y n0 G h k n (mkF m pc' Ls (.long z :: S))) : Go p l e R s m args below meth c Y n0 G h k n (mkF m pc Ls (.int y :: .long x :: S)) := by
  subst hp hv; exact stepG (fun T locs X _ _ q => XS.lshr X.here C.1 rfl (hb C.2.2.1 hd) rfl q) g
theorem lushr (C : Cx p s m meth c Z n0 own bytes ml ret) {x z : Int64} {y : Int32} (hd : decode bytes pc = .ok (.lushr, 1)) (hp : pc + 1 = pc') (hv : ((x).toUInt64 >>> (y &&& 0x3f).toInt64.toUInt64).toInt64 = z)
    (g : Go p l e R s m args below meth c Y n0 G h k n (mkF m pc' Ls (.long z :: S))) : Go p l e R s m args below meth c Y n0 G h k n (mkF m pc Ls (.int y :: .long x :: S)) := by
  subst hp hv; exact stepG (fun T locs X _ _ q => XS.lushr X.here C.1 rfl (hb C.2.2.1 hd) rfl q) g
theorem ineg (C : Cx p s m meth c Z n0 own bytes ml ret) {x : Int32} {z : Int32} (hd : decode bytes pc = .ok (.ineg, 1)) (hp : pc + 1 = pc') (hv : (-x) = z)
    (g : Go p l e R s m args below meth c Y n0 G h k n (mkF m pc' Ls (.int z :: S))) : Go p l e R s m args below meth c Y n0 G h k n (mkF m pc Ls (.int x :: S)) := by
  subst hp hv; exact stepG (fun T locs X _ _ q => XS.ineg X.here C.1 rfl (hb C.2.2.1 hd) rfl q) g
theorem lneg (C : Cx p s m meth c Z n0 own bytes ml ret) {x : Int64} {z : Int64} (hd : decode bytes pc = .ok (.lneg, 1)) (hp : pc + 1 = pc') (hv : (-x) = z)
    (g : Go p l e R s m args below meth c Y n0 G h k n (mkF m pc' Ls (.long z :: S))) : Go p l e R s m args below meth c Y n0 G h k n (mkF m pc Ls (.long x :: S)) := by
  subst hp hv; exact stepG (fun T locs X _ _ q => XS.lneg X.here C.1 rfl (hb C.2.2.1 hd) rfl q) g
theorem i2l (C : Cx p s m meth c Z n0 own bytes ml ret) {x : Int32} {z : Int64} (hd : decode bytes pc = .ok (.i2l, 1)) (hp : pc + 1 = pc') (hv : (x).toInt64 = z)
    (g : Go p l e R s m args below meth c Y n0 G h k n (mkF m pc' Ls (.long z :: S))) : Go p l e R s m args below meth c Y n0 G h k n (mkF m pc Ls (.int x :: S)) := by
  subst hp hv; exact stepG (fun T locs X _ _ q => XS.i2l X.here C.1 rfl (hb C.2.2.1 hd) rfl q) g
theorem l2i (C : Cx p s m meth c Z n0 own bytes ml ret) {x : Int64} {z : Int32} (hd : decode bytes pc = .ok (.l2i, 1)) (hp : pc + 1 = pc') (hv : (x).toInt32 = z)
    (g : Go p l e R s m args below meth c Y n0 G h k n (mkF m pc' Ls (.int z :: S))) : Go p l e R s m args below meth c Y n0 G h k n (mkF m pc Ls (.long x :: S)) := by
  subst hp hv; exact stepG (fun T locs X _ _ q => XS.l2i X.here C.1 rfl (hb C.2.2.1 hd) rfl q) g
theorem i2b (C : Cx p s m meth c Z n0 own bytes ml ret) {x : Int32} {z : Int32} (hd : decode bytes pc = .ok (.i2b, 1)) (hp : pc + 1 = pc') (hv : (x).toInt8.toInt32 = z)
    (g : Go p l e R s m args below meth c Y n0 G h k n (mkF m pc' Ls (.int z :: S))) : Go p l e R s m args below meth c Y n0 G h k n (mkF m pc Ls (.int x :: S)) := by
  subst hp hv; exact stepG (fun T locs X _ _ q => XS.i2b X.here C.1 rfl (hb C.2.2.1 hd) rfl q) g
theorem i2s (C : Cx p s m meth c Z n0 own bytes ml ret) {x : Int32} {z : Int32} (hd : decode bytes pc = .ok (.i2s, 1)) (hp : pc + 1 = pc') (hv : (x).toInt16.toInt32 = z)
    (g : Go p l e R s m args below meth c Y n0 G h k n (mkF m pc' Ls (.int z :: S))) : Go p l e R s m args below meth c Y n0 G h k n (mkF m pc Ls (.int x :: S)) := by
  subst hp hv; exact stepG (fun T locs X _ _ q => XS.i2s X.here C.1 rfl (hb C.2.2.1 hd) rfl q) g
theorem i2c (C : Cx p s m meth c Z n0 own bytes ml ret) {x : Int32} {z : Int32} (hd : decode bytes pc = .ok (.i2c, 1)) (hp : pc + 1 = pc') (hv : (x).toUInt32.toUInt16.toUInt32.toInt32 = z)
    (g : Go p l e R s m args below meth c Y n0 G h k n (mkF m pc' Ls (.int z :: S))) : Go p l e R s m args below meth c Y n0 G h k n (mkF m pc Ls (.int x :: S)) := by
  subst hp hv; exact stepG (fun T locs X _ _ q => XS.i2c X.here C.1 rfl (hb C.2.2.1 hd) rfl q) g
theorem idiv (C : Cx p s m meth c Z n0 own bytes ml ret) {x y z : Int32} (hd : decode bytes pc = .ok (.idiv, 1)) (hp : pc + 1 = pc') (hy : y ≠ 0) (hv : x / y = z)
    (g : Go p l e R s m args below meth c Y n0 G h k n (mkF m pc' Ls (.int z :: S))) : Go p l e R s m args below meth c Y n0 G h k n (mkF m pc Ls (.int y :: .int x :: S)) := by
  subst hp hv; exact stepG (fun T locs X _ _ q => XS.idiv X.here C.1 rfl (hb C.2.2.1 hd) rfl hy q) g
theorem ldiv (C : Cx p s m meth c Z n0 own bytes ml ret) {x y z : Int64} (hd : decode bytes pc = .ok (.ldiv, 1)) (hp : pc + 1 = pc') (hy : y ≠ 0) (hv : x / y = z)
    (g : Go p l e R s m args below meth c Y n0 G h k n (mkF m pc' Ls (.long z :: S))) : Go p l e R s m args below meth c Y n0 G h k n (mkF m pc Ls (.long y :: .long x :: S)) := by
  subst hp hv; exact stepG (fun T locs X _ _ q => XS.ldiv X.here C.1 rfl (hb C.2.2.1 hd) rfl hy q) g
theorem irem (C : Cx p s m meth c Z n0 own bytes ml ret) {x y z : Int32} (hd : decode bytes pc = .ok (.irem, 1)) (hp : pc + 1 = pc') (hy : y ≠ 0) (hv : x % y = z)
    (g : Go p l e R s m args below meth c Y n0 G h k n (mkF m pc' Ls (.int z :: S))) : Go p l e R s m args below meth c Y n0 G h k n (mkF m pc Ls (.int y :: .int x :: S)) := by
  subst hp; rw [← irem_eq_mod x y] at hv; subst hv; exact stepG (fun T locs X _ _ q => XS.irem X.here C.1 rfl (hb C.2.2.1 hd) rfl hy q) g
theorem lrem (C : Cx p s m meth c Z n0 own bytes ml ret) {x y z : Int64} (hd : decode bytes pc = .ok (.lrem, 1)) (hp : pc + 1 = pc') (hy : y ≠ 0) (hv : x % y = z)
    (g : Go p l e R s m args below meth c Y n0 G h k n (mkF m pc' Ls (.long z :: S))) : Go p l e R s m args below meth c Y n0 G h k n (mkF m pc Ls (.long y :: .long x :: S)) := by
  subst hp; rw [← lrem_mod x y] at hv; subst hv; exact stepG (fun T locs X _ _ q => XS.lrem X.here C.1 rfl (hb C.2.2.1 hd) rfl hy q) g
theorem iinc (C : Cx p s m meth c Z n0 own bytes ml ret) {i : Nat} {cst : Int} {x z : Int32} (hd : decode bytes pc = .ok (.iinc i cst, 3)) (hp : pc + 3 = pc') (hl : Ls[i]? = some (.val (.int x))) (hv : x + Int32.ofInt cst = z) (hl' : storeLocals Ls i (.int z) = some Ls')
    (g : Go p l e R s m args below meth c Y n0 G h k n (mkF m pc' Ls' S)) : Go p l e R s m args below meth c Y n0 G h k n (mkF m pc Ls S) := by
  subst hp hv; exact stepG (fun T locs X _ _ q => XS.iinc X.here C.1 rfl (hb C.2.2.1 hd) hl hl' q) g
theorem dup (C : Cx p s m meth c Z n0 own bytes ml ret) {x : Value} (hd : decode bytes pc = .ok (.dup, 1)) (hp : pc + 1 = pc') (hc : x.category = 1)
    (g : Go p l e R s m args below meth c Y n0 G h k n (mkF m pc' Ls (x :: x :: S))) : Go p l e R s m args below meth c Y n0 G h k n (mkF m pc Ls (x :: S)) := by
  subst hp; exact stepG (fun T locs X _ _ q => XS.dup X.here C.1 rfl (hb C.2.2.1 hd) rfl hc q) g
theorem dup_x1 (C : Cx p s m meth c Z n0 own bytes ml ret) {x y : Value} (hd : decode bytes pc = .ok (.dup_x1, 1)) (hp : pc + 1 = pc') (hc : x.category = 1) (hc2 : y.category = 1)
    (g : Go p l e R s m args below meth c Y n0 G h k n (mkF m pc' Ls (x :: y :: x :: S))) : Go p l e R s m args below meth c Y n0 G h k n (mkF m pc Ls (x :: y :: S)) := by
  subst hp; exact stepG (fun T locs X _ _ q => XS.dupX1 X.here C.1 rfl (hb C.2.2.1 hd) rfl hc hc2 q) g
theorem dup2L (C : Cx p s m meth c Z n0 own bytes ml ret) {x : Int64} (hd : decode bytes pc = .ok (.dup2, 1)) (hp : pc + 1 = pc')
    (g : Go p l e R s m args below meth c Y n0 G h k n (mkF m pc' Ls (.long x :: .long x :: S))) : Go p l e R s m args below meth c Y n0 G h k n (mkF m pc Ls (.long x :: S)) := by
  subst hp; exact stepG (fun T locs X _ _ q => Jvm.Free.XT.dup2L X.here C.1 rfl (hb C.2.2.1 hd) rfl q) g
theorem dup2 (C : Cx p s m meth c Z n0 own bytes ml ret) {x y : Value} (hd : decode bytes pc = .ok (.dup2, 1)) (hp : pc + 1 = pc') (hc : x.category = 1) (hc2 : y.category = 1)
    (g : Go p l e R s m args below meth c Y n0 G h k n (mkF m pc' Ls (x :: y :: x :: y :: S))) : Go p l e R s m args below meth c Y n0 G h k n (mkF m pc Ls (x :: y :: S)) := by
  subst hp; exact stepG (fun T locs X _ _ q => Jvm.Free.XT.dup2 X.here C.1 rfl (hb C.2.2.1 hd) rfl hc hc2 q) g
theorem pop (C : Cx p s m meth c Z n0 own bytes ml ret) {x : Value} (hd : decode bytes pc = .ok (.pop, 1)) (hp : pc + 1 = pc') (hc : x.category = 1)
    (g : Go p l e R s m args below meth c Y n0 G h k n (mkF m pc' Ls S)) : Go p l e R s m args below meth c Y n0 G h k n (mkF m pc Ls (x :: S)) := by
  subst hp; exact stepG (fun T locs X _ _ q => XS.pop X.here C.1 rfl (hb C.2.2.1 hd) rfl hc q) g
theorem goto (C : Cx p s m meth c Z n0 own bytes ml ret) {o : Int} (hd : decode bytes pc = .ok (.goto o, 3)) (ho : 0 ≤ (pc : Int) + o) (hp : ((pc : Int) + o).toNat = pc')
    (g : Go p l e R s m args below meth c Y n0 G h k n (mkF m pc' Ls S)) : Go p l e R s m args below meth c Y n0 G h k n (mkF m pc Ls S) := by
  exact stepG (fun T locs X _ _ q => XS.goto X.here C.1 rfl (pc0 := pc) rfl (hb C.2.2.1 hd) ho hp q) g

/-! branches: P: taken, P': not taken -/
theorem icmp (C : Cx p s m meth c Z n0 own bytes ml ret) {cd : ClassFile.Cond} {o : Int} {x y : Int32} (hd : decode bytes pc = .ok (.if_icmp cd o, 3)) (ho : 0 ≤ (pc : Int) + o) (hp : ((pc : Int) + o).toNat = pc') (hn : pc + 3 = pn)
    {P P' : Prop} (q : (P → if_icmp.holds cd x y = true) ∧ (P' → if_icmp.holds cd x y = false) ∧ (P ∨ P'))
    (g1 : P → Go p l e R s m args below meth c Y n0 G h k n (mkF m pc' Ls S)) (g2 : P' → Go p l e R s m args below meth c Y n0 G h k n (mkF m pn Ls S)) : Go p l e R s m args below meth c Y n0 G h k n (mkF m pc Ls (.int y :: .int x :: S)) := by
  rcases q.2.2 with hP | hP
  · exact stepG (fun T locs X _ _ z => XS.icmpYes X.here C.1 rfl (pc0 := pc) rfl (hb C.2.2.1 hd) rfl (q.1 hP) ho hp z) (g1 hP)
  · subst hn; exact stepG (fun T locs X _ _ z => XS.icmpNo X.here C.1 rfl (hb C.2.2.1 hd) rfl (q.2.1 hP) z) (g2 hP)
theorem ifc (C : Cx p s m meth c Z n0 own bytes ml ret) {cd : ClassFile.Cond} {o : Int} {x : Int32} (hd : decode bytes pc = .ok (.ifCond cd o, 3)) (ho : 0 ≤ (pc : Int) + o) (hp : ((pc : Int) + o).toNat = pc') (hn : pc + 3 = pn)
    {P P' : Prop} (q : (P → if_icmp.holds cd x 0 = true) ∧ (P' → if_icmp.holds cd x 0 = false) ∧ (P ∨ P'))
    (g1 : P → Go p l e R s m args below meth c Y n0 G h k n (mkF m pc' Ls S)) (g2 : P' → Go p l e R s m args below meth c Y n0 G h k n (mkF m pn Ls S)) : Go p l e R s m args below meth c Y n0 G h k n (mkF m pc Ls (.int x :: S)) := by
  rcases q.2.2 with hP | hP
  · exact stepG (fun T locs X _ _ z => XS.ifYes X.here C.1 rfl (pc0 := pc) rfl (hb C.2.2.1 hd) rfl ((if0 _ _).trans (q.1 hP)) ho hp z) (g1 hP)
  · subst hn; exact stepG (fun T locs X _ _ z => XS.ifNo X.here C.1 rfl (hb C.2.2.1 hd) rfl ((if0 _ _).trans (q.2.1 hP)) z) (g2 hP)
/-- lcmp and the branch behind it -/
theorem lcif (C : Cx p s m meth c Z n0 own bytes ml ret) {cd : ClassFile.Cond} {o : Int} {x y : Int64} {pm : Nat} (hd0 : decode bytes pc = .ok (.lcmp, 1)) (hm : pc + 1 = pm) (hd : decode bytes pm = .ok (.ifCond cd o, 3)) (ho : 0 ≤ (pm : Int) + o) (hp : ((pm : Int) + o).toNat = pc') (hn : pm + 3 = pn)
    {P P' : Prop} (q : (P → if_icmp.holds cd (lcmpW x y) 0 = true) ∧ (P' → if_icmp.holds cd (lcmpW x y) 0 = false) ∧ (P ∨ P'))
    (g1 : P → Go p l e R s m args below meth c Y n0 G h k n (mkF m pc' Ls S)) (g2 : P' → Go p l e R s m args below meth c Y n0 G h k n (mkF m pn Ls S)) : Go p l e R s m args below meth c Y n0 G h k n (mkF m pc Ls (.long y :: .long x :: S)) := by
  subst hm
  exact stepG (fun T locs X _ _ z => XS.lcmp X.here C.1 rfl (hb C.2.2.1 hd0) rfl z) (ifc C hd ho hp hn q g1 g2)
theorem q_lt (x y : Int32) : (x.toInt < y.toInt → if_icmp.holds .lt x y = true) ∧ (y.toInt ≤ x.toInt → if_icmp.holds .lt x y = false) ∧ (x.toInt < y.toInt ∨ y.toInt ≤ x.toInt) :=
  ⟨fun q => (tlt (Int32.lt_iff_toInt_lt.mpr q)).1, fun q => (flt (fun w => absurd (Int32.lt_iff_toInt_lt.mp w) (Int.not_lt.mpr q))).1, Int.lt_or_le _ _⟩
theorem q_ge (x y : Int32) : (y.toInt ≤ x.toInt → if_icmp.holds .ge x y = true) ∧ (x.toInt < y.toInt → if_icmp.holds .ge x y = false) ∧ (y.toInt ≤ x.toInt ∨ x.toInt < y.toInt) :=
  ⟨fun q => (flt (fun w => absurd (Int32.lt_iff_toInt_lt.mp w) (Int.not_lt.mpr q))).2.1, fun q => (tlt (Int32.lt_iff_toInt_lt.mpr q)).2.1, (Int.lt_or_le _ _).symm⟩
theorem q_gt (x y : Int32) : (y.toInt < x.toInt → if_icmp.holds .gt x y = true) ∧ (x.toInt ≤ y.toInt → if_icmp.holds .gt x y = false) ∧ (y.toInt < x.toInt ∨ x.toInt ≤ y.toInt) :=
  ⟨fun q => (tlt (Int32.lt_iff_toInt_lt.mpr q)).2.2.1, fun q => (flt (fun w => absurd (Int32.lt_iff_toInt_lt.mp w) (Int.not_lt.mpr q))).2.2.1, Int.lt_or_le _ _⟩
theorem q_le (x y : Int32) : (x.toInt ≤ y.toInt → if_icmp.holds .le x y = true) ∧ (y.toInt < x.toInt → if_icmp.holds .le x y = false) ∧ (x.toInt ≤ y.toInt ∨ y.toInt < x.toInt) :=
  ⟨fun q => (flt (fun w => absurd (Int32.lt_iff_toInt_lt.mp w) (Int.not_lt.mpr q))).2.2.2, fun q => (tlt (Int32.lt_iff_toInt_lt.mpr q)).2.2.2, (Int.lt_or_le _ _).symm⟩
theorem q_eq (x y : Int32) : (x = y → if_icmp.holds .eq x y = true) ∧ (¬ x = y → if_icmp.holds .eq x y = false) ∧ (x = y ∨ ¬ x = y) := ⟨fun q => (teq q).1, fun q => (feq q).1, Classical.em _⟩
theorem q_ne (x y : Int32) : (¬ x = y → if_icmp.holds .ne x y = true) ∧ (x = y → if_icmp.holds .ne x y = false) ∧ (¬ x = y ∨ x = y) := ⟨fun q => (feq q).2, fun q => (teq q).2, (Classical.em _).symm⟩
theorem ql_lt (x y : Int64) : (x.toInt < y.toInt → if_icmp.holds .lt (lcmpW x y) 0 = true) ∧ (y.toInt ≤ x.toInt → if_icmp.holds .lt (lcmpW x y) 0 = false) ∧ (x.toInt < y.toInt ∨ y.toInt ≤ x.toInt) :=
  ⟨fun q => (tlt ((lw_lt x y).mpr (Int64.lt_iff_toInt_lt.mpr q))).1, fun q => (flt (fun w => absurd (Int64.lt_iff_toInt_lt.mp ((lw_lt x y).mp w)) (Int.not_lt.mpr q))).1, Int.lt_or_le _ _⟩
theorem ql_ge (x y : Int64) : (y.toInt ≤ x.toInt → if_icmp.holds .ge (lcmpW x y) 0 = true) ∧ (x.toInt < y.toInt → if_icmp.holds .ge (lcmpW x y) 0 = false) ∧ (y.toInt ≤ x.toInt ∨ x.toInt < y.toInt) :=
  ⟨fun q => (flt (fun w => absurd (Int64.lt_iff_toInt_lt.mp ((lw_lt x y).mp w)) (Int.not_lt.mpr q))).2.1, fun q => (tlt ((lw_lt x y).mpr (Int64.lt_iff_toInt_lt.mpr q))).2.1, (Int.lt_or_le _ _).symm⟩
theorem ql_gt (x y : Int64) : (y.toInt < x.toInt → if_icmp.holds .gt (lcmpW x y) 0 = true) ∧ (x.toInt ≤ y.toInt → if_icmp.holds .gt (lcmpW x y) 0 = false) ∧ (y.toInt < x.toInt ∨ x.toInt ≤ y.toInt) :=
  ⟨fun q => (tlt ((lw_gt x y).mpr (Int64.lt_iff_toInt_lt.mpr q))).2.2.1, fun q => (flt (fun w => absurd (Int64.lt_iff_toInt_lt.mp ((lw_gt x y).mp w)) (Int.not_lt.mpr q))).2.2.1, Int.lt_or_le _ _⟩
theorem ql_le (x y : Int64) : (x.toInt ≤ y.toInt → if_icmp.holds .le (lcmpW x y) 0 = true) ∧ (y.toInt < x.toInt → if_icmp.holds .le (lcmpW x y) 0 = false) ∧ (x.toInt ≤ y.toInt ∨ y.toInt < x.toInt) :=
  ⟨fun q => (flt (fun w => absurd (Int64.lt_iff_toInt_lt.mp ((lw_gt x y).mp w)) (Int.not_lt.mpr q))).2.2.2, fun q => (tlt ((lw_gt x y).mpr (Int64.lt_iff_toInt_lt.mpr q))).2.2.2, (Int.lt_or_le _ _).symm⟩
theorem ql_eq (x y : Int64) : (x = y → if_icmp.holds .eq (lcmpW x y) 0 = true) ∧ (¬ x = y → if_icmp.holds .eq (lcmpW x y) 0 = false) ∧ (x = y ∨ ¬ x = y) := ⟨fun q => (teq ((lw_eq x y).mpr q)).1, fun q => (feq (fun w => q ((lw_eq x y).mp w))).1, Classical.em _⟩
theorem ql_ne (x y : Int64) : (¬ x = y → if_icmp.holds .ne (lcmpW x y) 0 = true) ∧ (x = y → if_icmp.holds .ne (lcmpW x y) 0 = false) ∧ (¬ x = y ∨ x = y) := ⟨fun q => (feq (fun w => q ((lw_eq x y).mp w))).2, fun q => (teq ((lw_eq x y).mpr q)).2, (Classical.em _).symm⟩

theorem acmp (C : Cx p s m meth c Z n0 own bytes ml ret) {cd : ACond} {o : Int} {x y : Value} (h1 : x.isRef = true) (h2 : y.isRef = true) (hd : decode bytes pc = .ok (.if_acmp cd o, 3)) (ho : 0 ≤ (pc : Int) + o) (hp : ((pc : Int) + o).toNat = pc') (hn : pc + 3 = pn)
    {P P' : Prop} (q : (P → acV cd (decide (x = y)) = true) ∧ (P' → acV cd (decide (x = y)) = false) ∧ (P ∨ P'))
    (g1 : P → Go p l e R s m args below meth c Y n0 G h k n (mkF m pc' Ls S)) (g2 : P' → Go p l e R s m args below meth c Y n0 G h k n (mkF m pn Ls S)) : Go p l e R s m args below meth c Y n0 G h k n (mkF m pc Ls (y :: x :: S)) := by
  rcases q.2.2 with hP | hP
  · exact stepG (fun T locs X _ _ z => Jvm.RoadKit.acmp (g := mkF m pc Ls (y :: x :: S)) X C.1 rfl h1 h2 (pc0 := pc) (pc' := pc') (same := decide (x = y)) rfl (hb C.2.2.1 hd) rfl rfl ho (by rw [q.1 hP]; exact hp.symm) z) (g1 hP)
  · exact stepG (fun T locs X _ _ z => Jvm.RoadKit.acmp (g := mkF m pc Ls (y :: x :: S)) X C.1 rfl h1 h2 (pc0 := pc) (pc' := pn) (same := decide (x = y)) rfl (hb C.2.2.1 hd) rfl rfl ho (by rw [q.2.1 hP]; exact hn.symm) z) (g2 hP)
theorem qa_eq (a b : Addr) : (a = b → acV .eq (decide (Value.ref a = Value.ref b)) = true) ∧ (¬ a = b → acV .eq (decide (Value.ref a = Value.ref b)) = false) ∧ (a = b ∨ ¬ a = b) :=
  ⟨fun q => decide_eq_true (congrArg Value.ref q), fun q => decide_eq_false fun z => q (Value.ref.inj z), Classical.em _⟩
theorem qa_ne (a b : Addr) : (¬ a = b → acV .ne (decide (Value.ref a = Value.ref b)) = true) ∧ (a = b → acV .ne (decide (Value.ref a = Value.ref b)) = false) ∧ (¬ a = b ∨ a = b) :=
  ⟨fun q => by rw [decide_eq_false fun z => q (Value.ref.inj z)]; rfl, fun q => by rw [decide_eq_true (congrArg Value.ref q)]; rfl, (Classical.em _).symm⟩
theorem ifnullT (C : Cx p s m meth c Z n0 own bytes ml ret) {o : Int} (hd : decode bytes pc = .ok (.ifnull o, 3)) (ho : 0 ≤ (pc : Int) + o) (hp : ((pc : Int) + o).toNat = pc')
    (g : Go p l e R s m args below meth c Y n0 G h k n (mkF m pc' Ls S)) : Go p l e R s m args below meth c Y n0 G h k n (mkF m pc Ls (.null :: S)) := stepG (fun T locs X _ _ z => XS.ifnullYes X.here C.1 rfl (pc0 := pc) rfl (hb C.2.2.1 hd) rfl ho hp z) g
theorem ifnullF (C : Cx p s m meth c Z n0 own bytes ml ret) {o : Int} {a : Addr} (hd : decode bytes pc = .ok (.ifnull o, 3)) (hp : pc + 3 = pc')
    (g : Go p l e R s m args below meth c Y n0 G h k n (mkF m pc' Ls S)) : Go p l e R s m args below meth c Y n0 G h k n (mkF m pc Ls (.ref a :: S)) := by subst hp; exact stepG (fun T locs X _ _ z => XS.ifnullNo X.here C.1 rfl (hb C.2.2.1 hd) rfl z) g
theorem ifnonnullT (C : Cx p s m meth c Z n0 own bytes ml ret) {o : Int} {a : Addr} (hd : decode bytes pc = .ok (.ifnonnull o, 3)) (ho : 0 ≤ (pc : Int) + o) (hp : ((pc : Int) + o).toNat = pc')
    (g : Go p l e R s m args below meth c Y n0 G h k n (mkF m pc' Ls S)) : Go p l e R s m args below meth c Y n0 G h k n (mkF m pc Ls (.ref a :: S)) := stepG (fun T locs X _ _ z => XS.ifnonnullYes X.here C.1 rfl (pc0 := pc) rfl (hb C.2.2.1 hd) rfl ho hp z) g
theorem ifnonnullF (C : Cx p s m meth c Z n0 own bytes ml ret) {o : Int} (hd : decode bytes pc = .ok (.ifnonnull o, 3)) (hp : pc + 3 = pc')
    (g : Go p l e R s m args below meth c Y n0 G h k n (mkF m pc' Ls S)) : Go p l e R s m args below meth c Y n0 G h k n (mkF m pc Ls (.null :: S)) := by subst hp; exact stepG (fun T locs X _ _ z => XS.ifnonnullNo X.here C.1 rfl (hb C.2.2.1 hd) rfl z) g

/-! returns -/
theorem retZ {t : FieldType} (C : Cx p s m meth c Z n0 own bytes ml (some t)) {z w : Int32} (ht : t = .boolean ∨ t = .byte ∨ t = .char ∨ t = .short) (hd : decode bytes pc = .ok (.ireturn, 1)) (hv : nar t z = w) (hk : k ≤ K) (hn : n ≤ N) (hY : ∀ s₂ o L, s₂.heap = h → FrameEnd s o s₂ L K N → Y s₂ o L) (g : G (some (.int w)) h) :
    Go p l e R s m args below meth c Y n0 G h k n (mkF m pc Ls (.int z :: S)) := fun T ⟨locs, F, X, eT⟩ => by
  subst hv eT
  have hlk : meth.locks = false := C.2.2.2.2.2.2.1
  obtain ⟨fs, hr, hrun, hended, hW, hsame⟩ := X.leave (v := some (.int (nar t z))) (fun q => by rw [C.2.2.2.2.2.1] at q; cases q) hlk
  exact ⟨_, _, retN X C.1 (t := t) C.2.2.2.2.2.1 ht (hb C.2.2.1 hd) hr, hrun, hended, _, _, rfl, ⟨g, F⟩, hY _ _ _ rfl ⟨⟨_, rfl⟩, hW, hsame.mono hk hn⟩⟩
theorem retV {t : FieldType} (C : Cx p s m meth c Z n0 own bytes ml (some t)) {w : Value} {i : Instr} (hv : narrow t w = w)
    (hi : (i = .ireturn ∧ (t = .int ∨ t = .boolean ∨ t = .byte ∨ t = .char ∨ t = .short) ∧ ∃ z, w = .int z) ∨ (i = .lreturn ∧ t = .long ∧ ∃ z, w = .long z) ∨ (i = .dreturn ∧ t = .double ∧ ∃ z, w = .double z) ∨ (i = .freturn ∧ t = .float ∧ ∃ z, w = .float z) ∨ (i = .areturn ∧ t.isReference = true ∧ w.isRef = true))
    (hd : decode bytes pc = .ok (i, 1)) (hk : k ≤ K) (hn : n ≤ N) (hY : ∀ s₂ o L, s₂.heap = h → FrameEnd s o s₂ L K N → Y s₂ o L) (g : G (some w) h) :
    Go p l e R s m args below meth c Y n0 G h k n (mkF m pc Ls (w :: S)) := fun T ⟨locs, F, X, eT⟩ => by
  subst eT
  have hlk : meth.locks = false := C.2.2.2.2.2.2.1
  obtain ⟨fs, hr, hrun, hended, hW, hsame⟩ := X.leave (v := some w) (fun q => by rw [C.2.2.2.2.2.1] at q; cases q) hlk
  exact ⟨_, _, retOut X C.1 (t := t) C.2.2.2.2.2.1 hv hi (hb C.2.2.1 hd) hr, hrun, hended, _, _, rfl, ⟨g, F⟩, hY _ _ _ rfl ⟨⟨_, rfl⟩, hW, hsame.mono hk hn⟩⟩
theorem retI (C : Cx p s m meth c Z n0 own bytes ml (some .int)) {z : Int32} (hd : decode bytes pc = .ok (.ireturn, 1)) (hk : k ≤ K) (hn : n ≤ N) (hY : ∀ s₂ o L, s₂.heap = h → FrameEnd s o s₂ L K N → Y s₂ o L) (g : G (some (.int z)) h) :
    Go p l e R s m args below meth c Y n0 G h k n (mkF m pc Ls (.int z :: S)) := retV C rfl (Or.inl ⟨rfl, Or.inl rfl, _, rfl⟩) hd hk hn hY g
theorem retL (C : Cx p s m meth c Z n0 own bytes ml (some .long)) {z : Int64} (hd : decode bytes pc = .ok (.lreturn, 1)) (hk : k ≤ K) (hn : n ≤ N) (hY : ∀ s₂ o L, s₂.heap = h → FrameEnd s o s₂ L K N → Y s₂ o L) (g : G (some (.long z)) h) :
    Go p l e R s m args below meth c Y n0 G h k n (mkF m pc Ls (.long z :: S)) := retV C rfl (Or.inr (Or.inl ⟨rfl, rfl, _, rfl⟩)) hd hk hn hY g
theorem retA {t : FieldType} (C : Cx p s m meth c Z n0 own bytes ml (some t)) {w : Value} (ht : t.isReference = true) (hw : w.isRef = true) (hn' : narrow t w = w) (hd : decode bytes pc = .ok (.areturn, 1)) (hk : k ≤ K) (hn : n ≤ N) (hY : ∀ s₂ o L, s₂.heap = h → FrameEnd s o s₂ L K N → Y s₂ o L) (g : G (some w) h) :
    Go p l e R s m args below meth c Y n0 G h k n (mkF m pc Ls (w :: S)) := retV C hn' (Or.inr (Or.inr (Or.inr (Or.inr ⟨rfl, ht, hw⟩)))) hd hk hn hY g
theorem ret0 (C : Cx p s m meth c Z n0 own bytes ml none) (hd : decode bytes pc = .ok (.return_, 1)) (hk : k ≤ K) (hn : n ≤ N) (hY : ∀ s₂ o L, s₂.heap = h → FrameEnd s o s₂ L K N → Y s₂ o L) (g : G none h) :
    Go p l e R s m args below meth c Y n0 G h k n (mkF m pc Ls []) := fun T ⟨locs, F, X, eT⟩ => by
  subst eT
  have hlk : meth.locks = false := C.2.2.2.2.2.2.1
  obtain ⟨fs, hr, hrun, hended, hW, hsame⟩ := X.leave (v := none) (fun _ => rfl) hlk
  exact ⟨_, _, X.returnOut C.1 C.2.2.2.2.2.1 (hb C.2.2.1 hd) hr, hrun, hended, _, _, rfl, ⟨g, F⟩, hY _ _ _ rfl ⟨⟨_, rfl⟩, hW, hsame.mono hk hn⟩⟩

theorem hz (C : Cx p s m meth c Z n0 own bytes ml ret) {T : State} {locs : List Loc} (X : Stand p l e R s m args below meth c T locs k n) (eT : T.heap = h) : n0 ≤ h.size := eT ▸ Nat.le_trans C.2.2.2.2.2.2.2 X.same.2.1
/-! calls -/
theorem callS (C : Cx p s m meth c Z n0 own bytes ml ret) {i : Nat} {y : MethodName} {b' : ByteArray} {mL : Nat} {r' : Option FieldType} {rm : Room} {Gc : Option Value → Heap → Prop} {argsL rest : List Value} {W : Nat}
    (w1 : (Cond.methodLink own i y).before a0 Z = true) (w2 : (Cond.static y).before a0 Z = true) (w3 : (Cond.initialized y.cls).before a0 Z = true) (w4 : (Cond.code y b' mL r').before a0 Z = true)
    (hy : y.cls ≠ "java/lang/invoke/MethodHandle" ∧ y.cls ≠ "java/lang/invoke/VarHandle") (con : n0 ≤ h.size → Con l Z y b' mL r' [] rm rm.cells rm.slots argsL.toArray h n0 Gc)
    (hd : decode bytes pc = .ok (.invokestatic i, 3)) (hp : pc + 3 = pc') (hsz : Ls.size = ml) {ps : List FieldType} {rr : Option FieldType} (hds : parseMethodDescriptor y.desc = some ⟨ps, rr⟩) (hlen : argsL.length = ps.length)
    (hS : S = argsL.reverse ++ rest) (hW : (rest.map fun v => v.category).sum = W) (hf : rm.frames + 1 ≤ R.frames) (hl : W + (mL + 11) + rm.locals ≤ R.locals) (hc : k + rm.cells ≤ R.cells) (hs : n + rm.slots ≤ R.slots) {k' n' : Nat} (hk' : k + rm.cells = k') (hn' : n + rm.slots = n')
    (g : ∀ h' v, Gc v h' → Go p l e R s m args below meth c Y n0 G h' k' n' (mkF m pc' Ls (v.toList ++ rest))) :
    Go p l e R s m args below meth c Y n0 G h k n (mkF m pc Ls S) := fun T ⟨locs, F, X, eT⟩ => by
  subst hp hS hk' hn'
  obtain ⟨v, _, ⟨T', L', k', n'⟩, -, X', ⟨Lc, ⟨hQ, hF⟩, l1, y1, z1⟩, st⟩ := Jvm.LawKit.callS X C.1 C.2.2.2.2.1 (mvT C.2.1 w1) (mvT C.2.1 w2) (mvT C.2.1 w3) (mvT C.2.1 w4) hy
    (backOf (W := W) (Q := fun v h L => Gc v h ∧ Fr n0 L) (con (hz C X eT)) C.2.1 w4 w3 hf hl) (g := mkF m pc Ls (argsL.reverse ++ rest)) rfl (hsz.trans C.2.2.2.1.symm) (argsL := argsL) (rest := rest) (lenOf hds hlen) rfl (by show 2 * 0 + _ ≤ _; rw [Nat.mul_zero, Nat.zero_add]; exact Nat.le_of_eq hW) (hb C.2.2.1 hd) (fun _ _ => ⟨rfl, eT, hc, hs⟩)
  dsimp only [Pt.U, Pt.locs, Pt.cells, Pt.slots] at X' l1 y1 z1 st hQ
  subst l1 y1 z1
  exact step (fun t q => st t q) (g T'.heap v hQ T' ⟨_, Fr.app F hF, X', rfl⟩)
theorem callSp (C : Cx p s m meth c Z n0 own bytes ml ret) {i : Nat} {y : MethodName} {b' : ByteArray} {mL : Nat} {rm : Room} {Gc : Option Value → Heap → Prop} {a : Addr} {argsL rest : List Value} {W : Nat} (hy1 : y.name = "<init>")
    (w1 : (Cond.methodLink own i y).before a0 Z = true) (w2 : (Cond.instanceMethod y).before a0 Z = true) (w3 : (Cond.initialized y.cls).before a0 Z = true) (w4 : (Cond.code y b' mL none).before a0 Z = true)
    (hy : y.cls ≠ "java/lang/invoke/MethodHandle" ∧ y.cls ≠ "java/lang/invoke/VarHandle") (con : n0 ≤ h.size → Con l Z y b' mL none [] rm rm.cells rm.slots (.ref a :: argsL).toArray h n0 Gc)
    (hd : decode bytes pc = .ok (.invokespecial i, 3)) (hp : pc + 3 = pc') (hsz : Ls.size = ml) {ps : List FieldType} {rr : Option FieldType} (hds : parseMethodDescriptor y.desc = some ⟨ps, rr⟩) (hlen : argsL.length = ps.length)
    (hS : S = argsL.reverse ++ .ref a :: rest) (hW : (rest.map fun v => v.category).sum = W) (hf : rm.frames + 1 ≤ R.frames) (hl : W + (mL + 11) + rm.locals ≤ R.locals) (hc : k + rm.cells ≤ R.cells) (hs : n + rm.slots ≤ R.slots) {k' n' : Nat} (hk' : k + rm.cells = k') (hn' : n + rm.slots = n')
    (g : ∀ h' v, Gc v h' → Go p l e R s m args below meth c Y n0 G h' k' n' (mkF m pc' Ls (v.toList ++ rest))) :
    Go p l e R s m args below meth c Y n0 G h k n (mkF m pc Ls S) := fun T ⟨locs, F, X, eT⟩ => by
  subst hp hS hk' hn'
  obtain ⟨v, _, ⟨T', L', k', n'⟩, -, X', ⟨Lc, ⟨hQ, hF⟩, l1, y1, z1⟩, st⟩ := X.specialBack C.1 hy1 C.2.2.2.2.1 (mvT C.2.1 w1) (mvT C.2.1 w2) (mvT C.2.1 w4) hy
    (backOf (W := W) (Q := fun v h L => Gc v h ∧ Fr n0 L) (con (hz C X eT)) C.2.1 w4 w3 hf hl) (g := mkF m pc Ls (argsL.reverse ++ .ref a :: rest)) rfl (hsz.trans C.2.2.2.1.symm) (Steps.refl _) (a := a) (argsL := argsL) (rest := rest) (lenOf hds hlen) rfl (by show 2 * 0 + _ ≤ _; rw [Nat.mul_zero, Nat.zero_add]; exact Nat.le_of_eq hW) (hb C.2.2.1 hd) (fun _ _ => ⟨rfl, eT, hc, hs⟩)
  dsimp only [Pt.U, Pt.locs, Pt.cells, Pt.slots] at X' l1 y1 z1 st hQ
  subst l1 y1 z1
  exact step (fun t q => st.trans q) (g T'.heap v hQ T' ⟨_, Fr.app F hF, X', rfl⟩)
theorem callV (C : Cx p s m meth c Z n0 own bytes ml ret) {i : Nat} {y z : MethodName} {b' : ByteArray} {mL : Nat} {r' : Option FieldType} {rm : Room} {Gc : Option Value → Heap → Prop} {a : Addr} {argsL rest : List Value} {W : Nat} {Cn : String}
    (w1 : (Cond.methodLink own i y).before a0 Z = true) (w2 : (Cond.declares y).before a0 Z = true) (hnf : NotFace s y) (w5 : (Cond.selects Cn y z).before a0 Z = true) (w6 : (Cond.instanceMethod z).before a0 Z = true) (w3 : (Cond.initialized z.cls).before a0 Z = true) (w4 : (Cond.code z b' mL r').before a0 Z = true)
    (hy : y.cls ≠ "java/lang/invoke/MethodHandle" ∧ y.cls ≠ "java/lang/invoke/VarHandle") (E : Exa Z h a Cn) (con : n0 ≤ h.size → Con l Z z b' mL r' [] rm rm.cells rm.slots (.ref a :: argsL).toArray h n0 Gc)
    (hd : decode bytes pc = .ok (.invokevirtual i, 3)) (hp : pc + 3 = pc') (hsz : Ls.size = ml) {ps : List FieldType} {rr : Option FieldType} (hds : parseMethodDescriptor y.desc = some ⟨ps, rr⟩) (hlen : argsL.length = ps.length)
    (hS : S = argsL.reverse ++ .ref a :: rest) (hW : (rest.map fun v => v.category).sum = W) (hf : rm.frames + 1 ≤ R.frames) (hl : W + (mL + 11) + rm.locals ≤ R.locals) (hc : k + rm.cells ≤ R.cells) (hs : n + rm.slots ≤ R.slots) {k' n' : Nat} (hk' : k + rm.cells = k') (hn' : n + rm.slots = n')
    (g : ∀ h' v, Gc v h' → Go p l e R s m args below meth c Y n0 G h' k' n' (mkF m pc' Ls (v.toList ++ rest))) :
    Go p l e R s m args below meth c Y n0 G h k n (mkF m pc Ls S) := fun T ⟨locs, F, X, eT⟩ => by
  subst hp hS hk' hn'
  obtain ⟨cq, kq, qa, qb, qc⟩ := isOf C.2.1 eT E
  obtain ⟨v, _, ⟨T', L', k', n'⟩, -, X', ⟨Lc, ⟨hQ, hF⟩, l1, y1, z1⟩, st⟩ := X.virtualBack C.1 C.2.2.2.2.1 (mvT C.2.1 w1) (mvT C.2.1 w2) hnf (mvT C.2.1 w5) (mvT C.2.1 w6) hy
    (backOf (W := W) (Q := fun v h L => Gc v h ∧ Fr n0 L) (con (hz C X eT)) C.2.1 w4 w3 hf hl) qa qc (g := mkF m pc Ls (argsL.reverse ++ .ref a :: rest)) rfl (hsz.trans C.2.2.2.1.symm) (Steps.refl _) (argsL := argsL) (rest := rest) (lenOf hds hlen) rfl (by show 2 * 0 + _ ≤ _; rw [Nat.mul_zero, Nat.zero_add]; exact Nat.le_of_eq hW) (hb C.2.2.1 hd) (fun _ _ => ⟨rfl, eT, hc, hs⟩)
  dsimp only [Pt.U, Pt.locs, Pt.cells, Pt.slots] at X' l1 y1 z1 st hQ
  subst l1 y1 z1
  exact step (fun t q => st.trans q) (g T'.heap v hQ T' ⟨_, Fr.app F hF, X', rfl⟩)
theorem callI (C : Cx p s m meth c Z n0 own bytes ml ret) {i cnt : Nat} {y z : MethodName} {b' : ByteArray} {mL : Nat} {r' : Option FieldType} {rm : Room} {Gc : Option Value → Heap → Prop} {a : Addr} {argsL rest : List Value} {W : Nat} {Cn : String}
    (w1 : (Cond.methodLink own i y).before a0 Z = true) (w2 : (Cond.declares y).before a0 Z = true) (w7 : (Cond.interfaceMethod y.cls y.cls y.name y.desc).before a0 Z = true) (w5 : (Cond.selects Cn y z).before a0 Z = true) (w6 : (Cond.instanceMethod z).before a0 Z = true) (w8 : (Cond.publicMethod z).before a0 Z = true) (w9 : (Cond.unhidden Cn y.name y.desc).before a0 Z = true) (w10 : (Cond.castable Cn y.cls).before a0 Z = true)
    (w3 : (Cond.initialized z.cls).before a0 Z = true) (w4 : (Cond.code z b' mL r').before a0 Z = true)
    (hy : y.cls ≠ "java/lang/invoke/MethodHandle" ∧ y.cls ≠ "java/lang/invoke/VarHandle") (E : Exa Z h a Cn) (con : n0 ≤ h.size → Con l Z z b' mL r' [] rm rm.cells rm.slots (.ref a :: argsL).toArray h n0 Gc)
    (hd : decode bytes pc = .ok (.invokeinterface i cnt, 5)) (hp : pc + 5 = pc') (hsz : Ls.size = ml) {ps : List FieldType} {rr : Option FieldType} (hds : parseMethodDescriptor y.desc = some ⟨ps, rr⟩) (hlen : argsL.length = ps.length)
    (hS : S = argsL.reverse ++ .ref a :: rest) (hW : (rest.map fun v => v.category).sum = W) (hf : rm.frames + 1 ≤ R.frames) (hl : W + (mL + 11) + rm.locals ≤ R.locals) (hc : k + rm.cells ≤ R.cells) (hs : n + rm.slots ≤ R.slots) {k' n' : Nat} (hk' : k + rm.cells = k') (hn' : n + rm.slots = n')
    (g : ∀ h' v, Gc v h' → Go p l e R s m args below meth c Y n0 G h' k' n' (mkF m pc' Ls (v.toList ++ rest))) :
    Go p l e R s m args below meth c Y n0 G h k n (mkF m pc Ls S) := fun T ⟨locs, F, X, eT⟩ => by
  subst hp hS hk' hn'
  obtain ⟨cq, kq, qa, qb, qc⟩ := isOf C.2.1 eT E
  obtain ⟨v, _, ⟨T', L', k', n'⟩, -, X', ⟨Lc, ⟨hQ, hF⟩, l1, y1, z1⟩, st⟩ := X.interfaceBack C.1 C.2.2.2.2.1 (mvT C.2.1 w1) (mvT C.2.1 w2) (mvT C.2.1 w7 (by simp [Cond.onTables, Cond.keepsFace, Cond.keeps, Cond.steady, Cond.faceAtom, hy.1, hy.2])) (mvT C.2.1 w5) (mvT C.2.1 w6) (mvT C.2.1 w8) (mvT C.2.1 w9) (mvT C.2.1 w10) hy
    (backOf (W := W) (Q := fun v h L => Gc v h ∧ Fr n0 L) (con (hz C X eT)) C.2.1 w4 w3 hf hl) qa qb qc (g := mkF m pc Ls (argsL.reverse ++ .ref a :: rest)) rfl (hsz.trans C.2.2.2.1.symm) (Steps.refl _) (argsL := argsL) (rest := rest) (lenOf hds hlen) rfl (by show 2 * 0 + _ ≤ _; rw [Nat.mul_zero, Nat.zero_add]; exact Nat.le_of_eq hW) (hb C.2.2.1 hd) (fun _ _ => ⟨rfl, eT, hc, hs⟩)
  dsimp only [Pt.U, Pt.locs, Pt.cells, Pt.slots] at X' l1 y1 z1 st hQ
  subst l1 y1 z1
  exact step (fun t q => st.trans q) (g T'.heap v hQ T' ⟨_, Fr.app F hF, X', rfl⟩)
/-- a private method by invokevirtual: no 'selects' word is wanted; the class is instantiable -/
theorem callP (C : Cx p s m meth c Z n0 own bytes ml ret) {i q : Nat} {y : MethodName} {b' : ByteArray} {mL : Nat} {r' : Option FieldType} {rm : Room} {Gc : Option Value → Heap → Prop} {a : Addr} {argsL rest : List Value} {W : Nat} {Cn : String}
    (w1 : (Cond.methodLink own i y).before a0 Z = true) (w6 : (Cond.instanceMethod y).before a0 Z = true) (w7 : (Cond.privateMethod y).before a0 Z = true) (w8 : (Cond.instantiable y.cls q).before a0 Z = true) (w3 : (Cond.initialized y.cls).before a0 Z = true) (w4 : (Cond.code y b' mL r').before a0 Z = true)
    (hy : y.cls ≠ "java/lang/invoke/MethodHandle" ∧ y.cls ≠ "java/lang/invoke/VarHandle") (E : Exa Z h a Cn) (con : n0 ≤ h.size → Con l Z y b' mL r' [] rm rm.cells rm.slots (.ref a :: argsL).toArray h n0 Gc)
    (hd : decode bytes pc = .ok (.invokevirtual i, 3)) (hp : pc + 3 = pc') (hsz : Ls.size = ml) {ps : List FieldType} {rr : Option FieldType} (hds : parseMethodDescriptor y.desc = some ⟨ps, rr⟩) (hlen : argsL.length = ps.length)
    (hS : S = argsL.reverse ++ .ref a :: rest) (hW : (rest.map fun v => v.category).sum = W) (hf : rm.frames + 1 ≤ R.frames) (hl : W + (mL + 11) + rm.locals ≤ R.locals) (hc : k + rm.cells ≤ R.cells) (hs : n + rm.slots ≤ R.slots) {k' n' : Nat} (hk' : k + rm.cells = k') (hn' : n + rm.slots = n')
    (g : ∀ h' v, Gc v h' → Go p l e R s m args below meth c Y n0 G h' k' n' (mkF m pc' Ls (v.toList ++ rest))) :
    Go p l e R s m args below meth c Y n0 G h k n (mkF m pc Ls S) := fun T ⟨locs, F, X, eT⟩ => by
  subst hp hS hk' hn'
  obtain ⟨cell, hc1, hc2⟩ := E.cell
  obtain ⟨mk, methM, hnamed, hmethM, hstM, habM⟩ := Cond.instanceMethod_spec (mvT (args := args) C.2.1 w6)
  obtain ⟨methM', cM, hmethM', -, -, -, -, -, -, hsigM⟩ := Cond.code_spec hnamed (mvT (args := args) C.2.1 w4)
  cases hmethM.symm.trans hmethM'
  obtain ⟨cid, kP, z1, z2, z3, z4, -⟩ := Cond.instantiable_spec (mvT (args := args) C.2.1 w8)
  have z5 : cid = mk.cls := Option.some.inj (z1.symm.trans (findClass_of_methodNamed hnamed))
  subst z5
  have z6 : kP.isInterface = false := by simp only [Bool.or_eq_false_iff] at z4; exact z4.1
  obtain ⟨vm₁, X₁, hstep₁⟩ := X.invokevirtual C.1 C.2.2.2.2.1 (mvT C.2.1 w1) hnamed hmethM hstM z2 z6 hy (a := a) (cell := cell) (by rw [eT]; exact hc1) hc2 (selectMethod_private hmethM (Cond.privateMethod_at (mvP C.2.1 w7 (args := #[])) mk methM hnamed hmethM)) hmethM habM z2 z6 (g := mkF m pc Ls (argsL.reverse ++ .ref a :: rest)) rfl (argsL := argsL) (rest := rest) (lenOf hds hlen _ hsigM) rfl (hb C.2.2.1 hd)
  obtain ⟨v, ⟨T', L', k', n'⟩, X', ⟨Lc, ⟨hQ, hF⟩, l1, y1, z1⟩, hsteps⟩ := (backOf (W := W) (len := 3) (Q := fun v h L => Gc v h ∧ Fr n0 L) (con (hz C X eT)) C.2.1 w4 w3 hf hl) m meth c ⟨T.setVm vm₁, locs, k, n⟩ (mkF m pc Ls rest) (.invokevirtual i) mk (.ref a :: argsL).toArray X₁ rfl (hsz.trans C.2.2.2.1.symm) (hb C.2.2.1 hd) (by show 2 * 0 + _ ≤ _; rw [Nat.mul_zero, Nat.zero_add]; exact Nat.le_of_eq hW) (X₁.named hnamed) ⟨rfl, eT, hc, hs⟩
  dsimp only [Pt.U, Pt.locs, Pt.cells, Pt.slots] at X' l1 y1 z1 hsteps hQ
  subst l1 y1 z1
  exact step (fun t q => (hstep₁ _ fun acts => by rw [doInvoke_state]; exact hsteps).trans q) (g T'.heap v hQ T' ⟨_, Fr.app F hF, X', rfl⟩)
theorem arraycopy (C : Cx p s m meth c Z n0 own bytes ml ret) {i : Nat} {a b : Addr} {ka kb : ClassId} {ty : FieldType} {za zb sp dp nn : Int32} {vs vd : List Value} {dv dd : Value} {W : Nat}
    (w1 : (Cond.methodLink own i Jvm.Stand.acN).before a0 Z = true) (w2 : (Cond.native Jvm.Stand.acN).before a0 Z = true) (w3 : (Cond.static Jvm.Stand.acN).before a0 Z = true) (w4 : (Cond.initialized "java/lang/System").before a0 Z = true)
    (A : Arv Z h a ka ty za vs dv) (B : Arv Z h b kb ty zb vd dd) (hty : refKind ty = false) (h1 : 0 ≤ sp.toInt) (h2 : 0 ≤ dp.toInt) (h3 : 0 ≤ nn.toInt) (h4 : sp.toInt + nn.toInt ≤ za.toInt) (h5 : dp.toInt + nn.toInt ≤ zb.toInt) (hl : dp.toInt.toNat + nn.toInt.toNat ≤ vd.length) (ge : n0 ≤ b)
    (hd : decode bytes pc = .ok (.invokestatic i, 3)) (hp : pc + 3 = pc') (hsz : Ls.size = ml) (hf : 1 ≤ R.frames) (hW : (S.map fun v => v.category).sum = W) (hlo : W + 18 ≤ R.locals)
    (g : ∀ h', Keep h h' [b] → Arv Z h' b kb ty zb (vd.take dp.toInt.toNat ++ (List.range nn.toInt.toNat).map (fun j => vs.getD (sp.toInt.toNat + j) dv) ++ vd.drop (dp.toInt.toNat + nn.toInt.toNat)) dd → Go p l e R s m args below meth c Y n0 G h' k n (mkF m pc' Ls S)) :
    Go p l e R s m args below meth c Y n0 G h k n (mkF m pc Ls (.int nn :: .int dp :: .ref b :: .int sp :: .ref a :: S)) := fun T ⟨locs, F, X, eT⟩ => by
  subst hp
  have nn0 : ∀ {x : Int32}, 0 ≤ x.toInt → ¬ x < 0 := fun {x} q w => by have := Int32.lt_iff_toInt_lt.mp w; simp only [Int32.reduceToInt] at this; omega
  obtain ⟨T', h', L', X', e', F', K', V', st⟩ := cpA X C.1 C.2.1 C.2.2.2.2.1 w1 w2 w3 w4 eT A B (Or.inl ⟨rfl, hty⟩) (nn0 h1) (nn0 h2) (nn0 h3) (by show sp.toInt.toNat + nn.toInt.toNat ≤ za.toInt.toNat; omega) (by show dp.toInt.toNat + nn.toInt.toNat ≤ zb.toInt.toNat; omega) rfl hl F ge
    (g := mkF m pc Ls (.int nn :: .int dp :: .ref b :: .int sp :: .ref a :: S)) rfl (hsz.trans C.2.2.2.1.symm) rfl (hb C.2.2.1 hd) hf (W := W) (by show 2 * 0 + _ ≤ _; rw [Nat.mul_zero, Nat.zero_add]; exact Nat.le_of_eq hW) (by show W + (7 + 11) ≤ _; exact hlo)
  exact step st (g h' K' V' T' ⟨_, F', X', e'⟩)
theorem nf_sel (C : Cx p s m meth c Z n0 own bytes ml ret) {Cn : String} {y : MethodName} (w : (Cond.selects Cn y y).before a0 Z = true) : NotFace s y := notFace_of_selects (args := #[]) (mvT C.2.1 w)
theorem initObj (C : Cx p s m meth c Z n0 own bytes ml ret) {i : Nat} {a : Addr} {W : Nat} (w1 : (Cond.methodLink own i Lib.objectInit).before a0 Z = true) (w2 : (Cond.instanceMethod Lib.objectInit).before a0 Z = true) (w3 : (Cond.code Lib.objectInit ⟨#[0xb1]⟩ 1 none).before a0 Z = true)
    (hd : decode bytes pc = .ok (.invokespecial i, 3)) (hp : pc + 3 = pc') (hsz : Ls.size = ml) (hf : 1 ≤ R.frames) (hW : (S.map fun v => v.category).sum = W) (hl : W + 12 ≤ R.locals)
    (g : Go p l e R s m args below meth c Y n0 G h k n (mkF m pc' Ls S)) : Go p l e R s m args below meth c Y n0 G h k n (mkF m pc Ls (.ref a :: S)) := fun T ⟨locs, F, X, eT⟩ => by
  subst hp
  obtain ⟨T', X', e', st⟩ := initO X C.1 C.2.1 C.2.2.2.2.1 w1 w2 w3 eT (g := mkF m pc Ls (.ref a :: S)) rfl (hsz.trans C.2.2.2.1.symm) rfl (hb C.2.2.1 hd) hf (W := W) (by show 2 * 0 + _ ≤ _; rw [Nat.mul_zero, Nat.zero_add]; exact Nat.le_of_eq hW) hl
  exact step st (g T' ⟨_, F, X', e'⟩)

/-! fields and objects -/
theorem getfield (C : Cx p s m meth c Z n0 own bytes ml ret) {i : Nat} {R0 O f d : String} {a : Addr} {v : Value} (w : (Cond.fieldLink own i R0 f d).before a0 Z = true) (via : Via Z R0 O f d) (F : Fld Z h a O f d v) (hd : decode bytes pc = .ok (.getfield i, 3)) (hp : pc + 3 = pc')
    (g : Go p l e R s m args below meth c Y n0 G h k n (mkF m pc' Ls (v :: S))) : Go p l e R s m args below meth c Y n0 G h k n (mkF m pc Ls (.ref a :: S)) := fun T ⟨locs, Fz, X, eT⟩ => by
  subst hp
  obtain ⟨T', X', e', st⟩ := getF X C.1 C.2.1 C.2.2.2.2.1 (host := "") (Or.inl w) via eT F (g := mkF m pc Ls (.ref a :: S)) rfl rfl (hb C.2.2.1 hd)
  exact step st (g T' ⟨_, Fz, X', e'⟩)
theorem getstatic (C : Cx p s m meth c Z n0 own bytes ml ret) {i : Nat} {R0 O f d : String} {v : Value} (w : (Cond.fieldLink own i R0 f d).before a0 Z = true) (via : Via Z R0 O f d) (F : Sta Z h O f d v) (hd : decode bytes pc = .ok (.getstatic i, 3)) (hp : pc + 3 = pc')
    (g : Go p l e R s m args below meth c Y n0 G h k n (mkF m pc' Ls (v :: S))) : Go p l e R s m args below meth c Y n0 G h k n (mkF m pc Ls S) := fun T ⟨locs, Fz, X, eT⟩ => by
  subst hp
  obtain ⟨T', X', e', st⟩ := getS2 X C.1 C.2.1 C.2.2.2.2.1 (host := "") (Or.inl w) via eT F (g := mkF m pc Ls S) rfl (hb C.2.2.1 hd)
  exact step st (g T' ⟨_, Fz, X', e'⟩)
theorem putfield (C : Cx p s m meth c Z n0 own bytes ml ret) {i kk : Nat} {R0 O f d Cn : String} {ty : FieldType} {a : Addr} {v old : Value} (w : (Cond.fieldLink own i R0 f d).before a0 Z = true) (via : Via Z R0 O f d) (F : Fld Z h a O f d old) (E : Exa Z h a Cn)
    (L : (Cond.lays Cn O f d).before a0 Z = true ∨ ((Cond.laysFinal Cn O f d).before a0 Z = true ∧ own = O ∧ meth.name = "<init>")) (wi : (Cond.instantiable Cn kk).before a0 Z = true) (hty : parseFieldDescriptor d = some ty) (hnr : narrow ty v = v) (hft : fits ty v = true) (hd : decode bytes pc = .ok (.putfield i, 3)) (hp : pc + 3 = pc') (ha : n0 ≤ a)
    (g : ∀ h', Wr h h' a (Jvm.RoadKit.slotOf Z O f d) v → Go p l e R s m args below meth c Y n0 G h' k n (mkF m pc' Ls S)) : Go p l e R s m args below meth c Y n0 G h k n (mkF m pc Ls (v :: .ref a :: S)) := fun T ⟨locs, Fz, X, eT⟩ => by
  subst hp
  obtain ⟨T', h', X', e', W, st⟩ := putF X C.1 C.2.1 C.2.2.2.2.1 (host := "") (Or.inl w) via eT F E L wi hty hnr hft (g := mkF m pc Ls (v :: .ref a :: S)) rfl rfl (hb C.2.2.1 hd)
  exact step st (g h' W T' ⟨_, Fr.snoc X' Fz ha, X', e'⟩)
theorem new (C : Cx p s m meth c Z n0 own bytes ml ret) {i sz : Nat} {Cn : String} (w : (Cond.classLink own i Cn).before a0 Z = true) (wi : (Cond.instantiable Cn sz).before a0 Z = true) (wz : (Cond.initialized Cn).before a0 Z = true) (hd : decode bytes pc = .ok (.new i, 3)) (hp : pc + 3 = pc') (hc : k + 1 ≤ R.cells) (hs : n + sz ≤ R.slots) {k' n' : Nat} (hk' : k + 1 = k') (hn' : n + sz = n')
    (g : ∀ h' a, a = h.size → n0 ≤ a → Ext h h' → Exa Z h' a Cn → (∀ {O nm d : String} {ty : FieldType}, Laid Z a0 Cn O nm d → parseFieldDescriptor d = some ty → Fld Z h' a O nm d (defaultValue ty)) → Go p l e R s m args below meth c Y n0 G h' k' n' (mkF m pc' Ls (.ref a :: S))) :
    Go p l e R s m args below meth c Y n0 G h k n (mkF m pc Ls S) := fun T ⟨locs, Fz, X, eT⟩ => by
  subst hp hk' hn'
  obtain ⟨T', h', X', e', E, A, D, -, st⟩ := newO X C.1 C.2.1 C.2.2.2.2.1 w wi wz eT (g := mkF m pc Ls S) rfl (hb C.2.2.1 hd) hc hs
  exact step st (g h' _ rfl (hz C X eT) E A D T' ⟨_, Fz, X', e'⟩)
/-! arrays -/
theorem newarray (C : Cx p s m meth c Z n0 own bytes ml ret) {aty : ArrayType} {x : Int32} {cap : Nat} (w : (Cond.arrayClass (newarray.typeOf aty)).before a0 Z = true) (hd : decode bytes pc = .ok (.newarray aty, 2)) (hp : pc + 2 = pc') (hx : ¬ x < 0) (hcap : x.toNatClampNeg ≤ cap) (hbig : cap * 8 ≤ 536870912) (hc : k + 1 ≤ R.cells) (hs : n + cap ≤ R.slots) {k' n' : Nat} (hk' : k + 1 = k') (hn' : n + cap = n')
    (g : ∀ h' a kc, a = h.size → n0 ≤ a → Ext h h' → Arv Z h' a kc (newarray.typeOf aty) x [] (defaultValue (newarray.typeOf aty)) → Go p l e R s m args below meth c Y n0 G h' k' n' (mkF m pc' Ls (.ref a :: S))) :
    Go p l e R s m args below meth c Y n0 G h k n (mkF m pc Ls (.int x :: S)) := fun T ⟨locs, Fz, X, eT⟩ => by
  subst hp hk' hn'
  obtain ⟨T', h', kc, X', e', E, A, st⟩ := newP X C.1 C.2.1 w eT (g := mkF m pc Ls (.int x :: S)) rfl (hb C.2.2.1 hd) rfl hx hcap hbig hc hs
  exact step st (g h' _ kc rfl (hz C X eT) E (Arv.new A hx) T' ⟨_, Fz, X', e'⟩)
theorem arraylength (C : Cx p s m meth c Z n0 own bytes ml ret) {a : Addr} {kc : ClassId} {ty : FieldType} {z : Int32} {vs : List Value} {dv : Value} (A : Arv Z h a kc ty z vs dv) (hd : decode bytes pc = .ok (.arraylength, 1)) (hp : pc + 1 = pc')
    (g : Go p l e R s m args below meth c Y n0 G h k n (mkF m pc' Ls (.int z :: S))) : Go p l e R s m args below meth c Y n0 G h k n (mkF m pc Ls (.ref a :: S)) := by
  subst hp
  obtain ⟨cl, Ar, -, Sz, Nz, -, -⟩ := A
  refine stepG (fun T locs X eT t q => X.arraylength C.1 (by rw [eT]; exact Ar.1) (State.isArrayOf_alike C.2.1.alike Ar.2.1) (g := mkF m pc Ls (.ref a :: S)) rfl rfl (hb C.2.2.1 hd) t ?_) g
  rw [len_of Sz Nz]; exact q
theorem arv_at {a : Addr} {kc : ClassId} {ty : FieldType} {z : Int32} {vs : List Value} {dv : Value} (A : Arv Z h a kc ty z vs dv) {j : Int32} (h0 : 0 ≤ j.toInt) (h1 : j.toInt < z.toInt) {v : Value} (hv : vs.getD j.toInt.toNat dv = v) :
    ∃ cl, Arr Z h a cl ty ∧ ¬ (j < 0 ∨ cl.slots.size ≤ j.toNatClampNeg) ∧ cl.slots[j.toNatClampNeg]? = some v := by
  obtain ⟨cl, Ar, -, Sz, Nz, H, -⟩ := A
  have hj : ¬ j < 0 := fun q => by have := Int32.lt_iff_toInt_lt.mp q; simp at this; omega
  have hin := inb_of Sz (j := j) ⟨hj, Int32.lt_iff_toInt_lt.mpr h1⟩
  exact ⟨cl, Ar, hin, H.at hin hv⟩
theorem iaload (C : Cx p s m meth c Z n0 own bytes ml ret) {a : Addr} {kc : ClassId} {z j : Int32} {vs : List Value} {dv v : Value} (A : Arv Z h a kc .int z vs dv) (h0 : 0 ≤ j.toInt) (h1 : j.toInt < z.toInt) (hv : vs.getD j.toInt.toNat dv = v) (hd : decode bytes pc = .ok (.iaload, 1)) (hp : pc + 1 = pc')
    (g : Go p l e R s m args below meth c Y n0 G h k n (mkF m pc' Ls (v :: S))) : Go p l e R s m args below meth c Y n0 G h k n (mkF m pc Ls (.int j :: .ref a :: S)) := by
  subst hp
  obtain ⟨cl, Ar, hin, hat⟩ := arv_at A h0 h1 hv
  exact stepG (fun T locs X eT t q => X.iaload C.1 (by rw [eT]; exact Ar.1) (State.isArrayOf_alike C.2.1.alike Ar.2.1) Ar.2.2 hin hat (g := mkF m pc Ls (.int j :: .ref a :: S)) rfl rfl (hb C.2.2.1 hd) t q) g
theorem laload (C : Cx p s m meth c Z n0 own bytes ml ret) {a : Addr} {kc : ClassId} {z j : Int32} {vs : List Value} {dv v : Value} (A : Arv Z h a kc .long z vs dv) (h0 : 0 ≤ j.toInt) (h1 : j.toInt < z.toInt) (hv : vs.getD j.toInt.toNat dv = v) (hd : decode bytes pc = .ok (.laload, 1)) (hp : pc + 1 = pc')
    (g : Go p l e R s m args below meth c Y n0 G h k n (mkF m pc' Ls (v :: S))) : Go p l e R s m args below meth c Y n0 G h k n (mkF m pc Ls (.int j :: .ref a :: S)) := by
  subst hp
  obtain ⟨cl, Ar, hin, hat⟩ := arv_at A h0 h1 hv
  exact stepG (fun T locs X eT t q => X.laload C.1 (by rw [eT]; exact Ar.1) (State.isArrayOf_alike C.2.1.alike Ar.2.1) Ar.2.2 hin hat (g := mkF m pc Ls (.int j :: .ref a :: S)) rfl rfl (hb C.2.2.1 hd) t q) g
theorem caload (C : Cx p s m meth c Z n0 own bytes ml ret) {a : Addr} {kc : ClassId} {z j : Int32} {vs : List Value} {dv v : Value} (A : Arv Z h a kc .char z vs dv) (h0 : 0 ≤ j.toInt) (h1 : j.toInt < z.toInt) (hv : vs.getD j.toInt.toNat dv = v) (hd : decode bytes pc = .ok (.caload, 1)) (hp : pc + 1 = pc')
    (g : Go p l e R s m args below meth c Y n0 G h k n (mkF m pc' Ls (v :: S))) : Go p l e R s m args below meth c Y n0 G h k n (mkF m pc Ls (.int j :: .ref a :: S)) := by
  subst hp
  obtain ⟨cl, Ar, hin, hat⟩ := arv_at A h0 h1 hv
  exact stepG (fun T locs X eT t q => X.caload C.1 (by rw [eT]; exact Ar.1) (State.isArrayOf_alike C.2.1.alike Ar.2.1) Ar.2.2 hin hat (g := mkF m pc Ls (.int j :: .ref a :: S)) rfl rfl (hb C.2.2.1 hd) t q) g
theorem baload (C : Cx p s m meth c Z n0 own bytes ml ret) {a : Addr} {kc : ClassId} {z j : Int32} {vs : List Value} {dv v : Value} (A : Arv Z h a kc .byte z vs dv) (h0 : 0 ≤ j.toInt) (h1 : j.toInt < z.toInt) (hv : vs.getD j.toInt.toNat dv = v) (hd : decode bytes pc = .ok (.baload, 1)) (hp : pc + 1 = pc')
    (g : Go p l e R s m args below meth c Y n0 G h k n (mkF m pc' Ls (v :: S))) : Go p l e R s m args below meth c Y n0 G h k n (mkF m pc Ls (.int j :: .ref a :: S)) := by
  subst hp
  obtain ⟨cl, Ar, hin, hat⟩ := arv_at A h0 h1 hv
  exact stepG (fun T locs X eT t q => X.baloadBytes C.1 (by rw [eT]; exact Ar.1) (State.isArrayOf_alike C.2.1.alike Ar.2.1) Ar.2.2 hin hat (g := mkF m pc Ls (.int j :: .ref a :: S)) rfl rfl (hb C.2.2.1 hd) t q) g
theorem aaload (C : Cx p s m meth c Z n0 own bytes ml ret) {a : Addr} {cl : Cell} {ty : FieldType} {j : Int32} {v : Value} (A : Arr Z h a cl ty) (hty : ty.isReference = true) (hin : ¬ (j < 0 ∨ cl.slots.size ≤ j.toNatClampNeg)) (hat : cl.slots[j.toNatClampNeg]? = some v) (hd : decode bytes pc = .ok (.aaload, 1)) (hp : pc + 1 = pc')
    (g : Go p l e R s m args below meth c Y n0 G h k n (mkF m pc' Ls (v :: S))) : Go p l e R s m args below meth c Y n0 G h k n (mkF m pc Ls (.int j :: .ref a :: S)) := by
  subst hp
  exact stepG (fun T locs X eT t q => X.aaload C.1 (by rw [eT]; exact A.1) (State.isArrayOf_alike C.2.1.alike A.2.1) hty A.2.2 hin hat (g := mkF m pc Ls (.int j :: .ref a :: S)) rfl rfl (hb C.2.2.1 hd) t q) g
theorem instT (C : Cx p s m meth c Z n0 own bytes ml ret) {i : Nat} {Kn : String} {a : Addr} (w : (Cond.classLink own i Kn).before a0 Z = true) (I : Ins Z h a Kn true) (hd : decode bytes pc = .ok (.instanceof i, 3)) (hp : pc + 3 = pc')
    (g : Go p l e R s m args below meth c Y n0 G h k n (mkF m pc' Ls (.int 1 :: S))) : Go p l e R s m args below meth c Y n0 G h k n (mkF m pc Ls (.ref a :: S)) := fun T ⟨locs, Fz, X, eT⟩ => by
  subst hp
  obtain ⟨T', X', e', st⟩ := instY X C.1 C.2.1 C.2.2.2.2.1 w eT I (g := mkF m pc Ls (.ref a :: S)) rfl rfl (hb C.2.2.1 hd)
  exact step st (g T' ⟨_, Fz, X', e'⟩)
theorem instF (C : Cx p s m meth c Z n0 own bytes ml ret) {i : Nat} {Kn Cn : String} {a : Addr} (w : (Cond.classLink own i Kn).before a0 Z = true) (E : Exa Z h a Cn) (I : ∃ c t, Z.vm.findClass Cn = some c ∧ Z.vm.findClass Kn = some t ∧ Z.vm.assignable c t = false) (hd : decode bytes pc = .ok (.instanceof i, 3)) (hp : pc + 3 = pc')
    (g : Go p l e R s m args below meth c Y n0 G h k n (mkF m pc' Ls (.int 0 :: S))) : Go p l e R s m args below meth c Y n0 G h k n (mkF m pc Ls (.ref a :: S)) := fun T ⟨locs, Fz, X, eT⟩ => by
  subst hp
  obtain ⟨T', X', e', st⟩ := instNo X C.1 C.2.1 C.2.2.2.2.1 w eT E I (g := mkF m pc Ls (.ref a :: S)) rfl rfl (hb C.2.2.1 hd)
  exact step st (g T' ⟨_, Fz, X', e'⟩)
theorem instN (C : Cx p s m meth c Z n0 own bytes ml ret) {i : Nat} (hd : decode bytes pc = .ok (.instanceof i, 3)) (hp : pc + 3 = pc')
    (g : Go p l e R s m args below meth c Y n0 G h k n (mkF m pc' Ls (.int 0 :: S))) : Go p l e R s m args below meth c Y n0 G h k n (mkF m pc Ls (.null :: S)) := by
  subst hp; exact stepG (fun T locs X eT t q => X.instanceofNull C.1 (g := mkF m pc Ls (.null :: S)) rfl rfl (hb C.2.2.1 hd) t q) g
theorem castT (C : Cx p s m meth c Z n0 own bytes ml ret) {i : Nat} {Kn : String} {a : Addr} (w : (Cond.classLink own i Kn).before a0 Z = true) (I : Ins Z h a Kn true) (hd : decode bytes pc = .ok (.checkcast i, 3)) (hp : pc + 3 = pc')
    (g : Go p l e R s m args below meth c Y n0 G h k n (mkF m pc' Ls (.ref a :: S))) : Go p l e R s m args below meth c Y n0 G h k n (mkF m pc Ls (.ref a :: S)) := fun T ⟨locs, Fz, X, eT⟩ => by
  subst hp
  obtain ⟨T', X', e', st⟩ := castY X C.1 C.2.1 C.2.2.2.2.1 w eT I (g := mkF m pc Ls (.ref a :: S)) rfl rfl (hb C.2.2.1 hd)
  exact step st (g T' ⟨_, Fz, X', e'⟩)
theorem ns_root {O Kn : String} {q : Nat} (w : (Cond.noSuperclass O).before a0 Z = true) (wk : (Cond.instantiable Kn q).before a0 Z = true) (hn : O ≠ Kn) : NS Z O Kn := by
  obtain ⟨c, k, h1, h2, h3, -, -⟩ := Cond.noSuperclass_spec w
  obtain ⟨t, kt, g1, -⟩ := Cond.instantiable_spec wk
  have ne := ids_ne h1 g1 hn
  refine ⟨c, t, h1, g1, fun fuel => ?_⟩
  cases fuel with
  | zero => rfl
  | succ f => simp [Vm.isSubclassAux, ne, h2, h3]
theorem ns_no {Cn Sn Kn : String} {q : Nat} (w : (Cond.superclass Cn Sn).before a0 Z = true) (wk : (Cond.instantiable Kn q).before a0 Z = true) (n : NS Z Cn Kn) (hn : Cn ≠ Kn) : ∃ c t, Z.vm.findClass Cn = some c ∧ Z.vm.findClass Kn = some t ∧ Z.vm.assignable c t = false := by
  obtain ⟨c, t, h0, g0, n3⟩ := n
  obtain ⟨p, k, kp, h1, h2, h3, h4, h5, -, h7⟩ := Cond.superclass_spec h0 w
  obtain ⟨t', k', g1, g2, g5, g7, -⟩ := Cond.instantiable_spec wk
  cases g0.symm.trans g1
  have ne := ids_ne h0 g0 hn
  have g8 : k'.isInterface = false := by simp only [Bool.or_eq_false_iff] at g7; exact g7.1
  refine ⟨c, t, h0, g0, ?_⟩
  show Z.vm.assignableAux (255 + 1) c t = false
  simp [Vm.assignableAux, ne, h2, g2, h5, g5, g8, Vm.isSubclass, n3]
theorem iastore (C : Cx p s m meth c Z n0 own bytes ml ret) {a : Addr} {kc : ClassId} {z j : Int32} {x : Int32} {vs : List Value} {dv : Value} (A : Arv Z h a kc .int z vs dv) (h0 : 0 ≤ j.toInt) (h1 : j.toInt < z.toInt) (hlen : j.toInt.toNat < vs.length) (ha : n0 ≤ a) (hd : decode bytes pc = .ok (.iastore, 1)) (hp : pc + 1 = pc')
    (g : ∀ h', Wr h h' a j.toNatClampNeg (.int x) → Arv Z h' a kc .int z (vs.set j.toInt.toNat (.int x)) dv → Go p l e R s m args below meth c Y n0 G h' k n (mkF m pc' Ls S)) : Go p l e R s m args below meth c Y n0 G h k n (mkF m pc Ls (.int x :: .int j :: .ref a :: S)) := fun T ⟨locs, Fz, X, eT⟩ => by
  subst hp
  obtain ⟨cl, Ar, q1, Sz, Nz, H, Gf⟩ := A
  have hj : ¬ j < 0 := fun q => by have := Int32.lt_iff_toInt_lt.mp q; simp at this; omega
  have hin := inb_of Sz (j := j) ⟨hj, Int32.lt_iff_toInt_lt.mpr h1⟩
  obtain ⟨T', h', X', e', W, st⟩ := stI X C.1 C.2.1 eT Ar hin (g := mkF m pc Ls (.int x :: .int j :: .ref a :: S)) rfl rfl (hb C.2.2.1 hd)
  exact step st (g h' W (Arv.set Ar q1 Sz Nz H Gf rfl W _ rfl hlen) T' ⟨_, Fr.snoc X' Fz ha, X', e'⟩)
theorem lastore (C : Cx p s m meth c Z n0 own bytes ml ret) {a : Addr} {kc : ClassId} {z j : Int32} {x : Int64} {vs : List Value} {dv : Value} (A : Arv Z h a kc .long z vs dv) (h0 : 0 ≤ j.toInt) (h1 : j.toInt < z.toInt) (hlen : j.toInt.toNat < vs.length) (ha : n0 ≤ a) (hd : decode bytes pc = .ok (.lastore, 1)) (hp : pc + 1 = pc')
    (g : ∀ h', Wr h h' a j.toNatClampNeg (.long x) → Arv Z h' a kc .long z (vs.set j.toInt.toNat (.long x)) dv → Go p l e R s m args below meth c Y n0 G h' k n (mkF m pc' Ls S)) : Go p l e R s m args below meth c Y n0 G h k n (mkF m pc Ls (.long x :: .int j :: .ref a :: S)) := fun T ⟨locs, Fz, X, eT⟩ => by
  subst hp
  obtain ⟨cl, Ar, q1, Sz, Nz, H, Gf⟩ := A
  have hj : ¬ j < 0 := fun q => by have := Int32.lt_iff_toInt_lt.mp q; simp at this; omega
  have hin := inb_of Sz (j := j) ⟨hj, Int32.lt_iff_toInt_lt.mpr h1⟩
  obtain ⟨T', h', X', e', W, st⟩ := stJ X C.1 C.2.1 eT Ar hin (g := mkF m pc Ls (.long x :: .int j :: .ref a :: S)) rfl rfl (hb C.2.2.1 hd)
  exact step st (g h' W (Arv.set Ar q1 Sz Nz H Gf rfl W _ rfl hlen) T' ⟨_, Fr.snoc X' Fz ha, X', e'⟩)
theorem castore (C : Cx p s m meth c Z n0 own bytes ml ret) {a : Addr} {kc : ClassId} {z j : Int32} {x : Int32} {vs : List Value} {dv : Value} (A : Arv Z h a kc .char z vs dv) (h0 : 0 ≤ j.toInt) (h1 : j.toInt < z.toInt) (hlen : j.toInt.toNat < vs.length) (ha : n0 ≤ a) (hd : decode bytes pc = .ok (.castore, 1)) (hp : pc + 1 = pc')
    (g : ∀ h', Wr h h' a j.toNatClampNeg (.int (nar .char x)) → Arv Z h' a kc .char z (vs.set j.toInt.toNat (.int (nar .char x))) dv → Go p l e R s m args below meth c Y n0 G h' k n (mkF m pc' Ls S)) : Go p l e R s m args below meth c Y n0 G h k n (mkF m pc Ls (.int x :: .int j :: .ref a :: S)) := fun T ⟨locs, Fz, X, eT⟩ => by
  subst hp
  obtain ⟨cl, Ar, q1, Sz, Nz, H, Gf⟩ := A
  have hj : ¬ j < 0 := fun q => by have := Int32.lt_iff_toInt_lt.mp q; simp at this; omega
  have hin := inb_of Sz (j := j) ⟨hj, Int32.lt_iff_toInt_lt.mpr h1⟩
  obtain ⟨T', h', X', e', W, st⟩ := stC X C.1 C.2.1 eT Ar hin (g := mkF m pc Ls (.int x :: .int j :: .ref a :: S)) rfl rfl (hb C.2.2.1 hd)
  exact step st (g h' W (Arv.set Ar q1 Sz Nz H Gf (fits_nar_char _) W _ rfl hlen) T' ⟨_, Fr.snoc X' Fz ha, X', e'⟩)
theorem bastore (C : Cx p s m meth c Z n0 own bytes ml ret) {a : Addr} {kc : ClassId} {z j : Int32} {x : Int32} {vs : List Value} {dv : Value} (A : Arv Z h a kc .byte z vs dv) (h0 : 0 ≤ j.toInt) (h1 : j.toInt < z.toInt) (hlen : j.toInt.toNat < vs.length) (ha : n0 ≤ a) (hd : decode bytes pc = .ok (.bastore, 1)) (hp : pc + 1 = pc')
    (g : ∀ h', Wr h h' a j.toNatClampNeg (.int (nar .byte x)) → Arv Z h' a kc .byte z (vs.set j.toInt.toNat (.int (nar .byte x))) dv → Go p l e R s m args below meth c Y n0 G h' k n (mkF m pc' Ls S)) : Go p l e R s m args below meth c Y n0 G h k n (mkF m pc Ls (.int x :: .int j :: .ref a :: S)) := fun T ⟨locs, Fz, X, eT⟩ => by
  subst hp
  obtain ⟨cl, Ar, q1, Sz, Nz, H, Gf⟩ := A
  have hj : ¬ j < 0 := fun q => by have := Int32.lt_iff_toInt_lt.mp q; simp at this; omega
  have hin := inb_of Sz (j := j) ⟨hj, Int32.lt_iff_toInt_lt.mpr h1⟩
  obtain ⟨T', h', X', e', W, st⟩ := stB X C.1 C.2.1 eT Ar hin (g := mkF m pc Ls (.int x :: .int j :: .ref a :: S)) rfl rfl (hb C.2.2.1 hd)
  exact step st (g h' W (Arv.set Ar q1 Sz Nz H Gf (fits_nar_byte _) W _ rfl hlen) T' ⟨_, Fr.snoc X' Fz ha, X', e'⟩)
end Walk
end Jvm.Pilot.@@N@@.W
namespace Jvm.Pilot.@@N@@
open Jvm Jvm.ClassFile Sem Op Lib Jvm.Free Jvm.Stand Jvm.LawKit Jvm.RoadKit Bundle Jvm.Pilot.@@N@@.Jvm.D
theorem ef_1_0 (m : MethodId) (p0 : Int32) (t : Addr) : entryFrame m #[(.int p0), (.ref t)] 3 = mkF m 0 #[.val (.int p0), .val (.ref t), .unset] [] := by first | (simp [entryFrame, mkF, argsToLocals, Value.category]; done) | rfl
theorem pn_0 : plainName "com/example/interval/interval/document/XmlNames" = true := by first | (simp [plainName, overriddenIn]; done) | decide +kernel
theorem d1_0 : decode prog_38_method_9_code 0 = .ok (.iconst 0, 1) := by decide +kernel
theorem d1_1 : decode prog_38_method_9_code 1 = .ok (.istore_n 2, 1) := by decide +kernel
theorem d1_2 : decode prog_38_method_9_code 2 = .ok (.iload_n 2, 1) := by decide +kernel
theorem d1_3 : decode prog_38_method_9_code 3 = .ok (.aload_n 1, 1) := by decide +kernel
theorem d1_4 : decode prog_38_method_9_code 4 = .ok (.arraylength, 1) := by decide +kernel
theorem d1_5 : decode prog_38_method_9_code 5 = .ok (.if_icmp .ge 27, 3) := by decide +kernel
theorem d1_32 : decode prog_38_method_9_code 32 = .ok (.iconst 0, 1) := by decide +kernel
theorem d1_33 : decode prog_38_method_9_code 33 = .ok (.ireturn, 1) := by decide +kernel
theorem ef_1_2 (m : MethodId) (p0 : Int32) (t : Addr) : entryFrame m #[(.int p0), (.ref t)] 3 = mkF m 0 #[.val (.int p0), .val (.ref t), .unset] [] := by first | (simp [entryFrame, mkF, argsToLocals, Value.category]; done) | rfl
theorem d1_8 : decode prog_38_method_9_code 8 = .ok (.iload_n 0, 1) := by decide +kernel
theorem d1_9 : decode prog_38_method_9_code 9 = .ok (.aload_n 1, 1) := by decide +kernel
theorem d1_10 : decode prog_38_method_9_code 10 = .ok (.iload_n 2, 1) := by decide +kernel
theorem d1_11 : decode prog_38_method_9_code 11 = .ok (.iaload, 1) := by decide +kernel
theorem d1_12 : decode prog_38_method_9_code 12 = .ok (.if_icmp .lt 14, 3) := by decide +kernel
theorem d1_26 : decode prog_38_method_9_code 26 = .ok (.iinc 2 2, 3) := by decide +kernel
theorem d1_29 : decode prog_38_method_9_code 29 = .ok (.goto (-27), 3) := by decide +kernel
theorem d1_15 : decode prog_38_method_9_code 15 = .ok (.iload_n 0, 1) := by decide +kernel
theorem d1_16 : decode prog_38_method_9_code 16 = .ok (.aload_n 1, 1) := by decide +kernel
theorem d1_17 : decode prog_38_method_9_code 17 = .ok (.iload_n 2, 1) := by decide +kernel
theorem d1_18 : decode prog_38_method_9_code 18 = .ok (.iconst 1, 1) := by decide +kernel
theorem d1_19 : decode prog_38_method_9_code 19 = .ok (.iadd, 1) := by decide +kernel
theorem d1_20 : decode prog_38_method_9_code 20 = .ok (.iaload, 1) := by decide +kernel
theorem d1_21 : decode prog_38_method_9_code 21 = .ok (.if_icmp .gt 5, 3) := by decide +kernel
theorem d1_24 : decode prog_38_method_9_code 24 = .ok (.iconst 1, 1) := by decide +kernel
theorem d1_25 : decode prog_38_method_9_code 25 = .ok (.ireturn, 1) := by decide +kernel
theorem ef_1_4 (m : MethodId) (p0 : Int32) (t : Addr) : entryFrame m #[(.int p0), (.ref t)] 3 = mkF m 0 #[.val (.int p0), .val (.ref t), .unset] [] := by first | (simp [entryFrame, mkF, argsToLocals, Value.category]; done) | rfl
theorem ef_0 (m : MethodId) (p0 : Int32) (p1 : Int32) (p2 : Int32) (p3 : Int32) (p4 : Int32) (p5 : Int32) : entryFrame m #[(.int p0), (.int p1), (.int p2), (.int p3), (.int p4), (.int p5)] maxLocals = mkF m 0 #[.val (.int p0), .val (.int p1), .val (.int p2), .val (.int p3), .val (.int p4), .val (.int p5), .unset, .unset, .unset, .unset, .unset, .unset, .unset, .unset] [] := by first | (simp [entryFrame, mkF, argsToLocals, Value.category, maxLocals]; done) | rfl
theorem pn_1 : plainName "com/example/interval/interval/document/XmlNamesInRangesPinLaw" = true := by first | (simp [plainName, overriddenIn]; done) | decide +kernel
theorem pd_0 : parseMethodDescriptor "(I[I)Z" = some ⟨[.int, (.array .int)], some .boolean⟩ := by decide +kernel
def own_r (c lo hi : Int32) : Prop := lo.toInt ≤ c.toInt ∧ c.toInt ≤ hi.toInt
theorem own_b {P : Prop} {x : Int32} (h : (x = 1 ∧ P) ∨ (x = 0 ∧ ¬ P)) : x = 0 ∨ x = 1 := by rcases h with h | h; exact Or.inr h.1; exact Or.inl h.1
set_option maxRecDepth 65536 in
set_option maxHeartbeats 40000000 in
theorem rm1_0 (l : Launch) (Z : State) (a0 : Array Value) (hw : ∀ d ∈ tables_1, d.before a0 Z = true) (ws : List Jvm.Cond) (p0 : Int32) (t : Addr) (kc : ClassId) (h0 : Heap) (n0 : Nat) (Z0 : n0 ≤ h0.size) (V : Arv Z h0 t kc .int (0 : Int32) [] (.int (0 : Int32))) :
    W.Con l Z (⟨"com/example/interval/interval/document/XmlNames", "inRanges", "(I[I)Z"⟩ : MethodName) prog_38_method_9_code 3 (some .boolean) ws ({ frames := 0, cells := 0, slots := 0, locals := 0 } : Room) ({ frames := 0, cells := 0, slots := 0, locals := 0 } : Room).cells ({ frames := 0, cells := 0, slots := 0, locals := 0 } : Room).slots #[(.int p0), (.ref t)] h0 n0 (fun v h => (∃ w : Int32, v = some (.int w) ∧ ((w = 1 ∧ (False)) ∨ (w = 0 ∧ ¬ (False)))) ∧ h0 = h) := by
  refine W.enter (plainFor_of_name pn_0) Z0 ?_
  intro p e s m below meth c C hnm hsh
  have C : W.Cx p s m meth c Z n0 "com/example/interval/interval/document/XmlNames" prog_38_method_9_code 3 (some .boolean) := C
  refine W.Go.castF (ef_1_0 m p0 t) ?_
  refine W.iconst C (x := (0 : Int32)) d1_0 rfl rfl ?_
  refine W.istoreN C (Ls' := #[.val (.int p0), .val (.ref t), .val (.int (0 : Int32))]) d1_1 rfl rfl ?_
  refine W.iloadN C d1_2 rfl rfl ?_
  refine W.aloadN C d1_3 rfl rfl rfl ?_
  refine W.arraylength C V d1_4 rfl ?_
  refine W.icmp C (pc' := 32) (pn := 8) d1_5 (by decide) rfl rfl (W.q_ge (0 : Int32) (0 : Int32)) (fun hc5 => ?_) (fun hc5 => ?_)
  rotate_left
  · exact absurd hc5 (by decide)
  refine W.iconst C (x := (0 : Int32)) d1_32 rfl rfl ?_
  refine W.retZ C (w := (0 : Int32)) (by simp) d1_33 (by decide) (by decide) (by decide) (fun _ _ _ _ q => q) ?_
  exact ⟨⟨_, rfl, Or.inr ⟨rfl, fun q => q⟩⟩, rfl⟩
set_option maxRecDepth 65536 in
set_option maxHeartbeats 40000000 in
theorem rm1_2 (l : Launch) (Z : State) (a0 : Array Value) (hw : ∀ d ∈ tables_1, d.before a0 Z = true) (ws : List Jvm.Cond) (p0 : Int32) (t : Addr) (kc : ClassId) (lo1 hi1 : Int32) (h0 : Heap) (n0 : Nat) (Z0 : n0 ≤ h0.size) (V : Arv Z h0 t kc .int (2 : Int32) [(.int lo1), (.int hi1)] (.int (0 : Int32))) :
    W.Con l Z (⟨"com/example/interval/interval/document/XmlNames", "inRanges", "(I[I)Z"⟩ : MethodName) prog_38_method_9_code 3 (some .boolean) ws ({ frames := 0, cells := 0, slots := 0, locals := 0 } : Room) ({ frames := 0, cells := 0, slots := 0, locals := 0 } : Room).cells ({ frames := 0, cells := 0, slots := 0, locals := 0 } : Room).slots #[(.int p0), (.ref t)] h0 n0 (fun v h => (∃ w : Int32, v = some (.int w) ∧ ((w = 1 ∧ (own_r p0 lo1 hi1)) ∨ (w = 0 ∧ ¬ (own_r p0 lo1 hi1)))) ∧ h0 = h) := by
  refine W.enter (plainFor_of_name pn_0) Z0 ?_
  intro p e s m below meth c C hnm hsh
  have C : W.Cx p s m meth c Z n0 "com/example/interval/interval/document/XmlNames" prog_38_method_9_code 3 (some .boolean) := C
  refine W.Go.castF (ef_1_2 m p0 t) ?_
  refine W.iconst C (x := (0 : Int32)) d1_0 rfl rfl ?_
  refine W.istoreN C (Ls' := #[.val (.int p0), .val (.ref t), .val (.int (0 : Int32))]) d1_1 rfl rfl ?_
  refine W.iloadN C d1_2 rfl rfl ?_
  refine W.aloadN C d1_3 rfl rfl rfl ?_
  refine W.arraylength C V d1_4 rfl ?_
  refine W.icmp C (pc' := 32) (pn := 8) d1_5 (by decide) rfl rfl (W.q_ge (0 : Int32) (2 : Int32)) (fun hc5 => ?_) (fun hc5 => ?_)
  · exact absurd hc5 (by decide)
  refine W.iloadN C d1_8 rfl rfl ?_
  refine W.aloadN C d1_9 rfl rfl rfl ?_
  refine W.iloadN C d1_10 rfl rfl ?_
  refine W.iaload C (v := (.int lo1)) V (by decide) (by decide) rfl d1_11 rfl ?_
  refine W.icmp C (pc' := 26) (pn := 15) d1_12 (by decide) rfl rfl (W.q_lt p0 lo1) (fun hc12 => ?_) (fun hc12 => ?_)
  · refine W.iinc C (z := (2 : Int32)) (Ls' := #[.val (.int p0), .val (.ref t), .val (.int (2 : Int32))]) d1_26 rfl rfl (by decide) rfl ?_
    refine W.goto C (pc' := 2) d1_29 (by decide) rfl ?_
    have tk12_2 := hc12
    clear hc12
    refine W.iloadN C d1_2 rfl rfl ?_
    refine W.aloadN C d1_3 rfl rfl rfl ?_
    refine W.arraylength C V d1_4 rfl ?_
    refine W.icmp C (pc' := 32) (pn := 8) d1_5 (by decide) rfl rfl (W.q_ge (2 : Int32) (2 : Int32)) (fun hc5 => ?_) (fun hc5 => ?_)
    rotate_left
    · exact absurd hc5 (by decide)
    refine W.iconst C (x := (0 : Int32)) d1_32 rfl rfl ?_
    refine W.retZ C (w := (0 : Int32)) (by simp) d1_33 (by decide) (by decide) (by decide) (fun _ _ _ _ q => q) ?_
    refine ⟨⟨_, rfl, Or.inr ⟨rfl, ?_⟩⟩, rfl⟩
    unfold own_r
    omega
  · refine W.iloadN C d1_15 rfl rfl ?_
    refine W.aloadN C d1_16 rfl rfl rfl ?_
    refine W.iloadN C d1_17 rfl rfl ?_
    refine W.iconst C (x := (1 : Int32)) d1_18 rfl rfl ?_
    refine W.iadd C (z := (1 : Int32)) d1_19 rfl (by decide) ?_
    refine W.iaload C (v := (.int hi1)) V (by decide) (by decide) rfl d1_20 rfl ?_
    refine W.icmp C (pc' := 26) (pn := 24) d1_21 (by decide) rfl rfl (W.q_gt p0 hi1) (fun hc21 => ?_) (fun hc21 => ?_)
    · refine W.iinc C (z := (2 : Int32)) (Ls' := #[.val (.int p0), .val (.ref t), .val (.int (2 : Int32))]) d1_26 rfl rfl (by decide) rfl ?_
      refine W.goto C (pc' := 2) d1_29 (by decide) rfl ?_
      have tk12_3 := hc12
      clear hc12
      have tk21_3 := hc21
      clear hc21
      refine W.iloadN C d1_2 rfl rfl ?_
      refine W.aloadN C d1_3 rfl rfl rfl ?_
      refine W.arraylength C V d1_4 rfl ?_
      refine W.icmp C (pc' := 32) (pn := 8) d1_5 (by decide) rfl rfl (W.q_ge (2 : Int32) (2 : Int32)) (fun hc5 => ?_) (fun hc5 => ?_)
      rotate_left
      · exact absurd hc5 (by decide)
      refine W.iconst C (x := (0 : Int32)) d1_32 rfl rfl ?_
      refine W.retZ C (w := (0 : Int32)) (by simp) d1_33 (by decide) (by decide) (by decide) (fun _ _ _ _ q => q) ?_
      refine ⟨⟨_, rfl, Or.inr ⟨rfl, ?_⟩⟩, rfl⟩
      unfold own_r
      omega
    · refine W.iconst C (x := (1 : Int32)) d1_24 rfl rfl ?_
      refine W.retZ C (w := (1 : Int32)) (by simp) d1_25 (by decide) (by decide) (by decide) (fun _ _ _ _ q => q) ?_
      refine ⟨⟨_, rfl, Or.inl ⟨rfl, ?_⟩⟩, rfl⟩
      unfold own_r
      omega
set_option maxRecDepth 65536 in
set_option maxHeartbeats 40000000 in
theorem rm1_4 (l : Launch) (Z : State) (a0 : Array Value) (hw : ∀ d ∈ tables_1, d.before a0 Z = true) (ws : List Jvm.Cond) (p0 : Int32) (t : Addr) (kc : ClassId) (lo1 hi1 lo2 hi2 : Int32) (h0 : Heap) (n0 : Nat) (Z0 : n0 ≤ h0.size) (V : Arv Z h0 t kc .int (4 : Int32) [(.int lo1), (.int hi1), (.int lo2), (.int hi2)] (.int (0 : Int32))) :
    W.Con l Z (⟨"com/example/interval/interval/document/XmlNames", "inRanges", "(I[I)Z"⟩ : MethodName) prog_38_method_9_code 3 (some .boolean) ws ({ frames := 0, cells := 0, slots := 0, locals := 0 } : Room) ({ frames := 0, cells := 0, slots := 0, locals := 0 } : Room).cells ({ frames := 0, cells := 0, slots := 0, locals := 0 } : Room).slots #[(.int p0), (.ref t)] h0 n0 (fun v h => (∃ w : Int32, v = some (.int w) ∧ ((w = 1 ∧ (own_r p0 lo1 hi1 ∨ own_r p0 lo2 hi2)) ∨ (w = 0 ∧ ¬ (own_r p0 lo1 hi1 ∨ own_r p0 lo2 hi2)))) ∧ h0 = h) := by
  refine W.enter (plainFor_of_name pn_0) Z0 ?_
  intro p e s m below meth c C hnm hsh
  have C : W.Cx p s m meth c Z n0 "com/example/interval/interval/document/XmlNames" prog_38_method_9_code 3 (some .boolean) := C
  refine W.Go.castF (ef_1_4 m p0 t) ?_
  refine W.iconst C (x := (0 : Int32)) d1_0 rfl rfl ?_
  refine W.istoreN C (Ls' := #[.val (.int p0), .val (.ref t), .val (.int (0 : Int32))]) d1_1 rfl rfl ?_
  refine W.iloadN C d1_2 rfl rfl ?_
  refine W.aloadN C d1_3 rfl rfl rfl ?_
  refine W.arraylength C V d1_4 rfl ?_
  refine W.icmp C (pc' := 32) (pn := 8) d1_5 (by decide) rfl rfl (W.q_ge (0 : Int32) (4 : Int32)) (fun hc5 => ?_) (fun hc5 => ?_)
  · exact absurd hc5 (by decide)
  refine W.iloadN C d1_8 rfl rfl ?_
  refine W.aloadN C d1_9 rfl rfl rfl ?_
  refine W.iloadN C d1_10 rfl rfl ?_
  refine W.iaload C (v := (.int lo1)) V (by decide) (by decide) rfl d1_11 rfl ?_
  refine W.icmp C (pc' := 26) (pn := 15) d1_12 (by decide) rfl rfl (W.q_lt p0 lo1) (fun hc12 => ?_) (fun hc12 => ?_)
  · refine W.iinc C (z := (2 : Int32)) (Ls' := #[.val (.int p0), .val (.ref t), .val (.int (2 : Int32))]) d1_26 rfl rfl (by decide) rfl ?_
    refine W.goto C (pc' := 2) d1_29 (by decide) rfl ?_
    have tk12_2 := hc12
    clear hc12
    refine W.iloadN C d1_2 rfl rfl ?_
    refine W.aloadN C d1_3 rfl rfl rfl ?_
    refine W.arraylength C V d1_4 rfl ?_
    refine W.icmp C (pc' := 32) (pn := 8) d1_5 (by decide) rfl rfl (W.q_ge (2 : Int32) (4 : Int32)) (fun hc5 => ?_) (fun hc5 => ?_)
    · exact absurd hc5 (by decide)
    refine W.iloadN C d1_8 rfl rfl ?_
    refine W.aloadN C d1_9 rfl rfl rfl ?_
    refine W.iloadN C d1_10 rfl rfl ?_
    refine W.iaload C (v := (.int lo2)) V (by decide) (by decide) rfl d1_11 rfl ?_
    refine W.icmp C (pc' := 26) (pn := 15) d1_12 (by decide) rfl rfl (W.q_lt p0 lo2) (fun hc12 => ?_) (fun hc12 => ?_)
    · refine W.iinc C (z := (4 : Int32)) (Ls' := #[.val (.int p0), .val (.ref t), .val (.int (4 : Int32))]) d1_26 rfl rfl (by decide) rfl ?_
      refine W.goto C (pc' := 2) d1_29 (by decide) rfl ?_
      have tk12_2 := hc12
      clear hc12
      refine W.iloadN C d1_2 rfl rfl ?_
      refine W.aloadN C d1_3 rfl rfl rfl ?_
      refine W.arraylength C V d1_4 rfl ?_
      refine W.icmp C (pc' := 32) (pn := 8) d1_5 (by decide) rfl rfl (W.q_ge (4 : Int32) (4 : Int32)) (fun hc5 => ?_) (fun hc5 => ?_)
      rotate_left
      · exact absurd hc5 (by decide)
      refine W.iconst C (x := (0 : Int32)) d1_32 rfl rfl ?_
      refine W.retZ C (w := (0 : Int32)) (by simp) d1_33 (by decide) (by decide) (by decide) (fun _ _ _ _ q => q) ?_
      refine ⟨⟨_, rfl, Or.inr ⟨rfl, ?_⟩⟩, rfl⟩
      unfold own_r
      omega
    · refine W.iloadN C d1_15 rfl rfl ?_
      refine W.aloadN C d1_16 rfl rfl rfl ?_
      refine W.iloadN C d1_17 rfl rfl ?_
      refine W.iconst C (x := (1 : Int32)) d1_18 rfl rfl ?_
      refine W.iadd C (z := (3 : Int32)) d1_19 rfl (by decide) ?_
      refine W.iaload C (v := (.int hi2)) V (by decide) (by decide) rfl d1_20 rfl ?_
      refine W.icmp C (pc' := 26) (pn := 24) d1_21 (by decide) rfl rfl (W.q_gt p0 hi2) (fun hc21 => ?_) (fun hc21 => ?_)
      · refine W.iinc C (z := (4 : Int32)) (Ls' := #[.val (.int p0), .val (.ref t), .val (.int (4 : Int32))]) d1_26 rfl rfl (by decide) rfl ?_
        refine W.goto C (pc' := 2) d1_29 (by decide) rfl ?_
        have tk12_3 := hc12
        clear hc12
        have tk21_3 := hc21
        clear hc21
        refine W.iloadN C d1_2 rfl rfl ?_
        refine W.aloadN C d1_3 rfl rfl rfl ?_
        refine W.arraylength C V d1_4 rfl ?_
        refine W.icmp C (pc' := 32) (pn := 8) d1_5 (by decide) rfl rfl (W.q_ge (4 : Int32) (4 : Int32)) (fun hc5 => ?_) (fun hc5 => ?_)
        rotate_left
        · exact absurd hc5 (by decide)
        refine W.iconst C (x := (0 : Int32)) d1_32 rfl rfl ?_
        refine W.retZ C (w := (0 : Int32)) (by simp) d1_33 (by decide) (by decide) (by decide) (fun _ _ _ _ q => q) ?_
        refine ⟨⟨_, rfl, Or.inr ⟨rfl, ?_⟩⟩, rfl⟩
        unfold own_r
        omega
      · refine W.iconst C (x := (1 : Int32)) d1_24 rfl rfl ?_
        refine W.retZ C (w := (1 : Int32)) (by simp) d1_25 (by decide) (by decide) (by decide) (fun _ _ _ _ q => q) ?_
        refine ⟨⟨_, rfl, Or.inl ⟨rfl, ?_⟩⟩, rfl⟩
        unfold own_r
        omega
  · refine W.iloadN C d1_15 rfl rfl ?_
    refine W.aloadN C d1_16 rfl rfl rfl ?_
    refine W.iloadN C d1_17 rfl rfl ?_
    refine W.iconst C (x := (1 : Int32)) d1_18 rfl rfl ?_
    refine W.iadd C (z := (1 : Int32)) d1_19 rfl (by decide) ?_
    refine W.iaload C (v := (.int hi1)) V (by decide) (by decide) rfl d1_20 rfl ?_
    refine W.icmp C (pc' := 26) (pn := 24) d1_21 (by decide) rfl rfl (W.q_gt p0 hi1) (fun hc21 => ?_) (fun hc21 => ?_)
    · refine W.iinc C (z := (2 : Int32)) (Ls' := #[.val (.int p0), .val (.ref t), .val (.int (2 : Int32))]) d1_26 rfl rfl (by decide) rfl ?_
      refine W.goto C (pc' := 2) d1_29 (by decide) rfl ?_
      have tk12_3 := hc12
      clear hc12
      have tk21_3 := hc21
      clear hc21
      refine W.iloadN C d1_2 rfl rfl ?_
      refine W.aloadN C d1_3 rfl rfl rfl ?_
      refine W.arraylength C V d1_4 rfl ?_
      refine W.icmp C (pc' := 32) (pn := 8) d1_5 (by decide) rfl rfl (W.q_ge (2 : Int32) (4 : Int32)) (fun hc5 => ?_) (fun hc5 => ?_)
      · exact absurd hc5 (by decide)
      refine W.iloadN C d1_8 rfl rfl ?_
      refine W.aloadN C d1_9 rfl rfl rfl ?_
      refine W.iloadN C d1_10 rfl rfl ?_
      refine W.iaload C (v := (.int lo2)) V (by decide) (by decide) rfl d1_11 rfl ?_
      refine W.icmp C (pc' := 26) (pn := 15) d1_12 (by decide) rfl rfl (W.q_lt p0 lo2) (fun hc12 => ?_) (fun hc12 => ?_)
      · refine W.iinc C (z := (4 : Int32)) (Ls' := #[.val (.int p0), .val (.ref t), .val (.int (4 : Int32))]) d1_26 rfl rfl (by decide) rfl ?_
        refine W.goto C (pc' := 2) d1_29 (by decide) rfl ?_
        have tk12_2 := hc12
        clear hc12
        refine W.iloadN C d1_2 rfl rfl ?_
        refine W.aloadN C d1_3 rfl rfl rfl ?_
        refine W.arraylength C V d1_4 rfl ?_
        refine W.icmp C (pc' := 32) (pn := 8) d1_5 (by decide) rfl rfl (W.q_ge (4 : Int32) (4 : Int32)) (fun hc5 => ?_) (fun hc5 => ?_)
        rotate_left
        · exact absurd hc5 (by decide)
        refine W.iconst C (x := (0 : Int32)) d1_32 rfl rfl ?_
        refine W.retZ C (w := (0 : Int32)) (by simp) d1_33 (by decide) (by decide) (by decide) (fun _ _ _ _ q => q) ?_
        refine ⟨⟨_, rfl, Or.inr ⟨rfl, ?_⟩⟩, rfl⟩
        unfold own_r
        omega
      · refine W.iloadN C d1_15 rfl rfl ?_
        refine W.aloadN C d1_16 rfl rfl rfl ?_
        refine W.iloadN C d1_17 rfl rfl ?_
        refine W.iconst C (x := (1 : Int32)) d1_18 rfl rfl ?_
        refine W.iadd C (z := (3 : Int32)) d1_19 rfl (by decide) ?_
        refine W.iaload C (v := (.int hi2)) V (by decide) (by decide) rfl d1_20 rfl ?_
        refine W.icmp C (pc' := 26) (pn := 24) d1_21 (by decide) rfl rfl (W.q_gt p0 hi2) (fun hc21 => ?_) (fun hc21 => ?_)
        · refine W.iinc C (z := (4 : Int32)) (Ls' := #[.val (.int p0), .val (.ref t), .val (.int (4 : Int32))]) d1_26 rfl rfl (by decide) rfl ?_
          refine W.goto C (pc' := 2) d1_29 (by decide) rfl ?_
          have tk12_3 := hc12
          clear hc12
          have tk21_3 := hc21
          clear hc21
          refine W.iloadN C d1_2 rfl rfl ?_
          refine W.aloadN C d1_3 rfl rfl rfl ?_
          refine W.arraylength C V d1_4 rfl ?_
          refine W.icmp C (pc' := 32) (pn := 8) d1_5 (by decide) rfl rfl (W.q_ge (4 : Int32) (4 : Int32)) (fun hc5 => ?_) (fun hc5 => ?_)
          rotate_left
          · exact absurd hc5 (by decide)
          refine W.iconst C (x := (0 : Int32)) d1_32 rfl rfl ?_
          refine W.retZ C (w := (0 : Int32)) (by simp) d1_33 (by decide) (by decide) (by decide) (fun _ _ _ _ q => q) ?_
          refine ⟨⟨_, rfl, Or.inr ⟨rfl, ?_⟩⟩, rfl⟩
          unfold own_r
          omega
        · refine W.iconst C (x := (1 : Int32)) d1_24 rfl rfl ?_
          refine W.retZ C (w := (1 : Int32)) (by simp) d1_25 (by decide) (by decide) (by decide) (fun _ _ _ _ q => q) ?_
          refine ⟨⟨_, rfl, Or.inl ⟨rfl, ?_⟩⟩, rfl⟩
          unfold own_r
          omega
    · refine W.iconst C (x := (1 : Int32)) d1_24 rfl rfl ?_
      refine W.retZ C (w := (1 : Int32)) (by simp) d1_25 (by decide) (by decide) (by decide) (fun _ _ _ _ q => q) ?_
      refine ⟨⟨_, rfl, Or.inl ⟨rfl, ?_⟩⟩, rfl⟩
      unfold own_r
      omega
set_option maxRecDepth 65536 in
set_option maxHeartbeats 40000000 in
theorem rm0 (l : Launch) (Z : State) (a0 : Array Value) (hw : ∀ d ∈ tables_1, d.before a0 Z = true) (ws : List Jvm.Cond) (p0 : Int32) (p1 : Int32) (p2 : Int32) (p3 : Int32) (p4 : Int32) (p5 : Int32) (h0 : Heap) (n0 : Nat) (Z0 : n0 ≤ h0.size) :
    W.Con l Z x code maxLocals ret ws room_1 16 128 #[(.int p0), (.int p1), (.int p2), (.int p3), (.int p4), (.int p5)] h0 n0 (fun v _ => v = some (.int 1)) := by
  refine W.enter (plainFor_of_name pn_1) Z0 ?_
  intro p e s m below meth c C hnm hsh
  have C : W.Cx p s m meth c Z n0 "com/example/interval/interval/document/XmlNamesInRangesPinLaw" code 14 (some .boolean) := C
  refine W.Go.castF (ef_0 m p0 p1 p2 p3 p4 p5) ?_
  refine W.iload C at_0 rfl rfl ?_
  refine W.ldcI C (hw _ (List.mem_of_getElem? (i := 0) rfl)) at_2 rfl ?_
  refine W.iand C (z := (p5 &&& (2147483647 : Int32))) at_4 rfl rfl ?_
  refine W.iconst C (x := (3 : Int32)) at_5 rfl rfl ?_
  refine W.irem C (z := ((p5 &&& (2147483647 : Int32)) % (3 : Int32))) at_6 rfl (by decide) rfl ?_
  obtain ⟨cn, hcn⟩ : ∃ z, z = ((p5 &&& (2147483647 : Int32)) % (3 : Int32)) := ⟨_, rfl⟩
  rw [← hcn]
  have rcn : 0 ≤ cn.toInt ∧ cn.toInt < 3 := by
    have a := c_mask p5 2147483647 31 (by decide) (by decide)
    have b := (c_irem (p5 &&& (2147483647 : Int32)) 3 3 rfl).1
    have d : ((2 ^ 31 : Nat) : Int) = 2147483648 := rfl
    rw [d] at a; rw [hcn]; omega
  refine W.istore C (Ls' := #[.val (.int p0), .val (.int p1), .val (.int p2), .val (.int p3), .val (.int p4), .val (.int p5), .val (.int cn), .unset, .unset, .unset, .unset, .unset, .unset, .unset]) at_7 rfl rfl ?_
  refine W.iconst C (x := (0 : Int32)) at_9 rfl rfl ?_
  refine W.newarray C (cap := 0) (hw _ (List.mem_of_getElem? (i := 1) rfl)) at_10 rfl (by decide) (by decide) (by decide) (by decide) (by decide) (k' := 1) (n' := 0) rfl rfl ?_
  intro h1 b1 kc_b1 gb1 g0_b1 E1 Vb1
  have Vb1 : Arv Z h1 b1 kc_b1 .int (0 : Int32) [] (.int (0 : Int32)) := Vb1.pad (pad_rep [] (.int (0 : Int32)) 0)
  refine W.astore C (Ls' := #[.val (.int p0), .val (.int p1), .val (.int p2), .val (.int p3), .val (.int p4), .val (.int p5), .val (.int cn), .val (.ref b1), .unset, .unset, .unset, .unset, .unset, .unset]) at_12 rfl rfl rfl ?_
  refine W.iconst C (x := (2 : Int32)) at_14 rfl rfl ?_
  refine W.newarray C (cap := 2) (hw _ (List.mem_of_getElem? (i := 1) rfl)) at_15 rfl (by decide) (by decide) (by decide) (by decide) (by decide) (k' := 2) (n' := 2) rfl rfl ?_
  intro h2 b2 kc_b2 gb2 g0_b2 E2 Vb2
  have ne_b1_b2 : b1 ≠ b2 := Nat.ne_of_lt (by rw [gb2]; exact Vb1.lt)
  have Vb2 : Arv Z h2 b2 kc_b2 .int (2 : Int32) [(.int (0 : Int32)), (.int (0 : Int32))] (.int (0 : Int32)) := Vb2.pad (pad_rep [] (.int (0 : Int32)) 2)
  refine W.astore C (Ls' := #[.val (.int p0), .val (.int p1), .val (.int p2), .val (.int p3), .val (.int p4), .val (.int p5), .val (.int cn), .val (.ref b1), .val (.ref b2), .unset, .unset, .unset, .unset, .unset]) at_17 rfl rfl rfl ?_
  refine W.aload C at_19 rfl rfl rfl ?_
  refine W.iconst C (x := (0 : Int32)) at_21 rfl rfl ?_
  refine W.iloadN C at_22 rfl rfl ?_
  refine W.iastore C Vb2 (by decide) (by decide) (show 0 < 2 from by decide) g0_b2 at_23 rfl ?_
  intro h3 W3 V3
  have V3 : Arv Z h3 b2 kc_b2 .int (2 : Int32) [(.int p1), (.int (0 : Int32))] (.int (0 : Int32)) := V3
  refine W.aload C at_24 rfl rfl rfl ?_
  refine W.iconst C (x := (1 : Int32)) at_26 rfl rfl ?_
  refine W.iloadN C at_27 rfl rfl ?_
  refine W.iastore C V3 (by decide) (by decide) (show 1 < 2 from by decide) g0_b2 at_28 rfl ?_
  intro h4 W4 V4
  have V4 : Arv Z h4 b2 kc_b2 .int (2 : Int32) [(.int p1), (.int p2)] (.int (0 : Int32)) := V4
  refine W.iconst C (x := (4 : Int32)) at_29 rfl rfl ?_
  refine W.newarray C (cap := 4) (hw _ (List.mem_of_getElem? (i := 1) rfl)) at_30 rfl (by decide) (by decide) (by decide) (by decide) (by decide) (k' := 3) (n' := 6) rfl rfl ?_
  intro h5 b5 kc_b5 gb5 g0_b5 E5 Vb5
  have ne_b1_b5 : b1 ≠ b5 := Nat.ne_of_lt (by rw [gb5]; exact (((Vb1.ext E2).other W3 ne_b1_b2).other W4 ne_b1_b2).lt)
  have ne_b2_b5 : b2 ≠ b5 := Nat.ne_of_lt (by rw [gb5]; exact V4.lt)
  have Vb5 : Arv Z h5 b5 kc_b5 .int (4 : Int32) [(.int (0 : Int32)), (.int (0 : Int32)), (.int (0 : Int32)), (.int (0 : Int32))] (.int (0 : Int32)) := Vb5.pad (pad_rep [] (.int (0 : Int32)) 4)
  refine W.astore C (Ls' := #[.val (.int p0), .val (.int p1), .val (.int p2), .val (.int p3), .val (.int p4), .val (.int p5), .val (.int cn), .val (.ref b1), .val (.ref b2), .val (.ref b5), .unset, .unset, .unset, .unset]) at_32 rfl rfl rfl ?_
  refine W.aload C at_34 rfl rfl rfl ?_
  refine W.iconst C (x := (0 : Int32)) at_36 rfl rfl ?_
  refine W.iloadN C at_37 rfl rfl ?_
  refine W.iastore C Vb5 (by decide) (by decide) (show 0 < 4 from by decide) g0_b5 at_38 rfl ?_
  intro h6 W6 V6
  have V6 : Arv Z h6 b5 kc_b5 .int (4 : Int32) [(.int p1), (.int (0 : Int32)), (.int (0 : Int32)), (.int (0 : Int32))] (.int (0 : Int32)) := V6
  refine W.aload C at_39 rfl rfl rfl ?_
  refine W.iconst C (x := (1 : Int32)) at_41 rfl rfl ?_
  refine W.iloadN C at_42 rfl rfl ?_
  refine W.iastore C V6 (by decide) (by decide) (show 1 < 4 from by decide) g0_b5 at_43 rfl ?_
  intro h7 W7 V7
  have V7 : Arv Z h7 b5 kc_b5 .int (4 : Int32) [(.int p1), (.int p2), (.int (0 : Int32)), (.int (0 : Int32))] (.int (0 : Int32)) := V7
  refine W.aload C at_44 rfl rfl rfl ?_
  refine W.iconst C (x := (2 : Int32)) at_46 rfl rfl ?_
  refine W.iloadN C at_47 rfl rfl ?_
  refine W.iastore C V7 (by decide) (by decide) (show 2 < 4 from by decide) g0_b5 at_48 rfl ?_
  intro h8 W8 V8
  have V8 : Arv Z h8 b5 kc_b5 .int (4 : Int32) [(.int p1), (.int p2), (.int p3), (.int (0 : Int32))] (.int (0 : Int32)) := V8
  refine W.aload C at_49 rfl rfl rfl ?_
  refine W.iconst C (x := (3 : Int32)) at_51 rfl rfl ?_
  refine W.iload C at_52 rfl rfl ?_
  refine W.iastore C V8 (by decide) (by decide) (show 3 < 4 from by decide) g0_b5 at_54 rfl ?_
  intro h9 W9 V9
  have V9 : Arv Z h9 b5 kc_b5 .int (4 : Int32) [(.int p1), (.int p2), (.int p3), (.int p4)] (.int (0 : Int32)) := V9
  have J146 : ∀ (cnt i1 i2 ex : Int32) (t : Addr) (ht : (cnt.toInt = 0 ∧ b1 = t) ∨ (cnt.toInt = 1 ∧ b2 = t) ∨ (cnt.toInt = 2 ∧ b5 = t)) (h1 : ((i1 = 1 ∧ (own_r p0 p1 p2)) ∨ (i1 = 0 ∧ ¬ (own_r p0 p1 p2)))) (h2 : ((i2 = 1 ∧ (own_r p0 p3 p4)) ∨ (i2 = 0 ∧ ¬ (own_r p0 p3 p4)))) (hx : ((ex = 1 ∧ ((1 ≤ cnt.toInt ∧ own_r p0 p1 p2) ∨ (2 ≤ cnt.toInt ∧ own_r p0 p3 p4))) ∨ (ex = 0 ∧ ¬ ((1 ≤ cnt.toInt ∧ own_r p0 p1 p2) ∨ (2 ≤ cnt.toInt ∧ own_r p0 p3 p4))))), W.Go p l e room_1 s m #[(.int p0), (.int p1), (.int p2), (.int p3), (.int p4), (.int p5)] below meth c (fun s₂ o L => FrameEnd s o s₂ L 16 128) n0 (fun v _ => v = some (.int 1)) h9 (3) (6) (mkF m 146 #[.val (.int p0), .val (.int p1), .val (.int p2), .val (.int p3), .val (.int p4), .val (.int p5), .val (.int cnt), .val (.ref b1), .val (.ref b2), .val (.ref b5), .val (.ref t), .val (.int i1), .val (.int i2), .val (.int ex)] []) := by
    intro cnt i1 i2 ex t ht h1 h2 hx
    rcases ht with ⟨hct, rfl⟩ | ⟨hct, rfl⟩ | ⟨hct, rfl⟩
    · have hk := 0
      refine W.iloadN C at_146 rfl rfl ?_
      refine W.aload C at_147 rfl rfl rfl ?_
      refine W.callS C (y := (⟨"com/example/interval/interval/document/XmlNames", "inRanges", "(I[I)Z"⟩ : MethodName)) (hw _ (List.mem_of_getElem? (i := 2) rfl)) (hw _ (List.mem_of_getElem? (i := 3) rfl)) (hw _ (List.mem_of_getElem? (i := 4) rfl)) (hw _ (List.mem_of_getElem? (i := 5) rfl)) (by decide) (fun hz => rm1_0 l Z a0 hw [] p0 b1 kc_b1  h9 n0 hz ((((((((Vb1.ext E2).other W3 ne_b1_b2).other W4 ne_b1_b2).ext E5).other W6 ne_b1_b5).other W7 ne_b1_b5).other W8 ne_b1_b5).other W9 ne_b1_b5)) at_149 rfl rfl pd_0 rfl (argsL := [(.int p0), (.ref b1)]) (rest := []) rfl (W := 0) rfl (by decide) (by decide) (by decide) (by decide) (k' := 3) (n' := 6) rfl rfl ?_
      rintro h10 _ ⟨⟨w10, rfl, q10⟩, rfl⟩
      show W.Go p l e _ _ m _ below meth c _ _ _ _ _ _ (mkF m 152 #[.val (.int p0), .val (.int p1), .val (.int p2), .val (.int p3), .val (.int p4), .val (.int p5), .val (.int cnt), .val (.ref b1), .val (.ref b2), .val (.ref b5), .val (.ref b1), .val (.int i1), .val (.int i2), .val (.int ex)] [(.int w10)])
      refine W.iload C at_152 rfl rfl ?_
      refine W.icmp C (pc' := 161) (pn := 157) at_154 (by decide) rfl rfl (W.q_ne w10 ex) (fun hc154 => ?_) (fun hc154 => ?_)
      · refine W.iconst C (x := (0 : Int32)) at_161 rfl rfl ?_
        refine W.retZ C (w := (0 : Int32)) (by simp) at_162 (by decide) (by decide) (by decide) (fun _ _ _ _ q => q) ?_
        exfalso
        apply hc154
        rcases q10 with ⟨rfl, g1⟩ | ⟨rfl, g1⟩ <;> rcases hx with ⟨rfl, g2⟩ | ⟨rfl, g2⟩ <;> first | rfl | (exfalso; first | contradiction | ((try simp only [own_r] at g1); (try simp only [own_r] at g2); omega))
      · refine W.iconst C (x := (1 : Int32)) at_157 rfl rfl ?_
        refine W.goto C (pc' := 162) at_158 (by decide) rfl ?_
        refine W.retZ C (w := (1 : Int32)) (by simp) at_162 (by decide) (by decide) (by decide) (fun _ _ _ _ q => q) ?_
        rfl
    · have hk := 1
      refine W.iloadN C at_146 rfl rfl ?_
      refine W.aload C at_147 rfl rfl rfl ?_
      refine W.callS C (y := (⟨"com/example/interval/interval/document/XmlNames", "inRanges", "(I[I)Z"⟩ : MethodName)) (hw _ (List.mem_of_getElem? (i := 2) rfl)) (hw _ (List.mem_of_getElem? (i := 3) rfl)) (hw _ (List.mem_of_getElem? (i := 4) rfl)) (hw _ (List.mem_of_getElem? (i := 5) rfl)) (by decide) (fun hz => rm1_2 l Z a0 hw [] p0 b2 kc_b2 p1 p2 h9 n0 hz (((((V4.ext E5).other W6 ne_b2_b5).other W7 ne_b2_b5).other W8 ne_b2_b5).other W9 ne_b2_b5)) at_149 rfl rfl pd_0 rfl (argsL := [(.int p0), (.ref b2)]) (rest := []) rfl (W := 0) rfl (by decide) (by decide) (by decide) (by decide) (k' := 3) (n' := 6) rfl rfl ?_
      rintro h11 _ ⟨⟨w11, rfl, q11⟩, rfl⟩
      show W.Go p l e _ _ m _ below meth c _ _ _ _ _ _ (mkF m 152 #[.val (.int p0), .val (.int p1), .val (.int p2), .val (.int p3), .val (.int p4), .val (.int p5), .val (.int cnt), .val (.ref b1), .val (.ref b2), .val (.ref b5), .val (.ref b2), .val (.int i1), .val (.int i2), .val (.int ex)] [(.int w11)])
      refine W.iload C at_152 rfl rfl ?_
      refine W.icmp C (pc' := 161) (pn := 157) at_154 (by decide) rfl rfl (W.q_ne w11 ex) (fun hc154 => ?_) (fun hc154 => ?_)
      · refine W.iconst C (x := (0 : Int32)) at_161 rfl rfl ?_
        refine W.retZ C (w := (0 : Int32)) (by simp) at_162 (by decide) (by decide) (by decide) (fun _ _ _ _ q => q) ?_
        exfalso
        apply hc154
        rcases q11 with ⟨rfl, g1⟩ | ⟨rfl, g1⟩ <;> rcases hx with ⟨rfl, g2⟩ | ⟨rfl, g2⟩ <;> first | rfl | (exfalso; first | contradiction | ((try simp only [own_r] at g1); (try simp only [own_r] at g2); omega))
      · refine W.iconst C (x := (1 : Int32)) at_157 rfl rfl ?_
        refine W.goto C (pc' := 162) at_158 (by decide) rfl ?_
        refine W.retZ C (w := (1 : Int32)) (by simp) at_162 (by decide) (by decide) (by decide) (fun _ _ _ _ q => q) ?_
        rfl
    · have hk := 2
      refine W.iloadN C at_146 rfl rfl ?_
      refine W.aload C at_147 rfl rfl rfl ?_
      refine W.callS C (y := (⟨"com/example/interval/interval/document/XmlNames", "inRanges", "(I[I)Z"⟩ : MethodName)) (hw _ (List.mem_of_getElem? (i := 2) rfl)) (hw _ (List.mem_of_getElem? (i := 3) rfl)) (hw _ (List.mem_of_getElem? (i := 4) rfl)) (hw _ (List.mem_of_getElem? (i := 5) rfl)) (by decide) (fun hz => rm1_4 l Z a0 hw [] p0 b5 kc_b5 p1 p2 p3 p4 h9 n0 hz V9) at_149 rfl rfl pd_0 rfl (argsL := [(.int p0), (.ref b5)]) (rest := []) rfl (W := 0) rfl (by decide) (by decide) (by decide) (by decide) (k' := 3) (n' := 6) rfl rfl ?_
      rintro h12 _ ⟨⟨w12, rfl, q12⟩, rfl⟩
      show W.Go p l e _ _ m _ below meth c _ _ _ _ _ _ (mkF m 152 #[.val (.int p0), .val (.int p1), .val (.int p2), .val (.int p3), .val (.int p4), .val (.int p5), .val (.int cnt), .val (.ref b1), .val (.ref b2), .val (.ref b5), .val (.ref b5), .val (.int i1), .val (.int i2), .val (.int ex)] [(.int w12)])
      refine W.iload C at_152 rfl rfl ?_
      refine W.icmp C (pc' := 161) (pn := 157) at_154 (by decide) rfl rfl (W.q_ne w12 ex) (fun hc154 => ?_) (fun hc154 => ?_)
      · refine W.iconst C (x := (0 : Int32)) at_161 rfl rfl ?_
        refine W.retZ C (w := (0 : Int32)) (by simp) at_162 (by decide) (by decide) (by decide) (fun _ _ _ _ q => q) ?_
        exfalso
        apply hc154
        rcases q12 with ⟨rfl, g1⟩ | ⟨rfl, g1⟩ <;> rcases hx with ⟨rfl, g2⟩ | ⟨rfl, g2⟩ <;> first | rfl | (exfalso; first | contradiction | ((try simp only [own_r] at g1); (try simp only [own_r] at g2); omega))
      · refine W.iconst C (x := (1 : Int32)) at_157 rfl rfl ?_
        refine W.goto C (pc' := 162) at_158 (by decide) rfl ?_
        refine W.retZ C (w := (1 : Int32)) (by simp) at_162 (by decide) (by decide) (by decide) (fun _ _ _ _ q => q) ?_
        rfl
  have J117 : ∀ (cnt i1 i2 : Int32) (t : Addr) (ht : (cnt.toInt = 0 ∧ b1 = t) ∨ (cnt.toInt = 1 ∧ b2 = t) ∨ (cnt.toInt = 2 ∧ b5 = t)) (h1 : ((i1 = 1 ∧ (own_r p0 p1 p2)) ∨ (i1 = 0 ∧ ¬ (own_r p0 p1 p2)))) (h2 : ((i2 = 1 ∧ (own_r p0 p3 p4)) ∨ (i2 = 0 ∧ ¬ (own_r p0 p3 p4)))), W.Go p l e room_1 s m #[(.int p0), (.int p1), (.int p2), (.int p3), (.int p4), (.int p5)] below meth c (fun s₂ o L => FrameEnd s o s₂ L 16 128) n0 (fun v _ => v = some (.int 1)) h9 (3) (6) (mkF m 117 #[.val (.int p0), .val (.int p1), .val (.int p2), .val (.int p3), .val (.int p4), .val (.int p5), .val (.int cnt), .val (.ref b1), .val (.ref b2), .val (.ref b5), .val (.ref t), .val (.int i1), .val (.int i2), .unset] []) := by
    intro cnt i1 i2 t ht h1 h2
    refine W.iload C at_117 rfl rfl ?_
    refine W.iconst C (x := (1 : Int32)) at_119 rfl rfl ?_
    refine W.icmp C (pc' := 128) (pn := 123) at_120 (by decide) rfl rfl (W.q_lt cnt (1 : Int32)) (fun hc120 => ?_) (fun hc120 => ?_)
    · refine W.iload C at_128 rfl rfl ?_
      refine W.iconst C (x := (2 : Int32)) at_130 rfl rfl ?_
      refine W.icmp C (pc' := 143) (pn := 134) at_131 (by decide) rfl rfl (W.q_lt cnt (2 : Int32)) (fun hc131 => ?_) (fun hc131 => ?_)
      · refine W.iconst C (x := (0 : Int32)) at_143 rfl rfl ?_
        refine W.istore C (Ls' := #[.val (.int p0), .val (.int p1), .val (.int p2), .val (.int p3), .val (.int p4), .val (.int p5), .val (.int cnt), .val (.ref b1), .val (.ref b2), .val (.ref b5), .val (.ref t), .val (.int i1), .val (.int i2), .val (.int (0 : Int32))]) at_144 rfl rfl ?_
        have e1 := own_b h1
        have e2 := own_b h2
        simp only [Int32.reduceToInt] at hc120
        simp only [Int32.reduceToInt] at hc131
        refine J146 cnt i1 i2 (0 : Int32) t ht h1 h2 ?_
        rcases h1 with ⟨rfl, g1⟩ | ⟨rfl, g1⟩ <;> rcases h2 with ⟨rfl, g2⟩ | ⟨rfl, g2⟩ <;> simp [g1, g2] at * <;> omega
      · refine W.iload C at_134 rfl rfl ?_
        refine W.ifc C (pc' := 143) (pn := 139) at_136 (by decide) rfl rfl (W.q_eq i2 (0 : Int32)) (fun hc136 => ?_) (fun hc136 => ?_)
        · refine W.iconst C (x := (0 : Int32)) at_143 rfl rfl ?_
          refine W.istore C (Ls' := #[.val (.int p0), .val (.int p1), .val (.int p2), .val (.int p3), .val (.int p4), .val (.int p5), .val (.int cnt), .val (.ref b1), .val (.ref b2), .val (.ref b5), .val (.ref t), .val (.int i1), .val (.int i2), .val (.int (0 : Int32))]) at_144 rfl rfl ?_
          have e1 := own_b h1
          have e2 := own_b h2
          simp only [Int32.reduceToInt] at hc120
          simp only [Int32.reduceToInt] at hc131
          refine J146 cnt i1 i2 (0 : Int32) t ht h1 h2 ?_
          rcases h1 with ⟨rfl, g1⟩ | ⟨rfl, g1⟩ <;> rcases h2 with ⟨rfl, g2⟩ | ⟨rfl, g2⟩ <;> simp [g1, g2] at * <;> omega
        · refine W.iconst C (x := (1 : Int32)) at_139 rfl rfl ?_
          refine W.goto C (pc' := 144) at_140 (by decide) rfl ?_
          refine W.istore C (Ls' := #[.val (.int p0), .val (.int p1), .val (.int p2), .val (.int p3), .val (.int p4), .val (.int p5), .val (.int cnt), .val (.ref b1), .val (.ref b2), .val (.ref b5), .val (.ref t), .val (.int i1), .val (.int i2), .val (.int (1 : Int32))]) at_144 rfl rfl ?_
          have e1 := own_b h1
          have e2 := own_b h2
          simp only [Int32.reduceToInt] at hc120
          simp only [Int32.reduceToInt] at hc131
          refine J146 cnt i1 i2 (1 : Int32) t ht h1 h2 ?_
          rcases h1 with ⟨rfl, g1⟩ | ⟨rfl, g1⟩ <;> rcases h2 with ⟨rfl, g2⟩ | ⟨rfl, g2⟩ <;> simp [g1, g2] at * <;> omega
    · refine W.iload C at_123 rfl rfl ?_
      refine W.ifc C (pc' := 139) (pn := 128) at_125 (by decide) rfl rfl (W.q_ne i1 (0 : Int32)) (fun hc125 => ?_) (fun hc125 => ?_)
      · refine W.iconst C (x := (1 : Int32)) at_139 rfl rfl ?_
        refine W.goto C (pc' := 144) at_140 (by decide) rfl ?_
        refine W.istore C (Ls' := #[.val (.int p0), .val (.int p1), .val (.int p2), .val (.int p3), .val (.int p4), .val (.int p5), .val (.int cnt), .val (.ref b1), .val (.ref b2), .val (.ref b5), .val (.ref t), .val (.int i1), .val (.int i2), .val (.int (1 : Int32))]) at_144 rfl rfl ?_
        have e1 := own_b h1
        have e2 := own_b h2
        simp only [Int32.reduceToInt] at hc120
        refine J146 cnt i1 i2 (1 : Int32) t ht h1 h2 ?_
        rcases h1 with ⟨rfl, g1⟩ | ⟨rfl, g1⟩ <;> rcases h2 with ⟨rfl, g2⟩ | ⟨rfl, g2⟩ <;> simp [g1, g2] at * <;> omega
      · refine W.iload C at_128 rfl rfl ?_
        refine W.iconst C (x := (2 : Int32)) at_130 rfl rfl ?_
        refine W.icmp C (pc' := 143) (pn := 134) at_131 (by decide) rfl rfl (W.q_lt cnt (2 : Int32)) (fun hc131 => ?_) (fun hc131 => ?_)
        · refine W.iconst C (x := (0 : Int32)) at_143 rfl rfl ?_
          refine W.istore C (Ls' := #[.val (.int p0), .val (.int p1), .val (.int p2), .val (.int p3), .val (.int p4), .val (.int p5), .val (.int cnt), .val (.ref b1), .val (.ref b2), .val (.ref b5), .val (.ref t), .val (.int i1), .val (.int i2), .val (.int (0 : Int32))]) at_144 rfl rfl ?_
          have e1 := own_b h1
          have e2 := own_b h2
          simp only [Int32.reduceToInt] at hc120
          simp only [Int32.reduceToInt] at hc131
          refine J146 cnt i1 i2 (0 : Int32) t ht h1 h2 ?_
          rcases h1 with ⟨rfl, g1⟩ | ⟨rfl, g1⟩ <;> rcases h2 with ⟨rfl, g2⟩ | ⟨rfl, g2⟩ <;> simp [g1, g2] at * <;> omega
        · refine W.iload C at_134 rfl rfl ?_
          refine W.ifc C (pc' := 143) (pn := 139) at_136 (by decide) rfl rfl (W.q_eq i2 (0 : Int32)) (fun hc136 => ?_) (fun hc136 => ?_)
          · refine W.iconst C (x := (0 : Int32)) at_143 rfl rfl ?_
            refine W.istore C (Ls' := #[.val (.int p0), .val (.int p1), .val (.int p2), .val (.int p3), .val (.int p4), .val (.int p5), .val (.int cnt), .val (.ref b1), .val (.ref b2), .val (.ref b5), .val (.ref t), .val (.int i1), .val (.int i2), .val (.int (0 : Int32))]) at_144 rfl rfl ?_
            have e1 := own_b h1
            have e2 := own_b h2
            simp only [Int32.reduceToInt] at hc120
            simp only [Int32.reduceToInt] at hc131
            refine J146 cnt i1 i2 (0 : Int32) t ht h1 h2 ?_
            rcases h1 with ⟨rfl, g1⟩ | ⟨rfl, g1⟩ <;> rcases h2 with ⟨rfl, g2⟩ | ⟨rfl, g2⟩ <;> simp [g1, g2] at * <;> omega
          · refine W.iconst C (x := (1 : Int32)) at_139 rfl rfl ?_
            refine W.goto C (pc' := 144) at_140 (by decide) rfl ?_
            refine W.istore C (Ls' := #[.val (.int p0), .val (.int p1), .val (.int p2), .val (.int p3), .val (.int p4), .val (.int p5), .val (.int cnt), .val (.ref b1), .val (.ref b2), .val (.ref b5), .val (.ref t), .val (.int i1), .val (.int i2), .val (.int (1 : Int32))]) at_144 rfl rfl ?_
            have e1 := own_b h1
            have e2 := own_b h2
            simp only [Int32.reduceToInt] at hc120
            simp only [Int32.reduceToInt] at hc131
            refine J146 cnt i1 i2 (1 : Int32) t ht h1 h2 ?_
            rcases h1 with ⟨rfl, g1⟩ | ⟨rfl, g1⟩ <;> rcases h2 with ⟨rfl, g2⟩ | ⟨rfl, g2⟩ <;> simp [g1, g2] at * <;> omega
  have J99 : ∀ (cnt i1 : Int32) (t : Addr) (ht : (cnt.toInt = 0 ∧ b1 = t) ∨ (cnt.toInt = 1 ∧ b2 = t) ∨ (cnt.toInt = 2 ∧ b5 = t)) (h1 : ((i1 = 1 ∧ (own_r p0 p1 p2)) ∨ (i1 = 0 ∧ ¬ (own_r p0 p1 p2)))), W.Go p l e room_1 s m #[(.int p0), (.int p1), (.int p2), (.int p3), (.int p4), (.int p5)] below meth c (fun s₂ o L => FrameEnd s o s₂ L 16 128) n0 (fun v _ => v = some (.int 1)) h9 (3) (6) (mkF m 99 #[.val (.int p0), .val (.int p1), .val (.int p2), .val (.int p3), .val (.int p4), .val (.int p5), .val (.int cnt), .val (.ref b1), .val (.ref b2), .val (.ref b5), .val (.ref t), .val (.int i1), .unset, .unset] []) := by
    intro cnt i1 t ht h1
    refine W.iloadN C at_99 rfl rfl ?_
    refine W.iloadN C at_100 rfl rfl ?_
    refine W.icmp C (pc' := 114) (pn := 104) at_101 (by decide) rfl rfl (W.q_gt p3 p0) (fun hc101 => ?_) (fun hc101 => ?_)
    · refine W.iconst C (x := (0 : Int32)) at_114 rfl rfl ?_
      refine W.istore C (Ls' := #[.val (.int p0), .val (.int p1), .val (.int p2), .val (.int p3), .val (.int p4), .val (.int p5), .val (.int cnt), .val (.ref b1), .val (.ref b2), .val (.ref b5), .val (.ref t), .val (.int i1), .val (.int (0 : Int32)), .unset]) at_115 rfl rfl ?_
      exact J117 cnt i1 (0 : Int32) t ht h1 (by unfold own_r; simp; omega)
    · refine W.iloadN C at_104 rfl rfl ?_
      refine W.iload C at_105 rfl rfl ?_
      refine W.icmp C (pc' := 114) (pn := 110) at_107 (by decide) rfl rfl (W.q_gt p0 p4) (fun hc107 => ?_) (fun hc107 => ?_)
      · refine W.iconst C (x := (0 : Int32)) at_114 rfl rfl ?_
        refine W.istore C (Ls' := #[.val (.int p0), .val (.int p1), .val (.int p2), .val (.int p3), .val (.int p4), .val (.int p5), .val (.int cnt), .val (.ref b1), .val (.ref b2), .val (.ref b5), .val (.ref t), .val (.int i1), .val (.int (0 : Int32)), .unset]) at_115 rfl rfl ?_
        exact J117 cnt i1 (0 : Int32) t ht h1 (by unfold own_r; simp; omega)
      · refine W.iconst C (x := (1 : Int32)) at_110 rfl rfl ?_
        refine W.goto C (pc' := 115) at_111 (by decide) rfl ?_
        refine W.istore C (Ls' := #[.val (.int p0), .val (.int p1), .val (.int p2), .val (.int p3), .val (.int p4), .val (.int p5), .val (.int cnt), .val (.ref b1), .val (.ref b2), .val (.ref b5), .val (.ref t), .val (.int i1), .val (.int (1 : Int32)), .unset]) at_115 rfl rfl ?_
        exact J117 cnt i1 (1 : Int32) t ht h1 (by unfold own_r; simp; omega)
  have J82 : ∀ (cnt : Int32) (t : Addr) (ht : (cnt.toInt = 0 ∧ b1 = t) ∨ (cnt.toInt = 1 ∧ b2 = t) ∨ (cnt.toInt = 2 ∧ b5 = t)), W.Go p l e room_1 s m #[(.int p0), (.int p1), (.int p2), (.int p3), (.int p4), (.int p5)] below meth c (fun s₂ o L => FrameEnd s o s₂ L 16 128) n0 (fun v _ => v = some (.int 1)) h9 (3) (6) (mkF m 82 #[.val (.int p0), .val (.int p1), .val (.int p2), .val (.int p3), .val (.int p4), .val (.int p5), .val (.int cnt), .val (.ref b1), .val (.ref b2), .val (.ref b5), .val (.ref t), .unset, .unset, .unset] []) := by
    intro cnt t ht
    refine W.iloadN C at_82 rfl rfl ?_
    refine W.iloadN C at_83 rfl rfl ?_
    refine W.icmp C (pc' := 96) (pn := 87) at_84 (by decide) rfl rfl (W.q_gt p1 p0) (fun hc84 => ?_) (fun hc84 => ?_)
    · refine W.iconst C (x := (0 : Int32)) at_96 rfl rfl ?_
      refine W.istore C (Ls' := #[.val (.int p0), .val (.int p1), .val (.int p2), .val (.int p3), .val (.int p4), .val (.int p5), .val (.int cnt), .val (.ref b1), .val (.ref b2), .val (.ref b5), .val (.ref t), .val (.int (0 : Int32)), .unset, .unset]) at_97 rfl rfl ?_
      exact J99 cnt (0 : Int32) t ht (by unfold own_r; simp; omega)
    · refine W.iloadN C at_87 rfl rfl ?_
      refine W.iloadN C at_88 rfl rfl ?_
      refine W.icmp C (pc' := 96) (pn := 92) at_89 (by decide) rfl rfl (W.q_gt p0 p2) (fun hc89 => ?_) (fun hc89 => ?_)
      · refine W.iconst C (x := (0 : Int32)) at_96 rfl rfl ?_
        refine W.istore C (Ls' := #[.val (.int p0), .val (.int p1), .val (.int p2), .val (.int p3), .val (.int p4), .val (.int p5), .val (.int cnt), .val (.ref b1), .val (.ref b2), .val (.ref b5), .val (.ref t), .val (.int (0 : Int32)), .unset, .unset]) at_97 rfl rfl ?_
        exact J99 cnt (0 : Int32) t ht (by unfold own_r; simp; omega)
      · refine W.iconst C (x := (1 : Int32)) at_92 rfl rfl ?_
        refine W.goto C (pc' := 97) at_93 (by decide) rfl ?_
        refine W.istore C (Ls' := #[.val (.int p0), .val (.int p1), .val (.int p2), .val (.int p3), .val (.int p4), .val (.int p5), .val (.int cnt), .val (.ref b1), .val (.ref b2), .val (.ref b5), .val (.ref t), .val (.int (1 : Int32)), .unset, .unset]) at_97 rfl rfl ?_
        exact J99 cnt (1 : Int32) t ht (by unfold own_r; simp; omega)
  refine W.aload C at_55 rfl rfl rfl ?_
  refine W.astore C (Ls' := #[.val (.int p0), .val (.int p1), .val (.int p2), .val (.int p3), .val (.int p4), .val (.int p5), .val (.int cn), .val (.ref b1), .val (.ref b2), .val (.ref b5), .val (.ref b1), .unset, .unset, .unset]) at_57 rfl rfl rfl ?_
  refine W.iload C at_59 rfl rfl ?_
  refine W.iconst C (x := (1 : Int32)) at_61 rfl rfl ?_
  refine W.icmp C (pc' := 72) (pn := 65) at_62 (by decide) rfl rfl (W.q_ne cn (1 : Int32)) (fun hc62 => ?_) (fun hc62 => ?_)
  · refine W.iload C at_72 rfl rfl ?_
    refine W.iconst C (x := (2 : Int32)) at_74 rfl rfl ?_
    refine W.icmp C (pc' := 82) (pn := 78) at_75 (by decide) rfl rfl (W.q_ne cn (2 : Int32)) (fun hc75 => ?_) (fun hc75 => ?_)
    · exact J82 cn b1 (by
        have z1 : cn = 1 ↔ cn.toInt = 1 := by rw [← Int32.toInt_inj]; rfl
        have z2 : cn = 2 ↔ cn.toInt = 2 := by rw [← Int32.toInt_inj]; rfl
        exact Or.inl ⟨by have := mt z1.mpr hc62; have := mt z2.mpr hc75; omega, rfl⟩)
    · refine W.aload C at_78 rfl rfl rfl ?_
      refine W.astore C (Ls' := #[.val (.int p0), .val (.int p1), .val (.int p2), .val (.int p3), .val (.int p4), .val (.int p5), .val (.int cn), .val (.ref b1), .val (.ref b2), .val (.ref b5), .val (.ref b5), .unset, .unset, .unset]) at_80 rfl rfl rfl ?_
      exact J82 cn b5 (by
        have z1 : cn = 1 ↔ cn.toInt = 1 := by rw [← Int32.toInt_inj]; rfl
        have z2 : cn = 2 ↔ cn.toInt = 2 := by rw [← Int32.toInt_inj]; rfl
        exact Or.inr (Or.inr ⟨z2.mp hc75, rfl⟩))
  · refine W.aload C at_65 rfl rfl rfl ?_
    refine W.astore C (Ls' := #[.val (.int p0), .val (.int p1), .val (.int p2), .val (.int p3), .val (.int p4), .val (.int p5), .val (.int cn), .val (.ref b1), .val (.ref b2), .val (.ref b5), .val (.ref b2), .unset, .unset, .unset]) at_67 rfl rfl rfl ?_
    refine W.goto C (pc' := 82) at_69 (by decide) rfl ?_
    exact J82 cn b2 (by
      have z1 : cn = 1 ↔ cn.toInt = 1 := by rw [← Int32.toInt_inj]; rfl
      have z2 : cn = 2 ↔ cn.toInt = 2 := by rw [← Int32.toInt_inj]; rfl
      exact Or.inr (Or.inl ⟨z1.mp hc62, rfl⟩))
set_option maxRecDepth 65536 in
set_option maxHeartbeats 40000000 in
theorem comes_1 {Post : Tables → Env → Array Value → State → Outcome → State → Prop} (hpost : ∀ tb e args s v u, (limb_1_1.after args s (.returned v) u = true ∧ limb_1_2.after args s (.returned v) u = true ∧ True) → FrameEnd s (.returned v) u (Jvm.fieldLocs frame_1_writes args s ++ Jvm.arrayLocs frame_1_arrays args s ++ Jvm.staticLocs frame_1_statics s) 16 128 → Post tb e args s (.returned v) u) :
    ArmFor flags0 classFile x code maxLocals ret World_1 tables_1 room_1 Calls_1 rest_1 Pre_1 Post := by
  intro l hfl _ _ p e ha hc hk s m args below hf hA hF happ hP
  obtain ⟨hcalls, hrest, hpre⟩ := hP
  obtain ⟨-, -, -, hnamed, -, -, -, hat⟩ := (Spec.applies_iff hf).mp happ
  obtain ⟨hg, hn⟩ := and_e (Cond.before_iff.mp (show (Jvm.Cond.and given_1 narrow_1).before args s = true from hpre))
  obtain ⟨gv1, gv2⟩ := and_e hg
  obtain ⟨gv3, gv4⟩ := and_e gv2
  obtain ⟨gv5, gv6⟩ := and_e gv4
  obtain ⟨gv7, gv8⟩ := and_e gv6
  obtain ⟨gv9, gv10⟩ := and_e gv8
  obtain ⟨gv11, gv12⟩ := and_e gv10
  obtain ⟨w0, w1, w2, w3, w4, w5, rfl⟩ : ∃ w0 w1 w2 w3 w4 w5 : Value, args = #[w0, w1, w2, w3, w4, w5] := by
    have hs : args.size = 6 := by simpa [Cond.value, given_1] using gv1
    obtain ⟨L⟩ := args
    match L, hs with
    | [w0, w1, w2, w3, w4, w5], _ => exact ⟨w0, w1, w2, w3, w4, w5, rfl⟩
  have hw := fun d (hd : d ∈ tables_1) => atoms_spec (ws := Jvm.Cond.code x code maxLocals ret :: tables_1) hat d (List.mem_cons_of_mem _ hd)
  have hfit : Fit s := fun {y c} hc i hi => by
    obtain ⟨ha, rfl⟩ := Array.getElem?_eq_some_iff.mp hc
    have q := List.all_eq_true.mp ((Array.all_eq_true_iff_forall_mem.mp hF) _ (Array.getElem_mem ha)) i (List.mem_range.mpr hi)
    simpa [Array.getElem?_eq_getElem hi] using q
  obtain ⟨i0, ei0⟩ := is_v gv3
  obtain rfl : w0 = (.int i0) := Option.some.inj ei0
  obtain ⟨i1, ei1⟩ := is_v gv5
  obtain rfl : w1 = (.int i1) := Option.some.inj ei1
  obtain ⟨i2, ei2⟩ := is_v gv7
  obtain rfl : w2 = (.int i2) := Option.some.inj ei2
  obtain ⟨i3, ei3⟩ := is_v gv9
  obtain rfl : w3 = (.int i3) := Option.some.inj ei3
  obtain ⟨i4, ei4⟩ := is_v gv11
  obtain rfl : w4 = (.int i4) := Option.some.inj ei4
  obtain ⟨i5, ei5⟩ := is_v gv12
  obtain rfl : w5 = (.int i5) := Option.some.inj ei5
  obtain ⟨n, o, h1, h2, h3, v, L, rfl, ⟨hGv, N⟩, hq⟩ := rm0 l s _ hw tables_1 i0 i1 i2 i3 i4 i5 s.heap s.heap.size (Nat.le_refl _)  p e ha hc hk s m _ below hf ((Spec.applies_iff_loose hf).mp happ).1 ⟨rfl, State.Warmed39.refl s, rfl⟩ trivial
  obtain rfl : v = some (.int 1) := hGv
  refine ⟨n, _, h1, h2, h3, hpost _ _ _ _ _ _ ⟨Cond.after_iff.mpr rfl, Cond.after_iff.mpr (eq_i res_at (Term.int_eval (1)) rfl), trivial⟩ ⟨hq.1, hq.2.1, (hq.2.2.sift fun y hy => Or.inr (N y hy)).mono (by decide) (by decide)⟩⟩
theorem main_1_1 : Claimed_1_1 := comes_1 fun _ _ _ _ _ _ h hF => ⟨h.1, hF⟩
theorem main_1_2 : Claimed_1_2 := comes_1 fun _ _ _ _ _ _ h hF => ⟨h.2.1, hF⟩
end Jvm.Pilot.@@N@@
namespace Jvm.Pilot.@@N@@
open Jvm Jvm.ClassFile Sem Op Lib Jvm.Free Jvm.Stand Jvm.Pilot.@@N@@.Jvm.D
/-! MADE BY PROGRAM (witnessworld.py) out of the Statement's table words and the real class files: 9 classes; the members and pool entries that the words name. The judged class is class 1, her method 1. -/
namespace start1
open Jvm.ClassFile
def u (s : String) : CpInfo := .utf8 (stringToUtf16 s)
/-- a pool by its gaps: so many unusable entries, then the entry; so many at the end -/
def gap : Nat → List CpInfo → List CpInfo
  | 0, r => r
  | n + 1, r => .unusable :: gap n r
def poolList (es : List (Nat × CpInfo)) (last : Nat) : List CpInfo := es.foldr (fun e r => gap e.1 (e.2 :: r)) (gap last [])
def pool (es : List (Nat × CpInfo)) (last : Nat) : Array CpInfo := ⟨poolList es last⟩
def fileOf (pool : Array CpInfo) (this : Nat) (attrs : Array Attribute := #[]) (ms : Array MethodInfo := #[]) (fl : Nat := 33) (sup : Nat := 0) (ifs : Array Nat := #[]) (fds : Array FieldInfo := #[]) : ClassFile where
  minorVersion := 0
  majorVersion := 65
  constantPool := pool
  accessFlags := fl
  thisClass := this
  superClass := sup
  interfaces := ifs
  fields := fds
  methods := ms
  attributes := attrs
def plain (name : String) (sup : Option ClassId) : Class where
  name := name
  kind := .ordinary
  loader := none
  accessFlags := 33
  super := sup
  interfaces := #[]
  cf := none
  fields := #[]
  methods := #[]
  instanceTypes := #[]
  staticTypes := #[]
  resolved := #[]
  callSites := []
  init := .initialized
  statics := none
  mirror := none

def pool0 : Array CpInfo := pool [(5, u "<init>"), (0, u "()V"), (1, .class_ 10), (1, u "java/lang/Object")] 113

def k0m0 : Method := { name := "<init>", desc := "()V", sig := { parameters := [], returnType := none }, accessFlags := 1, code := none }
/-- java/lang/Object -/
def k0 : Class := { plain "java/lang/Object" none with
  accessFlags := 33
  interfaces := #[]
  cf := some (fileOf pool0 8 #[] #[{ accessFlags := 1, nameIndex := 5, descriptorIndex := 6, attributes := #[] }] 33 0 #[] #[])
  fields := #[]
  methods := #[k0m0]
  instanceTypes := #[]
  staticTypes := #[]
  resolved := Array.replicate 124 none
  statics := none }

def pool1 : Array CpInfo := pool [(2, .class_ 4), (1, u "java/lang/Object"), (0, u "<init>"), (0, u "()V"), (0, .integer 2147483647), (0, .methodref 9 10), (0, .class_ 11), (0, .nameAndType 12 13), (0, u "com/example/interval/interval/document/XmlNames"), (0, u "inRanges"), (0, u "(I[I)Z"), (0, .class_ 15), (0, u "com/example/interval/interval/document/XmlNamesInRangesPinLaw"), (2, u "law"), (0, u "(IIIIII)Z")] 5

def k1m0 : Method := { name := "<init>", desc := "()V", sig := { parameters := [], returnType := none }, accessFlags := 1, code := none }
def k1c1 : Code := { maxStack := 3, maxLocals := 14, code := code, exceptionTable := #[], attributes := #[] }
def k1m1 : Method := { name := "law", desc := "(IIIIII)Z", sig := { parameters := [.int, .int, .int, .int, .int, .int], returnType := some .boolean }, accessFlags := 9, code := some k1c1 }
/-- com/example/interval/interval/document/XmlNamesInRangesPinLaw -/
def k1 : Class := { plain "com/example/interval/interval/document/XmlNamesInRangesPinLaw" (some 0) with
  accessFlags := 49
  interfaces := #[]
  cf := some (fileOf pool1 14 #[] #[{ accessFlags := 1, nameIndex := 5, descriptorIndex := 6, attributes := #[] }, { accessFlags := 9, nameIndex := 18, descriptorIndex := 19, attributes := #[] }] 49 2 #[] #[])
  fields := #[]
  methods := #[k1m0, k1m1]
  instanceTypes := #[]
  staticTypes := #[]
  resolved := Array.replicate 25 none
  statics := none }

def pool2 : Array CpInfo := pool [(2, .class_ 4), (1, u "java/lang/Object"), (0, u "<init>"), (0, u "()V"), (1, .class_ 10), (1, u "com/example/interval/interval/document/XmlNames"), (4, u "NAME_START"), (0, u "[I"), (2, u "inRanges"), (0, u "(I[I)Z"), (2, u "NAME_MORE")] 45

def k2m0 : Method := { name := "<init>", desc := "()V", sig := { parameters := [], returnType := none }, accessFlags := 2, code := none }
def k2c1 : Code := { maxStack := 4, maxLocals := 3, code := prog_38_method_9_code, exceptionTable := #[], attributes := #[] }
def k2m1 : Method := { name := "inRanges", desc := "(I[I)Z", sig := { parameters := [.int, (.array .int)], returnType := some .boolean }, accessFlags := 8, code := some k2c1 }
/-- com/example/interval/interval/document/XmlNames -/
def k2 : Class := { plain "com/example/interval/interval/document/XmlNames" (some 0) with
  accessFlags := 49
  interfaces := #[]
  cf := some (fileOf pool2 8 #[] #[{ accessFlags := 2, nameIndex := 5, descriptorIndex := 6, attributes := #[] }, { accessFlags := 8, nameIndex := 19, descriptorIndex := 20, attributes := #[] }] 49 2 #[] #[{ accessFlags := 26, nameIndex := 15, descriptorIndex := 16, attributes := #[] }, { accessFlags := 26, nameIndex := 23, descriptorIndex := 16, attributes := #[] }])
  fields := #[{ name := "NAME_START", type := (.array .int), accessFlags := 26, slot := 0, constantValue := 0 }, { name := "NAME_MORE", type := (.array .int), accessFlags := 26, slot := 1, constantValue := 0 }]
  methods := #[k2m0, k2m1]
  instanceTypes := #[]
  staticTypes := #[(.array .int), (.array .int)]
  resolved := Array.replicate 69 none
  statics := none }

def pool3 : Array CpInfo := pool [(1, u "java/lang/Cloneable"), (0, .class_ 1), (0, u "java/lang/Object"), (0, .class_ 3)] 3

/-- java/lang/Cloneable -/
def k3 : Class := { plain "java/lang/Cloneable" (some 0) with
  accessFlags := 1537
  interfaces := #[]
  cf := some (fileOf pool3 2 #[] #[] 1537 4 #[] #[])
  fields := #[]
  methods := #[]
  instanceTypes := #[]
  staticTypes := #[]
  resolved := Array.replicate 8 none
  statics := none }

def pool4 : Array CpInfo := pool [(1, u "java/io/Serializable"), (0, .class_ 1), (0, u "java/lang/Object"), (0, .class_ 3)] 3

/-- java/io/Serializable -/
def k4 : Class := { plain "java/io/Serializable" (some 0) with
  accessFlags := 1537
  interfaces := #[]
  cf := some (fileOf pool4 2 #[] #[] 1537 4 #[] #[])
  fields := #[]
  methods := #[]
  instanceTypes := #[]
  staticTypes := #[]
  resolved := Array.replicate 8 none
  statics := none }

/-- the primitive byte -/
def k5 : Class := { plain "byte" none with kind := .primitive 'B', accessFlags := 0x411 }
/-- [B -/
def k6 : Class := { plain "[B" (some 0) with kind := .array 5 .byte, interfaces := #[3, 4], accessFlags := 1041 }

/-- the primitive int -/
def k7 : Class := { plain "int" none with kind := .primitive 'I', accessFlags := 0x411 }
/-- [I -/
def k8 : Class := { plain "[I" (some 0) with kind := .array 7 .int, interfaces := #[3, 4], accessFlags := 1041 }

def heap : Heap := #[]
def classes : Array Class := #[k0, k1, k2, k3, k4, k5, k6, k7, k8]
def interned : List (Array UInt16 × Addr) := []
def slotsUsed : Nat := 0
def theMethod : MethodId := ⟨1, 1⟩
def args0 : Array Value := #[.int 5, .int 5, .int 5, .int 5, .int 5, .int 5]
def aboutOver (below : List Frame) : State where
  vm := { classes := classes, interned := interned.toArray }
  heap := heap
  slotsUsed := slotsUsed
  threads := #[{ frames := .invoking theMethod args0 :: below }]
def below0 : List Frame := [.native { method := ⟨0, 0⟩, args := #[] }]
def about1 : State := aboutOver below0
def p0 : Program := .bare "" "" ""
def e0 : Env := launch0.env 0 0 0
theorem w_frames : about1.frames = Frame.invoking theMethod args0 :: below0 := rfl
set_option maxRecDepth 65536 in
theorem w_args : argsFit about1.vm theMethod args0 = true := by decide +kernel
set_option maxRecDepth 65536 in
theorem w_heap : heapFits about1 = true := by decide +kernel
set_option maxRecDepth 65536 in
theorem w_runnable : about1.curStatus? = some .runnable := by decide +kernel
set_option maxRecDepth 65536 in
theorem w_alone : about1.alone = true := by decide +kernel
set_option maxRecDepth 65536 in
theorem w_named : about1.methodNamed? x = some theMethod := by decide +kernel
set_option maxRecDepth 65536 in
theorem w_hears : about1.hears theMethod below0 = true := by decide +kernel
set_option maxRecDepth 65536 in
theorem w_ripe : about1.ripe theMethod args0 below0 = true := by decide +kernel
theorem w_running : about1.status = .running := rfl
set_option maxRecDepth 65536 in
theorem w_room : about1.hasRoom e0.platform room_1 = true :=
  launch0.hasRoom_least _ room_1 (by decide +kernel) (by decide +kernel) (by decide +kernel) (by decide +kernel) (by decide +kernel) (by decide +kernel)
theorem allAtoms_all (ts : List Jvm.Cond) (a : Array Jvm.Value) (st : Jvm.State) : (allAtoms ts).before a st = ts.all (fun c => c.before a st) := by
  induction ts with
  | nil => rfl
  | cons c t ih =>
    show (Jvm.Cond.and c (allAtoms t)).before a st = _
    rw [Jvm.Cond.before_and, ih, List.all_cons]
def words1 : List Jvm.Cond := Jvm.Cond.code x code maxLocals ret :: tables_1
/-- a 'code' word, met by the world's own term for the bytes: nothing is compared byte by byte -/
theorem code_word {y : MethodName} {bytes : ByteArray} {mx : Nat} {rt : Option FieldType} {a : Array Value} {s : State} {m : MethodId} {meth : Method} {c : Code} (h1 : s.methodNamed? y = some m) (h2 : s.vm.method? m = some meth) (h3 : meth.code = some c) (h4 : c.code = bytes)
    (h5 : (c.maxLocals == mx && c.exceptionTable.isEmpty && decide (c.maxStack ≤ mostOperands) && decide (meth.sig.returnType = rt) && !meth.locks && decide (parseMethodDescriptor y.desc = some meth.sig)) = true) : (Jvm.Cond.code y bytes mx rt).before a s = true := by
  simp only [Bool.and_eq_true, beq_iff_eq, Bool.not_eq_true', decide_eq_true_eq] at h5
  obtain ⟨⟨⟨⟨⟨g1, g2⟩, g3⟩, g4⟩, g5⟩, g6⟩ := h5
  simp [Cond.before, Cond.holds, Cond.value, h1, h2, h3, h4, g1, g2, g3, g4, g5, g6]
def isCode : Jvm.Cond → Bool
  | .code _ _ _ _ => true
  | _ => false
theorem all_split {L : List Jvm.Cond} {P : Jvm.Cond → Bool} (h1 : L.all (fun c => isCode c || P c) = true) (h2 : ∀ c ∈ L.filter isCode, P c = true) : L.all P = true := by
  refine List.all_eq_true.mpr fun c hc => ?_
  have h := List.all_eq_true.mp h1 c hc
  rcases Bool.eq_false_or_eq_true (isCode c) with hi | hi
  · exact h2 c (List.mem_filter.mpr ⟨hc, hi⟩)
  · simpa [hi] using h
set_option maxRecDepth 65536 in
theorem w_c0 : (Jvm.Cond.code x code maxLocals ret).before args0 about1 = true := code_word (m := ⟨1, 1⟩) (meth := k1m1) (c := k1c1) (by decide +kernel) rfl rfl rfl (by decide +kernel)
set_option maxRecDepth 65536 in
theorem w_c1 : (Jvm.Cond.code ({ cls := "com/example/interval/interval/document/XmlNames", name := "inRanges", desc := "(I[I)Z" } : Jvm.MethodName) prog_38_method_9_code (3 : Nat) (Option.some Jvm.ClassFile.FieldType.boolean)).before args0 about1 = true := code_word (m := ⟨2, 1⟩) (meth := k2m1) (c := k2c1) (by decide +kernel) rfl rfl rfl (by decide +kernel)
def codes1 : List Jvm.Cond := [Jvm.Cond.code x code maxLocals ret, Jvm.Cond.code ({ cls := "com/example/interval/interval/document/XmlNames", name := "inRanges", desc := "(I[I)Z" } : Jvm.MethodName) prog_38_method_9_code (3 : Nat) (Option.some Jvm.ClassFile.FieldType.boolean)]
set_option maxRecDepth 65536 in
theorem codes_eq : words1.filter isCode = codes1 := rfl
theorem w_codes : ∀ c ∈ words1.filter isCode, c.before args0 about1 = true := by
  rw [codes_eq]
  intro c hc
  simp only [codes1, List.mem_cons, List.not_mem_nil, or_false] at hc
  rcases hc with rfl | rfl
  · exact w_c0
  · exact w_c1
set_option maxRecDepth 65536 in
theorem w_t1 : words1.all (fun c => isCode c || c.before args0 about1) = true := by decide +kernel
theorem w_tables : (allAtoms (Jvm.Cond.code x code maxLocals ret :: tables_1)).before args0 about1 = true := by
  rw [allAtoms_all]
  show words1.all (fun c => c.before args0 about1) = true
  refine all_split ?_ w_codes
  rw [w_t1]
set_option maxRecDepth 65536 in
theorem w_case : (Jvm.Cond.and given_1 narrow_1).before args0 about1 = true := by decide +kernel
theorem w_applies : (headSpec (Jvm.Cond.code x code maxLocals ret :: tables_1) room_1).applies x e0.platform about1 = true :=
  (Spec.applies_iff w_frames).mpr ⟨w_running, w_runnable, w_alone, w_named, w_hears, w_ripe, w_room, w_tables⟩
theorem atStart : AtStart classFile x code maxLocals ret World_1 tables_1 room_1 Calls_1 rest_1 Pre_1 launch0 p0 e0 about1 theMethod args0 below0 :=
  ⟨lists_1, trivial, launch0.admits_env _ _ _, launch0.least_env, fairChoices_fair.cas, fairChoices_fair.clock, w_frames, w_args, w_heap, w_applies, trivial, trivial, w_case⟩
end start1
theorem witness_1 : WitnessClaimed_1 := ⟨start1.p0, start1.e0, start1.about1, start1.theMethod, start1.args0, start1.below0, start1.atStart⟩
end Jvm.Pilot.@@N@@
