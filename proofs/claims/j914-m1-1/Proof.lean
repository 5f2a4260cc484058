import JvmDerived
import JvmDerived.Pilot.@@N@@Statement
import JvmDerived.Pilot.@@N@@Code
set_option linter.unusedVariables false
set_option linter.unusedSimpArgs false
namespace Jvm.Pilot.@@N@@.W
open Jvm Jvm.ClassFile Sem Op Lib Jvm.Free Jvm.Stand Jvm.LawKit Jvm.RoadKit Bundle

/-- the invocation comes to its end from (T, f): what it returns and the heap there are as G says; nothing below n0 is written; at most K cells, N slots are made -/
def Ends (p : Program) (e : Env) (below : List Frame) (Y : State → Outcome → List Loc → Prop) (n0 : Nat) (G : Option Value → Heap → Prop) (T : State) (f : JFrame) : Prop :=
  ∃ s₂ o, Steps p.tables e below (T.setTop f) s₂ ∧ s₂.status = .running ∧ Ended s₂ below o ∧ ∃ v L, o = .returned v ∧ (G v s₂.heap ∧ Fr n0 L) ∧ Y s₂ o L
/-- the walk stands in T, whose heap is h -/
def St (p : Program) (l : Launch) (e : Env) (R : Room) (s : State) (m : MethodId) (args : Array Value) (below : List Frame) (meth : Method) (c : Code) (n0 : Nat) (h : Heap) (k n : Nat) (T : State) : Prop :=
  ∃ locs, Fr n0 locs ∧ Stand p l e R s m args below meth c T locs k n ∧ T.heap = h
/-- what stays through a walk: the machine, the tables of the start, the body, its class, what it returns -/
def Cx (p : Program) (s : State) (m : MethodId) (meth : Method) (c : Code) (Z : State) (n0 : Nat) (own : String) (bytes : ByteArray) (ml : Nat) (ret : Option FieldType) : Prop :=
  p.tables.exec = Jvm.exec ∧ Z.Warmed39 s.vm ∧ c.code = bytes ∧ c.maxLocals = ml ∧ s.vm.findClass own = some m.cls ∧ meth.sig.returnType = ret ∧ meth.locks = false ∧ n0 ≤ s.heap.size
/-- from every state that stands so, with the frame f on top, the invocation comes to its end -/
def Go (p : Program) (l : Launch) (e : Env) (R : Room) (s : State) (m : MethodId) (args : Array Value) (below : List Frame) (meth : Method) (c : Code) (Y : State → Outcome → List Loc → Prop) (n0 : Nat) (G : Option Value → Heap → Prop) (h : Heap) (k n : Nat) (f : JFrame) : Prop :=
  ∀ T, St p l e R s m args below meth c n0 h k n T → Ends p e below Y n0 G T f
/-- a body's contract -/
abbrev Con (l : Launch) (Z : State) (y : MethodName) (bytes : ByteArray) (ml : Nat) (ret : Option FieldType) (ws : List Cond) (rm : Room) (K N : Nat) (as : Array Value) (h0 : Heap) (n0 : Nat) (G : Option Value → Heap → Prop) : Prop :=
  MetFree l y (head1 (Cond.code y bytes ml ret :: ws) rm) (fun a U => a = as ∧ Z.Warmed39 U.vm ∧ U.heap = h0) (fun _ _ _ _ _ => True) (fun _ U o U' => ∃ v L, o = .returned v ∧ (G v U'.heap ∧ Fr n0 L) ∧ FrameEnd U o U' L K N)

section Walk
variable {p : Program} {l : Launch} {e : Env} {R : Room} {s : State} {m : MethodId} {args : Array Value} {below : List Frame} {meth : Method} {c : Code} {K N n0 k n : Nat} {G : Option Value → Heap → Prop} {Y : State → Outcome → List Loc → Prop}
  {Z : State} {a0 : Array Value} {own : String} {bytes : ByteArray} {ml : Nat} {ret : Option FieldType} {Ls Ls' : Array Slot} {S : List Value} {pc pc' pn : Nat} {h h' : Heap}

theorem step {T T' : State} {f f' : JFrame} (q : ∀ target, Steps p.tables e below (T'.setTop f') target → Steps p.tables e below (T.setTop f) target) (g : Ends p e below Y n0 G T' f') : Ends p e below Y n0 G T f := by
  obtain ⟨s₂, o, h1, h2⟩ := g
  exact ⟨s₂, o, q _ h1, h2⟩
theorem stepG {f f' : JFrame} (q : ∀ T locs, Stand p l e R s m args below meth c T locs k n → T.heap = h → ∀ target, Steps p.tables e below (T.setTop f') target → Steps p.tables e below (T.setTop f) target)
    (g : Go p l e R s m args below meth c Y n0 G h k n f') : Go p l e R s m args below meth c Y n0 G h k n f := fun T ⟨locs, F, X, eT⟩ => step (q T locs X eT) (g T ⟨locs, F, X, eT⟩)
theorem Go.mono {f : JFrame} {k2 n2 : Nat} (g : Go p l e R s m args below meth c Y n0 G h k2 n2 f) (h1 : k ≤ k2) (h2 : n ≤ n2) : Go p l e R s m args below meth c Y n0 G h k n f := fun T ⟨locs, F, X, eT⟩ =>
  g T ⟨locs, F, ⟨X.admits, X.cas, X.clock, X.frames, X.room, X.hears, X.method, X.code, X.here, X.tail, X.warmed, X.limits, X.bytes, X.same.mono h1 h2⟩, eT⟩
theorem Go.castF {f f' : JFrame} (q : f = f') (g : Go p l e R s m args below meth c Y n0 G h k n f') : Go p l e R s m args below meth c Y n0 G h k n f := q ▸ g

/-- entering -/
theorem enter {y : MethodName} {as : Array Value} {ws : List Cond} {rm : Room} {h0 : Heap} (hp : plainFor y = true) (Z0 : n0 ≤ h0.size)
    (body : ∀ p e s m below meth c, Cx p s m meth c Z n0 y.cls bytes ml ret → meth.name = y.name → s.heap = h0 → Go p l e rm s m as below meth c (fun s₂ o L => FrameEnd s o s₂ L K N) n0 G h0 0 0 (entryFrame m as ml)) : Con l Z y bytes ml ret ws rm K N as h0 n0 G := by
  refine MetFree.of_bodySF hp hisR ?_
  intro p e s m args below meth c s₁ Bd hml0 hP hK
  obtain ⟨rfl, hZ, hh⟩ := hP
  have X0 : Stand p l e rm s m args below meth c s₁ [] 0 0 := Stand.of_body Bd
  have e0 : s₁.heap = h0 := by rw [← hh, Bd.state]; rfl
  obtain ⟨s₂, o, h1, h2, h3, h4⟩ := body p e s m below meth c ⟨Bd.exec, hZ, Bd.bytes, hml0, findClass_of_methodNamed Bd.named, Bd.returns, Bd.notSynchronized, by rw [hh]; exact Z0⟩ (name_of_methodNamed Bd.named Bd.method).1 hh s₁ ⟨[], Fr.nil _, X0, e0⟩
  exact ⟨s₂, o, h1, h2, h3, h4⟩

/-! loads, stores, constants -/
theorem iloadN (C : Cx p s m meth c Z n0 own bytes ml ret) {i : Fin 4} {v : Int32} (hd : decode bytes pc = .ok (.iload_n i, 1)) (hp : pc + 1 = pc') (hl : Ls[i.val]? = some (.val (.int v)))
    (g : Go p l e R s m args below meth c Y n0 G h k n (mkF m pc' Ls (.int v :: S))) : Go p l e R s m args below meth c Y n0 G h k n (mkF m pc Ls S) := by
  subst hp; exact stepG (fun T locs X _ _ q => XS.iloadN X.here C.1 rfl (hb C.2.2.1 hd) hl q) g
theorem iload (C : Cx p s m meth c Z n0 own bytes ml ret) {i : Nat} {v : Int32} (hd : decode bytes pc = .ok (.iload i, 2)) (hp : pc + 2 = pc') (hl : Ls[i]? = some (.val (.int v)))
    (g : Go p l e R s m args below meth c Y n0 G h k n (mkF m pc' Ls (.int v :: S))) : Go p l e R s m args below meth c Y n0 G h k n (mkF m pc Ls S) := by
  subst hp; exact stepG (fun T locs X _ _ q => XS.iload X.here C.1 rfl (hb C.2.2.1 hd) hl q) g
theorem lloadN (C : Cx p s m meth c Z n0 own bytes ml ret) {i : Fin 4} {v : Int64} (hd : decode bytes pc = .ok (.lload_n i, 1)) (hp : pc + 1 = pc') (hl : Ls[i.val]? = some (.val (.long v)))
    (g : Go p l e R s m args below meth c Y n0 G h k n (mkF m pc' Ls (.long v :: S))) : Go p l e R s m args below meth c Y n0 G h k n (mkF m pc Ls S) := by
  subst hp; exact stepG (fun T locs X _ _ q => XS.lloadN X.here C.1 rfl (hb C.2.2.1 hd) hl q) g
theorem lload (C : Cx p s m meth c Z n0 own bytes ml ret) {i : Nat} {v : Int64} (hd : decode bytes pc = .ok (.lload i, 2)) (hp : pc + 2 = pc') (hl : Ls[i]? = some (.val (.long v)))
    (g : Go p l e R s m args below meth c Y n0 G h k n (mkF m pc' Ls (.long v :: S))) : Go p l e R s m args below meth c Y n0 G h k n (mkF m pc Ls S) := by
  subst hp; exact stepG (fun T locs X _ _ q => XS.lload X.here C.1 rfl (hb C.2.2.1 hd) hl q) g
theorem aloadN (C : Cx p s m meth c Z n0 own bytes ml ret) {i : Fin 4} {v : Value} (hd : decode bytes pc = .ok (.aload_n i, 1)) (hp : pc + 1 = pc') (hl : Ls[i.val]? = some (.val v)) (hv : v.isRef = true)
    (g : Go p l e R s m args below meth c Y n0 G h k n (mkF m pc' Ls (v :: S))) : Go p l e R s m args below meth c Y n0 G h k n (mkF m pc Ls S) := by
  subst hp; exact stepG (fun T locs X _ _ q => XS.aloadN X.here C.1 rfl (hb C.2.2.1 hd) hl hv q) g
theorem aload (C : Cx p s m meth c Z n0 own bytes ml ret) {i : Nat} {v : Value} (hd : decode bytes pc = .ok (.aload i, 2)) (hp : pc + 2 = pc') (hl : Ls[i]? = some (.val v)) (hv : v.isRef = true)
    (g : Go p l e R s m args below meth c Y n0 G h k n (mkF m pc' Ls (v :: S))) : Go p l e R s m args below meth c Y n0 G h k n (mkF m pc Ls S) := by
  subst hp; exact stepG (fun T locs X _ _ q => XS.aload X.here C.1 rfl (hb C.2.2.1 hd) hl hv q) g
theorem istoreN (C : Cx p s m meth c Z n0 own bytes ml ret) {i : Fin 4} {x : Int32} (hd : decode bytes pc = .ok (.istore_n i, 1)) (hp : pc + 1 = pc') (hl : storeLocals Ls i.val (.int x) = some Ls')
    (g : Go p l e R s m args below meth c Y n0 G h k n (mkF m pc' Ls' S)) : Go p l e R s m args below meth c Y n0 G h k n (mkF m pc Ls (.int x :: S)) := by
  subst hp; exact stepG (fun T locs X _ _ q => XS.istoreN X.here C.1 rfl (hb C.2.2.1 hd) rfl hl q) g
theorem istore (C : Cx p s m meth c Z n0 own bytes ml ret) {i : Nat} {x : Int32} (hd : decode bytes pc = .ok (.istore i, 2)) (hp : pc + 2 = pc') (hl : storeLocals Ls i (.int x) = some Ls')
    (g : Go p l e R s m args below meth c Y n0 G h k n (mkF m pc' Ls' S)) : Go p l e R s m args below meth c Y n0 G h k n (mkF m pc Ls (.int x :: S)) := by
  subst hp; exact stepG (fun T locs X _ _ q => XS.istore X.here C.1 rfl (hb C.2.2.1 hd) rfl hl q) g
theorem lstoreN (C : Cx p s m meth c Z n0 own bytes ml ret) {i : Fin 4} {x : Int64} (hd : decode bytes pc = .ok (.lstore_n i, 1)) (hp : pc + 1 = pc') (hl : storeLocals Ls i.val (.long x) = some Ls')
    (g : Go p l e R s m args below meth c Y n0 G h k n (mkF m pc' Ls' S)) : Go p l e R s m args below meth c Y n0 G h k n (mkF m pc Ls (.long x :: S)) := by
  subst hp; exact stepG (fun T locs X _ _ q => XS.lstoreN X.here C.1 rfl (hb C.2.2.1 hd) rfl hl q) g
theorem lstore (C : Cx p s m meth c Z n0 own bytes ml ret) {i : Nat} {x : Int64} (hd : decode bytes pc = .ok (.lstore i, 2)) (hp : pc + 2 = pc') (hl : storeLocals Ls i (.long x) = some Ls')
    (g : Go p l e R s m args below meth c Y n0 G h k n (mkF m pc' Ls' S)) : Go p l e R s m args below meth c Y n0 G h k n (mkF m pc Ls (.long x :: S)) := by
  subst hp; exact stepG (fun T locs X _ _ q => XS.lstore X.here C.1 rfl (hb C.2.2.1 hd) rfl hl q) g
theorem astoreN (C : Cx p s m meth c Z n0 own bytes ml ret) {i : Fin 4} {x : Value} (hd : decode bytes pc = .ok (.astore_n i, 1)) (hp : pc + 1 = pc') (hv : x.isRef = true) (hl : storeLocals Ls i.val x = some Ls')
    (g : Go p l e R s m args below meth c Y n0 G h k n (mkF m pc' Ls' S)) : Go p l e R s m args below meth c Y n0 G h k n (mkF m pc Ls (x :: S)) := by
  subst hp; exact stepG (fun T locs X _ _ q => XS.astoreN X.here C.1 rfl (hb C.2.2.1 hd) rfl hv hl q) g
theorem astore (C : Cx p s m meth c Z n0 own bytes ml ret) {i : Nat} {x : Value} (hd : decode bytes pc = .ok (.astore i, 2)) (hp : pc + 2 = pc') (hv : x.isRef = true) (hl : storeLocals Ls i x = some Ls')
    (g : Go p l e R s m args below meth c Y n0 G h k n (mkF m pc' Ls' S)) : Go p l e R s m args below meth c Y n0 G h k n (mkF m pc Ls (x :: S)) := by
  subst hp; exact stepG (fun T locs X _ _ q => XS.astore X.here C.1 rfl (hb C.2.2.1 hd) rfl hv hl q) g
theorem iconst (C : Cx p s m meth c Z n0 own bytes ml ret) {i : Int} {x : Int32} (hd : decode bytes pc = .ok (.iconst i, 1)) (hp : pc + 1 = pc') (hv : Int32.ofInt i = x)
    (g : Go p l e R s m args below meth c Y n0 G h k n (mkF m pc' Ls (.int x :: S))) : Go p l e R s m args below meth c Y n0 G h k n (mkF m pc Ls S) := by
  subst hp hv; exact stepG (fun T locs X _ _ q => XS.iconst X.here C.1 rfl (hb C.2.2.1 hd) q) g
theorem bipush (C : Cx p s m meth c Z n0 own bytes ml ret) {i : Int} {x : Int32} (hd : decode bytes pc = .ok (.bipush i, 2)) (hp : pc + 2 = pc') (hv : (Int8.ofInt i).toInt32 = x)
    (g : Go p l e R s m args below meth c Y n0 G h k n (mkF m pc' Ls (.int x :: S))) : Go p l e R s m args below meth c Y n0 G h k n (mkF m pc Ls S) := by
  subst hp hv; exact stepG (fun T locs X _ _ q => XS.bipush X.here C.1 rfl (hb C.2.2.1 hd) q) g
theorem sipush (C : Cx p s m meth c Z n0 own bytes ml ret) {i : Int} {x : Int32} (hd : decode bytes pc = .ok (.sipush i, 3)) (hp : pc + 3 = pc') (hv : (Int16.ofInt i).toInt32 = x)
    (g : Go p l e R s m args below meth c Y n0 G h k n (mkF m pc' Ls (.int x :: S))) : Go p l e R s m args below meth c Y n0 G h k n (mkF m pc Ls S) := by
  subst hp hv; exact stepG (fun T locs X _ _ q => XS.sipush X.here C.1 rfl (hb C.2.2.1 hd) q) g
theorem lconst (C : Cx p s m meth c Z n0 own bytes ml ret) {i : Fin 2} {x : Int64} (hd : decode bytes pc = .ok (.lconst i, 1)) (hp : pc + 1 = pc') (hv : Int64.ofNat i = x)
    (g : Go p l e R s m args below meth c Y n0 G h k n (mkF m pc' Ls (.long x :: S))) : Go p l e R s m args below meth c Y n0 G h k n (mkF m pc Ls S) := by
  subst hp hv; exact stepG (fun T locs X _ _ q => XS.lconst X.here C.1 rfl (hb C.2.2.1 hd) q) g
theorem aconst_null (C : Cx p s m meth c Z n0 own bytes ml ret) (hd : decode bytes pc = .ok (.aconst_null, 1)) (hp : pc + 1 = pc')
    (g : Go p l e R s m args below meth c Y n0 G h k n (mkF m pc' Ls (.null :: S))) : Go p l e R s m args below meth c Y n0 G h k n (mkF m pc Ls S) := by
  subst hp; exact stepG (fun T locs X _ _ q => XS.aconstNull X.here C.1 rfl (hb C.2.2.1 hd) q) g
theorem ldcI (C : Cx p s m meth c Z n0 own bytes ml ret) {i : Nat} {v : Int32} (w : (Cond.constant own i v).before a0 Z = true) (hd : decode bytes pc = .ok (.ldc i, 2)) (hp : pc + 2 = pc')
    (g : Go p l e R s m args below meth c Y n0 G h k n (mkF m pc' Ls (.int v :: S))) : Go p l e R s m args below meth c Y n0 G h k n (mkF m pc Ls S) := by
  subst hp; exact stepG (fun T locs X _ t q => X.ldcInt C.1 C.2.2.2.2.1 (mvT C.2.1 w) (g := mkF m pc Ls S) rfl (hb C.2.2.1 hd) t q) g
theorem ldcwI (C : Cx p s m meth c Z n0 own bytes ml ret) {i : Nat} {v : Int32} (w : (Cond.constant own i v).before a0 Z = true) (hd : decode bytes pc = .ok (.ldc_w i, 3)) (hp : pc + 3 = pc')
    (g : Go p l e R s m args below meth c Y n0 G h k n (mkF m pc' Ls (.int v :: S))) : Go p l e R s m args below meth c Y n0 G h k n (mkF m pc Ls S) := by
  subst hp; exact stepG (fun T locs X _ t q => X.ldcwInt C.1 C.2.2.2.2.1 (mvT C.2.1 w) (g := mkF m pc Ls S) rfl (hb C.2.2.1 hd) t q) g
theorem ldc2 (C : Cx p s m meth c Z n0 own bytes ml ret) {i : Nat} {v : Int64} (w : (Cond.constantLong own i v).before a0 Z = true) (hd : decode bytes pc = .ok (.ldc2_w i, 3)) (hp : pc + 3 = pc')
    (g : Go p l e R s m args below meth c Y n0 G h k n (mkF m pc' Ls (.long v :: S))) : Go p l e R s m args below meth c Y n0 G h k n (mkF m pc Ls S) := by
  subst hp; exact stepG (fun T locs X _ t q => X.ldc2Long C.1 C.2.2.2.2.1 (mvT C.2.1 w) (g := mkF m pc Ls S) rfl (hb C.2.2.1 hd) t q) g
theorem iadd (C : Cx p s m meth c Z n0 own bytes ml ret) {x y z : Int32} (hd : decode bytes pc = .ok (.iadd, 1)) (hp : pc + 1 = pc') (hv : x + y = z)
    (g : Go p l e R s m args below meth c Y n0 G h k n (mkF m pc' Ls (.int z :: S))) : Go p l e R s m args below meth c Y n0 G h k n (mkF m pc Ls (.int y :: .int x :: S)) := by
  subst hp hv; exact stepG (fun T locs X _ _ q => XS.iadd X.here C.1 rfl (hb C.2.2.1 hd) rfl q) g
theorem isub (C : Cx p s m meth c Z n0 own bytes ml ret) {x y z : Int32} (hd : decode bytes pc = .ok (.isub, 1)) (hp : pc + 1 = pc') (hv : x - y = z)
    (g : Go p l e R s m args below meth c Y n0 G h k n (mkF m pc' Ls (.int z :: S))) : Go p l e R s m args below meth c Y n0 G h k n (mkF m pc Ls (.int y :: .int x :: S)) := by
  subst hp hv; exact stepG (fun T locs X _ _ q => XS.isub X.here C.1 rfl (hb C.2.2.1 hd) rfl q) g
theorem imul (C : Cx p s m meth c Z n0 own bytes ml ret) {x y z : Int32} (hd : decode bytes pc = .ok (.imul, 1)) (hp : pc + 1 = pc') (hv : x * y = z)
    (g : Go p l e R s m args below meth c Y n0 G h k n (mkF m pc' Ls (.int z :: S))) : Go p l e R s m args below meth c Y n0 G h k n (mkF m pc Ls (.int y :: .int x :: S)) := by
  subst hp hv; exact stepG (fun T locs X _ _ q => XS.imul X.here C.1 rfl (hb C.2.2.1 hd) rfl q) g
theorem iand (C : Cx p s m meth c Z n0 own bytes ml ret) {x y z : Int32} (hd : decode bytes pc = .ok (.iand, 1)) (hp : pc + 1 = pc') (hv : x &&& y = z)
    (g : Go p l e R s m args below meth c Y n0 G h k n (mkF m pc' Ls (.int z :: S))) : Go p l e R s m args below meth c Y n0 G h k n (mkF m pc Ls (.int y :: .int x :: S)) := by
  subst hp hv; exact stepG (fun T locs X _ _ q => XS.iand X.here C.1 rfl (hb C.2.2.1 hd) rfl q) g
theorem ior (C : Cx p s m meth c Z n0 own bytes ml ret) {x y z : Int32} (hd : decode bytes pc = .ok (.ior, 1)) (hp : pc + 1 = pc') (hv : x ||| y = z)
    (g : Go p l e R s m args below meth c Y n0 G h k n (mkF m pc' Ls (.int z :: S))) : Go p l e R s m args below meth c Y n0 G h k n (mkF m pc Ls (.int y :: .int x :: S)) := by
  subst hp hv; exact stepG (fun T locs X _ _ q => XS.ior X.here C.1 rfl (hb C.2.2.1 hd) rfl q) g
theorem ixor (C : Cx p s m meth c Z n0 own bytes ml ret) {x y z : Int32} (hd : decode bytes pc = .ok (.ixor, 1)) (hp : pc + 1 = pc') (hv : x ^^^ y = z)
    (g : Go p l e R s m args below meth c Y n0 G h k n (mkF m pc' Ls (.int z :: S))) : Go p l e R s m args below meth c Y n0 G h k n (mkF m pc Ls (.int y :: .int x :: S)) := by
  subst hp hv; exact stepG (fun T locs X _ _ q => XS.ixor X.here C.1 rfl (hb C.2.2.1 hd) rfl q) g
theorem ladd (C : Cx p s m meth c Z n0 own bytes ml ret) {x y z : Int64} (hd : decode bytes pc = .ok (.ladd, 1)) (hp : pc + 1 = pc') (hv : x + y = z)
    (g : Go p l e R s m args below meth c Y n0 G h k n (mkF m pc' Ls (.long z :: S))) : Go p l e R s m args below meth c Y n0 G h k n (mkF m pc Ls (.long y :: .long x :: S)) := by
  subst hp hv; exact stepG (fun T locs X _ _ q => XS.ladd X.here C.1 rfl (hb C.2.2.1 hd) rfl q) g
theorem lsub (C : Cx p s m meth c Z n0 own bytes ml ret) {x y z : Int64} (hd : decode bytes pc = .ok (.lsub, 1)) (hp : pc + 1 = pc') (hv : x - y = z)
    (g : Go p l e R s m args below meth c Y n0 G h k n (mkF m pc' Ls (.long z :: S))) : Go p l e R s m args below meth c Y n0 G h k n (mkF m pc Ls (.long y :: .long x :: S)) := by
  subst hp hv; exact stepG (fun T locs X _ _ q => XS.lsub X.here C.1 rfl (hb C.2.2.1 hd) rfl q) g
theorem lmul (C : Cx p s m meth c Z n0 own bytes ml ret) {x y z : Int64} (hd : decode bytes pc = .ok (.lmul, 1)) (hp : pc + 1 = pc') (hv : x * y = z)
    (g : Go p l e R s m args below meth c Y n0 G h k n (mkF m pc' Ls (.long z :: S))) : Go p l e R s m args below meth c Y n0 G h k n (mkF m pc Ls (.long y :: .long x :: S)) := by
  subst hp hv; exact stepG (fun T locs X _ _ q => XS.lmul X.here C.1 rfl (hb C.2.2.1 hd) rfl q) g
theorem land (C : Cx p s m meth c Z n0 own bytes ml ret) {x y z : Int64} (hd : decode bytes pc = .ok (.land, 1)) (hp : pc + 1 = pc') (hv : x &&& y = z)
    (g : Go p l e R s m args below meth c Y n0 G h k n (mkF m pc' Ls (.long z :: S))) : Go p l e R s m args below meth c Y n0 G h k n (mkF m pc Ls (.long y :: .long x :: S)) := by
  subst hp hv; exact stepG (fun T locs X _ _ q => XS.land X.here C.1 rfl (hb C.2.2.1 hd) rfl q) g
theorem lor (C : Cx p s m meth c Z n0 own bytes ml ret) {x y z : Int64} (hd : decode bytes pc = .ok (.lor, 1)) (hp : pc + 1 = pc') (hv : x ||| y = z)
    (g : Go p l e R s m args below meth c Y n0 G h k n (mkF m pc' Ls (.long z :: S))) : Go p l e R s m args below meth c Y n0 G h k n (mkF m pc Ls (.long y :: .long x :: S)) := by
  subst hp hv; exact stepG (fun T locs X _ _ q => XS.lor X.here C.1 rfl (hb C.2.2.1 hd) rfl q) g
theorem lxor (C : Cx p s m meth c Z n0 own bytes ml ret) {x y z : Int64} (hd : decode bytes pc = .ok (.lxor, 1)) (hp : pc + 1 = pc') (hv : x ^^^ y = z)
    (g : Go p l e R s m args below meth c Y n0 G h k n (mkF m pc' Ls (.long z :: S))) : Go p l e R s m args below meth c Y n0 G h k n (mkF m pc Ls (.long y :: .long x :: S)) := by
  subst hp hv; exact stepG (fun T locs X _ _ q => XS.lxor X.here C.1 rfl (hb C.2.2.1 hd) rfl q) g
theorem ishl (C : Cx p s m meth c Z n0 own bytes ml ret) {x z : Int32} {y : Int32} (hd : decode bytes pc = .ok (.ishl, 1)) (hp : pc + 1 = pc') (hv : (x <<< (y &&& 31)) = z)
    (g : Go p l e R s m args below meth c Y n0 G h k n (mkF m pc' Ls (.int z :: S))) : Go p l e R s m args below meth c Y n0 G h k n (mkF m pc Ls (.int y :: .int x :: S)) := by
  subst hp hv; exact stepG (fun T locs X _ _ q => XS.ishl X.here C.1 rfl (hb C.2.2.1 hd) rfl q) g
theorem ishr (C : Cx p s m meth c Z n0 own bytes ml ret) {x z : Int32} {y : Int32} (hd : decode bytes pc = .ok (.ishr, 1)) (hp : pc + 1 = pc') (hv : (x >>> (y &&& 31)) = z)
    (g : Go p l e R s m args below meth c Y n0 G h k n (mkF m pc' Ls (.int z :: S))) : Go p l e R s m args below meth c Y n0 G h k n (mkF m pc Ls (.int y :: .int x :: S)) := by
  subst hp hv; exact stepG (fun T locs X _ _ q => XS.ishr X.here C.1 rfl (hb C.2.2.1 hd) rfl q) g
theorem iushr (C : Cx p s m meth c Z n0 own bytes ml ret) {x z : Int32} {y : Int32} (hd : decode bytes pc = .ok (.iushr, 1)) (hp : pc + 1 = pc') (hv : ((x).toUInt32 >>> (y &&& 31).toUInt32).toInt32 = z)
    (g : Go p l e R s m args below meth c Y n0 G h k n (mkF m pc' Ls (.int z :: S))) : Go p l e R s m args below meth c Y n0 G h k n (mkF m pc Ls (.int y :: .int x :: S)) := by
  subst hp hv; exact stepG (fun T locs X _ _ q => XS.iushr X.here C.1 rfl (hb C.2.2.1 hd) rfl q) g
theorem lshl (C : Cx p s m meth c Z n0 own bytes ml ret) {x z : Int64} {y : Int32} (hd : decode bytes pc = .ok (.lshl, 1)) (hp : pc + 1 = pc') (hv : (x <<< (y &&& 0x3f).toInt64) = z)
    (g : Go p l e R s m args below meth c Y n0 G h k n (mkF m pc' Ls (.long z :: S))) : Go p l e R s m args below meth c Y n0 G h k n (mkF m pc Ls (.int y :: .long x :: S)) := by
  subst hp hv; exact stepG (fun T locs X _ _ q => XS.lshl X.here C.1 rfl (hb C.2.2.1 hd) rfl q) g
theorem lshr (C : Cx p s m meth c Z n0 own bytes ml ret) {x z : Int64} {y : Int32} (hd : decode bytes pc = .ok (.lshr, 1)) (hp : pc + 1 = pc') (hv : (x >>> (y &&& 0x3f).toInt64) = z)
    (g : Go p l e R s m args below meth c Y n0 G h k n (mkF m pc' Ls (.long z :: S))) : Go p l e R s m args below meth c Y n0 G h k n (mkF m pc Ls (.int y :: .long x :: S)) := by
  subst hp hv; exact stepG (fun T locs X _ _ q => XS.lshr X.here C.1 rfl (hb C.2.2.1 hd) rfl q) g
theorem lushr (C : Cx p s m meth c Z n0 own bytes ml ret) {x z : Int64} {y : Int32} (hd : decode bytes pc = .ok (.lushr, 1)) (hp : pc + 1 = pc') (hv : ((x).toUInt64 >>> (y &&& 0x3f).toInt64.toUInt64).toInt64 = z)
    (g : Go p l e R s m args below meth c Y n0 G h k n (mkF m pc' Ls (.long z :: S))) : Go p l e R s m args below meth c Y n0 G h k n (mkF m pc Ls (.int y :: .long x :: S)) := by
  subst hp hv; exact stepG (fun T locs X _ _ q => XS.lushr X.here C.1 rfl (hb C.2.2.1 hd) rfl q) g
theorem ineg (C : Cx p s m meth c Z n0 own bytes ml ret) {x : Int32} {z : Int32} (hd : decode bytes pc = .ok (.ineg, 1)) (hp : pc + 1 = pc') (hv : (-x) = z)
    (g : Go p l e R s m args below meth c Y n0 G h k n (mkF m pc' Ls (.int z :: S))) : Go p l e R s m args below meth c Y n0 G h k n (mkF m pc Ls (.int x :: S)) := by
  subst hp hv; exact stepG (fun T locs X _ _ q => XS.ineg X.here C.1 rfl (hb C.2.2.1 hd) rfl q) g
theorem lneg (C : Cx p s m meth c Z n0 own bytes ml ret) {x : Int64} {z : Int64} (hd : decode bytes pc = .ok (.lneg, 1)) (hp : pc + 1 = pc') (hv : (-x) = z)
    (g : Go p l e R s m args below meth c Y n0 G h k n (mkF m pc' Ls (.long z :: S))) : Go p l e R s m args below meth c Y n0 G h k n (mkF m pc Ls (.long x :: S)) := by
  subst hp hv; exact stepG (fun T locs X _ _ q => XS.lneg X.here C.1 rfl (hb C.2.2.1 hd) rfl q) g
theorem i2l (C : Cx p s m meth c Z n0 own bytes ml ret) {x : Int32} {z : Int64} (hd : decode bytes pc = .ok (.i2l, 1)) (hp : pc + 1 = pc') (hv : (x).toInt64 = z)
    (g : Go p l e R s m args below meth c Y n0 G h k n (mkF m pc' Ls (.long z :: S))) : Go p l e R s m args below meth c Y n0 G h k n (mkF m pc Ls (.int x :: S)) := by
  subst hp hv; exact stepG (fun T locs X _ _ q => XS.i2l X.here C.1 rfl (hb C.2.2.1 hd) rfl q) g
theorem l2i (C : Cx p s m meth c Z n0 own bytes ml ret) {x : Int64} {z : Int32} (hd : decode bytes pc = .ok (.l2i, 1)) (hp : pc + 1 = pc') (hv : (x).toInt32 = z)
    (g : Go p l e R s m args below meth c Y n0 G h k n (mkF m pc' Ls (.int z :: S))) : Go p l e R s m args below meth c Y n0 G h k n (mkF m pc Ls (.long x :: S)) := by
  subst hp hv; exact stepG (fun T locs X _ _ q => XS.l2i X.here C.1 rfl (hb C.2.2.1 hd) rfl q) g
theorem i2b (C : Cx p s m meth c Z n0 own bytes ml ret) {x : Int32} {z : Int32} (hd : decode bytes pc = .ok (.i2b, 1)) (hp : pc + 1 = pc') (hv : (x).toInt8.toInt32 = z)
    (g : Go p l e R s m args below meth c Y n0 G h k n (mkF m pc' Ls (.int z :: S))) : Go p l e R s m args below meth c Y n0 G h k n (mkF m pc Ls (.int x :: S)) := by
  subst hp hv; exact stepG (fun T locs X _ _ q => XS.i2b X.here C.1 rfl (hb C.2.2.1 hd) rfl q) g
theorem i2s (C : Cx p s m meth c Z n0 own bytes ml ret) {x : Int32} {z : Int32} (hd : decode bytes pc = .ok (.i2s, 1)) (hp : pc + 1 = pc') (hv : (x).toInt16.toInt32 = z)
    (g : Go p l e R s m args below meth c Y n0 G h k n (mkF m pc' Ls (.int z :: S))) : Go p l e R s m args below meth c Y n0 G h k n (mkF m pc Ls (.int x :: S)) := by
  subst hp hv; exact stepG (fun T locs X _ _ q => XS.i2s X.here C.1 rfl (hb C.2.2.1 hd) rfl q) g
theorem i2c (C : Cx p s m meth c Z n0 own bytes ml ret) {x : Int32} {z : Int32} (hd : decode bytes pc = .ok (.i2c, 1)) (hp : pc + 1 = pc') (hv : (x).toUInt32.toUInt16.toUInt32.toInt32 = z)
    (g : Go p l e R s m args below meth c Y n0 G h k n (mkF m pc' Ls (.int z :: S))) : Go p l e R s m args below meth c Y n0 G h k n (mkF m pc Ls (.int x :: S)) := by
  subst hp hv; exact stepG (fun T locs X _ _ q => XS.i2c X.here C.1 rfl (hb C.2.2.1 hd) rfl q) g
theorem idiv (C : Cx p s m meth c Z n0 own bytes ml ret) {x y z : Int32} (hd : decode bytes pc = .ok (.idiv, 1)) (hp : pc + 1 = pc') (hy : y ≠ 0) (hv : x / y = z)
    (g : Go p l e R s m args below meth c Y n0 G h k n (mkF m pc' Ls (.int z :: S))) : Go p l e R s m args below meth c Y n0 G h k n (mkF m pc Ls (.int y :: .int x :: S)) := by
  subst hp hv; exact stepG (fun T locs X _ _ q => XS.idiv X.here C.1 rfl (hb C.2.2.1 hd) rfl hy q) g
theorem ldiv (C : Cx p s m meth c Z n0 own bytes ml ret) {x y z : Int64} (hd : decode bytes pc = .ok (.ldiv, 1)) (hp : pc + 1 = pc') (hy : y ≠ 0) (hv : x / y = z)
    (g : Go p l e R s m args below meth c Y n0 G h k n (mkF m pc' Ls (.long z :: S))) : Go p l e R s m args below meth c Y n0 G h k n (mkF m pc Ls (.long y :: .long x :: S)) := by
  subst hp hv; exact stepG (fun T locs X _ _ q => XS.ldiv X.here C.1 rfl (hb C.2.2.1 hd) rfl hy q) g
theorem irem (C : Cx p s m meth c Z n0 own bytes ml ret) {x y z : Int32} (hd : decode bytes pc = .ok (.irem, 1)) (hp : pc + 1 = pc') (hy : y ≠ 0) (hv : x % y = z)
    (g : Go p l e R s m args below meth c Y n0 G h k n (mkF m pc' Ls (.int z :: S))) : Go p l e R s m args below meth c Y n0 G h k n (mkF m pc Ls (.int y :: .int x :: S)) := by
  subst hp; rw [← irem_eq_mod x y] at hv; subst hv; exact stepG (fun T locs X _ _ q => XS.irem X.here C.1 rfl (hb C.2.2.1 hd) rfl hy q) g
theorem lrem (C : Cx p s m meth c Z n0 own bytes ml ret) {x y z : Int64} (hd : decode bytes pc = .ok (.lrem, 1)) (hp : pc + 1 = pc') (hy : y ≠ 0) (hv : x % y = z)
    (g : Go p l e R s m args below meth c Y n0 G h k n (mkF m pc' Ls (.long z :: S))) : Go p l e R s m args below meth c Y n0 G h k n (mkF m pc Ls (.long y :: .long x :: S)) := by
  subst hp; rw [← lrem_mod x y] at hv; subst hv; exact stepG (fun T locs X _ _ q => XS.lrem X.here C.1 rfl (hb C.2.2.1 hd) rfl hy q) g
theorem iinc (C : Cx p s m meth c Z n0 own bytes ml ret) {i : Nat} {cst : Int} {x z : Int32} (hd : decode bytes pc = .ok (.iinc i cst, 3)) (hp : pc + 3 = pc') (hl : Ls[i]? = some (.val (.int x))) (hv : x + Int32.ofInt cst = z) (hl' : storeLocals Ls i (.int z) = some Ls')
    (g : Go p l e R s m args below meth c Y n0 G h k n (mkF m pc' Ls' S)) : Go p l e R s m args below meth c Y n0 G h k n (mkF m pc Ls S) := by
  subst hp hv; exact stepG (fun T locs X _ _ q => XS.iinc X.here C.1 rfl (hb C.2.2.1 hd) hl hl' q) g
theorem dup (C : Cx p s m meth c Z n0 own bytes ml ret) {x : Value} (hd : decode bytes pc = .ok (.dup, 1)) (hp : pc + 1 = pc') (hc : x.category = 1)
    (g : Go p l e R s m args below meth c Y n0 G h k n (mkF m pc' Ls (x :: x :: S))) : Go p l e R s m args below meth c Y n0 G h k n (mkF m pc Ls (x :: S)) := by
  subst hp; exact stepG (fun T locs X _ _ q => XS.dup X.here C.1 rfl (hb C.2.2.1 hd) rfl hc q) g
theorem dup_x1 (C : Cx p s m meth c Z n0 own bytes ml ret) {x y : Value} (hd : decode bytes pc = .ok (.dup_x1, 1)) (hp : pc + 1 = pc') (hc : x.category = 1) (hc2 : y.category = 1)
    (g : Go p l e R s m args below meth c Y n0 G h k n (mkF m pc' Ls (x :: y :: x :: S))) : Go p l e R s m args below meth c Y n0 G h k n (mkF m pc Ls (x :: y :: S)) := by
  subst hp; exact stepG (fun T locs X _ _ q => XS.dupX1 X.here C.1 rfl (hb C.2.2.1 hd) rfl hc hc2 q) g
theorem dup2L (C : Cx p s m meth c Z n0 own bytes ml ret) {x : Int64} (hd : decode bytes pc = .ok (.dup2, 1)) (hp : pc + 1 = pc')
    (g : Go p l e R s m args below meth c Y n0 G h k n (mkF m pc' Ls (.long x :: .long x :: S))) : Go p l e R s m args below meth c Y n0 G h k n (mkF m pc Ls (.long x :: S)) := by
  subst hp; exact stepG (fun T locs X _ _ q => Jvm.Free.XT.dup2L X.here C.1 rfl (hb C.2.2.1 hd) rfl q) g
theorem dup2 (C : Cx p s m meth c Z n0 own bytes ml ret) {x y : Value} (hd : decode bytes pc = .ok (.dup2, 1)) (hp : pc + 1 = pc') (hc : x.category = 1) (hc2 : y.category = 1)
    (g : Go p l e R s m args below meth c Y n0 G h k n (mkF m pc' Ls (x :: y :: x :: y :: S))) : Go p l e R s m args below meth c Y n0 G h k n (mkF m pc Ls (x :: y :: S)) := by
  subst hp; exact stepG (fun T locs X _ _ q => Jvm.Free.XT.dup2 X.here C.1 rfl (hb C.2.2.1 hd) rfl hc hc2 q) g
theorem pop (C : Cx p s m meth c Z n0 own bytes ml ret) {x : Value} (hd : decode bytes pc = .ok (.pop, 1)) (hp : pc + 1 = pc') (hc : x.category = 1)
    (g : Go p l e R s m args below meth c Y n0 G h k n (mkF m pc' Ls S)) : Go p l e R s m args below meth c Y n0 G h k n (mkF m pc Ls (x :: S)) := by
  subst hp; exact stepG (fun T locs X _ _ q => XS.pop X.here C.1 rfl (hb C.2.2.1 hd) rfl hc q) g
theorem goto (C : Cx p s m meth c Z n0 own bytes ml ret) {o : Int} (hd : decode bytes pc = .ok (.goto o, 3)) (ho : 0 ≤ (pc : Int) + o) (hp : ((pc : Int) + o).toNat = pc')
    (g : Go p l e R s m args below meth c Y n0 G h k n (mkF m pc' Ls S)) : Go p l e R s m args below meth c Y n0 G h k n (mkF m pc Ls S) := by
  exact stepG (fun T locs X _ _ q => XS.goto X.here C.1 rfl (pc0 := pc) rfl (hb C.2.2.1 hd) ho hp q) g

/-! branches: P: taken, P': not taken -/
theorem icmp (C : Cx p s m meth c Z n0 own bytes ml ret) {cd : ClassFile.Cond} {o : Int} {x y : Int32} (hd : decode bytes pc = .ok (.if_icmp cd o, 3)) (ho : 0 ≤ (pc : Int) + o) (hp : ((pc : Int) + o).toNat = pc') (hn : pc + 3 = pn)
    {P P' : Prop} (q : (P → if_icmp.holds cd x y = true) ∧ (P' → if_icmp.holds cd x y = false) ∧ (P ∨ P'))
    (g1 : P → Go p l e R s m args below meth c Y n0 G h k n (mkF m pc' Ls S)) (g2 : P' → Go p l e R s m args below meth c Y n0 G h k n (mkF m pn Ls S)) : Go p l e R s m args below meth c Y n0 G h k n (mkF m pc Ls (.int y :: .int x :: S)) := by
  rcases q.2.2 with hP | hP
  · exact stepG (fun T locs X _ _ z => XS.icmpYes X.here C.1 rfl (pc0 := pc) rfl (hb C.2.2.1 hd) rfl (q.1 hP) ho hp z) (g1 hP)
  · subst hn; exact stepG (fun T locs X _ _ z => XS.icmpNo X.here C.1 rfl (hb C.2.2.1 hd) rfl (q.2.1 hP) z) (g2 hP)
theorem ifc (C : Cx p s m meth c Z n0 own bytes ml ret) {cd : ClassFile.Cond} {o : Int} {x : Int32} (hd : decode bytes pc = .ok (.ifCond cd o, 3)) (ho : 0 ≤ (pc : Int) + o) (hp : ((pc : Int) + o).toNat = pc') (hn : pc + 3 = pn)
    {P P' : Prop} (q : (P → if_icmp.holds cd x 0 = true) ∧ (P' → if_icmp.holds cd x 0 = false) ∧ (P ∨ P'))
    (g1 : P → Go p l e R s m args below meth c Y n0 G h k n (mkF m pc' Ls S)) (g2 : P' → Go p l e R s m args below meth c Y n0 G h k n (mkF m pn Ls S)) : Go p l e R s m args below meth c Y n0 G h k n (mkF m pc Ls (.int x :: S)) := by
  rcases q.2.2 with hP | hP
  · exact stepG (fun T locs X _ _ z => XS.ifYes X.here C.1 rfl (pc0 := pc) rfl (hb C.2.2.1 hd) rfl ((if0 _ _).trans (q.1 hP)) ho hp z) (g1 hP)
  · subst hn; exact stepG (fun T locs X _ _ z => XS.ifNo X.here C.1 rfl (hb C.2.2.1 hd) rfl ((if0 _ _).trans (q.2.1 hP)) z) (g2 hP)
/-- lcmp and the branch behind it -/
theorem lcif (C : Cx p s m meth c Z n0 own bytes ml ret) {cd : ClassFile.Cond} {o : Int} {x y : Int64} {pm : Nat} (hd0 : decode bytes pc = .ok (.lcmp, 1)) (hm : pc + 1 = pm) (hd : decode bytes pm = .ok (.ifCond cd o, 3)) (ho : 0 ≤ (pm : Int) + o) (hp : ((pm : Int) + o).toNat = pc') (hn : pm + 3 = pn)
    {P P' : Prop} (q : (P → if_icmp.holds cd (lcmpW x y) 0 = true) ∧ (P' → if_icmp.holds cd (lcmpW x y) 0 = false) ∧ (P ∨ P'))
    (g1 : P → Go p l e R s m args below meth c Y n0 G h k n (mkF m pc' Ls S)) (g2 : P' → Go p l e R s m args below meth c Y n0 G h k n (mkF m pn Ls S)) : Go p l e R s m args below meth c Y n0 G h k n (mkF m pc Ls (.long y :: .long x :: S)) := by
  subst hm
  exact stepG (fun T locs X _ _ z => XS.lcmp X.here C.1 rfl (hb C.2.2.1 hd0) rfl z) (ifc C hd ho hp hn q g1 g2)
theorem q_lt (x y : Int32) : (x.toInt < y.toInt → if_icmp.holds .lt x y = true) ∧ (y.toInt ≤ x.toInt → if_icmp.holds .lt x y = false) ∧ (x.toInt < y.toInt ∨ y.toInt ≤ x.toInt) :=
  ⟨fun q => (tlt (Int32.lt_iff_toInt_lt.mpr q)).1, fun q => (flt (fun w => absurd (Int32.lt_iff_toInt_lt.mp w) (Int.not_lt.mpr q))).1, Int.lt_or_le _ _⟩
theorem q_ge (x y : Int32) : (y.toInt ≤ x.toInt → if_icmp.holds .ge x y = true) ∧ (x.toInt < y.toInt → if_icmp.holds .ge x y = false) ∧ (y.toInt ≤ x.toInt ∨ x.toInt < y.toInt) :=
  ⟨fun q => (flt (fun w => absurd (Int32.lt_iff_toInt_lt.mp w) (Int.not_lt.mpr q))).2.1, fun q => (tlt (Int32.lt_iff_toInt_lt.mpr q)).2.1, (Int.lt_or_le _ _).symm⟩
theorem q_gt (x y : Int32) : (y.toInt < x.toInt → if_icmp.holds .gt x y = true) ∧ (x.toInt ≤ y.toInt → if_icmp.holds .gt x y = false) ∧ (y.toInt < x.toInt ∨ x.toInt ≤ y.toInt) :=
  ⟨fun q => (tlt (Int32.lt_iff_toInt_lt.mpr q)).2.2.1, fun q => (flt (fun w => absurd (Int32.lt_iff_toInt_lt.mp w) (Int.not_lt.mpr q))).2.2.1, Int.lt_or_le _ _⟩
theorem q_le (x y : Int32) : (x.toInt ≤ y.toInt → if_icmp.holds .le x y = true) ∧ (y.toInt < x.toInt → if_icmp.holds .le x y = false) ∧ (x.toInt ≤ y.toInt ∨ y.toInt < x.toInt) :=
  ⟨fun q => (flt (fun w => absurd (Int32.lt_iff_toInt_lt.mp w) (Int.not_lt.mpr q))).2.2.2, fun q => (tlt (Int32.lt_iff_toInt_lt.mpr q)).2.2.2, (Int.lt_or_le _ _).symm⟩
theorem q_eq (x y : Int32) : (x = y → if_icmp.holds .eq x y = true) ∧ (¬ x = y → if_icmp.holds .eq x y = false) ∧ (x = y ∨ ¬ x = y) := ⟨fun q => (teq q).1, fun q => (feq q).1, Classical.em _⟩
theorem q_ne (x y : Int32) : (¬ x = y → if_icmp.holds .ne x y = true) ∧ (x = y → if_icmp.holds .ne x y = false) ∧ (¬ x = y ∨ x = y) := ⟨fun q => (feq q).2, fun q => (teq q).2, (Classical.em _).symm⟩
theorem ql_lt (x y : Int64) : (x.toInt < y.toInt → if_icmp.holds .lt (lcmpW x y) 0 = true) ∧ (y.toInt ≤ x.toInt → if_icmp.holds .lt (lcmpW x y) 0 = false) ∧ (x.toInt < y.toInt ∨ y.toInt ≤ x.toInt) :=
  ⟨fun q => (tlt ((lw_lt x y).mpr (Int64.lt_iff_toInt_lt.mpr q))).1, fun q => (flt (fun w => absurd (Int64.lt_iff_toInt_lt.mp ((lw_lt x y).mp w)) (Int.not_lt.mpr q))).1, Int.lt_or_le _ _⟩
theorem ql_ge (x y : Int64) : (y.toInt ≤ x.toInt → if_icmp.holds .ge (lcmpW x y) 0 = true) ∧ (x.toInt < y.toInt → if_icmp.holds .ge (lcmpW x y) 0 = false) ∧ (y.toInt ≤ x.toInt ∨ x.toInt < y.toInt) :=
  ⟨fun q => (flt (fun w => absurd (Int64.lt_iff_toInt_lt.mp ((lw_lt x y).mp w)) (Int.not_lt.mpr q))).2.1, fun q => (tlt ((lw_lt x y).mpr (Int64.lt_iff_toInt_lt.mpr q))).2.1, (Int.lt_or_le _ _).symm⟩
theorem ql_gt (x y : Int64) : (y.toInt < x.toInt → if_icmp.holds .gt (lcmpW x y) 0 = true) ∧ (x.toInt ≤ y.toInt → if_icmp.holds .gt (lcmpW x y) 0 = false) ∧ (y.toInt < x.toInt ∨ x.toInt ≤ y.toInt) :=
  ⟨fun q => (tlt ((lw_gt x y).mpr (Int64.lt_iff_toInt_lt.mpr q))).2.2.1, fun q => (flt (fun w => absurd (Int64.lt_iff_toInt_lt.mp ((lw_gt x y).mp w)) (Int.not_lt.mpr q))).2.2.1, Int.lt_or_le _ _⟩
theorem ql_le (x y : Int64) : (x.toInt ≤ y.toInt → if_icmp.holds .le (lcmpW x y) 0 = true) ∧ (y.toInt < x.toInt → if_icmp.holds .le (lcmpW x y) 0 = false) ∧ (x.toInt ≤ y.toInt ∨ y.toInt < x.toInt) :=
  ⟨fun q => (flt (fun w => absurd (Int64.lt_iff_toInt_lt.mp ((lw_gt x y).mp w)) (Int.not_lt.mpr q))).2.2.2, fun q => (tlt ((lw_gt x y).mpr (Int64.lt_iff_toInt_lt.mpr q))).2.2.2, (Int.lt_or_le _ _).symm⟩
theorem ql_eq (x y : Int64) : (x = y → if_icmp.holds .eq (lcmpW x y) 0 = true) ∧ (¬ x = y → if_icmp.holds .eq (lcmpW x y) 0 = false) ∧ (x = y ∨ ¬ x = y) := ⟨fun q => (teq ((lw_eq x y).mpr q)).1, fun q => (feq (fun w => q ((lw_eq x y).mp w))).1, Classical.em _⟩
theorem ql_ne (x y : Int64) : (¬ x = y → if_icmp.holds .ne (lcmpW x y) 0 = true) ∧ (x = y → if_icmp.holds .ne (lcmpW x y) 0 = false) ∧ (¬ x = y ∨ x = y) := ⟨fun q => (feq (fun w => q ((lw_eq x y).mp w))).2, fun q => (teq ((lw_eq x y).mpr q)).2, (Classical.em _).symm⟩

theorem acmp (C : Cx p s m meth c Z n0 own bytes ml ret) {cd : ACond} {o : Int} {x y : Value} (h1 : x.isRef = true) (h2 : y.isRef = true) (hd : decode bytes pc = .ok (.if_acmp cd o, 3)) (ho : 0 ≤ (pc : Int) + o) (hp : ((pc : Int) + o).toNat = pc') (hn : pc + 3 = pn)
    {P P' : Prop} (q : (P → acV cd (decide (x = y)) = true) ∧ (P' → acV cd (decide (x = y)) = false) ∧ (P ∨ P'))
    (g1 : P → Go p l e R s m args below meth c Y n0 G h k n (mkF m pc' Ls S)) (g2 : P' → Go p l e R s m args below meth c Y n0 G h k n (mkF m pn Ls S)) : Go p l e R s m args below meth c Y n0 G h k n (mkF m pc Ls (y :: x :: S)) := by
  rcases q.2.2 with hP | hP
  · exact stepG (fun T locs X _ _ z => Jvm.RoadKit.acmp (g := mkF m pc Ls (y :: x :: S)) X C.1 rfl h1 h2 (pc0 := pc) (pc' := pc') (same := decide (x = y)) rfl (hb C.2.2.1 hd) rfl rfl ho (by rw [q.1 hP]; exact hp.symm) z) (g1 hP)
  · exact stepG (fun T locs X _ _ z => Jvm.RoadKit.acmp (g := mkF m pc Ls (y :: x :: S)) X C.1 rfl h1 h2 (pc0 := pc) (pc' := pn) (same := decide (x = y)) rfl (hb C.2.2.1 hd) rfl rfl ho (by rw [q.2.1 hP]; exact hn.symm) z) (g2 hP)
theorem qa_eq (a b : Addr) : (a = b → acV .eq (decide (Value.ref a = Value.ref b)) = true) ∧ (¬ a = b → acV .eq (decide (Value.ref a = Value.ref b)) = false) ∧ (a = b ∨ ¬ a = b) :=
  ⟨fun q => decide_eq_true (congrArg Value.ref q), fun q => decide_eq_false fun z => q (Value.ref.inj z), Classical.em _⟩
theorem qa_ne (a b : Addr) : (¬ a = b → acV .ne (decide (Value.ref a = Value.ref b)) = true) ∧ (a = b → acV .ne (decide (Value.ref a = Value.ref b)) = false) ∧ (¬ a = b ∨ a = b) :=
  ⟨fun q => by rw [decide_eq_false fun z => q (Value.ref.inj z)]; rfl, fun q => by rw [decide_eq_true (congrArg Value.ref q)]; rfl, (Classical.em _).symm⟩
theorem ifnullT (C : Cx p s m meth c Z n0 own bytes ml ret) {o : Int} (hd : decode bytes pc = .ok (.ifnull o, 3)) (ho : 0 ≤ (pc : Int) + o) (hp : ((pc : Int) + o).toNat = pc')
    (g : Go p l e R s m args below meth c Y n0 G h k n (mkF m pc' Ls S)) : Go p l e R s m args below meth c Y n0 G h k n (mkF m pc Ls (.null :: S)) := stepG (fun T locs X _ _ z => XS.ifnullYes X.here C.1 rfl (pc0 := pc) rfl (hb C.2.2.1 hd) rfl ho hp z) g
theorem ifnullF (C : Cx p s m meth c Z n0 own bytes ml ret) {o : Int} {a : Addr} (hd : decode bytes pc = .ok (.ifnull o, 3)) (hp : pc + 3 = pc')
    (g : Go p l e R s m args below meth c Y n0 G h k n (mkF m pc' Ls S)) : Go p l e R s m args below meth c Y n0 G h k n (mkF m pc Ls (.ref a :: S)) := by subst hp; exact stepG (fun T locs X _ _ z => XS.ifnullNo X.here C.1 rfl (hb C.2.2.1 hd) rfl z) g
theorem ifnonnullT (C : Cx p s m meth c Z n0 own bytes ml ret) {o : Int} {a : Addr} (hd : decode bytes pc = .ok (.ifnonnull o, 3)) (ho : 0 ≤ (pc : Int) + o) (hp : ((pc : Int) + o).toNat = pc')
    (g : Go p l e R s m args below meth c Y n0 G h k n (mkF m pc' Ls S)) : Go p l e R s m args below meth c Y n0 G h k n (mkF m pc Ls (.ref a :: S)) := stepG (fun T locs X _ _ z => XS.ifnonnullYes X.here C.1 rfl (pc0 := pc) rfl (hb C.2.2.1 hd) rfl ho hp z) g
theorem ifnonnullF (C : Cx p s m meth c Z n0 own bytes ml ret) {o : Int} (hd : decode bytes pc = .ok (.ifnonnull o, 3)) (hp : pc + 3 = pc')
    (g : Go p l e R s m args below meth c Y n0 G h k n (mkF m pc' Ls S)) : Go p l e R s m args below meth c Y n0 G h k n (mkF m pc Ls (.null :: S)) := by subst hp; exact stepG (fun T locs X _ _ z => XS.ifnonnullNo X.here C.1 rfl (hb C.2.2.1 hd) rfl z) g

/-! returns -/
theorem retZ {t : FieldType} (C : Cx p s m meth c Z n0 own bytes ml (some t)) {z w : Int32} (ht : t = .boolean ∨ t = .byte ∨ t = .char ∨ t = .short) (hd : decode bytes pc = .ok (.ireturn, 1)) (hv : nar t z = w) (hk : k ≤ K) (hn : n ≤ N) (hY : ∀ s₂ o L, s₂.heap = h → FrameEnd s o s₂ L K N → Y s₂ o L) (g : G (some (.int w)) h) :
    Go p l e R s m args below meth c Y n0 G h k n (mkF m pc Ls (.int z :: S)) := fun T ⟨locs, F, X, eT⟩ => by
  subst hv eT
  have hlk : meth.locks = false := C.2.2.2.2.2.2.1
  obtain ⟨fs, hr, hrun, hended, hW, hsame⟩ := X.leave (v := some (.int (nar t z))) (fun q => by rw [C.2.2.2.2.2.1] at q; cases q) hlk
  exact ⟨_, _, retN X C.1 (t := t) C.2.2.2.2.2.1 ht (hb C.2.2.1 hd) hr, hrun, hended, _, _, rfl, ⟨g, F⟩, hY _ _ _ rfl ⟨⟨_, rfl⟩, hW, hsame.mono hk hn⟩⟩
theorem retV {t : FieldType} (C : Cx p s m meth c Z n0 own bytes ml (some t)) {w : Value} {i : Instr} (hv : narrow t w = w)
    (hi : (i = .ireturn ∧ (t = .int ∨ t = .boolean ∨ t = .byte ∨ t = .char ∨ t = .short) ∧ ∃ z, w = .int z) ∨ (i = .lreturn ∧ t = .long ∧ ∃ z, w = .long z) ∨ (i = .dreturn ∧ t = .double ∧ ∃ z, w = .double z) ∨ (i = .freturn ∧ t = .float ∧ ∃ z, w = .float z) ∨ (i = .areturn ∧ t.isReference = true ∧ w.isRef = true))
    (hd : decode bytes pc = .ok (i, 1)) (hk : k ≤ K) (hn : n ≤ N) (hY : ∀ s₂ o L, s₂.heap = h → FrameEnd s o s₂ L K N → Y s₂ o L) (g : G (some w) h) :
    Go p l e R s m args below meth c Y n0 G h k n (mkF m pc Ls (w :: S)) := fun T ⟨locs, F, X, eT⟩ => by
  subst eT
  have hlk : meth.locks = false := C.2.2.2.2.2.2.1
  obtain ⟨fs, hr, hrun, hended, hW, hsame⟩ := X.leave (v := some w) (fun q => by rw [C.2.2.2.2.2.1] at q; cases q) hlk
  exact ⟨_, _, retOut X C.1 (t := t) C.2.2.2.2.2.1 hv hi (hb C.2.2.1 hd) hr, hrun, hended, _, _, rfl, ⟨g, F⟩, hY _ _ _ rfl ⟨⟨_, rfl⟩, hW, hsame.mono hk hn⟩⟩
theorem retI (C : Cx p s m meth c Z n0 own bytes ml (some .int)) {z : Int32} (hd : decode bytes pc = .ok (.ireturn, 1)) (hk : k ≤ K) (hn : n ≤ N) (hY : ∀ s₂ o L, s₂.heap = h → FrameEnd s o s₂ L K N → Y s₂ o L) (g : G (some (.int z)) h) :
    Go p l e R s m args below meth c Y n0 G h k n (mkF m pc Ls (.int z :: S)) := retV C rfl (Or.inl ⟨rfl, Or.inl rfl, _, rfl⟩) hd hk hn hY g
theorem retL (C : Cx p s m meth c Z n0 own bytes ml (some .long)) {z : Int64} (hd : decode bytes pc = .ok (.lreturn, 1)) (hk : k ≤ K) (hn : n ≤ N) (hY : ∀ s₂ o L, s₂.heap = h → FrameEnd s o s₂ L K N → Y s₂ o L) (g : G (some (.long z)) h) :
    Go p l e R s m args below meth c Y n0 G h k n (mkF m pc Ls (.long z :: S)) := retV C rfl (Or.inr (Or.inl ⟨rfl, rfl, _, rfl⟩)) hd hk hn hY g
theorem retA {t : FieldType} (C : Cx p s m meth c Z n0 own bytes ml (some t)) {w : Value} (ht : t.isReference = true) (hw : w.isRef = true) (hn' : narrow t w = w) (hd : decode bytes pc = .ok (.areturn, 1)) (hk : k ≤ K) (hn : n ≤ N) (hY : ∀ s₂ o L, s₂.heap = h → FrameEnd s o s₂ L K N → Y s₂ o L) (g : G (some w) h) :
    Go p l e R s m args below meth c Y n0 G h k n (mkF m pc Ls (w :: S)) := retV C hn' (Or.inr (Or.inr (Or.inr (Or.inr ⟨rfl, ht, hw⟩)))) hd hk hn hY g
theorem ret0 (C : Cx p s m meth c Z n0 own bytes ml none) (hd : decode bytes pc = .ok (.return_, 1)) (hk : k ≤ K) (hn : n ≤ N) (hY : ∀ s₂ o L, s₂.heap = h → FrameEnd s o s₂ L K N → Y s₂ o L) (g : G none h) :
    Go p l e R s m args below meth c Y n0 G h k n (mkF m pc Ls []) := fun T ⟨locs, F, X, eT⟩ => by
  subst eT
  have hlk : meth.locks = false := C.2.2.2.2.2.2.1
  obtain ⟨fs, hr, hrun, hended, hW, hsame⟩ := X.leave (v := none) (fun _ => rfl) hlk
  exact ⟨_, _, X.returnOut C.1 C.2.2.2.2.2.1 (hb C.2.2.1 hd) hr, hrun, hended, _, _, rfl, ⟨g, F⟩, hY _ _ _ rfl ⟨⟨_, rfl⟩, hW, hsame.mono hk hn⟩⟩

theorem hz (C : Cx p s m meth c Z n0 own bytes ml ret) {T : State} {locs : List Loc} (X : Stand p l e R s m args below meth c T locs k n) (eT : T.heap = h) : n0 ≤ h.size := eT ▸ Nat.le_trans C.2.2.2.2.2.2.2 X.same.2.1
/-! calls -/
theorem callS (C : Cx p s m meth c Z n0 own bytes ml ret) {i : Nat} {y : MethodName} {b' : ByteArray} {mL : Nat} {r' : Option FieldType} {rm : Room} {Gc : Option Value → Heap → Prop} {argsL rest : List Value} {W : Nat}
    (w1 : (Cond.methodLink own i y).before a0 Z = true) (w2 : (Cond.static y).before a0 Z = true) (w3 : (Cond.initialized y.cls).before a0 Z = true) (w4 : (Cond.code y b' mL r').before a0 Z = true)
    (hy : y.cls ≠ "java/lang/invoke/MethodHandle" ∧ y.cls ≠ "java/lang/invoke/VarHandle") (con : n0 ≤ h.size → Con l Z y b' mL r' [] rm rm.cells rm.slots argsL.toArray h n0 Gc)
    (hd : decode bytes pc = .ok (.invokestatic i, 3)) (hp : pc + 3 = pc') (hsz : Ls.size = ml) {ps : List FieldType} {rr : Option FieldType} (hds : parseMethodDescriptor y.desc = some ⟨ps, rr⟩) (hlen : argsL.length = ps.length)
    (hS : S = argsL.reverse ++ rest) (hW : (rest.map fun v => v.category).sum = W) (hf : rm.frames + 1 ≤ R.frames) (hl : W + (mL + 11) + rm.locals ≤ R.locals) (hc : k + rm.cells ≤ R.cells) (hs : n + rm.slots ≤ R.slots) {k' n' : Nat} (hk' : k + rm.cells = k') (hn' : n + rm.slots = n')
    (g : ∀ h' v, Gc v h' → Go p l e R s m args below meth c Y n0 G h' k' n' (mkF m pc' Ls (v.toList ++ rest))) :
    Go p l e R s m args below meth c Y n0 G h k n (mkF m pc Ls S) := fun T ⟨locs, F, X, eT⟩ => by
  subst hp hS hk' hn'
  obtain ⟨v, _, ⟨T', L', k', n'⟩, -, X', ⟨Lc, ⟨hQ, hF⟩, l1, y1, z1⟩, st⟩ := Jvm.LawKit.callS X C.1 C.2.2.2.2.1 (mvT C.2.1 w1) (mvT C.2.1 w2) (mvT C.2.1 w3) (mvT C.2.1 w4) hy
    (backOf (W := W) (Q := fun v h L => Gc v h ∧ Fr n0 L) (con (hz C X eT)) C.2.1 w4 w3 hf hl) (g := mkF m pc Ls (argsL.reverse ++ rest)) rfl (hsz.trans C.2.2.2.1.symm) (argsL := argsL) (rest := rest) (lenOf hds hlen) rfl (by show 2 * 0 + _ ≤ _; rw [Nat.mul_zero, Nat.zero_add]; exact Nat.le_of_eq hW) (hb C.2.2.1 hd) (fun _ _ => ⟨rfl, eT, hc, hs⟩)
  dsimp only [Pt.U, Pt.locs, Pt.cells, Pt.slots] at X' l1 y1 z1 st hQ
  subst l1 y1 z1
  exact step (fun t q => st t q) (g T'.heap v hQ T' ⟨_, Fr.app F hF, X', rfl⟩)
theorem callSp (C : Cx p s m meth c Z n0 own bytes ml ret) {i : Nat} {y : MethodName} {b' : ByteArray} {mL : Nat} {rm : Room} {Gc : Option Value → Heap → Prop} {a : Addr} {argsL rest : List Value} {W : Nat} (hy1 : y.name = "<init>")
    (w1 : (Cond.methodLink own i y).before a0 Z = true) (w2 : (Cond.instanceMethod y).before a0 Z = true) (w3 : (Cond.initialized y.cls).before a0 Z = true) (w4 : (Cond.code y b' mL none).before a0 Z = true)
    (hy : y.cls ≠ "java/lang/invoke/MethodHandle" ∧ y.cls ≠ "java/lang/invoke/VarHandle") (con : n0 ≤ h.size → Con l Z y b' mL none [] rm rm.cells rm.slots (.ref a :: argsL).toArray h n0 Gc)
    (hd : decode bytes pc = .ok (.invokespecial i, 3)) (hp : pc + 3 = pc') (hsz : Ls.size = ml) {ps : List FieldType} {rr : Option FieldType} (hds : parseMethodDescriptor y.desc = some ⟨ps, rr⟩) (hlen : argsL.length = ps.length)
    (hS : S = argsL.reverse ++ .ref a :: rest) (hW : (rest.map fun v => v.category).sum = W) (hf : rm.frames + 1 ≤ R.frames) (hl : W + (mL + 11) + rm.locals ≤ R.locals) (hc : k + rm.cells ≤ R.cells) (hs : n + rm.slots ≤ R.slots) {k' n' : Nat} (hk' : k + rm.cells = k') (hn' : n + rm.slots = n')
    (g : ∀ h' v, Gc v h' → Go p l e R s m args below meth c Y n0 G h' k' n' (mkF m pc' Ls (v.toList ++ rest))) :
    Go p l e R s m args below meth c Y n0 G h k n (mkF m pc Ls S) := fun T ⟨locs, F, X, eT⟩ => by
  subst hp hS hk' hn'
  obtain ⟨v, _, ⟨T', L', k', n'⟩, -, X', ⟨Lc, ⟨hQ, hF⟩, l1, y1, z1⟩, st⟩ := X.specialBack C.1 hy1 C.2.2.2.2.1 (mvT C.2.1 w1) (mvT C.2.1 w2) (mvT C.2.1 w4) hy
    (backOf (W := W) (Q := fun v h L => Gc v h ∧ Fr n0 L) (con (hz C X eT)) C.2.1 w4 w3 hf hl) (g := mkF m pc Ls (argsL.reverse ++ .ref a :: rest)) rfl (hsz.trans C.2.2.2.1.symm) (Steps.refl _) (a := a) (argsL := argsL) (rest := rest) (lenOf hds hlen) rfl (by show 2 * 0 + _ ≤ _; rw [Nat.mul_zero, Nat.zero_add]; exact Nat.le_of_eq hW) (hb C.2.2.1 hd) (fun _ _ => ⟨rfl, eT, hc, hs⟩)
  dsimp only [Pt.U, Pt.locs, Pt.cells, Pt.slots] at X' l1 y1 z1 st hQ
  subst l1 y1 z1
  exact step (fun t q => st.trans q) (g T'.heap v hQ T' ⟨_, Fr.app F hF, X', rfl⟩)
theorem callV (C : Cx p s m meth c Z n0 own bytes ml ret) {i : Nat} {y z : MethodName} {b' : ByteArray} {mL : Nat} {r' : Option FieldType} {rm : Room} {Gc : Option Value → Heap → Prop} {a : Addr} {argsL rest : List Value} {W : Nat} {Cn : String}
    (w1 : (Cond.methodLink own i y).before a0 Z = true) (w2 : (Cond.declares y).before a0 Z = true) (hnf : NotFace s y) (w5 : (Cond.selects Cn y z).before a0 Z = true) (w6 : (Cond.instanceMethod z).before a0 Z = true) (w3 : (Cond.initialized z.cls).before a0 Z = true) (w4 : (Cond.code z b' mL r').before a0 Z = true)
    (hy : y.cls ≠ "java/lang/invoke/MethodHandle" ∧ y.cls ≠ "java/lang/invoke/VarHandle") (E : Exa Z h a Cn) (con : n0 ≤ h.size → Con l Z z b' mL r' [] rm rm.cells rm.slots (.ref a :: argsL).toArray h n0 Gc)
    (hd : decode bytes pc = .ok (.invokevirtual i, 3)) (hp : pc + 3 = pc') (hsz : Ls.size = ml) {ps : List FieldType} {rr : Option FieldType} (hds : parseMethodDescriptor y.desc = some ⟨ps, rr⟩) (hlen : argsL.length = ps.length)
    (hS : S = argsL.reverse ++ .ref a :: rest) (hW : (rest.map fun v => v.category).sum = W) (hf : rm.frames + 1 ≤ R.frames) (hl : W + (mL + 11) + rm.locals ≤ R.locals) (hc : k + rm.cells ≤ R.cells) (hs : n + rm.slots ≤ R.slots) {k' n' : Nat} (hk' : k + rm.cells = k') (hn' : n + rm.slots = n')
    (g : ∀ h' v, Gc v h' → Go p l e R s m args below meth c Y n0 G h' k' n' (mkF m pc' Ls (v.toList ++ rest))) :
    Go p l e R s m args below meth c Y n0 G h k n (mkF m pc Ls S) := fun T ⟨locs, F, X, eT⟩ => by
  subst hp hS hk' hn'
  obtain ⟨cq, kq, qa, qb, qc⟩ := isOf C.2.1 eT E
  obtain ⟨v, _, ⟨T', L', k', n'⟩, -, X', ⟨Lc, ⟨hQ, hF⟩, l1, y1, z1⟩, st⟩ := X.virtualBack C.1 C.2.2.2.2.1 (mvT C.2.1 w1) (mvT C.2.1 w2) hnf (mvT C.2.1 w5) (mvT C.2.1 w6) hy
    (backOf (W := W) (Q := fun v h L => Gc v h ∧ Fr n0 L) (con (hz C X eT)) C.2.1 w4 w3 hf hl) qa qc (g := mkF m pc Ls (argsL.reverse ++ .ref a :: rest)) rfl (hsz.trans C.2.2.2.1.symm) (Steps.refl _) (argsL := argsL) (rest := rest) (lenOf hds hlen) rfl (by show 2 * 0 + _ ≤ _; rw [Nat.mul_zero, Nat.zero_add]; exact Nat.le_of_eq hW) (hb C.2.2.1 hd) (fun _ _ => ⟨rfl, eT, hc, hs⟩)
  dsimp only [Pt.U, Pt.locs, Pt.cells, Pt.slots] at X' l1 y1 z1 st hQ
  subst l1 y1 z1
  exact step (fun t q => st.trans q) (g T'.heap v hQ T' ⟨_, Fr.app F hF, X', rfl⟩)
theorem callI (C : Cx p s m meth c Z n0 own bytes ml ret) {i cnt : Nat} {y z : MethodName} {b' : ByteArray} {mL : Nat} {r' : Option FieldType} {rm : Room} {Gc : Option Value → Heap → Prop} {a : Addr} {argsL rest : List Value} {W : Nat} {Cn : String}
    (w1 : (Cond.methodLink own i y).before a0 Z = true) (w2 : (Cond.declares y).before a0 Z = true) (w7 : (Cond.interfaceMethod y.cls y.cls y.name y.desc).before a0 Z = true) (w5 : (Cond.selects Cn y z).before a0 Z = true) (w6 : (Cond.instanceMethod z).before a0 Z = true) (w8 : (Cond.publicMethod z).before a0 Z = true) (w9 : (Cond.unhidden Cn y.name y.desc).before a0 Z = true) (w10 : (Cond.castable Cn y.cls).before a0 Z = true)
    (w3 : (Cond.initialized z.cls).before a0 Z = true) (w4 : (Cond.code z b' mL r').before a0 Z = true)
    (hy : y.cls ≠ "java/lang/invoke/MethodHandle" ∧ y.cls ≠ "java/lang/invoke/VarHandle") (E : Exa Z h a Cn) (con : n0 ≤ h.size → Con l Z z b' mL r' [] rm rm.cells rm.slots (.ref a :: argsL).toArray h n0 Gc)
    (hd : decode bytes pc = .ok (.invokeinterface i cnt, 5)) (hp : pc + 5 = pc') (hsz : Ls.size = ml) {ps : List FieldType} {rr : Option FieldType} (hds : parseMethodDescriptor y.desc = some ⟨ps, rr⟩) (hlen : argsL.length = ps.length)
    (hS : S = argsL.reverse ++ .ref a :: rest) (hW : (rest.map fun v => v.category).sum = W) (hf : rm.frames + 1 ≤ R.frames) (hl : W + (mL + 11) + rm.locals ≤ R.locals) (hc : k + rm.cells ≤ R.cells) (hs : n + rm.slots ≤ R.slots) {k' n' : Nat} (hk' : k + rm.cells = k') (hn' : n + rm.slots = n')
    (g : ∀ h' v, Gc v h' → Go p l e R s m args below meth c Y n0 G h' k' n' (mkF m pc' Ls (v.toList ++ rest))) :
    Go p l e R s m args below meth c Y n0 G h k n (mkF m pc Ls S) := fun T ⟨locs, F, X, eT⟩ => by
  subst hp hS hk' hn'
  obtain ⟨cq, kq, qa, qb, qc⟩ := isOf C.2.1 eT E
  obtain ⟨v, _, ⟨T', L', k', n'⟩, -, X', ⟨Lc, ⟨hQ, hF⟩, l1, y1, z1⟩, st⟩ := X.interfaceBack C.1 C.2.2.2.2.1 (mvT C.2.1 w1) (mvT C.2.1 w2) (mvT C.2.1 w7 (by simp [Cond.onTables, Cond.keepsFace, Cond.keeps, Cond.steady, Cond.faceAtom, hy.1, hy.2])) (mvT C.2.1 w5) (mvT C.2.1 w6) (mvT C.2.1 w8) (mvT C.2.1 w9) (mvT C.2.1 w10) hy
    (backOf (W := W) (Q := fun v h L => Gc v h ∧ Fr n0 L) (con (hz C X eT)) C.2.1 w4 w3 hf hl) qa qb qc (g := mkF m pc Ls (argsL.reverse ++ .ref a :: rest)) rfl (hsz.trans C.2.2.2.1.symm) (Steps.refl _) (argsL := argsL) (rest := rest) (lenOf hds hlen) rfl (by show 2 * 0 + _ ≤ _; rw [Nat.mul_zero, Nat.zero_add]; exact Nat.le_of_eq hW) (hb C.2.2.1 hd) (fun _ _ => ⟨rfl, eT, hc, hs⟩)
  dsimp only [Pt.U, Pt.locs, Pt.cells, Pt.slots] at X' l1 y1 z1 st hQ
  subst l1 y1 z1
  exact step (fun t q => st.trans q) (g T'.heap v hQ T' ⟨_, Fr.app F hF, X', rfl⟩)
/-- a private method by invokevirtual: no 'selects' word is wanted; the class is instantiable -/
theorem callP (C : Cx p s m meth c Z n0 own bytes ml ret) {i q : Nat} {y : MethodName} {b' : ByteArray} {mL : Nat} {r' : Option FieldType} {rm : Room} {Gc : Option Value → Heap → Prop} {a : Addr} {argsL rest : List Value} {W : Nat} {Cn : String}
    (w1 : (Cond.methodLink own i y).before a0 Z = true) (w6 : (Cond.instanceMethod y).before a0 Z = true) (w7 : (Cond.privateMethod y).before a0 Z = true) (w8 : (Cond.instantiable y.cls q).before a0 Z = true) (w3 : (Cond.initialized y.cls).before a0 Z = true) (w4 : (Cond.code y b' mL r').before a0 Z = true)
    (hy : y.cls ≠ "java/lang/invoke/MethodHandle" ∧ y.cls ≠ "java/lang/invoke/VarHandle") (E : Exa Z h a Cn) (con : n0 ≤ h.size → Con l Z y b' mL r' [] rm rm.cells rm.slots (.ref a :: argsL).toArray h n0 Gc)
    (hd : decode bytes pc = .ok (.invokevirtual i, 3)) (hp : pc + 3 = pc') (hsz : Ls.size = ml) {ps : List FieldType} {rr : Option FieldType} (hds : parseMethodDescriptor y.desc = some ⟨ps, rr⟩) (hlen : argsL.length = ps.length)
    (hS : S = argsL.reverse ++ .ref a :: rest) (hW : (rest.map fun v => v.category).sum = W) (hf : rm.frames + 1 ≤ R.frames) (hl : W + (mL + 11) + rm.locals ≤ R.locals) (hc : k + rm.cells ≤ R.cells) (hs : n + rm.slots ≤ R.slots) {k' n' : Nat} (hk' : k + rm.cells = k') (hn' : n + rm.slots = n')
    (g : ∀ h' v, Gc v h' → Go p l e R s m args below meth c Y n0 G h' k' n' (mkF m pc' Ls (v.toList ++ rest))) :
    Go p l e R s m args below meth c Y n0 G h k n (mkF m pc Ls S) := fun T ⟨locs, F, X, eT⟩ => by
  subst hp hS hk' hn'
  obtain ⟨cell, hc1, hc2⟩ := E.cell
  obtain ⟨mk, methM, hnamed, hmethM, hstM, habM⟩ := Cond.instanceMethod_spec (mvT (args := args) C.2.1 w6)
  obtain ⟨methM', cM, hmethM', -, -, -, -, -, -, hsigM⟩ := Cond.code_spec hnamed (mvT (args := args) C.2.1 w4)
  cases hmethM.symm.trans hmethM'
  obtain ⟨cid, kP, z1, z2, z3, z4, -⟩ := Cond.instantiable_spec (mvT (args := args) C.2.1 w8)
  have z5 : cid = mk.cls := Option.some.inj (z1.symm.trans (findClass_of_methodNamed hnamed))
  subst z5
  have z6 : kP.isInterface = false := by simp only [Bool.or_eq_false_iff] at z4; exact z4.1
  obtain ⟨vm₁, X₁, hstep₁⟩ := X.invokevirtual C.1 C.2.2.2.2.1 (mvT C.2.1 w1) hnamed hmethM hstM z2 z6 hy (a := a) (cell := cell) (by rw [eT]; exact hc1) hc2 (selectMethod_private hmethM (Cond.privateMethod_at (mvP C.2.1 w7 (args := #[])) mk methM hnamed hmethM)) hmethM habM z2 z6 (g := mkF m pc Ls (argsL.reverse ++ .ref a :: rest)) rfl (argsL := argsL) (rest := rest) (lenOf hds hlen _ hsigM) rfl (hb C.2.2.1 hd)
  obtain ⟨v, ⟨T', L', k', n'⟩, X', ⟨Lc, ⟨hQ, hF⟩, l1, y1, z1⟩, hsteps⟩ := (backOf (W := W) (len := 3) (Q := fun v h L => Gc v h ∧ Fr n0 L) (con (hz C X eT)) C.2.1 w4 w3 hf hl) m meth c ⟨T.setVm vm₁, locs, k, n⟩ (mkF m pc Ls rest) (.invokevirtual i) mk (.ref a :: argsL).toArray X₁ rfl (hsz.trans C.2.2.2.1.symm) (hb C.2.2.1 hd) (by show 2 * 0 + _ ≤ _; rw [Nat.mul_zero, Nat.zero_add]; exact Nat.le_of_eq hW) (X₁.named hnamed) ⟨rfl, eT, hc, hs⟩
  dsimp only [Pt.U, Pt.locs, Pt.cells, Pt.slots] at X' l1 y1 z1 hsteps hQ
  subst l1 y1 z1
  exact step (fun t q => (hstep₁ _ fun acts => by rw [doInvoke_state]; exact hsteps).trans q) (g T'.heap v hQ T' ⟨_, Fr.app F hF, X', rfl⟩)
theorem arraycopy (C : Cx p s m meth c Z n0 own bytes ml ret) {i : Nat} {a b : Addr} {ka kb : ClassId} {ty : FieldType} {za zb sp dp nn : Int32} {vs vd : List Value} {dv dd : Value} {W : Nat}
    (w1 : (Cond.methodLink own i Jvm.Stand.acN).before a0 Z = true) (w2 : (Cond.native Jvm.Stand.acN).before a0 Z = true) (w3 : (Cond.static Jvm.Stand.acN).before a0 Z = true) (w4 : (Cond.initialized "java/lang/System").before a0 Z = true)
    (A : Arv Z h a ka ty za vs dv) (B : Arv Z h b kb ty zb vd dd) (hty : refKind ty = false) (h1 : 0 ≤ sp.toInt) (h2 : 0 ≤ dp.toInt) (h3 : 0 ≤ nn.toInt) (h4 : sp.toInt + nn.toInt ≤ za.toInt) (h5 : dp.toInt + nn.toInt ≤ zb.toInt) (hl : dp.toInt.toNat + nn.toInt.toNat ≤ vd.length) (ge : n0 ≤ b)
    (hd : decode bytes pc = .ok (.invokestatic i, 3)) (hp : pc + 3 = pc') (hsz : Ls.size = ml) (hf : 1 ≤ R.frames) (hW : (S.map fun v => v.category).sum = W) (hlo : W + 18 ≤ R.locals)
    (g : ∀ h', Keep h h' [b] → Arv Z h' b kb ty zb (vd.take dp.toInt.toNat ++ (List.range nn.toInt.toNat).map (fun j => vs.getD (sp.toInt.toNat + j) dv) ++ vd.drop (dp.toInt.toNat + nn.toInt.toNat)) dd → Go p l e R s m args below meth c Y n0 G h' k n (mkF m pc' Ls S)) :
    Go p l e R s m args below meth c Y n0 G h k n (mkF m pc Ls (.int nn :: .int dp :: .ref b :: .int sp :: .ref a :: S)) := fun T ⟨locs, F, X, eT⟩ => by
  subst hp
  have nn0 : ∀ {x : Int32}, 0 ≤ x.toInt → ¬ x < 0 := fun {x} q w => by have := Int32.lt_iff_toInt_lt.mp w; simp only [Int32.reduceToInt] at this; omega
  obtain ⟨T', h', L', X', e', F', K', V', st⟩ := cpA X C.1 C.2.1 C.2.2.2.2.1 w1 w2 w3 w4 eT A B (Or.inl ⟨rfl, hty⟩) (nn0 h1) (nn0 h2) (nn0 h3) (by show sp.toInt.toNat + nn.toInt.toNat ≤ za.toInt.toNat; omega) (by show dp.toInt.toNat + nn.toInt.toNat ≤ zb.toInt.toNat; omega) rfl hl F ge
    (g := mkF m pc Ls (.int nn :: .int dp :: .ref b :: .int sp :: .ref a :: S)) rfl (hsz.trans C.2.2.2.1.symm) rfl (hb C.2.2.1 hd) hf (W := W) (by show 2 * 0 + _ ≤ _; rw [Nat.mul_zero, Nat.zero_add]; exact Nat.le_of_eq hW) (by show W + (7 + 11) ≤ _; exact hlo)
  exact step st (g h' K' V' T' ⟨_, F', X', e'⟩)
theorem nf_sel (C : Cx p s m meth c Z n0 own bytes ml ret) {Cn : String} {y : MethodName} (w : (Cond.selects Cn y y).before a0 Z = true) : NotFace s y := notFace_of_selects (args := #[]) (mvT C.2.1 w)
theorem initObj (C : Cx p s m meth c Z n0 own bytes ml ret) {i : Nat} {a : Addr} {W : Nat} (w1 : (Cond.methodLink own i Lib.objectInit).before a0 Z = true) (w2 : (Cond.instanceMethod Lib.objectInit).before a0 Z = true) (w3 : (Cond.code Lib.objectInit ⟨#[0xb1]⟩ 1 none).before a0 Z = true)
    (hd : decode bytes pc = .ok (.invokespecial i, 3)) (hp : pc + 3 = pc') (hsz : Ls.size = ml) (hf : 1 ≤ R.frames) (hW : (S.map fun v => v.category).sum = W) (hl : W + 12 ≤ R.locals)
    (g : Go p l e R s m args below meth c Y n0 G h k n (mkF m pc' Ls S)) : Go p l e R s m args below meth c Y n0 G h k n (mkF m pc Ls (.ref a :: S)) := fun T ⟨locs, F, X, eT⟩ => by
  subst hp
  obtain ⟨T', X', e', st⟩ := initO X C.1 C.2.1 C.2.2.2.2.1 w1 w2 w3 eT (g := mkF m pc Ls (.ref a :: S)) rfl (hsz.trans C.2.2.2.1.symm) rfl (hb C.2.2.1 hd) hf (W := W) (by show 2 * 0 + _ ≤ _; rw [Nat.mul_zero, Nat.zero_add]; exact Nat.le_of_eq hW) hl
  exact step st (g T' ⟨_, F, X', e'⟩)

/-! fields and objects -/
theorem getfield (C : Cx p s m meth c Z n0 own bytes ml ret) {i : Nat} {R0 O f d : String} {a : Addr} {v : Value} (w : (Cond.fieldLink own i R0 f d).before a0 Z = true) (via : Via Z R0 O f d) (F : Fld Z h a O f d v) (hd : decode bytes pc = .ok (.getfield i, 3)) (hp : pc + 3 = pc')
    (g : Go p l e R s m args below meth c Y n0 G h k n (mkF m pc' Ls (v :: S))) : Go p l e R s m args below meth c Y n0 G h k n (mkF m pc Ls (.ref a :: S)) := fun T ⟨locs, Fz, X, eT⟩ => by
  subst hp
  obtain ⟨T', X', e', st⟩ := getF X C.1 C.2.1 C.2.2.2.2.1 (host := "") (Or.inl w) via eT F (g := mkF m pc Ls (.ref a :: S)) rfl rfl (hb C.2.2.1 hd)
  exact step st (g T' ⟨_, Fz, X', e'⟩)
theorem getstatic (C : Cx p s m meth c Z n0 own bytes ml ret) {i : Nat} {R0 O f d : String} {v : Value} (w : (Cond.fieldLink own i R0 f d).before a0 Z = true) (via : Via Z R0 O f d) (F : Sta Z h O f d v) (hd : decode bytes pc = .ok (.getstatic i, 3)) (hp : pc + 3 = pc')
    (g : Go p l e R s m args below meth c Y n0 G h k n (mkF m pc' Ls (v :: S))) : Go p l e R s m args below meth c Y n0 G h k n (mkF m pc Ls S) := fun T ⟨locs, Fz, X, eT⟩ => by
  subst hp
  obtain ⟨T', X', e', st⟩ := getS2 X C.1 C.2.1 C.2.2.2.2.1 (host := "") (Or.inl w) via eT F (g := mkF m pc Ls S) rfl (hb C.2.2.1 hd)
  exact step st (g T' ⟨_, Fz, X', e'⟩)
theorem putfield (C : Cx p s m meth c Z n0 own bytes ml ret) {i kk : Nat} {R0 O f d Cn : String} {ty : FieldType} {a : Addr} {v old : Value} (w : (Cond.fieldLink own i R0 f d).before a0 Z = true) (via : Via Z R0 O f d) (F : Fld Z h a O f d old) (E : Exa Z h a Cn)
    (L : (Cond.lays Cn O f d).before a0 Z = true ∨ ((Cond.laysFinal Cn O f d).before a0 Z = true ∧ own = O ∧ meth.name = "<init>")) (wi : (Cond.instantiable Cn kk).before a0 Z = true) (hty : parseFieldDescriptor d = some ty) (hnr : narrow ty v = v) (hft : fits ty v = true) (hd : decode bytes pc = .ok (.putfield i, 3)) (hp : pc + 3 = pc') (ha : n0 ≤ a)
    (g : ∀ h', Wr h h' a (Jvm.RoadKit.slotOf Z O f d) v → Go p l e R s m args below meth c Y n0 G h' k n (mkF m pc' Ls S)) : Go p l e R s m args below meth c Y n0 G h k n (mkF m pc Ls (v :: .ref a :: S)) := fun T ⟨locs, Fz, X, eT⟩ => by
  subst hp
  obtain ⟨T', h', X', e', W, st⟩ := putF X C.1 C.2.1 C.2.2.2.2.1 (host := "") (Or.inl w) via eT F E L wi hty hnr hft (g := mkF m pc Ls (v :: .ref a :: S)) rfl rfl (hb C.2.2.1 hd)
  exact step st (g h' W T' ⟨_, Fr.snoc X' Fz ha, X', e'⟩)
theorem new (C : Cx p s m meth c Z n0 own bytes ml ret) {i sz : Nat} {Cn : String} (w : (Cond.classLink own i Cn).before a0 Z = true) (wi : (Cond.instantiable Cn sz).before a0 Z = true) (wz : (Cond.initialized Cn).before a0 Z = true) (hd : decode bytes pc = .ok (.new i, 3)) (hp : pc + 3 = pc') (hc : k + 1 ≤ R.cells) (hs : n + sz ≤ R.slots) {k' n' : Nat} (hk' : k + 1 = k') (hn' : n + sz = n')
    (g : ∀ h' a, a = h.size → n0 ≤ a → Ext h h' → Exa Z h' a Cn → (∀ {O nm d : String} {ty : FieldType}, Laid Z a0 Cn O nm d → parseFieldDescriptor d = some ty → Fld Z h' a O nm d (defaultValue ty)) → Go p l e R s m args below meth c Y n0 G h' k' n' (mkF m pc' Ls (.ref a :: S))) :
    Go p l e R s m args below meth c Y n0 G h k n (mkF m pc Ls S) := fun T ⟨locs, Fz, X, eT⟩ => by
  subst hp hk' hn'
  obtain ⟨T', h', X', e', E, A, D, -, st⟩ := newO X C.1 C.2.1 C.2.2.2.2.1 w wi wz eT (g := mkF m pc Ls S) rfl (hb C.2.2.1 hd) hc hs
  exact step st (g h' _ rfl (hz C X eT) E A D T' ⟨_, Fz, X', e'⟩)
/-! arrays -/
theorem newarray (C : Cx p s m meth c Z n0 own bytes ml ret) {aty : ArrayType} {x : Int32} {cap : Nat} (w : (Cond.arrayClass (newarray.typeOf aty)).before a0 Z = true) (hd : decode bytes pc = .ok (.newarray aty, 2)) (hp : pc + 2 = pc') (hx : ¬ x < 0) (hcap : x.toNatClampNeg ≤ cap) (hbig : cap * 8 ≤ 536870912) (hc : k + 1 ≤ R.cells) (hs : n + cap ≤ R.slots) {k' n' : Nat} (hk' : k + 1 = k') (hn' : n + cap = n')
    (g : ∀ h' a kc, a = h.size → n0 ≤ a → Ext h h' → Arv Z h' a kc (newarray.typeOf aty) x [] (defaultValue (newarray.typeOf aty)) → Go p l e R s m args below meth c Y n0 G h' k' n' (mkF m pc' Ls (.ref a :: S))) :
    Go p l e R s m args below meth c Y n0 G h k n (mkF m pc Ls (.int x :: S)) := fun T ⟨locs, Fz, X, eT⟩ => by
  subst hp hk' hn'
  obtain ⟨T', h', kc, X', e', E, A, st⟩ := newP X C.1 C.2.1 w eT (g := mkF m pc Ls (.int x :: S)) rfl (hb C.2.2.1 hd) rfl hx hcap hbig hc hs
  exact step st (g h' _ kc rfl (hz C X eT) E (Arv.new A hx) T' ⟨_, Fz, X', e'⟩)
theorem arraylength (C : Cx p s m meth c Z n0 own bytes ml ret) {a : Addr} {kc : ClassId} {ty : FieldType} {z : Int32} {vs : List Value} {dv : Value} (A : Arv Z h a kc ty z vs dv) (hd : decode bytes pc = .ok (.arraylength, 1)) (hp : pc + 1 = pc')
    (g : Go p l e R s m args below meth c Y n0 G h k n (mkF m pc' Ls (.int z :: S))) : Go p l e R s m args below meth c Y n0 G h k n (mkF m pc Ls (.ref a :: S)) := by
  subst hp
  obtain ⟨cl, Ar, -, Sz, Nz, -, -⟩ := A
  refine stepG (fun T locs X eT t q => X.arraylength C.1 (by rw [eT]; exact Ar.1) (State.isArrayOf_alike C.2.1.alike Ar.2.1) (g := mkF m pc Ls (.ref a :: S)) rfl rfl (hb C.2.2.1 hd) t ?_) g
  rw [len_of Sz Nz]; exact q
theorem arv_at {a : Addr} {kc : ClassId} {ty : FieldType} {z : Int32} {vs : List Value} {dv : Value} (A : Arv Z h a kc ty z vs dv) {j : Int32} (h0 : 0 ≤ j.toInt) (h1 : j.toInt < z.toInt) {v : Value} (hv : vs.getD j.toInt.toNat dv = v) :
    ∃ cl, Arr Z h a cl ty ∧ ¬ (j < 0 ∨ cl.slots.size ≤ j.toNatClampNeg) ∧ cl.slots[j.toNatClampNeg]? = some v := by
  obtain ⟨cl, Ar, -, Sz, Nz, H, -⟩ := A
  have hj : ¬ j < 0 := fun q => by have := Int32.lt_iff_toInt_lt.mp q; simp at this; omega
  have hin := inb_of Sz (j := j) ⟨hj, Int32.lt_iff_toInt_lt.mpr h1⟩
  exact ⟨cl, Ar, hin, H.at hin hv⟩
theorem iaload (C : Cx p s m meth c Z n0 own bytes ml ret) {a : Addr} {kc : ClassId} {z j : Int32} {vs : List Value} {dv v : Value} (A : Arv Z h a kc .int z vs dv) (h0 : 0 ≤ j.toInt) (h1 : j.toInt < z.toInt) (hv : vs.getD j.toInt.toNat dv = v) (hd : decode bytes pc = .ok (.iaload, 1)) (hp : pc + 1 = pc')
    (g : Go p l e R s m args below meth c Y n0 G h k n (mkF m pc' Ls (v :: S))) : Go p l e R s m args below meth c Y n0 G h k n (mkF m pc Ls (.int j :: .ref a :: S)) := by
  subst hp
  obtain ⟨cl, Ar, hin, hat⟩ := arv_at A h0 h1 hv
  exact stepG (fun T locs X eT t q => X.iaload C.1 (by rw [eT]; exact Ar.1) (State.isArrayOf_alike C.2.1.alike Ar.2.1) Ar.2.2 hin hat (g := mkF m pc Ls (.int j :: .ref a :: S)) rfl rfl (hb C.2.2.1 hd) t q) g
theorem laload (C : Cx p s m meth c Z n0 own bytes ml ret) {a : Addr} {kc : ClassId} {z j : Int32} {vs : List Value} {dv v : Value} (A : Arv Z h a kc .long z vs dv) (h0 : 0 ≤ j.toInt) (h1 : j.toInt < z.toInt) (hv : vs.getD j.toInt.toNat dv = v) (hd : decode bytes pc = .ok (.laload, 1)) (hp : pc + 1 = pc')
    (g : Go p l e R s m args below meth c Y n0 G h k n (mkF m pc' Ls (v :: S))) : Go p l e R s m args below meth c Y n0 G h k n (mkF m pc Ls (.int j :: .ref a :: S)) := by
  subst hp
  obtain ⟨cl, Ar, hin, hat⟩ := arv_at A h0 h1 hv
  exact stepG (fun T locs X eT t q => X.laload C.1 (by rw [eT]; exact Ar.1) (State.isArrayOf_alike C.2.1.alike Ar.2.1) Ar.2.2 hin hat (g := mkF m pc Ls (.int j :: .ref a :: S)) rfl rfl (hb C.2.2.1 hd) t q) g
theorem caload (C : Cx p s m meth c Z n0 own bytes ml ret) {a : Addr} {kc : ClassId} {z j : Int32} {vs : List Value} {dv v : Value} (A : Arv Z h a kc .char z vs dv) (h0 : 0 ≤ j.toInt) (h1 : j.toInt < z.toInt) (hv : vs.getD j.toInt.toNat dv = v) (hd : decode bytes pc = .ok (.caload, 1)) (hp : pc + 1 = pc')
    (g : Go p l e R s m args below meth c Y n0 G h k n (mkF m pc' Ls (v :: S))) : Go p l e R s m args below meth c Y n0 G h k n (mkF m pc Ls (.int j :: .ref a :: S)) := by
  subst hp
  obtain ⟨cl, Ar, hin, hat⟩ := arv_at A h0 h1 hv
  exact stepG (fun T locs X eT t q => X.caload C.1 (by rw [eT]; exact Ar.1) (State.isArrayOf_alike C.2.1.alike Ar.2.1) Ar.2.2 hin hat (g := mkF m pc Ls (.int j :: .ref a :: S)) rfl rfl (hb C.2.2.1 hd) t q) g
theorem baload (C : Cx p s m meth c Z n0 own bytes ml ret) {a : Addr} {kc : ClassId} {z j : Int32} {vs : List Value} {dv v : Value} (A : Arv Z h a kc .byte z vs dv) (h0 : 0 ≤ j.toInt) (h1 : j.toInt < z.toInt) (hv : vs.getD j.toInt.toNat dv = v) (hd : decode bytes pc = .ok (.baload, 1)) (hp : pc + 1 = pc')
    (g : Go p l e R s m args below meth c Y n0 G h k n (mkF m pc' Ls (v :: S))) : Go p l e R s m args below meth c Y n0 G h k n (mkF m pc Ls (.int j :: .ref a :: S)) := by
  subst hp
  obtain ⟨cl, Ar, hin, hat⟩ := arv_at A h0 h1 hv
  exact stepG (fun T locs X eT t q => X.baloadBytes C.1 (by rw [eT]; exact Ar.1) (State.isArrayOf_alike C.2.1.alike Ar.2.1) Ar.2.2 hin hat (g := mkF m pc Ls (.int j :: .ref a :: S)) rfl rfl (hb C.2.2.1 hd) t q) g
theorem aaload (C : Cx p s m meth c Z n0 own bytes ml ret) {a : Addr} {cl : Cell} {ty : FieldType} {j : Int32} {v : Value} (A : Arr Z h a cl ty) (hty : ty.isReference = true) (hin : ¬ (j < 0 ∨ cl.slots.size ≤ j.toNatClampNeg)) (hat : cl.slots[j.toNatClampNeg]? = some v) (hd : decode bytes pc = .ok (.aaload, 1)) (hp : pc + 1 = pc')
    (g : Go p l e R s m args below meth c Y n0 G h k n (mkF m pc' Ls (v :: S))) : Go p l e R s m args below meth c Y n0 G h k n (mkF m pc Ls (.int j :: .ref a :: S)) := by
  subst hp
  exact stepG (fun T locs X eT t q => X.aaload C.1 (by rw [eT]; exact A.1) (State.isArrayOf_alike C.2.1.alike A.2.1) hty A.2.2 hin hat (g := mkF m pc Ls (.int j :: .ref a :: S)) rfl rfl (hb C.2.2.1 hd) t q) g
theorem instT (C : Cx p s m meth c Z n0 own bytes ml ret) {i : Nat} {Kn : String} {a : Addr} (w : (Cond.classLink own i Kn).before a0 Z = true) (I : Ins Z h a Kn true) (hd : decode bytes pc = .ok (.instanceof i, 3)) (hp : pc + 3 = pc')
    (g : Go p l e R s m args below meth c Y n0 G h k n (mkF m pc' Ls (.int 1 :: S))) : Go p l e R s m args below meth c Y n0 G h k n (mkF m pc Ls (.ref a :: S)) := fun T ⟨locs, Fz, X, eT⟩ => by
  subst hp
  obtain ⟨T', X', e', st⟩ := instY X C.1 C.2.1 C.2.2.2.2.1 w eT I (g := mkF m pc Ls (.ref a :: S)) rfl rfl (hb C.2.2.1 hd)
  exact step st (g T' ⟨_, Fz, X', e'⟩)
theorem instF (C : Cx p s m meth c Z n0 own bytes ml ret) {i : Nat} {Kn Cn : String} {a : Addr} (w : (Cond.classLink own i Kn).before a0 Z = true) (E : Exa Z h a Cn) (I : ∃ c t, Z.vm.findClass Cn = some c ∧ Z.vm.findClass Kn = some t ∧ Z.vm.assignable c t = false) (hd : decode bytes pc = .ok (.instanceof i, 3)) (hp : pc + 3 = pc')
    (g : Go p l e R s m args below meth c Y n0 G h k n (mkF m pc' Ls (.int 0 :: S))) : Go p l e R s m args below meth c Y n0 G h k n (mkF m pc Ls (.ref a :: S)) := fun T ⟨locs, Fz, X, eT⟩ => by
  subst hp
  obtain ⟨T', X', e', st⟩ := instNo X C.1 C.2.1 C.2.2.2.2.1 w eT E I (g := mkF m pc Ls (.ref a :: S)) rfl rfl (hb C.2.2.1 hd)
  exact step st (g T' ⟨_, Fz, X', e'⟩)
theorem instN (C : Cx p s m meth c Z n0 own bytes ml ret) {i : Nat} (hd : decode bytes pc = .ok (.instanceof i, 3)) (hp : pc + 3 = pc')
    (g : Go p l e R s m args below meth c Y n0 G h k n (mkF m pc' Ls (.int 0 :: S))) : Go p l e R s m args below meth c Y n0 G h k n (mkF m pc Ls (.null :: S)) := by
  subst hp; exact stepG (fun T locs X eT t q => X.instanceofNull C.1 (g := mkF m pc Ls (.null :: S)) rfl rfl (hb C.2.2.1 hd) t q) g
theorem castT (C : Cx p s m meth c Z n0 own bytes ml ret) {i : Nat} {Kn : String} {a : Addr} (w : (Cond.classLink own i Kn).before a0 Z = true) (I : Ins Z h a Kn true) (hd : decode bytes pc = .ok (.checkcast i, 3)) (hp : pc + 3 = pc')
    (g : Go p l e R s m args below meth c Y n0 G h k n (mkF m pc' Ls (.ref a :: S))) : Go p l e R s m args below meth c Y n0 G h k n (mkF m pc Ls (.ref a :: S)) := fun T ⟨locs, Fz, X, eT⟩ => by
  subst hp
  obtain ⟨T', X', e', st⟩ := castY X C.1 C.2.1 C.2.2.2.2.1 w eT I (g := mkF m pc Ls (.ref a :: S)) rfl rfl (hb C.2.2.1 hd)
  exact step st (g T' ⟨_, Fz, X', e'⟩)
theorem ns_root {O Kn : String} {q : Nat} (w : (Cond.noSuperclass O).before a0 Z = true) (wk : (Cond.instantiable Kn q).before a0 Z = true) (hn : O ≠ Kn) : NS Z O Kn := by
  obtain ⟨c, k, h1, h2, h3, -, -⟩ := Cond.noSuperclass_spec w
  obtain ⟨t, kt, g1, -⟩ := Cond.instantiable_spec wk
  have ne := ids_ne h1 g1 hn
  refine ⟨c, t, h1, g1, fun fuel => ?_⟩
  cases fuel with
  | zero => rfl
  | succ f => simp [Vm.isSubclassAux, ne, h2, h3]
theorem ns_no {Cn Sn Kn : String} {q : Nat} (w : (Cond.superclass Cn Sn).before a0 Z = true) (wk : (Cond.instantiable Kn q).before a0 Z = true) (n : NS Z Cn Kn) (hn : Cn ≠ Kn) : ∃ c t, Z.vm.findClass Cn = some c ∧ Z.vm.findClass Kn = some t ∧ Z.vm.assignable c t = false := by
  obtain ⟨c, t, h0, g0, n3⟩ := n
  obtain ⟨p, k, kp, h1, h2, h3, h4, h5, -, h7⟩ := Cond.superclass_spec h0 w
  obtain ⟨t', k', g1, g2, g5, g7, -⟩ := Cond.instantiable_spec wk
  cases g0.symm.trans g1
  have ne := ids_ne h0 g0 hn
  have g8 : k'.isInterface = false := by simp only [Bool.or_eq_false_iff] at g7; exact g7.1
  refine ⟨c, t, h0, g0, ?_⟩
  show Z.vm.assignableAux (255 + 1) c t = false
  simp [Vm.assignableAux, ne, h2, g2, h5, g5, g8, Vm.isSubclass, n3]
theorem iastore (C : Cx p s m meth c Z n0 own bytes ml ret) {a : Addr} {kc : ClassId} {z j : Int32} {x : Int32} {vs : List Value} {dv : Value} (A : Arv Z h a kc .int z vs dv) (h0 : 0 ≤ j.toInt) (h1 : j.toInt < z.toInt) (hlen : j.toInt.toNat < vs.length) (ha : n0 ≤ a) (hd : decode bytes pc = .ok (.iastore, 1)) (hp : pc + 1 = pc')
    (g : ∀ h', Wr h h' a j.toNatClampNeg (.int x) → Arv Z h' a kc .int z (vs.set j.toInt.toNat (.int x)) dv → Go p l e R s m args below meth c Y n0 G h' k n (mkF m pc' Ls S)) : Go p l e R s m args below meth c Y n0 G h k n (mkF m pc Ls (.int x :: .int j :: .ref a :: S)) := fun T ⟨locs, Fz, X, eT⟩ => by
  subst hp
  obtain ⟨cl, Ar, q1, Sz, Nz, H, Gf⟩ := A
  have hj : ¬ j < 0 := fun q => by have := Int32.lt_iff_toInt_lt.mp q; simp at this; omega
  have hin := inb_of Sz (j := j) ⟨hj, Int32.lt_iff_toInt_lt.mpr h1⟩
  obtain ⟨T', h', X', e', W, st⟩ := stI X C.1 C.2.1 eT Ar hin (g := mkF m pc Ls (.int x :: .int j :: .ref a :: S)) rfl rfl (hb C.2.2.1 hd)
  exact step st (g h' W (Arv.set Ar q1 Sz Nz H Gf rfl W _ rfl hlen) T' ⟨_, Fr.snoc X' Fz ha, X', e'⟩)
theorem lastore (C : Cx p s m meth c Z n0 own bytes ml ret) {a : Addr} {kc : ClassId} {z j : Int32} {x : Int64} {vs : List Value} {dv : Value} (A : Arv Z h a kc .long z vs dv) (h0 : 0 ≤ j.toInt) (h1 : j.toInt < z.toInt) (hlen : j.toInt.toNat < vs.length) (ha : n0 ≤ a) (hd : decode bytes pc = .ok (.lastore, 1)) (hp : pc + 1 = pc')
    (g : ∀ h', Wr h h' a j.toNatClampNeg (.long x) → Arv Z h' a kc .long z (vs.set j.toInt.toNat (.long x)) dv → Go p l e R s m args below meth c Y n0 G h' k n (mkF m pc' Ls S)) : Go p l e R s m args below meth c Y n0 G h k n (mkF m pc Ls (.long x :: .int j :: .ref a :: S)) := fun T ⟨locs, Fz, X, eT⟩ => by
  subst hp
  obtain ⟨cl, Ar, q1, Sz, Nz, H, Gf⟩ := A
  have hj : ¬ j < 0 := fun q => by have := Int32.lt_iff_toInt_lt.mp q; simp at this; omega
  have hin := inb_of Sz (j := j) ⟨hj, Int32.lt_iff_toInt_lt.mpr h1⟩
  obtain ⟨T', h', X', e', W, st⟩ := stJ X C.1 C.2.1 eT Ar hin (g := mkF m pc Ls (.long x :: .int j :: .ref a :: S)) rfl rfl (hb C.2.2.1 hd)
  exact step st (g h' W (Arv.set Ar q1 Sz Nz H Gf rfl W _ rfl hlen) T' ⟨_, Fr.snoc X' Fz ha, X', e'⟩)
theorem castore (C : Cx p s m meth c Z n0 own bytes ml ret) {a : Addr} {kc : ClassId} {z j : Int32} {x : Int32} {vs : List Value} {dv : Value} (A : Arv Z h a kc .char z vs dv) (h0 : 0 ≤ j.toInt) (h1 : j.toInt < z.toInt) (hlen : j.toInt.toNat < vs.length) (ha : n0 ≤ a) (hd : decode bytes pc = .ok (.castore, 1)) (hp : pc + 1 = pc')
    (g : ∀ h', Wr h h' a j.toNatClampNeg (.int (nar .char x)) → Arv Z h' a kc .char z (vs.set j.toInt.toNat (.int (nar .char x))) dv → Go p l e R s m args below meth c Y n0 G h' k n (mkF m pc' Ls S)) : Go p l e R s m args below meth c Y n0 G h k n (mkF m pc Ls (.int x :: .int j :: .ref a :: S)) := fun T ⟨locs, Fz, X, eT⟩ => by
  subst hp
  obtain ⟨cl, Ar, q1, Sz, Nz, H, Gf⟩ := A
  have hj : ¬ j < 0 := fun q => by have := Int32.lt_iff_toInt_lt.mp q; simp at this; omega
  have hin := inb_of Sz (j := j) ⟨hj, Int32.lt_iff_toInt_lt.mpr h1⟩
  obtain ⟨T', h', X', e', W, st⟩ := stC X C.1 C.2.1 eT Ar hin (g := mkF m pc Ls (.int x :: .int j :: .ref a :: S)) rfl rfl (hb C.2.2.1 hd)
  exact step st (g h' W (Arv.set Ar q1 Sz Nz H Gf (fits_nar_char _) W _ rfl hlen) T' ⟨_, Fr.snoc X' Fz ha, X', e'⟩)
theorem bastore (C : Cx p s m meth c Z n0 own bytes ml ret) {a : Addr} {kc : ClassId} {z j : Int32} {x : Int32} {vs : List Value} {dv : Value} (A : Arv Z h a kc .byte z vs dv) (h0 : 0 ≤ j.toInt) (h1 : j.toInt < z.toInt) (hlen : j.toInt.toNat < vs.length) (ha : n0 ≤ a) (hd : decode bytes pc = .ok (.bastore, 1)) (hp : pc + 1 = pc')
    (g : ∀ h', Wr h h' a j.toNatClampNeg (.int (nar .byte x)) → Arv Z h' a kc .byte z (vs.set j.toInt.toNat (.int (nar .byte x))) dv → Go p l e R s m args below meth c Y n0 G h' k n (mkF m pc' Ls S)) : Go p l e R s m args below meth c Y n0 G h k n (mkF m pc Ls (.int x :: .int j :: .ref a :: S)) := fun T ⟨locs, Fz, X, eT⟩ => by
  subst hp
  obtain ⟨cl, Ar, q1, Sz, Nz, H, Gf⟩ := A
  have hj : ¬ j < 0 := fun q => by have := Int32.lt_iff_toInt_lt.mp q; simp at this; omega
  have hin := inb_of Sz (j := j) ⟨hj, Int32.lt_iff_toInt_lt.mpr h1⟩
  obtain ⟨T', h', X', e', W, st⟩ := stB X C.1 C.2.1 eT Ar hin (g := mkF m pc Ls (.int x :: .int j :: .ref a :: S)) rfl rfl (hb C.2.2.1 hd)
  exact step st (g h' W (Arv.set Ar q1 Sz Nz H Gf (fits_nar_byte _) W _ rfl hlen) T' ⟨_, Fr.snoc X' Fz ha, X', e'⟩)
end Walk
end Jvm.Pilot.@@N@@.W
namespace Jvm.Pilot.@@N@@
open Jvm Jvm.ClassFile Sem Op Lib Jvm.Free Jvm.Stand Jvm.LawKit Jvm.RoadKit Bundle Jvm.Pilot.@@N@@.Jvm.D
theorem ef_1 (m : MethodId) (p0 : Int32) : entryFrame m #[(.int p0)] 1 = mkF m 0 #[.val (.int p0)] [] := by first | (simp [entryFrame, mkF, argsToLocals, Value.category]; done) | rfl
theorem pn_0 : plainName "com/example/borderline/borderline/TriePathsPathPinLaw" = true := by first | (simp [plainName, overriddenIn]; done) | decide +kernel
theorem d1_0 : decode method_3_code 0 = .ok (.iload_n 0, 1) := by decide +kernel
theorem d1_1 : decode method_3_code 1 = .ok (.ifCond .ne 5, 3) := by decide +kernel
theorem d1_6 : decode method_3_code 6 = .ok (.iload_n 0, 1) := by decide +kernel
theorem d1_7 : decode method_3_code 7 = .ok (.iconst 1, 1) := by decide +kernel
theorem d1_8 : decode method_3_code 8 = .ok (.if_icmp .eq 8, 3) := by decide +kernel
theorem d1_16 : decode method_3_code 16 = .ok (.iconst 1, 1) := by decide +kernel
theorem d1_17 : decode method_3_code 17 = .ok (.ireturn, 1) := by decide +kernel
theorem d1_11 : decode method_3_code 11 = .ok (.iload_n 0, 1) := by decide +kernel
theorem d1_12 : decode method_3_code 12 = .ok (.iconst 2, 1) := by decide +kernel
theorem d1_13 : decode method_3_code 13 = .ok (.if_icmp .ne 5, 3) := by decide +kernel
theorem d1_18 : decode method_3_code 18 = .ok (.iload_n 0, 1) := by decide +kernel
theorem d1_19 : decode method_3_code 19 = .ok (.iconst 3, 1) := by decide +kernel
theorem d1_20 : decode method_3_code 20 = .ok (.if_icmp .ne 5, 3) := by decide +kernel
theorem d1_25 : decode method_3_code 25 = .ok (.iload_n 0, 1) := by decide +kernel
theorem d1_26 : decode method_3_code 26 = .ok (.iconst 4, 1) := by decide +kernel
theorem d1_27 : decode method_3_code 27 = .ok (.if_icmp .ne 5, 3) := by decide +kernel
theorem d1_32 : decode method_3_code 32 = .ok (.iconst 4, 1) := by decide +kernel
theorem d1_33 : decode method_3_code 33 = .ok (.ireturn, 1) := by decide +kernel
theorem d1_30 : decode method_3_code 30 = .ok (.iconst 3, 1) := by decide +kernel
theorem d1_31 : decode method_3_code 31 = .ok (.ireturn, 1) := by decide +kernel
theorem d1_23 : decode method_3_code 23 = .ok (.iconst 2, 1) := by decide +kernel
theorem d1_24 : decode method_3_code 24 = .ok (.ireturn, 1) := by decide +kernel
theorem d1_4 : decode method_3_code 4 = .ok (.iconst 0, 1) := by decide +kernel
theorem d1_5 : decode method_3_code 5 = .ok (.ireturn, 1) := by decide +kernel
theorem ef_2 (m : MethodId) (p0 : Int32) (p1 : Int32) : entryFrame m #[(.int p0), (.int p1)] 2 = mkF m 0 #[.val (.int p0), .val (.int p1)] [] := by first | (simp [entryFrame, mkF, argsToLocals, Value.category]; done) | rfl
theorem d2_0 : decode method_2_code 0 = .ok (.iload_n 0, 1) := by decide +kernel
theorem d2_1 : decode method_2_code 1 = .ok (.iconst 1, 1) := by decide +kernel
theorem d2_2 : decode method_2_code 2 = .ok (.if_icmp .eq 8, 3) := by decide +kernel
theorem d2_10 : decode method_2_code 10 = .ok (.iconst 0, 1) := by decide +kernel
theorem d2_11 : decode method_2_code 11 = .ok (.ireturn, 1) := by decide +kernel
theorem d2_5 : decode method_2_code 5 = .ok (.iload_n 0, 1) := by decide +kernel
theorem d2_6 : decode method_2_code 6 = .ok (.iconst 2, 1) := by decide +kernel
theorem d2_7 : decode method_2_code 7 = .ok (.if_icmp .ne 5, 3) := by decide +kernel
theorem d2_12 : decode method_2_code 12 = .ok (.iload_n 0, 1) := by decide +kernel
theorem d2_13 : decode method_2_code 13 = .ok (.iconst 3, 1) := by decide +kernel
theorem d2_14 : decode method_2_code 14 = .ok (.if_icmp .ne 5, 3) := by decide +kernel
theorem d2_19 : decode method_2_code 19 = .ok (.iload_n 0, 1) := by decide +kernel
theorem d2_20 : decode method_2_code 20 = .ok (.iconst 4, 1) := by decide +kernel
theorem d2_21 : decode method_2_code 21 = .ok (.if_icmp .ne 5, 3) := by decide +kernel
theorem d2_26 : decode method_2_code 26 = .ok (.iload_n 0, 1) := by decide +kernel
theorem d2_27 : decode method_2_code 27 = .ok (.iconst 5, 1) := by decide +kernel
theorem d2_28 : decode method_2_code 28 = .ok (.if_icmp .ne 5, 3) := by decide +kernel
theorem d2_33 : decode method_2_code 33 = .ok (.iconst (-1), 1) := by decide +kernel
theorem d2_34 : decode method_2_code 34 = .ok (.ireturn, 1) := by decide +kernel
theorem d2_31 : decode method_2_code 31 = .ok (.iconst 4, 1) := by decide +kernel
theorem d2_32 : decode method_2_code 32 = .ok (.ireturn, 1) := by decide +kernel
theorem d2_24 : decode method_2_code 24 = .ok (.iconst 3, 1) := by decide +kernel
theorem d2_25 : decode method_2_code 25 = .ok (.ireturn, 1) := by decide +kernel
theorem d2_17 : decode method_2_code 17 = .ok (.iload_n 1, 1) := by decide +kernel
theorem d2_18 : decode method_2_code 18 = .ok (.ireturn, 1) := by decide +kernel
theorem ef_4i (m : MethodId) (o0 : Addr) (p1 : Int32) (p2 : Int32) (o3 : Addr) (o4 : Addr) (p5 : Int32) : entryFrame m #[(.ref o0), (.int p1), (.int p2), (.ref o3), (.ref o4), (.int p5)] 6 = mkF m 0 #[.val (.ref o0), .val (.int p1), .val (.int p2), .val (.ref o3), .val (.ref o4), .val (.int p5)] [] := by first | (simp [entryFrame, mkF, argsToLocals, Value.category]; done) | rfl
theorem d4_0 : decode method_4_code 0 = .ok (.iload_n 1, 1) := by decide +kernel
theorem d4_1 : decode method_4_code 1 = .ok (.iload_n 2, 1) := by decide +kernel
theorem d4_2 : decode method_4_code 2 = .ok (.if_icmp .ge 25, 3) := by decide +kernel
theorem d4_5 : decode method_4_code 5 = .ok (.aload_n 0, 1) := by decide +kernel
theorem d4_6 : decode method_4_code 6 = .ok (.iload_n 1, 1) := by decide +kernel
theorem d4_7 : decode method_4_code 7 = .ok (.baload, 1) := by decide +kernel
theorem d4_8 : decode method_4_code 8 = .ok (.aload 4, 2) := by decide +kernel
theorem d4_10 : decode method_4_code 10 = .ok (.aload_n 3, 1) := by decide +kernel
theorem d4_11 : decode method_4_code 11 = .ok (.iload_n 2, 1) := by decide +kernel
theorem d4_12 : decode method_4_code 12 = .ok (.iconst 1, 1) := by decide +kernel
theorem d4_13 : decode method_4_code 13 = .ok (.isub, 1) := by decide +kernel
theorem d4_14 : decode method_4_code 14 = .ok (.iload_n 1, 1) := by decide +kernel
theorem d4_15 : decode method_4_code 15 = .ok (.isub, 1) := by decide +kernel
theorem d4_16 : decode method_4_code 16 = .ok (.iaload, 1) := by decide +kernel
theorem d4_17 : decode method_4_code 17 = .ok (.baload, 1) := by decide +kernel
theorem d4_18 : decode method_4_code 18 = .ok (.if_icmp .ne 7, 3) := by decide +kernel
theorem d4_21 : decode method_4_code 21 = .ok (.iconst 1, 1) := by decide +kernel
theorem d4_22 : decode method_4_code 22 = .ok (.goto 4, 3) := by decide +kernel
theorem d4_26 : decode method_4_code 26 = .ok (.ireturn, 1) := by decide +kernel
theorem ef_4o (m : MethodId) (o0 : Addr) (p1 : Int32) (p2 : Int32) (o3 : Addr) (o4 : Addr) (p5 : Int32) : entryFrame m #[(.ref o0), (.int p1), (.int p2), (.ref o3), (.ref o4), (.int p5)] 6 = mkF m 0 #[.val (.ref o0), .val (.int p1), .val (.int p2), .val (.ref o3), .val (.ref o4), .val (.int p5)] [] := by first | (simp [entryFrame, mkF, argsToLocals, Value.category]; done) | rfl
theorem d4_27 : decode method_4_code 27 = .ok (.aload_n 0, 1) := by decide +kernel
theorem d4_28 : decode method_4_code 28 = .ok (.iload_n 1, 1) := by decide +kernel
theorem d4_29 : decode method_4_code 29 = .ok (.baload, 1) := by decide +kernel
theorem d4_30 : decode method_4_code 30 = .ok (.iload 5, 2) := by decide +kernel
theorem d4_32 : decode method_4_code 32 = .ok (.if_icmp .ne 7, 3) := by decide +kernel
theorem d4_35 : decode method_4_code 35 = .ok (.iconst 1, 1) := by decide +kernel
theorem d4_36 : decode method_4_code 36 = .ok (.goto 4, 3) := by decide +kernel
theorem d4_40 : decode method_4_code 40 = .ok (.ireturn, 1) := by decide +kernel
theorem ef_3P0 (m : MethodId) (o0 : Addr) (o1 : Addr) (x0 : Int32) (o4 : Addr) : entryFrame m #[(.ref o0), (.ref o1), (.int x0), (.int x0), (.ref o4)] 8 = mkF m 0 #[.val (.ref o0), .val (.ref o1), .val (.int x0), .val (.int x0), .val (.ref o4), .unset, .unset, .unset] [] := by first | (simp [entryFrame, mkF, argsToLocals, Value.category]; done) | rfl
theorem pn_1 : plainName "com/example/borderline/borderline/TriePaths" = true := by first | (simp [plainName, overriddenIn]; done) | decide +kernel
theorem d3_0 : decode prog_22_method_3_code 0 = .ok (.iconst 0, 1) := by decide +kernel
theorem d3_1 : decode prog_22_method_3_code 1 = .ok (.istore 5, 2) := by decide +kernel
theorem d3_3 : decode prog_22_method_3_code 3 = .ok (.iload_n 3, 1) := by decide +kernel
theorem d3_4 : decode prog_22_method_3_code 4 = .ok (.istore 6, 2) := by decide +kernel
theorem d3_6 : decode prog_22_method_3_code 6 = .ok (.iload 6, 2) := by decide +kernel
theorem d3_8 : decode prog_22_method_3_code 8 = .ok (.iload_n 2, 1) := by decide +kernel
theorem d3_9 : decode prog_22_method_3_code 9 = .ok (.if_icmp .eq 15, 3) := by decide +kernel
theorem d3_24 : decode prog_22_method_3_code 24 = .ok (.iload 5, 2) := by decide +kernel
theorem d3_26 : decode prog_22_method_3_code 26 = .ok (.istore 6, 2) := by decide +kernel
theorem d3_28 : decode prog_22_method_3_code 28 = .ok (.iload_n 3, 1) := by decide +kernel
theorem d3_29 : decode prog_22_method_3_code 29 = .ok (.istore 7, 2) := by decide +kernel
theorem d3_31 : decode prog_22_method_3_code 31 = .ok (.iload 7, 2) := by decide +kernel
theorem d3_33 : decode prog_22_method_3_code 33 = .ok (.iload_n 2, 1) := by decide +kernel
theorem d3_34 : decode prog_22_method_3_code 34 = .ok (.if_icmp .eq 24, 3) := by decide +kernel
theorem d3_58 : decode prog_22_method_3_code 58 = .ok (.iload 5, 2) := by decide +kernel
theorem d3_60 : decode prog_22_method_3_code 60 = .ok (.ireturn, 1) := by decide +kernel
theorem ef_3P1 (m : MethodId) (o0 : Addr) (o1 : Addr) (x1 : Int32) (x0 : Int32) (o4 : Addr) : entryFrame m #[(.ref o0), (.ref o1), (.int x1), (.int x0), (.ref o4)] 8 = mkF m 0 #[.val (.ref o0), .val (.ref o1), .val (.int x1), .val (.int x0), .val (.ref o4), .unset, .unset, .unset] [] := by first | (simp [entryFrame, mkF, argsToLocals, Value.category]; done) | rfl
theorem d3_12 : decode prog_22_method_3_code 12 = .ok (.iinc 5 1, 3) := by decide +kernel
theorem d3_15 : decode prog_22_method_3_code 15 = .ok (.aload_n 1, 1) := by decide +kernel
theorem d3_16 : decode prog_22_method_3_code 16 = .ok (.iload 6, 2) := by decide +kernel
theorem d3_18 : decode prog_22_method_3_code 18 = .ok (.iaload, 1) := by decide +kernel
theorem d3_19 : decode prog_22_method_3_code 19 = .ok (.istore 6, 2) := by decide +kernel
theorem d3_21 : decode prog_22_method_3_code 21 = .ok (.goto (-15), 3) := by decide +kernel
theorem d3_37 : decode prog_22_method_3_code 37 = .ok (.aload 4, 2) := by decide +kernel
theorem d3_39 : decode prog_22_method_3_code 39 = .ok (.iinc 6 (-1), 3) := by decide +kernel
theorem d3_42 : decode prog_22_method_3_code 42 = .ok (.iload 6, 2) := by decide +kernel
theorem d3_44 : decode prog_22_method_3_code 44 = .ok (.aload_n 0, 1) := by decide +kernel
theorem d3_45 : decode prog_22_method_3_code 45 = .ok (.iload 7, 2) := by decide +kernel
theorem d3_47 : decode prog_22_method_3_code 47 = .ok (.baload, 1) := by decide +kernel
theorem d3_48 : decode prog_22_method_3_code 48 = .ok (.bastore, 1) := by decide +kernel
theorem d3_49 : decode prog_22_method_3_code 49 = .ok (.aload_n 1, 1) := by decide +kernel
theorem d3_50 : decode prog_22_method_3_code 50 = .ok (.iload 7, 2) := by decide +kernel
theorem d3_52 : decode prog_22_method_3_code 52 = .ok (.iaload, 1) := by decide +kernel
theorem d3_53 : decode prog_22_method_3_code 53 = .ok (.istore 7, 2) := by decide +kernel
theorem d3_55 : decode prog_22_method_3_code 55 = .ok (.goto (-24), 3) := by decide +kernel
theorem ef_3P2 (m : MethodId) (o0 : Addr) (o1 : Addr) (x2 : Int32) (x0 : Int32) (o4 : Addr) : entryFrame m #[(.ref o0), (.ref o1), (.int x2), (.int x0), (.ref o4)] 8 = mkF m 0 #[.val (.ref o0), .val (.ref o1), .val (.int x2), .val (.int x0), .val (.ref o4), .unset, .unset, .unset] [] := by first | (simp [entryFrame, mkF, argsToLocals, Value.category]; done) | rfl
theorem ef_3P3 (m : MethodId) (o0 : Addr) (o1 : Addr) (x3 : Int32) (x0 : Int32) (o4 : Addr) : entryFrame m #[(.ref o0), (.ref o1), (.int x3), (.int x0), (.ref o4)] 8 = mkF m 0 #[.val (.ref o0), .val (.ref o1), .val (.int x3), .val (.int x0), .val (.ref o4), .unset, .unset, .unset] [] := by first | (simp [entryFrame, mkF, argsToLocals, Value.category]; done) | rfl
theorem ef_3P4 (m : MethodId) (o0 : Addr) (o1 : Addr) (x4 : Int32) (x0 : Int32) (o4 : Addr) : entryFrame m #[(.ref o0), (.ref o1), (.int x4), (.int x0), (.ref o4)] 8 = mkF m 0 #[.val (.ref o0), .val (.ref o1), .val (.int x4), .val (.int x0), .val (.ref o4), .unset, .unset, .unset] [] := by first | (simp [entryFrame, mkF, argsToLocals, Value.category]; done) | rfl
theorem ef_0 (m : MethodId) (p0 : Int32) (p1 : Int32) (p2 : Int32) (q3 : Int64) (p4 : Int32) : entryFrame m #[(.int p0), (.int p1), (.int p2), (.long q3), (.int p4)] maxLocals = mkF m 0 #[.val (.int p0), .val (.int p1), .val (.int p2), .val (.long q3), .second, .val (.int p4), .unset, .unset, .unset, .unset, .unset, .unset, .unset, .unset, .unset, .unset] [] := by first | (simp [entryFrame, mkF, argsToLocals, Value.category, maxLocals]; done) | rfl
theorem pd_0 : parseMethodDescriptor "(I)I" = some ⟨[.int], some .int⟩ := by decide +kernel
theorem pd_1 : parseMethodDescriptor "(II)I" = some ⟨[.int, .int], some .int⟩ := by decide +kernel
theorem pd_2 : parseMethodDescriptor "([B[III[B)I" = some ⟨[(.array .byte), (.array .int), .int, .int, (.array .byte)], some .int⟩ := by decide +kernel
theorem pd_3 : parseMethodDescriptor "([BII[I[BB)Z" = some ⟨[(.array .byte), .int, .int, (.array .int), (.array .byte), .byte], some .boolean⟩ := by decide +kernel
def own_par (s q : Int32) : Int32 := if s = 1 then 0 else if s = 2 then 0 else if s = 3 then q else if s = 4 then 3 else if s = 5 then 4 else -1
def own_dep (s : Int32) : Int32 := if s = 0 then 0 else if s = 1 then 1 else if s = 2 then 1 else if s = 3 then 2 else if s = 4 then 3 else 4
theorem own_six {P : Int32 → Prop} (h : ∀ k : Fin 6, P (Int32.ofInt (k.1 : Int))) (x : Int32) (h1 : 0 ≤ x.toInt) (h2 : x.toInt < 6) : P x := by
  have hk : x.toInt.toNat < 6 := by omega
  have e : Int32.ofInt (((⟨x.toInt.toNat, hk⟩ : Fin 6).1 : Nat) : Int) = x := by
    rw [show (((⟨x.toInt.toNat, hk⟩ : Fin 6).1 : Nat) : Int) = x.toInt from Int.toNat_of_nonneg h1]; exact Int32.ofInt_toInt x
  exact e ▸ h ⟨x.toInt.toNat, hk⟩
theorem own_depr (x : Int32) (h1 : 0 ≤ x.toInt) (h2 : x.toInt < 6) : 0 ≤ (own_dep x).toInt ∧ (own_dep x).toInt ≤ 4 := own_six (P := fun x => 0 ≤ (own_dep x).toInt ∧ (own_dep x).toInt ≤ 4) (by decide +kernel) x h1 h2
theorem own_pget (q x : Int32) (h1 : 0 ≤ x.toInt) (h2 : x.toInt < 6) : ([.int (-1), .int 0, .int 0, .int q, .int 3, .int 4] : List Value).getD x.toInt.toNat (.int 0) = .int (own_par x q) :=
  own_six (P := fun x => ([.int (-1), .int 0, .int 0, .int q, .int 3, .int 4] : List Value).getD x.toInt.toNat (.int 0) = .int (own_par x q)) (fun k => by
    match k with
    | ⟨0, _⟩ => rfl
    | ⟨1, _⟩ => rfl
    | ⟨2, _⟩ => rfl
    | ⟨3, _⟩ => rfl
    | ⟨4, _⟩ => rfl
    | ⟨5, _⟩ => rfl) x h1 h2
theorem own_narb (y : Int32) : nar .byte (nar .byte y) = nar .byte y := by simp [nar]
theorem own_lget (y0 y1 y2 y3 y4 y5 x : Int32) (h1 : 0 ≤ x.toInt) (h2 : x.toInt < 6) : ∃ y : Int32, ([.int (nar .byte y0), .int (nar .byte y1), .int (nar .byte y2), .int (nar .byte y3), .int (nar .byte y4), .int (nar .byte y5)] : List Value).getD x.toInt.toNat (.int 0) = .int y ∧ nar .byte y = y :=
  own_six (P := fun x => ∃ y : Int32, ([.int (nar .byte y0), .int (nar .byte y1), .int (nar .byte y2), .int (nar .byte y3), .int (nar .byte y4), .int (nar .byte y5)] : List Value).getD x.toInt.toNat (.int 0) = .int y ∧ nar .byte y = y) (fun k => by
    match k with
    | ⟨0, _⟩ => exact ⟨_, rfl, own_narb _⟩
    | ⟨1, _⟩ => exact ⟨_, rfl, own_narb _⟩
    | ⟨2, _⟩ => exact ⟨_, rfl, own_narb _⟩
    | ⟨3, _⟩ => exact ⟨_, rfl, own_narb _⟩
    | ⟨4, _⟩ => exact ⟨_, rfl, own_narb _⟩
    | ⟨5, _⟩ => exact ⟨_, rfl, own_narb _⟩) x h1 h2
theorem own_ch1 (x q : Int32) (hq : q = 1 ∨ q = 2) (h1 : 0 ≤ x.toInt) (h2 : x.toInt < 6) (hd : 1 ≤ (own_dep x).toInt) : (0 ≤ x.toInt ∧ x.toInt < 6) ∧ ¬ x = (own_par x q) := by
  revert hd
  rcases hq with rfl | rfl
  · exact own_six (P := fun x => 1 ≤ (own_dep x).toInt → (0 ≤ x.toInt ∧ x.toInt < 6) ∧ ¬ x = (own_par x 1)) (by decide +kernel) x h1 h2
  · exact own_six (P := fun x => 1 ≤ (own_dep x).toInt → (0 ≤ x.toInt ∧ x.toInt < 6) ∧ ¬ x = (own_par x 2)) (by decide +kernel) x h1 h2
theorem own_ch2 (x q : Int32) (hq : q = 1 ∨ q = 2) (h1 : 0 ≤ x.toInt) (h2 : x.toInt < 6) (hd : 2 ≤ (own_dep x).toInt) : (0 ≤ x.toInt ∧ x.toInt < 6) ∧ ¬ x = (own_par (own_par x q) q) ∧ (0 ≤ (own_par x q).toInt ∧ (own_par x q).toInt < 6) ∧ ¬ (own_par x q) = (own_par (own_par x q) q) := by
  revert hd
  rcases hq with rfl | rfl
  · exact own_six (P := fun x => 2 ≤ (own_dep x).toInt → (0 ≤ x.toInt ∧ x.toInt < 6) ∧ ¬ x = (own_par (own_par x 1) 1) ∧ (0 ≤ (own_par x 1).toInt ∧ (own_par x 1).toInt < 6) ∧ ¬ (own_par x 1) = (own_par (own_par x 1) 1)) (by decide +kernel) x h1 h2
  · exact own_six (P := fun x => 2 ≤ (own_dep x).toInt → (0 ≤ x.toInt ∧ x.toInt < 6) ∧ ¬ x = (own_par (own_par x 2) 2) ∧ (0 ≤ (own_par x 2).toInt ∧ (own_par x 2).toInt < 6) ∧ ¬ (own_par x 2) = (own_par (own_par x 2) 2)) (by decide +kernel) x h1 h2
theorem own_ch3 (x q : Int32) (hq : q = 1 ∨ q = 2) (h1 : 0 ≤ x.toInt) (h2 : x.toInt < 6) (hd : 3 ≤ (own_dep x).toInt) : (0 ≤ x.toInt ∧ x.toInt < 6) ∧ ¬ x = (own_par (own_par (own_par x q) q) q) ∧ (0 ≤ (own_par x q).toInt ∧ (own_par x q).toInt < 6) ∧ ¬ (own_par x q) = (own_par (own_par (own_par x q) q) q) ∧ (0 ≤ (own_par (own_par x q) q).toInt ∧ (own_par (own_par x q) q).toInt < 6) ∧ ¬ (own_par (own_par x q) q) = (own_par (own_par (own_par x q) q) q) := by
  revert hd
  rcases hq with rfl | rfl
  · exact own_six (P := fun x => 3 ≤ (own_dep x).toInt → (0 ≤ x.toInt ∧ x.toInt < 6) ∧ ¬ x = (own_par (own_par (own_par x 1) 1) 1) ∧ (0 ≤ (own_par x 1).toInt ∧ (own_par x 1).toInt < 6) ∧ ¬ (own_par x 1) = (own_par (own_par (own_par x 1) 1) 1) ∧ (0 ≤ (own_par (own_par x 1) 1).toInt ∧ (own_par (own_par x 1) 1).toInt < 6) ∧ ¬ (own_par (own_par x 1) 1) = (own_par (own_par (own_par x 1) 1) 1)) (by decide +kernel) x h1 h2
  · exact own_six (P := fun x => 3 ≤ (own_dep x).toInt → (0 ≤ x.toInt ∧ x.toInt < 6) ∧ ¬ x = (own_par (own_par (own_par x 2) 2) 2) ∧ (0 ≤ (own_par x 2).toInt ∧ (own_par x 2).toInt < 6) ∧ ¬ (own_par x 2) = (own_par (own_par (own_par x 2) 2) 2) ∧ (0 ≤ (own_par (own_par x 2) 2).toInt ∧ (own_par (own_par x 2) 2).toInt < 6) ∧ ¬ (own_par (own_par x 2) 2) = (own_par (own_par (own_par x 2) 2) 2)) (by decide +kernel) x h1 h2
theorem own_ch4 (x q : Int32) (hq : q = 1 ∨ q = 2) (h1 : 0 ≤ x.toInt) (h2 : x.toInt < 6) (hd : 4 ≤ (own_dep x).toInt) : (0 ≤ x.toInt ∧ x.toInt < 6) ∧ ¬ x = (own_par (own_par (own_par (own_par x q) q) q) q) ∧ (0 ≤ (own_par x q).toInt ∧ (own_par x q).toInt < 6) ∧ ¬ (own_par x q) = (own_par (own_par (own_par (own_par x q) q) q) q) ∧ (0 ≤ (own_par (own_par x q) q).toInt ∧ (own_par (own_par x q) q).toInt < 6) ∧ ¬ (own_par (own_par x q) q) = (own_par (own_par (own_par (own_par x q) q) q) q) ∧ (0 ≤ (own_par (own_par (own_par x q) q) q).toInt ∧ (own_par (own_par (own_par x q) q) q).toInt < 6) ∧ ¬ (own_par (own_par (own_par x q) q) q) = (own_par (own_par (own_par (own_par x q) q) q) q) := by
  revert hd
  rcases hq with rfl | rfl
  · exact own_six (P := fun x => 4 ≤ (own_dep x).toInt → (0 ≤ x.toInt ∧ x.toInt < 6) ∧ ¬ x = (own_par (own_par (own_par (own_par x 1) 1) 1) 1) ∧ (0 ≤ (own_par x 1).toInt ∧ (own_par x 1).toInt < 6) ∧ ¬ (own_par x 1) = (own_par (own_par (own_par (own_par x 1) 1) 1) 1) ∧ (0 ≤ (own_par (own_par x 1) 1).toInt ∧ (own_par (own_par x 1) 1).toInt < 6) ∧ ¬ (own_par (own_par x 1) 1) = (own_par (own_par (own_par (own_par x 1) 1) 1) 1) ∧ (0 ≤ (own_par (own_par (own_par x 1) 1) 1).toInt ∧ (own_par (own_par (own_par x 1) 1) 1).toInt < 6) ∧ ¬ (own_par (own_par (own_par x 1) 1) 1) = (own_par (own_par (own_par (own_par x 1) 1) 1) 1)) (by decide +kernel) x h1 h2
  · exact own_six (P := fun x => 4 ≤ (own_dep x).toInt → (0 ≤ x.toInt ∧ x.toInt < 6) ∧ ¬ x = (own_par (own_par (own_par (own_par x 2) 2) 2) 2) ∧ (0 ≤ (own_par x 2).toInt ∧ (own_par x 2).toInt < 6) ∧ ¬ (own_par x 2) = (own_par (own_par (own_par (own_par x 2) 2) 2) 2) ∧ (0 ≤ (own_par (own_par x 2) 2).toInt ∧ (own_par (own_par x 2) 2).toInt < 6) ∧ ¬ (own_par (own_par x 2) 2) = (own_par (own_par (own_par (own_par x 2) 2) 2) 2) ∧ (0 ≤ (own_par (own_par (own_par x 2) 2) 2).toInt ∧ (own_par (own_par (own_par x 2) 2) 2).toInt < 6) ∧ ¬ (own_par (own_par (own_par x 2) 2) 2) = (own_par (own_par (own_par (own_par x 2) 2) 2) 2)) (by decide +kernel) x h1 h2
set_option maxRecDepth 65536 in
set_option maxHeartbeats 40000000 in
theorem rm1 (l : Launch) (Z : State) (a0 : Array Value) (hw : ∀ d ∈ tables_1, d.before a0 Z = true) (ws : List Jvm.Cond) (p0 : Int32) (h0 : Heap) (n0 : Nat) (Z0 : n0 ≤ h0.size) :
    W.Con l Z (⟨"com/example/borderline/borderline/TriePathsPathPinLaw", "depthOf", "(I)I"⟩ : MethodName) method_3_code 1 (some .int) ws ({ frames := 0, cells := 0, slots := 0, locals := 0 } : Room) ({ frames := 0, cells := 0, slots := 0, locals := 0 } : Room).cells ({ frames := 0, cells := 0, slots := 0, locals := 0 } : Room).slots #[(.int p0)] h0 n0 (fun v h => v = some (.int (own_dep p0)) ∧ h0 = h) := by
  refine W.enter (plainFor_of_name pn_0) Z0 ?_
  intro p e s m below meth c C hnm hsh
  have C : W.Cx p s m meth c Z n0 "com/example/borderline/borderline/TriePathsPathPinLaw" method_3_code 1 (some .int) := C
  refine W.Go.castF (ef_1 m p0) ?_
  refine W.iloadN C d1_0 rfl rfl ?_
  refine W.ifc C (pc' := 6) (pn := 4) d1_1 (by decide) rfl rfl (W.q_ne p0 (0 : Int32)) (fun hc1 => ?_) (fun hc1 => ?_)
  · refine W.iloadN C d1_6 rfl rfl ?_
    refine W.iconst C (x := (1 : Int32)) d1_7 rfl rfl ?_
    refine W.icmp C (pc' := 16) (pn := 11) d1_8 (by decide) rfl rfl (W.q_eq p0 (1 : Int32)) (fun hc8 => ?_) (fun hc8 => ?_)
    · refine W.iconst C (x := (1 : Int32)) d1_16 rfl rfl ?_
      refine W.retI C d1_17 (by decide) (by decide) (fun _ _ _ _ q => q) ?_
      exact ⟨by rw [show own_dep p0 = (1 : Int32) by simp [own_dep, hc1, hc8]], rfl⟩
    · refine W.iloadN C d1_11 rfl rfl ?_
      refine W.iconst C (x := (2 : Int32)) d1_12 rfl rfl ?_
      refine W.icmp C (pc' := 18) (pn := 16) d1_13 (by decide) rfl rfl (W.q_ne p0 (2 : Int32)) (fun hc13 => ?_) (fun hc13 => ?_)
      · refine W.iloadN C d1_18 rfl rfl ?_
        refine W.iconst C (x := (3 : Int32)) d1_19 rfl rfl ?_
        refine W.icmp C (pc' := 25) (pn := 23) d1_20 (by decide) rfl rfl (W.q_ne p0 (3 : Int32)) (fun hc20 => ?_) (fun hc20 => ?_)
        · refine W.iloadN C d1_25 rfl rfl ?_
          refine W.iconst C (x := (4 : Int32)) d1_26 rfl rfl ?_
          refine W.icmp C (pc' := 32) (pn := 30) d1_27 (by decide) rfl rfl (W.q_ne p0 (4 : Int32)) (fun hc27 => ?_) (fun hc27 => ?_)
          · refine W.iconst C (x := (4 : Int32)) d1_32 rfl rfl ?_
            refine W.retI C d1_33 (by decide) (by decide) (fun _ _ _ _ q => q) ?_
            exact ⟨by rw [show own_dep p0 = (4 : Int32) by simp [own_dep, hc1, hc8, hc13, hc20, hc27]], rfl⟩
          · refine W.iconst C (x := (3 : Int32)) d1_30 rfl rfl ?_
            refine W.retI C d1_31 (by decide) (by decide) (fun _ _ _ _ q => q) ?_
            exact ⟨by rw [show own_dep p0 = (3 : Int32) by simp [own_dep, hc1, hc8, hc13, hc20, hc27]], rfl⟩
        · refine W.iconst C (x := (2 : Int32)) d1_23 rfl rfl ?_
          refine W.retI C d1_24 (by decide) (by decide) (fun _ _ _ _ q => q) ?_
          exact ⟨by rw [show own_dep p0 = (2 : Int32) by simp [own_dep, hc1, hc8, hc13, hc20]], rfl⟩
      · refine W.iconst C (x := (1 : Int32)) d1_16 rfl rfl ?_
        refine W.retI C d1_17 (by decide) (by decide) (fun _ _ _ _ q => q) ?_
        exact ⟨by rw [show own_dep p0 = (1 : Int32) by simp [own_dep, hc1, hc8, hc13]], rfl⟩
  · refine W.iconst C (x := (0 : Int32)) d1_4 rfl rfl ?_
    refine W.retI C d1_5 (by decide) (by decide) (fun _ _ _ _ q => q) ?_
    exact ⟨by rw [show own_dep p0 = (0 : Int32) by simp [own_dep, hc1]], rfl⟩
set_option maxRecDepth 65536 in
set_option maxHeartbeats 40000000 in
theorem rm2 (l : Launch) (Z : State) (a0 : Array Value) (hw : ∀ d ∈ tables_1, d.before a0 Z = true) (ws : List Jvm.Cond) (p0 : Int32) (p1 : Int32) (h0 : Heap) (n0 : Nat) (Z0 : n0 ≤ h0.size) :
    W.Con l Z (⟨"com/example/borderline/borderline/TriePathsPathPinLaw", "parentOf", "(II)I"⟩ : MethodName) method_2_code 2 (some .int) ws ({ frames := 0, cells := 0, slots := 0, locals := 0 } : Room) ({ frames := 0, cells := 0, slots := 0, locals := 0 } : Room).cells ({ frames := 0, cells := 0, slots := 0, locals := 0 } : Room).slots #[(.int p0), (.int p1)] h0 n0 (fun v h => v = some (.int (own_par p0 p1)) ∧ h0 = h) := by
  refine W.enter (plainFor_of_name pn_0) Z0 ?_
  intro p e s m below meth c C hnm hsh
  have C : W.Cx p s m meth c Z n0 "com/example/borderline/borderline/TriePathsPathPinLaw" method_2_code 2 (some .int) := C
  refine W.Go.castF (ef_2 m p0 p1) ?_
  refine W.iloadN C d2_0 rfl rfl ?_
  refine W.iconst C (x := (1 : Int32)) d2_1 rfl rfl ?_
  refine W.icmp C (pc' := 10) (pn := 5) d2_2 (by decide) rfl rfl (W.q_eq p0 (1 : Int32)) (fun hc2 => ?_) (fun hc2 => ?_)
  · refine W.iconst C (x := (0 : Int32)) d2_10 rfl rfl ?_
    refine W.retI C d2_11 (by decide) (by decide) (fun _ _ _ _ q => q) ?_
    exact ⟨by rw [show own_par p0 p1 = (0 : Int32) by simp [own_par, hc2]], rfl⟩
  · refine W.iloadN C d2_5 rfl rfl ?_
    refine W.iconst C (x := (2 : Int32)) d2_6 rfl rfl ?_
    refine W.icmp C (pc' := 12) (pn := 10) d2_7 (by decide) rfl rfl (W.q_ne p0 (2 : Int32)) (fun hc7 => ?_) (fun hc7 => ?_)
    · refine W.iloadN C d2_12 rfl rfl ?_
      refine W.iconst C (x := (3 : Int32)) d2_13 rfl rfl ?_
      refine W.icmp C (pc' := 19) (pn := 17) d2_14 (by decide) rfl rfl (W.q_ne p0 (3 : Int32)) (fun hc14 => ?_) (fun hc14 => ?_)
      · refine W.iloadN C d2_19 rfl rfl ?_
        refine W.iconst C (x := (4 : Int32)) d2_20 rfl rfl ?_
        refine W.icmp C (pc' := 26) (pn := 24) d2_21 (by decide) rfl rfl (W.q_ne p0 (4 : Int32)) (fun hc21 => ?_) (fun hc21 => ?_)
        · refine W.iloadN C d2_26 rfl rfl ?_
          refine W.iconst C (x := (5 : Int32)) d2_27 rfl rfl ?_
          refine W.icmp C (pc' := 33) (pn := 31) d2_28 (by decide) rfl rfl (W.q_ne p0 (5 : Int32)) (fun hc28 => ?_) (fun hc28 => ?_)
          · refine W.iconst C (x := (-1 : Int32)) d2_33 rfl rfl ?_
            refine W.retI C d2_34 (by decide) (by decide) (fun _ _ _ _ q => q) ?_
            exact ⟨by rw [show own_par p0 p1 = (-1 : Int32) by simp [own_par, hc2, hc7, hc14, hc21, hc28]], rfl⟩
          · refine W.iconst C (x := (4 : Int32)) d2_31 rfl rfl ?_
            refine W.retI C d2_32 (by decide) (by decide) (fun _ _ _ _ q => q) ?_
            exact ⟨by rw [show own_par p0 p1 = (4 : Int32) by simp [own_par, hc2, hc7, hc14, hc21, hc28]], rfl⟩
        · refine W.iconst C (x := (3 : Int32)) d2_24 rfl rfl ?_
          refine W.retI C d2_25 (by decide) (by decide) (fun _ _ _ _ q => q) ?_
          exact ⟨by rw [show own_par p0 p1 = (3 : Int32) by simp [own_par, hc2, hc7, hc14, hc21]], rfl⟩
      · refine W.iloadN C d2_17 rfl rfl ?_
        refine W.retI C d2_18 (by decide) (by decide) (fun _ _ _ _ q => q) ?_
        exact ⟨by rw [show own_par p0 p1 = p1 by simp [own_par, hc2, hc7, hc14]], rfl⟩
    · refine W.iconst C (x := (0 : Int32)) d2_10 rfl rfl ?_
      refine W.retI C d2_11 (by decide) (by decide) (fun _ _ _ _ q => q) ?_
      exact ⟨by rw [show own_par p0 p1 = (0 : Int32) by simp [own_par, hc2, hc7]], rfl⟩
set_option maxRecDepth 65536 in
set_option maxHeartbeats 40000000 in
theorem rmCi (l : Launch) (Z : State) (a0 : Array Value) (hw : ∀ d ∈ tables_1, d.before a0 Z = true) (ws : List Jvm.Cond) (o0 : Addr) (p1 p2 : Int32) (o3 o4 : Addr) (p5 : Int32) (ka kb kd : ClassId) (lp ls lb : List Value) (u x y : Int32) (h0 : Heap) (n0 : Nat) (Z0 : n0 ≤ h0.size) (VP : Arv Z h0 o0 ka .byte (4 : Int32) lp (.int (0 : Int32))) (i0 : 0 ≤ p1.toInt) (i4 : p1.toInt < (4 : Int32).toInt) (hu : lp.getD p1.toInt.toNat (.int (0 : Int32)) = .int u) (VS : Arv Z h0 o3 kb .int (5 : Int32) ls (.int (0 : Int32))) (VL : Arv Z h0 o4 kd .byte (6 : Int32) lb (.int (0 : Int32))) (ik : p1.toInt < p2.toInt) (k4 : p2.toInt ≤ 4) (hx : ls.getD (p2.toInt.toNat - 1 - p1.toInt.toNat) (.int (0 : Int32)) = .int x) (x0 : 0 ≤ x.toInt) (x6 : x.toInt < 6) (hy : lb.getD x.toInt.toNat (.int (0 : Int32)) = .int y) (he : u = y) :
    W.Con l Z (⟨"com/example/borderline/borderline/TriePathsPathPinLaw", "cell", "([BII[I[BB)Z"⟩ : MethodName) method_4_code 6 (some .boolean) ws ({ frames := 0, cells := 0, slots := 0, locals := 0 } : Room) ({ frames := 0, cells := 0, slots := 0, locals := 0 } : Room).cells ({ frames := 0, cells := 0, slots := 0, locals := 0 } : Room).slots #[(.ref o0), (.int p1), (.int p2), (.ref o3), (.ref o4), (.int p5)] h0 n0 (fun v h => v = some (.int 1) ∧ h0 = h) := by
  refine W.enter (plainFor_of_name pn_0) Z0 ?_
  intro p e s m below meth c C hnm hsh
  have C : W.Cx p s m meth c Z n0 "com/example/borderline/borderline/TriePathsPathPinLaw" method_4_code 6 (some .boolean) := C
  refine W.Go.castF (ef_4i m o0 p1 p2 o3 o4 p5) ?_
  have rp1 := rng32 p1
  have rp2 := rng32 p2
  refine W.iloadN C d4_0 rfl rfl ?_
  refine W.iloadN C d4_1 rfl rfl ?_
  refine W.icmp C (pc' := 27) (pn := 5) d4_2 (by decide) rfl rfl (W.q_ge p1 p2) (fun hc2 => ?_) (fun hc2 => ?_)
  · exfalso
    omega
  refine W.aloadN C d4_5 rfl rfl rfl ?_
  refine W.iloadN C d4_6 rfl rfl ?_
  refine W.baload C (v := (.int u)) VP i0 i4 hu d4_7 rfl ?_
  refine W.aload C d4_8 rfl rfl rfl ?_
  refine W.aloadN C d4_10 rfl rfl rfl ?_
  refine W.iloadN C d4_11 rfl rfl ?_
  refine W.iconst C (x := (1 : Int32)) d4_12 rfl rfl ?_
  refine W.isub C (z := (p2 - (1 : Int32))) d4_13 rfl rfl ?_
  refine W.iloadN C d4_14 rfl rfl ?_
  have z1 := c_isub p2 1
  have z2 := c_isub (p2 - 1) p1
  have z3 := rng32 (p2 - 1)
  have z4 := rng32 (p2 - 1 - p1)
  simp only [Int32.reduceToInt] at z1
  refine W.isub C (z := ((p2 - (1 : Int32)) - p1)) d4_15 rfl rfl ?_
  refine W.iaload C (v := (.int x)) VS (by omega) (by simp only [Int32.reduceToInt]; omega) (by rw [show (p2 - 1 - p1).toInt.toNat = p2.toInt.toNat - 1 - p1.toInt.toNat by omega]; exact hx) d4_16 rfl ?_
  refine W.baload C (v := (.int y)) VL x0 (by simp only [Int32.reduceToInt]; omega) hy d4_17 rfl ?_
  refine W.icmp C (pc' := 25) (pn := 21) d4_18 (by decide) rfl rfl (W.q_ne u y) (fun hc18 => ?_) (fun hc18 => ?_)
  · exfalso
    exact hc18 he
  refine W.iconst C (x := (1 : Int32)) d4_21 rfl rfl ?_
  refine W.goto C (pc' := 26) d4_22 (by decide) rfl ?_
  refine W.retZ C (w := (1 : Int32)) (by simp) d4_26 (by decide) (by decide) (by decide) (fun _ _ _ _ q => q) ?_
  exact ⟨rfl, rfl⟩
set_option maxRecDepth 65536 in
set_option maxHeartbeats 40000000 in
theorem rmCo (l : Launch) (Z : State) (a0 : Array Value) (hw : ∀ d ∈ tables_1, d.before a0 Z = true) (ws : List Jvm.Cond) (o0 : Addr) (p1 p2 : Int32) (o3 o4 : Addr) (p5 : Int32) (ka kb kd : ClassId) (lp ls lb : List Value) (u x y : Int32) (h0 : Heap) (n0 : Nat) (Z0 : n0 ≤ h0.size) (VP : Arv Z h0 o0 ka .byte (4 : Int32) lp (.int (0 : Int32))) (i0 : 0 ≤ p1.toInt) (i4 : p1.toInt < (4 : Int32).toInt) (hu : lp.getD p1.toInt.toNat (.int (0 : Int32)) = .int u) (ik : p2.toInt ≤ p1.toInt) (he : u = p5) :
    W.Con l Z (⟨"com/example/borderline/borderline/TriePathsPathPinLaw", "cell", "([BII[I[BB)Z"⟩ : MethodName) method_4_code 6 (some .boolean) ws ({ frames := 0, cells := 0, slots := 0, locals := 0 } : Room) ({ frames := 0, cells := 0, slots := 0, locals := 0 } : Room).cells ({ frames := 0, cells := 0, slots := 0, locals := 0 } : Room).slots #[(.ref o0), (.int p1), (.int p2), (.ref o3), (.ref o4), (.int p5)] h0 n0 (fun v h => v = some (.int 1) ∧ h0 = h) := by
  refine W.enter (plainFor_of_name pn_0) Z0 ?_
  intro p e s m below meth c C hnm hsh
  have C : W.Cx p s m meth c Z n0 "com/example/borderline/borderline/TriePathsPathPinLaw" method_4_code 6 (some .boolean) := C
  refine W.Go.castF (ef_4o m o0 p1 p2 o3 o4 p5) ?_
  have rp1 := rng32 p1
  have rp2 := rng32 p2
  refine W.iloadN C d4_0 rfl rfl ?_
  refine W.iloadN C d4_1 rfl rfl ?_
  refine W.icmp C (pc' := 27) (pn := 5) d4_2 (by decide) rfl rfl (W.q_ge p1 p2) (fun hc2 => ?_) (fun hc2 => ?_)
  rotate_left
  · exfalso
    omega
  refine W.aloadN C d4_27 rfl rfl rfl ?_
  refine W.iloadN C d4_28 rfl rfl ?_
  refine W.baload C (v := (.int u)) VP i0 i4 hu d4_29 rfl ?_
  refine W.iload C d4_30 rfl rfl ?_
  refine W.icmp C (pc' := 39) (pn := 35) d4_32 (by decide) rfl rfl (W.q_ne u p5) (fun hc32 => ?_) (fun hc32 => ?_)
  · exfalso
    exact hc32 he
  refine W.iconst C (x := (1 : Int32)) d4_35 rfl rfl ?_
  refine W.goto C (pc' := 40) d4_36 (by decide) rfl ?_
  refine W.retZ C (w := (1 : Int32)) (by simp) d4_40 (by decide) (by decide) (by decide) (fun _ _ _ _ q => q) ?_
  exact ⟨rfl, rfl⟩
set_option maxRecDepth 65536 in
set_option maxHeartbeats 40000000 in
theorem rmP0 (l : Launch) (Z : State) (a0 : Array Value) (hw : ∀ d ∈ tables_1, d.before a0 Z = true) (ws : List Jvm.Cond) (o0 o1 o4 : Addr) (kl kq kp : ClassId) (lb lq : List Value) (ff x0 : Int32) (h0 : Heap) (n0 : Nat) (Z0 : n0 ≤ h0.size) (VL : Arv Z h0 o0 kl .byte (6 : Int32) lb (.int (0 : Int32))) (VQ : Arv Z h0 o1 kq .int (6 : Int32) lq (.int (0 : Int32))) (VP : Arv Z h0 o4 kp .byte (4 : Int32) [(.int ff), (.int ff), (.int ff), (.int ff)] (.int (0 : Int32))) (ne_o0_o4 : o0 ≠ o4) (ne_o1_o4 : o1 ≠ o4) (g0_o4 : n0 ≤ o4) :
    W.Con l Z (⟨"com/example/borderline/borderline/TriePaths", "path", "([B[III[B)I"⟩ : MethodName) prog_22_method_3_code 8 (some .int) ws ({ frames := 0, cells := 0, slots := 0, locals := 0 } : Room) ({ frames := 0, cells := 0, slots := 0, locals := 0 } : Room).cells ({ frames := 0, cells := 0, slots := 0, locals := 0 } : Room).slots #[(.ref o0), (.ref o1), (.int x0), (.int x0), (.ref o4)] h0 n0 (fun v h => v = some (.int 0) ∧ Keep h0 h [o4] ∧ Arv Z h o4 kp .byte (4 : Int32) [(.int ff), (.int ff), (.int ff), (.int ff)] (.int (0 : Int32))) := by
  refine W.enter (plainFor_of_name pn_1) Z0 ?_
  intro p e s m below meth c C hnm hsh
  have C : W.Cx p s m meth c Z n0 "com/example/borderline/borderline/TriePaths" prog_22_method_3_code 8 (some .int) := C
  refine W.Go.castF (ef_3P0 m o0 o1 x0 o4) ?_
  refine W.iconst C (x := (0 : Int32)) d3_0 rfl rfl ?_
  refine W.istore C (Ls' := #[.val (.ref o0), .val (.ref o1), .val (.int x0), .val (.int x0), .val (.ref o4), .val (.int (0 : Int32)), .unset, .unset]) d3_1 rfl rfl ?_
  refine W.iloadN C d3_3 rfl rfl ?_
  refine W.istore C (Ls' := #[.val (.ref o0), .val (.ref o1), .val (.int x0), .val (.int x0), .val (.ref o4), .val (.int (0 : Int32)), .val (.int x0), .unset]) d3_4 rfl rfl ?_
  refine W.iload C d3_6 rfl rfl ?_
  refine W.iloadN C d3_8 rfl rfl ?_
  refine W.icmp C (pc' := 24) (pn := 12) d3_9 (by decide) rfl rfl (W.q_eq x0 x0) (fun hc9 => ?_) (fun hc9 => ?_)
  rotate_left
  · exact absurd rfl hc9
  refine W.iload C d3_24 rfl rfl ?_
  refine W.istore C (Ls' := #[.val (.ref o0), .val (.ref o1), .val (.int x0), .val (.int x0), .val (.ref o4), .val (.int (0 : Int32)), .val (.int (0 : Int32)), .unset]) d3_26 rfl rfl ?_
  refine W.iloadN C d3_28 rfl rfl ?_
  refine W.istore C (Ls' := #[.val (.ref o0), .val (.ref o1), .val (.int x0), .val (.int x0), .val (.ref o4), .val (.int (0 : Int32)), .val (.int (0 : Int32)), .val (.int x0)]) d3_29 rfl rfl ?_
  refine W.iload C d3_31 rfl rfl ?_
  refine W.iloadN C d3_33 rfl rfl ?_
  refine W.icmp C (pc' := 58) (pn := 37) d3_34 (by decide) rfl rfl (W.q_eq x0 x0) (fun hc34 => ?_) (fun hc34 => ?_)
  rotate_left
  · exact absurd rfl hc34
  refine W.iload C d3_58 rfl rfl ?_
  refine W.retI C d3_60 (by decide) (by decide) (fun _ _ _ _ q => q) ?_
  exact ⟨rfl, (Keep.refl h0 [o4]), VP⟩
set_option maxRecDepth 65536 in
set_option maxHeartbeats 40000000 in
theorem rmP1 (l : Launch) (Z : State) (a0 : Array Value) (hw : ∀ d ∈ tables_1, d.before a0 Z = true) (ws : List Jvm.Cond) (o0 o1 o4 : Addr) (kl kq kp : ClassId) (lb lq : List Value) (ff x0 x1 y0 : Int32) (h0 : Heap) (n0 : Nat) (Z0 : n0 ≤ h0.size) (VL : Arv Z h0 o0 kl .byte (6 : Int32) lb (.int (0 : Int32))) (VQ : Arv Z h0 o1 kq .int (6 : Int32) lq (.int (0 : Int32))) (VP : Arv Z h0 o4 kp .byte (4 : Int32) [(.int ff), (.int ff), (.int ff), (.int ff)] (.int (0 : Int32))) (ne_o0_o4 : o0 ≠ o4) (ne_o1_o4 : o1 ≠ o4) (g0_o4 : n0 ≤ o4) (e0 : 0 ≤ x0.toInt ∧ x0.toInt < (6 : Int32).toInt) (v0 : lq.getD x0.toInt.toNat (.int (0 : Int32)) = .int x1) (l0 : lb.getD x0.toInt.toNat (.int (0 : Int32)) = .int y0) (d0 : ¬ x0 = x1) :
    W.Con l Z (⟨"com/example/borderline/borderline/TriePaths", "path", "([B[III[B)I"⟩ : MethodName) prog_22_method_3_code 8 (some .int) ws ({ frames := 0, cells := 0, slots := 0, locals := 0 } : Room) ({ frames := 0, cells := 0, slots := 0, locals := 0 } : Room).cells ({ frames := 0, cells := 0, slots := 0, locals := 0 } : Room).slots #[(.ref o0), (.ref o1), (.int x1), (.int x0), (.ref o4)] h0 n0 (fun v h => v = some (.int 1) ∧ Keep h0 h [o4] ∧ Arv Z h o4 kp .byte (4 : Int32) [(.int (nar .byte y0)), (.int ff), (.int ff), (.int ff)] (.int (0 : Int32))) := by
  refine W.enter (plainFor_of_name pn_1) Z0 ?_
  intro p e s m below meth c C hnm hsh
  have C : W.Cx p s m meth c Z n0 "com/example/borderline/borderline/TriePaths" prog_22_method_3_code 8 (some .int) := C
  refine W.Go.castF (ef_3P1 m o0 o1 x1 x0 o4) ?_
  refine W.iconst C (x := (0 : Int32)) d3_0 rfl rfl ?_
  refine W.istore C (Ls' := #[.val (.ref o0), .val (.ref o1), .val (.int x1), .val (.int x0), .val (.ref o4), .val (.int (0 : Int32)), .unset, .unset]) d3_1 rfl rfl ?_
  refine W.iloadN C d3_3 rfl rfl ?_
  refine W.istore C (Ls' := #[.val (.ref o0), .val (.ref o1), .val (.int x1), .val (.int x0), .val (.ref o4), .val (.int (0 : Int32)), .val (.int x0), .unset]) d3_4 rfl rfl ?_
  refine W.iload C d3_6 rfl rfl ?_
  refine W.iloadN C d3_8 rfl rfl ?_
  refine W.icmp C (pc' := 24) (pn := 12) d3_9 (by decide) rfl rfl (W.q_eq x0 x1) (fun hc9 => ?_) (fun hc9 => ?_)
  · exfalso
    exact d0 hc9
  refine W.iinc C (z := (1 : Int32)) (Ls' := #[.val (.ref o0), .val (.ref o1), .val (.int x1), .val (.int x0), .val (.ref o4), .val (.int (1 : Int32)), .val (.int x0), .unset]) d3_12 rfl rfl (by decide) rfl ?_
  refine W.aloadN C d3_15 rfl rfl rfl ?_
  refine W.iload C d3_16 rfl rfl ?_
  refine W.iaload C VQ e0.1 e0.2 v0 d3_18 rfl ?_
  refine W.istore C (Ls' := #[.val (.ref o0), .val (.ref o1), .val (.int x1), .val (.int x0), .val (.ref o4), .val (.int (1 : Int32)), .val (.int x1), .unset]) d3_19 rfl rfl ?_
  refine W.goto C (pc' := 6) d3_21 (by decide) rfl ?_
  refine W.iload C d3_6 rfl rfl ?_
  refine W.iloadN C d3_8 rfl rfl ?_
  refine W.icmp C (pc' := 24) (pn := 12) d3_9 (by decide) rfl rfl (W.q_eq x1 x1) (fun hc9 => ?_) (fun hc9 => ?_)
  rotate_left
  · exact absurd rfl hc9
  refine W.iload C d3_24 rfl rfl ?_
  refine W.istore C (Ls' := #[.val (.ref o0), .val (.ref o1), .val (.int x1), .val (.int x0), .val (.ref o4), .val (.int (1 : Int32)), .val (.int (1 : Int32)), .unset]) d3_26 rfl rfl ?_
  refine W.iloadN C d3_28 rfl rfl ?_
  refine W.istore C (Ls' := #[.val (.ref o0), .val (.ref o1), .val (.int x1), .val (.int x0), .val (.ref o4), .val (.int (1 : Int32)), .val (.int (1 : Int32)), .val (.int x0)]) d3_29 rfl rfl ?_
  refine W.iload C d3_31 rfl rfl ?_
  refine W.iloadN C d3_33 rfl rfl ?_
  refine W.icmp C (pc' := 58) (pn := 37) d3_34 (by decide) rfl rfl (W.q_eq x0 x1) (fun hc34 => ?_) (fun hc34 => ?_)
  · exfalso
    exact d0 hc34
  refine W.aload C d3_37 rfl rfl rfl ?_
  refine W.iinc C (z := (0 : Int32)) (Ls' := #[.val (.ref o0), .val (.ref o1), .val (.int x1), .val (.int x0), .val (.ref o4), .val (.int (1 : Int32)), .val (.int (0 : Int32)), .val (.int x0)]) d3_39 rfl rfl (by decide) rfl ?_
  refine W.iload C d3_42 rfl rfl ?_
  refine W.aloadN C d3_44 rfl rfl rfl ?_
  refine W.iload C d3_45 rfl rfl ?_
  refine W.baload C VL e0.1 e0.2 l0 d3_47 rfl ?_
  refine W.bastore C VP (by decide) (by decide) (show 0 < 4 from by decide) g0_o4 d3_48 rfl ?_
  intro h1 W1 V1
  have V1 : Arv Z h1 o4 kp .byte (4 : Int32) [(.int (nar .byte y0)), (.int ff), (.int ff), (.int ff)] (.int (0 : Int32)) := V1
  refine W.aloadN C d3_49 rfl rfl rfl ?_
  refine W.iload C d3_50 rfl rfl ?_
  refine W.iaload C (VQ.other W1 ne_o1_o4) e0.1 e0.2 v0 d3_52 rfl ?_
  refine W.istore C (Ls' := #[.val (.ref o0), .val (.ref o1), .val (.int x1), .val (.int x0), .val (.ref o4), .val (.int (1 : Int32)), .val (.int (0 : Int32)), .val (.int x1)]) d3_53 rfl rfl ?_
  refine W.goto C (pc' := 31) d3_55 (by decide) rfl ?_
  refine W.iload C d3_31 rfl rfl ?_
  refine W.iloadN C d3_33 rfl rfl ?_
  refine W.icmp C (pc' := 58) (pn := 37) d3_34 (by decide) rfl rfl (W.q_eq x1 x1) (fun hc34 => ?_) (fun hc34 => ?_)
  rotate_left
  · exact absurd rfl hc34
  refine W.iload C d3_58 rfl rfl ?_
  refine W.retI C d3_60 (by decide) (by decide) (fun _ _ _ _ q => q) ?_
  exact ⟨rfl, ((Keep.refl h0 [o4]).wr W1 (Or.inl (List.mem_of_getElem? (i := 0) rfl))), V1⟩
set_option maxRecDepth 65536 in
set_option maxHeartbeats 40000000 in
theorem rmP2 (l : Launch) (Z : State) (a0 : Array Value) (hw : ∀ d ∈ tables_1, d.before a0 Z = true) (ws : List Jvm.Cond) (o0 o1 o4 : Addr) (kl kq kp : ClassId) (lb lq : List Value) (ff x0 x1 x2 y0 y1 : Int32) (h0 : Heap) (n0 : Nat) (Z0 : n0 ≤ h0.size) (VL : Arv Z h0 o0 kl .byte (6 : Int32) lb (.int (0 : Int32))) (VQ : Arv Z h0 o1 kq .int (6 : Int32) lq (.int (0 : Int32))) (VP : Arv Z h0 o4 kp .byte (4 : Int32) [(.int ff), (.int ff), (.int ff), (.int ff)] (.int (0 : Int32))) (ne_o0_o4 : o0 ≠ o4) (ne_o1_o4 : o1 ≠ o4) (g0_o4 : n0 ≤ o4) (e0 : 0 ≤ x0.toInt ∧ x0.toInt < (6 : Int32).toInt) (v0 : lq.getD x0.toInt.toNat (.int (0 : Int32)) = .int x1) (l0 : lb.getD x0.toInt.toNat (.int (0 : Int32)) = .int y0) (d0 : ¬ x0 = x2) (e1 : 0 ≤ x1.toInt ∧ x1.toInt < (6 : Int32).toInt) (v1 : lq.getD x1.toInt.toNat (.int (0 : Int32)) = .int x2) (l1 : lb.getD x1.toInt.toNat (.int (0 : Int32)) = .int y1) (d1 : ¬ x1 = x2) :
    W.Con l Z (⟨"com/example/borderline/borderline/TriePaths", "path", "([B[III[B)I"⟩ : MethodName) prog_22_method_3_code 8 (some .int) ws ({ frames := 0, cells := 0, slots := 0, locals := 0 } : Room) ({ frames := 0, cells := 0, slots := 0, locals := 0 } : Room).cells ({ frames := 0, cells := 0, slots := 0, locals := 0 } : Room).slots #[(.ref o0), (.ref o1), (.int x2), (.int x0), (.ref o4)] h0 n0 (fun v h => v = some (.int 2) ∧ Keep h0 h [o4] ∧ Arv Z h o4 kp .byte (4 : Int32) [(.int (nar .byte y1)), (.int (nar .byte y0)), (.int ff), (.int ff)] (.int (0 : Int32))) := by
  refine W.enter (plainFor_of_name pn_1) Z0 ?_
  intro p e s m below meth c C hnm hsh
  have C : W.Cx p s m meth c Z n0 "com/example/borderline/borderline/TriePaths" prog_22_method_3_code 8 (some .int) := C
  refine W.Go.castF (ef_3P2 m o0 o1 x2 x0 o4) ?_
  refine W.iconst C (x := (0 : Int32)) d3_0 rfl rfl ?_
  refine W.istore C (Ls' := #[.val (.ref o0), .val (.ref o1), .val (.int x2), .val (.int x0), .val (.ref o4), .val (.int (0 : Int32)), .unset, .unset]) d3_1 rfl rfl ?_
  refine W.iloadN C d3_3 rfl rfl ?_
  refine W.istore C (Ls' := #[.val (.ref o0), .val (.ref o1), .val (.int x2), .val (.int x0), .val (.ref o4), .val (.int (0 : Int32)), .val (.int x0), .unset]) d3_4 rfl rfl ?_
  refine W.iload C d3_6 rfl rfl ?_
  refine W.iloadN C d3_8 rfl rfl ?_
  refine W.icmp C (pc' := 24) (pn := 12) d3_9 (by decide) rfl rfl (W.q_eq x0 x2) (fun hc9 => ?_) (fun hc9 => ?_)
  · exfalso
    exact d0 hc9
  refine W.iinc C (z := (1 : Int32)) (Ls' := #[.val (.ref o0), .val (.ref o1), .val (.int x2), .val (.int x0), .val (.ref o4), .val (.int (1 : Int32)), .val (.int x0), .unset]) d3_12 rfl rfl (by decide) rfl ?_
  refine W.aloadN C d3_15 rfl rfl rfl ?_
  refine W.iload C d3_16 rfl rfl ?_
  refine W.iaload C VQ e0.1 e0.2 v0 d3_18 rfl ?_
  refine W.istore C (Ls' := #[.val (.ref o0), .val (.ref o1), .val (.int x2), .val (.int x0), .val (.ref o4), .val (.int (1 : Int32)), .val (.int x1), .unset]) d3_19 rfl rfl ?_
  refine W.goto C (pc' := 6) d3_21 (by decide) rfl ?_
  refine W.iload C d3_6 rfl rfl ?_
  refine W.iloadN C d3_8 rfl rfl ?_
  refine W.icmp C (pc' := 24) (pn := 12) d3_9 (by decide) rfl rfl (W.q_eq x1 x2) (fun hc9 => ?_) (fun hc9 => ?_)
  · exfalso
    exact d1 hc9
  refine W.iinc C (z := (2 : Int32)) (Ls' := #[.val (.ref o0), .val (.ref o1), .val (.int x2), .val (.int x0), .val (.ref o4), .val (.int (2 : Int32)), .val (.int x1), .unset]) d3_12 rfl rfl (by decide) rfl ?_
  refine W.aloadN C d3_15 rfl rfl rfl ?_
  refine W.iload C d3_16 rfl rfl ?_
  refine W.iaload C VQ e1.1 e1.2 v1 d3_18 rfl ?_
  refine W.istore C (Ls' := #[.val (.ref o0), .val (.ref o1), .val (.int x2), .val (.int x0), .val (.ref o4), .val (.int (2 : Int32)), .val (.int x2), .unset]) d3_19 rfl rfl ?_
  refine W.goto C (pc' := 6) d3_21 (by decide) rfl ?_
  refine W.iload C d3_6 rfl rfl ?_
  refine W.iloadN C d3_8 rfl rfl ?_
  refine W.icmp C (pc' := 24) (pn := 12) d3_9 (by decide) rfl rfl (W.q_eq x2 x2) (fun hc9 => ?_) (fun hc9 => ?_)
  rotate_left
  · exact absurd rfl hc9
  refine W.iload C d3_24 rfl rfl ?_
  refine W.istore C (Ls' := #[.val (.ref o0), .val (.ref o1), .val (.int x2), .val (.int x0), .val (.ref o4), .val (.int (2 : Int32)), .val (.int (2 : Int32)), .unset]) d3_26 rfl rfl ?_
  refine W.iloadN C d3_28 rfl rfl ?_
  refine W.istore C (Ls' := #[.val (.ref o0), .val (.ref o1), .val (.int x2), .val (.int x0), .val (.ref o4), .val (.int (2 : Int32)), .val (.int (2 : Int32)), .val (.int x0)]) d3_29 rfl rfl ?_
  refine W.iload C d3_31 rfl rfl ?_
  refine W.iloadN C d3_33 rfl rfl ?_
  refine W.icmp C (pc' := 58) (pn := 37) d3_34 (by decide) rfl rfl (W.q_eq x0 x2) (fun hc34 => ?_) (fun hc34 => ?_)
  · exfalso
    exact d0 hc34
  refine W.aload C d3_37 rfl rfl rfl ?_
  refine W.iinc C (z := (1 : Int32)) (Ls' := #[.val (.ref o0), .val (.ref o1), .val (.int x2), .val (.int x0), .val (.ref o4), .val (.int (2 : Int32)), .val (.int (1 : Int32)), .val (.int x0)]) d3_39 rfl rfl (by decide) rfl ?_
  refine W.iload C d3_42 rfl rfl ?_
  refine W.aloadN C d3_44 rfl rfl rfl ?_
  refine W.iload C d3_45 rfl rfl ?_
  refine W.baload C VL e0.1 e0.2 l0 d3_47 rfl ?_
  refine W.bastore C VP (by decide) (by decide) (show 1 < 4 from by decide) g0_o4 d3_48 rfl ?_
  intro h1 W1 V1
  have V1 : Arv Z h1 o4 kp .byte (4 : Int32) [(.int ff), (.int (nar .byte y0)), (.int ff), (.int ff)] (.int (0 : Int32)) := V1
  refine W.aloadN C d3_49 rfl rfl rfl ?_
  refine W.iload C d3_50 rfl rfl ?_
  refine W.iaload C (VQ.other W1 ne_o1_o4) e0.1 e0.2 v0 d3_52 rfl ?_
  refine W.istore C (Ls' := #[.val (.ref o0), .val (.ref o1), .val (.int x2), .val (.int x0), .val (.ref o4), .val (.int (2 : Int32)), .val (.int (1 : Int32)), .val (.int x1)]) d3_53 rfl rfl ?_
  refine W.goto C (pc' := 31) d3_55 (by decide) rfl ?_
  refine W.iload C d3_31 rfl rfl ?_
  refine W.iloadN C d3_33 rfl rfl ?_
  refine W.icmp C (pc' := 58) (pn := 37) d3_34 (by decide) rfl rfl (W.q_eq x1 x2) (fun hc34 => ?_) (fun hc34 => ?_)
  · exfalso
    exact d1 hc34
  refine W.aload C d3_37 rfl rfl rfl ?_
  refine W.iinc C (z := (0 : Int32)) (Ls' := #[.val (.ref o0), .val (.ref o1), .val (.int x2), .val (.int x0), .val (.ref o4), .val (.int (2 : Int32)), .val (.int (0 : Int32)), .val (.int x1)]) d3_39 rfl rfl (by decide) rfl ?_
  refine W.iload C d3_42 rfl rfl ?_
  refine W.aloadN C d3_44 rfl rfl rfl ?_
  refine W.iload C d3_45 rfl rfl ?_
  refine W.baload C (VL.other W1 ne_o0_o4) e1.1 e1.2 l1 d3_47 rfl ?_
  refine W.bastore C V1 (by decide) (by decide) (show 0 < 4 from by decide) g0_o4 d3_48 rfl ?_
  intro h2 W2 V2
  have V2 : Arv Z h2 o4 kp .byte (4 : Int32) [(.int (nar .byte y1)), (.int (nar .byte y0)), (.int ff), (.int ff)] (.int (0 : Int32)) := V2
  refine W.aloadN C d3_49 rfl rfl rfl ?_
  refine W.iload C d3_50 rfl rfl ?_
  refine W.iaload C ((VQ.other W1 ne_o1_o4).other W2 ne_o1_o4) e1.1 e1.2 v1 d3_52 rfl ?_
  refine W.istore C (Ls' := #[.val (.ref o0), .val (.ref o1), .val (.int x2), .val (.int x0), .val (.ref o4), .val (.int (2 : Int32)), .val (.int (0 : Int32)), .val (.int x2)]) d3_53 rfl rfl ?_
  refine W.goto C (pc' := 31) d3_55 (by decide) rfl ?_
  refine W.iload C d3_31 rfl rfl ?_
  refine W.iloadN C d3_33 rfl rfl ?_
  refine W.icmp C (pc' := 58) (pn := 37) d3_34 (by decide) rfl rfl (W.q_eq x2 x2) (fun hc34 => ?_) (fun hc34 => ?_)
  rotate_left
  · exact absurd rfl hc34
  refine W.iload C d3_58 rfl rfl ?_
  refine W.retI C d3_60 (by decide) (by decide) (fun _ _ _ _ q => q) ?_
  exact ⟨rfl, (((Keep.refl h0 [o4]).wr W1 (Or.inl (List.mem_of_getElem? (i := 0) rfl))).wr W2 (Or.inl (List.mem_of_getElem? (i := 0) rfl))), V2⟩
set_option maxRecDepth 65536 in
set_option maxHeartbeats 40000000 in
theorem rmP3 (l : Launch) (Z : State) (a0 : Array Value) (hw : ∀ d ∈ tables_1, d.before a0 Z = true) (ws : List Jvm.Cond) (o0 o1 o4 : Addr) (kl kq kp : ClassId) (lb lq : List Value) (ff x0 x1 x2 x3 y0 y1 y2 : Int32) (h0 : Heap) (n0 : Nat) (Z0 : n0 ≤ h0.size) (VL : Arv Z h0 o0 kl .byte (6 : Int32) lb (.int (0 : Int32))) (VQ : Arv Z h0 o1 kq .int (6 : Int32) lq (.int (0 : Int32))) (VP : Arv Z h0 o4 kp .byte (4 : Int32) [(.int ff), (.int ff), (.int ff), (.int ff)] (.int (0 : Int32))) (ne_o0_o4 : o0 ≠ o4) (ne_o1_o4 : o1 ≠ o4) (g0_o4 : n0 ≤ o4) (e0 : 0 ≤ x0.toInt ∧ x0.toInt < (6 : Int32).toInt) (v0 : lq.getD x0.toInt.toNat (.int (0 : Int32)) = .int x1) (l0 : lb.getD x0.toInt.toNat (.int (0 : Int32)) = .int y0) (d0 : ¬ x0 = x3) (e1 : 0 ≤ x1.toInt ∧ x1.toInt < (6 : Int32).toInt) (v1 : lq.getD x1.toInt.toNat (.int (0 : Int32)) = .int x2) (l1 : lb.getD x1.toInt.toNat (.int (0 : Int32)) = .int y1) (d1 : ¬ x1 = x3) (e2 : 0 ≤ x2.toInt ∧ x2.toInt < (6 : Int32).toInt) (v2 : lq.getD x2.toInt.toNat (.int (0 : Int32)) = .int x3) (l2 : lb.getD x2.toInt.toNat (.int (0 : Int32)) = .int y2) (d2 : ¬ x2 = x3) :
    W.Con l Z (⟨"com/example/borderline/borderline/TriePaths", "path", "([B[III[B)I"⟩ : MethodName) prog_22_method_3_code 8 (some .int) ws ({ frames := 0, cells := 0, slots := 0, locals := 0 } : Room) ({ frames := 0, cells := 0, slots := 0, locals := 0 } : Room).cells ({ frames := 0, cells := 0, slots := 0, locals := 0 } : Room).slots #[(.ref o0), (.ref o1), (.int x3), (.int x0), (.ref o4)] h0 n0 (fun v h => v = some (.int 3) ∧ Keep h0 h [o4] ∧ Arv Z h o4 kp .byte (4 : Int32) [(.int (nar .byte y2)), (.int (nar .byte y1)), (.int (nar .byte y0)), (.int ff)] (.int (0 : Int32))) := by
  refine W.enter (plainFor_of_name pn_1) Z0 ?_
  intro p e s m below meth c C hnm hsh
  have C : W.Cx p s m meth c Z n0 "com/example/borderline/borderline/TriePaths" prog_22_method_3_code 8 (some .int) := C
  refine W.Go.castF (ef_3P3 m o0 o1 x3 x0 o4) ?_
  refine W.iconst C (x := (0 : Int32)) d3_0 rfl rfl ?_
  refine W.istore C (Ls' := #[.val (.ref o0), .val (.ref o1), .val (.int x3), .val (.int x0), .val (.ref o4), .val (.int (0 : Int32)), .unset, .unset]) d3_1 rfl rfl ?_
  refine W.iloadN C d3_3 rfl rfl ?_
  refine W.istore C (Ls' := #[.val (.ref o0), .val (.ref o1), .val (.int x3), .val (.int x0), .val (.ref o4), .val (.int (0 : Int32)), .val (.int x0), .unset]) d3_4 rfl rfl ?_
  refine W.iload C d3_6 rfl rfl ?_
  refine W.iloadN C d3_8 rfl rfl ?_
  refine W.icmp C (pc' := 24) (pn := 12) d3_9 (by decide) rfl rfl (W.q_eq x0 x3) (fun hc9 => ?_) (fun hc9 => ?_)
  · exfalso
    exact d0 hc9
  refine W.iinc C (z := (1 : Int32)) (Ls' := #[.val (.ref o0), .val (.ref o1), .val (.int x3), .val (.int x0), .val (.ref o4), .val (.int (1 : Int32)), .val (.int x0), .unset]) d3_12 rfl rfl (by decide) rfl ?_
  refine W.aloadN C d3_15 rfl rfl rfl ?_
  refine W.iload C d3_16 rfl rfl ?_
  refine W.iaload C VQ e0.1 e0.2 v0 d3_18 rfl ?_
  refine W.istore C (Ls' := #[.val (.ref o0), .val (.ref o1), .val (.int x3), .val (.int x0), .val (.ref o4), .val (.int (1 : Int32)), .val (.int x1), .unset]) d3_19 rfl rfl ?_
  refine W.goto C (pc' := 6) d3_21 (by decide) rfl ?_
  refine W.iload C d3_6 rfl rfl ?_
  refine W.iloadN C d3_8 rfl rfl ?_
  refine W.icmp C (pc' := 24) (pn := 12) d3_9 (by decide) rfl rfl (W.q_eq x1 x3) (fun hc9 => ?_) (fun hc9 => ?_)
  · exfalso
    exact d1 hc9
  refine W.iinc C (z := (2 : Int32)) (Ls' := #[.val (.ref o0), .val (.ref o1), .val (.int x3), .val (.int x0), .val (.ref o4), .val (.int (2 : Int32)), .val (.int x1), .unset]) d3_12 rfl rfl (by decide) rfl ?_
  refine W.aloadN C d3_15 rfl rfl rfl ?_
  refine W.iload C d3_16 rfl rfl ?_
  refine W.iaload C VQ e1.1 e1.2 v1 d3_18 rfl ?_
  refine W.istore C (Ls' := #[.val (.ref o0), .val (.ref o1), .val (.int x3), .val (.int x0), .val (.ref o4), .val (.int (2 : Int32)), .val (.int x2), .unset]) d3_19 rfl rfl ?_
  refine W.goto C (pc' := 6) d3_21 (by decide) rfl ?_
  refine W.iload C d3_6 rfl rfl ?_
  refine W.iloadN C d3_8 rfl rfl ?_
  refine W.icmp C (pc' := 24) (pn := 12) d3_9 (by decide) rfl rfl (W.q_eq x2 x3) (fun hc9 => ?_) (fun hc9 => ?_)
  · exfalso
    exact d2 hc9
  refine W.iinc C (z := (3 : Int32)) (Ls' := #[.val (.ref o0), .val (.ref o1), .val (.int x3), .val (.int x0), .val (.ref o4), .val (.int (3 : Int32)), .val (.int x2), .unset]) d3_12 rfl rfl (by decide) rfl ?_
  refine W.aloadN C d3_15 rfl rfl rfl ?_
  refine W.iload C d3_16 rfl rfl ?_
  refine W.iaload C VQ e2.1 e2.2 v2 d3_18 rfl ?_
  refine W.istore C (Ls' := #[.val (.ref o0), .val (.ref o1), .val (.int x3), .val (.int x0), .val (.ref o4), .val (.int (3 : Int32)), .val (.int x3), .unset]) d3_19 rfl rfl ?_
  refine W.goto C (pc' := 6) d3_21 (by decide) rfl ?_
  refine W.iload C d3_6 rfl rfl ?_
  refine W.iloadN C d3_8 rfl rfl ?_
  refine W.icmp C (pc' := 24) (pn := 12) d3_9 (by decide) rfl rfl (W.q_eq x3 x3) (fun hc9 => ?_) (fun hc9 => ?_)
  rotate_left
  · exact absurd rfl hc9
  refine W.iload C d3_24 rfl rfl ?_
  refine W.istore C (Ls' := #[.val (.ref o0), .val (.ref o1), .val (.int x3), .val (.int x0), .val (.ref o4), .val (.int (3 : Int32)), .val (.int (3 : Int32)), .unset]) d3_26 rfl rfl ?_
  refine W.iloadN C d3_28 rfl rfl ?_
  refine W.istore C (Ls' := #[.val (.ref o0), .val (.ref o1), .val (.int x3), .val (.int x0), .val (.ref o4), .val (.int (3 : Int32)), .val (.int (3 : Int32)), .val (.int x0)]) d3_29 rfl rfl ?_
  refine W.iload C d3_31 rfl rfl ?_
  refine W.iloadN C d3_33 rfl rfl ?_
  refine W.icmp C (pc' := 58) (pn := 37) d3_34 (by decide) rfl rfl (W.q_eq x0 x3) (fun hc34 => ?_) (fun hc34 => ?_)
  · exfalso
    exact d0 hc34
  refine W.aload C d3_37 rfl rfl rfl ?_
  refine W.iinc C (z := (2 : Int32)) (Ls' := #[.val (.ref o0), .val (.ref o1), .val (.int x3), .val (.int x0), .val (.ref o4), .val (.int (3 : Int32)), .val (.int (2 : Int32)), .val (.int x0)]) d3_39 rfl rfl (by decide) rfl ?_
  refine W.iload C d3_42 rfl rfl ?_
  refine W.aloadN C d3_44 rfl rfl rfl ?_
  refine W.iload C d3_45 rfl rfl ?_
  refine W.baload C VL e0.1 e0.2 l0 d3_47 rfl ?_
  refine W.bastore C VP (by decide) (by decide) (show 2 < 4 from by decide) g0_o4 d3_48 rfl ?_
  intro h1 W1 V1
  have V1 : Arv Z h1 o4 kp .byte (4 : Int32) [(.int ff), (.int ff), (.int (nar .byte y0)), (.int ff)] (.int (0 : Int32)) := V1
  refine W.aloadN C d3_49 rfl rfl rfl ?_
  refine W.iload C d3_50 rfl rfl ?_
  refine W.iaload C (VQ.other W1 ne_o1_o4) e0.1 e0.2 v0 d3_52 rfl ?_
  refine W.istore C (Ls' := #[.val (.ref o0), .val (.ref o1), .val (.int x3), .val (.int x0), .val (.ref o4), .val (.int (3 : Int32)), .val (.int (2 : Int32)), .val (.int x1)]) d3_53 rfl rfl ?_
  refine W.goto C (pc' := 31) d3_55 (by decide) rfl ?_
  refine W.iload C d3_31 rfl rfl ?_
  refine W.iloadN C d3_33 rfl rfl ?_
  refine W.icmp C (pc' := 58) (pn := 37) d3_34 (by decide) rfl rfl (W.q_eq x1 x3) (fun hc34 => ?_) (fun hc34 => ?_)
  · exfalso
    exact d1 hc34
  refine W.aload C d3_37 rfl rfl rfl ?_
  refine W.iinc C (z := (1 : Int32)) (Ls' := #[.val (.ref o0), .val (.ref o1), .val (.int x3), .val (.int x0), .val (.ref o4), .val (.int (3 : Int32)), .val (.int (1 : Int32)), .val (.int x1)]) d3_39 rfl rfl (by decide) rfl ?_
  refine W.iload C d3_42 rfl rfl ?_
  refine W.aloadN C d3_44 rfl rfl rfl ?_
  refine W.iload C d3_45 rfl rfl ?_
  refine W.baload C (VL.other W1 ne_o0_o4) e1.1 e1.2 l1 d3_47 rfl ?_
  refine W.bastore C V1 (by decide) (by decide) (show 1 < 4 from by decide) g0_o4 d3_48 rfl ?_
  intro h2 W2 V2
  have V2 : Arv Z h2 o4 kp .byte (4 : Int32) [(.int ff), (.int (nar .byte y1)), (.int (nar .byte y0)), (.int ff)] (.int (0 : Int32)) := V2
  refine W.aloadN C d3_49 rfl rfl rfl ?_
  refine W.iload C d3_50 rfl rfl ?_
  refine W.iaload C ((VQ.other W1 ne_o1_o4).other W2 ne_o1_o4) e1.1 e1.2 v1 d3_52 rfl ?_
  refine W.istore C (Ls' := #[.val (.ref o0), .val (.ref o1), .val (.int x3), .val (.int x0), .val (.ref o4), .val (.int (3 : Int32)), .val (.int (1 : Int32)), .val (.int x2)]) d3_53 rfl rfl ?_
  refine W.goto C (pc' := 31) d3_55 (by decide) rfl ?_
  refine W.iload C d3_31 rfl rfl ?_
  refine W.iloadN C d3_33 rfl rfl ?_
  refine W.icmp C (pc' := 58) (pn := 37) d3_34 (by decide) rfl rfl (W.q_eq x2 x3) (fun hc34 => ?_) (fun hc34 => ?_)
  · exfalso
    exact d2 hc34
  refine W.aload C d3_37 rfl rfl rfl ?_
  refine W.iinc C (z := (0 : Int32)) (Ls' := #[.val (.ref o0), .val (.ref o1), .val (.int x3), .val (.int x0), .val (.ref o4), .val (.int (3 : Int32)), .val (.int (0 : Int32)), .val (.int x2)]) d3_39 rfl rfl (by decide) rfl ?_
  refine W.iload C d3_42 rfl rfl ?_
  refine W.aloadN C d3_44 rfl rfl rfl ?_
  refine W.iload C d3_45 rfl rfl ?_
  refine W.baload C ((VL.other W1 ne_o0_o4).other W2 ne_o0_o4) e2.1 e2.2 l2 d3_47 rfl ?_
  refine W.bastore C V2 (by decide) (by decide) (show 0 < 4 from by decide) g0_o4 d3_48 rfl ?_
  intro h3 W3 V3
  have V3 : Arv Z h3 o4 kp .byte (4 : Int32) [(.int (nar .byte y2)), (.int (nar .byte y1)), (.int (nar .byte y0)), (.int ff)] (.int (0 : Int32)) := V3
  refine W.aloadN C d3_49 rfl rfl rfl ?_
  refine W.iload C d3_50 rfl rfl ?_
  refine W.iaload C (((VQ.other W1 ne_o1_o4).other W2 ne_o1_o4).other W3 ne_o1_o4) e2.1 e2.2 v2 d3_52 rfl ?_
  refine W.istore C (Ls' := #[.val (.ref o0), .val (.ref o1), .val (.int x3), .val (.int x0), .val (.ref o4), .val (.int (3 : Int32)), .val (.int (0 : Int32)), .val (.int x3)]) d3_53 rfl rfl ?_
  refine W.goto C (pc' := 31) d3_55 (by decide) rfl ?_
  refine W.iload C d3_31 rfl rfl ?_
  refine W.iloadN C d3_33 rfl rfl ?_
  refine W.icmp C (pc' := 58) (pn := 37) d3_34 (by decide) rfl rfl (W.q_eq x3 x3) (fun hc34 => ?_) (fun hc34 => ?_)
  rotate_left
  · exact absurd rfl hc34
  refine W.iload C d3_58 rfl rfl ?_
  refine W.retI C d3_60 (by decide) (by decide) (fun _ _ _ _ q => q) ?_
  exact ⟨rfl, ((((Keep.refl h0 [o4]).wr W1 (Or.inl (List.mem_of_getElem? (i := 0) rfl))).wr W2 (Or.inl (List.mem_of_getElem? (i := 0) rfl))).wr W3 (Or.inl (List.mem_of_getElem? (i := 0) rfl))), V3⟩
set_option maxRecDepth 65536 in
set_option maxHeartbeats 40000000 in
theorem rmP4 (l : Launch) (Z : State) (a0 : Array Value) (hw : ∀ d ∈ tables_1, d.before a0 Z = true) (ws : List Jvm.Cond) (o0 o1 o4 : Addr) (kl kq kp : ClassId) (lb lq : List Value) (ff x0 x1 x2 x3 x4 y0 y1 y2 y3 : Int32) (h0 : Heap) (n0 : Nat) (Z0 : n0 ≤ h0.size) (VL : Arv Z h0 o0 kl .byte (6 : Int32) lb (.int (0 : Int32))) (VQ : Arv Z h0 o1 kq .int (6 : Int32) lq (.int (0 : Int32))) (VP : Arv Z h0 o4 kp .byte (4 : Int32) [(.int ff), (.int ff), (.int ff), (.int ff)] (.int (0 : Int32))) (ne_o0_o4 : o0 ≠ o4) (ne_o1_o4 : o1 ≠ o4) (g0_o4 : n0 ≤ o4) (e0 : 0 ≤ x0.toInt ∧ x0.toInt < (6 : Int32).toInt) (v0 : lq.getD x0.toInt.toNat (.int (0 : Int32)) = .int x1) (l0 : lb.getD x0.toInt.toNat (.int (0 : Int32)) = .int y0) (d0 : ¬ x0 = x4) (e1 : 0 ≤ x1.toInt ∧ x1.toInt < (6 : Int32).toInt) (v1 : lq.getD x1.toInt.toNat (.int (0 : Int32)) = .int x2) (l1 : lb.getD x1.toInt.toNat (.int (0 : Int32)) = .int y1) (d1 : ¬ x1 = x4) (e2 : 0 ≤ x2.toInt ∧ x2.toInt < (6 : Int32).toInt) (v2 : lq.getD x2.toInt.toNat (.int (0 : Int32)) = .int x3) (l2 : lb.getD x2.toInt.toNat (.int (0 : Int32)) = .int y2) (d2 : ¬ x2 = x4) (e3 : 0 ≤ x3.toInt ∧ x3.toInt < (6 : Int32).toInt) (v3 : lq.getD x3.toInt.toNat (.int (0 : Int32)) = .int x4) (l3 : lb.getD x3.toInt.toNat (.int (0 : Int32)) = .int y3) (d3 : ¬ x3 = x4) :
    W.Con l Z (⟨"com/example/borderline/borderline/TriePaths", "path", "([B[III[B)I"⟩ : MethodName) prog_22_method_3_code 8 (some .int) ws ({ frames := 0, cells := 0, slots := 0, locals := 0 } : Room) ({ frames := 0, cells := 0, slots := 0, locals := 0 } : Room).cells ({ frames := 0, cells := 0, slots := 0, locals := 0 } : Room).slots #[(.ref o0), (.ref o1), (.int x4), (.int x0), (.ref o4)] h0 n0 (fun v h => v = some (.int 4) ∧ Keep h0 h [o4] ∧ Arv Z h o4 kp .byte (4 : Int32) [(.int (nar .byte y3)), (.int (nar .byte y2)), (.int (nar .byte y1)), (.int (nar .byte y0))] (.int (0 : Int32))) := by
  refine W.enter (plainFor_of_name pn_1) Z0 ?_
  intro p e s m below meth c C hnm hsh
  have C : W.Cx p s m meth c Z n0 "com/example/borderline/borderline/TriePaths" prog_22_method_3_code 8 (some .int) := C
  refine W.Go.castF (ef_3P4 m o0 o1 x4 x0 o4) ?_
  refine W.iconst C (x := (0 : Int32)) d3_0 rfl rfl ?_
  refine W.istore C (Ls' := #[.val (.ref o0), .val (.ref o1), .val (.int x4), .val (.int x0), .val (.ref o4), .val (.int (0 : Int32)), .unset, .unset]) d3_1 rfl rfl ?_
  refine W.iloadN C d3_3 rfl rfl ?_
  refine W.istore C (Ls' := #[.val (.ref o0), .val (.ref o1), .val (.int x4), .val (.int x0), .val (.ref o4), .val (.int (0 : Int32)), .val (.int x0), .unset]) d3_4 rfl rfl ?_
  refine W.iload C d3_6 rfl rfl ?_
  refine W.iloadN C d3_8 rfl rfl ?_
  refine W.icmp C (pc' := 24) (pn := 12) d3_9 (by decide) rfl rfl (W.q_eq x0 x4) (fun hc9 => ?_) (fun hc9 => ?_)
  · exfalso
    exact d0 hc9
  refine W.iinc C (z := (1 : Int32)) (Ls' := #[.val (.ref o0), .val (.ref o1), .val (.int x4), .val (.int x0), .val (.ref o4), .val (.int (1 : Int32)), .val (.int x0), .unset]) d3_12 rfl rfl (by decide) rfl ?_
  refine W.aloadN C d3_15 rfl rfl rfl ?_
  refine W.iload C d3_16 rfl rfl ?_
  refine W.iaload C VQ e0.1 e0.2 v0 d3_18 rfl ?_
  refine W.istore C (Ls' := #[.val (.ref o0), .val (.ref o1), .val (.int x4), .val (.int x0), .val (.ref o4), .val (.int (1 : Int32)), .val (.int x1), .unset]) d3_19 rfl rfl ?_
  refine W.goto C (pc' := 6) d3_21 (by decide) rfl ?_
  refine W.iload C d3_6 rfl rfl ?_
  refine W.iloadN C d3_8 rfl rfl ?_
  refine W.icmp C (pc' := 24) (pn := 12) d3_9 (by decide) rfl rfl (W.q_eq x1 x4) (fun hc9 => ?_) (fun hc9 => ?_)
  · exfalso
    exact d1 hc9
  refine W.iinc C (z := (2 : Int32)) (Ls' := #[.val (.ref o0), .val (.ref o1), .val (.int x4), .val (.int x0), .val (.ref o4), .val (.int (2 : Int32)), .val (.int x1), .unset]) d3_12 rfl rfl (by decide) rfl ?_
  refine W.aloadN C d3_15 rfl rfl rfl ?_
  refine W.iload C d3_16 rfl rfl ?_
  refine W.iaload C VQ e1.1 e1.2 v1 d3_18 rfl ?_
  refine W.istore C (Ls' := #[.val (.ref o0), .val (.ref o1), .val (.int x4), .val (.int x0), .val (.ref o4), .val (.int (2 : Int32)), .val (.int x2), .unset]) d3_19 rfl rfl ?_
  refine W.goto C (pc' := 6) d3_21 (by decide) rfl ?_
  refine W.iload C d3_6 rfl rfl ?_
  refine W.iloadN C d3_8 rfl rfl ?_
  refine W.icmp C (pc' := 24) (pn := 12) d3_9 (by decide) rfl rfl (W.q_eq x2 x4) (fun hc9 => ?_) (fun hc9 => ?_)
  · exfalso
    exact d2 hc9
  refine W.iinc C (z := (3 : Int32)) (Ls' := #[.val (.ref o0), .val (.ref o1), .val (.int x4), .val (.int x0), .val (.ref o4), .val (.int (3 : Int32)), .val (.int x2), .unset]) d3_12 rfl rfl (by decide) rfl ?_
  refine W.aloadN C d3_15 rfl rfl rfl ?_
  refine W.iload C d3_16 rfl rfl ?_
  refine W.iaload C VQ e2.1 e2.2 v2 d3_18 rfl ?_
  refine W.istore C (Ls' := #[.val (.ref o0), .val (.ref o1), .val (.int x4), .val (.int x0), .val (.ref o4), .val (.int (3 : Int32)), .val (.int x3), .unset]) d3_19 rfl rfl ?_
  refine W.goto C (pc' := 6) d3_21 (by decide) rfl ?_
  refine W.iload C d3_6 rfl rfl ?_
  refine W.iloadN C d3_8 rfl rfl ?_
  refine W.icmp C (pc' := 24) (pn := 12) d3_9 (by decide) rfl rfl (W.q_eq x3 x4) (fun hc9 => ?_) (fun hc9 => ?_)
  · exfalso
    exact d3 hc9
  refine W.iinc C (z := (4 : Int32)) (Ls' := #[.val (.ref o0), .val (.ref o1), .val (.int x4), .val (.int x0), .val (.ref o4), .val (.int (4 : Int32)), .val (.int x3), .unset]) d3_12 rfl rfl (by decide) rfl ?_
  refine W.aloadN C d3_15 rfl rfl rfl ?_
  refine W.iload C d3_16 rfl rfl ?_
  refine W.iaload C VQ e3.1 e3.2 v3 d3_18 rfl ?_
  refine W.istore C (Ls' := #[.val (.ref o0), .val (.ref o1), .val (.int x4), .val (.int x0), .val (.ref o4), .val (.int (4 : Int32)), .val (.int x4), .unset]) d3_19 rfl rfl ?_
  refine W.goto C (pc' := 6) d3_21 (by decide) rfl ?_
  refine W.iload C d3_6 rfl rfl ?_
  refine W.iloadN C d3_8 rfl rfl ?_
  refine W.icmp C (pc' := 24) (pn := 12) d3_9 (by decide) rfl rfl (W.q_eq x4 x4) (fun hc9 => ?_) (fun hc9 => ?_)
  rotate_left
  · exact absurd rfl hc9
  refine W.iload C d3_24 rfl rfl ?_
  refine W.istore C (Ls' := #[.val (.ref o0), .val (.ref o1), .val (.int x4), .val (.int x0), .val (.ref o4), .val (.int (4 : Int32)), .val (.int (4 : Int32)), .unset]) d3_26 rfl rfl ?_
  refine W.iloadN C d3_28 rfl rfl ?_
  refine W.istore C (Ls' := #[.val (.ref o0), .val (.ref o1), .val (.int x4), .val (.int x0), .val (.ref o4), .val (.int (4 : Int32)), .val (.int (4 : Int32)), .val (.int x0)]) d3_29 rfl rfl ?_
  refine W.iload C d3_31 rfl rfl ?_
  refine W.iloadN C d3_33 rfl rfl ?_
  refine W.icmp C (pc' := 58) (pn := 37) d3_34 (by decide) rfl rfl (W.q_eq x0 x4) (fun hc34 => ?_) (fun hc34 => ?_)
  · exfalso
    exact d0 hc34
  refine W.aload C d3_37 rfl rfl rfl ?_
  refine W.iinc C (z := (3 : Int32)) (Ls' := #[.val (.ref o0), .val (.ref o1), .val (.int x4), .val (.int x0), .val (.ref o4), .val (.int (4 : Int32)), .val (.int (3 : Int32)), .val (.int x0)]) d3_39 rfl rfl (by decide) rfl ?_
  refine W.iload C d3_42 rfl rfl ?_
  refine W.aloadN C d3_44 rfl rfl rfl ?_
  refine W.iload C d3_45 rfl rfl ?_
  refine W.baload C VL e0.1 e0.2 l0 d3_47 rfl ?_
  refine W.bastore C VP (by decide) (by decide) (show 3 < 4 from by decide) g0_o4 d3_48 rfl ?_
  intro h1 W1 V1
  have V1 : Arv Z h1 o4 kp .byte (4 : Int32) [(.int ff), (.int ff), (.int ff), (.int (nar .byte y0))] (.int (0 : Int32)) := V1
  refine W.aloadN C d3_49 rfl rfl rfl ?_
  refine W.iload C d3_50 rfl rfl ?_
  refine W.iaload C (VQ.other W1 ne_o1_o4) e0.1 e0.2 v0 d3_52 rfl ?_
  refine W.istore C (Ls' := #[.val (.ref o0), .val (.ref o1), .val (.int x4), .val (.int x0), .val (.ref o4), .val (.int (4 : Int32)), .val (.int (3 : Int32)), .val (.int x1)]) d3_53 rfl rfl ?_
  refine W.goto C (pc' := 31) d3_55 (by decide) rfl ?_
  refine W.iload C d3_31 rfl rfl ?_
  refine W.iloadN C d3_33 rfl rfl ?_
  refine W.icmp C (pc' := 58) (pn := 37) d3_34 (by decide) rfl rfl (W.q_eq x1 x4) (fun hc34 => ?_) (fun hc34 => ?_)
  · exfalso
    exact d1 hc34
  refine W.aload C d3_37 rfl rfl rfl ?_
  refine W.iinc C (z := (2 : Int32)) (Ls' := #[.val (.ref o0), .val (.ref o1), .val (.int x4), .val (.int x0), .val (.ref o4), .val (.int (4 : Int32)), .val (.int (2 : Int32)), .val (.int x1)]) d3_39 rfl rfl (by decide) rfl ?_
  refine W.iload C d3_42 rfl rfl ?_
  refine W.aloadN C d3_44 rfl rfl rfl ?_
  refine W.iload C d3_45 rfl rfl ?_
  refine W.baload C (VL.other W1 ne_o0_o4) e1.1 e1.2 l1 d3_47 rfl ?_
  refine W.bastore C V1 (by decide) (by decide) (show 2 < 4 from by decide) g0_o4 d3_48 rfl ?_
  intro h2 W2 V2
  have V2 : Arv Z h2 o4 kp .byte (4 : Int32) [(.int ff), (.int ff), (.int (nar .byte y1)), (.int (nar .byte y0))] (.int (0 : Int32)) := V2
  refine W.aloadN C d3_49 rfl rfl rfl ?_
  refine W.iload C d3_50 rfl rfl ?_
  refine W.iaload C ((VQ.other W1 ne_o1_o4).other W2 ne_o1_o4) e1.1 e1.2 v1 d3_52 rfl ?_
  refine W.istore C (Ls' := #[.val (.ref o0), .val (.ref o1), .val (.int x4), .val (.int x0), .val (.ref o4), .val (.int (4 : Int32)), .val (.int (2 : Int32)), .val (.int x2)]) d3_53 rfl rfl ?_
  refine W.goto C (pc' := 31) d3_55 (by decide) rfl ?_
  refine W.iload C d3_31 rfl rfl ?_
  refine W.iloadN C d3_33 rfl rfl ?_
  refine W.icmp C (pc' := 58) (pn := 37) d3_34 (by decide) rfl rfl (W.q_eq x2 x4) (fun hc34 => ?_) (fun hc34 => ?_)
  · exfalso
    exact d2 hc34
  refine W.aload C d3_37 rfl rfl rfl ?_
  refine W.iinc C (z := (1 : Int32)) (Ls' := #[.val (.ref o0), .val (.ref o1), .val (.int x4), .val (.int x0), .val (.ref o4), .val (.int (4 : Int32)), .val (.int (1 : Int32)), .val (.int x2)]) d3_39 rfl rfl (by decide) rfl ?_
  refine W.iload C d3_42 rfl rfl ?_
  refine W.aloadN C d3_44 rfl rfl rfl ?_
  refine W.iload C d3_45 rfl rfl ?_
  refine W.baload C ((VL.other W1 ne_o0_o4).other W2 ne_o0_o4) e2.1 e2.2 l2 d3_47 rfl ?_
  refine W.bastore C V2 (by decide) (by decide) (show 1 < 4 from by decide) g0_o4 d3_48 rfl ?_
  intro h3 W3 V3
  have V3 : Arv Z h3 o4 kp .byte (4 : Int32) [(.int ff), (.int (nar .byte y2)), (.int (nar .byte y1)), (.int (nar .byte y0))] (.int (0 : Int32)) := V3
  refine W.aloadN C d3_49 rfl rfl rfl ?_
  refine W.iload C d3_50 rfl rfl ?_
  refine W.iaload C (((VQ.other W1 ne_o1_o4).other W2 ne_o1_o4).other W3 ne_o1_o4) e2.1 e2.2 v2 d3_52 rfl ?_
  refine W.istore C (Ls' := #[.val (.ref o0), .val (.ref o1), .val (.int x4), .val (.int x0), .val (.ref o4), .val (.int (4 : Int32)), .val (.int (1 : Int32)), .val (.int x3)]) d3_53 rfl rfl ?_
  refine W.goto C (pc' := 31) d3_55 (by decide) rfl ?_
  refine W.iload C d3_31 rfl rfl ?_
  refine W.iloadN C d3_33 rfl rfl ?_
  refine W.icmp C (pc' := 58) (pn := 37) d3_34 (by decide) rfl rfl (W.q_eq x3 x4) (fun hc34 => ?_) (fun hc34 => ?_)
  · exfalso
    exact d3 hc34
  refine W.aload C d3_37 rfl rfl rfl ?_
  refine W.iinc C (z := (0 : Int32)) (Ls' := #[.val (.ref o0), .val (.ref o1), .val (.int x4), .val (.int x0), .val (.ref o4), .val (.int (4 : Int32)), .val (.int (0 : Int32)), .val (.int x3)]) d3_39 rfl rfl (by decide) rfl ?_
  refine W.iload C d3_42 rfl rfl ?_
  refine W.aloadN C d3_44 rfl rfl rfl ?_
  refine W.iload C d3_45 rfl rfl ?_
  refine W.baload C (((VL.other W1 ne_o0_o4).other W2 ne_o0_o4).other W3 ne_o0_o4) e3.1 e3.2 l3 d3_47 rfl ?_
  refine W.bastore C V3 (by decide) (by decide) (show 0 < 4 from by decide) g0_o4 d3_48 rfl ?_
  intro h4 W4 V4
  have V4 : Arv Z h4 o4 kp .byte (4 : Int32) [(.int (nar .byte y3)), (.int (nar .byte y2)), (.int (nar .byte y1)), (.int (nar .byte y0))] (.int (0 : Int32)) := V4
  refine W.aloadN C d3_49 rfl rfl rfl ?_
  refine W.iload C d3_50 rfl rfl ?_
  refine W.iaload C ((((VQ.other W1 ne_o1_o4).other W2 ne_o1_o4).other W3 ne_o1_o4).other W4 ne_o1_o4) e3.1 e3.2 v3 d3_52 rfl ?_
  refine W.istore C (Ls' := #[.val (.ref o0), .val (.ref o1), .val (.int x4), .val (.int x0), .val (.ref o4), .val (.int (4 : Int32)), .val (.int (0 : Int32)), .val (.int x4)]) d3_53 rfl rfl ?_
  refine W.goto C (pc' := 31) d3_55 (by decide) rfl ?_
  refine W.iload C d3_31 rfl rfl ?_
  refine W.iloadN C d3_33 rfl rfl ?_
  refine W.icmp C (pc' := 58) (pn := 37) d3_34 (by decide) rfl rfl (W.q_eq x4 x4) (fun hc34 => ?_) (fun hc34 => ?_)
  rotate_left
  · exact absurd rfl hc34
  refine W.iload C d3_58 rfl rfl ?_
  refine W.retI C d3_60 (by decide) (by decide) (fun _ _ _ _ q => q) ?_
  exact ⟨rfl, (((((Keep.refl h0 [o4]).wr W1 (Or.inl (List.mem_of_getElem? (i := 0) rfl))).wr W2 (Or.inl (List.mem_of_getElem? (i := 0) rfl))).wr W3 (Or.inl (List.mem_of_getElem? (i := 0) rfl))).wr W4 (Or.inl (List.mem_of_getElem? (i := 0) rfl))), V4⟩
set_option maxRecDepth 65536 in
set_option maxHeartbeats 40000000 in
theorem rm0 (l : Launch) (Z : State) (a0 : Array Value) (hw : ∀ d ∈ tables_1, d.before a0 Z = true) (ws : List Jvm.Cond) (p0 : Int32) (p1 : Int32) (p2 : Int32) (q3 : Int64) (p4 : Int32) (h0 : Heap) (n0 : Nat) (Z0 : n0 ≤ h0.size) :
    W.Con l Z x code maxLocals ret ws room_1 16 128 #[(.int p0), (.int p1), (.int p2), (.long q3), (.int p4)] h0 n0 (fun v _ => v = some (.int 1)) := by
  refine W.enter (plainFor_of_name pn_0) Z0 ?_
  intro p e s m below meth c C hnm hsh
  have C : W.Cx p s m meth c Z n0 "com/example/borderline/borderline/TriePathsPathPinLaw" code 16 (some .boolean) := C
  refine W.Go.castF (ef_0 m p0 p1 p2 q3 p4) ?_
  have J11 : ∀ (p3 : Int32) (hp3 : p3 = 1 ∨ p3 = 2), W.Go p l e room_1 s m #[(.int p0), (.int p1), (.int p2), (.long q3), (.int p4)] below meth c (fun s₂ o L => FrameEnd s o s₂ L 16 128) n0 (fun v _ => v = some (.int 1)) h0 (0) (0) (mkF m 11 #[.val (.int p0), .val (.int p1), .val (.int p2), .val (.long q3), .second, .val (.int p4), .unset, .unset, .unset, .unset, .unset, .unset, .unset, .unset, .unset, .unset] [(.int p3)]) := by
    intro p3 hp3
    refine W.istore C (Ls' := #[.val (.int p0), .val (.int p1), .val (.int p2), .val (.long q3), .second, .val (.int p4), .val (.int p3), .unset, .unset, .unset, .unset, .unset, .unset, .unset, .unset, .unset]) at_11 rfl rfl ?_
    refine W.bipush C (x := (6 : Int32)) at_13 rfl rfl ?_
    refine W.newarray C (cap := 6) (hw _ (List.mem_of_getElem? (i := 0) rfl)) at_15 rfl (by decide) (by decide) (by decide) (by decide) (by decide) (k' := 1) (n' := 6) rfl rfl ?_
    intro h1 b1 kc_b1 gb1 g0_b1 E1 Vb1
    have Vb1 : Arv Z h1 b1 kc_b1 .int (6 : Int32) [(.int (0 : Int32)), (.int (0 : Int32)), (.int (0 : Int32)), (.int (0 : Int32)), (.int (0 : Int32)), (.int (0 : Int32))] (.int (0 : Int32)) := Vb1.pad (pad_rep [] (.int (0 : Int32)) 6)
    refine W.dup C at_17 rfl rfl ?_
    refine W.iconst C (x := (0 : Int32)) at_18 rfl rfl ?_
    refine W.iconst C (x := (-1 : Int32)) at_19 rfl rfl ?_
    refine W.iastore C Vb1 (by decide) (by decide) (show 0 < 6 from by decide) g0_b1 at_20 rfl ?_
    intro h2 W2 V2
    have V2 : Arv Z h2 b1 kc_b1 .int (6 : Int32) [(.int (-1 : Int32)), (.int (0 : Int32)), (.int (0 : Int32)), (.int (0 : Int32)), (.int (0 : Int32)), (.int (0 : Int32))] (.int (0 : Int32)) := V2
    refine W.dup C at_21 rfl rfl ?_
    refine W.iconst C (x := (1 : Int32)) at_22 rfl rfl ?_
    refine W.iconst C (x := (0 : Int32)) at_23 rfl rfl ?_
    refine W.iastore C V2 (by decide) (by decide) (show 1 < 6 from by decide) g0_b1 at_24 rfl ?_
    intro h3 W3 V3
    have V3 : Arv Z h3 b1 kc_b1 .int (6 : Int32) [(.int (-1 : Int32)), (.int (0 : Int32)), (.int (0 : Int32)), (.int (0 : Int32)), (.int (0 : Int32)), (.int (0 : Int32))] (.int (0 : Int32)) := V3
    refine W.dup C at_25 rfl rfl ?_
    refine W.iconst C (x := (2 : Int32)) at_26 rfl rfl ?_
    refine W.iconst C (x := (0 : Int32)) at_27 rfl rfl ?_
    refine W.iastore C V3 (by decide) (by decide) (show 2 < 6 from by decide) g0_b1 at_28 rfl ?_
    intro h4 W4 V4
    have V4 : Arv Z h4 b1 kc_b1 .int (6 : Int32) [(.int (-1 : Int32)), (.int (0 : Int32)), (.int (0 : Int32)), (.int (0 : Int32)), (.int (0 : Int32)), (.int (0 : Int32))] (.int (0 : Int32)) := V4
    refine W.dup C at_29 rfl rfl ?_
    refine W.iconst C (x := (3 : Int32)) at_30 rfl rfl ?_
    refine W.iload C at_31 rfl rfl ?_
    refine W.iastore C V4 (by decide) (by decide) (show 3 < 6 from by decide) g0_b1 at_33 rfl ?_
    intro h5 W5 V5
    have V5 : Arv Z h5 b1 kc_b1 .int (6 : Int32) [(.int (-1 : Int32)), (.int (0 : Int32)), (.int (0 : Int32)), (.int p3), (.int (0 : Int32)), (.int (0 : Int32))] (.int (0 : Int32)) := V5
    refine W.dup C at_34 rfl rfl ?_
    refine W.iconst C (x := (4 : Int32)) at_35 rfl rfl ?_
    refine W.iconst C (x := (3 : Int32)) at_36 rfl rfl ?_
    refine W.iastore C V5 (by decide) (by decide) (show 4 < 6 from by decide) g0_b1 at_37 rfl ?_
    intro h6 W6 V6
    have V6 : Arv Z h6 b1 kc_b1 .int (6 : Int32) [(.int (-1 : Int32)), (.int (0 : Int32)), (.int (0 : Int32)), (.int p3), (.int (3 : Int32)), (.int (0 : Int32))] (.int (0 : Int32)) := V6
    refine W.dup C at_38 rfl rfl ?_
    refine W.iconst C (x := (5 : Int32)) at_39 rfl rfl ?_
    refine W.iconst C (x := (4 : Int32)) at_40 rfl rfl ?_
    refine W.iastore C V6 (by decide) (by decide) (show 5 < 6 from by decide) g0_b1 at_41 rfl ?_
    intro h7 W7 V7
    have V7 : Arv Z h7 b1 kc_b1 .int (6 : Int32) [(.int (-1 : Int32)), (.int (0 : Int32)), (.int (0 : Int32)), (.int p3), (.int (3 : Int32)), (.int (4 : Int32))] (.int (0 : Int32)) := V7
    refine W.astore C (Ls' := #[.val (.int p0), .val (.int p1), .val (.int p2), .val (.long q3), .second, .val (.int p4), .val (.int p3), .val (.ref b1), .unset, .unset, .unset, .unset, .unset, .unset, .unset, .unset]) at_42 rfl rfl rfl ?_
    refine W.bipush C (x := (6 : Int32)) at_44 rfl rfl ?_
    refine W.newarray C (cap := 6) (hw _ (List.mem_of_getElem? (i := 1) rfl)) at_46 rfl (by decide) (by decide) (by decide) (by decide) (by decide) (k' := 2) (n' := 12) rfl rfl ?_
    intro h8 b8 kc_b8 gb8 g0_b8 E8 Vb8
    have ne_b1_b8 : b1 ≠ b8 := Nat.ne_of_lt (by rw [gb8]; exact V7.lt)
    have Vb8 : Arv Z h8 b8 kc_b8 .byte (6 : Int32) [(.int (0 : Int32)), (.int (0 : Int32)), (.int (0 : Int32)), (.int (0 : Int32)), (.int (0 : Int32)), (.int (0 : Int32))] (.int (0 : Int32)) := Vb8.pad (pad_rep [] (.int (0 : Int32)) 6)
    refine W.astore C (Ls' := #[.val (.int p0), .val (.int p1), .val (.int p2), .val (.long q3), .second, .val (.int p4), .val (.int p3), .val (.ref b1), .val (.ref b8), .unset, .unset, .unset, .unset, .unset, .unset, .unset]) at_48 rfl rfl rfl ?_
    refine W.aload C at_50 rfl rfl rfl ?_
    refine W.iconst C (x := (0 : Int32)) at_52 rfl rfl ?_
    refine W.lloadN C at_53 rfl rfl ?_
    refine W.l2i C (z := ((q3).toInt32)) at_54 rfl rfl ?_
    obtain ⟨v9, hv9⟩ : ∃ z__, z__ = ((((q3).toInt32)).toInt8.toInt32) := ⟨_, rfl⟩
    refine W.i2b C at_55 rfl hv9.symm ?_
    refine W.bastore C Vb8 (by decide) (by decide) (show 0 < 6 from by decide) g0_b8 at_56 rfl ?_
    intro h10 W10 V10
    have V10 : Arv Z h10 b8 kc_b8 .byte (6 : Int32) [(.int (nar .byte v9)), (.int (0 : Int32)), (.int (0 : Int32)), (.int (0 : Int32)), (.int (0 : Int32)), (.int (0 : Int32))] (.int (0 : Int32)) := V10
    refine W.aload C at_57 rfl rfl rfl ?_
    refine W.iconst C (x := (1 : Int32)) at_59 rfl rfl ?_
    refine W.lloadN C at_60 rfl rfl ?_
    refine W.bipush C (x := (8 : Int32)) at_61 rfl rfl ?_
    refine W.lushr C (z := (((q3).toUInt64 >>> ((8 : Int32) &&& 0x3f).toInt64.toUInt64).toInt64)) at_63 rfl rfl ?_
    refine W.l2i C (z := (((((q3).toUInt64 >>> ((8 : Int32) &&& 0x3f).toInt64.toUInt64).toInt64)).toInt32)) at_64 rfl rfl ?_
    obtain ⟨v11, hv11⟩ : ∃ z__, z__ = (((((((q3).toUInt64 >>> ((8 : Int32) &&& 0x3f).toInt64.toUInt64).toInt64)).toInt32)).toInt8.toInt32) := ⟨_, rfl⟩
    refine W.i2b C at_65 rfl hv11.symm ?_
    refine W.bastore C V10 (by decide) (by decide) (show 1 < 6 from by decide) g0_b8 at_66 rfl ?_
    intro h12 W12 V12
    have V12 : Arv Z h12 b8 kc_b8 .byte (6 : Int32) [(.int (nar .byte v9)), (.int (nar .byte v11)), (.int (0 : Int32)), (.int (0 : Int32)), (.int (0 : Int32)), (.int (0 : Int32))] (.int (0 : Int32)) := V12
    refine W.aload C at_67 rfl rfl rfl ?_
    refine W.iconst C (x := (2 : Int32)) at_69 rfl rfl ?_
    refine W.lloadN C at_70 rfl rfl ?_
    refine W.bipush C (x := (16 : Int32)) at_71 rfl rfl ?_
    refine W.lushr C (z := (((q3).toUInt64 >>> ((16 : Int32) &&& 0x3f).toInt64.toUInt64).toInt64)) at_73 rfl rfl ?_
    refine W.l2i C (z := (((((q3).toUInt64 >>> ((16 : Int32) &&& 0x3f).toInt64.toUInt64).toInt64)).toInt32)) at_74 rfl rfl ?_
    obtain ⟨v13, hv13⟩ : ∃ z__, z__ = (((((((q3).toUInt64 >>> ((16 : Int32) &&& 0x3f).toInt64.toUInt64).toInt64)).toInt32)).toInt8.toInt32) := ⟨_, rfl⟩
    refine W.i2b C at_75 rfl hv13.symm ?_
    refine W.bastore C V12 (by decide) (by decide) (show 2 < 6 from by decide) g0_b8 at_76 rfl ?_
    intro h14 W14 V14
    have V14 : Arv Z h14 b8 kc_b8 .byte (6 : Int32) [(.int (nar .byte v9)), (.int (nar .byte v11)), (.int (nar .byte v13)), (.int (0 : Int32)), (.int (0 : Int32)), (.int (0 : Int32))] (.int (0 : Int32)) := V14
    refine W.aload C at_77 rfl rfl rfl ?_
    refine W.iconst C (x := (3 : Int32)) at_79 rfl rfl ?_
    refine W.lloadN C at_80 rfl rfl ?_
    refine W.bipush C (x := (24 : Int32)) at_81 rfl rfl ?_
    refine W.lushr C (z := (((q3).toUInt64 >>> ((24 : Int32) &&& 0x3f).toInt64.toUInt64).toInt64)) at_83 rfl rfl ?_
    refine W.l2i C (z := (((((q3).toUInt64 >>> ((24 : Int32) &&& 0x3f).toInt64.toUInt64).toInt64)).toInt32)) at_84 rfl rfl ?_
    obtain ⟨v15, hv15⟩ : ∃ z__, z__ = (((((((q3).toUInt64 >>> ((24 : Int32) &&& 0x3f).toInt64.toUInt64).toInt64)).toInt32)).toInt8.toInt32) := ⟨_, rfl⟩
    refine W.i2b C at_85 rfl hv15.symm ?_
    refine W.bastore C V14 (by decide) (by decide) (show 3 < 6 from by decide) g0_b8 at_86 rfl ?_
    intro h16 W16 V16
    have V16 : Arv Z h16 b8 kc_b8 .byte (6 : Int32) [(.int (nar .byte v9)), (.int (nar .byte v11)), (.int (nar .byte v13)), (.int (nar .byte v15)), (.int (0 : Int32)), (.int (0 : Int32))] (.int (0 : Int32)) := V16
    refine W.aload C at_87 rfl rfl rfl ?_
    refine W.iconst C (x := (4 : Int32)) at_89 rfl rfl ?_
    refine W.lloadN C at_90 rfl rfl ?_
    refine W.bipush C (x := (32 : Int32)) at_91 rfl rfl ?_
    refine W.lushr C (z := (((q3).toUInt64 >>> ((32 : Int32) &&& 0x3f).toInt64.toUInt64).toInt64)) at_93 rfl rfl ?_
    refine W.l2i C (z := (((((q3).toUInt64 >>> ((32 : Int32) &&& 0x3f).toInt64.toUInt64).toInt64)).toInt32)) at_94 rfl rfl ?_
    obtain ⟨v17, hv17⟩ : ∃ z__, z__ = (((((((q3).toUInt64 >>> ((32 : Int32) &&& 0x3f).toInt64.toUInt64).toInt64)).toInt32)).toInt8.toInt32) := ⟨_, rfl⟩
    refine W.i2b C at_95 rfl hv17.symm ?_
    refine W.bastore C V16 (by decide) (by decide) (show 4 < 6 from by decide) g0_b8 at_96 rfl ?_
    intro h18 W18 V18
    have V18 : Arv Z h18 b8 kc_b8 .byte (6 : Int32) [(.int (nar .byte v9)), (.int (nar .byte v11)), (.int (nar .byte v13)), (.int (nar .byte v15)), (.int (nar .byte v17)), (.int (0 : Int32))] (.int (0 : Int32)) := V18
    refine W.aload C at_97 rfl rfl rfl ?_
    refine W.iconst C (x := (5 : Int32)) at_99 rfl rfl ?_
    refine W.lloadN C at_100 rfl rfl ?_
    refine W.bipush C (x := (40 : Int32)) at_101 rfl rfl ?_
    refine W.lushr C (z := (((q3).toUInt64 >>> ((40 : Int32) &&& 0x3f).toInt64.toUInt64).toInt64)) at_103 rfl rfl ?_
    refine W.l2i C (z := (((((q3).toUInt64 >>> ((40 : Int32) &&& 0x3f).toInt64.toUInt64).toInt64)).toInt32)) at_104 rfl rfl ?_
    obtain ⟨v19, hv19⟩ : ∃ z__, z__ = (((((((q3).toUInt64 >>> ((40 : Int32) &&& 0x3f).toInt64.toUInt64).toInt64)).toInt32)).toInt8.toInt32) := ⟨_, rfl⟩
    refine W.i2b C at_105 rfl hv19.symm ?_
    refine W.bastore C V18 (by decide) (by decide) (show 5 < 6 from by decide) g0_b8 at_106 rfl ?_
    intro h20 W20 V20
    have V20 : Arv Z h20 b8 kc_b8 .byte (6 : Int32) [(.int (nar .byte v9)), (.int (nar .byte v11)), (.int (nar .byte v13)), (.int (nar .byte v15)), (.int (nar .byte v17)), (.int (nar .byte v19))] (.int (0 : Int32)) := V20
    refine W.iloadN C at_107 rfl rfl ?_
    refine W.ldcI C (hw _ (List.mem_of_getElem? (i := 2) rfl)) at_108 rfl ?_
    refine W.iand C (z := (p0 &&& (2147483647 : Int32))) at_110 rfl rfl ?_
    refine W.bipush C (x := (6 : Int32)) at_111 rfl rfl ?_
    refine W.irem C (z := ((p0 &&& (2147483647 : Int32)) % (6 : Int32))) at_113 rfl (by decide) rfl ?_
    obtain ⟨tt, htt⟩ : ∃ z, z = ((p0 &&& (2147483647 : Int32)) % (6 : Int32)) := ⟨_, rfl⟩
    rw [← htt]
    have rt : 0 ≤ tt.toInt ∧ tt.toInt < 6 := by
      have a := c_mask p0 2147483647 31 (by decide) (by decide)
      have b := (c_irem (p0 &&& (2147483647 : Int32)) 6 6 rfl).1
      have d : ((2 ^ 31 : Nat) : Int) = 2147483648 := rfl
      rw [d] at a; rw [htt]; omega
    have rd := own_depr tt rt.1 rt.2
    refine W.istore C (Ls' := #[.val (.int p0), .val (.int p1), .val (.int p2), .val (.long q3), .second, .val (.int p4), .val (.int p3), .val (.ref b1), .val (.ref b8), .val (.int tt), .unset, .unset, .unset, .unset, .unset, .unset]) at_114 rfl rfl ?_
    refine W.iloadN C at_116 rfl rfl ?_
    refine W.ldcI C (hw _ (List.mem_of_getElem? (i := 2) rfl)) at_117 rfl ?_
    refine W.iand C (z := (p1 &&& (2147483647 : Int32))) at_119 rfl rfl ?_
    refine W.iload C at_120 rfl rfl ?_
    refine W.callS C (y := (⟨"com/example/borderline/borderline/TriePathsPathPinLaw", "depthOf", "(I)I"⟩ : MethodName)) (hw _ (List.mem_of_getElem? (i := 3) rfl)) (hw _ (List.mem_of_getElem? (i := 4) rfl)) (hw _ (List.mem_of_getElem? (i := 5) rfl)) (hw _ (List.mem_of_getElem? (i := 6) rfl)) (by decide) (fun hz => rm1 l Z a0 hw [] tt h20 n0 hz) at_122 rfl rfl pd_0 rfl (argsL := [(.int tt)]) (rest := [(.int (p1 &&& (2147483647 : Int32)))]) rfl (W := 1) rfl (by decide) (by decide) (by decide) (by decide) (k' := 2) (n' := 12) rfl rfl ?_
    rintro h21 _ ⟨rfl, rfl⟩
    show W.Go p l e _ _ m _ below meth c _ _ _ _ _ _ (mkF m 125 #[.val (.int p0), .val (.int p1), .val (.int p2), .val (.long q3), .second, .val (.int p4), .val (.int p3), .val (.ref b1), .val (.ref b8), .val (.int tt), .unset, .unset, .unset, .unset, .unset, .unset] [(.int (own_dep tt)), (.int (p1 &&& (2147483647 : Int32)))])
    refine W.iconst C (x := (1 : Int32)) at_125 rfl rfl ?_
    refine W.iadd C (z := ((own_dep tt) + (1 : Int32))) at_126 rfl rfl ?_
    have z1 := c_iadd (own_dep tt) 1
    have z2 := rng32 (own_dep tt + 1)
    simp only [Int32.reduceToInt] at z1
    have hnz127 : ((own_dep tt) + (1 : Int32)) ≠ 0 := fun q => by
      have := congrArg Int32.toInt q
      simp only [Int32.reduceToInt] at this
      omega
    refine W.irem C (z := ((p1 &&& (2147483647 : Int32)) % ((own_dep tt) + (1 : Int32)))) at_127 rfl hnz127 rfl ?_
    obtain ⟨kk, hkk⟩ : ∃ z, z = ((p1 &&& (2147483647 : Int32)) % ((own_dep tt) + (1 : Int32))) := ⟨_, rfl⟩
    rw [← hkk]
    have rk : 0 ≤ kk.toInt ∧ kk.toInt ≤ (own_dep tt).toInt := by
      have a := c_mask p1 2147483647 31 (by decide) (by decide)
      have b := (c_iremV (p1 &&& (2147483647 : Int32)) (own_dep tt + 1)).1
      have d : ((2 ^ 31 : Nat) : Int) = 2147483648 := rfl
      rw [d] at a; rw [hkk]; omega
    clear hkk
    refine W.istore C (Ls' := #[.val (.int p0), .val (.int p1), .val (.int p2), .val (.long q3), .second, .val (.int p4), .val (.int p3), .val (.ref b1), .val (.ref b8), .val (.int tt), .val (.int kk), .unset, .unset, .unset, .unset, .unset]) at_128 rfl rfl ?_
    refine W.iconst C (x := (5 : Int32)) at_130 rfl rfl ?_
    refine W.newarray C (cap := 5) (hw _ (List.mem_of_getElem? (i := 0) rfl)) at_131 rfl (by decide) (by decide) (by decide) (by decide) (by decide) (k' := 3) (n' := 17) rfl rfl ?_
    intro h22 b22 kc_b22 gb22 g0_b22 E22 Vb22
    have ne_b1_b22 : b1 ≠ b22 := Nat.ne_of_lt (by rw [gb22]; exact (((((((V7.ext E8).other W10 ne_b1_b8).other W12 ne_b1_b8).other W14 ne_b1_b8).other W16 ne_b1_b8).other W18 ne_b1_b8).other W20 ne_b1_b8).lt)
    have ne_b8_b22 : b8 ≠ b22 := Nat.ne_of_lt (by rw [gb22]; exact V20.lt)
    have Vb22 : Arv Z h22 b22 kc_b22 .int (5 : Int32) [(.int (0 : Int32)), (.int (0 : Int32)), (.int (0 : Int32)), (.int (0 : Int32)), (.int (0 : Int32))] (.int (0 : Int32)) := Vb22.pad (pad_rep [] (.int (0 : Int32)) 5)
    refine W.astore C (Ls' := #[.val (.int p0), .val (.int p1), .val (.int p2), .val (.long q3), .second, .val (.int p4), .val (.int p3), .val (.ref b1), .val (.ref b8), .val (.int tt), .val (.int kk), .val (.ref b22), .unset, .unset, .unset, .unset]) at_133 rfl rfl rfl ?_
    refine W.aload C at_135 rfl rfl rfl ?_
    refine W.iconst C (x := (0 : Int32)) at_137 rfl rfl ?_
    refine W.iload C at_138 rfl rfl ?_
    refine W.iastore C Vb22 (by decide) (by decide) (show 0 < 5 from by decide) g0_b22 at_140 rfl ?_
    intro h23 W23 V23
    have V23 : Arv Z h23 b22 kc_b22 .int (5 : Int32) [(.int tt), (.int (0 : Int32)), (.int (0 : Int32)), (.int (0 : Int32)), (.int (0 : Int32))] (.int (0 : Int32)) := V23
    refine W.aload C at_141 rfl rfl rfl ?_
    refine W.iconst C (x := (1 : Int32)) at_143 rfl rfl ?_
    refine W.aload C at_144 rfl rfl rfl ?_
    refine W.iconst C (x := (0 : Int32)) at_146 rfl rfl ?_
    refine W.iaload C (v := (.int tt)) V23 (by decide) (by decide) rfl at_147 rfl ?_
    refine W.iload C at_148 rfl rfl ?_
    refine W.callS C (y := (⟨"com/example/borderline/borderline/TriePathsPathPinLaw", "parentOf", "(II)I"⟩ : MethodName)) (hw _ (List.mem_of_getElem? (i := 7) rfl)) (hw _ (List.mem_of_getElem? (i := 8) rfl)) (hw _ (List.mem_of_getElem? (i := 5) rfl)) (hw _ (List.mem_of_getElem? (i := 9) rfl)) (by decide) (fun hz => rm2 l Z a0 hw [] tt p3 h23 n0 hz) at_150 rfl rfl pd_1 rfl (argsL := [(.int tt), (.int p3)]) (rest := [(.int (1 : Int32)), (.ref b22)]) rfl (W := 2) rfl (by decide) (by decide) (by decide) (by decide) (k' := 3) (n' := 17) rfl rfl ?_
    rintro h24 _ ⟨rfl, rfl⟩
    show W.Go p l e _ _ m _ below meth c _ _ _ _ _ _ (mkF m 153 #[.val (.int p0), .val (.int p1), .val (.int p2), .val (.long q3), .second, .val (.int p4), .val (.int p3), .val (.ref b1), .val (.ref b8), .val (.int tt), .val (.int kk), .val (.ref b22), .unset, .unset, .unset, .unset] [(.int (own_par tt p3)), (.int (1 : Int32)), (.ref b22)])
    refine W.iastore C V23 (by decide) (by decide) (show 1 < 5 from by decide) g0_b22 at_153 rfl ?_
    intro h25 W25 V25
    have V25 : Arv Z h25 b22 kc_b22 .int (5 : Int32) [(.int tt), (.int (own_par tt p3)), (.int (0 : Int32)), (.int (0 : Int32)), (.int (0 : Int32))] (.int (0 : Int32)) := V25
    refine W.aload C at_154 rfl rfl rfl ?_
    refine W.iconst C (x := (2 : Int32)) at_156 rfl rfl ?_
    refine W.aload C at_157 rfl rfl rfl ?_
    refine W.iconst C (x := (1 : Int32)) at_159 rfl rfl ?_
    refine W.iaload C (v := (.int (own_par tt p3))) V25 (by decide) (by decide) rfl at_160 rfl ?_
    refine W.iload C at_161 rfl rfl ?_
    refine W.callS C (y := (⟨"com/example/borderline/borderline/TriePathsPathPinLaw", "parentOf", "(II)I"⟩ : MethodName)) (hw _ (List.mem_of_getElem? (i := 7) rfl)) (hw _ (List.mem_of_getElem? (i := 8) rfl)) (hw _ (List.mem_of_getElem? (i := 5) rfl)) (hw _ (List.mem_of_getElem? (i := 9) rfl)) (by decide) (fun hz => rm2 l Z a0 hw [] (own_par tt p3) p3 h25 n0 hz) at_163 rfl rfl pd_1 rfl (argsL := [(.int (own_par tt p3)), (.int p3)]) (rest := [(.int (2 : Int32)), (.ref b22)]) rfl (W := 2) rfl (by decide) (by decide) (by decide) (by decide) (k' := 3) (n' := 17) rfl rfl ?_
    rintro h26 _ ⟨rfl, rfl⟩
    show W.Go p l e _ _ m _ below meth c _ _ _ _ _ _ (mkF m 166 #[.val (.int p0), .val (.int p1), .val (.int p2), .val (.long q3), .second, .val (.int p4), .val (.int p3), .val (.ref b1), .val (.ref b8), .val (.int tt), .val (.int kk), .val (.ref b22), .unset, .unset, .unset, .unset] [(.int (own_par (own_par tt p3) p3)), (.int (2 : Int32)), (.ref b22)])
    refine W.iastore C V25 (by decide) (by decide) (show 2 < 5 from by decide) g0_b22 at_166 rfl ?_
    intro h27 W27 V27
    have V27 : Arv Z h27 b22 kc_b22 .int (5 : Int32) [(.int tt), (.int (own_par tt p3)), (.int (own_par (own_par tt p3) p3)), (.int (0 : Int32)), (.int (0 : Int32))] (.int (0 : Int32)) := V27
    refine W.aload C at_167 rfl rfl rfl ?_
    refine W.iconst C (x := (3 : Int32)) at_169 rfl rfl ?_
    refine W.aload C at_170 rfl rfl rfl ?_
    refine W.iconst C (x := (2 : Int32)) at_172 rfl rfl ?_
    refine W.iaload C (v := (.int (own_par (own_par tt p3) p3))) V27 (by decide) (by decide) rfl at_173 rfl ?_
    refine W.iload C at_174 rfl rfl ?_
    refine W.callS C (y := (⟨"com/example/borderline/borderline/TriePathsPathPinLaw", "parentOf", "(II)I"⟩ : MethodName)) (hw _ (List.mem_of_getElem? (i := 7) rfl)) (hw _ (List.mem_of_getElem? (i := 8) rfl)) (hw _ (List.mem_of_getElem? (i := 5) rfl)) (hw _ (List.mem_of_getElem? (i := 9) rfl)) (by decide) (fun hz => rm2 l Z a0 hw [] (own_par (own_par tt p3) p3) p3 h27 n0 hz) at_176 rfl rfl pd_1 rfl (argsL := [(.int (own_par (own_par tt p3) p3)), (.int p3)]) (rest := [(.int (3 : Int32)), (.ref b22)]) rfl (W := 2) rfl (by decide) (by decide) (by decide) (by decide) (k' := 3) (n' := 17) rfl rfl ?_
    rintro h28 _ ⟨rfl, rfl⟩
    show W.Go p l e _ _ m _ below meth c _ _ _ _ _ _ (mkF m 179 #[.val (.int p0), .val (.int p1), .val (.int p2), .val (.long q3), .second, .val (.int p4), .val (.int p3), .val (.ref b1), .val (.ref b8), .val (.int tt), .val (.int kk), .val (.ref b22), .unset, .unset, .unset, .unset] [(.int (own_par (own_par (own_par tt p3) p3) p3)), (.int (3 : Int32)), (.ref b22)])
    refine W.iastore C V27 (by decide) (by decide) (show 3 < 5 from by decide) g0_b22 at_179 rfl ?_
    intro h29 W29 V29
    have V29 : Arv Z h29 b22 kc_b22 .int (5 : Int32) [(.int tt), (.int (own_par tt p3)), (.int (own_par (own_par tt p3) p3)), (.int (own_par (own_par (own_par tt p3) p3) p3)), (.int (0 : Int32))] (.int (0 : Int32)) := V29
    refine W.aload C at_180 rfl rfl rfl ?_
    refine W.iconst C (x := (4 : Int32)) at_182 rfl rfl ?_
    refine W.aload C at_183 rfl rfl rfl ?_
    refine W.iconst C (x := (3 : Int32)) at_185 rfl rfl ?_
    refine W.iaload C (v := (.int (own_par (own_par (own_par tt p3) p3) p3))) V29 (by decide) (by decide) rfl at_186 rfl ?_
    refine W.iload C at_187 rfl rfl ?_
    refine W.callS C (y := (⟨"com/example/borderline/borderline/TriePathsPathPinLaw", "parentOf", "(II)I"⟩ : MethodName)) (hw _ (List.mem_of_getElem? (i := 7) rfl)) (hw _ (List.mem_of_getElem? (i := 8) rfl)) (hw _ (List.mem_of_getElem? (i := 5) rfl)) (hw _ (List.mem_of_getElem? (i := 9) rfl)) (by decide) (fun hz => rm2 l Z a0 hw [] (own_par (own_par (own_par tt p3) p3) p3) p3 h29 n0 hz) at_189 rfl rfl pd_1 rfl (argsL := [(.int (own_par (own_par (own_par tt p3) p3) p3)), (.int p3)]) (rest := [(.int (4 : Int32)), (.ref b22)]) rfl (W := 2) rfl (by decide) (by decide) (by decide) (by decide) (k' := 3) (n' := 17) rfl rfl ?_
    rintro h30 _ ⟨rfl, rfl⟩
    show W.Go p l e _ _ m _ below meth c _ _ _ _ _ _ (mkF m 192 #[.val (.int p0), .val (.int p1), .val (.int p2), .val (.long q3), .second, .val (.int p4), .val (.int p3), .val (.ref b1), .val (.ref b8), .val (.int tt), .val (.int kk), .val (.ref b22), .unset, .unset, .unset, .unset] [(.int (own_par (own_par (own_par (own_par tt p3) p3) p3) p3)), (.int (4 : Int32)), (.ref b22)])
    refine W.iastore C V29 (by decide) (by decide) (show 4 < 5 from by decide) g0_b22 at_192 rfl ?_
    intro h31 W31 V31
    have V31 : Arv Z h31 b22 kc_b22 .int (5 : Int32) [(.int tt), (.int (own_par tt p3)), (.int (own_par (own_par tt p3) p3)), (.int (own_par (own_par (own_par tt p3) p3) p3)), (.int (own_par (own_par (own_par (own_par tt p3) p3) p3) p3))] (.int (0 : Int32)) := V31
    have h5 : kk = 0 ∨ kk = 1 ∨ kk = 2 ∨ kk = 3 ∨ kk = 4 := by
      simp only [← Int32.toInt_inj, Int32.reduceToInt]; omega
    rcases h5 with rfl | rfl | rfl | rfl | rfl
    · simp only [Int32.reduceToInt] at rk
      refine W.aload C at_193 rfl rfl rfl ?_
      refine W.iload C at_195 rfl rfl ?_
      refine W.iaload C (v := (.int tt)) V31 (by decide) (by decide) rfl at_197 rfl ?_
      refine W.istore C (Ls' := #[.val (.int p0), .val (.int p1), .val (.int p2), .val (.long q3), .second, .val (.int p4), .val (.int p3), .val (.ref b1), .val (.ref b8), .val (.int tt), .val (.int (0 : Int32)), .val (.ref b22), .val (.int tt), .unset, .unset, .unset]) at_198 rfl rfl ?_
      refine W.iload C at_200 rfl rfl ?_
      refine W.i2b C (z := ((p4).toInt8.toInt32)) at_202 rfl rfl ?_
      obtain ⟨ff, hffe⟩ : ∃ z, z = ((p4).toInt8.toInt32) := ⟨_, rfl⟩
      rw [← hffe]
      have hff : nar .byte ff = ff := by rw [hffe]; exact own_narb p4
      refine W.istore C (Ls' := #[.val (.int p0), .val (.int p1), .val (.int p2), .val (.long q3), .second, .val (.int p4), .val (.int p3), .val (.ref b1), .val (.ref b8), .val (.int tt), .val (.int (0 : Int32)), .val (.ref b22), .val (.int tt), .val (.int ff), .unset, .unset]) at_203 rfl rfl ?_
      refine W.iconst C (x := (4 : Int32)) at_205 rfl rfl ?_
      refine W.newarray C (cap := 4) (hw _ (List.mem_of_getElem? (i := 1) rfl)) at_206 rfl (by decide) (by decide) (by decide) (by decide) (by decide) (k' := 4) (n' := 21) rfl rfl ?_
      intro h32 b32 kc_b32 gb32 g0_b32 E32 Vb32
      have ne_b1_b32 : b1 ≠ b32 := Nat.ne_of_lt (by rw [gb32]; exact (((((((((((((V7.ext E8).other W10 ne_b1_b8).other W12 ne_b1_b8).other W14 ne_b1_b8).other W16 ne_b1_b8).other W18 ne_b1_b8).other W20 ne_b1_b8).ext E22).other W23 ne_b1_b22).other W25 ne_b1_b22).other W27 ne_b1_b22).other W29 ne_b1_b22).other W31 ne_b1_b22).lt)
      have ne_b8_b32 : b8 ≠ b32 := Nat.ne_of_lt (by rw [gb32]; exact ((((((V20.ext E22).other W23 ne_b8_b22).other W25 ne_b8_b22).other W27 ne_b8_b22).other W29 ne_b8_b22).other W31 ne_b8_b22).lt)
      have ne_b22_b32 : b22 ≠ b32 := Nat.ne_of_lt (by rw [gb32]; exact V31.lt)
      have Vb32 : Arv Z h32 b32 kc_b32 .byte (4 : Int32) [(.int (0 : Int32)), (.int (0 : Int32)), (.int (0 : Int32)), (.int (0 : Int32))] (.int (0 : Int32)) := Vb32.pad (pad_rep [] (.int (0 : Int32)) 4)
      refine W.dup C at_208 rfl rfl ?_
      refine W.iconst C (x := (0 : Int32)) at_209 rfl rfl ?_
      refine W.iload C at_210 rfl rfl ?_
      refine W.bastore C Vb32 (by decide) (by decide) (show 0 < 4 from by decide) g0_b32 at_212 rfl ?_
      intro h33 W33 V33
      have V33 : Arv Z h33 b32 kc_b32 .byte (4 : Int32) [(.int (nar .byte ff)), (.int (0 : Int32)), (.int (0 : Int32)), (.int (0 : Int32))] (.int (0 : Int32)) := V33
      refine W.dup C at_213 rfl rfl ?_
      refine W.iconst C (x := (1 : Int32)) at_214 rfl rfl ?_
      refine W.iload C at_215 rfl rfl ?_
      refine W.bastore C V33 (by decide) (by decide) (show 1 < 4 from by decide) g0_b32 at_217 rfl ?_
      intro h34 W34 V34
      have V34 : Arv Z h34 b32 kc_b32 .byte (4 : Int32) [(.int (nar .byte ff)), (.int (nar .byte ff)), (.int (0 : Int32)), (.int (0 : Int32))] (.int (0 : Int32)) := V34
      refine W.dup C at_218 rfl rfl ?_
      refine W.iconst C (x := (2 : Int32)) at_219 rfl rfl ?_
      refine W.iload C at_220 rfl rfl ?_
      refine W.bastore C V34 (by decide) (by decide) (show 2 < 4 from by decide) g0_b32 at_222 rfl ?_
      intro h35 W35 V35
      have V35 : Arv Z h35 b32 kc_b32 .byte (4 : Int32) [(.int (nar .byte ff)), (.int (nar .byte ff)), (.int (nar .byte ff)), (.int (0 : Int32))] (.int (0 : Int32)) := V35
      refine W.dup C at_223 rfl rfl ?_
      refine W.iconst C (x := (3 : Int32)) at_224 rfl rfl ?_
      refine W.iload C at_225 rfl rfl ?_
      refine W.bastore C V35 (by decide) (by decide) (show 3 < 4 from by decide) g0_b32 at_227 rfl ?_
      intro h36 W36 V36
      have V36 : Arv Z h36 b32 kc_b32 .byte (4 : Int32) [(.int (nar .byte ff)), (.int (nar .byte ff)), (.int (nar .byte ff)), (.int (nar .byte ff))] (.int (0 : Int32)) := V36
      refine W.astore C (Ls' := #[.val (.int p0), .val (.int p1), .val (.int p2), .val (.long q3), .second, .val (.int p4), .val (.int p3), .val (.ref b1), .val (.ref b8), .val (.int tt), .val (.int (0 : Int32)), .val (.ref b22), .val (.int tt), .val (.int ff), .val (.ref b32), .unset]) at_228 rfl rfl rfl ?_
      refine W.aload C at_230 rfl rfl rfl ?_
      refine W.aload C at_232 rfl rfl rfl ?_
      refine W.iload C at_234 rfl rfl ?_
      refine W.iload C at_236 rfl rfl ?_
      refine W.aload C at_238 rfl rfl rfl ?_
      refine W.callS C (y := (⟨"com/example/borderline/borderline/TriePaths", "path", "([B[III[B)I"⟩ : MethodName)) (hw _ (List.mem_of_getElem? (i := 10) rfl)) (hw _ (List.mem_of_getElem? (i := 11) rfl)) (hw _ (List.mem_of_getElem? (i := 12) rfl)) (hw _ (List.mem_of_getElem? (i := 13) rfl)) (by decide) (fun hz => rmP0 l Z a0 hw [] b8 b1 b32 kc_b8 kc_b1 kc_b32 [(.int (nar .byte v9)), (.int (nar .byte v11)), (.int (nar .byte v13)), (.int (nar .byte v15)), (.int (nar .byte v17)), (.int (nar .byte v19))] [(.int (-1 : Int32)), (.int (0 : Int32)), (.int (0 : Int32)), (.int p3), (.int (3 : Int32)), (.int (4 : Int32))] (nar .byte ff) tt  h36 n0 hz (((((((((((V20.ext E22).other W23 ne_b8_b22).other W25 ne_b8_b22).other W27 ne_b8_b22).other W29 ne_b8_b22).other W31 ne_b8_b22).ext E32).other W33 ne_b8_b32).other W34 ne_b8_b32).other W35 ne_b8_b32).other W36 ne_b8_b32) ((((((((((((((((((V7.ext E8).other W10 ne_b1_b8).other W12 ne_b1_b8).other W14 ne_b1_b8).other W16 ne_b1_b8).other W18 ne_b1_b8).other W20 ne_b1_b8).ext E22).other W23 ne_b1_b22).other W25 ne_b1_b22).other W27 ne_b1_b22).other W29 ne_b1_b22).other W31 ne_b1_b22).ext E32).other W33 ne_b1_b32).other W34 ne_b1_b32).other W35 ne_b1_b32).other W36 ne_b1_b32) V36 ne_b8_b32 ne_b1_b32 g0_b32 ) at_240 rfl rfl pd_2 rfl (argsL := [(.ref b8), (.ref b1), (.int tt), (.int tt), (.ref b32)]) (rest := []) rfl (W := 0) rfl (by decide) (by decide) (by decide) (by decide) (k' := 4) (n' := 21) rfl rfl ?_
      rintro h37 _ ⟨rfl, K37, V37⟩
      show W.Go p l e _ _ m _ below meth c _ _ _ _ _ _ (mkF m 243 #[.val (.int p0), .val (.int p1), .val (.int p2), .val (.long q3), .second, .val (.int p4), .val (.int p3), .val (.ref b1), .val (.ref b8), .val (.int tt), .val (.int (0 : Int32)), .val (.ref b22), .val (.int tt), .val (.int ff), .val (.ref b32), .unset] [(.int (0 : Int32))])
      refine W.istore C (Ls' := #[.val (.int p0), .val (.int p1), .val (.int p2), .val (.long q3), .second, .val (.int p4), .val (.int p3), .val (.ref b1), .val (.ref b8), .val (.int tt), .val (.int (0 : Int32)), .val (.ref b22), .val (.int tt), .val (.int ff), .val (.ref b32), .val (.int (0 : Int32))]) at_243 rfl rfl ?_
      refine W.iload C at_245 rfl rfl ?_
      refine W.iload C at_247 rfl rfl ?_
      refine W.icmp C (pc' := 324) (pn := 252) at_249 (by decide) rfl rfl (W.q_ne (0 : Int32) (0 : Int32)) (fun hc249 => ?_) (fun hc249 => ?_)
      · exact absurd rfl hc249
      refine W.aload C at_252 rfl rfl rfl ?_
      refine W.iconst C (x := (0 : Int32)) at_254 rfl rfl ?_
      refine W.iload C at_255 rfl rfl ?_
      refine W.aload C at_257 rfl rfl rfl ?_
      refine W.aload C at_259 rfl rfl rfl ?_
      refine W.iload C at_261 rfl rfl ?_
      refine W.callS C (y := (⟨"com/example/borderline/borderline/TriePathsPathPinLaw", "cell", "([BII[I[BB)Z"⟩ : MethodName)) (hw _ (List.mem_of_getElem? (i := 14) rfl)) (hw _ (List.mem_of_getElem? (i := 15) rfl)) (hw _ (List.mem_of_getElem? (i := 5) rfl)) (hw _ (List.mem_of_getElem? (i := 16) rfl)) (by decide) (fun hz => rmCo l Z a0 hw [] b32 (0 : Int32) (0 : Int32) b22 b8 ff kc_b32 kc_b22 kc_b8 [(.int (nar .byte ff)), (.int (nar .byte ff)), (.int (nar .byte ff)), (.int (nar .byte ff))] [(.int tt), (.int (own_par tt p3)), (.int (own_par (own_par tt p3) p3)), (.int (own_par (own_par (own_par tt p3) p3) p3)), (.int (own_par (own_par (own_par (own_par tt p3) p3) p3) p3))] [(.int (nar .byte v9)), (.int (nar .byte v11)), (.int (nar .byte v13)), (.int (nar .byte v15)), (.int (nar .byte v17)), (.int (nar .byte v19))] (nar .byte ff) 0 0 h37 n0 hz V37 (by decide) (by decide) rfl (by decide) hff) at_263 rfl rfl pd_3 rfl (argsL := [(.ref b32), (.int (0 : Int32)), (.int (0 : Int32)), (.ref b22), (.ref b8), (.int ff)]) (rest := []) rfl (W := 0) rfl (by decide) (by decide) (by decide) (by decide) (k' := 4) (n' := 21) rfl rfl ?_
      rintro h38 _ ⟨rfl, rfl⟩
      show W.Go p l e _ _ m _ below meth c _ _ _ _ _ _ (mkF m 266 #[.val (.int p0), .val (.int p1), .val (.int p2), .val (.long q3), .second, .val (.int p4), .val (.int p3), .val (.ref b1), .val (.ref b8), .val (.int tt), .val (.int (0 : Int32)), .val (.ref b22), .val (.int tt), .val (.int ff), .val (.ref b32), .val (.int (0 : Int32))] [(.int (1 : Int32))])
      refine W.ifc C (pc' := 324) (pn := 269) at_266 (by decide) rfl rfl (W.q_eq (1 : Int32) (0 : Int32)) (fun hc266 => ?_) (fun hc266 => ?_)
      · exact absurd hc266 (by decide)
      refine W.aload C at_269 rfl rfl rfl ?_
      refine W.iconst C (x := (1 : Int32)) at_271 rfl rfl ?_
      refine W.iload C at_272 rfl rfl ?_
      refine W.aload C at_274 rfl rfl rfl ?_
      refine W.aload C at_276 rfl rfl rfl ?_
      refine W.iload C at_278 rfl rfl ?_
      refine W.callS C (y := (⟨"com/example/borderline/borderline/TriePathsPathPinLaw", "cell", "([BII[I[BB)Z"⟩ : MethodName)) (hw _ (List.mem_of_getElem? (i := 14) rfl)) (hw _ (List.mem_of_getElem? (i := 15) rfl)) (hw _ (List.mem_of_getElem? (i := 5) rfl)) (hw _ (List.mem_of_getElem? (i := 16) rfl)) (by decide) (fun hz => rmCo l Z a0 hw [] b32 (1 : Int32) (0 : Int32) b22 b8 ff kc_b32 kc_b22 kc_b8 [(.int (nar .byte ff)), (.int (nar .byte ff)), (.int (nar .byte ff)), (.int (nar .byte ff))] [(.int tt), (.int (own_par tt p3)), (.int (own_par (own_par tt p3) p3)), (.int (own_par (own_par (own_par tt p3) p3) p3)), (.int (own_par (own_par (own_par (own_par tt p3) p3) p3) p3))] [(.int (nar .byte v9)), (.int (nar .byte v11)), (.int (nar .byte v13)), (.int (nar .byte v15)), (.int (nar .byte v17)), (.int (nar .byte v19))] (nar .byte ff) 0 0 h37 n0 hz V37 (by decide) (by decide) rfl (by decide) hff) at_280 rfl rfl pd_3 rfl (argsL := [(.ref b32), (.int (1 : Int32)), (.int (0 : Int32)), (.ref b22), (.ref b8), (.int ff)]) (rest := []) rfl (W := 0) rfl (by decide) (by decide) (by decide) (by decide) (k' := 4) (n' := 21) rfl rfl ?_
      rintro h39 _ ⟨rfl, rfl⟩
      show W.Go p l e _ _ m _ below meth c _ _ _ _ _ _ (mkF m 283 #[.val (.int p0), .val (.int p1), .val (.int p2), .val (.long q3), .second, .val (.int p4), .val (.int p3), .val (.ref b1), .val (.ref b8), .val (.int tt), .val (.int (0 : Int32)), .val (.ref b22), .val (.int tt), .val (.int ff), .val (.ref b32), .val (.int (0 : Int32))] [(.int (1 : Int32))])
      refine W.ifc C (pc' := 324) (pn := 286) at_283 (by decide) rfl rfl (W.q_eq (1 : Int32) (0 : Int32)) (fun hc283 => ?_) (fun hc283 => ?_)
      · exact absurd hc283 (by decide)
      refine W.aload C at_286 rfl rfl rfl ?_
      refine W.iconst C (x := (2 : Int32)) at_288 rfl rfl ?_
      refine W.iload C at_289 rfl rfl ?_
      refine W.aload C at_291 rfl rfl rfl ?_
      refine W.aload C at_293 rfl rfl rfl ?_
      refine W.iload C at_295 rfl rfl ?_
      refine W.callS C (y := (⟨"com/example/borderline/borderline/TriePathsPathPinLaw", "cell", "([BII[I[BB)Z"⟩ : MethodName)) (hw _ (List.mem_of_getElem? (i := 14) rfl)) (hw _ (List.mem_of_getElem? (i := 15) rfl)) (hw _ (List.mem_of_getElem? (i := 5) rfl)) (hw _ (List.mem_of_getElem? (i := 16) rfl)) (by decide) (fun hz => rmCo l Z a0 hw [] b32 (2 : Int32) (0 : Int32) b22 b8 ff kc_b32 kc_b22 kc_b8 [(.int (nar .byte ff)), (.int (nar .byte ff)), (.int (nar .byte ff)), (.int (nar .byte ff))] [(.int tt), (.int (own_par tt p3)), (.int (own_par (own_par tt p3) p3)), (.int (own_par (own_par (own_par tt p3) p3) p3)), (.int (own_par (own_par (own_par (own_par tt p3) p3) p3) p3))] [(.int (nar .byte v9)), (.int (nar .byte v11)), (.int (nar .byte v13)), (.int (nar .byte v15)), (.int (nar .byte v17)), (.int (nar .byte v19))] (nar .byte ff) 0 0 h37 n0 hz V37 (by decide) (by decide) rfl (by decide) hff) at_297 rfl rfl pd_3 rfl (argsL := [(.ref b32), (.int (2 : Int32)), (.int (0 : Int32)), (.ref b22), (.ref b8), (.int ff)]) (rest := []) rfl (W := 0) rfl (by decide) (by decide) (by decide) (by decide) (k' := 4) (n' := 21) rfl rfl ?_
      rintro h40 _ ⟨rfl, rfl⟩
      show W.Go p l e _ _ m _ below meth c _ _ _ _ _ _ (mkF m 300 #[.val (.int p0), .val (.int p1), .val (.int p2), .val (.long q3), .second, .val (.int p4), .val (.int p3), .val (.ref b1), .val (.ref b8), .val (.int tt), .val (.int (0 : Int32)), .val (.ref b22), .val (.int tt), .val (.int ff), .val (.ref b32), .val (.int (0 : Int32))] [(.int (1 : Int32))])
      refine W.ifc C (pc' := 324) (pn := 303) at_300 (by decide) rfl rfl (W.q_eq (1 : Int32) (0 : Int32)) (fun hc300 => ?_) (fun hc300 => ?_)
      · exact absurd hc300 (by decide)
      refine W.aload C at_303 rfl rfl rfl ?_
      refine W.iconst C (x := (3 : Int32)) at_305 rfl rfl ?_
      refine W.iload C at_306 rfl rfl ?_
      refine W.aload C at_308 rfl rfl rfl ?_
      refine W.aload C at_310 rfl rfl rfl ?_
      refine W.iload C at_312 rfl rfl ?_
      refine W.callS C (y := (⟨"com/example/borderline/borderline/TriePathsPathPinLaw", "cell", "([BII[I[BB)Z"⟩ : MethodName)) (hw _ (List.mem_of_getElem? (i := 14) rfl)) (hw _ (List.mem_of_getElem? (i := 15) rfl)) (hw _ (List.mem_of_getElem? (i := 5) rfl)) (hw _ (List.mem_of_getElem? (i := 16) rfl)) (by decide) (fun hz => rmCo l Z a0 hw [] b32 (3 : Int32) (0 : Int32) b22 b8 ff kc_b32 kc_b22 kc_b8 [(.int (nar .byte ff)), (.int (nar .byte ff)), (.int (nar .byte ff)), (.int (nar .byte ff))] [(.int tt), (.int (own_par tt p3)), (.int (own_par (own_par tt p3) p3)), (.int (own_par (own_par (own_par tt p3) p3) p3)), (.int (own_par (own_par (own_par (own_par tt p3) p3) p3) p3))] [(.int (nar .byte v9)), (.int (nar .byte v11)), (.int (nar .byte v13)), (.int (nar .byte v15)), (.int (nar .byte v17)), (.int (nar .byte v19))] (nar .byte ff) 0 0 h37 n0 hz V37 (by decide) (by decide) rfl (by decide) hff) at_314 rfl rfl pd_3 rfl (argsL := [(.ref b32), (.int (3 : Int32)), (.int (0 : Int32)), (.ref b22), (.ref b8), (.int ff)]) (rest := []) rfl (W := 0) rfl (by decide) (by decide) (by decide) (by decide) (k' := 4) (n' := 21) rfl rfl ?_
      rintro h41 _ ⟨rfl, rfl⟩
      show W.Go p l e _ _ m _ below meth c _ _ _ _ _ _ (mkF m 317 #[.val (.int p0), .val (.int p1), .val (.int p2), .val (.long q3), .second, .val (.int p4), .val (.int p3), .val (.ref b1), .val (.ref b8), .val (.int tt), .val (.int (0 : Int32)), .val (.ref b22), .val (.int tt), .val (.int ff), .val (.ref b32), .val (.int (0 : Int32))] [(.int (1 : Int32))])
      refine W.ifc C (pc' := 324) (pn := 320) at_317 (by decide) rfl rfl (W.q_eq (1 : Int32) (0 : Int32)) (fun hc317 => ?_) (fun hc317 => ?_)
      · exact absurd hc317 (by decide)
      refine W.iconst C (x := (1 : Int32)) at_320 rfl rfl ?_
      refine W.goto C (pc' := 325) at_321 (by decide) rfl ?_
      refine W.retZ C (w := (1 : Int32)) (by simp) at_325 (by decide) (by decide) (by decide) (fun _ _ _ _ q => q) ?_
      rfl
    · simp only [Int32.reduceToInt] at rk
      have ch := own_ch1 tt p3 hp3 rt.1 rt.2 rk.2
      have e0 := ch.1
      have d0 := ch.2
      obtain ⟨y0, l0, m0⟩ := own_lget v9 v11 v13 v15 v17 v19 tt e0.1 e0.2
      refine W.aload C at_193 rfl rfl rfl ?_
      refine W.iload C at_195 rfl rfl ?_
      refine W.iaload C (v := (.int (own_par tt p3))) V31 (by decide) (by decide) rfl at_197 rfl ?_
      refine W.istore C (Ls' := #[.val (.int p0), .val (.int p1), .val (.int p2), .val (.long q3), .second, .val (.int p4), .val (.int p3), .val (.ref b1), .val (.ref b8), .val (.int tt), .val (.int (1 : Int32)), .val (.ref b22), .val (.int (own_par tt p3)), .unset, .unset, .unset]) at_198 rfl rfl ?_
      refine W.iload C at_200 rfl rfl ?_
      refine W.i2b C (z := ((p4).toInt8.toInt32)) at_202 rfl rfl ?_
      obtain ⟨ff, hffe⟩ : ∃ z, z = ((p4).toInt8.toInt32) := ⟨_, rfl⟩
      rw [← hffe]
      have hff : nar .byte ff = ff := by rw [hffe]; exact own_narb p4
      refine W.istore C (Ls' := #[.val (.int p0), .val (.int p1), .val (.int p2), .val (.long q3), .second, .val (.int p4), .val (.int p3), .val (.ref b1), .val (.ref b8), .val (.int tt), .val (.int (1 : Int32)), .val (.ref b22), .val (.int (own_par tt p3)), .val (.int ff), .unset, .unset]) at_203 rfl rfl ?_
      refine W.iconst C (x := (4 : Int32)) at_205 rfl rfl ?_
      refine W.newarray C (cap := 4) (hw _ (List.mem_of_getElem? (i := 1) rfl)) at_206 rfl (by decide) (by decide) (by decide) (by decide) (by decide) (k' := 4) (n' := 21) rfl rfl ?_
      intro h42 b42 kc_b42 gb42 g0_b42 E42 Vb42
      have ne_b1_b42 : b1 ≠ b42 := Nat.ne_of_lt (by rw [gb42]; exact (((((((((((((V7.ext E8).other W10 ne_b1_b8).other W12 ne_b1_b8).other W14 ne_b1_b8).other W16 ne_b1_b8).other W18 ne_b1_b8).other W20 ne_b1_b8).ext E22).other W23 ne_b1_b22).other W25 ne_b1_b22).other W27 ne_b1_b22).other W29 ne_b1_b22).other W31 ne_b1_b22).lt)
      have ne_b8_b42 : b8 ≠ b42 := Nat.ne_of_lt (by rw [gb42]; exact ((((((V20.ext E22).other W23 ne_b8_b22).other W25 ne_b8_b22).other W27 ne_b8_b22).other W29 ne_b8_b22).other W31 ne_b8_b22).lt)
      have ne_b22_b42 : b22 ≠ b42 := Nat.ne_of_lt (by rw [gb42]; exact V31.lt)
      have Vb42 : Arv Z h42 b42 kc_b42 .byte (4 : Int32) [(.int (0 : Int32)), (.int (0 : Int32)), (.int (0 : Int32)), (.int (0 : Int32))] (.int (0 : Int32)) := Vb42.pad (pad_rep [] (.int (0 : Int32)) 4)
      refine W.dup C at_208 rfl rfl ?_
      refine W.iconst C (x := (0 : Int32)) at_209 rfl rfl ?_
      refine W.iload C at_210 rfl rfl ?_
      refine W.bastore C Vb42 (by decide) (by decide) (show 0 < 4 from by decide) g0_b42 at_212 rfl ?_
      intro h43 W43 V43
      have V43 : Arv Z h43 b42 kc_b42 .byte (4 : Int32) [(.int (nar .byte ff)), (.int (0 : Int32)), (.int (0 : Int32)), (.int (0 : Int32))] (.int (0 : Int32)) := V43
      refine W.dup C at_213 rfl rfl ?_
      refine W.iconst C (x := (1 : Int32)) at_214 rfl rfl ?_
      refine W.iload C at_215 rfl rfl ?_
      refine W.bastore C V43 (by decide) (by decide) (show 1 < 4 from by decide) g0_b42 at_217 rfl ?_
      intro h44 W44 V44
      have V44 : Arv Z h44 b42 kc_b42 .byte (4 : Int32) [(.int (nar .byte ff)), (.int (nar .byte ff)), (.int (0 : Int32)), (.int (0 : Int32))] (.int (0 : Int32)) := V44
      refine W.dup C at_218 rfl rfl ?_
      refine W.iconst C (x := (2 : Int32)) at_219 rfl rfl ?_
      refine W.iload C at_220 rfl rfl ?_
      refine W.bastore C V44 (by decide) (by decide) (show 2 < 4 from by decide) g0_b42 at_222 rfl ?_
      intro h45 W45 V45
      have V45 : Arv Z h45 b42 kc_b42 .byte (4 : Int32) [(.int (nar .byte ff)), (.int (nar .byte ff)), (.int (nar .byte ff)), (.int (0 : Int32))] (.int (0 : Int32)) := V45
      refine W.dup C at_223 rfl rfl ?_
      refine W.iconst C (x := (3 : Int32)) at_224 rfl rfl ?_
      refine W.iload C at_225 rfl rfl ?_
      refine W.bastore C V45 (by decide) (by decide) (show 3 < 4 from by decide) g0_b42 at_227 rfl ?_
      intro h46 W46 V46
      have V46 : Arv Z h46 b42 kc_b42 .byte (4 : Int32) [(.int (nar .byte ff)), (.int (nar .byte ff)), (.int (nar .byte ff)), (.int (nar .byte ff))] (.int (0 : Int32)) := V46
      refine W.astore C (Ls' := #[.val (.int p0), .val (.int p1), .val (.int p2), .val (.long q3), .second, .val (.int p4), .val (.int p3), .val (.ref b1), .val (.ref b8), .val (.int tt), .val (.int (1 : Int32)), .val (.ref b22), .val (.int (own_par tt p3)), .val (.int ff), .val (.ref b42), .unset]) at_228 rfl rfl rfl ?_
      refine W.aload C at_230 rfl rfl rfl ?_
      refine W.aload C at_232 rfl rfl rfl ?_
      refine W.iload C at_234 rfl rfl ?_
      refine W.iload C at_236 rfl rfl ?_
      refine W.aload C at_238 rfl rfl rfl ?_
      refine W.callS C (y := (⟨"com/example/borderline/borderline/TriePaths", "path", "([B[III[B)I"⟩ : MethodName)) (hw _ (List.mem_of_getElem? (i := 10) rfl)) (hw _ (List.mem_of_getElem? (i := 11) rfl)) (hw _ (List.mem_of_getElem? (i := 12) rfl)) (hw _ (List.mem_of_getElem? (i := 13) rfl)) (by decide) (fun hz => rmP1 l Z a0 hw [] b8 b1 b42 kc_b8 kc_b1 kc_b42 [(.int (nar .byte v9)), (.int (nar .byte v11)), (.int (nar .byte v13)), (.int (nar .byte v15)), (.int (nar .byte v17)), (.int (nar .byte v19))] [(.int (-1 : Int32)), (.int (0 : Int32)), (.int (0 : Int32)), (.int p3), (.int (3 : Int32)), (.int (4 : Int32))] (nar .byte ff) tt (own_par tt p3) y0 h46 n0 hz (((((((((((V20.ext E22).other W23 ne_b8_b22).other W25 ne_b8_b22).other W27 ne_b8_b22).other W29 ne_b8_b22).other W31 ne_b8_b22).ext E42).other W43 ne_b8_b42).other W44 ne_b8_b42).other W45 ne_b8_b42).other W46 ne_b8_b42) ((((((((((((((((((V7.ext E8).other W10 ne_b1_b8).other W12 ne_b1_b8).other W14 ne_b1_b8).other W16 ne_b1_b8).other W18 ne_b1_b8).other W20 ne_b1_b8).ext E22).other W23 ne_b1_b22).other W25 ne_b1_b22).other W27 ne_b1_b22).other W29 ne_b1_b22).other W31 ne_b1_b22).ext E42).other W43 ne_b1_b42).other W44 ne_b1_b42).other W45 ne_b1_b42).other W46 ne_b1_b42) V46 ne_b8_b42 ne_b1_b42 g0_b42 ⟨e0.1, e0.2⟩ (own_pget p3 tt e0.1 e0.2) l0 d0) at_240 rfl rfl pd_2 rfl (argsL := [(.ref b8), (.ref b1), (.int (own_par tt p3)), (.int tt), (.ref b42)]) (rest := []) rfl (W := 0) rfl (by decide) (by decide) (by decide) (by decide) (k' := 4) (n' := 21) rfl rfl ?_
      rintro h47 _ ⟨rfl, K47, V47⟩
      show W.Go p l e _ _ m _ below meth c _ _ _ _ _ _ (mkF m 243 #[.val (.int p0), .val (.int p1), .val (.int p2), .val (.long q3), .second, .val (.int p4), .val (.int p3), .val (.ref b1), .val (.ref b8), .val (.int tt), .val (.int (1 : Int32)), .val (.ref b22), .val (.int (own_par tt p3)), .val (.int ff), .val (.ref b42), .unset] [(.int (1 : Int32))])
      refine W.istore C (Ls' := #[.val (.int p0), .val (.int p1), .val (.int p2), .val (.long q3), .second, .val (.int p4), .val (.int p3), .val (.ref b1), .val (.ref b8), .val (.int tt), .val (.int (1 : Int32)), .val (.ref b22), .val (.int (own_par tt p3)), .val (.int ff), .val (.ref b42), .val (.int (1 : Int32))]) at_243 rfl rfl ?_
      refine W.iload C at_245 rfl rfl ?_
      refine W.iload C at_247 rfl rfl ?_
      refine W.icmp C (pc' := 324) (pn := 252) at_249 (by decide) rfl rfl (W.q_ne (1 : Int32) (1 : Int32)) (fun hc249 => ?_) (fun hc249 => ?_)
      · exact absurd rfl hc249
      refine W.aload C at_252 rfl rfl rfl ?_
      refine W.iconst C (x := (0 : Int32)) at_254 rfl rfl ?_
      refine W.iload C at_255 rfl rfl ?_
      refine W.aload C at_257 rfl rfl rfl ?_
      refine W.aload C at_259 rfl rfl rfl ?_
      refine W.iload C at_261 rfl rfl ?_
      refine W.callS C (y := (⟨"com/example/borderline/borderline/TriePathsPathPinLaw", "cell", "([BII[I[BB)Z"⟩ : MethodName)) (hw _ (List.mem_of_getElem? (i := 14) rfl)) (hw _ (List.mem_of_getElem? (i := 15) rfl)) (hw _ (List.mem_of_getElem? (i := 5) rfl)) (hw _ (List.mem_of_getElem? (i := 16) rfl)) (by decide) (fun hz => rmCi l Z a0 hw [] b42 (0 : Int32) (1 : Int32) b22 b8 ff kc_b42 kc_b22 kc_b8 [(.int (nar .byte y0)), (.int (nar .byte ff)), (.int (nar .byte ff)), (.int (nar .byte ff))] [(.int tt), (.int (own_par tt p3)), (.int (own_par (own_par tt p3) p3)), (.int (own_par (own_par (own_par tt p3) p3) p3)), (.int (own_par (own_par (own_par (own_par tt p3) p3) p3) p3))] [(.int (nar .byte v9)), (.int (nar .byte v11)), (.int (nar .byte v13)), (.int (nar .byte v15)), (.int (nar .byte v17)), (.int (nar .byte v19))] (nar .byte y0) tt y0 h47 n0 hz V47 (by decide) (by decide) rfl ((((((V31.ext E42).other W43 ne_b22_b42).other W44 ne_b22_b42).other W45 ne_b22_b42).other W46 ne_b22_b42).keep K47 (ninS ne_b22_b42 nin0)) ((((((((((((V20.ext E22).other W23 ne_b8_b22).other W25 ne_b8_b22).other W27 ne_b8_b22).other W29 ne_b8_b22).other W31 ne_b8_b22).ext E42).other W43 ne_b8_b42).other W44 ne_b8_b42).other W45 ne_b8_b42).other W46 ne_b8_b42).keep K47 (ninS ne_b8_b42 nin0)) (by decide) (by decide) rfl e0.1 e0.2 l0 m0) at_263 rfl rfl pd_3 rfl (argsL := [(.ref b42), (.int (0 : Int32)), (.int (1 : Int32)), (.ref b22), (.ref b8), (.int ff)]) (rest := []) rfl (W := 0) rfl (by decide) (by decide) (by decide) (by decide) (k' := 4) (n' := 21) rfl rfl ?_
      rintro h48 _ ⟨rfl, rfl⟩
      show W.Go p l e _ _ m _ below meth c _ _ _ _ _ _ (mkF m 266 #[.val (.int p0), .val (.int p1), .val (.int p2), .val (.long q3), .second, .val (.int p4), .val (.int p3), .val (.ref b1), .val (.ref b8), .val (.int tt), .val (.int (1 : Int32)), .val (.ref b22), .val (.int (own_par tt p3)), .val (.int ff), .val (.ref b42), .val (.int (1 : Int32))] [(.int (1 : Int32))])
      refine W.ifc C (pc' := 324) (pn := 269) at_266 (by decide) rfl rfl (W.q_eq (1 : Int32) (0 : Int32)) (fun hc266 => ?_) (fun hc266 => ?_)
      · exact absurd hc266 (by decide)
      refine W.aload C at_269 rfl rfl rfl ?_
      refine W.iconst C (x := (1 : Int32)) at_271 rfl rfl ?_
      refine W.iload C at_272 rfl rfl ?_
      refine W.aload C at_274 rfl rfl rfl ?_
      refine W.aload C at_276 rfl rfl rfl ?_
      refine W.iload C at_278 rfl rfl ?_
      refine W.callS C (y := (⟨"com/example/borderline/borderline/TriePathsPathPinLaw", "cell", "([BII[I[BB)Z"⟩ : MethodName)) (hw _ (List.mem_of_getElem? (i := 14) rfl)) (hw _ (List.mem_of_getElem? (i := 15) rfl)) (hw _ (List.mem_of_getElem? (i := 5) rfl)) (hw _ (List.mem_of_getElem? (i := 16) rfl)) (by decide) (fun hz => rmCo l Z a0 hw [] b42 (1 : Int32) (1 : Int32) b22 b8 ff kc_b42 kc_b22 kc_b8 [(.int (nar .byte y0)), (.int (nar .byte ff)), (.int (nar .byte ff)), (.int (nar .byte ff))] [(.int tt), (.int (own_par tt p3)), (.int (own_par (own_par tt p3) p3)), (.int (own_par (own_par (own_par tt p3) p3) p3)), (.int (own_par (own_par (own_par (own_par tt p3) p3) p3) p3))] [(.int (nar .byte v9)), (.int (nar .byte v11)), (.int (nar .byte v13)), (.int (nar .byte v15)), (.int (nar .byte v17)), (.int (nar .byte v19))] (nar .byte ff) 0 0 h47 n0 hz V47 (by decide) (by decide) rfl (by decide) hff) at_280 rfl rfl pd_3 rfl (argsL := [(.ref b42), (.int (1 : Int32)), (.int (1 : Int32)), (.ref b22), (.ref b8), (.int ff)]) (rest := []) rfl (W := 0) rfl (by decide) (by decide) (by decide) (by decide) (k' := 4) (n' := 21) rfl rfl ?_
      rintro h49 _ ⟨rfl, rfl⟩
      show W.Go p l e _ _ m _ below meth c _ _ _ _ _ _ (mkF m 283 #[.val (.int p0), .val (.int p1), .val (.int p2), .val (.long q3), .second, .val (.int p4), .val (.int p3), .val (.ref b1), .val (.ref b8), .val (.int tt), .val (.int (1 : Int32)), .val (.ref b22), .val (.int (own_par tt p3)), .val (.int ff), .val (.ref b42), .val (.int (1 : Int32))] [(.int (1 : Int32))])
      refine W.ifc C (pc' := 324) (pn := 286) at_283 (by decide) rfl rfl (W.q_eq (1 : Int32) (0 : Int32)) (fun hc283 => ?_) (fun hc283 => ?_)
      · exact absurd hc283 (by decide)
      refine W.aload C at_286 rfl rfl rfl ?_
      refine W.iconst C (x := (2 : Int32)) at_288 rfl rfl ?_
      refine W.iload C at_289 rfl rfl ?_
      refine W.aload C at_291 rfl rfl rfl ?_
      refine W.aload C at_293 rfl rfl rfl ?_
      refine W.iload C at_295 rfl rfl ?_
      refine W.callS C (y := (⟨"com/example/borderline/borderline/TriePathsPathPinLaw", "cell", "([BII[I[BB)Z"⟩ : MethodName)) (hw _ (List.mem_of_getElem? (i := 14) rfl)) (hw _ (List.mem_of_getElem? (i := 15) rfl)) (hw _ (List.mem_of_getElem? (i := 5) rfl)) (hw _ (List.mem_of_getElem? (i := 16) rfl)) (by decide) (fun hz => rmCo l Z a0 hw [] b42 (2 : Int32) (1 : Int32) b22 b8 ff kc_b42 kc_b22 kc_b8 [(.int (nar .byte y0)), (.int (nar .byte ff)), (.int (nar .byte ff)), (.int (nar .byte ff))] [(.int tt), (.int (own_par tt p3)), (.int (own_par (own_par tt p3) p3)), (.int (own_par (own_par (own_par tt p3) p3) p3)), (.int (own_par (own_par (own_par (own_par tt p3) p3) p3) p3))] [(.int (nar .byte v9)), (.int (nar .byte v11)), (.int (nar .byte v13)), (.int (nar .byte v15)), (.int (nar .byte v17)), (.int (nar .byte v19))] (nar .byte ff) 0 0 h47 n0 hz V47 (by decide) (by decide) rfl (by decide) hff) at_297 rfl rfl pd_3 rfl (argsL := [(.ref b42), (.int (2 : Int32)), (.int (1 : Int32)), (.ref b22), (.ref b8), (.int ff)]) (rest := []) rfl (W := 0) rfl (by decide) (by decide) (by decide) (by decide) (k' := 4) (n' := 21) rfl rfl ?_
      rintro h50 _ ⟨rfl, rfl⟩
      show W.Go p l e _ _ m _ below meth c _ _ _ _ _ _ (mkF m 300 #[.val (.int p0), .val (.int p1), .val (.int p2), .val (.long q3), .second, .val (.int p4), .val (.int p3), .val (.ref b1), .val (.ref b8), .val (.int tt), .val (.int (1 : Int32)), .val (.ref b22), .val (.int (own_par tt p3)), .val (.int ff), .val (.ref b42), .val (.int (1 : Int32))] [(.int (1 : Int32))])
      refine W.ifc C (pc' := 324) (pn := 303) at_300 (by decide) rfl rfl (W.q_eq (1 : Int32) (0 : Int32)) (fun hc300 => ?_) (fun hc300 => ?_)
      · exact absurd hc300 (by decide)
      refine W.aload C at_303 rfl rfl rfl ?_
      refine W.iconst C (x := (3 : Int32)) at_305 rfl rfl ?_
      refine W.iload C at_306 rfl rfl ?_
      refine W.aload C at_308 rfl rfl rfl ?_
      refine W.aload C at_310 rfl rfl rfl ?_
      refine W.iload C at_312 rfl rfl ?_
      refine W.callS C (y := (⟨"com/example/borderline/borderline/TriePathsPathPinLaw", "cell", "([BII[I[BB)Z"⟩ : MethodName)) (hw _ (List.mem_of_getElem? (i := 14) rfl)) (hw _ (List.mem_of_getElem? (i := 15) rfl)) (hw _ (List.mem_of_getElem? (i := 5) rfl)) (hw _ (List.mem_of_getElem? (i := 16) rfl)) (by decide) (fun hz => rmCo l Z a0 hw [] b42 (3 : Int32) (1 : Int32) b22 b8 ff kc_b42 kc_b22 kc_b8 [(.int (nar .byte y0)), (.int (nar .byte ff)), (.int (nar .byte ff)), (.int (nar .byte ff))] [(.int tt), (.int (own_par tt p3)), (.int (own_par (own_par tt p3) p3)), (.int (own_par (own_par (own_par tt p3) p3) p3)), (.int (own_par (own_par (own_par (own_par tt p3) p3) p3) p3))] [(.int (nar .byte v9)), (.int (nar .byte v11)), (.int (nar .byte v13)), (.int (nar .byte v15)), (.int (nar .byte v17)), (.int (nar .byte v19))] (nar .byte ff) 0 0 h47 n0 hz V47 (by decide) (by decide) rfl (by decide) hff) at_314 rfl rfl pd_3 rfl (argsL := [(.ref b42), (.int (3 : Int32)), (.int (1 : Int32)), (.ref b22), (.ref b8), (.int ff)]) (rest := []) rfl (W := 0) rfl (by decide) (by decide) (by decide) (by decide) (k' := 4) (n' := 21) rfl rfl ?_
      rintro h51 _ ⟨rfl, rfl⟩
      show W.Go p l e _ _ m _ below meth c _ _ _ _ _ _ (mkF m 317 #[.val (.int p0), .val (.int p1), .val (.int p2), .val (.long q3), .second, .val (.int p4), .val (.int p3), .val (.ref b1), .val (.ref b8), .val (.int tt), .val (.int (1 : Int32)), .val (.ref b22), .val (.int (own_par tt p3)), .val (.int ff), .val (.ref b42), .val (.int (1 : Int32))] [(.int (1 : Int32))])
      refine W.ifc C (pc' := 324) (pn := 320) at_317 (by decide) rfl rfl (W.q_eq (1 : Int32) (0 : Int32)) (fun hc317 => ?_) (fun hc317 => ?_)
      · exact absurd hc317 (by decide)
      refine W.iconst C (x := (1 : Int32)) at_320 rfl rfl ?_
      refine W.goto C (pc' := 325) at_321 (by decide) rfl ?_
      refine W.retZ C (w := (1 : Int32)) (by simp) at_325 (by decide) (by decide) (by decide) (fun _ _ _ _ q => q) ?_
      rfl
    · simp only [Int32.reduceToInt] at rk
      have ch := own_ch2 tt p3 hp3 rt.1 rt.2 rk.2
      have e0 := ch.1
      have d0 := ch.2.1
      obtain ⟨y0, l0, m0⟩ := own_lget v9 v11 v13 v15 v17 v19 tt e0.1 e0.2
      have e1 := ch.2.2.1
      have d1 := ch.2.2.2
      obtain ⟨y1, l1, m1⟩ := own_lget v9 v11 v13 v15 v17 v19 (own_par tt p3) e1.1 e1.2
      refine W.aload C at_193 rfl rfl rfl ?_
      refine W.iload C at_195 rfl rfl ?_
      refine W.iaload C (v := (.int (own_par (own_par tt p3) p3))) V31 (by decide) (by decide) rfl at_197 rfl ?_
      refine W.istore C (Ls' := #[.val (.int p0), .val (.int p1), .val (.int p2), .val (.long q3), .second, .val (.int p4), .val (.int p3), .val (.ref b1), .val (.ref b8), .val (.int tt), .val (.int (2 : Int32)), .val (.ref b22), .val (.int (own_par (own_par tt p3) p3)), .unset, .unset, .unset]) at_198 rfl rfl ?_
      refine W.iload C at_200 rfl rfl ?_
      refine W.i2b C (z := ((p4).toInt8.toInt32)) at_202 rfl rfl ?_
      obtain ⟨ff, hffe⟩ : ∃ z, z = ((p4).toInt8.toInt32) := ⟨_, rfl⟩
      rw [← hffe]
      have hff : nar .byte ff = ff := by rw [hffe]; exact own_narb p4
      refine W.istore C (Ls' := #[.val (.int p0), .val (.int p1), .val (.int p2), .val (.long q3), .second, .val (.int p4), .val (.int p3), .val (.ref b1), .val (.ref b8), .val (.int tt), .val (.int (2 : Int32)), .val (.ref b22), .val (.int (own_par (own_par tt p3) p3)), .val (.int ff), .unset, .unset]) at_203 rfl rfl ?_
      refine W.iconst C (x := (4 : Int32)) at_205 rfl rfl ?_
      refine W.newarray C (cap := 4) (hw _ (List.mem_of_getElem? (i := 1) rfl)) at_206 rfl (by decide) (by decide) (by decide) (by decide) (by decide) (k' := 4) (n' := 21) rfl rfl ?_
      intro h52 b52 kc_b52 gb52 g0_b52 E52 Vb52
      have ne_b1_b52 : b1 ≠ b52 := Nat.ne_of_lt (by rw [gb52]; exact (((((((((((((V7.ext E8).other W10 ne_b1_b8).other W12 ne_b1_b8).other W14 ne_b1_b8).other W16 ne_b1_b8).other W18 ne_b1_b8).other W20 ne_b1_b8).ext E22).other W23 ne_b1_b22).other W25 ne_b1_b22).other W27 ne_b1_b22).other W29 ne_b1_b22).other W31 ne_b1_b22).lt)
      have ne_b8_b52 : b8 ≠ b52 := Nat.ne_of_lt (by rw [gb52]; exact ((((((V20.ext E22).other W23 ne_b8_b22).other W25 ne_b8_b22).other W27 ne_b8_b22).other W29 ne_b8_b22).other W31 ne_b8_b22).lt)
      have ne_b22_b52 : b22 ≠ b52 := Nat.ne_of_lt (by rw [gb52]; exact V31.lt)
      have Vb52 : Arv Z h52 b52 kc_b52 .byte (4 : Int32) [(.int (0 : Int32)), (.int (0 : Int32)), (.int (0 : Int32)), (.int (0 : Int32))] (.int (0 : Int32)) := Vb52.pad (pad_rep [] (.int (0 : Int32)) 4)
      refine W.dup C at_208 rfl rfl ?_
      refine W.iconst C (x := (0 : Int32)) at_209 rfl rfl ?_
      refine W.iload C at_210 rfl rfl ?_
      refine W.bastore C Vb52 (by decide) (by decide) (show 0 < 4 from by decide) g0_b52 at_212 rfl ?_
      intro h53 W53 V53
      have V53 : Arv Z h53 b52 kc_b52 .byte (4 : Int32) [(.int (nar .byte ff)), (.int (0 : Int32)), (.int (0 : Int32)), (.int (0 : Int32))] (.int (0 : Int32)) := V53
      refine W.dup C at_213 rfl rfl ?_
      refine W.iconst C (x := (1 : Int32)) at_214 rfl rfl ?_
      refine W.iload C at_215 rfl rfl ?_
      refine W.bastore C V53 (by decide) (by decide) (show 1 < 4 from by decide) g0_b52 at_217 rfl ?_
      intro h54 W54 V54
      have V54 : Arv Z h54 b52 kc_b52 .byte (4 : Int32) [(.int (nar .byte ff)), (.int (nar .byte ff)), (.int (0 : Int32)), (.int (0 : Int32))] (.int (0 : Int32)) := V54
      refine W.dup C at_218 rfl rfl ?_
      refine W.iconst C (x := (2 : Int32)) at_219 rfl rfl ?_
      refine W.iload C at_220 rfl rfl ?_
      refine W.bastore C V54 (by decide) (by decide) (show 2 < 4 from by decide) g0_b52 at_222 rfl ?_
      intro h55 W55 V55
      have V55 : Arv Z h55 b52 kc_b52 .byte (4 : Int32) [(.int (nar .byte ff)), (.int (nar .byte ff)), (.int (nar .byte ff)), (.int (0 : Int32))] (.int (0 : Int32)) := V55
      refine W.dup C at_223 rfl rfl ?_
      refine W.iconst C (x := (3 : Int32)) at_224 rfl rfl ?_
      refine W.iload C at_225 rfl rfl ?_
      refine W.bastore C V55 (by decide) (by decide) (show 3 < 4 from by decide) g0_b52 at_227 rfl ?_
      intro h56 W56 V56
      have V56 : Arv Z h56 b52 kc_b52 .byte (4 : Int32) [(.int (nar .byte ff)), (.int (nar .byte ff)), (.int (nar .byte ff)), (.int (nar .byte ff))] (.int (0 : Int32)) := V56
      refine W.astore C (Ls' := #[.val (.int p0), .val (.int p1), .val (.int p2), .val (.long q3), .second, .val (.int p4), .val (.int p3), .val (.ref b1), .val (.ref b8), .val (.int tt), .val (.int (2 : Int32)), .val (.ref b22), .val (.int (own_par (own_par tt p3) p3)), .val (.int ff), .val (.ref b52), .unset]) at_228 rfl rfl rfl ?_
      refine W.aload C at_230 rfl rfl rfl ?_
      refine W.aload C at_232 rfl rfl rfl ?_
      refine W.iload C at_234 rfl rfl ?_
      refine W.iload C at_236 rfl rfl ?_
      refine W.aload C at_238 rfl rfl rfl ?_
      refine W.callS C (y := (⟨"com/example/borderline/borderline/TriePaths", "path", "([B[III[B)I"⟩ : MethodName)) (hw _ (List.mem_of_getElem? (i := 10) rfl)) (hw _ (List.mem_of_getElem? (i := 11) rfl)) (hw _ (List.mem_of_getElem? (i := 12) rfl)) (hw _ (List.mem_of_getElem? (i := 13) rfl)) (by decide) (fun hz => rmP2 l Z a0 hw [] b8 b1 b52 kc_b8 kc_b1 kc_b52 [(.int (nar .byte v9)), (.int (nar .byte v11)), (.int (nar .byte v13)), (.int (nar .byte v15)), (.int (nar .byte v17)), (.int (nar .byte v19))] [(.int (-1 : Int32)), (.int (0 : Int32)), (.int (0 : Int32)), (.int p3), (.int (3 : Int32)), (.int (4 : Int32))] (nar .byte ff) tt (own_par tt p3) (own_par (own_par tt p3) p3) y0 y1 h56 n0 hz (((((((((((V20.ext E22).other W23 ne_b8_b22).other W25 ne_b8_b22).other W27 ne_b8_b22).other W29 ne_b8_b22).other W31 ne_b8_b22).ext E52).other W53 ne_b8_b52).other W54 ne_b8_b52).other W55 ne_b8_b52).other W56 ne_b8_b52) ((((((((((((((((((V7.ext E8).other W10 ne_b1_b8).other W12 ne_b1_b8).other W14 ne_b1_b8).other W16 ne_b1_b8).other W18 ne_b1_b8).other W20 ne_b1_b8).ext E22).other W23 ne_b1_b22).other W25 ne_b1_b22).other W27 ne_b1_b22).other W29 ne_b1_b22).other W31 ne_b1_b22).ext E52).other W53 ne_b1_b52).other W54 ne_b1_b52).other W55 ne_b1_b52).other W56 ne_b1_b52) V56 ne_b8_b52 ne_b1_b52 g0_b52 ⟨e0.1, e0.2⟩ (own_pget p3 tt e0.1 e0.2) l0 d0 ⟨e1.1, e1.2⟩ (own_pget p3 (own_par tt p3) e1.1 e1.2) l1 d1) at_240 rfl rfl pd_2 rfl (argsL := [(.ref b8), (.ref b1), (.int (own_par (own_par tt p3) p3)), (.int tt), (.ref b52)]) (rest := []) rfl (W := 0) rfl (by decide) (by decide) (by decide) (by decide) (k' := 4) (n' := 21) rfl rfl ?_
      rintro h57 _ ⟨rfl, K57, V57⟩
      show W.Go p l e _ _ m _ below meth c _ _ _ _ _ _ (mkF m 243 #[.val (.int p0), .val (.int p1), .val (.int p2), .val (.long q3), .second, .val (.int p4), .val (.int p3), .val (.ref b1), .val (.ref b8), .val (.int tt), .val (.int (2 : Int32)), .val (.ref b22), .val (.int (own_par (own_par tt p3) p3)), .val (.int ff), .val (.ref b52), .unset] [(.int (2 : Int32))])
      refine W.istore C (Ls' := #[.val (.int p0), .val (.int p1), .val (.int p2), .val (.long q3), .second, .val (.int p4), .val (.int p3), .val (.ref b1), .val (.ref b8), .val (.int tt), .val (.int (2 : Int32)), .val (.ref b22), .val (.int (own_par (own_par tt p3) p3)), .val (.int ff), .val (.ref b52), .val (.int (2 : Int32))]) at_243 rfl rfl ?_
      refine W.iload C at_245 rfl rfl ?_
      refine W.iload C at_247 rfl rfl ?_
      refine W.icmp C (pc' := 324) (pn := 252) at_249 (by decide) rfl rfl (W.q_ne (2 : Int32) (2 : Int32)) (fun hc249 => ?_) (fun hc249 => ?_)
      · exact absurd rfl hc249
      refine W.aload C at_252 rfl rfl rfl ?_
      refine W.iconst C (x := (0 : Int32)) at_254 rfl rfl ?_
      refine W.iload C at_255 rfl rfl ?_
      refine W.aload C at_257 rfl rfl rfl ?_
      refine W.aload C at_259 rfl rfl rfl ?_
      refine W.iload C at_261 rfl rfl ?_
      refine W.callS C (y := (⟨"com/example/borderline/borderline/TriePathsPathPinLaw", "cell", "([BII[I[BB)Z"⟩ : MethodName)) (hw _ (List.mem_of_getElem? (i := 14) rfl)) (hw _ (List.mem_of_getElem? (i := 15) rfl)) (hw _ (List.mem_of_getElem? (i := 5) rfl)) (hw _ (List.mem_of_getElem? (i := 16) rfl)) (by decide) (fun hz => rmCi l Z a0 hw [] b52 (0 : Int32) (2 : Int32) b22 b8 ff kc_b52 kc_b22 kc_b8 [(.int (nar .byte y1)), (.int (nar .byte y0)), (.int (nar .byte ff)), (.int (nar .byte ff))] [(.int tt), (.int (own_par tt p3)), (.int (own_par (own_par tt p3) p3)), (.int (own_par (own_par (own_par tt p3) p3) p3)), (.int (own_par (own_par (own_par (own_par tt p3) p3) p3) p3))] [(.int (nar .byte v9)), (.int (nar .byte v11)), (.int (nar .byte v13)), (.int (nar .byte v15)), (.int (nar .byte v17)), (.int (nar .byte v19))] (nar .byte y1) (own_par tt p3) y1 h57 n0 hz V57 (by decide) (by decide) rfl ((((((V31.ext E52).other W53 ne_b22_b52).other W54 ne_b22_b52).other W55 ne_b22_b52).other W56 ne_b22_b52).keep K57 (ninS ne_b22_b52 nin0)) ((((((((((((V20.ext E22).other W23 ne_b8_b22).other W25 ne_b8_b22).other W27 ne_b8_b22).other W29 ne_b8_b22).other W31 ne_b8_b22).ext E52).other W53 ne_b8_b52).other W54 ne_b8_b52).other W55 ne_b8_b52).other W56 ne_b8_b52).keep K57 (ninS ne_b8_b52 nin0)) (by decide) (by decide) rfl e1.1 e1.2 l1 m1) at_263 rfl rfl pd_3 rfl (argsL := [(.ref b52), (.int (0 : Int32)), (.int (2 : Int32)), (.ref b22), (.ref b8), (.int ff)]) (rest := []) rfl (W := 0) rfl (by decide) (by decide) (by decide) (by decide) (k' := 4) (n' := 21) rfl rfl ?_
      rintro h58 _ ⟨rfl, rfl⟩
      show W.Go p l e _ _ m _ below meth c _ _ _ _ _ _ (mkF m 266 #[.val (.int p0), .val (.int p1), .val (.int p2), .val (.long q3), .second, .val (.int p4), .val (.int p3), .val (.ref b1), .val (.ref b8), .val (.int tt), .val (.int (2 : Int32)), .val (.ref b22), .val (.int (own_par (own_par tt p3) p3)), .val (.int ff), .val (.ref b52), .val (.int (2 : Int32))] [(.int (1 : Int32))])
      refine W.ifc C (pc' := 324) (pn := 269) at_266 (by decide) rfl rfl (W.q_eq (1 : Int32) (0 : Int32)) (fun hc266 => ?_) (fun hc266 => ?_)
      · exact absurd hc266 (by decide)
      refine W.aload C at_269 rfl rfl rfl ?_
      refine W.iconst C (x := (1 : Int32)) at_271 rfl rfl ?_
      refine W.iload C at_272 rfl rfl ?_
      refine W.aload C at_274 rfl rfl rfl ?_
      refine W.aload C at_276 rfl rfl rfl ?_
      refine W.iload C at_278 rfl rfl ?_
      refine W.callS C (y := (⟨"com/example/borderline/borderline/TriePathsPathPinLaw", "cell", "([BII[I[BB)Z"⟩ : MethodName)) (hw _ (List.mem_of_getElem? (i := 14) rfl)) (hw _ (List.mem_of_getElem? (i := 15) rfl)) (hw _ (List.mem_of_getElem? (i := 5) rfl)) (hw _ (List.mem_of_getElem? (i := 16) rfl)) (by decide) (fun hz => rmCi l Z a0 hw [] b52 (1 : Int32) (2 : Int32) b22 b8 ff kc_b52 kc_b22 kc_b8 [(.int (nar .byte y1)), (.int (nar .byte y0)), (.int (nar .byte ff)), (.int (nar .byte ff))] [(.int tt), (.int (own_par tt p3)), (.int (own_par (own_par tt p3) p3)), (.int (own_par (own_par (own_par tt p3) p3) p3)), (.int (own_par (own_par (own_par (own_par tt p3) p3) p3) p3))] [(.int (nar .byte v9)), (.int (nar .byte v11)), (.int (nar .byte v13)), (.int (nar .byte v15)), (.int (nar .byte v17)), (.int (nar .byte v19))] (nar .byte y0) tt y0 h57 n0 hz V57 (by decide) (by decide) rfl ((((((V31.ext E52).other W53 ne_b22_b52).other W54 ne_b22_b52).other W55 ne_b22_b52).other W56 ne_b22_b52).keep K57 (ninS ne_b22_b52 nin0)) ((((((((((((V20.ext E22).other W23 ne_b8_b22).other W25 ne_b8_b22).other W27 ne_b8_b22).other W29 ne_b8_b22).other W31 ne_b8_b22).ext E52).other W53 ne_b8_b52).other W54 ne_b8_b52).other W55 ne_b8_b52).other W56 ne_b8_b52).keep K57 (ninS ne_b8_b52 nin0)) (by decide) (by decide) rfl e0.1 e0.2 l0 m0) at_280 rfl rfl pd_3 rfl (argsL := [(.ref b52), (.int (1 : Int32)), (.int (2 : Int32)), (.ref b22), (.ref b8), (.int ff)]) (rest := []) rfl (W := 0) rfl (by decide) (by decide) (by decide) (by decide) (k' := 4) (n' := 21) rfl rfl ?_
      rintro h59 _ ⟨rfl, rfl⟩
      show W.Go p l e _ _ m _ below meth c _ _ _ _ _ _ (mkF m 283 #[.val (.int p0), .val (.int p1), .val (.int p2), .val (.long q3), .second, .val (.int p4), .val (.int p3), .val (.ref b1), .val (.ref b8), .val (.int tt), .val (.int (2 : Int32)), .val (.ref b22), .val (.int (own_par (own_par tt p3) p3)), .val (.int ff), .val (.ref b52), .val (.int (2 : Int32))] [(.int (1 : Int32))])
      refine W.ifc C (pc' := 324) (pn := 286) at_283 (by decide) rfl rfl (W.q_eq (1 : Int32) (0 : Int32)) (fun hc283 => ?_) (fun hc283 => ?_)
      · exact absurd hc283 (by decide)
      refine W.aload C at_286 rfl rfl rfl ?_
      refine W.iconst C (x := (2 : Int32)) at_288 rfl rfl ?_
      refine W.iload C at_289 rfl rfl ?_
      refine W.aload C at_291 rfl rfl rfl ?_
      refine W.aload C at_293 rfl rfl rfl ?_
      refine W.iload C at_295 rfl rfl ?_
      refine W.callS C (y := (⟨"com/example/borderline/borderline/TriePathsPathPinLaw", "cell", "([BII[I[BB)Z"⟩ : MethodName)) (hw _ (List.mem_of_getElem? (i := 14) rfl)) (hw _ (List.mem_of_getElem? (i := 15) rfl)) (hw _ (List.mem_of_getElem? (i := 5) rfl)) (hw _ (List.mem_of_getElem? (i := 16) rfl)) (by decide) (fun hz => rmCo l Z a0 hw [] b52 (2 : Int32) (2 : Int32) b22 b8 ff kc_b52 kc_b22 kc_b8 [(.int (nar .byte y1)), (.int (nar .byte y0)), (.int (nar .byte ff)), (.int (nar .byte ff))] [(.int tt), (.int (own_par tt p3)), (.int (own_par (own_par tt p3) p3)), (.int (own_par (own_par (own_par tt p3) p3) p3)), (.int (own_par (own_par (own_par (own_par tt p3) p3) p3) p3))] [(.int (nar .byte v9)), (.int (nar .byte v11)), (.int (nar .byte v13)), (.int (nar .byte v15)), (.int (nar .byte v17)), (.int (nar .byte v19))] (nar .byte ff) 0 0 h57 n0 hz V57 (by decide) (by decide) rfl (by decide) hff) at_297 rfl rfl pd_3 rfl (argsL := [(.ref b52), (.int (2 : Int32)), (.int (2 : Int32)), (.ref b22), (.ref b8), (.int ff)]) (rest := []) rfl (W := 0) rfl (by decide) (by decide) (by decide) (by decide) (k' := 4) (n' := 21) rfl rfl ?_
      rintro h60 _ ⟨rfl, rfl⟩
      show W.Go p l e _ _ m _ below meth c _ _ _ _ _ _ (mkF m 300 #[.val (.int p0), .val (.int p1), .val (.int p2), .val (.long q3), .second, .val (.int p4), .val (.int p3), .val (.ref b1), .val (.ref b8), .val (.int tt), .val (.int (2 : Int32)), .val (.ref b22), .val (.int (own_par (own_par tt p3) p3)), .val (.int ff), .val (.ref b52), .val (.int (2 : Int32))] [(.int (1 : Int32))])
      refine W.ifc C (pc' := 324) (pn := 303) at_300 (by decide) rfl rfl (W.q_eq (1 : Int32) (0 : Int32)) (fun hc300 => ?_) (fun hc300 => ?_)
      · exact absurd hc300 (by decide)
      refine W.aload C at_303 rfl rfl rfl ?_
      refine W.iconst C (x := (3 : Int32)) at_305 rfl rfl ?_
      refine W.iload C at_306 rfl rfl ?_
      refine W.aload C at_308 rfl rfl rfl ?_
      refine W.aload C at_310 rfl rfl rfl ?_
      refine W.iload C at_312 rfl rfl ?_
      refine W.callS C (y := (⟨"com/example/borderline/borderline/TriePathsPathPinLaw", "cell", "([BII[I[BB)Z"⟩ : MethodName)) (hw _ (List.mem_of_getElem? (i := 14) rfl)) (hw _ (List.mem_of_getElem? (i := 15) rfl)) (hw _ (List.mem_of_getElem? (i := 5) rfl)) (hw _ (List.mem_of_getElem? (i := 16) rfl)) (by decide) (fun hz => rmCo l Z a0 hw [] b52 (3 : Int32) (2 : Int32) b22 b8 ff kc_b52 kc_b22 kc_b8 [(.int (nar .byte y1)), (.int (nar .byte y0)), (.int (nar .byte ff)), (.int (nar .byte ff))] [(.int tt), (.int (own_par tt p3)), (.int (own_par (own_par tt p3) p3)), (.int (own_par (own_par (own_par tt p3) p3) p3)), (.int (own_par (own_par (own_par (own_par tt p3) p3) p3) p3))] [(.int (nar .byte v9)), (.int (nar .byte v11)), (.int (nar .byte v13)), (.int (nar .byte v15)), (.int (nar .byte v17)), (.int (nar .byte v19))] (nar .byte ff) 0 0 h57 n0 hz V57 (by decide) (by decide) rfl (by decide) hff) at_314 rfl rfl pd_3 rfl (argsL := [(.ref b52), (.int (3 : Int32)), (.int (2 : Int32)), (.ref b22), (.ref b8), (.int ff)]) (rest := []) rfl (W := 0) rfl (by decide) (by decide) (by decide) (by decide) (k' := 4) (n' := 21) rfl rfl ?_
      rintro h61 _ ⟨rfl, rfl⟩
      show W.Go p l e _ _ m _ below meth c _ _ _ _ _ _ (mkF m 317 #[.val (.int p0), .val (.int p1), .val (.int p2), .val (.long q3), .second, .val (.int p4), .val (.int p3), .val (.ref b1), .val (.ref b8), .val (.int tt), .val (.int (2 : Int32)), .val (.ref b22), .val (.int (own_par (own_par tt p3) p3)), .val (.int ff), .val (.ref b52), .val (.int (2 : Int32))] [(.int (1 : Int32))])
      refine W.ifc C (pc' := 324) (pn := 320) at_317 (by decide) rfl rfl (W.q_eq (1 : Int32) (0 : Int32)) (fun hc317 => ?_) (fun hc317 => ?_)
      · exact absurd hc317 (by decide)
      refine W.iconst C (x := (1 : Int32)) at_320 rfl rfl ?_
      refine W.goto C (pc' := 325) at_321 (by decide) rfl ?_
      refine W.retZ C (w := (1 : Int32)) (by simp) at_325 (by decide) (by decide) (by decide) (fun _ _ _ _ q => q) ?_
      rfl
    · simp only [Int32.reduceToInt] at rk
      have ch := own_ch3 tt p3 hp3 rt.1 rt.2 rk.2
      have e0 := ch.1
      have d0 := ch.2.1
      obtain ⟨y0, l0, m0⟩ := own_lget v9 v11 v13 v15 v17 v19 tt e0.1 e0.2
      have e1 := ch.2.2.1
      have d1 := ch.2.2.2.1
      obtain ⟨y1, l1, m1⟩ := own_lget v9 v11 v13 v15 v17 v19 (own_par tt p3) e1.1 e1.2
      have e2 := ch.2.2.2.2.1
      have d2 := ch.2.2.2.2.2
      obtain ⟨y2, l2, m2⟩ := own_lget v9 v11 v13 v15 v17 v19 (own_par (own_par tt p3) p3) e2.1 e2.2
      refine W.aload C at_193 rfl rfl rfl ?_
      refine W.iload C at_195 rfl rfl ?_
      refine W.iaload C (v := (.int (own_par (own_par (own_par tt p3) p3) p3))) V31 (by decide) (by decide) rfl at_197 rfl ?_
      refine W.istore C (Ls' := #[.val (.int p0), .val (.int p1), .val (.int p2), .val (.long q3), .second, .val (.int p4), .val (.int p3), .val (.ref b1), .val (.ref b8), .val (.int tt), .val (.int (3 : Int32)), .val (.ref b22), .val (.int (own_par (own_par (own_par tt p3) p3) p3)), .unset, .unset, .unset]) at_198 rfl rfl ?_
      refine W.iload C at_200 rfl rfl ?_
      refine W.i2b C (z := ((p4).toInt8.toInt32)) at_202 rfl rfl ?_
      obtain ⟨ff, hffe⟩ : ∃ z, z = ((p4).toInt8.toInt32) := ⟨_, rfl⟩
      rw [← hffe]
      have hff : nar .byte ff = ff := by rw [hffe]; exact own_narb p4
      refine W.istore C (Ls' := #[.val (.int p0), .val (.int p1), .val (.int p2), .val (.long q3), .second, .val (.int p4), .val (.int p3), .val (.ref b1), .val (.ref b8), .val (.int tt), .val (.int (3 : Int32)), .val (.ref b22), .val (.int (own_par (own_par (own_par tt p3) p3) p3)), .val (.int ff), .unset, .unset]) at_203 rfl rfl ?_
      refine W.iconst C (x := (4 : Int32)) at_205 rfl rfl ?_
      refine W.newarray C (cap := 4) (hw _ (List.mem_of_getElem? (i := 1) rfl)) at_206 rfl (by decide) (by decide) (by decide) (by decide) (by decide) (k' := 4) (n' := 21) rfl rfl ?_
      intro h62 b62 kc_b62 gb62 g0_b62 E62 Vb62
      have ne_b1_b62 : b1 ≠ b62 := Nat.ne_of_lt (by rw [gb62]; exact (((((((((((((V7.ext E8).other W10 ne_b1_b8).other W12 ne_b1_b8).other W14 ne_b1_b8).other W16 ne_b1_b8).other W18 ne_b1_b8).other W20 ne_b1_b8).ext E22).other W23 ne_b1_b22).other W25 ne_b1_b22).other W27 ne_b1_b22).other W29 ne_b1_b22).other W31 ne_b1_b22).lt)
      have ne_b8_b62 : b8 ≠ b62 := Nat.ne_of_lt (by rw [gb62]; exact ((((((V20.ext E22).other W23 ne_b8_b22).other W25 ne_b8_b22).other W27 ne_b8_b22).other W29 ne_b8_b22).other W31 ne_b8_b22).lt)
      have ne_b22_b62 : b22 ≠ b62 := Nat.ne_of_lt (by rw [gb62]; exact V31.lt)
      have Vb62 : Arv Z h62 b62 kc_b62 .byte (4 : Int32) [(.int (0 : Int32)), (.int (0 : Int32)), (.int (0 : Int32)), (.int (0 : Int32))] (.int (0 : Int32)) := Vb62.pad (pad_rep [] (.int (0 : Int32)) 4)
      refine W.dup C at_208 rfl rfl ?_
      refine W.iconst C (x := (0 : Int32)) at_209 rfl rfl ?_
      refine W.iload C at_210 rfl rfl ?_
      refine W.bastore C Vb62 (by decide) (by decide) (show 0 < 4 from by decide) g0_b62 at_212 rfl ?_
      intro h63 W63 V63
      have V63 : Arv Z h63 b62 kc_b62 .byte (4 : Int32) [(.int (nar .byte ff)), (.int (0 : Int32)), (.int (0 : Int32)), (.int (0 : Int32))] (.int (0 : Int32)) := V63
      refine W.dup C at_213 rfl rfl ?_
      refine W.iconst C (x := (1 : Int32)) at_214 rfl rfl ?_
      refine W.iload C at_215 rfl rfl ?_
      refine W.bastore C V63 (by decide) (by decide) (show 1 < 4 from by decide) g0_b62 at_217 rfl ?_
      intro h64 W64 V64
      have V64 : Arv Z h64 b62 kc_b62 .byte (4 : Int32) [(.int (nar .byte ff)), (.int (nar .byte ff)), (.int (0 : Int32)), (.int (0 : Int32))] (.int (0 : Int32)) := V64
      refine W.dup C at_218 rfl rfl ?_
      refine W.iconst C (x := (2 : Int32)) at_219 rfl rfl ?_
      refine W.iload C at_220 rfl rfl ?_
      refine W.bastore C V64 (by decide) (by decide) (show 2 < 4 from by decide) g0_b62 at_222 rfl ?_
      intro h65 W65 V65
      have V65 : Arv Z h65 b62 kc_b62 .byte (4 : Int32) [(.int (nar .byte ff)), (.int (nar .byte ff)), (.int (nar .byte ff)), (.int (0 : Int32))] (.int (0 : Int32)) := V65
      refine W.dup C at_223 rfl rfl ?_
      refine W.iconst C (x := (3 : Int32)) at_224 rfl rfl ?_
      refine W.iload C at_225 rfl rfl ?_
      refine W.bastore C V65 (by decide) (by decide) (show 3 < 4 from by decide) g0_b62 at_227 rfl ?_
      intro h66 W66 V66
      have V66 : Arv Z h66 b62 kc_b62 .byte (4 : Int32) [(.int (nar .byte ff)), (.int (nar .byte ff)), (.int (nar .byte ff)), (.int (nar .byte ff))] (.int (0 : Int32)) := V66
      refine W.astore C (Ls' := #[.val (.int p0), .val (.int p1), .val (.int p2), .val (.long q3), .second, .val (.int p4), .val (.int p3), .val (.ref b1), .val (.ref b8), .val (.int tt), .val (.int (3 : Int32)), .val (.ref b22), .val (.int (own_par (own_par (own_par tt p3) p3) p3)), .val (.int ff), .val (.ref b62), .unset]) at_228 rfl rfl rfl ?_
      refine W.aload C at_230 rfl rfl rfl ?_
      refine W.aload C at_232 rfl rfl rfl ?_
      refine W.iload C at_234 rfl rfl ?_
      refine W.iload C at_236 rfl rfl ?_
      refine W.aload C at_238 rfl rfl rfl ?_
      refine W.callS C (y := (⟨"com/example/borderline/borderline/TriePaths", "path", "([B[III[B)I"⟩ : MethodName)) (hw _ (List.mem_of_getElem? (i := 10) rfl)) (hw _ (List.mem_of_getElem? (i := 11) rfl)) (hw _ (List.mem_of_getElem? (i := 12) rfl)) (hw _ (List.mem_of_getElem? (i := 13) rfl)) (by decide) (fun hz => rmP3 l Z a0 hw [] b8 b1 b62 kc_b8 kc_b1 kc_b62 [(.int (nar .byte v9)), (.int (nar .byte v11)), (.int (nar .byte v13)), (.int (nar .byte v15)), (.int (nar .byte v17)), (.int (nar .byte v19))] [(.int (-1 : Int32)), (.int (0 : Int32)), (.int (0 : Int32)), (.int p3), (.int (3 : Int32)), (.int (4 : Int32))] (nar .byte ff) tt (own_par tt p3) (own_par (own_par tt p3) p3) (own_par (own_par (own_par tt p3) p3) p3) y0 y1 y2 h66 n0 hz (((((((((((V20.ext E22).other W23 ne_b8_b22).other W25 ne_b8_b22).other W27 ne_b8_b22).other W29 ne_b8_b22).other W31 ne_b8_b22).ext E62).other W63 ne_b8_b62).other W64 ne_b8_b62).other W65 ne_b8_b62).other W66 ne_b8_b62) ((((((((((((((((((V7.ext E8).other W10 ne_b1_b8).other W12 ne_b1_b8).other W14 ne_b1_b8).other W16 ne_b1_b8).other W18 ne_b1_b8).other W20 ne_b1_b8).ext E22).other W23 ne_b1_b22).other W25 ne_b1_b22).other W27 ne_b1_b22).other W29 ne_b1_b22).other W31 ne_b1_b22).ext E62).other W63 ne_b1_b62).other W64 ne_b1_b62).other W65 ne_b1_b62).other W66 ne_b1_b62) V66 ne_b8_b62 ne_b1_b62 g0_b62 ⟨e0.1, e0.2⟩ (own_pget p3 tt e0.1 e0.2) l0 d0 ⟨e1.1, e1.2⟩ (own_pget p3 (own_par tt p3) e1.1 e1.2) l1 d1 ⟨e2.1, e2.2⟩ (own_pget p3 (own_par (own_par tt p3) p3) e2.1 e2.2) l2 d2) at_240 rfl rfl pd_2 rfl (argsL := [(.ref b8), (.ref b1), (.int (own_par (own_par (own_par tt p3) p3) p3)), (.int tt), (.ref b62)]) (rest := []) rfl (W := 0) rfl (by decide) (by decide) (by decide) (by decide) (k' := 4) (n' := 21) rfl rfl ?_
      rintro h67 _ ⟨rfl, K67, V67⟩
      show W.Go p l e _ _ m _ below meth c _ _ _ _ _ _ (mkF m 243 #[.val (.int p0), .val (.int p1), .val (.int p2), .val (.long q3), .second, .val (.int p4), .val (.int p3), .val (.ref b1), .val (.ref b8), .val (.int tt), .val (.int (3 : Int32)), .val (.ref b22), .val (.int (own_par (own_par (own_par tt p3) p3) p3)), .val (.int ff), .val (.ref b62), .unset] [(.int (3 : Int32))])
      refine W.istore C (Ls' := #[.val (.int p0), .val (.int p1), .val (.int p2), .val (.long q3), .second, .val (.int p4), .val (.int p3), .val (.ref b1), .val (.ref b8), .val (.int tt), .val (.int (3 : Int32)), .val (.ref b22), .val (.int (own_par (own_par (own_par tt p3) p3) p3)), .val (.int ff), .val (.ref b62), .val (.int (3 : Int32))]) at_243 rfl rfl ?_
      refine W.iload C at_245 rfl rfl ?_
      refine W.iload C at_247 rfl rfl ?_
      refine W.icmp C (pc' := 324) (pn := 252) at_249 (by decide) rfl rfl (W.q_ne (3 : Int32) (3 : Int32)) (fun hc249 => ?_) (fun hc249 => ?_)
      · exact absurd rfl hc249
      refine W.aload C at_252 rfl rfl rfl ?_
      refine W.iconst C (x := (0 : Int32)) at_254 rfl rfl ?_
      refine W.iload C at_255 rfl rfl ?_
      refine W.aload C at_257 rfl rfl rfl ?_
      refine W.aload C at_259 rfl rfl rfl ?_
      refine W.iload C at_261 rfl rfl ?_
      refine W.callS C (y := (⟨"com/example/borderline/borderline/TriePathsPathPinLaw", "cell", "([BII[I[BB)Z"⟩ : MethodName)) (hw _ (List.mem_of_getElem? (i := 14) rfl)) (hw _ (List.mem_of_getElem? (i := 15) rfl)) (hw _ (List.mem_of_getElem? (i := 5) rfl)) (hw _ (List.mem_of_getElem? (i := 16) rfl)) (by decide) (fun hz => rmCi l Z a0 hw [] b62 (0 : Int32) (3 : Int32) b22 b8 ff kc_b62 kc_b22 kc_b8 [(.int (nar .byte y2)), (.int (nar .byte y1)), (.int (nar .byte y0)), (.int (nar .byte ff))] [(.int tt), (.int (own_par tt p3)), (.int (own_par (own_par tt p3) p3)), (.int (own_par (own_par (own_par tt p3) p3) p3)), (.int (own_par (own_par (own_par (own_par tt p3) p3) p3) p3))] [(.int (nar .byte v9)), (.int (nar .byte v11)), (.int (nar .byte v13)), (.int (nar .byte v15)), (.int (nar .byte v17)), (.int (nar .byte v19))] (nar .byte y2) (own_par (own_par tt p3) p3) y2 h67 n0 hz V67 (by decide) (by decide) rfl ((((((V31.ext E62).other W63 ne_b22_b62).other W64 ne_b22_b62).other W65 ne_b22_b62).other W66 ne_b22_b62).keep K67 (ninS ne_b22_b62 nin0)) ((((((((((((V20.ext E22).other W23 ne_b8_b22).other W25 ne_b8_b22).other W27 ne_b8_b22).other W29 ne_b8_b22).other W31 ne_b8_b22).ext E62).other W63 ne_b8_b62).other W64 ne_b8_b62).other W65 ne_b8_b62).other W66 ne_b8_b62).keep K67 (ninS ne_b8_b62 nin0)) (by decide) (by decide) rfl e2.1 e2.2 l2 m2) at_263 rfl rfl pd_3 rfl (argsL := [(.ref b62), (.int (0 : Int32)), (.int (3 : Int32)), (.ref b22), (.ref b8), (.int ff)]) (rest := []) rfl (W := 0) rfl (by decide) (by decide) (by decide) (by decide) (k' := 4) (n' := 21) rfl rfl ?_
      rintro h68 _ ⟨rfl, rfl⟩
      show W.Go p l e _ _ m _ below meth c _ _ _ _ _ _ (mkF m 266 #[.val (.int p0), .val (.int p1), .val (.int p2), .val (.long q3), .second, .val (.int p4), .val (.int p3), .val (.ref b1), .val (.ref b8), .val (.int tt), .val (.int (3 : Int32)), .val (.ref b22), .val (.int (own_par (own_par (own_par tt p3) p3) p3)), .val (.int ff), .val (.ref b62), .val (.int (3 : Int32))] [(.int (1 : Int32))])
      refine W.ifc C (pc' := 324) (pn := 269) at_266 (by decide) rfl rfl (W.q_eq (1 : Int32) (0 : Int32)) (fun hc266 => ?_) (fun hc266 => ?_)
      · exact absurd hc266 (by decide)
      refine W.aload C at_269 rfl rfl rfl ?_
      refine W.iconst C (x := (1 : Int32)) at_271 rfl rfl ?_
      refine W.iload C at_272 rfl rfl ?_
      refine W.aload C at_274 rfl rfl rfl ?_
      refine W.aload C at_276 rfl rfl rfl ?_
      refine W.iload C at_278 rfl rfl ?_
      refine W.callS C (y := (⟨"com/example/borderline/borderline/TriePathsPathPinLaw", "cell", "([BII[I[BB)Z"⟩ : MethodName)) (hw _ (List.mem_of_getElem? (i := 14) rfl)) (hw _ (List.mem_of_getElem? (i := 15) rfl)) (hw _ (List.mem_of_getElem? (i := 5) rfl)) (hw _ (List.mem_of_getElem? (i := 16) rfl)) (by decide) (fun hz => rmCi l Z a0 hw [] b62 (1 : Int32) (3 : Int32) b22 b8 ff kc_b62 kc_b22 kc_b8 [(.int (nar .byte y2)), (.int (nar .byte y1)), (.int (nar .byte y0)), (.int (nar .byte ff))] [(.int tt), (.int (own_par tt p3)), (.int (own_par (own_par tt p3) p3)), (.int (own_par (own_par (own_par tt p3) p3) p3)), (.int (own_par (own_par (own_par (own_par tt p3) p3) p3) p3))] [(.int (nar .byte v9)), (.int (nar .byte v11)), (.int (nar .byte v13)), (.int (nar .byte v15)), (.int (nar .byte v17)), (.int (nar .byte v19))] (nar .byte y1) (own_par tt p3) y1 h67 n0 hz V67 (by decide) (by decide) rfl ((((((V31.ext E62).other W63 ne_b22_b62).other W64 ne_b22_b62).other W65 ne_b22_b62).other W66 ne_b22_b62).keep K67 (ninS ne_b22_b62 nin0)) ((((((((((((V20.ext E22).other W23 ne_b8_b22).other W25 ne_b8_b22).other W27 ne_b8_b22).other W29 ne_b8_b22).other W31 ne_b8_b22).ext E62).other W63 ne_b8_b62).other W64 ne_b8_b62).other W65 ne_b8_b62).other W66 ne_b8_b62).keep K67 (ninS ne_b8_b62 nin0)) (by decide) (by decide) rfl e1.1 e1.2 l1 m1) at_280 rfl rfl pd_3 rfl (argsL := [(.ref b62), (.int (1 : Int32)), (.int (3 : Int32)), (.ref b22), (.ref b8), (.int ff)]) (rest := []) rfl (W := 0) rfl (by decide) (by decide) (by decide) (by decide) (k' := 4) (n' := 21) rfl rfl ?_
      rintro h69 _ ⟨rfl, rfl⟩
      show W.Go p l e _ _ m _ below meth c _ _ _ _ _ _ (mkF m 283 #[.val (.int p0), .val (.int p1), .val (.int p2), .val (.long q3), .second, .val (.int p4), .val (.int p3), .val (.ref b1), .val (.ref b8), .val (.int tt), .val (.int (3 : Int32)), .val (.ref b22), .val (.int (own_par (own_par (own_par tt p3) p3) p3)), .val (.int ff), .val (.ref b62), .val (.int (3 : Int32))] [(.int (1 : Int32))])
      refine W.ifc C (pc' := 324) (pn := 286) at_283 (by decide) rfl rfl (W.q_eq (1 : Int32) (0 : Int32)) (fun hc283 => ?_) (fun hc283 => ?_)
      · exact absurd hc283 (by decide)
      refine W.aload C at_286 rfl rfl rfl ?_
      refine W.iconst C (x := (2 : Int32)) at_288 rfl rfl ?_
      refine W.iload C at_289 rfl rfl ?_
      refine W.aload C at_291 rfl rfl rfl ?_
      refine W.aload C at_293 rfl rfl rfl ?_
      refine W.iload C at_295 rfl rfl ?_
      refine W.callS C (y := (⟨"com/example/borderline/borderline/TriePathsPathPinLaw", "cell", "([BII[I[BB)Z"⟩ : MethodName)) (hw _ (List.mem_of_getElem? (i := 14) rfl)) (hw _ (List.mem_of_getElem? (i := 15) rfl)) (hw _ (List.mem_of_getElem? (i := 5) rfl)) (hw _ (List.mem_of_getElem? (i := 16) rfl)) (by decide) (fun hz => rmCi l Z a0 hw [] b62 (2 : Int32) (3 : Int32) b22 b8 ff kc_b62 kc_b22 kc_b8 [(.int (nar .byte y2)), (.int (nar .byte y1)), (.int (nar .byte y0)), (.int (nar .byte ff))] [(.int tt), (.int (own_par tt p3)), (.int (own_par (own_par tt p3) p3)), (.int (own_par (own_par (own_par tt p3) p3) p3)), (.int (own_par (own_par (own_par (own_par tt p3) p3) p3) p3))] [(.int (nar .byte v9)), (.int (nar .byte v11)), (.int (nar .byte v13)), (.int (nar .byte v15)), (.int (nar .byte v17)), (.int (nar .byte v19))] (nar .byte y0) tt y0 h67 n0 hz V67 (by decide) (by decide) rfl ((((((V31.ext E62).other W63 ne_b22_b62).other W64 ne_b22_b62).other W65 ne_b22_b62).other W66 ne_b22_b62).keep K67 (ninS ne_b22_b62 nin0)) ((((((((((((V20.ext E22).other W23 ne_b8_b22).other W25 ne_b8_b22).other W27 ne_b8_b22).other W29 ne_b8_b22).other W31 ne_b8_b22).ext E62).other W63 ne_b8_b62).other W64 ne_b8_b62).other W65 ne_b8_b62).other W66 ne_b8_b62).keep K67 (ninS ne_b8_b62 nin0)) (by decide) (by decide) rfl e0.1 e0.2 l0 m0) at_297 rfl rfl pd_3 rfl (argsL := [(.ref b62), (.int (2 : Int32)), (.int (3 : Int32)), (.ref b22), (.ref b8), (.int ff)]) (rest := []) rfl (W := 0) rfl (by decide) (by decide) (by decide) (by decide) (k' := 4) (n' := 21) rfl rfl ?_
      rintro h70 _ ⟨rfl, rfl⟩
      show W.Go p l e _ _ m _ below meth c _ _ _ _ _ _ (mkF m 300 #[.val (.int p0), .val (.int p1), .val (.int p2), .val (.long q3), .second, .val (.int p4), .val (.int p3), .val (.ref b1), .val (.ref b8), .val (.int tt), .val (.int (3 : Int32)), .val (.ref b22), .val (.int (own_par (own_par (own_par tt p3) p3) p3)), .val (.int ff), .val (.ref b62), .val (.int (3 : Int32))] [(.int (1 : Int32))])
      refine W.ifc C (pc' := 324) (pn := 303) at_300 (by decide) rfl rfl (W.q_eq (1 : Int32) (0 : Int32)) (fun hc300 => ?_) (fun hc300 => ?_)
      · exact absurd hc300 (by decide)
      refine W.aload C at_303 rfl rfl rfl ?_
      refine W.iconst C (x := (3 : Int32)) at_305 rfl rfl ?_
      refine W.iload C at_306 rfl rfl ?_
      refine W.aload C at_308 rfl rfl rfl ?_
      refine W.aload C at_310 rfl rfl rfl ?_
      refine W.iload C at_312 rfl rfl ?_
      refine W.callS C (y := (⟨"com/example/borderline/borderline/TriePathsPathPinLaw", "cell", "([BII[I[BB)Z"⟩ : MethodName)) (hw _ (List.mem_of_getElem? (i := 14) rfl)) (hw _ (List.mem_of_getElem? (i := 15) rfl)) (hw _ (List.mem_of_getElem? (i := 5) rfl)) (hw _ (List.mem_of_getElem? (i := 16) rfl)) (by decide) (fun hz => rmCo l Z a0 hw [] b62 (3 : Int32) (3 : Int32) b22 b8 ff kc_b62 kc_b22 kc_b8 [(.int (nar .byte y2)), (.int (nar .byte y1)), (.int (nar .byte y0)), (.int (nar .byte ff))] [(.int tt), (.int (own_par tt p3)), (.int (own_par (own_par tt p3) p3)), (.int (own_par (own_par (own_par tt p3) p3) p3)), (.int (own_par (own_par (own_par (own_par tt p3) p3) p3) p3))] [(.int (nar .byte v9)), (.int (nar .byte v11)), (.int (nar .byte v13)), (.int (nar .byte v15)), (.int (nar .byte v17)), (.int (nar .byte v19))] (nar .byte ff) 0 0 h67 n0 hz V67 (by decide) (by decide) rfl (by decide) hff) at_314 rfl rfl pd_3 rfl (argsL := [(.ref b62), (.int (3 : Int32)), (.int (3 : Int32)), (.ref b22), (.ref b8), (.int ff)]) (rest := []) rfl (W := 0) rfl (by decide) (by decide) (by decide) (by decide) (k' := 4) (n' := 21) rfl rfl ?_
      rintro h71 _ ⟨rfl, rfl⟩
      show W.Go p l e _ _ m _ below meth c _ _ _ _ _ _ (mkF m 317 #[.val (.int p0), .val (.int p1), .val (.int p2), .val (.long q3), .second, .val (.int p4), .val (.int p3), .val (.ref b1), .val (.ref b8), .val (.int tt), .val (.int (3 : Int32)), .val (.ref b22), .val (.int (own_par (own_par (own_par tt p3) p3) p3)), .val (.int ff), .val (.ref b62), .val (.int (3 : Int32))] [(.int (1 : Int32))])
      refine W.ifc C (pc' := 324) (pn := 320) at_317 (by decide) rfl rfl (W.q_eq (1 : Int32) (0 : Int32)) (fun hc317 => ?_) (fun hc317 => ?_)
      · exact absurd hc317 (by decide)
      refine W.iconst C (x := (1 : Int32)) at_320 rfl rfl ?_
      refine W.goto C (pc' := 325) at_321 (by decide) rfl ?_
      refine W.retZ C (w := (1 : Int32)) (by simp) at_325 (by decide) (by decide) (by decide) (fun _ _ _ _ q => q) ?_
      rfl
    · simp only [Int32.reduceToInt] at rk
      have ch := own_ch4 tt p3 hp3 rt.1 rt.2 rk.2
      have e0 := ch.1
      have d0 := ch.2.1
      obtain ⟨y0, l0, m0⟩ := own_lget v9 v11 v13 v15 v17 v19 tt e0.1 e0.2
      have e1 := ch.2.2.1
      have d1 := ch.2.2.2.1
      obtain ⟨y1, l1, m1⟩ := own_lget v9 v11 v13 v15 v17 v19 (own_par tt p3) e1.1 e1.2
      have e2 := ch.2.2.2.2.1
      have d2 := ch.2.2.2.2.2.1
      obtain ⟨y2, l2, m2⟩ := own_lget v9 v11 v13 v15 v17 v19 (own_par (own_par tt p3) p3) e2.1 e2.2
      have e3 := ch.2.2.2.2.2.2.1
      have d3 := ch.2.2.2.2.2.2.2
      obtain ⟨y3, l3, m3⟩ := own_lget v9 v11 v13 v15 v17 v19 (own_par (own_par (own_par tt p3) p3) p3) e3.1 e3.2
      refine W.aload C at_193 rfl rfl rfl ?_
      refine W.iload C at_195 rfl rfl ?_
      refine W.iaload C (v := (.int (own_par (own_par (own_par (own_par tt p3) p3) p3) p3))) V31 (by decide) (by decide) rfl at_197 rfl ?_
      refine W.istore C (Ls' := #[.val (.int p0), .val (.int p1), .val (.int p2), .val (.long q3), .second, .val (.int p4), .val (.int p3), .val (.ref b1), .val (.ref b8), .val (.int tt), .val (.int (4 : Int32)), .val (.ref b22), .val (.int (own_par (own_par (own_par (own_par tt p3) p3) p3) p3)), .unset, .unset, .unset]) at_198 rfl rfl ?_
      refine W.iload C at_200 rfl rfl ?_
      refine W.i2b C (z := ((p4).toInt8.toInt32)) at_202 rfl rfl ?_
      obtain ⟨ff, hffe⟩ : ∃ z, z = ((p4).toInt8.toInt32) := ⟨_, rfl⟩
      rw [← hffe]
      have hff : nar .byte ff = ff := by rw [hffe]; exact own_narb p4
      refine W.istore C (Ls' := #[.val (.int p0), .val (.int p1), .val (.int p2), .val (.long q3), .second, .val (.int p4), .val (.int p3), .val (.ref b1), .val (.ref b8), .val (.int tt), .val (.int (4 : Int32)), .val (.ref b22), .val (.int (own_par (own_par (own_par (own_par tt p3) p3) p3) p3)), .val (.int ff), .unset, .unset]) at_203 rfl rfl ?_
      refine W.iconst C (x := (4 : Int32)) at_205 rfl rfl ?_
      refine W.newarray C (cap := 4) (hw _ (List.mem_of_getElem? (i := 1) rfl)) at_206 rfl (by decide) (by decide) (by decide) (by decide) (by decide) (k' := 4) (n' := 21) rfl rfl ?_
      intro h72 b72 kc_b72 gb72 g0_b72 E72 Vb72
      have ne_b1_b72 : b1 ≠ b72 := Nat.ne_of_lt (by rw [gb72]; exact (((((((((((((V7.ext E8).other W10 ne_b1_b8).other W12 ne_b1_b8).other W14 ne_b1_b8).other W16 ne_b1_b8).other W18 ne_b1_b8).other W20 ne_b1_b8).ext E22).other W23 ne_b1_b22).other W25 ne_b1_b22).other W27 ne_b1_b22).other W29 ne_b1_b22).other W31 ne_b1_b22).lt)
      have ne_b8_b72 : b8 ≠ b72 := Nat.ne_of_lt (by rw [gb72]; exact ((((((V20.ext E22).other W23 ne_b8_b22).other W25 ne_b8_b22).other W27 ne_b8_b22).other W29 ne_b8_b22).other W31 ne_b8_b22).lt)
      have ne_b22_b72 : b22 ≠ b72 := Nat.ne_of_lt (by rw [gb72]; exact V31.lt)
      have Vb72 : Arv Z h72 b72 kc_b72 .byte (4 : Int32) [(.int (0 : Int32)), (.int (0 : Int32)), (.int (0 : Int32)), (.int (0 : Int32))] (.int (0 : Int32)) := Vb72.pad (pad_rep [] (.int (0 : Int32)) 4)
      refine W.dup C at_208 rfl rfl ?_
      refine W.iconst C (x := (0 : Int32)) at_209 rfl rfl ?_
      refine W.iload C at_210 rfl rfl ?_
      refine W.bastore C Vb72 (by decide) (by decide) (show 0 < 4 from by decide) g0_b72 at_212 rfl ?_
      intro h73 W73 V73
      have V73 : Arv Z h73 b72 kc_b72 .byte (4 : Int32) [(.int (nar .byte ff)), (.int (0 : Int32)), (.int (0 : Int32)), (.int (0 : Int32))] (.int (0 : Int32)) := V73
      refine W.dup C at_213 rfl rfl ?_
      refine W.iconst C (x := (1 : Int32)) at_214 rfl rfl ?_
      refine W.iload C at_215 rfl rfl ?_
      refine W.bastore C V73 (by decide) (by decide) (show 1 < 4 from by decide) g0_b72 at_217 rfl ?_
      intro h74 W74 V74
      have V74 : Arv Z h74 b72 kc_b72 .byte (4 : Int32) [(.int (nar .byte ff)), (.int (nar .byte ff)), (.int (0 : Int32)), (.int (0 : Int32))] (.int (0 : Int32)) := V74
      refine W.dup C at_218 rfl rfl ?_
      refine W.iconst C (x := (2 : Int32)) at_219 rfl rfl ?_
      refine W.iload C at_220 rfl rfl ?_
      refine W.bastore C V74 (by decide) (by decide) (show 2 < 4 from by decide) g0_b72 at_222 rfl ?_
      intro h75 W75 V75
      have V75 : Arv Z h75 b72 kc_b72 .byte (4 : Int32) [(.int (nar .byte ff)), (.int (nar .byte ff)), (.int (nar .byte ff)), (.int (0 : Int32))] (.int (0 : Int32)) := V75
      refine W.dup C at_223 rfl rfl ?_
      refine W.iconst C (x := (3 : Int32)) at_224 rfl rfl ?_
      refine W.iload C at_225 rfl rfl ?_
      refine W.bastore C V75 (by decide) (by decide) (show 3 < 4 from by decide) g0_b72 at_227 rfl ?_
      intro h76 W76 V76
      have V76 : Arv Z h76 b72 kc_b72 .byte (4 : Int32) [(.int (nar .byte ff)), (.int (nar .byte ff)), (.int (nar .byte ff)), (.int (nar .byte ff))] (.int (0 : Int32)) := V76
      refine W.astore C (Ls' := #[.val (.int p0), .val (.int p1), .val (.int p2), .val (.long q3), .second, .val (.int p4), .val (.int p3), .val (.ref b1), .val (.ref b8), .val (.int tt), .val (.int (4 : Int32)), .val (.ref b22), .val (.int (own_par (own_par (own_par (own_par tt p3) p3) p3) p3)), .val (.int ff), .val (.ref b72), .unset]) at_228 rfl rfl rfl ?_
      refine W.aload C at_230 rfl rfl rfl ?_
      refine W.aload C at_232 rfl rfl rfl ?_
      refine W.iload C at_234 rfl rfl ?_
      refine W.iload C at_236 rfl rfl ?_
      refine W.aload C at_238 rfl rfl rfl ?_
      refine W.callS C (y := (⟨"com/example/borderline/borderline/TriePaths", "path", "([B[III[B)I"⟩ : MethodName)) (hw _ (List.mem_of_getElem? (i := 10) rfl)) (hw _ (List.mem_of_getElem? (i := 11) rfl)) (hw _ (List.mem_of_getElem? (i := 12) rfl)) (hw _ (List.mem_of_getElem? (i := 13) rfl)) (by decide) (fun hz => rmP4 l Z a0 hw [] b8 b1 b72 kc_b8 kc_b1 kc_b72 [(.int (nar .byte v9)), (.int (nar .byte v11)), (.int (nar .byte v13)), (.int (nar .byte v15)), (.int (nar .byte v17)), (.int (nar .byte v19))] [(.int (-1 : Int32)), (.int (0 : Int32)), (.int (0 : Int32)), (.int p3), (.int (3 : Int32)), (.int (4 : Int32))] (nar .byte ff) tt (own_par tt p3) (own_par (own_par tt p3) p3) (own_par (own_par (own_par tt p3) p3) p3) (own_par (own_par (own_par (own_par tt p3) p3) p3) p3) y0 y1 y2 y3 h76 n0 hz (((((((((((V20.ext E22).other W23 ne_b8_b22).other W25 ne_b8_b22).other W27 ne_b8_b22).other W29 ne_b8_b22).other W31 ne_b8_b22).ext E72).other W73 ne_b8_b72).other W74 ne_b8_b72).other W75 ne_b8_b72).other W76 ne_b8_b72) ((((((((((((((((((V7.ext E8).other W10 ne_b1_b8).other W12 ne_b1_b8).other W14 ne_b1_b8).other W16 ne_b1_b8).other W18 ne_b1_b8).other W20 ne_b1_b8).ext E22).other W23 ne_b1_b22).other W25 ne_b1_b22).other W27 ne_b1_b22).other W29 ne_b1_b22).other W31 ne_b1_b22).ext E72).other W73 ne_b1_b72).other W74 ne_b1_b72).other W75 ne_b1_b72).other W76 ne_b1_b72) V76 ne_b8_b72 ne_b1_b72 g0_b72 ⟨e0.1, e0.2⟩ (own_pget p3 tt e0.1 e0.2) l0 d0 ⟨e1.1, e1.2⟩ (own_pget p3 (own_par tt p3) e1.1 e1.2) l1 d1 ⟨e2.1, e2.2⟩ (own_pget p3 (own_par (own_par tt p3) p3) e2.1 e2.2) l2 d2 ⟨e3.1, e3.2⟩ (own_pget p3 (own_par (own_par (own_par tt p3) p3) p3) e3.1 e3.2) l3 d3) at_240 rfl rfl pd_2 rfl (argsL := [(.ref b8), (.ref b1), (.int (own_par (own_par (own_par (own_par tt p3) p3) p3) p3)), (.int tt), (.ref b72)]) (rest := []) rfl (W := 0) rfl (by decide) (by decide) (by decide) (by decide) (k' := 4) (n' := 21) rfl rfl ?_
      rintro h77 _ ⟨rfl, K77, V77⟩
      show W.Go p l e _ _ m _ below meth c _ _ _ _ _ _ (mkF m 243 #[.val (.int p0), .val (.int p1), .val (.int p2), .val (.long q3), .second, .val (.int p4), .val (.int p3), .val (.ref b1), .val (.ref b8), .val (.int tt), .val (.int (4 : Int32)), .val (.ref b22), .val (.int (own_par (own_par (own_par (own_par tt p3) p3) p3) p3)), .val (.int ff), .val (.ref b72), .unset] [(.int (4 : Int32))])
      refine W.istore C (Ls' := #[.val (.int p0), .val (.int p1), .val (.int p2), .val (.long q3), .second, .val (.int p4), .val (.int p3), .val (.ref b1), .val (.ref b8), .val (.int tt), .val (.int (4 : Int32)), .val (.ref b22), .val (.int (own_par (own_par (own_par (own_par tt p3) p3) p3) p3)), .val (.int ff), .val (.ref b72), .val (.int (4 : Int32))]) at_243 rfl rfl ?_
      refine W.iload C at_245 rfl rfl ?_
      refine W.iload C at_247 rfl rfl ?_
      refine W.icmp C (pc' := 324) (pn := 252) at_249 (by decide) rfl rfl (W.q_ne (4 : Int32) (4 : Int32)) (fun hc249 => ?_) (fun hc249 => ?_)
      · exact absurd rfl hc249
      refine W.aload C at_252 rfl rfl rfl ?_
      refine W.iconst C (x := (0 : Int32)) at_254 rfl rfl ?_
      refine W.iload C at_255 rfl rfl ?_
      refine W.aload C at_257 rfl rfl rfl ?_
      refine W.aload C at_259 rfl rfl rfl ?_
      refine W.iload C at_261 rfl rfl ?_
      refine W.callS C (y := (⟨"com/example/borderline/borderline/TriePathsPathPinLaw", "cell", "([BII[I[BB)Z"⟩ : MethodName)) (hw _ (List.mem_of_getElem? (i := 14) rfl)) (hw _ (List.mem_of_getElem? (i := 15) rfl)) (hw _ (List.mem_of_getElem? (i := 5) rfl)) (hw _ (List.mem_of_getElem? (i := 16) rfl)) (by decide) (fun hz => rmCi l Z a0 hw [] b72 (0 : Int32) (4 : Int32) b22 b8 ff kc_b72 kc_b22 kc_b8 [(.int (nar .byte y3)), (.int (nar .byte y2)), (.int (nar .byte y1)), (.int (nar .byte y0))] [(.int tt), (.int (own_par tt p3)), (.int (own_par (own_par tt p3) p3)), (.int (own_par (own_par (own_par tt p3) p3) p3)), (.int (own_par (own_par (own_par (own_par tt p3) p3) p3) p3))] [(.int (nar .byte v9)), (.int (nar .byte v11)), (.int (nar .byte v13)), (.int (nar .byte v15)), (.int (nar .byte v17)), (.int (nar .byte v19))] (nar .byte y3) (own_par (own_par (own_par tt p3) p3) p3) y3 h77 n0 hz V77 (by decide) (by decide) rfl ((((((V31.ext E72).other W73 ne_b22_b72).other W74 ne_b22_b72).other W75 ne_b22_b72).other W76 ne_b22_b72).keep K77 (ninS ne_b22_b72 nin0)) ((((((((((((V20.ext E22).other W23 ne_b8_b22).other W25 ne_b8_b22).other W27 ne_b8_b22).other W29 ne_b8_b22).other W31 ne_b8_b22).ext E72).other W73 ne_b8_b72).other W74 ne_b8_b72).other W75 ne_b8_b72).other W76 ne_b8_b72).keep K77 (ninS ne_b8_b72 nin0)) (by decide) (by decide) rfl e3.1 e3.2 l3 m3) at_263 rfl rfl pd_3 rfl (argsL := [(.ref b72), (.int (0 : Int32)), (.int (4 : Int32)), (.ref b22), (.ref b8), (.int ff)]) (rest := []) rfl (W := 0) rfl (by decide) (by decide) (by decide) (by decide) (k' := 4) (n' := 21) rfl rfl ?_
      rintro h78 _ ⟨rfl, rfl⟩
      show W.Go p l e _ _ m _ below meth c _ _ _ _ _ _ (mkF m 266 #[.val (.int p0), .val (.int p1), .val (.int p2), .val (.long q3), .second, .val (.int p4), .val (.int p3), .val (.ref b1), .val (.ref b8), .val (.int tt), .val (.int (4 : Int32)), .val (.ref b22), .val (.int (own_par (own_par (own_par (own_par tt p3) p3) p3) p3)), .val (.int ff), .val (.ref b72), .val (.int (4 : Int32))] [(.int (1 : Int32))])
      refine W.ifc C (pc' := 324) (pn := 269) at_266 (by decide) rfl rfl (W.q_eq (1 : Int32) (0 : Int32)) (fun hc266 => ?_) (fun hc266 => ?_)
      · exact absurd hc266 (by decide)
      refine W.aload C at_269 rfl rfl rfl ?_
      refine W.iconst C (x := (1 : Int32)) at_271 rfl rfl ?_
      refine W.iload C at_272 rfl rfl ?_
      refine W.aload C at_274 rfl rfl rfl ?_
      refine W.aload C at_276 rfl rfl rfl ?_
      refine W.iload C at_278 rfl rfl ?_
      refine W.callS C (y := (⟨"com/example/borderline/borderline/TriePathsPathPinLaw", "cell", "([BII[I[BB)Z"⟩ : MethodName)) (hw _ (List.mem_of_getElem? (i := 14) rfl)) (hw _ (List.mem_of_getElem? (i := 15) rfl)) (hw _ (List.mem_of_getElem? (i := 5) rfl)) (hw _ (List.mem_of_getElem? (i := 16) rfl)) (by decide) (fun hz => rmCi l Z a0 hw [] b72 (1 : Int32) (4 : Int32) b22 b8 ff kc_b72 kc_b22 kc_b8 [(.int (nar .byte y3)), (.int (nar .byte y2)), (.int (nar .byte y1)), (.int (nar .byte y0))] [(.int tt), (.int (own_par tt p3)), (.int (own_par (own_par tt p3) p3)), (.int (own_par (own_par (own_par tt p3) p3) p3)), (.int (own_par (own_par (own_par (own_par tt p3) p3) p3) p3))] [(.int (nar .byte v9)), (.int (nar .byte v11)), (.int (nar .byte v13)), (.int (nar .byte v15)), (.int (nar .byte v17)), (.int (nar .byte v19))] (nar .byte y2) (own_par (own_par tt p3) p3) y2 h77 n0 hz V77 (by decide) (by decide) rfl ((((((V31.ext E72).other W73 ne_b22_b72).other W74 ne_b22_b72).other W75 ne_b22_b72).other W76 ne_b22_b72).keep K77 (ninS ne_b22_b72 nin0)) ((((((((((((V20.ext E22).other W23 ne_b8_b22).other W25 ne_b8_b22).other W27 ne_b8_b22).other W29 ne_b8_b22).other W31 ne_b8_b22).ext E72).other W73 ne_b8_b72).other W74 ne_b8_b72).other W75 ne_b8_b72).other W76 ne_b8_b72).keep K77 (ninS ne_b8_b72 nin0)) (by decide) (by decide) rfl e2.1 e2.2 l2 m2) at_280 rfl rfl pd_3 rfl (argsL := [(.ref b72), (.int (1 : Int32)), (.int (4 : Int32)), (.ref b22), (.ref b8), (.int ff)]) (rest := []) rfl (W := 0) rfl (by decide) (by decide) (by decide) (by decide) (k' := 4) (n' := 21) rfl rfl ?_
      rintro h79 _ ⟨rfl, rfl⟩
      show W.Go p l e _ _ m _ below meth c _ _ _ _ _ _ (mkF m 283 #[.val (.int p0), .val (.int p1), .val (.int p2), .val (.long q3), .second, .val (.int p4), .val (.int p3), .val (.ref b1), .val (.ref b8), .val (.int tt), .val (.int (4 : Int32)), .val (.ref b22), .val (.int (own_par (own_par (own_par (own_par tt p3) p3) p3) p3)), .val (.int ff), .val (.ref b72), .val (.int (4 : Int32))] [(.int (1 : Int32))])
      refine W.ifc C (pc' := 324) (pn := 286) at_283 (by decide) rfl rfl (W.q_eq (1 : Int32) (0 : Int32)) (fun hc283 => ?_) (fun hc283 => ?_)
      · exact absurd hc283 (by decide)
      refine W.aload C at_286 rfl rfl rfl ?_
      refine W.iconst C (x := (2 : Int32)) at_288 rfl rfl ?_
      refine W.iload C at_289 rfl rfl ?_
      refine W.aload C at_291 rfl rfl rfl ?_
      refine W.aload C at_293 rfl rfl rfl ?_
      refine W.iload C at_295 rfl rfl ?_
      refine W.callS C (y := (⟨"com/example/borderline/borderline/TriePathsPathPinLaw", "cell", "([BII[I[BB)Z"⟩ : MethodName)) (hw _ (List.mem_of_getElem? (i := 14) rfl)) (hw _ (List.mem_of_getElem? (i := 15) rfl)) (hw _ (List.mem_of_getElem? (i := 5) rfl)) (hw _ (List.mem_of_getElem? (i := 16) rfl)) (by decide) (fun hz => rmCi l Z a0 hw [] b72 (2 : Int32) (4 : Int32) b22 b8 ff kc_b72 kc_b22 kc_b8 [(.int (nar .byte y3)), (.int (nar .byte y2)), (.int (nar .byte y1)), (.int (nar .byte y0))] [(.int tt), (.int (own_par tt p3)), (.int (own_par (own_par tt p3) p3)), (.int (own_par (own_par (own_par tt p3) p3) p3)), (.int (own_par (own_par (own_par (own_par tt p3) p3) p3) p3))] [(.int (nar .byte v9)), (.int (nar .byte v11)), (.int (nar .byte v13)), (.int (nar .byte v15)), (.int (nar .byte v17)), (.int (nar .byte v19))] (nar .byte y1) (own_par tt p3) y1 h77 n0 hz V77 (by decide) (by decide) rfl ((((((V31.ext E72).other W73 ne_b22_b72).other W74 ne_b22_b72).other W75 ne_b22_b72).other W76 ne_b22_b72).keep K77 (ninS ne_b22_b72 nin0)) ((((((((((((V20.ext E22).other W23 ne_b8_b22).other W25 ne_b8_b22).other W27 ne_b8_b22).other W29 ne_b8_b22).other W31 ne_b8_b22).ext E72).other W73 ne_b8_b72).other W74 ne_b8_b72).other W75 ne_b8_b72).other W76 ne_b8_b72).keep K77 (ninS ne_b8_b72 nin0)) (by decide) (by decide) rfl e1.1 e1.2 l1 m1) at_297 rfl rfl pd_3 rfl (argsL := [(.ref b72), (.int (2 : Int32)), (.int (4 : Int32)), (.ref b22), (.ref b8), (.int ff)]) (rest := []) rfl (W := 0) rfl (by decide) (by decide) (by decide) (by decide) (k' := 4) (n' := 21) rfl rfl ?_
      rintro h80 _ ⟨rfl, rfl⟩
      show W.Go p l e _ _ m _ below meth c _ _ _ _ _ _ (mkF m 300 #[.val (.int p0), .val (.int p1), .val (.int p2), .val (.long q3), .second, .val (.int p4), .val (.int p3), .val (.ref b1), .val (.ref b8), .val (.int tt), .val (.int (4 : Int32)), .val (.ref b22), .val (.int (own_par (own_par (own_par (own_par tt p3) p3) p3) p3)), .val (.int ff), .val (.ref b72), .val (.int (4 : Int32))] [(.int (1 : Int32))])
      refine W.ifc C (pc' := 324) (pn := 303) at_300 (by decide) rfl rfl (W.q_eq (1 : Int32) (0 : Int32)) (fun hc300 => ?_) (fun hc300 => ?_)
      · exact absurd hc300 (by decide)
      refine W.aload C at_303 rfl rfl rfl ?_
      refine W.iconst C (x := (3 : Int32)) at_305 rfl rfl ?_
      refine W.iload C at_306 rfl rfl ?_
      refine W.aload C at_308 rfl rfl rfl ?_
      refine W.aload C at_310 rfl rfl rfl ?_
      refine W.iload C at_312 rfl rfl ?_
      refine W.callS C (y := (⟨"com/example/borderline/borderline/TriePathsPathPinLaw", "cell", "([BII[I[BB)Z"⟩ : MethodName)) (hw _ (List.mem_of_getElem? (i := 14) rfl)) (hw _ (List.mem_of_getElem? (i := 15) rfl)) (hw _ (List.mem_of_getElem? (i := 5) rfl)) (hw _ (List.mem_of_getElem? (i := 16) rfl)) (by decide) (fun hz => rmCi l Z a0 hw [] b72 (3 : Int32) (4 : Int32) b22 b8 ff kc_b72 kc_b22 kc_b8 [(.int (nar .byte y3)), (.int (nar .byte y2)), (.int (nar .byte y1)), (.int (nar .byte y0))] [(.int tt), (.int (own_par tt p3)), (.int (own_par (own_par tt p3) p3)), (.int (own_par (own_par (own_par tt p3) p3) p3)), (.int (own_par (own_par (own_par (own_par tt p3) p3) p3) p3))] [(.int (nar .byte v9)), (.int (nar .byte v11)), (.int (nar .byte v13)), (.int (nar .byte v15)), (.int (nar .byte v17)), (.int (nar .byte v19))] (nar .byte y0) tt y0 h77 n0 hz V77 (by decide) (by decide) rfl ((((((V31.ext E72).other W73 ne_b22_b72).other W74 ne_b22_b72).other W75 ne_b22_b72).other W76 ne_b22_b72).keep K77 (ninS ne_b22_b72 nin0)) ((((((((((((V20.ext E22).other W23 ne_b8_b22).other W25 ne_b8_b22).other W27 ne_b8_b22).other W29 ne_b8_b22).other W31 ne_b8_b22).ext E72).other W73 ne_b8_b72).other W74 ne_b8_b72).other W75 ne_b8_b72).other W76 ne_b8_b72).keep K77 (ninS ne_b8_b72 nin0)) (by decide) (by decide) rfl e0.1 e0.2 l0 m0) at_314 rfl rfl pd_3 rfl (argsL := [(.ref b72), (.int (3 : Int32)), (.int (4 : Int32)), (.ref b22), (.ref b8), (.int ff)]) (rest := []) rfl (W := 0) rfl (by decide) (by decide) (by decide) (by decide) (k' := 4) (n' := 21) rfl rfl ?_
      rintro h81 _ ⟨rfl, rfl⟩
      show W.Go p l e _ _ m _ below meth c _ _ _ _ _ _ (mkF m 317 #[.val (.int p0), .val (.int p1), .val (.int p2), .val (.long q3), .second, .val (.int p4), .val (.int p3), .val (.ref b1), .val (.ref b8), .val (.int tt), .val (.int (4 : Int32)), .val (.ref b22), .val (.int (own_par (own_par (own_par (own_par tt p3) p3) p3) p3)), .val (.int ff), .val (.ref b72), .val (.int (4 : Int32))] [(.int (1 : Int32))])
      refine W.ifc C (pc' := 324) (pn := 320) at_317 (by decide) rfl rfl (W.q_eq (1 : Int32) (0 : Int32)) (fun hc317 => ?_) (fun hc317 => ?_)
      · exact absurd hc317 (by decide)
      refine W.iconst C (x := (1 : Int32)) at_320 rfl rfl ?_
      refine W.goto C (pc' := 325) at_321 (by decide) rfl ?_
      refine W.retZ C (w := (1 : Int32)) (by simp) at_325 (by decide) (by decide) (by decide) (fun _ _ _ _ q => q) ?_
      rfl
  refine W.iloadN C at_0 rfl rfl ?_
  refine W.iconst C (x := (1 : Int32)) at_1 rfl rfl ?_
  refine W.iand C (z := (p2 &&& (1 : Int32))) at_2 rfl rfl ?_
  refine W.ifc C (pc' := 10) (pn := 6) at_3 (by decide) rfl rfl (W.q_eq (p2 &&& (1 : Int32)) (0 : Int32)) (fun hc3 => ?_) (fun hc3 => ?_)
  · refine W.iconst C (x := (1 : Int32)) at_10 rfl rfl ?_
    exact J11 (1 : Int32) (by decide)
  · refine W.iconst C (x := (2 : Int32)) at_6 rfl rfl ?_
    refine W.goto C (pc' := 11) at_7 (by decide) rfl ?_
    exact J11 (2 : Int32) (by decide)
set_option maxRecDepth 65536 in
set_option maxHeartbeats 40000000 in
theorem comes_1 {Post : Tables → Env → Array Value → State → Outcome → State → Prop} (hpost : ∀ tb e args s v u, (limb_1_1.after args s (.returned v) u = true ∧ limb_1_2.after args s (.returned v) u = true ∧ True) → FrameEnd s (.returned v) u (Jvm.fieldLocs frame_1_writes args s ++ Jvm.arrayLocs frame_1_arrays args s ++ Jvm.staticLocs frame_1_statics s) 16 128 → Post tb e args s (.returned v) u) :
    ArmFor flags0 classFile x code maxLocals ret World_1 tables_1 room_1 Calls_1 rest_1 Pre_1 Post := by
  intro l hfl _ _ p e ha hc hk s m args below hf hA hF happ hP
  obtain ⟨hcalls, hrest, hpre⟩ := hP
  obtain ⟨-, -, -, hnamed, -, -, -, hat⟩ := (Spec.applies_iff hf).mp happ
  obtain ⟨hg, hn⟩ := and_e (Cond.before_iff.mp (show (Jvm.Cond.and given_1 narrow_1).before args s = true from hpre))
  obtain ⟨gv1, gv2⟩ := and_e hg
  obtain ⟨gv3, gv4⟩ := and_e gv2
  obtain ⟨gv5, gv6⟩ := and_e gv4
  obtain ⟨gv7, gv8⟩ := and_e gv6
  obtain ⟨gv9, gv10⟩ := and_e gv8
  obtain ⟨w0, w1, w2, w3, w4, rfl⟩ : ∃ w0 w1 w2 w3 w4 : Value, args = #[w0, w1, w2, w3, w4] := by
    have hs : args.size = 5 := by simpa [Cond.value, given_1] using gv1
    obtain ⟨L⟩ := args
    match L, hs with
    | [w0, w1, w2, w3, w4], _ => exact ⟨w0, w1, w2, w3, w4, rfl⟩
  have hw := fun d (hd : d ∈ tables_1) => atoms_spec (ws := Jvm.Cond.code x code maxLocals ret :: tables_1) hat d (List.mem_cons_of_mem _ hd)
  have hfit : Fit s := fun {y c} hc i hi => by
    obtain ⟨ha, rfl⟩ := Array.getElem?_eq_some_iff.mp hc
    have q := List.all_eq_true.mp ((Array.all_eq_true_iff_forall_mem.mp hF) _ (Array.getElem_mem ha)) i (List.mem_range.mpr hi)
    simpa [Array.getElem?_eq_getElem hi] using q
  obtain ⟨i0, ei0⟩ := is_v gv3
  obtain rfl : w0 = (.int i0) := Option.some.inj ei0
  obtain ⟨i1, ei1⟩ := is_v gv5
  obtain rfl : w1 = (.int i1) := Option.some.inj ei1
  obtain ⟨i2, ei2⟩ := is_v gv7
  obtain rfl : w2 = (.int i2) := Option.some.inj ei2
  obtain ⟨i3, ei3⟩ := isL_v gv9
  obtain rfl : w3 = (.long i3) := Option.some.inj ei3
  obtain ⟨i4, ei4⟩ := is_v gv10
  obtain rfl : w4 = (.int i4) := Option.some.inj ei4
  obtain ⟨n, o, h1, h2, h3, v, L, rfl, ⟨hGv, N⟩, hq⟩ := rm0 l s _ hw tables_1 i0 i1 i2 i3 i4 s.heap s.heap.size (Nat.le_refl _)  p e ha hc hk s m _ below hf ((Spec.applies_iff_loose hf).mp happ).1 ⟨rfl, State.Warmed39.refl s, rfl⟩ trivial
  obtain rfl : v = some (.int 1) := hGv
  refine ⟨n, _, h1, h2, h3, hpost _ _ _ _ _ _ ⟨Cond.after_iff.mpr rfl, Cond.after_iff.mpr (eq_i res_at (Term.int_eval (1)) rfl), trivial⟩ ⟨hq.1, hq.2.1, (hq.2.2.sift fun y hy => Or.inr (N y hy)).mono (by decide) (by decide)⟩⟩
theorem main_1_1 : Claimed_1_1 := comes_1 fun _ _ _ _ _ _ h hF => ⟨h.1, hF⟩
theorem main_1_2 : Claimed_1_2 := comes_1 fun _ _ _ _ _ _ h hF => ⟨h.2.1, hF⟩
end Jvm.Pilot.@@N@@
namespace Jvm.Pilot.@@N@@
open Jvm Jvm.ClassFile Sem Op Lib Jvm.Free Jvm.Stand Jvm.Pilot.@@N@@.Jvm.D
/-! MADE BY PROGRAM (witnessworld.py) out of the Statement's table words and the real class files: 9 classes; the members and pool entries that the words name. The judged class is class 1, her method 4. -/
namespace start1
open Jvm.ClassFile
def u (s : String) : CpInfo := .utf8 (stringToUtf16 s)
/-- a pool by its gaps: so many unusable entries, then the entry; so many at the end -/
def gap : Nat → List CpInfo → List CpInfo
  | 0, r => r
  | n + 1, r => .unusable :: gap n r
def poolList (es : List (Nat × CpInfo)) (last : Nat) : List CpInfo := es.foldr (fun e r => gap e.1 (e.2 :: r)) (gap last [])
def pool (es : List (Nat × CpInfo)) (last : Nat) : Array CpInfo := ⟨poolList es last⟩
def fileOf (pool : Array CpInfo) (this : Nat) (attrs : Array Attribute := #[]) (ms : Array MethodInfo := #[]) (fl : Nat := 33) (sup : Nat := 0) (ifs : Array Nat := #[]) (fds : Array FieldInfo := #[]) : ClassFile where
  minorVersion := 0
  majorVersion := 65
  constantPool := pool
  accessFlags := fl
  thisClass := this
  superClass := sup
  interfaces := ifs
  fields := fds
  methods := ms
  attributes := attrs
def plain (name : String) (sup : Option ClassId) : Class where
  name := name
  kind := .ordinary
  loader := none
  accessFlags := 33
  super := sup
  interfaces := #[]
  cf := none
  fields := #[]
  methods := #[]
  instanceTypes := #[]
  staticTypes := #[]
  resolved := #[]
  callSites := []
  init := .initialized
  statics := none
  mirror := none

def pool0 : Array CpInfo := pool [(5, u "<init>"), (0, u "()V"), (1, .class_ 10), (1, u "java/lang/Object")] 113

def k0m0 : Method := { name := "<init>", desc := "()V", sig := { parameters := [], returnType := none }, accessFlags := 1, code := none }
/-- java/lang/Object -/
def k0 : Class := { plain "java/lang/Object" none with
  accessFlags := 33
  interfaces := #[]
  cf := some (fileOf pool0 8 #[] #[{ accessFlags := 1, nameIndex := 5, descriptorIndex := 6, attributes := #[] }] 33 0 #[] #[])
  fields := #[]
  methods := #[k0m0]
  instanceTypes := #[]
  staticTypes := #[]
  resolved := Array.replicate 124 none
  statics := none }

def pool1 : Array CpInfo := pool [(2, .class_ 4), (1, u "java/lang/Object"), (0, u "<init>"), (0, u "()V"), (0, .integer 2147483647), (0, .methodref 9 10), (0, .class_ 11), (0, .nameAndType 12 13), (0, u "com/example/borderline/borderline/TriePathsPathPinLaw"), (0, u "depthOf"), (0, u "(I)I"), (0, .methodref 9 15), (0, .nameAndType 16 17), (0, u "parentOf"), (0, u "(II)I"), (0, .methodref 19 20), (0, .class_ 21), (0, .nameAndType 22 23), (0, u "com/example/borderline/borderline/TriePaths"), (0, u "path"), (0, u "([B[III[B)I"), (0, .methodref 9 25), (0, .nameAndType 26 27), (0, u "cell"), (0, u "([BII[I[BB)Z"), (3, u "law"), (0, u "(IIIJI)Z")] 6

def k1m0 : Method := { name := "<init>", desc := "()V", sig := { parameters := [], returnType := none }, accessFlags := 1, code := none }
def k1c1 : Code := { maxStack := 2, maxLocals := 2, code := method_2_code, exceptionTable := #[], attributes := #[] }
def k1m1 : Method := { name := "parentOf", desc := "(II)I", sig := { parameters := [.int, .int], returnType := some .int }, accessFlags := 10, code := some k1c1 }
def k1c2 : Code := { maxStack := 2, maxLocals := 1, code := method_3_code, exceptionTable := #[], attributes := #[] }
def k1m2 : Method := { name := "depthOf", desc := "(I)I", sig := { parameters := [.int], returnType := some .int }, accessFlags := 10, code := some k1c2 }
def k1c3 : Code := { maxStack := 5, maxLocals := 6, code := method_4_code, exceptionTable := #[], attributes := #[] }
def k1m3 : Method := { name := "cell", desc := "([BII[I[BB)Z", sig := { parameters := [(.array .byte), .int, .int, (.array .int), (.array .byte), .byte], returnType := some .boolean }, accessFlags := 10, code := some k1c3 }
def k1c4 : Code := { maxStack := 6, maxLocals := 16, code := code, exceptionTable := #[], attributes := #[] }
def k1m4 : Method := { name := "law", desc := "(IIIJI)Z", sig := { parameters := [.int, .int, .int, .long, .int], returnType := some .boolean }, accessFlags := 9, code := some k1c4 }
/-- com/example/borderline/borderline/TriePathsPathPinLaw -/
def k1 : Class := { plain "com/example/borderline/borderline/TriePathsPathPinLaw" (some 0) with
  accessFlags := 49
  interfaces := #[]
  cf := some (fileOf pool1 9 #[] #[{ accessFlags := 1, nameIndex := 5, descriptorIndex := 6, attributes := #[] }, { accessFlags := 10, nameIndex := 16, descriptorIndex := 17, attributes := #[] }, { accessFlags := 10, nameIndex := 12, descriptorIndex := 13, attributes := #[] }, { accessFlags := 10, nameIndex := 26, descriptorIndex := 27, attributes := #[] }, { accessFlags := 9, nameIndex := 31, descriptorIndex := 32, attributes := #[] }] 49 2 #[] #[])
  fields := #[]
  methods := #[k1m0, k1m1, k1m2, k1m3, k1m4]
  instanceTypes := #[]
  staticTypes := #[]
  resolved := Array.replicate 39 none
  statics := none }

def pool2 : Array CpInfo := pool [(4, .class_ 6), (1, u "java/lang/Object"), (0, u "<init>"), (0, u "()V"), (0, .class_ 10), (0, u "com/example/borderline/borderline/TriePaths"), (10, u "path"), (0, u "([B[III[B)I"), (7, u "LONGEST_CHARACTER"), (0, u "I"), (2, u "ROOT")] 14

def k2m0 : Method := { name := "<init>", desc := "()V", sig := { parameters := [], returnType := none }, accessFlags := 2, code := none }
def k2c1 : Code := { maxStack := 4, maxLocals := 8, code := prog_22_method_3_code, exceptionTable := #[], attributes := #[] }
def k2m1 : Method := { name := "path", desc := "([B[III[B)I", sig := { parameters := [(.array .byte), (.array .int), .int, .int, (.array .byte)], returnType := some .int }, accessFlags := 8, code := some k2c1 }
/-- com/example/borderline/borderline/TriePaths -/
def k2 : Class := { plain "com/example/borderline/borderline/TriePaths" (some 0) with
  accessFlags := 48
  interfaces := #[]
  cf := some (fileOf pool2 9 #[] #[{ accessFlags := 2, nameIndex := 7, descriptorIndex := 8, attributes := #[] }, { accessFlags := 8, nameIndex := 21, descriptorIndex := 22, attributes := #[] }] 48 4 #[] #[{ accessFlags := 24, nameIndex := 30, descriptorIndex := 31, attributes := #[] }, { accessFlags := 26, nameIndex := 34, descriptorIndex := 31, attributes := #[] }])
  fields := #[{ name := "LONGEST_CHARACTER", type := .int, accessFlags := 24, slot := 0, constantValue := 0 }, { name := "ROOT", type := .int, accessFlags := 26, slot := 1, constantValue := 0 }]
  methods := #[k2m0, k2m1]
  instanceTypes := #[]
  staticTypes := #[.int, .int]
  resolved := Array.replicate 49 none
  statics := none }

def pool3 : Array CpInfo := pool [(1, u "java/lang/Cloneable"), (0, .class_ 1), (0, u "java/lang/Object"), (0, .class_ 3)] 3

/-- java/lang/Cloneable -/
def k3 : Class := { plain "java/lang/Cloneable" (some 0) with
  accessFlags := 1537
  interfaces := #[]
  cf := some (fileOf pool3 2 #[] #[] 1537 4 #[] #[])
  fields := #[]
  methods := #[]
  instanceTypes := #[]
  staticTypes := #[]
  resolved := Array.replicate 8 none
  statics := none }

def pool4 : Array CpInfo := pool [(1, u "java/io/Serializable"), (0, .class_ 1), (0, u "java/lang/Object"), (0, .class_ 3)] 3

/-- java/io/Serializable -/
def k4 : Class := { plain "java/io/Serializable" (some 0) with
  accessFlags := 1537
  interfaces := #[]
  cf := some (fileOf pool4 2 #[] #[] 1537 4 #[] #[])
  fields := #[]
  methods := #[]
  instanceTypes := #[]
  staticTypes := #[]
  resolved := Array.replicate 8 none
  statics := none }

/-- the primitive byte -/
def k5 : Class := { plain "byte" none with kind := .primitive 'B', accessFlags := 0x411 }
/-- [B -/
def k6 : Class := { plain "[B" (some 0) with kind := .array 5 .byte, interfaces := #[3, 4], accessFlags := 1041 }

/-- the primitive int -/
def k7 : Class := { plain "int" none with kind := .primitive 'I', accessFlags := 0x411 }
/-- [I -/
def k8 : Class := { plain "[I" (some 0) with kind := .array 7 .int, interfaces := #[3, 4], accessFlags := 1041 }

def heap : Heap := #[]
def classes : Array Class := #[k0, k1, k2, k3, k4, k5, k6, k7, k8]
def interned : List (Array UInt16 × Addr) := []
def slotsUsed : Nat := 0
def theMethod : MethodId := ⟨1, 4⟩
def args0 : Array Value := #[.int 5, .int 6, .int 7, .long 8, .int 9]
def aboutOver (below : List Frame) : State where
  vm := { classes := classes, interned := interned.toArray }
  heap := heap
  slotsUsed := slotsUsed
  threads := #[{ frames := .invoking theMethod args0 :: below }]
def below0 : List Frame := [.native { method := ⟨0, 0⟩, args := #[] }]
def about1 : State := aboutOver below0
def p0 : Program := .bare "" "" ""
def e0 : Env := launch0.env 0 0 0
theorem w_frames : about1.frames = Frame.invoking theMethod args0 :: below0 := rfl
set_option maxRecDepth 65536 in
theorem w_args : argsFit about1.vm theMethod args0 = true := by decide +kernel
set_option maxRecDepth 65536 in
theorem w_heap : heapFits about1 = true := by decide +kernel
set_option maxRecDepth 65536 in
theorem w_runnable : about1.curStatus? = some .runnable := by decide +kernel
set_option maxRecDepth 65536 in
theorem w_alone : about1.alone = true := by decide +kernel
set_option maxRecDepth 65536 in
theorem w_named : about1.methodNamed? x = some theMethod := by decide +kernel
set_option maxRecDepth 65536 in
theorem w_hears : about1.hears theMethod below0 = true := by decide +kernel
set_option maxRecDepth 65536 in
theorem w_ripe : about1.ripe theMethod args0 below0 = true := by decide +kernel
theorem w_running : about1.status = .running := rfl
set_option maxRecDepth 65536 in
theorem w_room : about1.hasRoom e0.platform room_1 = true :=
  launch0.hasRoom_least _ room_1 (by decide +kernel) (by decide +kernel) (by decide +kernel) (by decide +kernel) (by decide +kernel) (by decide +kernel)
theorem allAtoms_all (ts : List Jvm.Cond) (a : Array Jvm.Value) (st : Jvm.State) : (allAtoms ts).before a st = ts.all (fun c => c.before a st) := by
  induction ts with
  | nil => rfl
  | cons c t ih =>
    show (Jvm.Cond.and c (allAtoms t)).before a st = _
    rw [Jvm.Cond.before_and, ih, List.all_cons]
def words1 : List Jvm.Cond := Jvm.Cond.code x code maxLocals ret :: tables_1
/-- a 'code' word, met by the world's own term for the bytes: nothing is compared byte by byte -/
theorem code_word {y : MethodName} {bytes : ByteArray} {mx : Nat} {rt : Option FieldType} {a : Array Value} {s : State} {m : MethodId} {meth : Method} {c : Code} (h1 : s.methodNamed? y = some m) (h2 : s.vm.method? m = some meth) (h3 : meth.code = some c) (h4 : c.code = bytes)
    (h5 : (c.maxLocals == mx && c.exceptionTable.isEmpty && decide (c.maxStack ≤ mostOperands) && decide (meth.sig.returnType = rt) && !meth.locks && decide (parseMethodDescriptor y.desc = some meth.sig)) = true) : (Jvm.Cond.code y bytes mx rt).before a s = true := by
  simp only [Bool.and_eq_true, beq_iff_eq, Bool.not_eq_true', decide_eq_true_eq] at h5
  obtain ⟨⟨⟨⟨⟨g1, g2⟩, g3⟩, g4⟩, g5⟩, g6⟩ := h5
  simp [Cond.before, Cond.holds, Cond.value, h1, h2, h3, h4, g1, g2, g3, g4, g5, g6]
def isCode : Jvm.Cond → Bool
  | .code _ _ _ _ => true
  | _ => false
theorem all_split {L : List Jvm.Cond} {P : Jvm.Cond → Bool} (h1 : L.all (fun c => isCode c || P c) = true) (h2 : ∀ c ∈ L.filter isCode, P c = true) : L.all P = true := by
  refine List.all_eq_true.mpr fun c hc => ?_
  have h := List.all_eq_true.mp h1 c hc
  rcases Bool.eq_false_or_eq_true (isCode c) with hi | hi
  · exact h2 c (List.mem_filter.mpr ⟨hc, hi⟩)
  · simpa [hi] using h
set_option maxRecDepth 65536 in
theorem w_c0 : (Jvm.Cond.code x code maxLocals ret).before args0 about1 = true := code_word (m := ⟨1, 4⟩) (meth := k1m4) (c := k1c4) (by decide +kernel) rfl rfl rfl (by decide +kernel)
set_option maxRecDepth 65536 in
theorem w_c1 : (Jvm.Cond.code ({ cls := "com/example/borderline/borderline/TriePathsPathPinLaw", name := "depthOf", desc := "(I)I" } : Jvm.MethodName) method_3_code (1 : Nat) (Option.some Jvm.ClassFile.FieldType.int)).before args0 about1 = true := code_word (m := ⟨1, 2⟩) (meth := k1m2) (c := k1c2) (by decide +kernel) rfl rfl rfl (by decide +kernel)
set_option maxRecDepth 65536 in
theorem w_c2 : (Jvm.Cond.code ({ cls := "com/example/borderline/borderline/TriePathsPathPinLaw", name := "parentOf", desc := "(II)I" } : Jvm.MethodName) method_2_code (2 : Nat) (Option.some Jvm.ClassFile.FieldType.int)).before args0 about1 = true := code_word (m := ⟨1, 1⟩) (meth := k1m1) (c := k1c1) (by decide +kernel) rfl rfl rfl (by decide +kernel)
set_option maxRecDepth 65536 in
theorem w_c3 : (Jvm.Cond.code ({ cls := "com/example/borderline/borderline/TriePaths", name := "path", desc := "([B[III[B)I" } : Jvm.MethodName) prog_22_method_3_code (8 : Nat) (Option.some Jvm.ClassFile.FieldType.int)).before args0 about1 = true := code_word (m := ⟨2, 1⟩) (meth := k2m1) (c := k2c1) (by decide +kernel) rfl rfl rfl (by decide +kernel)
set_option maxRecDepth 65536 in
theorem w_c4 : (Jvm.Cond.code ({ cls := "com/example/borderline/borderline/TriePathsPathPinLaw", name := "cell", desc := "([BII[I[BB)Z" } : Jvm.MethodName) method_4_code (6 : Nat) (Option.some Jvm.ClassFile.FieldType.boolean)).before args0 about1 = true := code_word (m := ⟨1, 3⟩) (meth := k1m3) (c := k1c3) (by decide +kernel) rfl rfl rfl (by decide +kernel)
def codes1 : List Jvm.Cond := [Jvm.Cond.code x code maxLocals ret, Jvm.Cond.code ({ cls := "com/example/borderline/borderline/TriePathsPathPinLaw", name := "depthOf", desc := "(I)I" } : Jvm.MethodName) method_3_code (1 : Nat) (Option.some Jvm.ClassFile.FieldType.int), Jvm.Cond.code ({ cls := "com/example/borderline/borderline/TriePathsPathPinLaw", name := "parentOf", desc := "(II)I" } : Jvm.MethodName) method_2_code (2 : Nat) (Option.some Jvm.ClassFile.FieldType.int), Jvm.Cond.code ({ cls := "com/example/borderline/borderline/TriePaths", name := "path", desc := "([B[III[B)I" } : Jvm.MethodName) prog_22_method_3_code (8 : Nat) (Option.some Jvm.ClassFile.FieldType.int), Jvm.Cond.code ({ cls := "com/example/borderline/borderline/TriePathsPathPinLaw", name := "cell", desc := "([BII[I[BB)Z" } : Jvm.MethodName) method_4_code (6 : Nat) (Option.some Jvm.ClassFile.FieldType.boolean)]
set_option maxRecDepth 65536 in
theorem codes_eq : words1.filter isCode = codes1 := rfl
theorem w_codes : ∀ c ∈ words1.filter isCode, c.before args0 about1 = true := by
  rw [codes_eq]
  intro c hc
  simp only [codes1, List.mem_cons, List.not_mem_nil, or_false] at hc
  rcases hc with rfl | rfl | rfl | rfl | rfl
  · exact w_c0
  · exact w_c1
  · exact w_c2
  · exact w_c3
  · exact w_c4
set_option maxRecDepth 65536 in
theorem w_t1 : words1.all (fun c => isCode c || c.before args0 about1) = true := by decide +kernel
theorem w_tables : (allAtoms (Jvm.Cond.code x code maxLocals ret :: tables_1)).before args0 about1 = true := by
  rw [allAtoms_all]
  show words1.all (fun c => c.before args0 about1) = true
  refine all_split ?_ w_codes
  rw [w_t1]
set_option maxRecDepth 65536 in
theorem w_case : (Jvm.Cond.and given_1 narrow_1).before args0 about1 = true := by decide +kernel
theorem w_applies : (headSpec (Jvm.Cond.code x code maxLocals ret :: tables_1) room_1).applies x e0.platform about1 = true :=
  (Spec.applies_iff w_frames).mpr ⟨w_running, w_runnable, w_alone, w_named, w_hears, w_ripe, w_room, w_tables⟩
theorem atStart : AtStart classFile x code maxLocals ret World_1 tables_1 room_1 Calls_1 rest_1 Pre_1 launch0 p0 e0 about1 theMethod args0 below0 :=
  ⟨lists_1, trivial, launch0.admits_env _ _ _, launch0.least_env, fairChoices_fair.cas, fairChoices_fair.clock, w_frames, w_args, w_heap, w_applies, trivial, trivial, w_case⟩
end start1
theorem witness_1 : WitnessClaimed_1 := ⟨start1.p0, start1.e0, start1.about1, start1.theMethod, start1.args0, start1.below0, start1.atStart⟩
end Jvm.Pilot.@@N@@
