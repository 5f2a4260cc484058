import JvmDerived
import JvmDerived.Pilot.@@N@@Statement
import JvmDerived.Pilot.@@N@@Code
set_option linter.unusedVariables false
set_option linter.unusedSimpArgs false
namespace Jvm.Pilot.@@N@@.W
open Jvm Jvm.ClassFile Sem Op Lib Jvm.Free Jvm.Stand Jvm.LawKit Jvm.RoadKit Bundle

/-- the invocation comes to its end from (T, f): what it returns and the heap there are as G says; nothing below n0 is written; at most K cells, N slots are made -/
def Ends (p : Program) (e : Env) (below : List Frame) (Y : State → Outcome → List Loc → Prop) (n0 : Nat) (G : Option Value → Heap → Prop) (T : State) (f : JFrame) : Prop :=
  ∃ s₂ o, Steps p.tables e below (T.setTop f) s₂ ∧ s₂.status = .running ∧ Ended s₂ below o ∧ ∃ v L, o = .returned v ∧ (G v s₂.heap ∧ Fr n0 L) ∧ Y s₂ o L
/-- the walk stands in T, whose heap is h -/
def St (p : Program) (l : Launch) (e : Env) (R : Room) (s : State) (m : MethodId) (args : Array Value) (below : List Frame) (meth : Method) (c : Code) (n0 : Nat) (h : Heap) (k n : Nat) (T : State) : Prop :=
  ∃ locs, Fr n0 locs ∧ Stand p l e R s m args below meth c T locs k n ∧ T.heap = h
/-- what stays through a walk: the machine, the tables of the start, the body, its class, what it returns -/
def Cx (p : Program) (s : State) (m : MethodId) (meth : Method) (c : Code) (Z : State) (n0 : Nat) (own : String) (bytes : ByteArray) (ml : Nat) (ret : Option FieldType) : Prop :=
  p.tables.exec = Jvm.exec ∧ Z.Warmed39 s.vm ∧ c.code = bytes ∧ c.maxLocals = ml ∧ s.vm.findClass own = some m.cls ∧ meth.sig.returnType = ret ∧ meth.locks = false ∧ n0 ≤ s.heap.size
/-- from every state that stands so, with the frame f on top, the invocation comes to its end -/
def Go (p : Program) (l : Launch) (e : Env) (R : Room) (s : State) (m : MethodId) (args : Array Value) (below : List Frame) (meth : Method) (c : Code) (Y : State → Outcome → List Loc → Prop) (n0 : Nat) (G : Option Value → Heap → Prop) (h : Heap) (k n : Nat) (f : JFrame) : Prop :=
  ∀ T, St p l e R s m args below meth c n0 h k n T → Ends p e below Y n0 G T f
/-- a body's contract -/
abbrev Con (l : Launch) (Z : State) (y : MethodName) (bytes : ByteArray) (ml : Nat) (ret : Option FieldType) (ws : List Cond) (rm : Room) (K N : Nat) (as : Array Value) (h0 : Heap) (n0 : Nat) (G : Option Value → Heap → Prop) : Prop :=
  MetFree l y (head1 (Cond.code y bytes ml ret :: ws) rm) (fun a U => a = as ∧ Z.Warmed39 U.vm ∧ U.heap = h0) (fun _ _ _ _ _ => True) (fun _ U o U' => ∃ v L, o = .returned v ∧ (G v U'.heap ∧ Fr n0 L) ∧ FrameEnd U o U' L K N)

section Walk
variable {p : Program} {l : Launch} {e : Env} {R : Room} {s : State} {m : MethodId} {args : Array Value} {below : List Frame} {meth : Method} {c : Code} {K N n0 k n : Nat} {G : Option Value → Heap → Prop} {Y : State → Outcome → List Loc → Prop}
  {Z : State} {a0 : Array Value} {own : String} {bytes : ByteArray} {ml : Nat} {ret : Option FieldType} {Ls Ls' : Array Slot} {S : List Value} {pc pc' pn : Nat} {h h' : Heap}

theorem step {T T' : State} {f f' : JFrame} (q : ∀ target, Steps p.tables e below (T'.setTop f') target → Steps p.tables e below (T.setTop f) target) (g : Ends p e below Y n0 G T' f') : Ends p e below Y n0 G T f := by
  obtain ⟨s₂, o, h1, h2⟩ := g
  exact ⟨s₂, o, q _ h1, h2⟩
theorem stepG {f f' : JFrame} (q : ∀ T locs, Stand p l e R s m args below meth c T locs k n → T.heap = h → ∀ target, Steps p.tables e below (T.setTop f') target → Steps p.tables e below (T.setTop f) target)
    (g : Go p l e R s m args below meth c Y n0 G h k n f') : Go p l e R s m args below meth c Y n0 G h k n f := fun T ⟨locs, F, X, eT⟩ => step (q T locs X eT) (g T ⟨locs, F, X, eT⟩)
theorem Go.mono {f : JFrame} {k2 n2 : Nat} (g : Go p l e R s m args below meth c Y n0 G h k2 n2 f) (h1 : k ≤ k2) (h2 : n ≤ n2) : Go p l e R s m args below meth c Y n0 G h k n f := fun T ⟨locs, F, X, eT⟩ =>
  g T ⟨locs, F, ⟨X.admits, X.cas, X.clock, X.frames, X.room, X.hears, X.method, X.code, X.here, X.tail, X.warmed, X.limits, X.bytes, X.same.mono h1 h2⟩, eT⟩
theorem Go.castF {f f' : JFrame} (q : f = f') (g : Go p l e R s m args below meth c Y n0 G h k n f') : Go p l e R s m args below meth c Y n0 G h k n f := q ▸ g

/-- entering -/
theorem enter {y : MethodName} {as : Array Value} {ws : List Cond} {rm : Room} {h0 : Heap} (hp : plainFor y = true) (Z0 : n0 ≤ h0.size)
    (body : ∀ p e s m below meth c, Cx p s m meth c Z n0 y.cls bytes ml ret → meth.name = y.name → s.heap = h0 → Go p l e rm s m as below meth c (fun s₂ o L => FrameEnd s o s₂ L K N) n0 G h0 0 0 (entryFrame m as ml)) : Con l Z y bytes ml ret ws rm K N as h0 n0 G := by
  refine MetFree.of_bodySF hp hisR ?_
  intro p e s m args below meth c s₁ Bd hml0 hP hK
  obtain ⟨rfl, hZ, hh⟩ := hP
  have X0 : Stand p l e rm s m args below meth c s₁ [] 0 0 := Stand.of_body Bd
  have e0 : s₁.heap = h0 := by rw [← hh, Bd.state]; rfl
  obtain ⟨s₂, o, h1, h2, h3, h4⟩ := body p e s m below meth c ⟨Bd.exec, hZ, Bd.bytes, hml0, findClass_of_methodNamed Bd.named, Bd.returns, Bd.notSynchronized, by rw [hh]; exact Z0⟩ (name_of_methodNamed Bd.named Bd.method).1 hh s₁ ⟨[], Fr.nil _, X0, e0⟩
  exact ⟨s₂, o, h1, h2, h3, h4⟩

/-! loads, stores, constants -/
theorem iloadN (C : Cx p s m meth c Z n0 own bytes ml ret) {i : Fin 4} {v : Int32} (hd : decode bytes pc = .ok (.iload_n i, 1)) (hp : pc + 1 = pc') (hl : Ls[i.val]? = some (.val (.int v)))
    (g : Go p l e R s m args below meth c Y n0 G h k n (mkF m pc' Ls (.int v :: S))) : Go p l e R s m args below meth c Y n0 G h k n (mkF m pc Ls S) := by
  subst hp; exact stepG (fun T locs X _ _ q => XS.iloadN X.here C.1 rfl (hb C.2.2.1 hd) hl q) g
theorem iload (C : Cx p s m meth c Z n0 own bytes ml ret) {i : Nat} {v : Int32} (hd : decode bytes pc = .ok (.iload i, 2)) (hp : pc + 2 = pc') (hl : Ls[i]? = some (.val (.int v)))
    (g : Go p l e R s m args below meth c Y n0 G h k n (mkF m pc' Ls (.int v :: S))) : Go p l e R s m args below meth c Y n0 G h k n (mkF m pc Ls S) := by
  subst hp; exact stepG (fun T locs X _ _ q => XS.iload X.here C.1 rfl (hb C.2.2.1 hd) hl q) g
theorem lloadN (C : Cx p s m meth c Z n0 own bytes ml ret) {i : Fin 4} {v : Int64} (hd : decode bytes pc = .ok (.lload_n i, 1)) (hp : pc + 1 = pc') (hl : Ls[i.val]? = some (.val (.long v)))
    (g : Go p l e R s m args below meth c Y n0 G h k n (mkF m pc' Ls (.long v :: S))) : Go p l e R s m args below meth c Y n0 G h k n (mkF m pc Ls S) := by
  subst hp; exact stepG (fun T locs X _ _ q => XS.lloadN X.here C.1 rfl (hb C.2.2.1 hd) hl q) g
theorem lload (C : Cx p s m meth c Z n0 own bytes ml ret) {i : Nat} {v : Int64} (hd : decode bytes pc = .ok (.lload i, 2)) (hp : pc + 2 = pc') (hl : Ls[i]? = some (.val (.long v)))
    (g : Go p l e R s m args below meth c Y n0 G h k n (mkF m pc' Ls (.long v :: S))) : Go p l e R s m args below meth c Y n0 G h k n (mkF m pc Ls S) := by
  subst hp; exact stepG (fun T locs X _ _ q => XS.lload X.here C.1 rfl (hb C.2.2.1 hd) hl q) g
theorem aloadN (C : Cx p s m meth c Z n0 own bytes ml ret) {i : Fin 4} {v : Value} (hd : decode bytes pc = .ok (.aload_n i, 1)) (hp : pc + 1 = pc') (hl : Ls[i.val]? = some (.val v)) (hv : v.isRef = true)
    (g : Go p l e R s m args below meth c Y n0 G h k n (mkF m pc' Ls (v :: S))) : Go p l e R s m args below meth c Y n0 G h k n (mkF m pc Ls S) := by
  subst hp; exact stepG (fun T locs X _ _ q => XS.aloadN X.here C.1 rfl (hb C.2.2.1 hd) hl hv q) g
theorem aload (C : Cx p s m meth c Z n0 own bytes ml ret) {i : Nat} {v : Value} (hd : decode bytes pc = .ok (.aload i, 2)) (hp : pc + 2 = pc') (hl : Ls[i]? = some (.val v)) (hv : v.isRef = true)
    (g : Go p l e R s m args below meth c Y n0 G h k n (mkF m pc' Ls (v :: S))) : Go p l e R s m args below meth c Y n0 G h k n (mkF m pc Ls S) := by
  subst hp; exact stepG (fun T locs X _ _ q => XS.aload X.here C.1 rfl (hb C.2.2.1 hd) hl hv q) g
theorem istoreN (C : Cx p s m meth c Z n0 own bytes ml ret) {i : Fin 4} {x : Int32} (hd : decode bytes pc = .ok (.istore_n i, 1)) (hp : pc + 1 = pc') (hl : storeLocals Ls i.val (.int x) = some Ls')
    (g : Go p l e R s m args below meth c Y n0 G h k n (mkF m pc' Ls' S)) : Go p l e R s m args below meth c Y n0 G h k n (mkF m pc Ls (.int x :: S)) := by
  subst hp; exact stepG (fun T locs X _ _ q => XS.istoreN X.here C.1 rfl (hb C.2.2.1 hd) rfl hl q) g
theorem istore (C : Cx p s m meth c Z n0 own bytes ml ret) {i : Nat} {x : Int32} (hd : decode bytes pc = .ok (.istore i, 2)) (hp : pc + 2 = pc') (hl : storeLocals Ls i (.int x) = some Ls')
    (g : Go p l e R s m args below meth c Y n0 G h k n (mkF m pc' Ls' S)) : Go p l e R s m args below meth c Y n0 G h k n (mkF m pc Ls (.int x :: S)) := by
  subst hp; exact stepG (fun T locs X _ _ q => XS.istore X.here C.1 rfl (hb C.2.2.1 hd) rfl hl q) g
theorem lstoreN (C : Cx p s m meth c Z n0 own bytes ml ret) {i : Fin 4} {x : Int64} (hd : decode bytes pc = .ok (.lstore_n i, 1)) (hp : pc + 1 = pc') (hl : storeLocals Ls i.val (.long x) = some Ls')
    (g : Go p l e R s m args below meth c Y n0 G h k n (mkF m pc' Ls' S)) : Go p l e R s m args below meth c Y n0 G h k n (mkF m pc Ls (.long x :: S)) := by
  subst hp; exact stepG (fun T locs X _ _ q => XS.lstoreN X.here C.1 rfl (hb C.2.2.1 hd) rfl hl q) g
theorem lstore (C : Cx p s m meth c Z n0 own bytes ml ret) {i : Nat} {x : Int64} (hd : decode bytes pc = .ok (.lstore i, 2)) (hp : pc + 2 = pc') (hl : storeLocals Ls i (.long x) = some Ls')
    (g : Go p l e R s m args below meth c Y n0 G h k n (mkF m pc' Ls' S)) : Go p l e R s m args below meth c Y n0 G h k n (mkF m pc Ls (.long x :: S)) := by
  subst hp; exact stepG (fun T locs X _ _ q => XS.lstore X.here C.1 rfl (hb C.2.2.1 hd) rfl hl q) g
theorem astoreN (C : Cx p s m meth c Z n0 own bytes ml ret) {i : Fin 4} {x : Value} (hd : decode bytes pc = .ok (.astore_n i, 1)) (hp : pc + 1 = pc') (hv : x.isRef = true) (hl : storeLocals Ls i.val x = some Ls')
    (g : Go p l e R s m args below meth c Y n0 G h k n (mkF m pc' Ls' S)) : Go p l e R s m args below meth c Y n0 G h k n (mkF m pc Ls (x :: S)) := by
  subst hp; exact stepG (fun T locs X _ _ q => XS.astoreN X.here C.1 rfl (hb C.2.2.1 hd) rfl hv hl q) g
theorem astore (C : Cx p s m meth c Z n0 own bytes ml ret) {i : Nat} {x : Value} (hd : decode bytes pc = .ok (.astore i, 2)) (hp : pc + 2 = pc') (hv : x.isRef = true) (hl : storeLocals Ls i x = some Ls')
    (g : Go p l e R s m args below meth c Y n0 G h k n (mkF m pc' Ls' S)) : Go p l e R s m args below meth c Y n0 G h k n (mkF m pc Ls (x :: S)) := by
  subst hp; exact stepG (fun T locs X _ _ q => XS.astore X.here C.1 rfl (hb C.2.2.1 hd) rfl hv hl q) g
theorem iconst (C : Cx p s m meth c Z n0 own bytes ml ret) {i : Int} {x : Int32} (hd : decode bytes pc = .ok (.iconst i, 1)) (hp : pc + 1 = pc') (hv : Int32.ofInt i = x)
    (g : Go p l e R s m args below meth c Y n0 G h k n (mkF m pc' Ls (.int x :: S))) : Go p l e R s m args below meth c Y n0 G h k n (mkF m pc Ls S) := by
  subst hp hv; exact stepG (fun T locs X _ _ q => XS.iconst X.here C.1 rfl (hb C.2.2.1 hd) q) g
theorem bipush (C : Cx p s m meth c Z n0 own bytes ml ret) {i : Int} {x : Int32} (hd : decode bytes pc = .ok (.bipush i, 2)) (hp : pc + 2 = pc') (hv : (Int8.ofInt i).toInt32 = x)
    (g : Go p l e R s m args below meth c Y n0 G h k n (mkF m pc' Ls (.int x :: S))) : Go p l e R s m args below meth c Y n0 G h k n (mkF m pc Ls S) := by
  subst hp hv; exact stepG (fun T locs X _ _ q => XS.bipush X.here C.1 rfl (hb C.2.2.1 hd) q) g
theorem sipush (C : Cx p s m meth c Z n0 own bytes ml ret) {i : Int} {x : Int32} (hd : decode bytes pc = .ok (.sipush i, 3)) (hp : pc + 3 = pc') (hv : (Int16.ofInt i).toInt32 = x)
    (g : Go p l e R s m args below meth c Y n0 G h k n (mkF m pc' Ls (.int x :: S))) : Go p l e R s m args below meth c Y n0 G h k n (mkF m pc Ls S) := by
  subst hp hv; exact stepG (fun T locs X _ _ q => XS.sipush X.here C.1 rfl (hb C.2.2.1 hd) q) g
theorem lconst (C : Cx p s m meth c Z n0 own bytes ml ret) {i : Fin 2} {x : Int64} (hd : decode bytes pc = .ok (.lconst i, 1)) (hp : pc + 1 = pc') (hv : Int64.ofNat i = x)
    (g : Go p l e R s m args below meth c Y n0 G h k n (mkF m pc' Ls (.long x :: S))) : Go p l e R s m args below meth c Y n0 G h k n (mkF m pc Ls S) := by
  subst hp hv; exact stepG (fun T locs X _ _ q => XS.lconst X.here C.1 rfl (hb C.2.2.1 hd) q) g
theorem aconst_null (C : Cx p s m meth c Z n0 own bytes ml ret) (hd : decode bytes pc = .ok (.aconst_null, 1)) (hp : pc + 1 = pc')
    (g : Go p l e R s m args below meth c Y n0 G h k n (mkF m pc' Ls (.null :: S))) : Go p l e R s m args below meth c Y n0 G h k n (mkF m pc Ls S) := by
  subst hp; exact stepG (fun T locs X _ _ q => XS.aconstNull X.here C.1 rfl (hb C.2.2.1 hd) q) g
theorem ldcI (C : Cx p s m meth c Z n0 own bytes ml ret) {i : Nat} {v : Int32} (w : (Cond.constant own i v).before a0 Z = true) (hd : decode bytes pc = .ok (.ldc i, 2)) (hp : pc + 2 = pc')
    (g : Go p l e R s m args below meth c Y n0 G h k n (mkF m pc' Ls (.int v :: S))) : Go p l e R s m args below meth c Y n0 G h k n (mkF m pc Ls S) := by
  subst hp; exact stepG (fun T locs X _ t q => X.ldcInt C.1 C.2.2.2.2.1 (mvT C.2.1 w) (g := mkF m pc Ls S) rfl (hb C.2.2.1 hd) t q) g
theorem ldcwI (C : Cx p s m meth c Z n0 own bytes ml ret) {i : Nat} {v : Int32} (w : (Cond.constant own i v).before a0 Z = true) (hd : decode bytes pc = .ok (.ldc_w i, 3)) (hp : pc + 3 = pc')
    (g : Go p l e R s m args below meth c Y n0 G h k n (mkF m pc' Ls (.int v :: S))) : Go p l e R s m args below meth c Y n0 G h k n (mkF m pc Ls S) := by
  subst hp; exact stepG (fun T locs X _ t q => X.ldcwInt C.1 C.2.2.2.2.1 (mvT C.2.1 w) (g := mkF m pc Ls S) rfl (hb C.2.2.1 hd) t q) g
theorem ldc2 (C : Cx p s m meth c Z n0 own bytes ml ret) {i : Nat} {v : Int64} (w : (Cond.constantLong own i v).before a0 Z = true) (hd : decode bytes pc = .ok (.ldc2_w i, 3)) (hp : pc + 3 = pc')
    (g : Go p l e R s m args below meth c Y n0 G h k n (mkF m pc' Ls (.long v :: S))) : Go p l e R s m args below meth c Y n0 G h k n (mkF m pc Ls S) := by
  subst hp; exact stepG (fun T locs X _ t q => X.ldc2Long C.1 C.2.2.2.2.1 (mvT C.2.1 w) (g := mkF m pc Ls S) rfl (hb C.2.2.1 hd) t q) g
theorem iadd (C : Cx p s m meth c Z n0 own bytes ml ret) {x y z : Int32} (hd : decode bytes pc = .ok (.iadd, 1)) (hp : pc + 1 = pc') (hv : x + y = z)
    (g : Go p l e R s m args below meth c Y n0 G h k n (mkF m pc' Ls (.int z :: S))) : Go p l e R s m args below meth c Y n0 G h k n (mkF m pc Ls (.int y :: .int x :: S)) := by
  subst hp hv; exact stepG (fun T locs X _ _ q => XS.iadd X.here C.1 rfl (hb C.2.2.1 hd) rfl q) g
theorem isub (C : Cx p s m meth c Z n0 own bytes ml ret) {x y z : Int32} (hd : decode bytes pc = .ok (.isub, 1)) (hp : pc + 1 = pc') (hv : x - y = z)
    (g : Go p l e R s m args below meth c Y n0 G h k n (mkF m pc' Ls (.int z :: S))) : Go p l e R s m args below meth c Y n0 G h k n (mkF m pc Ls (.int y :: .int x :: S)) := by
  subst hp hv; exact stepG (fun T locs X _ _ q => XS.isub X.here C.1 rfl (hb C.2.2.1 hd) rfl q) g
theorem imul (C : Cx p s m meth c Z n0 own bytes ml ret) {x y z : Int32} (hd : decode bytes pc = .ok (.imul, 1)) (hp : pc + 1 = pc') (hv : x * y = z)
    (g : Go p l e R s m args below meth c Y n0 G h k n (mkF m pc' Ls (.int z :: S))) : Go p l e R s m args below meth c Y n0 G h k n (mkF m pc Ls (.int y :: .int x :: S)) := by
  subst hp hv; exact stepG (fun T locs X _ _ q => XS.imul X.here C.1 rfl (hb C.2.2.1 hd) rfl q) g
theorem iand (C : Cx p s m meth c Z n0 own bytes ml ret) {x y z : Int32} (hd : decode bytes pc = .ok (.iand, 1)) (hp : pc + 1 = pc') (hv : x &&& y = z)
    (g : Go p l e R s m args below meth c Y n0 G h k n (mkF m pc' Ls (.int z :: S))) : Go p l e R s m args below meth c Y n0 G h k n (mkF m pc Ls (.int y :: .int x :: S)) := by
  subst hp hv; exact stepG (fun T locs X _ _ q => XS.iand X.here C.1 rfl (hb C.2.2.1 hd) rfl q) g
theorem ior (C : Cx p s m meth c Z n0 own bytes ml ret) {x y z : Int32} (hd : decode bytes pc = .ok (.ior, 1)) (hp : pc + 1 = pc') (hv : x ||| y = z)
    (g : Go p l e R s m args below meth c Y n0 G h k n (mkF m pc' Ls (.int z :: S))) : Go p l e R s m args below meth c Y n0 G h k n (mkF m pc Ls (.int y :: .int x :: S)) := by
  subst hp hv; exact stepG (fun T locs X _ _ q => XS.ior X.here C.1 rfl (hb C.2.2.1 hd) rfl q) g
theorem ixor (C : Cx p s m meth c Z n0 own bytes ml ret) {x y z : Int32} (hd : decode bytes pc = .ok (.ixor, 1)) (hp : pc + 1 = pc') (hv : x ^^^ y = z)
    (g : Go p l e R s m args below meth c Y n0 G h k n (mkF m pc' Ls (.int z :: S))) : Go p l e R s m args below meth c Y n0 G h k n (mkF m pc Ls (.int y :: .int x :: S)) := by
  subst hp hv; exact stepG (fun T locs X _ _ q => XS.ixor X.here C.1 rfl (hb C.2.2.1 hd) rfl q) g
theorem ladd (C : Cx p s m meth c Z n0 own bytes ml ret) {x y z : Int64} (hd : decode bytes pc = .ok (.ladd, 1)) (hp : pc + 1 = pc') (hv : x + y = z)
    (g : Go p l e R s m args below meth c Y n0 G h k n (mkF m pc' Ls (.long z :: S))) : Go p l e R s m args below meth c Y n0 G h k n (mkF m pc Ls (.long y :: .long x :: S)) := by
  subst hp hv; exact stepG (fun T locs X _ _ q => XS.ladd X.here C.1 rfl (hb C.2.2.1 hd) rfl q) g
theorem lsub (C : Cx p s m meth c Z n0 own bytes ml ret) {x y z : Int64} (hd : decode bytes pc = .ok (.lsub, 1)) (hp : pc + 1 = pc') (hv : x - y = z)
    (g : Go p l e R s m args below meth c Y n0 G h k n (mkF m pc' Ls (.long z :: S))) : Go p l e R s m args below meth c Y n0 G h k n (mkF m pc Ls (.long y :: .long x :: S)) := by
  subst hp hv; exact stepG (fun T locs X _ _ q => XS.lsub X.here C.1 rfl (hb C.2.2.1 hd) rfl q) g
theorem lmul (C : Cx p s m meth c Z n0 own bytes ml ret) {x y z : Int64} (hd : decode bytes pc = .ok (.lmul, 1)) (hp : pc + 1 = pc') (hv : x * y = z)
    (g : Go p l e R s m args below meth c Y n0 G h k n (mkF m pc' Ls (.long z :: S))) : Go p l e R s m args below meth c Y n0 G h k n (mkF m pc Ls (.long y :: .long x :: S)) := by
  subst hp hv; exact stepG (fun T locs X _ _ q => XS.lmul X.here C.1 rfl (hb C.2.2.1 hd) rfl q) g
theorem land (C : Cx p s m meth c Z n0 own bytes ml ret) {x y z : Int64} (hd : decode bytes pc = .ok (.land, 1)) (hp : pc + 1 = pc') (hv : x &&& y = z)
    (g : Go p l e R s m args below meth c Y n0 G h k n (mkF m pc' Ls (.long z :: S))) : Go p l e R s m args below meth c Y n0 G h k n (mkF m pc Ls (.long y :: .long x :: S)) := by
  subst hp hv; exact stepG (fun T locs X _ _ q => XS.land X.here C.1 rfl (hb C.2.2.1 hd) rfl q) g
theorem lor (C : Cx p s m meth c Z n0 own bytes ml ret) {x y z : Int64} (hd : decode bytes pc = .ok (.lor, 1)) (hp : pc + 1 = pc') (hv : x ||| y = z)
    (g : Go p l e R s m args below meth c Y n0 G h k n (mkF m pc' Ls (.long z :: S))) : Go p l e R s m args below meth c Y n0 G h k n (mkF m pc Ls (.long y :: .long x :: S)) := by
  subst hp hv; exact stepG (fun T locs X _ _ q => XS.lor X.here C.1 rfl (hb C.2.2.1 hd) rfl q) g
theorem lxor (C : Cx p s m meth c Z n0 own bytes ml ret) {x y z : Int64} (hd : decode bytes pc = .ok (.lxor, 1)) (hp : pc + 1 = pc') (hv : x ^^^ y = z)
    (g : Go p l e R s m args below meth c Y n0 G h k n (mkF m pc' Ls (.long z :: S))) : Go p l e R s m args below meth c Y n0 G h k n (mkF m pc Ls (.long y :: .long x :: S)) := by
  subst hp hv; exact stepG (fun T locs X _ _ q => XS.lxor X.here C.1 rfl (hb C.2.2.1 hd) rfl q) g
theorem ishl (C : Cx p s m meth c Z n0 own bytes ml ret) {x z : Int32} {y : Int32} (hd : decode bytes pc = .ok (.ishl, 1)) (hp : pc + 1 = pc') (hv : (x <<< (y &&& 31)) = z)
    (g : Go p l e R s m args below meth c Y n0 G h k n (mkF m pc' Ls (.int z :: S))) : Go p l e R s m args below meth c Y n0 G h k n (mkF m pc Ls (.int y :: .int x :: S)) := by
  subst hp hv; exact stepG (fun T locs X _ _ q => XS.ishl X.here C.1 rfl (hb C.2.2.1 hd) rfl q) g
theorem ishr (C : Cx p s m meth c Z n0 own bytes ml ret) {x z : Int32} {y : Int32} (hd : decode bytes pc = .ok (.ishr, 1)) (hp : pc + 1 = pc') (hv : (x >>> (y &&& 31)) = z)
    (g : Go p l e R s m args below meth c Y n0 G h k n (mkF m pc' Ls (.int z :: S))) : Go p l e R s m args below meth c Y n0 G h k n (mkF m pc Ls (.int y :: .int x :: S)) := by
  subst hp hv; exact stepG (fun T locs X _ _ q => XS.ishr X.here C.1 rfl (hb C.2.2.1 hd) rfl q) g
theorem iushr (C : Cx p s m meth c Z n0 own bytes ml ret) {x z : Int32} {y : Int32} (hd : decode bytes pc = .ok (.iushr, 1)) (hp : pc + 1 = pc') (hv : ((x).toUInt32 >>> (y &&& 31).toUInt32).toInt32 = z)
    (g : Go p l e R s m args below meth c Y n0 G h k n (mkF m pc' Ls (.int z :: S))) : Go p l e R s m args below meth c Y n0 G h k n (mkF m pc Ls (.int y :: .int x :: S)) := by
  subst hp hv; exact stepG (fun T locs X _ _ q => XS.iushr X.here C.1 rfl (hb C.2.2.1 hd) rfl q) g
theorem lshl (C : Cx p s m meth c Z n0 own bytes ml ret) {x z : Int64} {y : Int32} (hd : decode bytes pc = .ok (.lshl, 1)) (hp : pc + 1 = pc') (hv : (x <<< (y &&& 0x3f).toInt64) = z)
    (g : Go p l e R s m args below meth c Y n0 G h k n (mkF m pc' Ls (.long z :: S))) : Go p l e R s m args below meth c Y n0 G h k n (mkF m pc Ls (.int y :: .long x :: S)) := by
  subst hp hv; exact stepG (fun T locs X _ _ q => XS.lshl X.here C.1 rfl (hb C.2.2.1 hd) rfl q) g
theorem lshr (C : Cx p s m meth c Z n0 own bytes ml ret) {x z : Int64} {y : Int32} (hd : decode bytes pc = .ok (.lshr, 1)) (hp : pc + 1 = pc') (hv : (x >>> (y &&& 0x3f).toInt64) = z)
    (g : Go p l e R s m args below meth c Y n0 G h k n (mkF m pc' Ls (.long z :: S))) : Go p l e R s m args below meth c Y n0 G h k n (mkF m pc Ls (.int y :: .long x :: S)) := by
  subst hp hv; exact stepG (fun T locs X _ _ q => XS.lshr X.here C.1 rfl (hb C.2.2.1 hd) rfl q) g
theorem lushr (C : Cx p s m meth c Z n0 own bytes ml ret) {x z : Int64} {y : Int32} (hd : decode bytes pc = .ok (.lushr, 1)) (hp : pc + 1 = pc') (hv : ((x).toUInt64 >>> (y &&& 0x3f).toInt64.toUInt64).toInt64 = z)
    (g : Go p l e R s m args below meth c Y n0 G h k n (mkF m pc' Ls (.long z :: S))) : Go p l e R s m args below meth c Y n0 G h k n (mkF m pc Ls (.int y :: .long x :: S)) := by
  subst hp hv; exact stepG (fun T locs X _ _ q => XS.lushr X.here C.1 rfl (hb C.2.2.1 hd) rfl q) g
theorem ineg (C : Cx p s m meth c Z n0 own bytes ml ret) {x : Int32} {z : Int32} (hd : decode bytes pc = .ok (.ineg, 1)) (hp : pc + 1 = pc') (hv : (-x) = z)
    (g : Go p l e R s m args below meth c Y n0 G h k n (mkF m pc' Ls (.int z :: S))) : Go p l e R s m args below meth c Y n0 G h k n (mkF m pc Ls (.int x :: S)) := by
  subst hp hv; exact stepG (fun T locs X _ _ q => XS.ineg X.here C.1 rfl (hb C.2.2.1 hd) rfl q) g
theorem lneg (C : Cx p s m meth c Z n0 own bytes ml ret) {x : Int64} {z : Int64} (hd : decode bytes pc = .ok (.lneg, 1)) (hp : pc + 1 = pc') (hv : (-x) = z)
    (g : Go p l e R s m args below meth c Y n0 G h k n (mkF m pc' Ls (.long z :: S))) : Go p l e R s m args below meth c Y n0 G h k n (mkF m pc Ls (.long x :: S)) := by
  subst hp hv; exact stepG (fun T locs X _ _ q => XS.lneg X.here C.1 rfl (hb C.2.2.1 hd) rfl q) g
theorem i2l (C : Cx p s m meth c Z n0 own bytes ml ret) {x : Int32} {z : Int64} (hd : decode bytes pc = .ok (.i2l, 1)) (hp : pc + 1 = pc') (hv : (x).toInt64 = z)
    (g : Go p l e R s m args below meth c Y n0 G h k n (mkF m pc' Ls (.long z :: S))) : Go p l e R s m args below meth c Y n0 G h k n (mkF m pc Ls (.int x :: S)) := by
  subst hp hv; exact stepG (fun T locs X _ _ q => XS.i2l X.here C.1 rfl (hb C.2.2.1 hd) rfl q) g
theorem l2i (C : Cx p s m meth c Z n0 own bytes ml ret) {x : Int64} {z : Int32} (hd : decode bytes pc = .ok (.l2i, 1)) (hp : pc + 1 = pc') (hv : (x).toInt32 = z)
    (g : Go p l e R s m args below meth c Y n0 G h k n (mkF m pc' Ls (.int z :: S))) : Go p l e R s m args below meth c Y n0 G h k n (mkF m pc Ls (.long x :: S)) := by
  subst hp hv; exact stepG (fun T locs X _ _ q => XS.l2i X.here C.1 rfl (hb C.2.2.1 hd) rfl q) g
theorem i2b (C : Cx p s m meth c Z n0 own bytes ml ret) {x : Int32} {z : Int32} (hd : decode bytes pc = .ok (.i2b, 1)) (hp : pc + 1 = pc') (hv : (x).toInt8.toInt32 = z)
    (g : Go p l e R s m args below meth c Y n0 G h k n (mkF m pc' Ls (.int z :: S))) : Go p l e R s m args below meth c Y n0 G h k n (mkF m pc Ls (.int x :: S)) := by
  subst hp hv; exact stepG (fun T locs X _ _ q => XS.i2b X.here C.1 rfl (hb C.2.2.1 hd) rfl q) g
theorem i2s (C : Cx p s m meth c Z n0 own bytes ml ret) {x : Int32} {z : Int32} (hd : decode bytes pc = .ok (.i2s, 1)) (hp : pc + 1 = pc') (hv : (x).toInt16.toInt32 = z)
    (g : Go p l e R s m args below meth c Y n0 G h k n (mkF m pc' Ls (.int z :: S))) : Go p l e R s m args below meth c Y n0 G h k n (mkF m pc Ls (.int x :: S)) := by
  subst hp hv; exact stepG (fun T locs X _ _ q => XS.i2s X.here C.1 rfl (hb C.2.2.1 hd) rfl q) g
theorem i2c (C : Cx p s m meth c Z n0 own bytes ml ret) {x : Int32} {z : Int32} (hd : decode bytes pc = .ok (.i2c, 1)) (hp : pc + 1 = pc') (hv : (x).toUInt32.toUInt16.toUInt32.toInt32 = z)
    (g : Go p l e R s m args below meth c Y n0 G h k n (mkF m pc' Ls (.int z :: S))) : Go p l e R s m args below meth c Y n0 G h k n (mkF m pc Ls (.int x :: S)) := by
  subst hp hv; exact stepG (fun T locs X _ _ q => XS.i2c X.here C.1 rfl (hb C.2.2.1 hd) rfl q) g
theorem idiv (C : Cx p s m meth c Z n0 own bytes ml ret) {x y z : Int32} (hd : decode bytes pc = .ok (.idiv, 1)) (hp : pc + 1 = pc') (hy : y ≠ 0) (hv : x / y = z)
    (g : Go p l e R s m args below meth c Y n0 G h k n (mkF m pc' Ls (.int z :: S))) : Go p l e R s m args below meth c Y n0 G h k n (mkF m pc Ls (.int y :: .int x :: S)) := by
  subst hp hv; exact stepG (fun T locs X _ _ q => XS.idiv X.here C.1 rfl (hb C.2.2.1 hd) rfl hy q) g
theorem ldiv (C : Cx p s m meth c Z n0 own bytes ml ret) {x y z : Int64} (hd : decode bytes pc = .ok (.ldiv, 1)) (hp : pc + 1 = pc') (hy : y ≠ 0) (hv : x / y = z)
    (g : Go p l e R s m args below meth c Y n0 G h k n (mkF m pc' Ls (.long z :: S))) : Go p l e R s m args below meth c Y n0 G h k n (mkF m pc Ls (.long y :: .long x :: S)) := by
  subst hp hv; exact stepG (fun T locs X _ _ q => XS.ldiv X.here C.1 rfl (hb C.2.2.1 hd) rfl hy q) g
theorem irem (C : Cx p s m meth c Z n0 own bytes ml ret) {x y z : Int32} (hd : decode bytes pc = .ok (.irem, 1)) (hp : pc + 1 = pc') (hy : y ≠ 0) (hv : x % y = z)
    (g : Go p l e R s m args below meth c Y n0 G h k n (mkF m pc' Ls (.int z :: S))) : Go p l e R s m args below meth c Y n0 G h k n (mkF m pc Ls (.int y :: .int x :: S)) := by
  subst hp; rw [← irem_eq_mod x y] at hv; subst hv; exact stepG (fun T locs X _ _ q => XS.irem X.here C.1 rfl (hb C.2.2.1 hd) rfl hy q) g
theorem lrem (C : Cx p s m meth c Z n0 own bytes ml ret) {x y z : Int64} (hd : decode bytes pc = .ok (.lrem, 1)) (hp : pc + 1 = pc') (hy : y ≠ 0) (hv : x % y = z)
    (g : Go p l e R s m args below meth c Y n0 G h k n (mkF m pc' Ls (.long z :: S))) : Go p l e R s m args below meth c Y n0 G h k n (mkF m pc Ls (.long y :: .long x :: S)) := by
  subst hp; rw [← lrem_mod x y] at hv; subst hv; exact stepG (fun T locs X _ _ q => XS.lrem X.here C.1 rfl (hb C.2.2.1 hd) rfl hy q) g
theorem iinc (C : Cx p s m meth c Z n0 own bytes ml ret) {i : Nat} {cst : Int} {x z : Int32} (hd : decode bytes pc = .ok (.iinc i cst, 3)) (hp : pc + 3 = pc') (hl : Ls[i]? = some (.val (.int x))) (hv : x + Int32.ofInt cst = z) (hl' : storeLocals Ls i (.int z) = some Ls')
    (g : Go p l e R s m args below meth c Y n0 G h k n (mkF m pc' Ls' S)) : Go p l e R s m args below meth c Y n0 G h k n (mkF m pc Ls S) := by
  subst hp hv; exact stepG (fun T locs X _ _ q => XS.iinc X.here C.1 rfl (hb C.2.2.1 hd) hl hl' q) g
theorem dup (C : Cx p s m meth c Z n0 own bytes ml ret) {x : Value} (hd : decode bytes pc = .ok (.dup, 1)) (hp : pc + 1 = pc') (hc : x.category = 1)
    (g : Go p l e R s m args below meth c Y n0 G h k n (mkF m pc' Ls (x :: x :: S))) : Go p l e R s m args below meth c Y n0 G h k n (mkF m pc Ls (x :: S)) := by
  subst hp; exact stepG (fun T locs X _ _ q => XS.dup X.here C.1 rfl (hb C.2.2.1 hd) rfl hc q) g
theorem dup_x1 (C : Cx p s m meth c Z n0 own bytes ml ret) {x y : Value} (hd : decode bytes pc = .ok (.dup_x1, 1)) (hp : pc + 1 = pc') (hc : x.category = 1) (hc2 : y.category = 1)
    (g : Go p l e R s m args below meth c Y n0 G h k n (mkF m pc' Ls (x :: y :: x :: S))) : Go p l e R s m args below meth c Y n0 G h k n (mkF m pc Ls (x :: y :: S)) := by
  subst hp; exact stepG (fun T locs X _ _ q => XS.dupX1 X.here C.1 rfl (hb C.2.2.1 hd) rfl hc hc2 q) g
theorem dup2L (C : Cx p s m meth c Z n0 own bytes ml ret) {x : Int64} (hd : decode bytes pc = .ok (.dup2, 1)) (hp : pc + 1 = pc')
    (g : Go p l e R s m args below meth c Y n0 G h k n (mkF m pc' Ls (.long x :: .long x :: S))) : Go p l e R s m args below meth c Y n0 G h k n (mkF m pc Ls (.long x :: S)) := by
  subst hp; exact stepG (fun T locs X _ _ q => Jvm.Free.XT.dup2L X.here C.1 rfl (hb C.2.2.1 hd) rfl q) g
theorem dup2 (C : Cx p s m meth c Z n0 own bytes ml ret) {x y : Value} (hd : decode bytes pc = .ok (.dup2, 1)) (hp : pc + 1 = pc') (hc : x.category = 1) (hc2 : y.category = 1)
    (g : Go p l e R s m args below meth c Y n0 G h k n (mkF m pc' Ls (x :: y :: x :: y :: S))) : Go p l e R s m args below meth c Y n0 G h k n (mkF m pc Ls (x :: y :: S)) := by
  subst hp; exact stepG (fun T locs X _ _ q => Jvm.Free.XT.dup2 X.here C.1 rfl (hb C.2.2.1 hd) rfl hc hc2 q) g
theorem pop (C : Cx p s m meth c Z n0 own bytes ml ret) {x : Value} (hd : decode bytes pc = .ok (.pop, 1)) (hp : pc + 1 = pc') (hc : x.category = 1)
    (g : Go p l e R s m args below meth c Y n0 G h k n (mkF m pc' Ls S)) : Go p l e R s m args below meth c Y n0 G h k n (mkF m pc Ls (x :: S)) := by
  subst hp; exact stepG (fun T locs X _ _ q => XS.pop X.here C.1 rfl (hb C.2.2.1 hd) rfl hc q) g
theorem goto (C : Cx p s m meth c Z n0 own bytes ml ret) {o : Int} (hd : decode bytes pc = .ok (.goto o, 3)) (ho : 0 ≤ (pc : Int) + o) (hp : ((pc : Int) + o).toNat = pc')
    (g : Go p l e R s m args below meth c Y n0 G h k n (mkF m pc' Ls S)) : Go p l e R s m args below meth c Y n0 G h k n (mkF m pc Ls S) := by
  exact stepG (fun T locs X _ _ q => XS.goto X.here C.1 rfl (pc0 := pc) rfl (hb C.2.2.1 hd) ho hp q) g

/-! branches: P: taken, P': not taken -/
theorem icmp (C : Cx p s m meth c Z n0 own bytes ml ret) {cd : ClassFile.Cond} {o : Int} {x y : Int32} (hd : decode bytes pc = .ok (.if_icmp cd o, 3)) (ho : 0 ≤ (pc : Int) + o) (hp : ((pc : Int) + o).toNat = pc') (hn : pc + 3 = pn)
    {P P' : Prop} (q : (P → if_icmp.holds cd x y = true) ∧ (P' → if_icmp.holds cd x y = false) ∧ (P ∨ P'))
    (g1 : P → Go p l e R s m args below meth c Y n0 G h k n (mkF m pc' Ls S)) (g2 : P' → Go p l e R s m args below meth c Y n0 G h k n (mkF m pn Ls S)) : Go p l e R s m args below meth c Y n0 G h k n (mkF m pc Ls (.int y :: .int x :: S)) := by
  rcases q.2.2 with hP | hP
  · exact stepG (fun T locs X _ _ z => XS.icmpYes X.here C.1 rfl (pc0 := pc) rfl (hb C.2.2.1 hd) rfl (q.1 hP) ho hp z) (g1 hP)
  · subst hn; exact stepG (fun T locs X _ _ z => XS.icmpNo X.here C.1 rfl (hb C.2.2.1 hd) rfl (q.2.1 hP) z) (g2 hP)
theorem ifc (C : Cx p s m meth c Z n0 own bytes ml ret) {cd : ClassFile.Cond} {o : Int} {x : Int32} (hd : decode bytes pc = .ok (.ifCond cd o, 3)) (ho : 0 ≤ (pc : Int) + o) (hp : ((pc : Int) + o).toNat = pc') (hn : pc + 3 = pn)
    {P P' : Prop} (q : (P → if_icmp.holds cd x 0 = true) ∧ (P' → if_icmp.holds cd x 0 = false) ∧ (P ∨ P'))
    (g1 : P → Go p l e R s m args below meth c Y n0 G h k n (mkF m pc' Ls S)) (g2 : P' → Go p l e R s m args below meth c Y n0 G h k n (mkF m pn Ls S)) : Go p l e R s m args below meth c Y n0 G h k n (mkF m pc Ls (.int x :: S)) := by
  rcases q.2.2 with hP | hP
  · exact stepG (fun T locs X _ _ z => XS.ifYes X.here C.1 rfl (pc0 := pc) rfl (hb C.2.2.1 hd) rfl ((if0 _ _).trans (q.1 hP)) ho hp z) (g1 hP)
  · subst hn; exact stepG (fun T locs X _ _ z => XS.ifNo X.here C.1 rfl (hb C.2.2.1 hd) rfl ((if0 _ _).trans (q.2.1 hP)) z) (g2 hP)
/-- lcmp and the branch behind it -/
theorem lcif (C : Cx p s m meth c Z n0 own bytes ml ret) {cd : ClassFile.Cond} {o : Int} {x y : Int64} {pm : Nat} (hd0 : decode bytes pc = .ok (.lcmp, 1)) (hm : pc + 1 = pm) (hd : decode bytes pm = .ok (.ifCond cd o, 3)) (ho : 0 ≤ (pm : Int) + o) (hp : ((pm : Int) + o).toNat = pc') (hn : pm + 3 = pn)
    {P P' : Prop} (q : (P → if_icmp.holds cd (lcmpW x y) 0 = true) ∧ (P' → if_icmp.holds cd (lcmpW x y) 0 = false) ∧ (P ∨ P'))
    (g1 : P → Go p l e R s m args below meth c Y n0 G h k n (mkF m pc' Ls S)) (g2 : P' → Go p l e R s m args below meth c Y n0 G h k n (mkF m pn Ls S)) : Go p l e R s m args below meth c Y n0 G h k n (mkF m pc Ls (.long y :: .long x :: S)) := by
  subst hm
  exact stepG (fun T locs X _ _ z => XS.lcmp X.here C.1 rfl (hb C.2.2.1 hd0) rfl z) (ifc C hd ho hp hn q g1 g2)
theorem q_lt (x y : Int32) : (x.toInt < y.toInt → if_icmp.holds .lt x y = true) ∧ (y.toInt ≤ x.toInt → if_icmp.holds .lt x y = false) ∧ (x.toInt < y.toInt ∨ y.toInt ≤ x.toInt) :=
  ⟨fun q => (tlt (Int32.lt_iff_toInt_lt.mpr q)).1, fun q => (flt (fun w => absurd (Int32.lt_iff_toInt_lt.mp w) (Int.not_lt.mpr q))).1, Int.lt_or_le _ _⟩
theorem q_ge (x y : Int32) : (y.toInt ≤ x.toInt → if_icmp.holds .ge x y = true) ∧ (x.toInt < y.toInt → if_icmp.holds .ge x y = false) ∧ (y.toInt ≤ x.toInt ∨ x.toInt < y.toInt) :=
  ⟨fun q => (flt (fun w => absurd (Int32.lt_iff_toInt_lt.mp w) (Int.not_lt.mpr q))).2.1, fun q => (tlt (Int32.lt_iff_toInt_lt.mpr q)).2.1, (Int.lt_or_le _ _).symm⟩
theorem q_gt (x y : Int32) : (y.toInt < x.toInt → if_icmp.holds .gt x y = true) ∧ (x.toInt ≤ y.toInt → if_icmp.holds .gt x y = false) ∧ (y.toInt < x.toInt ∨ x.toInt ≤ y.toInt) :=
  ⟨fun q => (tlt (Int32.lt_iff_toInt_lt.mpr q)).2.2.1, fun q => (flt (fun w => absurd (Int32.lt_iff_toInt_lt.mp w) (Int.not_lt.mpr q))).2.2.1, Int.lt_or_le _ _⟩
theorem q_le (x y : Int32) : (x.toInt ≤ y.toInt → if_icmp.holds .le x y = true) ∧ (y.toInt < x.toInt → if_icmp.holds .le x y = false) ∧ (x.toInt ≤ y.toInt ∨ y.toInt < x.toInt) :=
  ⟨fun q => (flt (fun w => absurd (Int32.lt_iff_toInt_lt.mp w) (Int.not_lt.mpr q))).2.2.2, fun q => (tlt (Int32.lt_iff_toInt_lt.mpr q)).2.2.2, (Int.lt_or_le _ _).symm⟩
theorem q_eq (x y : Int32) : (x = y → if_icmp.holds .eq x y = true) ∧ (¬ x = y → if_icmp.holds .eq x y = false) ∧ (x = y ∨ ¬ x = y) := ⟨fun q => (teq q).1, fun q => (feq q).1, Classical.em _⟩
theorem q_ne (x y : Int32) : (¬ x = y → if_icmp.holds .ne x y = true) ∧ (x = y → if_icmp.holds .ne x y = false) ∧ (¬ x = y ∨ x = y) := ⟨fun q => (feq q).2, fun q => (teq q).2, (Classical.em _).symm⟩
theorem ql_lt (x y : Int64) : (x.toInt < y.toInt → if_icmp.holds .lt (lcmpW x y) 0 = true) ∧ (y.toInt ≤ x.toInt → if_icmp.holds .lt (lcmpW x y) 0 = false) ∧ (x.toInt < y.toInt ∨ y.toInt ≤ x.toInt) :=
  ⟨fun q => (tlt ((lw_lt x y).mpr (Int64.lt_iff_toInt_lt.mpr q))).1, fun q => (flt (fun w => absurd (Int64.lt_iff_toInt_lt.mp ((lw_lt x y).mp w)) (Int.not_lt.mpr q))).1, Int.lt_or_le _ _⟩
theorem ql_ge (x y : Int64) : (y.toInt ≤ x.toInt → if_icmp.holds .ge (lcmpW x y) 0 = true) ∧ (x.toInt < y.toInt → if_icmp.holds .ge (lcmpW x y) 0 = false) ∧ (y.toInt ≤ x.toInt ∨ x.toInt < y.toInt) :=
  ⟨fun q => (flt (fun w => absurd (Int64.lt_iff_toInt_lt.mp ((lw_lt x y).mp w)) (Int.not_lt.mpr q))).2.1, fun q => (tlt ((lw_lt x y).mpr (Int64.lt_iff_toInt_lt.mpr q))).2.1, (Int.lt_or_le _ _).symm⟩
theorem ql_gt (x y : Int64) : (y.toInt < x.toInt → if_icmp.holds .gt (lcmpW x y) 0 = true) ∧ (x.toInt ≤ y.toInt → if_icmp.holds .gt (lcmpW x y) 0 = false) ∧ (y.toInt < x.toInt ∨ x.toInt ≤ y.toInt) :=
  ⟨fun q => (tlt ((lw_gt x y).mpr (Int64.lt_iff_toInt_lt.mpr q))).2.2.1, fun q => (flt (fun w => absurd (Int64.lt_iff_toInt_lt.mp ((lw_gt x y).mp w)) (Int.not_lt.mpr q))).2.2.1, Int.lt_or_le _ _⟩
theorem ql_le (x y : Int64) : (x.toInt ≤ y.toInt → if_icmp.holds .le (lcmpW x y) 0 = true) ∧ (y.toInt < x.toInt → if_icmp.holds .le (lcmpW x y) 0 = false) ∧ (x.toInt ≤ y.toInt ∨ y.toInt < x.toInt) :=
  ⟨fun q => (flt (fun w => absurd (Int64.lt_iff_toInt_lt.mp ((lw_gt x y).mp w)) (Int.not_lt.mpr q))).2.2.2, fun q => (tlt ((lw_gt x y).mpr (Int64.lt_iff_toInt_lt.mpr q))).2.2.2, (Int.lt_or_le _ _).symm⟩
theorem ql_eq (x y : Int64) : (x = y → if_icmp.holds .eq (lcmpW x y) 0 = true) ∧ (¬ x = y → if_icmp.holds .eq (lcmpW x y) 0 = false) ∧ (x = y ∨ ¬ x = y) := ⟨fun q => (teq ((lw_eq x y).mpr q)).1, fun q => (feq (fun w => q ((lw_eq x y).mp w))).1, Classical.em _⟩
theorem ql_ne (x y : Int64) : (¬ x = y → if_icmp.holds .ne (lcmpW x y) 0 = true) ∧ (x = y → if_icmp.holds .ne (lcmpW x y) 0 = false) ∧ (¬ x = y ∨ x = y) := ⟨fun q => (feq (fun w => q ((lw_eq x y).mp w))).2, fun q => (teq ((lw_eq x y).mpr q)).2, (Classical.em _).symm⟩

theorem acmp (C : Cx p s m meth c Z n0 own bytes ml ret) {cd : ACond} {o : Int} {x y : Value} (h1 : x.isRef = true) (h2 : y.isRef = true) (hd : decode bytes pc = .ok (.if_acmp cd o, 3)) (ho : 0 ≤ (pc : Int) + o) (hp : ((pc : Int) + o).toNat = pc') (hn : pc + 3 = pn)
    {P P' : Prop} (q : (P → acV cd (decide (x = y)) = true) ∧ (P' → acV cd (decide (x = y)) = false) ∧ (P ∨ P'))
    (g1 : P → Go p l e R s m args below meth c Y n0 G h k n (mkF m pc' Ls S)) (g2 : P' → Go p l e R s m args below meth c Y n0 G h k n (mkF m pn Ls S)) : Go p l e R s m args below meth c Y n0 G h k n (mkF m pc Ls (y :: x :: S)) := by
  rcases q.2.2 with hP | hP
  · exact stepG (fun T locs X _ _ z => Jvm.RoadKit.acmp (g := mkF m pc Ls (y :: x :: S)) X C.1 rfl h1 h2 (pc0 := pc) (pc' := pc') (same := decide (x = y)) rfl (hb C.2.2.1 hd) rfl rfl ho (by rw [q.1 hP]; exact hp.symm) z) (g1 hP)
  · exact stepG (fun T locs X _ _ z => Jvm.RoadKit.acmp (g := mkF m pc Ls (y :: x :: S)) X C.1 rfl h1 h2 (pc0 := pc) (pc' := pn) (same := decide (x = y)) rfl (hb C.2.2.1 hd) rfl rfl ho (by rw [q.2.1 hP]; exact hn.symm) z) (g2 hP)
theorem qa_eq (a b : Addr) : (a = b → acV .eq (decide (Value.ref a = Value.ref b)) = true) ∧ (¬ a = b → acV .eq (decide (Value.ref a = Value.ref b)) = false) ∧ (a = b ∨ ¬ a = b) :=
  ⟨fun q => decide_eq_true (congrArg Value.ref q), fun q => decide_eq_false fun z => q (Value.ref.inj z), Classical.em _⟩
theorem qa_ne (a b : Addr) : (¬ a = b → acV .ne (decide (Value.ref a = Value.ref b)) = true) ∧ (a = b → acV .ne (decide (Value.ref a = Value.ref b)) = false) ∧ (¬ a = b ∨ a = b) :=
  ⟨fun q => by rw [decide_eq_false fun z => q (Value.ref.inj z)]; rfl, fun q => by rw [decide_eq_true (congrArg Value.ref q)]; rfl, (Classical.em _).symm⟩
theorem ifnullT (C : Cx p s m meth c Z n0 own bytes ml ret) {o : Int} (hd : decode bytes pc = .ok (.ifnull o, 3)) (ho : 0 ≤ (pc : Int) + o) (hp : ((pc : Int) + o).toNat = pc')
    (g : Go p l e R s m args below meth c Y n0 G h k n (mkF m pc' Ls S)) : Go p l e R s m args below meth c Y n0 G h k n (mkF m pc Ls (.null :: S)) := stepG (fun T locs X _ _ z => XS.ifnullYes X.here C.1 rfl (pc0 := pc) rfl (hb C.2.2.1 hd) rfl ho hp z) g
theorem ifnullF (C : Cx p s m meth c Z n0 own bytes ml ret) {o : Int} {a : Addr} (hd : decode bytes pc = .ok (.ifnull o, 3)) (hp : pc + 3 = pc')
    (g : Go p l e R s m args below meth c Y n0 G h k n (mkF m pc' Ls S)) : Go p l e R s m args below meth c Y n0 G h k n (mkF m pc Ls (.ref a :: S)) := by subst hp; exact stepG (fun T locs X _ _ z => XS.ifnullNo X.here C.1 rfl (hb C.2.2.1 hd) rfl z) g
theorem ifnonnullT (C : Cx p s m meth c Z n0 own bytes ml ret) {o : Int} {a : Addr} (hd : decode bytes pc = .ok (.ifnonnull o, 3)) (ho : 0 ≤ (pc : Int) + o) (hp : ((pc : Int) + o).toNat = pc')
    (g : Go p l e R s m args below meth c Y n0 G h k n (mkF m pc' Ls S)) : Go p l e R s m args below meth c Y n0 G h k n (mkF m pc Ls (.ref a :: S)) := stepG (fun T locs X _ _ z => XS.ifnonnullYes X.here C.1 rfl (pc0 := pc) rfl (hb C.2.2.1 hd) rfl ho hp z) g
theorem ifnonnullF (C : Cx p s m meth c Z n0 own bytes ml ret) {o : Int} (hd : decode bytes pc = .ok (.ifnonnull o, 3)) (hp : pc + 3 = pc')
    (g : Go p l e R s m args below meth c Y n0 G h k n (mkF m pc' Ls S)) : Go p l e R s m args below meth c Y n0 G h k n (mkF m pc Ls (.null :: S)) := by subst hp; exact stepG (fun T locs X _ _ z => XS.ifnonnullNo X.here C.1 rfl (hb C.2.2.1 hd) rfl z) g

/-! returns -/
theorem retZ {t : FieldType} (C : Cx p s m meth c Z n0 own bytes ml (some t)) {z w : Int32} (ht : t = .boolean ∨ t = .byte ∨ t = .char ∨ t = .short) (hd : decode bytes pc = .ok (.ireturn, 1)) (hv : nar t z = w) (hk : k ≤ K) (hn : n ≤ N) (hY : ∀ s₂ o L, s₂.heap = h → FrameEnd s o s₂ L K N → Y s₂ o L) (g : G (some (.int w)) h) :
    Go p l e R s m args below meth c Y n0 G h k n (mkF m pc Ls (.int z :: S)) := fun T ⟨locs, F, X, eT⟩ => by
  subst hv eT
  have hlk : meth.locks = false := C.2.2.2.2.2.2.1
  obtain ⟨fs, hr, hrun, hended, hW, hsame⟩ := X.leave (v := some (.int (nar t z))) (fun q => by rw [C.2.2.2.2.2.1] at q; cases q) hlk
  exact ⟨_, _, retN X C.1 (t := t) C.2.2.2.2.2.1 ht (hb C.2.2.1 hd) hr, hrun, hended, _, _, rfl, ⟨g, F⟩, hY _ _ _ rfl ⟨⟨_, rfl⟩, hW, hsame.mono hk hn⟩⟩
theorem retV {t : FieldType} (C : Cx p s m meth c Z n0 own bytes ml (some t)) {w : Value} {i : Instr} (hv : narrow t w = w)
    (hi : (i = .ireturn ∧ (t = .int ∨ t = .boolean ∨ t = .byte ∨ t = .char ∨ t = .short) ∧ ∃ z, w = .int z) ∨ (i = .lreturn ∧ t = .long ∧ ∃ z, w = .long z) ∨ (i = .dreturn ∧ t = .double ∧ ∃ z, w = .double z) ∨ (i = .freturn ∧ t = .float ∧ ∃ z, w = .float z) ∨ (i = .areturn ∧ t.isReference = true ∧ w.isRef = true))
    (hd : decode bytes pc = .ok (i, 1)) (hk : k ≤ K) (hn : n ≤ N) (hY : ∀ s₂ o L, s₂.heap = h → FrameEnd s o s₂ L K N → Y s₂ o L) (g : G (some w) h) :
    Go p l e R s m args below meth c Y n0 G h k n (mkF m pc Ls (w :: S)) := fun T ⟨locs, F, X, eT⟩ => by
  subst eT
  have hlk : meth.locks = false := C.2.2.2.2.2.2.1
  obtain ⟨fs, hr, hrun, hended, hW, hsame⟩ := X.leave (v := some w) (fun q => by rw [C.2.2.2.2.2.1] at q; cases q) hlk
  exact ⟨_, _, retOut X C.1 (t := t) C.2.2.2.2.2.1 hv hi (hb C.2.2.1 hd) hr, hrun, hended, _, _, rfl, ⟨g, F⟩, hY _ _ _ rfl ⟨⟨_, rfl⟩, hW, hsame.mono hk hn⟩⟩
theorem retI (C : Cx p s m meth c Z n0 own bytes ml (some .int)) {z : Int32} (hd : decode bytes pc = .ok (.ireturn, 1)) (hk : k ≤ K) (hn : n ≤ N) (hY : ∀ s₂ o L, s₂.heap = h → FrameEnd s o s₂ L K N → Y s₂ o L) (g : G (some (.int z)) h) :
    Go p l e R s m args below meth c Y n0 G h k n (mkF m pc Ls (.int z :: S)) := retV C rfl (Or.inl ⟨rfl, Or.inl rfl, _, rfl⟩) hd hk hn hY g
theorem retL (C : Cx p s m meth c Z n0 own bytes ml (some .long)) {z : Int64} (hd : decode bytes pc = .ok (.lreturn, 1)) (hk : k ≤ K) (hn : n ≤ N) (hY : ∀ s₂ o L, s₂.heap = h → FrameEnd s o s₂ L K N → Y s₂ o L) (g : G (some (.long z)) h) :
    Go p l e R s m args below meth c Y n0 G h k n (mkF m pc Ls (.long z :: S)) := retV C rfl (Or.inr (Or.inl ⟨rfl, rfl, _, rfl⟩)) hd hk hn hY g
theorem retA {t : FieldType} (C : Cx p s m meth c Z n0 own bytes ml (some t)) {w : Value} (ht : t.isReference = true) (hw : w.isRef = true) (hn' : narrow t w = w) (hd : decode bytes pc = .ok (.areturn, 1)) (hk : k ≤ K) (hn : n ≤ N) (hY : ∀ s₂ o L, s₂.heap = h → FrameEnd s o s₂ L K N → Y s₂ o L) (g : G (some w) h) :
    Go p l e R s m args below meth c Y n0 G h k n (mkF m pc Ls (w :: S)) := retV C hn' (Or.inr (Or.inr (Or.inr (Or.inr ⟨rfl, ht, hw⟩)))) hd hk hn hY g
theorem ret0 (C : Cx p s m meth c Z n0 own bytes ml none) (hd : decode bytes pc = .ok (.return_, 1)) (hk : k ≤ K) (hn : n ≤ N) (hY : ∀ s₂ o L, s₂.heap = h → FrameEnd s o s₂ L K N → Y s₂ o L) (g : G none h) :
    Go p l e R s m args below meth c Y n0 G h k n (mkF m pc Ls []) := fun T ⟨locs, F, X, eT⟩ => by
  subst eT
  have hlk : meth.locks = false := C.2.2.2.2.2.2.1
  obtain ⟨fs, hr, hrun, hended, hW, hsame⟩ := X.leave (v := none) (fun _ => rfl) hlk
  exact ⟨_, _, X.returnOut C.1 C.2.2.2.2.2.1 (hb C.2.2.1 hd) hr, hrun, hended, _, _, rfl, ⟨g, F⟩, hY _ _ _ rfl ⟨⟨_, rfl⟩, hW, hsame.mono hk hn⟩⟩

theorem hz (C : Cx p s m meth c Z n0 own bytes ml ret) {T : State} {locs : List Loc} (X : Stand p l e R s m args below meth c T locs k n) (eT : T.heap = h) : n0 ≤ h.size := eT ▸ Nat.le_trans C.2.2.2.2.2.2.2 X.same.2.1
/-! calls -/
theorem callS (C : Cx p s m meth c Z n0 own bytes ml ret) {i : Nat} {y : MethodName} {b' : ByteArray} {mL : Nat} {r' : Option FieldType} {rm : Room} {Gc : Option Value → Heap → Prop} {argsL rest : List Value} {W : Nat}
    (w1 : (Cond.methodLink own i y).before a0 Z = true) (w2 : (Cond.static y).before a0 Z = true) (w3 : (Cond.initialized y.cls).before a0 Z = true) (w4 : (Cond.code y b' mL r').before a0 Z = true)
    (hy : y.cls ≠ "java/lang/invoke/MethodHandle" ∧ y.cls ≠ "java/lang/invoke/VarHandle") (con : n0 ≤ h.size → Con l Z y b' mL r' [] rm rm.cells rm.slots argsL.toArray h n0 Gc)
    (hd : decode bytes pc = .ok (.invokestatic i, 3)) (hp : pc + 3 = pc') (hsz : Ls.size = ml) {ps : List FieldType} {rr : Option FieldType} (hds : parseMethodDescriptor y.desc = some ⟨ps, rr⟩) (hlen : argsL.length = ps.length)
    (hS : S = argsL.reverse ++ rest) (hW : (rest.map fun v => v.category).sum = W) (hf : rm.frames + 1 ≤ R.frames) (hl : W + (mL + 11) + rm.locals ≤ R.locals) (hc : k + rm.cells ≤ R.cells) (hs : n + rm.slots ≤ R.slots) {k' n' : Nat} (hk' : k + rm.cells = k') (hn' : n + rm.slots = n')
    (g : ∀ h' v, Gc v h' → Go p l e R s m args below meth c Y n0 G h' k' n' (mkF m pc' Ls (v.toList ++ rest))) :
    Go p l e R s m args below meth c Y n0 G h k n (mkF m pc Ls S) := fun T ⟨locs, F, X, eT⟩ => by
  subst hp hS hk' hn'
  obtain ⟨v, _, ⟨T', L', k', n'⟩, -, X', ⟨Lc, ⟨hQ, hF⟩, l1, y1, z1⟩, st⟩ := Jvm.LawKit.callS X C.1 C.2.2.2.2.1 (mvT C.2.1 w1) (mvT C.2.1 w2) (mvT C.2.1 w3) (mvT C.2.1 w4) hy
    (backOf (W := W) (Q := fun v h L => Gc v h ∧ Fr n0 L) (con (hz C X eT)) C.2.1 w4 w3 hf hl) (g := mkF m pc Ls (argsL.reverse ++ rest)) rfl (hsz.trans C.2.2.2.1.symm) (argsL := argsL) (rest := rest) (lenOf hds hlen) rfl (by show 2 * 0 + _ ≤ _; rw [Nat.mul_zero, Nat.zero_add]; exact Nat.le_of_eq hW) (hb C.2.2.1 hd) (fun _ _ => ⟨rfl, eT, hc, hs⟩)
  dsimp only [Pt.U, Pt.locs, Pt.cells, Pt.slots] at X' l1 y1 z1 st hQ
  subst l1 y1 z1
  exact step (fun t q => st t q) (g T'.heap v hQ T' ⟨_, Fr.app F hF, X', rfl⟩)
theorem callSp (C : Cx p s m meth c Z n0 own bytes ml ret) {i : Nat} {y : MethodName} {b' : ByteArray} {mL : Nat} {rm : Room} {Gc : Option Value → Heap → Prop} {a : Addr} {argsL rest : List Value} {W : Nat} (hy1 : y.name = "<init>")
    (w1 : (Cond.methodLink own i y).before a0 Z = true) (w2 : (Cond.instanceMethod y).before a0 Z = true) (w3 : (Cond.initialized y.cls).before a0 Z = true) (w4 : (Cond.code y b' mL none).before a0 Z = true)
    (hy : y.cls ≠ "java/lang/invoke/MethodHandle" ∧ y.cls ≠ "java/lang/invoke/VarHandle") (con : n0 ≤ h.size → Con l Z y b' mL none [] rm rm.cells rm.slots (.ref a :: argsL).toArray h n0 Gc)
    (hd : decode bytes pc = .ok (.invokespecial i, 3)) (hp : pc + 3 = pc') (hsz : Ls.size = ml) {ps : List FieldType} {rr : Option FieldType} (hds : parseMethodDescriptor y.desc = some ⟨ps, rr⟩) (hlen : argsL.length = ps.length)
    (hS : S = argsL.reverse ++ .ref a :: rest) (hW : (rest.map fun v => v.category).sum = W) (hf : rm.frames + 1 ≤ R.frames) (hl : W + (mL + 11) + rm.locals ≤ R.locals) (hc : k + rm.cells ≤ R.cells) (hs : n + rm.slots ≤ R.slots) {k' n' : Nat} (hk' : k + rm.cells = k') (hn' : n + rm.slots = n')
    (g : ∀ h' v, Gc v h' → Go p l e R s m args below meth c Y n0 G h' k' n' (mkF m pc' Ls (v.toList ++ rest))) :
    Go p l e R s m args below meth c Y n0 G h k n (mkF m pc Ls S) := fun T ⟨locs, F, X, eT⟩ => by
  subst hp hS hk' hn'
  obtain ⟨v, _, ⟨T', L', k', n'⟩, -, X', ⟨Lc, ⟨hQ, hF⟩, l1, y1, z1⟩, st⟩ := X.specialBack C.1 hy1 C.2.2.2.2.1 (mvT C.2.1 w1) (mvT C.2.1 w2) (mvT C.2.1 w4) hy
    (backOf (W := W) (Q := fun v h L => Gc v h ∧ Fr n0 L) (con (hz C X eT)) C.2.1 w4 w3 hf hl) (g := mkF m pc Ls (argsL.reverse ++ .ref a :: rest)) rfl (hsz.trans C.2.2.2.1.symm) (Steps.refl _) (a := a) (argsL := argsL) (rest := rest) (lenOf hds hlen) rfl (by show 2 * 0 + _ ≤ _; rw [Nat.mul_zero, Nat.zero_add]; exact Nat.le_of_eq hW) (hb C.2.2.1 hd) (fun _ _ => ⟨rfl, eT, hc, hs⟩)
  dsimp only [Pt.U, Pt.locs, Pt.cells, Pt.slots] at X' l1 y1 z1 st hQ
  subst l1 y1 z1
  exact step (fun t q => st.trans q) (g T'.heap v hQ T' ⟨_, Fr.app F hF, X', rfl⟩)
theorem callV (C : Cx p s m meth c Z n0 own bytes ml ret) {i : Nat} {y z : MethodName} {b' : ByteArray} {mL : Nat} {r' : Option FieldType} {rm : Room} {Gc : Option Value → Heap → Prop} {a : Addr} {argsL rest : List Value} {W : Nat} {Cn : String}
    (w1 : (Cond.methodLink own i y).before a0 Z = true) (w2 : (Cond.declares y).before a0 Z = true) (hnf : NotFace s y) (w5 : (Cond.selects Cn y z).before a0 Z = true) (w6 : (Cond.instanceMethod z).before a0 Z = true) (w3 : (Cond.initialized z.cls).before a0 Z = true) (w4 : (Cond.code z b' mL r').before a0 Z = true)
    (hy : y.cls ≠ "java/lang/invoke/MethodHandle" ∧ y.cls ≠ "java/lang/invoke/VarHandle") (E : Exa Z h a Cn) (con : n0 ≤ h.size → Con l Z z b' mL r' [] rm rm.cells rm.slots (.ref a :: argsL).toArray h n0 Gc)
    (hd : decode bytes pc = .ok (.invokevirtual i, 3)) (hp : pc + 3 = pc') (hsz : Ls.size = ml) {ps : List FieldType} {rr : Option FieldType} (hds : parseMethodDescriptor y.desc = some ⟨ps, rr⟩) (hlen : argsL.length = ps.length)
    (hS : S = argsL.reverse ++ .ref a :: rest) (hW : (rest.map fun v => v.category).sum = W) (hf : rm.frames + 1 ≤ R.frames) (hl : W + (mL + 11) + rm.locals ≤ R.locals) (hc : k + rm.cells ≤ R.cells) (hs : n + rm.slots ≤ R.slots) {k' n' : Nat} (hk' : k + rm.cells = k') (hn' : n + rm.slots = n')
    (g : ∀ h' v, Gc v h' → Go p l e R s m args below meth c Y n0 G h' k' n' (mkF m pc' Ls (v.toList ++ rest))) :
    Go p l e R s m args below meth c Y n0 G h k n (mkF m pc Ls S) := fun T ⟨locs, F, X, eT⟩ => by
  subst hp hS hk' hn'
  obtain ⟨cq, kq, qa, qb, qc⟩ := isOf C.2.1 eT E
  obtain ⟨v, _, ⟨T', L', k', n'⟩, -, X', ⟨Lc, ⟨hQ, hF⟩, l1, y1, z1⟩, st⟩ := X.virtualBack C.1 C.2.2.2.2.1 (mvT C.2.1 w1) (mvT C.2.1 w2) hnf (mvT C.2.1 w5) (mvT C.2.1 w6) hy
    (backOf (W := W) (Q := fun v h L => Gc v h ∧ Fr n0 L) (con (hz C X eT)) C.2.1 w4 w3 hf hl) qa qc (g := mkF m pc Ls (argsL.reverse ++ .ref a :: rest)) rfl (hsz.trans C.2.2.2.1.symm) (Steps.refl _) (argsL := argsL) (rest := rest) (lenOf hds hlen) rfl (by show 2 * 0 + _ ≤ _; rw [Nat.mul_zero, Nat.zero_add]; exact Nat.le_of_eq hW) (hb C.2.2.1 hd) (fun _ _ => ⟨rfl, eT, hc, hs⟩)
  dsimp only [Pt.U, Pt.locs, Pt.cells, Pt.slots] at X' l1 y1 z1 st hQ
  subst l1 y1 z1
  exact step (fun t q => st.trans q) (g T'.heap v hQ T' ⟨_, Fr.app F hF, X', rfl⟩)
theorem callI (C : Cx p s m meth c Z n0 own bytes ml ret) {i cnt : Nat} {y z : MethodName} {b' : ByteArray} {mL : Nat} {r' : Option FieldType} {rm : Room} {Gc : Option Value → Heap → Prop} {a : Addr} {argsL rest : List Value} {W : Nat} {Cn : String}
    (w1 : (Cond.methodLink own i y).before a0 Z = true) (w2 : (Cond.declares y).before a0 Z = true) (w7 : (Cond.interfaceMethod y.cls y.cls y.name y.desc).before a0 Z = true) (w5 : (Cond.selects Cn y z).before a0 Z = true) (w6 : (Cond.instanceMethod z).before a0 Z = true) (w8 : (Cond.publicMethod z).before a0 Z = true) (w9 : (Cond.unhidden Cn y.name y.desc).before a0 Z = true) (w10 : (Cond.castable Cn y.cls).before a0 Z = true)
    (w3 : (Cond.initialized z.cls).before a0 Z = true) (w4 : (Cond.code z b' mL r').before a0 Z = true)
    (hy : y.cls ≠ "java/lang/invoke/MethodHandle" ∧ y.cls ≠ "java/lang/invoke/VarHandle") (E : Exa Z h a Cn) (con : n0 ≤ h.size → Con l Z z b' mL r' [] rm rm.cells rm.slots (.ref a :: argsL).toArray h n0 Gc)
    (hd : decode bytes pc = .ok (.invokeinterface i cnt, 5)) (hp : pc + 5 = pc') (hsz : Ls.size = ml) {ps : List FieldType} {rr : Option FieldType} (hds : parseMethodDescriptor y.desc = some ⟨ps, rr⟩) (hlen : argsL.length = ps.length)
    (hS : S = argsL.reverse ++ .ref a :: rest) (hW : (rest.map fun v => v.category).sum = W) (hf : rm.frames + 1 ≤ R.frames) (hl : W + (mL + 11) + rm.locals ≤ R.locals) (hc : k + rm.cells ≤ R.cells) (hs : n + rm.slots ≤ R.slots) {k' n' : Nat} (hk' : k + rm.cells = k') (hn' : n + rm.slots = n')
    (g : ∀ h' v, Gc v h' → Go p l e R s m args below meth c Y n0 G h' k' n' (mkF m pc' Ls (v.toList ++ rest))) :
    Go p l e R s m args below meth c Y n0 G h k n (mkF m pc Ls S) := fun T ⟨locs, F, X, eT⟩ => by
  subst hp hS hk' hn'
  obtain ⟨cq, kq, qa, qb, qc⟩ := isOf C.2.1 eT E
  obtain ⟨v, _, ⟨T', L', k', n'⟩, -, X', ⟨Lc, ⟨hQ, hF⟩, l1, y1, z1⟩, st⟩ := X.interfaceBack C.1 C.2.2.2.2.1 (mvT C.2.1 w1) (mvT C.2.1 w2) (mvT C.2.1 w7 (by simp [Cond.onTables, Cond.keepsFace, Cond.keeps, Cond.steady, Cond.faceAtom, hy.1, hy.2])) (mvT C.2.1 w5) (mvT C.2.1 w6) (mvT C.2.1 w8) (mvT C.2.1 w9) (mvT C.2.1 w10) hy
    (backOf (W := W) (Q := fun v h L => Gc v h ∧ Fr n0 L) (con (hz C X eT)) C.2.1 w4 w3 hf hl) qa qb qc (g := mkF m pc Ls (argsL.reverse ++ .ref a :: rest)) rfl (hsz.trans C.2.2.2.1.symm) (Steps.refl _) (argsL := argsL) (rest := rest) (lenOf hds hlen) rfl (by show 2 * 0 + _ ≤ _; rw [Nat.mul_zero, Nat.zero_add]; exact Nat.le_of_eq hW) (hb C.2.2.1 hd) (fun _ _ => ⟨rfl, eT, hc, hs⟩)
  dsimp only [Pt.U, Pt.locs, Pt.cells, Pt.slots] at X' l1 y1 z1 st hQ
  subst l1 y1 z1
  exact step (fun t q => st.trans q) (g T'.heap v hQ T' ⟨_, Fr.app F hF, X', rfl⟩)
/-- a private method by invokevirtual: no 'selects' word is wanted; the class is instantiable -/
theorem callP (C : Cx p s m meth c Z n0 own bytes ml ret) {i q : Nat} {y : MethodName} {b' : ByteArray} {mL : Nat} {r' : Option FieldType} {rm : Room} {Gc : Option Value → Heap → Prop} {a : Addr} {argsL rest : List Value} {W : Nat} {Cn : String}
    (w1 : (Cond.methodLink own i y).before a0 Z = true) (w6 : (Cond.instanceMethod y).before a0 Z = true) (w7 : (Cond.privateMethod y).before a0 Z = true) (w8 : (Cond.instantiable y.cls q).before a0 Z = true) (w3 : (Cond.initialized y.cls).before a0 Z = true) (w4 : (Cond.code y b' mL r').before a0 Z = true)
    (hy : y.cls ≠ "java/lang/invoke/MethodHandle" ∧ y.cls ≠ "java/lang/invoke/VarHandle") (E : Exa Z h a Cn) (con : n0 ≤ h.size → Con l Z y b' mL r' [] rm rm.cells rm.slots (.ref a :: argsL).toArray h n0 Gc)
    (hd : decode bytes pc = .ok (.invokevirtual i, 3)) (hp : pc + 3 = pc') (hsz : Ls.size = ml) {ps : List FieldType} {rr : Option FieldType} (hds : parseMethodDescriptor y.desc = some ⟨ps, rr⟩) (hlen : argsL.length = ps.length)
    (hS : S = argsL.reverse ++ .ref a :: rest) (hW : (rest.map fun v => v.category).sum = W) (hf : rm.frames + 1 ≤ R.frames) (hl : W + (mL + 11) + rm.locals ≤ R.locals) (hc : k + rm.cells ≤ R.cells) (hs : n + rm.slots ≤ R.slots) {k' n' : Nat} (hk' : k + rm.cells = k') (hn' : n + rm.slots = n')
    (g : ∀ h' v, Gc v h' → Go p l e R s m args below meth c Y n0 G h' k' n' (mkF m pc' Ls (v.toList ++ rest))) :
    Go p l e R s m args below meth c Y n0 G h k n (mkF m pc Ls S) := fun T ⟨locs, F, X, eT⟩ => by
  subst hp hS hk' hn'
  obtain ⟨cell, hc1, hc2⟩ := E.cell
  obtain ⟨mk, methM, hnamed, hmethM, hstM, habM⟩ := Cond.instanceMethod_spec (mvT (args := args) C.2.1 w6)
  obtain ⟨methM', cM, hmethM', -, -, -, -, -, -, hsigM⟩ := Cond.code_spec hnamed (mvT (args := args) C.2.1 w4)
  cases hmethM.symm.trans hmethM'
  obtain ⟨cid, kP, z1, z2, z3, z4, -⟩ := Cond.instantiable_spec (mvT (args := args) C.2.1 w8)
  have z5 : cid = mk.cls := Option.some.inj (z1.symm.trans (findClass_of_methodNamed hnamed))
  subst z5
  have z6 : kP.isInterface = false := by simp only [Bool.or_eq_false_iff] at z4; exact z4.1
  obtain ⟨vm₁, X₁, hstep₁⟩ := X.invokevirtual C.1 C.2.2.2.2.1 (mvT C.2.1 w1) hnamed hmethM hstM z2 z6 hy (a := a) (cell := cell) (by rw [eT]; exact hc1) hc2 (selectMethod_private hmethM (Cond.privateMethod_at (mvP C.2.1 w7 (args := #[])) mk methM hnamed hmethM)) hmethM habM z2 z6 (g := mkF m pc Ls (argsL.reverse ++ .ref a :: rest)) rfl (argsL := argsL) (rest := rest) (lenOf hds hlen _ hsigM) rfl (hb C.2.2.1 hd)
  obtain ⟨v, ⟨T', L', k', n'⟩, X', ⟨Lc, ⟨hQ, hF⟩, l1, y1, z1⟩, hsteps⟩ := (backOf (W := W) (len := 3) (Q := fun v h L => Gc v h ∧ Fr n0 L) (con (hz C X eT)) C.2.1 w4 w3 hf hl) m meth c ⟨T.setVm vm₁, locs, k, n⟩ (mkF m pc Ls rest) (.invokevirtual i) mk (.ref a :: argsL).toArray X₁ rfl (hsz.trans C.2.2.2.1.symm) (hb C.2.2.1 hd) (by show 2 * 0 + _ ≤ _; rw [Nat.mul_zero, Nat.zero_add]; exact Nat.le_of_eq hW) (X₁.named hnamed) ⟨rfl, eT, hc, hs⟩
  dsimp only [Pt.U, Pt.locs, Pt.cells, Pt.slots] at X' l1 y1 z1 hsteps hQ
  subst l1 y1 z1
  exact step (fun t q => (hstep₁ _ fun acts => by rw [doInvoke_state]; exact hsteps).trans q) (g T'.heap v hQ T' ⟨_, Fr.app F hF, X', rfl⟩)
theorem arraycopy (C : Cx p s m meth c Z n0 own bytes ml ret) {i : Nat} {a b : Addr} {ka kb : ClassId} {ty : FieldType} {za zb sp dp nn : Int32} {vs vd : List Value} {dv dd : Value} {W : Nat}
    (w1 : (Cond.methodLink own i Jvm.Stand.acN).before a0 Z = true) (w2 : (Cond.native Jvm.Stand.acN).before a0 Z = true) (w3 : (Cond.static Jvm.Stand.acN).before a0 Z = true) (w4 : (Cond.initialized "java/lang/System").before a0 Z = true)
    (A : Arv Z h a ka ty za vs dv) (B : Arv Z h b kb ty zb vd dd) (hty : refKind ty = false) (h1 : 0 ≤ sp.toInt) (h2 : 0 ≤ dp.toInt) (h3 : 0 ≤ nn.toInt) (h4 : sp.toInt + nn.toInt ≤ za.toInt) (h5 : dp.toInt + nn.toInt ≤ zb.toInt) (hl : dp.toInt.toNat + nn.toInt.toNat ≤ vd.length) (ge : n0 ≤ b)
    (hd : decode bytes pc = .ok (.invokestatic i, 3)) (hp : pc + 3 = pc') (hsz : Ls.size = ml) (hf : 1 ≤ R.frames) (hW : (S.map fun v => v.category).sum = W) (hlo : W + 18 ≤ R.locals)
    (g : ∀ h', Keep h h' [b] → Arv Z h' b kb ty zb (vd.take dp.toInt.toNat ++ (List.range nn.toInt.toNat).map (fun j => vs.getD (sp.toInt.toNat + j) dv) ++ vd.drop (dp.toInt.toNat + nn.toInt.toNat)) dd → Go p l e R s m args below meth c Y n0 G h' k n (mkF m pc' Ls S)) :
    Go p l e R s m args below meth c Y n0 G h k n (mkF m pc Ls (.int nn :: .int dp :: .ref b :: .int sp :: .ref a :: S)) := fun T ⟨locs, F, X, eT⟩ => by
  subst hp
  have nn0 : ∀ {x : Int32}, 0 ≤ x.toInt → ¬ x < 0 := fun {x} q w => by have := Int32.lt_iff_toInt_lt.mp w; simp only [Int32.reduceToInt] at this; omega
  obtain ⟨T', h', L', X', e', F', K', V', st⟩ := cpA X C.1 C.2.1 C.2.2.2.2.1 w1 w2 w3 w4 eT A B (Or.inl ⟨rfl, hty⟩) (nn0 h1) (nn0 h2) (nn0 h3) (by show sp.toInt.toNat + nn.toInt.toNat ≤ za.toInt.toNat; omega) (by show dp.toInt.toNat + nn.toInt.toNat ≤ zb.toInt.toNat; omega) rfl hl F ge
    (g := mkF m pc Ls (.int nn :: .int dp :: .ref b :: .int sp :: .ref a :: S)) rfl (hsz.trans C.2.2.2.1.symm) rfl (hb C.2.2.1 hd) hf (W := W) (by show 2 * 0 + _ ≤ _; rw [Nat.mul_zero, Nat.zero_add]; exact Nat.le_of_eq hW) (by show W + (7 + 11) ≤ _; exact hlo)
  exact step st (g h' K' V' T' ⟨_, F', X', e'⟩)
theorem nf_sel (C : Cx p s m meth c Z n0 own bytes ml ret) {Cn : String} {y : MethodName} (w : (Cond.selects Cn y y).before a0 Z = true) : NotFace s y := notFace_of_selects (args := #[]) (mvT C.2.1 w)
theorem initObj (C : Cx p s m meth c Z n0 own bytes ml ret) {i : Nat} {a : Addr} {W : Nat} (w1 : (Cond.methodLink own i Lib.objectInit).before a0 Z = true) (w2 : (Cond.instanceMethod Lib.objectInit).before a0 Z = true) (w3 : (Cond.code Lib.objectInit ⟨#[0xb1]⟩ 1 none).before a0 Z = true)
    (hd : decode bytes pc = .ok (.invokespecial i, 3)) (hp : pc + 3 = pc') (hsz : Ls.size = ml) (hf : 1 ≤ R.frames) (hW : (S.map fun v => v.category).sum = W) (hl : W + 12 ≤ R.locals)
    (g : Go p l e R s m args below meth c Y n0 G h k n (mkF m pc' Ls S)) : Go p l e R s m args below meth c Y n0 G h k n (mkF m pc Ls (.ref a :: S)) := fun T ⟨locs, F, X, eT⟩ => by
  subst hp
  obtain ⟨T', X', e', st⟩ := initO X C.1 C.2.1 C.2.2.2.2.1 w1 w2 w3 eT (g := mkF m pc Ls (.ref a :: S)) rfl (hsz.trans C.2.2.2.1.symm) rfl (hb C.2.2.1 hd) hf (W := W) (by show 2 * 0 + _ ≤ _; rw [Nat.mul_zero, Nat.zero_add]; exact Nat.le_of_eq hW) hl
  exact step st (g T' ⟨_, F, X', e'⟩)

/-! fields and objects -/
theorem getfield (C : Cx p s m meth c Z n0 own bytes ml ret) {i : Nat} {R0 O f d : String} {a : Addr} {v : Value} (w : (Cond.fieldLink own i R0 f d).before a0 Z = true) (via : Via Z R0 O f d) (F : Fld Z h a O f d v) (hd : decode bytes pc = .ok (.getfield i, 3)) (hp : pc + 3 = pc')
    (g : Go p l e R s m args below meth c Y n0 G h k n (mkF m pc' Ls (v :: S))) : Go p l e R s m args below meth c Y n0 G h k n (mkF m pc Ls (.ref a :: S)) := fun T ⟨locs, Fz, X, eT⟩ => by
  subst hp
  obtain ⟨T', X', e', st⟩ := getF X C.1 C.2.1 C.2.2.2.2.1 (host := "") (Or.inl w) via eT F (g := mkF m pc Ls (.ref a :: S)) rfl rfl (hb C.2.2.1 hd)
  exact step st (g T' ⟨_, Fz, X', e'⟩)
theorem getstatic (C : Cx p s m meth c Z n0 own bytes ml ret) {i : Nat} {R0 O f d : String} {v : Value} (w : (Cond.fieldLink own i R0 f d).before a0 Z = true) (via : Via Z R0 O f d) (F : Sta Z h O f d v) (hd : decode bytes pc = .ok (.getstatic i, 3)) (hp : pc + 3 = pc')
    (g : Go p l e R s m args below meth c Y n0 G h k n (mkF m pc' Ls (v :: S))) : Go p l e R s m args below meth c Y n0 G h k n (mkF m pc Ls S) := fun T ⟨locs, Fz, X, eT⟩ => by
  subst hp
  obtain ⟨T', X', e', st⟩ := getS2 X C.1 C.2.1 C.2.2.2.2.1 (host := "") (Or.inl w) via eT F (g := mkF m pc Ls S) rfl (hb C.2.2.1 hd)
  exact step st (g T' ⟨_, Fz, X', e'⟩)
theorem putfield (C : Cx p s m meth c Z n0 own bytes ml ret) {i kk : Nat} {R0 O f d Cn : String} {ty : FieldType} {a : Addr} {v old : Value} (w : (Cond.fieldLink own i R0 f d).before a0 Z = true) (via : Via Z R0 O f d) (F : Fld Z h a O f d old) (E : Exa Z h a Cn)
    (L : (Cond.lays Cn O f d).before a0 Z = true ∨ ((Cond.laysFinal Cn O f d).before a0 Z = true ∧ own = O ∧ meth.name = "<init>")) (wi : (Cond.instantiable Cn kk).before a0 Z = true) (hty : parseFieldDescriptor d = some ty) (hnr : narrow ty v = v) (hft : fits ty v = true) (hd : decode bytes pc = .ok (.putfield i, 3)) (hp : pc + 3 = pc') (ha : n0 ≤ a)
    (g : ∀ h', Wr h h' a (Jvm.RoadKit.slotOf Z O f d) v → Go p l e R s m args below meth c Y n0 G h' k n (mkF m pc' Ls S)) : Go p l e R s m args below meth c Y n0 G h k n (mkF m pc Ls (v :: .ref a :: S)) := fun T ⟨locs, Fz, X, eT⟩ => by
  subst hp
  obtain ⟨T', h', X', e', W, st⟩ := putF X C.1 C.2.1 C.2.2.2.2.1 (host := "") (Or.inl w) via eT F E L wi hty hnr hft (g := mkF m pc Ls (v :: .ref a :: S)) rfl rfl (hb C.2.2.1 hd)
  exact step st (g h' W T' ⟨_, Fr.snoc X' Fz ha, X', e'⟩)
theorem new (C : Cx p s m meth c Z n0 own bytes ml ret) {i sz : Nat} {Cn : String} (w : (Cond.classLink own i Cn).before a0 Z = true) (wi : (Cond.instantiable Cn sz).before a0 Z = true) (wz : (Cond.initialized Cn).before a0 Z = true) (hd : decode bytes pc = .ok (.new i, 3)) (hp : pc + 3 = pc') (hc : k + 1 ≤ R.cells) (hs : n + sz ≤ R.slots) {k' n' : Nat} (hk' : k + 1 = k') (hn' : n + sz = n')
    (g : ∀ h' a, a = h.size → n0 ≤ a → Ext h h' → Exa Z h' a Cn → (∀ {O nm d : String} {ty : FieldType}, Laid Z a0 Cn O nm d → parseFieldDescriptor d = some ty → Fld Z h' a O nm d (defaultValue ty)) → Go p l e R s m args below meth c Y n0 G h' k' n' (mkF m pc' Ls (.ref a :: S))) :
    Go p l e R s m args below meth c Y n0 G h k n (mkF m pc Ls S) := fun T ⟨locs, Fz, X, eT⟩ => by
  subst hp hk' hn'
  obtain ⟨T', h', X', e', E, A, D, -, st⟩ := newO X C.1 C.2.1 C.2.2.2.2.1 w wi wz eT (g := mkF m pc Ls S) rfl (hb C.2.2.1 hd) hc hs
  exact step st (g h' _ rfl (hz C X eT) E A D T' ⟨_, Fz, X', e'⟩)
/-! arrays -/
theorem newarray (C : Cx p s m meth c Z n0 own bytes ml ret) {aty : ArrayType} {x : Int32} {cap : Nat} (w : (Cond.arrayClass (newarray.typeOf aty)).before a0 Z = true) (hd : decode bytes pc = .ok (.newarray aty, 2)) (hp : pc + 2 = pc') (hx : ¬ x < 0) (hcap : x.toNatClampNeg ≤ cap) (hbig : cap * 8 ≤ 536870912) (hc : k + 1 ≤ R.cells) (hs : n + cap ≤ R.slots) {k' n' : Nat} (hk' : k + 1 = k') (hn' : n + cap = n')
    (g : ∀ h' a kc, a = h.size → n0 ≤ a → Ext h h' → Arv Z h' a kc (newarray.typeOf aty) x [] (defaultValue (newarray.typeOf aty)) → Go p l e R s m args below meth c Y n0 G h' k' n' (mkF m pc' Ls (.ref a :: S))) :
    Go p l e R s m args below meth c Y n0 G h k n (mkF m pc Ls (.int x :: S)) := fun T ⟨locs, Fz, X, eT⟩ => by
  subst hp hk' hn'
  obtain ⟨T', h', kc, X', e', E, A, st⟩ := newP X C.1 C.2.1 w eT (g := mkF m pc Ls (.int x :: S)) rfl (hb C.2.2.1 hd) rfl hx hcap hbig hc hs
  exact step st (g h' _ kc rfl (hz C X eT) E (Arv.new A hx) T' ⟨_, Fz, X', e'⟩)
theorem arraylength (C : Cx p s m meth c Z n0 own bytes ml ret) {a : Addr} {kc : ClassId} {ty : FieldType} {z : Int32} {vs : List Value} {dv : Value} (A : Arv Z h a kc ty z vs dv) (hd : decode bytes pc = .ok (.arraylength, 1)) (hp : pc + 1 = pc')
    (g : Go p l e R s m args below meth c Y n0 G h k n (mkF m pc' Ls (.int z :: S))) : Go p l e R s m args below meth c Y n0 G h k n (mkF m pc Ls (.ref a :: S)) := by
  subst hp
  obtain ⟨cl, Ar, -, Sz, Nz, -, -⟩ := A
  refine stepG (fun T locs X eT t q => X.arraylength C.1 (by rw [eT]; exact Ar.1) (State.isArrayOf_alike C.2.1.alike Ar.2.1) (g := mkF m pc Ls (.ref a :: S)) rfl rfl (hb C.2.2.1 hd) t ?_) g
  rw [len_of Sz Nz]; exact q
theorem arv_at {a : Addr} {kc : ClassId} {ty : FieldType} {z : Int32} {vs : List Value} {dv : Value} (A : Arv Z h a kc ty z vs dv) {j : Int32} (h0 : 0 ≤ j.toInt) (h1 : j.toInt < z.toInt) {v : Value} (hv : vs.getD j.toInt.toNat dv = v) :
    ∃ cl, Arr Z h a cl ty ∧ ¬ (j < 0 ∨ cl.slots.size ≤ j.toNatClampNeg) ∧ cl.slots[j.toNatClampNeg]? = some v := by
  obtain ⟨cl, Ar, -, Sz, Nz, H, -⟩ := A
  have hj : ¬ j < 0 := fun q => by have := Int32.lt_iff_toInt_lt.mp q; simp at this; omega
  have hin := inb_of Sz (j := j) ⟨hj, Int32.lt_iff_toInt_lt.mpr h1⟩
  exact ⟨cl, Ar, hin, H.at hin hv⟩
theorem iaload (C : Cx p s m meth c Z n0 own bytes ml ret) {a : Addr} {kc : ClassId} {z j : Int32} {vs : List Value} {dv v : Value} (A : Arv Z h a kc .int z vs dv) (h0 : 0 ≤ j.toInt) (h1 : j.toInt < z.toInt) (hv : vs.getD j.toInt.toNat dv = v) (hd : decode bytes pc = .ok (.iaload, 1)) (hp : pc + 1 = pc')
    (g : Go p l e R s m args below meth c Y n0 G h k n (mkF m pc' Ls (v :: S))) : Go p l e R s m args below meth c Y n0 G h k n (mkF m pc Ls (.int j :: .ref a :: S)) := by
  subst hp
  obtain ⟨cl, Ar, hin, hat⟩ := arv_at A h0 h1 hv
  exact stepG (fun T locs X eT t q => X.iaload C.1 (by rw [eT]; exact Ar.1) (State.isArrayOf_alike C.2.1.alike Ar.2.1) Ar.2.2 hin hat (g := mkF m pc Ls (.int j :: .ref a :: S)) rfl rfl (hb C.2.2.1 hd) t q) g
theorem laload (C : Cx p s m meth c Z n0 own bytes ml ret) {a : Addr} {kc : ClassId} {z j : Int32} {vs : List Value} {dv v : Value} (A : Arv Z h a kc .long z vs dv) (h0 : 0 ≤ j.toInt) (h1 : j.toInt < z.toInt) (hv : vs.getD j.toInt.toNat dv = v) (hd : decode bytes pc = .ok (.laload, 1)) (hp : pc + 1 = pc')
    (g : Go p l e R s m args below meth c Y n0 G h k n (mkF m pc' Ls (v :: S))) : Go p l e R s m args below meth c Y n0 G h k n (mkF m pc Ls (.int j :: .ref a :: S)) := by
  subst hp
  obtain ⟨cl, Ar, hin, hat⟩ := arv_at A h0 h1 hv
  exact stepG (fun T locs X eT t q => X.laload C.1 (by rw [eT]; exact Ar.1) (State.isArrayOf_alike C.2.1.alike Ar.2.1) Ar.2.2 hin hat (g := mkF m pc Ls (.int j :: .ref a :: S)) rfl rfl (hb C.2.2.1 hd) t q) g
theorem caload (C : Cx p s m meth c Z n0 own bytes ml ret) {a : Addr} {kc : ClassId} {z j : Int32} {vs : List Value} {dv v : Value} (A : Arv Z h a kc .char z vs dv) (h0 : 0 ≤ j.toInt) (h1 : j.toInt < z.toInt) (hv : vs.getD j.toInt.toNat dv = v) (hd : decode bytes pc = .ok (.caload, 1)) (hp : pc + 1 = pc')
    (g : Go p l e R s m args below meth c Y n0 G h k n (mkF m pc' Ls (v :: S))) : Go p l e R s m args below meth c Y n0 G h k n (mkF m pc Ls (.int j :: .ref a :: S)) := by
  subst hp
  obtain ⟨cl, Ar, hin, hat⟩ := arv_at A h0 h1 hv
  exact stepG (fun T locs X eT t q => X.caload C.1 (by rw [eT]; exact Ar.1) (State.isArrayOf_alike C.2.1.alike Ar.2.1) Ar.2.2 hin hat (g := mkF m pc Ls (.int j :: .ref a :: S)) rfl rfl (hb C.2.2.1 hd) t q) g
theorem baload (C : Cx p s m meth c Z n0 own bytes ml ret) {a : Addr} {kc : ClassId} {z j : Int32} {vs : List Value} {dv v : Value} (A : Arv Z h a kc .byte z vs dv) (h0 : 0 ≤ j.toInt) (h1 : j.toInt < z.toInt) (hv : vs.getD j.toInt.toNat dv = v) (hd : decode bytes pc = .ok (.baload, 1)) (hp : pc + 1 = pc')
    (g : Go p l e R s m args below meth c Y n0 G h k n (mkF m pc' Ls (v :: S))) : Go p l e R s m args below meth c Y n0 G h k n (mkF m pc Ls (.int j :: .ref a :: S)) := by
  subst hp
  obtain ⟨cl, Ar, hin, hat⟩ := arv_at A h0 h1 hv
  exact stepG (fun T locs X eT t q => X.baloadBytes C.1 (by rw [eT]; exact Ar.1) (State.isArrayOf_alike C.2.1.alike Ar.2.1) Ar.2.2 hin hat (g := mkF m pc Ls (.int j :: .ref a :: S)) rfl rfl (hb C.2.2.1 hd) t q) g
theorem aaload (C : Cx p s m meth c Z n0 own bytes ml ret) {a : Addr} {cl : Cell} {ty : FieldType} {j : Int32} {v : Value} (A : Arr Z h a cl ty) (hty : ty.isReference = true) (hin : ¬ (j < 0 ∨ cl.slots.size ≤ j.toNatClampNeg)) (hat : cl.slots[j.toNatClampNeg]? = some v) (hd : decode bytes pc = .ok (.aaload, 1)) (hp : pc + 1 = pc')
    (g : Go p l e R s m args below meth c Y n0 G h k n (mkF m pc' Ls (v :: S))) : Go p l e R s m args below meth c Y n0 G h k n (mkF m pc Ls (.int j :: .ref a :: S)) := by
  subst hp
  exact stepG (fun T locs X eT t q => X.aaload C.1 (by rw [eT]; exact A.1) (State.isArrayOf_alike C.2.1.alike A.2.1) hty A.2.2 hin hat (g := mkF m pc Ls (.int j :: .ref a :: S)) rfl rfl (hb C.2.2.1 hd) t q) g
theorem instT (C : Cx p s m meth c Z n0 own bytes ml ret) {i : Nat} {Kn : String} {a : Addr} (w : (Cond.classLink own i Kn).before a0 Z = true) (I : Ins Z h a Kn true) (hd : decode bytes pc = .ok (.instanceof i, 3)) (hp : pc + 3 = pc')
    (g : Go p l e R s m args below meth c Y n0 G h k n (mkF m pc' Ls (.int 1 :: S))) : Go p l e R s m args below meth c Y n0 G h k n (mkF m pc Ls (.ref a :: S)) := fun T ⟨locs, Fz, X, eT⟩ => by
  subst hp
  obtain ⟨T', X', e', st⟩ := instY X C.1 C.2.1 C.2.2.2.2.1 w eT I (g := mkF m pc Ls (.ref a :: S)) rfl rfl (hb C.2.2.1 hd)
  exact step st (g T' ⟨_, Fz, X', e'⟩)
theorem instF (C : Cx p s m meth c Z n0 own bytes ml ret) {i : Nat} {Kn Cn : String} {a : Addr} (w : (Cond.classLink own i Kn).before a0 Z = true) (E : Exa Z h a Cn) (I : ∃ c t, Z.vm.findClass Cn = some c ∧ Z.vm.findClass Kn = some t ∧ Z.vm.assignable c t = false) (hd : decode bytes pc = .ok (.instanceof i, 3)) (hp : pc + 3 = pc')
    (g : Go p l e R s m args below meth c Y n0 G h k n (mkF m pc' Ls (.int 0 :: S))) : Go p l e R s m args below meth c Y n0 G h k n (mkF m pc Ls (.ref a :: S)) := fun T ⟨locs, Fz, X, eT⟩ => by
  subst hp
  obtain ⟨T', X', e', st⟩ := instNo X C.1 C.2.1 C.2.2.2.2.1 w eT E I (g := mkF m pc Ls (.ref a :: S)) rfl rfl (hb C.2.2.1 hd)
  exact step st (g T' ⟨_, Fz, X', e'⟩)
theorem instN (C : Cx p s m meth c Z n0 own bytes ml ret) {i : Nat} (hd : decode bytes pc = .ok (.instanceof i, 3)) (hp : pc + 3 = pc')
    (g : Go p l e R s m args below meth c Y n0 G h k n (mkF m pc' Ls (.int 0 :: S))) : Go p l e R s m args below meth c Y n0 G h k n (mkF m pc Ls (.null :: S)) := by
  subst hp; exact stepG (fun T locs X eT t q => X.instanceofNull C.1 (g := mkF m pc Ls (.null :: S)) rfl rfl (hb C.2.2.1 hd) t q) g
theorem castT (C : Cx p s m meth c Z n0 own bytes ml ret) {i : Nat} {Kn : String} {a : Addr} (w : (Cond.classLink own i Kn).before a0 Z = true) (I : Ins Z h a Kn true) (hd : decode bytes pc = .ok (.checkcast i, 3)) (hp : pc + 3 = pc')
    (g : Go p l e R s m args below meth c Y n0 G h k n (mkF m pc' Ls (.ref a :: S))) : Go p l e R s m args below meth c Y n0 G h k n (mkF m pc Ls (.ref a :: S)) := fun T ⟨locs, Fz, X, eT⟩ => by
  subst hp
  obtain ⟨T', X', e', st⟩ := castY X C.1 C.2.1 C.2.2.2.2.1 w eT I (g := mkF m pc Ls (.ref a :: S)) rfl rfl (hb C.2.2.1 hd)
  exact step st (g T' ⟨_, Fz, X', e'⟩)
theorem ns_root {O Kn : String} {q : Nat} (w : (Cond.noSuperclass O).before a0 Z = true) (wk : (Cond.instantiable Kn q).before a0 Z = true) (hn : O ≠ Kn) : NS Z O Kn := by
  obtain ⟨c, k, h1, h2, h3, -, -⟩ := Cond.noSuperclass_spec w
  obtain ⟨t, kt, g1, -⟩ := Cond.instantiable_spec wk
  have ne := ids_ne h1 g1 hn
  refine ⟨c, t, h1, g1, fun fuel => ?_⟩
  cases fuel with
  | zero => rfl
  | succ f => simp [Vm.isSubclassAux, ne, h2, h3]
theorem ns_no {Cn Sn Kn : String} {q : Nat} (w : (Cond.superclass Cn Sn).before a0 Z = true) (wk : (Cond.instantiable Kn q).before a0 Z = true) (n : NS Z Cn Kn) (hn : Cn ≠ Kn) : ∃ c t, Z.vm.findClass Cn = some c ∧ Z.vm.findClass Kn = some t ∧ Z.vm.assignable c t = false := by
  obtain ⟨c, t, h0, g0, n3⟩ := n
  obtain ⟨p, k, kp, h1, h2, h3, h4, h5, -, h7⟩ := Cond.superclass_spec h0 w
  obtain ⟨t', k', g1, g2, g5, g7, -⟩ := Cond.instantiable_spec wk
  cases g0.symm.trans g1
  have ne := ids_ne h0 g0 hn
  have g8 : k'.isInterface = false := by simp only [Bool.or_eq_false_iff] at g7; exact g7.1
  refine ⟨c, t, h0, g0, ?_⟩
  show Z.vm.assignableAux (255 + 1) c t = false
  simp [Vm.assignableAux, ne, h2, g2, h5, g5, g8, Vm.isSubclass, n3]
theorem iastore (C : Cx p s m meth c Z n0 own bytes ml ret) {a : Addr} {kc : ClassId} {z j : Int32} {x : Int32} {vs : List Value} {dv : Value} (A : Arv Z h a kc .int z vs dv) (h0 : 0 ≤ j.toInt) (h1 : j.toInt < z.toInt) (hlen : j.toInt.toNat < vs.length) (ha : n0 ≤ a) (hd : decode bytes pc = .ok (.iastore, 1)) (hp : pc + 1 = pc')
    (g : ∀ h', Wr h h' a j.toNatClampNeg (.int x) → Arv Z h' a kc .int z (vs.set j.toInt.toNat (.int x)) dv → Go p l e R s m args below meth c Y n0 G h' k n (mkF m pc' Ls S)) : Go p l e R s m args below meth c Y n0 G h k n (mkF m pc Ls (.int x :: .int j :: .ref a :: S)) := fun T ⟨locs, Fz, X, eT⟩ => by
  subst hp
  obtain ⟨cl, Ar, q1, Sz, Nz, H, Gf⟩ := A
  have hj : ¬ j < 0 := fun q => by have := Int32.lt_iff_toInt_lt.mp q; simp at this; omega
  have hin := inb_of Sz (j := j) ⟨hj, Int32.lt_iff_toInt_lt.mpr h1⟩
  obtain ⟨T', h', X', e', W, st⟩ := stI X C.1 C.2.1 eT Ar hin (g := mkF m pc Ls (.int x :: .int j :: .ref a :: S)) rfl rfl (hb C.2.2.1 hd)
  exact step st (g h' W (Arv.set Ar q1 Sz Nz H Gf rfl W _ rfl hlen) T' ⟨_, Fr.snoc X' Fz ha, X', e'⟩)
theorem lastore (C : Cx p s m meth c Z n0 own bytes ml ret) {a : Addr} {kc : ClassId} {z j : Int32} {x : Int64} {vs : List Value} {dv : Value} (A : Arv Z h a kc .long z vs dv) (h0 : 0 ≤ j.toInt) (h1 : j.toInt < z.toInt) (hlen : j.toInt.toNat < vs.length) (ha : n0 ≤ a) (hd : decode bytes pc = .ok (.lastore, 1)) (hp : pc + 1 = pc')
    (g : ∀ h', Wr h h' a j.toNatClampNeg (.long x) → Arv Z h' a kc .long z (vs.set j.toInt.toNat (.long x)) dv → Go p l e R s m args below meth c Y n0 G h' k n (mkF m pc' Ls S)) : Go p l e R s m args below meth c Y n0 G h k n (mkF m pc Ls (.long x :: .int j :: .ref a :: S)) := fun T ⟨locs, Fz, X, eT⟩ => by
  subst hp
  obtain ⟨cl, Ar, q1, Sz, Nz, H, Gf⟩ := A
  have hj : ¬ j < 0 := fun q => by have := Int32.lt_iff_toInt_lt.mp q; simp at this; omega
  have hin := inb_of Sz (j := j) ⟨hj, Int32.lt_iff_toInt_lt.mpr h1⟩
  obtain ⟨T', h', X', e', W, st⟩ := stJ X C.1 C.2.1 eT Ar hin (g := mkF m pc Ls (.long x :: .int j :: .ref a :: S)) rfl rfl (hb C.2.2.1 hd)
  exact step st (g h' W (Arv.set Ar q1 Sz Nz H Gf rfl W _ rfl hlen) T' ⟨_, Fr.snoc X' Fz ha, X', e'⟩)
theorem castore (C : Cx p s m meth c Z n0 own bytes ml ret) {a : Addr} {kc : ClassId} {z j : Int32} {x : Int32} {vs : List Value} {dv : Value} (A : Arv Z h a kc .char z vs dv) (h0 : 0 ≤ j.toInt) (h1 : j.toInt < z.toInt) (hlen : j.toInt.toNat < vs.length) (ha : n0 ≤ a) (hd : decode bytes pc = .ok (.castore, 1)) (hp : pc + 1 = pc')
    (g : ∀ h', Wr h h' a j.toNatClampNeg (.int (nar .char x)) → Arv Z h' a kc .char z (vs.set j.toInt.toNat (.int (nar .char x))) dv → Go p l e R s m args below meth c Y n0 G h' k n (mkF m pc' Ls S)) : Go p l e R s m args below meth c Y n0 G h k n (mkF m pc Ls (.int x :: .int j :: .ref a :: S)) := fun T ⟨locs, Fz, X, eT⟩ => by
  subst hp
  obtain ⟨cl, Ar, q1, Sz, Nz, H, Gf⟩ := A
  have hj : ¬ j < 0 := fun q => by have := Int32.lt_iff_toInt_lt.mp q; simp at this; omega
  have hin := inb_of Sz (j := j) ⟨hj, Int32.lt_iff_toInt_lt.mpr h1⟩
  obtain ⟨T', h', X', e', W, st⟩ := stC X C.1 C.2.1 eT Ar hin (g := mkF m pc Ls (.int x :: .int j :: .ref a :: S)) rfl rfl (hb C.2.2.1 hd)
  exact step st (g h' W (Arv.set Ar q1 Sz Nz H Gf (fits_nar_char _) W _ rfl hlen) T' ⟨_, Fr.snoc X' Fz ha, X', e'⟩)
theorem bastore (C : Cx p s m meth c Z n0 own bytes ml ret) {a : Addr} {kc : ClassId} {z j : Int32} {x : Int32} {vs : List Value} {dv : Value} (A : Arv Z h a kc .byte z vs dv) (h0 : 0 ≤ j.toInt) (h1 : j.toInt < z.toInt) (hlen : j.toInt.toNat < vs.length) (ha : n0 ≤ a) (hd : decode bytes pc = .ok (.bastore, 1)) (hp : pc + 1 = pc')
    (g : ∀ h', Wr h h' a j.toNatClampNeg (.int (nar .byte x)) → Arv Z h' a kc .byte z (vs.set j.toInt.toNat (.int (nar .byte x))) dv → Go p l e R s m args below meth c Y n0 G h' k n (mkF m pc' Ls S)) : Go p l e R s m args below meth c Y n0 G h k n (mkF m pc Ls (.int x :: .int j :: .ref a :: S)) := fun T ⟨locs, Fz, X, eT⟩ => by
  subst hp
  obtain ⟨cl, Ar, q1, Sz, Nz, H, Gf⟩ := A
  have hj : ¬ j < 0 := fun q => by have := Int32.lt_iff_toInt_lt.mp q; simp at this; omega
  have hin := inb_of Sz (j := j) ⟨hj, Int32.lt_iff_toInt_lt.mpr h1⟩
  obtain ⟨T', h', X', e', W, st⟩ := stB X C.1 C.2.1 eT Ar hin (g := mkF m pc Ls (.int x :: .int j :: .ref a :: S)) rfl rfl (hb C.2.2.1 hd)
  exact step st (g h' W (Arv.set Ar q1 Sz Nz H Gf (fits_nar_byte _) W _ rfl hlen) T' ⟨_, Fr.snoc X' Fz ha, X', e'⟩)
end Walk
end Jvm.Pilot.@@N@@.W
namespace Jvm.Pilot.@@N@@.W
open Jvm Jvm.ClassFile Sem Op Lib Jvm.Free Jvm.Stand Jvm.LawKit Jvm.RoadKit Bundle
/-- a body's contract where String constants are loaded: the booked constants stay whole; sf: places that are none of theirs -/
abbrev ConL (l : Launch) (Z : State) (EL : List (String × Nat)) (y : MethodName) (bytes : ByteArray) (ml : Nat) (ret : Option FieldType) (ws : List Cond) (rm : Room) (K N : Nat) (as : Array Value) (h0 : Heap) (n0 : Nat) (sf : List Addr) (G : Option Value → Heap → Prop) : Prop :=
  MetFree l y (head1 (Cond.code y bytes ml ret :: ws) rm) (fun a U => a = as ∧ Z.Warmed39 U.vm ∧ U.heap = h0 ∧ CHv Z EL U.vm h0 ∧ ∀ x ∈ sf, Safe Z EL U.vm h0 x) (fun _ _ _ _ _ => True)
    (fun _ U o U' => ∃ v L, o = .returned v ∧ (G v U'.heap ∧ Fr n0 L) ∧ CHr Z EL U.vm U.heap U'.vm U'.heap ∧ ReturnedEndW U o U' L K N)
/-- what a walk bears that loads String constants: s0 is its true start, vm0 the tables over which it stands -/
def Lt (Z : State) (a0 : Array Value) (EL : List (String × Nat)) (s0 : State) (vm0 : Vm) (k0 : Nat) (h : Heap) : Prop :=
  s0.Since vm0 k0 ∧ k0 ≤ h.size ∧ CHr Z EL s0.vm s0.heap vm0 h ∧ EW Z a0 EL ∧ (∀ a ∈ Bundle.stringAtoms, a.before a0 Z = true) ∧ Z.Warmed39 vm0
section Lit
variable {p : Program} {l : Launch} {e : Env} {R : Room} {m : MethodId} {args : Array Value} {below : List Frame} {meth : Method} {c : Code} {s0 : State} {vm0 vm1 : Vm} {k0 K N n0 k n : Nat} {G : Option Value → Heap → Prop} {Y : State → Outcome → List Loc → Prop}
  {Z : State} {a0 : Array Value} {EL : List (String × Nat)} {own : String} {bytes : ByteArray} {ml : Nat} {ret : Option FieldType} {Ls Ls' : Array Slot} {S : List Value} {pc pc' pn : Nat} {h h' : Heap} {x a : Addr} {ws : List Addr} {sl : Nat} {v : Value}
theorem Lt.ext (L : Lt Z a0 EL s0 vm0 k0 h) (E : Ext h h') : Lt Z a0 EL s0 vm0 k0 h' := ⟨L.1, Nat.le_trans L.2.1 E.1, L.2.2.1.trans (CHr.ext E L.2.2.1.1), L.2.2.2⟩
theorem Lt.wr (L : Lt Z a0 EL s0 vm0 k0 h) (W : Wr h h' a sl v) (Sf : Safe Z EL vm0 h a) : Lt Z a0 EL s0 vm0 k0 h' := ⟨L.1, by rw [W.size]; exact L.2.1, L.2.2.1.trans (CHr.wr W Sf L.2.2.1.1), L.2.2.2⟩
theorem Lt.keep (L : Lt Z a0 EL s0 vm0 k0 h) (Kp : Keep h h' ws) (hs : ∀ x ∈ ws, Safe Z EL vm0 h x) : Lt Z a0 EL s0 vm0 k0 h' := ⟨L.1, Nat.le_trans L.2.1 Kp.1, L.2.2.1.trans (CHr.keep Kp hs L.2.2.1.1), L.2.2.2⟩
theorem Lt.sext (L : Lt Z a0 EL s0 vm0 k0 h) (E : Ext h h') (Sx : Safe Z EL vm0 h x) : Safe Z EL vm0 h' x := Safe.ext E L.2.2.1.1 Sx
theorem Lt.swr (L : Lt Z a0 EL s0 vm0 k0 h) (W : Wr h h' a sl v) (Sf : Safe Z EL vm0 h a) (Sx : Safe Z EL vm0 h x) : Safe Z EL vm0 h' x := Safe.wr W Sf L.2.2.1.1 Sx
theorem Lt.skeep (L : Lt Z a0 EL s0 vm0 k0 h) (Kp : Keep h h' ws) (hs : ∀ x ∈ ws, Safe Z EL vm0 h x) (Sx : Safe Z EL vm0 h x) : Safe Z EL vm0 h' x := Safe.keep Kp hs L.2.2.1.1 Sx
theorem Lt.fin (L : Lt Z a0 EL s0 vm0 k0 h) : ∀ s₂ o L', s₂.heap = h → FrameEnd (s0.setVm vm0) o s₂ L' K N → (CHr Z EL s0.vm s0.heap s₂.vm s₂.heap ∧ ReturnedEndW s0 o s₂ L' K N) := by
  rintro s₂ o L' rfl ⟨h1, h2, h3⟩
  obtain ⟨a, b, d⟩ := L.1.ended h2 L.2.1 h3
  refine ⟨L.2.2.1.trans ?_, h1, a, b, d⟩
  have q := CHv.later (h' := s₂.heap) L.2.2.2.2.2 (hW := (show (Wst Z vm0 s₂.heap).Warmed39 s₂.vm from h2.wide)) L.2.2.2.1 ⟨Nat.le_refl _, fun _ _ q => q⟩ (Or.inl h2.interned_eq) L.2.2.1.1
  exact ⟨q.1, Nat.le_refl _, q.2⟩
theorem enterL {y : MethodName} {as : Array Value} {wsc : List Cond} {rm : Room} {h0 : Heap} {sf : List Addr} (hp : plainFor y = true) (Z0 : n0 ≤ h0.size) (hEL : EW Z a0 EL) (hSA : ∀ a ∈ Bundle.stringAtoms, a.before a0 Z = true)
    (body : ∀ p e s0 m below meth c, Cx p (s0.setVm s0.vm) m meth c Z n0 y.cls bytes ml ret → meth.name = y.name → s0.heap = h0 → Lt Z a0 EL s0 s0.vm 0 h0 → (∀ x ∈ sf, Safe Z EL s0.vm h0 x) →
      Go p l e rm (s0.setVm s0.vm) m as below meth c (fun s₂ o L => CHr Z EL s0.vm s0.heap s₂.vm s₂.heap ∧ ReturnedEndW s0 o s₂ L K N) n0 G h0 0 0 (entryFrame m as ml)) : ConL l Z EL y bytes ml ret wsc rm K N as h0 n0 sf G := by
  refine MetFree.of_bodySF hp hisR ?_
  intro p e s m args below meth c s₁ Bd hml0 hP hK
  obtain ⟨rfl, hZ, hh, hCH, hsf⟩ := hP
  have X0 : Stand p l e rm (s.setVm s.vm) m args below meth c s₁ [] 0 0 := Stand.of_body Bd
  have e0 : s₁.heap = h0 := by rw [← hh, Bd.state]; rfl
  obtain ⟨s₂, o, h1, h2, h3, v, L, h4, h5, h6⟩ := body p e s m below meth c ⟨Bd.exec, hZ, Bd.bytes, hml0, findClass_of_methodNamed Bd.named, Bd.returns, Bd.notSynchronized, by show n0 ≤ s.heap.size; rw [hh]; exact Z0⟩ (name_of_methodNamed Bd.named Bd.method).1 hh
    ⟨(State.WarmedH.refl s).since 0, Nat.zero_le _, by rw [hh]; exact CHr.refl hCH, hEL, hSA, hZ⟩ hsf s₁ ⟨[], Fr.nil _, X0, e0⟩
  exact ⟨s₂, o, h1, h2, h3, v, L, h4, h5, h6⟩
theorem ldcL (C : Cx p (s0.setVm vm0) m meth c Z n0 own bytes ml ret) {i : Nat} {text : String} {vs : List Value} {z : Int32} {nn : Nat} (L : Lt Z a0 EL s0 vm0 k0 h) (w : (Cond.stringLink own i text).before a0 Z = true) (hmem : (own, i) ∈ EL)
    (ht : (∀ c ∈ text.toList, c.toNat < 256) ∧ text.toList.map (fun c => Value.int (Jvm.Lit.byteI c.toNat.toUInt16)) = vs) (hz : ¬ z < 0) (hl : z.toNatClampNeg = vs.length) (hd : decode bytes pc = .ok (.ldc i, 2)) (hp : pc + 2 = pc')
    (hn : 4 * text.toList.length ≤ nn) (hbig : nn ≤ 536870912) (hc : k + 2 ≤ R.cells) (hs : n + (nn + 4) ≤ R.slots) {k' n' : Nat} (hk' : k + 2 = k') (hn' : n + (nn + 4) = n')
    (g : ∀ vm1 k1 h' a b kc, Cx p (s0.setVm vm1) m meth c Z n0 own bytes ml ret → Lt Z a0 EL s0 vm1 k1 h' → Ext h h' → Exa Z h' a "java/lang/String" → Fld Z h' a "java/lang/String" "coder" "B" (.int 0) → Fld Z h' a "java/lang/String" "value" "[B" (.ref b) → Arv Z h' b kc .byte z vs (.int 0) →
      (∀ x, x < h.size → Safe Z EL vm0 h x → Safe Z EL vm1 h' x) → (∀ x, Safe Z EL vm1 h' x → x ≠ a ∧ x ≠ b) → Go p l e R (s0.setVm vm1) m args below meth c Y n0 G h' k' n' (mkF m pc' Ls (.ref a :: S))) :
    Go p l e R (s0.setVm vm0) m args below meth c Y n0 G h k n (mkF m pc Ls S) := fun T ⟨locs, F, X, eT⟩ => by
  subst hp hk' hn'
  obtain ⟨a, T', h', k1, b, kc, X', e', E, hS', hk1, hW, hf, A, F1, F2, V, la, lb, hC, hL, hne, st⟩ := ldcCH X C.1 L.2.2.2.2.2 C.2.2.2.2.1 w L.2.2.2.2.1 eT L.1 L.2.1 L.2.2.2.1 hmem L.2.2.1.1 ht hz hl (g := mkF m pc Ls S) rfl (hb C.2.2.1 hd) hn hbig hc hs
  exact step st (g T'.vm k1 h' a b kc ⟨C.1, hW, C.2.2.1, C.2.2.2.1, hf, C.2.2.2.2.2.1, C.2.2.2.2.2.2.1, C.2.2.2.2.2.2.2⟩ ⟨hS', hk1, L.2.2.1.trans hC, L.2.2.2.1, L.2.2.2.2.1, hW⟩ E A F1 F2 V (fun x hx Sx => hC.safe hx Sx) hne T' ⟨_, F, X', e'⟩)
theorem backOfL {y : MethodName} {b' : ByteArray} {mL : Nat} {r' : Option FieldType} {rm : Room} {len W : Nat} {as' : Array Value} {sf : List Addr} {Gc : Option Value → Heap → Prop} {s : State}
    (hM : ConL l Z EL y b' mL r' [] rm rm.cells rm.slots as' h n0 sf Gc) (hZ : Z.Warmed39 vm0) (wc : (Cond.code y b' mL r').before a0 Z = true) (wz : (Cond.initialized y.cls).before a0 Z = true) (hf : rm.frames + 1 ≤ R.frames) (hl : W + (mL + 11) + rm.locals ≤ R.locals)
    (hEL : EW Z a0 EL) (H : CHv Z EL vm0 h) (hsf : ∀ x ∈ sf, x < h.size ∧ Safe Z EL vm0 h x) :
    BackS l R p e below (s.setVm vm0) args y len W (fun A a => a = as' ∧ A.U.heap = h ∧ A.cells + rm.cells ≤ R.cells ∧ A.slots + rm.slots ≤ R.slots)
      (fun A _ v B => ∃ L, (Gc v B.U.heap ∧ Fr n0 L) ∧ B.locs = A.locs ++ L ∧ B.cells = A.cells + rm.cells ∧ B.slots = A.slots + rm.slots ∧ CHr Z EL vm0 h B.U.vm B.U.heap) :=
  BackS.of_freeW (bytes := b') (maxL := mL) (ret := r') (E := fun _ first o t L k n => k = rm.cells ∧ n = rm.slots ∧ (∃ v, o = .returned v ∧ (Gc v t.heap ∧ Fr n0 L)) ∧ CHr Z EL first.vm first.heap t.vm t.heap) hM hf hl
    (fun m meth c A a Y hp => have hU : Z.Warmed39 A.U.vm := wtrans (s := s.setVm vm0) hZ Y.warmed
      ⟨by show (Cond.and _ .tt).before a A.U = true; rw [Cond.before_and, mv hU wc]; rfl, mv hU wc, mv hU wz, hp.2.2.1, hp.2.2.2⟩)
    (fun m meth c A a g mk Y hp => ⟨hp.1, wtrans (s := s.setVm vm0) hZ Y.warmed, hp.2.1, (CHv.at Y hZ hEL H).1, fun x hx => (CHv.at Y hZ hEL H).safe (hsf x hx).1 (hsf x hx).2⟩) (fun _ _ _ _ _ _ _ _ _ => trivial)
    (fun _ _ _ _ ⟨v, L, h1, h2, h3, h4⟩ => ⟨L, _, _, h4, rfl, rfl, ⟨v, h1, h2⟩, h3⟩)
    (fun m meth c A a g mk v t L k n Y hp _ _ ⟨e1, e2, ⟨v', e3, e4⟩, e5⟩ => by
      cases e3; subst e1 e2
      refine ⟨L, e4, rfl, rfl, rfl, (CHv.at Y hZ hEL H).trans ?_⟩
      rw [← hp.2.1]; exact e5)
theorem callSL (C : Cx p (s0.setVm vm0) m meth c Z n0 own bytes ml ret) {i : Nat} {y : MethodName} {b' : ByteArray} {mL : Nat} {r' : Option FieldType} {rm : Room} {Gc : Option Value → Heap → Prop} {sf : List Addr} {argsL rest : List Value} {W : Nat} (L : Lt Z a0 EL s0 vm0 k0 h)
    (w1 : (Cond.methodLink own i y).before a0 Z = true) (w2 : (Cond.static y).before a0 Z = true) (w3 : (Cond.initialized y.cls).before a0 Z = true) (w4 : (Cond.code y b' mL r').before a0 Z = true)
    (hy : y.cls ≠ "java/lang/invoke/MethodHandle" ∧ y.cls ≠ "java/lang/invoke/VarHandle") (con : n0 ≤ h.size → ConL l Z EL y b' mL r' [] rm rm.cells rm.slots argsL.toArray h n0 sf Gc) (hsf : ∀ x ∈ sf, x < h.size ∧ Safe Z EL vm0 h x)
    (hd : decode bytes pc = .ok (.invokestatic i, 3)) (hp : pc + 3 = pc') (hsz : Ls.size = ml) {ps : List FieldType} {rr : Option FieldType} (hds : parseMethodDescriptor y.desc = some ⟨ps, rr⟩) (hlen : argsL.length = ps.length)
    (hS : S = argsL.reverse ++ rest) (hW : (rest.map fun v => v.category).sum = W) (hf : rm.frames + 1 ≤ R.frames) (hl : W + (mL + 11) + rm.locals ≤ R.locals) (hc : k + rm.cells ≤ R.cells) (hs : n + rm.slots ≤ R.slots) {k' n' : Nat} (hk' : k + rm.cells = k') (hn' : n + rm.slots = n')
    (g : ∀ vm1 k1 h' v, Cx p (s0.setVm vm1) m meth c Z n0 own bytes ml ret → Lt Z a0 EL s0 vm1 k1 h' → (∀ x, x < h.size → Safe Z EL vm0 h x → Safe Z EL vm1 h' x) → Gc v h' → Go p l e R (s0.setVm vm1) m args below meth c Y n0 G h' k' n' (mkF m pc' Ls (v.toList ++ rest))) :
    Go p l e R (s0.setVm vm0) m args below meth c Y n0 G h k n (mkF m pc Ls S) := fun T ⟨locs, F, X, eT⟩ => by
  subst hp hS hk' hn'
  obtain ⟨v, _, ⟨T', L', k', n'⟩, -, X', hSi, hg, ⟨Lc, ⟨hQ, hF⟩, l1, y1, z1, hC⟩, st⟩ := callSS X C.1 C.2.2.2.2.1 (mvT C.2.1 w1) (mvT C.2.1 w2) (mvT C.2.1 w3) (mvT C.2.1 w4) hy
    (backOfL (W := W) (con (hz C X eT)) L.2.2.2.2.2 w4 w3 hf hl L.2.2.2.1 L.2.2.1.1 hsf) (g := mkF m pc Ls (argsL.reverse ++ rest)) rfl (hsz.trans C.2.2.2.1.symm) (argsL := argsL) (rest := rest) (lenOf hds hlen) rfl (by show 2 * 0 + _ ≤ _; rw [Nat.mul_zero, Nat.zero_add]; exact Nat.le_of_eq hW) (hb C.2.2.1 hd) (fun _ _ => ⟨rfl, eT, hc, hs⟩)
  dsimp only [Pt.U, Pt.locs, Pt.cells, Pt.slots] at X' l1 y1 z1 st hQ hSi hg hC
  subst l1 y1 z1
  have hk0 : k0 ≤ T.heap.size := by rw [eT]; exact L.2.1
  obtain ⟨Xr, Sr, Wr', Or⟩ := rebS L.1 hk0 X' hSi hg C.2.1 C.2.2.2.2.1
  exact step (fun t q => st.trans q) (g T'.vm _ T'.heap v ⟨C.1, Wr', C.2.2.1, C.2.2.2.1, Or, C.2.2.2.2.2.1, C.2.2.2.2.2.2.1, C.2.2.2.2.2.2.2⟩ ⟨Sr, Nat.le_refl _, L.2.2.1.trans hC, L.2.2.2.1, L.2.2.2.2.1, Wr'⟩ (fun x hx Sx => hC.safe hx Sx) hQ T' ⟨_, Fr.app F hF, Xr, rfl⟩)
theorem callSpL (C : Cx p (s0.setVm vm0) m meth c Z n0 own bytes ml ret) {i : Nat} {y : MethodName} {b' : ByteArray} {mL : Nat} {rm : Room} {Gc : Option Value → Heap → Prop} {sf : List Addr} {b : Addr} {argsL rest : List Value} {W : Nat} (L : Lt Z a0 EL s0 vm0 k0 h) (hy1 : y.name = "<init>")
    (w1 : (Cond.methodLink own i y).before a0 Z = true) (w2 : (Cond.instanceMethod y).before a0 Z = true) (w3 : (Cond.initialized y.cls).before a0 Z = true) (w4 : (Cond.code y b' mL none).before a0 Z = true)
    (hy : y.cls ≠ "java/lang/invoke/MethodHandle" ∧ y.cls ≠ "java/lang/invoke/VarHandle") (con : n0 ≤ h.size → ConL l Z EL y b' mL none [] rm rm.cells rm.slots (.ref b :: argsL).toArray h n0 sf Gc) (hsf : ∀ x ∈ sf, x < h.size ∧ Safe Z EL vm0 h x)
    (hd : decode bytes pc = .ok (.invokespecial i, 3)) (hp : pc + 3 = pc') (hsz : Ls.size = ml) {ps : List FieldType} {rr : Option FieldType} (hds : parseMethodDescriptor y.desc = some ⟨ps, rr⟩) (hlen : argsL.length = ps.length)
    (hS : S = argsL.reverse ++ .ref b :: rest) (hW : (rest.map fun v => v.category).sum = W) (hf : rm.frames + 1 ≤ R.frames) (hl : W + (mL + 11) + rm.locals ≤ R.locals) (hc : k + rm.cells ≤ R.cells) (hs : n + rm.slots ≤ R.slots) {k' n' : Nat} (hk' : k + rm.cells = k') (hn' : n + rm.slots = n')
    (g : ∀ vm1 k1 h' v, Cx p (s0.setVm vm1) m meth c Z n0 own bytes ml ret → Lt Z a0 EL s0 vm1 k1 h' → (∀ x, x < h.size → Safe Z EL vm0 h x → Safe Z EL vm1 h' x) → Gc v h' → Go p l e R (s0.setVm vm1) m args below meth c Y n0 G h' k' n' (mkF m pc' Ls (v.toList ++ rest))) :
    Go p l e R (s0.setVm vm0) m args below meth c Y n0 G h k n (mkF m pc Ls S) := fun T ⟨locs, F, X, eT⟩ => by
  subst hp hS hk' hn'
  obtain ⟨v, _, ⟨T', L', k', n'⟩, -, X', hSi, hg, ⟨Lc, ⟨hQ, hF⟩, l1, y1, z1, hC⟩, st⟩ := X.specialBackS C.1 hy1 C.2.2.2.2.1 (mvT C.2.1 w1) (mvT C.2.1 w2) (mvT C.2.1 w4) hy
    (backOfL (W := W) (con (hz C X eT)) L.2.2.2.2.2 w4 w3 hf hl L.2.2.2.1 L.2.2.1.1 hsf) (g := mkF m pc Ls (argsL.reverse ++ .ref b :: rest)) rfl (hsz.trans C.2.2.2.1.symm) (Steps.refl _) (a := b) (argsL := argsL) (rest := rest) (lenOf hds hlen) rfl (by show 2 * 0 + _ ≤ _; rw [Nat.mul_zero, Nat.zero_add]; exact Nat.le_of_eq hW) (hb C.2.2.1 hd) (fun _ _ => ⟨rfl, eT, hc, hs⟩)
  dsimp only [Pt.U, Pt.locs, Pt.cells, Pt.slots] at X' l1 y1 z1 st hQ hSi hg hC
  subst l1 y1 z1
  have hk0 : k0 ≤ T.heap.size := by rw [eT]; exact L.2.1
  obtain ⟨Xr, Sr, Wr', Or⟩ := rebS L.1 hk0 X' hSi hg C.2.1 C.2.2.2.2.1
  exact step (fun t q => st.trans q) (g T'.vm _ T'.heap v ⟨C.1, Wr', C.2.2.1, C.2.2.2.1, Or, C.2.2.2.2.2.1, C.2.2.2.2.2.2.1, C.2.2.2.2.2.2.2⟩ ⟨Sr, Nat.le_refl _, L.2.2.1.trans hC, L.2.2.2.1, L.2.2.2.2.1, Wr'⟩ (fun x hx Sx => hC.safe hx Sx) hQ T' ⟨_, Fr.app F hF, Xr, rfl⟩)
end Lit
end Jvm.Pilot.@@N@@.W
namespace Jvm.Pilot.@@N@@
open Jvm Jvm.ClassFile Sem Op Lib Jvm.Free Jvm.Stand Jvm.LawKit Jvm.RoadKit Bundle Jvm.Pilot.@@N@@.Jvm.D
theorem ef_17_1 (m : MethodId) (o0 : Addr) (o2 : Addr) : entryFrame m #[(.ref o0), (.int (0 : Int32)), (.ref o2), (.int (0 : Int32)), (.int (1 : Int32))] 7 = mkF m 0 #[.val (.ref o0), .val (.int (0 : Int32)), .val (.ref o2), .val (.int (0 : Int32)), .val (.int (1 : Int32)), .unset, .unset] [] := by first | (simp [entryFrame, mkF, argsToLocals, Value.category]; done) | rfl
theorem pn_0 : plainName "java/lang/StringUTF16" = true := by first | (simp [plainName, overriddenIn]; done) | decide +kernel
theorem d17_0 : decode jdk_52_method_21_code 0 = .ok (.iconst 0, 1) := by decide +kernel
theorem d17_1 : decode jdk_52_method_21_code 1 = .ok (.istore 5, 2) := by decide +kernel
theorem d17_3 : decode jdk_52_method_21_code 3 = .ok (.iload 5, 2) := by decide +kernel
theorem d17_5 : decode jdk_52_method_21_code 5 = .ok (.iload 4, 2) := by decide +kernel
theorem d17_7 : decode jdk_52_method_21_code 7 = .ok (.if_icmp .ge 37, 3) := by decide +kernel
theorem d17_10 : decode jdk_52_method_21_code 10 = .ok (.aload_n 0, 1) := by decide +kernel
theorem d17_11 : decode jdk_52_method_21_code 11 = .ok (.iload_n 1, 1) := by decide +kernel
theorem d17_12 : decode jdk_52_method_21_code 12 = .ok (.caload, 1) := by decide +kernel
theorem d17_13 : decode jdk_52_method_21_code 13 = .ok (.istore 6, 2) := by decide +kernel
theorem d17_15 : decode jdk_52_method_21_code 15 = .ok (.iload 6, 2) := by decide +kernel
theorem d17_17 : decode jdk_52_method_21_code 17 = .ok (.sipush 255, 3) := by decide +kernel
theorem d17_20 : decode jdk_52_method_21_code 20 = .ok (.if_icmp .le 6, 3) := by decide +kernel
theorem d17_26 : decode jdk_52_method_21_code 26 = .ok (.aload_n 2, 1) := by decide +kernel
theorem d17_27 : decode jdk_52_method_21_code 27 = .ok (.iload_n 3, 1) := by decide +kernel
theorem d17_28 : decode jdk_52_method_21_code 28 = .ok (.iload 6, 2) := by decide +kernel
theorem d17_30 : decode jdk_52_method_21_code 30 = .ok (.i2b, 1) := by decide +kernel
theorem d17_31 : decode jdk_52_method_21_code 31 = .ok (.bastore, 1) := by decide +kernel
theorem d17_32 : decode jdk_52_method_21_code 32 = .ok (.iinc 1 1, 3) := by decide +kernel
theorem d17_35 : decode jdk_52_method_21_code 35 = .ok (.iinc 3 1, 3) := by decide +kernel
theorem d17_38 : decode jdk_52_method_21_code 38 = .ok (.iinc 5 1, 3) := by decide +kernel
theorem d17_41 : decode jdk_52_method_21_code 41 = .ok (.goto (-38), 3) := by decide +kernel
theorem d17_44 : decode jdk_52_method_21_code 44 = .ok (.iload 4, 2) := by decide +kernel
theorem d17_46 : decode jdk_52_method_21_code 46 = .ok (.ireturn, 1) := by decide +kernel
theorem ef_16_1 (m : MethodId) (o0 : Addr) : entryFrame m #[(.ref o0), (.int (0 : Int32)), (.int (1 : Int32))] 6 = mkF m 0 #[.val (.ref o0), .val (.int (0 : Int32)), .val (.int (1 : Int32)), .unset, .unset, .unset] [] := by first | (simp [entryFrame, mkF, argsToLocals, Value.category]; done) | rfl
theorem d16_0 : decode jdk_52_method_16_code 0 = .ok (.iload_n 2, 1) := by decide +kernel
theorem d16_1 : decode jdk_52_method_16_code 1 = .ok (.newarray .byte, 2) := by decide +kernel
theorem d16_3 : decode jdk_52_method_16_code 3 = .ok (.astore_n 3, 1) := by decide +kernel
theorem d16_4 : decode jdk_52_method_16_code 4 = .ok (.aload_n 0, 1) := by decide +kernel
theorem d16_5 : decode jdk_52_method_16_code 5 = .ok (.iload_n 1, 1) := by decide +kernel
theorem d16_6 : decode jdk_52_method_16_code 6 = .ok (.aload_n 3, 1) := by decide +kernel
theorem d16_7 : decode jdk_52_method_16_code 7 = .ok (.iconst 0, 1) := by decide +kernel
theorem d16_8 : decode jdk_52_method_16_code 8 = .ok (.iload_n 2, 1) := by decide +kernel
theorem d16_9 : decode jdk_52_method_16_code 9 = .ok (.invokestatic 115, 3) := by decide +kernel
theorem pd_0 : parseMethodDescriptor "([CI[BII)I" = some ⟨[(.array .char), .int, (.array .byte), .int, .int], some .int⟩ := by decide +kernel
theorem d16_12 : decode jdk_52_method_16_code 12 = .ok (.istore 4, 2) := by decide +kernel
theorem d16_14 : decode jdk_52_method_16_code 14 = .ok (.iload 4, 2) := by decide +kernel
theorem d16_16 : decode jdk_52_method_16_code 16 = .ok (.iload_n 2, 1) := by decide +kernel
theorem d16_17 : decode jdk_52_method_16_code 17 = .ok (.if_icmp .eq 40, 3) := by decide +kernel
theorem d16_57 : decode jdk_52_method_16_code 57 = .ok (.aload_n 3, 1) := by decide +kernel
theorem d16_58 : decode jdk_52_method_16_code 58 = .ok (.areturn, 1) := by decide +kernel
theorem ef_18_1 (m : MethodId) (o0 : Addr) : entryFrame m #[(.ref o0), (.int (1 : Int32))] 2 = mkF m 0 #[.val (.ref o0), .val (.int (1 : Int32))] [] := by first | (simp [entryFrame, mkF, argsToLocals, Value.category]; done) | rfl
theorem d18_0 : decode jdk_52_method_15_code 0 = .ok (.iload_n 1, 1) := by decide +kernel
theorem d18_1 : decode jdk_52_method_15_code 1 = .ok (.aload_n 0, 1) := by decide +kernel
theorem d18_2 : decode jdk_52_method_15_code 2 = .ok (.arraylength, 1) := by decide +kernel
theorem d18_3 : decode jdk_52_method_15_code 3 = .ok (.isub, 1) := by decide +kernel
theorem d18_4 : decode jdk_52_method_15_code 4 = .ok (.bipush 31, 2) := by decide +kernel
theorem d18_6 : decode jdk_52_method_15_code 6 = .ok (.iushr, 1) := by decide +kernel
theorem d18_7 : decode jdk_52_method_15_code 7 = .ok (.i2b, 1) := by decide +kernel
theorem d18_8 : decode jdk_52_method_15_code 8 = .ok (.ireturn, 1) := by decide +kernel
theorem ef_3_1 (m : MethodId) (o0 : Addr) (o1 : Addr) : entryFrame m #[(.ref o0), (.ref o1), (.int (0 : Int32)), (.int (1 : Int32)), .null] 6 = mkF m 0 #[.val (.ref o0), .val (.ref o1), .val (.int (0 : Int32)), .val (.int (1 : Int32)), .val .null, .unset] [] := by first | (simp [entryFrame, mkF, argsToLocals, Value.category]; done) | rfl
theorem pn_1 : plainName "java/lang/String" = true := by first | (simp [plainName, overriddenIn]; done) | decide +kernel
theorem d3_0 : decode jdk_42_method_149_code 0 = .ok (.aload_n 0, 1) := by decide +kernel
theorem d3_1 : decode jdk_42_method_149_code 1 = .ok (.invokespecial 1, 3) := by decide +kernel
theorem d3_4 : decode jdk_42_method_149_code 4 = .ok (.iload_n 3, 1) := by decide +kernel
theorem d3_5 : decode jdk_42_method_149_code 5 = .ok (.ifCond .ne 22, 3) := by decide +kernel
theorem d3_27 : decode jdk_42_method_149_code 27 = .ok (.getstatic 38, 3) := by decide +kernel
theorem d3_30 : decode jdk_42_method_149_code 30 = .ok (.ifCond .eq 28, 3) := by decide +kernel
theorem d3_33 : decode jdk_42_method_149_code 33 = .ok (.aload_n 1, 1) := by decide +kernel
theorem d3_34 : decode jdk_42_method_149_code 34 = .ok (.iload_n 2, 1) := by decide +kernel
theorem d3_35 : decode jdk_42_method_149_code 35 = .ok (.iload_n 3, 1) := by decide +kernel
theorem d3_36 : decode jdk_42_method_149_code 36 = .ok (.invokestatic 177, 3) := by decide +kernel
theorem pd_1 : parseMethodDescriptor "([CII)[B" = some ⟨[(.array .char), .int, .int], some (.array .byte)⟩ := by decide +kernel
theorem d3_39 : decode jdk_42_method_149_code 39 = .ok (.astore 5, 2) := by decide +kernel
theorem d3_41 : decode jdk_42_method_149_code 41 = .ok (.aload_n 0, 1) := by decide +kernel
theorem d3_42 : decode jdk_42_method_149_code 42 = .ok (.aload 5, 2) := by decide +kernel
theorem d3_44 : decode jdk_42_method_149_code 44 = .ok (.iload_n 3, 1) := by decide +kernel
theorem d3_45 : decode jdk_42_method_149_code 45 = .ok (.invokestatic 47, 3) := by decide +kernel
theorem pd_2 : parseMethodDescriptor "([BI)B" = some ⟨[(.array .byte), .int], some .byte⟩ := by decide +kernel
theorem d3_48 : decode jdk_42_method_149_code 48 = .ok (.putfield 15, 3) := by decide +kernel
theorem d3_51 : decode jdk_42_method_149_code 51 = .ok (.aload_n 0, 1) := by decide +kernel
theorem d3_52 : decode jdk_42_method_149_code 52 = .ok (.aload 5, 2) := by decide +kernel
theorem d3_54 : decode jdk_42_method_149_code 54 = .ok (.putfield 9, 3) := by decide +kernel
theorem d3_57 : decode jdk_42_method_149_code 57 = .ok (.return_, 1) := by decide +kernel
theorem ef_2_1 (m : MethodId) (o0 : Addr) (o1 : Addr) : entryFrame m #[(.ref o0), (.ref o1)] 2 = mkF m 0 #[.val (.ref o0), .val (.ref o1)] [] := by first | (simp [entryFrame, mkF, argsToLocals, Value.category]; done) | rfl
theorem d2_0 : decode jdk_42_method_3_code 0 = .ok (.aload_n 0, 1) := by decide +kernel
theorem d2_1 : decode jdk_42_method_3_code 1 = .ok (.aload_n 1, 1) := by decide +kernel
theorem d2_2 : decode jdk_42_method_3_code 2 = .ok (.iconst 0, 1) := by decide +kernel
theorem d2_3 : decode jdk_42_method_3_code 3 = .ok (.aload_n 1, 1) := by decide +kernel
theorem d2_4 : decode jdk_42_method_3_code 4 = .ok (.arraylength, 1) := by decide +kernel
theorem d2_5 : decode jdk_42_method_3_code 5 = .ok (.aconst_null, 1) := by decide +kernel
theorem d2_6 : decode jdk_42_method_3_code 6 = .ok (.invokespecial 27, 3) := by decide +kernel
theorem pd_3 : parseMethodDescriptor "([CIILjava/lang/Void;)V" = some ⟨[(.array .char), .int, .int, (.object "java/lang/Void")], none⟩ := by decide +kernel
theorem d2_9 : decode jdk_42_method_3_code 9 = .ok (.return_, 1) := by decide +kernel
theorem ef_17_2 (m : MethodId) (o0 : Addr) (o2 : Addr) : entryFrame m #[(.ref o0), (.int (0 : Int32)), (.ref o2), (.int (0 : Int32)), (.int (2 : Int32))] 7 = mkF m 0 #[.val (.ref o0), .val (.int (0 : Int32)), .val (.ref o2), .val (.int (0 : Int32)), .val (.int (2 : Int32)), .unset, .unset] [] := by first | (simp [entryFrame, mkF, argsToLocals, Value.category]; done) | rfl
theorem ef_16_2 (m : MethodId) (o0 : Addr) : entryFrame m #[(.ref o0), (.int (0 : Int32)), (.int (2 : Int32))] 6 = mkF m 0 #[.val (.ref o0), .val (.int (0 : Int32)), .val (.int (2 : Int32)), .unset, .unset, .unset] [] := by first | (simp [entryFrame, mkF, argsToLocals, Value.category]; done) | rfl
theorem ef_18_2 (m : MethodId) (o0 : Addr) : entryFrame m #[(.ref o0), (.int (2 : Int32))] 2 = mkF m 0 #[.val (.ref o0), .val (.int (2 : Int32))] [] := by first | (simp [entryFrame, mkF, argsToLocals, Value.category]; done) | rfl
theorem ef_3_2 (m : MethodId) (o0 : Addr) (o1 : Addr) : entryFrame m #[(.ref o0), (.ref o1), (.int (0 : Int32)), (.int (2 : Int32)), .null] 6 = mkF m 0 #[.val (.ref o0), .val (.ref o1), .val (.int (0 : Int32)), .val (.int (2 : Int32)), .val .null, .unset] [] := by first | (simp [entryFrame, mkF, argsToLocals, Value.category]; done) | rfl
theorem ef_2_2 (m : MethodId) (o0 : Addr) (o1 : Addr) : entryFrame m #[(.ref o0), (.ref o1)] 2 = mkF m 0 #[.val (.ref o0), .val (.ref o1)] [] := by first | (simp [entryFrame, mkF, argsToLocals, Value.category]; done) | rfl
theorem ef_17_3 (m : MethodId) (o0 : Addr) (o2 : Addr) : entryFrame m #[(.ref o0), (.int (0 : Int32)), (.ref o2), (.int (0 : Int32)), (.int (3 : Int32))] 7 = mkF m 0 #[.val (.ref o0), .val (.int (0 : Int32)), .val (.ref o2), .val (.int (0 : Int32)), .val (.int (3 : Int32)), .unset, .unset] [] := by first | (simp [entryFrame, mkF, argsToLocals, Value.category]; done) | rfl
theorem ef_16_3 (m : MethodId) (o0 : Addr) : entryFrame m #[(.ref o0), (.int (0 : Int32)), (.int (3 : Int32))] 6 = mkF m 0 #[.val (.ref o0), .val (.int (0 : Int32)), .val (.int (3 : Int32)), .unset, .unset, .unset] [] := by first | (simp [entryFrame, mkF, argsToLocals, Value.category]; done) | rfl
theorem ef_18_3 (m : MethodId) (o0 : Addr) : entryFrame m #[(.ref o0), (.int (3 : Int32))] 2 = mkF m 0 #[.val (.ref o0), .val (.int (3 : Int32))] [] := by first | (simp [entryFrame, mkF, argsToLocals, Value.category]; done) | rfl
theorem ef_3_3 (m : MethodId) (o0 : Addr) (o1 : Addr) : entryFrame m #[(.ref o0), (.ref o1), (.int (0 : Int32)), (.int (3 : Int32)), .null] 6 = mkF m 0 #[.val (.ref o0), .val (.ref o1), .val (.int (0 : Int32)), .val (.int (3 : Int32)), .val .null, .unset] [] := by first | (simp [entryFrame, mkF, argsToLocals, Value.category]; done) | rfl
theorem ef_2_3 (m : MethodId) (o0 : Addr) (o1 : Addr) : entryFrame m #[(.ref o0), (.ref o1)] 2 = mkF m 0 #[.val (.ref o0), .val (.ref o1)] [] := by first | (simp [entryFrame, mkF, argsToLocals, Value.category]; done) | rfl
theorem ef_3_0 (m : MethodId) (o0 : Addr) (o1 : Addr) : entryFrame m #[(.ref o0), (.ref o1), (.int (0 : Int32)), (.int (0 : Int32)), .null] 6 = mkF m 0 #[.val (.ref o0), .val (.ref o1), .val (.int (0 : Int32)), .val (.int (0 : Int32)), .val .null, .unset] [] := by first | (simp [entryFrame, mkF, argsToLocals, Value.category]; done) | rfl
theorem d3_8 : decode jdk_42_method_149_code 8 = .ok (.aload_n 0, 1) := by decide +kernel
theorem d3_9 : decode jdk_42_method_149_code 9 = .ok (.ldc 7, 2) := by decide +kernel
theorem tx_1 : (∀ c ∈ "".toList, c.toNat < 256) ∧ "".toList.map (fun c => Value.int (Jvm.Lit.byteI c.toNat.toUInt16)) = [] := by
  have e : "".toList = [] := by first | rfl | decide +kernel | simp
  rw [e]; constructor
  · decide
  · rfl
theorem txl_1 : 4 * "".toList.length ≤ 0 := by
  have e : "".toList = [] := by first | rfl | decide +kernel | simp
  rw [e]; decide
theorem d3_11 : decode jdk_42_method_149_code 11 = .ok (.getfield 9, 3) := by decide +kernel
theorem d3_14 : decode jdk_42_method_149_code 14 = .ok (.putfield 9, 3) := by decide +kernel
theorem d3_17 : decode jdk_42_method_149_code 17 = .ok (.aload_n 0, 1) := by decide +kernel
theorem d3_18 : decode jdk_42_method_149_code 18 = .ok (.ldc 7, 2) := by decide +kernel
theorem d3_20 : decode jdk_42_method_149_code 20 = .ok (.getfield 15, 3) := by decide +kernel
theorem d3_23 : decode jdk_42_method_149_code 23 = .ok (.putfield 15, 3) := by decide +kernel
theorem d3_26 : decode jdk_42_method_149_code 26 = .ok (.return_, 1) := by decide +kernel
theorem ef_2_0 (m : MethodId) (o0 : Addr) (o1 : Addr) : entryFrame m #[(.ref o0), (.ref o1)] 2 = mkF m 0 #[.val (.ref o0), .val (.ref o1)] [] := by first | (simp [entryFrame, mkF, argsToLocals, Value.category]; done) | rfl
theorem ef_6v (m : MethodId) (p0 : Int32) : entryFrame m #[(.int p0)] 1 = mkF m 0 #[.val (.int p0)] [] := by first | (simp [entryFrame, mkF, argsToLocals, Value.category]; done) | rfl
theorem pn_2 : plainName "java/lang/StringLatin1" = true := by first | (simp [plainName, overriddenIn]; done) | decide +kernel
theorem d6_0 : decode jdk_43_method_3_code 0 = .ok (.iload_n 0, 1) := by decide +kernel
theorem d6_1 : decode jdk_43_method_3_code 1 = .ok (.sipush 255, 3) := by decide +kernel
theorem d6_4 : decode jdk_43_method_3_code 4 = .ok (.if_icmp .gt 7, 3) := by decide +kernel
theorem d6_7 : decode jdk_43_method_3_code 7 = .ok (.iconst 1, 1) := by decide +kernel
theorem d6_8 : decode jdk_43_method_3_code 8 = .ok (.goto 4, 3) := by decide +kernel
theorem d6_12 : decode jdk_43_method_3_code 12 = .ok (.ireturn, 1) := by decide +kernel
theorem ef_7v (m : MethodId) (p0 : Int32) : entryFrame m #[(.int p0)] 1 = mkF m 0 #[.val (.int p0)] [] := by first | (simp [entryFrame, mkF, argsToLocals, Value.category]; done) | rfl
theorem d7_0 : decode jdk_43_method_46_code 0 = .ok (.iconst 1, 1) := by decide +kernel
theorem d7_1 : decode jdk_43_method_46_code 1 = .ok (.newarray .byte, 2) := by decide +kernel
theorem d7_3 : decode jdk_43_method_46_code 3 = .ok (.dup, 1) := by decide +kernel
theorem d7_4 : decode jdk_43_method_46_code 4 = .ok (.iconst 0, 1) := by decide +kernel
theorem d7_5 : decode jdk_43_method_46_code 5 = .ok (.iload_n 0, 1) := by decide +kernel
theorem d7_6 : decode jdk_43_method_46_code 6 = .ok (.i2b, 1) := by decide +kernel
theorem d7_7 : decode jdk_43_method_46_code 7 = .ok (.bastore, 1) := by decide +kernel
theorem d7_8 : decode jdk_43_method_46_code 8 = .ok (.areturn, 1) := by decide +kernel
theorem ef_8v (m : MethodId) (o0 : Addr) (o1 : Addr) : entryFrame m #[(.ref o0), (.ref o1), (.int (0 : Int32))] 3 = mkF m 0 #[.val (.ref o0), .val (.ref o1), .val (.int (0 : Int32))] [] := by first | (simp [entryFrame, mkF, argsToLocals, Value.category]; done) | rfl
theorem d8_0 : decode jdk_42_method_151_code 0 = .ok (.aload_n 0, 1) := by decide +kernel
theorem d8_1 : decode jdk_42_method_151_code 1 = .ok (.invokespecial 1, 3) := by decide +kernel
theorem d8_4 : decode jdk_42_method_151_code 4 = .ok (.aload_n 0, 1) := by decide +kernel
theorem d8_5 : decode jdk_42_method_151_code 5 = .ok (.aload_n 1, 1) := by decide +kernel
theorem d8_6 : decode jdk_42_method_151_code 6 = .ok (.putfield 9, 3) := by decide +kernel
theorem d8_9 : decode jdk_42_method_151_code 9 = .ok (.aload_n 0, 1) := by decide +kernel
theorem d8_10 : decode jdk_42_method_151_code 10 = .ok (.iload_n 2, 1) := by decide +kernel
theorem d8_11 : decode jdk_42_method_151_code 11 = .ok (.putfield 15, 3) := by decide +kernel
theorem d8_14 : decode jdk_42_method_151_code 14 = .ok (.return_, 1) := by decide +kernel
theorem ef_5v (m : MethodId) (p0 : Int32) : entryFrame m #[(.int p0)] 1 = mkF m 0 #[.val (.int p0)] [] := by first | (simp [entryFrame, mkF, argsToLocals, Value.category]; done) | rfl
theorem d5_0 : decode jdk_42_method_139_code 0 = .ok (.getstatic 38, 3) := by decide +kernel
theorem d5_3 : decode jdk_42_method_139_code 3 = .ok (.ifCond .eq 23, 3) := by decide +kernel
theorem d5_6 : decode jdk_42_method_139_code 6 = .ok (.iload_n 0, 1) := by decide +kernel
theorem d5_7 : decode jdk_42_method_139_code 7 = .ok (.invokestatic 1015, 3) := by decide +kernel
theorem pd_4 : parseMethodDescriptor "(C)Z" = some ⟨[.char], some .boolean⟩ := by decide +kernel
theorem d5_10 : decode jdk_42_method_139_code 10 = .ok (.ifCond .eq 16, 3) := by decide +kernel
theorem d5_13 : decode jdk_42_method_139_code 13 = .ok (.new 10, 3) := by decide +kernel
theorem d5_16 : decode jdk_42_method_139_code 16 = .ok (.dup, 1) := by decide +kernel
theorem d5_17 : decode jdk_42_method_139_code 17 = .ok (.iload_n 0, 1) := by decide +kernel
theorem d5_18 : decode jdk_42_method_139_code 18 = .ok (.invokestatic 1018, 3) := by decide +kernel
theorem pd_5 : parseMethodDescriptor "(C)[B" = some ⟨[.char], some (.array .byte)⟩ := by decide +kernel
theorem d5_21 : decode jdk_42_method_139_code 21 = .ok (.iconst 0, 1) := by decide +kernel
theorem d5_22 : decode jdk_42_method_139_code 22 = .ok (.invokespecial 209, 3) := by decide +kernel
theorem pd_6 : parseMethodDescriptor "([BB)V" = some ⟨[(.array .byte), .byte], none⟩ := by decide +kernel
theorem d5_25 : decode jdk_42_method_139_code 25 = .ok (.areturn, 1) := by decide +kernel
theorem ef_15g (m : MethodId) (av : Addr) (bv : Addr) : entryFrame m #[(.ref av), (.ref bv)] 3 = mkF m 0 #[.val (.ref av), .val (.ref bv), .unset] [] := by first | (simp [entryFrame, mkF, argsToLocals, Value.category]; done) | rfl
theorem d15_0 : decode jdk_43_method_13_code 0 = .ok (.aload_n 0, 1) := by decide +kernel
theorem d15_1 : decode jdk_43_method_13_code 1 = .ok (.arraylength, 1) := by decide +kernel
theorem d15_2 : decode jdk_43_method_13_code 2 = .ok (.aload_n 1, 1) := by decide +kernel
theorem d15_3 : decode jdk_43_method_13_code 3 = .ok (.arraylength, 1) := by decide +kernel
theorem d15_4 : decode jdk_43_method_13_code 4 = .ok (.if_icmp .ne 30, 3) := by decide +kernel
theorem d15_34 : decode jdk_43_method_13_code 34 = .ok (.iconst 0, 1) := by decide +kernel
theorem d15_35 : decode jdk_43_method_13_code 35 = .ok (.ireturn, 1) := by decide +kernel
theorem d15_7 : decode jdk_43_method_13_code 7 = .ok (.iconst 0, 1) := by decide +kernel
theorem d15_8 : decode jdk_43_method_13_code 8 = .ok (.istore_n 2, 1) := by decide +kernel
theorem d15_9 : decode jdk_43_method_13_code 9 = .ok (.iload_n 2, 1) := by decide +kernel
theorem d15_10 : decode jdk_43_method_13_code 10 = .ok (.aload_n 0, 1) := by decide +kernel
theorem d15_11 : decode jdk_43_method_13_code 11 = .ok (.arraylength, 1) := by decide +kernel
theorem d15_12 : decode jdk_43_method_13_code 12 = .ok (.if_icmp .ge 20, 3) := by decide +kernel
theorem d15_32 : decode jdk_43_method_13_code 32 = .ok (.iconst 1, 1) := by decide +kernel
theorem d15_33 : decode jdk_43_method_13_code 33 = .ok (.ireturn, 1) := by decide +kernel
theorem d15_15 : decode jdk_43_method_13_code 15 = .ok (.aload_n 0, 1) := by decide +kernel
theorem d15_16 : decode jdk_43_method_13_code 16 = .ok (.iload_n 2, 1) := by decide +kernel
theorem d15_17 : decode jdk_43_method_13_code 17 = .ok (.baload, 1) := by decide +kernel
theorem d15_18 : decode jdk_43_method_13_code 18 = .ok (.aload_n 1, 1) := by decide +kernel
theorem d15_19 : decode jdk_43_method_13_code 19 = .ok (.iload_n 2, 1) := by decide +kernel
theorem d15_20 : decode jdk_43_method_13_code 20 = .ok (.baload, 1) := by decide +kernel
theorem d15_21 : decode jdk_43_method_13_code 21 = .ok (.if_icmp .eq 5, 3) := by decide +kernel
theorem d15_26 : decode jdk_43_method_13_code 26 = .ok (.iinc 2 1, 3) := by decide +kernel
theorem d15_29 : decode jdk_43_method_13_code 29 = .ok (.goto (-20), 3) := by decide +kernel
theorem d15_24 : decode jdk_43_method_13_code 24 = .ok (.iconst 0, 1) := by decide +kernel
theorem d15_25 : decode jdk_43_method_13_code 25 = .ok (.ireturn, 1) := by decide +kernel
theorem ef_14g (m : MethodId) (o0 : Addr) (o1 : Addr) : entryFrame m #[(.ref o0), (.ref o1)] 3 = mkF m 0 #[.val (.ref o0), .val (.ref o1), .unset] [] := by first | (simp [entryFrame, mkF, argsToLocals, Value.category]; done) | rfl
theorem d14_0 : decode jdk_42_method_66_code 0 = .ok (.aload_n 0, 1) := by decide +kernel
theorem d14_1 : decode jdk_42_method_66_code 1 = .ok (.aload_n 1, 1) := by decide +kernel
theorem d14_2 : decode jdk_42_method_66_code 2 = .ok (.if_acmp .ne 5, 3) := by decide +kernel
theorem d14_7 : decode jdk_42_method_66_code 7 = .ok (.aload_n 1, 1) := by decide +kernel
theorem d14_8 : decode jdk_42_method_66_code 8 = .ok (.instanceof 10, 3) := by decide +kernel
theorem d14_11 : decode jdk_42_method_66_code 11 = .ok (.ifCond .eq 43, 3) := by decide +kernel
theorem d14_14 : decode jdk_42_method_66_code 14 = .ok (.aload_n 1, 1) := by decide +kernel
theorem d14_15 : decode jdk_42_method_66_code 15 = .ok (.checkcast 10, 3) := by decide +kernel
theorem d14_18 : decode jdk_42_method_66_code 18 = .ok (.astore_n 2, 1) := by decide +kernel
theorem d14_19 : decode jdk_42_method_66_code 19 = .ok (.getstatic 38, 3) := by decide +kernel
theorem d14_22 : decode jdk_42_method_66_code 22 = .ok (.ifCond .eq 14, 3) := by decide +kernel
theorem d14_25 : decode jdk_42_method_66_code 25 = .ok (.aload_n 0, 1) := by decide +kernel
theorem d14_26 : decode jdk_42_method_66_code 26 = .ok (.getfield 15, 3) := by decide +kernel
theorem d14_29 : decode jdk_42_method_66_code 29 = .ok (.aload_n 2, 1) := by decide +kernel
theorem d14_30 : decode jdk_42_method_66_code 30 = .ok (.getfield 15, 3) := by decide +kernel
theorem d14_33 : decode jdk_42_method_66_code 33 = .ok (.if_icmp .ne 21, 3) := by decide +kernel
theorem d14_36 : decode jdk_42_method_66_code 36 = .ok (.aload_n 0, 1) := by decide +kernel
theorem d14_37 : decode jdk_42_method_66_code 37 = .ok (.getfield 9, 3) := by decide +kernel
theorem d14_40 : decode jdk_42_method_66_code 40 = .ok (.aload_n 2, 1) := by decide +kernel
theorem d14_41 : decode jdk_42_method_66_code 41 = .ok (.getfield 9, 3) := by decide +kernel
theorem d14_44 : decode jdk_42_method_66_code 44 = .ok (.invokestatic 541, 3) := by decide +kernel
theorem pd_7 : parseMethodDescriptor "([B[B)Z" = some ⟨[(.array .byte), (.array .byte)], some .boolean⟩ := by decide +kernel
theorem d14_47 : decode jdk_42_method_66_code 47 = .ok (.ifCond .eq 7, 3) := by decide +kernel
theorem d14_50 : decode jdk_42_method_66_code 50 = .ok (.iconst 1, 1) := by decide +kernel
theorem d14_51 : decode jdk_42_method_66_code 51 = .ok (.goto 4, 3) := by decide +kernel
theorem d14_55 : decode jdk_42_method_66_code 55 = .ok (.ireturn, 1) := by decide +kernel
theorem d14_54 : decode jdk_42_method_66_code 54 = .ok (.iconst 0, 1) := by decide +kernel
theorem d14_5 : decode jdk_42_method_66_code 5 = .ok (.iconst 1, 1) := by decide +kernel
theorem d14_6 : decode jdk_42_method_66_code 6 = .ok (.ireturn, 1) := by decide +kernel
theorem ef_1 (m : MethodId) (p0 : Int32) (p1 : Int32) (p2 : Int32) (p3 : Int32) : entryFrame m #[(.int p0), (.int p1), (.int p2), (.int p3)] 4 = mkF m 0 #[.val (.int p0), .val (.int p1), .val (.int p2), .val (.int p3)] [] := by first | (simp [entryFrame, mkF, argsToLocals, Value.category]; done) | rfl
theorem pn_3 : plainName "com/example/termwright/termwright/HeadingHeadsSameDivisionPinLaw" = true := by first | (simp [plainName, overriddenIn]; done) | decide +kernel
theorem d1_0 : decode method_3_code 0 = .ok (.iload_n 0, 1) := by decide +kernel
theorem d1_1 : decode method_3_code 1 = .ok (.ifCond .ne 14, 3) := by decide +kernel
theorem d1_15 : decode method_3_code 15 = .ok (.iload_n 0, 1) := by decide +kernel
theorem d1_16 : decode method_3_code 16 = .ok (.iconst 1, 1) := by decide +kernel
theorem d1_17 : decode method_3_code 17 = .ok (.if_icmp .ne 18, 3) := by decide +kernel
theorem d1_35 : decode method_3_code 35 = .ok (.iload_n 0, 1) := by decide +kernel
theorem d1_36 : decode method_3_code 36 = .ok (.iconst 2, 1) := by decide +kernel
theorem d1_37 : decode method_3_code 37 = .ok (.if_icmp .ne 22, 3) := by decide +kernel
theorem d1_59 : decode method_3_code 59 = .ok (.new 28, 3) := by decide +kernel
theorem d1_62 : decode method_3_code 62 = .ok (.dup, 1) := by decide +kernel
theorem d1_63 : decode method_3_code 63 = .ok (.iconst 3, 1) := by decide +kernel
theorem d1_64 : decode method_3_code 64 = .ok (.newarray .char, 2) := by decide +kernel
theorem d1_66 : decode method_3_code 66 = .ok (.dup, 1) := by decide +kernel
theorem d1_67 : decode method_3_code 67 = .ok (.iconst 0, 1) := by decide +kernel
theorem d1_68 : decode method_3_code 68 = .ok (.iload_n 1, 1) := by decide +kernel
theorem d1_69 : decode method_3_code 69 = .ok (.castore, 1) := by decide +kernel
theorem d1_70 : decode method_3_code 70 = .ok (.dup, 1) := by decide +kernel
theorem d1_71 : decode method_3_code 71 = .ok (.iconst 1, 1) := by decide +kernel
theorem d1_72 : decode method_3_code 72 = .ok (.iload_n 2, 1) := by decide +kernel
theorem d1_73 : decode method_3_code 73 = .ok (.castore, 1) := by decide +kernel
theorem d1_74 : decode method_3_code 74 = .ok (.dup, 1) := by decide +kernel
theorem d1_75 : decode method_3_code 75 = .ok (.iconst 2, 1) := by decide +kernel
theorem d1_76 : decode method_3_code 76 = .ok (.iload_n 3, 1) := by decide +kernel
theorem d1_77 : decode method_3_code 77 = .ok (.castore, 1) := by decide +kernel
theorem d1_78 : decode method_3_code 78 = .ok (.invokespecial 30, 3) := by decide +kernel
theorem pd_8 : parseMethodDescriptor "([C)V" = some ⟨[(.array .char)], none⟩ := by decide +kernel
theorem d1_81 : decode method_3_code 81 = .ok (.areturn, 1) := by decide +kernel
theorem d1_40 : decode method_3_code 40 = .ok (.new 28, 3) := by decide +kernel
theorem d1_43 : decode method_3_code 43 = .ok (.dup, 1) := by decide +kernel
theorem d1_44 : decode method_3_code 44 = .ok (.iconst 2, 1) := by decide +kernel
theorem d1_45 : decode method_3_code 45 = .ok (.newarray .char, 2) := by decide +kernel
theorem d1_47 : decode method_3_code 47 = .ok (.dup, 1) := by decide +kernel
theorem d1_48 : decode method_3_code 48 = .ok (.iconst 0, 1) := by decide +kernel
theorem d1_49 : decode method_3_code 49 = .ok (.iload_n 1, 1) := by decide +kernel
theorem d1_50 : decode method_3_code 50 = .ok (.castore, 1) := by decide +kernel
theorem d1_51 : decode method_3_code 51 = .ok (.dup, 1) := by decide +kernel
theorem d1_52 : decode method_3_code 52 = .ok (.iconst 1, 1) := by decide +kernel
theorem d1_53 : decode method_3_code 53 = .ok (.iload_n 2, 1) := by decide +kernel
theorem d1_54 : decode method_3_code 54 = .ok (.castore, 1) := by decide +kernel
theorem d1_55 : decode method_3_code 55 = .ok (.invokespecial 30, 3) := by decide +kernel
theorem d1_58 : decode method_3_code 58 = .ok (.areturn, 1) := by decide +kernel
theorem d1_20 : decode method_3_code 20 = .ok (.new 28, 3) := by decide +kernel
theorem d1_23 : decode method_3_code 23 = .ok (.dup, 1) := by decide +kernel
theorem d1_24 : decode method_3_code 24 = .ok (.iconst 1, 1) := by decide +kernel
theorem d1_25 : decode method_3_code 25 = .ok (.newarray .char, 2) := by decide +kernel
theorem d1_27 : decode method_3_code 27 = .ok (.dup, 1) := by decide +kernel
theorem d1_28 : decode method_3_code 28 = .ok (.iconst 0, 1) := by decide +kernel
theorem d1_29 : decode method_3_code 29 = .ok (.iload_n 1, 1) := by decide +kernel
theorem d1_30 : decode method_3_code 30 = .ok (.castore, 1) := by decide +kernel
theorem d1_31 : decode method_3_code 31 = .ok (.invokespecial 30, 3) := by decide +kernel
theorem d1_34 : decode method_3_code 34 = .ok (.areturn, 1) := by decide +kernel
theorem d1_4 : decode method_3_code 4 = .ok (.new 28, 3) := by decide +kernel
theorem d1_7 : decode method_3_code 7 = .ok (.dup, 1) := by decide +kernel
theorem d1_8 : decode method_3_code 8 = .ok (.iconst 0, 1) := by decide +kernel
theorem d1_9 : decode method_3_code 9 = .ok (.newarray .char, 2) := by decide +kernel
theorem d1_11 : decode method_3_code 11 = .ok (.invokespecial 30, 3) := by decide +kernel
theorem d1_14 : decode method_3_code 14 = .ok (.areturn, 1) := by decide +kernel
theorem ef_9 (m : MethodId) (p0 : Int32) : entryFrame m #[(.int p0)] 1 = mkF m 0 #[.val (.int p0)] [] := by first | (simp [entryFrame, mkF, argsToLocals, Value.category]; done) | rfl
theorem d9_0 : decode method_2_code 0 = .ok (.iload_n 0, 1) := by decide +kernel
theorem d9_1 : decode method_2_code 1 = .ok (.ifCond .ne 7, 3) := by decide +kernel
theorem d9_8 : decode method_2_code 8 = .ok (.iload_n 0, 1) := by decide +kernel
theorem d9_9 : decode method_2_code 9 = .ok (.iconst 1, 1) := by decide +kernel
theorem d9_10 : decode method_2_code 10 = .ok (.if_icmp .ne 7, 3) := by decide +kernel
theorem d9_17 : decode method_2_code 17 = .ok (.iload_n 0, 1) := by decide +kernel
theorem d9_18 : decode method_2_code 18 = .ok (.iconst 2, 1) := by decide +kernel
theorem d9_19 : decode method_2_code 19 = .ok (.if_icmp .ne 7, 3) := by decide +kernel
theorem d9_26 : decode method_2_code 26 = .ok (.iload_n 0, 1) := by decide +kernel
theorem d9_27 : decode method_2_code 27 = .ok (.iconst 3, 1) := by decide +kernel
theorem d9_28 : decode method_2_code 28 = .ok (.if_icmp .ne 7, 3) := by decide +kernel
theorem d9_35 : decode method_2_code 35 = .ok (.iload_n 0, 1) := by decide +kernel
theorem d9_36 : decode method_2_code 36 = .ok (.iconst 4, 1) := by decide +kernel
theorem d9_37 : decode method_2_code 37 = .ok (.if_icmp .ne 7, 3) := by decide +kernel
theorem d9_44 : decode method_2_code 44 = .ok (.getstatic 25, 3) := by decide +kernel
theorem d9_47 : decode method_2_code 47 = .ok (.areturn, 1) := by decide +kernel
theorem d9_40 : decode method_2_code 40 = .ok (.getstatic 22, 3) := by decide +kernel
theorem d9_43 : decode method_2_code 43 = .ok (.areturn, 1) := by decide +kernel
theorem d9_31 : decode method_2_code 31 = .ok (.getstatic 19, 3) := by decide +kernel
theorem d9_34 : decode method_2_code 34 = .ok (.areturn, 1) := by decide +kernel
theorem d9_22 : decode method_2_code 22 = .ok (.getstatic 16, 3) := by decide +kernel
theorem d9_25 : decode method_2_code 25 = .ok (.areturn, 1) := by decide +kernel
theorem d9_13 : decode method_2_code 13 = .ok (.getstatic 13, 3) := by decide +kernel
theorem d9_16 : decode method_2_code 16 = .ok (.areturn, 1) := by decide +kernel
theorem d9_4 : decode method_2_code 4 = .ok (.getstatic 7, 3) := by decide +kernel
theorem d9_7 : decode method_2_code 7 = .ok (.areturn, 1) := by decide +kernel
theorem ef_11 (m : MethodId) (o0 : Addr) : entryFrame m #[(.ref o0)] 1 = mkF m 0 #[.val (.ref o0)] [] := by first | (simp [entryFrame, mkF, argsToLocals, Value.category]; done) | rfl
theorem pn_4 : plainName "java/lang/Record" = true := by first | (simp [plainName, overriddenIn]; done) | decide +kernel
theorem d11_0 : decode jdk_30_method_1_code 0 = .ok (.aload_n 0, 1) := by decide +kernel
theorem d11_1 : decode jdk_30_method_1_code 1 = .ok (.invokespecial 1, 3) := by decide +kernel
theorem d11_4 : decode jdk_30_method_1_code 4 = .ok (.return_, 1) := by decide +kernel
theorem ef_10 (m : MethodId) (o0 : Addr) (p1 : Int32) (p2 : Int32) : entryFrame m #[(.ref o0), (.int p1), (.int p2)] 3 = mkF m 0 #[.val (.ref o0), .val (.int p1), .val (.int p2)] [] := by first | (simp [entryFrame, mkF, argsToLocals, Value.category]; done) | rfl
theorem pn_5 : plainName "com/example/termwright/termwright/Document$Span" = true := by first | (simp [plainName, overriddenIn]; done) | decide +kernel
theorem d10_0 : decode prog_20_method_1_code 0 = .ok (.aload_n 0, 1) := by decide +kernel
theorem d10_1 : decode prog_20_method_1_code 1 = .ok (.invokespecial 1, 3) := by decide +kernel
theorem pd_9 : parseMethodDescriptor "()V" = some ⟨[], none⟩ := by decide +kernel
theorem d10_4 : decode prog_20_method_1_code 4 = .ok (.aload_n 0, 1) := by decide +kernel
theorem d10_5 : decode prog_20_method_1_code 5 = .ok (.iload_n 1, 1) := by decide +kernel
theorem d10_6 : decode prog_20_method_1_code 6 = .ok (.putfield 7, 3) := by decide +kernel
theorem d10_9 : decode prog_20_method_1_code 9 = .ok (.aload_n 0, 1) := by decide +kernel
theorem d10_10 : decode prog_20_method_1_code 10 = .ok (.iload_n 2, 1) := by decide +kernel
theorem d10_11 : decode prog_20_method_1_code 11 = .ok (.putfield 13, 3) := by decide +kernel
theorem d10_14 : decode prog_20_method_1_code 14 = .ok (.return_, 1) := by decide +kernel
theorem ef_12 (m : MethodId) (o0 : Addr) (o1 : Addr) (o2 : Addr) (o3 : Addr) (o4 : Addr) : entryFrame m #[(.ref o0), (.ref o1), (.ref o2), (.ref o3), (.ref o4)] 5 = mkF m 0 #[.val (.ref o0), .val (.ref o1), .val (.ref o2), .val (.ref o3), .val (.ref o4)] [] := by first | (simp [entryFrame, mkF, argsToLocals, Value.category]; done) | rfl
theorem pn_6 : plainName "com/example/termwright/termwright/Heading" = true := by first | (simp [plainName, overriddenIn]; done) | decide +kernel
theorem d12_0 : decode prog_32_method_1_code 0 = .ok (.aload_n 0, 1) := by decide +kernel
theorem d12_1 : decode prog_32_method_1_code 1 = .ok (.invokespecial 1, 3) := by decide +kernel
theorem d12_4 : decode prog_32_method_1_code 4 = .ok (.aload_n 0, 1) := by decide +kernel
theorem d12_5 : decode prog_32_method_1_code 5 = .ok (.aload_n 1, 1) := by decide +kernel
theorem d12_6 : decode prog_32_method_1_code 6 = .ok (.putfield 7, 3) := by decide +kernel
theorem d12_9 : decode prog_32_method_1_code 9 = .ok (.aload_n 0, 1) := by decide +kernel
theorem d12_10 : decode prog_32_method_1_code 10 = .ok (.aload_n 2, 1) := by decide +kernel
theorem d12_11 : decode prog_32_method_1_code 11 = .ok (.putfield 13, 3) := by decide +kernel
theorem d12_14 : decode prog_32_method_1_code 14 = .ok (.aload_n 0, 1) := by decide +kernel
theorem d12_15 : decode prog_32_method_1_code 15 = .ok (.aload_n 3, 1) := by decide +kernel
theorem d12_16 : decode prog_32_method_1_code 16 = .ok (.putfield 17, 3) := by decide +kernel
theorem d12_19 : decode prog_32_method_1_code 19 = .ok (.aload_n 0, 1) := by decide +kernel
theorem d12_20 : decode prog_32_method_1_code 20 = .ok (.aload 4, 2) := by decide +kernel
theorem d12_22 : decode prog_32_method_1_code 22 = .ok (.putfield 20, 3) := by decide +kernel
theorem d12_25 : decode prog_32_method_1_code 25 = .ok (.return_, 1) := by decide +kernel
theorem ef_13 (m : MethodId) (o0 : Addr) (o1 : Addr) : entryFrame m #[(.ref o0), (.ref o1)] 2 = mkF m 0 #[.val (.ref o0), .val (.ref o1)] [] := by first | (simp [entryFrame, mkF, argsToLocals, Value.category]; done) | rfl
theorem d13_0 : decode prog_32_method_7_code 0 = .ok (.aload_n 0, 1) := by decide +kernel
theorem d13_1 : decode prog_32_method_7_code 1 = .ok (.getfield 7, 3) := by decide +kernel
theorem d13_4 : decode prog_32_method_7_code 4 = .ok (.aload_n 1, 1) := by decide +kernel
theorem d13_5 : decode prog_32_method_7_code 5 = .ok (.getfield 7, 3) := by decide +kernel
theorem d13_8 : decode prog_32_method_7_code 8 = .ok (.if_acmp .ne 21, 3) := by decide +kernel
theorem d13_29 : decode prog_32_method_7_code 29 = .ok (.iconst 0, 1) := by decide +kernel
theorem d13_30 : decode prog_32_method_7_code 30 = .ok (.ireturn, 1) := by decide +kernel
theorem d13_11 : decode prog_32_method_7_code 11 = .ok (.aload_n 0, 1) := by decide +kernel
theorem d13_12 : decode prog_32_method_7_code 12 = .ok (.getfield 13, 3) := by decide +kernel
theorem d13_15 : decode prog_32_method_7_code 15 = .ok (.aload_n 1, 1) := by decide +kernel
theorem d13_16 : decode prog_32_method_7_code 16 = .ok (.getfield 13, 3) := by decide +kernel
theorem d13_19 : decode prog_32_method_7_code 19 = .ok (.invokevirtual 89, 3) := by decide +kernel
theorem pd_10 : parseMethodDescriptor "(Ljava/lang/Object;)Z" = some ⟨[(.object "java/lang/Object")], some .boolean⟩ := by decide +kernel
theorem d13_22 : decode prog_32_method_7_code 22 = .ok (.ifCond .eq 7, 3) := by decide +kernel
theorem d13_25 : decode prog_32_method_7_code 25 = .ok (.iconst 1, 1) := by decide +kernel
theorem d13_26 : decode prog_32_method_7_code 26 = .ok (.goto 4, 3) := by decide +kernel
theorem ef_0 (m : MethodId) (p0 : Int32) (p1 : Int32) (p2 : Int32) (p3 : Int32) (p4 : Int32) (p5 : Int32) : entryFrame m #[(.int p0), (.int p1), (.int p2), (.int p3), (.int p4), (.int p5)] maxLocals = mkF m 0 #[.val (.int p0), .val (.int p1), .val (.int p2), .val (.int p3), .val (.int p4), .val (.int p5), .unset, .unset, .unset, .unset, .unset, .unset, .unset, .unset, .unset, .unset, .unset, .unset, .unset, .unset, .unset, .unset, .unset, .unset] [] := by first | (simp [entryFrame, mkF, argsToLocals, Value.category, maxLocals]; done) | rfl
theorem pd_11 : parseMethodDescriptor "(ICCC)Ljava/lang/String;" = some ⟨[.int, .char, .char, .char], some (.object "java/lang/String")⟩ := by decide +kernel
theorem pd_12 : parseMethodDescriptor "(C)Ljava/lang/String;" = some ⟨[.char], some (.object "java/lang/String")⟩ := by decide +kernel
theorem pd_13 : parseMethodDescriptor "(I)Lcom/example/termwright/termwright/OutlineNode$Kind;" = some ⟨[.int], some (.object "com/example/termwright/termwright/OutlineNode$Kind")⟩ := by decide +kernel
theorem pd_14 : parseMethodDescriptor "(II)V" = some ⟨[.int, .int], none⟩ := by decide +kernel
theorem pd_15 : parseMethodDescriptor "(Lcom/example/termwright/termwright/OutlineNode$Kind;Ljava/lang/String;Ljava/lang/String;Lcom/example/termwright/termwright/Document$Span;)V" = some ⟨[(.object "com/example/termwright/termwright/OutlineNode$Kind"), (.object "java/lang/String"), (.object "java/lang/String"), (.object "com/example/termwright/termwright/Document$Span")], none⟩ := by decide +kernel
theorem pd_16 : parseMethodDescriptor "(Lcom/example/termwright/termwright/Heading;)Z" = some ⟨[(.object "com/example/termwright/termwright/Heading")], some .boolean⟩ := by decide +kernel
theorem tx_0 : (∀ c ∈ "".toList, c.toNat < 256) ∧ "".toList.map (fun c => Value.int (Jvm.Lit.byteI c.toNat.toUInt16)) = [] := by
  have e : "".toList = [] := by first | rfl | decide +kernel | simp
  rw [e]; constructor
  · decide
  · rfl
theorem txl_0 : 4 * "".toList.length ≤ 0 := by
  have e : "".toList = [] := by first | rfl | decide +kernel | simp
  rw [e]; decide
def own_Str (Z : State) (h : Heap) (a v : Addr) (k : ClassId) (z : Int32) (vs : List Value) : Prop := Exa Z h a "java/lang/String" ∧ Fld Z h a "java/lang/String" "coder" "B" (.int 0) ∧ Fld Z h a "java/lang/String" "value" "[B" (.ref v) ∧ Arv Z h v k .byte z vs (.int 0)
def own_b (x : Int32) : Value := .int (nar .byte (x.toInt8.toInt32))
theorem own_narb (x : Int32) : nar .byte x = x.toInt8.toInt32 := rfl
theorem own_binj (x y : Int32) (h1 : 0 ≤ x.toInt ∧ x.toInt ≤ 255) (h2 : 0 ≤ y.toInt ∧ y.toInt ≤ 255) (e : own_b x = own_b y) : x = y := by
  have e := Value.int.inj e
  rw [own_narb, own_narb, Int8.toInt8_toInt32, Int8.toInt8_toInt32] at e
  have a := c_i2b x
  have b := c_i2b y
  rw [e] at a
  exact Int32.toInt_inj.mp (by omega)
theorem own_narc (x : Int32) (h : 0 ≤ x.toInt ∧ x.toInt ≤ 255) : nar .char x = x := by
  have e : nar .char x = x.toUInt32.toUInt16.toUInt32.toInt32 := rfl
  have a := c_i2c x
  rw [← e] at a
  exact Int32.toInt_inj.mp (by omega)
def own_bs (n x y z : Int32) : List Value := if n = 0 then [] else if n = 1 then [own_b x] else if n = 2 then [own_b x, own_b y] else [own_b x, own_b y, own_b z]
theorem own_bs0 (x y z : Int32) : own_bs 0 x y z = [] := rfl
theorem own_bs1 (x y z : Int32) : own_bs 1 x y z = [own_b x] := rfl
theorem own_bs2 (x y z : Int32) : own_bs 2 x y z = [own_b x, own_b y] := rfl
theorem own_bs3 (x y z : Int32) : own_bs 3 x y z = [own_b x, own_b y, own_b z] := rfl
theorem own_n4 (n : Int32) (h : 0 ≤ n.toInt ∧ n.toInt ≤ 3) : n = 0 ∨ n = 1 ∨ n = 2 ∨ n = 3 := by
  rcases (by omega : n.toInt = 0 ∨ n.toInt = 1 ∨ n.toInt = 2 ∨ n.toInt = 3) with q | q | q | q
  · exact Or.inl (Int32.toInt_inj.mp q)
  · exact Or.inr (Or.inl (Int32.toInt_inj.mp q))
  · exact Or.inr (Or.inr (Or.inl (Int32.toInt_inj.mp q)))
  · exact Or.inr (Or.inr (Or.inr (Int32.toInt_inj.mp q)))
theorem own_bsl (n x y z : Int32) (h : 0 ≤ n.toInt ∧ n.toInt ≤ 3) : (own_bs n x y z).length = n.toInt.toNat := by
  rcases own_n4 n h with rfl | rfl | rfl | rfl <;> rfl
theorem own_bsi (n x y z : Int32) : ∀ i : Nat, ∃ q : Int32, (own_bs n x y z).getD i (.int 0) = .int q := by
  intro i
  unfold own_bs
  split
  · exact ⟨0, rfl⟩
  · split
    · match i with
      | 0 => exact ⟨_, rfl⟩
      | i + 1 => exact ⟨0, rfl⟩
    · split
      · match i with
        | 0 => exact ⟨_, rfl⟩
        | 1 => exact ⟨_, rfl⟩
        | i + 2 => exact ⟨0, rfl⟩
      · match i with
        | 0 => exact ⟨_, rfl⟩
        | 1 => exact ⟨_, rfl⟩
        | 2 => exact ⟨_, rfl⟩
        | i + 3 => exact ⟨0, rfl⟩
def own_same (la a0 a1 a2 lb b0 b1 b2 : Int32) : Prop := la = lb ∧ (la.toInt < 1 ∨ a0 = b0) ∧ (la.toInt < 2 ∨ a1 = b1) ∧ (la.toInt < 3 ∨ a2 = b2)
set_option maxRecDepth 65536 in
theorem own_bseq (la a0 a1 a2 lb b0 b1 b2 : Int32) (h1 : 0 ≤ la.toInt ∧ la.toInt ≤ 3) (h2 : 0 ≤ lb.toInt ∧ lb.toInt ≤ 3) (r0 : 0 ≤ a0.toInt ∧ a0.toInt ≤ 255) (r1 : 0 ≤ a1.toInt ∧ a1.toInt ≤ 255) (r2 : 0 ≤ a2.toInt ∧ a2.toInt ≤ 255) (s0 : 0 ≤ b0.toInt ∧ b0.toInt ≤ 255) (s1 : 0 ≤ b1.toInt ∧ b1.toInt ≤ 255) (s2 : 0 ≤ b2.toInt ∧ b2.toInt ≤ 255) : own_bs la a0 a1 a2 = own_bs lb b0 b1 b2 ↔ own_same la a0 a1 a2 lb b0 b1 b2 := by
  unfold own_same
  constructor
  · intro e
    have el : la = lb := by
      have q := congrArg List.length e
      rw [own_bsl _ _ _ _ h1, own_bsl _ _ _ _ h2] at q
      exact Int32.toInt_inj.mp (by omega)
    subst el
    rcases own_n4 la h1 with rfl | rfl | rfl | rfl
    · exact ⟨rfl, Or.inl (by decide), Or.inl (by decide), Or.inl (by decide)⟩
    · rw [own_bs1, own_bs1] at e
      exact ⟨rfl, Or.inr (own_binj _ _ r0 s0 (List.cons.inj e).1), Or.inl (by decide), Or.inl (by decide)⟩
    · rw [own_bs2, own_bs2] at e
      exact ⟨rfl, Or.inr (own_binj _ _ r0 s0 (List.cons.inj e).1), Or.inr (own_binj _ _ r1 s1 (List.cons.inj (List.cons.inj e).2).1), Or.inl (by decide)⟩
    · rw [own_bs3, own_bs3] at e
      exact ⟨rfl, Or.inr (own_binj _ _ r0 s0 (List.cons.inj e).1), Or.inr (own_binj _ _ r1 s1 (List.cons.inj (List.cons.inj e).2).1), Or.inr (own_binj _ _ r2 s2 (List.cons.inj (List.cons.inj (List.cons.inj e).2).2).1)⟩
  · rintro ⟨rfl, q1, q2, q3⟩
    rcases own_n4 la h1 with rfl | rfl | rfl | rfl
    · rw [own_bs0, own_bs0]
    · rcases q1 with q1 | rfl
      · exact absurd q1 (by decide)
      · rw [own_bs1, own_bs1]
    · rcases q1 with q1 | rfl
      · exact absurd q1 (by decide)
      · rcases q2 with q2 | rfl
        · exact absurd q2 (by decide)
        · rw [own_bs2, own_bs2]
    · rcases q1 with q1 | rfl
      · exact absurd q1 (by decide)
      · rcases q2 with q2 | rfl
        · exact absurd q2 (by decide)
        · rcases q3 with q3 | rfl
          · exact absurd q3 (by decide)
          · rfl
def own_kind (n : Int32) (k0 k1 k2 k3 k4 k5 : Addr) : Addr := if n = 0 then k0 else if n = 1 then k1 else if n = 2 then k2 else if n = 3 then k3 else if n = 4 then k4 else k5
theorem own_n6 (n : Int32) (h : 0 ≤ n.toInt ∧ n.toInt ≤ 5) : n = 0 ∨ n = 1 ∨ n = 2 ∨ n = 3 ∨ n = 4 ∨ n = 5 := by
  rcases (by omega : n.toInt = 0 ∨ n.toInt = 1 ∨ n.toInt = 2 ∨ n.toInt = 3 ∨ n.toInt = 4 ∨ n.toInt = 5) with q | q | q | q | q | q
  · exact Or.inl (Int32.toInt_inj.mp q)
  · exact Or.inr (Or.inl (Int32.toInt_inj.mp q))
  · exact Or.inr (Or.inr (Or.inl (Int32.toInt_inj.mp q)))
  · exact Or.inr (Or.inr (Or.inr (Or.inl (Int32.toInt_inj.mp q))))
  · exact Or.inr (Or.inr (Or.inr (Or.inr (Or.inl (Int32.toInt_inj.mp q)))))
  · exact Or.inr (Or.inr (Or.inr (Or.inr (Or.inr (Int32.toInt_inj.mp q)))))
theorem own_kindF {Z : State} {h : Heap} {k0 k1 k2 k3 k4 k5 : Addr} (F0 : Fld Z h k0 "java/lang/Enum" "ordinal" "I" (.int 0)) (F1 : Fld Z h k1 "java/lang/Enum" "ordinal" "I" (.int 1)) (F2 : Fld Z h k2 "java/lang/Enum" "ordinal" "I" (.int 2)) (F3 : Fld Z h k3 "java/lang/Enum" "ordinal" "I" (.int 3)) (F4 : Fld Z h k4 "java/lang/Enum" "ordinal" "I" (.int 4)) (F5 : Fld Z h k5 "java/lang/Enum" "ordinal" "I" (.int 5)) (n : Int32) (q : 0 ≤ n.toInt ∧ n.toInt ≤ 5) : Fld Z h (own_kind n k0 k1 k2 k3 k4 k5) "java/lang/Enum" "ordinal" "I" (.int n) := by
  rcases own_n6 n q with rfl | rfl | rfl | rfl | rfl | rfl
  · exact F0
  · exact F1
  · exact F2
  · exact F3
  · exact F4
  · exact F5
def own_Sp (Z : State) (h : Heap) (a : Addr) (x0 : Int32) (x1 : Int32) : Prop := Exa Z h a "com/example/termwright/termwright/Document$Span" ∧ Fld Z h a "com/example/termwright/termwright/Document$Span" "start" "I" (.int x0) ∧ Fld Z h a "com/example/termwright/termwright/Document$Span" "end" "I" (.int x1)
def own_Hd (Z : State) (h : Heap) (a : Addr) (x0 : Value) (x1 : Value) (x2 : Value) (x3 : Value) : Prop := Exa Z h a "com/example/termwright/termwright/Heading" ∧ Fld Z h a "com/example/termwright/termwright/Heading" "kind" "Lcom/example/termwright/termwright/OutlineNode$Kind;" x0 ∧ Fld Z h a "com/example/termwright/termwright/Heading" "number" "Ljava/lang/String;" x1 ∧ Fld Z h a "com/example/termwright/termwright/Heading" "title" "Ljava/lang/String;" x2 ∧ Fld Z h a "com/example/termwright/termwright/Heading" "span" "Lcom/example/termwright/termwright/Document$Span;" x3
set_option maxRecDepth 65536 in
set_option maxHeartbeats 40000000 in
theorem rmC5_1 (l : Launch) (Z : State) (a0 : Array Value) (hw : ∀ d ∈ tables_1, d.before a0 Z = true) (ws : List Jvm.Cond) (o0 o2 : Addr) (k0 k2 : ClassId) (x0 : Int32) (h0 : Heap) (n0 : Nat) (Z0 : n0 ≤ h0.size) (V0 : Arv Z h0 o0 k0 .char (1 : Int32) [(.int x0)] (.int 0)) (V2 : Arv Z h0 o2 k2 .byte (1 : Int32) [(.int (0 : Int32))] (.int 0)) (ne_o0_o2 : o0 ≠ o2) (g0_o2 : n0 ≤ o2) (r0 : 0 ≤ x0.toInt ∧ x0.toInt ≤ 255) :
    W.Con l Z (⟨"java/lang/StringUTF16", "compress", "([CI[BII)I"⟩ : MethodName) jdk_52_method_21_code 7 (some .int) ws ({ frames := 0, cells := 0, slots := 0, locals := 0 } : Room) ({ frames := 0, cells := 0, slots := 0, locals := 0 } : Room).cells ({ frames := 0, cells := 0, slots := 0, locals := 0 } : Room).slots #[(.ref o0), (.int (0 : Int32)), (.ref o2), (.int (0 : Int32)), (.int (1 : Int32))] h0 n0 (fun v h => v = some (.int (1 : Int32)) ∧ Keep h0 h [o2] ∧ Arv Z h o2 k2 .byte (1 : Int32) [(.int (nar .byte ((x0).toInt8.toInt32)))] (.int 0)) := by
  refine W.enter (plainFor_of_name pn_0) Z0 ?_
  intro p e s m below meth c C hnm hsh
  have C : W.Cx p s m meth c Z n0 "java/lang/StringUTF16" jdk_52_method_21_code 7 (some .int) := C
  refine W.Go.castF (ef_17_1 m o0 o2) ?_
  refine W.iconst C (x := (0 : Int32)) d17_0 rfl rfl ?_
  refine W.istore C (Ls' := #[.val (.ref o0), .val (.int (0 : Int32)), .val (.ref o2), .val (.int (0 : Int32)), .val (.int (1 : Int32)), .val (.int (0 : Int32)), .unset]) d17_1 rfl rfl ?_
  refine W.iload C d17_3 rfl rfl ?_
  refine W.iload C d17_5 rfl rfl ?_
  refine W.icmp C (pc' := 44) (pn := 10) d17_7 (by decide) rfl rfl (W.q_ge (0 : Int32) (1 : Int32)) (fun hc7 => ?_) (fun hc7 => ?_)
  · exact absurd hc7 (by decide)
  refine W.aloadN C d17_10 rfl rfl rfl ?_
  refine W.iloadN C d17_11 rfl rfl ?_
  refine W.caload C (v := (.int x0)) V0 (by decide) (by decide) rfl d17_12 rfl ?_
  refine W.istore C (Ls' := #[.val (.ref o0), .val (.int (0 : Int32)), .val (.ref o2), .val (.int (0 : Int32)), .val (.int (1 : Int32)), .val (.int (0 : Int32)), .val (.int x0)]) d17_13 rfl rfl ?_
  refine W.iload C d17_15 rfl rfl ?_
  refine W.sipush C (x := (255 : Int32)) d17_17 rfl rfl ?_
  refine W.icmp C (pc' := 26) (pn := 23) d17_20 (by decide) rfl rfl (W.q_le x0 (255 : Int32)) (fun hc20 => ?_) (fun hc20 => ?_)
  rotate_left
  · exfalso
    simp only [Int32.reduceToInt] at hc20
    omega
  refine W.aloadN C d17_26 rfl rfl rfl ?_
  refine W.iloadN C d17_27 rfl rfl ?_
  refine W.iload C d17_28 rfl rfl ?_
  refine W.i2b C (z := ((x0).toInt8.toInt32)) d17_30 rfl rfl ?_
  refine W.bastore C V2 (by decide) (by decide) (show 0 < 1 from by decide) g0_o2 d17_31 rfl ?_
  intro h1 W1 V1
  have V1 : Arv Z h1 o2 k2 .byte (1 : Int32) [(.int (nar .byte ((x0).toInt8.toInt32)))] (.int (0 : Int32)) := V1
  refine W.iinc C (z := (1 : Int32)) (Ls' := #[.val (.ref o0), .val (.int (1 : Int32)), .val (.ref o2), .val (.int (0 : Int32)), .val (.int (1 : Int32)), .val (.int (0 : Int32)), .val (.int x0)]) d17_32 rfl rfl (by decide) rfl ?_
  refine W.iinc C (z := (1 : Int32)) (Ls' := #[.val (.ref o0), .val (.int (1 : Int32)), .val (.ref o2), .val (.int (1 : Int32)), .val (.int (1 : Int32)), .val (.int (0 : Int32)), .val (.int x0)]) d17_35 rfl rfl (by decide) rfl ?_
  refine W.iinc C (z := (1 : Int32)) (Ls' := #[.val (.ref o0), .val (.int (1 : Int32)), .val (.ref o2), .val (.int (1 : Int32)), .val (.int (1 : Int32)), .val (.int (1 : Int32)), .val (.int x0)]) d17_38 rfl rfl (by decide) rfl ?_
  refine W.goto C (pc' := 3) d17_41 (by decide) rfl ?_
  refine W.iload C d17_3 rfl rfl ?_
  refine W.iload C d17_5 rfl rfl ?_
  refine W.icmp C (pc' := 44) (pn := 10) d17_7 (by decide) rfl rfl (W.q_ge (1 : Int32) (1 : Int32)) (fun hc7 => ?_) (fun hc7 => ?_)
  rotate_left
  · exact absurd hc7 (by decide)
  refine W.iload C d17_44 rfl rfl ?_
  refine W.retI C d17_46 (by decide) (by decide) (fun _ _ _ _ q => q) ?_
  exact ⟨rfl, ((Keep.refl h0 [o2]).wr W1 (Or.inl (List.mem_of_getElem? (i := 0) rfl))), V1⟩
set_option maxRecDepth 65536 in
set_option maxHeartbeats 40000000 in
theorem rmC3_1 (l : Launch) (Z : State) (a0 : Array Value) (hw : ∀ d ∈ tables_1, d.before a0 Z = true) (ws : List Jvm.Cond) (o0 : Addr) (k0 : ClassId) (x0 : Int32) (h0 : Heap) (n0 : Nat) (Z0 : n0 ≤ h0.size) (V0 : Arv Z h0 o0 k0 .char (1 : Int32) [(.int x0)] (.int 0)) (r0 : 0 ≤ x0.toInt ∧ x0.toInt ≤ 255) :
    W.Con l Z (⟨"java/lang/StringUTF16", "compress", "([CII)[B"⟩ : MethodName) jdk_52_method_16_code 6 (some (.array .byte)) ws ({ frames := 1, cells := 1, slots := 1, locals := 18 } : Room) ({ frames := 1, cells := 1, slots := 1, locals := 18 } : Room).cells ({ frames := 1, cells := 1, slots := 1, locals := 18 } : Room).slots #[(.ref o0), (.int (0 : Int32)), (.int (1 : Int32))] h0 n0 (fun v h => ∃ (r : Addr) (kr : ClassId), v = some (.ref r) ∧ n0 ≤ r ∧ h0.size ≤ r ∧ Keep h0 h [] ∧ Arv Z h r kr .byte (1 : Int32) [(.int (nar .byte ((x0).toInt8.toInt32)))] (.int 0)) := by
  refine W.enter (plainFor_of_name pn_0) Z0 ?_
  intro p e s m below meth c C hnm hsh
  have C : W.Cx p s m meth c Z n0 "java/lang/StringUTF16" jdk_52_method_16_code 6 (some (.array .byte)) := C
  refine W.Go.castF (ef_16_1 m o0) ?_
  refine W.iloadN C d16_0 rfl rfl ?_
  refine W.newarray C (cap := 1) (hw _ (List.mem_of_getElem? (i := 20) rfl)) d16_1 rfl (by decide) (by decide) (by decide) (by decide) (by decide) (k' := 1) (n' := 1) rfl rfl ?_
  intro h1 b1 kc_b1 gb1 g0_b1 E1 Vb1
  have sz_b1 : h0.size ≤ b1 := by rw [gb1]; exact (Keep.refl h0 []).1
  have ne_o0_b1 : o0 ≠ b1 := Nat.ne_of_lt (by rw [gb1]; exact V0.lt)
  have Vb1 : Arv Z h1 b1 kc_b1 .byte (1 : Int32) [(.int (0 : Int32))] (.int (0 : Int32)) := Vb1.pad (pad_rep [] (.int (0 : Int32)) 1)
  refine W.astoreN C (Ls' := #[.val (.ref o0), .val (.int (0 : Int32)), .val (.int (1 : Int32)), .val (.ref b1), .unset, .unset]) d16_3 rfl rfl rfl ?_
  refine W.aloadN C d16_4 rfl rfl rfl ?_
  refine W.iloadN C d16_5 rfl rfl ?_
  refine W.aloadN C d16_6 rfl rfl rfl ?_
  refine W.iconst C (x := (0 : Int32)) d16_7 rfl rfl ?_
  refine W.iloadN C d16_8 rfl rfl ?_
  refine W.callS C (y := (⟨"java/lang/StringUTF16", "compress", "([CI[BII)I"⟩ : MethodName)) (hw _ (List.mem_of_getElem? (i := 101) rfl)) (hw _ (List.mem_of_getElem? (i := 102) rfl)) (hw _ (List.mem_of_getElem? (i := 99) rfl)) (hw _ (List.mem_of_getElem? (i := 103) rfl)) (by decide) (fun hz => rmC5_1 l Z a0 hw [] o0 b1 k0 kc_b1 x0 h1 n0 hz (V0.ext E1) Vb1 ne_o0_b1 g0_b1 r0) d16_9 rfl rfl pd_0 rfl (argsL := [(.ref o0), (.int (0 : Int32)), (.ref b1), (.int (0 : Int32)), (.int (1 : Int32))]) (rest := []) rfl (W := 0) rfl (by decide) (by decide) (by decide) (by decide) (k' := 1) (n' := 1) rfl rfl ?_
  rintro h2 _ ⟨rfl, K2, V2⟩
  show W.Go p l e _ _ m _ below meth c _ _ _ _ _ _ (mkF m 12 #[.val (.ref o0), .val (.int (0 : Int32)), .val (.int (1 : Int32)), .val (.ref b1), .unset, .unset] [(.int (1 : Int32))])
  refine W.istore C (Ls' := #[.val (.ref o0), .val (.int (0 : Int32)), .val (.int (1 : Int32)), .val (.ref b1), .val (.int (1 : Int32)), .unset]) d16_12 rfl rfl ?_
  refine W.iload C d16_14 rfl rfl ?_
  refine W.iloadN C d16_16 rfl rfl ?_
  refine W.icmp C (pc' := 57) (pn := 20) d16_17 (by decide) rfl rfl (W.q_eq (1 : Int32) (1 : Int32)) (fun hc17 => ?_) (fun hc17 => ?_)
  rotate_left
  · exact absurd rfl hc17
  refine W.aloadN C d16_57 rfl rfl rfl ?_
  refine W.retA C rfl rfl rfl d16_58 (by decide) (by decide) (fun _ _ _ _ q => q) ?_
  exact ⟨b1, kc_b1, rfl, g0_b1, sz_b1, (((Keep.refl h0 []).ext E1).trans K2 (allS (Or.inr sz_b1) all0)), V2⟩
set_option maxRecDepth 65536 in
set_option maxHeartbeats 40000000 in
theorem rmCl_1 (l : Launch) (Z : State) (a0 : Array Value) (hw : ∀ d ∈ tables_1, d.before a0 Z = true) (ws : List Jvm.Cond) (o0 : Addr) (k0 : ClassId) (vs : List Value) (h0 : Heap) (n0 : Nat) (Z0 : n0 ≤ h0.size) (V0 : Arv Z h0 o0 k0 .byte (1 : Int32) vs (.int 0)) :
    W.Con l Z (⟨"java/lang/StringUTF16", "coderFromArrayLen", "([BI)B"⟩ : MethodName) jdk_52_method_15_code 2 (some .byte) ws ({ frames := 0, cells := 0, slots := 0, locals := 0 } : Room) ({ frames := 0, cells := 0, slots := 0, locals := 0 } : Room).cells ({ frames := 0, cells := 0, slots := 0, locals := 0 } : Room).slots #[(.ref o0), (.int (1 : Int32))] h0 n0 (fun v h => v = some (.int 0) ∧ h0 = h) := by
  refine W.enter (plainFor_of_name pn_0) Z0 ?_
  intro p e s m below meth c C hnm hsh
  have C : W.Cx p s m meth c Z n0 "java/lang/StringUTF16" jdk_52_method_15_code 2 (some .byte) := C
  refine W.Go.castF (ef_18_1 m o0) ?_
  refine W.iloadN C d18_0 rfl rfl ?_
  refine W.aloadN C d18_1 rfl rfl rfl ?_
  refine W.arraylength C V0 d18_2 rfl ?_
  refine W.isub C (z := (0 : Int32)) d18_3 rfl (by decide) ?_
  refine W.bipush C (x := (31 : Int32)) d18_4 rfl rfl ?_
  refine W.iushr C (z := (0 : Int32)) d18_6 rfl (by decide) ?_
  refine W.i2b C (z := (0 : Int32)) d18_7 rfl (by decide) ?_
  refine W.retZ C (w := (0 : Int32)) (by simp) d18_8 (by decide) (by decide) (by decide) (fun _ _ _ _ q => q) ?_
  exact ⟨rfl, rfl⟩
set_option maxRecDepth 65536 in
set_option maxHeartbeats 40000000 in
theorem rmI4_1 (l : Launch) (Z : State) (a0 : Array Value) (hw : ∀ d ∈ tables_1, d.before a0 Z = true) (ws : List Jvm.Cond) (o0 o1 : Addr) (k1 : ClassId) (cs : Int32) (x0 : Int32) (h0 : Heap) (n0 : Nat) (Z0 : n0 ≤ h0.size) (E0 : Exa Z h0 o0 "java/lang/String") (F1 : Fld Z h0 o0 "java/lang/String" "value" "[B" .null) (F2 : Fld Z h0 o0 "java/lang/String" "coder" "B" (.int (0 : Int32))) (g0_o0 : n0 ≤ o0) (V1 : Arv Z h0 o1 k1 .char (1 : Int32) [(.int x0)] (.int 0)) (ne_o1_o0 : o1 ≠ o0) (SC : Sta Z h0 "java/lang/String" "COMPACT_STRINGS" "Z" (.int cs)) (hcs : ¬ cs = 0) (r0 : 0 ≤ x0.toInt ∧ x0.toInt ≤ 255) :
    W.Con l Z (⟨"java/lang/String", "<init>", "([CIILjava/lang/Void;)V"⟩ : MethodName) jdk_42_method_149_code 6 none ws ({ frames := 2, cells := 1, slots := 1, locals := 35 } : Room) ({ frames := 2, cells := 1, slots := 1, locals := 35 } : Room).cells ({ frames := 2, cells := 1, slots := 1, locals := 35 } : Room).slots #[(.ref o0), (.ref o1), (.int (0 : Int32)), (.int (1 : Int32)), .null] h0 n0 (fun v h => v = none ∧ ∃ (b : Addr) (kb : ClassId), Keep h0 h [o0] ∧ h0.size ≤ b ∧ own_Str Z h o0 b kb (1 : Int32) [(.int (nar .byte ((x0).toInt8.toInt32)))]) := by
  refine W.enter (plainFor_of_name pn_1) Z0 ?_
  intro p e s m below meth c C hnm hsh
  have C : W.Cx p s m meth c Z n0 "java/lang/String" jdk_42_method_149_code 6 none := C
  refine W.Go.castF (ef_3_1 m o0 o1) ?_
  refine W.aloadN C d3_0 rfl rfl rfl ?_
  refine W.initObj C (hw _ (List.mem_of_getElem? (i := 16) rfl)) (hw _ (List.mem_of_getElem? (i := 17) rfl)) (hw _ (List.mem_of_getElem? (i := 18) rfl)) d3_1 rfl rfl (by decide) rfl (by decide) ?_
  refine W.iloadN C d3_4 rfl rfl ?_
  refine W.ifc C (pc' := 27) (pn := 8) d3_5 (by decide) rfl rfl (W.q_ne (1 : Int32) (0 : Int32)) (fun hc5 => ?_) (fun hc5 => ?_)
  rotate_left
  · exact absurd hc5 (by decide)
  refine W.getstatic C (hw _ (List.mem_of_getElem? (i := 30) rfl)) Via.refl SC d3_27 rfl ?_
  refine W.ifc C (pc' := 58) (pn := 33) d3_30 (by decide) rfl rfl (W.q_eq cs (0 : Int32)) (fun hc30 => ?_) (fun hc30 => ?_)
  · exfalso
    exact hcs hc30
  refine W.aloadN C d3_33 rfl rfl rfl ?_
  refine W.iloadN C d3_34 rfl rfl ?_
  refine W.iloadN C d3_35 rfl rfl ?_
  refine W.callS C (y := (⟨"java/lang/StringUTF16", "compress", "([CII)[B"⟩ : MethodName)) (hw _ (List.mem_of_getElem? (i := 97) rfl)) (hw _ (List.mem_of_getElem? (i := 98) rfl)) (hw _ (List.mem_of_getElem? (i := 99) rfl)) (hw _ (List.mem_of_getElem? (i := 100) rfl)) (by decide) (fun hz => rmC3_1 l Z a0 hw [] o1 k1 x0 h0 n0 hz V1 r0) d3_36 rfl rfl pd_1 rfl (argsL := [(.ref o1), (.int (0 : Int32)), (.int (1 : Int32))]) (rest := []) rfl (W := 0) rfl (by decide) (by decide) (by decide) (by decide) (k' := 1) (n' := 1) rfl rfl ?_
  rintro hc _ ⟨r, kr, rfl, g0_r, sz_r, Kr, Vr⟩
  have ne_o0_r : o0 ≠ r := Nat.ne_of_lt (Nat.lt_of_lt_of_le E0.lt sz_r)
  have ne_o1_r : o1 ≠ r := Nat.ne_of_lt (Nat.lt_of_lt_of_le V1.lt sz_r)
  have sz_r := Nat.le_trans (Keep.refl h0 [o0]).1 sz_r
  show W.Go p l e _ _ m _ below meth c _ _ _ _ _ _ (mkF m 39 #[.val (.ref o0), .val (.ref o1), .val (.int (0 : Int32)), .val (.int (1 : Int32)), .val .null, .unset] [(.ref r)])
  refine W.astore C (Ls' := #[.val (.ref o0), .val (.ref o1), .val (.int (0 : Int32)), .val (.int (1 : Int32)), .val .null, .val (.ref r)]) d3_39 rfl rfl rfl ?_
  refine W.aloadN C d3_41 rfl rfl rfl ?_
  refine W.aload C d3_42 rfl rfl rfl ?_
  refine W.iloadN C d3_44 rfl rfl ?_
  refine W.callS C (y := (⟨"java/lang/StringUTF16", "coderFromArrayLen", "([BI)B"⟩ : MethodName)) (hw _ (List.mem_of_getElem? (i := 104) rfl)) (hw _ (List.mem_of_getElem? (i := 105) rfl)) (hw _ (List.mem_of_getElem? (i := 99) rfl)) (hw _ (List.mem_of_getElem? (i := 106) rfl)) (by decide) (fun hz => rmCl_1 l Z a0 hw [] r kr [(.int (nar .byte ((x0).toInt8.toInt32)))] hc n0 hz Vr) d3_45 rfl rfl pd_2 rfl (argsL := [(.ref r), (.int (1 : Int32))]) (rest := [(.ref o0)]) rfl (W := 1) rfl (by decide) (by decide) (by decide) (by decide) (k' := 1) (n' := 1) rfl rfl ?_
  rintro h1 _ ⟨rfl, rfl⟩
  show W.Go p l e _ _ m _ below meth c _ _ _ _ _ _ (mkF m 48 #[.val (.ref o0), .val (.ref o1), .val (.int (0 : Int32)), .val (.int (1 : Int32)), .val .null, .val (.ref r)] [(.int (0 : Int32)), (.ref o0)])
  refine W.putfield C (hw _ (List.mem_of_getElem? (i := 26) rfl)) Via.refl (F2.keep Kr nin0) (E0.keep Kr) (Or.inr ⟨(hw _ (List.mem_of_getElem? (i := 22) rfl)), rfl, hnm⟩) (hw _ (List.mem_of_getElem? (i := 6) rfl)) (ty := .byte) (by decide) rfl rfl d3_48 rfl g0_o0 ?_
  intro h2 W2
  refine W.aloadN C d3_51 rfl rfl rfl ?_
  refine W.aload C d3_52 rfl rfl rfl ?_
  refine W.putfield C (hw _ (List.mem_of_getElem? (i := 25) rfl)) Via.refl ((F1.keep Kr nin0).other W2 (Or.inr (slot_ne (Or.inr (hw _ (List.mem_of_getElem? (i := 21) rfl))) (Or.inr (hw _ (List.mem_of_getElem? (i := 22) rfl))) (by decide) (t := (.array .byte)) (t' := .byte) (by decide) (by decide)))) ((E0.keep Kr).wr W2) (Or.inr ⟨(hw _ (List.mem_of_getElem? (i := 21) rfl)), rfl, hnm⟩) (hw _ (List.mem_of_getElem? (i := 6) rfl)) (ty := (.array .byte)) (by decide) rfl rfl d3_54 rfl g0_o0 ?_
  intro h3 W3
  refine W.ret0 C d3_57 (by decide) (by decide) (fun _ _ _ _ q => q) ?_
  exact ⟨rfl, r, kr, ((((Keep.refl h0 [o0]).trans Kr all0).wr W2 (Or.inl (List.mem_of_getElem? (i := 0) rfl))).wr W3 (Or.inl (List.mem_of_getElem? (i := 0) rfl))), sz_r, ⟨(((E0.keep Kr).wr W2).wr W3), (((F2.keep Kr nin0).same W2).other W3 (Or.inr (slot_ne (Or.inr (hw _ (List.mem_of_getElem? (i := 22) rfl))) (Or.inr (hw _ (List.mem_of_getElem? (i := 21) rfl))) (by decide) (t := .byte) (t' := (.array .byte)) (by decide) (by decide)))), (((F1.keep Kr nin0).other W2 (Or.inr (slot_ne (Or.inr (hw _ (List.mem_of_getElem? (i := 21) rfl))) (Or.inr (hw _ (List.mem_of_getElem? (i := 22) rfl))) (by decide) (t := (.array .byte)) (t' := .byte) (by decide) (by decide)))).same W3), ((Vr.other W2 (Ne.symm ne_o0_r)).other W3 (Ne.symm ne_o0_r))⟩⟩
set_option maxRecDepth 65536 in
set_option maxHeartbeats 40000000 in
theorem rmI1_1 (l : Launch) (Z : State) (a0 : Array Value) (hw : ∀ d ∈ tables_1, d.before a0 Z = true) (ws : List Jvm.Cond) (o0 o1 : Addr) (k1 : ClassId) (cs : Int32) (x0 : Int32) (h0 : Heap) (n0 : Nat) (Z0 : n0 ≤ h0.size) (E0 : Exa Z h0 o0 "java/lang/String") (F1 : Fld Z h0 o0 "java/lang/String" "value" "[B" .null) (F2 : Fld Z h0 o0 "java/lang/String" "coder" "B" (.int (0 : Int32))) (g0_o0 : n0 ≤ o0) (V1 : Arv Z h0 o1 k1 .char (1 : Int32) [(.int x0)] (.int 0)) (ne_o1_o0 : o1 ≠ o0) (SC : Sta Z h0 "java/lang/String" "COMPACT_STRINGS" "Z" (.int cs)) (hcs : ¬ cs = 0) (r0 : 0 ≤ x0.toInt ∧ x0.toInt ≤ 255) :
    W.Con l Z (⟨"java/lang/String", "<init>", "([C)V"⟩ : MethodName) jdk_42_method_3_code 2 none ws ({ frames := 3, cells := 1, slots := 1, locals := 52 } : Room) ({ frames := 3, cells := 1, slots := 1, locals := 52 } : Room).cells ({ frames := 3, cells := 1, slots := 1, locals := 52 } : Room).slots #[(.ref o0), (.ref o1)] h0 n0 (fun v h => v = none ∧ ∃ (b : Addr) (kb : ClassId), Keep h0 h [o0] ∧ h0.size ≤ b ∧ own_Str Z h o0 b kb (1 : Int32) [(.int (nar .byte ((x0).toInt8.toInt32)))]) := by
  refine W.enter (plainFor_of_name pn_1) Z0 ?_
  intro p e s m below meth c C hnm hsh
  have C : W.Cx p s m meth c Z n0 "java/lang/String" jdk_42_method_3_code 2 none := C
  refine W.Go.castF (ef_2_1 m o0 o1) ?_
  refine W.aloadN C d2_0 rfl rfl rfl ?_
  refine W.aloadN C d2_1 rfl rfl rfl ?_
  refine W.iconst C (x := (0 : Int32)) d2_2 rfl rfl ?_
  refine W.aloadN C d2_3 rfl rfl rfl ?_
  refine W.arraylength C V1 d2_4 rfl ?_
  refine W.aconst_null C d2_5 rfl ?_
  refine W.callSp C (y := (⟨"java/lang/String", "<init>", "([CIILjava/lang/Void;)V"⟩ : MethodName)) (a := o0) rfl (hw _ (List.mem_of_getElem? (i := 12) rfl)) (hw _ (List.mem_of_getElem? (i := 13) rfl)) (hw _ (List.mem_of_getElem? (i := 7) rfl)) (hw _ (List.mem_of_getElem? (i := 15) rfl)) (by decide) (fun hz => rmI4_1 l Z a0 hw [] o0 o1 k1 cs x0 h0 n0 hz E0 F1 F2 g0_o0 V1 ne_o1_o0 SC hcs r0) d2_6 rfl rfl pd_3 rfl (argsL := [(.ref o1), (.int (0 : Int32)), (.int (1 : Int32)), .null]) (rest := []) rfl (W := 0) rfl (by decide) (by decide) (by decide) (by decide) (k' := 1) (n' := 1) rfl rfl ?_
  rintro h1 _ ⟨rfl, b1, kb1, K1, sz_b1, O1⟩
  have ne_o0_b1 : o0 ≠ b1 := Nat.ne_of_lt (Nat.lt_of_lt_of_le E0.lt sz_b1)
  have ne_o1_b1 : o1 ≠ b1 := Nat.ne_of_lt (Nat.lt_of_lt_of_le V1.lt sz_b1)
  have sz_b1 := Nat.le_trans (Keep.refl h0 [o0]).1 sz_b1
  show W.Go p l e _ _ m _ below meth c _ _ _ _ _ _ (mkF m 9 #[.val (.ref o0), .val (.ref o1)] [])
  refine W.ret0 C d2_9 (by decide) (by decide) (fun _ _ _ _ q => q) ?_
  exact ⟨rfl, b1, kb1, ((Keep.refl h0 [o0]).trans K1 (allS (Or.inl (List.mem_of_getElem? (i := 0) rfl)) all0)), sz_b1, ⟨O1.1, O1.2.1, O1.2.2.1, O1.2.2.2⟩⟩
set_option maxRecDepth 65536 in
set_option maxHeartbeats 40000000 in
theorem rmC5_2 (l : Launch) (Z : State) (a0 : Array Value) (hw : ∀ d ∈ tables_1, d.before a0 Z = true) (ws : List Jvm.Cond) (o0 o2 : Addr) (k0 k2 : ClassId) (x0 x1 : Int32) (h0 : Heap) (n0 : Nat) (Z0 : n0 ≤ h0.size) (V0 : Arv Z h0 o0 k0 .char (2 : Int32) [(.int x0), (.int x1)] (.int 0)) (V2 : Arv Z h0 o2 k2 .byte (2 : Int32) [(.int (0 : Int32)), (.int (0 : Int32))] (.int 0)) (ne_o0_o2 : o0 ≠ o2) (g0_o2 : n0 ≤ o2) (r0 : 0 ≤ x0.toInt ∧ x0.toInt ≤ 255) (r1 : 0 ≤ x1.toInt ∧ x1.toInt ≤ 255) :
    W.Con l Z (⟨"java/lang/StringUTF16", "compress", "([CI[BII)I"⟩ : MethodName) jdk_52_method_21_code 7 (some .int) ws ({ frames := 0, cells := 0, slots := 0, locals := 0 } : Room) ({ frames := 0, cells := 0, slots := 0, locals := 0 } : Room).cells ({ frames := 0, cells := 0, slots := 0, locals := 0 } : Room).slots #[(.ref o0), (.int (0 : Int32)), (.ref o2), (.int (0 : Int32)), (.int (2 : Int32))] h0 n0 (fun v h => v = some (.int (2 : Int32)) ∧ Keep h0 h [o2] ∧ Arv Z h o2 k2 .byte (2 : Int32) [(.int (nar .byte ((x0).toInt8.toInt32))), (.int (nar .byte ((x1).toInt8.toInt32)))] (.int 0)) := by
  refine W.enter (plainFor_of_name pn_0) Z0 ?_
  intro p e s m below meth c C hnm hsh
  have C : W.Cx p s m meth c Z n0 "java/lang/StringUTF16" jdk_52_method_21_code 7 (some .int) := C
  refine W.Go.castF (ef_17_2 m o0 o2) ?_
  refine W.iconst C (x := (0 : Int32)) d17_0 rfl rfl ?_
  refine W.istore C (Ls' := #[.val (.ref o0), .val (.int (0 : Int32)), .val (.ref o2), .val (.int (0 : Int32)), .val (.int (2 : Int32)), .val (.int (0 : Int32)), .unset]) d17_1 rfl rfl ?_
  refine W.iload C d17_3 rfl rfl ?_
  refine W.iload C d17_5 rfl rfl ?_
  refine W.icmp C (pc' := 44) (pn := 10) d17_7 (by decide) rfl rfl (W.q_ge (0 : Int32) (2 : Int32)) (fun hc7 => ?_) (fun hc7 => ?_)
  · exact absurd hc7 (by decide)
  refine W.aloadN C d17_10 rfl rfl rfl ?_
  refine W.iloadN C d17_11 rfl rfl ?_
  refine W.caload C (v := (.int x0)) V0 (by decide) (by decide) rfl d17_12 rfl ?_
  refine W.istore C (Ls' := #[.val (.ref o0), .val (.int (0 : Int32)), .val (.ref o2), .val (.int (0 : Int32)), .val (.int (2 : Int32)), .val (.int (0 : Int32)), .val (.int x0)]) d17_13 rfl rfl ?_
  refine W.iload C d17_15 rfl rfl ?_
  refine W.sipush C (x := (255 : Int32)) d17_17 rfl rfl ?_
  refine W.icmp C (pc' := 26) (pn := 23) d17_20 (by decide) rfl rfl (W.q_le x0 (255 : Int32)) (fun hc20 => ?_) (fun hc20 => ?_)
  rotate_left
  · exfalso
    simp only [Int32.reduceToInt] at hc20
    omega
  refine W.aloadN C d17_26 rfl rfl rfl ?_
  refine W.iloadN C d17_27 rfl rfl ?_
  refine W.iload C d17_28 rfl rfl ?_
  refine W.i2b C (z := ((x0).toInt8.toInt32)) d17_30 rfl rfl ?_
  refine W.bastore C V2 (by decide) (by decide) (show 0 < 2 from by decide) g0_o2 d17_31 rfl ?_
  intro h1 W1 V1
  have V1 : Arv Z h1 o2 k2 .byte (2 : Int32) [(.int (nar .byte ((x0).toInt8.toInt32))), (.int (0 : Int32))] (.int (0 : Int32)) := V1
  refine W.iinc C (z := (1 : Int32)) (Ls' := #[.val (.ref o0), .val (.int (1 : Int32)), .val (.ref o2), .val (.int (0 : Int32)), .val (.int (2 : Int32)), .val (.int (0 : Int32)), .val (.int x0)]) d17_32 rfl rfl (by decide) rfl ?_
  refine W.iinc C (z := (1 : Int32)) (Ls' := #[.val (.ref o0), .val (.int (1 : Int32)), .val (.ref o2), .val (.int (1 : Int32)), .val (.int (2 : Int32)), .val (.int (0 : Int32)), .val (.int x0)]) d17_35 rfl rfl (by decide) rfl ?_
  refine W.iinc C (z := (1 : Int32)) (Ls' := #[.val (.ref o0), .val (.int (1 : Int32)), .val (.ref o2), .val (.int (1 : Int32)), .val (.int (2 : Int32)), .val (.int (1 : Int32)), .val (.int x0)]) d17_38 rfl rfl (by decide) rfl ?_
  refine W.goto C (pc' := 3) d17_41 (by decide) rfl ?_
  refine W.iload C d17_3 rfl rfl ?_
  refine W.iload C d17_5 rfl rfl ?_
  refine W.icmp C (pc' := 44) (pn := 10) d17_7 (by decide) rfl rfl (W.q_ge (1 : Int32) (2 : Int32)) (fun hc7 => ?_) (fun hc7 => ?_)
  · exact absurd hc7 (by decide)
  refine W.aloadN C d17_10 rfl rfl rfl ?_
  refine W.iloadN C d17_11 rfl rfl ?_
  refine W.caload C (v := (.int x1)) (V0.other W1 ne_o0_o2) (by decide) (by decide) rfl d17_12 rfl ?_
  refine W.istore C (Ls' := #[.val (.ref o0), .val (.int (1 : Int32)), .val (.ref o2), .val (.int (1 : Int32)), .val (.int (2 : Int32)), .val (.int (1 : Int32)), .val (.int x1)]) d17_13 rfl rfl ?_
  refine W.iload C d17_15 rfl rfl ?_
  refine W.sipush C (x := (255 : Int32)) d17_17 rfl rfl ?_
  refine W.icmp C (pc' := 26) (pn := 23) d17_20 (by decide) rfl rfl (W.q_le x1 (255 : Int32)) (fun hc20 => ?_) (fun hc20 => ?_)
  rotate_left
  · exfalso
    simp only [Int32.reduceToInt] at hc20
    omega
  refine W.aloadN C d17_26 rfl rfl rfl ?_
  refine W.iloadN C d17_27 rfl rfl ?_
  refine W.iload C d17_28 rfl rfl ?_
  refine W.i2b C (z := ((x1).toInt8.toInt32)) d17_30 rfl rfl ?_
  refine W.bastore C V1 (by decide) (by decide) (show 1 < 2 from by decide) g0_o2 d17_31 rfl ?_
  intro h2 W2 V2
  have V2 : Arv Z h2 o2 k2 .byte (2 : Int32) [(.int (nar .byte ((x0).toInt8.toInt32))), (.int (nar .byte ((x1).toInt8.toInt32)))] (.int (0 : Int32)) := V2
  refine W.iinc C (z := (2 : Int32)) (Ls' := #[.val (.ref o0), .val (.int (2 : Int32)), .val (.ref o2), .val (.int (1 : Int32)), .val (.int (2 : Int32)), .val (.int (1 : Int32)), .val (.int x1)]) d17_32 rfl rfl (by decide) rfl ?_
  refine W.iinc C (z := (2 : Int32)) (Ls' := #[.val (.ref o0), .val (.int (2 : Int32)), .val (.ref o2), .val (.int (2 : Int32)), .val (.int (2 : Int32)), .val (.int (1 : Int32)), .val (.int x1)]) d17_35 rfl rfl (by decide) rfl ?_
  refine W.iinc C (z := (2 : Int32)) (Ls' := #[.val (.ref o0), .val (.int (2 : Int32)), .val (.ref o2), .val (.int (2 : Int32)), .val (.int (2 : Int32)), .val (.int (2 : Int32)), .val (.int x1)]) d17_38 rfl rfl (by decide) rfl ?_
  refine W.goto C (pc' := 3) d17_41 (by decide) rfl ?_
  refine W.iload C d17_3 rfl rfl ?_
  refine W.iload C d17_5 rfl rfl ?_
  refine W.icmp C (pc' := 44) (pn := 10) d17_7 (by decide) rfl rfl (W.q_ge (2 : Int32) (2 : Int32)) (fun hc7 => ?_) (fun hc7 => ?_)
  rotate_left
  · exact absurd hc7 (by decide)
  refine W.iload C d17_44 rfl rfl ?_
  refine W.retI C d17_46 (by decide) (by decide) (fun _ _ _ _ q => q) ?_
  exact ⟨rfl, (((Keep.refl h0 [o2]).wr W1 (Or.inl (List.mem_of_getElem? (i := 0) rfl))).wr W2 (Or.inl (List.mem_of_getElem? (i := 0) rfl))), V2⟩
set_option maxRecDepth 65536 in
set_option maxHeartbeats 40000000 in
theorem rmC3_2 (l : Launch) (Z : State) (a0 : Array Value) (hw : ∀ d ∈ tables_1, d.before a0 Z = true) (ws : List Jvm.Cond) (o0 : Addr) (k0 : ClassId) (x0 x1 : Int32) (h0 : Heap) (n0 : Nat) (Z0 : n0 ≤ h0.size) (V0 : Arv Z h0 o0 k0 .char (2 : Int32) [(.int x0), (.int x1)] (.int 0)) (r0 : 0 ≤ x0.toInt ∧ x0.toInt ≤ 255) (r1 : 0 ≤ x1.toInt ∧ x1.toInt ≤ 255) :
    W.Con l Z (⟨"java/lang/StringUTF16", "compress", "([CII)[B"⟩ : MethodName) jdk_52_method_16_code 6 (some (.array .byte)) ws ({ frames := 1, cells := 1, slots := 2, locals := 18 } : Room) ({ frames := 1, cells := 1, slots := 2, locals := 18 } : Room).cells ({ frames := 1, cells := 1, slots := 2, locals := 18 } : Room).slots #[(.ref o0), (.int (0 : Int32)), (.int (2 : Int32))] h0 n0 (fun v h => ∃ (r : Addr) (kr : ClassId), v = some (.ref r) ∧ n0 ≤ r ∧ h0.size ≤ r ∧ Keep h0 h [] ∧ Arv Z h r kr .byte (2 : Int32) [(.int (nar .byte ((x0).toInt8.toInt32))), (.int (nar .byte ((x1).toInt8.toInt32)))] (.int 0)) := by
  refine W.enter (plainFor_of_name pn_0) Z0 ?_
  intro p e s m below meth c C hnm hsh
  have C : W.Cx p s m meth c Z n0 "java/lang/StringUTF16" jdk_52_method_16_code 6 (some (.array .byte)) := C
  refine W.Go.castF (ef_16_2 m o0) ?_
  refine W.iloadN C d16_0 rfl rfl ?_
  refine W.newarray C (cap := 2) (hw _ (List.mem_of_getElem? (i := 20) rfl)) d16_1 rfl (by decide) (by decide) (by decide) (by decide) (by decide) (k' := 1) (n' := 2) rfl rfl ?_
  intro h1 b1 kc_b1 gb1 g0_b1 E1 Vb1
  have sz_b1 : h0.size ≤ b1 := by rw [gb1]; exact (Keep.refl h0 []).1
  have ne_o0_b1 : o0 ≠ b1 := Nat.ne_of_lt (by rw [gb1]; exact V0.lt)
  have Vb1 : Arv Z h1 b1 kc_b1 .byte (2 : Int32) [(.int (0 : Int32)), (.int (0 : Int32))] (.int (0 : Int32)) := Vb1.pad (pad_rep [] (.int (0 : Int32)) 2)
  refine W.astoreN C (Ls' := #[.val (.ref o0), .val (.int (0 : Int32)), .val (.int (2 : Int32)), .val (.ref b1), .unset, .unset]) d16_3 rfl rfl rfl ?_
  refine W.aloadN C d16_4 rfl rfl rfl ?_
  refine W.iloadN C d16_5 rfl rfl ?_
  refine W.aloadN C d16_6 rfl rfl rfl ?_
  refine W.iconst C (x := (0 : Int32)) d16_7 rfl rfl ?_
  refine W.iloadN C d16_8 rfl rfl ?_
  refine W.callS C (y := (⟨"java/lang/StringUTF16", "compress", "([CI[BII)I"⟩ : MethodName)) (hw _ (List.mem_of_getElem? (i := 101) rfl)) (hw _ (List.mem_of_getElem? (i := 102) rfl)) (hw _ (List.mem_of_getElem? (i := 99) rfl)) (hw _ (List.mem_of_getElem? (i := 103) rfl)) (by decide) (fun hz => rmC5_2 l Z a0 hw [] o0 b1 k0 kc_b1 x0 x1 h1 n0 hz (V0.ext E1) Vb1 ne_o0_b1 g0_b1 r0 r1) d16_9 rfl rfl pd_0 rfl (argsL := [(.ref o0), (.int (0 : Int32)), (.ref b1), (.int (0 : Int32)), (.int (2 : Int32))]) (rest := []) rfl (W := 0) rfl (by decide) (by decide) (by decide) (by decide) (k' := 1) (n' := 2) rfl rfl ?_
  rintro h2 _ ⟨rfl, K2, V2⟩
  show W.Go p l e _ _ m _ below meth c _ _ _ _ _ _ (mkF m 12 #[.val (.ref o0), .val (.int (0 : Int32)), .val (.int (2 : Int32)), .val (.ref b1), .unset, .unset] [(.int (2 : Int32))])
  refine W.istore C (Ls' := #[.val (.ref o0), .val (.int (0 : Int32)), .val (.int (2 : Int32)), .val (.ref b1), .val (.int (2 : Int32)), .unset]) d16_12 rfl rfl ?_
  refine W.iload C d16_14 rfl rfl ?_
  refine W.iloadN C d16_16 rfl rfl ?_
  refine W.icmp C (pc' := 57) (pn := 20) d16_17 (by decide) rfl rfl (W.q_eq (2 : Int32) (2 : Int32)) (fun hc17 => ?_) (fun hc17 => ?_)
  rotate_left
  · exact absurd rfl hc17
  refine W.aloadN C d16_57 rfl rfl rfl ?_
  refine W.retA C rfl rfl rfl d16_58 (by decide) (by decide) (fun _ _ _ _ q => q) ?_
  exact ⟨b1, kc_b1, rfl, g0_b1, sz_b1, (((Keep.refl h0 []).ext E1).trans K2 (allS (Or.inr sz_b1) all0)), V2⟩
set_option maxRecDepth 65536 in
set_option maxHeartbeats 40000000 in
theorem rmCl_2 (l : Launch) (Z : State) (a0 : Array Value) (hw : ∀ d ∈ tables_1, d.before a0 Z = true) (ws : List Jvm.Cond) (o0 : Addr) (k0 : ClassId) (vs : List Value) (h0 : Heap) (n0 : Nat) (Z0 : n0 ≤ h0.size) (V0 : Arv Z h0 o0 k0 .byte (2 : Int32) vs (.int 0)) :
    W.Con l Z (⟨"java/lang/StringUTF16", "coderFromArrayLen", "([BI)B"⟩ : MethodName) jdk_52_method_15_code 2 (some .byte) ws ({ frames := 0, cells := 0, slots := 0, locals := 0 } : Room) ({ frames := 0, cells := 0, slots := 0, locals := 0 } : Room).cells ({ frames := 0, cells := 0, slots := 0, locals := 0 } : Room).slots #[(.ref o0), (.int (2 : Int32))] h0 n0 (fun v h => v = some (.int 0) ∧ h0 = h) := by
  refine W.enter (plainFor_of_name pn_0) Z0 ?_
  intro p e s m below meth c C hnm hsh
  have C : W.Cx p s m meth c Z n0 "java/lang/StringUTF16" jdk_52_method_15_code 2 (some .byte) := C
  refine W.Go.castF (ef_18_2 m o0) ?_
  refine W.iloadN C d18_0 rfl rfl ?_
  refine W.aloadN C d18_1 rfl rfl rfl ?_
  refine W.arraylength C V0 d18_2 rfl ?_
  refine W.isub C (z := (0 : Int32)) d18_3 rfl (by decide) ?_
  refine W.bipush C (x := (31 : Int32)) d18_4 rfl rfl ?_
  refine W.iushr C (z := (0 : Int32)) d18_6 rfl (by decide) ?_
  refine W.i2b C (z := (0 : Int32)) d18_7 rfl (by decide) ?_
  refine W.retZ C (w := (0 : Int32)) (by simp) d18_8 (by decide) (by decide) (by decide) (fun _ _ _ _ q => q) ?_
  exact ⟨rfl, rfl⟩
set_option maxRecDepth 65536 in
set_option maxHeartbeats 40000000 in
theorem rmI4_2 (l : Launch) (Z : State) (a0 : Array Value) (hw : ∀ d ∈ tables_1, d.before a0 Z = true) (ws : List Jvm.Cond) (o0 o1 : Addr) (k1 : ClassId) (cs : Int32) (x0 x1 : Int32) (h0 : Heap) (n0 : Nat) (Z0 : n0 ≤ h0.size) (E0 : Exa Z h0 o0 "java/lang/String") (F1 : Fld Z h0 o0 "java/lang/String" "value" "[B" .null) (F2 : Fld Z h0 o0 "java/lang/String" "coder" "B" (.int (0 : Int32))) (g0_o0 : n0 ≤ o0) (V1 : Arv Z h0 o1 k1 .char (2 : Int32) [(.int x0), (.int x1)] (.int 0)) (ne_o1_o0 : o1 ≠ o0) (SC : Sta Z h0 "java/lang/String" "COMPACT_STRINGS" "Z" (.int cs)) (hcs : ¬ cs = 0) (r0 : 0 ≤ x0.toInt ∧ x0.toInt ≤ 255) (r1 : 0 ≤ x1.toInt ∧ x1.toInt ≤ 255) :
    W.Con l Z (⟨"java/lang/String", "<init>", "([CIILjava/lang/Void;)V"⟩ : MethodName) jdk_42_method_149_code 6 none ws ({ frames := 2, cells := 1, slots := 2, locals := 35 } : Room) ({ frames := 2, cells := 1, slots := 2, locals := 35 } : Room).cells ({ frames := 2, cells := 1, slots := 2, locals := 35 } : Room).slots #[(.ref o0), (.ref o1), (.int (0 : Int32)), (.int (2 : Int32)), .null] h0 n0 (fun v h => v = none ∧ ∃ (b : Addr) (kb : ClassId), Keep h0 h [o0] ∧ h0.size ≤ b ∧ own_Str Z h o0 b kb (2 : Int32) [(.int (nar .byte ((x0).toInt8.toInt32))), (.int (nar .byte ((x1).toInt8.toInt32)))]) := by
  refine W.enter (plainFor_of_name pn_1) Z0 ?_
  intro p e s m below meth c C hnm hsh
  have C : W.Cx p s m meth c Z n0 "java/lang/String" jdk_42_method_149_code 6 none := C
  refine W.Go.castF (ef_3_2 m o0 o1) ?_
  refine W.aloadN C d3_0 rfl rfl rfl ?_
  refine W.initObj C (hw _ (List.mem_of_getElem? (i := 16) rfl)) (hw _ (List.mem_of_getElem? (i := 17) rfl)) (hw _ (List.mem_of_getElem? (i := 18) rfl)) d3_1 rfl rfl (by decide) rfl (by decide) ?_
  refine W.iloadN C d3_4 rfl rfl ?_
  refine W.ifc C (pc' := 27) (pn := 8) d3_5 (by decide) rfl rfl (W.q_ne (2 : Int32) (0 : Int32)) (fun hc5 => ?_) (fun hc5 => ?_)
  rotate_left
  · exact absurd hc5 (by decide)
  refine W.getstatic C (hw _ (List.mem_of_getElem? (i := 30) rfl)) Via.refl SC d3_27 rfl ?_
  refine W.ifc C (pc' := 58) (pn := 33) d3_30 (by decide) rfl rfl (W.q_eq cs (0 : Int32)) (fun hc30 => ?_) (fun hc30 => ?_)
  · exfalso
    exact hcs hc30
  refine W.aloadN C d3_33 rfl rfl rfl ?_
  refine W.iloadN C d3_34 rfl rfl ?_
  refine W.iloadN C d3_35 rfl rfl ?_
  refine W.callS C (y := (⟨"java/lang/StringUTF16", "compress", "([CII)[B"⟩ : MethodName)) (hw _ (List.mem_of_getElem? (i := 97) rfl)) (hw _ (List.mem_of_getElem? (i := 98) rfl)) (hw _ (List.mem_of_getElem? (i := 99) rfl)) (hw _ (List.mem_of_getElem? (i := 100) rfl)) (by decide) (fun hz => rmC3_2 l Z a0 hw [] o1 k1 x0 x1 h0 n0 hz V1 r0 r1) d3_36 rfl rfl pd_1 rfl (argsL := [(.ref o1), (.int (0 : Int32)), (.int (2 : Int32))]) (rest := []) rfl (W := 0) rfl (by decide) (by decide) (by decide) (by decide) (k' := 1) (n' := 2) rfl rfl ?_
  rintro hc _ ⟨r, kr, rfl, g0_r, sz_r, Kr, Vr⟩
  have ne_o0_r : o0 ≠ r := Nat.ne_of_lt (Nat.lt_of_lt_of_le E0.lt sz_r)
  have ne_o1_r : o1 ≠ r := Nat.ne_of_lt (Nat.lt_of_lt_of_le V1.lt sz_r)
  have sz_r := Nat.le_trans (Keep.refl h0 [o0]).1 sz_r
  show W.Go p l e _ _ m _ below meth c _ _ _ _ _ _ (mkF m 39 #[.val (.ref o0), .val (.ref o1), .val (.int (0 : Int32)), .val (.int (2 : Int32)), .val .null, .unset] [(.ref r)])
  refine W.astore C (Ls' := #[.val (.ref o0), .val (.ref o1), .val (.int (0 : Int32)), .val (.int (2 : Int32)), .val .null, .val (.ref r)]) d3_39 rfl rfl rfl ?_
  refine W.aloadN C d3_41 rfl rfl rfl ?_
  refine W.aload C d3_42 rfl rfl rfl ?_
  refine W.iloadN C d3_44 rfl rfl ?_
  refine W.callS C (y := (⟨"java/lang/StringUTF16", "coderFromArrayLen", "([BI)B"⟩ : MethodName)) (hw _ (List.mem_of_getElem? (i := 104) rfl)) (hw _ (List.mem_of_getElem? (i := 105) rfl)) (hw _ (List.mem_of_getElem? (i := 99) rfl)) (hw _ (List.mem_of_getElem? (i := 106) rfl)) (by decide) (fun hz => rmCl_2 l Z a0 hw [] r kr [(.int (nar .byte ((x0).toInt8.toInt32))), (.int (nar .byte ((x1).toInt8.toInt32)))] hc n0 hz Vr) d3_45 rfl rfl pd_2 rfl (argsL := [(.ref r), (.int (2 : Int32))]) (rest := [(.ref o0)]) rfl (W := 1) rfl (by decide) (by decide) (by decide) (by decide) (k' := 1) (n' := 2) rfl rfl ?_
  rintro h1 _ ⟨rfl, rfl⟩
  show W.Go p l e _ _ m _ below meth c _ _ _ _ _ _ (mkF m 48 #[.val (.ref o0), .val (.ref o1), .val (.int (0 : Int32)), .val (.int (2 : Int32)), .val .null, .val (.ref r)] [(.int (0 : Int32)), (.ref o0)])
  refine W.putfield C (hw _ (List.mem_of_getElem? (i := 26) rfl)) Via.refl (F2.keep Kr nin0) (E0.keep Kr) (Or.inr ⟨(hw _ (List.mem_of_getElem? (i := 22) rfl)), rfl, hnm⟩) (hw _ (List.mem_of_getElem? (i := 6) rfl)) (ty := .byte) (by decide) rfl rfl d3_48 rfl g0_o0 ?_
  intro h2 W2
  refine W.aloadN C d3_51 rfl rfl rfl ?_
  refine W.aload C d3_52 rfl rfl rfl ?_
  refine W.putfield C (hw _ (List.mem_of_getElem? (i := 25) rfl)) Via.refl ((F1.keep Kr nin0).other W2 (Or.inr (slot_ne (Or.inr (hw _ (List.mem_of_getElem? (i := 21) rfl))) (Or.inr (hw _ (List.mem_of_getElem? (i := 22) rfl))) (by decide) (t := (.array .byte)) (t' := .byte) (by decide) (by decide)))) ((E0.keep Kr).wr W2) (Or.inr ⟨(hw _ (List.mem_of_getElem? (i := 21) rfl)), rfl, hnm⟩) (hw _ (List.mem_of_getElem? (i := 6) rfl)) (ty := (.array .byte)) (by decide) rfl rfl d3_54 rfl g0_o0 ?_
  intro h3 W3
  refine W.ret0 C d3_57 (by decide) (by decide) (fun _ _ _ _ q => q) ?_
  exact ⟨rfl, r, kr, ((((Keep.refl h0 [o0]).trans Kr all0).wr W2 (Or.inl (List.mem_of_getElem? (i := 0) rfl))).wr W3 (Or.inl (List.mem_of_getElem? (i := 0) rfl))), sz_r, ⟨(((E0.keep Kr).wr W2).wr W3), (((F2.keep Kr nin0).same W2).other W3 (Or.inr (slot_ne (Or.inr (hw _ (List.mem_of_getElem? (i := 22) rfl))) (Or.inr (hw _ (List.mem_of_getElem? (i := 21) rfl))) (by decide) (t := .byte) (t' := (.array .byte)) (by decide) (by decide)))), (((F1.keep Kr nin0).other W2 (Or.inr (slot_ne (Or.inr (hw _ (List.mem_of_getElem? (i := 21) rfl))) (Or.inr (hw _ (List.mem_of_getElem? (i := 22) rfl))) (by decide) (t := (.array .byte)) (t' := .byte) (by decide) (by decide)))).same W3), ((Vr.other W2 (Ne.symm ne_o0_r)).other W3 (Ne.symm ne_o0_r))⟩⟩
set_option maxRecDepth 65536 in
set_option maxHeartbeats 40000000 in
theorem rmI1_2 (l : Launch) (Z : State) (a0 : Array Value) (hw : ∀ d ∈ tables_1, d.before a0 Z = true) (ws : List Jvm.Cond) (o0 o1 : Addr) (k1 : ClassId) (cs : Int32) (x0 x1 : Int32) (h0 : Heap) (n0 : Nat) (Z0 : n0 ≤ h0.size) (E0 : Exa Z h0 o0 "java/lang/String") (F1 : Fld Z h0 o0 "java/lang/String" "value" "[B" .null) (F2 : Fld Z h0 o0 "java/lang/String" "coder" "B" (.int (0 : Int32))) (g0_o0 : n0 ≤ o0) (V1 : Arv Z h0 o1 k1 .char (2 : Int32) [(.int x0), (.int x1)] (.int 0)) (ne_o1_o0 : o1 ≠ o0) (SC : Sta Z h0 "java/lang/String" "COMPACT_STRINGS" "Z" (.int cs)) (hcs : ¬ cs = 0) (r0 : 0 ≤ x0.toInt ∧ x0.toInt ≤ 255) (r1 : 0 ≤ x1.toInt ∧ x1.toInt ≤ 255) :
    W.Con l Z (⟨"java/lang/String", "<init>", "([C)V"⟩ : MethodName) jdk_42_method_3_code 2 none ws ({ frames := 3, cells := 1, slots := 2, locals := 52 } : Room) ({ frames := 3, cells := 1, slots := 2, locals := 52 } : Room).cells ({ frames := 3, cells := 1, slots := 2, locals := 52 } : Room).slots #[(.ref o0), (.ref o1)] h0 n0 (fun v h => v = none ∧ ∃ (b : Addr) (kb : ClassId), Keep h0 h [o0] ∧ h0.size ≤ b ∧ own_Str Z h o0 b kb (2 : Int32) [(.int (nar .byte ((x0).toInt8.toInt32))), (.int (nar .byte ((x1).toInt8.toInt32)))]) := by
  refine W.enter (plainFor_of_name pn_1) Z0 ?_
  intro p e s m below meth c C hnm hsh
  have C : W.Cx p s m meth c Z n0 "java/lang/String" jdk_42_method_3_code 2 none := C
  refine W.Go.castF (ef_2_2 m o0 o1) ?_
  refine W.aloadN C d2_0 rfl rfl rfl ?_
  refine W.aloadN C d2_1 rfl rfl rfl ?_
  refine W.iconst C (x := (0 : Int32)) d2_2 rfl rfl ?_
  refine W.aloadN C d2_3 rfl rfl rfl ?_
  refine W.arraylength C V1 d2_4 rfl ?_
  refine W.aconst_null C d2_5 rfl ?_
  refine W.callSp C (y := (⟨"java/lang/String", "<init>", "([CIILjava/lang/Void;)V"⟩ : MethodName)) (a := o0) rfl (hw _ (List.mem_of_getElem? (i := 12) rfl)) (hw _ (List.mem_of_getElem? (i := 13) rfl)) (hw _ (List.mem_of_getElem? (i := 7) rfl)) (hw _ (List.mem_of_getElem? (i := 15) rfl)) (by decide) (fun hz => rmI4_2 l Z a0 hw [] o0 o1 k1 cs x0 x1 h0 n0 hz E0 F1 F2 g0_o0 V1 ne_o1_o0 SC hcs r0 r1) d2_6 rfl rfl pd_3 rfl (argsL := [(.ref o1), (.int (0 : Int32)), (.int (2 : Int32)), .null]) (rest := []) rfl (W := 0) rfl (by decide) (by decide) (by decide) (by decide) (k' := 1) (n' := 2) rfl rfl ?_
  rintro h1 _ ⟨rfl, b1, kb1, K1, sz_b1, O1⟩
  have ne_o0_b1 : o0 ≠ b1 := Nat.ne_of_lt (Nat.lt_of_lt_of_le E0.lt sz_b1)
  have ne_o1_b1 : o1 ≠ b1 := Nat.ne_of_lt (Nat.lt_of_lt_of_le V1.lt sz_b1)
  have sz_b1 := Nat.le_trans (Keep.refl h0 [o0]).1 sz_b1
  show W.Go p l e _ _ m _ below meth c _ _ _ _ _ _ (mkF m 9 #[.val (.ref o0), .val (.ref o1)] [])
  refine W.ret0 C d2_9 (by decide) (by decide) (fun _ _ _ _ q => q) ?_
  exact ⟨rfl, b1, kb1, ((Keep.refl h0 [o0]).trans K1 (allS (Or.inl (List.mem_of_getElem? (i := 0) rfl)) all0)), sz_b1, ⟨O1.1, O1.2.1, O1.2.2.1, O1.2.2.2⟩⟩
set_option maxRecDepth 65536 in
set_option maxHeartbeats 40000000 in
theorem rmC5_3 (l : Launch) (Z : State) (a0 : Array Value) (hw : ∀ d ∈ tables_1, d.before a0 Z = true) (ws : List Jvm.Cond) (o0 o2 : Addr) (k0 k2 : ClassId) (x0 x1 x2 : Int32) (h0 : Heap) (n0 : Nat) (Z0 : n0 ≤ h0.size) (V0 : Arv Z h0 o0 k0 .char (3 : Int32) [(.int x0), (.int x1), (.int x2)] (.int 0)) (V2 : Arv Z h0 o2 k2 .byte (3 : Int32) [(.int (0 : Int32)), (.int (0 : Int32)), (.int (0 : Int32))] (.int 0)) (ne_o0_o2 : o0 ≠ o2) (g0_o2 : n0 ≤ o2) (r0 : 0 ≤ x0.toInt ∧ x0.toInt ≤ 255) (r1 : 0 ≤ x1.toInt ∧ x1.toInt ≤ 255) (r2 : 0 ≤ x2.toInt ∧ x2.toInt ≤ 255) :
    W.Con l Z (⟨"java/lang/StringUTF16", "compress", "([CI[BII)I"⟩ : MethodName) jdk_52_method_21_code 7 (some .int) ws ({ frames := 0, cells := 0, slots := 0, locals := 0 } : Room) ({ frames := 0, cells := 0, slots := 0, locals := 0 } : Room).cells ({ frames := 0, cells := 0, slots := 0, locals := 0 } : Room).slots #[(.ref o0), (.int (0 : Int32)), (.ref o2), (.int (0 : Int32)), (.int (3 : Int32))] h0 n0 (fun v h => v = some (.int (3 : Int32)) ∧ Keep h0 h [o2] ∧ Arv Z h o2 k2 .byte (3 : Int32) [(.int (nar .byte ((x0).toInt8.toInt32))), (.int (nar .byte ((x1).toInt8.toInt32))), (.int (nar .byte ((x2).toInt8.toInt32)))] (.int 0)) := by
  refine W.enter (plainFor_of_name pn_0) Z0 ?_
  intro p e s m below meth c C hnm hsh
  have C : W.Cx p s m meth c Z n0 "java/lang/StringUTF16" jdk_52_method_21_code 7 (some .int) := C
  refine W.Go.castF (ef_17_3 m o0 o2) ?_
  refine W.iconst C (x := (0 : Int32)) d17_0 rfl rfl ?_
  refine W.istore C (Ls' := #[.val (.ref o0), .val (.int (0 : Int32)), .val (.ref o2), .val (.int (0 : Int32)), .val (.int (3 : Int32)), .val (.int (0 : Int32)), .unset]) d17_1 rfl rfl ?_
  refine W.iload C d17_3 rfl rfl ?_
  refine W.iload C d17_5 rfl rfl ?_
  refine W.icmp C (pc' := 44) (pn := 10) d17_7 (by decide) rfl rfl (W.q_ge (0 : Int32) (3 : Int32)) (fun hc7 => ?_) (fun hc7 => ?_)
  · exact absurd hc7 (by decide)
  refine W.aloadN C d17_10 rfl rfl rfl ?_
  refine W.iloadN C d17_11 rfl rfl ?_
  refine W.caload C (v := (.int x0)) V0 (by decide) (by decide) rfl d17_12 rfl ?_
  refine W.istore C (Ls' := #[.val (.ref o0), .val (.int (0 : Int32)), .val (.ref o2), .val (.int (0 : Int32)), .val (.int (3 : Int32)), .val (.int (0 : Int32)), .val (.int x0)]) d17_13 rfl rfl ?_
  refine W.iload C d17_15 rfl rfl ?_
  refine W.sipush C (x := (255 : Int32)) d17_17 rfl rfl ?_
  refine W.icmp C (pc' := 26) (pn := 23) d17_20 (by decide) rfl rfl (W.q_le x0 (255 : Int32)) (fun hc20 => ?_) (fun hc20 => ?_)
  rotate_left
  · exfalso
    simp only [Int32.reduceToInt] at hc20
    omega
  refine W.aloadN C d17_26 rfl rfl rfl ?_
  refine W.iloadN C d17_27 rfl rfl ?_
  refine W.iload C d17_28 rfl rfl ?_
  refine W.i2b C (z := ((x0).toInt8.toInt32)) d17_30 rfl rfl ?_
  refine W.bastore C V2 (by decide) (by decide) (show 0 < 3 from by decide) g0_o2 d17_31 rfl ?_
  intro h1 W1 V1
  have V1 : Arv Z h1 o2 k2 .byte (3 : Int32) [(.int (nar .byte ((x0).toInt8.toInt32))), (.int (0 : Int32)), (.int (0 : Int32))] (.int (0 : Int32)) := V1
  refine W.iinc C (z := (1 : Int32)) (Ls' := #[.val (.ref o0), .val (.int (1 : Int32)), .val (.ref o2), .val (.int (0 : Int32)), .val (.int (3 : Int32)), .val (.int (0 : Int32)), .val (.int x0)]) d17_32 rfl rfl (by decide) rfl ?_
  refine W.iinc C (z := (1 : Int32)) (Ls' := #[.val (.ref o0), .val (.int (1 : Int32)), .val (.ref o2), .val (.int (1 : Int32)), .val (.int (3 : Int32)), .val (.int (0 : Int32)), .val (.int x0)]) d17_35 rfl rfl (by decide) rfl ?_
  refine W.iinc C (z := (1 : Int32)) (Ls' := #[.val (.ref o0), .val (.int (1 : Int32)), .val (.ref o2), .val (.int (1 : Int32)), .val (.int (3 : Int32)), .val (.int (1 : Int32)), .val (.int x0)]) d17_38 rfl rfl (by decide) rfl ?_
  refine W.goto C (pc' := 3) d17_41 (by decide) rfl ?_
  refine W.iload C d17_3 rfl rfl ?_
  refine W.iload C d17_5 rfl rfl ?_
  refine W.icmp C (pc' := 44) (pn := 10) d17_7 (by decide) rfl rfl (W.q_ge (1 : Int32) (3 : Int32)) (fun hc7 => ?_) (fun hc7 => ?_)
  · exact absurd hc7 (by decide)
  refine W.aloadN C d17_10 rfl rfl rfl ?_
  refine W.iloadN C d17_11 rfl rfl ?_
  refine W.caload C (v := (.int x1)) (V0.other W1 ne_o0_o2) (by decide) (by decide) rfl d17_12 rfl ?_
  refine W.istore C (Ls' := #[.val (.ref o0), .val (.int (1 : Int32)), .val (.ref o2), .val (.int (1 : Int32)), .val (.int (3 : Int32)), .val (.int (1 : Int32)), .val (.int x1)]) d17_13 rfl rfl ?_
  refine W.iload C d17_15 rfl rfl ?_
  refine W.sipush C (x := (255 : Int32)) d17_17 rfl rfl ?_
  refine W.icmp C (pc' := 26) (pn := 23) d17_20 (by decide) rfl rfl (W.q_le x1 (255 : Int32)) (fun hc20 => ?_) (fun hc20 => ?_)
  rotate_left
  · exfalso
    simp only [Int32.reduceToInt] at hc20
    omega
  refine W.aloadN C d17_26 rfl rfl rfl ?_
  refine W.iloadN C d17_27 rfl rfl ?_
  refine W.iload C d17_28 rfl rfl ?_
  refine W.i2b C (z := ((x1).toInt8.toInt32)) d17_30 rfl rfl ?_
  refine W.bastore C V1 (by decide) (by decide) (show 1 < 3 from by decide) g0_o2 d17_31 rfl ?_
  intro h2 W2 V2
  have V2 : Arv Z h2 o2 k2 .byte (3 : Int32) [(.int (nar .byte ((x0).toInt8.toInt32))), (.int (nar .byte ((x1).toInt8.toInt32))), (.int (0 : Int32))] (.int (0 : Int32)) := V2
  refine W.iinc C (z := (2 : Int32)) (Ls' := #[.val (.ref o0), .val (.int (2 : Int32)), .val (.ref o2), .val (.int (1 : Int32)), .val (.int (3 : Int32)), .val (.int (1 : Int32)), .val (.int x1)]) d17_32 rfl rfl (by decide) rfl ?_
  refine W.iinc C (z := (2 : Int32)) (Ls' := #[.val (.ref o0), .val (.int (2 : Int32)), .val (.ref o2), .val (.int (2 : Int32)), .val (.int (3 : Int32)), .val (.int (1 : Int32)), .val (.int x1)]) d17_35 rfl rfl (by decide) rfl ?_
  refine W.iinc C (z := (2 : Int32)) (Ls' := #[.val (.ref o0), .val (.int (2 : Int32)), .val (.ref o2), .val (.int (2 : Int32)), .val (.int (3 : Int32)), .val (.int (2 : Int32)), .val (.int x1)]) d17_38 rfl rfl (by decide) rfl ?_
  refine W.goto C (pc' := 3) d17_41 (by decide) rfl ?_
  refine W.iload C d17_3 rfl rfl ?_
  refine W.iload C d17_5 rfl rfl ?_
  refine W.icmp C (pc' := 44) (pn := 10) d17_7 (by decide) rfl rfl (W.q_ge (2 : Int32) (3 : Int32)) (fun hc7 => ?_) (fun hc7 => ?_)
  · exact absurd hc7 (by decide)
  refine W.aloadN C d17_10 rfl rfl rfl ?_
  refine W.iloadN C d17_11 rfl rfl ?_
  refine W.caload C (v := (.int x2)) ((V0.other W1 ne_o0_o2).other W2 ne_o0_o2) (by decide) (by decide) rfl d17_12 rfl ?_
  refine W.istore C (Ls' := #[.val (.ref o0), .val (.int (2 : Int32)), .val (.ref o2), .val (.int (2 : Int32)), .val (.int (3 : Int32)), .val (.int (2 : Int32)), .val (.int x2)]) d17_13 rfl rfl ?_
  refine W.iload C d17_15 rfl rfl ?_
  refine W.sipush C (x := (255 : Int32)) d17_17 rfl rfl ?_
  refine W.icmp C (pc' := 26) (pn := 23) d17_20 (by decide) rfl rfl (W.q_le x2 (255 : Int32)) (fun hc20 => ?_) (fun hc20 => ?_)
  rotate_left
  · exfalso
    simp only [Int32.reduceToInt] at hc20
    omega
  refine W.aloadN C d17_26 rfl rfl rfl ?_
  refine W.iloadN C d17_27 rfl rfl ?_
  refine W.iload C d17_28 rfl rfl ?_
  refine W.i2b C (z := ((x2).toInt8.toInt32)) d17_30 rfl rfl ?_
  refine W.bastore C V2 (by decide) (by decide) (show 2 < 3 from by decide) g0_o2 d17_31 rfl ?_
  intro h3 W3 V3
  have V3 : Arv Z h3 o2 k2 .byte (3 : Int32) [(.int (nar .byte ((x0).toInt8.toInt32))), (.int (nar .byte ((x1).toInt8.toInt32))), (.int (nar .byte ((x2).toInt8.toInt32)))] (.int (0 : Int32)) := V3
  refine W.iinc C (z := (3 : Int32)) (Ls' := #[.val (.ref o0), .val (.int (3 : Int32)), .val (.ref o2), .val (.int (2 : Int32)), .val (.int (3 : Int32)), .val (.int (2 : Int32)), .val (.int x2)]) d17_32 rfl rfl (by decide) rfl ?_
  refine W.iinc C (z := (3 : Int32)) (Ls' := #[.val (.ref o0), .val (.int (3 : Int32)), .val (.ref o2), .val (.int (3 : Int32)), .val (.int (3 : Int32)), .val (.int (2 : Int32)), .val (.int x2)]) d17_35 rfl rfl (by decide) rfl ?_
  refine W.iinc C (z := (3 : Int32)) (Ls' := #[.val (.ref o0), .val (.int (3 : Int32)), .val (.ref o2), .val (.int (3 : Int32)), .val (.int (3 : Int32)), .val (.int (3 : Int32)), .val (.int x2)]) d17_38 rfl rfl (by decide) rfl ?_
  refine W.goto C (pc' := 3) d17_41 (by decide) rfl ?_
  refine W.iload C d17_3 rfl rfl ?_
  refine W.iload C d17_5 rfl rfl ?_
  refine W.icmp C (pc' := 44) (pn := 10) d17_7 (by decide) rfl rfl (W.q_ge (3 : Int32) (3 : Int32)) (fun hc7 => ?_) (fun hc7 => ?_)
  rotate_left
  · exact absurd hc7 (by decide)
  refine W.iload C d17_44 rfl rfl ?_
  refine W.retI C d17_46 (by decide) (by decide) (fun _ _ _ _ q => q) ?_
  exact ⟨rfl, ((((Keep.refl h0 [o2]).wr W1 (Or.inl (List.mem_of_getElem? (i := 0) rfl))).wr W2 (Or.inl (List.mem_of_getElem? (i := 0) rfl))).wr W3 (Or.inl (List.mem_of_getElem? (i := 0) rfl))), V3⟩
set_option maxRecDepth 65536 in
set_option maxHeartbeats 40000000 in
theorem rmC3_3 (l : Launch) (Z : State) (a0 : Array Value) (hw : ∀ d ∈ tables_1, d.before a0 Z = true) (ws : List Jvm.Cond) (o0 : Addr) (k0 : ClassId) (x0 x1 x2 : Int32) (h0 : Heap) (n0 : Nat) (Z0 : n0 ≤ h0.size) (V0 : Arv Z h0 o0 k0 .char (3 : Int32) [(.int x0), (.int x1), (.int x2)] (.int 0)) (r0 : 0 ≤ x0.toInt ∧ x0.toInt ≤ 255) (r1 : 0 ≤ x1.toInt ∧ x1.toInt ≤ 255) (r2 : 0 ≤ x2.toInt ∧ x2.toInt ≤ 255) :
    W.Con l Z (⟨"java/lang/StringUTF16", "compress", "([CII)[B"⟩ : MethodName) jdk_52_method_16_code 6 (some (.array .byte)) ws ({ frames := 1, cells := 1, slots := 3, locals := 18 } : Room) ({ frames := 1, cells := 1, slots := 3, locals := 18 } : Room).cells ({ frames := 1, cells := 1, slots := 3, locals := 18 } : Room).slots #[(.ref o0), (.int (0 : Int32)), (.int (3 : Int32))] h0 n0 (fun v h => ∃ (r : Addr) (kr : ClassId), v = some (.ref r) ∧ n0 ≤ r ∧ h0.size ≤ r ∧ Keep h0 h [] ∧ Arv Z h r kr .byte (3 : Int32) [(.int (nar .byte ((x0).toInt8.toInt32))), (.int (nar .byte ((x1).toInt8.toInt32))), (.int (nar .byte ((x2).toInt8.toInt32)))] (.int 0)) := by
  refine W.enter (plainFor_of_name pn_0) Z0 ?_
  intro p e s m below meth c C hnm hsh
  have C : W.Cx p s m meth c Z n0 "java/lang/StringUTF16" jdk_52_method_16_code 6 (some (.array .byte)) := C
  refine W.Go.castF (ef_16_3 m o0) ?_
  refine W.iloadN C d16_0 rfl rfl ?_
  refine W.newarray C (cap := 3) (hw _ (List.mem_of_getElem? (i := 20) rfl)) d16_1 rfl (by decide) (by decide) (by decide) (by decide) (by decide) (k' := 1) (n' := 3) rfl rfl ?_
  intro h1 b1 kc_b1 gb1 g0_b1 E1 Vb1
  have sz_b1 : h0.size ≤ b1 := by rw [gb1]; exact (Keep.refl h0 []).1
  have ne_o0_b1 : o0 ≠ b1 := Nat.ne_of_lt (by rw [gb1]; exact V0.lt)
  have Vb1 : Arv Z h1 b1 kc_b1 .byte (3 : Int32) [(.int (0 : Int32)), (.int (0 : Int32)), (.int (0 : Int32))] (.int (0 : Int32)) := Vb1.pad (pad_rep [] (.int (0 : Int32)) 3)
  refine W.astoreN C (Ls' := #[.val (.ref o0), .val (.int (0 : Int32)), .val (.int (3 : Int32)), .val (.ref b1), .unset, .unset]) d16_3 rfl rfl rfl ?_
  refine W.aloadN C d16_4 rfl rfl rfl ?_
  refine W.iloadN C d16_5 rfl rfl ?_
  refine W.aloadN C d16_6 rfl rfl rfl ?_
  refine W.iconst C (x := (0 : Int32)) d16_7 rfl rfl ?_
  refine W.iloadN C d16_8 rfl rfl ?_
  refine W.callS C (y := (⟨"java/lang/StringUTF16", "compress", "([CI[BII)I"⟩ : MethodName)) (hw _ (List.mem_of_getElem? (i := 101) rfl)) (hw _ (List.mem_of_getElem? (i := 102) rfl)) (hw _ (List.mem_of_getElem? (i := 99) rfl)) (hw _ (List.mem_of_getElem? (i := 103) rfl)) (by decide) (fun hz => rmC5_3 l Z a0 hw [] o0 b1 k0 kc_b1 x0 x1 x2 h1 n0 hz (V0.ext E1) Vb1 ne_o0_b1 g0_b1 r0 r1 r2) d16_9 rfl rfl pd_0 rfl (argsL := [(.ref o0), (.int (0 : Int32)), (.ref b1), (.int (0 : Int32)), (.int (3 : Int32))]) (rest := []) rfl (W := 0) rfl (by decide) (by decide) (by decide) (by decide) (k' := 1) (n' := 3) rfl rfl ?_
  rintro h2 _ ⟨rfl, K2, V2⟩
  show W.Go p l e _ _ m _ below meth c _ _ _ _ _ _ (mkF m 12 #[.val (.ref o0), .val (.int (0 : Int32)), .val (.int (3 : Int32)), .val (.ref b1), .unset, .unset] [(.int (3 : Int32))])
  refine W.istore C (Ls' := #[.val (.ref o0), .val (.int (0 : Int32)), .val (.int (3 : Int32)), .val (.ref b1), .val (.int (3 : Int32)), .unset]) d16_12 rfl rfl ?_
  refine W.iload C d16_14 rfl rfl ?_
  refine W.iloadN C d16_16 rfl rfl ?_
  refine W.icmp C (pc' := 57) (pn := 20) d16_17 (by decide) rfl rfl (W.q_eq (3 : Int32) (3 : Int32)) (fun hc17 => ?_) (fun hc17 => ?_)
  rotate_left
  · exact absurd rfl hc17
  refine W.aloadN C d16_57 rfl rfl rfl ?_
  refine W.retA C rfl rfl rfl d16_58 (by decide) (by decide) (fun _ _ _ _ q => q) ?_
  exact ⟨b1, kc_b1, rfl, g0_b1, sz_b1, (((Keep.refl h0 []).ext E1).trans K2 (allS (Or.inr sz_b1) all0)), V2⟩
set_option maxRecDepth 65536 in
set_option maxHeartbeats 40000000 in
theorem rmCl_3 (l : Launch) (Z : State) (a0 : Array Value) (hw : ∀ d ∈ tables_1, d.before a0 Z = true) (ws : List Jvm.Cond) (o0 : Addr) (k0 : ClassId) (vs : List Value) (h0 : Heap) (n0 : Nat) (Z0 : n0 ≤ h0.size) (V0 : Arv Z h0 o0 k0 .byte (3 : Int32) vs (.int 0)) :
    W.Con l Z (⟨"java/lang/StringUTF16", "coderFromArrayLen", "([BI)B"⟩ : MethodName) jdk_52_method_15_code 2 (some .byte) ws ({ frames := 0, cells := 0, slots := 0, locals := 0 } : Room) ({ frames := 0, cells := 0, slots := 0, locals := 0 } : Room).cells ({ frames := 0, cells := 0, slots := 0, locals := 0 } : Room).slots #[(.ref o0), (.int (3 : Int32))] h0 n0 (fun v h => v = some (.int 0) ∧ h0 = h) := by
  refine W.enter (plainFor_of_name pn_0) Z0 ?_
  intro p e s m below meth c C hnm hsh
  have C : W.Cx p s m meth c Z n0 "java/lang/StringUTF16" jdk_52_method_15_code 2 (some .byte) := C
  refine W.Go.castF (ef_18_3 m o0) ?_
  refine W.iloadN C d18_0 rfl rfl ?_
  refine W.aloadN C d18_1 rfl rfl rfl ?_
  refine W.arraylength C V0 d18_2 rfl ?_
  refine W.isub C (z := (0 : Int32)) d18_3 rfl (by decide) ?_
  refine W.bipush C (x := (31 : Int32)) d18_4 rfl rfl ?_
  refine W.iushr C (z := (0 : Int32)) d18_6 rfl (by decide) ?_
  refine W.i2b C (z := (0 : Int32)) d18_7 rfl (by decide) ?_
  refine W.retZ C (w := (0 : Int32)) (by simp) d18_8 (by decide) (by decide) (by decide) (fun _ _ _ _ q => q) ?_
  exact ⟨rfl, rfl⟩
set_option maxRecDepth 65536 in
set_option maxHeartbeats 40000000 in
theorem rmI4_3 (l : Launch) (Z : State) (a0 : Array Value) (hw : ∀ d ∈ tables_1, d.before a0 Z = true) (ws : List Jvm.Cond) (o0 o1 : Addr) (k1 : ClassId) (cs : Int32) (x0 x1 x2 : Int32) (h0 : Heap) (n0 : Nat) (Z0 : n0 ≤ h0.size) (E0 : Exa Z h0 o0 "java/lang/String") (F1 : Fld Z h0 o0 "java/lang/String" "value" "[B" .null) (F2 : Fld Z h0 o0 "java/lang/String" "coder" "B" (.int (0 : Int32))) (g0_o0 : n0 ≤ o0) (V1 : Arv Z h0 o1 k1 .char (3 : Int32) [(.int x0), (.int x1), (.int x2)] (.int 0)) (ne_o1_o0 : o1 ≠ o0) (SC : Sta Z h0 "java/lang/String" "COMPACT_STRINGS" "Z" (.int cs)) (hcs : ¬ cs = 0) (r0 : 0 ≤ x0.toInt ∧ x0.toInt ≤ 255) (r1 : 0 ≤ x1.toInt ∧ x1.toInt ≤ 255) (r2 : 0 ≤ x2.toInt ∧ x2.toInt ≤ 255) :
    W.Con l Z (⟨"java/lang/String", "<init>", "([CIILjava/lang/Void;)V"⟩ : MethodName) jdk_42_method_149_code 6 none ws ({ frames := 2, cells := 1, slots := 3, locals := 35 } : Room) ({ frames := 2, cells := 1, slots := 3, locals := 35 } : Room).cells ({ frames := 2, cells := 1, slots := 3, locals := 35 } : Room).slots #[(.ref o0), (.ref o1), (.int (0 : Int32)), (.int (3 : Int32)), .null] h0 n0 (fun v h => v = none ∧ ∃ (b : Addr) (kb : ClassId), Keep h0 h [o0] ∧ h0.size ≤ b ∧ own_Str Z h o0 b kb (3 : Int32) [(.int (nar .byte ((x0).toInt8.toInt32))), (.int (nar .byte ((x1).toInt8.toInt32))), (.int (nar .byte ((x2).toInt8.toInt32)))]) := by
  refine W.enter (plainFor_of_name pn_1) Z0 ?_
  intro p e s m below meth c C hnm hsh
  have C : W.Cx p s m meth c Z n0 "java/lang/String" jdk_42_method_149_code 6 none := C
  refine W.Go.castF (ef_3_3 m o0 o1) ?_
  refine W.aloadN C d3_0 rfl rfl rfl ?_
  refine W.initObj C (hw _ (List.mem_of_getElem? (i := 16) rfl)) (hw _ (List.mem_of_getElem? (i := 17) rfl)) (hw _ (List.mem_of_getElem? (i := 18) rfl)) d3_1 rfl rfl (by decide) rfl (by decide) ?_
  refine W.iloadN C d3_4 rfl rfl ?_
  refine W.ifc C (pc' := 27) (pn := 8) d3_5 (by decide) rfl rfl (W.q_ne (3 : Int32) (0 : Int32)) (fun hc5 => ?_) (fun hc5 => ?_)
  rotate_left
  · exact absurd hc5 (by decide)
  refine W.getstatic C (hw _ (List.mem_of_getElem? (i := 30) rfl)) Via.refl SC d3_27 rfl ?_
  refine W.ifc C (pc' := 58) (pn := 33) d3_30 (by decide) rfl rfl (W.q_eq cs (0 : Int32)) (fun hc30 => ?_) (fun hc30 => ?_)
  · exfalso
    exact hcs hc30
  refine W.aloadN C d3_33 rfl rfl rfl ?_
  refine W.iloadN C d3_34 rfl rfl ?_
  refine W.iloadN C d3_35 rfl rfl ?_
  refine W.callS C (y := (⟨"java/lang/StringUTF16", "compress", "([CII)[B"⟩ : MethodName)) (hw _ (List.mem_of_getElem? (i := 97) rfl)) (hw _ (List.mem_of_getElem? (i := 98) rfl)) (hw _ (List.mem_of_getElem? (i := 99) rfl)) (hw _ (List.mem_of_getElem? (i := 100) rfl)) (by decide) (fun hz => rmC3_3 l Z a0 hw [] o1 k1 x0 x1 x2 h0 n0 hz V1 r0 r1 r2) d3_36 rfl rfl pd_1 rfl (argsL := [(.ref o1), (.int (0 : Int32)), (.int (3 : Int32))]) (rest := []) rfl (W := 0) rfl (by decide) (by decide) (by decide) (by decide) (k' := 1) (n' := 3) rfl rfl ?_
  rintro hc _ ⟨r, kr, rfl, g0_r, sz_r, Kr, Vr⟩
  have ne_o0_r : o0 ≠ r := Nat.ne_of_lt (Nat.lt_of_lt_of_le E0.lt sz_r)
  have ne_o1_r : o1 ≠ r := Nat.ne_of_lt (Nat.lt_of_lt_of_le V1.lt sz_r)
  have sz_r := Nat.le_trans (Keep.refl h0 [o0]).1 sz_r
  show W.Go p l e _ _ m _ below meth c _ _ _ _ _ _ (mkF m 39 #[.val (.ref o0), .val (.ref o1), .val (.int (0 : Int32)), .val (.int (3 : Int32)), .val .null, .unset] [(.ref r)])
  refine W.astore C (Ls' := #[.val (.ref o0), .val (.ref o1), .val (.int (0 : Int32)), .val (.int (3 : Int32)), .val .null, .val (.ref r)]) d3_39 rfl rfl rfl ?_
  refine W.aloadN C d3_41 rfl rfl rfl ?_
  refine W.aload C d3_42 rfl rfl rfl ?_
  refine W.iloadN C d3_44 rfl rfl ?_
  refine W.callS C (y := (⟨"java/lang/StringUTF16", "coderFromArrayLen", "([BI)B"⟩ : MethodName)) (hw _ (List.mem_of_getElem? (i := 104) rfl)) (hw _ (List.mem_of_getElem? (i := 105) rfl)) (hw _ (List.mem_of_getElem? (i := 99) rfl)) (hw _ (List.mem_of_getElem? (i := 106) rfl)) (by decide) (fun hz => rmCl_3 l Z a0 hw [] r kr [(.int (nar .byte ((x0).toInt8.toInt32))), (.int (nar .byte ((x1).toInt8.toInt32))), (.int (nar .byte ((x2).toInt8.toInt32)))] hc n0 hz Vr) d3_45 rfl rfl pd_2 rfl (argsL := [(.ref r), (.int (3 : Int32))]) (rest := [(.ref o0)]) rfl (W := 1) rfl (by decide) (by decide) (by decide) (by decide) (k' := 1) (n' := 3) rfl rfl ?_
  rintro h1 _ ⟨rfl, rfl⟩
  show W.Go p l e _ _ m _ below meth c _ _ _ _ _ _ (mkF m 48 #[.val (.ref o0), .val (.ref o1), .val (.int (0 : Int32)), .val (.int (3 : Int32)), .val .null, .val (.ref r)] [(.int (0 : Int32)), (.ref o0)])
  refine W.putfield C (hw _ (List.mem_of_getElem? (i := 26) rfl)) Via.refl (F2.keep Kr nin0) (E0.keep Kr) (Or.inr ⟨(hw _ (List.mem_of_getElem? (i := 22) rfl)), rfl, hnm⟩) (hw _ (List.mem_of_getElem? (i := 6) rfl)) (ty := .byte) (by decide) rfl rfl d3_48 rfl g0_o0 ?_
  intro h2 W2
  refine W.aloadN C d3_51 rfl rfl rfl ?_
  refine W.aload C d3_52 rfl rfl rfl ?_
  refine W.putfield C (hw _ (List.mem_of_getElem? (i := 25) rfl)) Via.refl ((F1.keep Kr nin0).other W2 (Or.inr (slot_ne (Or.inr (hw _ (List.mem_of_getElem? (i := 21) rfl))) (Or.inr (hw _ (List.mem_of_getElem? (i := 22) rfl))) (by decide) (t := (.array .byte)) (t' := .byte) (by decide) (by decide)))) ((E0.keep Kr).wr W2) (Or.inr ⟨(hw _ (List.mem_of_getElem? (i := 21) rfl)), rfl, hnm⟩) (hw _ (List.mem_of_getElem? (i := 6) rfl)) (ty := (.array .byte)) (by decide) rfl rfl d3_54 rfl g0_o0 ?_
  intro h3 W3
  refine W.ret0 C d3_57 (by decide) (by decide) (fun _ _ _ _ q => q) ?_
  exact ⟨rfl, r, kr, ((((Keep.refl h0 [o0]).trans Kr all0).wr W2 (Or.inl (List.mem_of_getElem? (i := 0) rfl))).wr W3 (Or.inl (List.mem_of_getElem? (i := 0) rfl))), sz_r, ⟨(((E0.keep Kr).wr W2).wr W3), (((F2.keep Kr nin0).same W2).other W3 (Or.inr (slot_ne (Or.inr (hw _ (List.mem_of_getElem? (i := 22) rfl))) (Or.inr (hw _ (List.mem_of_getElem? (i := 21) rfl))) (by decide) (t := .byte) (t' := (.array .byte)) (by decide) (by decide)))), (((F1.keep Kr nin0).other W2 (Or.inr (slot_ne (Or.inr (hw _ (List.mem_of_getElem? (i := 21) rfl))) (Or.inr (hw _ (List.mem_of_getElem? (i := 22) rfl))) (by decide) (t := (.array .byte)) (t' := .byte) (by decide) (by decide)))).same W3), ((Vr.other W2 (Ne.symm ne_o0_r)).other W3 (Ne.symm ne_o0_r))⟩⟩
set_option maxRecDepth 65536 in
set_option maxHeartbeats 40000000 in
theorem rmI1_3 (l : Launch) (Z : State) (a0 : Array Value) (hw : ∀ d ∈ tables_1, d.before a0 Z = true) (ws : List Jvm.Cond) (o0 o1 : Addr) (k1 : ClassId) (cs : Int32) (x0 x1 x2 : Int32) (h0 : Heap) (n0 : Nat) (Z0 : n0 ≤ h0.size) (E0 : Exa Z h0 o0 "java/lang/String") (F1 : Fld Z h0 o0 "java/lang/String" "value" "[B" .null) (F2 : Fld Z h0 o0 "java/lang/String" "coder" "B" (.int (0 : Int32))) (g0_o0 : n0 ≤ o0) (V1 : Arv Z h0 o1 k1 .char (3 : Int32) [(.int x0), (.int x1), (.int x2)] (.int 0)) (ne_o1_o0 : o1 ≠ o0) (SC : Sta Z h0 "java/lang/String" "COMPACT_STRINGS" "Z" (.int cs)) (hcs : ¬ cs = 0) (r0 : 0 ≤ x0.toInt ∧ x0.toInt ≤ 255) (r1 : 0 ≤ x1.toInt ∧ x1.toInt ≤ 255) (r2 : 0 ≤ x2.toInt ∧ x2.toInt ≤ 255) :
    W.Con l Z (⟨"java/lang/String", "<init>", "([C)V"⟩ : MethodName) jdk_42_method_3_code 2 none ws ({ frames := 3, cells := 1, slots := 3, locals := 52 } : Room) ({ frames := 3, cells := 1, slots := 3, locals := 52 } : Room).cells ({ frames := 3, cells := 1, slots := 3, locals := 52 } : Room).slots #[(.ref o0), (.ref o1)] h0 n0 (fun v h => v = none ∧ ∃ (b : Addr) (kb : ClassId), Keep h0 h [o0] ∧ h0.size ≤ b ∧ own_Str Z h o0 b kb (3 : Int32) [(.int (nar .byte ((x0).toInt8.toInt32))), (.int (nar .byte ((x1).toInt8.toInt32))), (.int (nar .byte ((x2).toInt8.toInt32)))]) := by
  refine W.enter (plainFor_of_name pn_1) Z0 ?_
  intro p e s m below meth c C hnm hsh
  have C : W.Cx p s m meth c Z n0 "java/lang/String" jdk_42_method_3_code 2 none := C
  refine W.Go.castF (ef_2_3 m o0 o1) ?_
  refine W.aloadN C d2_0 rfl rfl rfl ?_
  refine W.aloadN C d2_1 rfl rfl rfl ?_
  refine W.iconst C (x := (0 : Int32)) d2_2 rfl rfl ?_
  refine W.aloadN C d2_3 rfl rfl rfl ?_
  refine W.arraylength C V1 d2_4 rfl ?_
  refine W.aconst_null C d2_5 rfl ?_
  refine W.callSp C (y := (⟨"java/lang/String", "<init>", "([CIILjava/lang/Void;)V"⟩ : MethodName)) (a := o0) rfl (hw _ (List.mem_of_getElem? (i := 12) rfl)) (hw _ (List.mem_of_getElem? (i := 13) rfl)) (hw _ (List.mem_of_getElem? (i := 7) rfl)) (hw _ (List.mem_of_getElem? (i := 15) rfl)) (by decide) (fun hz => rmI4_3 l Z a0 hw [] o0 o1 k1 cs x0 x1 x2 h0 n0 hz E0 F1 F2 g0_o0 V1 ne_o1_o0 SC hcs r0 r1 r2) d2_6 rfl rfl pd_3 rfl (argsL := [(.ref o1), (.int (0 : Int32)), (.int (3 : Int32)), .null]) (rest := []) rfl (W := 0) rfl (by decide) (by decide) (by decide) (by decide) (k' := 1) (n' := 3) rfl rfl ?_
  rintro h1 _ ⟨rfl, b1, kb1, K1, sz_b1, O1⟩
  have ne_o0_b1 : o0 ≠ b1 := Nat.ne_of_lt (Nat.lt_of_lt_of_le E0.lt sz_b1)
  have ne_o1_b1 : o1 ≠ b1 := Nat.ne_of_lt (Nat.lt_of_lt_of_le V1.lt sz_b1)
  have sz_b1 := Nat.le_trans (Keep.refl h0 [o0]).1 sz_b1
  show W.Go p l e _ _ m _ below meth c _ _ _ _ _ _ (mkF m 9 #[.val (.ref o0), .val (.ref o1)] [])
  refine W.ret0 C d2_9 (by decide) (by decide) (fun _ _ _ _ q => q) ?_
  exact ⟨rfl, b1, kb1, ((Keep.refl h0 [o0]).trans K1 (allS (Or.inl (List.mem_of_getElem? (i := 0) rfl)) all0)), sz_b1, ⟨O1.1, O1.2.1, O1.2.2.1, O1.2.2.2⟩⟩
set_option maxRecDepth 65536 in
set_option maxHeartbeats 40000000 in
theorem rmI4_0 (l : Launch) (Z : State) (a0 : Array Value) (hw : ∀ d ∈ tables_1, d.before a0 Z = true) (hEL : EW Z a0 consts_1) (hSA : ∀ a ∈ Bundle.stringAtoms, a.before a0 Z = true) (ws : List Jvm.Cond) (o0 o1 : Addr) (h0 : Heap) (n0 : Nat) (Z0 : n0 ≤ h0.size) (E0 : Exa Z h0 o0 "java/lang/String") (F1 : Fld Z h0 o0 "java/lang/String" "value" "[B" .null) (F2 : Fld Z h0 o0 "java/lang/String" "coder" "B" (.int (0 : Int32))) (g0_o0 : n0 ≤ o0) :
    W.ConL l Z consts_1 (⟨"java/lang/String", "<init>", "([CIILjava/lang/Void;)V"⟩ : MethodName) jdk_42_method_149_code 6 none ws ({ frames := 1, cells := 4, slots := 8, locals := 12 } : Room) ({ frames := 1, cells := 4, slots := 8, locals := 12 } : Room).cells ({ frames := 1, cells := 4, slots := 8, locals := 12 } : Room).slots #[(.ref o0), (.ref o1), (.int (0 : Int32)), (.int (0 : Int32)), .null] h0 n0 [o0] (fun v h => v = none ∧ ∃ (b : Addr) (kb : ClassId), Keep h0 h [o0] ∧ own_Str Z h o0 b kb 0 []) := by
  refine W.enterL (plainFor_of_name pn_1) Z0 hEL hSA ?_
  intro p e s0 m below meth c C hnm hsh LT SF0
  have C : W.Cx p (s0.setVm s0.vm) m meth c Z n0 "java/lang/String" jdk_42_method_149_code 6 none := C
  have sf_o0 := SF0 o0 (List.mem_of_getElem? (i := 0) rfl)
  refine W.Go.castF (ef_3_0 m o0 o1) ?_
  refine W.aloadN C d3_0 rfl rfl rfl ?_
  refine W.initObj C (hw _ (List.mem_of_getElem? (i := 16) rfl)) (hw _ (List.mem_of_getElem? (i := 17) rfl)) (hw _ (List.mem_of_getElem? (i := 18) rfl)) d3_1 rfl rfl (by decide) rfl (by decide) ?_
  refine W.iloadN C d3_4 rfl rfl ?_
  refine W.ifc C (pc' := 27) (pn := 8) d3_5 (by decide) rfl rfl (W.q_ne (0 : Int32) (0 : Int32)) (fun hc5 => ?_) (fun hc5 => ?_)
  · exact absurd rfl hc5
  refine W.aloadN C d3_8 rfl rfl rfl ?_
  refine W.ldcL C (vs := []) (z := (0 : Int32)) (nn := 0) LT (hw _ (List.mem_of_getElem? (i := 19) rfl)) (List.mem_of_getElem? (i := 1) rfl) tx_1 (by decide) (by decide) d3_9 rfl txl_1 (by decide) (by decide) (by decide) (k' := 2) (n' := 4) rfl rfl ?_
  intro vm1 k1 h1 a1 b1 kc_b1 C LT1 E1 X1 Fc1 Fv1 V1 SF1 NE1
  have sf1_o0 := SF1 o0 E0.lt sf_o0
  obtain ⟨ne_o0_a1, ne_o0_b1⟩ := NE1 _ sf1_o0
  refine W.getfield C (hw _ (List.mem_of_getElem? (i := 25) rfl)) Via.refl Fv1 d3_11 rfl ?_
  refine W.putfield C (hw _ (List.mem_of_getElem? (i := 25) rfl)) Via.refl (F1.ext E1) (E0.ext E1) (Or.inr ⟨(hw _ (List.mem_of_getElem? (i := 21) rfl)), rfl, hnm⟩) (hw _ (List.mem_of_getElem? (i := 6) rfl)) (ty := (.array .byte)) (by decide) rfl rfl d3_14 rfl g0_o0 ?_
  intro h2 W2
  have lw3 := LT1.wr W2 sf1_o0
  have sw4 := LT1.swr W2 sf1_o0 sf1_o0
  refine W.aloadN C d3_17 rfl rfl rfl ?_
  refine W.ldcL C (vs := []) (z := (0 : Int32)) (nn := 0) lw3 (hw _ (List.mem_of_getElem? (i := 19) rfl)) (List.mem_of_getElem? (i := 1) rfl) tx_1 (by decide) (by decide) d3_18 rfl txl_1 (by decide) (by decide) (by decide) (k' := 4) (n' := 8) rfl rfl ?_
  intro vm5 k5 h5 a5 b5 kc_b5 C LT5 E5 X5 Fc5 Fv5 V5 SF5 NE5
  have sf5_o0 := SF5 o0 ((E0.ext E1).wr W2).lt sw4
  obtain ⟨ne_o0_a5, ne_o0_b5⟩ := NE5 _ sf5_o0
  refine W.getfield C (hw _ (List.mem_of_getElem? (i := 26) rfl)) Via.refl Fc5 d3_20 rfl ?_
  refine W.putfield C (hw _ (List.mem_of_getElem? (i := 26) rfl)) Via.refl (((F2.ext E1).other W2 (Or.inr (slot_ne (Or.inr (hw _ (List.mem_of_getElem? (i := 22) rfl))) (Or.inr (hw _ (List.mem_of_getElem? (i := 21) rfl))) (by decide) (t := .byte) (t' := (.array .byte)) (by decide) (by decide)))).ext E5) (((E0.ext E1).wr W2).ext E5) (Or.inr ⟨(hw _ (List.mem_of_getElem? (i := 22) rfl)), rfl, hnm⟩) (hw _ (List.mem_of_getElem? (i := 6) rfl)) (ty := .byte) (by decide) rfl rfl d3_23 rfl g0_o0 ?_
  intro h6 W6
  have lw7 := LT5.wr W6 sf5_o0
  have sw8 := LT5.swr W6 sf5_o0 sf5_o0
  refine W.ret0 C d3_26 (by decide) (by decide) (W.Lt.fin lw7) ?_
  exact ⟨rfl, b1, kc_b1, (((((Keep.refl h0 [o0]).ext E1).wr W2 (Or.inl (List.mem_of_getElem? (i := 0) rfl))).ext E5).wr W6 (Or.inl (List.mem_of_getElem? (i := 0) rfl))), ⟨((((E0.ext E1).wr W2).ext E5).wr W6), ((((F2.ext E1).other W2 (Or.inr (slot_ne (Or.inr (hw _ (List.mem_of_getElem? (i := 22) rfl))) (Or.inr (hw _ (List.mem_of_getElem? (i := 21) rfl))) (by decide) (t := .byte) (t' := (.array .byte)) (by decide) (by decide)))).ext E5).same W6), ((((F1.ext E1).same W2).ext E5).other W6 (Or.inr (slot_ne (Or.inr (hw _ (List.mem_of_getElem? (i := 21) rfl))) (Or.inr (hw _ (List.mem_of_getElem? (i := 22) rfl))) (by decide) (t := (.array .byte)) (t' := .byte) (by decide) (by decide)))), (((V1.other W2 (Ne.symm ne_o0_b1)).ext E5).other W6 (Ne.symm ne_o0_b1))⟩⟩
set_option maxRecDepth 65536 in
set_option maxHeartbeats 40000000 in
theorem rmI1_0 (l : Launch) (Z : State) (a0 : Array Value) (hw : ∀ d ∈ tables_1, d.before a0 Z = true) (hEL : EW Z a0 consts_1) (hSA : ∀ a ∈ Bundle.stringAtoms, a.before a0 Z = true) (ws : List Jvm.Cond) (o0 o1 : Addr) (k1 : ClassId) (h0 : Heap) (n0 : Nat) (Z0 : n0 ≤ h0.size) (E0 : Exa Z h0 o0 "java/lang/String") (F1 : Fld Z h0 o0 "java/lang/String" "value" "[B" .null) (F2 : Fld Z h0 o0 "java/lang/String" "coder" "B" (.int (0 : Int32))) (g0_o0 : n0 ≤ o0) (V1 : Arv Z h0 o1 k1 .char (0 : Int32) [] (.int 0)) :
    W.ConL l Z consts_1 (⟨"java/lang/String", "<init>", "([C)V"⟩ : MethodName) jdk_42_method_3_code 2 none ws ({ frames := 2, cells := 4, slots := 8, locals := 29 } : Room) ({ frames := 2, cells := 4, slots := 8, locals := 29 } : Room).cells ({ frames := 2, cells := 4, slots := 8, locals := 29 } : Room).slots #[(.ref o0), (.ref o1)] h0 n0 [o0] (fun v h => v = none ∧ ∃ (b : Addr) (kb : ClassId), Keep h0 h [o0] ∧ own_Str Z h o0 b kb 0 []) := by
  refine W.enterL (plainFor_of_name pn_1) Z0 hEL hSA ?_
  intro p e s0 m below meth c C hnm hsh LT SF0
  have C : W.Cx p (s0.setVm s0.vm) m meth c Z n0 "java/lang/String" jdk_42_method_3_code 2 none := C
  have sf_o0 := SF0 o0 (List.mem_of_getElem? (i := 0) rfl)
  refine W.Go.castF (ef_2_0 m o0 o1) ?_
  refine W.aloadN C d2_0 rfl rfl rfl ?_
  refine W.aloadN C d2_1 rfl rfl rfl ?_
  refine W.iconst C (x := (0 : Int32)) d2_2 rfl rfl ?_
  refine W.aloadN C d2_3 rfl rfl rfl ?_
  refine W.arraylength C V1 d2_4 rfl ?_
  refine W.aconst_null C d2_5 rfl ?_
  refine W.callSpL C (y := (⟨"java/lang/String", "<init>", "([CIILjava/lang/Void;)V"⟩ : MethodName)) (b := o0) LT rfl (hw _ (List.mem_of_getElem? (i := 12) rfl)) (hw _ (List.mem_of_getElem? (i := 13) rfl)) (hw _ (List.mem_of_getElem? (i := 7) rfl)) (hw _ (List.mem_of_getElem? (i := 15) rfl)) (by decide) (fun hz => rmI4_0 l Z a0 hw hEL hSA [] o0 o1 h0 n0 hz E0 F1 F2 g0_o0) (fun x hx => by simp only [List.mem_cons, List.not_mem_nil, or_false] at hx; rcases hx with rfl; exact ⟨E0.lt, sf_o0⟩) d2_6 rfl rfl pd_3 rfl (argsL := [(.ref o1), (.int (0 : Int32)), (.int (0 : Int32)), .null]) (rest := []) rfl (W := 0) rfl (by decide) (by decide) (by decide) (by decide) (k' := 4) (n' := 8) rfl rfl ?_
  rintro vm1 k1 h1 _ C LT1 SF1 ⟨rfl, b1, kb1, K1, O1⟩
  have sc1_o0 := SF1 o0 E0.lt sf_o0
  show W.Go p l e _ _ m _ below meth c _ _ _ _ _ _ (mkF m 9 #[.val (.ref o0), .val (.ref o1)] [])
  refine W.ret0 C d2_9 (by decide) (by decide) (W.Lt.fin LT1) ?_
  exact ⟨rfl, b1, kb1, ((Keep.refl h0 [o0]).trans K1 (allS (Or.inl (List.mem_of_getElem? (i := 0) rfl)) all0)), ⟨O1.1, O1.2.1, O1.2.2.1, O1.2.2.2⟩⟩
set_option maxRecDepth 65536 in
set_option maxHeartbeats 40000000 in
theorem rmVc (l : Launch) (Z : State) (a0 : Array Value) (hw : ∀ d ∈ tables_1, d.before a0 Z = true) (ws : List Jvm.Cond) (p0 : Int32) (h0 : Heap) (n0 : Nat) (Z0 : n0 ≤ h0.size) (r0 : 0 ≤ p0.toInt ∧ p0.toInt ≤ 255) :
    W.Con l Z (⟨"java/lang/StringLatin1", "canEncode", "(C)Z"⟩ : MethodName) jdk_43_method_3_code 1 (some .boolean) ws ({ frames := 0, cells := 0, slots := 0, locals := 0 } : Room) ({ frames := 0, cells := 0, slots := 0, locals := 0 } : Room).cells ({ frames := 0, cells := 0, slots := 0, locals := 0 } : Room).slots #[(.int p0)] h0 n0 (fun v h => v = some (.int 1) ∧ h0 = h) := by
  refine W.enter (plainFor_of_name pn_2) Z0 ?_
  intro p e s m below meth c C hnm hsh
  have C : W.Cx p s m meth c Z n0 "java/lang/StringLatin1" jdk_43_method_3_code 1 (some .boolean) := C
  refine W.Go.castF (ef_6v m p0) ?_
  refine W.iloadN C d6_0 rfl rfl ?_
  refine W.sipush C (x := (255 : Int32)) d6_1 rfl rfl ?_
  refine W.icmp C (pc' := 11) (pn := 7) d6_4 (by decide) rfl rfl (W.q_gt p0 (255 : Int32)) (fun hc4 => ?_) (fun hc4 => ?_)
  · exfalso
    simp only [Int32.reduceToInt] at hc4
    omega
  refine W.iconst C (x := (1 : Int32)) d6_7 rfl rfl ?_
  refine W.goto C (pc' := 12) d6_8 (by decide) rfl ?_
  refine W.retZ C (w := (1 : Int32)) (by simp) d6_12 (by decide) (by decide) (by decide) (fun _ _ _ _ q => q) ?_
  exact ⟨rfl, rfl⟩
set_option maxRecDepth 65536 in
set_option maxHeartbeats 40000000 in
theorem rmVt (l : Launch) (Z : State) (a0 : Array Value) (hw : ∀ d ∈ tables_1, d.before a0 Z = true) (ws : List Jvm.Cond) (p0 : Int32) (h0 : Heap) (n0 : Nat) (Z0 : n0 ≤ h0.size) :
    W.Con l Z (⟨"java/lang/StringLatin1", "toBytes", "(C)[B"⟩ : MethodName) jdk_43_method_46_code 1 (some (.array .byte)) ws ({ frames := 0, cells := 1, slots := 1, locals := 0 } : Room) ({ frames := 0, cells := 1, slots := 1, locals := 0 } : Room).cells ({ frames := 0, cells := 1, slots := 1, locals := 0 } : Room).slots #[(.int p0)] h0 n0 (fun v h => ∃ (r : Addr) (kr : ClassId), v = some (.ref r) ∧ n0 ≤ r ∧ h0.size ≤ r ∧ Keep h0 h [] ∧ Arv Z h r kr .byte (1 : Int32) [(.int (nar .byte ((p0).toInt8.toInt32)))] (.int 0)) := by
  refine W.enter (plainFor_of_name pn_2) Z0 ?_
  intro p e s m below meth c C hnm hsh
  have C : W.Cx p s m meth c Z n0 "java/lang/StringLatin1" jdk_43_method_46_code 1 (some (.array .byte)) := C
  refine W.Go.castF (ef_7v m p0) ?_
  refine W.iconst C (x := (1 : Int32)) d7_0 rfl rfl ?_
  refine W.newarray C (cap := 1) (hw _ (List.mem_of_getElem? (i := 20) rfl)) d7_1 rfl (by decide) (by decide) (by decide) (by decide) (by decide) (k' := 1) (n' := 1) rfl rfl ?_
  intro h1 b1 kc_b1 gb1 g0_b1 E1 Vb1
  have sz_b1 : h0.size ≤ b1 := by rw [gb1]; exact (Keep.refl h0 []).1
  have Vb1 : Arv Z h1 b1 kc_b1 .byte (1 : Int32) [(.int (0 : Int32))] (.int (0 : Int32)) := Vb1.pad (pad_rep [] (.int (0 : Int32)) 1)
  refine W.dup C d7_3 rfl rfl ?_
  refine W.iconst C (x := (0 : Int32)) d7_4 rfl rfl ?_
  refine W.iloadN C d7_5 rfl rfl ?_
  refine W.i2b C (z := ((p0).toInt8.toInt32)) d7_6 rfl rfl ?_
  refine W.bastore C Vb1 (by decide) (by decide) (show 0 < 1 from by decide) g0_b1 d7_7 rfl ?_
  intro h2 W2 V2
  have V2 : Arv Z h2 b1 kc_b1 .byte (1 : Int32) [(.int (nar .byte ((p0).toInt8.toInt32)))] (.int (0 : Int32)) := V2
  refine W.retA C rfl rfl rfl d7_8 (by decide) (by decide) (fun _ _ _ _ q => q) ?_
  exact ⟨b1, kc_b1, rfl, g0_b1, sz_b1, (((Keep.refl h0 []).ext E1).wr W2 (Or.inr sz_b1)), V2⟩
set_option maxRecDepth 65536 in
set_option maxHeartbeats 40000000 in
theorem rmVi (l : Launch) (Z : State) (a0 : Array Value) (hw : ∀ d ∈ tables_1, d.before a0 Z = true) (ws : List Jvm.Cond) (o0 o1 : Addr) (k1 : ClassId) (z : Int32) (vs : List Value) (h0 : Heap) (n0 : Nat) (Z0 : n0 ≤ h0.size) (E0 : Exa Z h0 o0 "java/lang/String") (F1 : Fld Z h0 o0 "java/lang/String" "value" "[B" .null) (F2 : Fld Z h0 o0 "java/lang/String" "coder" "B" (.int (0 : Int32))) (g0_o0 : n0 ≤ o0) (V1 : Arv Z h0 o1 k1 .byte z vs (.int 0)) (ne_o1_o0 : o1 ≠ o0) :
    W.Con l Z (⟨"java/lang/String", "<init>", "([BB)V"⟩ : MethodName) jdk_42_method_151_code 3 none ws ({ frames := 1, cells := 0, slots := 0, locals := 12 } : Room) ({ frames := 1, cells := 0, slots := 0, locals := 12 } : Room).cells ({ frames := 1, cells := 0, slots := 0, locals := 12 } : Room).slots #[(.ref o0), (.ref o1), (.int (0 : Int32))] h0 n0 (fun v h => v = none ∧ Keep h0 h [o0] ∧ own_Str Z h o0 o1 k1 z vs) := by
  refine W.enter (plainFor_of_name pn_1) Z0 ?_
  intro p e s m below meth c C hnm hsh
  have C : W.Cx p s m meth c Z n0 "java/lang/String" jdk_42_method_151_code 3 none := C
  refine W.Go.castF (ef_8v m o0 o1) ?_
  refine W.aloadN C d8_0 rfl rfl rfl ?_
  refine W.initObj C (hw _ (List.mem_of_getElem? (i := 16) rfl)) (hw _ (List.mem_of_getElem? (i := 17) rfl)) (hw _ (List.mem_of_getElem? (i := 18) rfl)) d8_1 rfl rfl (by decide) rfl (by decide) ?_
  refine W.aloadN C d8_4 rfl rfl rfl ?_
  refine W.aloadN C d8_5 rfl rfl rfl ?_
  refine W.putfield C (hw _ (List.mem_of_getElem? (i := 25) rfl)) Via.refl F1 E0 (Or.inr ⟨(hw _ (List.mem_of_getElem? (i := 21) rfl)), rfl, hnm⟩) (hw _ (List.mem_of_getElem? (i := 6) rfl)) (ty := (.array .byte)) (by decide) rfl rfl d8_6 rfl g0_o0 ?_
  intro h1 W1
  refine W.aloadN C d8_9 rfl rfl rfl ?_
  refine W.iloadN C d8_10 rfl rfl ?_
  refine W.putfield C (hw _ (List.mem_of_getElem? (i := 26) rfl)) Via.refl (F2.other W1 (Or.inr (slot_ne (Or.inr (hw _ (List.mem_of_getElem? (i := 22) rfl))) (Or.inr (hw _ (List.mem_of_getElem? (i := 21) rfl))) (by decide) (t := .byte) (t' := (.array .byte)) (by decide) (by decide)))) (E0.wr W1) (Or.inr ⟨(hw _ (List.mem_of_getElem? (i := 22) rfl)), rfl, hnm⟩) (hw _ (List.mem_of_getElem? (i := 6) rfl)) (ty := .byte) (by decide) rfl rfl d8_11 rfl g0_o0 ?_
  intro h2 W2
  refine W.ret0 C d8_14 (by decide) (by decide) (fun _ _ _ _ q => q) ?_
  exact ⟨rfl, (((Keep.refl h0 [o0]).wr W1 (Or.inl (List.mem_of_getElem? (i := 0) rfl))).wr W2 (Or.inl (List.mem_of_getElem? (i := 0) rfl))), ⟨((E0.wr W1).wr W2), ((F2.other W1 (Or.inr (slot_ne (Or.inr (hw _ (List.mem_of_getElem? (i := 22) rfl))) (Or.inr (hw _ (List.mem_of_getElem? (i := 21) rfl))) (by decide) (t := .byte) (t' := (.array .byte)) (by decide) (by decide)))).same W2), ((F1.same W1).other W2 (Or.inr (slot_ne (Or.inr (hw _ (List.mem_of_getElem? (i := 21) rfl))) (Or.inr (hw _ (List.mem_of_getElem? (i := 22) rfl))) (by decide) (t := (.array .byte)) (t' := .byte) (by decide) (by decide)))), ((V1.other W1 ne_o1_o0).other W2 ne_o1_o0)⟩⟩
set_option maxRecDepth 65536 in
set_option maxHeartbeats 40000000 in
theorem rmVo (l : Launch) (Z : State) (a0 : Array Value) (hw : ∀ d ∈ tables_1, d.before a0 Z = true) (ws : List Jvm.Cond) (p0 cs : Int32) (h0 : Heap) (n0 : Nat) (Z0 : n0 ≤ h0.size) (SC : Sta Z h0 "java/lang/String" "COMPACT_STRINGS" "Z" (.int cs)) (hcs : ¬ cs = 0) (r0 : 0 ≤ p0.toInt ∧ p0.toInt ≤ 255) :
    W.Con l Z (⟨"java/lang/String", "valueOf", "(C)Ljava/lang/String;"⟩ : MethodName) jdk_42_method_139_code 1 (some (.object "java/lang/String")) ws ({ frames := 2, cells := 2, slots := 5, locals := 28 } : Room) ({ frames := 2, cells := 2, slots := 5, locals := 28 } : Room).cells ({ frames := 2, cells := 2, slots := 5, locals := 28 } : Room).slots #[(.int p0)] h0 n0 (fun v h => ∃ (r b : Addr) (kb : ClassId), v = some (.ref r) ∧ n0 ≤ r ∧ h0.size ≤ r ∧ Keep h0 h [] ∧ own_Str Z h r b kb (1 : Int32) [(.int (nar .byte ((p0).toInt8.toInt32)))]) := by
  refine W.enter (plainFor_of_name pn_1) Z0 ?_
  intro p e s m below meth c C hnm hsh
  have C : W.Cx p s m meth c Z n0 "java/lang/String" jdk_42_method_139_code 1 (some (.object "java/lang/String")) := C
  refine W.Go.castF (ef_5v m p0) ?_
  refine W.getstatic C (hw _ (List.mem_of_getElem? (i := 30) rfl)) Via.refl SC d5_0 rfl ?_
  refine W.ifc C (pc' := 26) (pn := 6) d5_3 (by decide) rfl rfl (W.q_eq cs (0 : Int32)) (fun hc3 => ?_) (fun hc3 => ?_)
  · exfalso
    exact hcs hc3
  refine W.iloadN C d5_6 rfl rfl ?_
  refine W.callS C (y := (⟨"java/lang/StringLatin1", "canEncode", "(C)Z"⟩ : MethodName)) (hw _ (List.mem_of_getElem? (i := 31) rfl)) (hw _ (List.mem_of_getElem? (i := 32) rfl)) (hw _ (List.mem_of_getElem? (i := 33) rfl)) (hw _ (List.mem_of_getElem? (i := 34) rfl)) (by decide) (fun hz => rmVc l Z a0 hw [] p0 h0 n0 hz r0) d5_7 rfl rfl pd_4 rfl (argsL := [(.int p0)]) (rest := []) rfl (W := 0) rfl (by decide) (by decide) (by decide) (by decide) (k' := 0) (n' := 0) rfl rfl ?_
  rintro h1 _ ⟨rfl, rfl⟩
  show W.Go p l e _ _ m _ below meth c _ _ _ _ _ _ (mkF m 10 #[.val (.int p0)] [(.int (1 : Int32))])
  refine W.ifc C (pc' := 26) (pn := 13) d5_10 (by decide) rfl rfl (W.q_eq (1 : Int32) (0 : Int32)) (fun hc10 => ?_) (fun hc10 => ?_)
  · exact absurd hc10 (by decide)
  refine W.new C (hw _ (List.mem_of_getElem? (i := 35) rfl)) (hw _ (List.mem_of_getElem? (i := 6) rfl)) (hw _ (List.mem_of_getElem? (i := 7) rfl)) d5_13 rfl (by decide) (by decide) (k' := 1) (n' := 4) rfl rfl ?_
  intro h2 b2 gb2 g0_b2 E2 Ab2 Db2
  have sz_b2 : h0.size ≤ b2 := by rw [gb2]; exact (Keep.refl h0 []).1
  have Fb2_value : Fld Z h2 b2 "java/lang/String" "value" "[B" .null := Db2 (Or.inr (hw _ (List.mem_of_getElem? (i := 21) rfl))) (ty := (.array .byte)) (by decide)
  have Fb2_coder : Fld Z h2 b2 "java/lang/String" "coder" "B" (.int (0 : Int32)) := Db2 (Or.inr (hw _ (List.mem_of_getElem? (i := 22) rfl))) (ty := .byte) (by decide)
  refine W.dup C d5_16 rfl rfl ?_
  refine W.iloadN C d5_17 rfl rfl ?_
  refine W.callS C (y := (⟨"java/lang/StringLatin1", "toBytes", "(C)[B"⟩ : MethodName)) (hw _ (List.mem_of_getElem? (i := 36) rfl)) (hw _ (List.mem_of_getElem? (i := 37) rfl)) (hw _ (List.mem_of_getElem? (i := 33) rfl)) (hw _ (List.mem_of_getElem? (i := 38) rfl)) (by decide) (fun hz => rmVt l Z a0 hw [] p0 h2 n0 hz) d5_18 rfl rfl pd_5 rfl (argsL := [(.int p0)]) (rest := [(.ref b2), (.ref b2)]) rfl (W := 2) rfl (by decide) (by decide) (by decide) (by decide) (k' := 2) (n' := 5) rfl rfl ?_
  rintro ht _ ⟨r, kr, rfl, g0_r, sz_r, Kr, Vr⟩
  have ne_b2_r : b2 ≠ r := Nat.ne_of_lt (Nat.lt_of_lt_of_le Ab2.lt sz_r)
  have sz_r := Nat.le_trans ((Keep.refl h0 []).ext E2).1 sz_r
  show W.Go p l e _ _ m _ below meth c _ _ _ _ _ _ (mkF m 21 #[.val (.int p0)] [(.ref r), (.ref b2), (.ref b2)])
  refine W.iconst C (x := (0 : Int32)) d5_21 rfl rfl ?_
  refine W.callSp C (y := (⟨"java/lang/String", "<init>", "([BB)V"⟩ : MethodName)) (a := b2) rfl (hw _ (List.mem_of_getElem? (i := 39) rfl)) (hw _ (List.mem_of_getElem? (i := 40) rfl)) (hw _ (List.mem_of_getElem? (i := 7) rfl)) (hw _ (List.mem_of_getElem? (i := 41) rfl)) (by decide) (fun hz => rmVi l Z a0 hw [] b2 r kr (1 : Int32) [(.int (nar .byte ((p0).toInt8.toInt32)))] ht n0 hz (Ab2.keep Kr) (Fb2_value.keep Kr nin0) (Fb2_coder.keep Kr nin0) g0_b2 Vr (Ne.symm ne_b2_r)) d5_22 rfl rfl pd_6 rfl (argsL := [(.ref r), (.int (0 : Int32))]) (rest := [(.ref b2)]) rfl (W := 1) rfl (by decide) (by decide) (by decide) (by decide) (k' := 2) (n' := 5) rfl rfl ?_
  rintro h3 _ ⟨rfl, K3, O3⟩
  show W.Go p l e _ _ m _ below meth c _ _ _ _ _ _ (mkF m 25 #[.val (.int p0)] [(.ref b2)])
  refine W.retA C rfl rfl rfl d5_25 (by decide) (by decide) (fun _ _ _ _ q => q) ?_
  exact ⟨b2, r, kr, rfl, g0_b2, sz_b2, ((((Keep.refl h0 []).ext E2).trans Kr all0).trans K3 (allS (Or.inr sz_b2) all0)), ⟨O3.1, O3.2.1, O3.2.2.1, O3.2.2.2⟩⟩
theorem own_lext (vs us : List Value) (n : Nat) (h1 : vs.length = n) (h2 : us.length = n) (h : ∀ j : Nat, j < n → vs.getD j (.int 0) = us.getD j (.int 0)) : vs = us := by
  apply List.ext_getElem (h1.trans h2.symm)
  intro i a b
  have q := h i (by omega)
  simpa [List.getD, a, b] using q
set_option maxRecDepth 65536 in
set_option maxHeartbeats 40000000 in
theorem rmLg (l : Launch) (Z : State) (a0 : Array Value) (hw : ∀ d ∈ tables_1, d.before a0 Z = true) (ws : List Jvm.Cond) (av bv : Addr) (k0 k1 : ClassId) (z0 z1 : Int32) (vs us : List Value) (h0 : Heap) (n0 : Nat) (Z0 : n0 ≤ h0.size) (V0 : Arv Z h0 av k0 .byte z0 vs (.int 0)) (V1 : Arv Z h0 bv k1 .byte z1 us (.int 0)) (zl : vs.length = z0.toInt.toNat) (ul : us.length = z1.toInt.toNat) (q0 : 0 ≤ z0.toInt) (q1 : 0 ≤ z1.toInt) (vi : ∀ i : Nat, ∃ x : Int32, vs.getD i (.int 0) = .int x) (ui : ∀ i : Nat, ∃ x : Int32, us.getD i (.int 0) = .int x) :
    W.Con l Z (⟨"java/lang/StringLatin1", "equals", "([B[B)Z"⟩ : MethodName) jdk_43_method_13_code 3 (some .boolean) ws ({ frames := 0, cells := 0, slots := 0, locals := 0 } : Room) ({ frames := 0, cells := 0, slots := 0, locals := 0 } : Room).cells ({ frames := 0, cells := 0, slots := 0, locals := 0 } : Room).slots #[(.ref av), (.ref bv)] h0 n0 (fun v h => (∃ w : Int32, v = some (.int w) ∧ ((w = 1 ∧ vs = us) ∨ (w = 0 ∧ ¬ vs = us))) ∧ h0 = h) := by
  refine W.enter (plainFor_of_name pn_2) Z0 ?_
  intro p e s m below meth c C hnm hsh
  have C : W.Cx p s m meth c Z n0 "java/lang/StringLatin1" jdk_43_method_13_code 3 (some .boolean) := C
  refine W.Go.castF (ef_15g m av bv) ?_
  refine W.aloadN C d15_0 rfl rfl rfl ?_
  refine W.arraylength C V0 d15_1 rfl ?_
  refine W.aloadN C d15_2 rfl rfl rfl ?_
  refine W.arraylength C V1 d15_3 rfl ?_
  refine W.icmp C (pc' := 34) (pn := 7) d15_4 (by decide) rfl rfl (W.q_ne z0 z1) (fun hc4 => ?_) (fun hc4 => ?_)
  · refine W.iconst C (x := (0 : Int32)) d15_34 rfl rfl ?_
    refine W.retZ C (w := (0 : Int32)) (by simp) d15_35 (by decide) (by decide) (by decide) (fun _ _ _ _ q => q) ?_
    refine ⟨⟨_, rfl, Or.inr ⟨rfl, fun q => hc4 ?_⟩⟩, rfl⟩
    rw [q] at zl
    exact Int32.toInt_inj.mp (by omega)
  · have hzz : z0.toInt = z1.toInt := congrArg Int32.toInt hc4
    refine W.iconst C (x := (0 : Int32)) d15_7 rfl rfl ?_
    refine W.istoreN C (Ls' := #[.val (.ref av), .val (.ref bv), .val (.int (0 : Int32))]) d15_8 rfl rfl ?_
    have J9 : ∀ (nn : Nat) (i : Int32) (hn : i.toInt + nn = z0.toInt) (hi : 0 ≤ i.toInt) (hE : ∀ j : Nat, j < i.toInt.toNat → vs.getD j (.int 0) = us.getD j (.int 0)), W.Go p l e ({ frames := 0, cells := 0, slots := 0, locals := 0 } : Room) s m #[(.ref av), (.ref bv)] below meth c (fun s₂ o L => FrameEnd s o s₂ L ({ frames := 0, cells := 0, slots := 0, locals := 0 } : Room).cells ({ frames := 0, cells := 0, slots := 0, locals := 0 } : Room).slots) n0 (fun v h => (∃ w : Int32, v = some (.int w) ∧ ((w = 1 ∧ vs = us) ∨ (w = 0 ∧ ¬ vs = us))) ∧ h0 = h) h0 (0) (0) (mkF m 9 #[.val (.ref av), .val (.ref bv), .val (.int i)] []) := by
      intro nn
      induction nn with
      | zero => 
        intro i hn hi hE
        have ri := rng32 i
        have rz := rng32 z0
        refine W.iloadN C d15_9 rfl rfl ?_
        refine W.aloadN C d15_10 rfl rfl rfl ?_
        refine W.arraylength C V0 d15_11 rfl ?_
        refine W.icmp C (pc' := 32) (pn := 15) d15_12 (by decide) rfl rfl (W.q_ge i z0) (fun hc12 => ?_) (fun hc12 => ?_)
        rotate_left
        · exfalso
          omega
        refine W.iconst C (x := (1 : Int32)) d15_32 rfl rfl ?_
        refine W.retZ C (w := (1 : Int32)) (by simp) d15_33 (by decide) (by decide) (by decide) (fun _ _ _ _ q => q) ?_
        refine ⟨⟨_, rfl, Or.inl ⟨rfl, ?_⟩⟩, rfl⟩
        exact own_lext vs us z0.toInt.toNat zl (by rw [ul]; omega) (fun j hj => hE j (by omega))
      | succ nn ih => 
        intro i hn hi hE
        have ri := rng32 i
        have rz := rng32 z0
        refine W.iloadN C d15_9 rfl rfl ?_
        refine W.aloadN C d15_10 rfl rfl rfl ?_
        refine W.arraylength C V0 d15_11 rfl ?_
        refine W.icmp C (pc' := 32) (pn := 15) d15_12 (by decide) rfl rfl (W.q_ge i z0) (fun hc12 => ?_) (fun hc12 => ?_)
        · exfalso
          omega
        refine W.aloadN C d15_15 rfl rfl rfl ?_
        refine W.iloadN C d15_16 rfl rfl ?_
        obtain ⟨x, hx⟩ := vi i.toInt.toNat
        refine W.baload C (v := .int x) V0 hi (by omega) hx d15_17 rfl ?_
        refine W.aloadN C d15_18 rfl rfl rfl ?_
        refine W.iloadN C d15_19 rfl rfl ?_
        obtain ⟨y, hy⟩ := ui i.toInt.toNat
        refine W.baload C (v := .int y) V1 hi (by omega) hy d15_20 rfl ?_
        refine W.icmp C (pc' := 26) (pn := 24) d15_21 (by decide) rfl rfl (W.q_eq x y) (fun hc21 => ?_) (fun hc21 => ?_)
        · obtain ⟨v1, hv1⟩ : ∃ z__, z__ = (i + (1 : Int32)) := ⟨_, rfl⟩
          have fv1 := c_iadd i (1 : Int32)
          rw [← hv1] at fv1
          try simp only [Int32.reduceToInt, Int64.reduceToInt, Nat.reducePow, Int.reducePow, Int.cast_ofNat_Int] at fv1
          have rv1 := rng32 v1
          refine W.iinc C (z := v1) (Ls' := #[.val (.ref av), .val (.ref bv), .val (.int v1)]) d15_26 rfl rfl hv1.symm rfl ?_
          refine W.goto C (pc' := 9) d15_29 (by decide) rfl ?_
          exact ih v1 (by omega) (by omega) (fun j hj => by
            by_cases q : j < i.toInt.toNat
            · exact hE j q
            · have e : j = i.toInt.toNat := by omega
              rw [e, hx, hy, hc21])
        · refine W.iconst C (x := (0 : Int32)) d15_24 rfl rfl ?_
          refine W.retZ C (w := (0 : Int32)) (by simp) d15_25 (by decide) (by decide) (by decide) (fun _ _ _ _ q => q) ?_
          refine ⟨⟨_, rfl, Or.inr ⟨rfl, fun q => hc21 ?_⟩⟩, rfl⟩
          rw [q, hy] at hx
          exact (Value.int.inj hx).symm
    exact J9 z0.toInt.toNat 0 (by rw [show (0 : Int32).toInt = 0 from rfl]; omega) (by decide) (fun j hj => absurd hj (by rw [show (0 : Int32).toInt.toNat = 0 from rfl]; omega))
set_option maxRecDepth 65536 in
set_option maxHeartbeats 40000000 in
theorem rmEg (l : Launch) (Z : State) (a0 : Array Value) (hw : ∀ d ∈ tables_1, d.before a0 Z = true) (ws : List Jvm.Cond) (o0 o1 : Addr) (cs : Int32) (av bv : Addr) (k0 k1 : ClassId) (z0 z1 : Int32) (vs us : List Value) (h0 : Heap) (n0 : Nat) (Z0 : n0 ≤ h0.size) (SC : Sta Z h0 "java/lang/String" "COMPACT_STRINGS" "Z" (.int cs)) (hcs : ¬ cs = 0) (O0 : own_Str Z h0 o0 av k0 z0 vs) (O1 : own_Str Z h0 o1 bv k1 z1 us) (zl : vs.length = z0.toInt.toNat) (ul : us.length = z1.toInt.toNat) (q0 : 0 ≤ z0.toInt) (q1 : 0 ≤ z1.toInt) (vi : ∀ i : Nat, ∃ x : Int32, vs.getD i (.int 0) = .int x) (ui : ∀ i : Nat, ∃ x : Int32, us.getD i (.int 0) = .int x) (hs : o0 = o1 → vs = us) :
    W.Con l Z (⟨"java/lang/String", "equals", "(Ljava/lang/Object;)Z"⟩ : MethodName) jdk_42_method_66_code 3 (some .boolean) ws ({ frames := 1, cells := 0, slots := 0, locals := 14 } : Room) ({ frames := 1, cells := 0, slots := 0, locals := 14 } : Room).cells ({ frames := 1, cells := 0, slots := 0, locals := 14 } : Room).slots #[(.ref o0), (.ref o1)] h0 n0 (fun v h => (∃ w : Int32, v = some (.int w) ∧ ((w = 1 ∧ vs = us) ∨ (w = 0 ∧ ¬ vs = us))) ∧ h0 = h) := by
  refine W.enter (plainFor_of_name pn_1) Z0 ?_
  intro p e s m below meth c C hnm hsh
  have C : W.Cx p s m meth c Z n0 "java/lang/String" jdk_42_method_66_code 3 (some .boolean) := C
  refine W.Go.castF (ef_14g m o0 o1) ?_
  have V0 := O0.2.2.2
  have V1 := O1.2.2.2
  refine W.aloadN C d14_0 rfl rfl rfl ?_
  refine W.aloadN C d14_1 rfl rfl rfl ?_
  refine W.acmp C (pc' := 7) (pn := 5) rfl rfl d14_2 (by decide) rfl rfl (W.qa_ne o0 o1) (fun hc2 => ?_) (fun hc2 => ?_)
  · refine W.aloadN C d14_7 rfl rfl rfl ?_
    refine W.instT C (hw _ (List.mem_of_getElem? (i := 35) rfl)) (Ins.self O1.1) d14_8 rfl ?_
    refine W.ifc C (pc' := 54) (pn := 14) d14_11 (by decide) rfl rfl (W.q_eq (1 : Int32) (0 : Int32)) (fun hc11 => ?_) (fun hc11 => ?_)
    · exact absurd hc11 (by decide)
    refine W.aloadN C d14_14 rfl rfl rfl ?_
    refine W.castT C (hw _ (List.mem_of_getElem? (i := 35) rfl)) (Ins.self O1.1) d14_15 rfl ?_
    refine W.astoreN C (Ls' := #[.val (.ref o0), .val (.ref o1), .val (.ref o1)]) d14_18 rfl rfl rfl ?_
    refine W.getstatic C (hw _ (List.mem_of_getElem? (i := 30) rfl)) Via.refl SC d14_19 rfl ?_
    refine W.ifc C (pc' := 36) (pn := 25) d14_22 (by decide) rfl rfl (W.q_eq cs (0 : Int32)) (fun hc22 => ?_) (fun hc22 => ?_)
    · exfalso
      exact hcs hc22
    refine W.aloadN C d14_25 rfl rfl rfl ?_
    refine W.getfield C (hw _ (List.mem_of_getElem? (i := 26) rfl)) Via.refl O0.2.1 d14_26 rfl ?_
    refine W.aloadN C d14_29 rfl rfl rfl ?_
    refine W.getfield C (hw _ (List.mem_of_getElem? (i := 26) rfl)) Via.refl O1.2.1 d14_30 rfl ?_
    refine W.icmp C (pc' := 54) (pn := 36) d14_33 (by decide) rfl rfl (W.q_ne (0 : Int32) (0 : Int32)) (fun hc33 => ?_) (fun hc33 => ?_)
    · exact absurd rfl hc33
    refine W.aloadN C d14_36 rfl rfl rfl ?_
    refine W.getfield C (hw _ (List.mem_of_getElem? (i := 25) rfl)) Via.refl O0.2.2.1 d14_37 rfl ?_
    refine W.aloadN C d14_40 rfl rfl rfl ?_
    refine W.getfield C (hw _ (List.mem_of_getElem? (i := 25) rfl)) Via.refl O1.2.2.1 d14_41 rfl ?_
    refine W.callS C (y := (⟨"java/lang/StringLatin1", "equals", "([B[B)Z"⟩ : MethodName)) (hw _ (List.mem_of_getElem? (i := 90) rfl)) (hw _ (List.mem_of_getElem? (i := 91) rfl)) (hw _ (List.mem_of_getElem? (i := 33) rfl)) (hw _ (List.mem_of_getElem? (i := 92) rfl)) (by decide) (fun hz => rmLg l Z a0 hw [] av bv k0 k1 z0 z1 vs us h0 n0 hz V0 V1 zl ul q0 q1 vi ui) d14_44 rfl rfl pd_7 rfl (argsL := [(.ref av), (.ref bv)]) (rest := []) rfl (W := 0) rfl (by decide) (by decide) (by decide) (by decide) (k' := 0) (n' := 0) rfl rfl ?_
    rintro h1 _ ⟨⟨w, rfl, ⟨rfl, hq⟩ | ⟨rfl, hq⟩⟩, rfl⟩
    · show W.Go p l e _ _ m _ below meth c _ _ _ _ _ _ (mkF m 47 #[.val (.ref o0), .val (.ref o1), .val (.ref o1)] [(.int (1 : Int32))])
      refine W.ifc C (pc' := 54) (pn := 50) d14_47 (by decide) rfl rfl (W.q_eq (1 : Int32) (0 : Int32)) (fun hc47 => ?_) (fun hc47 => ?_)
      · exact absurd hc47 (by decide)
      refine W.iconst C (x := (1 : Int32)) d14_50 rfl rfl ?_
      refine W.goto C (pc' := 55) d14_51 (by decide) rfl ?_
      refine W.retZ C (w := (1 : Int32)) (by simp) d14_55 (by decide) (by decide) (by decide) (fun _ _ _ _ q => q) ?_
      exact ⟨⟨_, rfl, Or.inl ⟨rfl, hq⟩⟩, rfl⟩
    · show W.Go p l e _ _ m _ below meth c _ _ _ _ _ _ (mkF m 47 #[.val (.ref o0), .val (.ref o1), .val (.ref o1)] [(.int (0 : Int32))])
      refine W.ifc C (pc' := 54) (pn := 50) d14_47 (by decide) rfl rfl (W.q_eq (0 : Int32) (0 : Int32)) (fun hc47 => ?_) (fun hc47 => ?_)
      rotate_left
      · exact absurd rfl hc47
      refine W.iconst C (x := (0 : Int32)) d14_54 rfl rfl ?_
      refine W.retZ C (w := (0 : Int32)) (by simp) d14_55 (by decide) (by decide) (by decide) (fun _ _ _ _ q => q) ?_
      exact ⟨⟨_, rfl, Or.inr ⟨rfl, hq⟩⟩, rfl⟩
  · refine W.iconst C (x := (1 : Int32)) d14_5 rfl rfl ?_
    refine W.retZ C (w := (1 : Int32)) (by simp) d14_6 (by decide) (by decide) (by decide) (fun _ _ _ _ q => q) ?_
    exact ⟨⟨_, rfl, Or.inl ⟨rfl, hs hc2⟩⟩, rfl⟩
set_option maxRecDepth 65536 in
set_option maxHeartbeats 40000000 in
theorem rmM (l : Launch) (Z : State) (a0 : Array Value) (hw : ∀ d ∈ tables_1, d.before a0 Z = true) (hEL : EW Z a0 consts_1) (hSA : ∀ a ∈ Bundle.stringAtoms, a.before a0 Z = true) (ws : List Jvm.Cond) (p0 p1 p2 p3 cs : Int32) (h0 : Heap) (n0 : Nat) (Z0 : n0 ≤ h0.size) (SC : Sta Z h0 "java/lang/String" "COMPACT_STRINGS" "Z" (.int cs)) (hcs : ¬ cs = 0) (rn : 0 ≤ p0.toInt ∧ p0.toInt ≤ 3) (r_p1 : 0 ≤ p1.toInt ∧ p1.toInt ≤ 255) (r_p2 : 0 ≤ p2.toInt ∧ p2.toInt ≤ 255) (r_p3 : 0 ≤ p3.toInt ∧ p3.toInt ≤ 255) :
    W.ConL l Z consts_1 (⟨"com/example/termwright/termwright/HeadingHeadsSameDivisionPinLaw", "str", "(ICCC)Ljava/lang/String;"⟩ : MethodName) method_3_code 4 (some (.object "java/lang/String")) ws ({ frames := 4, cells := 6, slots := 12, locals := 66 } : Room) ({ frames := 4, cells := 6, slots := 12, locals := 66 } : Room).cells ({ frames := 4, cells := 6, slots := 12, locals := 66 } : Room).slots #[(.int p0), (.int p1), (.int p2), (.int p3)] h0 n0 [] (fun v h => ∃ (r b : Addr) (kb : ClassId), v = some (.ref r) ∧ n0 ≤ r ∧ h0.size ≤ r ∧ Keep h0 h [] ∧ own_Str Z h r b kb p0 (own_bs p0 p1 p2 p3)) := by
  refine W.enterL (plainFor_of_name pn_3) Z0 hEL hSA ?_
  intro p e s0 m below meth c C hnm hsh LT SF0
  have C : W.Cx p (s0.setVm s0.vm) m meth c Z n0 "com/example/termwright/termwright/HeadingHeadsSameDivisionPinLaw" method_3_code 4 (some (.object "java/lang/String")) := C
  refine W.Go.castF (ef_1 m p0 p1 p2 p3) ?_
  refine W.iloadN C d1_0 rfl rfl ?_
  refine W.ifc C (pc' := 15) (pn := 4) d1_1 (by decide) rfl rfl (W.q_ne p0 (0 : Int32)) (fun hc1 => ?_) (fun hc1 => ?_)
  · refine W.iloadN C d1_15 rfl rfl ?_
    refine W.iconst C (x := (1 : Int32)) d1_16 rfl rfl ?_
    refine W.icmp C (pc' := 35) (pn := 20) d1_17 (by decide) rfl rfl (W.q_ne p0 (1 : Int32)) (fun hc17 => ?_) (fun hc17 => ?_)
    · refine W.iloadN C d1_35 rfl rfl ?_
      refine W.iconst C (x := (2 : Int32)) d1_36 rfl rfl ?_
      refine W.icmp C (pc' := 59) (pn := 40) d1_37 (by decide) rfl rfl (W.q_ne p0 (2 : Int32)) (fun hc37 => ?_) (fun hc37 => ?_)
      · refine W.new C (hw _ (List.mem_of_getElem? (i := 5) rfl)) (hw _ (List.mem_of_getElem? (i := 6) rfl)) (hw _ (List.mem_of_getElem? (i := 7) rfl)) d1_59 rfl (by decide) (by decide) (k' := 1) (n' := 4) rfl rfl ?_
        intro h1 b1 gb1 g0_b1 E1 Ab1 Db1
        have sz_b1 : h0.size ≤ b1 := by rw [gb1]; exact (Keep.refl h0 []).1
        have sn_b1 := LT.sext E1 (Safe.new (Nat.le_of_eq gb1.symm))
        have Fb1_value : Fld Z h1 b1 "java/lang/String" "value" "[B" .null := Db1 (Or.inr (hw _ (List.mem_of_getElem? (i := 21) rfl))) (ty := (.array .byte)) (by decide)
        have Fb1_coder : Fld Z h1 b1 "java/lang/String" "coder" "B" (.int (0 : Int32)) := Db1 (Or.inr (hw _ (List.mem_of_getElem? (i := 22) rfl))) (ty := .byte) (by decide)
        refine W.dup C d1_62 rfl rfl ?_
        refine W.iconst C (x := (3 : Int32)) d1_63 rfl rfl ?_
        refine W.newarray C (cap := 3) (hw _ (List.mem_of_getElem? (i := 8) rfl)) d1_64 rfl (by decide) (by decide) (by decide) (by decide) (by decide) (k' := 2) (n' := 7) rfl rfl ?_
        intro h2 b2 kc_b2 gb2 g0_b2 E2 Vb2
        have sz_b2 : h0.size ≤ b2 := by rw [gb2]; exact ((Keep.refl h0 []).ext E1).1
        have ne_b1_b2 : b1 ≠ b2 := Nat.ne_of_lt (by rw [gb2]; exact Ab1.lt)
        have sn_b2 := (LT.ext E1).sext E2 (Safe.new (Nat.le_of_eq gb2.symm))
        have sx3 := (LT.ext E1).sext E2 sn_b1
        have Vb2 : Arv Z h2 b2 kc_b2 .char (3 : Int32) [(.int (0 : Int32)), (.int (0 : Int32)), (.int (0 : Int32))] (.int (0 : Int32)) := Vb2.pad (pad_rep [] (.int (0 : Int32)) 3)
        refine W.dup C d1_66 rfl rfl ?_
        refine W.iconst C (x := (0 : Int32)) d1_67 rfl rfl ?_
        refine W.iloadN C d1_68 rfl rfl ?_
        refine W.castore C Vb2 (by decide) (by decide) (show 0 < 3 from by decide) g0_b2 d1_69 rfl ?_
        intro h4 W4 V4
        have lw5 := ((LT.ext E1).ext E2).wr W4 sn_b2
        have sw6 := ((LT.ext E1).ext E2).swr W4 sn_b2 sx3
        have sw7 := ((LT.ext E1).ext E2).swr W4 sn_b2 sn_b2
        have V4 : Arv Z h4 b2 kc_b2 .char (3 : Int32) [(.int (nar .char p1)), (.int (0 : Int32)), (.int (0 : Int32))] (.int (0 : Int32)) := V4
        refine W.dup C d1_70 rfl rfl ?_
        refine W.iconst C (x := (1 : Int32)) d1_71 rfl rfl ?_
        refine W.iloadN C d1_72 rfl rfl ?_
        refine W.castore C V4 (by decide) (by decide) (show 1 < 3 from by decide) g0_b2 d1_73 rfl ?_
        intro h8 W8 V8
        have lw9 := lw5.wr W8 sw7
        have sw10 := lw5.swr W8 sw7 sw6
        have sw11 := lw5.swr W8 sw7 sw7
        have V8 : Arv Z h8 b2 kc_b2 .char (3 : Int32) [(.int (nar .char p1)), (.int (nar .char p2)), (.int (0 : Int32))] (.int (0 : Int32)) := V8
        refine W.dup C d1_74 rfl rfl ?_
        refine W.iconst C (x := (2 : Int32)) d1_75 rfl rfl ?_
        refine W.iloadN C d1_76 rfl rfl ?_
        refine W.castore C V8 (by decide) (by decide) (show 2 < 3 from by decide) g0_b2 d1_77 rfl ?_
        intro h12 W12 V12
        have lw13 := lw9.wr W12 sw11
        have sw14 := lw9.swr W12 sw11 sw10
        have sw15 := lw9.swr W12 sw11 sw11
        have V12 : Arv Z h12 b2 kc_b2 .char (3 : Int32) [(.int (nar .char p1)), (.int (nar .char p2)), (.int (nar .char p3))] (.int (0 : Int32)) := V12
        have Vx : Arv Z h12 b2 kc_b2 .char (3 : Int32) [.int p1, .int p2, .int p3] (.int 0) := by
          have q := V12
          rw [own_narc p1 r_p1, own_narc p2 r_p2, own_narc p3 r_p3] at q; exact q
        refine W.callSp C (y := (⟨"java/lang/String", "<init>", "([C)V"⟩ : MethodName)) (a := b1) rfl (hw _ (List.mem_of_getElem? (i := 9) rfl)) (hw _ (List.mem_of_getElem? (i := 10) rfl)) (hw _ (List.mem_of_getElem? (i := 7) rfl)) (hw _ (List.mem_of_getElem? (i := 11) rfl)) (by decide) (fun hz => rmI1_3 l Z a0 hw [] b1 b2 kc_b2 cs p1 p2 p3 h12 n0 hz ((((Ab1.ext E2).wr W4).wr W8).wr W12) ((((Fb1_value.ext E2).other W4 (Or.inl ne_b1_b2)).other W8 (Or.inl ne_b1_b2)).other W12 (Or.inl ne_b1_b2)) ((((Fb1_coder.ext E2).other W4 (Or.inl ne_b1_b2)).other W8 (Or.inl ne_b1_b2)).other W12 (Or.inl ne_b1_b2)) g0_b1 Vx (Ne.symm ne_b1_b2) (((((SC.ext E1).ext E2).wr W4).wr W8).wr W12) hcs r_p1 r_p2 r_p3) d1_78 rfl rfl pd_8 rfl (argsL := [(.ref b2)]) (rest := [(.ref b1)]) rfl (W := 1) rfl (by decide) (by decide) (by decide) (by decide) (k' := 3) (n' := 10) rfl rfl ?_
        rintro h16 _ ⟨rfl, b16, kb16, K16, sz_b16, O16⟩
        have ne_b1_b16 : b1 ≠ b16 := Nat.ne_of_lt (Nat.lt_of_lt_of_le ((((Ab1.ext E2).wr W4).wr W8).wr W12).lt sz_b16)
        have ne_b2_b16 : b2 ≠ b16 := Nat.ne_of_lt (Nat.lt_of_lt_of_le Vx.lt sz_b16)
        have sz_b16 := Nat.le_trans ((((((Keep.refl h0 []).ext E1).ext E2).wr W4 (Or.inr sz_b2)).wr W8 (Or.inr sz_b2)).wr W12 (Or.inr sz_b2)).1 sz_b16
        have lk17 := lw13.keep K16 (allS sw14 all0)
        have sk18 := lw13.skeep K16 (allS sw14 all0) sw14
        have sk19 := lw13.skeep K16 (allS sw14 all0) sw15
        show W.Go p l e _ _ m _ below meth c _ _ _ _ _ _ (mkF m 81 #[.val (.int p0), .val (.int p1), .val (.int p2), .val (.int p3)] [(.ref b1)])
        refine W.retA C rfl rfl rfl d1_81 (by decide) (by decide) (W.Lt.fin lk17) ?_
        have ez : p0 = 3 := (own_n4 p0 rn).elim (fun q => absurd q hc1) (fun q => q.elim (fun q => absurd q hc17) (fun q => q.elim (fun q => absurd q hc37) id))
        exact ⟨b1, b16, kb16, rfl, g0_b1, sz_b1, (((((((Keep.refl h0 []).ext E1).ext E2).wr W4 (Or.inr sz_b2)).wr W8 (Or.inr sz_b2)).wr W12 (Or.inr sz_b2)).trans K16 (allS (Or.inr sz_b1) all0)), by rw [ez, own_bs3]; exact ⟨O16.1, O16.2.1, O16.2.2.1, O16.2.2.2⟩⟩
      · refine W.new C (hw _ (List.mem_of_getElem? (i := 5) rfl)) (hw _ (List.mem_of_getElem? (i := 6) rfl)) (hw _ (List.mem_of_getElem? (i := 7) rfl)) d1_40 rfl (by decide) (by decide) (k' := 1) (n' := 4) rfl rfl ?_
        intro h20 b20 gb20 g0_b20 E20 Ab20 Db20
        have sz_b20 : h0.size ≤ b20 := by rw [gb20]; exact (Keep.refl h0 []).1
        have sn_b20 := LT.sext E20 (Safe.new (Nat.le_of_eq gb20.symm))
        have Fb20_value : Fld Z h20 b20 "java/lang/String" "value" "[B" .null := Db20 (Or.inr (hw _ (List.mem_of_getElem? (i := 21) rfl))) (ty := (.array .byte)) (by decide)
        have Fb20_coder : Fld Z h20 b20 "java/lang/String" "coder" "B" (.int (0 : Int32)) := Db20 (Or.inr (hw _ (List.mem_of_getElem? (i := 22) rfl))) (ty := .byte) (by decide)
        refine W.dup C d1_43 rfl rfl ?_
        refine W.iconst C (x := (2 : Int32)) d1_44 rfl rfl ?_
        refine W.newarray C (cap := 2) (hw _ (List.mem_of_getElem? (i := 8) rfl)) d1_45 rfl (by decide) (by decide) (by decide) (by decide) (by decide) (k' := 2) (n' := 6) rfl rfl ?_
        intro h21 b21 kc_b21 gb21 g0_b21 E21 Vb21
        have sz_b21 : h0.size ≤ b21 := by rw [gb21]; exact ((Keep.refl h0 []).ext E20).1
        have ne_b20_b21 : b20 ≠ b21 := Nat.ne_of_lt (by rw [gb21]; exact Ab20.lt)
        have sn_b21 := (LT.ext E20).sext E21 (Safe.new (Nat.le_of_eq gb21.symm))
        have sx22 := (LT.ext E20).sext E21 sn_b20
        have Vb21 : Arv Z h21 b21 kc_b21 .char (2 : Int32) [(.int (0 : Int32)), (.int (0 : Int32))] (.int (0 : Int32)) := Vb21.pad (pad_rep [] (.int (0 : Int32)) 2)
        refine W.dup C d1_47 rfl rfl ?_
        refine W.iconst C (x := (0 : Int32)) d1_48 rfl rfl ?_
        refine W.iloadN C d1_49 rfl rfl ?_
        refine W.castore C Vb21 (by decide) (by decide) (show 0 < 2 from by decide) g0_b21 d1_50 rfl ?_
        intro h23 W23 V23
        have lw24 := ((LT.ext E20).ext E21).wr W23 sn_b21
        have sw25 := ((LT.ext E20).ext E21).swr W23 sn_b21 sx22
        have sw26 := ((LT.ext E20).ext E21).swr W23 sn_b21 sn_b21
        have V23 : Arv Z h23 b21 kc_b21 .char (2 : Int32) [(.int (nar .char p1)), (.int (0 : Int32))] (.int (0 : Int32)) := V23
        refine W.dup C d1_51 rfl rfl ?_
        refine W.iconst C (x := (1 : Int32)) d1_52 rfl rfl ?_
        refine W.iloadN C d1_53 rfl rfl ?_
        refine W.castore C V23 (by decide) (by decide) (show 1 < 2 from by decide) g0_b21 d1_54 rfl ?_
        intro h27 W27 V27
        have lw28 := lw24.wr W27 sw26
        have sw29 := lw24.swr W27 sw26 sw25
        have sw30 := lw24.swr W27 sw26 sw26
        have V27 : Arv Z h27 b21 kc_b21 .char (2 : Int32) [(.int (nar .char p1)), (.int (nar .char p2))] (.int (0 : Int32)) := V27
        have Vx : Arv Z h27 b21 kc_b21 .char (2 : Int32) [.int p1, .int p2] (.int 0) := by
          have q := V27
          rw [own_narc p1 r_p1, own_narc p2 r_p2] at q; exact q
        refine W.callSp C (y := (⟨"java/lang/String", "<init>", "([C)V"⟩ : MethodName)) (a := b20) rfl (hw _ (List.mem_of_getElem? (i := 9) rfl)) (hw _ (List.mem_of_getElem? (i := 10) rfl)) (hw _ (List.mem_of_getElem? (i := 7) rfl)) (hw _ (List.mem_of_getElem? (i := 11) rfl)) (by decide) (fun hz => rmI1_2 l Z a0 hw [] b20 b21 kc_b21 cs p1 p2 h27 n0 hz (((Ab20.ext E21).wr W23).wr W27) (((Fb20_value.ext E21).other W23 (Or.inl ne_b20_b21)).other W27 (Or.inl ne_b20_b21)) (((Fb20_coder.ext E21).other W23 (Or.inl ne_b20_b21)).other W27 (Or.inl ne_b20_b21)) g0_b20 Vx (Ne.symm ne_b20_b21) ((((SC.ext E20).ext E21).wr W23).wr W27) hcs r_p1 r_p2) d1_55 rfl rfl pd_8 rfl (argsL := [(.ref b21)]) (rest := [(.ref b20)]) rfl (W := 1) rfl (by decide) (by decide) (by decide) (by decide) (k' := 3) (n' := 8) rfl rfl ?_
        rintro h31 _ ⟨rfl, b31, kb31, K31, sz_b31, O31⟩
        have ne_b20_b31 : b20 ≠ b31 := Nat.ne_of_lt (Nat.lt_of_lt_of_le (((Ab20.ext E21).wr W23).wr W27).lt sz_b31)
        have ne_b21_b31 : b21 ≠ b31 := Nat.ne_of_lt (Nat.lt_of_lt_of_le Vx.lt sz_b31)
        have sz_b31 := Nat.le_trans (((((Keep.refl h0 []).ext E20).ext E21).wr W23 (Or.inr sz_b21)).wr W27 (Or.inr sz_b21)).1 sz_b31
        have lk32 := lw28.keep K31 (allS sw29 all0)
        have sk33 := lw28.skeep K31 (allS sw29 all0) sw29
        have sk34 := lw28.skeep K31 (allS sw29 all0) sw30
        show W.Go p l e _ _ m _ below meth c _ _ _ _ _ _ (mkF m 58 #[.val (.int p0), .val (.int p1), .val (.int p2), .val (.int p3)] [(.ref b20)])
        refine W.retA C rfl rfl rfl d1_58 (by decide) (by decide) (W.Lt.fin lk32) ?_
        have ez := hc37
        exact ⟨b20, b31, kb31, rfl, g0_b20, sz_b20, ((((((Keep.refl h0 []).ext E20).ext E21).wr W23 (Or.inr sz_b21)).wr W27 (Or.inr sz_b21)).trans K31 (allS (Or.inr sz_b20) all0)), by rw [ez, own_bs2]; exact ⟨O31.1, O31.2.1, O31.2.2.1, O31.2.2.2⟩⟩
    · refine W.new C (hw _ (List.mem_of_getElem? (i := 5) rfl)) (hw _ (List.mem_of_getElem? (i := 6) rfl)) (hw _ (List.mem_of_getElem? (i := 7) rfl)) d1_20 rfl (by decide) (by decide) (k' := 1) (n' := 4) rfl rfl ?_
      intro h35 b35 gb35 g0_b35 E35 Ab35 Db35
      have sz_b35 : h0.size ≤ b35 := by rw [gb35]; exact (Keep.refl h0 []).1
      have sn_b35 := LT.sext E35 (Safe.new (Nat.le_of_eq gb35.symm))
      have Fb35_value : Fld Z h35 b35 "java/lang/String" "value" "[B" .null := Db35 (Or.inr (hw _ (List.mem_of_getElem? (i := 21) rfl))) (ty := (.array .byte)) (by decide)
      have Fb35_coder : Fld Z h35 b35 "java/lang/String" "coder" "B" (.int (0 : Int32)) := Db35 (Or.inr (hw _ (List.mem_of_getElem? (i := 22) rfl))) (ty := .byte) (by decide)
      refine W.dup C d1_23 rfl rfl ?_
      refine W.iconst C (x := (1 : Int32)) d1_24 rfl rfl ?_
      refine W.newarray C (cap := 1) (hw _ (List.mem_of_getElem? (i := 8) rfl)) d1_25 rfl (by decide) (by decide) (by decide) (by decide) (by decide) (k' := 2) (n' := 5) rfl rfl ?_
      intro h36 b36 kc_b36 gb36 g0_b36 E36 Vb36
      have sz_b36 : h0.size ≤ b36 := by rw [gb36]; exact ((Keep.refl h0 []).ext E35).1
      have ne_b35_b36 : b35 ≠ b36 := Nat.ne_of_lt (by rw [gb36]; exact Ab35.lt)
      have sn_b36 := (LT.ext E35).sext E36 (Safe.new (Nat.le_of_eq gb36.symm))
      have sx37 := (LT.ext E35).sext E36 sn_b35
      have Vb36 : Arv Z h36 b36 kc_b36 .char (1 : Int32) [(.int (0 : Int32))] (.int (0 : Int32)) := Vb36.pad (pad_rep [] (.int (0 : Int32)) 1)
      refine W.dup C d1_27 rfl rfl ?_
      refine W.iconst C (x := (0 : Int32)) d1_28 rfl rfl ?_
      refine W.iloadN C d1_29 rfl rfl ?_
      refine W.castore C Vb36 (by decide) (by decide) (show 0 < 1 from by decide) g0_b36 d1_30 rfl ?_
      intro h38 W38 V38
      have lw39 := ((LT.ext E35).ext E36).wr W38 sn_b36
      have sw40 := ((LT.ext E35).ext E36).swr W38 sn_b36 sx37
      have sw41 := ((LT.ext E35).ext E36).swr W38 sn_b36 sn_b36
      have V38 : Arv Z h38 b36 kc_b36 .char (1 : Int32) [(.int (nar .char p1))] (.int (0 : Int32)) := V38
      have Vx : Arv Z h38 b36 kc_b36 .char (1 : Int32) [.int p1] (.int 0) := by
        have q := V38
        rw [own_narc p1 r_p1] at q; exact q
      refine W.callSp C (y := (⟨"java/lang/String", "<init>", "([C)V"⟩ : MethodName)) (a := b35) rfl (hw _ (List.mem_of_getElem? (i := 9) rfl)) (hw _ (List.mem_of_getElem? (i := 10) rfl)) (hw _ (List.mem_of_getElem? (i := 7) rfl)) (hw _ (List.mem_of_getElem? (i := 11) rfl)) (by decide) (fun hz => rmI1_1 l Z a0 hw [] b35 b36 kc_b36 cs p1 h38 n0 hz ((Ab35.ext E36).wr W38) ((Fb35_value.ext E36).other W38 (Or.inl ne_b35_b36)) ((Fb35_coder.ext E36).other W38 (Or.inl ne_b35_b36)) g0_b35 Vx (Ne.symm ne_b35_b36) (((SC.ext E35).ext E36).wr W38) hcs r_p1) d1_31 rfl rfl pd_8 rfl (argsL := [(.ref b36)]) (rest := [(.ref b35)]) rfl (W := 1) rfl (by decide) (by decide) (by decide) (by decide) (k' := 3) (n' := 6) rfl rfl ?_
      rintro h42 _ ⟨rfl, b42, kb42, K42, sz_b42, O42⟩
      have ne_b35_b42 : b35 ≠ b42 := Nat.ne_of_lt (Nat.lt_of_lt_of_le ((Ab35.ext E36).wr W38).lt sz_b42)
      have ne_b36_b42 : b36 ≠ b42 := Nat.ne_of_lt (Nat.lt_of_lt_of_le Vx.lt sz_b42)
      have sz_b42 := Nat.le_trans ((((Keep.refl h0 []).ext E35).ext E36).wr W38 (Or.inr sz_b36)).1 sz_b42
      have lk43 := lw39.keep K42 (allS sw40 all0)
      have sk44 := lw39.skeep K42 (allS sw40 all0) sw40
      have sk45 := lw39.skeep K42 (allS sw40 all0) sw41
      show W.Go p l e _ _ m _ below meth c _ _ _ _ _ _ (mkF m 34 #[.val (.int p0), .val (.int p1), .val (.int p2), .val (.int p3)] [(.ref b35)])
      refine W.retA C rfl rfl rfl d1_34 (by decide) (by decide) (W.Lt.fin lk43) ?_
      have ez := hc17
      exact ⟨b35, b42, kb42, rfl, g0_b35, sz_b35, (((((Keep.refl h0 []).ext E35).ext E36).wr W38 (Or.inr sz_b36)).trans K42 (allS (Or.inr sz_b35) all0)), by rw [ez, own_bs1]; exact ⟨O42.1, O42.2.1, O42.2.2.1, O42.2.2.2⟩⟩
  · refine W.new C (hw _ (List.mem_of_getElem? (i := 5) rfl)) (hw _ (List.mem_of_getElem? (i := 6) rfl)) (hw _ (List.mem_of_getElem? (i := 7) rfl)) d1_4 rfl (by decide) (by decide) (k' := 1) (n' := 4) rfl rfl ?_
    intro h46 b46 gb46 g0_b46 E46 Ab46 Db46
    have sz_b46 : h0.size ≤ b46 := by rw [gb46]; exact (Keep.refl h0 []).1
    have sn_b46 := LT.sext E46 (Safe.new (Nat.le_of_eq gb46.symm))
    have Fb46_value : Fld Z h46 b46 "java/lang/String" "value" "[B" .null := Db46 (Or.inr (hw _ (List.mem_of_getElem? (i := 21) rfl))) (ty := (.array .byte)) (by decide)
    have Fb46_coder : Fld Z h46 b46 "java/lang/String" "coder" "B" (.int (0 : Int32)) := Db46 (Or.inr (hw _ (List.mem_of_getElem? (i := 22) rfl))) (ty := .byte) (by decide)
    refine W.dup C d1_7 rfl rfl ?_
    refine W.iconst C (x := (0 : Int32)) d1_8 rfl rfl ?_
    refine W.newarray C (cap := 0) (hw _ (List.mem_of_getElem? (i := 8) rfl)) d1_9 rfl (by decide) (by decide) (by decide) (by decide) (by decide) (k' := 2) (n' := 4) rfl rfl ?_
    intro h47 b47 kc_b47 gb47 g0_b47 E47 Vb47
    have sz_b47 : h0.size ≤ b47 := by rw [gb47]; exact ((Keep.refl h0 []).ext E46).1
    have ne_b46_b47 : b46 ≠ b47 := Nat.ne_of_lt (by rw [gb47]; exact Ab46.lt)
    have sn_b47 := (LT.ext E46).sext E47 (Safe.new (Nat.le_of_eq gb47.symm))
    have sx48 := (LT.ext E46).sext E47 sn_b46
    have Vb47 : Arv Z h47 b47 kc_b47 .char (0 : Int32) [] (.int (0 : Int32)) := Vb47.pad (pad_rep [] (.int (0 : Int32)) 0)
    refine W.callSpL C (y := (⟨"java/lang/String", "<init>", "([C)V"⟩ : MethodName)) (b := b46) ((LT.ext E46).ext E47) rfl (hw _ (List.mem_of_getElem? (i := 9) rfl)) (hw _ (List.mem_of_getElem? (i := 10) rfl)) (hw _ (List.mem_of_getElem? (i := 7) rfl)) (hw _ (List.mem_of_getElem? (i := 11) rfl)) (by decide) (fun hz => rmI1_0 l Z a0 hw hEL hSA [] b46 b47 kc_b47 h47 n0 hz (Ab46.ext E47) (Fb46_value.ext E47) (Fb46_coder.ext E47) g0_b46 Vb47) (fun x hx => by simp only [List.mem_cons, List.not_mem_nil, or_false] at hx; rcases hx with rfl; exact ⟨(Ab46.ext E47).lt, sx48⟩) d1_11 rfl rfl pd_8 rfl (argsL := [(.ref b47)]) (rest := [(.ref b46)]) rfl (W := 1) rfl (by decide) (by decide) (by decide) (by decide) (k' := 6) (n' := 12) rfl rfl ?_
    rintro vm49 k49 h49 _ C LT49 SF49 ⟨rfl, b49, kb49, K49, O49⟩
    have sc49_b46 := SF49 b46 (Ab46.ext E47).lt sx48
    have sc49_b47 := SF49 b47 Vb47.lt sn_b47
    show W.Go p l e _ _ m _ below meth c _ _ _ _ _ _ (mkF m 14 #[.val (.int p0), .val (.int p1), .val (.int p2), .val (.int p3)] [(.ref b46)])
    refine W.retA C rfl rfl rfl d1_14 (by decide) (by decide) (W.Lt.fin LT49) ?_
    have ez := hc1
    exact ⟨b46, b49, kb49, rfl, g0_b46, sz_b46, ((((Keep.refl h0 []).ext E46).ext E47).trans K49 (allS (Or.inr sz_b46) all0)), by rw [ez, own_bs0]; exact ⟨O49.1, O49.2.1, O49.2.2.1, O49.2.2.2⟩⟩
set_option maxRecDepth 65536 in
set_option maxHeartbeats 40000000 in
theorem rmK (l : Launch) (Z : State) (a0 : Array Value) (hw : ∀ d ∈ tables_1, d.before a0 Z = true) (ws : List Jvm.Cond) (p0 : Int32) (k0 k1 k2 k3 k4 k5 : Addr) (h0 : Heap) (n0 : Nat) (Z0 : n0 ≤ h0.size) (T0 : Sta Z h0 "com/example/termwright/termwright/OutlineNode$Kind" "ARTICLE" "Lcom/example/termwright/termwright/OutlineNode$Kind;" (.ref k0)) (T1 : Sta Z h0 "com/example/termwright/termwright/OutlineNode$Kind" "SECTION" "Lcom/example/termwright/termwright/OutlineNode$Kind;" (.ref k1)) (T2 : Sta Z h0 "com/example/termwright/termwright/OutlineNode$Kind" "PARAGRAPH" "Lcom/example/termwright/termwright/OutlineNode$Kind;" (.ref k2)) (T3 : Sta Z h0 "com/example/termwright/termwright/OutlineNode$Kind" "ITEM" "Lcom/example/termwright/termwright/OutlineNode$Kind;" (.ref k3)) (T4 : Sta Z h0 "com/example/termwright/termwright/OutlineNode$Kind" "APPENDIX" "Lcom/example/termwright/termwright/OutlineNode$Kind;" (.ref k4)) (T5 : Sta Z h0 "com/example/termwright/termwright/OutlineNode$Kind" "SCHEDULE" "Lcom/example/termwright/termwright/OutlineNode$Kind;" (.ref k5)) :
    W.Con l Z (⟨"com/example/termwright/termwright/HeadingHeadsSameDivisionPinLaw", "kind", "(I)Lcom/example/termwright/termwright/OutlineNode$Kind;"⟩ : MethodName) method_2_code 1 (some (.object "com/example/termwright/termwright/OutlineNode$Kind")) ws ({ frames := 0, cells := 0, slots := 0, locals := 0 } : Room) ({ frames := 0, cells := 0, slots := 0, locals := 0 } : Room).cells ({ frames := 0, cells := 0, slots := 0, locals := 0 } : Room).slots #[(.int p0)] h0 n0 (fun v h => v = some (.ref (own_kind p0 k0 k1 k2 k3 k4 k5)) ∧ h0 = h) := by
  refine W.enter (plainFor_of_name pn_3) Z0 ?_
  intro p e s m below meth c C hnm hsh
  have C : W.Cx p s m meth c Z n0 "com/example/termwright/termwright/HeadingHeadsSameDivisionPinLaw" method_2_code 1 (some (.object "com/example/termwright/termwright/OutlineNode$Kind")) := C
  refine W.Go.castF (ef_9 m p0) ?_
  refine W.iloadN C d9_0 rfl rfl ?_
  refine W.ifc C (pc' := 8) (pn := 4) d9_1 (by decide) rfl rfl (W.q_ne p0 (0 : Int32)) (fun hc1 => ?_) (fun hc1 => ?_)
  · refine W.iloadN C d9_8 rfl rfl ?_
    refine W.iconst C (x := (1 : Int32)) d9_9 rfl rfl ?_
    refine W.icmp C (pc' := 17) (pn := 13) d9_10 (by decide) rfl rfl (W.q_ne p0 (1 : Int32)) (fun hc10 => ?_) (fun hc10 => ?_)
    · refine W.iloadN C d9_17 rfl rfl ?_
      refine W.iconst C (x := (2 : Int32)) d9_18 rfl rfl ?_
      refine W.icmp C (pc' := 26) (pn := 22) d9_19 (by decide) rfl rfl (W.q_ne p0 (2 : Int32)) (fun hc19 => ?_) (fun hc19 => ?_)
      · refine W.iloadN C d9_26 rfl rfl ?_
        refine W.iconst C (x := (3 : Int32)) d9_27 rfl rfl ?_
        refine W.icmp C (pc' := 35) (pn := 31) d9_28 (by decide) rfl rfl (W.q_ne p0 (3 : Int32)) (fun hc28 => ?_) (fun hc28 => ?_)
        · refine W.iloadN C d9_35 rfl rfl ?_
          refine W.iconst C (x := (4 : Int32)) d9_36 rfl rfl ?_
          refine W.icmp C (pc' := 44) (pn := 40) d9_37 (by decide) rfl rfl (W.q_ne p0 (4 : Int32)) (fun hc37 => ?_) (fun hc37 => ?_)
          · refine W.getstatic C (hw _ (List.mem_of_getElem? (i := 112) rfl)) Via.refl T5 d9_44 rfl ?_
            refine W.retA C rfl rfl rfl d9_47 (by decide) (by decide) (fun _ _ _ _ q => q) ?_
            have ek : own_kind p0 k0 k1 k2 k3 k4 k5 = k5 := by
              unfold own_kind
              rw [if_neg hc1, if_neg hc10, if_neg hc19, if_neg hc28, if_neg hc37]
            exact ⟨by rw [ek], rfl⟩
          · refine W.getstatic C (hw _ (List.mem_of_getElem? (i := 93) rfl)) Via.refl T4 d9_40 rfl ?_
            refine W.retA C rfl rfl rfl d9_43 (by decide) (by decide) (fun _ _ _ _ q => q) ?_
            have ek : own_kind p0 k0 k1 k2 k3 k4 k5 = k4 := by
              unfold own_kind
              rw [if_neg hc1, if_neg hc10, if_neg hc19, if_neg hc28, if_pos hc37]
            exact ⟨by rw [ek], rfl⟩
        · refine W.getstatic C (hw _ (List.mem_of_getElem? (i := 95) rfl)) Via.refl T3 d9_31 rfl ?_
          refine W.retA C rfl rfl rfl d9_34 (by decide) (by decide) (fun _ _ _ _ q => q) ?_
          have ek : own_kind p0 k0 k1 k2 k3 k4 k5 = k3 := by
            unfold own_kind
            rw [if_neg hc1, if_neg hc10, if_neg hc19, if_pos hc28]
          exact ⟨by rw [ek], rfl⟩
      · refine W.getstatic C (hw _ (List.mem_of_getElem? (i := 109) rfl)) Via.refl T2 d9_22 rfl ?_
        refine W.retA C rfl rfl rfl d9_25 (by decide) (by decide) (fun _ _ _ _ q => q) ?_
        have ek : own_kind p0 k0 k1 k2 k3 k4 k5 = k2 := by
          unfold own_kind
          rw [if_neg hc1, if_neg hc10, if_pos hc19]
        exact ⟨by rw [ek], rfl⟩
    · refine W.getstatic C (hw _ (List.mem_of_getElem? (i := 107) rfl)) Via.refl T1 d9_13 rfl ?_
      refine W.retA C rfl rfl rfl d9_16 (by decide) (by decide) (fun _ _ _ _ q => q) ?_
      have ek : own_kind p0 k0 k1 k2 k3 k4 k5 = k1 := by
        unfold own_kind
        rw [if_neg hc1, if_pos hc10]
      exact ⟨by rw [ek], rfl⟩
  · refine W.getstatic C (hw _ (List.mem_of_getElem? (i := 49) rfl)) Via.refl T0 d9_4 rfl ?_
    refine W.retA C rfl rfl rfl d9_7 (by decide) (by decide) (fun _ _ _ _ q => q) ?_
    have ek : own_kind p0 k0 k1 k2 k3 k4 k5 = k0 := by
      unfold own_kind
      rw [if_pos hc1]
    exact ⟨by rw [ek], rfl⟩
set_option maxRecDepth 65536 in
set_option maxHeartbeats 40000000 in
theorem rm11 (l : Launch) (Z : State) (a0 : Array Value) (hw : ∀ d ∈ tables_1, d.before a0 Z = true) (ws : List Jvm.Cond) (o0 : Addr) (h0 : Heap) (n0 : Nat) (Z0 : n0 ≤ h0.size) :
    W.Con l Z (⟨"java/lang/Record", "<init>", "()V"⟩ : MethodName) jdk_30_method_1_code 1 none ws ({ frames := 1, cells := 0, slots := 0, locals := 12 } : Room) ({ frames := 1, cells := 0, slots := 0, locals := 12 } : Room).cells ({ frames := 1, cells := 0, slots := 0, locals := 12 } : Room).slots #[(.ref o0)] h0 n0 (fun v h => v = none ∧ h0 = h) := by
  refine W.enter (plainFor_of_name pn_4) Z0 ?_
  intro p e s m below meth c C hnm hsh
  have C : W.Cx p s m meth c Z n0 "java/lang/Record" jdk_30_method_1_code 1 none := C
  refine W.Go.castF (ef_11 m o0) ?_
  refine W.aloadN C d11_0 rfl rfl rfl ?_
  refine W.initObj C (hw _ (List.mem_of_getElem? (i := 63) rfl)) (hw _ (List.mem_of_getElem? (i := 17) rfl)) (hw _ (List.mem_of_getElem? (i := 18) rfl)) d11_1 rfl rfl (by decide) rfl (by decide) ?_
  refine W.ret0 C d11_4 (by decide) (by decide) (fun _ _ _ _ q => q) ?_
  exact ⟨rfl, rfl⟩
set_option maxRecDepth 65536 in
set_option maxHeartbeats 40000000 in
theorem rm10 (l : Launch) (Z : State) (a0 : Array Value) (hw : ∀ d ∈ tables_1, d.before a0 Z = true) (ws : List Jvm.Cond) (o0 : Addr) (p1 : Int32) (p2 : Int32) (h0 : Heap) (n0 : Nat) (Z0 : n0 ≤ h0.size) (O0 : own_Sp Z h0 o0 (0 : Int32) (0 : Int32)) (g0_o0 : n0 ≤ o0) :
    W.Con l Z (⟨"com/example/termwright/termwright/Document$Span", "<init>", "(II)V"⟩ : MethodName) prog_20_method_1_code 3 none ws ({ frames := 2, cells := 0, slots := 0, locals := 24 } : Room) ({ frames := 2, cells := 0, slots := 0, locals := 24 } : Room).cells ({ frames := 2, cells := 0, slots := 0, locals := 24 } : Room).slots #[(.ref o0), (.int p1), (.int p2)] h0 n0 (fun v h => v = none ∧ Keep h0 h [o0] ∧ own_Sp Z h o0 p1 p2) := by
  refine W.enter (plainFor_of_name pn_5) Z0 ?_
  intro p e s m below meth c C hnm hsh
  have C : W.Cx p s m meth c Z n0 "com/example/termwright/termwright/Document$Span" prog_20_method_1_code 3 none := C
  refine W.Go.castF (ef_10 m o0 p1 p2) ?_
  refine W.aloadN C d10_0 rfl rfl rfl ?_
  refine W.callSp C (y := (⟨"java/lang/Record", "<init>", "()V"⟩ : MethodName)) (a := o0) rfl (hw _ (List.mem_of_getElem? (i := 58) rfl)) (hw _ (List.mem_of_getElem? (i := 59) rfl)) (hw _ (List.mem_of_getElem? (i := 61) rfl)) (hw _ (List.mem_of_getElem? (i := 62) rfl)) (by decide) (fun hz => rm11 l Z a0 hw [] o0 h0 n0 hz) d10_1 rfl rfl pd_9 rfl (argsL := []) (rest := []) rfl (W := 0) rfl (by decide) (by decide) (by decide) (by decide) (k' := 0) (n' := 0) rfl rfl ?_
  rintro h1 _ ⟨rfl, rfl⟩
  show W.Go p l e _ _ m _ below meth c _ _ _ _ _ _ (mkF m 4 #[.val (.ref o0), .val (.int p1), .val (.int p2)] [])
  refine W.aloadN C d10_4 rfl rfl rfl ?_
  refine W.iloadN C d10_5 rfl rfl ?_
  refine W.putfield C (hw _ (List.mem_of_getElem? (i := 64) rfl)) Via.refl O0.2.1 O0.1 (Or.inr ⟨(hw _ (List.mem_of_getElem? (i := 65) rfl)), rfl, hnm⟩) (hw _ (List.mem_of_getElem? (i := 53) rfl)) (ty := .int) (by decide) rfl rfl d10_6 rfl g0_o0 ?_
  intro h2 W2
  refine W.aloadN C d10_9 rfl rfl rfl ?_
  refine W.iloadN C d10_10 rfl rfl ?_
  refine W.putfield C (hw _ (List.mem_of_getElem? (i := 66) rfl)) Via.refl (O0.2.2.other W2 (Or.inr (slot_ne (Or.inr (hw _ (List.mem_of_getElem? (i := 67) rfl))) (Or.inr (hw _ (List.mem_of_getElem? (i := 65) rfl))) (by decide) (t := .int) (t' := .int) (by decide) (by decide)))) (O0.1.wr W2) (Or.inr ⟨(hw _ (List.mem_of_getElem? (i := 67) rfl)), rfl, hnm⟩) (hw _ (List.mem_of_getElem? (i := 53) rfl)) (ty := .int) (by decide) rfl rfl d10_11 rfl g0_o0 ?_
  intro h3 W3
  refine W.ret0 C d10_14 (by decide) (by decide) (fun _ _ _ _ q => q) ?_
  exact ⟨rfl, (((Keep.refl h0 [o0]).wr W2 (Or.inl (List.mem_of_getElem? (i := 0) rfl))).wr W3 (Or.inl (List.mem_of_getElem? (i := 0) rfl))), ⟨((O0.1.wr W2).wr W3), ((O0.2.1.same W2).other W3 (Or.inr (slot_ne (Or.inr (hw _ (List.mem_of_getElem? (i := 65) rfl))) (Or.inr (hw _ (List.mem_of_getElem? (i := 67) rfl))) (by decide) (t := .int) (t' := .int) (by decide) (by decide)))), ((O0.2.2.other W2 (Or.inr (slot_ne (Or.inr (hw _ (List.mem_of_getElem? (i := 67) rfl))) (Or.inr (hw _ (List.mem_of_getElem? (i := 65) rfl))) (by decide) (t := .int) (t' := .int) (by decide) (by decide)))).same W3)⟩⟩
set_option maxRecDepth 65536 in
set_option maxHeartbeats 40000000 in
theorem rm12 (l : Launch) (Z : State) (a0 : Array Value) (hw : ∀ d ∈ tables_1, d.before a0 Z = true) (ws : List Jvm.Cond) (o0 : Addr) (o1 : Addr) (o2 : Addr) (o3 : Addr) (o4 : Addr) (h0 : Heap) (n0 : Nat) (Z0 : n0 ≤ h0.size) (O0 : own_Hd Z h0 o0 .null .null .null .null) (g0_o0 : n0 ≤ o0) :
    W.Con l Z (⟨"com/example/termwright/termwright/Heading", "<init>", "(Lcom/example/termwright/termwright/OutlineNode$Kind;Ljava/lang/String;Ljava/lang/String;Lcom/example/termwright/termwright/Document$Span;)V"⟩ : MethodName) prog_32_method_1_code 5 none ws ({ frames := 2, cells := 0, slots := 0, locals := 24 } : Room) ({ frames := 2, cells := 0, slots := 0, locals := 24 } : Room).cells ({ frames := 2, cells := 0, slots := 0, locals := 24 } : Room).slots #[(.ref o0), (.ref o1), (.ref o2), (.ref o3), (.ref o4)] h0 n0 (fun v h => v = none ∧ Keep h0 h [o0] ∧ own_Hd Z h o0 (.ref o1) (.ref o2) (.ref o3) (.ref o4)) := by
  refine W.enter (plainFor_of_name pn_6) Z0 ?_
  intro p e s m below meth c C hnm hsh
  have C : W.Cx p s m meth c Z n0 "com/example/termwright/termwright/Heading" prog_32_method_1_code 5 none := C
  refine W.Go.castF (ef_12 m o0 o1 o2 o3 o4) ?_
  refine W.aloadN C d12_0 rfl rfl rfl ?_
  refine W.callSp C (y := (⟨"java/lang/Record", "<init>", "()V"⟩ : MethodName)) (a := o0) rfl (hw _ (List.mem_of_getElem? (i := 71) rfl)) (hw _ (List.mem_of_getElem? (i := 59) rfl)) (hw _ (List.mem_of_getElem? (i := 61) rfl)) (hw _ (List.mem_of_getElem? (i := 62) rfl)) (by decide) (fun hz => rm11 l Z a0 hw [] o0 h0 n0 hz) d12_1 rfl rfl pd_9 rfl (argsL := []) (rest := []) rfl (W := 0) rfl (by decide) (by decide) (by decide) (by decide) (k' := 0) (n' := 0) rfl rfl ?_
  rintro h1 _ ⟨rfl, rfl⟩
  show W.Go p l e _ _ m _ below meth c _ _ _ _ _ _ (mkF m 4 #[.val (.ref o0), .val (.ref o1), .val (.ref o2), .val (.ref o3), .val (.ref o4)] [])
  refine W.aloadN C d12_4 rfl rfl rfl ?_
  refine W.aloadN C d12_5 rfl rfl rfl ?_
  refine W.putfield C (hw _ (List.mem_of_getElem? (i := 72) rfl)) Via.refl O0.2.1 O0.1 (Or.inr ⟨(hw _ (List.mem_of_getElem? (i := 73) rfl)), rfl, hnm⟩) (hw _ (List.mem_of_getElem? (i := 44) rfl)) (ty := (.object "com/example/termwright/termwright/OutlineNode$Kind")) (by decide) rfl rfl d12_6 rfl g0_o0 ?_
  intro h2 W2
  refine W.aloadN C d12_9 rfl rfl rfl ?_
  refine W.aloadN C d12_10 rfl rfl rfl ?_
  refine W.putfield C (hw _ (List.mem_of_getElem? (i := 74) rfl)) Via.refl (O0.2.2.1.other W2 (Or.inr (slot_ne (Or.inr (hw _ (List.mem_of_getElem? (i := 75) rfl))) (Or.inr (hw _ (List.mem_of_getElem? (i := 73) rfl))) (by decide) (t := (.object "java/lang/String")) (t' := (.object "com/example/termwright/termwright/OutlineNode$Kind")) (by decide) (by decide)))) (O0.1.wr W2) (Or.inr ⟨(hw _ (List.mem_of_getElem? (i := 75) rfl)), rfl, hnm⟩) (hw _ (List.mem_of_getElem? (i := 44) rfl)) (ty := (.object "java/lang/String")) (by decide) rfl rfl d12_11 rfl g0_o0 ?_
  intro h3 W3
  refine W.aloadN C d12_14 rfl rfl rfl ?_
  refine W.aloadN C d12_15 rfl rfl rfl ?_
  refine W.putfield C (hw _ (List.mem_of_getElem? (i := 76) rfl)) Via.refl ((O0.2.2.2.1.other W2 (Or.inr (slot_ne (Or.inr (hw _ (List.mem_of_getElem? (i := 77) rfl))) (Or.inr (hw _ (List.mem_of_getElem? (i := 73) rfl))) (by decide) (t := (.object "java/lang/String")) (t' := (.object "com/example/termwright/termwright/OutlineNode$Kind")) (by decide) (by decide)))).other W3 (Or.inr (slot_ne (Or.inr (hw _ (List.mem_of_getElem? (i := 77) rfl))) (Or.inr (hw _ (List.mem_of_getElem? (i := 75) rfl))) (by decide) (t := (.object "java/lang/String")) (t' := (.object "java/lang/String")) (by decide) (by decide)))) ((O0.1.wr W2).wr W3) (Or.inr ⟨(hw _ (List.mem_of_getElem? (i := 77) rfl)), rfl, hnm⟩) (hw _ (List.mem_of_getElem? (i := 44) rfl)) (ty := (.object "java/lang/String")) (by decide) rfl rfl d12_16 rfl g0_o0 ?_
  intro h4 W4
  refine W.aloadN C d12_19 rfl rfl rfl ?_
  refine W.aload C d12_20 rfl rfl rfl ?_
  refine W.putfield C (hw _ (List.mem_of_getElem? (i := 78) rfl)) Via.refl (((O0.2.2.2.2.other W2 (Or.inr (slot_ne (Or.inr (hw _ (List.mem_of_getElem? (i := 79) rfl))) (Or.inr (hw _ (List.mem_of_getElem? (i := 73) rfl))) (by decide) (t := (.object "com/example/termwright/termwright/Document$Span")) (t' := (.object "com/example/termwright/termwright/OutlineNode$Kind")) (by decide) (by decide)))).other W3 (Or.inr (slot_ne (Or.inr (hw _ (List.mem_of_getElem? (i := 79) rfl))) (Or.inr (hw _ (List.mem_of_getElem? (i := 75) rfl))) (by decide) (t := (.object "com/example/termwright/termwright/Document$Span")) (t' := (.object "java/lang/String")) (by decide) (by decide)))).other W4 (Or.inr (slot_ne (Or.inr (hw _ (List.mem_of_getElem? (i := 79) rfl))) (Or.inr (hw _ (List.mem_of_getElem? (i := 77) rfl))) (by decide) (t := (.object "com/example/termwright/termwright/Document$Span")) (t' := (.object "java/lang/String")) (by decide) (by decide)))) (((O0.1.wr W2).wr W3).wr W4) (Or.inr ⟨(hw _ (List.mem_of_getElem? (i := 79) rfl)), rfl, hnm⟩) (hw _ (List.mem_of_getElem? (i := 44) rfl)) (ty := (.object "com/example/termwright/termwright/Document$Span")) (by decide) rfl rfl d12_22 rfl g0_o0 ?_
  intro h5 W5
  refine W.ret0 C d12_25 (by decide) (by decide) (fun _ _ _ _ q => q) ?_
  exact ⟨rfl, (((((Keep.refl h0 [o0]).wr W2 (Or.inl (List.mem_of_getElem? (i := 0) rfl))).wr W3 (Or.inl (List.mem_of_getElem? (i := 0) rfl))).wr W4 (Or.inl (List.mem_of_getElem? (i := 0) rfl))).wr W5 (Or.inl (List.mem_of_getElem? (i := 0) rfl))), ⟨((((O0.1.wr W2).wr W3).wr W4).wr W5), ((((O0.2.1.same W2).other W3 (Or.inr (slot_ne (Or.inr (hw _ (List.mem_of_getElem? (i := 73) rfl))) (Or.inr (hw _ (List.mem_of_getElem? (i := 75) rfl))) (by decide) (t := (.object "com/example/termwright/termwright/OutlineNode$Kind")) (t' := (.object "java/lang/String")) (by decide) (by decide)))).other W4 (Or.inr (slot_ne (Or.inr (hw _ (List.mem_of_getElem? (i := 73) rfl))) (Or.inr (hw _ (List.mem_of_getElem? (i := 77) rfl))) (by decide) (t := (.object "com/example/termwright/termwright/OutlineNode$Kind")) (t' := (.object "java/lang/String")) (by decide) (by decide)))).other W5 (Or.inr (slot_ne (Or.inr (hw _ (List.mem_of_getElem? (i := 73) rfl))) (Or.inr (hw _ (List.mem_of_getElem? (i := 79) rfl))) (by decide) (t := (.object "com/example/termwright/termwright/OutlineNode$Kind")) (t' := (.object "com/example/termwright/termwright/Document$Span")) (by decide) (by decide)))), ((((O0.2.2.1.other W2 (Or.inr (slot_ne (Or.inr (hw _ (List.mem_of_getElem? (i := 75) rfl))) (Or.inr (hw _ (List.mem_of_getElem? (i := 73) rfl))) (by decide) (t := (.object "java/lang/String")) (t' := (.object "com/example/termwright/termwright/OutlineNode$Kind")) (by decide) (by decide)))).same W3).other W4 (Or.inr (slot_ne (Or.inr (hw _ (List.mem_of_getElem? (i := 75) rfl))) (Or.inr (hw _ (List.mem_of_getElem? (i := 77) rfl))) (by decide) (t := (.object "java/lang/String")) (t' := (.object "java/lang/String")) (by decide) (by decide)))).other W5 (Or.inr (slot_ne (Or.inr (hw _ (List.mem_of_getElem? (i := 75) rfl))) (Or.inr (hw _ (List.mem_of_getElem? (i := 79) rfl))) (by decide) (t := (.object "java/lang/String")) (t' := (.object "com/example/termwright/termwright/Document$Span")) (by decide) (by decide)))), ((((O0.2.2.2.1.other W2 (Or.inr (slot_ne (Or.inr (hw _ (List.mem_of_getElem? (i := 77) rfl))) (Or.inr (hw _ (List.mem_of_getElem? (i := 73) rfl))) (by decide) (t := (.object "java/lang/String")) (t' := (.object "com/example/termwright/termwright/OutlineNode$Kind")) (by decide) (by decide)))).other W3 (Or.inr (slot_ne (Or.inr (hw _ (List.mem_of_getElem? (i := 77) rfl))) (Or.inr (hw _ (List.mem_of_getElem? (i := 75) rfl))) (by decide) (t := (.object "java/lang/String")) (t' := (.object "java/lang/String")) (by decide) (by decide)))).same W4).other W5 (Or.inr (slot_ne (Or.inr (hw _ (List.mem_of_getElem? (i := 77) rfl))) (Or.inr (hw _ (List.mem_of_getElem? (i := 79) rfl))) (by decide) (t := (.object "java/lang/String")) (t' := (.object "com/example/termwright/termwright/Document$Span")) (by decide) (by decide)))), ((((O0.2.2.2.2.other W2 (Or.inr (slot_ne (Or.inr (hw _ (List.mem_of_getElem? (i := 79) rfl))) (Or.inr (hw _ (List.mem_of_getElem? (i := 73) rfl))) (by decide) (t := (.object "com/example/termwright/termwright/Document$Span")) (t' := (.object "com/example/termwright/termwright/OutlineNode$Kind")) (by decide) (by decide)))).other W3 (Or.inr (slot_ne (Or.inr (hw _ (List.mem_of_getElem? (i := 79) rfl))) (Or.inr (hw _ (List.mem_of_getElem? (i := 75) rfl))) (by decide) (t := (.object "com/example/termwright/termwright/Document$Span")) (t' := (.object "java/lang/String")) (by decide) (by decide)))).other W4 (Or.inr (slot_ne (Or.inr (hw _ (List.mem_of_getElem? (i := 79) rfl))) (Or.inr (hw _ (List.mem_of_getElem? (i := 77) rfl))) (by decide) (t := (.object "com/example/termwright/termwright/Document$Span")) (t' := (.object "java/lang/String")) (by decide) (by decide)))).same W5)⟩⟩
set_option maxRecDepth 65536 in
set_option maxHeartbeats 40000000 in
theorem rmHs (l : Launch) (Z : State) (a0 : Array Value) (hw : ∀ d ∈ tables_1, d.before a0 Z = true) (ws : List Jvm.Cond) (o0 o1 ka kb s0 s1 t0 t1 n1 n2 v0 v1 : Addr) (k0 k1 : ClassId) (z0 z1 cs : Int32) (vs us : List Value) (h0 : Heap) (n0 : Nat) (Z0 : n0 ≤ h0.size) (SC : Sta Z h0 "java/lang/String" "COMPACT_STRINGS" "Z" (.int cs)) (hcs : ¬ cs = 0) (O0 : own_Hd Z h0 o0 (.ref ka) (.ref s0) (.ref t0) (.ref n1)) (O1 : own_Hd Z h0 o1 (.ref kb) (.ref s1) (.ref t1) (.ref n2)) (S0 : own_Str Z h0 s0 v0 k0 z0 vs) (S1 : own_Str Z h0 s1 v1 k1 z1 us) (zl : vs.length = z0.toInt.toNat) (ul : us.length = z1.toInt.toNat) (q0 : 0 ≤ z0.toInt) (q1 : 0 ≤ z1.toInt) (vi : ∀ i : Nat, ∃ x : Int32, vs.getD i (.int 0) = .int x) (ui : ∀ i : Nat, ∃ x : Int32, us.getD i (.int 0) = .int x) (hs : s0 = s1 → vs = us) :
    W.Con l Z (⟨"com/example/termwright/termwright/Heading", "headsSameDivision", "(Lcom/example/termwright/termwright/Heading;)Z"⟩ : MethodName) prog_32_method_7_code 2 (some .boolean) ws ({ frames := 2, cells := 0, slots := 0, locals := 28 } : Room) ({ frames := 2, cells := 0, slots := 0, locals := 28 } : Room).cells ({ frames := 2, cells := 0, slots := 0, locals := 28 } : Room).slots #[(.ref o0), (.ref o1)] h0 n0 (fun v h => (∃ w : Int32, v = some (.int w) ∧ ((w = 1 ∧ (ka = kb ∧ vs = us)) ∨ (w = 0 ∧ ¬ (ka = kb ∧ vs = us)))) ∧ h0 = h) := by
  refine W.enter (plainFor_of_name pn_6) Z0 ?_
  intro p e s m below meth c C hnm hsh
  have C : W.Cx p s m meth c Z n0 "com/example/termwright/termwright/Heading" prog_32_method_7_code 2 (some .boolean) := C
  refine W.Go.castF (ef_13 m o0 o1) ?_
  refine W.aloadN C d13_0 rfl rfl rfl ?_
  refine W.getfield C (hw _ (List.mem_of_getElem? (i := 72) rfl)) Via.refl O0.2.1 d13_1 rfl ?_
  refine W.aloadN C d13_4 rfl rfl rfl ?_
  refine W.getfield C (hw _ (List.mem_of_getElem? (i := 72) rfl)) Via.refl O1.2.1 d13_5 rfl ?_
  refine W.acmp C (pc' := 29) (pn := 11) rfl rfl d13_8 (by decide) rfl rfl (W.qa_ne ka kb) (fun hc8 => ?_) (fun hc8 => ?_)
  · refine W.iconst C (x := (0 : Int32)) d13_29 rfl rfl ?_
    refine W.retZ C (w := (0 : Int32)) (by simp) d13_30 (by decide) (by decide) (by decide) (fun _ _ _ _ q => q) ?_
    exact ⟨⟨_, rfl, Or.inr ⟨rfl, fun q => hc8 q.1⟩⟩, rfl⟩
  · refine W.aloadN C d13_11 rfl rfl rfl ?_
    refine W.getfield C (hw _ (List.mem_of_getElem? (i := 74) rfl)) Via.refl O0.2.2.1 d13_12 rfl ?_
    refine W.aloadN C d13_15 rfl rfl rfl ?_
    refine W.getfield C (hw _ (List.mem_of_getElem? (i := 74) rfl)) Via.refl O1.2.2.1 d13_16 rfl ?_
    refine W.callV C (y := (⟨"java/lang/String", "equals", "(Ljava/lang/Object;)Z"⟩ : MethodName)) (a := s0) (hw _ (List.mem_of_getElem? (i := 85) rfl)) (hw _ (List.mem_of_getElem? (i := 86) rfl)) (W.nf_sel C (hw _ (List.mem_of_getElem? (i := 88) rfl))) (hw _ (List.mem_of_getElem? (i := 88) rfl)) (hw _ (List.mem_of_getElem? (i := 87) rfl)) (hw _ (List.mem_of_getElem? (i := 7) rfl)) (hw _ (List.mem_of_getElem? (i := 89) rfl)) (by decide) S0.1 (fun hz => rmEg l Z a0 hw [] s0 s1 cs v0 v1 k0 k1 z0 z1 vs us h0 n0 hz SC hcs S0 S1 zl ul q0 q1 vi ui hs) d13_19 rfl rfl pd_10 rfl (argsL := [(.ref s1)]) (rest := []) rfl (W := 0) rfl (by decide) (by decide) (by decide) (by decide) (k' := 0) (n' := 0) rfl rfl ?_
    rintro h1 _ ⟨⟨w, rfl, ⟨rfl, hq⟩ | ⟨rfl, hq⟩⟩, rfl⟩
    · show W.Go p l e _ _ m _ below meth c _ _ _ _ _ _ (mkF m 22 #[.val (.ref o0), .val (.ref o1)] [(.int (1 : Int32))])
      refine W.ifc C (pc' := 29) (pn := 25) d13_22 (by decide) rfl rfl (W.q_eq (1 : Int32) (0 : Int32)) (fun hc22 => ?_) (fun hc22 => ?_)
      · exact absurd hc22 (by decide)
      refine W.iconst C (x := (1 : Int32)) d13_25 rfl rfl ?_
      refine W.goto C (pc' := 30) d13_26 (by decide) rfl ?_
      refine W.retZ C (w := (1 : Int32)) (by simp) d13_30 (by decide) (by decide) (by decide) (fun _ _ _ _ q => q) ?_
      exact ⟨⟨_, rfl, Or.inl ⟨rfl, hc8, hq⟩⟩, rfl⟩
    · show W.Go p l e _ _ m _ below meth c _ _ _ _ _ _ (mkF m 22 #[.val (.ref o0), .val (.ref o1)] [(.int (0 : Int32))])
      refine W.ifc C (pc' := 29) (pn := 25) d13_22 (by decide) rfl rfl (W.q_eq (0 : Int32) (0 : Int32)) (fun hc22 => ?_) (fun hc22 => ?_)
      rotate_left
      · exact absurd rfl hc22
      refine W.iconst C (x := (0 : Int32)) d13_29 rfl rfl ?_
      refine W.retZ C (w := (0 : Int32)) (by simp) d13_30 (by decide) (by decide) (by decide) (fun _ _ _ _ q => q) ?_
      exact ⟨⟨_, rfl, Or.inr ⟨rfl, fun q => hq q.2⟩⟩, rfl⟩
set_option maxRecDepth 65536 in
set_option maxHeartbeats 40000000 in
theorem rm0 (l : Launch) (Z : State) (a0 : Array Value) (hw : ∀ d ∈ tables_1, d.before a0 Z = true) (hEL : EW Z a0 consts_1) (hSA : ∀ a ∈ Bundle.stringAtoms, a.before a0 Z = true) (ws : List Jvm.Cond) (p0 p1 p2 p3 p4 p5 : Int32) (cs : Int32) (k0 k1 k2 k3 k4 k5 : Addr) (h0 : Heap) (n0 : Nat) (Z0 : n0 ≤ h0.size) (SC : Sta Z Z.heap "java/lang/String" "COMPACT_STRINGS" "Z" (.int cs)) (hcs : ¬ cs = 0) (OO : Old Z n0 h0) (T0 : Sta Z Z.heap "com/example/termwright/termwright/OutlineNode$Kind" "ARTICLE" "Lcom/example/termwright/termwright/OutlineNode$Kind;" (.ref k0)) (G0 : Fld Z Z.heap k0 "java/lang/Enum" "ordinal" "I" (.int 0)) (T1 : Sta Z Z.heap "com/example/termwright/termwright/OutlineNode$Kind" "SECTION" "Lcom/example/termwright/termwright/OutlineNode$Kind;" (.ref k1)) (G1 : Fld Z Z.heap k1 "java/lang/Enum" "ordinal" "I" (.int 1)) (T2 : Sta Z Z.heap "com/example/termwright/termwright/OutlineNode$Kind" "PARAGRAPH" "Lcom/example/termwright/termwright/OutlineNode$Kind;" (.ref k2)) (G2 : Fld Z Z.heap k2 "java/lang/Enum" "ordinal" "I" (.int 2)) (T3 : Sta Z Z.heap "com/example/termwright/termwright/OutlineNode$Kind" "ITEM" "Lcom/example/termwright/termwright/OutlineNode$Kind;" (.ref k3)) (G3 : Fld Z Z.heap k3 "java/lang/Enum" "ordinal" "I" (.int 3)) (T4 : Sta Z Z.heap "com/example/termwright/termwright/OutlineNode$Kind" "APPENDIX" "Lcom/example/termwright/termwright/OutlineNode$Kind;" (.ref k4)) (G4 : Fld Z Z.heap k4 "java/lang/Enum" "ordinal" "I" (.int 4)) (T5 : Sta Z Z.heap "com/example/termwright/termwright/OutlineNode$Kind" "SCHEDULE" "Lcom/example/termwright/termwright/OutlineNode$Kind;" (.ref k5)) (G5 : Fld Z Z.heap k5 "java/lang/Enum" "ordinal" "I" (.int 5)) :
    W.ConL l Z consts_1 x code maxLocals ret ws room_1 40 2240 #[(.int p0), (.int p1), (.int p2), (.int p3), (.int p4), (.int p5)] h0 n0 [] (fun v _ => v = some (.int 1)) := by
  refine W.enterL (plainFor_of_name pn_3) Z0 hEL hSA ?_
  intro p e s0 m below meth c C hnm hsh LT SF0
  have C : W.Cx p (s0.setVm s0.vm) m meth c Z n0 "com/example/termwright/termwright/HeadingHeadsSameDivisionPinLaw" code 24 (some .boolean) := C
  refine W.Go.castF (ef_0 m p0 p1 p2 p3 p4 p5) ?_
  refine W.iloadN C at_0 rfl rfl ?_
  refine W.ldcI C (hw _ (List.mem_of_getElem? (i := 0) rfl)) at_1 rfl ?_
  obtain ⟨v1, hv1⟩ : ∃ z__, z__ = (p0 &&& (2147483647 : Int32)) := ⟨_, rfl⟩
  have fv1 := c_mask p0 (2147483647 : Int32) 31 (by decide) (by decide)
  rw [← hv1] at fv1
  try simp only [Int32.reduceToInt, Int64.reduceToInt, Nat.reducePow, Int.reducePow, Int.cast_ofNat_Int] at fv1
  have rv1 := rng32 v1
  refine W.iand C at_3 rfl hv1.symm ?_
  refine W.bipush C (x := (6 : Int32)) at_4 rfl rfl ?_
  obtain ⟨v2, hv2⟩ : ∃ z__, z__ = (v1 % (6 : Int32)) := ⟨_, rfl⟩
  have fv2 := c_irem v1 (6 : Int32) 6 rfl
  rw [← hv2] at fv2
  try simp only [Int32.reduceToInt, Int64.reduceToInt, Nat.reducePow, Int.reducePow, Int.cast_ofNat_Int] at fv2
  have rv2 := rng32 v2
  refine W.irem C at_6 rfl (by decide) hv2.symm ?_
  refine W.istore C (Ls' := #[.val (.int p0), .val (.int p1), .val (.int p2), .val (.int p3), .val (.int p4), .val (.int p5), .val (.int v2), .unset, .unset, .unset, .unset, .unset, .unset, .unset, .unset, .unset, .unset, .unset, .unset, .unset, .unset, .unset, .unset, .unset]) at_7 rfl rfl ?_
  have r_v2 : 0 ≤ v2.toInt ∧ v2.toInt ≤ 5 := by omega
  have J32 : ∀ (kb : Int32) (r_kb : 0 ≤ kb.toInt ∧ kb.toInt ≤ 5), W.Go p l e room_1 (s0.setVm s0.vm) m #[(.int p0), (.int p1), (.int p2), (.int p3), (.int p4), (.int p5)] below meth c (fun s₂ o L => CHr Z consts_1 s0.vm s0.heap s₂.vm s₂.heap ∧ ReturnedEndW s0 o s₂ L 40 2240) n0 (fun v _ => v = some (.int 1)) h0 (0) (0) (mkF m 32 #[.val (.int p0), .val (.int p1), .val (.int p2), .val (.int p3), .val (.int p4), .val (.int p5), .val (.int v2), .val (.int kb), .unset, .unset, .unset, .unset, .unset, .unset, .unset, .unset, .unset, .unset, .unset, .unset, .unset, .unset, .unset, .unset] []) := by
    intro kb r_kb
    refine W.iloadN C at_32 rfl rfl ?_
    refine W.sipush C (x := (255 : Int32)) at_33 rfl rfl ?_
    obtain ⟨v3, hv3⟩ : ∃ z__, z__ = (p1 &&& (255 : Int32)) := ⟨_, rfl⟩
    have fv3 := c_mask p1 (255 : Int32) 8 (by decide) (by decide)
    rw [← hv3] at fv3
    try simp only [Int32.reduceToInt, Int64.reduceToInt, Nat.reducePow, Int.reducePow, Int.cast_ofNat_Int] at fv3
    have rv3 := rng32 v3
    refine W.iand C at_36 rfl hv3.symm ?_
    obtain ⟨v4, hv4⟩ : ∃ z__, z__ = ((v3).toUInt32.toUInt16.toUInt32.toInt32) := ⟨_, rfl⟩
    have fv4 := c_i2c v3
    rw [← hv4] at fv4
    try simp only [Int32.reduceToInt, Int64.reduceToInt, Nat.reducePow, Int.reducePow, Int.cast_ofNat_Int] at fv4
    have rv4 := rng32 v4
    refine W.i2c C at_37 rfl hv4.symm ?_
    refine W.istore C (Ls' := #[.val (.int p0), .val (.int p1), .val (.int p2), .val (.int p3), .val (.int p4), .val (.int p5), .val (.int v2), .val (.int kb), .val (.int v4), .unset, .unset, .unset, .unset, .unset, .unset, .unset, .unset, .unset, .unset, .unset, .unset, .unset, .unset, .unset]) at_38 rfl rfl ?_
    refine W.iloadN C at_40 rfl rfl ?_
    refine W.bipush C (x := (8 : Int32)) at_41 rfl rfl ?_
    obtain ⟨v5, hv5⟩ : ∃ z__, z__ = (((p1).toUInt32 >>> ((8 : Int32) &&& 31).toUInt32).toInt32) := ⟨_, rfl⟩
    have fv5 := c_iushr p1 (8 : Int32) 8 rfl (by decide)
    rw [← hv5] at fv5
    try simp only [Int32.reduceToInt, Int64.reduceToInt, Nat.reducePow, Int.reducePow, Int.cast_ofNat_Int] at fv5
    have rv5 := rng32 v5
    refine W.iushr C at_43 rfl hv5.symm ?_
    refine W.sipush C (x := (255 : Int32)) at_44 rfl rfl ?_
    obtain ⟨v6, hv6⟩ : ∃ z__, z__ = (v5 &&& (255 : Int32)) := ⟨_, rfl⟩
    have fv6 := c_mask v5 (255 : Int32) 8 (by decide) (by decide)
    rw [← hv6] at fv6
    try simp only [Int32.reduceToInt, Int64.reduceToInt, Nat.reducePow, Int.reducePow, Int.cast_ofNat_Int] at fv6
    have rv6 := rng32 v6
    refine W.iand C at_47 rfl hv6.symm ?_
    obtain ⟨v7, hv7⟩ : ∃ z__, z__ = ((v6).toUInt32.toUInt16.toUInt32.toInt32) := ⟨_, rfl⟩
    have fv7 := c_i2c v6
    rw [← hv7] at fv7
    try simp only [Int32.reduceToInt, Int64.reduceToInt, Nat.reducePow, Int.reducePow, Int.cast_ofNat_Int] at fv7
    have rv7 := rng32 v7
    refine W.i2c C at_48 rfl hv7.symm ?_
    refine W.istore C (Ls' := #[.val (.int p0), .val (.int p1), .val (.int p2), .val (.int p3), .val (.int p4), .val (.int p5), .val (.int v2), .val (.int kb), .val (.int v4), .val (.int v7), .unset, .unset, .unset, .unset, .unset, .unset, .unset, .unset, .unset, .unset, .unset, .unset, .unset, .unset]) at_49 rfl rfl ?_
    refine W.iloadN C at_51 rfl rfl ?_
    refine W.bipush C (x := (16 : Int32)) at_52 rfl rfl ?_
    obtain ⟨v8, hv8⟩ : ∃ z__, z__ = (((p1).toUInt32 >>> ((16 : Int32) &&& 31).toUInt32).toInt32) := ⟨_, rfl⟩
    have fv8 := c_iushr p1 (16 : Int32) 16 rfl (by decide)
    rw [← hv8] at fv8
    try simp only [Int32.reduceToInt, Int64.reduceToInt, Nat.reducePow, Int.reducePow, Int.cast_ofNat_Int] at fv8
    have rv8 := rng32 v8
    refine W.iushr C at_54 rfl hv8.symm ?_
    refine W.sipush C (x := (255 : Int32)) at_55 rfl rfl ?_
    obtain ⟨v9, hv9⟩ : ∃ z__, z__ = (v8 &&& (255 : Int32)) := ⟨_, rfl⟩
    have fv9 := c_mask v8 (255 : Int32) 8 (by decide) (by decide)
    rw [← hv9] at fv9
    try simp only [Int32.reduceToInt, Int64.reduceToInt, Nat.reducePow, Int.reducePow, Int.cast_ofNat_Int] at fv9
    have rv9 := rng32 v9
    refine W.iand C at_58 rfl hv9.symm ?_
    obtain ⟨v10, hv10⟩ : ∃ z__, z__ = ((v9).toUInt32.toUInt16.toUInt32.toInt32) := ⟨_, rfl⟩
    have fv10 := c_i2c v9
    rw [← hv10] at fv10
    try simp only [Int32.reduceToInt, Int64.reduceToInt, Nat.reducePow, Int.reducePow, Int.cast_ofNat_Int] at fv10
    have rv10 := rng32 v10
    refine W.i2c C at_59 rfl hv10.symm ?_
    refine W.istore C (Ls' := #[.val (.int p0), .val (.int p1), .val (.int p2), .val (.int p3), .val (.int p4), .val (.int p5), .val (.int v2), .val (.int kb), .val (.int v4), .val (.int v7), .val (.int v10), .unset, .unset, .unset, .unset, .unset, .unset, .unset, .unset, .unset, .unset, .unset, .unset, .unset]) at_60 rfl rfl ?_
    refine W.iloadN C at_62 rfl rfl ?_
    refine W.bipush C (x := (24 : Int32)) at_63 rfl rfl ?_
    obtain ⟨v11, hv11⟩ : ∃ z__, z__ = (((p1).toUInt32 >>> ((24 : Int32) &&& 31).toUInt32).toInt32) := ⟨_, rfl⟩
    have fv11 := c_iushr p1 (24 : Int32) 24 rfl (by decide)
    rw [← hv11] at fv11
    try simp only [Int32.reduceToInt, Int64.reduceToInt, Nat.reducePow, Int.reducePow, Int.cast_ofNat_Int] at fv11
    have rv11 := rng32 v11
    refine W.iushr C at_65 rfl hv11.symm ?_
    refine W.iconst C (x := (3 : Int32)) at_66 rfl rfl ?_
    obtain ⟨v12, hv12⟩ : ∃ z__, z__ = (v11 &&& (3 : Int32)) := ⟨_, rfl⟩
    have fv12 := c_mask v11 (3 : Int32) 2 (by decide) (by decide)
    rw [← hv12] at fv12
    try simp only [Int32.reduceToInt, Int64.reduceToInt, Nat.reducePow, Int.reducePow, Int.cast_ofNat_Int] at fv12
    have rv12 := rng32 v12
    refine W.iand C at_67 rfl hv12.symm ?_
    refine W.istore C (Ls' := #[.val (.int p0), .val (.int p1), .val (.int p2), .val (.int p3), .val (.int p4), .val (.int p5), .val (.int v2), .val (.int kb), .val (.int v4), .val (.int v7), .val (.int v10), .val (.int v12), .unset, .unset, .unset, .unset, .unset, .unset, .unset, .unset, .unset, .unset, .unset, .unset]) at_68 rfl rfl ?_
    have r_v4 : 0 ≤ v4.toInt ∧ v4.toInt ≤ 255 := by omega
    have r_v7 : 0 ≤ v7.toInt ∧ v7.toInt ≤ 255 := by omega
    have r_v10 : 0 ≤ v10.toInt ∧ v10.toInt ≤ 255 := by omega
    have r_v12 : 0 ≤ v12.toInt ∧ v12.toInt ≤ 3 := by omega
    have J83 : ∀ (kf : Int32), W.Go p l e room_1 (s0.setVm s0.vm) m #[(.int p0), (.int p1), (.int p2), (.int p3), (.int p4), (.int p5)] below meth c (fun s₂ o L => CHr Z consts_1 s0.vm s0.heap s₂.vm s₂.heap ∧ ReturnedEndW s0 o s₂ L 40 2240) n0 (fun v _ => v = some (.int 1)) h0 (0) (0) (mkF m 83 #[.val (.int p0), .val (.int p1), .val (.int p2), .val (.int p3), .val (.int p4), .val (.int p5), .val (.int v2), .val (.int kb), .val (.int v4), .val (.int v7), .val (.int v10), .val (.int v12), .val (.int kf), .unset, .unset, .unset, .unset, .unset, .unset, .unset, .unset, .unset, .unset, .unset] []) := by
      intro kf
      have J195 : ∀ (b0 : Int32) (r_b0 : 0 ≤ b0.toInt ∧ b0.toInt ≤ 255) (b1 : Int32) (r_b1 : 0 ≤ b1.toInt ∧ b1.toInt ≤ 255) (b2 : Int32) (r_b2 : 0 ≤ b2.toInt ∧ b2.toInt ≤ 255) (lb : Int32) (r_lb : 0 ≤ lb.toInt ∧ lb.toInt ≤ 3), W.Go p l e room_1 (s0.setVm s0.vm) m #[(.int p0), (.int p1), (.int p2), (.int p3), (.int p4), (.int p5)] below meth c (fun s₂ o L => CHr Z consts_1 s0.vm s0.heap s₂.vm s₂.heap ∧ ReturnedEndW s0 o s₂ L 40 2240) n0 (fun v _ => v = some (.int 1)) h0 (0) (0) (mkF m 195 #[.val (.int p0), .val (.int p1), .val (.int p2), .val (.int p3), .val (.int p4), .val (.int p5), .val (.int v2), .val (.int kb), .val (.int v4), .val (.int v7), .val (.int v10), .val (.int v12), .val (.int kf), .val (.int b0), .val (.int b1), .val (.int b2), .val (.int lb), .unset, .unset, .unset, .unset, .unset, .unset, .unset] []) := by
        intro b0 r_b0 b1 r_b1 b2 r_b2 lb r_lb
        refine W.iload C at_195 rfl rfl ?_
        refine W.iload C at_197 rfl rfl ?_
        refine W.iload C at_199 rfl rfl ?_
        refine W.iload C at_201 rfl rfl ?_
        refine W.callSL C (y := (⟨"com/example/termwright/termwright/HeadingHeadsSameDivisionPinLaw", "str", "(ICCC)Ljava/lang/String;"⟩ : MethodName)) LT (hw _ (List.mem_of_getElem? (i := 1) rfl)) (hw _ (List.mem_of_getElem? (i := 2) rfl)) (hw _ (List.mem_of_getElem? (i := 3) rfl)) (hw _ (List.mem_of_getElem? (i := 4) rfl)) (by decide) (fun hz => rmM l Z a0 hw hEL hSA [] v12 v4 v7 v10 cs h0 n0 hz (SC.ext OO.2) hcs r_v12 r_v4 r_v7 r_v10) (fun x hx => absurd hx List.not_mem_nil) at_203 rfl rfl pd_11 rfl (argsL := [(.int v12), (.int v4), (.int v7), (.int v10)]) (rest := []) rfl (W := 0) rfl (by decide) (by decide) (by decide) (by decide) (k' := 6) (n' := 12) rfl rfl ?_
        rintro vm13 k13 h13 _ C LT13 SF13 ⟨r13, b13, kb13, rfl, g0_r13, sz_r13, K13, O13⟩
        show W.Go p l e _ _ m _ below meth c _ _ _ _ _ _ (mkF m 206 #[.val (.int p0), .val (.int p1), .val (.int p2), .val (.int p3), .val (.int p4), .val (.int p5), .val (.int v2), .val (.int kb), .val (.int v4), .val (.int v7), .val (.int v10), .val (.int v12), .val (.int kf), .val (.int b0), .val (.int b1), .val (.int b2), .val (.int lb), .unset, .unset, .unset, .unset, .unset, .unset, .unset] [(.ref r13)])
        refine W.astore C (Ls' := #[.val (.int p0), .val (.int p1), .val (.int p2), .val (.int p3), .val (.int p4), .val (.int p5), .val (.int v2), .val (.int kb), .val (.int v4), .val (.int v7), .val (.int v10), .val (.int v12), .val (.int kf), .val (.int b0), .val (.int b1), .val (.int b2), .val (.int lb), .val (.ref r13), .unset, .unset, .unset, .unset, .unset, .unset]) at_206 rfl rfl rfl ?_
        refine W.iload C at_208 rfl rfl ?_
        refine W.iload C at_210 rfl rfl ?_
        refine W.iload C at_212 rfl rfl ?_
        refine W.iload C at_214 rfl rfl ?_
        refine W.callSL C (y := (⟨"com/example/termwright/termwright/HeadingHeadsSameDivisionPinLaw", "str", "(ICCC)Ljava/lang/String;"⟩ : MethodName)) LT13 (hw _ (List.mem_of_getElem? (i := 1) rfl)) (hw _ (List.mem_of_getElem? (i := 2) rfl)) (hw _ (List.mem_of_getElem? (i := 3) rfl)) (hw _ (List.mem_of_getElem? (i := 4) rfl)) (by decide) (fun hz => rmM l Z a0 hw hEL hSA [] lb b0 b1 b2 cs h13 n0 hz (SC.ext (OO.keep K13 all0).2) hcs r_lb r_b0 r_b1 r_b2) (fun x hx => absurd hx List.not_mem_nil) at_216 rfl rfl pd_11 rfl (argsL := [(.int lb), (.int b0), (.int b1), (.int b2)]) (rest := []) rfl (W := 0) rfl (by decide) (by decide) (by decide) (by decide) (k' := 12) (n' := 24) rfl rfl ?_
        rintro vm14 k14 h14 _ C LT14 SF14 ⟨r14, b14, kb14, rfl, g0_r14, sz_r14, K14, O14⟩
        have ne_r13_r14 : r13 ≠ r14 := Nat.ne_of_lt (Nat.lt_of_lt_of_le O13.1.lt sz_r14)
        have ne_b13_r14 : b13 ≠ r14 := Nat.ne_of_lt (Nat.lt_of_lt_of_le O13.2.2.2.lt sz_r14)
        show W.Go p l e _ _ m _ below meth c _ _ _ _ _ _ (mkF m 219 #[.val (.int p0), .val (.int p1), .val (.int p2), .val (.int p3), .val (.int p4), .val (.int p5), .val (.int v2), .val (.int kb), .val (.int v4), .val (.int v7), .val (.int v10), .val (.int v12), .val (.int kf), .val (.int b0), .val (.int b1), .val (.int b2), .val (.int lb), .val (.ref r13), .unset, .unset, .unset, .unset, .unset, .unset] [(.ref r14)])
        refine W.astore C (Ls' := #[.val (.int p0), .val (.int p1), .val (.int p2), .val (.int p3), .val (.int p4), .val (.int p5), .val (.int v2), .val (.int kb), .val (.int v4), .val (.int v7), .val (.int v10), .val (.int v12), .val (.int kf), .val (.int b0), .val (.int b1), .val (.int b2), .val (.int lb), .val (.ref r13), .val (.ref r14), .unset, .unset, .unset, .unset, .unset]) at_219 rfl rfl rfl ?_
        refine W.iloadN C at_221 rfl rfl ?_
        refine W.sipush C (x := (256 : Int32)) at_222 rfl rfl ?_
        refine W.iand C (z := (p3 &&& (256 : Int32))) at_225 rfl rfl ?_
        refine W.ifc C (pc' := 234) (pn := 229) at_226 (by decide) rfl rfl (W.q_eq (p3 &&& (256 : Int32)) (0 : Int32)) (fun hc226 => ?_) (fun hc226 => ?_)
        · refine W.iloadN C at_234 rfl rfl ?_
          refine W.sipush C (x := (255 : Int32)) at_235 rfl rfl ?_
          obtain ⟨v15, hv15⟩ : ∃ z__, z__ = (p3 &&& (255 : Int32)) := ⟨_, rfl⟩
          have fv15 := c_mask p3 (255 : Int32) 8 (by decide) (by decide)
          rw [← hv15] at fv15
          try simp only [Int32.reduceToInt, Int64.reduceToInt, Nat.reducePow, Int.reducePow, Int.cast_ofNat_Int] at fv15
          have rv15 := rng32 v15
          refine W.iand C at_238 rfl hv15.symm ?_
          obtain ⟨v16, hv16⟩ : ∃ z__, z__ = ((v15).toUInt32.toUInt16.toUInt32.toInt32) := ⟨_, rfl⟩
          have fv16 := c_i2c v15
          rw [← hv16] at fv16
          try simp only [Int32.reduceToInt, Int64.reduceToInt, Nat.reducePow, Int.reducePow, Int.cast_ofNat_Int] at fv16
          have rv16 := rng32 v16
          refine W.i2c C at_239 rfl hv16.symm ?_
          have r_v16 : 0 ≤ v16.toInt ∧ v16.toInt ≤ 255 := by omega
          refine W.callS C (y := (⟨"java/lang/String", "valueOf", "(C)Ljava/lang/String;"⟩ : MethodName)) (hw _ (List.mem_of_getElem? (i := 27) rfl)) (hw _ (List.mem_of_getElem? (i := 28) rfl)) (hw _ (List.mem_of_getElem? (i := 7) rfl)) (hw _ (List.mem_of_getElem? (i := 29) rfl)) (by decide) (fun hz => rmVo l Z a0 hw [] v16 cs h14 n0 hz (SC.ext ((OO.keep K13 all0).keep K14 all0).2) hcs r_v16) at_240 rfl rfl pd_12 rfl (argsL := [(.int v16)]) (rest := []) rfl (W := 0) rfl (by decide) (by decide) (by decide) (by decide) (k' := 14) (n' := 29) rfl rfl ?_
          rintro h17 _ ⟨r17, b17, kb17, rfl, g0_r17, sz_r17, K17, O17⟩
          have ne_r13_r17 : r13 ≠ r17 := Nat.ne_of_lt (Nat.lt_of_lt_of_le (O13.1.keep K14).lt sz_r17)
          have ne_b13_r17 : b13 ≠ r17 := Nat.ne_of_lt (Nat.lt_of_lt_of_le (O13.2.2.2.keep K14 nin0).lt sz_r17)
          have ne_r14_r17 : r14 ≠ r17 := Nat.ne_of_lt (Nat.lt_of_lt_of_le O14.1.lt sz_r17)
          have ne_b14_r17 : b14 ≠ r17 := Nat.ne_of_lt (Nat.lt_of_lt_of_le O14.2.2.2.lt sz_r17)
          have lk18 := LT14.keep K17 all0
          show W.Go p l e _ _ m _ below meth c _ _ _ _ _ _ (mkF m 243 #[.val (.int p0), .val (.int p1), .val (.int p2), .val (.int p3), .val (.int p4), .val (.int p5), .val (.int v2), .val (.int kb), .val (.int v4), .val (.int v7), .val (.int v10), .val (.int v12), .val (.int kf), .val (.int b0), .val (.int b1), .val (.int b2), .val (.int lb), .val (.ref r13), .val (.ref r14), .unset, .unset, .unset, .unset, .unset] [(.ref r17)])
          refine W.astore C (Ls' := #[.val (.int p0), .val (.int p1), .val (.int p2), .val (.int p3), .val (.int p4), .val (.int p5), .val (.int v2), .val (.int kb), .val (.int v4), .val (.int v7), .val (.int v10), .val (.int v12), .val (.int kf), .val (.int b0), .val (.int b1), .val (.int b2), .val (.int lb), .val (.ref r13), .val (.ref r14), .val (.ref r17), .unset, .unset, .unset, .unset]) at_243 rfl rfl rfl ?_
          refine W.iloadN C at_245 rfl rfl ?_
          refine W.ldcI C (hw _ (List.mem_of_getElem? (i := 42) rfl)) at_246 rfl ?_
          refine W.iand C (z := (p3 &&& (16777216 : Int32))) at_248 rfl rfl ?_
          refine W.ifc C (pc' := 257) (pn := 252) at_249 (by decide) rfl rfl (W.q_eq (p3 &&& (16777216 : Int32)) (0 : Int32)) (fun hc249 => ?_) (fun hc249 => ?_)
          · refine W.iloadN C at_257 rfl rfl ?_
            refine W.bipush C (x := (16 : Int32)) at_258 rfl rfl ?_
            obtain ⟨v19, hv19⟩ : ∃ z__, z__ = (((p3).toUInt32 >>> ((16 : Int32) &&& 31).toUInt32).toInt32) := ⟨_, rfl⟩
            have fv19 := c_iushr p3 (16 : Int32) 16 rfl (by decide)
            rw [← hv19] at fv19
            try simp only [Int32.reduceToInt, Int64.reduceToInt, Nat.reducePow, Int.reducePow, Int.cast_ofNat_Int] at fv19
            have rv19 := rng32 v19
            refine W.iushr C at_260 rfl hv19.symm ?_
            refine W.sipush C (x := (255 : Int32)) at_261 rfl rfl ?_
            obtain ⟨v20, hv20⟩ : ∃ z__, z__ = (v19 &&& (255 : Int32)) := ⟨_, rfl⟩
            have fv20 := c_mask v19 (255 : Int32) 8 (by decide) (by decide)
            rw [← hv20] at fv20
            try simp only [Int32.reduceToInt, Int64.reduceToInt, Nat.reducePow, Int.reducePow, Int.cast_ofNat_Int] at fv20
            have rv20 := rng32 v20
            refine W.iand C at_264 rfl hv20.symm ?_
            obtain ⟨v21, hv21⟩ : ∃ z__, z__ = ((v20).toUInt32.toUInt16.toUInt32.toInt32) := ⟨_, rfl⟩
            have fv21 := c_i2c v20
            rw [← hv21] at fv21
            try simp only [Int32.reduceToInt, Int64.reduceToInt, Nat.reducePow, Int.reducePow, Int.cast_ofNat_Int] at fv21
            have rv21 := rng32 v21
            refine W.i2c C at_265 rfl hv21.symm ?_
            have r_v21 : 0 ≤ v21.toInt ∧ v21.toInt ≤ 255 := by omega
            refine W.callS C (y := (⟨"java/lang/String", "valueOf", "(C)Ljava/lang/String;"⟩ : MethodName)) (hw _ (List.mem_of_getElem? (i := 27) rfl)) (hw _ (List.mem_of_getElem? (i := 28) rfl)) (hw _ (List.mem_of_getElem? (i := 7) rfl)) (hw _ (List.mem_of_getElem? (i := 29) rfl)) (by decide) (fun hz => rmVo l Z a0 hw [] v21 cs h17 n0 hz (SC.ext (((OO.keep K13 all0).keep K14 all0).keep K17 all0).2) hcs r_v21) at_266 rfl rfl pd_12 rfl (argsL := [(.int v21)]) (rest := []) rfl (W := 0) rfl (by decide) (by decide) (by decide) (by decide) (k' := 16) (n' := 34) rfl rfl ?_
            rintro h22 _ ⟨r22, b22, kb22, rfl, g0_r22, sz_r22, K22, O22⟩
            have ne_r13_r22 : r13 ≠ r22 := Nat.ne_of_lt (Nat.lt_of_lt_of_le ((O13.1.keep K14).keep K17).lt sz_r22)
            have ne_b13_r22 : b13 ≠ r22 := Nat.ne_of_lt (Nat.lt_of_lt_of_le ((O13.2.2.2.keep K14 nin0).keep K17 nin0).lt sz_r22)
            have ne_r14_r22 : r14 ≠ r22 := Nat.ne_of_lt (Nat.lt_of_lt_of_le (O14.1.keep K17).lt sz_r22)
            have ne_b14_r22 : b14 ≠ r22 := Nat.ne_of_lt (Nat.lt_of_lt_of_le (O14.2.2.2.keep K17 nin0).lt sz_r22)
            have ne_r17_r22 : r17 ≠ r22 := Nat.ne_of_lt (Nat.lt_of_lt_of_le O17.1.lt sz_r22)
            have ne_b17_r22 : b17 ≠ r22 := Nat.ne_of_lt (Nat.lt_of_lt_of_le O17.2.2.2.lt sz_r22)
            have lk23 := lk18.keep K22 all0
            show W.Go p l e _ _ m _ below meth c _ _ _ _ _ _ (mkF m 269 #[.val (.int p0), .val (.int p1), .val (.int p2), .val (.int p3), .val (.int p4), .val (.int p5), .val (.int v2), .val (.int kb), .val (.int v4), .val (.int v7), .val (.int v10), .val (.int v12), .val (.int kf), .val (.int b0), .val (.int b1), .val (.int b2), .val (.int lb), .val (.ref r13), .val (.ref r14), .val (.ref r17), .unset, .unset, .unset, .unset] [(.ref r22)])
            refine W.astore C (Ls' := #[.val (.int p0), .val (.int p1), .val (.int p2), .val (.int p3), .val (.int p4), .val (.int p5), .val (.int v2), .val (.int kb), .val (.int v4), .val (.int v7), .val (.int v10), .val (.int v12), .val (.int kf), .val (.int b0), .val (.int b1), .val (.int b2), .val (.int lb), .val (.ref r13), .val (.ref r14), .val (.ref r17), .val (.ref r22), .unset, .unset, .unset]) at_269 rfl rfl rfl ?_
            refine W.new C (hw _ (List.mem_of_getElem? (i := 43) rfl)) (hw _ (List.mem_of_getElem? (i := 44) rfl)) (hw _ (List.mem_of_getElem? (i := 45) rfl)) at_271 rfl (by decide) (by decide) (k' := 17) (n' := 38) rfl rfl ?_
            intro h24 b24 gb24 g0_b24 E24 Ab24 Db24
            have ne_r13_b24 : r13 ≠ b24 := Nat.ne_of_lt (by rw [gb24]; exact (((O13.1.keep K14).keep K17).keep K22).lt)
            have ne_b13_b24 : b13 ≠ b24 := Nat.ne_of_lt (by rw [gb24]; exact (((O13.2.2.2.keep K14 nin0).keep K17 nin0).keep K22 nin0).lt)
            have ne_r14_b24 : r14 ≠ b24 := Nat.ne_of_lt (by rw [gb24]; exact ((O14.1.keep K17).keep K22).lt)
            have ne_b14_b24 : b14 ≠ b24 := Nat.ne_of_lt (by rw [gb24]; exact ((O14.2.2.2.keep K17 nin0).keep K22 nin0).lt)
            have ne_r17_b24 : r17 ≠ b24 := Nat.ne_of_lt (by rw [gb24]; exact (O17.1.keep K22).lt)
            have ne_b17_b24 : b17 ≠ b24 := Nat.ne_of_lt (by rw [gb24]; exact (O17.2.2.2.keep K22 nin0).lt)
            have ne_r22_b24 : r22 ≠ b24 := Nat.ne_of_lt (by rw [gb24]; exact O22.1.lt)
            have ne_b22_b24 : b22 ≠ b24 := Nat.ne_of_lt (by rw [gb24]; exact O22.2.2.2.lt)
            have sn_b24 := lk23.sext E24 (Safe.new (Nat.le_of_eq gb24.symm))
            have Fb24_kind : Fld Z h24 b24 "com/example/termwright/termwright/Heading" "kind" "Lcom/example/termwright/termwright/OutlineNode$Kind;" .null := Db24 (Or.inr (hw _ (List.mem_of_getElem? (i := 73) rfl))) (ty := (.object "com/example/termwright/termwright/OutlineNode$Kind")) (by decide)
            have Fb24_number : Fld Z h24 b24 "com/example/termwright/termwright/Heading" "number" "Ljava/lang/String;" .null := Db24 (Or.inr (hw _ (List.mem_of_getElem? (i := 75) rfl))) (ty := (.object "java/lang/String")) (by decide)
            have Fb24_title : Fld Z h24 b24 "com/example/termwright/termwright/Heading" "title" "Ljava/lang/String;" .null := Db24 (Or.inr (hw _ (List.mem_of_getElem? (i := 77) rfl))) (ty := (.object "java/lang/String")) (by decide)
            have Fb24_span : Fld Z h24 b24 "com/example/termwright/termwright/Heading" "span" "Lcom/example/termwright/termwright/Document$Span;" .null := Db24 (Or.inr (hw _ (List.mem_of_getElem? (i := 79) rfl))) (ty := (.object "com/example/termwright/termwright/Document$Span")) (by decide)
            refine W.dup C at_274 rfl rfl ?_
            refine W.iload C at_275 rfl rfl ?_
            refine W.callS C (y := (⟨"com/example/termwright/termwright/HeadingHeadsSameDivisionPinLaw", "kind", "(I)Lcom/example/termwright/termwright/OutlineNode$Kind;"⟩ : MethodName)) (hw _ (List.mem_of_getElem? (i := 46) rfl)) (hw _ (List.mem_of_getElem? (i := 47) rfl)) (hw _ (List.mem_of_getElem? (i := 3) rfl)) (hw _ (List.mem_of_getElem? (i := 48) rfl)) (by decide) (fun hz => rmK l Z a0 hw [] v2 k0 k1 k2 k3 k4 k5 h24 n0 hz (T0.ext (((((OO.keep K13 all0).keep K14 all0).keep K17 all0).keep K22 all0).ext E24).2) (T1.ext (((((OO.keep K13 all0).keep K14 all0).keep K17 all0).keep K22 all0).ext E24).2) (T2.ext (((((OO.keep K13 all0).keep K14 all0).keep K17 all0).keep K22 all0).ext E24).2) (T3.ext (((((OO.keep K13 all0).keep K14 all0).keep K17 all0).keep K22 all0).ext E24).2) (T4.ext (((((OO.keep K13 all0).keep K14 all0).keep K17 all0).keep K22 all0).ext E24).2) (T5.ext (((((OO.keep K13 all0).keep K14 all0).keep K17 all0).keep K22 all0).ext E24).2)) at_277 rfl rfl pd_13 rfl (argsL := [(.int v2)]) (rest := [(.ref b24), (.ref b24)]) rfl (W := 2) rfl (by decide) (by decide) (by decide) (by decide) (k' := 17) (n' := 38) rfl rfl ?_
            rintro h25 _ ⟨rfl, rfl⟩
            show W.Go p l e _ _ m _ below meth c _ _ _ _ _ _ (mkF m 280 #[.val (.int p0), .val (.int p1), .val (.int p2), .val (.int p3), .val (.int p4), .val (.int p5), .val (.int v2), .val (.int kb), .val (.int v4), .val (.int v7), .val (.int v10), .val (.int v12), .val (.int kf), .val (.int b0), .val (.int b1), .val (.int b2), .val (.int lb), .val (.ref r13), .val (.ref r14), .val (.ref r17), .val (.ref r22), .unset, .unset, .unset] [(.ref (own_kind v2 k0 k1 k2 k3 k4 k5)), (.ref b24), (.ref b24)])
            refine W.aload C at_280 rfl rfl rfl ?_
            refine W.aload C at_282 rfl rfl rfl ?_
            refine W.new C (hw _ (List.mem_of_getElem? (i := 52) rfl)) (hw _ (List.mem_of_getElem? (i := 53) rfl)) (hw _ (List.mem_of_getElem? (i := 54) rfl)) at_284 rfl (by decide) (by decide) (k' := 18) (n' := 40) rfl rfl ?_
            intro h26 b26 gb26 g0_b26 E26 Ab26 Db26
            have ne_r13_b26 : r13 ≠ b26 := Nat.ne_of_lt (by rw [gb26]; exact ((((O13.1.keep K14).keep K17).keep K22).ext E24).lt)
            have ne_b13_b26 : b13 ≠ b26 := Nat.ne_of_lt (by rw [gb26]; exact ((((O13.2.2.2.keep K14 nin0).keep K17 nin0).keep K22 nin0).ext E24).lt)
            have ne_r14_b26 : r14 ≠ b26 := Nat.ne_of_lt (by rw [gb26]; exact (((O14.1.keep K17).keep K22).ext E24).lt)
            have ne_b14_b26 : b14 ≠ b26 := Nat.ne_of_lt (by rw [gb26]; exact (((O14.2.2.2.keep K17 nin0).keep K22 nin0).ext E24).lt)
            have ne_r17_b26 : r17 ≠ b26 := Nat.ne_of_lt (by rw [gb26]; exact ((O17.1.keep K22).ext E24).lt)
            have ne_b17_b26 : b17 ≠ b26 := Nat.ne_of_lt (by rw [gb26]; exact ((O17.2.2.2.keep K22 nin0).ext E24).lt)
            have ne_r22_b26 : r22 ≠ b26 := Nat.ne_of_lt (by rw [gb26]; exact (O22.1.ext E24).lt)
            have ne_b22_b26 : b22 ≠ b26 := Nat.ne_of_lt (by rw [gb26]; exact (O22.2.2.2.ext E24).lt)
            have ne_b24_b26 : b24 ≠ b26 := Nat.ne_of_lt (by rw [gb26]; exact Ab24.lt)
            have sn_b26 := (lk23.ext E24).sext E26 (Safe.new (Nat.le_of_eq gb26.symm))
            have sx27 := (lk23.ext E24).sext E26 sn_b24
            have Fb26_start : Fld Z h26 b26 "com/example/termwright/termwright/Document$Span" "start" "I" (.int (0 : Int32)) := Db26 (Or.inr (hw _ (List.mem_of_getElem? (i := 65) rfl))) (ty := .int) (by decide)
            have Fb26_end : Fld Z h26 b26 "com/example/termwright/termwright/Document$Span" "end" "I" (.int (0 : Int32)) := Db26 (Or.inr (hw _ (List.mem_of_getElem? (i := 67) rfl))) (ty := .int) (by decide)
            refine W.dup C at_287 rfl rfl ?_
            refine W.iload C at_288 rfl rfl ?_
            refine W.iload C at_290 rfl rfl ?_
            refine W.callSp C (y := (⟨"com/example/termwright/termwright/Document$Span", "<init>", "(II)V"⟩ : MethodName)) (a := b26) rfl (hw _ (List.mem_of_getElem? (i := 55) rfl)) (hw _ (List.mem_of_getElem? (i := 56) rfl)) (hw _ (List.mem_of_getElem? (i := 54) rfl)) (hw _ (List.mem_of_getElem? (i := 57) rfl)) (by decide) (fun hz => rm10 l Z a0 hw [] b26 p4 p5 h26 n0 hz ⟨Ab26, Fb26_start, Fb26_end⟩ g0_b26) at_292 rfl rfl pd_14 rfl (argsL := [(.int p4), (.int p5)]) (rest := [(.ref b26), (.ref r17), (.ref r13), (.ref (own_kind v2 k0 k1 k2 k3 k4 k5)), (.ref b24), (.ref b24)]) rfl (W := 6) rfl (by decide) (by decide) (by decide) (by decide) (k' := 18) (n' := 40) rfl rfl ?_
            rintro h28 _ ⟨rfl, K28, O28⟩
            have lk29 := ((lk23.ext E24).ext E26).keep K28 (allS sn_b26 all0)
            have sk30 := ((lk23.ext E24).ext E26).skeep K28 (allS sn_b26 all0) sx27
            have sk31 := ((lk23.ext E24).ext E26).skeep K28 (allS sn_b26 all0) sn_b26
            show W.Go p l e _ _ m _ below meth c _ _ _ _ _ _ (mkF m 295 #[.val (.int p0), .val (.int p1), .val (.int p2), .val (.int p3), .val (.int p4), .val (.int p5), .val (.int v2), .val (.int kb), .val (.int v4), .val (.int v7), .val (.int v10), .val (.int v12), .val (.int kf), .val (.int b0), .val (.int b1), .val (.int b2), .val (.int lb), .val (.ref r13), .val (.ref r14), .val (.ref r17), .val (.ref r22), .unset, .unset, .unset] [(.ref b26), (.ref r17), (.ref r13), (.ref (own_kind v2 k0 k1 k2 k3 k4 k5)), (.ref b24), (.ref b24)])
            refine W.callSp C (y := (⟨"com/example/termwright/termwright/Heading", "<init>", "(Lcom/example/termwright/termwright/OutlineNode$Kind;Ljava/lang/String;Ljava/lang/String;Lcom/example/termwright/termwright/Document$Span;)V"⟩ : MethodName)) (a := b24) rfl (hw _ (List.mem_of_getElem? (i := 68) rfl)) (hw _ (List.mem_of_getElem? (i := 69) rfl)) (hw _ (List.mem_of_getElem? (i := 45) rfl)) (hw _ (List.mem_of_getElem? (i := 70) rfl)) (by decide) (fun hz => rm12 l Z a0 hw [] b24 (own_kind v2 k0 k1 k2 k3 k4 k5) r13 r17 b26 h28 n0 hz ⟨((Ab24.ext E26).keep K28), ((Fb24_kind.ext E26).keep K28 (ninS ne_b24_b26 nin0)), ((Fb24_number.ext E26).keep K28 (ninS ne_b24_b26 nin0)), ((Fb24_title.ext E26).keep K28 (ninS ne_b24_b26 nin0)), ((Fb24_span.ext E26).keep K28 (ninS ne_b24_b26 nin0))⟩ g0_b24) at_295 rfl rfl pd_15 rfl (argsL := [(.ref (own_kind v2 k0 k1 k2 k3 k4 k5)), (.ref r13), (.ref r17), (.ref b26)]) (rest := [(.ref b24)]) rfl (W := 1) rfl (by decide) (by decide) (by decide) (by decide) (k' := 18) (n' := 40) rfl rfl ?_
            rintro h32 _ ⟨rfl, K32, O32⟩
            have lk33 := lk29.keep K32 (allS sk30 all0)
            have sk34 := lk29.skeep K32 (allS sk30 all0) sk30
            have sk35 := lk29.skeep K32 (allS sk30 all0) sk31
            show W.Go p l e _ _ m _ below meth c _ _ _ _ _ _ (mkF m 298 #[.val (.int p0), .val (.int p1), .val (.int p2), .val (.int p3), .val (.int p4), .val (.int p5), .val (.int v2), .val (.int kb), .val (.int v4), .val (.int v7), .val (.int v10), .val (.int v12), .val (.int kf), .val (.int b0), .val (.int b1), .val (.int b2), .val (.int lb), .val (.ref r13), .val (.ref r14), .val (.ref r17), .val (.ref r22), .unset, .unset, .unset] [(.ref b24)])
            refine W.astore C (Ls' := #[.val (.int p0), .val (.int p1), .val (.int p2), .val (.int p3), .val (.int p4), .val (.int p5), .val (.int v2), .val (.int kb), .val (.int v4), .val (.int v7), .val (.int v10), .val (.int v12), .val (.int kf), .val (.int b0), .val (.int b1), .val (.int b2), .val (.int lb), .val (.ref r13), .val (.ref r14), .val (.ref r17), .val (.ref r22), .val (.ref b24), .unset, .unset]) at_298 rfl rfl rfl ?_
            refine W.new C (hw _ (List.mem_of_getElem? (i := 43) rfl)) (hw _ (List.mem_of_getElem? (i := 44) rfl)) (hw _ (List.mem_of_getElem? (i := 45) rfl)) at_300 rfl (by decide) (by decide) (k' := 19) (n' := 44) rfl rfl ?_
            intro h36 b36 gb36 g0_b36 E36 Ab36 Db36
            have ne_r13_b36 : r13 ≠ b36 := Nat.ne_of_lt (by rw [gb36]; exact (((((((O13.1.keep K14).keep K17).keep K22).ext E24).ext E26).keep K28).keep K32).lt)
            have ne_b13_b36 : b13 ≠ b36 := Nat.ne_of_lt (by rw [gb36]; exact (((((((O13.2.2.2.keep K14 nin0).keep K17 nin0).keep K22 nin0).ext E24).ext E26).keep K28 (ninS ne_b13_b26 nin0)).keep K32 (ninS ne_b13_b24 nin0)).lt)
            have ne_r14_b36 : r14 ≠ b36 := Nat.ne_of_lt (by rw [gb36]; exact ((((((O14.1.keep K17).keep K22).ext E24).ext E26).keep K28).keep K32).lt)
            have ne_b14_b36 : b14 ≠ b36 := Nat.ne_of_lt (by rw [gb36]; exact ((((((O14.2.2.2.keep K17 nin0).keep K22 nin0).ext E24).ext E26).keep K28 (ninS ne_b14_b26 nin0)).keep K32 (ninS ne_b14_b24 nin0)).lt)
            have ne_r17_b36 : r17 ≠ b36 := Nat.ne_of_lt (by rw [gb36]; exact (((((O17.1.keep K22).ext E24).ext E26).keep K28).keep K32).lt)
            have ne_b17_b36 : b17 ≠ b36 := Nat.ne_of_lt (by rw [gb36]; exact (((((O17.2.2.2.keep K22 nin0).ext E24).ext E26).keep K28 (ninS ne_b17_b26 nin0)).keep K32 (ninS ne_b17_b24 nin0)).lt)
            have ne_r22_b36 : r22 ≠ b36 := Nat.ne_of_lt (by rw [gb36]; exact ((((O22.1.ext E24).ext E26).keep K28).keep K32).lt)
            have ne_b22_b36 : b22 ≠ b36 := Nat.ne_of_lt (by rw [gb36]; exact ((((O22.2.2.2.ext E24).ext E26).keep K28 (ninS ne_b22_b26 nin0)).keep K32 (ninS ne_b22_b24 nin0)).lt)
            have ne_b24_b36 : b24 ≠ b36 := Nat.ne_of_lt (by rw [gb36]; exact O32.1.lt)
            have ne_b26_b36 : b26 ≠ b36 := Nat.ne_of_lt (by rw [gb36]; exact (O28.1.keep K32).lt)
            have sn_b36 := lk33.sext E36 (Safe.new (Nat.le_of_eq gb36.symm))
            have sx37 := lk33.sext E36 sk34
            have sx38 := lk33.sext E36 sk35
            have Fb36_kind : Fld Z h36 b36 "com/example/termwright/termwright/Heading" "kind" "Lcom/example/termwright/termwright/OutlineNode$Kind;" .null := Db36 (Or.inr (hw _ (List.mem_of_getElem? (i := 73) rfl))) (ty := (.object "com/example/termwright/termwright/OutlineNode$Kind")) (by decide)
            have Fb36_number : Fld Z h36 b36 "com/example/termwright/termwright/Heading" "number" "Ljava/lang/String;" .null := Db36 (Or.inr (hw _ (List.mem_of_getElem? (i := 75) rfl))) (ty := (.object "java/lang/String")) (by decide)
            have Fb36_title : Fld Z h36 b36 "com/example/termwright/termwright/Heading" "title" "Ljava/lang/String;" .null := Db36 (Or.inr (hw _ (List.mem_of_getElem? (i := 77) rfl))) (ty := (.object "java/lang/String")) (by decide)
            have Fb36_span : Fld Z h36 b36 "com/example/termwright/termwright/Heading" "span" "Lcom/example/termwright/termwright/Document$Span;" .null := Db36 (Or.inr (hw _ (List.mem_of_getElem? (i := 79) rfl))) (ty := (.object "com/example/termwright/termwright/Document$Span")) (by decide)
            refine W.dup C at_303 rfl rfl ?_
            refine W.iload C at_304 rfl rfl ?_
            refine W.callS C (y := (⟨"com/example/termwright/termwright/HeadingHeadsSameDivisionPinLaw", "kind", "(I)Lcom/example/termwright/termwright/OutlineNode$Kind;"⟩ : MethodName)) (hw _ (List.mem_of_getElem? (i := 46) rfl)) (hw _ (List.mem_of_getElem? (i := 47) rfl)) (hw _ (List.mem_of_getElem? (i := 3) rfl)) (hw _ (List.mem_of_getElem? (i := 48) rfl)) (by decide) (fun hz => rmK l Z a0 hw [] kb k0 k1 k2 k3 k4 k5 h36 n0 hz (T0.ext (((((((((OO.keep K13 all0).keep K14 all0).keep K17 all0).keep K22 all0).ext E24).ext E26).keep K28 (allS g0_b26 all0)).keep K32 (allS g0_b24 all0)).ext E36).2) (T1.ext (((((((((OO.keep K13 all0).keep K14 all0).keep K17 all0).keep K22 all0).ext E24).ext E26).keep K28 (allS g0_b26 all0)).keep K32 (allS g0_b24 all0)).ext E36).2) (T2.ext (((((((((OO.keep K13 all0).keep K14 all0).keep K17 all0).keep K22 all0).ext E24).ext E26).keep K28 (allS g0_b26 all0)).keep K32 (allS g0_b24 all0)).ext E36).2) (T3.ext (((((((((OO.keep K13 all0).keep K14 all0).keep K17 all0).keep K22 all0).ext E24).ext E26).keep K28 (allS g0_b26 all0)).keep K32 (allS g0_b24 all0)).ext E36).2) (T4.ext (((((((((OO.keep K13 all0).keep K14 all0).keep K17 all0).keep K22 all0).ext E24).ext E26).keep K28 (allS g0_b26 all0)).keep K32 (allS g0_b24 all0)).ext E36).2) (T5.ext (((((((((OO.keep K13 all0).keep K14 all0).keep K17 all0).keep K22 all0).ext E24).ext E26).keep K28 (allS g0_b26 all0)).keep K32 (allS g0_b24 all0)).ext E36).2)) at_306 rfl rfl pd_13 rfl (argsL := [(.int kb)]) (rest := [(.ref b36), (.ref b36)]) rfl (W := 2) rfl (by decide) (by decide) (by decide) (by decide) (k' := 19) (n' := 44) rfl rfl ?_
            rintro h39 _ ⟨rfl, rfl⟩
            show W.Go p l e _ _ m _ below meth c _ _ _ _ _ _ (mkF m 309 #[.val (.int p0), .val (.int p1), .val (.int p2), .val (.int p3), .val (.int p4), .val (.int p5), .val (.int v2), .val (.int kb), .val (.int v4), .val (.int v7), .val (.int v10), .val (.int v12), .val (.int kf), .val (.int b0), .val (.int b1), .val (.int b2), .val (.int lb), .val (.ref r13), .val (.ref r14), .val (.ref r17), .val (.ref r22), .val (.ref b24), .unset, .unset] [(.ref (own_kind kb k0 k1 k2 k3 k4 k5)), (.ref b36), (.ref b36)])
            refine W.aload C at_309 rfl rfl rfl ?_
            refine W.aload C at_311 rfl rfl rfl ?_
            refine W.new C (hw _ (List.mem_of_getElem? (i := 52) rfl)) (hw _ (List.mem_of_getElem? (i := 53) rfl)) (hw _ (List.mem_of_getElem? (i := 54) rfl)) at_313 rfl (by decide) (by decide) (k' := 20) (n' := 46) rfl rfl ?_
            intro h40 b40 gb40 g0_b40 E40 Ab40 Db40
            have ne_r13_b40 : r13 ≠ b40 := Nat.ne_of_lt (by rw [gb40]; exact ((((((((O13.1.keep K14).keep K17).keep K22).ext E24).ext E26).keep K28).keep K32).ext E36).lt)
            have ne_b13_b40 : b13 ≠ b40 := Nat.ne_of_lt (by rw [gb40]; exact ((((((((O13.2.2.2.keep K14 nin0).keep K17 nin0).keep K22 nin0).ext E24).ext E26).keep K28 (ninS ne_b13_b26 nin0)).keep K32 (ninS ne_b13_b24 nin0)).ext E36).lt)
            have ne_r14_b40 : r14 ≠ b40 := Nat.ne_of_lt (by rw [gb40]; exact (((((((O14.1.keep K17).keep K22).ext E24).ext E26).keep K28).keep K32).ext E36).lt)
            have ne_b14_b40 : b14 ≠ b40 := Nat.ne_of_lt (by rw [gb40]; exact (((((((O14.2.2.2.keep K17 nin0).keep K22 nin0).ext E24).ext E26).keep K28 (ninS ne_b14_b26 nin0)).keep K32 (ninS ne_b14_b24 nin0)).ext E36).lt)
            have ne_r17_b40 : r17 ≠ b40 := Nat.ne_of_lt (by rw [gb40]; exact ((((((O17.1.keep K22).ext E24).ext E26).keep K28).keep K32).ext E36).lt)
            have ne_b17_b40 : b17 ≠ b40 := Nat.ne_of_lt (by rw [gb40]; exact ((((((O17.2.2.2.keep K22 nin0).ext E24).ext E26).keep K28 (ninS ne_b17_b26 nin0)).keep K32 (ninS ne_b17_b24 nin0)).ext E36).lt)
            have ne_r22_b40 : r22 ≠ b40 := Nat.ne_of_lt (by rw [gb40]; exact (((((O22.1.ext E24).ext E26).keep K28).keep K32).ext E36).lt)
            have ne_b22_b40 : b22 ≠ b40 := Nat.ne_of_lt (by rw [gb40]; exact (((((O22.2.2.2.ext E24).ext E26).keep K28 (ninS ne_b22_b26 nin0)).keep K32 (ninS ne_b22_b24 nin0)).ext E36).lt)
            have ne_b24_b40 : b24 ≠ b40 := Nat.ne_of_lt (by rw [gb40]; exact (O32.1.ext E36).lt)
            have ne_b26_b40 : b26 ≠ b40 := Nat.ne_of_lt (by rw [gb40]; exact ((O28.1.keep K32).ext E36).lt)
            have ne_b36_b40 : b36 ≠ b40 := Nat.ne_of_lt (by rw [gb40]; exact Ab36.lt)
            have sn_b40 := (lk33.ext E36).sext E40 (Safe.new (Nat.le_of_eq gb40.symm))
            have sx41 := (lk33.ext E36).sext E40 sx37
            have sx42 := (lk33.ext E36).sext E40 sx38
            have sx43 := (lk33.ext E36).sext E40 sn_b36
            have Fb40_start : Fld Z h40 b40 "com/example/termwright/termwright/Document$Span" "start" "I" (.int (0 : Int32)) := Db40 (Or.inr (hw _ (List.mem_of_getElem? (i := 65) rfl))) (ty := .int) (by decide)
            have Fb40_end : Fld Z h40 b40 "com/example/termwright/termwright/Document$Span" "end" "I" (.int (0 : Int32)) := Db40 (Or.inr (hw _ (List.mem_of_getElem? (i := 67) rfl))) (ty := .int) (by decide)
            refine W.dup C at_316 rfl rfl ?_
            refine W.iload C at_317 rfl rfl ?_
            refine W.iload C at_319 rfl rfl ?_
            refine W.callSp C (y := (⟨"com/example/termwright/termwright/Document$Span", "<init>", "(II)V"⟩ : MethodName)) (a := b40) rfl (hw _ (List.mem_of_getElem? (i := 55) rfl)) (hw _ (List.mem_of_getElem? (i := 56) rfl)) (hw _ (List.mem_of_getElem? (i := 54) rfl)) (hw _ (List.mem_of_getElem? (i := 57) rfl)) (by decide) (fun hz => rm10 l Z a0 hw [] b40 p5 p4 h40 n0 hz ⟨Ab40, Fb40_start, Fb40_end⟩ g0_b40) at_321 rfl rfl pd_14 rfl (argsL := [(.int p5), (.int p4)]) (rest := [(.ref b40), (.ref r22), (.ref r14), (.ref (own_kind kb k0 k1 k2 k3 k4 k5)), (.ref b36), (.ref b36)]) rfl (W := 6) rfl (by decide) (by decide) (by decide) (by decide) (k' := 20) (n' := 46) rfl rfl ?_
            rintro h44 _ ⟨rfl, K44, O44⟩
            have lk45 := ((lk33.ext E36).ext E40).keep K44 (allS sn_b40 all0)
            have sk46 := ((lk33.ext E36).ext E40).skeep K44 (allS sn_b40 all0) sx41
            have sk47 := ((lk33.ext E36).ext E40).skeep K44 (allS sn_b40 all0) sx42
            have sk48 := ((lk33.ext E36).ext E40).skeep K44 (allS sn_b40 all0) sx43
            have sk49 := ((lk33.ext E36).ext E40).skeep K44 (allS sn_b40 all0) sn_b40
            show W.Go p l e _ _ m _ below meth c _ _ _ _ _ _ (mkF m 324 #[.val (.int p0), .val (.int p1), .val (.int p2), .val (.int p3), .val (.int p4), .val (.int p5), .val (.int v2), .val (.int kb), .val (.int v4), .val (.int v7), .val (.int v10), .val (.int v12), .val (.int kf), .val (.int b0), .val (.int b1), .val (.int b2), .val (.int lb), .val (.ref r13), .val (.ref r14), .val (.ref r17), .val (.ref r22), .val (.ref b24), .unset, .unset] [(.ref b40), (.ref r22), (.ref r14), (.ref (own_kind kb k0 k1 k2 k3 k4 k5)), (.ref b36), (.ref b36)])
            refine W.callSp C (y := (⟨"com/example/termwright/termwright/Heading", "<init>", "(Lcom/example/termwright/termwright/OutlineNode$Kind;Ljava/lang/String;Ljava/lang/String;Lcom/example/termwright/termwright/Document$Span;)V"⟩ : MethodName)) (a := b36) rfl (hw _ (List.mem_of_getElem? (i := 68) rfl)) (hw _ (List.mem_of_getElem? (i := 69) rfl)) (hw _ (List.mem_of_getElem? (i := 45) rfl)) (hw _ (List.mem_of_getElem? (i := 70) rfl)) (by decide) (fun hz => rm12 l Z a0 hw [] b36 (own_kind kb k0 k1 k2 k3 k4 k5) r14 r22 b40 h44 n0 hz ⟨((Ab36.ext E40).keep K44), ((Fb36_kind.ext E40).keep K44 (ninS ne_b36_b40 nin0)), ((Fb36_number.ext E40).keep K44 (ninS ne_b36_b40 nin0)), ((Fb36_title.ext E40).keep K44 (ninS ne_b36_b40 nin0)), ((Fb36_span.ext E40).keep K44 (ninS ne_b36_b40 nin0))⟩ g0_b36) at_324 rfl rfl pd_15 rfl (argsL := [(.ref (own_kind kb k0 k1 k2 k3 k4 k5)), (.ref r14), (.ref r22), (.ref b40)]) (rest := [(.ref b36)]) rfl (W := 1) rfl (by decide) (by decide) (by decide) (by decide) (k' := 20) (n' := 46) rfl rfl ?_
            rintro h50 _ ⟨rfl, K50, O50⟩
            have lk51 := lk45.keep K50 (allS sk48 all0)
            have sk52 := lk45.skeep K50 (allS sk48 all0) sk46
            have sk53 := lk45.skeep K50 (allS sk48 all0) sk47
            have sk54 := lk45.skeep K50 (allS sk48 all0) sk48
            have sk55 := lk45.skeep K50 (allS sk48 all0) sk49
            show W.Go p l e _ _ m _ below meth c _ _ _ _ _ _ (mkF m 327 #[.val (.int p0), .val (.int p1), .val (.int p2), .val (.int p3), .val (.int p4), .val (.int p5), .val (.int v2), .val (.int kb), .val (.int v4), .val (.int v7), .val (.int v10), .val (.int v12), .val (.int kf), .val (.int b0), .val (.int b1), .val (.int b2), .val (.int lb), .val (.ref r13), .val (.ref r14), .val (.ref r17), .val (.ref r22), .val (.ref b24), .unset, .unset] [(.ref b36)])
            refine W.astore C (Ls' := #[.val (.int p0), .val (.int p1), .val (.int p2), .val (.int p3), .val (.int p4), .val (.int p5), .val (.int v2), .val (.int kb), .val (.int v4), .val (.int v7), .val (.int v10), .val (.int v12), .val (.int kf), .val (.int b0), .val (.int b1), .val (.int b2), .val (.int lb), .val (.ref r13), .val (.ref r14), .val (.ref r17), .val (.ref r22), .val (.ref b24), .val (.ref b36), .unset]) at_327 rfl rfl rfl ?_
            have J389 : ∀ (ex : Int32) (hex : (ex = 1 ∧ (v2 = kb ∧ own_same v12 v4 v7 v10 lb b0 b1 b2)) ∨ (ex = 0 ∧ ¬ (v2 = kb ∧ own_same v12 v4 v7 v10 lb b0 b1 b2))), W.Go p l e room_1 (s0.setVm vm14) m #[(.int p0), (.int p1), (.int p2), (.int p3), (.int p4), (.int p5)] below meth c (fun s₂ o L => CHr Z consts_1 s0.vm s0.heap s₂.vm s₂.heap ∧ ReturnedEndW s0 o s₂ L 40 2240) n0 (fun v _ => v = some (.int 1)) h50 (20) (46) (mkF m 389 #[.val (.int p0), .val (.int p1), .val (.int p2), .val (.int p3), .val (.int p4), .val (.int p5), .val (.int v2), .val (.int kb), .val (.int v4), .val (.int v7), .val (.int v10), .val (.int v12), .val (.int kf), .val (.int b0), .val (.int b1), .val (.int b2), .val (.int lb), .val (.ref r13), .val (.ref r14), .val (.ref r17), .val (.ref r22), .val (.ref b24), .val (.ref b36), .val (.int ex)] []) := by
              intro ex hex
              refine W.aload C at_389 rfl rfl rfl ?_
              refine W.aload C at_391 rfl rfl rfl ?_
              refine W.callV C (y := (⟨"com/example/termwright/termwright/Heading", "headsSameDivision", "(Lcom/example/termwright/termwright/Heading;)Z"⟩ : MethodName)) (a := b24) (hw _ (List.mem_of_getElem? (i := 80) rfl)) (hw _ (List.mem_of_getElem? (i := 81) rfl)) (W.nf_sel C (hw _ (List.mem_of_getElem? (i := 83) rfl))) (hw _ (List.mem_of_getElem? (i := 83) rfl)) (hw _ (List.mem_of_getElem? (i := 82) rfl)) (hw _ (List.mem_of_getElem? (i := 45) rfl)) (hw _ (List.mem_of_getElem? (i := 84) rfl)) (by decide) ((((O32.1.ext E36).ext E40).keep K44).keep K50) (fun hz => rmHs l Z a0 hw [] b24 b36 (own_kind v2 k0 k1 k2 k3 k4 k5) (own_kind kb k0 k1 k2 k3 k4 k5) r13 r14 r17 r22 b26 b40 b13 b14 kb13 kb14 v12 lb cs (own_bs v12 v4 v7 v10) (own_bs lb b0 b1 b2) h50 n0 hz (SC.ext ((((((((((((OO.keep K13 all0).keep K14 all0).keep K17 all0).keep K22 all0).ext E24).ext E26).keep K28 (allS g0_b26 all0)).keep K32 (allS g0_b24 all0)).ext E36).ext E40).keep K44 (allS g0_b40 all0)).keep K50 (allS g0_b36 all0)).2) hcs ⟨((((O32.1.ext E36).ext E40).keep K44).keep K50), ((((O32.2.1.ext E36).ext E40).keep K44 (ninS ne_b24_b40 nin0)).keep K50 (ninS ne_b24_b36 nin0)), ((((O32.2.2.1.ext E36).ext E40).keep K44 (ninS ne_b24_b40 nin0)).keep K50 (ninS ne_b24_b36 nin0)), ((((O32.2.2.2.1.ext E36).ext E40).keep K44 (ninS ne_b24_b40 nin0)).keep K50 (ninS ne_b24_b36 nin0)), ((((O32.2.2.2.2.ext E36).ext E40).keep K44 (ninS ne_b24_b40 nin0)).keep K50 (ninS ne_b24_b36 nin0))⟩ ⟨O50.1, O50.2.1, O50.2.2.1, O50.2.2.2.1, O50.2.2.2.2⟩ ⟨(((((((((((O13.1.keep K14).keep K17).keep K22).ext E24).ext E26).keep K28).keep K32).ext E36).ext E40).keep K44).keep K50), (((((((((((O13.2.1.keep K14 nin0).keep K17 nin0).keep K22 nin0).ext E24).ext E26).keep K28 (ninS ne_r13_b26 nin0)).keep K32 (ninS ne_r13_b24 nin0)).ext E36).ext E40).keep K44 (ninS ne_r13_b40 nin0)).keep K50 (ninS ne_r13_b36 nin0)), (((((((((((O13.2.2.1.keep K14 nin0).keep K17 nin0).keep K22 nin0).ext E24).ext E26).keep K28 (ninS ne_r13_b26 nin0)).keep K32 (ninS ne_r13_b24 nin0)).ext E36).ext E40).keep K44 (ninS ne_r13_b40 nin0)).keep K50 (ninS ne_r13_b36 nin0)), (((((((((((O13.2.2.2.keep K14 nin0).keep K17 nin0).keep K22 nin0).ext E24).ext E26).keep K28 (ninS ne_b13_b26 nin0)).keep K32 (ninS ne_b13_b24 nin0)).ext E36).ext E40).keep K44 (ninS ne_b13_b40 nin0)).keep K50 (ninS ne_b13_b36 nin0))⟩ ⟨((((((((((O14.1.keep K17).keep K22).ext E24).ext E26).keep K28).keep K32).ext E36).ext E40).keep K44).keep K50), ((((((((((O14.2.1.keep K17 nin0).keep K22 nin0).ext E24).ext E26).keep K28 (ninS ne_r14_b26 nin0)).keep K32 (ninS ne_r14_b24 nin0)).ext E36).ext E40).keep K44 (ninS ne_r14_b40 nin0)).keep K50 (ninS ne_r14_b36 nin0)), ((((((((((O14.2.2.1.keep K17 nin0).keep K22 nin0).ext E24).ext E26).keep K28 (ninS ne_r14_b26 nin0)).keep K32 (ninS ne_r14_b24 nin0)).ext E36).ext E40).keep K44 (ninS ne_r14_b40 nin0)).keep K50 (ninS ne_r14_b36 nin0)), ((((((((((O14.2.2.2.keep K17 nin0).keep K22 nin0).ext E24).ext E26).keep K28 (ninS ne_b14_b26 nin0)).keep K32 (ninS ne_b14_b24 nin0)).ext E36).ext E40).keep K44 (ninS ne_b14_b40 nin0)).keep K50 (ninS ne_b14_b36 nin0))⟩ (own_bsl _ _ _ _ r_v12) (own_bsl _ _ _ _ r_lb) r_v12.1 r_lb.1 (own_bsi _ _ _ _) (own_bsi _ _ _ _) (fun q => absurd q ne_r13_r14)) at_393 rfl rfl pd_16 rfl (argsL := [(.ref b36)]) (rest := []) rfl (W := 0) rfl (by decide) (by decide) (by decide) (by decide) (k' := 20) (n' := 46) rfl rfl ?_
              rintro h56 _ ⟨⟨wr, rfl, gr⟩, rfl⟩
              show W.Go p l e _ _ m _ below meth c _ _ _ _ _ _ (mkF m 396 #[.val (.int p0), .val (.int p1), .val (.int p2), .val (.int p3), .val (.int p4), .val (.int p5), .val (.int v2), .val (.int kb), .val (.int v4), .val (.int v7), .val (.int v10), .val (.int v12), .val (.int kf), .val (.int b0), .val (.int b1), .val (.int b2), .val (.int lb), .val (.ref r13), .val (.ref r14), .val (.ref r17), .val (.ref r22), .val (.ref b24), .val (.ref b36), .val (.int ex)] [(.int wr)])
              refine W.iload C at_396 rfl rfl ?_
              refine W.icmp C (pc' := 405) (pn := 401) at_398 (by decide) rfl rfl (W.q_ne wr ex) (fun hc398 => ?_) (fun hc398 => ?_)
              · exfalso
                have hbs := own_bseq v12 v4 v7 v10 lb b0 b1 b2 r_v12 r_lb r_v4 r_v7 r_v10 r_b0 r_b1 r_b2
                have hkk : own_kind v2 k0 k1 k2 k3 k4 k5 = own_kind kb k0 k1 k2 k3 k4 k5 ↔ v2 = kb := by
                  constructor
                  · intro q
                    by_cases z : v2 = kb
                    · exact z
                    · exact absurd q (Fld.ne (own_kindF G0 G1 G2 G3 G4 G5 _ r_v2) (own_kindF G0 G1 G2 G3 G4 G5 _ r_kb) (fun e => z (Value.int.inj e)))
                  · intro q; rw [q]
                rcases gr with ⟨rfl, g⟩ | ⟨rfl, g⟩ <;> rcases hex with ⟨rfl, x⟩ | ⟨rfl, x⟩
                · exact hc398 rfl
                · exact x ⟨hkk.mp g.1, hbs.mp g.2⟩
                · exact g ⟨hkk.mpr x.1, hbs.mpr x.2⟩
                · exact hc398 rfl
              refine W.iconst C (x := (1 : Int32)) at_401 rfl rfl ?_
              refine W.goto C (pc' := 406) at_402 (by decide) rfl ?_
              refine W.retZ C (w := (1 : Int32)) (by simp) at_406 (by decide) (by decide) (by decide) (W.Lt.fin lk51) ?_
              rfl
            refine W.iload C at_329 rfl rfl ?_
            refine W.iload C at_331 rfl rfl ?_
            refine W.icmp C (pc' := 386) (pn := 336) at_333 (by decide) rfl rfl (W.q_ne v2 kb) (fun hc333 => ?_) (fun hc333 => ?_)
            · refine W.iconst C (x := (0 : Int32)) at_386 rfl rfl ?_
              refine W.istore C (Ls' := #[.val (.int p0), .val (.int p1), .val (.int p2), .val (.int p3), .val (.int p4), .val (.int p5), .val (.int v2), .val (.int kb), .val (.int v4), .val (.int v7), .val (.int v10), .val (.int v12), .val (.int kf), .val (.int b0), .val (.int b1), .val (.int b2), .val (.int lb), .val (.ref r13), .val (.ref r14), .val (.ref r17), .val (.ref r22), .val (.ref b24), .val (.ref b36), .val (.int (0 : Int32))]) at_387 rfl rfl ?_
              exact J389 _ (Or.inr ⟨rfl, fun q => hc333 q.1⟩)
            · refine W.iload C at_336 rfl rfl ?_
              refine W.iload C at_338 rfl rfl ?_
              refine W.icmp C (pc' := 386) (pn := 343) at_340 (by decide) rfl rfl (W.q_ne v12 lb) (fun hc340 => ?_) (fun hc340 => ?_)
              · refine W.iconst C (x := (0 : Int32)) at_386 rfl rfl ?_
                refine W.istore C (Ls' := #[.val (.int p0), .val (.int p1), .val (.int p2), .val (.int p3), .val (.int p4), .val (.int p5), .val (.int v2), .val (.int kb), .val (.int v4), .val (.int v7), .val (.int v10), .val (.int v12), .val (.int kf), .val (.int b0), .val (.int b1), .val (.int b2), .val (.int lb), .val (.ref r13), .val (.ref r14), .val (.ref r17), .val (.ref r22), .val (.ref b24), .val (.ref b36), .val (.int (0 : Int32))]) at_387 rfl rfl ?_
                exact J389 _ (Or.inr ⟨rfl, fun q => hc340 q.2.1⟩)
              · refine W.iload C at_343 rfl rfl ?_
                refine W.iconst C (x := (1 : Int32)) at_345 rfl rfl ?_
                refine W.icmp C (pc' := 356) (pn := 349) at_346 (by decide) rfl rfl (W.q_lt v12 (1 : Int32)) (fun hc346 => ?_) (fun hc346 => ?_)
                · refine W.iload C at_356 rfl rfl ?_
                  refine W.iconst C (x := (2 : Int32)) at_358 rfl rfl ?_
                  refine W.icmp C (pc' := 369) (pn := 362) at_359 (by decide) rfl rfl (W.q_lt v12 (2 : Int32)) (fun hc359 => ?_) (fun hc359 => ?_)
                  · refine W.iload C at_369 rfl rfl ?_
                    refine W.iconst C (x := (3 : Int32)) at_371 rfl rfl ?_
                    refine W.icmp C (pc' := 382) (pn := 375) at_372 (by decide) rfl rfl (W.q_lt v12 (3 : Int32)) (fun hc372 => ?_) (fun hc372 => ?_)
                    · refine W.iconst C (x := (1 : Int32)) at_382 rfl rfl ?_
                      refine W.goto C (pc' := 387) at_383 (by decide) rfl ?_
                      refine W.istore C (Ls' := #[.val (.int p0), .val (.int p1), .val (.int p2), .val (.int p3), .val (.int p4), .val (.int p5), .val (.int v2), .val (.int kb), .val (.int v4), .val (.int v7), .val (.int v10), .val (.int v12), .val (.int kf), .val (.int b0), .val (.int b1), .val (.int b2), .val (.int lb), .val (.ref r13), .val (.ref r14), .val (.ref r17), .val (.ref r22), .val (.ref b24), .val (.ref b36), .val (.int (1 : Int32))]) at_387 rfl rfl ?_
                      simp only [Int32.reduceToInt] at hc346
                      simp only [Int32.reduceToInt] at hc359
                      simp only [Int32.reduceToInt] at hc372
                      exact J389 _ (Or.inl ⟨rfl, hc333, hc340, Or.inl hc346, Or.inl hc359, Or.inl hc372⟩)
                    · refine W.iload C at_375 rfl rfl ?_
                      refine W.iload C at_377 rfl rfl ?_
                      refine W.icmp C (pc' := 386) (pn := 382) at_379 (by decide) rfl rfl (W.q_ne v10 b2) (fun hc379 => ?_) (fun hc379 => ?_)
                      · refine W.iconst C (x := (0 : Int32)) at_386 rfl rfl ?_
                        refine W.istore C (Ls' := #[.val (.int p0), .val (.int p1), .val (.int p2), .val (.int p3), .val (.int p4), .val (.int p5), .val (.int v2), .val (.int kb), .val (.int v4), .val (.int v7), .val (.int v10), .val (.int v12), .val (.int kf), .val (.int b0), .val (.int b1), .val (.int b2), .val (.int lb), .val (.ref r13), .val (.ref r14), .val (.ref r17), .val (.ref r22), .val (.ref b24), .val (.ref b36), .val (.int (0 : Int32))]) at_387 rfl rfl ?_
                        simp only [Int32.reduceToInt] at hc346
                        simp only [Int32.reduceToInt] at hc359
                        simp only [Int32.reduceToInt] at hc372
                        exact J389 _ (Or.inr ⟨rfl, fun q => q.2.2.2.2.elim (fun z => absurd z (by omega)) hc379⟩)
                      · refine W.iconst C (x := (1 : Int32)) at_382 rfl rfl ?_
                        refine W.goto C (pc' := 387) at_383 (by decide) rfl ?_
                        refine W.istore C (Ls' := #[.val (.int p0), .val (.int p1), .val (.int p2), .val (.int p3), .val (.int p4), .val (.int p5), .val (.int v2), .val (.int kb), .val (.int v4), .val (.int v7), .val (.int v10), .val (.int v12), .val (.int kf), .val (.int b0), .val (.int b1), .val (.int b2), .val (.int lb), .val (.ref r13), .val (.ref r14), .val (.ref r17), .val (.ref r22), .val (.ref b24), .val (.ref b36), .val (.int (1 : Int32))]) at_387 rfl rfl ?_
                        simp only [Int32.reduceToInt] at hc346
                        simp only [Int32.reduceToInt] at hc359
                        simp only [Int32.reduceToInt] at hc372
                        exact J389 _ (Or.inl ⟨rfl, hc333, hc340, Or.inl hc346, Or.inl hc359, Or.inr hc379⟩)
                  · refine W.iload C at_362 rfl rfl ?_
                    refine W.iload C at_364 rfl rfl ?_
                    refine W.icmp C (pc' := 386) (pn := 369) at_366 (by decide) rfl rfl (W.q_ne v7 b1) (fun hc366 => ?_) (fun hc366 => ?_)
                    · refine W.iconst C (x := (0 : Int32)) at_386 rfl rfl ?_
                      refine W.istore C (Ls' := #[.val (.int p0), .val (.int p1), .val (.int p2), .val (.int p3), .val (.int p4), .val (.int p5), .val (.int v2), .val (.int kb), .val (.int v4), .val (.int v7), .val (.int v10), .val (.int v12), .val (.int kf), .val (.int b0), .val (.int b1), .val (.int b2), .val (.int lb), .val (.ref r13), .val (.ref r14), .val (.ref r17), .val (.ref r22), .val (.ref b24), .val (.ref b36), .val (.int (0 : Int32))]) at_387 rfl rfl ?_
                      simp only [Int32.reduceToInt] at hc346
                      simp only [Int32.reduceToInt] at hc359
                      exact J389 _ (Or.inr ⟨rfl, fun q => q.2.2.2.1.elim (fun z => absurd z (by omega)) hc366⟩)
                    · refine W.iload C at_369 rfl rfl ?_
                      refine W.iconst C (x := (3 : Int32)) at_371 rfl rfl ?_
                      refine W.icmp C (pc' := 382) (pn := 375) at_372 (by decide) rfl rfl (W.q_lt v12 (3 : Int32)) (fun hc372 => ?_) (fun hc372 => ?_)
                      · refine W.iconst C (x := (1 : Int32)) at_382 rfl rfl ?_
                        refine W.goto C (pc' := 387) at_383 (by decide) rfl ?_
                        refine W.istore C (Ls' := #[.val (.int p0), .val (.int p1), .val (.int p2), .val (.int p3), .val (.int p4), .val (.int p5), .val (.int v2), .val (.int kb), .val (.int v4), .val (.int v7), .val (.int v10), .val (.int v12), .val (.int kf), .val (.int b0), .val (.int b1), .val (.int b2), .val (.int lb), .val (.ref r13), .val (.ref r14), .val (.ref r17), .val (.ref r22), .val (.ref b24), .val (.ref b36), .val (.int (1 : Int32))]) at_387 rfl rfl ?_
                        simp only [Int32.reduceToInt] at hc346
                        simp only [Int32.reduceToInt] at hc359
                        simp only [Int32.reduceToInt] at hc372
                        exact J389 _ (Or.inl ⟨rfl, hc333, hc340, Or.inl hc346, Or.inr hc366, Or.inl hc372⟩)
                      · refine W.iload C at_375 rfl rfl ?_
                        refine W.iload C at_377 rfl rfl ?_
                        refine W.icmp C (pc' := 386) (pn := 382) at_379 (by decide) rfl rfl (W.q_ne v10 b2) (fun hc379 => ?_) (fun hc379 => ?_)
                        · refine W.iconst C (x := (0 : Int32)) at_386 rfl rfl ?_
                          refine W.istore C (Ls' := #[.val (.int p0), .val (.int p1), .val (.int p2), .val (.int p3), .val (.int p4), .val (.int p5), .val (.int v2), .val (.int kb), .val (.int v4), .val (.int v7), .val (.int v10), .val (.int v12), .val (.int kf), .val (.int b0), .val (.int b1), .val (.int b2), .val (.int lb), .val (.ref r13), .val (.ref r14), .val (.ref r17), .val (.ref r22), .val (.ref b24), .val (.ref b36), .val (.int (0 : Int32))]) at_387 rfl rfl ?_
                          simp only [Int32.reduceToInt] at hc346
                          simp only [Int32.reduceToInt] at hc359
                          simp only [Int32.reduceToInt] at hc372
                          exact J389 _ (Or.inr ⟨rfl, fun q => q.2.2.2.2.elim (fun z => absurd z (by omega)) hc379⟩)
                        · refine W.iconst C (x := (1 : Int32)) at_382 rfl rfl ?_
                          refine W.goto C (pc' := 387) at_383 (by decide) rfl ?_
                          refine W.istore C (Ls' := #[.val (.int p0), .val (.int p1), .val (.int p2), .val (.int p3), .val (.int p4), .val (.int p5), .val (.int v2), .val (.int kb), .val (.int v4), .val (.int v7), .val (.int v10), .val (.int v12), .val (.int kf), .val (.int b0), .val (.int b1), .val (.int b2), .val (.int lb), .val (.ref r13), .val (.ref r14), .val (.ref r17), .val (.ref r22), .val (.ref b24), .val (.ref b36), .val (.int (1 : Int32))]) at_387 rfl rfl ?_
                          simp only [Int32.reduceToInt] at hc346
                          simp only [Int32.reduceToInt] at hc359
                          simp only [Int32.reduceToInt] at hc372
                          exact J389 _ (Or.inl ⟨rfl, hc333, hc340, Or.inl hc346, Or.inr hc366, Or.inr hc379⟩)
                · refine W.iload C at_349 rfl rfl ?_
                  refine W.iload C at_351 rfl rfl ?_
                  refine W.icmp C (pc' := 386) (pn := 356) at_353 (by decide) rfl rfl (W.q_ne v4 b0) (fun hc353 => ?_) (fun hc353 => ?_)
                  · refine W.iconst C (x := (0 : Int32)) at_386 rfl rfl ?_
                    refine W.istore C (Ls' := #[.val (.int p0), .val (.int p1), .val (.int p2), .val (.int p3), .val (.int p4), .val (.int p5), .val (.int v2), .val (.int kb), .val (.int v4), .val (.int v7), .val (.int v10), .val (.int v12), .val (.int kf), .val (.int b0), .val (.int b1), .val (.int b2), .val (.int lb), .val (.ref r13), .val (.ref r14), .val (.ref r17), .val (.ref r22), .val (.ref b24), .val (.ref b36), .val (.int (0 : Int32))]) at_387 rfl rfl ?_
                    simp only [Int32.reduceToInt] at hc346
                    exact J389 _ (Or.inr ⟨rfl, fun q => q.2.2.1.elim (fun z => absurd z (by omega)) hc353⟩)
                  · refine W.iload C at_356 rfl rfl ?_
                    refine W.iconst C (x := (2 : Int32)) at_358 rfl rfl ?_
                    refine W.icmp C (pc' := 369) (pn := 362) at_359 (by decide) rfl rfl (W.q_lt v12 (2 : Int32)) (fun hc359 => ?_) (fun hc359 => ?_)
                    · refine W.iload C at_369 rfl rfl ?_
                      refine W.iconst C (x := (3 : Int32)) at_371 rfl rfl ?_
                      refine W.icmp C (pc' := 382) (pn := 375) at_372 (by decide) rfl rfl (W.q_lt v12 (3 : Int32)) (fun hc372 => ?_) (fun hc372 => ?_)
                      · refine W.iconst C (x := (1 : Int32)) at_382 rfl rfl ?_
                        refine W.goto C (pc' := 387) at_383 (by decide) rfl ?_
                        refine W.istore C (Ls' := #[.val (.int p0), .val (.int p1), .val (.int p2), .val (.int p3), .val (.int p4), .val (.int p5), .val (.int v2), .val (.int kb), .val (.int v4), .val (.int v7), .val (.int v10), .val (.int v12), .val (.int kf), .val (.int b0), .val (.int b1), .val (.int b2), .val (.int lb), .val (.ref r13), .val (.ref r14), .val (.ref r17), .val (.ref r22), .val (.ref b24), .val (.ref b36), .val (.int (1 : Int32))]) at_387 rfl rfl ?_
                        simp only [Int32.reduceToInt] at hc346
                        simp only [Int32.reduceToInt] at hc359
                        simp only [Int32.reduceToInt] at hc372
                        exact J389 _ (Or.inl ⟨rfl, hc333, hc340, Or.inr hc353, Or.inl hc359, Or.inl hc372⟩)
                      · refine W.iload C at_375 rfl rfl ?_
                        refine W.iload C at_377 rfl rfl ?_
                        refine W.icmp C (pc' := 386) (pn := 382) at_379 (by decide) rfl rfl (W.q_ne v10 b2) (fun hc379 => ?_) (fun hc379 => ?_)
                        · refine W.iconst C (x := (0 : Int32)) at_386 rfl rfl ?_
                          refine W.istore C (Ls' := #[.val (.int p0), .val (.int p1), .val (.int p2), .val (.int p3), .val (.int p4), .val (.int p5), .val (.int v2), .val (.int kb), .val (.int v4), .val (.int v7), .val (.int v10), .val (.int v12), .val (.int kf), .val (.int b0), .val (.int b1), .val (.int b2), .val (.int lb), .val (.ref r13), .val (.ref r14), .val (.ref r17), .val (.ref r22), .val (.ref b24), .val (.ref b36), .val (.int (0 : Int32))]) at_387 rfl rfl ?_
                          simp only [Int32.reduceToInt] at hc346
                          simp only [Int32.reduceToInt] at hc359
                          simp only [Int32.reduceToInt] at hc372
                          exact J389 _ (Or.inr ⟨rfl, fun q => q.2.2.2.2.elim (fun z => absurd z (by omega)) hc379⟩)
                        · refine W.iconst C (x := (1 : Int32)) at_382 rfl rfl ?_
                          refine W.goto C (pc' := 387) at_383 (by decide) rfl ?_
                          refine W.istore C (Ls' := #[.val (.int p0), .val (.int p1), .val (.int p2), .val (.int p3), .val (.int p4), .val (.int p5), .val (.int v2), .val (.int kb), .val (.int v4), .val (.int v7), .val (.int v10), .val (.int v12), .val (.int kf), .val (.int b0), .val (.int b1), .val (.int b2), .val (.int lb), .val (.ref r13), .val (.ref r14), .val (.ref r17), .val (.ref r22), .val (.ref b24), .val (.ref b36), .val (.int (1 : Int32))]) at_387 rfl rfl ?_
                          simp only [Int32.reduceToInt] at hc346
                          simp only [Int32.reduceToInt] at hc359
                          simp only [Int32.reduceToInt] at hc372
                          exact J389 _ (Or.inl ⟨rfl, hc333, hc340, Or.inr hc353, Or.inl hc359, Or.inr hc379⟩)
                    · refine W.iload C at_362 rfl rfl ?_
                      refine W.iload C at_364 rfl rfl ?_
                      refine W.icmp C (pc' := 386) (pn := 369) at_366 (by decide) rfl rfl (W.q_ne v7 b1) (fun hc366 => ?_) (fun hc366 => ?_)
                      · refine W.iconst C (x := (0 : Int32)) at_386 rfl rfl ?_
                        refine W.istore C (Ls' := #[.val (.int p0), .val (.int p1), .val (.int p2), .val (.int p3), .val (.int p4), .val (.int p5), .val (.int v2), .val (.int kb), .val (.int v4), .val (.int v7), .val (.int v10), .val (.int v12), .val (.int kf), .val (.int b0), .val (.int b1), .val (.int b2), .val (.int lb), .val (.ref r13), .val (.ref r14), .val (.ref r17), .val (.ref r22), .val (.ref b24), .val (.ref b36), .val (.int (0 : Int32))]) at_387 rfl rfl ?_
                        simp only [Int32.reduceToInt] at hc346
                        simp only [Int32.reduceToInt] at hc359
                        exact J389 _ (Or.inr ⟨rfl, fun q => q.2.2.2.1.elim (fun z => absurd z (by omega)) hc366⟩)
                      · refine W.iload C at_369 rfl rfl ?_
                        refine W.iconst C (x := (3 : Int32)) at_371 rfl rfl ?_
                        refine W.icmp C (pc' := 382) (pn := 375) at_372 (by decide) rfl rfl (W.q_lt v12 (3 : Int32)) (fun hc372 => ?_) (fun hc372 => ?_)
                        · refine W.iconst C (x := (1 : Int32)) at_382 rfl rfl ?_
                          refine W.goto C (pc' := 387) at_383 (by decide) rfl ?_
                          refine W.istore C (Ls' := #[.val (.int p0), .val (.int p1), .val (.int p2), .val (.int p3), .val (.int p4), .val (.int p5), .val (.int v2), .val (.int kb), .val (.int v4), .val (.int v7), .val (.int v10), .val (.int v12), .val (.int kf), .val (.int b0), .val (.int b1), .val (.int b2), .val (.int lb), .val (.ref r13), .val (.ref r14), .val (.ref r17), .val (.ref r22), .val (.ref b24), .val (.ref b36), .val (.int (1 : Int32))]) at_387 rfl rfl ?_
                          simp only [Int32.reduceToInt] at hc346
                          simp only [Int32.reduceToInt] at hc359
                          simp only [Int32.reduceToInt] at hc372
                          exact J389 _ (Or.inl ⟨rfl, hc333, hc340, Or.inr hc353, Or.inr hc366, Or.inl hc372⟩)
                        · refine W.iload C at_375 rfl rfl ?_
                          refine W.iload C at_377 rfl rfl ?_
                          refine W.icmp C (pc' := 386) (pn := 382) at_379 (by decide) rfl rfl (W.q_ne v10 b2) (fun hc379 => ?_) (fun hc379 => ?_)
                          · refine W.iconst C (x := (0 : Int32)) at_386 rfl rfl ?_
                            refine W.istore C (Ls' := #[.val (.int p0), .val (.int p1), .val (.int p2), .val (.int p3), .val (.int p4), .val (.int p5), .val (.int v2), .val (.int kb), .val (.int v4), .val (.int v7), .val (.int v10), .val (.int v12), .val (.int kf), .val (.int b0), .val (.int b1), .val (.int b2), .val (.int lb), .val (.ref r13), .val (.ref r14), .val (.ref r17), .val (.ref r22), .val (.ref b24), .val (.ref b36), .val (.int (0 : Int32))]) at_387 rfl rfl ?_
                            simp only [Int32.reduceToInt] at hc346
                            simp only [Int32.reduceToInt] at hc359
                            simp only [Int32.reduceToInt] at hc372
                            exact J389 _ (Or.inr ⟨rfl, fun q => q.2.2.2.2.elim (fun z => absurd z (by omega)) hc379⟩)
                          · refine W.iconst C (x := (1 : Int32)) at_382 rfl rfl ?_
                            refine W.goto C (pc' := 387) at_383 (by decide) rfl ?_
                            refine W.istore C (Ls' := #[.val (.int p0), .val (.int p1), .val (.int p2), .val (.int p3), .val (.int p4), .val (.int p5), .val (.int v2), .val (.int kb), .val (.int v4), .val (.int v7), .val (.int v10), .val (.int v12), .val (.int kf), .val (.int b0), .val (.int b1), .val (.int b2), .val (.int lb), .val (.ref r13), .val (.ref r14), .val (.ref r17), .val (.ref r22), .val (.ref b24), .val (.ref b36), .val (.int (1 : Int32))]) at_387 rfl rfl ?_
                            simp only [Int32.reduceToInt] at hc346
                            simp only [Int32.reduceToInt] at hc359
                            simp only [Int32.reduceToInt] at hc372
                            exact J389 _ (Or.inl ⟨rfl, hc333, hc340, Or.inr hc353, Or.inr hc366, Or.inr hc379⟩)
          · refine W.ldcL C (vs := []) (z := (0 : Int32)) (nn := 0) lk18 (hw _ (List.mem_of_getElem? (i := 111) rfl)) (List.mem_of_getElem? (i := 0) rfl) tx_0 (by decide) (by decide) at_252 rfl txl_0 (by decide) (by decide) (by decide) (k' := 16) (n' := 33) rfl rfl ?_
            intro vm57 k57 h57 a57 b57 kc_b57 C LT57 E57 X57 Fc57 Fv57 V57 SF57 NE57
            refine W.goto C (pc' := 269) at_254 (by decide) rfl ?_
            refine W.astore C (Ls' := #[.val (.int p0), .val (.int p1), .val (.int p2), .val (.int p3), .val (.int p4), .val (.int p5), .val (.int v2), .val (.int kb), .val (.int v4), .val (.int v7), .val (.int v10), .val (.int v12), .val (.int kf), .val (.int b0), .val (.int b1), .val (.int b2), .val (.int lb), .val (.ref r13), .val (.ref r14), .val (.ref r17), .val (.ref a57), .unset, .unset, .unset]) at_269 rfl rfl rfl ?_
            refine W.new C (hw _ (List.mem_of_getElem? (i := 43) rfl)) (hw _ (List.mem_of_getElem? (i := 44) rfl)) (hw _ (List.mem_of_getElem? (i := 45) rfl)) at_271 rfl (by decide) (by decide) (k' := 17) (n' := 37) rfl rfl ?_
            intro h58 b58 gb58 g0_b58 E58 Ab58 Db58
            have ne_r13_b58 : r13 ≠ b58 := Nat.ne_of_lt (by rw [gb58]; exact (((O13.1.keep K14).keep K17).ext E57).lt)
            have ne_b13_b58 : b13 ≠ b58 := Nat.ne_of_lt (by rw [gb58]; exact (((O13.2.2.2.keep K14 nin0).keep K17 nin0).ext E57).lt)
            have ne_r14_b58 : r14 ≠ b58 := Nat.ne_of_lt (by rw [gb58]; exact ((O14.1.keep K17).ext E57).lt)
            have ne_b14_b58 : b14 ≠ b58 := Nat.ne_of_lt (by rw [gb58]; exact ((O14.2.2.2.keep K17 nin0).ext E57).lt)
            have ne_r17_b58 : r17 ≠ b58 := Nat.ne_of_lt (by rw [gb58]; exact (O17.1.ext E57).lt)
            have ne_b17_b58 : b17 ≠ b58 := Nat.ne_of_lt (by rw [gb58]; exact (O17.2.2.2.ext E57).lt)
            have ne_a57_b58 : a57 ≠ b58 := Nat.ne_of_lt (by rw [gb58]; exact X57.lt)
            have ne_b57_b58 : b57 ≠ b58 := Nat.ne_of_lt (by rw [gb58]; exact V57.lt)
            have sn_b58 := LT57.sext E58 (Safe.new (Nat.le_of_eq gb58.symm))
            have Fb58_kind : Fld Z h58 b58 "com/example/termwright/termwright/Heading" "kind" "Lcom/example/termwright/termwright/OutlineNode$Kind;" .null := Db58 (Or.inr (hw _ (List.mem_of_getElem? (i := 73) rfl))) (ty := (.object "com/example/termwright/termwright/OutlineNode$Kind")) (by decide)
            have Fb58_number : Fld Z h58 b58 "com/example/termwright/termwright/Heading" "number" "Ljava/lang/String;" .null := Db58 (Or.inr (hw _ (List.mem_of_getElem? (i := 75) rfl))) (ty := (.object "java/lang/String")) (by decide)
            have Fb58_title : Fld Z h58 b58 "com/example/termwright/termwright/Heading" "title" "Ljava/lang/String;" .null := Db58 (Or.inr (hw _ (List.mem_of_getElem? (i := 77) rfl))) (ty := (.object "java/lang/String")) (by decide)
            have Fb58_span : Fld Z h58 b58 "com/example/termwright/termwright/Heading" "span" "Lcom/example/termwright/termwright/Document$Span;" .null := Db58 (Or.inr (hw _ (List.mem_of_getElem? (i := 79) rfl))) (ty := (.object "com/example/termwright/termwright/Document$Span")) (by decide)
            refine W.dup C at_274 rfl rfl ?_
            refine W.iload C at_275 rfl rfl ?_
            refine W.callS C (y := (⟨"com/example/termwright/termwright/HeadingHeadsSameDivisionPinLaw", "kind", "(I)Lcom/example/termwright/termwright/OutlineNode$Kind;"⟩ : MethodName)) (hw _ (List.mem_of_getElem? (i := 46) rfl)) (hw _ (List.mem_of_getElem? (i := 47) rfl)) (hw _ (List.mem_of_getElem? (i := 3) rfl)) (hw _ (List.mem_of_getElem? (i := 48) rfl)) (by decide) (fun hz => rmK l Z a0 hw [] v2 k0 k1 k2 k3 k4 k5 h58 n0 hz (T0.ext (((((OO.keep K13 all0).keep K14 all0).keep K17 all0).ext E57).ext E58).2) (T1.ext (((((OO.keep K13 all0).keep K14 all0).keep K17 all0).ext E57).ext E58).2) (T2.ext (((((OO.keep K13 all0).keep K14 all0).keep K17 all0).ext E57).ext E58).2) (T3.ext (((((OO.keep K13 all0).keep K14 all0).keep K17 all0).ext E57).ext E58).2) (T4.ext (((((OO.keep K13 all0).keep K14 all0).keep K17 all0).ext E57).ext E58).2) (T5.ext (((((OO.keep K13 all0).keep K14 all0).keep K17 all0).ext E57).ext E58).2)) at_277 rfl rfl pd_13 rfl (argsL := [(.int v2)]) (rest := [(.ref b58), (.ref b58)]) rfl (W := 2) rfl (by decide) (by decide) (by decide) (by decide) (k' := 17) (n' := 37) rfl rfl ?_
            rintro h59 _ ⟨rfl, rfl⟩
            show W.Go p l e _ _ m _ below meth c _ _ _ _ _ _ (mkF m 280 #[.val (.int p0), .val (.int p1), .val (.int p2), .val (.int p3), .val (.int p4), .val (.int p5), .val (.int v2), .val (.int kb), .val (.int v4), .val (.int v7), .val (.int v10), .val (.int v12), .val (.int kf), .val (.int b0), .val (.int b1), .val (.int b2), .val (.int lb), .val (.ref r13), .val (.ref r14), .val (.ref r17), .val (.ref a57), .unset, .unset, .unset] [(.ref (own_kind v2 k0 k1 k2 k3 k4 k5)), (.ref b58), (.ref b58)])
            refine W.aload C at_280 rfl rfl rfl ?_
            refine W.aload C at_282 rfl rfl rfl ?_
            refine W.new C (hw _ (List.mem_of_getElem? (i := 52) rfl)) (hw _ (List.mem_of_getElem? (i := 53) rfl)) (hw _ (List.mem_of_getElem? (i := 54) rfl)) at_284 rfl (by decide) (by decide) (k' := 18) (n' := 39) rfl rfl ?_
            intro h60 b60 gb60 g0_b60 E60 Ab60 Db60
            have ne_r13_b60 : r13 ≠ b60 := Nat.ne_of_lt (by rw [gb60]; exact ((((O13.1.keep K14).keep K17).ext E57).ext E58).lt)
            have ne_b13_b60 : b13 ≠ b60 := Nat.ne_of_lt (by rw [gb60]; exact ((((O13.2.2.2.keep K14 nin0).keep K17 nin0).ext E57).ext E58).lt)
            have ne_r14_b60 : r14 ≠ b60 := Nat.ne_of_lt (by rw [gb60]; exact (((O14.1.keep K17).ext E57).ext E58).lt)
            have ne_b14_b60 : b14 ≠ b60 := Nat.ne_of_lt (by rw [gb60]; exact (((O14.2.2.2.keep K17 nin0).ext E57).ext E58).lt)
            have ne_r17_b60 : r17 ≠ b60 := Nat.ne_of_lt (by rw [gb60]; exact ((O17.1.ext E57).ext E58).lt)
            have ne_b17_b60 : b17 ≠ b60 := Nat.ne_of_lt (by rw [gb60]; exact ((O17.2.2.2.ext E57).ext E58).lt)
            have ne_a57_b60 : a57 ≠ b60 := Nat.ne_of_lt (by rw [gb60]; exact (X57.ext E58).lt)
            have ne_b57_b60 : b57 ≠ b60 := Nat.ne_of_lt (by rw [gb60]; exact (V57.ext E58).lt)
            have ne_b58_b60 : b58 ≠ b60 := Nat.ne_of_lt (by rw [gb60]; exact Ab58.lt)
            have sn_b60 := (LT57.ext E58).sext E60 (Safe.new (Nat.le_of_eq gb60.symm))
            have sx61 := (LT57.ext E58).sext E60 sn_b58
            have Fb60_start : Fld Z h60 b60 "com/example/termwright/termwright/Document$Span" "start" "I" (.int (0 : Int32)) := Db60 (Or.inr (hw _ (List.mem_of_getElem? (i := 65) rfl))) (ty := .int) (by decide)
            have Fb60_end : Fld Z h60 b60 "com/example/termwright/termwright/Document$Span" "end" "I" (.int (0 : Int32)) := Db60 (Or.inr (hw _ (List.mem_of_getElem? (i := 67) rfl))) (ty := .int) (by decide)
            refine W.dup C at_287 rfl rfl ?_
            refine W.iload C at_288 rfl rfl ?_
            refine W.iload C at_290 rfl rfl ?_
            refine W.callSp C (y := (⟨"com/example/termwright/termwright/Document$Span", "<init>", "(II)V"⟩ : MethodName)) (a := b60) rfl (hw _ (List.mem_of_getElem? (i := 55) rfl)) (hw _ (List.mem_of_getElem? (i := 56) rfl)) (hw _ (List.mem_of_getElem? (i := 54) rfl)) (hw _ (List.mem_of_getElem? (i := 57) rfl)) (by decide) (fun hz => rm10 l Z a0 hw [] b60 p4 p5 h60 n0 hz ⟨Ab60, Fb60_start, Fb60_end⟩ g0_b60) at_292 rfl rfl pd_14 rfl (argsL := [(.int p4), (.int p5)]) (rest := [(.ref b60), (.ref r17), (.ref r13), (.ref (own_kind v2 k0 k1 k2 k3 k4 k5)), (.ref b58), (.ref b58)]) rfl (W := 6) rfl (by decide) (by decide) (by decide) (by decide) (k' := 18) (n' := 39) rfl rfl ?_
            rintro h62 _ ⟨rfl, K62, O62⟩
            have lk63 := ((LT57.ext E58).ext E60).keep K62 (allS sn_b60 all0)
            have sk64 := ((LT57.ext E58).ext E60).skeep K62 (allS sn_b60 all0) sx61
            have sk65 := ((LT57.ext E58).ext E60).skeep K62 (allS sn_b60 all0) sn_b60
            show W.Go p l e _ _ m _ below meth c _ _ _ _ _ _ (mkF m 295 #[.val (.int p0), .val (.int p1), .val (.int p2), .val (.int p3), .val (.int p4), .val (.int p5), .val (.int v2), .val (.int kb), .val (.int v4), .val (.int v7), .val (.int v10), .val (.int v12), .val (.int kf), .val (.int b0), .val (.int b1), .val (.int b2), .val (.int lb), .val (.ref r13), .val (.ref r14), .val (.ref r17), .val (.ref a57), .unset, .unset, .unset] [(.ref b60), (.ref r17), (.ref r13), (.ref (own_kind v2 k0 k1 k2 k3 k4 k5)), (.ref b58), (.ref b58)])
            refine W.callSp C (y := (⟨"com/example/termwright/termwright/Heading", "<init>", "(Lcom/example/termwright/termwright/OutlineNode$Kind;Ljava/lang/String;Ljava/lang/String;Lcom/example/termwright/termwright/Document$Span;)V"⟩ : MethodName)) (a := b58) rfl (hw _ (List.mem_of_getElem? (i := 68) rfl)) (hw _ (List.mem_of_getElem? (i := 69) rfl)) (hw _ (List.mem_of_getElem? (i := 45) rfl)) (hw _ (List.mem_of_getElem? (i := 70) rfl)) (by decide) (fun hz => rm12 l Z a0 hw [] b58 (own_kind v2 k0 k1 k2 k3 k4 k5) r13 r17 b60 h62 n0 hz ⟨((Ab58.ext E60).keep K62), ((Fb58_kind.ext E60).keep K62 (ninS ne_b58_b60 nin0)), ((Fb58_number.ext E60).keep K62 (ninS ne_b58_b60 nin0)), ((Fb58_title.ext E60).keep K62 (ninS ne_b58_b60 nin0)), ((Fb58_span.ext E60).keep K62 (ninS ne_b58_b60 nin0))⟩ g0_b58) at_295 rfl rfl pd_15 rfl (argsL := [(.ref (own_kind v2 k0 k1 k2 k3 k4 k5)), (.ref r13), (.ref r17), (.ref b60)]) (rest := [(.ref b58)]) rfl (W := 1) rfl (by decide) (by decide) (by decide) (by decide) (k' := 18) (n' := 39) rfl rfl ?_
            rintro h66 _ ⟨rfl, K66, O66⟩
            have lk67 := lk63.keep K66 (allS sk64 all0)
            have sk68 := lk63.skeep K66 (allS sk64 all0) sk64
            have sk69 := lk63.skeep K66 (allS sk64 all0) sk65
            show W.Go p l e _ _ m _ below meth c _ _ _ _ _ _ (mkF m 298 #[.val (.int p0), .val (.int p1), .val (.int p2), .val (.int p3), .val (.int p4), .val (.int p5), .val (.int v2), .val (.int kb), .val (.int v4), .val (.int v7), .val (.int v10), .val (.int v12), .val (.int kf), .val (.int b0), .val (.int b1), .val (.int b2), .val (.int lb), .val (.ref r13), .val (.ref r14), .val (.ref r17), .val (.ref a57), .unset, .unset, .unset] [(.ref b58)])
            refine W.astore C (Ls' := #[.val (.int p0), .val (.int p1), .val (.int p2), .val (.int p3), .val (.int p4), .val (.int p5), .val (.int v2), .val (.int kb), .val (.int v4), .val (.int v7), .val (.int v10), .val (.int v12), .val (.int kf), .val (.int b0), .val (.int b1), .val (.int b2), .val (.int lb), .val (.ref r13), .val (.ref r14), .val (.ref r17), .val (.ref a57), .val (.ref b58), .unset, .unset]) at_298 rfl rfl rfl ?_
            refine W.new C (hw _ (List.mem_of_getElem? (i := 43) rfl)) (hw _ (List.mem_of_getElem? (i := 44) rfl)) (hw _ (List.mem_of_getElem? (i := 45) rfl)) at_300 rfl (by decide) (by decide) (k' := 19) (n' := 43) rfl rfl ?_
            intro h70 b70 gb70 g0_b70 E70 Ab70 Db70
            have ne_r13_b70 : r13 ≠ b70 := Nat.ne_of_lt (by rw [gb70]; exact (((((((O13.1.keep K14).keep K17).ext E57).ext E58).ext E60).keep K62).keep K66).lt)
            have ne_b13_b70 : b13 ≠ b70 := Nat.ne_of_lt (by rw [gb70]; exact (((((((O13.2.2.2.keep K14 nin0).keep K17 nin0).ext E57).ext E58).ext E60).keep K62 (ninS ne_b13_b60 nin0)).keep K66 (ninS ne_b13_b58 nin0)).lt)
            have ne_r14_b70 : r14 ≠ b70 := Nat.ne_of_lt (by rw [gb70]; exact ((((((O14.1.keep K17).ext E57).ext E58).ext E60).keep K62).keep K66).lt)
            have ne_b14_b70 : b14 ≠ b70 := Nat.ne_of_lt (by rw [gb70]; exact ((((((O14.2.2.2.keep K17 nin0).ext E57).ext E58).ext E60).keep K62 (ninS ne_b14_b60 nin0)).keep K66 (ninS ne_b14_b58 nin0)).lt)
            have ne_r17_b70 : r17 ≠ b70 := Nat.ne_of_lt (by rw [gb70]; exact (((((O17.1.ext E57).ext E58).ext E60).keep K62).keep K66).lt)
            have ne_b17_b70 : b17 ≠ b70 := Nat.ne_of_lt (by rw [gb70]; exact (((((O17.2.2.2.ext E57).ext E58).ext E60).keep K62 (ninS ne_b17_b60 nin0)).keep K66 (ninS ne_b17_b58 nin0)).lt)
            have ne_a57_b70 : a57 ≠ b70 := Nat.ne_of_lt (by rw [gb70]; exact ((((X57.ext E58).ext E60).keep K62).keep K66).lt)
            have ne_b57_b70 : b57 ≠ b70 := Nat.ne_of_lt (by rw [gb70]; exact ((((V57.ext E58).ext E60).keep K62 (ninS ne_b57_b60 nin0)).keep K66 (ninS ne_b57_b58 nin0)).lt)
            have ne_b58_b70 : b58 ≠ b70 := Nat.ne_of_lt (by rw [gb70]; exact O66.1.lt)
            have ne_b60_b70 : b60 ≠ b70 := Nat.ne_of_lt (by rw [gb70]; exact (O62.1.keep K66).lt)
            have sn_b70 := lk67.sext E70 (Safe.new (Nat.le_of_eq gb70.symm))
            have sx71 := lk67.sext E70 sk68
            have sx72 := lk67.sext E70 sk69
            have Fb70_kind : Fld Z h70 b70 "com/example/termwright/termwright/Heading" "kind" "Lcom/example/termwright/termwright/OutlineNode$Kind;" .null := Db70 (Or.inr (hw _ (List.mem_of_getElem? (i := 73) rfl))) (ty := (.object "com/example/termwright/termwright/OutlineNode$Kind")) (by decide)
            have Fb70_number : Fld Z h70 b70 "com/example/termwright/termwright/Heading" "number" "Ljava/lang/String;" .null := Db70 (Or.inr (hw _ (List.mem_of_getElem? (i := 75) rfl))) (ty := (.object "java/lang/String")) (by decide)
            have Fb70_title : Fld Z h70 b70 "com/example/termwright/termwright/Heading" "title" "Ljava/lang/String;" .null := Db70 (Or.inr (hw _ (List.mem_of_getElem? (i := 77) rfl))) (ty := (.object "java/lang/String")) (by decide)
            have Fb70_span : Fld Z h70 b70 "com/example/termwright/termwright/Heading" "span" "Lcom/example/termwright/termwright/Document$Span;" .null := Db70 (Or.inr (hw _ (List.mem_of_getElem? (i := 79) rfl))) (ty := (.object "com/example/termwright/termwright/Document$Span")) (by decide)
            refine W.dup C at_303 rfl rfl ?_
            refine W.iload C at_304 rfl rfl ?_
            refine W.callS C (y := (⟨"com/example/termwright/termwright/HeadingHeadsSameDivisionPinLaw", "kind", "(I)Lcom/example/termwright/termwright/OutlineNode$Kind;"⟩ : MethodName)) (hw _ (List.mem_of_getElem? (i := 46) rfl)) (hw _ (List.mem_of_getElem? (i := 47) rfl)) (hw _ (List.mem_of_getElem? (i := 3) rfl)) (hw _ (List.mem_of_getElem? (i := 48) rfl)) (by decide) (fun hz => rmK l Z a0 hw [] kb k0 k1 k2 k3 k4 k5 h70 n0 hz (T0.ext (((((((((OO.keep K13 all0).keep K14 all0).keep K17 all0).ext E57).ext E58).ext E60).keep K62 (allS g0_b60 all0)).keep K66 (allS g0_b58 all0)).ext E70).2) (T1.ext (((((((((OO.keep K13 all0).keep K14 all0).keep K17 all0).ext E57).ext E58).ext E60).keep K62 (allS g0_b60 all0)).keep K66 (allS g0_b58 all0)).ext E70).2) (T2.ext (((((((((OO.keep K13 all0).keep K14 all0).keep K17 all0).ext E57).ext E58).ext E60).keep K62 (allS g0_b60 all0)).keep K66 (allS g0_b58 all0)).ext E70).2) (T3.ext (((((((((OO.keep K13 all0).keep K14 all0).keep K17 all0).ext E57).ext E58).ext E60).keep K62 (allS g0_b60 all0)).keep K66 (allS g0_b58 all0)).ext E70).2) (T4.ext (((((((((OO.keep K13 all0).keep K14 all0).keep K17 all0).ext E57).ext E58).ext E60).keep K62 (allS g0_b60 all0)).keep K66 (allS g0_b58 all0)).ext E70).2) (T5.ext (((((((((OO.keep K13 all0).keep K14 all0).keep K17 all0).ext E57).ext E58).ext E60).keep K62 (allS g0_b60 all0)).keep K66 (allS g0_b58 all0)).ext E70).2)) at_306 rfl rfl pd_13 rfl (argsL := [(.int kb)]) (rest := [(.ref b70), (.ref b70)]) rfl (W := 2) rfl (by decide) (by decide) (by decide) (by decide) (k' := 19) (n' := 43) rfl rfl ?_
            rintro h73 _ ⟨rfl, rfl⟩
            show W.Go p l e _ _ m _ below meth c _ _ _ _ _ _ (mkF m 309 #[.val (.int p0), .val (.int p1), .val (.int p2), .val (.int p3), .val (.int p4), .val (.int p5), .val (.int v2), .val (.int kb), .val (.int v4), .val (.int v7), .val (.int v10), .val (.int v12), .val (.int kf), .val (.int b0), .val (.int b1), .val (.int b2), .val (.int lb), .val (.ref r13), .val (.ref r14), .val (.ref r17), .val (.ref a57), .val (.ref b58), .unset, .unset] [(.ref (own_kind kb k0 k1 k2 k3 k4 k5)), (.ref b70), (.ref b70)])
            refine W.aload C at_309 rfl rfl rfl ?_
            refine W.aload C at_311 rfl rfl rfl ?_
            refine W.new C (hw _ (List.mem_of_getElem? (i := 52) rfl)) (hw _ (List.mem_of_getElem? (i := 53) rfl)) (hw _ (List.mem_of_getElem? (i := 54) rfl)) at_313 rfl (by decide) (by decide) (k' := 20) (n' := 45) rfl rfl ?_
            intro h74 b74 gb74 g0_b74 E74 Ab74 Db74
            have ne_r13_b74 : r13 ≠ b74 := Nat.ne_of_lt (by rw [gb74]; exact ((((((((O13.1.keep K14).keep K17).ext E57).ext E58).ext E60).keep K62).keep K66).ext E70).lt)
            have ne_b13_b74 : b13 ≠ b74 := Nat.ne_of_lt (by rw [gb74]; exact ((((((((O13.2.2.2.keep K14 nin0).keep K17 nin0).ext E57).ext E58).ext E60).keep K62 (ninS ne_b13_b60 nin0)).keep K66 (ninS ne_b13_b58 nin0)).ext E70).lt)
            have ne_r14_b74 : r14 ≠ b74 := Nat.ne_of_lt (by rw [gb74]; exact (((((((O14.1.keep K17).ext E57).ext E58).ext E60).keep K62).keep K66).ext E70).lt)
            have ne_b14_b74 : b14 ≠ b74 := Nat.ne_of_lt (by rw [gb74]; exact (((((((O14.2.2.2.keep K17 nin0).ext E57).ext E58).ext E60).keep K62 (ninS ne_b14_b60 nin0)).keep K66 (ninS ne_b14_b58 nin0)).ext E70).lt)
            have ne_r17_b74 : r17 ≠ b74 := Nat.ne_of_lt (by rw [gb74]; exact ((((((O17.1.ext E57).ext E58).ext E60).keep K62).keep K66).ext E70).lt)
            have ne_b17_b74 : b17 ≠ b74 := Nat.ne_of_lt (by rw [gb74]; exact ((((((O17.2.2.2.ext E57).ext E58).ext E60).keep K62 (ninS ne_b17_b60 nin0)).keep K66 (ninS ne_b17_b58 nin0)).ext E70).lt)
            have ne_a57_b74 : a57 ≠ b74 := Nat.ne_of_lt (by rw [gb74]; exact (((((X57.ext E58).ext E60).keep K62).keep K66).ext E70).lt)
            have ne_b57_b74 : b57 ≠ b74 := Nat.ne_of_lt (by rw [gb74]; exact (((((V57.ext E58).ext E60).keep K62 (ninS ne_b57_b60 nin0)).keep K66 (ninS ne_b57_b58 nin0)).ext E70).lt)
            have ne_b58_b74 : b58 ≠ b74 := Nat.ne_of_lt (by rw [gb74]; exact (O66.1.ext E70).lt)
            have ne_b60_b74 : b60 ≠ b74 := Nat.ne_of_lt (by rw [gb74]; exact ((O62.1.keep K66).ext E70).lt)
            have ne_b70_b74 : b70 ≠ b74 := Nat.ne_of_lt (by rw [gb74]; exact Ab70.lt)
            have sn_b74 := (lk67.ext E70).sext E74 (Safe.new (Nat.le_of_eq gb74.symm))
            have sx75 := (lk67.ext E70).sext E74 sx71
            have sx76 := (lk67.ext E70).sext E74 sx72
            have sx77 := (lk67.ext E70).sext E74 sn_b70
            have Fb74_start : Fld Z h74 b74 "com/example/termwright/termwright/Document$Span" "start" "I" (.int (0 : Int32)) := Db74 (Or.inr (hw _ (List.mem_of_getElem? (i := 65) rfl))) (ty := .int) (by decide)
            have Fb74_end : Fld Z h74 b74 "com/example/termwright/termwright/Document$Span" "end" "I" (.int (0 : Int32)) := Db74 (Or.inr (hw _ (List.mem_of_getElem? (i := 67) rfl))) (ty := .int) (by decide)
            refine W.dup C at_316 rfl rfl ?_
            refine W.iload C at_317 rfl rfl ?_
            refine W.iload C at_319 rfl rfl ?_
            refine W.callSp C (y := (⟨"com/example/termwright/termwright/Document$Span", "<init>", "(II)V"⟩ : MethodName)) (a := b74) rfl (hw _ (List.mem_of_getElem? (i := 55) rfl)) (hw _ (List.mem_of_getElem? (i := 56) rfl)) (hw _ (List.mem_of_getElem? (i := 54) rfl)) (hw _ (List.mem_of_getElem? (i := 57) rfl)) (by decide) (fun hz => rm10 l Z a0 hw [] b74 p5 p4 h74 n0 hz ⟨Ab74, Fb74_start, Fb74_end⟩ g0_b74) at_321 rfl rfl pd_14 rfl (argsL := [(.int p5), (.int p4)]) (rest := [(.ref b74), (.ref a57), (.ref r14), (.ref (own_kind kb k0 k1 k2 k3 k4 k5)), (.ref b70), (.ref b70)]) rfl (W := 6) rfl (by decide) (by decide) (by decide) (by decide) (k' := 20) (n' := 45) rfl rfl ?_
            rintro h78 _ ⟨rfl, K78, O78⟩
            have lk79 := ((lk67.ext E70).ext E74).keep K78 (allS sn_b74 all0)
            have sk80 := ((lk67.ext E70).ext E74).skeep K78 (allS sn_b74 all0) sx75
            have sk81 := ((lk67.ext E70).ext E74).skeep K78 (allS sn_b74 all0) sx76
            have sk82 := ((lk67.ext E70).ext E74).skeep K78 (allS sn_b74 all0) sx77
            have sk83 := ((lk67.ext E70).ext E74).skeep K78 (allS sn_b74 all0) sn_b74
            show W.Go p l e _ _ m _ below meth c _ _ _ _ _ _ (mkF m 324 #[.val (.int p0), .val (.int p1), .val (.int p2), .val (.int p3), .val (.int p4), .val (.int p5), .val (.int v2), .val (.int kb), .val (.int v4), .val (.int v7), .val (.int v10), .val (.int v12), .val (.int kf), .val (.int b0), .val (.int b1), .val (.int b2), .val (.int lb), .val (.ref r13), .val (.ref r14), .val (.ref r17), .val (.ref a57), .val (.ref b58), .unset, .unset] [(.ref b74), (.ref a57), (.ref r14), (.ref (own_kind kb k0 k1 k2 k3 k4 k5)), (.ref b70), (.ref b70)])
            refine W.callSp C (y := (⟨"com/example/termwright/termwright/Heading", "<init>", "(Lcom/example/termwright/termwright/OutlineNode$Kind;Ljava/lang/String;Ljava/lang/String;Lcom/example/termwright/termwright/Document$Span;)V"⟩ : MethodName)) (a := b70) rfl (hw _ (List.mem_of_getElem? (i := 68) rfl)) (hw _ (List.mem_of_getElem? (i := 69) rfl)) (hw _ (List.mem_of_getElem? (i := 45) rfl)) (hw _ (List.mem_of_getElem? (i := 70) rfl)) (by decide) (fun hz => rm12 l Z a0 hw [] b70 (own_kind kb k0 k1 k2 k3 k4 k5) r14 a57 b74 h78 n0 hz ⟨((Ab70.ext E74).keep K78), ((Fb70_kind.ext E74).keep K78 (ninS ne_b70_b74 nin0)), ((Fb70_number.ext E74).keep K78 (ninS ne_b70_b74 nin0)), ((Fb70_title.ext E74).keep K78 (ninS ne_b70_b74 nin0)), ((Fb70_span.ext E74).keep K78 (ninS ne_b70_b74 nin0))⟩ g0_b70) at_324 rfl rfl pd_15 rfl (argsL := [(.ref (own_kind kb k0 k1 k2 k3 k4 k5)), (.ref r14), (.ref a57), (.ref b74)]) (rest := [(.ref b70)]) rfl (W := 1) rfl (by decide) (by decide) (by decide) (by decide) (k' := 20) (n' := 45) rfl rfl ?_
            rintro h84 _ ⟨rfl, K84, O84⟩
            have lk85 := lk79.keep K84 (allS sk82 all0)
            have sk86 := lk79.skeep K84 (allS sk82 all0) sk80
            have sk87 := lk79.skeep K84 (allS sk82 all0) sk81
            have sk88 := lk79.skeep K84 (allS sk82 all0) sk82
            have sk89 := lk79.skeep K84 (allS sk82 all0) sk83
            show W.Go p l e _ _ m _ below meth c _ _ _ _ _ _ (mkF m 327 #[.val (.int p0), .val (.int p1), .val (.int p2), .val (.int p3), .val (.int p4), .val (.int p5), .val (.int v2), .val (.int kb), .val (.int v4), .val (.int v7), .val (.int v10), .val (.int v12), .val (.int kf), .val (.int b0), .val (.int b1), .val (.int b2), .val (.int lb), .val (.ref r13), .val (.ref r14), .val (.ref r17), .val (.ref a57), .val (.ref b58), .unset, .unset] [(.ref b70)])
            refine W.astore C (Ls' := #[.val (.int p0), .val (.int p1), .val (.int p2), .val (.int p3), .val (.int p4), .val (.int p5), .val (.int v2), .val (.int kb), .val (.int v4), .val (.int v7), .val (.int v10), .val (.int v12), .val (.int kf), .val (.int b0), .val (.int b1), .val (.int b2), .val (.int lb), .val (.ref r13), .val (.ref r14), .val (.ref r17), .val (.ref a57), .val (.ref b58), .val (.ref b70), .unset]) at_327 rfl rfl rfl ?_
            have J389 : ∀ (ex : Int32) (hex : (ex = 1 ∧ (v2 = kb ∧ own_same v12 v4 v7 v10 lb b0 b1 b2)) ∨ (ex = 0 ∧ ¬ (v2 = kb ∧ own_same v12 v4 v7 v10 lb b0 b1 b2))), W.Go p l e room_1 (s0.setVm vm57) m #[(.int p0), (.int p1), (.int p2), (.int p3), (.int p4), (.int p5)] below meth c (fun s₂ o L => CHr Z consts_1 s0.vm s0.heap s₂.vm s₂.heap ∧ ReturnedEndW s0 o s₂ L 40 2240) n0 (fun v _ => v = some (.int 1)) h84 (20) (45) (mkF m 389 #[.val (.int p0), .val (.int p1), .val (.int p2), .val (.int p3), .val (.int p4), .val (.int p5), .val (.int v2), .val (.int kb), .val (.int v4), .val (.int v7), .val (.int v10), .val (.int v12), .val (.int kf), .val (.int b0), .val (.int b1), .val (.int b2), .val (.int lb), .val (.ref r13), .val (.ref r14), .val (.ref r17), .val (.ref a57), .val (.ref b58), .val (.ref b70), .val (.int ex)] []) := by
              intro ex hex
              refine W.aload C at_389 rfl rfl rfl ?_
              refine W.aload C at_391 rfl rfl rfl ?_
              refine W.callV C (y := (⟨"com/example/termwright/termwright/Heading", "headsSameDivision", "(Lcom/example/termwright/termwright/Heading;)Z"⟩ : MethodName)) (a := b58) (hw _ (List.mem_of_getElem? (i := 80) rfl)) (hw _ (List.mem_of_getElem? (i := 81) rfl)) (W.nf_sel C (hw _ (List.mem_of_getElem? (i := 83) rfl))) (hw _ (List.mem_of_getElem? (i := 83) rfl)) (hw _ (List.mem_of_getElem? (i := 82) rfl)) (hw _ (List.mem_of_getElem? (i := 45) rfl)) (hw _ (List.mem_of_getElem? (i := 84) rfl)) (by decide) ((((O66.1.ext E70).ext E74).keep K78).keep K84) (fun hz => rmHs l Z a0 hw [] b58 b70 (own_kind v2 k0 k1 k2 k3 k4 k5) (own_kind kb k0 k1 k2 k3 k4 k5) r13 r14 r17 a57 b60 b74 b13 b14 kb13 kb14 v12 lb cs (own_bs v12 v4 v7 v10) (own_bs lb b0 b1 b2) h84 n0 hz (SC.ext ((((((((((((OO.keep K13 all0).keep K14 all0).keep K17 all0).ext E57).ext E58).ext E60).keep K62 (allS g0_b60 all0)).keep K66 (allS g0_b58 all0)).ext E70).ext E74).keep K78 (allS g0_b74 all0)).keep K84 (allS g0_b70 all0)).2) hcs ⟨((((O66.1.ext E70).ext E74).keep K78).keep K84), ((((O66.2.1.ext E70).ext E74).keep K78 (ninS ne_b58_b74 nin0)).keep K84 (ninS ne_b58_b70 nin0)), ((((O66.2.2.1.ext E70).ext E74).keep K78 (ninS ne_b58_b74 nin0)).keep K84 (ninS ne_b58_b70 nin0)), ((((O66.2.2.2.1.ext E70).ext E74).keep K78 (ninS ne_b58_b74 nin0)).keep K84 (ninS ne_b58_b70 nin0)), ((((O66.2.2.2.2.ext E70).ext E74).keep K78 (ninS ne_b58_b74 nin0)).keep K84 (ninS ne_b58_b70 nin0))⟩ ⟨O84.1, O84.2.1, O84.2.2.1, O84.2.2.2.1, O84.2.2.2.2⟩ ⟨(((((((((((O13.1.keep K14).keep K17).ext E57).ext E58).ext E60).keep K62).keep K66).ext E70).ext E74).keep K78).keep K84), (((((((((((O13.2.1.keep K14 nin0).keep K17 nin0).ext E57).ext E58).ext E60).keep K62 (ninS ne_r13_b60 nin0)).keep K66 (ninS ne_r13_b58 nin0)).ext E70).ext E74).keep K78 (ninS ne_r13_b74 nin0)).keep K84 (ninS ne_r13_b70 nin0)), (((((((((((O13.2.2.1.keep K14 nin0).keep K17 nin0).ext E57).ext E58).ext E60).keep K62 (ninS ne_r13_b60 nin0)).keep K66 (ninS ne_r13_b58 nin0)).ext E70).ext E74).keep K78 (ninS ne_r13_b74 nin0)).keep K84 (ninS ne_r13_b70 nin0)), (((((((((((O13.2.2.2.keep K14 nin0).keep K17 nin0).ext E57).ext E58).ext E60).keep K62 (ninS ne_b13_b60 nin0)).keep K66 (ninS ne_b13_b58 nin0)).ext E70).ext E74).keep K78 (ninS ne_b13_b74 nin0)).keep K84 (ninS ne_b13_b70 nin0))⟩ ⟨((((((((((O14.1.keep K17).ext E57).ext E58).ext E60).keep K62).keep K66).ext E70).ext E74).keep K78).keep K84), ((((((((((O14.2.1.keep K17 nin0).ext E57).ext E58).ext E60).keep K62 (ninS ne_r14_b60 nin0)).keep K66 (ninS ne_r14_b58 nin0)).ext E70).ext E74).keep K78 (ninS ne_r14_b74 nin0)).keep K84 (ninS ne_r14_b70 nin0)), ((((((((((O14.2.2.1.keep K17 nin0).ext E57).ext E58).ext E60).keep K62 (ninS ne_r14_b60 nin0)).keep K66 (ninS ne_r14_b58 nin0)).ext E70).ext E74).keep K78 (ninS ne_r14_b74 nin0)).keep K84 (ninS ne_r14_b70 nin0)), ((((((((((O14.2.2.2.keep K17 nin0).ext E57).ext E58).ext E60).keep K62 (ninS ne_b14_b60 nin0)).keep K66 (ninS ne_b14_b58 nin0)).ext E70).ext E74).keep K78 (ninS ne_b14_b74 nin0)).keep K84 (ninS ne_b14_b70 nin0))⟩ (own_bsl _ _ _ _ r_v12) (own_bsl _ _ _ _ r_lb) r_v12.1 r_lb.1 (own_bsi _ _ _ _) (own_bsi _ _ _ _) (fun q => absurd q ne_r13_r14)) at_393 rfl rfl pd_16 rfl (argsL := [(.ref b70)]) (rest := []) rfl (W := 0) rfl (by decide) (by decide) (by decide) (by decide) (k' := 20) (n' := 45) rfl rfl ?_
              rintro h90 _ ⟨⟨wr, rfl, gr⟩, rfl⟩
              show W.Go p l e _ _ m _ below meth c _ _ _ _ _ _ (mkF m 396 #[.val (.int p0), .val (.int p1), .val (.int p2), .val (.int p3), .val (.int p4), .val (.int p5), .val (.int v2), .val (.int kb), .val (.int v4), .val (.int v7), .val (.int v10), .val (.int v12), .val (.int kf), .val (.int b0), .val (.int b1), .val (.int b2), .val (.int lb), .val (.ref r13), .val (.ref r14), .val (.ref r17), .val (.ref a57), .val (.ref b58), .val (.ref b70), .val (.int ex)] [(.int wr)])
              refine W.iload C at_396 rfl rfl ?_
              refine W.icmp C (pc' := 405) (pn := 401) at_398 (by decide) rfl rfl (W.q_ne wr ex) (fun hc398 => ?_) (fun hc398 => ?_)
              · exfalso
                have hbs := own_bseq v12 v4 v7 v10 lb b0 b1 b2 r_v12 r_lb r_v4 r_v7 r_v10 r_b0 r_b1 r_b2
                have hkk : own_kind v2 k0 k1 k2 k3 k4 k5 = own_kind kb k0 k1 k2 k3 k4 k5 ↔ v2 = kb := by
                  constructor
                  · intro q
                    by_cases z : v2 = kb
                    · exact z
                    · exact absurd q (Fld.ne (own_kindF G0 G1 G2 G3 G4 G5 _ r_v2) (own_kindF G0 G1 G2 G3 G4 G5 _ r_kb) (fun e => z (Value.int.inj e)))
                  · intro q; rw [q]
                rcases gr with ⟨rfl, g⟩ | ⟨rfl, g⟩ <;> rcases hex with ⟨rfl, x⟩ | ⟨rfl, x⟩
                · exact hc398 rfl
                · exact x ⟨hkk.mp g.1, hbs.mp g.2⟩
                · exact g ⟨hkk.mpr x.1, hbs.mpr x.2⟩
                · exact hc398 rfl
              refine W.iconst C (x := (1 : Int32)) at_401 rfl rfl ?_
              refine W.goto C (pc' := 406) at_402 (by decide) rfl ?_
              refine W.retZ C (w := (1 : Int32)) (by simp) at_406 (by decide) (by decide) (by decide) (W.Lt.fin lk85) ?_
              rfl
            refine W.iload C at_329 rfl rfl ?_
            refine W.iload C at_331 rfl rfl ?_
            refine W.icmp C (pc' := 386) (pn := 336) at_333 (by decide) rfl rfl (W.q_ne v2 kb) (fun hc333 => ?_) (fun hc333 => ?_)
            · refine W.iconst C (x := (0 : Int32)) at_386 rfl rfl ?_
              refine W.istore C (Ls' := #[.val (.int p0), .val (.int p1), .val (.int p2), .val (.int p3), .val (.int p4), .val (.int p5), .val (.int v2), .val (.int kb), .val (.int v4), .val (.int v7), .val (.int v10), .val (.int v12), .val (.int kf), .val (.int b0), .val (.int b1), .val (.int b2), .val (.int lb), .val (.ref r13), .val (.ref r14), .val (.ref r17), .val (.ref a57), .val (.ref b58), .val (.ref b70), .val (.int (0 : Int32))]) at_387 rfl rfl ?_
              exact J389 _ (Or.inr ⟨rfl, fun q => hc333 q.1⟩)
            · refine W.iload C at_336 rfl rfl ?_
              refine W.iload C at_338 rfl rfl ?_
              refine W.icmp C (pc' := 386) (pn := 343) at_340 (by decide) rfl rfl (W.q_ne v12 lb) (fun hc340 => ?_) (fun hc340 => ?_)
              · refine W.iconst C (x := (0 : Int32)) at_386 rfl rfl ?_
                refine W.istore C (Ls' := #[.val (.int p0), .val (.int p1), .val (.int p2), .val (.int p3), .val (.int p4), .val (.int p5), .val (.int v2), .val (.int kb), .val (.int v4), .val (.int v7), .val (.int v10), .val (.int v12), .val (.int kf), .val (.int b0), .val (.int b1), .val (.int b2), .val (.int lb), .val (.ref r13), .val (.ref r14), .val (.ref r17), .val (.ref a57), .val (.ref b58), .val (.ref b70), .val (.int (0 : Int32))]) at_387 rfl rfl ?_
                exact J389 _ (Or.inr ⟨rfl, fun q => hc340 q.2.1⟩)
              · refine W.iload C at_343 rfl rfl ?_
                refine W.iconst C (x := (1 : Int32)) at_345 rfl rfl ?_
                refine W.icmp C (pc' := 356) (pn := 349) at_346 (by decide) rfl rfl (W.q_lt v12 (1 : Int32)) (fun hc346 => ?_) (fun hc346 => ?_)
                · refine W.iload C at_356 rfl rfl ?_
                  refine W.iconst C (x := (2 : Int32)) at_358 rfl rfl ?_
                  refine W.icmp C (pc' := 369) (pn := 362) at_359 (by decide) rfl rfl (W.q_lt v12 (2 : Int32)) (fun hc359 => ?_) (fun hc359 => ?_)
                  · refine W.iload C at_369 rfl rfl ?_
                    refine W.iconst C (x := (3 : Int32)) at_371 rfl rfl ?_
                    refine W.icmp C (pc' := 382) (pn := 375) at_372 (by decide) rfl rfl (W.q_lt v12 (3 : Int32)) (fun hc372 => ?_) (fun hc372 => ?_)
                    · refine W.iconst C (x := (1 : Int32)) at_382 rfl rfl ?_
                      refine W.goto C (pc' := 387) at_383 (by decide) rfl ?_
                      refine W.istore C (Ls' := #[.val (.int p0), .val (.int p1), .val (.int p2), .val (.int p3), .val (.int p4), .val (.int p5), .val (.int v2), .val (.int kb), .val (.int v4), .val (.int v7), .val (.int v10), .val (.int v12), .val (.int kf), .val (.int b0), .val (.int b1), .val (.int b2), .val (.int lb), .val (.ref r13), .val (.ref r14), .val (.ref r17), .val (.ref a57), .val (.ref b58), .val (.ref b70), .val (.int (1 : Int32))]) at_387 rfl rfl ?_
                      simp only [Int32.reduceToInt] at hc346
                      simp only [Int32.reduceToInt] at hc359
                      simp only [Int32.reduceToInt] at hc372
                      exact J389 _ (Or.inl ⟨rfl, hc333, hc340, Or.inl hc346, Or.inl hc359, Or.inl hc372⟩)
                    · refine W.iload C at_375 rfl rfl ?_
                      refine W.iload C at_377 rfl rfl ?_
                      refine W.icmp C (pc' := 386) (pn := 382) at_379 (by decide) rfl rfl (W.q_ne v10 b2) (fun hc379 => ?_) (fun hc379 => ?_)
                      · refine W.iconst C (x := (0 : Int32)) at_386 rfl rfl ?_
                        refine W.istore C (Ls' := #[.val (.int p0), .val (.int p1), .val (.int p2), .val (.int p3), .val (.int p4), .val (.int p5), .val (.int v2), .val (.int kb), .val (.int v4), .val (.int v7), .val (.int v10), .val (.int v12), .val (.int kf), .val (.int b0), .val (.int b1), .val (.int b2), .val (.int lb), .val (.ref r13), .val (.ref r14), .val (.ref r17), .val (.ref a57), .val (.ref b58), .val (.ref b70), .val (.int (0 : Int32))]) at_387 rfl rfl ?_
                        simp only [Int32.reduceToInt] at hc346
                        simp only [Int32.reduceToInt] at hc359
                        simp only [Int32.reduceToInt] at hc372
                        exact J389 _ (Or.inr ⟨rfl, fun q => q.2.2.2.2.elim (fun z => absurd z (by omega)) hc379⟩)
                      · refine W.iconst C (x := (1 : Int32)) at_382 rfl rfl ?_
                        refine W.goto C (pc' := 387) at_383 (by decide) rfl ?_
                        refine W.istore C (Ls' := #[.val (.int p0), .val (.int p1), .val (.int p2), .val (.int p3), .val (.int p4), .val (.int p5), .val (.int v2), .val (.int kb), .val (.int v4), .val (.int v7), .val (.int v10), .val (.int v12), .val (.int kf), .val (.int b0), .val (.int b1), .val (.int b2), .val (.int lb), .val (.ref r13), .val (.ref r14), .val (.ref r17), .val (.ref a57), .val (.ref b58), .val (.ref b70), .val (.int (1 : Int32))]) at_387 rfl rfl ?_
                        simp only [Int32.reduceToInt] at hc346
                        simp only [Int32.reduceToInt] at hc359
                        simp only [Int32.reduceToInt] at hc372
                        exact J389 _ (Or.inl ⟨rfl, hc333, hc340, Or.inl hc346, Or.inl hc359, Or.inr hc379⟩)
                  · refine W.iload C at_362 rfl rfl ?_
                    refine W.iload C at_364 rfl rfl ?_
                    refine W.icmp C (pc' := 386) (pn := 369) at_366 (by decide) rfl rfl (W.q_ne v7 b1) (fun hc366 => ?_) (fun hc366 => ?_)
                    · refine W.iconst C (x := (0 : Int32)) at_386 rfl rfl ?_
                      refine W.istore C (Ls' := #[.val (.int p0), .val (.int p1), .val (.int p2), .val (.int p3), .val (.int p4), .val (.int p5), .val (.int v2), .val (.int kb), .val (.int v4), .val (.int v7), .val (.int v10), .val (.int v12), .val (.int kf), .val (.int b0), .val (.int b1), .val (.int b2), .val (.int lb), .val (.ref r13), .val (.ref r14), .val (.ref r17), .val (.ref a57), .val (.ref b58), .val (.ref b70), .val (.int (0 : Int32))]) at_387 rfl rfl ?_
                      simp only [Int32.reduceToInt] at hc346
                      simp only [Int32.reduceToInt] at hc359
                      exact J389 _ (Or.inr ⟨rfl, fun q => q.2.2.2.1.elim (fun z => absurd z (by omega)) hc366⟩)
                    · refine W.iload C at_369 rfl rfl ?_
                      refine W.iconst C (x := (3 : Int32)) at_371 rfl rfl ?_
                      refine W.icmp C (pc' := 382) (pn := 375) at_372 (by decide) rfl rfl (W.q_lt v12 (3 : Int32)) (fun hc372 => ?_) (fun hc372 => ?_)
                      · refine W.iconst C (x := (1 : Int32)) at_382 rfl rfl ?_
                        refine W.goto C (pc' := 387) at_383 (by decide) rfl ?_
                        refine W.istore C (Ls' := #[.val (.int p0), .val (.int p1), .val (.int p2), .val (.int p3), .val (.int p4), .val (.int p5), .val (.int v2), .val (.int kb), .val (.int v4), .val (.int v7), .val (.int v10), .val (.int v12), .val (.int kf), .val (.int b0), .val (.int b1), .val (.int b2), .val (.int lb), .val (.ref r13), .val (.ref r14), .val (.ref r17), .val (.ref a57), .val (.ref b58), .val (.ref b70), .val (.int (1 : Int32))]) at_387 rfl rfl ?_
                        simp only [Int32.reduceToInt] at hc346
                        simp only [Int32.reduceToInt] at hc359
                        simp only [Int32.reduceToInt] at hc372
                        exact J389 _ (Or.inl ⟨rfl, hc333, hc340, Or.inl hc346, Or.inr hc366, Or.inl hc372⟩)
                      · refine W.iload C at_375 rfl rfl ?_
                        refine W.iload C at_377 rfl rfl ?_
                        refine W.icmp C (pc' := 386) (pn := 382) at_379 (by decide) rfl rfl (W.q_ne v10 b2) (fun hc379 => ?_) (fun hc379 => ?_)
                        · refine W.iconst C (x := (0 : Int32)) at_386 rfl rfl ?_
                          refine W.istore C (Ls' := #[.val (.int p0), .val (.int p1), .val (.int p2), .val (.int p3), .val (.int p4), .val (.int p5), .val (.int v2), .val (.int kb), .val (.int v4), .val (.int v7), .val (.int v10), .val (.int v12), .val (.int kf), .val (.int b0), .val (.int b1), .val (.int b2), .val (.int lb), .val (.ref r13), .val (.ref r14), .val (.ref r17), .val (.ref a57), .val (.ref b58), .val (.ref b70), .val (.int (0 : Int32))]) at_387 rfl rfl ?_
                          simp only [Int32.reduceToInt] at hc346
                          simp only [Int32.reduceToInt] at hc359
                          simp only [Int32.reduceToInt] at hc372
                          exact J389 _ (Or.inr ⟨rfl, fun q => q.2.2.2.2.elim (fun z => absurd z (by omega)) hc379⟩)
                        · refine W.iconst C (x := (1 : Int32)) at_382 rfl rfl ?_
                          refine W.goto C (pc' := 387) at_383 (by decide) rfl ?_
                          refine W.istore C (Ls' := #[.val (.int p0), .val (.int p1), .val (.int p2), .val (.int p3), .val (.int p4), .val (.int p5), .val (.int v2), .val (.int kb), .val (.int v4), .val (.int v7), .val (.int v10), .val (.int v12), .val (.int kf), .val (.int b0), .val (.int b1), .val (.int b2), .val (.int lb), .val (.ref r13), .val (.ref r14), .val (.ref r17), .val (.ref a57), .val (.ref b58), .val (.ref b70), .val (.int (1 : Int32))]) at_387 rfl rfl ?_
                          simp only [Int32.reduceToInt] at hc346
                          simp only [Int32.reduceToInt] at hc359
                          simp only [Int32.reduceToInt] at hc372
                          exact J389 _ (Or.inl ⟨rfl, hc333, hc340, Or.inl hc346, Or.inr hc366, Or.inr hc379⟩)
                · refine W.iload C at_349 rfl rfl ?_
                  refine W.iload C at_351 rfl rfl ?_
                  refine W.icmp C (pc' := 386) (pn := 356) at_353 (by decide) rfl rfl (W.q_ne v4 b0) (fun hc353 => ?_) (fun hc353 => ?_)
                  · refine W.iconst C (x := (0 : Int32)) at_386 rfl rfl ?_
                    refine W.istore C (Ls' := #[.val (.int p0), .val (.int p1), .val (.int p2), .val (.int p3), .val (.int p4), .val (.int p5), .val (.int v2), .val (.int kb), .val (.int v4), .val (.int v7), .val (.int v10), .val (.int v12), .val (.int kf), .val (.int b0), .val (.int b1), .val (.int b2), .val (.int lb), .val (.ref r13), .val (.ref r14), .val (.ref r17), .val (.ref a57), .val (.ref b58), .val (.ref b70), .val (.int (0 : Int32))]) at_387 rfl rfl ?_
                    simp only [Int32.reduceToInt] at hc346
                    exact J389 _ (Or.inr ⟨rfl, fun q => q.2.2.1.elim (fun z => absurd z (by omega)) hc353⟩)
                  · refine W.iload C at_356 rfl rfl ?_
                    refine W.iconst C (x := (2 : Int32)) at_358 rfl rfl ?_
                    refine W.icmp C (pc' := 369) (pn := 362) at_359 (by decide) rfl rfl (W.q_lt v12 (2 : Int32)) (fun hc359 => ?_) (fun hc359 => ?_)
                    · refine W.iload C at_369 rfl rfl ?_
                      refine W.iconst C (x := (3 : Int32)) at_371 rfl rfl ?_
                      refine W.icmp C (pc' := 382) (pn := 375) at_372 (by decide) rfl rfl (W.q_lt v12 (3 : Int32)) (fun hc372 => ?_) (fun hc372 => ?_)
                      · refine W.iconst C (x := (1 : Int32)) at_382 rfl rfl ?_
                        refine W.goto C (pc' := 387) at_383 (by decide) rfl ?_
                        refine W.istore C (Ls' := #[.val (.int p0), .val (.int p1), .val (.int p2), .val (.int p3), .val (.int p4), .val (.int p5), .val (.int v2), .val (.int kb), .val (.int v4), .val (.int v7), .val (.int v10), .val (.int v12), .val (.int kf), .val (.int b0), .val (.int b1), .val (.int b2), .val (.int lb), .val (.ref r13), .val (.ref r14), .val (.ref r17), .val (.ref a57), .val (.ref b58), .val (.ref b70), .val (.int (1 : Int32))]) at_387 rfl rfl ?_
                        simp only [Int32.reduceToInt] at hc346
                        simp only [Int32.reduceToInt] at hc359
                        simp only [Int32.reduceToInt] at hc372
                        exact J389 _ (Or.inl ⟨rfl, hc333, hc340, Or.inr hc353, Or.inl hc359, Or.inl hc372⟩)
                      · refine W.iload C at_375 rfl rfl ?_
                        refine W.iload C at_377 rfl rfl ?_
                        refine W.icmp C (pc' := 386) (pn := 382) at_379 (by decide) rfl rfl (W.q_ne v10 b2) (fun hc379 => ?_) (fun hc379 => ?_)
                        · refine W.iconst C (x := (0 : Int32)) at_386 rfl rfl ?_
                          refine W.istore C (Ls' := #[.val (.int p0), .val (.int p1), .val (.int p2), .val (.int p3), .val (.int p4), .val (.int p5), .val (.int v2), .val (.int kb), .val (.int v4), .val (.int v7), .val (.int v10), .val (.int v12), .val (.int kf), .val (.int b0), .val (.int b1), .val (.int b2), .val (.int lb), .val (.ref r13), .val (.ref r14), .val (.ref r17), .val (.ref a57), .val (.ref b58), .val (.ref b70), .val (.int (0 : Int32))]) at_387 rfl rfl ?_
                          simp only [Int32.reduceToInt] at hc346
                          simp only [Int32.reduceToInt] at hc359
                          simp only [Int32.reduceToInt] at hc372
                          exact J389 _ (Or.inr ⟨rfl, fun q => q.2.2.2.2.elim (fun z => absurd z (by omega)) hc379⟩)
                        · refine W.iconst C (x := (1 : Int32)) at_382 rfl rfl ?_
                          refine W.goto C (pc' := 387) at_383 (by decide) rfl ?_
                          refine W.istore C (Ls' := #[.val (.int p0), .val (.int p1), .val (.int p2), .val (.int p3), .val (.int p4), .val (.int p5), .val (.int v2), .val (.int kb), .val (.int v4), .val (.int v7), .val (.int v10), .val (.int v12), .val (.int kf), .val (.int b0), .val (.int b1), .val (.int b2), .val (.int lb), .val (.ref r13), .val (.ref r14), .val (.ref r17), .val (.ref a57), .val (.ref b58), .val (.ref b70), .val (.int (1 : Int32))]) at_387 rfl rfl ?_
                          simp only [Int32.reduceToInt] at hc346
                          simp only [Int32.reduceToInt] at hc359
                          simp only [Int32.reduceToInt] at hc372
                          exact J389 _ (Or.inl ⟨rfl, hc333, hc340, Or.inr hc353, Or.inl hc359, Or.inr hc379⟩)
                    · refine W.iload C at_362 rfl rfl ?_
                      refine W.iload C at_364 rfl rfl ?_
                      refine W.icmp C (pc' := 386) (pn := 369) at_366 (by decide) rfl rfl (W.q_ne v7 b1) (fun hc366 => ?_) (fun hc366 => ?_)
                      · refine W.iconst C (x := (0 : Int32)) at_386 rfl rfl ?_
                        refine W.istore C (Ls' := #[.val (.int p0), .val (.int p1), .val (.int p2), .val (.int p3), .val (.int p4), .val (.int p5), .val (.int v2), .val (.int kb), .val (.int v4), .val (.int v7), .val (.int v10), .val (.int v12), .val (.int kf), .val (.int b0), .val (.int b1), .val (.int b2), .val (.int lb), .val (.ref r13), .val (.ref r14), .val (.ref r17), .val (.ref a57), .val (.ref b58), .val (.ref b70), .val (.int (0 : Int32))]) at_387 rfl rfl ?_
                        simp only [Int32.reduceToInt] at hc346
                        simp only [Int32.reduceToInt] at hc359
                        exact J389 _ (Or.inr ⟨rfl, fun q => q.2.2.2.1.elim (fun z => absurd z (by omega)) hc366⟩)
                      · refine W.iload C at_369 rfl rfl ?_
                        refine W.iconst C (x := (3 : Int32)) at_371 rfl rfl ?_
                        refine W.icmp C (pc' := 382) (pn := 375) at_372 (by decide) rfl rfl (W.q_lt v12 (3 : Int32)) (fun hc372 => ?_) (fun hc372 => ?_)
                        · refine W.iconst C (x := (1 : Int32)) at_382 rfl rfl ?_
                          refine W.goto C (pc' := 387) at_383 (by decide) rfl ?_
                          refine W.istore C (Ls' := #[.val (.int p0), .val (.int p1), .val (.int p2), .val (.int p3), .val (.int p4), .val (.int p5), .val (.int v2), .val (.int kb), .val (.int v4), .val (.int v7), .val (.int v10), .val (.int v12), .val (.int kf), .val (.int b0), .val (.int b1), .val (.int b2), .val (.int lb), .val (.ref r13), .val (.ref r14), .val (.ref r17), .val (.ref a57), .val (.ref b58), .val (.ref b70), .val (.int (1 : Int32))]) at_387 rfl rfl ?_
                          simp only [Int32.reduceToInt] at hc346
                          simp only [Int32.reduceToInt] at hc359
                          simp only [Int32.reduceToInt] at hc372
                          exact J389 _ (Or.inl ⟨rfl, hc333, hc340, Or.inr hc353, Or.inr hc366, Or.inl hc372⟩)
                        · refine W.iload C at_375 rfl rfl ?_
                          refine W.iload C at_377 rfl rfl ?_
                          refine W.icmp C (pc' := 386) (pn := 382) at_379 (by decide) rfl rfl (W.q_ne v10 b2) (fun hc379 => ?_) (fun hc379 => ?_)
                          · refine W.iconst C (x := (0 : Int32)) at_386 rfl rfl ?_
                            refine W.istore C (Ls' := #[.val (.int p0), .val (.int p1), .val (.int p2), .val (.int p3), .val (.int p4), .val (.int p5), .val (.int v2), .val (.int kb), .val (.int v4), .val (.int v7), .val (.int v10), .val (.int v12), .val (.int kf), .val (.int b0), .val (.int b1), .val (.int b2), .val (.int lb), .val (.ref r13), .val (.ref r14), .val (.ref r17), .val (.ref a57), .val (.ref b58), .val (.ref b70), .val (.int (0 : Int32))]) at_387 rfl rfl ?_
                            simp only [Int32.reduceToInt] at hc346
                            simp only [Int32.reduceToInt] at hc359
                            simp only [Int32.reduceToInt] at hc372
                            exact J389 _ (Or.inr ⟨rfl, fun q => q.2.2.2.2.elim (fun z => absurd z (by omega)) hc379⟩)
                          · refine W.iconst C (x := (1 : Int32)) at_382 rfl rfl ?_
                            refine W.goto C (pc' := 387) at_383 (by decide) rfl ?_
                            refine W.istore C (Ls' := #[.val (.int p0), .val (.int p1), .val (.int p2), .val (.int p3), .val (.int p4), .val (.int p5), .val (.int v2), .val (.int kb), .val (.int v4), .val (.int v7), .val (.int v10), .val (.int v12), .val (.int kf), .val (.int b0), .val (.int b1), .val (.int b2), .val (.int lb), .val (.ref r13), .val (.ref r14), .val (.ref r17), .val (.ref a57), .val (.ref b58), .val (.ref b70), .val (.int (1 : Int32))]) at_387 rfl rfl ?_
                            simp only [Int32.reduceToInt] at hc346
                            simp only [Int32.reduceToInt] at hc359
                            simp only [Int32.reduceToInt] at hc372
                            exact J389 _ (Or.inl ⟨rfl, hc333, hc340, Or.inr hc353, Or.inr hc366, Or.inr hc379⟩)
        · refine W.ldcL C (vs := []) (z := (0 : Int32)) (nn := 0) LT14 (hw _ (List.mem_of_getElem? (i := 111) rfl)) (List.mem_of_getElem? (i := 0) rfl) tx_0 (by decide) (by decide) at_229 rfl txl_0 (by decide) (by decide) (by decide) (k' := 14) (n' := 28) rfl rfl ?_
          intro vm91 k91 h91 a91 b91 kc_b91 C LT91 E91 X91 Fc91 Fv91 V91 SF91 NE91
          refine W.goto C (pc' := 243) at_231 (by decide) rfl ?_
          refine W.astore C (Ls' := #[.val (.int p0), .val (.int p1), .val (.int p2), .val (.int p3), .val (.int p4), .val (.int p5), .val (.int v2), .val (.int kb), .val (.int v4), .val (.int v7), .val (.int v10), .val (.int v12), .val (.int kf), .val (.int b0), .val (.int b1), .val (.int b2), .val (.int lb), .val (.ref r13), .val (.ref r14), .val (.ref a91), .unset, .unset, .unset, .unset]) at_243 rfl rfl rfl ?_
          refine W.iloadN C at_245 rfl rfl ?_
          refine W.ldcI C (hw _ (List.mem_of_getElem? (i := 42) rfl)) at_246 rfl ?_
          refine W.iand C (z := (p3 &&& (16777216 : Int32))) at_248 rfl rfl ?_
          refine W.ifc C (pc' := 257) (pn := 252) at_249 (by decide) rfl rfl (W.q_eq (p3 &&& (16777216 : Int32)) (0 : Int32)) (fun hc249 => ?_) (fun hc249 => ?_)
          · refine W.iloadN C at_257 rfl rfl ?_
            refine W.bipush C (x := (16 : Int32)) at_258 rfl rfl ?_
            obtain ⟨v92, hv92⟩ : ∃ z__, z__ = (((p3).toUInt32 >>> ((16 : Int32) &&& 31).toUInt32).toInt32) := ⟨_, rfl⟩
            have fv92 := c_iushr p3 (16 : Int32) 16 rfl (by decide)
            rw [← hv92] at fv92
            try simp only [Int32.reduceToInt, Int64.reduceToInt, Nat.reducePow, Int.reducePow, Int.cast_ofNat_Int] at fv92
            have rv92 := rng32 v92
            refine W.iushr C at_260 rfl hv92.symm ?_
            refine W.sipush C (x := (255 : Int32)) at_261 rfl rfl ?_
            obtain ⟨v93, hv93⟩ : ∃ z__, z__ = (v92 &&& (255 : Int32)) := ⟨_, rfl⟩
            have fv93 := c_mask v92 (255 : Int32) 8 (by decide) (by decide)
            rw [← hv93] at fv93
            try simp only [Int32.reduceToInt, Int64.reduceToInt, Nat.reducePow, Int.reducePow, Int.cast_ofNat_Int] at fv93
            have rv93 := rng32 v93
            refine W.iand C at_264 rfl hv93.symm ?_
            obtain ⟨v94, hv94⟩ : ∃ z__, z__ = ((v93).toUInt32.toUInt16.toUInt32.toInt32) := ⟨_, rfl⟩
            have fv94 := c_i2c v93
            rw [← hv94] at fv94
            try simp only [Int32.reduceToInt, Int64.reduceToInt, Nat.reducePow, Int.reducePow, Int.cast_ofNat_Int] at fv94
            have rv94 := rng32 v94
            refine W.i2c C at_265 rfl hv94.symm ?_
            have r_v94 : 0 ≤ v94.toInt ∧ v94.toInt ≤ 255 := by omega
            refine W.callS C (y := (⟨"java/lang/String", "valueOf", "(C)Ljava/lang/String;"⟩ : MethodName)) (hw _ (List.mem_of_getElem? (i := 27) rfl)) (hw _ (List.mem_of_getElem? (i := 28) rfl)) (hw _ (List.mem_of_getElem? (i := 7) rfl)) (hw _ (List.mem_of_getElem? (i := 29) rfl)) (by decide) (fun hz => rmVo l Z a0 hw [] v94 cs h91 n0 hz (SC.ext (((OO.keep K13 all0).keep K14 all0).ext E91).2) hcs r_v94) at_266 rfl rfl pd_12 rfl (argsL := [(.int v94)]) (rest := []) rfl (W := 0) rfl (by decide) (by decide) (by decide) (by decide) (k' := 16) (n' := 33) rfl rfl ?_
            rintro h95 _ ⟨r95, b95, kb95, rfl, g0_r95, sz_r95, K95, O95⟩
            have ne_r13_r95 : r13 ≠ r95 := Nat.ne_of_lt (Nat.lt_of_lt_of_le ((O13.1.keep K14).ext E91).lt sz_r95)
            have ne_b13_r95 : b13 ≠ r95 := Nat.ne_of_lt (Nat.lt_of_lt_of_le ((O13.2.2.2.keep K14 nin0).ext E91).lt sz_r95)
            have ne_r14_r95 : r14 ≠ r95 := Nat.ne_of_lt (Nat.lt_of_lt_of_le (O14.1.ext E91).lt sz_r95)
            have ne_b14_r95 : b14 ≠ r95 := Nat.ne_of_lt (Nat.lt_of_lt_of_le (O14.2.2.2.ext E91).lt sz_r95)
            have ne_a91_r95 : a91 ≠ r95 := Nat.ne_of_lt (Nat.lt_of_lt_of_le X91.lt sz_r95)
            have ne_b91_r95 : b91 ≠ r95 := Nat.ne_of_lt (Nat.lt_of_lt_of_le V91.lt sz_r95)
            have lk96 := LT91.keep K95 all0
            show W.Go p l e _ _ m _ below meth c _ _ _ _ _ _ (mkF m 269 #[.val (.int p0), .val (.int p1), .val (.int p2), .val (.int p3), .val (.int p4), .val (.int p5), .val (.int v2), .val (.int kb), .val (.int v4), .val (.int v7), .val (.int v10), .val (.int v12), .val (.int kf), .val (.int b0), .val (.int b1), .val (.int b2), .val (.int lb), .val (.ref r13), .val (.ref r14), .val (.ref a91), .unset, .unset, .unset, .unset] [(.ref r95)])
            refine W.astore C (Ls' := #[.val (.int p0), .val (.int p1), .val (.int p2), .val (.int p3), .val (.int p4), .val (.int p5), .val (.int v2), .val (.int kb), .val (.int v4), .val (.int v7), .val (.int v10), .val (.int v12), .val (.int kf), .val (.int b0), .val (.int b1), .val (.int b2), .val (.int lb), .val (.ref r13), .val (.ref r14), .val (.ref a91), .val (.ref r95), .unset, .unset, .unset]) at_269 rfl rfl rfl ?_
            refine W.new C (hw _ (List.mem_of_getElem? (i := 43) rfl)) (hw _ (List.mem_of_getElem? (i := 44) rfl)) (hw _ (List.mem_of_getElem? (i := 45) rfl)) at_271 rfl (by decide) (by decide) (k' := 17) (n' := 37) rfl rfl ?_
            intro h97 b97 gb97 g0_b97 E97 Ab97 Db97
            have ne_r13_b97 : r13 ≠ b97 := Nat.ne_of_lt (by rw [gb97]; exact (((O13.1.keep K14).ext E91).keep K95).lt)
            have ne_b13_b97 : b13 ≠ b97 := Nat.ne_of_lt (by rw [gb97]; exact (((O13.2.2.2.keep K14 nin0).ext E91).keep K95 nin0).lt)
            have ne_r14_b97 : r14 ≠ b97 := Nat.ne_of_lt (by rw [gb97]; exact ((O14.1.ext E91).keep K95).lt)
            have ne_b14_b97 : b14 ≠ b97 := Nat.ne_of_lt (by rw [gb97]; exact ((O14.2.2.2.ext E91).keep K95 nin0).lt)
            have ne_a91_b97 : a91 ≠ b97 := Nat.ne_of_lt (by rw [gb97]; exact (X91.keep K95).lt)
            have ne_b91_b97 : b91 ≠ b97 := Nat.ne_of_lt (by rw [gb97]; exact (V91.keep K95 nin0).lt)
            have ne_r95_b97 : r95 ≠ b97 := Nat.ne_of_lt (by rw [gb97]; exact O95.1.lt)
            have ne_b95_b97 : b95 ≠ b97 := Nat.ne_of_lt (by rw [gb97]; exact O95.2.2.2.lt)
            have sn_b97 := lk96.sext E97 (Safe.new (Nat.le_of_eq gb97.symm))
            have Fb97_kind : Fld Z h97 b97 "com/example/termwright/termwright/Heading" "kind" "Lcom/example/termwright/termwright/OutlineNode$Kind;" .null := Db97 (Or.inr (hw _ (List.mem_of_getElem? (i := 73) rfl))) (ty := (.object "com/example/termwright/termwright/OutlineNode$Kind")) (by decide)
            have Fb97_number : Fld Z h97 b97 "com/example/termwright/termwright/Heading" "number" "Ljava/lang/String;" .null := Db97 (Or.inr (hw _ (List.mem_of_getElem? (i := 75) rfl))) (ty := (.object "java/lang/String")) (by decide)
            have Fb97_title : Fld Z h97 b97 "com/example/termwright/termwright/Heading" "title" "Ljava/lang/String;" .null := Db97 (Or.inr (hw _ (List.mem_of_getElem? (i := 77) rfl))) (ty := (.object "java/lang/String")) (by decide)
            have Fb97_span : Fld Z h97 b97 "com/example/termwright/termwright/Heading" "span" "Lcom/example/termwright/termwright/Document$Span;" .null := Db97 (Or.inr (hw _ (List.mem_of_getElem? (i := 79) rfl))) (ty := (.object "com/example/termwright/termwright/Document$Span")) (by decide)
            refine W.dup C at_274 rfl rfl ?_
            refine W.iload C at_275 rfl rfl ?_
            refine W.callS C (y := (⟨"com/example/termwright/termwright/HeadingHeadsSameDivisionPinLaw", "kind", "(I)Lcom/example/termwright/termwright/OutlineNode$Kind;"⟩ : MethodName)) (hw _ (List.mem_of_getElem? (i := 46) rfl)) (hw _ (List.mem_of_getElem? (i := 47) rfl)) (hw _ (List.mem_of_getElem? (i := 3) rfl)) (hw _ (List.mem_of_getElem? (i := 48) rfl)) (by decide) (fun hz => rmK l Z a0 hw [] v2 k0 k1 k2 k3 k4 k5 h97 n0 hz (T0.ext (((((OO.keep K13 all0).keep K14 all0).ext E91).keep K95 all0).ext E97).2) (T1.ext (((((OO.keep K13 all0).keep K14 all0).ext E91).keep K95 all0).ext E97).2) (T2.ext (((((OO.keep K13 all0).keep K14 all0).ext E91).keep K95 all0).ext E97).2) (T3.ext (((((OO.keep K13 all0).keep K14 all0).ext E91).keep K95 all0).ext E97).2) (T4.ext (((((OO.keep K13 all0).keep K14 all0).ext E91).keep K95 all0).ext E97).2) (T5.ext (((((OO.keep K13 all0).keep K14 all0).ext E91).keep K95 all0).ext E97).2)) at_277 rfl rfl pd_13 rfl (argsL := [(.int v2)]) (rest := [(.ref b97), (.ref b97)]) rfl (W := 2) rfl (by decide) (by decide) (by decide) (by decide) (k' := 17) (n' := 37) rfl rfl ?_
            rintro h98 _ ⟨rfl, rfl⟩
            show W.Go p l e _ _ m _ below meth c _ _ _ _ _ _ (mkF m 280 #[.val (.int p0), .val (.int p1), .val (.int p2), .val (.int p3), .val (.int p4), .val (.int p5), .val (.int v2), .val (.int kb), .val (.int v4), .val (.int v7), .val (.int v10), .val (.int v12), .val (.int kf), .val (.int b0), .val (.int b1), .val (.int b2), .val (.int lb), .val (.ref r13), .val (.ref r14), .val (.ref a91), .val (.ref r95), .unset, .unset, .unset] [(.ref (own_kind v2 k0 k1 k2 k3 k4 k5)), (.ref b97), (.ref b97)])
            refine W.aload C at_280 rfl rfl rfl ?_
            refine W.aload C at_282 rfl rfl rfl ?_
            refine W.new C (hw _ (List.mem_of_getElem? (i := 52) rfl)) (hw _ (List.mem_of_getElem? (i := 53) rfl)) (hw _ (List.mem_of_getElem? (i := 54) rfl)) at_284 rfl (by decide) (by decide) (k' := 18) (n' := 39) rfl rfl ?_
            intro h99 b99 gb99 g0_b99 E99 Ab99 Db99
            have ne_r13_b99 : r13 ≠ b99 := Nat.ne_of_lt (by rw [gb99]; exact ((((O13.1.keep K14).ext E91).keep K95).ext E97).lt)
            have ne_b13_b99 : b13 ≠ b99 := Nat.ne_of_lt (by rw [gb99]; exact ((((O13.2.2.2.keep K14 nin0).ext E91).keep K95 nin0).ext E97).lt)
            have ne_r14_b99 : r14 ≠ b99 := Nat.ne_of_lt (by rw [gb99]; exact (((O14.1.ext E91).keep K95).ext E97).lt)
            have ne_b14_b99 : b14 ≠ b99 := Nat.ne_of_lt (by rw [gb99]; exact (((O14.2.2.2.ext E91).keep K95 nin0).ext E97).lt)
            have ne_a91_b99 : a91 ≠ b99 := Nat.ne_of_lt (by rw [gb99]; exact ((X91.keep K95).ext E97).lt)
            have ne_b91_b99 : b91 ≠ b99 := Nat.ne_of_lt (by rw [gb99]; exact ((V91.keep K95 nin0).ext E97).lt)
            have ne_r95_b99 : r95 ≠ b99 := Nat.ne_of_lt (by rw [gb99]; exact (O95.1.ext E97).lt)
            have ne_b95_b99 : b95 ≠ b99 := Nat.ne_of_lt (by rw [gb99]; exact (O95.2.2.2.ext E97).lt)
            have ne_b97_b99 : b97 ≠ b99 := Nat.ne_of_lt (by rw [gb99]; exact Ab97.lt)
            have sn_b99 := (lk96.ext E97).sext E99 (Safe.new (Nat.le_of_eq gb99.symm))
            have sx100 := (lk96.ext E97).sext E99 sn_b97
            have Fb99_start : Fld Z h99 b99 "com/example/termwright/termwright/Document$Span" "start" "I" (.int (0 : Int32)) := Db99 (Or.inr (hw _ (List.mem_of_getElem? (i := 65) rfl))) (ty := .int) (by decide)
            have Fb99_end : Fld Z h99 b99 "com/example/termwright/termwright/Document$Span" "end" "I" (.int (0 : Int32)) := Db99 (Or.inr (hw _ (List.mem_of_getElem? (i := 67) rfl))) (ty := .int) (by decide)
            refine W.dup C at_287 rfl rfl ?_
            refine W.iload C at_288 rfl rfl ?_
            refine W.iload C at_290 rfl rfl ?_
            refine W.callSp C (y := (⟨"com/example/termwright/termwright/Document$Span", "<init>", "(II)V"⟩ : MethodName)) (a := b99) rfl (hw _ (List.mem_of_getElem? (i := 55) rfl)) (hw _ (List.mem_of_getElem? (i := 56) rfl)) (hw _ (List.mem_of_getElem? (i := 54) rfl)) (hw _ (List.mem_of_getElem? (i := 57) rfl)) (by decide) (fun hz => rm10 l Z a0 hw [] b99 p4 p5 h99 n0 hz ⟨Ab99, Fb99_start, Fb99_end⟩ g0_b99) at_292 rfl rfl pd_14 rfl (argsL := [(.int p4), (.int p5)]) (rest := [(.ref b99), (.ref a91), (.ref r13), (.ref (own_kind v2 k0 k1 k2 k3 k4 k5)), (.ref b97), (.ref b97)]) rfl (W := 6) rfl (by decide) (by decide) (by decide) (by decide) (k' := 18) (n' := 39) rfl rfl ?_
            rintro h101 _ ⟨rfl, K101, O101⟩
            have lk102 := ((lk96.ext E97).ext E99).keep K101 (allS sn_b99 all0)
            have sk103 := ((lk96.ext E97).ext E99).skeep K101 (allS sn_b99 all0) sx100
            have sk104 := ((lk96.ext E97).ext E99).skeep K101 (allS sn_b99 all0) sn_b99
            show W.Go p l e _ _ m _ below meth c _ _ _ _ _ _ (mkF m 295 #[.val (.int p0), .val (.int p1), .val (.int p2), .val (.int p3), .val (.int p4), .val (.int p5), .val (.int v2), .val (.int kb), .val (.int v4), .val (.int v7), .val (.int v10), .val (.int v12), .val (.int kf), .val (.int b0), .val (.int b1), .val (.int b2), .val (.int lb), .val (.ref r13), .val (.ref r14), .val (.ref a91), .val (.ref r95), .unset, .unset, .unset] [(.ref b99), (.ref a91), (.ref r13), (.ref (own_kind v2 k0 k1 k2 k3 k4 k5)), (.ref b97), (.ref b97)])
            refine W.callSp C (y := (⟨"com/example/termwright/termwright/Heading", "<init>", "(Lcom/example/termwright/termwright/OutlineNode$Kind;Ljava/lang/String;Ljava/lang/String;Lcom/example/termwright/termwright/Document$Span;)V"⟩ : MethodName)) (a := b97) rfl (hw _ (List.mem_of_getElem? (i := 68) rfl)) (hw _ (List.mem_of_getElem? (i := 69) rfl)) (hw _ (List.mem_of_getElem? (i := 45) rfl)) (hw _ (List.mem_of_getElem? (i := 70) rfl)) (by decide) (fun hz => rm12 l Z a0 hw [] b97 (own_kind v2 k0 k1 k2 k3 k4 k5) r13 a91 b99 h101 n0 hz ⟨((Ab97.ext E99).keep K101), ((Fb97_kind.ext E99).keep K101 (ninS ne_b97_b99 nin0)), ((Fb97_number.ext E99).keep K101 (ninS ne_b97_b99 nin0)), ((Fb97_title.ext E99).keep K101 (ninS ne_b97_b99 nin0)), ((Fb97_span.ext E99).keep K101 (ninS ne_b97_b99 nin0))⟩ g0_b97) at_295 rfl rfl pd_15 rfl (argsL := [(.ref (own_kind v2 k0 k1 k2 k3 k4 k5)), (.ref r13), (.ref a91), (.ref b99)]) (rest := [(.ref b97)]) rfl (W := 1) rfl (by decide) (by decide) (by decide) (by decide) (k' := 18) (n' := 39) rfl rfl ?_
            rintro h105 _ ⟨rfl, K105, O105⟩
            have lk106 := lk102.keep K105 (allS sk103 all0)
            have sk107 := lk102.skeep K105 (allS sk103 all0) sk103
            have sk108 := lk102.skeep K105 (allS sk103 all0) sk104
            show W.Go p l e _ _ m _ below meth c _ _ _ _ _ _ (mkF m 298 #[.val (.int p0), .val (.int p1), .val (.int p2), .val (.int p3), .val (.int p4), .val (.int p5), .val (.int v2), .val (.int kb), .val (.int v4), .val (.int v7), .val (.int v10), .val (.int v12), .val (.int kf), .val (.int b0), .val (.int b1), .val (.int b2), .val (.int lb), .val (.ref r13), .val (.ref r14), .val (.ref a91), .val (.ref r95), .unset, .unset, .unset] [(.ref b97)])
            refine W.astore C (Ls' := #[.val (.int p0), .val (.int p1), .val (.int p2), .val (.int p3), .val (.int p4), .val (.int p5), .val (.int v2), .val (.int kb), .val (.int v4), .val (.int v7), .val (.int v10), .val (.int v12), .val (.int kf), .val (.int b0), .val (.int b1), .val (.int b2), .val (.int lb), .val (.ref r13), .val (.ref r14), .val (.ref a91), .val (.ref r95), .val (.ref b97), .unset, .unset]) at_298 rfl rfl rfl ?_
            refine W.new C (hw _ (List.mem_of_getElem? (i := 43) rfl)) (hw _ (List.mem_of_getElem? (i := 44) rfl)) (hw _ (List.mem_of_getElem? (i := 45) rfl)) at_300 rfl (by decide) (by decide) (k' := 19) (n' := 43) rfl rfl ?_
            intro h109 b109 gb109 g0_b109 E109 Ab109 Db109
            have ne_r13_b109 : r13 ≠ b109 := Nat.ne_of_lt (by rw [gb109]; exact (((((((O13.1.keep K14).ext E91).keep K95).ext E97).ext E99).keep K101).keep K105).lt)
            have ne_b13_b109 : b13 ≠ b109 := Nat.ne_of_lt (by rw [gb109]; exact (((((((O13.2.2.2.keep K14 nin0).ext E91).keep K95 nin0).ext E97).ext E99).keep K101 (ninS ne_b13_b99 nin0)).keep K105 (ninS ne_b13_b97 nin0)).lt)
            have ne_r14_b109 : r14 ≠ b109 := Nat.ne_of_lt (by rw [gb109]; exact ((((((O14.1.ext E91).keep K95).ext E97).ext E99).keep K101).keep K105).lt)
            have ne_b14_b109 : b14 ≠ b109 := Nat.ne_of_lt (by rw [gb109]; exact ((((((O14.2.2.2.ext E91).keep K95 nin0).ext E97).ext E99).keep K101 (ninS ne_b14_b99 nin0)).keep K105 (ninS ne_b14_b97 nin0)).lt)
            have ne_a91_b109 : a91 ≠ b109 := Nat.ne_of_lt (by rw [gb109]; exact (((((X91.keep K95).ext E97).ext E99).keep K101).keep K105).lt)
            have ne_b91_b109 : b91 ≠ b109 := Nat.ne_of_lt (by rw [gb109]; exact (((((V91.keep K95 nin0).ext E97).ext E99).keep K101 (ninS ne_b91_b99 nin0)).keep K105 (ninS ne_b91_b97 nin0)).lt)
            have ne_r95_b109 : r95 ≠ b109 := Nat.ne_of_lt (by rw [gb109]; exact ((((O95.1.ext E97).ext E99).keep K101).keep K105).lt)
            have ne_b95_b109 : b95 ≠ b109 := Nat.ne_of_lt (by rw [gb109]; exact ((((O95.2.2.2.ext E97).ext E99).keep K101 (ninS ne_b95_b99 nin0)).keep K105 (ninS ne_b95_b97 nin0)).lt)
            have ne_b97_b109 : b97 ≠ b109 := Nat.ne_of_lt (by rw [gb109]; exact O105.1.lt)
            have ne_b99_b109 : b99 ≠ b109 := Nat.ne_of_lt (by rw [gb109]; exact (O101.1.keep K105).lt)
            have sn_b109 := lk106.sext E109 (Safe.new (Nat.le_of_eq gb109.symm))
            have sx110 := lk106.sext E109 sk107
            have sx111 := lk106.sext E109 sk108
            have Fb109_kind : Fld Z h109 b109 "com/example/termwright/termwright/Heading" "kind" "Lcom/example/termwright/termwright/OutlineNode$Kind;" .null := Db109 (Or.inr (hw _ (List.mem_of_getElem? (i := 73) rfl))) (ty := (.object "com/example/termwright/termwright/OutlineNode$Kind")) (by decide)
            have Fb109_number : Fld Z h109 b109 "com/example/termwright/termwright/Heading" "number" "Ljava/lang/String;" .null := Db109 (Or.inr (hw _ (List.mem_of_getElem? (i := 75) rfl))) (ty := (.object "java/lang/String")) (by decide)
            have Fb109_title : Fld Z h109 b109 "com/example/termwright/termwright/Heading" "title" "Ljava/lang/String;" .null := Db109 (Or.inr (hw _ (List.mem_of_getElem? (i := 77) rfl))) (ty := (.object "java/lang/String")) (by decide)
            have Fb109_span : Fld Z h109 b109 "com/example/termwright/termwright/Heading" "span" "Lcom/example/termwright/termwright/Document$Span;" .null := Db109 (Or.inr (hw _ (List.mem_of_getElem? (i := 79) rfl))) (ty := (.object "com/example/termwright/termwright/Document$Span")) (by decide)
            refine W.dup C at_303 rfl rfl ?_
            refine W.iload C at_304 rfl rfl ?_
            refine W.callS C (y := (⟨"com/example/termwright/termwright/HeadingHeadsSameDivisionPinLaw", "kind", "(I)Lcom/example/termwright/termwright/OutlineNode$Kind;"⟩ : MethodName)) (hw _ (List.mem_of_getElem? (i := 46) rfl)) (hw _ (List.mem_of_getElem? (i := 47) rfl)) (hw _ (List.mem_of_getElem? (i := 3) rfl)) (hw _ (List.mem_of_getElem? (i := 48) rfl)) (by decide) (fun hz => rmK l Z a0 hw [] kb k0 k1 k2 k3 k4 k5 h109 n0 hz (T0.ext (((((((((OO.keep K13 all0).keep K14 all0).ext E91).keep K95 all0).ext E97).ext E99).keep K101 (allS g0_b99 all0)).keep K105 (allS g0_b97 all0)).ext E109).2) (T1.ext (((((((((OO.keep K13 all0).keep K14 all0).ext E91).keep K95 all0).ext E97).ext E99).keep K101 (allS g0_b99 all0)).keep K105 (allS g0_b97 all0)).ext E109).2) (T2.ext (((((((((OO.keep K13 all0).keep K14 all0).ext E91).keep K95 all0).ext E97).ext E99).keep K101 (allS g0_b99 all0)).keep K105 (allS g0_b97 all0)).ext E109).2) (T3.ext (((((((((OO.keep K13 all0).keep K14 all0).ext E91).keep K95 all0).ext E97).ext E99).keep K101 (allS g0_b99 all0)).keep K105 (allS g0_b97 all0)).ext E109).2) (T4.ext (((((((((OO.keep K13 all0).keep K14 all0).ext E91).keep K95 all0).ext E97).ext E99).keep K101 (allS g0_b99 all0)).keep K105 (allS g0_b97 all0)).ext E109).2) (T5.ext (((((((((OO.keep K13 all0).keep K14 all0).ext E91).keep K95 all0).ext E97).ext E99).keep K101 (allS g0_b99 all0)).keep K105 (allS g0_b97 all0)).ext E109).2)) at_306 rfl rfl pd_13 rfl (argsL := [(.int kb)]) (rest := [(.ref b109), (.ref b109)]) rfl (W := 2) rfl (by decide) (by decide) (by decide) (by decide) (k' := 19) (n' := 43) rfl rfl ?_
            rintro h112 _ ⟨rfl, rfl⟩
            show W.Go p l e _ _ m _ below meth c _ _ _ _ _ _ (mkF m 309 #[.val (.int p0), .val (.int p1), .val (.int p2), .val (.int p3), .val (.int p4), .val (.int p5), .val (.int v2), .val (.int kb), .val (.int v4), .val (.int v7), .val (.int v10), .val (.int v12), .val (.int kf), .val (.int b0), .val (.int b1), .val (.int b2), .val (.int lb), .val (.ref r13), .val (.ref r14), .val (.ref a91), .val (.ref r95), .val (.ref b97), .unset, .unset] [(.ref (own_kind kb k0 k1 k2 k3 k4 k5)), (.ref b109), (.ref b109)])
            refine W.aload C at_309 rfl rfl rfl ?_
            refine W.aload C at_311 rfl rfl rfl ?_
            refine W.new C (hw _ (List.mem_of_getElem? (i := 52) rfl)) (hw _ (List.mem_of_getElem? (i := 53) rfl)) (hw _ (List.mem_of_getElem? (i := 54) rfl)) at_313 rfl (by decide) (by decide) (k' := 20) (n' := 45) rfl rfl ?_
            intro h113 b113 gb113 g0_b113 E113 Ab113 Db113
            have ne_r13_b113 : r13 ≠ b113 := Nat.ne_of_lt (by rw [gb113]; exact ((((((((O13.1.keep K14).ext E91).keep K95).ext E97).ext E99).keep K101).keep K105).ext E109).lt)
            have ne_b13_b113 : b13 ≠ b113 := Nat.ne_of_lt (by rw [gb113]; exact ((((((((O13.2.2.2.keep K14 nin0).ext E91).keep K95 nin0).ext E97).ext E99).keep K101 (ninS ne_b13_b99 nin0)).keep K105 (ninS ne_b13_b97 nin0)).ext E109).lt)
            have ne_r14_b113 : r14 ≠ b113 := Nat.ne_of_lt (by rw [gb113]; exact (((((((O14.1.ext E91).keep K95).ext E97).ext E99).keep K101).keep K105).ext E109).lt)
            have ne_b14_b113 : b14 ≠ b113 := Nat.ne_of_lt (by rw [gb113]; exact (((((((O14.2.2.2.ext E91).keep K95 nin0).ext E97).ext E99).keep K101 (ninS ne_b14_b99 nin0)).keep K105 (ninS ne_b14_b97 nin0)).ext E109).lt)
            have ne_a91_b113 : a91 ≠ b113 := Nat.ne_of_lt (by rw [gb113]; exact ((((((X91.keep K95).ext E97).ext E99).keep K101).keep K105).ext E109).lt)
            have ne_b91_b113 : b91 ≠ b113 := Nat.ne_of_lt (by rw [gb113]; exact ((((((V91.keep K95 nin0).ext E97).ext E99).keep K101 (ninS ne_b91_b99 nin0)).keep K105 (ninS ne_b91_b97 nin0)).ext E109).lt)
            have ne_r95_b113 : r95 ≠ b113 := Nat.ne_of_lt (by rw [gb113]; exact (((((O95.1.ext E97).ext E99).keep K101).keep K105).ext E109).lt)
            have ne_b95_b113 : b95 ≠ b113 := Nat.ne_of_lt (by rw [gb113]; exact (((((O95.2.2.2.ext E97).ext E99).keep K101 (ninS ne_b95_b99 nin0)).keep K105 (ninS ne_b95_b97 nin0)).ext E109).lt)
            have ne_b97_b113 : b97 ≠ b113 := Nat.ne_of_lt (by rw [gb113]; exact (O105.1.ext E109).lt)
            have ne_b99_b113 : b99 ≠ b113 := Nat.ne_of_lt (by rw [gb113]; exact ((O101.1.keep K105).ext E109).lt)
            have ne_b109_b113 : b109 ≠ b113 := Nat.ne_of_lt (by rw [gb113]; exact Ab109.lt)
            have sn_b113 := (lk106.ext E109).sext E113 (Safe.new (Nat.le_of_eq gb113.symm))
            have sx114 := (lk106.ext E109).sext E113 sx110
            have sx115 := (lk106.ext E109).sext E113 sx111
            have sx116 := (lk106.ext E109).sext E113 sn_b109
            have Fb113_start : Fld Z h113 b113 "com/example/termwright/termwright/Document$Span" "start" "I" (.int (0 : Int32)) := Db113 (Or.inr (hw _ (List.mem_of_getElem? (i := 65) rfl))) (ty := .int) (by decide)
            have Fb113_end : Fld Z h113 b113 "com/example/termwright/termwright/Document$Span" "end" "I" (.int (0 : Int32)) := Db113 (Or.inr (hw _ (List.mem_of_getElem? (i := 67) rfl))) (ty := .int) (by decide)
            refine W.dup C at_316 rfl rfl ?_
            refine W.iload C at_317 rfl rfl ?_
            refine W.iload C at_319 rfl rfl ?_
            refine W.callSp C (y := (⟨"com/example/termwright/termwright/Document$Span", "<init>", "(II)V"⟩ : MethodName)) (a := b113) rfl (hw _ (List.mem_of_getElem? (i := 55) rfl)) (hw _ (List.mem_of_getElem? (i := 56) rfl)) (hw _ (List.mem_of_getElem? (i := 54) rfl)) (hw _ (List.mem_of_getElem? (i := 57) rfl)) (by decide) (fun hz => rm10 l Z a0 hw [] b113 p5 p4 h113 n0 hz ⟨Ab113, Fb113_start, Fb113_end⟩ g0_b113) at_321 rfl rfl pd_14 rfl (argsL := [(.int p5), (.int p4)]) (rest := [(.ref b113), (.ref r95), (.ref r14), (.ref (own_kind kb k0 k1 k2 k3 k4 k5)), (.ref b109), (.ref b109)]) rfl (W := 6) rfl (by decide) (by decide) (by decide) (by decide) (k' := 20) (n' := 45) rfl rfl ?_
            rintro h117 _ ⟨rfl, K117, O117⟩
            have lk118 := ((lk106.ext E109).ext E113).keep K117 (allS sn_b113 all0)
            have sk119 := ((lk106.ext E109).ext E113).skeep K117 (allS sn_b113 all0) sx114
            have sk120 := ((lk106.ext E109).ext E113).skeep K117 (allS sn_b113 all0) sx115
            have sk121 := ((lk106.ext E109).ext E113).skeep K117 (allS sn_b113 all0) sx116
            have sk122 := ((lk106.ext E109).ext E113).skeep K117 (allS sn_b113 all0) sn_b113
            show W.Go p l e _ _ m _ below meth c _ _ _ _ _ _ (mkF m 324 #[.val (.int p0), .val (.int p1), .val (.int p2), .val (.int p3), .val (.int p4), .val (.int p5), .val (.int v2), .val (.int kb), .val (.int v4), .val (.int v7), .val (.int v10), .val (.int v12), .val (.int kf), .val (.int b0), .val (.int b1), .val (.int b2), .val (.int lb), .val (.ref r13), .val (.ref r14), .val (.ref a91), .val (.ref r95), .val (.ref b97), .unset, .unset] [(.ref b113), (.ref r95), (.ref r14), (.ref (own_kind kb k0 k1 k2 k3 k4 k5)), (.ref b109), (.ref b109)])
            refine W.callSp C (y := (⟨"com/example/termwright/termwright/Heading", "<init>", "(Lcom/example/termwright/termwright/OutlineNode$Kind;Ljava/lang/String;Ljava/lang/String;Lcom/example/termwright/termwright/Document$Span;)V"⟩ : MethodName)) (a := b109) rfl (hw _ (List.mem_of_getElem? (i := 68) rfl)) (hw _ (List.mem_of_getElem? (i := 69) rfl)) (hw _ (List.mem_of_getElem? (i := 45) rfl)) (hw _ (List.mem_of_getElem? (i := 70) rfl)) (by decide) (fun hz => rm12 l Z a0 hw [] b109 (own_kind kb k0 k1 k2 k3 k4 k5) r14 r95 b113 h117 n0 hz ⟨((Ab109.ext E113).keep K117), ((Fb109_kind.ext E113).keep K117 (ninS ne_b109_b113 nin0)), ((Fb109_number.ext E113).keep K117 (ninS ne_b109_b113 nin0)), ((Fb109_title.ext E113).keep K117 (ninS ne_b109_b113 nin0)), ((Fb109_span.ext E113).keep K117 (ninS ne_b109_b113 nin0))⟩ g0_b109) at_324 rfl rfl pd_15 rfl (argsL := [(.ref (own_kind kb k0 k1 k2 k3 k4 k5)), (.ref r14), (.ref r95), (.ref b113)]) (rest := [(.ref b109)]) rfl (W := 1) rfl (by decide) (by decide) (by decide) (by decide) (k' := 20) (n' := 45) rfl rfl ?_
            rintro h123 _ ⟨rfl, K123, O123⟩
            have lk124 := lk118.keep K123 (allS sk121 all0)
            have sk125 := lk118.skeep K123 (allS sk121 all0) sk119
            have sk126 := lk118.skeep K123 (allS sk121 all0) sk120
            have sk127 := lk118.skeep K123 (allS sk121 all0) sk121
            have sk128 := lk118.skeep K123 (allS sk121 all0) sk122
            show W.Go p l e _ _ m _ below meth c _ _ _ _ _ _ (mkF m 327 #[.val (.int p0), .val (.int p1), .val (.int p2), .val (.int p3), .val (.int p4), .val (.int p5), .val (.int v2), .val (.int kb), .val (.int v4), .val (.int v7), .val (.int v10), .val (.int v12), .val (.int kf), .val (.int b0), .val (.int b1), .val (.int b2), .val (.int lb), .val (.ref r13), .val (.ref r14), .val (.ref a91), .val (.ref r95), .val (.ref b97), .unset, .unset] [(.ref b109)])
            refine W.astore C (Ls' := #[.val (.int p0), .val (.int p1), .val (.int p2), .val (.int p3), .val (.int p4), .val (.int p5), .val (.int v2), .val (.int kb), .val (.int v4), .val (.int v7), .val (.int v10), .val (.int v12), .val (.int kf), .val (.int b0), .val (.int b1), .val (.int b2), .val (.int lb), .val (.ref r13), .val (.ref r14), .val (.ref a91), .val (.ref r95), .val (.ref b97), .val (.ref b109), .unset]) at_327 rfl rfl rfl ?_
            have J389 : ∀ (ex : Int32) (hex : (ex = 1 ∧ (v2 = kb ∧ own_same v12 v4 v7 v10 lb b0 b1 b2)) ∨ (ex = 0 ∧ ¬ (v2 = kb ∧ own_same v12 v4 v7 v10 lb b0 b1 b2))), W.Go p l e room_1 (s0.setVm vm91) m #[(.int p0), (.int p1), (.int p2), (.int p3), (.int p4), (.int p5)] below meth c (fun s₂ o L => CHr Z consts_1 s0.vm s0.heap s₂.vm s₂.heap ∧ ReturnedEndW s0 o s₂ L 40 2240) n0 (fun v _ => v = some (.int 1)) h123 (20) (45) (mkF m 389 #[.val (.int p0), .val (.int p1), .val (.int p2), .val (.int p3), .val (.int p4), .val (.int p5), .val (.int v2), .val (.int kb), .val (.int v4), .val (.int v7), .val (.int v10), .val (.int v12), .val (.int kf), .val (.int b0), .val (.int b1), .val (.int b2), .val (.int lb), .val (.ref r13), .val (.ref r14), .val (.ref a91), .val (.ref r95), .val (.ref b97), .val (.ref b109), .val (.int ex)] []) := by
              intro ex hex
              refine W.aload C at_389 rfl rfl rfl ?_
              refine W.aload C at_391 rfl rfl rfl ?_
              refine W.callV C (y := (⟨"com/example/termwright/termwright/Heading", "headsSameDivision", "(Lcom/example/termwright/termwright/Heading;)Z"⟩ : MethodName)) (a := b97) (hw _ (List.mem_of_getElem? (i := 80) rfl)) (hw _ (List.mem_of_getElem? (i := 81) rfl)) (W.nf_sel C (hw _ (List.mem_of_getElem? (i := 83) rfl))) (hw _ (List.mem_of_getElem? (i := 83) rfl)) (hw _ (List.mem_of_getElem? (i := 82) rfl)) (hw _ (List.mem_of_getElem? (i := 45) rfl)) (hw _ (List.mem_of_getElem? (i := 84) rfl)) (by decide) ((((O105.1.ext E109).ext E113).keep K117).keep K123) (fun hz => rmHs l Z a0 hw [] b97 b109 (own_kind v2 k0 k1 k2 k3 k4 k5) (own_kind kb k0 k1 k2 k3 k4 k5) r13 r14 a91 r95 b99 b113 b13 b14 kb13 kb14 v12 lb cs (own_bs v12 v4 v7 v10) (own_bs lb b0 b1 b2) h123 n0 hz (SC.ext ((((((((((((OO.keep K13 all0).keep K14 all0).ext E91).keep K95 all0).ext E97).ext E99).keep K101 (allS g0_b99 all0)).keep K105 (allS g0_b97 all0)).ext E109).ext E113).keep K117 (allS g0_b113 all0)).keep K123 (allS g0_b109 all0)).2) hcs ⟨((((O105.1.ext E109).ext E113).keep K117).keep K123), ((((O105.2.1.ext E109).ext E113).keep K117 (ninS ne_b97_b113 nin0)).keep K123 (ninS ne_b97_b109 nin0)), ((((O105.2.2.1.ext E109).ext E113).keep K117 (ninS ne_b97_b113 nin0)).keep K123 (ninS ne_b97_b109 nin0)), ((((O105.2.2.2.1.ext E109).ext E113).keep K117 (ninS ne_b97_b113 nin0)).keep K123 (ninS ne_b97_b109 nin0)), ((((O105.2.2.2.2.ext E109).ext E113).keep K117 (ninS ne_b97_b113 nin0)).keep K123 (ninS ne_b97_b109 nin0))⟩ ⟨O123.1, O123.2.1, O123.2.2.1, O123.2.2.2.1, O123.2.2.2.2⟩ ⟨(((((((((((O13.1.keep K14).ext E91).keep K95).ext E97).ext E99).keep K101).keep K105).ext E109).ext E113).keep K117).keep K123), (((((((((((O13.2.1.keep K14 nin0).ext E91).keep K95 nin0).ext E97).ext E99).keep K101 (ninS ne_r13_b99 nin0)).keep K105 (ninS ne_r13_b97 nin0)).ext E109).ext E113).keep K117 (ninS ne_r13_b113 nin0)).keep K123 (ninS ne_r13_b109 nin0)), (((((((((((O13.2.2.1.keep K14 nin0).ext E91).keep K95 nin0).ext E97).ext E99).keep K101 (ninS ne_r13_b99 nin0)).keep K105 (ninS ne_r13_b97 nin0)).ext E109).ext E113).keep K117 (ninS ne_r13_b113 nin0)).keep K123 (ninS ne_r13_b109 nin0)), (((((((((((O13.2.2.2.keep K14 nin0).ext E91).keep K95 nin0).ext E97).ext E99).keep K101 (ninS ne_b13_b99 nin0)).keep K105 (ninS ne_b13_b97 nin0)).ext E109).ext E113).keep K117 (ninS ne_b13_b113 nin0)).keep K123 (ninS ne_b13_b109 nin0))⟩ ⟨((((((((((O14.1.ext E91).keep K95).ext E97).ext E99).keep K101).keep K105).ext E109).ext E113).keep K117).keep K123), ((((((((((O14.2.1.ext E91).keep K95 nin0).ext E97).ext E99).keep K101 (ninS ne_r14_b99 nin0)).keep K105 (ninS ne_r14_b97 nin0)).ext E109).ext E113).keep K117 (ninS ne_r14_b113 nin0)).keep K123 (ninS ne_r14_b109 nin0)), ((((((((((O14.2.2.1.ext E91).keep K95 nin0).ext E97).ext E99).keep K101 (ninS ne_r14_b99 nin0)).keep K105 (ninS ne_r14_b97 nin0)).ext E109).ext E113).keep K117 (ninS ne_r14_b113 nin0)).keep K123 (ninS ne_r14_b109 nin0)), ((((((((((O14.2.2.2.ext E91).keep K95 nin0).ext E97).ext E99).keep K101 (ninS ne_b14_b99 nin0)).keep K105 (ninS ne_b14_b97 nin0)).ext E109).ext E113).keep K117 (ninS ne_b14_b113 nin0)).keep K123 (ninS ne_b14_b109 nin0))⟩ (own_bsl _ _ _ _ r_v12) (own_bsl _ _ _ _ r_lb) r_v12.1 r_lb.1 (own_bsi _ _ _ _) (own_bsi _ _ _ _) (fun q => absurd q ne_r13_r14)) at_393 rfl rfl pd_16 rfl (argsL := [(.ref b109)]) (rest := []) rfl (W := 0) rfl (by decide) (by decide) (by decide) (by decide) (k' := 20) (n' := 45) rfl rfl ?_
              rintro h129 _ ⟨⟨wr, rfl, gr⟩, rfl⟩
              show W.Go p l e _ _ m _ below meth c _ _ _ _ _ _ (mkF m 396 #[.val (.int p0), .val (.int p1), .val (.int p2), .val (.int p3), .val (.int p4), .val (.int p5), .val (.int v2), .val (.int kb), .val (.int v4), .val (.int v7), .val (.int v10), .val (.int v12), .val (.int kf), .val (.int b0), .val (.int b1), .val (.int b2), .val (.int lb), .val (.ref r13), .val (.ref r14), .val (.ref a91), .val (.ref r95), .val (.ref b97), .val (.ref b109), .val (.int ex)] [(.int wr)])
              refine W.iload C at_396 rfl rfl ?_
              refine W.icmp C (pc' := 405) (pn := 401) at_398 (by decide) rfl rfl (W.q_ne wr ex) (fun hc398 => ?_) (fun hc398 => ?_)
              · exfalso
                have hbs := own_bseq v12 v4 v7 v10 lb b0 b1 b2 r_v12 r_lb r_v4 r_v7 r_v10 r_b0 r_b1 r_b2
                have hkk : own_kind v2 k0 k1 k2 k3 k4 k5 = own_kind kb k0 k1 k2 k3 k4 k5 ↔ v2 = kb := by
                  constructor
                  · intro q
                    by_cases z : v2 = kb
                    · exact z
                    · exact absurd q (Fld.ne (own_kindF G0 G1 G2 G3 G4 G5 _ r_v2) (own_kindF G0 G1 G2 G3 G4 G5 _ r_kb) (fun e => z (Value.int.inj e)))
                  · intro q; rw [q]
                rcases gr with ⟨rfl, g⟩ | ⟨rfl, g⟩ <;> rcases hex with ⟨rfl, x⟩ | ⟨rfl, x⟩
                · exact hc398 rfl
                · exact x ⟨hkk.mp g.1, hbs.mp g.2⟩
                · exact g ⟨hkk.mpr x.1, hbs.mpr x.2⟩
                · exact hc398 rfl
              refine W.iconst C (x := (1 : Int32)) at_401 rfl rfl ?_
              refine W.goto C (pc' := 406) at_402 (by decide) rfl ?_
              refine W.retZ C (w := (1 : Int32)) (by simp) at_406 (by decide) (by decide) (by decide) (W.Lt.fin lk124) ?_
              rfl
            refine W.iload C at_329 rfl rfl ?_
            refine W.iload C at_331 rfl rfl ?_
            refine W.icmp C (pc' := 386) (pn := 336) at_333 (by decide) rfl rfl (W.q_ne v2 kb) (fun hc333 => ?_) (fun hc333 => ?_)
            · refine W.iconst C (x := (0 : Int32)) at_386 rfl rfl ?_
              refine W.istore C (Ls' := #[.val (.int p0), .val (.int p1), .val (.int p2), .val (.int p3), .val (.int p4), .val (.int p5), .val (.int v2), .val (.int kb), .val (.int v4), .val (.int v7), .val (.int v10), .val (.int v12), .val (.int kf), .val (.int b0), .val (.int b1), .val (.int b2), .val (.int lb), .val (.ref r13), .val (.ref r14), .val (.ref a91), .val (.ref r95), .val (.ref b97), .val (.ref b109), .val (.int (0 : Int32))]) at_387 rfl rfl ?_
              exact J389 _ (Or.inr ⟨rfl, fun q => hc333 q.1⟩)
            · refine W.iload C at_336 rfl rfl ?_
              refine W.iload C at_338 rfl rfl ?_
              refine W.icmp C (pc' := 386) (pn := 343) at_340 (by decide) rfl rfl (W.q_ne v12 lb) (fun hc340 => ?_) (fun hc340 => ?_)
              · refine W.iconst C (x := (0 : Int32)) at_386 rfl rfl ?_
                refine W.istore C (Ls' := #[.val (.int p0), .val (.int p1), .val (.int p2), .val (.int p3), .val (.int p4), .val (.int p5), .val (.int v2), .val (.int kb), .val (.int v4), .val (.int v7), .val (.int v10), .val (.int v12), .val (.int kf), .val (.int b0), .val (.int b1), .val (.int b2), .val (.int lb), .val (.ref r13), .val (.ref r14), .val (.ref a91), .val (.ref r95), .val (.ref b97), .val (.ref b109), .val (.int (0 : Int32))]) at_387 rfl rfl ?_
                exact J389 _ (Or.inr ⟨rfl, fun q => hc340 q.2.1⟩)
              · refine W.iload C at_343 rfl rfl ?_
                refine W.iconst C (x := (1 : Int32)) at_345 rfl rfl ?_
                refine W.icmp C (pc' := 356) (pn := 349) at_346 (by decide) rfl rfl (W.q_lt v12 (1 : Int32)) (fun hc346 => ?_) (fun hc346 => ?_)
                · refine W.iload C at_356 rfl rfl ?_
                  refine W.iconst C (x := (2 : Int32)) at_358 rfl rfl ?_
                  refine W.icmp C (pc' := 369) (pn := 362) at_359 (by decide) rfl rfl (W.q_lt v12 (2 : Int32)) (fun hc359 => ?_) (fun hc359 => ?_)
                  · refine W.iload C at_369 rfl rfl ?_
                    refine W.iconst C (x := (3 : Int32)) at_371 rfl rfl ?_
                    refine W.icmp C (pc' := 382) (pn := 375) at_372 (by decide) rfl rfl (W.q_lt v12 (3 : Int32)) (fun hc372 => ?_) (fun hc372 => ?_)
                    · refine W.iconst C (x := (1 : Int32)) at_382 rfl rfl ?_
                      refine W.goto C (pc' := 387) at_383 (by decide) rfl ?_
                      refine W.istore C (Ls' := #[.val (.int p0), .val (.int p1), .val (.int p2), .val (.int p3), .val (.int p4), .val (.int p5), .val (.int v2), .val (.int kb), .val (.int v4), .val (.int v7), .val (.int v10), .val (.int v12), .val (.int kf), .val (.int b0), .val (.int b1), .val (.int b2), .val (.int lb), .val (.ref r13), .val (.ref r14), .val (.ref a91), .val (.ref r95), .val (.ref b97), .val (.ref b109), .val (.int (1 : Int32))]) at_387 rfl rfl ?_
                      simp only [Int32.reduceToInt] at hc346
                      simp only [Int32.reduceToInt] at hc359
                      simp only [Int32.reduceToInt] at hc372
                      exact J389 _ (Or.inl ⟨rfl, hc333, hc340, Or.inl hc346, Or.inl hc359, Or.inl hc372⟩)
                    · refine W.iload C at_375 rfl rfl ?_
                      refine W.iload C at_377 rfl rfl ?_
                      refine W.icmp C (pc' := 386) (pn := 382) at_379 (by decide) rfl rfl (W.q_ne v10 b2) (fun hc379 => ?_) (fun hc379 => ?_)
                      · refine W.iconst C (x := (0 : Int32)) at_386 rfl rfl ?_
                        refine W.istore C (Ls' := #[.val (.int p0), .val (.int p1), .val (.int p2), .val (.int p3), .val (.int p4), .val (.int p5), .val (.int v2), .val (.int kb), .val (.int v4), .val (.int v7), .val (.int v10), .val (.int v12), .val (.int kf), .val (.int b0), .val (.int b1), .val (.int b2), .val (.int lb), .val (.ref r13), .val (.ref r14), .val (.ref a91), .val (.ref r95), .val (.ref b97), .val (.ref b109), .val (.int (0 : Int32))]) at_387 rfl rfl ?_
                        simp only [Int32.reduceToInt] at hc346
                        simp only [Int32.reduceToInt] at hc359
                        simp only [Int32.reduceToInt] at hc372
                        exact J389 _ (Or.inr ⟨rfl, fun q => q.2.2.2.2.elim (fun z => absurd z (by omega)) hc379⟩)
                      · refine W.iconst C (x := (1 : Int32)) at_382 rfl rfl ?_
                        refine W.goto C (pc' := 387) at_383 (by decide) rfl ?_
                        refine W.istore C (Ls' := #[.val (.int p0), .val (.int p1), .val (.int p2), .val (.int p3), .val (.int p4), .val (.int p5), .val (.int v2), .val (.int kb), .val (.int v4), .val (.int v7), .val (.int v10), .val (.int v12), .val (.int kf), .val (.int b0), .val (.int b1), .val (.int b2), .val (.int lb), .val (.ref r13), .val (.ref r14), .val (.ref a91), .val (.ref r95), .val (.ref b97), .val (.ref b109), .val (.int (1 : Int32))]) at_387 rfl rfl ?_
                        simp only [Int32.reduceToInt] at hc346
                        simp only [Int32.reduceToInt] at hc359
                        simp only [Int32.reduceToInt] at hc372
                        exact J389 _ (Or.inl ⟨rfl, hc333, hc340, Or.inl hc346, Or.inl hc359, Or.inr hc379⟩)
                  · refine W.iload C at_362 rfl rfl ?_
                    refine W.iload C at_364 rfl rfl ?_
                    refine W.icmp C (pc' := 386) (pn := 369) at_366 (by decide) rfl rfl (W.q_ne v7 b1) (fun hc366 => ?_) (fun hc366 => ?_)
                    · refine W.iconst C (x := (0 : Int32)) at_386 rfl rfl ?_
                      refine W.istore C (Ls' := #[.val (.int p0), .val (.int p1), .val (.int p2), .val (.int p3), .val (.int p4), .val (.int p5), .val (.int v2), .val (.int kb), .val (.int v4), .val (.int v7), .val (.int v10), .val (.int v12), .val (.int kf), .val (.int b0), .val (.int b1), .val (.int b2), .val (.int lb), .val (.ref r13), .val (.ref r14), .val (.ref a91), .val (.ref r95), .val (.ref b97), .val (.ref b109), .val (.int (0 : Int32))]) at_387 rfl rfl ?_
                      simp only [Int32.reduceToInt] at hc346
                      simp only [Int32.reduceToInt] at hc359
                      exact J389 _ (Or.inr ⟨rfl, fun q => q.2.2.2.1.elim (fun z => absurd z (by omega)) hc366⟩)
                    · refine W.iload C at_369 rfl rfl ?_
                      refine W.iconst C (x := (3 : Int32)) at_371 rfl rfl ?_
                      refine W.icmp C (pc' := 382) (pn := 375) at_372 (by decide) rfl rfl (W.q_lt v12 (3 : Int32)) (fun hc372 => ?_) (fun hc372 => ?_)
                      · refine W.iconst C (x := (1 : Int32)) at_382 rfl rfl ?_
                        refine W.goto C (pc' := 387) at_383 (by decide) rfl ?_
                        refine W.istore C (Ls' := #[.val (.int p0), .val (.int p1), .val (.int p2), .val (.int p3), .val (.int p4), .val (.int p5), .val (.int v2), .val (.int kb), .val (.int v4), .val (.int v7), .val (.int v10), .val (.int v12), .val (.int kf), .val (.int b0), .val (.int b1), .val (.int b2), .val (.int lb), .val (.ref r13), .val (.ref r14), .val (.ref a91), .val (.ref r95), .val (.ref b97), .val (.ref b109), .val (.int (1 : Int32))]) at_387 rfl rfl ?_
                        simp only [Int32.reduceToInt] at hc346
                        simp only [Int32.reduceToInt] at hc359
                        simp only [Int32.reduceToInt] at hc372
                        exact J389 _ (Or.inl ⟨rfl, hc333, hc340, Or.inl hc346, Or.inr hc366, Or.inl hc372⟩)
                      · refine W.iload C at_375 rfl rfl ?_
                        refine W.iload C at_377 rfl rfl ?_
                        refine W.icmp C (pc' := 386) (pn := 382) at_379 (by decide) rfl rfl (W.q_ne v10 b2) (fun hc379 => ?_) (fun hc379 => ?_)
                        · refine W.iconst C (x := (0 : Int32)) at_386 rfl rfl ?_
                          refine W.istore C (Ls' := #[.val (.int p0), .val (.int p1), .val (.int p2), .val (.int p3), .val (.int p4), .val (.int p5), .val (.int v2), .val (.int kb), .val (.int v4), .val (.int v7), .val (.int v10), .val (.int v12), .val (.int kf), .val (.int b0), .val (.int b1), .val (.int b2), .val (.int lb), .val (.ref r13), .val (.ref r14), .val (.ref a91), .val (.ref r95), .val (.ref b97), .val (.ref b109), .val (.int (0 : Int32))]) at_387 rfl rfl ?_
                          simp only [Int32.reduceToInt] at hc346
                          simp only [Int32.reduceToInt] at hc359
                          simp only [Int32.reduceToInt] at hc372
                          exact J389 _ (Or.inr ⟨rfl, fun q => q.2.2.2.2.elim (fun z => absurd z (by omega)) hc379⟩)
                        · refine W.iconst C (x := (1 : Int32)) at_382 rfl rfl ?_
                          refine W.goto C (pc' := 387) at_383 (by decide) rfl ?_
                          refine W.istore C (Ls' := #[.val (.int p0), .val (.int p1), .val (.int p2), .val (.int p3), .val (.int p4), .val (.int p5), .val (.int v2), .val (.int kb), .val (.int v4), .val (.int v7), .val (.int v10), .val (.int v12), .val (.int kf), .val (.int b0), .val (.int b1), .val (.int b2), .val (.int lb), .val (.ref r13), .val (.ref r14), .val (.ref a91), .val (.ref r95), .val (.ref b97), .val (.ref b109), .val (.int (1 : Int32))]) at_387 rfl rfl ?_
                          simp only [Int32.reduceToInt] at hc346
                          simp only [Int32.reduceToInt] at hc359
                          simp only [Int32.reduceToInt] at hc372
                          exact J389 _ (Or.inl ⟨rfl, hc333, hc340, Or.inl hc346, Or.inr hc366, Or.inr hc379⟩)
                · refine W.iload C at_349 rfl rfl ?_
                  refine W.iload C at_351 rfl rfl ?_
                  refine W.icmp C (pc' := 386) (pn := 356) at_353 (by decide) rfl rfl (W.q_ne v4 b0) (fun hc353 => ?_) (fun hc353 => ?_)
                  · refine W.iconst C (x := (0 : Int32)) at_386 rfl rfl ?_
                    refine W.istore C (Ls' := #[.val (.int p0), .val (.int p1), .val (.int p2), .val (.int p3), .val (.int p4), .val (.int p5), .val (.int v2), .val (.int kb), .val (.int v4), .val (.int v7), .val (.int v10), .val (.int v12), .val (.int kf), .val (.int b0), .val (.int b1), .val (.int b2), .val (.int lb), .val (.ref r13), .val (.ref r14), .val (.ref a91), .val (.ref r95), .val (.ref b97), .val (.ref b109), .val (.int (0 : Int32))]) at_387 rfl rfl ?_
                    simp only [Int32.reduceToInt] at hc346
                    exact J389 _ (Or.inr ⟨rfl, fun q => q.2.2.1.elim (fun z => absurd z (by omega)) hc353⟩)
                  · refine W.iload C at_356 rfl rfl ?_
                    refine W.iconst C (x := (2 : Int32)) at_358 rfl rfl ?_
                    refine W.icmp C (pc' := 369) (pn := 362) at_359 (by decide) rfl rfl (W.q_lt v12 (2 : Int32)) (fun hc359 => ?_) (fun hc359 => ?_)
                    · refine W.iload C at_369 rfl rfl ?_
                      refine W.iconst C (x := (3 : Int32)) at_371 rfl rfl ?_
                      refine W.icmp C (pc' := 382) (pn := 375) at_372 (by decide) rfl rfl (W.q_lt v12 (3 : Int32)) (fun hc372 => ?_) (fun hc372 => ?_)
                      · refine W.iconst C (x := (1 : Int32)) at_382 rfl rfl ?_
                        refine W.goto C (pc' := 387) at_383 (by decide) rfl ?_
                        refine W.istore C (Ls' := #[.val (.int p0), .val (.int p1), .val (.int p2), .val (.int p3), .val (.int p4), .val (.int p5), .val (.int v2), .val (.int kb), .val (.int v4), .val (.int v7), .val (.int v10), .val (.int v12), .val (.int kf), .val (.int b0), .val (.int b1), .val (.int b2), .val (.int lb), .val (.ref r13), .val (.ref r14), .val (.ref a91), .val (.ref r95), .val (.ref b97), .val (.ref b109), .val (.int (1 : Int32))]) at_387 rfl rfl ?_
                        simp only [Int32.reduceToInt] at hc346
                        simp only [Int32.reduceToInt] at hc359
                        simp only [Int32.reduceToInt] at hc372
                        exact J389 _ (Or.inl ⟨rfl, hc333, hc340, Or.inr hc353, Or.inl hc359, Or.inl hc372⟩)
                      · refine W.iload C at_375 rfl rfl ?_
                        refine W.iload C at_377 rfl rfl ?_
                        refine W.icmp C (pc' := 386) (pn := 382) at_379 (by decide) rfl rfl (W.q_ne v10 b2) (fun hc379 => ?_) (fun hc379 => ?_)
                        · refine W.iconst C (x := (0 : Int32)) at_386 rfl rfl ?_
                          refine W.istore C (Ls' := #[.val (.int p0), .val (.int p1), .val (.int p2), .val (.int p3), .val (.int p4), .val (.int p5), .val (.int v2), .val (.int kb), .val (.int v4), .val (.int v7), .val (.int v10), .val (.int v12), .val (.int kf), .val (.int b0), .val (.int b1), .val (.int b2), .val (.int lb), .val (.ref r13), .val (.ref r14), .val (.ref a91), .val (.ref r95), .val (.ref b97), .val (.ref b109), .val (.int (0 : Int32))]) at_387 rfl rfl ?_
                          simp only [Int32.reduceToInt] at hc346
                          simp only [Int32.reduceToInt] at hc359
                          simp only [Int32.reduceToInt] at hc372
                          exact J389 _ (Or.inr ⟨rfl, fun q => q.2.2.2.2.elim (fun z => absurd z (by omega)) hc379⟩)
                        · refine W.iconst C (x := (1 : Int32)) at_382 rfl rfl ?_
                          refine W.goto C (pc' := 387) at_383 (by decide) rfl ?_
                          refine W.istore C (Ls' := #[.val (.int p0), .val (.int p1), .val (.int p2), .val (.int p3), .val (.int p4), .val (.int p5), .val (.int v2), .val (.int kb), .val (.int v4), .val (.int v7), .val (.int v10), .val (.int v12), .val (.int kf), .val (.int b0), .val (.int b1), .val (.int b2), .val (.int lb), .val (.ref r13), .val (.ref r14), .val (.ref a91), .val (.ref r95), .val (.ref b97), .val (.ref b109), .val (.int (1 : Int32))]) at_387 rfl rfl ?_
                          simp only [Int32.reduceToInt] at hc346
                          simp only [Int32.reduceToInt] at hc359
                          simp only [Int32.reduceToInt] at hc372
                          exact J389 _ (Or.inl ⟨rfl, hc333, hc340, Or.inr hc353, Or.inl hc359, Or.inr hc379⟩)
                    · refine W.iload C at_362 rfl rfl ?_
                      refine W.iload C at_364 rfl rfl ?_
                      refine W.icmp C (pc' := 386) (pn := 369) at_366 (by decide) rfl rfl (W.q_ne v7 b1) (fun hc366 => ?_) (fun hc366 => ?_)
                      · refine W.iconst C (x := (0 : Int32)) at_386 rfl rfl ?_
                        refine W.istore C (Ls' := #[.val (.int p0), .val (.int p1), .val (.int p2), .val (.int p3), .val (.int p4), .val (.int p5), .val (.int v2), .val (.int kb), .val (.int v4), .val (.int v7), .val (.int v10), .val (.int v12), .val (.int kf), .val (.int b0), .val (.int b1), .val (.int b2), .val (.int lb), .val (.ref r13), .val (.ref r14), .val (.ref a91), .val (.ref r95), .val (.ref b97), .val (.ref b109), .val (.int (0 : Int32))]) at_387 rfl rfl ?_
                        simp only [Int32.reduceToInt] at hc346
                        simp only [Int32.reduceToInt] at hc359
                        exact J389 _ (Or.inr ⟨rfl, fun q => q.2.2.2.1.elim (fun z => absurd z (by omega)) hc366⟩)
                      · refine W.iload C at_369 rfl rfl ?_
                        refine W.iconst C (x := (3 : Int32)) at_371 rfl rfl ?_
                        refine W.icmp C (pc' := 382) (pn := 375) at_372 (by decide) rfl rfl (W.q_lt v12 (3 : Int32)) (fun hc372 => ?_) (fun hc372 => ?_)
                        · refine W.iconst C (x := (1 : Int32)) at_382 rfl rfl ?_
                          refine W.goto C (pc' := 387) at_383 (by decide) rfl ?_
                          refine W.istore C (Ls' := #[.val (.int p0), .val (.int p1), .val (.int p2), .val (.int p3), .val (.int p4), .val (.int p5), .val (.int v2), .val (.int kb), .val (.int v4), .val (.int v7), .val (.int v10), .val (.int v12), .val (.int kf), .val (.int b0), .val (.int b1), .val (.int b2), .val (.int lb), .val (.ref r13), .val (.ref r14), .val (.ref a91), .val (.ref r95), .val (.ref b97), .val (.ref b109), .val (.int (1 : Int32))]) at_387 rfl rfl ?_
                          simp only [Int32.reduceToInt] at hc346
                          simp only [Int32.reduceToInt] at hc359
                          simp only [Int32.reduceToInt] at hc372
                          exact J389 _ (Or.inl ⟨rfl, hc333, hc340, Or.inr hc353, Or.inr hc366, Or.inl hc372⟩)
                        · refine W.iload C at_375 rfl rfl ?_
                          refine W.iload C at_377 rfl rfl ?_
                          refine W.icmp C (pc' := 386) (pn := 382) at_379 (by decide) rfl rfl (W.q_ne v10 b2) (fun hc379 => ?_) (fun hc379 => ?_)
                          · refine W.iconst C (x := (0 : Int32)) at_386 rfl rfl ?_
                            refine W.istore C (Ls' := #[.val (.int p0), .val (.int p1), .val (.int p2), .val (.int p3), .val (.int p4), .val (.int p5), .val (.int v2), .val (.int kb), .val (.int v4), .val (.int v7), .val (.int v10), .val (.int v12), .val (.int kf), .val (.int b0), .val (.int b1), .val (.int b2), .val (.int lb), .val (.ref r13), .val (.ref r14), .val (.ref a91), .val (.ref r95), .val (.ref b97), .val (.ref b109), .val (.int (0 : Int32))]) at_387 rfl rfl ?_
                            simp only [Int32.reduceToInt] at hc346
                            simp only [Int32.reduceToInt] at hc359
                            simp only [Int32.reduceToInt] at hc372
                            exact J389 _ (Or.inr ⟨rfl, fun q => q.2.2.2.2.elim (fun z => absurd z (by omega)) hc379⟩)
                          · refine W.iconst C (x := (1 : Int32)) at_382 rfl rfl ?_
                            refine W.goto C (pc' := 387) at_383 (by decide) rfl ?_
                            refine W.istore C (Ls' := #[.val (.int p0), .val (.int p1), .val (.int p2), .val (.int p3), .val (.int p4), .val (.int p5), .val (.int v2), .val (.int kb), .val (.int v4), .val (.int v7), .val (.int v10), .val (.int v12), .val (.int kf), .val (.int b0), .val (.int b1), .val (.int b2), .val (.int lb), .val (.ref r13), .val (.ref r14), .val (.ref a91), .val (.ref r95), .val (.ref b97), .val (.ref b109), .val (.int (1 : Int32))]) at_387 rfl rfl ?_
                            simp only [Int32.reduceToInt] at hc346
                            simp only [Int32.reduceToInt] at hc359
                            simp only [Int32.reduceToInt] at hc372
                            exact J389 _ (Or.inl ⟨rfl, hc333, hc340, Or.inr hc353, Or.inr hc366, Or.inr hc379⟩)
          · refine W.ldcL C (vs := []) (z := (0 : Int32)) (nn := 0) LT91 (hw _ (List.mem_of_getElem? (i := 111) rfl)) (List.mem_of_getElem? (i := 0) rfl) tx_0 (by decide) (by decide) at_252 rfl txl_0 (by decide) (by decide) (by decide) (k' := 16) (n' := 32) rfl rfl ?_
            intro vm130 k130 h130 a130 b130 kc_b130 C LT130 E130 X130 Fc130 Fv130 V130 SF130 NE130
            refine W.goto C (pc' := 269) at_254 (by decide) rfl ?_
            refine W.astore C (Ls' := #[.val (.int p0), .val (.int p1), .val (.int p2), .val (.int p3), .val (.int p4), .val (.int p5), .val (.int v2), .val (.int kb), .val (.int v4), .val (.int v7), .val (.int v10), .val (.int v12), .val (.int kf), .val (.int b0), .val (.int b1), .val (.int b2), .val (.int lb), .val (.ref r13), .val (.ref r14), .val (.ref a91), .val (.ref a130), .unset, .unset, .unset]) at_269 rfl rfl rfl ?_
            refine W.new C (hw _ (List.mem_of_getElem? (i := 43) rfl)) (hw _ (List.mem_of_getElem? (i := 44) rfl)) (hw _ (List.mem_of_getElem? (i := 45) rfl)) at_271 rfl (by decide) (by decide) (k' := 17) (n' := 36) rfl rfl ?_
            intro h131 b131 gb131 g0_b131 E131 Ab131 Db131
            have ne_r13_b131 : r13 ≠ b131 := Nat.ne_of_lt (by rw [gb131]; exact (((O13.1.keep K14).ext E91).ext E130).lt)
            have ne_b13_b131 : b13 ≠ b131 := Nat.ne_of_lt (by rw [gb131]; exact (((O13.2.2.2.keep K14 nin0).ext E91).ext E130).lt)
            have ne_r14_b131 : r14 ≠ b131 := Nat.ne_of_lt (by rw [gb131]; exact ((O14.1.ext E91).ext E130).lt)
            have ne_b14_b131 : b14 ≠ b131 := Nat.ne_of_lt (by rw [gb131]; exact ((O14.2.2.2.ext E91).ext E130).lt)
            have ne_a91_b131 : a91 ≠ b131 := Nat.ne_of_lt (by rw [gb131]; exact (X91.ext E130).lt)
            have ne_b91_b131 : b91 ≠ b131 := Nat.ne_of_lt (by rw [gb131]; exact (V91.ext E130).lt)
            have ne_a130_b131 : a130 ≠ b131 := Nat.ne_of_lt (by rw [gb131]; exact X130.lt)
            have ne_b130_b131 : b130 ≠ b131 := Nat.ne_of_lt (by rw [gb131]; exact V130.lt)
            have sn_b131 := LT130.sext E131 (Safe.new (Nat.le_of_eq gb131.symm))
            have Fb131_kind : Fld Z h131 b131 "com/example/termwright/termwright/Heading" "kind" "Lcom/example/termwright/termwright/OutlineNode$Kind;" .null := Db131 (Or.inr (hw _ (List.mem_of_getElem? (i := 73) rfl))) (ty := (.object "com/example/termwright/termwright/OutlineNode$Kind")) (by decide)
            have Fb131_number : Fld Z h131 b131 "com/example/termwright/termwright/Heading" "number" "Ljava/lang/String;" .null := Db131 (Or.inr (hw _ (List.mem_of_getElem? (i := 75) rfl))) (ty := (.object "java/lang/String")) (by decide)
            have Fb131_title : Fld Z h131 b131 "com/example/termwright/termwright/Heading" "title" "Ljava/lang/String;" .null := Db131 (Or.inr (hw _ (List.mem_of_getElem? (i := 77) rfl))) (ty := (.object "java/lang/String")) (by decide)
            have Fb131_span : Fld Z h131 b131 "com/example/termwright/termwright/Heading" "span" "Lcom/example/termwright/termwright/Document$Span;" .null := Db131 (Or.inr (hw _ (List.mem_of_getElem? (i := 79) rfl))) (ty := (.object "com/example/termwright/termwright/Document$Span")) (by decide)
            refine W.dup C at_274 rfl rfl ?_
            refine W.iload C at_275 rfl rfl ?_
            refine W.callS C (y := (⟨"com/example/termwright/termwright/HeadingHeadsSameDivisionPinLaw", "kind", "(I)Lcom/example/termwright/termwright/OutlineNode$Kind;"⟩ : MethodName)) (hw _ (List.mem_of_getElem? (i := 46) rfl)) (hw _ (List.mem_of_getElem? (i := 47) rfl)) (hw _ (List.mem_of_getElem? (i := 3) rfl)) (hw _ (List.mem_of_getElem? (i := 48) rfl)) (by decide) (fun hz => rmK l Z a0 hw [] v2 k0 k1 k2 k3 k4 k5 h131 n0 hz (T0.ext (((((OO.keep K13 all0).keep K14 all0).ext E91).ext E130).ext E131).2) (T1.ext (((((OO.keep K13 all0).keep K14 all0).ext E91).ext E130).ext E131).2) (T2.ext (((((OO.keep K13 all0).keep K14 all0).ext E91).ext E130).ext E131).2) (T3.ext (((((OO.keep K13 all0).keep K14 all0).ext E91).ext E130).ext E131).2) (T4.ext (((((OO.keep K13 all0).keep K14 all0).ext E91).ext E130).ext E131).2) (T5.ext (((((OO.keep K13 all0).keep K14 all0).ext E91).ext E130).ext E131).2)) at_277 rfl rfl pd_13 rfl (argsL := [(.int v2)]) (rest := [(.ref b131), (.ref b131)]) rfl (W := 2) rfl (by decide) (by decide) (by decide) (by decide) (k' := 17) (n' := 36) rfl rfl ?_
            rintro h132 _ ⟨rfl, rfl⟩
            show W.Go p l e _ _ m _ below meth c _ _ _ _ _ _ (mkF m 280 #[.val (.int p0), .val (.int p1), .val (.int p2), .val (.int p3), .val (.int p4), .val (.int p5), .val (.int v2), .val (.int kb), .val (.int v4), .val (.int v7), .val (.int v10), .val (.int v12), .val (.int kf), .val (.int b0), .val (.int b1), .val (.int b2), .val (.int lb), .val (.ref r13), .val (.ref r14), .val (.ref a91), .val (.ref a130), .unset, .unset, .unset] [(.ref (own_kind v2 k0 k1 k2 k3 k4 k5)), (.ref b131), (.ref b131)])
            refine W.aload C at_280 rfl rfl rfl ?_
            refine W.aload C at_282 rfl rfl rfl ?_
            refine W.new C (hw _ (List.mem_of_getElem? (i := 52) rfl)) (hw _ (List.mem_of_getElem? (i := 53) rfl)) (hw _ (List.mem_of_getElem? (i := 54) rfl)) at_284 rfl (by decide) (by decide) (k' := 18) (n' := 38) rfl rfl ?_
            intro h133 b133 gb133 g0_b133 E133 Ab133 Db133
            have ne_r13_b133 : r13 ≠ b133 := Nat.ne_of_lt (by rw [gb133]; exact ((((O13.1.keep K14).ext E91).ext E130).ext E131).lt)
            have ne_b13_b133 : b13 ≠ b133 := Nat.ne_of_lt (by rw [gb133]; exact ((((O13.2.2.2.keep K14 nin0).ext E91).ext E130).ext E131).lt)
            have ne_r14_b133 : r14 ≠ b133 := Nat.ne_of_lt (by rw [gb133]; exact (((O14.1.ext E91).ext E130).ext E131).lt)
            have ne_b14_b133 : b14 ≠ b133 := Nat.ne_of_lt (by rw [gb133]; exact (((O14.2.2.2.ext E91).ext E130).ext E131).lt)
            have ne_a91_b133 : a91 ≠ b133 := Nat.ne_of_lt (by rw [gb133]; exact ((X91.ext E130).ext E131).lt)
            have ne_b91_b133 : b91 ≠ b133 := Nat.ne_of_lt (by rw [gb133]; exact ((V91.ext E130).ext E131).lt)
            have ne_a130_b133 : a130 ≠ b133 := Nat.ne_of_lt (by rw [gb133]; exact (X130.ext E131).lt)
            have ne_b130_b133 : b130 ≠ b133 := Nat.ne_of_lt (by rw [gb133]; exact (V130.ext E131).lt)
            have ne_b131_b133 : b131 ≠ b133 := Nat.ne_of_lt (by rw [gb133]; exact Ab131.lt)
            have sn_b133 := (LT130.ext E131).sext E133 (Safe.new (Nat.le_of_eq gb133.symm))
            have sx134 := (LT130.ext E131).sext E133 sn_b131
            have Fb133_start : Fld Z h133 b133 "com/example/termwright/termwright/Document$Span" "start" "I" (.int (0 : Int32)) := Db133 (Or.inr (hw _ (List.mem_of_getElem? (i := 65) rfl))) (ty := .int) (by decide)
            have Fb133_end : Fld Z h133 b133 "com/example/termwright/termwright/Document$Span" "end" "I" (.int (0 : Int32)) := Db133 (Or.inr (hw _ (List.mem_of_getElem? (i := 67) rfl))) (ty := .int) (by decide)
            refine W.dup C at_287 rfl rfl ?_
            refine W.iload C at_288 rfl rfl ?_
            refine W.iload C at_290 rfl rfl ?_
            refine W.callSp C (y := (⟨"com/example/termwright/termwright/Document$Span", "<init>", "(II)V"⟩ : MethodName)) (a := b133) rfl (hw _ (List.mem_of_getElem? (i := 55) rfl)) (hw _ (List.mem_of_getElem? (i := 56) rfl)) (hw _ (List.mem_of_getElem? (i := 54) rfl)) (hw _ (List.mem_of_getElem? (i := 57) rfl)) (by decide) (fun hz => rm10 l Z a0 hw [] b133 p4 p5 h133 n0 hz ⟨Ab133, Fb133_start, Fb133_end⟩ g0_b133) at_292 rfl rfl pd_14 rfl (argsL := [(.int p4), (.int p5)]) (rest := [(.ref b133), (.ref a91), (.ref r13), (.ref (own_kind v2 k0 k1 k2 k3 k4 k5)), (.ref b131), (.ref b131)]) rfl (W := 6) rfl (by decide) (by decide) (by decide) (by decide) (k' := 18) (n' := 38) rfl rfl ?_
            rintro h135 _ ⟨rfl, K135, O135⟩
            have lk136 := ((LT130.ext E131).ext E133).keep K135 (allS sn_b133 all0)
            have sk137 := ((LT130.ext E131).ext E133).skeep K135 (allS sn_b133 all0) sx134
            have sk138 := ((LT130.ext E131).ext E133).skeep K135 (allS sn_b133 all0) sn_b133
            show W.Go p l e _ _ m _ below meth c _ _ _ _ _ _ (mkF m 295 #[.val (.int p0), .val (.int p1), .val (.int p2), .val (.int p3), .val (.int p4), .val (.int p5), .val (.int v2), .val (.int kb), .val (.int v4), .val (.int v7), .val (.int v10), .val (.int v12), .val (.int kf), .val (.int b0), .val (.int b1), .val (.int b2), .val (.int lb), .val (.ref r13), .val (.ref r14), .val (.ref a91), .val (.ref a130), .unset, .unset, .unset] [(.ref b133), (.ref a91), (.ref r13), (.ref (own_kind v2 k0 k1 k2 k3 k4 k5)), (.ref b131), (.ref b131)])
            refine W.callSp C (y := (⟨"com/example/termwright/termwright/Heading", "<init>", "(Lcom/example/termwright/termwright/OutlineNode$Kind;Ljava/lang/String;Ljava/lang/String;Lcom/example/termwright/termwright/Document$Span;)V"⟩ : MethodName)) (a := b131) rfl (hw _ (List.mem_of_getElem? (i := 68) rfl)) (hw _ (List.mem_of_getElem? (i := 69) rfl)) (hw _ (List.mem_of_getElem? (i := 45) rfl)) (hw _ (List.mem_of_getElem? (i := 70) rfl)) (by decide) (fun hz => rm12 l Z a0 hw [] b131 (own_kind v2 k0 k1 k2 k3 k4 k5) r13 a91 b133 h135 n0 hz ⟨((Ab131.ext E133).keep K135), ((Fb131_kind.ext E133).keep K135 (ninS ne_b131_b133 nin0)), ((Fb131_number.ext E133).keep K135 (ninS ne_b131_b133 nin0)), ((Fb131_title.ext E133).keep K135 (ninS ne_b131_b133 nin0)), ((Fb131_span.ext E133).keep K135 (ninS ne_b131_b133 nin0))⟩ g0_b131) at_295 rfl rfl pd_15 rfl (argsL := [(.ref (own_kind v2 k0 k1 k2 k3 k4 k5)), (.ref r13), (.ref a91), (.ref b133)]) (rest := [(.ref b131)]) rfl (W := 1) rfl (by decide) (by decide) (by decide) (by decide) (k' := 18) (n' := 38) rfl rfl ?_
            rintro h139 _ ⟨rfl, K139, O139⟩
            have lk140 := lk136.keep K139 (allS sk137 all0)
            have sk141 := lk136.skeep K139 (allS sk137 all0) sk137
            have sk142 := lk136.skeep K139 (allS sk137 all0) sk138
            show W.Go p l e _ _ m _ below meth c _ _ _ _ _ _ (mkF m 298 #[.val (.int p0), .val (.int p1), .val (.int p2), .val (.int p3), .val (.int p4), .val (.int p5), .val (.int v2), .val (.int kb), .val (.int v4), .val (.int v7), .val (.int v10), .val (.int v12), .val (.int kf), .val (.int b0), .val (.int b1), .val (.int b2), .val (.int lb), .val (.ref r13), .val (.ref r14), .val (.ref a91), .val (.ref a130), .unset, .unset, .unset] [(.ref b131)])
            refine W.astore C (Ls' := #[.val (.int p0), .val (.int p1), .val (.int p2), .val (.int p3), .val (.int p4), .val (.int p5), .val (.int v2), .val (.int kb), .val (.int v4), .val (.int v7), .val (.int v10), .val (.int v12), .val (.int kf), .val (.int b0), .val (.int b1), .val (.int b2), .val (.int lb), .val (.ref r13), .val (.ref r14), .val (.ref a91), .val (.ref a130), .val (.ref b131), .unset, .unset]) at_298 rfl rfl rfl ?_
            refine W.new C (hw _ (List.mem_of_getElem? (i := 43) rfl)) (hw _ (List.mem_of_getElem? (i := 44) rfl)) (hw _ (List.mem_of_getElem? (i := 45) rfl)) at_300 rfl (by decide) (by decide) (k' := 19) (n' := 42) rfl rfl ?_
            intro h143 b143 gb143 g0_b143 E143 Ab143 Db143
            have ne_r13_b143 : r13 ≠ b143 := Nat.ne_of_lt (by rw [gb143]; exact (((((((O13.1.keep K14).ext E91).ext E130).ext E131).ext E133).keep K135).keep K139).lt)
            have ne_b13_b143 : b13 ≠ b143 := Nat.ne_of_lt (by rw [gb143]; exact (((((((O13.2.2.2.keep K14 nin0).ext E91).ext E130).ext E131).ext E133).keep K135 (ninS ne_b13_b133 nin0)).keep K139 (ninS ne_b13_b131 nin0)).lt)
            have ne_r14_b143 : r14 ≠ b143 := Nat.ne_of_lt (by rw [gb143]; exact ((((((O14.1.ext E91).ext E130).ext E131).ext E133).keep K135).keep K139).lt)
            have ne_b14_b143 : b14 ≠ b143 := Nat.ne_of_lt (by rw [gb143]; exact ((((((O14.2.2.2.ext E91).ext E130).ext E131).ext E133).keep K135 (ninS ne_b14_b133 nin0)).keep K139 (ninS ne_b14_b131 nin0)).lt)
            have ne_a91_b143 : a91 ≠ b143 := Nat.ne_of_lt (by rw [gb143]; exact (((((X91.ext E130).ext E131).ext E133).keep K135).keep K139).lt)
            have ne_b91_b143 : b91 ≠ b143 := Nat.ne_of_lt (by rw [gb143]; exact (((((V91.ext E130).ext E131).ext E133).keep K135 (ninS ne_b91_b133 nin0)).keep K139 (ninS ne_b91_b131 nin0)).lt)
            have ne_a130_b143 : a130 ≠ b143 := Nat.ne_of_lt (by rw [gb143]; exact ((((X130.ext E131).ext E133).keep K135).keep K139).lt)
            have ne_b130_b143 : b130 ≠ b143 := Nat.ne_of_lt (by rw [gb143]; exact ((((V130.ext E131).ext E133).keep K135 (ninS ne_b130_b133 nin0)).keep K139 (ninS ne_b130_b131 nin0)).lt)
            have ne_b131_b143 : b131 ≠ b143 := Nat.ne_of_lt (by rw [gb143]; exact O139.1.lt)
            have ne_b133_b143 : b133 ≠ b143 := Nat.ne_of_lt (by rw [gb143]; exact (O135.1.keep K139).lt)
            have sn_b143 := lk140.sext E143 (Safe.new (Nat.le_of_eq gb143.symm))
            have sx144 := lk140.sext E143 sk141
            have sx145 := lk140.sext E143 sk142
            have Fb143_kind : Fld Z h143 b143 "com/example/termwright/termwright/Heading" "kind" "Lcom/example/termwright/termwright/OutlineNode$Kind;" .null := Db143 (Or.inr (hw _ (List.mem_of_getElem? (i := 73) rfl))) (ty := (.object "com/example/termwright/termwright/OutlineNode$Kind")) (by decide)
            have Fb143_number : Fld Z h143 b143 "com/example/termwright/termwright/Heading" "number" "Ljava/lang/String;" .null := Db143 (Or.inr (hw _ (List.mem_of_getElem? (i := 75) rfl))) (ty := (.object "java/lang/String")) (by decide)
            have Fb143_title : Fld Z h143 b143 "com/example/termwright/termwright/Heading" "title" "Ljava/lang/String;" .null := Db143 (Or.inr (hw _ (List.mem_of_getElem? (i := 77) rfl))) (ty := (.object "java/lang/String")) (by decide)
            have Fb143_span : Fld Z h143 b143 "com/example/termwright/termwright/Heading" "span" "Lcom/example/termwright/termwright/Document$Span;" .null := Db143 (Or.inr (hw _ (List.mem_of_getElem? (i := 79) rfl))) (ty := (.object "com/example/termwright/termwright/Document$Span")) (by decide)
            refine W.dup C at_303 rfl rfl ?_
            refine W.iload C at_304 rfl rfl ?_
            refine W.callS C (y := (⟨"com/example/termwright/termwright/HeadingHeadsSameDivisionPinLaw", "kind", "(I)Lcom/example/termwright/termwright/OutlineNode$Kind;"⟩ : MethodName)) (hw _ (List.mem_of_getElem? (i := 46) rfl)) (hw _ (List.mem_of_getElem? (i := 47) rfl)) (hw _ (List.mem_of_getElem? (i := 3) rfl)) (hw _ (List.mem_of_getElem? (i := 48) rfl)) (by decide) (fun hz => rmK l Z a0 hw [] kb k0 k1 k2 k3 k4 k5 h143 n0 hz (T0.ext (((((((((OO.keep K13 all0).keep K14 all0).ext E91).ext E130).ext E131).ext E133).keep K135 (allS g0_b133 all0)).keep K139 (allS g0_b131 all0)).ext E143).2) (T1.ext (((((((((OO.keep K13 all0).keep K14 all0).ext E91).ext E130).ext E131).ext E133).keep K135 (allS g0_b133 all0)).keep K139 (allS g0_b131 all0)).ext E143).2) (T2.ext (((((((((OO.keep K13 all0).keep K14 all0).ext E91).ext E130).ext E131).ext E133).keep K135 (allS g0_b133 all0)).keep K139 (allS g0_b131 all0)).ext E143).2) (T3.ext (((((((((OO.keep K13 all0).keep K14 all0).ext E91).ext E130).ext E131).ext E133).keep K135 (allS g0_b133 all0)).keep K139 (allS g0_b131 all0)).ext E143).2) (T4.ext (((((((((OO.keep K13 all0).keep K14 all0).ext E91).ext E130).ext E131).ext E133).keep K135 (allS g0_b133 all0)).keep K139 (allS g0_b131 all0)).ext E143).2) (T5.ext (((((((((OO.keep K13 all0).keep K14 all0).ext E91).ext E130).ext E131).ext E133).keep K135 (allS g0_b133 all0)).keep K139 (allS g0_b131 all0)).ext E143).2)) at_306 rfl rfl pd_13 rfl (argsL := [(.int kb)]) (rest := [(.ref b143), (.ref b143)]) rfl (W := 2) rfl (by decide) (by decide) (by decide) (by decide) (k' := 19) (n' := 42) rfl rfl ?_
            rintro h146 _ ⟨rfl, rfl⟩
            show W.Go p l e _ _ m _ below meth c _ _ _ _ _ _ (mkF m 309 #[.val (.int p0), .val (.int p1), .val (.int p2), .val (.int p3), .val (.int p4), .val (.int p5), .val (.int v2), .val (.int kb), .val (.int v4), .val (.int v7), .val (.int v10), .val (.int v12), .val (.int kf), .val (.int b0), .val (.int b1), .val (.int b2), .val (.int lb), .val (.ref r13), .val (.ref r14), .val (.ref a91), .val (.ref a130), .val (.ref b131), .unset, .unset] [(.ref (own_kind kb k0 k1 k2 k3 k4 k5)), (.ref b143), (.ref b143)])
            refine W.aload C at_309 rfl rfl rfl ?_
            refine W.aload C at_311 rfl rfl rfl ?_
            refine W.new C (hw _ (List.mem_of_getElem? (i := 52) rfl)) (hw _ (List.mem_of_getElem? (i := 53) rfl)) (hw _ (List.mem_of_getElem? (i := 54) rfl)) at_313 rfl (by decide) (by decide) (k' := 20) (n' := 44) rfl rfl ?_
            intro h147 b147 gb147 g0_b147 E147 Ab147 Db147
            have ne_r13_b147 : r13 ≠ b147 := Nat.ne_of_lt (by rw [gb147]; exact ((((((((O13.1.keep K14).ext E91).ext E130).ext E131).ext E133).keep K135).keep K139).ext E143).lt)
            have ne_b13_b147 : b13 ≠ b147 := Nat.ne_of_lt (by rw [gb147]; exact ((((((((O13.2.2.2.keep K14 nin0).ext E91).ext E130).ext E131).ext E133).keep K135 (ninS ne_b13_b133 nin0)).keep K139 (ninS ne_b13_b131 nin0)).ext E143).lt)
            have ne_r14_b147 : r14 ≠ b147 := Nat.ne_of_lt (by rw [gb147]; exact (((((((O14.1.ext E91).ext E130).ext E131).ext E133).keep K135).keep K139).ext E143).lt)
            have ne_b14_b147 : b14 ≠ b147 := Nat.ne_of_lt (by rw [gb147]; exact (((((((O14.2.2.2.ext E91).ext E130).ext E131).ext E133).keep K135 (ninS ne_b14_b133 nin0)).keep K139 (ninS ne_b14_b131 nin0)).ext E143).lt)
            have ne_a91_b147 : a91 ≠ b147 := Nat.ne_of_lt (by rw [gb147]; exact ((((((X91.ext E130).ext E131).ext E133).keep K135).keep K139).ext E143).lt)
            have ne_b91_b147 : b91 ≠ b147 := Nat.ne_of_lt (by rw [gb147]; exact ((((((V91.ext E130).ext E131).ext E133).keep K135 (ninS ne_b91_b133 nin0)).keep K139 (ninS ne_b91_b131 nin0)).ext E143).lt)
            have ne_a130_b147 : a130 ≠ b147 := Nat.ne_of_lt (by rw [gb147]; exact (((((X130.ext E131).ext E133).keep K135).keep K139).ext E143).lt)
            have ne_b130_b147 : b130 ≠ b147 := Nat.ne_of_lt (by rw [gb147]; exact (((((V130.ext E131).ext E133).keep K135 (ninS ne_b130_b133 nin0)).keep K139 (ninS ne_b130_b131 nin0)).ext E143).lt)
            have ne_b131_b147 : b131 ≠ b147 := Nat.ne_of_lt (by rw [gb147]; exact (O139.1.ext E143).lt)
            have ne_b133_b147 : b133 ≠ b147 := Nat.ne_of_lt (by rw [gb147]; exact ((O135.1.keep K139).ext E143).lt)
            have ne_b143_b147 : b143 ≠ b147 := Nat.ne_of_lt (by rw [gb147]; exact Ab143.lt)
            have sn_b147 := (lk140.ext E143).sext E147 (Safe.new (Nat.le_of_eq gb147.symm))
            have sx148 := (lk140.ext E143).sext E147 sx144
            have sx149 := (lk140.ext E143).sext E147 sx145
            have sx150 := (lk140.ext E143).sext E147 sn_b143
            have Fb147_start : Fld Z h147 b147 "com/example/termwright/termwright/Document$Span" "start" "I" (.int (0 : Int32)) := Db147 (Or.inr (hw _ (List.mem_of_getElem? (i := 65) rfl))) (ty := .int) (by decide)
            have Fb147_end : Fld Z h147 b147 "com/example/termwright/termwright/Document$Span" "end" "I" (.int (0 : Int32)) := Db147 (Or.inr (hw _ (List.mem_of_getElem? (i := 67) rfl))) (ty := .int) (by decide)
            refine W.dup C at_316 rfl rfl ?_
            refine W.iload C at_317 rfl rfl ?_
            refine W.iload C at_319 rfl rfl ?_
            refine W.callSp C (y := (⟨"com/example/termwright/termwright/Document$Span", "<init>", "(II)V"⟩ : MethodName)) (a := b147) rfl (hw _ (List.mem_of_getElem? (i := 55) rfl)) (hw _ (List.mem_of_getElem? (i := 56) rfl)) (hw _ (List.mem_of_getElem? (i := 54) rfl)) (hw _ (List.mem_of_getElem? (i := 57) rfl)) (by decide) (fun hz => rm10 l Z a0 hw [] b147 p5 p4 h147 n0 hz ⟨Ab147, Fb147_start, Fb147_end⟩ g0_b147) at_321 rfl rfl pd_14 rfl (argsL := [(.int p5), (.int p4)]) (rest := [(.ref b147), (.ref a130), (.ref r14), (.ref (own_kind kb k0 k1 k2 k3 k4 k5)), (.ref b143), (.ref b143)]) rfl (W := 6) rfl (by decide) (by decide) (by decide) (by decide) (k' := 20) (n' := 44) rfl rfl ?_
            rintro h151 _ ⟨rfl, K151, O151⟩
            have lk152 := ((lk140.ext E143).ext E147).keep K151 (allS sn_b147 all0)
            have sk153 := ((lk140.ext E143).ext E147).skeep K151 (allS sn_b147 all0) sx148
            have sk154 := ((lk140.ext E143).ext E147).skeep K151 (allS sn_b147 all0) sx149
            have sk155 := ((lk140.ext E143).ext E147).skeep K151 (allS sn_b147 all0) sx150
            have sk156 := ((lk140.ext E143).ext E147).skeep K151 (allS sn_b147 all0) sn_b147
            show W.Go p l e _ _ m _ below meth c _ _ _ _ _ _ (mkF m 324 #[.val (.int p0), .val (.int p1), .val (.int p2), .val (.int p3), .val (.int p4), .val (.int p5), .val (.int v2), .val (.int kb), .val (.int v4), .val (.int v7), .val (.int v10), .val (.int v12), .val (.int kf), .val (.int b0), .val (.int b1), .val (.int b2), .val (.int lb), .val (.ref r13), .val (.ref r14), .val (.ref a91), .val (.ref a130), .val (.ref b131), .unset, .unset] [(.ref b147), (.ref a130), (.ref r14), (.ref (own_kind kb k0 k1 k2 k3 k4 k5)), (.ref b143), (.ref b143)])
            refine W.callSp C (y := (⟨"com/example/termwright/termwright/Heading", "<init>", "(Lcom/example/termwright/termwright/OutlineNode$Kind;Ljava/lang/String;Ljava/lang/String;Lcom/example/termwright/termwright/Document$Span;)V"⟩ : MethodName)) (a := b143) rfl (hw _ (List.mem_of_getElem? (i := 68) rfl)) (hw _ (List.mem_of_getElem? (i := 69) rfl)) (hw _ (List.mem_of_getElem? (i := 45) rfl)) (hw _ (List.mem_of_getElem? (i := 70) rfl)) (by decide) (fun hz => rm12 l Z a0 hw [] b143 (own_kind kb k0 k1 k2 k3 k4 k5) r14 a130 b147 h151 n0 hz ⟨((Ab143.ext E147).keep K151), ((Fb143_kind.ext E147).keep K151 (ninS ne_b143_b147 nin0)), ((Fb143_number.ext E147).keep K151 (ninS ne_b143_b147 nin0)), ((Fb143_title.ext E147).keep K151 (ninS ne_b143_b147 nin0)), ((Fb143_span.ext E147).keep K151 (ninS ne_b143_b147 nin0))⟩ g0_b143) at_324 rfl rfl pd_15 rfl (argsL := [(.ref (own_kind kb k0 k1 k2 k3 k4 k5)), (.ref r14), (.ref a130), (.ref b147)]) (rest := [(.ref b143)]) rfl (W := 1) rfl (by decide) (by decide) (by decide) (by decide) (k' := 20) (n' := 44) rfl rfl ?_
            rintro h157 _ ⟨rfl, K157, O157⟩
            have lk158 := lk152.keep K157 (allS sk155 all0)
            have sk159 := lk152.skeep K157 (allS sk155 all0) sk153
            have sk160 := lk152.skeep K157 (allS sk155 all0) sk154
            have sk161 := lk152.skeep K157 (allS sk155 all0) sk155
            have sk162 := lk152.skeep K157 (allS sk155 all0) sk156
            show W.Go p l e _ _ m _ below meth c _ _ _ _ _ _ (mkF m 327 #[.val (.int p0), .val (.int p1), .val (.int p2), .val (.int p3), .val (.int p4), .val (.int p5), .val (.int v2), .val (.int kb), .val (.int v4), .val (.int v7), .val (.int v10), .val (.int v12), .val (.int kf), .val (.int b0), .val (.int b1), .val (.int b2), .val (.int lb), .val (.ref r13), .val (.ref r14), .val (.ref a91), .val (.ref a130), .val (.ref b131), .unset, .unset] [(.ref b143)])
            refine W.astore C (Ls' := #[.val (.int p0), .val (.int p1), .val (.int p2), .val (.int p3), .val (.int p4), .val (.int p5), .val (.int v2), .val (.int kb), .val (.int v4), .val (.int v7), .val (.int v10), .val (.int v12), .val (.int kf), .val (.int b0), .val (.int b1), .val (.int b2), .val (.int lb), .val (.ref r13), .val (.ref r14), .val (.ref a91), .val (.ref a130), .val (.ref b131), .val (.ref b143), .unset]) at_327 rfl rfl rfl ?_
            have J389 : ∀ (ex : Int32) (hex : (ex = 1 ∧ (v2 = kb ∧ own_same v12 v4 v7 v10 lb b0 b1 b2)) ∨ (ex = 0 ∧ ¬ (v2 = kb ∧ own_same v12 v4 v7 v10 lb b0 b1 b2))), W.Go p l e room_1 (s0.setVm vm130) m #[(.int p0), (.int p1), (.int p2), (.int p3), (.int p4), (.int p5)] below meth c (fun s₂ o L => CHr Z consts_1 s0.vm s0.heap s₂.vm s₂.heap ∧ ReturnedEndW s0 o s₂ L 40 2240) n0 (fun v _ => v = some (.int 1)) h157 (20) (44) (mkF m 389 #[.val (.int p0), .val (.int p1), .val (.int p2), .val (.int p3), .val (.int p4), .val (.int p5), .val (.int v2), .val (.int kb), .val (.int v4), .val (.int v7), .val (.int v10), .val (.int v12), .val (.int kf), .val (.int b0), .val (.int b1), .val (.int b2), .val (.int lb), .val (.ref r13), .val (.ref r14), .val (.ref a91), .val (.ref a130), .val (.ref b131), .val (.ref b143), .val (.int ex)] []) := by
              intro ex hex
              refine W.aload C at_389 rfl rfl rfl ?_
              refine W.aload C at_391 rfl rfl rfl ?_
              refine W.callV C (y := (⟨"com/example/termwright/termwright/Heading", "headsSameDivision", "(Lcom/example/termwright/termwright/Heading;)Z"⟩ : MethodName)) (a := b131) (hw _ (List.mem_of_getElem? (i := 80) rfl)) (hw _ (List.mem_of_getElem? (i := 81) rfl)) (W.nf_sel C (hw _ (List.mem_of_getElem? (i := 83) rfl))) (hw _ (List.mem_of_getElem? (i := 83) rfl)) (hw _ (List.mem_of_getElem? (i := 82) rfl)) (hw _ (List.mem_of_getElem? (i := 45) rfl)) (hw _ (List.mem_of_getElem? (i := 84) rfl)) (by decide) ((((O139.1.ext E143).ext E147).keep K151).keep K157) (fun hz => rmHs l Z a0 hw [] b131 b143 (own_kind v2 k0 k1 k2 k3 k4 k5) (own_kind kb k0 k1 k2 k3 k4 k5) r13 r14 a91 a130 b133 b147 b13 b14 kb13 kb14 v12 lb cs (own_bs v12 v4 v7 v10) (own_bs lb b0 b1 b2) h157 n0 hz (SC.ext ((((((((((((OO.keep K13 all0).keep K14 all0).ext E91).ext E130).ext E131).ext E133).keep K135 (allS g0_b133 all0)).keep K139 (allS g0_b131 all0)).ext E143).ext E147).keep K151 (allS g0_b147 all0)).keep K157 (allS g0_b143 all0)).2) hcs ⟨((((O139.1.ext E143).ext E147).keep K151).keep K157), ((((O139.2.1.ext E143).ext E147).keep K151 (ninS ne_b131_b147 nin0)).keep K157 (ninS ne_b131_b143 nin0)), ((((O139.2.2.1.ext E143).ext E147).keep K151 (ninS ne_b131_b147 nin0)).keep K157 (ninS ne_b131_b143 nin0)), ((((O139.2.2.2.1.ext E143).ext E147).keep K151 (ninS ne_b131_b147 nin0)).keep K157 (ninS ne_b131_b143 nin0)), ((((O139.2.2.2.2.ext E143).ext E147).keep K151 (ninS ne_b131_b147 nin0)).keep K157 (ninS ne_b131_b143 nin0))⟩ ⟨O157.1, O157.2.1, O157.2.2.1, O157.2.2.2.1, O157.2.2.2.2⟩ ⟨(((((((((((O13.1.keep K14).ext E91).ext E130).ext E131).ext E133).keep K135).keep K139).ext E143).ext E147).keep K151).keep K157), (((((((((((O13.2.1.keep K14 nin0).ext E91).ext E130).ext E131).ext E133).keep K135 (ninS ne_r13_b133 nin0)).keep K139 (ninS ne_r13_b131 nin0)).ext E143).ext E147).keep K151 (ninS ne_r13_b147 nin0)).keep K157 (ninS ne_r13_b143 nin0)), (((((((((((O13.2.2.1.keep K14 nin0).ext E91).ext E130).ext E131).ext E133).keep K135 (ninS ne_r13_b133 nin0)).keep K139 (ninS ne_r13_b131 nin0)).ext E143).ext E147).keep K151 (ninS ne_r13_b147 nin0)).keep K157 (ninS ne_r13_b143 nin0)), (((((((((((O13.2.2.2.keep K14 nin0).ext E91).ext E130).ext E131).ext E133).keep K135 (ninS ne_b13_b133 nin0)).keep K139 (ninS ne_b13_b131 nin0)).ext E143).ext E147).keep K151 (ninS ne_b13_b147 nin0)).keep K157 (ninS ne_b13_b143 nin0))⟩ ⟨((((((((((O14.1.ext E91).ext E130).ext E131).ext E133).keep K135).keep K139).ext E143).ext E147).keep K151).keep K157), ((((((((((O14.2.1.ext E91).ext E130).ext E131).ext E133).keep K135 (ninS ne_r14_b133 nin0)).keep K139 (ninS ne_r14_b131 nin0)).ext E143).ext E147).keep K151 (ninS ne_r14_b147 nin0)).keep K157 (ninS ne_r14_b143 nin0)), ((((((((((O14.2.2.1.ext E91).ext E130).ext E131).ext E133).keep K135 (ninS ne_r14_b133 nin0)).keep K139 (ninS ne_r14_b131 nin0)).ext E143).ext E147).keep K151 (ninS ne_r14_b147 nin0)).keep K157 (ninS ne_r14_b143 nin0)), ((((((((((O14.2.2.2.ext E91).ext E130).ext E131).ext E133).keep K135 (ninS ne_b14_b133 nin0)).keep K139 (ninS ne_b14_b131 nin0)).ext E143).ext E147).keep K151 (ninS ne_b14_b147 nin0)).keep K157 (ninS ne_b14_b143 nin0))⟩ (own_bsl _ _ _ _ r_v12) (own_bsl _ _ _ _ r_lb) r_v12.1 r_lb.1 (own_bsi _ _ _ _) (own_bsi _ _ _ _) (fun q => absurd q ne_r13_r14)) at_393 rfl rfl pd_16 rfl (argsL := [(.ref b143)]) (rest := []) rfl (W := 0) rfl (by decide) (by decide) (by decide) (by decide) (k' := 20) (n' := 44) rfl rfl ?_
              rintro h163 _ ⟨⟨wr, rfl, gr⟩, rfl⟩
              show W.Go p l e _ _ m _ below meth c _ _ _ _ _ _ (mkF m 396 #[.val (.int p0), .val (.int p1), .val (.int p2), .val (.int p3), .val (.int p4), .val (.int p5), .val (.int v2), .val (.int kb), .val (.int v4), .val (.int v7), .val (.int v10), .val (.int v12), .val (.int kf), .val (.int b0), .val (.int b1), .val (.int b2), .val (.int lb), .val (.ref r13), .val (.ref r14), .val (.ref a91), .val (.ref a130), .val (.ref b131), .val (.ref b143), .val (.int ex)] [(.int wr)])
              refine W.iload C at_396 rfl rfl ?_
              refine W.icmp C (pc' := 405) (pn := 401) at_398 (by decide) rfl rfl (W.q_ne wr ex) (fun hc398 => ?_) (fun hc398 => ?_)
              · exfalso
                have hbs := own_bseq v12 v4 v7 v10 lb b0 b1 b2 r_v12 r_lb r_v4 r_v7 r_v10 r_b0 r_b1 r_b2
                have hkk : own_kind v2 k0 k1 k2 k3 k4 k5 = own_kind kb k0 k1 k2 k3 k4 k5 ↔ v2 = kb := by
                  constructor
                  · intro q
                    by_cases z : v2 = kb
                    · exact z
                    · exact absurd q (Fld.ne (own_kindF G0 G1 G2 G3 G4 G5 _ r_v2) (own_kindF G0 G1 G2 G3 G4 G5 _ r_kb) (fun e => z (Value.int.inj e)))
                  · intro q; rw [q]
                rcases gr with ⟨rfl, g⟩ | ⟨rfl, g⟩ <;> rcases hex with ⟨rfl, x⟩ | ⟨rfl, x⟩
                · exact hc398 rfl
                · exact x ⟨hkk.mp g.1, hbs.mp g.2⟩
                · exact g ⟨hkk.mpr x.1, hbs.mpr x.2⟩
                · exact hc398 rfl
              refine W.iconst C (x := (1 : Int32)) at_401 rfl rfl ?_
              refine W.goto C (pc' := 406) at_402 (by decide) rfl ?_
              refine W.retZ C (w := (1 : Int32)) (by simp) at_406 (by decide) (by decide) (by decide) (W.Lt.fin lk158) ?_
              rfl
            refine W.iload C at_329 rfl rfl ?_
            refine W.iload C at_331 rfl rfl ?_
            refine W.icmp C (pc' := 386) (pn := 336) at_333 (by decide) rfl rfl (W.q_ne v2 kb) (fun hc333 => ?_) (fun hc333 => ?_)
            · refine W.iconst C (x := (0 : Int32)) at_386 rfl rfl ?_
              refine W.istore C (Ls' := #[.val (.int p0), .val (.int p1), .val (.int p2), .val (.int p3), .val (.int p4), .val (.int p5), .val (.int v2), .val (.int kb), .val (.int v4), .val (.int v7), .val (.int v10), .val (.int v12), .val (.int kf), .val (.int b0), .val (.int b1), .val (.int b2), .val (.int lb), .val (.ref r13), .val (.ref r14), .val (.ref a91), .val (.ref a130), .val (.ref b131), .val (.ref b143), .val (.int (0 : Int32))]) at_387 rfl rfl ?_
              exact J389 _ (Or.inr ⟨rfl, fun q => hc333 q.1⟩)
            · refine W.iload C at_336 rfl rfl ?_
              refine W.iload C at_338 rfl rfl ?_
              refine W.icmp C (pc' := 386) (pn := 343) at_340 (by decide) rfl rfl (W.q_ne v12 lb) (fun hc340 => ?_) (fun hc340 => ?_)
              · refine W.iconst C (x := (0 : Int32)) at_386 rfl rfl ?_
                refine W.istore C (Ls' := #[.val (.int p0), .val (.int p1), .val (.int p2), .val (.int p3), .val (.int p4), .val (.int p5), .val (.int v2), .val (.int kb), .val (.int v4), .val (.int v7), .val (.int v10), .val (.int v12), .val (.int kf), .val (.int b0), .val (.int b1), .val (.int b2), .val (.int lb), .val (.ref r13), .val (.ref r14), .val (.ref a91), .val (.ref a130), .val (.ref b131), .val (.ref b143), .val (.int (0 : Int32))]) at_387 rfl rfl ?_
                exact J389 _ (Or.inr ⟨rfl, fun q => hc340 q.2.1⟩)
              · refine W.iload C at_343 rfl rfl ?_
                refine W.iconst C (x := (1 : Int32)) at_345 rfl rfl ?_
                refine W.icmp C (pc' := 356) (pn := 349) at_346 (by decide) rfl rfl (W.q_lt v12 (1 : Int32)) (fun hc346 => ?_) (fun hc346 => ?_)
                · refine W.iload C at_356 rfl rfl ?_
                  refine W.iconst C (x := (2 : Int32)) at_358 rfl rfl ?_
                  refine W.icmp C (pc' := 369) (pn := 362) at_359 (by decide) rfl rfl (W.q_lt v12 (2 : Int32)) (fun hc359 => ?_) (fun hc359 => ?_)
                  · refine W.iload C at_369 rfl rfl ?_
                    refine W.iconst C (x := (3 : Int32)) at_371 rfl rfl ?_
                    refine W.icmp C (pc' := 382) (pn := 375) at_372 (by decide) rfl rfl (W.q_lt v12 (3 : Int32)) (fun hc372 => ?_) (fun hc372 => ?_)
                    · refine W.iconst C (x := (1 : Int32)) at_382 rfl rfl ?_
                      refine W.goto C (pc' := 387) at_383 (by decide) rfl ?_
                      refine W.istore C (Ls' := #[.val (.int p0), .val (.int p1), .val (.int p2), .val (.int p3), .val (.int p4), .val (.int p5), .val (.int v2), .val (.int kb), .val (.int v4), .val (.int v7), .val (.int v10), .val (.int v12), .val (.int kf), .val (.int b0), .val (.int b1), .val (.int b2), .val (.int lb), .val (.ref r13), .val (.ref r14), .val (.ref a91), .val (.ref a130), .val (.ref b131), .val (.ref b143), .val (.int (1 : Int32))]) at_387 rfl rfl ?_
                      simp only [Int32.reduceToInt] at hc346
                      simp only [Int32.reduceToInt] at hc359
                      simp only [Int32.reduceToInt] at hc372
                      exact J389 _ (Or.inl ⟨rfl, hc333, hc340, Or.inl hc346, Or.inl hc359, Or.inl hc372⟩)
                    · refine W.iload C at_375 rfl rfl ?_
                      refine W.iload C at_377 rfl rfl ?_
                      refine W.icmp C (pc' := 386) (pn := 382) at_379 (by decide) rfl rfl (W.q_ne v10 b2) (fun hc379 => ?_) (fun hc379 => ?_)
                      · refine W.iconst C (x := (0 : Int32)) at_386 rfl rfl ?_
                        refine W.istore C (Ls' := #[.val (.int p0), .val (.int p1), .val (.int p2), .val (.int p3), .val (.int p4), .val (.int p5), .val (.int v2), .val (.int kb), .val (.int v4), .val (.int v7), .val (.int v10), .val (.int v12), .val (.int kf), .val (.int b0), .val (.int b1), .val (.int b2), .val (.int lb), .val (.ref r13), .val (.ref r14), .val (.ref a91), .val (.ref a130), .val (.ref b131), .val (.ref b143), .val (.int (0 : Int32))]) at_387 rfl rfl ?_
                        simp only [Int32.reduceToInt] at hc346
                        simp only [Int32.reduceToInt] at hc359
                        simp only [Int32.reduceToInt] at hc372
                        exact J389 _ (Or.inr ⟨rfl, fun q => q.2.2.2.2.elim (fun z => absurd z (by omega)) hc379⟩)
                      · refine W.iconst C (x := (1 : Int32)) at_382 rfl rfl ?_
                        refine W.goto C (pc' := 387) at_383 (by decide) rfl ?_
                        refine W.istore C (Ls' := #[.val (.int p0), .val (.int p1), .val (.int p2), .val (.int p3), .val (.int p4), .val (.int p5), .val (.int v2), .val (.int kb), .val (.int v4), .val (.int v7), .val (.int v10), .val (.int v12), .val (.int kf), .val (.int b0), .val (.int b1), .val (.int b2), .val (.int lb), .val (.ref r13), .val (.ref r14), .val (.ref a91), .val (.ref a130), .val (.ref b131), .val (.ref b143), .val (.int (1 : Int32))]) at_387 rfl rfl ?_
                        simp only [Int32.reduceToInt] at hc346
                        simp only [Int32.reduceToInt] at hc359
                        simp only [Int32.reduceToInt] at hc372
                        exact J389 _ (Or.inl ⟨rfl, hc333, hc340, Or.inl hc346, Or.inl hc359, Or.inr hc379⟩)
                  · refine W.iload C at_362 rfl rfl ?_
                    refine W.iload C at_364 rfl rfl ?_
                    refine W.icmp C (pc' := 386) (pn := 369) at_366 (by decide) rfl rfl (W.q_ne v7 b1) (fun hc366 => ?_) (fun hc366 => ?_)
                    · refine W.iconst C (x := (0 : Int32)) at_386 rfl rfl ?_
                      refine W.istore C (Ls' := #[.val (.int p0), .val (.int p1), .val (.int p2), .val (.int p3), .val (.int p4), .val (.int p5), .val (.int v2), .val (.int kb), .val (.int v4), .val (.int v7), .val (.int v10), .val (.int v12), .val (.int kf), .val (.int b0), .val (.int b1), .val (.int b2), .val (.int lb), .val (.ref r13), .val (.ref r14), .val (.ref a91), .val (.ref a130), .val (.ref b131), .val (.ref b143), .val (.int (0 : Int32))]) at_387 rfl rfl ?_
                      simp only [Int32.reduceToInt] at hc346
                      simp only [Int32.reduceToInt] at hc359
                      exact J389 _ (Or.inr ⟨rfl, fun q => q.2.2.2.1.elim (fun z => absurd z (by omega)) hc366⟩)
                    · refine W.iload C at_369 rfl rfl ?_
                      refine W.iconst C (x := (3 : Int32)) at_371 rfl rfl ?_
                      refine W.icmp C (pc' := 382) (pn := 375) at_372 (by decide) rfl rfl (W.q_lt v12 (3 : Int32)) (fun hc372 => ?_) (fun hc372 => ?_)
                      · refine W.iconst C (x := (1 : Int32)) at_382 rfl rfl ?_
                        refine W.goto C (pc' := 387) at_383 (by decide) rfl ?_
                        refine W.istore C (Ls' := #[.val (.int p0), .val (.int p1), .val (.int p2), .val (.int p3), .val (.int p4), .val (.int p5), .val (.int v2), .val (.int kb), .val (.int v4), .val (.int v7), .val (.int v10), .val (.int v12), .val (.int kf), .val (.int b0), .val (.int b1), .val (.int b2), .val (.int lb), .val (.ref r13), .val (.ref r14), .val (.ref a91), .val (.ref a130), .val (.ref b131), .val (.ref b143), .val (.int (1 : Int32))]) at_387 rfl rfl ?_
                        simp only [Int32.reduceToInt] at hc346
                        simp only [Int32.reduceToInt] at hc359
                        simp only [Int32.reduceToInt] at hc372
                        exact J389 _ (Or.inl ⟨rfl, hc333, hc340, Or.inl hc346, Or.inr hc366, Or.inl hc372⟩)
                      · refine W.iload C at_375 rfl rfl ?_
                        refine W.iload C at_377 rfl rfl ?_
                        refine W.icmp C (pc' := 386) (pn := 382) at_379 (by decide) rfl rfl (W.q_ne v10 b2) (fun hc379 => ?_) (fun hc379 => ?_)
                        · refine W.iconst C (x := (0 : Int32)) at_386 rfl rfl ?_
                          refine W.istore C (Ls' := #[.val (.int p0), .val (.int p1), .val (.int p2), .val (.int p3), .val (.int p4), .val (.int p5), .val (.int v2), .val (.int kb), .val (.int v4), .val (.int v7), .val (.int v10), .val (.int v12), .val (.int kf), .val (.int b0), .val (.int b1), .val (.int b2), .val (.int lb), .val (.ref r13), .val (.ref r14), .val (.ref a91), .val (.ref a130), .val (.ref b131), .val (.ref b143), .val (.int (0 : Int32))]) at_387 rfl rfl ?_
                          simp only [Int32.reduceToInt] at hc346
                          simp only [Int32.reduceToInt] at hc359
                          simp only [Int32.reduceToInt] at hc372
                          exact J389 _ (Or.inr ⟨rfl, fun q => q.2.2.2.2.elim (fun z => absurd z (by omega)) hc379⟩)
                        · refine W.iconst C (x := (1 : Int32)) at_382 rfl rfl ?_
                          refine W.goto C (pc' := 387) at_383 (by decide) rfl ?_
                          refine W.istore C (Ls' := #[.val (.int p0), .val (.int p1), .val (.int p2), .val (.int p3), .val (.int p4), .val (.int p5), .val (.int v2), .val (.int kb), .val (.int v4), .val (.int v7), .val (.int v10), .val (.int v12), .val (.int kf), .val (.int b0), .val (.int b1), .val (.int b2), .val (.int lb), .val (.ref r13), .val (.ref r14), .val (.ref a91), .val (.ref a130), .val (.ref b131), .val (.ref b143), .val (.int (1 : Int32))]) at_387 rfl rfl ?_
                          simp only [Int32.reduceToInt] at hc346
                          simp only [Int32.reduceToInt] at hc359
                          simp only [Int32.reduceToInt] at hc372
                          exact J389 _ (Or.inl ⟨rfl, hc333, hc340, Or.inl hc346, Or.inr hc366, Or.inr hc379⟩)
                · refine W.iload C at_349 rfl rfl ?_
                  refine W.iload C at_351 rfl rfl ?_
                  refine W.icmp C (pc' := 386) (pn := 356) at_353 (by decide) rfl rfl (W.q_ne v4 b0) (fun hc353 => ?_) (fun hc353 => ?_)
                  · refine W.iconst C (x := (0 : Int32)) at_386 rfl rfl ?_
                    refine W.istore C (Ls' := #[.val (.int p0), .val (.int p1), .val (.int p2), .val (.int p3), .val (.int p4), .val (.int p5), .val (.int v2), .val (.int kb), .val (.int v4), .val (.int v7), .val (.int v10), .val (.int v12), .val (.int kf), .val (.int b0), .val (.int b1), .val (.int b2), .val (.int lb), .val (.ref r13), .val (.ref r14), .val (.ref a91), .val (.ref a130), .val (.ref b131), .val (.ref b143), .val (.int (0 : Int32))]) at_387 rfl rfl ?_
                    simp only [Int32.reduceToInt] at hc346
                    exact J389 _ (Or.inr ⟨rfl, fun q => q.2.2.1.elim (fun z => absurd z (by omega)) hc353⟩)
                  · refine W.iload C at_356 rfl rfl ?_
                    refine W.iconst C (x := (2 : Int32)) at_358 rfl rfl ?_
                    refine W.icmp C (pc' := 369) (pn := 362) at_359 (by decide) rfl rfl (W.q_lt v12 (2 : Int32)) (fun hc359 => ?_) (fun hc359 => ?_)
                    · refine W.iload C at_369 rfl rfl ?_
                      refine W.iconst C (x := (3 : Int32)) at_371 rfl rfl ?_
                      refine W.icmp C (pc' := 382) (pn := 375) at_372 (by decide) rfl rfl (W.q_lt v12 (3 : Int32)) (fun hc372 => ?_) (fun hc372 => ?_)
                      · refine W.iconst C (x := (1 : Int32)) at_382 rfl rfl ?_
                        refine W.goto C (pc' := 387) at_383 (by decide) rfl ?_
                        refine W.istore C (Ls' := #[.val (.int p0), .val (.int p1), .val (.int p2), .val (.int p3), .val (.int p4), .val (.int p5), .val (.int v2), .val (.int kb), .val (.int v4), .val (.int v7), .val (.int v10), .val (.int v12), .val (.int kf), .val (.int b0), .val (.int b1), .val (.int b2), .val (.int lb), .val (.ref r13), .val (.ref r14), .val (.ref a91), .val (.ref a130), .val (.ref b131), .val (.ref b143), .val (.int (1 : Int32))]) at_387 rfl rfl ?_
                        simp only [Int32.reduceToInt] at hc346
                        simp only [Int32.reduceToInt] at hc359
                        simp only [Int32.reduceToInt] at hc372
                        exact J389 _ (Or.inl ⟨rfl, hc333, hc340, Or.inr hc353, Or.inl hc359, Or.inl hc372⟩)
                      · refine W.iload C at_375 rfl rfl ?_
                        refine W.iload C at_377 rfl rfl ?_
                        refine W.icmp C (pc' := 386) (pn := 382) at_379 (by decide) rfl rfl (W.q_ne v10 b2) (fun hc379 => ?_) (fun hc379 => ?_)
                        · refine W.iconst C (x := (0 : Int32)) at_386 rfl rfl ?_
                          refine W.istore C (Ls' := #[.val (.int p0), .val (.int p1), .val (.int p2), .val (.int p3), .val (.int p4), .val (.int p5), .val (.int v2), .val (.int kb), .val (.int v4), .val (.int v7), .val (.int v10), .val (.int v12), .val (.int kf), .val (.int b0), .val (.int b1), .val (.int b2), .val (.int lb), .val (.ref r13), .val (.ref r14), .val (.ref a91), .val (.ref a130), .val (.ref b131), .val (.ref b143), .val (.int (0 : Int32))]) at_387 rfl rfl ?_
                          simp only [Int32.reduceToInt] at hc346
                          simp only [Int32.reduceToInt] at hc359
                          simp only [Int32.reduceToInt] at hc372
                          exact J389 _ (Or.inr ⟨rfl, fun q => q.2.2.2.2.elim (fun z => absurd z (by omega)) hc379⟩)
                        · refine W.iconst C (x := (1 : Int32)) at_382 rfl rfl ?_
                          refine W.goto C (pc' := 387) at_383 (by decide) rfl ?_
                          refine W.istore C (Ls' := #[.val (.int p0), .val (.int p1), .val (.int p2), .val (.int p3), .val (.int p4), .val (.int p5), .val (.int v2), .val (.int kb), .val (.int v4), .val (.int v7), .val (.int v10), .val (.int v12), .val (.int kf), .val (.int b0), .val (.int b1), .val (.int b2), .val (.int lb), .val (.ref r13), .val (.ref r14), .val (.ref a91), .val (.ref a130), .val (.ref b131), .val (.ref b143), .val (.int (1 : Int32))]) at_387 rfl rfl ?_
                          simp only [Int32.reduceToInt] at hc346
                          simp only [Int32.reduceToInt] at hc359
                          simp only [Int32.reduceToInt] at hc372
                          exact J389 _ (Or.inl ⟨rfl, hc333, hc340, Or.inr hc353, Or.inl hc359, Or.inr hc379⟩)
                    · refine W.iload C at_362 rfl rfl ?_
                      refine W.iload C at_364 rfl rfl ?_
                      refine W.icmp C (pc' := 386) (pn := 369) at_366 (by decide) rfl rfl (W.q_ne v7 b1) (fun hc366 => ?_) (fun hc366 => ?_)
                      · refine W.iconst C (x := (0 : Int32)) at_386 rfl rfl ?_
                        refine W.istore C (Ls' := #[.val (.int p0), .val (.int p1), .val (.int p2), .val (.int p3), .val (.int p4), .val (.int p5), .val (.int v2), .val (.int kb), .val (.int v4), .val (.int v7), .val (.int v10), .val (.int v12), .val (.int kf), .val (.int b0), .val (.int b1), .val (.int b2), .val (.int lb), .val (.ref r13), .val (.ref r14), .val (.ref a91), .val (.ref a130), .val (.ref b131), .val (.ref b143), .val (.int (0 : Int32))]) at_387 rfl rfl ?_
                        simp only [Int32.reduceToInt] at hc346
                        simp only [Int32.reduceToInt] at hc359
                        exact J389 _ (Or.inr ⟨rfl, fun q => q.2.2.2.1.elim (fun z => absurd z (by omega)) hc366⟩)
                      · refine W.iload C at_369 rfl rfl ?_
                        refine W.iconst C (x := (3 : Int32)) at_371 rfl rfl ?_
                        refine W.icmp C (pc' := 382) (pn := 375) at_372 (by decide) rfl rfl (W.q_lt v12 (3 : Int32)) (fun hc372 => ?_) (fun hc372 => ?_)
                        · refine W.iconst C (x := (1 : Int32)) at_382 rfl rfl ?_
                          refine W.goto C (pc' := 387) at_383 (by decide) rfl ?_
                          refine W.istore C (Ls' := #[.val (.int p0), .val (.int p1), .val (.int p2), .val (.int p3), .val (.int p4), .val (.int p5), .val (.int v2), .val (.int kb), .val (.int v4), .val (.int v7), .val (.int v10), .val (.int v12), .val (.int kf), .val (.int b0), .val (.int b1), .val (.int b2), .val (.int lb), .val (.ref r13), .val (.ref r14), .val (.ref a91), .val (.ref a130), .val (.ref b131), .val (.ref b143), .val (.int (1 : Int32))]) at_387 rfl rfl ?_
                          simp only [Int32.reduceToInt] at hc346
                          simp only [Int32.reduceToInt] at hc359
                          simp only [Int32.reduceToInt] at hc372
                          exact J389 _ (Or.inl ⟨rfl, hc333, hc340, Or.inr hc353, Or.inr hc366, Or.inl hc372⟩)
                        · refine W.iload C at_375 rfl rfl ?_
                          refine W.iload C at_377 rfl rfl ?_
                          refine W.icmp C (pc' := 386) (pn := 382) at_379 (by decide) rfl rfl (W.q_ne v10 b2) (fun hc379 => ?_) (fun hc379 => ?_)
                          · refine W.iconst C (x := (0 : Int32)) at_386 rfl rfl ?_
                            refine W.istore C (Ls' := #[.val (.int p0), .val (.int p1), .val (.int p2), .val (.int p3), .val (.int p4), .val (.int p5), .val (.int v2), .val (.int kb), .val (.int v4), .val (.int v7), .val (.int v10), .val (.int v12), .val (.int kf), .val (.int b0), .val (.int b1), .val (.int b2), .val (.int lb), .val (.ref r13), .val (.ref r14), .val (.ref a91), .val (.ref a130), .val (.ref b131), .val (.ref b143), .val (.int (0 : Int32))]) at_387 rfl rfl ?_
                            simp only [Int32.reduceToInt] at hc346
                            simp only [Int32.reduceToInt] at hc359
                            simp only [Int32.reduceToInt] at hc372
                            exact J389 _ (Or.inr ⟨rfl, fun q => q.2.2.2.2.elim (fun z => absurd z (by omega)) hc379⟩)
                          · refine W.iconst C (x := (1 : Int32)) at_382 rfl rfl ?_
                            refine W.goto C (pc' := 387) at_383 (by decide) rfl ?_
                            refine W.istore C (Ls' := #[.val (.int p0), .val (.int p1), .val (.int p2), .val (.int p3), .val (.int p4), .val (.int p5), .val (.int v2), .val (.int kb), .val (.int v4), .val (.int v7), .val (.int v10), .val (.int v12), .val (.int kf), .val (.int b0), .val (.int b1), .val (.int b2), .val (.int lb), .val (.ref r13), .val (.ref r14), .val (.ref a91), .val (.ref a130), .val (.ref b131), .val (.ref b143), .val (.int (1 : Int32))]) at_387 rfl rfl ?_
                            simp only [Int32.reduceToInt] at hc346
                            simp only [Int32.reduceToInt] at hc359
                            simp only [Int32.reduceToInt] at hc372
                            exact J389 _ (Or.inl ⟨rfl, hc333, hc340, Or.inr hc353, Or.inr hc366, Or.inr hc379⟩)
      have J170 : ∀ (b0 : Int32) (r_b0 : 0 ≤ b0.toInt ∧ b0.toInt ≤ 255) (b1 : Int32) (r_b1 : 0 ≤ b1.toInt ∧ b1.toInt ≤ 255) (b2 : Int32) (r_b2 : 0 ≤ b2.toInt ∧ b2.toInt ≤ 255), W.Go p l e room_1 (s0.setVm s0.vm) m #[(.int p0), (.int p1), (.int p2), (.int p3), (.int p4), (.int p5)] below meth c (fun s₂ o L => CHr Z consts_1 s0.vm s0.heap s₂.vm s₂.heap ∧ ReturnedEndW s0 o s₂ L 40 2240) n0 (fun v _ => v = some (.int 1)) h0 (0) (0) (mkF m 170 #[.val (.int p0), .val (.int p1), .val (.int p2), .val (.int p3), .val (.int p4), .val (.int p5), .val (.int v2), .val (.int kb), .val (.int v4), .val (.int v7), .val (.int v10), .val (.int v12), .val (.int kf), .val (.int b0), .val (.int b1), .val (.int b2), .unset, .unset, .unset, .unset, .unset, .unset, .unset, .unset] []) := by
        intro b0 r_b0 b1 r_b1 b2 r_b2
        refine W.iload C at_170 rfl rfl ?_
        refine W.ifc C (pc' := 183) (pn := 175) at_172 (by decide) rfl rfl (W.q_ne kf (0 : Int32)) (fun hc172 => ?_) (fun hc172 => ?_)
        · refine W.iload C at_183 rfl rfl ?_
          refine W.goto C (pc' := 193) at_185 (by decide) rfl ?_
          refine W.istore C (Ls' := #[.val (.int p0), .val (.int p1), .val (.int p2), .val (.int p3), .val (.int p4), .val (.int p5), .val (.int v2), .val (.int kb), .val (.int v4), .val (.int v7), .val (.int v10), .val (.int v12), .val (.int kf), .val (.int b0), .val (.int b1), .val (.int b2), .val (.int v12), .unset, .unset, .unset, .unset, .unset, .unset, .unset]) at_193 rfl rfl ?_
          exact J195 b0 r_b0 b1 r_b1 b2 r_b2 v12 r_v12
        · refine W.iloadN C at_175 rfl rfl ?_
          refine W.iconst C (x := (4 : Int32)) at_176 rfl rfl ?_
          refine W.iushr C (z := (((p2).toUInt32 >>> ((4 : Int32) &&& 31).toUInt32).toInt32)) at_177 rfl rfl ?_
          refine W.iconst C (x := (1 : Int32)) at_178 rfl rfl ?_
          refine W.iand C (z := ((((p2).toUInt32 >>> ((4 : Int32) &&& 31).toUInt32).toInt32) &&& (1 : Int32))) at_179 rfl rfl ?_
          refine W.ifc C (pc' := 188) (pn := 183) at_180 (by decide) rfl rfl (W.q_ne ((((p2).toUInt32 >>> ((4 : Int32) &&& 31).toUInt32).toInt32) &&& (1 : Int32)) (0 : Int32)) (fun hc180 => ?_) (fun hc180 => ?_)
          · refine W.iloadN C at_188 rfl rfl ?_
            refine W.iconst C (x := (5 : Int32)) at_189 rfl rfl ?_
            obtain ⟨v164, hv164⟩ : ∃ z__, z__ = (((p2).toUInt32 >>> ((5 : Int32) &&& 31).toUInt32).toInt32) := ⟨_, rfl⟩
            have fv164 := c_iushr p2 (5 : Int32) 5 rfl (by decide)
            rw [← hv164] at fv164
            try simp only [Int32.reduceToInt, Int64.reduceToInt, Nat.reducePow, Int.reducePow, Int.cast_ofNat_Int] at fv164
            have rv164 := rng32 v164
            refine W.iushr C at_190 rfl hv164.symm ?_
            refine W.iconst C (x := (3 : Int32)) at_191 rfl rfl ?_
            obtain ⟨v165, hv165⟩ : ∃ z__, z__ = (v164 &&& (3 : Int32)) := ⟨_, rfl⟩
            have fv165 := c_mask v164 (3 : Int32) 2 (by decide) (by decide)
            rw [← hv165] at fv165
            try simp only [Int32.reduceToInt, Int64.reduceToInt, Nat.reducePow, Int.reducePow, Int.cast_ofNat_Int] at fv165
            have rv165 := rng32 v165
            refine W.iand C at_192 rfl hv165.symm ?_
            refine W.istore C (Ls' := #[.val (.int p0), .val (.int p1), .val (.int p2), .val (.int p3), .val (.int p4), .val (.int p5), .val (.int v2), .val (.int kb), .val (.int v4), .val (.int v7), .val (.int v10), .val (.int v12), .val (.int kf), .val (.int b0), .val (.int b1), .val (.int b2), .val (.int v165), .unset, .unset, .unset, .unset, .unset, .unset, .unset]) at_193 rfl rfl ?_
            have r_v165 : 0 ≤ v165.toInt ∧ v165.toInt ≤ 3 := by omega
            exact J195 b0 r_b0 b1 r_b1 b2 r_b2 v165 r_v165
          · refine W.iload C at_183 rfl rfl ?_
            refine W.goto C (pc' := 193) at_185 (by decide) rfl ?_
            refine W.istore C (Ls' := #[.val (.int p0), .val (.int p1), .val (.int p2), .val (.int p3), .val (.int p4), .val (.int p5), .val (.int v2), .val (.int kb), .val (.int v4), .val (.int v7), .val (.int v10), .val (.int v12), .val (.int kf), .val (.int b0), .val (.int b1), .val (.int b2), .val (.int v12), .unset, .unset, .unset, .unset, .unset, .unset, .unset]) at_193 rfl rfl ?_
            exact J195 b0 r_b0 b1 r_b1 b2 r_b2 v12 r_v12
      have J141 : ∀ (b0 : Int32) (r_b0 : 0 ≤ b0.toInt ∧ b0.toInt ≤ 255) (b1 : Int32) (r_b1 : 0 ≤ b1.toInt ∧ b1.toInt ≤ 255), W.Go p l e room_1 (s0.setVm s0.vm) m #[(.int p0), (.int p1), (.int p2), (.int p3), (.int p4), (.int p5)] below meth c (fun s₂ o L => CHr Z consts_1 s0.vm s0.heap s₂.vm s₂.heap ∧ ReturnedEndW s0 o s₂ L 40 2240) n0 (fun v _ => v = some (.int 1)) h0 (0) (0) (mkF m 141 #[.val (.int p0), .val (.int p1), .val (.int p2), .val (.int p3), .val (.int p4), .val (.int p5), .val (.int v2), .val (.int kb), .val (.int v4), .val (.int v7), .val (.int v10), .val (.int v12), .val (.int kf), .val (.int b0), .val (.int b1), .unset, .unset, .unset, .unset, .unset, .unset, .unset, .unset, .unset] []) := by
        intro b0 r_b0 b1 r_b1
        refine W.iload C at_141 rfl rfl ?_
        refine W.ifc C (pc' := 154) (pn := 146) at_143 (by decide) rfl rfl (W.q_ne kf (0 : Int32)) (fun hc143 => ?_) (fun hc143 => ?_)
        · refine W.iload C at_154 rfl rfl ?_
          refine W.goto C (pc' := 168) at_156 (by decide) rfl ?_
          refine W.istore C (Ls' := #[.val (.int p0), .val (.int p1), .val (.int p2), .val (.int p3), .val (.int p4), .val (.int p5), .val (.int v2), .val (.int kb), .val (.int v4), .val (.int v7), .val (.int v10), .val (.int v12), .val (.int kf), .val (.int b0), .val (.int b1), .val (.int v10), .unset, .unset, .unset, .unset, .unset, .unset, .unset, .unset]) at_168 rfl rfl ?_
          exact J170 b0 r_b0 b1 r_b1 v10 r_v10
        · refine W.iloadN C at_146 rfl rfl ?_
          refine W.iconst C (x := (3 : Int32)) at_147 rfl rfl ?_
          refine W.iushr C (z := (((p2).toUInt32 >>> ((3 : Int32) &&& 31).toUInt32).toInt32)) at_148 rfl rfl ?_
          refine W.iconst C (x := (1 : Int32)) at_149 rfl rfl ?_
          refine W.iand C (z := ((((p2).toUInt32 >>> ((3 : Int32) &&& 31).toUInt32).toInt32) &&& (1 : Int32))) at_150 rfl rfl ?_
          refine W.ifc C (pc' := 159) (pn := 154) at_151 (by decide) rfl rfl (W.q_ne ((((p2).toUInt32 >>> ((3 : Int32) &&& 31).toUInt32).toInt32) &&& (1 : Int32)) (0 : Int32)) (fun hc151 => ?_) (fun hc151 => ?_)
          · refine W.iloadN C at_159 rfl rfl ?_
            refine W.bipush C (x := (24 : Int32)) at_160 rfl rfl ?_
            obtain ⟨v166, hv166⟩ : ∃ z__, z__ = (((p2).toUInt32 >>> ((24 : Int32) &&& 31).toUInt32).toInt32) := ⟨_, rfl⟩
            have fv166 := c_iushr p2 (24 : Int32) 24 rfl (by decide)
            rw [← hv166] at fv166
            try simp only [Int32.reduceToInt, Int64.reduceToInt, Nat.reducePow, Int.reducePow, Int.cast_ofNat_Int] at fv166
            have rv166 := rng32 v166
            refine W.iushr C at_162 rfl hv166.symm ?_
            refine W.sipush C (x := (255 : Int32)) at_163 rfl rfl ?_
            obtain ⟨v167, hv167⟩ : ∃ z__, z__ = (v166 &&& (255 : Int32)) := ⟨_, rfl⟩
            have fv167 := c_mask v166 (255 : Int32) 8 (by decide) (by decide)
            rw [← hv167] at fv167
            try simp only [Int32.reduceToInt, Int64.reduceToInt, Nat.reducePow, Int.reducePow, Int.cast_ofNat_Int] at fv167
            have rv167 := rng32 v167
            refine W.iand C at_166 rfl hv167.symm ?_
            obtain ⟨v168, hv168⟩ : ∃ z__, z__ = ((v167).toUInt32.toUInt16.toUInt32.toInt32) := ⟨_, rfl⟩
            have fv168 := c_i2c v167
            rw [← hv168] at fv168
            try simp only [Int32.reduceToInt, Int64.reduceToInt, Nat.reducePow, Int.reducePow, Int.cast_ofNat_Int] at fv168
            have rv168 := rng32 v168
            refine W.i2c C at_167 rfl hv168.symm ?_
            refine W.istore C (Ls' := #[.val (.int p0), .val (.int p1), .val (.int p2), .val (.int p3), .val (.int p4), .val (.int p5), .val (.int v2), .val (.int kb), .val (.int v4), .val (.int v7), .val (.int v10), .val (.int v12), .val (.int kf), .val (.int b0), .val (.int b1), .val (.int v168), .unset, .unset, .unset, .unset, .unset, .unset, .unset, .unset]) at_168 rfl rfl ?_
            have r_v168 : 0 ≤ v168.toInt ∧ v168.toInt ≤ 255 := by omega
            exact J170 b0 r_b0 b1 r_b1 v168 r_v168
          · refine W.iload C at_154 rfl rfl ?_
            refine W.goto C (pc' := 168) at_156 (by decide) rfl ?_
            refine W.istore C (Ls' := #[.val (.int p0), .val (.int p1), .val (.int p2), .val (.int p3), .val (.int p4), .val (.int p5), .val (.int v2), .val (.int kb), .val (.int v4), .val (.int v7), .val (.int v10), .val (.int v12), .val (.int kf), .val (.int b0), .val (.int b1), .val (.int v10), .unset, .unset, .unset, .unset, .unset, .unset, .unset, .unset]) at_168 rfl rfl ?_
            exact J170 b0 r_b0 b1 r_b1 v10 r_v10
      have J112 : ∀ (b0 : Int32) (r_b0 : 0 ≤ b0.toInt ∧ b0.toInt ≤ 255), W.Go p l e room_1 (s0.setVm s0.vm) m #[(.int p0), (.int p1), (.int p2), (.int p3), (.int p4), (.int p5)] below meth c (fun s₂ o L => CHr Z consts_1 s0.vm s0.heap s₂.vm s₂.heap ∧ ReturnedEndW s0 o s₂ L 40 2240) n0 (fun v _ => v = some (.int 1)) h0 (0) (0) (mkF m 112 #[.val (.int p0), .val (.int p1), .val (.int p2), .val (.int p3), .val (.int p4), .val (.int p5), .val (.int v2), .val (.int kb), .val (.int v4), .val (.int v7), .val (.int v10), .val (.int v12), .val (.int kf), .val (.int b0), .unset, .unset, .unset, .unset, .unset, .unset, .unset, .unset, .unset, .unset] []) := by
        intro b0 r_b0
        refine W.iload C at_112 rfl rfl ?_
        refine W.ifc C (pc' := 125) (pn := 117) at_114 (by decide) rfl rfl (W.q_ne kf (0 : Int32)) (fun hc114 => ?_) (fun hc114 => ?_)
        · refine W.iload C at_125 rfl rfl ?_
          refine W.goto C (pc' := 139) at_127 (by decide) rfl ?_
          refine W.istore C (Ls' := #[.val (.int p0), .val (.int p1), .val (.int p2), .val (.int p3), .val (.int p4), .val (.int p5), .val (.int v2), .val (.int kb), .val (.int v4), .val (.int v7), .val (.int v10), .val (.int v12), .val (.int kf), .val (.int b0), .val (.int v7), .unset, .unset, .unset, .unset, .unset, .unset, .unset, .unset, .unset]) at_139 rfl rfl ?_
          exact J141 b0 r_b0 v7 r_v7
        · refine W.iloadN C at_117 rfl rfl ?_
          refine W.iconst C (x := (2 : Int32)) at_118 rfl rfl ?_
          refine W.iushr C (z := (((p2).toUInt32 >>> ((2 : Int32) &&& 31).toUInt32).toInt32)) at_119 rfl rfl ?_
          refine W.iconst C (x := (1 : Int32)) at_120 rfl rfl ?_
          refine W.iand C (z := ((((p2).toUInt32 >>> ((2 : Int32) &&& 31).toUInt32).toInt32) &&& (1 : Int32))) at_121 rfl rfl ?_
          refine W.ifc C (pc' := 130) (pn := 125) at_122 (by decide) rfl rfl (W.q_ne ((((p2).toUInt32 >>> ((2 : Int32) &&& 31).toUInt32).toInt32) &&& (1 : Int32)) (0 : Int32)) (fun hc122 => ?_) (fun hc122 => ?_)
          · refine W.iloadN C at_130 rfl rfl ?_
            refine W.bipush C (x := (16 : Int32)) at_131 rfl rfl ?_
            obtain ⟨v169, hv169⟩ : ∃ z__, z__ = (((p2).toUInt32 >>> ((16 : Int32) &&& 31).toUInt32).toInt32) := ⟨_, rfl⟩
            have fv169 := c_iushr p2 (16 : Int32) 16 rfl (by decide)
            rw [← hv169] at fv169
            try simp only [Int32.reduceToInt, Int64.reduceToInt, Nat.reducePow, Int.reducePow, Int.cast_ofNat_Int] at fv169
            have rv169 := rng32 v169
            refine W.iushr C at_133 rfl hv169.symm ?_
            refine W.sipush C (x := (255 : Int32)) at_134 rfl rfl ?_
            obtain ⟨v170, hv170⟩ : ∃ z__, z__ = (v169 &&& (255 : Int32)) := ⟨_, rfl⟩
            have fv170 := c_mask v169 (255 : Int32) 8 (by decide) (by decide)
            rw [← hv170] at fv170
            try simp only [Int32.reduceToInt, Int64.reduceToInt, Nat.reducePow, Int.reducePow, Int.cast_ofNat_Int] at fv170
            have rv170 := rng32 v170
            refine W.iand C at_137 rfl hv170.symm ?_
            obtain ⟨v171, hv171⟩ : ∃ z__, z__ = ((v170).toUInt32.toUInt16.toUInt32.toInt32) := ⟨_, rfl⟩
            have fv171 := c_i2c v170
            rw [← hv171] at fv171
            try simp only [Int32.reduceToInt, Int64.reduceToInt, Nat.reducePow, Int.reducePow, Int.cast_ofNat_Int] at fv171
            have rv171 := rng32 v171
            refine W.i2c C at_138 rfl hv171.symm ?_
            refine W.istore C (Ls' := #[.val (.int p0), .val (.int p1), .val (.int p2), .val (.int p3), .val (.int p4), .val (.int p5), .val (.int v2), .val (.int kb), .val (.int v4), .val (.int v7), .val (.int v10), .val (.int v12), .val (.int kf), .val (.int b0), .val (.int v171), .unset, .unset, .unset, .unset, .unset, .unset, .unset, .unset, .unset]) at_139 rfl rfl ?_
            have r_v171 : 0 ≤ v171.toInt ∧ v171.toInt ≤ 255 := by omega
            exact J141 b0 r_b0 v171 r_v171
          · refine W.iload C at_125 rfl rfl ?_
            refine W.goto C (pc' := 139) at_127 (by decide) rfl ?_
            refine W.istore C (Ls' := #[.val (.int p0), .val (.int p1), .val (.int p2), .val (.int p3), .val (.int p4), .val (.int p5), .val (.int v2), .val (.int kb), .val (.int v4), .val (.int v7), .val (.int v10), .val (.int v12), .val (.int kf), .val (.int b0), .val (.int v7), .unset, .unset, .unset, .unset, .unset, .unset, .unset, .unset, .unset]) at_139 rfl rfl ?_
            exact J141 b0 r_b0 v7 r_v7
      refine W.iload C at_83 rfl rfl ?_
      refine W.ifc C (pc' := 96) (pn := 88) at_85 (by decide) rfl rfl (W.q_ne kf (0 : Int32)) (fun hc85 => ?_) (fun hc85 => ?_)
      · refine W.iload C at_96 rfl rfl ?_
        refine W.goto C (pc' := 110) at_98 (by decide) rfl ?_
        refine W.istore C (Ls' := #[.val (.int p0), .val (.int p1), .val (.int p2), .val (.int p3), .val (.int p4), .val (.int p5), .val (.int v2), .val (.int kb), .val (.int v4), .val (.int v7), .val (.int v10), .val (.int v12), .val (.int kf), .val (.int v4), .unset, .unset, .unset, .unset, .unset, .unset, .unset, .unset, .unset, .unset]) at_110 rfl rfl ?_
        exact J112 v4 r_v4
      · refine W.iloadN C at_88 rfl rfl ?_
        refine W.iconst C (x := (1 : Int32)) at_89 rfl rfl ?_
        refine W.iushr C (z := (((p2).toUInt32 >>> ((1 : Int32) &&& 31).toUInt32).toInt32)) at_90 rfl rfl ?_
        refine W.iconst C (x := (1 : Int32)) at_91 rfl rfl ?_
        refine W.iand C (z := ((((p2).toUInt32 >>> ((1 : Int32) &&& 31).toUInt32).toInt32) &&& (1 : Int32))) at_92 rfl rfl ?_
        refine W.ifc C (pc' := 101) (pn := 96) at_93 (by decide) rfl rfl (W.q_ne ((((p2).toUInt32 >>> ((1 : Int32) &&& 31).toUInt32).toInt32) &&& (1 : Int32)) (0 : Int32)) (fun hc93 => ?_) (fun hc93 => ?_)
        · refine W.iloadN C at_101 rfl rfl ?_
          refine W.bipush C (x := (8 : Int32)) at_102 rfl rfl ?_
          obtain ⟨v172, hv172⟩ : ∃ z__, z__ = (((p2).toUInt32 >>> ((8 : Int32) &&& 31).toUInt32).toInt32) := ⟨_, rfl⟩
          have fv172 := c_iushr p2 (8 : Int32) 8 rfl (by decide)
          rw [← hv172] at fv172
          try simp only [Int32.reduceToInt, Int64.reduceToInt, Nat.reducePow, Int.reducePow, Int.cast_ofNat_Int] at fv172
          have rv172 := rng32 v172
          refine W.iushr C at_104 rfl hv172.symm ?_
          refine W.sipush C (x := (255 : Int32)) at_105 rfl rfl ?_
          obtain ⟨v173, hv173⟩ : ∃ z__, z__ = (v172 &&& (255 : Int32)) := ⟨_, rfl⟩
          have fv173 := c_mask v172 (255 : Int32) 8 (by decide) (by decide)
          rw [← hv173] at fv173
          try simp only [Int32.reduceToInt, Int64.reduceToInt, Nat.reducePow, Int.reducePow, Int.cast_ofNat_Int] at fv173
          have rv173 := rng32 v173
          refine W.iand C at_108 rfl hv173.symm ?_
          obtain ⟨v174, hv174⟩ : ∃ z__, z__ = ((v173).toUInt32.toUInt16.toUInt32.toInt32) := ⟨_, rfl⟩
          have fv174 := c_i2c v173
          rw [← hv174] at fv174
          try simp only [Int32.reduceToInt, Int64.reduceToInt, Nat.reducePow, Int.reducePow, Int.cast_ofNat_Int] at fv174
          have rv174 := rng32 v174
          refine W.i2c C at_109 rfl hv174.symm ?_
          refine W.istore C (Ls' := #[.val (.int p0), .val (.int p1), .val (.int p2), .val (.int p3), .val (.int p4), .val (.int p5), .val (.int v2), .val (.int kb), .val (.int v4), .val (.int v7), .val (.int v10), .val (.int v12), .val (.int kf), .val (.int v174), .unset, .unset, .unset, .unset, .unset, .unset, .unset, .unset, .unset, .unset]) at_110 rfl rfl ?_
          have r_v174 : 0 ≤ v174.toInt ∧ v174.toInt ≤ 255 := by omega
          exact J112 v174 r_v174
        · refine W.iload C at_96 rfl rfl ?_
          refine W.goto C (pc' := 110) at_98 (by decide) rfl ?_
          refine W.istore C (Ls' := #[.val (.int p0), .val (.int p1), .val (.int p2), .val (.int p3), .val (.int p4), .val (.int p5), .val (.int v2), .val (.int kb), .val (.int v4), .val (.int v7), .val (.int v10), .val (.int v12), .val (.int kf), .val (.int v4), .unset, .unset, .unset, .unset, .unset, .unset, .unset, .unset, .unset, .unset]) at_110 rfl rfl ?_
          exact J112 v4 r_v4
    refine W.iloadN C at_70 rfl rfl ?_
    refine W.iconst C (x := (1 : Int32)) at_71 rfl rfl ?_
    refine W.iand C (z := (p2 &&& (1 : Int32))) at_72 rfl rfl ?_
    refine W.ifc C (pc' := 80) (pn := 76) at_73 (by decide) rfl rfl (W.q_ne (p2 &&& (1 : Int32)) (0 : Int32)) (fun hc73 => ?_) (fun hc73 => ?_)
    · refine W.iconst C (x := (0 : Int32)) at_80 rfl rfl ?_
      refine W.istore C (Ls' := #[.val (.int p0), .val (.int p1), .val (.int p2), .val (.int p3), .val (.int p4), .val (.int p5), .val (.int v2), .val (.int kb), .val (.int v4), .val (.int v7), .val (.int v10), .val (.int v12), .val (.int (0 : Int32)), .unset, .unset, .unset, .unset, .unset, .unset, .unset, .unset, .unset, .unset, .unset]) at_81 rfl rfl ?_
      exact J83 (0 : Int32)
    · refine W.iconst C (x := (1 : Int32)) at_76 rfl rfl ?_
      refine W.goto C (pc' := 81) at_77 (by decide) rfl ?_
      refine W.istore C (Ls' := #[.val (.int p0), .val (.int p1), .val (.int p2), .val (.int p3), .val (.int p4), .val (.int p5), .val (.int v2), .val (.int kb), .val (.int v4), .val (.int v7), .val (.int v10), .val (.int v12), .val (.int (1 : Int32)), .unset, .unset, .unset, .unset, .unset, .unset, .unset, .unset, .unset, .unset, .unset]) at_81 rfl rfl ?_
      exact J83 (1 : Int32)
  refine W.iloadN C at_9 rfl rfl ?_
  refine W.bipush C (x := (8 : Int32)) at_10 rfl rfl ?_
  refine W.iushr C (z := (((p0).toUInt32 >>> ((8 : Int32) &&& 31).toUInt32).toInt32)) at_12 rfl rfl ?_
  refine W.iconst C (x := (1 : Int32)) at_13 rfl rfl ?_
  refine W.iand C (z := ((((p0).toUInt32 >>> ((8 : Int32) &&& 31).toUInt32).toInt32) &&& (1 : Int32))) at_14 rfl rfl ?_
  refine W.ifc C (pc' := 23) (pn := 18) at_15 (by decide) rfl rfl (W.q_ne ((((p0).toUInt32 >>> ((8 : Int32) &&& 31).toUInt32).toInt32) &&& (1 : Int32)) (0 : Int32)) (fun hc15 => ?_) (fun hc15 => ?_)
  · refine W.iloadN C at_23 rfl rfl ?_
    refine W.bipush C (x := (9 : Int32)) at_24 rfl rfl ?_
    obtain ⟨v175, hv175⟩ : ∃ z__, z__ = (((p0).toUInt32 >>> ((9 : Int32) &&& 31).toUInt32).toInt32) := ⟨_, rfl⟩
    have fv175 := c_iushr p0 (9 : Int32) 9 rfl (by decide)
    rw [← hv175] at fv175
    try simp only [Int32.reduceToInt, Int64.reduceToInt, Nat.reducePow, Int.reducePow, Int.cast_ofNat_Int] at fv175
    have rv175 := rng32 v175
    refine W.iushr C at_26 rfl hv175.symm ?_
    refine W.bipush C (x := (6 : Int32)) at_27 rfl rfl ?_
    obtain ⟨v176, hv176⟩ : ∃ z__, z__ = (v175 % (6 : Int32)) := ⟨_, rfl⟩
    have fv176 := c_irem v175 (6 : Int32) 6 rfl
    rw [← hv176] at fv176
    try simp only [Int32.reduceToInt, Int64.reduceToInt, Nat.reducePow, Int.reducePow, Int.cast_ofNat_Int] at fv176
    have rv176 := rng32 v176
    refine W.irem C at_29 rfl (by decide) hv176.symm ?_
    refine W.istore C (Ls' := #[.val (.int p0), .val (.int p1), .val (.int p2), .val (.int p3), .val (.int p4), .val (.int p5), .val (.int v2), .val (.int v176), .unset, .unset, .unset, .unset, .unset, .unset, .unset, .unset, .unset, .unset, .unset, .unset, .unset, .unset, .unset, .unset]) at_30 rfl rfl ?_
    have r_v176 : 0 ≤ v176.toInt ∧ v176.toInt ≤ 5 := by omega
    exact J32 v176 r_v176
  · refine W.iload C at_18 rfl rfl ?_
    refine W.goto C (pc' := 30) at_20 (by decide) rfl ?_
    refine W.istore C (Ls' := #[.val (.int p0), .val (.int p1), .val (.int p2), .val (.int p3), .val (.int p4), .val (.int p5), .val (.int v2), .val (.int v2), .unset, .unset, .unset, .unset, .unset, .unset, .unset, .unset, .unset, .unset, .unset, .unset, .unset, .unset, .unset, .unset]) at_30 rfl rfl ?_
    exact J32 v2 r_v2
set_option maxRecDepth 65536 in
set_option maxHeartbeats 40000000 in
theorem comes_1 {Post : Tables → Env → Array Value → State → Outcome → State → Prop} (hpost : ∀ tb e args s v u, (limb_1_1.after args s (.returned v) u = true ∧ limb_1_2.after args s (.returned v) u = true ∧ True) → FramedW s (.returned v) u (Jvm.fieldLocs frame_1_writes args s ++ Jvm.arrayLocs frame_1_arrays args s ++ Jvm.staticLocs frame_1_statics s) 40 2240 → Post tb e args s (.returned v) u) :
    ArmFor flags0 classFile x code maxLocals ret World_1 tables_1 room_1 Calls_1 rest_1 Pre_1 Post := by
  intro l hfl _ _ p e ha hc hk s m args below hf hA hF happ hP
  obtain ⟨hcalls, hrest, hpre⟩ := hP
  obtain ⟨-, -, -, hnamed, -, -, -, hat⟩ := (Spec.applies_iff hf).mp happ
  obtain ⟨hg, hn⟩ := and_e (Cond.before_iff.mp (show (Jvm.Cond.and given_1 narrow_1).before args s = true from hpre))
  obtain ⟨gv1, gv2⟩ := and_e hg
  obtain ⟨gv3, gv4⟩ := and_e gv2
  obtain ⟨gv5, gv6⟩ := and_e gv4
  obtain ⟨gv7, gv8⟩ := and_e gv6
  obtain ⟨gv9, gv10⟩ := and_e gv8
  obtain ⟨gv11, gv12⟩ := and_e gv10
  obtain ⟨w0, w1, w2, w3, w4, w5, rfl⟩ : ∃ w0 w1 w2 w3 w4 w5 : Value, args = #[w0, w1, w2, w3, w4, w5] := by
    have hs : args.size = 6 := by simpa [Cond.value, given_1] using gv1
    obtain ⟨L⟩ := args
    match L, hs with
    | [w0, w1, w2, w3, w4, w5], _ => exact ⟨w0, w1, w2, w3, w4, w5, rfl⟩
  have hw := fun d (hd : d ∈ tables_1) => atoms_spec (ws := Jvm.Cond.code x code maxLocals ret :: tables_1) hat d (List.mem_cons_of_mem _ hd)
  have hfit : Fit s := fun {y c} hc i hi => by
    obtain ⟨ha, rfl⟩ := Array.getElem?_eq_some_iff.mp hc
    have q := List.all_eq_true.mp ((Array.all_eq_true_iff_forall_mem.mp hF) _ (Array.getElem_mem ha)) i (List.mem_range.mpr hi)
    simpa [Array.getElem?_eq_getElem hi] using q
  obtain ⟨hsets, hown0⟩ := atoms_of _ (rest_1_c_eq ▸ (show rest_1_c.before _ s = true from hrest))
  have hr0 := Cond.before_iff.mp hown0
  obtain ⟨i0, ei0⟩ := is_v gv3
  obtain rfl : w0 = (.int i0) := Option.some.inj ei0
  obtain ⟨i1, ei1⟩ := is_v gv5
  obtain rfl : w1 = (.int i1) := Option.some.inj ei1
  obtain ⟨i2, ei2⟩ := is_v gv7
  obtain rfl : w2 = (.int i2) := Option.some.inj ei2
  obtain ⟨i3, ei3⟩ := is_v gv9
  obtain rfl : w3 = (.int i3) := Option.some.inj ei3
  obtain ⟨i4, ei4⟩ := is_v gv11
  obtain rfl : w4 = (.int i4) := Option.some.inj ei4
  obtain ⟨i5, ei5⟩ := is_v gv12
  obtain rfl : w5 = (.int i5) := Option.some.inj ei5
  obtain ⟨nw0, hn⟩ := and_e hn
  obtain ⟨nw1, hn⟩ := and_e hn
  obtain ⟨nw2, hn⟩ := and_e hn
  obtain ⟨nw3, hn⟩ := and_e hn
  obtain ⟨nw4, hn⟩ := and_e hn
  obtain ⟨nw5, hn⟩ := and_e hn
  obtain ⟨nw6, hn⟩ := and_e hn
  obtain ⟨nw7, hn⟩ := and_e hn
  obtain ⟨nw8, hn⟩ := and_e hn
  obtain ⟨nw9, hn⟩ := and_e hn
  obtain ⟨nw10, hn⟩ := and_e hn
  have nw11 := hn
  obtain ⟨k0, e0⟩ := exa_v nw0
  have T0 := Sta.start e0 (Or.inr ⟨(hw _ (List.mem_of_getElem? (i := 50) rfl)), (hw _ (List.mem_of_getElem? (i := 51) rfl))⟩)
  have G0 := Fld.start ((fld_at e0).symm.trans (eqv_i (F := Term.int 0) rfl nw7))
  obtain ⟨k1, e1⟩ := exa_v nw3
  have T1 := Sta.start e1 (Or.inr ⟨(hw _ (List.mem_of_getElem? (i := 50) rfl)), (hw _ (List.mem_of_getElem? (i := 108) rfl))⟩)
  have G1 := Fld.start ((fld_at e1).symm.trans (eqv_i (F := Term.int 1) rfl nw6))
  obtain ⟨k2, e2⟩ := exa_v nw4
  have T2 := Sta.start e2 (Or.inr ⟨(hw _ (List.mem_of_getElem? (i := 50) rfl)), (hw _ (List.mem_of_getElem? (i := 110) rfl))⟩)
  have G2 := Fld.start ((fld_at e2).symm.trans (eqv_i (F := Term.int 2) rfl nw5))
  obtain ⟨k3, e3⟩ := exa_v nw2
  have T3 := Sta.start e3 (Or.inr ⟨(hw _ (List.mem_of_getElem? (i := 50) rfl)), (hw _ (List.mem_of_getElem? (i := 96) rfl))⟩)
  have G3 := Fld.start ((fld_at e3).symm.trans (eqv_i (F := Term.int 3) rfl nw9))
  obtain ⟨k4, e4⟩ := exa_v nw1
  have T4 := Sta.start e4 (Or.inr ⟨(hw _ (List.mem_of_getElem? (i := 50) rfl)), (hw _ (List.mem_of_getElem? (i := 94) rfl))⟩)
  have G4 := Fld.start ((fld_at e4).symm.trans (eqv_i (F := Term.int 4) rfl nw10))
  obtain ⟨k5, e5⟩ := exa_v nw8
  have T5 := Sta.start e5 (Or.inr ⟨(hw _ (List.mem_of_getElem? (i := 50) rfl)), (hw _ (List.mem_of_getElem? (i := 113) rfl))⟩)
  have G5 := Fld.start ((fld_at e5).symm.trans (eqv_i (F := Term.int 5) rfl nw11))
  obtain ⟨cs, ecs⟩ := is_v (Cond.before_iff.mp (hsets _ (List.mem_of_getElem? (i := 1) rfl)))
  have SC : Sta s s.heap "java/lang/String" "COMPACT_STRINGS" "Z" (.int cs) := Sta.start ecs (Or.inl (hsets _ (List.mem_of_getElem? (i := 0) rfl)))
  have hcs : ¬ cs = 0 := fun q => by
    have hb := Cond.before_iff.mp (hsets _ (List.mem_of_getElem? (i := 2) rfl))
    subst q
    simp [Cond.value, Term.eval] at hb ecs
    simp [hb, ecs] at hb
  have hSA : ∀ a ∈ Bundle.stringAtoms, a.before #[(.int i0), (.int i1), (.int i2), (.int i3), (.int i4), (.int i5)] s = true := by
    intro a ha
    simp only [Bundle.stringAtoms, List.mem_cons, List.not_mem_nil, or_false] at ha
    rcases ha with rfl | rfl | rfl | rfl | rfl | rfl | rfl
    · exact (hw _ (List.mem_of_getElem? (i := 7) rfl))
    · exact (hw _ (List.mem_of_getElem? (i := 6) rfl))
    · exact (hw _ (List.mem_of_getElem? (i := 20) rfl))
    · exact (hw _ (List.mem_of_getElem? (i := 21) rfl))
    · exact (hw _ (List.mem_of_getElem? (i := 22) rfl))
    · exact (hw _ (List.mem_of_getElem? (i := 23) rfl))
    · exact (hw _ (List.mem_of_getElem? (i := 24) rfl))
  have hEL : EW s #[(.int i0), (.int i1), (.int i2), (.int i3), (.int i4), (.int i5)] consts_1 := (EW.cons (hw _ (List.mem_of_getElem? (i := 111) rfl)) tx_0.1 (EW.cons (hw _ (List.mem_of_getElem? (i := 19) rfl)) tx_1.1 EW.nil))
  have hCH : CHv s consts_1 s.vm s.heap := CHv.start hEL (fun p hp => hcalls.1 p hp) (hsets _ (List.mem_of_getElem? (i := 2) rfl)) (hw _ (List.mem_of_getElem? (i := 20) rfl)) (hw _ (List.mem_of_getElem? (i := 6) rfl))
  obtain ⟨n, o, h1, h2, h3, v, L, rfl, ⟨hGv, N⟩, -, hq⟩ := rm0 l s _ hw hEL hSA tables_1 i0 i1 i2 i3 i4 i5 cs k0 k1 k2 k3 k4 k5 s.heap s.heap.size (Nat.le_refl _) SC hcs (Old.start s) T0 G0 T1 G1 T2 G2 T3 G3 T4 G4 T5 G5 p e ha hc hk s m _ below hf ((Spec.applies_iff_loose hf).mp happ).1 ⟨rfl, State.Warmed39.refl s, rfl, hCH, fun x hx => absurd hx List.not_mem_nil⟩ trivial
  obtain rfl : v = some (.int 1) := hGv
  refine ⟨n, _, h1, h2, h3, hpost _ _ _ _ _ _ ⟨Cond.after_iff.mpr rfl, Cond.after_iff.mpr (eq_i res_at (Term.int_eval (1)) rfl), trivial⟩ ⟨hq.1, hq.2.1, hq.2.2.1, (hq.2.2.2.sift fun y hy => Or.inr (N y hy)).mono (by decide) (by decide)⟩⟩
theorem main_1_1 : Claimed_1_1 := comes_1 fun _ _ _ _ _ _ h hF => ⟨h.1, hF⟩
theorem main_1_2 : Claimed_1_2 := comes_1 fun _ _ _ _ _ _ h hF => ⟨h.2.1, hF⟩
end Jvm.Pilot.@@N@@
namespace Jvm.Pilot.@@N@@
open Jvm Jvm.ClassFile Sem Op Lib Jvm.Free Jvm.Stand Jvm.Pilot.@@N@@.Jvm.D
/-! MADE BY PROGRAM (witnessworld.py) out of the Statement's table words and the real class files: 24 classes; the members and pool entries that the words name. The judged class is class 1, her method 3. -/
namespace start1
open Jvm.ClassFile
def u (s : String) : CpInfo := .utf8 (stringToUtf16 s)
/-- a pool by its gaps: so many unusable entries, then the entry; so many at the end -/
def gap : Nat → List CpInfo → List CpInfo
  | 0, r => r
  | n + 1, r => .unusable :: gap n r
def poolList (es : List (Nat × CpInfo)) (last : Nat) : List CpInfo := es.foldr (fun e r => gap e.1 (e.2 :: r)) (gap last [])
def pool (es : List (Nat × CpInfo)) (last : Nat) : Array CpInfo := ⟨poolList es last⟩
def fileOf (pool : Array CpInfo) (this : Nat) (attrs : Array Attribute := #[]) (ms : Array MethodInfo := #[]) (fl : Nat := 33) (sup : Nat := 0) (ifs : Array Nat := #[]) (fds : Array FieldInfo := #[]) : ClassFile where
  minorVersion := 0
  majorVersion := 65
  constantPool := pool
  accessFlags := fl
  thisClass := this
  superClass := sup
  interfaces := ifs
  fields := fds
  methods := ms
  attributes := attrs
def plain (name : String) (sup : Option ClassId) : Class where
  name := name
  kind := .ordinary
  loader := none
  accessFlags := 33
  super := sup
  interfaces := #[]
  cf := none
  fields := #[]
  methods := #[]
  instanceTypes := #[]
  staticTypes := #[]
  resolved := #[]
  callSites := []
  init := .initialized
  statics := none
  mirror := none

def pool0 : Array CpInfo := pool [(5, u "<init>"), (0, u "()V"), (1, .class_ 10), (1, u "java/lang/Object")] 113

def k0c0 : Code := { maxStack := 0, maxLocals := 1, code := object_method_1_code, exceptionTable := #[], attributes := #[] }
def k0m0 : Method := { name := "<init>", desc := "()V", sig := { parameters := [], returnType := none }, accessFlags := 1, code := some k0c0 }
/-- java/lang/Object -/
def k0 : Class := { plain "java/lang/Object" none with
  accessFlags := 33
  interfaces := #[]
  cf := some (fileOf pool0 8 #[] #[{ accessFlags := 1, nameIndex := 5, descriptorIndex := 6, attributes := #[] }] 33 0 #[] #[])
  fields := #[]
  methods := #[k0m0]
  instanceTypes := #[]
  staticTypes := #[]
  resolved := Array.replicate 124 none
  statics := none }

def pool1 : Array CpInfo := pool [(2, .class_ 4), (1, u "java/lang/Object"), (0, u "<init>"), (0, u "()V"), (0, .fieldref 8 9), (0, .class_ 10), (0, .nameAndType 11 12), (0, u "com/example/termwright/termwright/OutlineNode$Kind"), (0, u "ARTICLE"), (0, u "Lcom/example/termwright/termwright/OutlineNode$Kind;"), (0, .fieldref 8 14), (0, .nameAndType 15 12), (0, u "SECTION"), (0, .fieldref 8 17), (0, .nameAndType 18 12), (0, u "PARAGRAPH"), (0, .fieldref 8 20), (0, .nameAndType 21 12), (0, u "ITEM"), (0, .fieldref 8 23), (0, .nameAndType 24 12), (0, u "APPENDIX"), (0, .fieldref 8 26), (0, .nameAndType 27 12), (0, u "SCHEDULE"), (0, .class_ 29), (0, u "java/lang/String"), (0, .methodref 28 31), (0, .nameAndType 5 32), (0, u "([C)V"), (0, .integer 2147483647), (0, .methodref 35 36), (0, .class_ 37), (0, .nameAndType 38 39), (0, u "com/example/termwright/termwright/HeadingHeadsSameDivisionPinLaw"), (0, u "str"), (0, u "(ICCC)Ljava/lang/String;"), (0, .string 41), (0, u ""), (0, .methodref 28 43), (0, .nameAndType 44 45), (0, u "valueOf"), (0, u "(C)Ljava/lang/String;"), (0, .integer 16777216), (0, .class_ 48), (0, u "com/example/termwright/termwright/Heading"), (0, .methodref 35 50), (0, .nameAndType 51 52), (0, u "kind"), (0, u "(I)Lcom/example/termwright/termwright/OutlineNode$Kind;"), (0, .class_ 54), (0, u "com/example/termwright/termwright/Document$Span"), (0, .methodref 53 56), (0, .nameAndType 5 57), (0, u "(II)V"), (0, .methodref 47 59), (0, .nameAndType 5 60), (0, u "(Lcom/example/termwright/termwright/OutlineNode$Kind;Ljava/lang/String;Ljava/lang/String;Lcom/example/termwright/termwright/Document$Span;)V"), (0, .methodref 47 62), (0, .nameAndType 63 64), (0, u "headsSameDivision"), (0, u "(Lcom/example/termwright/termwright/Heading;)Z"), (3, u "law"), (0, u "(IIIIII)Z")] 9

def k1m0 : Method := { name := "<init>", desc := "()V", sig := { parameters := [], returnType := none }, accessFlags := 1, code := none }
def k1c1 : Code := { maxStack := 2, maxLocals := 1, code := method_2_code, exceptionTable := #[], attributes := #[] }
def k1m1 : Method := { name := "kind", desc := "(I)Lcom/example/termwright/termwright/OutlineNode$Kind;", sig := { parameters := [.int], returnType := some (.object "com/example/termwright/termwright/OutlineNode$Kind") }, accessFlags := 10, code := some k1c1 }
def k1c2 : Code := { maxStack := 6, maxLocals := 4, code := method_3_code, exceptionTable := #[], attributes := #[] }
def k1m2 : Method := { name := "str", desc := "(ICCC)Ljava/lang/String;", sig := { parameters := [.int, .char, .char, .char], returnType := some (.object "java/lang/String") }, accessFlags := 10, code := some k1c2 }
def k1c3 : Code := { maxStack := 9, maxLocals := 24, code := code, exceptionTable := #[], attributes := #[] }
def k1m3 : Method := { name := "law", desc := "(IIIIII)Z", sig := { parameters := [.int, .int, .int, .int, .int, .int], returnType := some .boolean }, accessFlags := 9, code := some k1c3 }
/-- com/example/termwright/termwright/HeadingHeadsSameDivisionPinLaw -/
def k1 : Class := { plain "com/example/termwright/termwright/HeadingHeadsSameDivisionPinLaw" (some 0) with
  accessFlags := 49
  interfaces := #[]
  cf := some (fileOf pool1 35 #[] #[{ accessFlags := 1, nameIndex := 5, descriptorIndex := 6, attributes := #[] }, { accessFlags := 10, nameIndex := 51, descriptorIndex := 52, attributes := #[] }, { accessFlags := 10, nameIndex := 38, descriptorIndex := 39, attributes := #[] }, { accessFlags := 9, nameIndex := 68, descriptorIndex := 69, attributes := #[] }] 49 2 #[] #[])
  fields := #[]
  methods := #[k1m0, k1m1, k1m2, k1m3]
  instanceTypes := #[]
  staticTypes := #[]
  resolved := Array.replicate 79 none
  statics := none }

def pool2 : Array CpInfo := pool [(1, .class_ 2), (0, u "java/io/Serializable"), (0, .class_ 4), (0, u "java/lang/Object")] 2

/-- java/io/Serializable -/
def k2 : Class := { plain "java/io/Serializable" (some 0) with
  accessFlags := 1537
  interfaces := #[]
  cf := some (fileOf pool2 1 #[] #[] 1537 3 #[] #[])
  fields := #[]
  methods := #[]
  instanceTypes := #[]
  staticTypes := #[]
  resolved := Array.replicate 7 none
  statics := none }

def pool3 : Array CpInfo := pool [(1, .class_ 2), (0, u "java/lang/Comparable"), (0, .class_ 4), (0, u "java/lang/Object")] 7

/-- java/lang/Comparable -/
def k3 : Class := { plain "java/lang/Comparable" (some 0) with
  accessFlags := 1537
  interfaces := #[]
  cf := some (fileOf pool3 1 #[] #[] 1537 3 #[] #[])
  fields := #[]
  methods := #[]
  instanceTypes := #[]
  staticTypes := #[]
  resolved := Array.replicate 12 none
  statics := none }

def pool4 : Array CpInfo := pool [(2, .class_ 4), (1, u "java/lang/CharSequence"), (42, .class_ 48), (0, u "java/lang/CharSequence$1CodePointIterator"), (10, .class_ 60), (0, u "java/lang/CharSequence$1CharIterator"), (5, .class_ 67), (0, u "java/lang/Object")] 63

/-- java/lang/CharSequence -/
def k4 : Class := { plain "java/lang/CharSequence" (some 0) with
  accessFlags := 1537
  interfaces := #[]
  cf := some (fileOf pool4 2 #[.nestMembers #[47, 59]] #[] 1537 66 #[] #[])
  fields := #[]
  methods := #[]
  instanceTypes := #[]
  staticTypes := #[]
  resolved := Array.replicate 131 none
  statics := none }

def pool5 : Array CpInfo := pool [(1, .class_ 2), (0, u "java/lang/constant/Constable"), (0, .class_ 4), (0, u "java/lang/Object")] 6

/-- java/lang/constant/Constable -/
def k5 : Class := { plain "java/lang/constant/Constable" (some 0) with
  accessFlags := 1537
  interfaces := #[]
  cf := some (fileOf pool5 1 #[] #[] 1537 3 #[] #[])
  fields := #[]
  methods := #[]
  instanceTypes := #[]
  staticTypes := #[]
  resolved := Array.replicate 11 none
  statics := none }

def pool6 : Array CpInfo := pool [(1, .class_ 2), (0, u "java/lang/constant/ConstantDesc"), (0, .class_ 4), (0, u "java/lang/Object")] 32

/-- java/lang/constant/ConstantDesc -/
def k6 : Class := { plain "java/lang/constant/ConstantDesc" (some 0) with
  accessFlags := 1537
  interfaces := #[]
  cf := some (fileOf pool6 1 #[] #[] 1537 3 #[] #[])
  fields := #[]
  methods := #[]
  instanceTypes := #[]
  staticTypes := #[]
  resolved := Array.replicate 37 none
  statics := none }

def pool7 : Array CpInfo := pool [(1, .methodref 2 3), (0, .class_ 4), (0, .nameAndType 5 6), (0, u "java/lang/Object"), (0, u "<init>"), (0, u "()V"), (0, .string 8), (0, u ""), (0, .fieldref 10 11), (0, .class_ 12), (0, .nameAndType 13 14), (0, u "java/lang/String"), (0, u "value"), (0, u "[B"), (0, .fieldref 10 16), (0, .nameAndType 17 18), (0, u "coder"), (0, u "B"), (2, u "hash"), (0, u "I"), (2, u "hashIsZero"), (0, u "Z"), (0, .methodref 10 28), (0, .nameAndType 5 29), (0, u "([CIILjava/lang/Void;)V"), (8, .fieldref 10 39), (0, .nameAndType 40 26), (0, u "COMPACT_STRINGS"), (1, .class_ 44), (1, u "java/lang/StringUTF16"), (0, u "compress"), (1, .methodref 42 48), (0, .nameAndType 49 50), (0, u "coderFromArrayLen"), (0, u "([BI)B"), (2, u "toBytes"), (53, .class_ 109), (1, u "java/lang/StringLatin1"), (67, .methodref 42 178), (0, .nameAndType 45 179), (0, u "([CII)[B"), (29, .methodref 10 210), (0, .nameAndType 5 211), (0, u "([BB)V"), (157, u "(C)Z"), (171, .methodref 107 542), (0, .nameAndType 543 544), (0, u "equals"), (0, u "([B[B)Z"), (28, u "(Ljava/lang/Object;)Z"), (1, .class_ 576), (0, u "java/lang/CharSequence"), (22, u "CASE_INSENSITIVE_ORDER"), (0, u "Ljava/util/Comparator;"), (181, u "valueOf"), (0, u "(C)Ljava/lang/String;"), (226, u "([C)V"), (4, .methodref 107 1016), (0, .nameAndType 1017 369), (0, u "canEncode"), (0, .methodref 107 1019), (0, .nameAndType 53 1020), (0, u "(C)[B"), (80, u "serialPersistentFields"), (0, u "[Ljava/io/ObjectStreamField;"), (0, .class_ 1104), (0, u "java/lang/String$CaseInsensitiveComparator"), (1, .class_ 1107), (0, u "java/io/Serializable"), (0, .class_ 1109), (0, u "java/lang/Comparable"), (0, .class_ 1111), (0, u "java/lang/constant/Constable"), (0, .class_ 1113), (0, u "java/lang/constant/ConstantDesc"), (2, u "serialVersionUID"), (0, u "J"), (3, u "REPL"), (0, u "C"), (2, u "LATIN1"), (1, u "UTF16")] 323

def k7m0 : Method := { name := "<init>", desc := "()V", sig := { parameters := [], returnType := none }, accessFlags := 1, code := none }
def k7c1 : Code := { maxStack := 5, maxLocals := 2, code := jdk_42_method_3_code, exceptionTable := #[], attributes := #[] }
def k7m1 : Method := { name := "<init>", desc := "([C)V", sig := { parameters := [(.array .char)], returnType := none }, accessFlags := 1, code := some k7c1 }
def k7c2 : Code := { maxStack := 2, maxLocals := 3, code := jdk_42_method_66_code, exceptionTable := #[], attributes := #[] }
def k7m2 : Method := { name := "equals", desc := "(Ljava/lang/Object;)Z", sig := { parameters := [(.object "java/lang/Object")], returnType := some .boolean }, accessFlags := 1, code := some k7c2 }
def k7c3 : Code := { maxStack := 4, maxLocals := 1, code := jdk_42_method_139_code, exceptionTable := #[], attributes := #[] }
def k7m3 : Method := { name := "valueOf", desc := "(C)Ljava/lang/String;", sig := { parameters := [.char], returnType := some (.object "java/lang/String") }, accessFlags := 9, code := some k7c3 }
def k7c4 : Code := { maxStack := 4, maxLocals := 6, code := jdk_42_method_149_code, exceptionTable := #[], attributes := #[] }
def k7m4 : Method := { name := "<init>", desc := "([CIILjava/lang/Void;)V", sig := { parameters := [(.array .char), .int, .int, (.object "java/lang/Void")], returnType := none }, accessFlags := 2, code := some k7c4 }
def k7c5 : Code := { maxStack := 2, maxLocals := 3, code := jdk_42_method_151_code, exceptionTable := #[], attributes := #[] }
def k7m5 : Method := { name := "<init>", desc := "([BB)V", sig := { parameters := [(.array .byte), .byte], returnType := none }, accessFlags := 0, code := some k7c5 }
/-- java/lang/String -/
def k7 : Class := { plain "java/lang/String" (some 0) with
  accessFlags := 49
  interfaces := #[2, 3, 4, 5, 6]
  cf := some (fileOf pool7 10 #[.nestMembers #[1103]] #[{ accessFlags := 1, nameIndex := 5, descriptorIndex := 6, attributes := #[] }, { accessFlags := 1, nameIndex := 5, descriptorIndex := 1010, attributes := #[] }, { accessFlags := 1, nameIndex := 543, descriptorIndex := 573, attributes := #[] }, { accessFlags := 9, nameIndex := 782, descriptorIndex := 783, attributes := #[] }, { accessFlags := 2, nameIndex := 5, descriptorIndex := 29, attributes := #[] }, { accessFlags := 0, nameIndex := 5, descriptorIndex := 211, attributes := #[] }] 49 2 #[1106, 1108, 575, 1110, 1112] #[{ accessFlags := 18, nameIndex := 13, descriptorIndex := 14, attributes := #[] }, { accessFlags := 18, nameIndex := 17, descriptorIndex := 18, attributes := #[] }, { accessFlags := 2, nameIndex := 21, descriptorIndex := 22, attributes := #[] }, { accessFlags := 2, nameIndex := 25, descriptorIndex := 26, attributes := #[] }, { accessFlags := 26, nameIndex := 1116, descriptorIndex := 1117, attributes := #[] }, { accessFlags := 24, nameIndex := 40, descriptorIndex := 26, attributes := #[] }, { accessFlags := 26, nameIndex := 1101, descriptorIndex := 1102, attributes := #[] }, { accessFlags := 26, nameIndex := 1121, descriptorIndex := 1122, attributes := #[] }, { accessFlags := 25, nameIndex := 599, descriptorIndex := 600, attributes := #[] }, { accessFlags := 24, nameIndex := 1125, descriptorIndex := 18, attributes := #[] }, { accessFlags := 24, nameIndex := 1127, descriptorIndex := 18, attributes := #[] }])
  fields := #[{ name := "value", type := (.array .byte), accessFlags := 18, slot := 0, constantValue := 0 }, { name := "coder", type := .byte, accessFlags := 18, slot := 1, constantValue := 0 }, { name := "hash", type := .int, accessFlags := 2, slot := 2, constantValue := 0 }, { name := "hashIsZero", type := .boolean, accessFlags := 2, slot := 3, constantValue := 0 }, { name := "serialVersionUID", type := .long, accessFlags := 26, slot := 0, constantValue := 0 }, { name := "COMPACT_STRINGS", type := .boolean, accessFlags := 24, slot := 1, constantValue := 0 }, { name := "serialPersistentFields", type := (.array (.object "java/io/ObjectStreamField")), accessFlags := 26, slot := 2, constantValue := 0 }, { name := "REPL", type := .char, accessFlags := 26, slot := 3, constantValue := 0 }, { name := "CASE_INSENSITIVE_ORDER", type := (.object "java/util/Comparator"), accessFlags := 25, slot := 4, constantValue := 0 }, { name := "LATIN1", type := .byte, accessFlags := 24, slot := 5, constantValue := 0 }, { name := "UTF16", type := .byte, accessFlags := 24, slot := 6, constantValue := 0 }]
  methods := #[k7m0, k7m1, k7m2, k7m3, k7m4, k7m5]
  instanceTypes := #[(.array .byte), .byte, .int, .boolean]
  staticTypes := #[.long, .boolean, (.array (.object "java/io/ObjectStreamField")), .char, (.object "java/util/Comparator"), .byte, .byte]
  resolved := Array.replicate 1451 none
  statics := some 0 }

def pool8 : Array CpInfo := pool [(4, .class_ 6), (1, u "java/lang/Object"), (0, u "<init>"), (0, u "()V"), (5, .class_ 16), (1, u "java/lang/StringLatin1"), (73, u "canEncode"), (14, u "(C)Z"), (15, u "$assertionsDisabled"), (0, u "Z"), (98, .class_ 223), (1, u "java/lang/StringLatin1$LinesSpliterator"), (57, u "equals"), (0, u "([B[B)Z"), (97, u "toBytes"), (1, u "(C)[B"), (7, .class_ 391), (0, u "java/lang/StringLatin1$CharsSpliterator")] 3

def k8m0 : Method := { name := "<init>", desc := "()V", sig := { parameters := [], returnType := none }, accessFlags := 0, code := none }
def k8c1 : Code := { maxStack := 2, maxLocals := 1, code := jdk_43_method_3_code, exceptionTable := #[], attributes := #[] }
def k8m1 : Method := { name := "canEncode", desc := "(C)Z", sig := { parameters := [.char], returnType := some .boolean }, accessFlags := 9, code := some k8c1 }
def k8c2 : Code := { maxStack := 3, maxLocals := 3, code := jdk_43_method_13_code, exceptionTable := #[], attributes := #[] }
def k8m2 : Method := { name := "equals", desc := "([B[B)Z", sig := { parameters := [(.array .byte), (.array .byte)], returnType := some .boolean }, accessFlags := 9, code := some k8c2 }
def k8c3 : Code := { maxStack := 4, maxLocals := 1, code := jdk_43_method_46_code, exceptionTable := #[], attributes := #[] }
def k8m3 : Method := { name := "toBytes", desc := "(C)[B", sig := { parameters := [.char], returnType := some (.array .byte) }, accessFlags := 9, code := some k8c3 }
/-- java/lang/StringLatin1 -/
def k8 : Class := { plain "java/lang/StringLatin1" (some 0) with
  accessFlags := 48
  interfaces := #[]
  cf := some (fileOf pool8 14 #[.nestMembers #[390, 221]] #[{ accessFlags := 0, nameIndex := 7, descriptorIndex := 8, attributes := #[] }, { accessFlags := 9, nameIndex := 90, descriptorIndex := 105, attributes := #[] }, { accessFlags := 9, nameIndex := 281, descriptorIndex := 282, attributes := #[] }, { accessFlags := 9, nameIndex := 380, descriptorIndex := 382, attributes := #[] }] 48 4 #[] #[{ accessFlags := 4120, nameIndex := 121, descriptorIndex := 122, attributes := #[] }])
  fields := #[{ name := "$assertionsDisabled", type := .boolean, accessFlags := 4120, slot := 0, constantValue := 0 }]
  methods := #[k8m0, k8m1, k8m2, k8m3]
  instanceTypes := #[]
  staticTypes := #[.boolean]
  resolved := Array.replicate 395 none
  statics := none }

def pool9 : Array CpInfo := pool [(1, .methodref 2 3), (0, .class_ 4), (0, .nameAndType 5 6), (0, u "java/lang/Object"), (0, u "<init>"), (0, u "()V"), (0, .class_ 8), (0, u "java/lang/Record")] 13

def k9c0 : Code := { maxStack := 1, maxLocals := 1, code := jdk_30_method_1_code, exceptionTable := #[], attributes := #[] }
def k9m0 : Method := { name := "<init>", desc := "()V", sig := { parameters := [], returnType := none }, accessFlags := 4, code := some k9c0 }
/-- java/lang/Record -/
def k9 : Class := { plain "java/lang/Record" (some 0) with
  accessFlags := 1057
  interfaces := #[]
  cf := some (fileOf pool9 7 #[] #[{ accessFlags := 4, nameIndex := 5, descriptorIndex := 6, attributes := #[] }] 1057 2 #[] #[])
  fields := #[]
  methods := #[k9m0]
  instanceTypes := #[]
  staticTypes := #[]
  resolved := Array.replicate 22 none
  statics := none }

def pool10 : Array CpInfo := pool [(1, .methodref 2 3), (0, .class_ 4), (0, .nameAndType 5 6), (0, u "java/lang/Record"), (0, u "<init>"), (0, u "()V"), (0, .fieldref 8 9), (0, .class_ 10), (0, .nameAndType 11 12), (0, u "com/example/termwright/termwright/Heading"), (0, u "kind"), (0, u "Lcom/example/termwright/termwright/OutlineNode$Kind;"), (0, .fieldref 8 14), (0, .nameAndType 15 16), (0, u "number"), (0, u "Ljava/lang/String;"), (0, .fieldref 8 18), (0, .nameAndType 19 16), (0, u "title"), (0, .fieldref 8 21), (0, .nameAndType 22 23), (0, u "span"), (0, u "Lcom/example/termwright/termwright/Document$Span;"), (2, u "HEADING"), (0, u "Ljava/util/regex/Pattern;"), (51, u "(Lcom/example/termwright/termwright/OutlineNode$Kind;Ljava/lang/String;Ljava/lang/String;Lcom/example/termwright/termwright/Document$Span;)V"), (9, .methodref 90 91), (0, .class_ 92), (0, .nameAndType 93 94), (0, u "java/lang/String"), (0, u "equals"), (0, u "(Ljava/lang/Object;)Z"), (14, u "HEADING_IN_ANY_CASE"), (57, u "SEPARATORS"), (13, u "headsSameDivision"), (0, u "(Lcom/example/termwright/termwright/Heading;)Z")] 41

def k10c0 : Code := { maxStack := 2, maxLocals := 5, code := prog_32_method_1_code, exceptionTable := #[], attributes := #[] }
def k10m0 : Method := { name := "<init>", desc := "(Lcom/example/termwright/termwright/OutlineNode$Kind;Ljava/lang/String;Ljava/lang/String;Lcom/example/termwright/termwright/Document$Span;)V", sig := { parameters := [(.object "com/example/termwright/termwright/OutlineNode$Kind"), (.object "java/lang/String"), (.object "java/lang/String"), (.object "com/example/termwright/termwright/Document$Span")], returnType := none }, accessFlags := 0, code := some k10c0 }
def k10c1 : Code := { maxStack := 2, maxLocals := 2, code := prog_32_method_7_code, exceptionTable := #[], attributes := #[] }
def k10m1 : Method := { name := "headsSameDivision", desc := "(Lcom/example/termwright/termwright/Heading;)Z", sig := { parameters := [(.object "com/example/termwright/termwright/Heading")], returnType := some .boolean }, accessFlags := 0, code := some k10c1 }
/-- com/example/termwright/termwright/Heading -/
def k10 : Class := { plain "com/example/termwright/termwright/Heading" (some 9) with
  accessFlags := 48
  interfaces := #[]
  cf := some (fileOf pool10 8 #[] #[{ accessFlags := 0, nameIndex := 5, descriptorIndex := 79, attributes := #[] }, { accessFlags := 0, nameIndex := 181, descriptorIndex := 182, attributes := #[] }] 48 2 #[] #[{ accessFlags := 18, nameIndex := 11, descriptorIndex := 12, attributes := #[] }, { accessFlags := 18, nameIndex := 15, descriptorIndex := 16, attributes := #[] }, { accessFlags := 18, nameIndex := 19, descriptorIndex := 16, attributes := #[] }, { accessFlags := 18, nameIndex := 22, descriptorIndex := 23, attributes := #[] }, { accessFlags := 26, nameIndex := 26, descriptorIndex := 27, attributes := #[] }, { accessFlags := 26, nameIndex := 109, descriptorIndex := 27, attributes := #[] }, { accessFlags := 26, nameIndex := 167, descriptorIndex := 16, attributes := #[] }])
  fields := #[{ name := "kind", type := (.object "com/example/termwright/termwright/OutlineNode$Kind"), accessFlags := 18, slot := 0, constantValue := 0 }, { name := "number", type := (.object "java/lang/String"), accessFlags := 18, slot := 1, constantValue := 0 }, { name := "title", type := (.object "java/lang/String"), accessFlags := 18, slot := 2, constantValue := 0 }, { name := "span", type := (.object "com/example/termwright/termwright/Document$Span"), accessFlags := 18, slot := 3, constantValue := 0 }, { name := "HEADING", type := (.object "java/util/regex/Pattern"), accessFlags := 26, slot := 0, constantValue := 0 }, { name := "HEADING_IN_ANY_CASE", type := (.object "java/util/regex/Pattern"), accessFlags := 26, slot := 1, constantValue := 0 }, { name := "SEPARATORS", type := (.object "java/lang/String"), accessFlags := 26, slot := 2, constantValue := 0 }]
  methods := #[k10m0, k10m1]
  instanceTypes := #[(.object "com/example/termwright/termwright/OutlineNode$Kind"), (.object "java/lang/String"), (.object "java/lang/String"), (.object "com/example/termwright/termwright/Document$Span")]
  staticTypes := #[(.object "java/util/regex/Pattern"), (.object "java/util/regex/Pattern"), (.object "java/lang/String")]
  resolved := Array.replicate 224 none
  statics := none }

def pool11 : Array CpInfo := pool [(2, .class_ 4), (1, u "java/lang/Enum"), (0, u "name"), (0, u "Ljava/lang/String;"), (2, u "ordinal"), (0, u "I"), (1, .class_ 14), (1, u "java/lang/Object"), (4, u "hash"), (86, .class_ 108), (1, u "java/lang/Enum$EnumDesc"), (2, .class_ 112), (0, u "java/lang/constant/Constable"), (0, .class_ 114), (0, u "java/lang/Comparable"), (0, .class_ 116), (0, u "java/io/Serializable")] 87

/-- java/lang/Enum -/
def k11 : Class := { plain "java/lang/Enum" (some 0) with
  accessFlags := 1057
  interfaces := #[5, 3, 2]
  cf := some (fileOf pool11 2 #[.nestMembers #[106]] #[] 1057 12 #[111, 113, 115] #[{ accessFlags := 18, nameIndex := 5, descriptorIndex := 6, attributes := #[] }, { accessFlags := 18, nameIndex := 9, descriptorIndex := 10, attributes := #[] }, { accessFlags := 2, nameIndex := 19, descriptorIndex := 10, attributes := #[] }])
  fields := #[{ name := "name", type := (.object "java/lang/String"), accessFlags := 18, slot := 0, constantValue := 0 }, { name := "ordinal", type := .int, accessFlags := 18, slot := 1, constantValue := 0 }, { name := "hash", type := .int, accessFlags := 2, slot := 2, constantValue := 0 }]
  methods := #[]
  instanceTypes := #[(.object "java/lang/String"), .int, .int]
  staticTypes := #[]
  resolved := Array.replicate 204 none
  statics := none }

def pool12 : Array CpInfo := pool [(1, .class_ 2), (0, u "com/example/termwright/termwright/OutlineNode$Kind"), (2, u "ARTICLE"), (0, u "Lcom/example/termwright/termwright/OutlineNode$Kind;"), (2, u "SECTION"), (2, u "PARAGRAPH"), (2, u "ITEM"), (2, u "APPENDIX"), (2, u "SCHEDULE"), (2, u "$VALUES"), (0, u "[Lcom/example/termwright/termwright/OutlineNode$Kind;"), (6, .class_ 34), (1, u "java/lang/Enum"), (46, .class_ 82), (0, u "com/example/termwright/termwright/OutlineNode")] 2

/-- com/example/termwright/termwright/OutlineNode$Kind -/
def k12 : Class := { plain "com/example/termwright/termwright/OutlineNode$Kind" (some 11) with
  accessFlags := 16433
  interfaces := #[]
  cf := some (fileOf pool12 1 #[.nestHost 81] #[] 16433 32 #[] #[{ accessFlags := 16409, nameIndex := 5, descriptorIndex := 6, attributes := #[] }, { accessFlags := 16409, nameIndex := 9, descriptorIndex := 6, attributes := #[] }, { accessFlags := 16409, nameIndex := 12, descriptorIndex := 6, attributes := #[] }, { accessFlags := 16409, nameIndex := 15, descriptorIndex := 6, attributes := #[] }, { accessFlags := 16409, nameIndex := 18, descriptorIndex := 6, attributes := #[] }, { accessFlags := 16409, nameIndex := 21, descriptorIndex := 6, attributes := #[] }, { accessFlags := 4122, nameIndex := 24, descriptorIndex := 25, attributes := #[] }])
  fields := #[{ name := "ARTICLE", type := (.object "com/example/termwright/termwright/OutlineNode$Kind"), accessFlags := 16409, slot := 0, constantValue := 0 }, { name := "SECTION", type := (.object "com/example/termwright/termwright/OutlineNode$Kind"), accessFlags := 16409, slot := 1, constantValue := 0 }, { name := "PARAGRAPH", type := (.object "com/example/termwright/termwright/OutlineNode$Kind"), accessFlags := 16409, slot := 2, constantValue := 0 }, { name := "ITEM", type := (.object "com/example/termwright/termwright/OutlineNode$Kind"), accessFlags := 16409, slot := 3, constantValue := 0 }, { name := "APPENDIX", type := (.object "com/example/termwright/termwright/OutlineNode$Kind"), accessFlags := 16409, slot := 4, constantValue := 0 }, { name := "SCHEDULE", type := (.object "com/example/termwright/termwright/OutlineNode$Kind"), accessFlags := 16409, slot := 5, constantValue := 0 }, { name := "$VALUES", type := (.array (.object "com/example/termwright/termwright/OutlineNode$Kind")), accessFlags := 4122, slot := 6, constantValue := 0 }]
  methods := #[]
  instanceTypes := #[(.object "java/lang/String"), .int, .int]
  staticTypes := #[(.object "com/example/termwright/termwright/OutlineNode$Kind"), (.object "com/example/termwright/termwright/OutlineNode$Kind"), (.object "com/example/termwright/termwright/OutlineNode$Kind"), (.object "com/example/termwright/termwright/OutlineNode$Kind"), (.object "com/example/termwright/termwright/OutlineNode$Kind"), (.object "com/example/termwright/termwright/OutlineNode$Kind"), (.array (.object "com/example/termwright/termwright/OutlineNode$Kind"))]
  resolved := Array.replicate 85 none
  statics := some 1 }

def pool13 : Array CpInfo := pool [(1, .methodref 2 3), (0, .class_ 4), (0, .nameAndType 5 6), (0, u "java/lang/Record"), (0, u "<init>"), (0, u "()V"), (0, .fieldref 8 9), (0, .class_ 10), (0, .nameAndType 11 12), (0, u "com/example/termwright/termwright/Document$Span"), (0, u "start"), (0, u "I"), (0, .fieldref 8 14), (0, .nameAndType 15 12), (0, u "end"), (12, u "(II)V"), (9, .class_ 39), (0, u "com/example/termwright/termwright/Document")] 20

def k13c0 : Code := { maxStack := 2, maxLocals := 3, code := prog_20_method_1_code, exceptionTable := #[], attributes := #[] }
def k13m0 : Method := { name := "<init>", desc := "(II)V", sig := { parameters := [.int, .int], returnType := none }, accessFlags := 1, code := some k13c0 }
/-- com/example/termwright/termwright/Document$Span -/
def k13 : Class := { plain "com/example/termwright/termwright/Document$Span" (some 9) with
  accessFlags := 49
  interfaces := #[]
  cf := some (fileOf pool13 8 #[.nestHost 38] #[{ accessFlags := 1, nameIndex := 5, descriptorIndex := 28, attributes := #[] }] 49 2 #[] #[{ accessFlags := 18, nameIndex := 11, descriptorIndex := 12, attributes := #[] }, { accessFlags := 18, nameIndex := 15, descriptorIndex := 12, attributes := #[] }])
  fields := #[{ name := "start", type := .int, accessFlags := 18, slot := 0, constantValue := 0 }, { name := "end", type := .int, accessFlags := 18, slot := 1, constantValue := 0 }]
  methods := #[k13m0]
  instanceTypes := #[.int, .int]
  staticTypes := #[]
  resolved := Array.replicate 60 none
  statics := none }

def pool14 : Array CpInfo := pool [(6, .class_ 8), (1, u "java/lang/Object"), (0, u "<init>"), (0, u "()V"), (1, .class_ 14), (1, u "java/lang/StringUTF16"), (31, u "$assertionsDisabled"), (0, u "Z"), (13, u "HI_BYTE_SHIFT"), (0, u "I"), (2, u "LO_BYTE_SHIFT"), (49, .methodref 12 116), (0, .nameAndType 117 118), (0, u "compress"), (0, u "([CI[BII)I"), (3, u "([CII)[B"), (138, u "coderFromArrayLen"), (0, u "([BI)B"), (106, .class_ 371), (1, u "java/lang/StringUTF16$LinesSpliterator"), (58, u "MAX_LENGTH"), (196, .class_ 628), (0, u "java/lang/StringUTF16$CodePointsSpliterator"), (0, .class_ 630), (0, u "java/lang/StringUTF16$CharsSpliterator")] 4

def k14m0 : Method := { name := "<init>", desc := "()V", sig := { parameters := [], returnType := none }, accessFlags := 0, code := none }
def k14c1 : Code := { maxStack := 2, maxLocals := 2, code := jdk_52_method_15_code, exceptionTable := #[], attributes := #[] }
def k14m1 : Method := { name := "coderFromArrayLen", desc := "([BI)B", sig := { parameters := [(.array .byte), .int], returnType := some .byte }, accessFlags := 8, code := some k14c1 }
def k14c2 : Code := { maxStack := 5, maxLocals := 6, code := jdk_52_method_16_code, exceptionTable := #[], attributes := #[] }
def k14m2 : Method := { name := "compress", desc := "([CII)[B", sig := { parameters := [(.array .char), .int, .int], returnType := some (.array .byte) }, accessFlags := 9, code := some k14c2 }
def k14c3 : Code := { maxStack := 3, maxLocals := 7, code := jdk_52_method_21_code, exceptionTable := #[], attributes := #[] }
def k14m3 : Method := { name := "compress", desc := "([CI[BII)I", sig := { parameters := [(.array .char), .int, (.array .byte), .int, .int], returnType := some .int }, accessFlags := 9, code := some k14c3 }
/-- java/lang/StringUTF16 -/
def k14 : Class := { plain "java/lang/StringUTF16" (some 0) with
  accessFlags := 48
  interfaces := #[]
  cf := some (fileOf pool14 12 #[.nestMembers #[627, 629, 369]] #[{ accessFlags := 0, nameIndex := 9, descriptorIndex := 10, attributes := #[] }, { accessFlags := 8, nameIndex := 261, descriptorIndex := 262, attributes := #[] }, { accessFlags := 9, nameIndex := 117, descriptorIndex := 122, attributes := #[] }, { accessFlags := 9, nameIndex := 117, descriptorIndex := 118, attributes := #[] }] 48 6 #[] #[{ accessFlags := 26, nameIndex := 61, descriptorIndex := 62, attributes := #[] }, { accessFlags := 26, nameIndex := 65, descriptorIndex := 62, attributes := #[] }, { accessFlags := 24, nameIndex := 430, descriptorIndex := 62, attributes := #[] }, { accessFlags := 4120, nameIndex := 46, descriptorIndex := 47, attributes := #[] }])
  fields := #[{ name := "HI_BYTE_SHIFT", type := .int, accessFlags := 26, slot := 0, constantValue := 0 }, { name := "LO_BYTE_SHIFT", type := .int, accessFlags := 26, slot := 1, constantValue := 0 }, { name := "MAX_LENGTH", type := .int, accessFlags := 24, slot := 2, constantValue := 0 }, { name := "$assertionsDisabled", type := .boolean, accessFlags := 4120, slot := 3, constantValue := 0 }]
  methods := #[k14m0, k14m1, k14m2, k14m3]
  instanceTypes := #[]
  staticTypes := #[.int, .int, .int, .boolean]
  resolved := Array.replicate 635 none
  statics := none }

def pool15 : Array CpInfo := pool [(2, .class_ 4), (1, u "java/lang/Object"), (0, u "<init>"), (0, u "()V"), (17, .class_ 26), (1, u "jdk/internal/util/Preconditions"), (28, .class_ 56), (0, u "jdk/internal/util/Preconditions$4"), (57, .class_ 115), (0, u "jdk/internal/util/Preconditions$1"), (7, u "SIOOBE_FORMATTER"), (0, u "Ljava/util/function/BiFunction;"), (0, .class_ 126), (0, u "jdk/internal/util/Preconditions$2"), (3, u "AIOOBE_FORMATTER"), (0, .class_ 132), (0, u "jdk/internal/util/Preconditions$3"), (3, u "IOOBE_FORMATTER")] 57

def k15m0 : Method := { name := "<init>", desc := "()V", sig := { parameters := [], returnType := none }, accessFlags := 1, code := none }
/-- jdk/internal/util/Preconditions -/
def k15 : Class := { plain "jdk/internal/util/Preconditions" (some 0) with
  accessFlags := 33
  interfaces := #[]
  cf := some (fileOf pool15 24 #[.nestMembers #[55, 131, 125, 114]] #[{ accessFlags := 1, nameIndex := 5, descriptorIndex := 6, attributes := #[] }] 33 2 #[] #[{ accessFlags := 25, nameIndex := 123, descriptorIndex := 124, attributes := #[] }, { accessFlags := 25, nameIndex := 130, descriptorIndex := 124, attributes := #[] }, { accessFlags := 25, nameIndex := 136, descriptorIndex := 124, attributes := #[] }])
  fields := #[{ name := "SIOOBE_FORMATTER", type := (.object "java/util/function/BiFunction"), accessFlags := 25, slot := 0, constantValue := 0 }, { name := "AIOOBE_FORMATTER", type := (.object "java/util/function/BiFunction"), accessFlags := 25, slot := 1, constantValue := 0 }, { name := "IOOBE_FORMATTER", type := (.object "java/util/function/BiFunction"), accessFlags := 25, slot := 2, constantValue := 0 }]
  methods := #[k15m0]
  instanceTypes := #[]
  staticTypes := #[(.object "java/util/function/BiFunction"), (.object "java/util/function/BiFunction"), (.object "java/util/function/BiFunction")]
  resolved := Array.replicate 194 none
  statics := some 2 }

def pool16 : Array CpInfo := pool [(9, u "<init>"), (6, .class_ 18), (1, u "java/lang/Object"), (0, u "()V"), (1, .class_ 23), (1, u "jdk/internal/util/ArraysSupport"), (0, u "LOG2_ARRAY_LONG_INDEX_SCALE"), (0, u "I"), (2, u "U"), (0, u "Ljdk/internal/misc/Unsafe;"), (8, u "BIG_ENDIAN"), (0, u "Z"), (8, u "LOG2_BYTE_BIT_SIZE"), (4, u "LOG2_ARRAY_INT_INDEX_SCALE"), (54, u "JLA"), (0, u "Ljdk/internal/access/JavaLangAccess;"), (11, u "LOG2_ARRAY_BOOLEAN_INDEX_SCALE"), (9, u "LOG2_ARRAY_BYTE_INDEX_SCALE"), (5, u "LOG2_ARRAY_CHAR_INDEX_SCALE"), (5, u "LOG2_ARRAY_SHORT_INDEX_SCALE"), (18, u "LOG2_ARRAY_FLOAT_INDEX_SCALE"), (24, u "LOG2_ARRAY_DOUBLE_INDEX_SCALE"), (89, u "T_BOOLEAN"), (2, u "T_CHAR"), (1, u "T_FLOAT"), (1, u "T_DOUBLE"), (1, u "T_BYTE"), (1, u "T_SHORT"), (1, u "T_INT"), (1, u "T_LONG"), (1, u "SOFT_MAX_ARRAY_LENGTH")] 83

def k16m0 : Method := { name := "<init>", desc := "()V", sig := { parameters := [], returnType := none }, accessFlags := 2, code := none }
/-- jdk/internal/util/ArraysSupport -/
def k16 : Class := { plain "jdk/internal/util/ArraysSupport" (some 0) with
  accessFlags := 33
  interfaces := #[]
  cf := some (fileOf pool16 21 #[] #[{ accessFlags := 2, nameIndex := 9, descriptorIndex := 19, attributes := #[] }] 33 16 #[] #[{ accessFlags := 24, nameIndex := 28, descriptorIndex := 29, attributes := #[] }, { accessFlags := 26, nameIndex := 38, descriptorIndex := 39, attributes := #[] }, { accessFlags := 25, nameIndex := 121, descriptorIndex := 25, attributes := #[] }, { accessFlags := 25, nameIndex := 131, descriptorIndex := 25, attributes := #[] }, { accessFlags := 25, nameIndex := 137, descriptorIndex := 25, attributes := #[] }, { accessFlags := 25, nameIndex := 143, descriptorIndex := 25, attributes := #[] }, { accessFlags := 25, nameIndex := 53, descriptorIndex := 25, attributes := #[] }, { accessFlags := 25, nameIndex := 24, descriptorIndex := 25, attributes := #[] }, { accessFlags := 25, nameIndex := 162, descriptorIndex := 25, attributes := #[] }, { accessFlags := 25, nameIndex := 187, descriptorIndex := 25, attributes := #[] }, { accessFlags := 26, nameIndex := 48, descriptorIndex := 25, attributes := #[] }, { accessFlags := 25, nameIndex := 277, descriptorIndex := 25, attributes := #[] }, { accessFlags := 25, nameIndex := 280, descriptorIndex := 25, attributes := #[] }, { accessFlags := 25, nameIndex := 282, descriptorIndex := 25, attributes := #[] }, { accessFlags := 25, nameIndex := 284, descriptorIndex := 25, attributes := #[] }, { accessFlags := 25, nameIndex := 286, descriptorIndex := 25, attributes := #[] }, { accessFlags := 25, nameIndex := 288, descriptorIndex := 25, attributes := #[] }, { accessFlags := 25, nameIndex := 290, descriptorIndex := 25, attributes := #[] }, { accessFlags := 25, nameIndex := 292, descriptorIndex := 25, attributes := #[] }, { accessFlags := 26, nameIndex := 108, descriptorIndex := 109, attributes := #[] }, { accessFlags := 25, nameIndex := 294, descriptorIndex := 25, attributes := #[] }])
  fields := #[{ name := "U", type := (.object "jdk/internal/misc/Unsafe"), accessFlags := 24, slot := 0, constantValue := 0 }, { name := "BIG_ENDIAN", type := .boolean, accessFlags := 26, slot := 1, constantValue := 0 }, { name := "LOG2_ARRAY_BOOLEAN_INDEX_SCALE", type := .int, accessFlags := 25, slot := 2, constantValue := 0 }, { name := "LOG2_ARRAY_BYTE_INDEX_SCALE", type := .int, accessFlags := 25, slot := 3, constantValue := 0 }, { name := "LOG2_ARRAY_CHAR_INDEX_SCALE", type := .int, accessFlags := 25, slot := 4, constantValue := 0 }, { name := "LOG2_ARRAY_SHORT_INDEX_SCALE", type := .int, accessFlags := 25, slot := 5, constantValue := 0 }, { name := "LOG2_ARRAY_INT_INDEX_SCALE", type := .int, accessFlags := 25, slot := 6, constantValue := 0 }, { name := "LOG2_ARRAY_LONG_INDEX_SCALE", type := .int, accessFlags := 25, slot := 7, constantValue := 0 }, { name := "LOG2_ARRAY_FLOAT_INDEX_SCALE", type := .int, accessFlags := 25, slot := 8, constantValue := 0 }, { name := "LOG2_ARRAY_DOUBLE_INDEX_SCALE", type := .int, accessFlags := 25, slot := 9, constantValue := 0 }, { name := "LOG2_BYTE_BIT_SIZE", type := .int, accessFlags := 26, slot := 10, constantValue := 0 }, { name := "T_BOOLEAN", type := .int, accessFlags := 25, slot := 11, constantValue := 0 }, { name := "T_CHAR", type := .int, accessFlags := 25, slot := 12, constantValue := 0 }, { name := "T_FLOAT", type := .int, accessFlags := 25, slot := 13, constantValue := 0 }, { name := "T_DOUBLE", type := .int, accessFlags := 25, slot := 14, constantValue := 0 }, { name := "T_BYTE", type := .int, accessFlags := 25, slot := 15, constantValue := 0 }, { name := "T_SHORT", type := .int, accessFlags := 25, slot := 16, constantValue := 0 }, { name := "T_INT", type := .int, accessFlags := 25, slot := 17, constantValue := 0 }, { name := "T_LONG", type := .int, accessFlags := 25, slot := 18, constantValue := 0 }, { name := "JLA", type := (.object "jdk/internal/access/JavaLangAccess"), accessFlags := 26, slot := 19, constantValue := 0 }, { name := "SOFT_MAX_ARRAY_LENGTH", type := .int, accessFlags := 25, slot := 20, constantValue := 0 }]
  methods := #[k16m0]
  instanceTypes := #[]
  staticTypes := #[(.object "jdk/internal/misc/Unsafe"), .boolean, .int, .int, .int, .int, .int, .int, .int, .int, .int, .int, .int, .int, .int, .int, .int, .int, .int, (.object "jdk/internal/access/JavaLangAccess"), .int]
  resolved := Array.replicate 378 none
  statics := none }

def pool17 : Array CpInfo := pool [(1, u "java/lang/Cloneable"), (0, .class_ 1), (0, u "java/lang/Object"), (0, .class_ 3)] 3

/-- java/lang/Cloneable -/
def k17 : Class := { plain "java/lang/Cloneable" (some 0) with
  accessFlags := 1537
  interfaces := #[]
  cf := some (fileOf pool17 2 #[] #[] 1537 4 #[] #[])
  fields := #[]
  methods := #[]
  instanceTypes := #[]
  staticTypes := #[]
  resolved := Array.replicate 8 none
  statics := none }

/-- the primitive byte -/
def k18 : Class := { plain "byte" none with kind := .primitive 'B', accessFlags := 0x411 }
/-- [B -/
def k19 : Class := { plain "[B" (some 0) with kind := .array 18 .byte, interfaces := #[17, 2], accessFlags := 1041 }

/-- the primitive char -/
def k20 : Class := { plain "char" none with kind := .primitive 'C', accessFlags := 0x411 }
/-- [C -/
def k21 : Class := { plain "[C" (some 0) with kind := .array 20 .char, interfaces := #[17, 2], accessFlags := 1041 }

/-- the primitive int -/
def k22 : Class := { plain "int" none with kind := .primitive 'I', accessFlags := 0x411 }
/-- [I -/
def k23 : Class := { plain "[I" (some 0) with kind := .array 22 .int, interfaces := #[17, 2], accessFlags := 1041 }

def heap : Heap := #[{ cls := 7, slots := #[.long 0, .int 1, .null, .int 0, .null, .int 0, .int 0], vm := .statics 7 },
  { cls := 12, slots := #[.ref 3, .ref 4, .ref 5, .ref 6, .ref 7, .ref 8, .null], vm := .statics 12 },
  { cls := 15, slots := #[.null, .null, .null], vm := .statics 15 },
  { cls := 12, slots := #[.null, .int 0, .int 0], vm := .none },
  { cls := 12, slots := #[.null, .int 1, .int 0], vm := .none },
  { cls := 12, slots := #[.null, .int 2, .int 0], vm := .none },
  { cls := 12, slots := #[.null, .int 3, .int 0], vm := .none },
  { cls := 12, slots := #[.null, .int 4, .int 0], vm := .none },
  { cls := 12, slots := #[.null, .int 5, .int 0], vm := .none }]
def classes : Array Class := #[k0, k1, k2, k3, k4, k5, k6, k7, k8, k9, k10, k11, k12, k13, k14, k15, k16, k17, k18, k19, k20, k21, k22, k23]
def interned : List (Array UInt16 × Addr) := []
def slotsUsed : Nat := 35
def theMethod : MethodId := ⟨1, 3⟩
def args0 : Array Value := #[.int 5, .int 5, .int 5, .int 5, .int 5, .int 5]
def aboutOver (below : List Frame) : State where
  vm := { classes := classes, interned := interned.toArray }
  heap := heap
  slotsUsed := slotsUsed
  threads := #[{ frames := .invoking theMethod args0 :: below }]
def below0 : List Frame := [.native { method := ⟨0, 0⟩, args := #[] }]
def about1 : State := aboutOver below0
def p0 : Program := .bare "" "" ""
def e0 : Env := launch0.env 0 0 0
theorem w_frames : about1.frames = Frame.invoking theMethod args0 :: below0 := rfl
set_option maxRecDepth 65536 in
theorem w_args : argsFit about1.vm theMethod args0 = true := by decide +kernel
set_option maxRecDepth 65536 in
theorem w_heap : heapFits about1 = true := by decide +kernel
set_option maxRecDepth 65536 in
theorem w_runnable : about1.curStatus? = some .runnable := by decide +kernel
set_option maxRecDepth 65536 in
theorem w_alone : about1.alone = true := by decide +kernel
set_option maxRecDepth 65536 in
theorem w_named : about1.methodNamed? x = some theMethod := by decide +kernel
set_option maxRecDepth 65536 in
theorem w_hears : about1.hears theMethod below0 = true := by decide +kernel
set_option maxRecDepth 65536 in
theorem w_ripe : about1.ripe theMethod args0 below0 = true := by decide +kernel
theorem w_running : about1.status = .running := rfl
set_option maxRecDepth 65536 in
theorem w_room : about1.hasRoom e0.platform room_1 = true :=
  launch0.hasRoom_least _ room_1 (by decide +kernel) (by decide +kernel) (by decide +kernel) (by decide +kernel) (by decide +kernel) (by decide +kernel)
theorem allAtoms_all (ts : List Jvm.Cond) (a : Array Jvm.Value) (st : Jvm.State) : (allAtoms ts).before a st = ts.all (fun c => c.before a st) := by
  induction ts with
  | nil => rfl
  | cons c t ih =>
    show (Jvm.Cond.and c (allAtoms t)).before a st = _
    rw [Jvm.Cond.before_and, ih, List.all_cons]
def words1 : List Jvm.Cond := Jvm.Cond.code x code maxLocals ret :: tables_1
/-- a 'code' word, met by the world's own term for the bytes: nothing is compared byte by byte -/
theorem code_word {y : MethodName} {bytes : ByteArray} {mx : Nat} {rt : Option FieldType} {a : Array Value} {s : State} {m : MethodId} {meth : Method} {c : Code} (h1 : s.methodNamed? y = some m) (h2 : s.vm.method? m = some meth) (h3 : meth.code = some c) (h4 : c.code = bytes)
    (h5 : (c.maxLocals == mx && c.exceptionTable.isEmpty && decide (c.maxStack ≤ mostOperands) && decide (meth.sig.returnType = rt) && !meth.locks && decide (parseMethodDescriptor y.desc = some meth.sig)) = true) : (Jvm.Cond.code y bytes mx rt).before a s = true := by
  simp only [Bool.and_eq_true, beq_iff_eq, Bool.not_eq_true', decide_eq_true_eq] at h5
  obtain ⟨⟨⟨⟨⟨g1, g2⟩, g3⟩, g4⟩, g5⟩, g6⟩ := h5
  simp [Cond.before, Cond.holds, Cond.value, h1, h2, h3, h4, g1, g2, g3, g4, g5, g6]
def isCode : Jvm.Cond → Bool
  | .code _ _ _ _ => true
  | _ => false
theorem all_split {L : List Jvm.Cond} {P : Jvm.Cond → Bool} (h1 : L.all (fun c => isCode c || P c) = true) (h2 : ∀ c ∈ L.filter isCode, P c = true) : L.all P = true := by
  refine List.all_eq_true.mpr fun c hc => ?_
  have h := List.all_eq_true.mp h1 c hc
  rcases Bool.eq_false_or_eq_true (isCode c) with hi | hi
  · exact h2 c (List.mem_filter.mpr ⟨hc, hi⟩)
  · simpa [hi] using h
set_option maxRecDepth 65536 in
theorem w_c0 : (Jvm.Cond.code x code maxLocals ret).before args0 about1 = true := code_word (m := ⟨1, 3⟩) (meth := k1m3) (c := k1c3) (by decide +kernel) rfl rfl rfl (by decide +kernel)
set_option maxRecDepth 65536 in
theorem w_c1 : (Jvm.Cond.code ({ cls := "com/example/termwright/termwright/HeadingHeadsSameDivisionPinLaw", name := "str", desc := "(ICCC)Ljava/lang/String;" } : Jvm.MethodName) method_3_code (4 : Nat) (Option.some (Jvm.ClassFile.FieldType.object "java/lang/String"))).before args0 about1 = true := code_word (m := ⟨1, 2⟩) (meth := k1m2) (c := k1c2) (by decide +kernel) rfl rfl rfl (by decide +kernel)
set_option maxRecDepth 65536 in
theorem w_c2 : (Jvm.Cond.code ({ cls := "java/lang/String", name := "<init>", desc := "([C)V" } : Jvm.MethodName) jdk_42_method_3_code (2 : Nat) (Option.none : Option Jvm.ClassFile.FieldType)).before args0 about1 = true := code_word (m := ⟨7, 1⟩) (meth := k7m1) (c := k7c1) (by decide +kernel) rfl rfl rfl (by decide +kernel)
set_option maxRecDepth 65536 in
theorem w_c3 : (Jvm.Cond.code ({ cls := "java/lang/String", name := "<init>", desc := "([CIILjava/lang/Void;)V" } : Jvm.MethodName) jdk_42_method_149_code (6 : Nat) (Option.none : Option Jvm.ClassFile.FieldType)).before args0 about1 = true := code_word (m := ⟨7, 4⟩) (meth := k7m4) (c := k7c4) (by decide +kernel) rfl rfl rfl (by decide +kernel)
set_option maxRecDepth 65536 in
theorem w_c4 : (Jvm.Cond.code ({ cls := "java/lang/Object", name := "<init>", desc := "()V" } : Jvm.MethodName) object_method_1_code (1 : Nat) (Option.none : Option Jvm.ClassFile.FieldType)).before args0 about1 = true := code_word (m := ⟨0, 0⟩) (meth := k0m0) (c := k0c0) (by decide +kernel) rfl rfl rfl (by decide +kernel)
set_option maxRecDepth 65536 in
theorem w_c5 : (Jvm.Cond.code ({ cls := "java/lang/String", name := "valueOf", desc := "(C)Ljava/lang/String;" } : Jvm.MethodName) jdk_42_method_139_code (1 : Nat) (Option.some (Jvm.ClassFile.FieldType.object "java/lang/String"))).before args0 about1 = true := code_word (m := ⟨7, 3⟩) (meth := k7m3) (c := k7c3) (by decide +kernel) rfl rfl rfl (by decide +kernel)
set_option maxRecDepth 65536 in
theorem w_c6 : (Jvm.Cond.code ({ cls := "java/lang/StringLatin1", name := "canEncode", desc := "(C)Z" } : Jvm.MethodName) jdk_43_method_3_code (1 : Nat) (Option.some Jvm.ClassFile.FieldType.boolean)).before args0 about1 = true := code_word (m := ⟨8, 1⟩) (meth := k8m1) (c := k8c1) (by decide +kernel) rfl rfl rfl (by decide +kernel)
set_option maxRecDepth 65536 in
theorem w_c7 : (Jvm.Cond.code ({ cls := "java/lang/StringLatin1", name := "toBytes", desc := "(C)[B" } : Jvm.MethodName) jdk_43_method_46_code (1 : Nat) (Option.some (Jvm.ClassFile.FieldType.array Jvm.ClassFile.FieldType.byte))).before args0 about1 = true := code_word (m := ⟨8, 3⟩) (meth := k8m3) (c := k8c3) (by decide +kernel) rfl rfl rfl (by decide +kernel)
set_option maxRecDepth 65536 in
theorem w_c8 : (Jvm.Cond.code ({ cls := "java/lang/String", name := "<init>", desc := "([BB)V" } : Jvm.MethodName) jdk_42_method_151_code (3 : Nat) (Option.none : Option Jvm.ClassFile.FieldType)).before args0 about1 = true := code_word (m := ⟨7, 5⟩) (meth := k7m5) (c := k7c5) (by decide +kernel) rfl rfl rfl (by decide +kernel)
set_option maxRecDepth 65536 in
theorem w_c9 : (Jvm.Cond.code ({ cls := "com/example/termwright/termwright/HeadingHeadsSameDivisionPinLaw", name := "kind", desc := "(I)Lcom/example/termwright/termwright/OutlineNode$Kind;" } : Jvm.MethodName) method_2_code (1 : Nat) (Option.some (Jvm.ClassFile.FieldType.object "com/example/termwright/termwright/OutlineNode$Kind"))).before args0 about1 = true := code_word (m := ⟨1, 1⟩) (meth := k1m1) (c := k1c1) (by decide +kernel) rfl rfl rfl (by decide +kernel)
set_option maxRecDepth 65536 in
theorem w_c10 : (Jvm.Cond.code ({ cls := "com/example/termwright/termwright/Document$Span", name := "<init>", desc := "(II)V" } : Jvm.MethodName) prog_20_method_1_code (3 : Nat) (Option.none : Option Jvm.ClassFile.FieldType)).before args0 about1 = true := code_word (m := ⟨13, 0⟩) (meth := k13m0) (c := k13c0) (by decide +kernel) rfl rfl rfl (by decide +kernel)
set_option maxRecDepth 65536 in
theorem w_c11 : (Jvm.Cond.code ({ cls := "java/lang/Record", name := "<init>", desc := "()V" } : Jvm.MethodName) jdk_30_method_1_code (1 : Nat) (Option.none : Option Jvm.ClassFile.FieldType)).before args0 about1 = true := code_word (m := ⟨9, 0⟩) (meth := k9m0) (c := k9c0) (by decide +kernel) rfl rfl rfl (by decide +kernel)
set_option maxRecDepth 65536 in
theorem w_c12 : (Jvm.Cond.code ({ cls := "com/example/termwright/termwright/Heading", name := "<init>", desc := "(Lcom/example/termwright/termwright/OutlineNode$Kind;Ljava/lang/String;Ljava/lang/String;Lcom/example/termwright/termwright/Document$Span;)V" } : Jvm.MethodName) prog_32_method_1_code (5 : Nat) (Option.none : Option Jvm.ClassFile.FieldType)).before args0 about1 = true := code_word (m := ⟨10, 0⟩) (meth := k10m0) (c := k10c0) (by decide +kernel) rfl rfl rfl (by decide +kernel)
set_option maxRecDepth 65536 in
theorem w_c13 : (Jvm.Cond.code ({ cls := "com/example/termwright/termwright/Heading", name := "headsSameDivision", desc := "(Lcom/example/termwright/termwright/Heading;)Z" } : Jvm.MethodName) prog_32_method_7_code (2 : Nat) (Option.some Jvm.ClassFile.FieldType.boolean)).before args0 about1 = true := code_word (m := ⟨10, 1⟩) (meth := k10m1) (c := k10c1) (by decide +kernel) rfl rfl rfl (by decide +kernel)
set_option maxRecDepth 65536 in
theorem w_c14 : (Jvm.Cond.code ({ cls := "java/lang/String", name := "equals", desc := "(Ljava/lang/Object;)Z" } : Jvm.MethodName) jdk_42_method_66_code (3 : Nat) (Option.some Jvm.ClassFile.FieldType.boolean)).before args0 about1 = true := code_word (m := ⟨7, 2⟩) (meth := k7m2) (c := k7c2) (by decide +kernel) rfl rfl rfl (by decide +kernel)
set_option maxRecDepth 65536 in
theorem w_c15 : (Jvm.Cond.code ({ cls := "java/lang/StringLatin1", name := "equals", desc := "([B[B)Z" } : Jvm.MethodName) jdk_43_method_13_code (3 : Nat) (Option.some Jvm.ClassFile.FieldType.boolean)).before args0 about1 = true := code_word (m := ⟨8, 2⟩) (meth := k8m2) (c := k8c2) (by decide +kernel) rfl rfl rfl (by decide +kernel)
set_option maxRecDepth 65536 in
theorem w_c16 : (Jvm.Cond.code ({ cls := "java/lang/StringUTF16", name := "compress", desc := "([CII)[B" } : Jvm.MethodName) jdk_52_method_16_code (6 : Nat) (Option.some (Jvm.ClassFile.FieldType.array Jvm.ClassFile.FieldType.byte))).before args0 about1 = true := code_word (m := ⟨14, 2⟩) (meth := k14m2) (c := k14c2) (by decide +kernel) rfl rfl rfl (by decide +kernel)
set_option maxRecDepth 65536 in
theorem w_c17 : (Jvm.Cond.code ({ cls := "java/lang/StringUTF16", name := "compress", desc := "([CI[BII)I" } : Jvm.MethodName) jdk_52_method_21_code (7 : Nat) (Option.some Jvm.ClassFile.FieldType.int)).before args0 about1 = true := code_word (m := ⟨14, 3⟩) (meth := k14m3) (c := k14c3) (by decide +kernel) rfl rfl rfl (by decide +kernel)
set_option maxRecDepth 65536 in
theorem w_c18 : (Jvm.Cond.code ({ cls := "java/lang/StringUTF16", name := "coderFromArrayLen", desc := "([BI)B" } : Jvm.MethodName) jdk_52_method_15_code (2 : Nat) (Option.some Jvm.ClassFile.FieldType.byte)).before args0 about1 = true := code_word (m := ⟨14, 1⟩) (meth := k14m1) (c := k14c1) (by decide +kernel) rfl rfl rfl (by decide +kernel)
def codes1 : List Jvm.Cond := [Jvm.Cond.code x code maxLocals ret, Jvm.Cond.code ({ cls := "com/example/termwright/termwright/HeadingHeadsSameDivisionPinLaw", name := "str", desc := "(ICCC)Ljava/lang/String;" } : Jvm.MethodName) method_3_code (4 : Nat) (Option.some (Jvm.ClassFile.FieldType.object "java/lang/String")), Jvm.Cond.code ({ cls := "java/lang/String", name := "<init>", desc := "([C)V" } : Jvm.MethodName) jdk_42_method_3_code (2 : Nat) (Option.none : Option Jvm.ClassFile.FieldType), Jvm.Cond.code ({ cls := "java/lang/String", name := "<init>", desc := "([CIILjava/lang/Void;)V" } : Jvm.MethodName) jdk_42_method_149_code (6 : Nat) (Option.none : Option Jvm.ClassFile.FieldType), Jvm.Cond.code ({ cls := "java/lang/Object", name := "<init>", desc := "()V" } : Jvm.MethodName) object_method_1_code (1 : Nat) (Option.none : Option Jvm.ClassFile.FieldType), Jvm.Cond.code ({ cls := "java/lang/String", name := "valueOf", desc := "(C)Ljava/lang/String;" } : Jvm.MethodName) jdk_42_method_139_code (1 : Nat) (Option.some (Jvm.ClassFile.FieldType.object "java/lang/String")), Jvm.Cond.code ({ cls := "java/lang/StringLatin1", name := "canEncode", desc := "(C)Z" } : Jvm.MethodName) jdk_43_method_3_code (1 : Nat) (Option.some Jvm.ClassFile.FieldType.boolean), Jvm.Cond.code ({ cls := "java/lang/StringLatin1", name := "toBytes", desc := "(C)[B" } : Jvm.MethodName) jdk_43_method_46_code (1 : Nat) (Option.some (Jvm.ClassFile.FieldType.array Jvm.ClassFile.FieldType.byte)), Jvm.Cond.code ({ cls := "java/lang/String", name := "<init>", desc := "([BB)V" } : Jvm.MethodName) jdk_42_method_151_code (3 : Nat) (Option.none : Option Jvm.ClassFile.FieldType), Jvm.Cond.code ({ cls := "com/example/termwright/termwright/HeadingHeadsSameDivisionPinLaw", name := "kind", desc := "(I)Lcom/example/termwright/termwright/OutlineNode$Kind;" } : Jvm.MethodName) method_2_code (1 : Nat) (Option.some (Jvm.ClassFile.FieldType.object "com/example/termwright/termwright/OutlineNode$Kind")), Jvm.Cond.code ({ cls := "com/example/termwright/termwright/Document$Span", name := "<init>", desc := "(II)V" } : Jvm.MethodName) prog_20_method_1_code (3 : Nat) (Option.none : Option Jvm.ClassFile.FieldType), Jvm.Cond.code ({ cls := "java/lang/Record", name := "<init>", desc := "()V" } : Jvm.MethodName) jdk_30_method_1_code (1 : Nat) (Option.none : Option Jvm.ClassFile.FieldType), Jvm.Cond.code ({ cls := "com/example/termwright/termwright/Heading", name := "<init>", desc := "(Lcom/example/termwright/termwright/OutlineNode$Kind;Ljava/lang/String;Ljava/lang/String;Lcom/example/termwright/termwright/Document$Span;)V" } : Jvm.MethodName) prog_32_method_1_code (5 : Nat) (Option.none : Option Jvm.ClassFile.FieldType), Jvm.Cond.code ({ cls := "com/example/termwright/termwright/Heading", name := "headsSameDivision", desc := "(Lcom/example/termwright/termwright/Heading;)Z" } : Jvm.MethodName) prog_32_method_7_code (2 : Nat) (Option.some Jvm.ClassFile.FieldType.boolean), Jvm.Cond.code ({ cls := "java/lang/String", name := "equals", desc := "(Ljava/lang/Object;)Z" } : Jvm.MethodName) jdk_42_method_66_code (3 : Nat) (Option.some Jvm.ClassFile.FieldType.boolean), Jvm.Cond.code ({ cls := "java/lang/StringLatin1", name := "equals", desc := "([B[B)Z" } : Jvm.MethodName) jdk_43_method_13_code (3 : Nat) (Option.some Jvm.ClassFile.FieldType.boolean), Jvm.Cond.code ({ cls := "java/lang/StringUTF16", name := "compress", desc := "([CII)[B" } : Jvm.MethodName) jdk_52_method_16_code (6 : Nat) (Option.some (Jvm.ClassFile.FieldType.array Jvm.ClassFile.FieldType.byte)), Jvm.Cond.code ({ cls := "java/lang/StringUTF16", name := "compress", desc := "([CI[BII)I" } : Jvm.MethodName) jdk_52_method_21_code (7 : Nat) (Option.some Jvm.ClassFile.FieldType.int), Jvm.Cond.code ({ cls := "java/lang/StringUTF16", name := "coderFromArrayLen", desc := "([BI)B" } : Jvm.MethodName) jdk_52_method_15_code (2 : Nat) (Option.some Jvm.ClassFile.FieldType.byte)]
set_option maxRecDepth 65536 in
theorem codes_eq : words1.filter isCode = codes1 := rfl
theorem w_codes : ∀ c ∈ words1.filter isCode, c.before args0 about1 = true := by
  rw [codes_eq]
  intro c hc
  simp only [codes1, List.mem_cons, List.not_mem_nil, or_false] at hc
  rcases hc with rfl | rfl | rfl | rfl | rfl | rfl | rfl | rfl | rfl | rfl | rfl | rfl | rfl | rfl | rfl | rfl | rfl | rfl | rfl
  · exact w_c0
  · exact w_c1
  · exact w_c2
  · exact w_c3
  · exact w_c4
  · exact w_c5
  · exact w_c6
  · exact w_c7
  · exact w_c8
  · exact w_c9
  · exact w_c10
  · exact w_c11
  · exact w_c12
  · exact w_c13
  · exact w_c14
  · exact w_c15
  · exact w_c16
  · exact w_c17
  · exact w_c18
set_option maxRecDepth 65536 in
theorem w_t1 : (words1.take 24).all (fun c => isCode c || c.before args0 about1) = true := by decide +kernel
set_option maxRecDepth 65536 in
theorem w_t2 : ((words1.drop 24).take 24).all (fun c => isCode c || c.before args0 about1) = true := by decide +kernel
set_option maxRecDepth 65536 in
theorem w_t3 : (((words1.drop 24).drop 24).take 24).all (fun c => isCode c || c.before args0 about1) = true := by decide +kernel
set_option maxRecDepth 65536 in
theorem w_t4 : ((((words1.drop 24).drop 24).drop 24).take 24).all (fun c => isCode c || c.before args0 about1) = true := by decide +kernel
set_option maxRecDepth 65536 in
theorem w_t5 : ((((words1.drop 24).drop 24).drop 24).drop 24).all (fun c => isCode c || c.before args0 about1) = true := by decide +kernel
theorem w_tables : (allAtoms (Jvm.Cond.code x code maxLocals ret :: tables_1)).before args0 about1 = true := by
  rw [allAtoms_all]
  show words1.all (fun c => c.before args0 about1) = true
  refine all_split ?_ w_codes
  rw [← List.take_append_drop 24 words1, List.all_append, w_t1, ← List.take_append_drop 24 (words1.drop 24), List.all_append, w_t2, ← List.take_append_drop 24 ((words1.drop 24).drop 24), List.all_append, w_t3, ← List.take_append_drop 24 (((words1.drop 24).drop 24).drop 24), List.all_append, w_t4, w_t5]
  rfl
set_option maxRecDepth 65536 in
theorem w_rest : rest_1_c.before args0 about1 = true := by decide +kernel
set_option maxRecDepth 65536 in
theorem w_case : (Jvm.Cond.and given_1 narrow_1).before args0 about1 = true := by decide +kernel
set_option maxRecDepth 65536 in
theorem w_consts : constsHeld consts_1 about1 := Jvm.Lit.constsHeldB_iff.mp (by decide +kernel)
theorem w_applies : (headSpec (Jvm.Cond.code x code maxLocals ret :: tables_1) room_1).applies x e0.platform about1 = true :=
  (Spec.applies_iff w_frames).mpr ⟨w_running, w_runnable, w_alone, w_named, w_hears, w_ripe, w_room, w_tables⟩
theorem atStart : AtStart classFile x code maxLocals ret World_1 tables_1 room_1 Calls_1 rest_1 Pre_1 launch0 p0 e0 about1 theMethod args0 below0 :=
  ⟨lists_1, trivial, launch0.admits_env _ _ _, launch0.least_env, fairChoices_fair.cas, fairChoices_fair.clock, w_frames, w_args, w_heap, w_applies, ⟨w_consts, trivial⟩, w_rest, w_case⟩
end start1
theorem witness_1 : WitnessClaimed_1 := ⟨start1.p0, start1.e0, start1.about1, start1.theMethod, start1.args0, start1.below0, start1.atStart⟩
end Jvm.Pilot.@@N@@
