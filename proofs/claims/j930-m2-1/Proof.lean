import JvmDerived
import JvmDerived.Pilot.@@N@@Statement
import JvmDerived.Pilot.@@N@@Code
set_option linter.unusedVariables false
set_option linter.unusedSimpArgs false
namespace Jvm.Pilot.@@N@@.W
open Jvm Jvm.ClassFile Sem Op Lib Jvm.Free Jvm.Stand Jvm.LawKit Jvm.RoadKit Bundle

/-- the invocation comes to its end from (T, f): what it returns and the heap there are as G says; nothing below n0 is written; at most K cells, N slots are made -/
def Ends (p : Program) (e : Env) (below : List Frame) (Y : State → Outcome → List Loc → Prop) (n0 : Nat) (G : Option Value → Heap → Prop) (T : State) (f : JFrame) : Prop :=
  ∃ s₂ o, Steps p.tables e below (T.setTop f) s₂ ∧ s₂.status = .running ∧ Ended s₂ below o ∧ ∃ v L, o = .returned v ∧ (G v s₂.heap ∧ Fr n0 L) ∧ Y s₂ o L
/-- the walk stands in T, whose heap is h -/
def St (p : Program) (l : Launch) (e : Env) (R : Room) (s : State) (m : MethodId) (args : Array Value) (below : List Frame) (meth : Method) (c : Code) (n0 : Nat) (h : Heap) (k n : Nat) (T : State) : Prop :=
  ∃ locs, Fr n0 locs ∧ Stand p l e R s m args below meth c T locs k n ∧ T.heap = h
/-- what stays through a walk: the machine, the tables of the start, the body, its class, what it returns -/
def Cx (p : Program) (s : State) (m : MethodId) (meth : Method) (c : Code) (Z : State) (n0 : Nat) (own : String) (bytes : ByteArray) (ml : Nat) (ret : Option FieldType) : Prop :=
  p.tables.exec = Jvm.exec ∧ Z.Warmed39 s.vm ∧ c.code = bytes ∧ c.maxLocals = ml ∧ s.vm.findClass own = some m.cls ∧ meth.sig.returnType = ret ∧ meth.locks = false ∧ n0 ≤ s.heap.size
/-- from every state that stands so, with the frame f on top, the invocation comes to its end -/
def Go (p : Program) (l : Launch) (e : Env) (R : Room) (s : State) (m : MethodId) (args : Array Value) (below : List Frame) (meth : Method) (c : Code) (Y : State → Outcome → List Loc → Prop) (n0 : Nat) (G : Option Value → Heap → Prop) (h : Heap) (k n : Nat) (f : JFrame) : Prop :=
  ∀ T, St p l e R s m args below meth c n0 h k n T → Ends p e below Y n0 G T f
/-- a body's contract -/
abbrev Con (l : Launch) (Z : State) (y : MethodName) (bytes : ByteArray) (ml : Nat) (ret : Option FieldType) (ws : List Cond) (rm : Room) (K N : Nat) (as : Array Value) (h0 : Heap) (n0 : Nat) (G : Option Value → Heap → Prop) : Prop :=
  MetFree l y (head1 (Cond.code y bytes ml ret :: ws) rm) (fun a U => a = as ∧ Z.Warmed39 U.vm ∧ U.heap = h0) (fun _ _ _ _ _ => True) (fun _ U o U' => ∃ v L, o = .returned v ∧ (G v U'.heap ∧ Fr n0 L) ∧ FrameEnd U o U' L K N)

section Walk
variable {p : Program} {l : Launch} {e : Env} {R : Room} {s : State} {m : MethodId} {args : Array Value} {below : List Frame} {meth : Method} {c : Code} {K N n0 k n : Nat} {G : Option Value → Heap → Prop} {Y : State → Outcome → List Loc → Prop}
  {Z : State} {a0 : Array Value} {own : String} {bytes : ByteArray} {ml : Nat} {ret : Option FieldType} {Ls Ls' : Array Slot} {S : List Value} {pc pc' pn : Nat} {h h' : Heap}

theorem step {T T' : State} {f f' : JFrame} (q : ∀ target, Steps p.tables e below (T'.setTop f') target → Steps p.tables e below (T.setTop f) target) (g : Ends p e below Y n0 G T' f') : Ends p e below Y n0 G T f := by
  obtain ⟨s₂, o, h1, h2⟩ := g
  exact ⟨s₂, o, q _ h1, h2⟩
theorem stepG {f f' : JFrame} (q : ∀ T locs, Stand p l e R s m args below meth c T locs k n → T.heap = h → ∀ target, Steps p.tables e below (T.setTop f') target → Steps p.tables e below (T.setTop f) target)
    (g : Go p l e R s m args below meth c Y n0 G h k n f') : Go p l e R s m args below meth c Y n0 G h k n f := fun T ⟨locs, F, X, eT⟩ => step (q T locs X eT) (g T ⟨locs, F, X, eT⟩)
theorem Go.mono {f : JFrame} {k2 n2 : Nat} (g : Go p l e R s m args below meth c Y n0 G h k2 n2 f) (h1 : k ≤ k2) (h2 : n ≤ n2) : Go p l e R s m args below meth c Y n0 G h k n f := fun T ⟨locs, F, X, eT⟩ =>
  g T ⟨locs, F, ⟨X.admits, X.cas, X.clock, X.frames, X.room, X.hears, X.method, X.code, X.here, X.tail, X.warmed, X.limits, X.bytes, X.same.mono h1 h2⟩, eT⟩
theorem Go.castF {f f' : JFrame} (q : f = f') (g : Go p l e R s m args below meth c Y n0 G h k n f') : Go p l e R s m args below meth c Y n0 G h k n f := q ▸ g

/-- entering -/
theorem enter {y : MethodName} {as : Array Value} {ws : List Cond} {rm : Room} {h0 : Heap} (hp : plainFor y = true) (Z0 : n0 ≤ h0.size)
    (body : ∀ p e s m below meth c, Cx p s m meth c Z n0 y.cls bytes ml ret → meth.name = y.name → s.heap = h0 → Go p l e rm s m as below meth c (fun s₂ o L => FrameEnd s o s₂ L K N) n0 G h0 0 0 (entryFrame m as ml)) : Con l Z y bytes ml ret ws rm K N as h0 n0 G := by
  refine MetFree.of_bodySF hp hisR ?_
  intro p e s m args below meth c s₁ Bd hml0 hP hK
  obtain ⟨rfl, hZ, hh⟩ := hP
  have X0 : Stand p l e rm s m args below meth c s₁ [] 0 0 := Stand.of_body Bd
  have e0 : s₁.heap = h0 := by rw [← hh, Bd.state]; rfl
  obtain ⟨s₂, o, h1, h2, h3, h4⟩ := body p e s m below meth c ⟨Bd.exec, hZ, Bd.bytes, hml0, findClass_of_methodNamed Bd.named, Bd.returns, Bd.notSynchronized, by rw [hh]; exact Z0⟩ (name_of_methodNamed Bd.named Bd.method).1 hh s₁ ⟨[], Fr.nil _, X0, e0⟩
  exact ⟨s₂, o, h1, h2, h3, h4⟩

/-! loads, stores, constants -/
theorem iloadN (C : Cx p s m meth c Z n0 own bytes ml ret) {i : Fin 4} {v : Int32} (hd : decode bytes pc = .ok (.iload_n i, 1)) (hp : pc + 1 = pc') (hl : Ls[i.val]? = some (.val (.int v)))
    (g : Go p l e R s m args below meth c Y n0 G h k n (mkF m pc' Ls (.int v :: S))) : Go p l e R s m args below meth c Y n0 G h k n (mkF m pc Ls S) := by
  subst hp; exact stepG (fun T locs X _ _ q => XS.iloadN X.here C.1 rfl (hb C.2.2.1 hd) hl q) g
theorem iload (C : Cx p s m meth c Z n0 own bytes ml ret) {i : Nat} {v : Int32} (hd : decode bytes pc = .ok (.iload i, 2)) (hp : pc + 2 = pc') (hl : Ls[i]? = some (.val (.int v)))
    (g : Go p l e R s m args below meth c Y n0 G h k n (mkF m pc' Ls (.int v :: S))) : Go p l e R s m args below meth c Y n0 G h k n (mkF m pc Ls S) := by
  subst hp; exact stepG (fun T locs X _ _ q => XS.iload X.here C.1 rfl (hb C.2.2.1 hd) hl q) g
theorem lloadN (C : Cx p s m meth c Z n0 own bytes ml ret) {i : Fin 4} {v : Int64} (hd : decode bytes pc = .ok (.lload_n i, 1)) (hp : pc + 1 = pc') (hl : Ls[i.val]? = some (.val (.long v)))
    (g : Go p l e R s m args below meth c Y n0 G h k n (mkF m pc' Ls (.long v :: S))) : Go p l e R s m args below meth c Y n0 G h k n (mkF m pc Ls S) := by
  subst hp; exact stepG (fun T locs X _ _ q => XS.lloadN X.here C.1 rfl (hb C.2.2.1 hd) hl q) g
theorem lload (C : Cx p s m meth c Z n0 own bytes ml ret) {i : Nat} {v : Int64} (hd : decode bytes pc = .ok (.lload i, 2)) (hp : pc + 2 = pc') (hl : Ls[i]? = some (.val (.long v)))
    (g : Go p l e R s m args below meth c Y n0 G h k n (mkF m pc' Ls (.long v :: S))) : Go p l e R s m args below meth c Y n0 G h k n (mkF m pc Ls S) := by
  subst hp; exact stepG (fun T locs X _ _ q => XS.lload X.here C.1 rfl (hb C.2.2.1 hd) hl q) g
theorem aloadN (C : Cx p s m meth c Z n0 own bytes ml ret) {i : Fin 4} {v : Value} (hd : decode bytes pc = .ok (.aload_n i, 1)) (hp : pc + 1 = pc') (hl : Ls[i.val]? = some (.val v)) (hv : v.isRef = true)
    (g : Go p l e R s m args below meth c Y n0 G h k n (mkF m pc' Ls (v :: S))) : Go p l e R s m args below meth c Y n0 G h k n (mkF m pc Ls S) := by
  subst hp; exact stepG (fun T locs X _ _ q => XS.aloadN X.here C.1 rfl (hb C.2.2.1 hd) hl hv q) g
theorem aload (C : Cx p s m meth c Z n0 own bytes ml ret) {i : Nat} {v : Value} (hd : decode bytes pc = .ok (.aload i, 2)) (hp : pc + 2 = pc') (hl : Ls[i]? = some (.val v)) (hv : v.isRef = true)
    (g : Go p l e R s m args below meth c Y n0 G h k n (mkF m pc' Ls (v :: S))) : Go p l e R s m args below meth c Y n0 G h k n (mkF m pc Ls S) := by
  subst hp; exact stepG (fun T locs X _ _ q => XS.aload X.here C.1 rfl (hb C.2.2.1 hd) hl hv q) g
theorem istoreN (C : Cx p s m meth c Z n0 own bytes ml ret) {i : Fin 4} {x : Int32} (hd : decode bytes pc = .ok (.istore_n i, 1)) (hp : pc + 1 = pc') (hl : storeLocals Ls i.val (.int x) = some Ls')
    (g : Go p l e R s m args below meth c Y n0 G h k n (mkF m pc' Ls' S)) : Go p l e R s m args below meth c Y n0 G h k n (mkF m pc Ls (.int x :: S)) := by
  subst hp; exact stepG (fun T locs X _ _ q => XS.istoreN X.here C.1 rfl (hb C.2.2.1 hd) rfl hl q) g
theorem istore (C : Cx p s m meth c Z n0 own bytes ml ret) {i : Nat} {x : Int32} (hd : decode bytes pc = .ok (.istore i, 2)) (hp : pc + 2 = pc') (hl : storeLocals Ls i (.int x) = some Ls')
    (g : Go p l e R s m args below meth c Y n0 G h k n (mkF m pc' Ls' S)) : Go p l e R s m args below meth c Y n0 G h k n (mkF m pc Ls (.int x :: S)) := by
  subst hp; exact stepG (fun T locs X _ _ q => XS.istore X.here C.1 rfl (hb C.2.2.1 hd) rfl hl q) g
theorem lstoreN (C : Cx p s m meth c Z n0 own bytes ml ret) {i : Fin 4} {x : Int64} (hd : decode bytes pc = .ok (.lstore_n i, 1)) (hp : pc + 1 = pc') (hl : storeLocals Ls i.val (.long x) = some Ls')
    (g : Go p l e R s m args below meth c Y n0 G h k n (mkF m pc' Ls' S)) : Go p l e R s m args below meth c Y n0 G h k n (mkF m pc Ls (.long x :: S)) := by
  subst hp; exact stepG (fun T locs X _ _ q => XS.lstoreN X.here C.1 rfl (hb C.2.2.1 hd) rfl hl q) g
theorem lstore (C : Cx p s m meth c Z n0 own bytes ml ret) {i : Nat} {x : Int64} (hd : decode bytes pc = .ok (.lstore i, 2)) (hp : pc + 2 = pc') (hl : storeLocals Ls i (.long x) = some Ls')
    (g : Go p l e R s m args below meth c Y n0 G h k n (mkF m pc' Ls' S)) : Go p l e R s m args below meth c Y n0 G h k n (mkF m pc Ls (.long x :: S)) := by
  subst hp; exact stepG (fun T locs X _ _ q => XS.lstore X.here C.1 rfl (hb C.2.2.1 hd) rfl hl q) g
theorem astoreN (C : Cx p s m meth c Z n0 own bytes ml ret) {i : Fin 4} {x : Value} (hd : decode bytes pc = .ok (.astore_n i, 1)) (hp : pc + 1 = pc') (hv : x.isRef = true) (hl : storeLocals Ls i.val x = some Ls')
    (g : Go p l e R s m args below meth c Y n0 G h k n (mkF m pc' Ls' S)) : Go p l e R s m args below meth c Y n0 G h k n (mkF m pc Ls (x :: S)) := by
  subst hp; exact stepG (fun T locs X _ _ q => XS.astoreN X.here C.1 rfl (hb C.2.2.1 hd) rfl hv hl q) g
theorem astore (C : Cx p s m meth c Z n0 own bytes ml ret) {i : Nat} {x : Value} (hd : decode bytes pc = .ok (.astore i, 2)) (hp : pc + 2 = pc') (hv : x.isRef = true) (hl : storeLocals Ls i x = some Ls')
    (g : Go p l e R s m args below meth c Y n0 G h k n (mkF m pc' Ls' S)) : Go p l e R s m args below meth c Y n0 G h k n (mkF m pc Ls (x :: S)) := by
  subst hp; exact stepG (fun T locs X _ _ q => XS.astore X.here C.1 rfl (hb C.2.2.1 hd) rfl hv hl q) g
theorem iconst (C : Cx p s m meth c Z n0 own bytes ml ret) {i : Int} {x : Int32} (hd : decode bytes pc = .ok (.iconst i, 1)) (hp : pc + 1 = pc') (hv : Int32.ofInt i = x)
    (g : Go p l e R s m args below meth c Y n0 G h k n (mkF m pc' Ls (.int x :: S))) : Go p l e R s m args below meth c Y n0 G h k n (mkF m pc Ls S) := by
  subst hp hv; exact stepG (fun T locs X _ _ q => XS.iconst X.here C.1 rfl (hb C.2.2.1 hd) q) g
theorem bipush (C : Cx p s m meth c Z n0 own bytes ml ret) {i : Int} {x : Int32} (hd : decode bytes pc = .ok (.bipush i, 2)) (hp : pc + 2 = pc') (hv : (Int8.ofInt i).toInt32 = x)
    (g : Go p l e R s m args below meth c Y n0 G h k n (mkF m pc' Ls (.int x :: S))) : Go p l e R s m args below meth c Y n0 G h k n (mkF m pc Ls S) := by
  subst hp hv; exact stepG (fun T locs X _ _ q => XS.bipush X.here C.1 rfl (hb C.2.2.1 hd) q) g
theorem sipush (C : Cx p s m meth c Z n0 own bytes ml ret) {i : Int} {x : Int32} (hd : decode bytes pc = .ok (.sipush i, 3)) (hp : pc + 3 = pc') (hv : (Int16.ofInt i).toInt32 = x)
    (g : Go p l e R s m args below meth c Y n0 G h k n (mkF m pc' Ls (.int x :: S))) : Go p l e R s m args below meth c Y n0 G h k n (mkF m pc Ls S) := by
  subst hp hv; exact stepG (fun T locs X _ _ q => XS.sipush X.here C.1 rfl (hb C.2.2.1 hd) q) g
theorem lconst (C : Cx p s m meth c Z n0 own bytes ml ret) {i : Fin 2} {x : Int64} (hd : decode bytes pc = .ok (.lconst i, 1)) (hp : pc + 1 = pc') (hv : Int64.ofNat i = x)
    (g : Go p l e R s m args below meth c Y n0 G h k n (mkF m pc' Ls (.long x :: S))) : Go p l e R s m args below meth c Y n0 G h k n (mkF m pc Ls S) := by
  subst hp hv; exact stepG (fun T locs X _ _ q => XS.lconst X.here C.1 rfl (hb C.2.2.1 hd) q) g
theorem aconst_null (C : Cx p s m meth c Z n0 own bytes ml ret) (hd : decode bytes pc = .ok (.aconst_null, 1)) (hp : pc + 1 = pc')
    (g : Go p l e R s m args below meth c Y n0 G h k n (mkF m pc' Ls (.null :: S))) : Go p l e R s m args below meth c Y n0 G h k n (mkF m pc Ls S) := by
  subst hp; exact stepG (fun T locs X _ _ q => XS.aconstNull X.here C.1 rfl (hb C.2.2.1 hd) q) g
theorem ldcI (C : Cx p s m meth c Z n0 own bytes ml ret) {i : Nat} {v : Int32} (w : (Cond.constant own i v).before a0 Z = true) (hd : decode bytes pc = .ok (.ldc i, 2)) (hp : pc + 2 = pc')
    (g : Go p l e R s m args below meth c Y n0 G h k n (mkF m pc' Ls (.int v :: S))) : Go p l e R s m args below meth c Y n0 G h k n (mkF m pc Ls S) := by
  subst hp; exact stepG (fun T locs X _ t q => X.ldcInt C.1 C.2.2.2.2.1 (mvT C.2.1 w) (g := mkF m pc Ls S) rfl (hb C.2.2.1 hd) t q) g
theorem ldcwI (C : Cx p s m meth c Z n0 own bytes ml ret) {i : Nat} {v : Int32} (w : (Cond.constant own i v).before a0 Z = true) (hd : decode bytes pc = .ok (.ldc_w i, 3)) (hp : pc + 3 = pc')
    (g : Go p l e R s m args below meth c Y n0 G h k n (mkF m pc' Ls (.int v :: S))) : Go p l e R s m args below meth c Y n0 G h k n (mkF m pc Ls S) := by
  subst hp; exact stepG (fun T locs X _ t q => X.ldcwInt C.1 C.2.2.2.2.1 (mvT C.2.1 w) (g := mkF m pc Ls S) rfl (hb C.2.2.1 hd) t q) g
theorem ldc2 (C : Cx p s m meth c Z n0 own bytes ml ret) {i : Nat} {v : Int64} (w : (Cond.constantLong own i v).before a0 Z = true) (hd : decode bytes pc = .ok (.ldc2_w i, 3)) (hp : pc + 3 = pc')
    (g : Go p l e R s m args below meth c Y n0 G h k n (mkF m pc' Ls (.long v :: S))) : Go p l e R s m args below meth c Y n0 G h k n (mkF m pc Ls S) := by
  subst hp; exact stepG (fun T locs X _ t q => X.ldc2Long C.1 C.2.2.2.2.1 (mvT C.2.1 w) (g := mkF m pc Ls S) rfl (hb C.2.2.1 hd) t q) g
theorem iadd (C : Cx p s m meth c Z n0 own bytes ml ret) {x y z : Int32} (hd : decode bytes pc = .ok (.iadd, 1)) (hp : pc + 1 = pc') (hv : x + y = z)
    (g : Go p l e R s m args below meth c Y n0 G h k n (mkF m pc' Ls (.int z :: S))) : Go p l e R s m args below meth c Y n0 G h k n (mkF m pc Ls (.int y :: .int x :: S)) := by
  subst hp hv; exact stepG (fun T locs X _ _ q => XS.iadd X.here C.1 rfl (hb C.2.2.1 hd) rfl q) g
theorem isub (C : Cx p s m meth c Z n0 own bytes ml ret) {x y z : Int32} (hd : decode bytes pc = .ok (.isub, 1)) (hp : pc + 1 = pc') (hv : x - y = z)
    (g : Go p l e R s m args below meth c Y n0 G h k n (mkF m pc' Ls (.int z :: S))) : Go p l e R s m args below meth c Y n0 G h k n (mkF m pc Ls (.int y :: .int x :: S)) := by
  subst hp hv; exact stepG (fun T locs X _ _ q => XS.isub X.here C.1 rfl (hb C.2.2.1 hd) rfl q) g
theorem imul (C : Cx p s m meth c Z n0 own bytes ml ret) {x y z : Int32} (hd : decode bytes pc = .ok (.imul, 1)) (hp : pc + 1 = pc') (hv : x * y = z)
    (g : Go p l e R s m args below meth c Y n0 G h k n (mkF m pc' Ls (.int z :: S))) : Go p l e R s m args below meth c Y n0 G h k n (mkF m pc Ls (.int y :: .int x :: S)) := by
  subst hp hv; exact stepG (fun T locs X _ _ q => XS.imul X.here C.1 rfl (hb C.2.2.1 hd) rfl q) g
theorem iand (C : Cx p s m meth c Z n0 own bytes ml ret) {x y z : Int32} (hd : decode bytes pc = .ok (.iand, 1)) (hp : pc + 1 = pc') (hv : x &&& y = z)
    (g : Go p l e R s m args below meth c Y n0 G h k n (mkF m pc' Ls (.int z :: S))) : Go p l e R s m args below meth c Y n0 G h k n (mkF m pc Ls (.int y :: .int x :: S)) := by
  subst hp hv; exact stepG (fun T locs X _ _ q => XS.iand X.here C.1 rfl (hb C.2.2.1 hd) rfl q) g
theorem ior (C : Cx p s m meth c Z n0 own bytes ml ret) {x y z : Int32} (hd : decode bytes pc = .ok (.ior, 1)) (hp : pc + 1 = pc') (hv : x ||| y = z)
    (g : Go p l e R s m args below meth c Y n0 G h k n (mkF m pc' Ls (.int z :: S))) : Go p l e R s m args below meth c Y n0 G h k n (mkF m pc Ls (.int y :: .int x :: S)) := by
  subst hp hv; exact stepG (fun T locs X _ _ q => XS.ior X.here C.1 rfl (hb C.2.2.1 hd) rfl q) g
theorem ixor (C : Cx p s m meth c Z n0 own bytes ml ret) {x y z : Int32} (hd : decode bytes pc = .ok (.ixor, 1)) (hp : pc + 1 = pc') (hv : x ^^^ y = z)
    (g : Go p l e R s m args below meth c Y n0 G h k n (mkF m pc' Ls (.int z :: S))) : Go p l e R s m args below meth c Y n0 G h k n (mkF m pc Ls (.int y :: .int x :: S)) := by
  subst hp hv; exact stepG (fun T locs X _ _ q => XS.ixor X.here C.1 rfl (hb C.2.2.1 hd) rfl q) g
theorem ladd (C : Cx p s m meth c Z n0 own bytes ml ret) {x y z : Int64} (hd : decode bytes pc = .ok (.ladd, 1)) (hp : pc + 1 = pc') (hv : x + y = z)
    (g : Go p l e R s m args below meth c Y n0 G h k n (mkF m pc' Ls (.long z :: S))) : Go p l e R s m args below meth c Y n0 G h k n (mkF m pc Ls (.long y :: .long x :: S)) := by
  subst hp hv; exact stepG (fun T locs X _ _ q => XS.ladd X.here C.1 rfl (hb C.2.2.1 hd) rfl q) g
theorem lsub (C : Cx p s m meth c Z n0 own bytes ml ret) {x y z : Int64} (hd : decode bytes pc = .ok (.lsub, 1)) (hp : pc + 1 = pc') (hv : x - y = z)
    (g : Go p l e R s m args below meth c Y n0 G h k n (mkF m pc' Ls (.long z :: S))) : Go p l e R s m args below meth c Y n0 G h k n (mkF m pc Ls (.long y :: .long x :: S)) := by
  subst hp hv; exact stepG (fun T locs X _ _ q => XS.lsub X.here C.1 rfl (hb C.2.2.1 hd) rfl q) g
theorem lmul (C : Cx p s m meth c Z n0 own bytes ml ret) {x y z : Int64} (hd : decode bytes pc = .ok (.lmul, 1)) (hp : pc + 1 = pc') (hv : x * y = z)
    (g : Go p l e R s m args below meth c Y n0 G h k n (mkF m pc' Ls (.long z :: S))) : Go p l e R s m args below meth c Y n0 G h k n (mkF m pc Ls (.long y :: .long x :: S)) := by
  subst hp hv; exact stepG (fun T locs X _ _ q => XS.lmul X.here C.1 rfl (hb C.2.2.1 hd) rfl q) g
theorem land (C : Cx p s m meth c Z n0 own bytes ml ret) {x y z : Int64} (hd : decode bytes pc = .ok (.land, 1)) (hp : pc + 1 = pc') (hv : x &&& y = z)
    (g : Go p l e R s m args below meth c Y n0 G h k n (mkF m pc' Ls (.long z :: S))) : Go p l e R s m args below meth c Y n0 G h k n (mkF m pc Ls (.long y :: .long x :: S)) := by
  subst hp hv; exact stepG (fun T locs X _ _ q => XS.land X.here C.1 rfl (hb C.2.2.1 hd) rfl q) g
theorem lor (C : Cx p s m meth c Z n0 own bytes ml ret) {x y z : Int64} (hd : decode bytes pc = .ok (.lor, 1)) (hp : pc + 1 = pc') (hv : x ||| y = z)
    (g : Go p l e R s m args below meth c Y n0 G h k n (mkF m pc' Ls (.long z :: S))) : Go p l e R s m args below meth c Y n0 G h k n (mkF m pc Ls (.long y :: .long x :: S)) := by
  subst hp hv; exact stepG (fun T locs X _ _ q => XS.lor X.here C.1 rfl (hb C.2.2.1 hd) rfl q) g
theorem lxor (C : Cx p s m meth c Z n0 own bytes ml ret) {x y z : Int64} (hd : decode bytes pc = .ok (.lxor, 1)) (hp : pc + 1 = pc') (hv : x ^^^ y = z)
    (g : Go p l e R s m args below meth c Y n0 G h k n (mkF m pc' Ls (.long z :: S))) : Go p l e R s m args below meth c Y n0 G h k n (mkF m pc Ls (.long y :: .long x :: S)) := by
  subst hp hv; exact stepG (fun T locs X _ _ q => XS.lxor X.here C.1 rfl (hb C.2.2.1 hd) rfl q) g
theorem ishl (C : Cx p s m meth c Z n0 own bytes ml ret) {x z : Int32} {y : Int32} (hd : decode bytes pc = .ok (.ishl, 1)) (hp : pc + 1 = pc') (hv : (x <<< (y &&& 31)) = z)
    (g : Go p l e R s m args below meth c Y n0 G h k n (mkF m pc' Ls (.int z :: S))) : Go p l e R s m args below meth c Y n0 G h k n (mkF m pc Ls (.int y :: .int x :: S)) := by
  subst hp hv; exact stepG (fun T locs X _ _ q => XS.ishl X.here C.1 rfl (hb C.2.2.1 hd) rfl q) g
theorem ishr (C : Cx p s m meth c Z n0 own bytes ml ret) {x z : Int32} {y : Int32} (hd : decode bytes pc = .ok (.ishr, 1)) (hp : pc + 1 = pc') (hv : (x >>> (y &&& 31)) = z)
    (g : Go p l e R s m args below meth c Y n0 G h k n (mkF m pc' Ls (.int z :: S))) : Go p l e R s m args below meth c Y n0 G h k n (mkF m pc Ls (.int y :: .int x :: S)) := by
  subst hp hv; exact stepG (fun T locs X _ _ q => XS.ishr X.here C.1 rfl (hb C.2.2.1 hd) rfl q) g
theorem iushr (C : Cx p s m meth c Z n0 own bytes ml ret) {x z : Int32} {y : Int32} (hd : decode bytes pc = .ok (.iushr, 1)) (hp : pc + 1 = pc') (hv : ((x).toUInt32 >>> (y &&& 31).toUInt32).toInt32 = z)
    (g : Go p l e R s m args below meth c Y n0 G h k n (mkF m pc' Ls (.int z :: S))) : Go p l e R s m args below meth c Y n0 G h k n (mkF m pc Ls (.int y :: .int x :: S)) := by
  subst hp hv; exact stepG (fun T locs X _ _ q => XS.iushr X.here C.1 rfl (hb C.2.2.1 hd) rfl q) g
theorem lshl (C : Cx p s m meth c Z n0 own bytes ml ret) {x z : Int64} {y : Int32} (hd : decode bytes pc = .ok (.lshl, 1)) (hp : pc + 1 = pc') (hv : (x <<< (y &&& 0x3f).toInt64) = z)
    (g : Go p l e R s m args below meth c Y n0 G h k n (mkF m pc' Ls (.long z :: S))) : Go p l e R s m args below meth c Y n0 G h k n (mkF m pc Ls (.int y :: .long x :: S)) := by
  subst hp hv; exact stepG (fun T locs X _ _ q => XS.lshl X.here C.1 rfl (hb C.2.2.1 hd) rfl q) g
theorem lshr (C : Cx p s m meth c Z n0 own bytes ml ret) {x z : Int64} {y : Int32} (hd : decode bytes pc = .ok (.lshr, 1)) (hp : pc + 1 = pc') (hv : (x >>> (y &&& 0x3f).toInt64) = z)
    (g : Go p l e R s m args below meth c Y n0 G h k n (mkF m pc' Ls (.long z :: S))) : Go p l e R s m args below meth c Y n0 G h k n (mkF m pc Ls (.int y :: .long x :: S)) := by
  subst hp hv; exact stepG (fun T locs X _ _ q => XS.lshr X.here C.1 rfl (hb C.2.2.1 hd) rfl q) g
theorem lushr (C : Cx p s m meth c Z n0 own bytes ml ret) {x z : Int64} {y : Int32} (hd : decode bytes pc = .ok (.lushr, 1)) (hp : pc + 1 = pc') (hv : ((x).toUInt64 >>> (y &&& 0x3f).toInt64.toUInt64).toInt64 = z)
    (g : Go p l e R s m args below meth c Y n0 G h k n (mkF m pc' Ls (.long z :: S))) : Go p l e R s m args below meth c Y n0 G h k n (mkF m pc Ls (.int y :: .long x :: S)) := by
  subst hp hv; exact stepG (fun T locs X _ _ q => XS.lushr X.here C.1 rfl (hb C.2.2.1 hd) rfl q) g
theorem ineg (C : Cx p s m meth c Z n0 own bytes ml ret) {x : Int32} {z : Int32} (hd : decode bytes pc = .ok (.ineg, 1)) (hp : pc + 1 = pc') (hv : (-x) = z)
    (g : Go p l e R s m args below meth c Y n0 G h k n (mkF m pc' Ls (.int z :: S))) : Go p l e R s m args below meth c Y n0 G h k n (mkF m pc Ls (.int x :: S)) := by
  subst hp hv; exact stepG (fun T locs X _ _ q => XS.ineg X.here C.1 rfl (hb C.2.2.1 hd) rfl q) g
theorem lneg (C : Cx p s m meth c Z n0 own bytes ml ret) {x : Int64} {z : Int64} (hd : decode bytes pc = .ok (.lneg, 1)) (hp : pc + 1 = pc') (hv : (-x) = z)
    (g : Go p l e R s m args below meth c Y n0 G h k n (mkF m pc' Ls (.long z :: S))) : Go p l e R s m args below meth c Y n0 G h k n (mkF m pc Ls (.long x :: S)) := by
  subst hp hv; exact stepG (fun T locs X _ _ q => XS.lneg X.here C.1 rfl (hb C.2.2.1 hd) rfl q) g
theorem i2l (C : Cx p s m meth c Z n0 own bytes ml ret) {x : Int32} {z : Int64} (hd : decode bytes pc = .ok (.i2l, 1)) (hp : pc + 1 = pc') (hv : (x).toInt64 = z)
    (g : Go p l e R s m args below meth c Y n0 G h k n (mkF m pc' Ls (.long z :: S))) : Go p l e R s m args below meth c Y n0 G h k n (mkF m pc Ls (.int x :: S)) := by
  subst hp hv; exact stepG (fun T locs X _ _ q => XS.i2l X.here C.1 rfl (hb C.2.2.1 hd) rfl q) g
theorem l2i (C : Cx p s m meth c Z n0 own bytes ml ret) {x : Int64} {z : Int32} (hd : decode bytes pc = .ok (.l2i, 1)) (hp : pc + 1 = pc') (hv : (x).toInt32 = z)
    (g : Go p l e R s m args below meth c Y n0 G h k n (mkF m pc' Ls (.int z :: S))) : Go p l e R s m args below meth c Y n0 G h k n (mkF m pc Ls (.long x :: S)) := by
  subst hp hv; exact stepG (fun T locs X _ _ q => XS.l2i X.here C.1 rfl (hb C.2.2.1 hd) rfl q) g
theorem i2b (C : Cx p s m meth c Z n0 own bytes ml ret) {x : Int32} {z : Int32} (hd : decode bytes pc = .ok (.i2b, 1)) (hp : pc + 1 = pc') (hv : (x).toInt8.toInt32 = z)
    (g : Go p l e R s m args below meth c Y n0 G h k n (mkF m pc' Ls (.int z :: S))) : Go p l e R s m args below meth c Y n0 G h k n (mkF m pc Ls (.int x :: S)) := by
  subst hp hv; exact stepG (fun T locs X _ _ q => XS.i2b X.here C.1 rfl (hb C.2.2.1 hd) rfl q) g
theorem i2s (C : Cx p s m meth c Z n0 own bytes ml ret) {x : Int32} {z : Int32} (hd : decode bytes pc = .ok (.i2s, 1)) (hp : pc + 1 = pc') (hv : (x).toInt16.toInt32 = z)
    (g : Go p l e R s m args below meth c Y n0 G h k n (mkF m pc' Ls (.int z :: S))) : Go p l e R s m args below meth c Y n0 G h k n (mkF m pc Ls (.int x :: S)) := by
  subst hp hv; exact stepG (fun T locs X _ _ q => XS.i2s X.here C.1 rfl (hb C.2.2.1 hd) rfl q) g
theorem i2c (C : Cx p s m meth c Z n0 own bytes ml ret) {x : Int32} {z : Int32} (hd : decode bytes pc = .ok (.i2c, 1)) (hp : pc + 1 = pc') (hv : (x).toUInt32.toUInt16.toUInt32.toInt32 = z)
    (g : Go p l e R s m args below meth c Y n0 G h k n (mkF m pc' Ls (.int z :: S))) : Go p l e R s m args below meth c Y n0 G h k n (mkF m pc Ls (.int x :: S)) := by
  subst hp hv; exact stepG (fun T locs X _ _ q => XS.i2c X.here C.1 rfl (hb C.2.2.1 hd) rfl q) g
theorem idiv (C : Cx p s m meth c Z n0 own bytes ml ret) {x y z : Int32} (hd : decode bytes pc = .ok (.idiv, 1)) (hp : pc + 1 = pc') (hy : y ≠ 0) (hv : x / y = z)
    (g : Go p l e R s m args below meth c Y n0 G h k n (mkF m pc' Ls (.int z :: S))) : Go p l e R s m args below meth c Y n0 G h k n (mkF m pc Ls (.int y :: .int x :: S)) := by
  subst hp hv; exact stepG (fun T locs X _ _ q => XS.idiv X.here C.1 rfl (hb C.2.2.1 hd) rfl hy q) g
theorem ldiv (C : Cx p s m meth c Z n0 own bytes ml ret) {x y z : Int64} (hd : decode bytes pc = .ok (.ldiv, 1)) (hp : pc + 1 = pc') (hy : y ≠ 0) (hv : x / y = z)
    (g : Go p l e R s m args below meth c Y n0 G h k n (mkF m pc' Ls (.long z :: S))) : Go p l e R s m args below meth c Y n0 G h k n (mkF m pc Ls (.long y :: .long x :: S)) := by
  subst hp hv; exact stepG (fun T locs X _ _ q => XS.ldiv X.here C.1 rfl (hb C.2.2.1 hd) rfl hy q) g
theorem irem (C : Cx p s m meth c Z n0 own bytes ml ret) {x y z : Int32} (hd : decode bytes pc = .ok (.irem, 1)) (hp : pc + 1 = pc') (hy : y ≠ 0) (hv : x % y = z)
    (g : Go p l e R s m args below meth c Y n0 G h k n (mkF m pc' Ls (.int z :: S))) : Go p l e R s m args below meth c Y n0 G h k n (mkF m pc Ls (.int y :: .int x :: S)) := by
  subst hp; rw [← irem_eq_mod x y] at hv; subst hv; exact stepG (fun T locs X _ _ q => XS.irem X.here C.1 rfl (hb C.2.2.1 hd) rfl hy q) g
theorem lrem (C : Cx p s m meth c Z n0 own bytes ml ret) {x y z : Int64} (hd : decode bytes pc = .ok (.lrem, 1)) (hp : pc + 1 = pc') (hy : y ≠ 0) (hv : x % y = z)
    (g : Go p l e R s m args below meth c Y n0 G h k n (mkF m pc' Ls (.long z :: S))) : Go p l e R s m args below meth c Y n0 G h k n (mkF m pc Ls (.long y :: .long x :: S)) := by
  subst hp; rw [← lrem_mod x y] at hv; subst hv; exact stepG (fun T locs X _ _ q => XS.lrem X.here C.1 rfl (hb C.2.2.1 hd) rfl hy q) g
theorem iinc (C : Cx p s m meth c Z n0 own bytes ml ret) {i : Nat} {cst : Int} {x z : Int32} (hd : decode bytes pc = .ok (.iinc i cst, 3)) (hp : pc + 3 = pc') (hl : Ls[i]? = some (.val (.int x))) (hv : x + Int32.ofInt cst = z) (hl' : storeLocals Ls i (.int z) = some Ls')
    (g : Go p l e R s m args below meth c Y n0 G h k n (mkF m pc' Ls' S)) : Go p l e R s m args below meth c Y n0 G h k n (mkF m pc Ls S) := by
  subst hp hv; exact stepG (fun T locs X _ _ q => XS.iinc X.here C.1 rfl (hb C.2.2.1 hd) hl hl' q) g
theorem dup (C : Cx p s m meth c Z n0 own bytes ml ret) {x : Value} (hd : decode bytes pc = .ok (.dup, 1)) (hp : pc + 1 = pc') (hc : x.category = 1)
    (g : Go p l e R s m args below meth c Y n0 G h k n (mkF m pc' Ls (x :: x :: S))) : Go p l e R s m args below meth c Y n0 G h k n (mkF m pc Ls (x :: S)) := by
  subst hp; exact stepG (fun T locs X _ _ q => XS.dup X.here C.1 rfl (hb C.2.2.1 hd) rfl hc q) g
theorem dup_x1 (C : Cx p s m meth c Z n0 own bytes ml ret) {x y : Value} (hd : decode bytes pc = .ok (.dup_x1, 1)) (hp : pc + 1 = pc') (hc : x.category = 1) (hc2 : y.category = 1)
    (g : Go p l e R s m args below meth c Y n0 G h k n (mkF m pc' Ls (x :: y :: x :: S))) : Go p l e R s m args below meth c Y n0 G h k n (mkF m pc Ls (x :: y :: S)) := by
  subst hp; exact stepG (fun T locs X _ _ q => XS.dupX1 X.here C.1 rfl (hb C.2.2.1 hd) rfl hc hc2 q) g
theorem dup2L (C : Cx p s m meth c Z n0 own bytes ml ret) {x : Int64} (hd : decode bytes pc = .ok (.dup2, 1)) (hp : pc + 1 = pc')
    (g : Go p l e R s m args below meth c Y n0 G h k n (mkF m pc' Ls (.long x :: .long x :: S))) : Go p l e R s m args below meth c Y n0 G h k n (mkF m pc Ls (.long x :: S)) := by
  subst hp; exact stepG (fun T locs X _ _ q => Jvm.Free.XT.dup2L X.here C.1 rfl (hb C.2.2.1 hd) rfl q) g
theorem dup2 (C : Cx p s m meth c Z n0 own bytes ml ret) {x y : Value} (hd : decode bytes pc = .ok (.dup2, 1)) (hp : pc + 1 = pc') (hc : x.category = 1) (hc2 : y.category = 1)
    (g : Go p l e R s m args below meth c Y n0 G h k n (mkF m pc' Ls (x :: y :: x :: y :: S))) : Go p l e R s m args below meth c Y n0 G h k n (mkF m pc Ls (x :: y :: S)) := by
  subst hp; exact stepG (fun T locs X _ _ q => Jvm.Free.XT.dup2 X.here C.1 rfl (hb C.2.2.1 hd) rfl hc hc2 q) g
theorem pop (C : Cx p s m meth c Z n0 own bytes ml ret) {x : Value} (hd : decode bytes pc = .ok (.pop, 1)) (hp : pc + 1 = pc') (hc : x.category = 1)
    (g : Go p l e R s m args below meth c Y n0 G h k n (mkF m pc' Ls S)) : Go p l e R s m args below meth c Y n0 G h k n (mkF m pc Ls (x :: S)) := by
  subst hp; exact stepG (fun T locs X _ _ q => XS.pop X.here C.1 rfl (hb C.2.2.1 hd) rfl hc q) g
theorem goto (C : Cx p s m meth c Z n0 own bytes ml ret) {o : Int} (hd : decode bytes pc = .ok (.goto o, 3)) (ho : 0 ≤ (pc : Int) + o) (hp : ((pc : Int) + o).toNat = pc')
    (g : Go p l e R s m args below meth c Y n0 G h k n (mkF m pc' Ls S)) : Go p l e R s m args below meth c Y n0 G h k n (mkF m pc Ls S) := by
  exact stepG (fun T locs X _ _ q => XS.goto X.here C.1 rfl (pc0 := pc) rfl (hb C.2.2.1 hd) ho hp q) g

/-! branches: P: taken, P': not taken -/
theorem icmp (C : Cx p s m meth c Z n0 own bytes ml ret) {cd : ClassFile.Cond} {o : Int} {x y : Int32} (hd : decode bytes pc = .ok (.if_icmp cd o, 3)) (ho : 0 ≤ (pc : Int) + o) (hp : ((pc : Int) + o).toNat = pc') (hn : pc + 3 = pn)
    {P P' : Prop} (q : (P → if_icmp.holds cd x y = true) ∧ (P' → if_icmp.holds cd x y = false) ∧ (P ∨ P'))
    (g1 : P → Go p l e R s m args below meth c Y n0 G h k n (mkF m pc' Ls S)) (g2 : P' → Go p l e R s m args below meth c Y n0 G h k n (mkF m pn Ls S)) : Go p l e R s m args below meth c Y n0 G h k n (mkF m pc Ls (.int y :: .int x :: S)) := by
  rcases q.2.2 with hP | hP
  · exact stepG (fun T locs X _ _ z => XS.icmpYes X.here C.1 rfl (pc0 := pc) rfl (hb C.2.2.1 hd) rfl (q.1 hP) ho hp z) (g1 hP)
  · subst hn; exact stepG (fun T locs X _ _ z => XS.icmpNo X.here C.1 rfl (hb C.2.2.1 hd) rfl (q.2.1 hP) z) (g2 hP)
theorem ifc (C : Cx p s m meth c Z n0 own bytes ml ret) {cd : ClassFile.Cond} {o : Int} {x : Int32} (hd : decode bytes pc = .ok (.ifCond cd o, 3)) (ho : 0 ≤ (pc : Int) + o) (hp : ((pc : Int) + o).toNat = pc') (hn : pc + 3 = pn)
    {P P' : Prop} (q : (P → if_icmp.holds cd x 0 = true) ∧ (P' → if_icmp.holds cd x 0 = false) ∧ (P ∨ P'))
    (g1 : P → Go p l e R s m args below meth c Y n0 G h k n (mkF m pc' Ls S)) (g2 : P' → Go p l e R s m args below meth c Y n0 G h k n (mkF m pn Ls S)) : Go p l e R s m args below meth c Y n0 G h k n (mkF m pc Ls (.int x :: S)) := by
  rcases q.2.2 with hP | hP
  · exact stepG (fun T locs X _ _ z => XS.ifYes X.here C.1 rfl (pc0 := pc) rfl (hb C.2.2.1 hd) rfl ((if0 _ _).trans (q.1 hP)) ho hp z) (g1 hP)
  · subst hn; exact stepG (fun T locs X _ _ z => XS.ifNo X.here C.1 rfl (hb C.2.2.1 hd) rfl ((if0 _ _).trans (q.2.1 hP)) z) (g2 hP)
/-- lcmp and the branch behind it -/
theorem lcif (C : Cx p s m meth c Z n0 own bytes ml ret) {cd : ClassFile.Cond} {o : Int} {x y : Int64} {pm : Nat} (hd0 : decode bytes pc = .ok (.lcmp, 1)) (hm : pc + 1 = pm) (hd : decode bytes pm = .ok (.ifCond cd o, 3)) (ho : 0 ≤ (pm : Int) + o) (hp : ((pm : Int) + o).toNat = pc') (hn : pm + 3 = pn)
    {P P' : Prop} (q : (P → if_icmp.holds cd (lcmpW x y) 0 = true) ∧ (P' → if_icmp.holds cd (lcmpW x y) 0 = false) ∧ (P ∨ P'))
    (g1 : P → Go p l e R s m args below meth c Y n0 G h k n (mkF m pc' Ls S)) (g2 : P' → Go p l e R s m args below meth c Y n0 G h k n (mkF m pn Ls S)) : Go p l e R s m args below meth c Y n0 G h k n (mkF m pc Ls (.long y :: .long x :: S)) := by
  subst hm
  exact stepG (fun T locs X _ _ z => XS.lcmp X.here C.1 rfl (hb C.2.2.1 hd0) rfl z) (ifc C hd ho hp hn q g1 g2)
theorem q_lt (x y : Int32) : (x.toInt < y.toInt → if_icmp.holds .lt x y = true) ∧ (y.toInt ≤ x.toInt → if_icmp.holds .lt x y = false) ∧ (x.toInt < y.toInt ∨ y.toInt ≤ x.toInt) :=
  ⟨fun q => (tlt (Int32.lt_iff_toInt_lt.mpr q)).1, fun q => (flt (fun w => absurd (Int32.lt_iff_toInt_lt.mp w) (Int.not_lt.mpr q))).1, Int.lt_or_le _ _⟩
theorem q_ge (x y : Int32) : (y.toInt ≤ x.toInt → if_icmp.holds .ge x y = true) ∧ (x.toInt < y.toInt → if_icmp.holds .ge x y = false) ∧ (y.toInt ≤ x.toInt ∨ x.toInt < y.toInt) :=
  ⟨fun q => (flt (fun w => absurd (Int32.lt_iff_toInt_lt.mp w) (Int.not_lt.mpr q))).2.1, fun q => (tlt (Int32.lt_iff_toInt_lt.mpr q)).2.1, (Int.lt_or_le _ _).symm⟩
theorem q_gt (x y : Int32) : (y.toInt < x.toInt → if_icmp.holds .gt x y = true) ∧ (x.toInt ≤ y.toInt → if_icmp.holds .gt x y = false) ∧ (y.toInt < x.toInt ∨ x.toInt ≤ y.toInt) :=
  ⟨fun q => (tlt (Int32.lt_iff_toInt_lt.mpr q)).2.2.1, fun q => (flt (fun w => absurd (Int32.lt_iff_toInt_lt.mp w) (Int.not_lt.mpr q))).2.2.1, Int.lt_or_le _ _⟩
theorem q_le (x y : Int32) : (x.toInt ≤ y.toInt → if_icmp.holds .le x y = true) ∧ (y.toInt < x.toInt → if_icmp.holds .le x y = false) ∧ (x.toInt ≤ y.toInt ∨ y.toInt < x.toInt) :=
  ⟨fun q => (flt (fun w => absurd (Int32.lt_iff_toInt_lt.mp w) (Int.not_lt.mpr q))).2.2.2, fun q => (tlt (Int32.lt_iff_toInt_lt.mpr q)).2.2.2, (Int.lt_or_le _ _).symm⟩
theorem q_eq (x y : Int32) : (x = y → if_icmp.holds .eq x y = true) ∧ (¬ x = y → if_icmp.holds .eq x y = false) ∧ (x = y ∨ ¬ x = y) := ⟨fun q => (teq q).1, fun q => (feq q).1, Classical.em _⟩
theorem q_ne (x y : Int32) : (¬ x = y → if_icmp.holds .ne x y = true) ∧ (x = y → if_icmp.holds .ne x y = false) ∧ (¬ x = y ∨ x = y) := ⟨fun q => (feq q).2, fun q => (teq q).2, (Classical.em _).symm⟩
theorem ql_lt (x y : Int64) : (x.toInt < y.toInt → if_icmp.holds .lt (lcmpW x y) 0 = true) ∧ (y.toInt ≤ x.toInt → if_icmp.holds .lt (lcmpW x y) 0 = false) ∧ (x.toInt < y.toInt ∨ y.toInt ≤ x.toInt) :=
  ⟨fun q => (tlt ((lw_lt x y).mpr (Int64.lt_iff_toInt_lt.mpr q))).1, fun q => (flt (fun w => absurd (Int64.lt_iff_toInt_lt.mp ((lw_lt x y).mp w)) (Int.not_lt.mpr q))).1, Int.lt_or_le _ _⟩
theorem ql_ge (x y : Int64) : (y.toInt ≤ x.toInt → if_icmp.holds .ge (lcmpW x y) 0 = true) ∧ (x.toInt < y.toInt → if_icmp.holds .ge (lcmpW x y) 0 = false) ∧ (y.toInt ≤ x.toInt ∨ x.toInt < y.toInt) :=
  ⟨fun q => (flt (fun w => absurd (Int64.lt_iff_toInt_lt.mp ((lw_lt x y).mp w)) (Int.not_lt.mpr q))).2.1, fun q => (tlt ((lw_lt x y).mpr (Int64.lt_iff_toInt_lt.mpr q))).2.1, (Int.lt_or_le _ _).symm⟩
theorem ql_gt (x y : Int64) : (y.toInt < x.toInt → if_icmp.holds .gt (lcmpW x y) 0 = true) ∧ (x.toInt ≤ y.toInt → if_icmp.holds .gt (lcmpW x y) 0 = false) ∧ (y.toInt < x.toInt ∨ x.toInt ≤ y.toInt) :=
  ⟨fun q => (tlt ((lw_gt x y).mpr (Int64.lt_iff_toInt_lt.mpr q))).2.2.1, fun q => (flt (fun w => absurd (Int64.lt_iff_toInt_lt.mp ((lw_gt x y).mp w)) (Int.not_lt.mpr q))).2.2.1, Int.lt_or_le _ _⟩
theorem ql_le (x y : Int64) : (x.toInt ≤ y.toInt → if_icmp.holds .le (lcmpW x y) 0 = true) ∧ (y.toInt < x.toInt → if_icmp.holds .le (lcmpW x y) 0 = false) ∧ (x.toInt ≤ y.toInt ∨ y.toInt < x.toInt) :=
  ⟨fun q => (flt (fun w => absurd (Int64.lt_iff_toInt_lt.mp ((lw_gt x y).mp w)) (Int.not_lt.mpr q))).2.2.2, fun q => (tlt ((lw_gt x y).mpr (Int64.lt_iff_toInt_lt.mpr q))).2.2.2, (Int.lt_or_le _ _).symm⟩
theorem ql_eq (x y : Int64) : (x = y → if_icmp.holds .eq (lcmpW x y) 0 = true) ∧ (¬ x = y → if_icmp.holds .eq (lcmpW x y) 0 = false) ∧ (x = y ∨ ¬ x = y) := ⟨fun q => (teq ((lw_eq x y).mpr q)).1, fun q => (feq (fun w => q ((lw_eq x y).mp w))).1, Classical.em _⟩
theorem ql_ne (x y : Int64) : (¬ x = y → if_icmp.holds .ne (lcmpW x y) 0 = true) ∧ (x = y → if_icmp.holds .ne (lcmpW x y) 0 = false) ∧ (¬ x = y ∨ x = y) := ⟨fun q => (feq (fun w => q ((lw_eq x y).mp w))).2, fun q => (teq ((lw_eq x y).mpr q)).2, (Classical.em _).symm⟩

theorem acmp (C : Cx p s m meth c Z n0 own bytes ml ret) {cd : ACond} {o : Int} {x y : Value} (h1 : x.isRef = true) (h2 : y.isRef = true) (hd : decode bytes pc = .ok (.if_acmp cd o, 3)) (ho : 0 ≤ (pc : Int) + o) (hp : ((pc : Int) + o).toNat = pc') (hn : pc + 3 = pn)
    {P P' : Prop} (q : (P → acV cd (decide (x = y)) = true) ∧ (P' → acV cd (decide (x = y)) = false) ∧ (P ∨ P'))
    (g1 : P → Go p l e R s m args below meth c Y n0 G h k n (mkF m pc' Ls S)) (g2 : P' → Go p l e R s m args below meth c Y n0 G h k n (mkF m pn Ls S)) : Go p l e R s m args below meth c Y n0 G h k n (mkF m pc Ls (y :: x :: S)) := by
  rcases q.2.2 with hP | hP
  · exact stepG (fun T locs X _ _ z => Jvm.RoadKit.acmp (g := mkF m pc Ls (y :: x :: S)) X C.1 rfl h1 h2 (pc0 := pc) (pc' := pc') (same := decide (x = y)) rfl (hb C.2.2.1 hd) rfl rfl ho (by rw [q.1 hP]; exact hp.symm) z) (g1 hP)
  · exact stepG (fun T locs X _ _ z => Jvm.RoadKit.acmp (g := mkF m pc Ls (y :: x :: S)) X C.1 rfl h1 h2 (pc0 := pc) (pc' := pn) (same := decide (x = y)) rfl (hb C.2.2.1 hd) rfl rfl ho (by rw [q.2.1 hP]; exact hn.symm) z) (g2 hP)
theorem qa_eq (a b : Addr) : (a = b → acV .eq (decide (Value.ref a = Value.ref b)) = true) ∧ (¬ a = b → acV .eq (decide (Value.ref a = Value.ref b)) = false) ∧ (a = b ∨ ¬ a = b) :=
  ⟨fun q => decide_eq_true (congrArg Value.ref q), fun q => decide_eq_false fun z => q (Value.ref.inj z), Classical.em _⟩
theorem qa_ne (a b : Addr) : (¬ a = b → acV .ne (decide (Value.ref a = Value.ref b)) = true) ∧ (a = b → acV .ne (decide (Value.ref a = Value.ref b)) = false) ∧ (¬ a = b ∨ a = b) :=
  ⟨fun q => by rw [decide_eq_false fun z => q (Value.ref.inj z)]; rfl, fun q => by rw [decide_eq_true (congrArg Value.ref q)]; rfl, (Classical.em _).symm⟩
theorem ifnullT (C : Cx p s m meth c Z n0 own bytes ml ret) {o : Int} (hd : decode bytes pc = .ok (.ifnull o, 3)) (ho : 0 ≤ (pc : Int) + o) (hp : ((pc : Int) + o).toNat = pc')
    (g : Go p l e R s m args below meth c Y n0 G h k n (mkF m pc' Ls S)) : Go p l e R s m args below meth c Y n0 G h k n (mkF m pc Ls (.null :: S)) := stepG (fun T locs X _ _ z => XS.ifnullYes X.here C.1 rfl (pc0 := pc) rfl (hb C.2.2.1 hd) rfl ho hp z) g
theorem ifnullF (C : Cx p s m meth c Z n0 own bytes ml ret) {o : Int} {a : Addr} (hd : decode bytes pc = .ok (.ifnull o, 3)) (hp : pc + 3 = pc')
    (g : Go p l e R s m args below meth c Y n0 G h k n (mkF m pc' Ls S)) : Go p l e R s m args below meth c Y n0 G h k n (mkF m pc Ls (.ref a :: S)) := by subst hp; exact stepG (fun T locs X _ _ z => XS.ifnullNo X.here C.1 rfl (hb C.2.2.1 hd) rfl z) g
theorem ifnonnullT (C : Cx p s m meth c Z n0 own bytes ml ret) {o : Int} {a : Addr} (hd : decode bytes pc = .ok (.ifnonnull o, 3)) (ho : 0 ≤ (pc : Int) + o) (hp : ((pc : Int) + o).toNat = pc')
    (g : Go p l e R s m args below meth c Y n0 G h k n (mkF m pc' Ls S)) : Go p l e R s m args below meth c Y n0 G h k n (mkF m pc Ls (.ref a :: S)) := stepG (fun T locs X _ _ z => XS.ifnonnullYes X.here C.1 rfl (pc0 := pc) rfl (hb C.2.2.1 hd) rfl ho hp z) g
theorem ifnonnullF (C : Cx p s m meth c Z n0 own bytes ml ret) {o : Int} (hd : decode bytes pc = .ok (.ifnonnull o, 3)) (hp : pc + 3 = pc')
    (g : Go p l e R s m args below meth c Y n0 G h k n (mkF m pc' Ls S)) : Go p l e R s m args below meth c Y n0 G h k n (mkF m pc Ls (.null :: S)) := by subst hp; exact stepG (fun T locs X _ _ z => XS.ifnonnullNo X.here C.1 rfl (hb C.2.2.1 hd) rfl z) g

/-! returns -/
theorem retZ {t : FieldType} (C : Cx p s m meth c Z n0 own bytes ml (some t)) {z w : Int32} (ht : t = .boolean ∨ t = .byte ∨ t = .char ∨ t = .short) (hd : decode bytes pc = .ok (.ireturn, 1)) (hv : nar t z = w) (hk : k ≤ K) (hn : n ≤ N) (hY : ∀ s₂ o L, s₂.heap = h → FrameEnd s o s₂ L K N → Y s₂ o L) (g : G (some (.int w)) h) :
    Go p l e R s m args below meth c Y n0 G h k n (mkF m pc Ls (.int z :: S)) := fun T ⟨locs, F, X, eT⟩ => by
  subst hv eT
  have hlk : meth.locks = false := C.2.2.2.2.2.2.1
  obtain ⟨fs, hr, hrun, hended, hW, hsame⟩ := X.leave (v := some (.int (nar t z))) (fun q => by rw [C.2.2.2.2.2.1] at q; cases q) hlk
  exact ⟨_, _, retN X C.1 (t := t) C.2.2.2.2.2.1 ht (hb C.2.2.1 hd) hr, hrun, hended, _, _, rfl, ⟨g, F⟩, hY _ _ _ rfl ⟨⟨_, rfl⟩, hW, hsame.mono hk hn⟩⟩
theorem retV {t : FieldType} (C : Cx p s m meth c Z n0 own bytes ml (some t)) {w : Value} {i : Instr} (hv : narrow t w = w)
    (hi : (i = .ireturn ∧ (t = .int ∨ t = .boolean ∨ t = .byte ∨ t = .char ∨ t = .short) ∧ ∃ z, w = .int z) ∨ (i = .lreturn ∧ t = .long ∧ ∃ z, w = .long z) ∨ (i = .dreturn ∧ t = .double ∧ ∃ z, w = .double z) ∨ (i = .freturn ∧ t = .float ∧ ∃ z, w = .float z) ∨ (i = .areturn ∧ t.isReference = true ∧ w.isRef = true))
    (hd : decode bytes pc = .ok (i, 1)) (hk : k ≤ K) (hn : n ≤ N) (hY : ∀ s₂ o L, s₂.heap = h → FrameEnd s o s₂ L K N → Y s₂ o L) (g : G (some w) h) :
    Go p l e R s m args below meth c Y n0 G h k n (mkF m pc Ls (w :: S)) := fun T ⟨locs, F, X, eT⟩ => by
  subst eT
  have hlk : meth.locks = false := C.2.2.2.2.2.2.1
  obtain ⟨fs, hr, hrun, hended, hW, hsame⟩ := X.leave (v := some w) (fun q => by rw [C.2.2.2.2.2.1] at q; cases q) hlk
  exact ⟨_, _, retOut X C.1 (t := t) C.2.2.2.2.2.1 hv hi (hb C.2.2.1 hd) hr, hrun, hended, _, _, rfl, ⟨g, F⟩, hY _ _ _ rfl ⟨⟨_, rfl⟩, hW, hsame.mono hk hn⟩⟩
theorem retI (C : Cx p s m meth c Z n0 own bytes ml (some .int)) {z : Int32} (hd : decode bytes pc = .ok (.ireturn, 1)) (hk : k ≤ K) (hn : n ≤ N) (hY : ∀ s₂ o L, s₂.heap = h → FrameEnd s o s₂ L K N → Y s₂ o L) (g : G (some (.int z)) h) :
    Go p l e R s m args below meth c Y n0 G h k n (mkF m pc Ls (.int z :: S)) := retV C rfl (Or.inl ⟨rfl, Or.inl rfl, _, rfl⟩) hd hk hn hY g
theorem retL (C : Cx p s m meth c Z n0 own bytes ml (some .long)) {z : Int64} (hd : decode bytes pc = .ok (.lreturn, 1)) (hk : k ≤ K) (hn : n ≤ N) (hY : ∀ s₂ o L, s₂.heap = h → FrameEnd s o s₂ L K N → Y s₂ o L) (g : G (some (.long z)) h) :
    Go p l e R s m args below meth c Y n0 G h k n (mkF m pc Ls (.long z :: S)) := retV C rfl (Or.inr (Or.inl ⟨rfl, rfl, _, rfl⟩)) hd hk hn hY g
theorem retA {t : FieldType} (C : Cx p s m meth c Z n0 own bytes ml (some t)) {w : Value} (ht : t.isReference = true) (hw : w.isRef = true) (hn' : narrow t w = w) (hd : decode bytes pc = .ok (.areturn, 1)) (hk : k ≤ K) (hn : n ≤ N) (hY : ∀ s₂ o L, s₂.heap = h → FrameEnd s o s₂ L K N → Y s₂ o L) (g : G (some w) h) :
    Go p l e R s m args below meth c Y n0 G h k n (mkF m pc Ls (w :: S)) := retV C hn' (Or.inr (Or.inr (Or.inr (Or.inr ⟨rfl, ht, hw⟩)))) hd hk hn hY g
theorem ret0 (C : Cx p s m meth c Z n0 own bytes ml none) (hd : decode bytes pc = .ok (.return_, 1)) (hk : k ≤ K) (hn : n ≤ N) (hY : ∀ s₂ o L, s₂.heap = h → FrameEnd s o s₂ L K N → Y s₂ o L) (g : G none h) :
    Go p l e R s m args below meth c Y n0 G h k n (mkF m pc Ls []) := fun T ⟨locs, F, X, eT⟩ => by
  subst eT
  have hlk : meth.locks = false := C.2.2.2.2.2.2.1
  obtain ⟨fs, hr, hrun, hended, hW, hsame⟩ := X.leave (v := none) (fun _ => rfl) hlk
  exact ⟨_, _, X.returnOut C.1 C.2.2.2.2.2.1 (hb C.2.2.1 hd) hr, hrun, hended, _, _, rfl, ⟨g, F⟩, hY _ _ _ rfl ⟨⟨_, rfl⟩, hW, hsame.mono hk hn⟩⟩

theorem hz (C : Cx p s m meth c Z n0 own bytes ml ret) {T : State} {locs : List Loc} (X : Stand p l e R s m args below meth c T locs k n) (eT : T.heap = h) : n0 ≤ h.size := eT ▸ Nat.le_trans C.2.2.2.2.2.2.2 X.same.2.1
/-! calls -/
theorem callS (C : Cx p s m meth c Z n0 own bytes ml ret) {i : Nat} {y : MethodName} {b' : ByteArray} {mL : Nat} {r' : Option FieldType} {rm : Room} {Gc : Option Value → Heap → Prop} {argsL rest : List Value} {W : Nat}
    (w1 : (Cond.methodLink own i y).before a0 Z = true) (w2 : (Cond.static y).before a0 Z = true) (w3 : (Cond.initialized y.cls).before a0 Z = true) (w4 : (Cond.code y b' mL r').before a0 Z = true)
    (hy : y.cls ≠ "java/lang/invoke/MethodHandle" ∧ y.cls ≠ "java/lang/invoke/VarHandle") (con : n0 ≤ h.size → Con l Z y b' mL r' [] rm rm.cells rm.slots argsL.toArray h n0 Gc)
    (hd : decode bytes pc = .ok (.invokestatic i, 3)) (hp : pc + 3 = pc') (hsz : Ls.size = ml) {ps : List FieldType} {rr : Option FieldType} (hds : parseMethodDescriptor y.desc = some ⟨ps, rr⟩) (hlen : argsL.length = ps.length)
    (hS : S = argsL.reverse ++ rest) (hW : (rest.map fun v => v.category).sum = W) (hf : rm.frames + 1 ≤ R.frames) (hl : W + (mL + 11) + rm.locals ≤ R.locals) (hc : k + rm.cells ≤ R.cells) (hs : n + rm.slots ≤ R.slots) {k' n' : Nat} (hk' : k + rm.cells = k') (hn' : n + rm.slots = n')
    (g : ∀ h' v, Gc v h' → Go p l e R s m args below meth c Y n0 G h' k' n' (mkF m pc' Ls (v.toList ++ rest))) :
    Go p l e R s m args below meth c Y n0 G h k n (mkF m pc Ls S) := fun T ⟨locs, F, X, eT⟩ => by
  subst hp hS hk' hn'
  obtain ⟨v, _, ⟨T', L', k', n'⟩, -, X', ⟨Lc, ⟨hQ, hF⟩, l1, y1, z1⟩, st⟩ := Jvm.LawKit.callS X C.1 C.2.2.2.2.1 (mvT C.2.1 w1) (mvT C.2.1 w2) (mvT C.2.1 w3) (mvT C.2.1 w4) hy
    (backOf (W := W) (Q := fun v h L => Gc v h ∧ Fr n0 L) (con (hz C X eT)) C.2.1 w4 w3 hf hl) (g := mkF m pc Ls (argsL.reverse ++ rest)) rfl (hsz.trans C.2.2.2.1.symm) (argsL := argsL) (rest := rest) (lenOf hds hlen) rfl (by show 2 * 0 + _ ≤ _; rw [Nat.mul_zero, Nat.zero_add]; exact Nat.le_of_eq hW) (hb C.2.2.1 hd) (fun _ _ => ⟨rfl, eT, hc, hs⟩)
  dsimp only [Pt.U, Pt.locs, Pt.cells, Pt.slots] at X' l1 y1 z1 st hQ
  subst l1 y1 z1
  exact step (fun t q => st t q) (g T'.heap v hQ T' ⟨_, Fr.app F hF, X', rfl⟩)
theorem callSp (C : Cx p s m meth c Z n0 own bytes ml ret) {i : Nat} {y : MethodName} {b' : ByteArray} {mL : Nat} {rm : Room} {Gc : Option Value → Heap → Prop} {a : Addr} {argsL rest : List Value} {W : Nat} (hy1 : y.name = "<init>")
    (w1 : (Cond.methodLink own i y).before a0 Z = true) (w2 : (Cond.instanceMethod y).before a0 Z = true) (w3 : (Cond.initialized y.cls).before a0 Z = true) (w4 : (Cond.code y b' mL none).before a0 Z = true)
    (hy : y.cls ≠ "java/lang/invoke/MethodHandle" ∧ y.cls ≠ "java/lang/invoke/VarHandle") (con : n0 ≤ h.size → Con l Z y b' mL none [] rm rm.cells rm.slots (.ref a :: argsL).toArray h n0 Gc)
    (hd : decode bytes pc = .ok (.invokespecial i, 3)) (hp : pc + 3 = pc') (hsz : Ls.size = ml) {ps : List FieldType} {rr : Option FieldType} (hds : parseMethodDescriptor y.desc = some ⟨ps, rr⟩) (hlen : argsL.length = ps.length)
    (hS : S = argsL.reverse ++ .ref a :: rest) (hW : (rest.map fun v => v.category).sum = W) (hf : rm.frames + 1 ≤ R.frames) (hl : W + (mL + 11) + rm.locals ≤ R.locals) (hc : k + rm.cells ≤ R.cells) (hs : n + rm.slots ≤ R.slots) {k' n' : Nat} (hk' : k + rm.cells = k') (hn' : n + rm.slots = n')
    (g : ∀ h' v, Gc v h' → Go p l e R s m args below meth c Y n0 G h' k' n' (mkF m pc' Ls (v.toList ++ rest))) :
    Go p l e R s m args below meth c Y n0 G h k n (mkF m pc Ls S) := fun T ⟨locs, F, X, eT⟩ => by
  subst hp hS hk' hn'
  obtain ⟨v, _, ⟨T', L', k', n'⟩, -, X', ⟨Lc, ⟨hQ, hF⟩, l1, y1, z1⟩, st⟩ := X.specialBack C.1 hy1 C.2.2.2.2.1 (mvT C.2.1 w1) (mvT C.2.1 w2) (mvT C.2.1 w4) hy
    (backOf (W := W) (Q := fun v h L => Gc v h ∧ Fr n0 L) (con (hz C X eT)) C.2.1 w4 w3 hf hl) (g := mkF m pc Ls (argsL.reverse ++ .ref a :: rest)) rfl (hsz.trans C.2.2.2.1.symm) (Steps.refl _) (a := a) (argsL := argsL) (rest := rest) (lenOf hds hlen) rfl (by show 2 * 0 + _ ≤ _; rw [Nat.mul_zero, Nat.zero_add]; exact Nat.le_of_eq hW) (hb C.2.2.1 hd) (fun _ _ => ⟨rfl, eT, hc, hs⟩)
  dsimp only [Pt.U, Pt.locs, Pt.cells, Pt.slots] at X' l1 y1 z1 st hQ
  subst l1 y1 z1
  exact step (fun t q => st.trans q) (g T'.heap v hQ T' ⟨_, Fr.app F hF, X', rfl⟩)
theorem callV (C : Cx p s m meth c Z n0 own bytes ml ret) {i : Nat} {y z : MethodName} {b' : ByteArray} {mL : Nat} {r' : Option FieldType} {rm : Room} {Gc : Option Value → Heap → Prop} {a : Addr} {argsL rest : List Value} {W : Nat} {Cn : String}
    (w1 : (Cond.methodLink own i y).before a0 Z = true) (w2 : (Cond.declares y).before a0 Z = true) (hnf : NotFace s y) (w5 : (Cond.selects Cn y z).before a0 Z = true) (w6 : (Cond.instanceMethod z).before a0 Z = true) (w3 : (Cond.initialized z.cls).before a0 Z = true) (w4 : (Cond.code z b' mL r').before a0 Z = true)
    (hy : y.cls ≠ "java/lang/invoke/MethodHandle" ∧ y.cls ≠ "java/lang/invoke/VarHandle") (E : Exa Z h a Cn) (con : n0 ≤ h.size → Con l Z z b' mL r' [] rm rm.cells rm.slots (.ref a :: argsL).toArray h n0 Gc)
    (hd : decode bytes pc = .ok (.invokevirtual i, 3)) (hp : pc + 3 = pc') (hsz : Ls.size = ml) {ps : List FieldType} {rr : Option FieldType} (hds : parseMethodDescriptor y.desc = some ⟨ps, rr⟩) (hlen : argsL.length = ps.length)
    (hS : S = argsL.reverse ++ .ref a :: rest) (hW : (rest.map fun v => v.category).sum = W) (hf : rm.frames + 1 ≤ R.frames) (hl : W + (mL + 11) + rm.locals ≤ R.locals) (hc : k + rm.cells ≤ R.cells) (hs : n + rm.slots ≤ R.slots) {k' n' : Nat} (hk' : k + rm.cells = k') (hn' : n + rm.slots = n')
    (g : ∀ h' v, Gc v h' → Go p l e R s m args below meth c Y n0 G h' k' n' (mkF m pc' Ls (v.toList ++ rest))) :
    Go p l e R s m args below meth c Y n0 G h k n (mkF m pc Ls S) := fun T ⟨locs, F, X, eT⟩ => by
  subst hp hS hk' hn'
  obtain ⟨cq, kq, qa, qb, qc⟩ := isOf C.2.1 eT E
  obtain ⟨v, _, ⟨T', L', k', n'⟩, -, X', ⟨Lc, ⟨hQ, hF⟩, l1, y1, z1⟩, st⟩ := X.virtualBack C.1 C.2.2.2.2.1 (mvT C.2.1 w1) (mvT C.2.1 w2) hnf (mvT C.2.1 w5) (mvT C.2.1 w6) hy
    (backOf (W := W) (Q := fun v h L => Gc v h ∧ Fr n0 L) (con (hz C X eT)) C.2.1 w4 w3 hf hl) qa qc (g := mkF m pc Ls (argsL.reverse ++ .ref a :: rest)) rfl (hsz.trans C.2.2.2.1.symm) (Steps.refl _) (argsL := argsL) (rest := rest) (lenOf hds hlen) rfl (by show 2 * 0 + _ ≤ _; rw [Nat.mul_zero, Nat.zero_add]; exact Nat.le_of_eq hW) (hb C.2.2.1 hd) (fun _ _ => ⟨rfl, eT, hc, hs⟩)
  dsimp only [Pt.U, Pt.locs, Pt.cells, Pt.slots] at X' l1 y1 z1 st hQ
  subst l1 y1 z1
  exact step (fun t q => st.trans q) (g T'.heap v hQ T' ⟨_, Fr.app F hF, X', rfl⟩)
theorem callI (C : Cx p s m meth c Z n0 own bytes ml ret) {i cnt : Nat} {y z : MethodName} {b' : ByteArray} {mL : Nat} {r' : Option FieldType} {rm : Room} {Gc : Option Value → Heap → Prop} {a : Addr} {argsL rest : List Value} {W : Nat} {Cn : String}
    (w1 : (Cond.methodLink own i y).before a0 Z = true) (w2 : (Cond.declares y).before a0 Z = true) (w7 : (Cond.interfaceMethod y.cls y.cls y.name y.desc).before a0 Z = true) (w5 : (Cond.selects Cn y z).before a0 Z = true) (w6 : (Cond.instanceMethod z).before a0 Z = true) (w8 : (Cond.publicMethod z).before a0 Z = true) (w9 : (Cond.unhidden Cn y.name y.desc).before a0 Z = true) (w10 : (Cond.castable Cn y.cls).before a0 Z = true)
    (w3 : (Cond.initialized z.cls).before a0 Z = true) (w4 : (Cond.code z b' mL r').before a0 Z = true)
    (hy : y.cls ≠ "java/lang/invoke/MethodHandle" ∧ y.cls ≠ "java/lang/invoke/VarHandle") (E : Exa Z h a Cn) (con : n0 ≤ h.size → Con l Z z b' mL r' [] rm rm.cells rm.slots (.ref a :: argsL).toArray h n0 Gc)
    (hd : decode bytes pc = .ok (.invokeinterface i cnt, 5)) (hp : pc + 5 = pc') (hsz : Ls.size = ml) {ps : List FieldType} {rr : Option FieldType} (hds : parseMethodDescriptor y.desc = some ⟨ps, rr⟩) (hlen : argsL.length = ps.length)
    (hS : S = argsL.reverse ++ .ref a :: rest) (hW : (rest.map fun v => v.category).sum = W) (hf : rm.frames + 1 ≤ R.frames) (hl : W + (mL + 11) + rm.locals ≤ R.locals) (hc : k + rm.cells ≤ R.cells) (hs : n + rm.slots ≤ R.slots) {k' n' : Nat} (hk' : k + rm.cells = k') (hn' : n + rm.slots = n')
    (g : ∀ h' v, Gc v h' → Go p l e R s m args below meth c Y n0 G h' k' n' (mkF m pc' Ls (v.toList ++ rest))) :
    Go p l e R s m args below meth c Y n0 G h k n (mkF m pc Ls S) := fun T ⟨locs, F, X, eT⟩ => by
  subst hp hS hk' hn'
  obtain ⟨cq, kq, qa, qb, qc⟩ := isOf C.2.1 eT E
  obtain ⟨v, _, ⟨T', L', k', n'⟩, -, X', ⟨Lc, ⟨hQ, hF⟩, l1, y1, z1⟩, st⟩ := X.interfaceBack C.1 C.2.2.2.2.1 (mvT C.2.1 w1) (mvT C.2.1 w2) (mvT C.2.1 w7 (by simp [Cond.onTables, Cond.keepsFace, Cond.keeps, Cond.steady, Cond.faceAtom, hy.1, hy.2])) (mvT C.2.1 w5) (mvT C.2.1 w6) (mvT C.2.1 w8) (mvT C.2.1 w9) (mvT C.2.1 w10) hy
    (backOf (W := W) (Q := fun v h L => Gc v h ∧ Fr n0 L) (con (hz C X eT)) C.2.1 w4 w3 hf hl) qa qb qc (g := mkF m pc Ls (argsL.reverse ++ .ref a :: rest)) rfl (hsz.trans C.2.2.2.1.symm) (Steps.refl _) (argsL := argsL) (rest := rest) (lenOf hds hlen) rfl (by show 2 * 0 + _ ≤ _; rw [Nat.mul_zero, Nat.zero_add]; exact Nat.le_of_eq hW) (hb C.2.2.1 hd) (fun _ _ => ⟨rfl, eT, hc, hs⟩)
  dsimp only [Pt.U, Pt.locs, Pt.cells, Pt.slots] at X' l1 y1 z1 st hQ
  subst l1 y1 z1
  exact step (fun t q => st.trans q) (g T'.heap v hQ T' ⟨_, Fr.app F hF, X', rfl⟩)
/-- a private method by invokevirtual: no 'selects' word is wanted; the class is instantiable -/
theorem callP (C : Cx p s m meth c Z n0 own bytes ml ret) {i q : Nat} {y : MethodName} {b' : ByteArray} {mL : Nat} {r' : Option FieldType} {rm : Room} {Gc : Option Value → Heap → Prop} {a : Addr} {argsL rest : List Value} {W : Nat} {Cn : String}
    (w1 : (Cond.methodLink own i y).before a0 Z = true) (w6 : (Cond.instanceMethod y).before a0 Z = true) (w7 : (Cond.privateMethod y).before a0 Z = true) (w8 : (Cond.instantiable y.cls q).before a0 Z = true) (w3 : (Cond.initialized y.cls).before a0 Z = true) (w4 : (Cond.code y b' mL r').before a0 Z = true)
    (hy : y.cls ≠ "java/lang/invoke/MethodHandle" ∧ y.cls ≠ "java/lang/invoke/VarHandle") (E : Exa Z h a Cn) (con : n0 ≤ h.size → Con l Z y b' mL r' [] rm rm.cells rm.slots (.ref a :: argsL).toArray h n0 Gc)
    (hd : decode bytes pc = .ok (.invokevirtual i, 3)) (hp : pc + 3 = pc') (hsz : Ls.size = ml) {ps : List FieldType} {rr : Option FieldType} (hds : parseMethodDescriptor y.desc = some ⟨ps, rr⟩) (hlen : argsL.length = ps.length)
    (hS : S = argsL.reverse ++ .ref a :: rest) (hW : (rest.map fun v => v.category).sum = W) (hf : rm.frames + 1 ≤ R.frames) (hl : W + (mL + 11) + rm.locals ≤ R.locals) (hc : k + rm.cells ≤ R.cells) (hs : n + rm.slots ≤ R.slots) {k' n' : Nat} (hk' : k + rm.cells = k') (hn' : n + rm.slots = n')
    (g : ∀ h' v, Gc v h' → Go p l e R s m args below meth c Y n0 G h' k' n' (mkF m pc' Ls (v.toList ++ rest))) :
    Go p l e R s m args below meth c Y n0 G h k n (mkF m pc Ls S) := fun T ⟨locs, F, X, eT⟩ => by
  subst hp hS hk' hn'
  obtain ⟨cell, hc1, hc2⟩ := E.cell
  obtain ⟨mk, methM, hnamed, hmethM, hstM, habM⟩ := Cond.instanceMethod_spec (mvT (args := args) C.2.1 w6)
  obtain ⟨methM', cM, hmethM', -, -, -, -, -, -, hsigM⟩ := Cond.code_spec hnamed (mvT (args := args) C.2.1 w4)
  cases hmethM.symm.trans hmethM'
  obtain ⟨cid, kP, z1, z2, z3, z4, -⟩ := Cond.instantiable_spec (mvT (args := args) C.2.1 w8)
  have z5 : cid = mk.cls := Option.some.inj (z1.symm.trans (findClass_of_methodNamed hnamed))
  subst z5
  have z6 : kP.isInterface = false := by simp only [Bool.or_eq_false_iff] at z4; exact z4.1
  obtain ⟨vm₁, X₁, hstep₁⟩ := X.invokevirtual C.1 C.2.2.2.2.1 (mvT C.2.1 w1) hnamed hmethM hstM z2 z6 hy (a := a) (cell := cell) (by rw [eT]; exact hc1) hc2 (selectMethod_private hmethM (Cond.privateMethod_at (mvP C.2.1 w7 (args := #[])) mk methM hnamed hmethM)) hmethM habM z2 z6 (g := mkF m pc Ls (argsL.reverse ++ .ref a :: rest)) rfl (argsL := argsL) (rest := rest) (lenOf hds hlen _ hsigM) rfl (hb C.2.2.1 hd)
  obtain ⟨v, ⟨T', L', k', n'⟩, X', ⟨Lc, ⟨hQ, hF⟩, l1, y1, z1⟩, hsteps⟩ := (backOf (W := W) (len := 3) (Q := fun v h L => Gc v h ∧ Fr n0 L) (con (hz C X eT)) C.2.1 w4 w3 hf hl) m meth c ⟨T.setVm vm₁, locs, k, n⟩ (mkF m pc Ls rest) (.invokevirtual i) mk (.ref a :: argsL).toArray X₁ rfl (hsz.trans C.2.2.2.1.symm) (hb C.2.2.1 hd) (by show 2 * 0 + _ ≤ _; rw [Nat.mul_zero, Nat.zero_add]; exact Nat.le_of_eq hW) (X₁.named hnamed) ⟨rfl, eT, hc, hs⟩
  dsimp only [Pt.U, Pt.locs, Pt.cells, Pt.slots] at X' l1 y1 z1 hsteps hQ
  subst l1 y1 z1
  exact step (fun t q => (hstep₁ _ fun acts => by rw [doInvoke_state]; exact hsteps).trans q) (g T'.heap v hQ T' ⟨_, Fr.app F hF, X', rfl⟩)
theorem arraycopy (C : Cx p s m meth c Z n0 own bytes ml ret) {i : Nat} {a b : Addr} {ka kb : ClassId} {ty : FieldType} {za zb sp dp nn : Int32} {vs vd : List Value} {dv dd : Value} {W : Nat}
    (w1 : (Cond.methodLink own i Jvm.Stand.acN).before a0 Z = true) (w2 : (Cond.native Jvm.Stand.acN).before a0 Z = true) (w3 : (Cond.static Jvm.Stand.acN).before a0 Z = true) (w4 : (Cond.initialized "java/lang/System").before a0 Z = true)
    (A : Arv Z h a ka ty za vs dv) (B : Arv Z h b kb ty zb vd dd) (hty : refKind ty = false) (h1 : 0 ≤ sp.toInt) (h2 : 0 ≤ dp.toInt) (h3 : 0 ≤ nn.toInt) (h4 : sp.toInt + nn.toInt ≤ za.toInt) (h5 : dp.toInt + nn.toInt ≤ zb.toInt) (hl : dp.toInt.toNat + nn.toInt.toNat ≤ vd.length) (ge : n0 ≤ b)
    (hd : decode bytes pc = .ok (.invokestatic i, 3)) (hp : pc + 3 = pc') (hsz : Ls.size = ml) (hf : 1 ≤ R.frames) (hW : (S.map fun v => v.category).sum = W) (hlo : W + 18 ≤ R.locals)
    (g : ∀ h', Keep h h' [b] → Arv Z h' b kb ty zb (vd.take dp.toInt.toNat ++ (List.range nn.toInt.toNat).map (fun j => vs.getD (sp.toInt.toNat + j) dv) ++ vd.drop (dp.toInt.toNat + nn.toInt.toNat)) dd → Go p l e R s m args below meth c Y n0 G h' k n (mkF m pc' Ls S)) :
    Go p l e R s m args below meth c Y n0 G h k n (mkF m pc Ls (.int nn :: .int dp :: .ref b :: .int sp :: .ref a :: S)) := fun T ⟨locs, F, X, eT⟩ => by
  subst hp
  have nn0 : ∀ {x : Int32}, 0 ≤ x.toInt → ¬ x < 0 := fun {x} q w => by have := Int32.lt_iff_toInt_lt.mp w; simp only [Int32.reduceToInt] at this; omega
  obtain ⟨T', h', L', X', e', F', K', V', st⟩ := cpA X C.1 C.2.1 C.2.2.2.2.1 w1 w2 w3 w4 eT A B (Or.inl ⟨rfl, hty⟩) (nn0 h1) (nn0 h2) (nn0 h3) (by show sp.toInt.toNat + nn.toInt.toNat ≤ za.toInt.toNat; omega) (by show dp.toInt.toNat + nn.toInt.toNat ≤ zb.toInt.toNat; omega) rfl hl F ge
    (g := mkF m pc Ls (.int nn :: .int dp :: .ref b :: .int sp :: .ref a :: S)) rfl (hsz.trans C.2.2.2.1.symm) rfl (hb C.2.2.1 hd) hf (W := W) (by show 2 * 0 + _ ≤ _; rw [Nat.mul_zero, Nat.zero_add]; exact Nat.le_of_eq hW) (by show W + (7 + 11) ≤ _; exact hlo)
  exact step st (g h' K' V' T' ⟨_, F', X', e'⟩)
theorem nf_sel (C : Cx p s m meth c Z n0 own bytes ml ret) {Cn : String} {y : MethodName} (w : (Cond.selects Cn y y).before a0 Z = true) : NotFace s y := notFace_of_selects (args := #[]) (mvT C.2.1 w)
theorem initObj (C : Cx p s m meth c Z n0 own bytes ml ret) {i : Nat} {a : Addr} {W : Nat} (w1 : (Cond.methodLink own i Lib.objectInit).before a0 Z = true) (w2 : (Cond.instanceMethod Lib.objectInit).before a0 Z = true) (w3 : (Cond.code Lib.objectInit ⟨#[0xb1]⟩ 1 none).before a0 Z = true)
    (hd : decode bytes pc = .ok (.invokespecial i, 3)) (hp : pc + 3 = pc') (hsz : Ls.size = ml) (hf : 1 ≤ R.frames) (hW : (S.map fun v => v.category).sum = W) (hl : W + 12 ≤ R.locals)
    (g : Go p l e R s m args below meth c Y n0 G h k n (mkF m pc' Ls S)) : Go p l e R s m args below meth c Y n0 G h k n (mkF m pc Ls (.ref a :: S)) := fun T ⟨locs, F, X, eT⟩ => by
  subst hp
  obtain ⟨T', X', e', st⟩ := initO X C.1 C.2.1 C.2.2.2.2.1 w1 w2 w3 eT (g := mkF m pc Ls (.ref a :: S)) rfl (hsz.trans C.2.2.2.1.symm) rfl (hb C.2.2.1 hd) hf (W := W) (by show 2 * 0 + _ ≤ _; rw [Nat.mul_zero, Nat.zero_add]; exact Nat.le_of_eq hW) hl
  exact step st (g T' ⟨_, F, X', e'⟩)

/-! fields and objects -/
theorem getfield (C : Cx p s m meth c Z n0 own bytes ml ret) {i : Nat} {R0 O f d : String} {a : Addr} {v : Value} (w : (Cond.fieldLink own i R0 f d).before a0 Z = true) (via : Via Z R0 O f d) (F : Fld Z h a O f d v) (hd : decode bytes pc = .ok (.getfield i, 3)) (hp : pc + 3 = pc')
    (g : Go p l e R s m args below meth c Y n0 G h k n (mkF m pc' Ls (v :: S))) : Go p l e R s m args below meth c Y n0 G h k n (mkF m pc Ls (.ref a :: S)) := fun T ⟨locs, Fz, X, eT⟩ => by
  subst hp
  obtain ⟨T', X', e', st⟩ := getF X C.1 C.2.1 C.2.2.2.2.1 (host := "") (Or.inl w) via eT F (g := mkF m pc Ls (.ref a :: S)) rfl rfl (hb C.2.2.1 hd)
  exact step st (g T' ⟨_, Fz, X', e'⟩)
theorem getstatic (C : Cx p s m meth c Z n0 own bytes ml ret) {i : Nat} {R0 O f d : String} {v : Value} (w : (Cond.fieldLink own i R0 f d).before a0 Z = true) (via : Via Z R0 O f d) (F : Sta Z h O f d v) (hd : decode bytes pc = .ok (.getstatic i, 3)) (hp : pc + 3 = pc')
    (g : Go p l e R s m args below meth c Y n0 G h k n (mkF m pc' Ls (v :: S))) : Go p l e R s m args below meth c Y n0 G h k n (mkF m pc Ls S) := fun T ⟨locs, Fz, X, eT⟩ => by
  subst hp
  obtain ⟨T', X', e', st⟩ := getS2 X C.1 C.2.1 C.2.2.2.2.1 (host := "") (Or.inl w) via eT F (g := mkF m pc Ls S) rfl (hb C.2.2.1 hd)
  exact step st (g T' ⟨_, Fz, X', e'⟩)
theorem putfield (C : Cx p s m meth c Z n0 own bytes ml ret) {i kk : Nat} {R0 O f d Cn : String} {ty : FieldType} {a : Addr} {v old : Value} (w : (Cond.fieldLink own i R0 f d).before a0 Z = true) (via : Via Z R0 O f d) (F : Fld Z h a O f d old) (E : Exa Z h a Cn)
    (L : (Cond.lays Cn O f d).before a0 Z = true ∨ ((Cond.laysFinal Cn O f d).before a0 Z = true ∧ own = O ∧ meth.name = "<init>")) (wi : (Cond.instantiable Cn kk).before a0 Z = true) (hty : parseFieldDescriptor d = some ty) (hnr : narrow ty v = v) (hft : fits ty v = true) (hd : decode bytes pc = .ok (.putfield i, 3)) (hp : pc + 3 = pc') (ha : n0 ≤ a)
    (g : ∀ h', Wr h h' a (Jvm.RoadKit.slotOf Z O f d) v → Go p l e R s m args below meth c Y n0 G h' k n (mkF m pc' Ls S)) : Go p l e R s m args below meth c Y n0 G h k n (mkF m pc Ls (v :: .ref a :: S)) := fun T ⟨locs, Fz, X, eT⟩ => by
  subst hp
  obtain ⟨T', h', X', e', W, st⟩ := putF X C.1 C.2.1 C.2.2.2.2.1 (host := "") (Or.inl w) via eT F E L wi hty hnr hft (g := mkF m pc Ls (v :: .ref a :: S)) rfl rfl (hb C.2.2.1 hd)
  exact step st (g h' W T' ⟨_, Fr.snoc X' Fz ha, X', e'⟩)
theorem new (C : Cx p s m meth c Z n0 own bytes ml ret) {i sz : Nat} {Cn : String} (w : (Cond.classLink own i Cn).before a0 Z = true) (wi : (Cond.instantiable Cn sz).before a0 Z = true) (wz : (Cond.initialized Cn).before a0 Z = true) (hd : decode bytes pc = .ok (.new i, 3)) (hp : pc + 3 = pc') (hc : k + 1 ≤ R.cells) (hs : n + sz ≤ R.slots) {k' n' : Nat} (hk' : k + 1 = k') (hn' : n + sz = n')
    (g : ∀ h' a, a = h.size → n0 ≤ a → Ext h h' → Exa Z h' a Cn → (∀ {O nm d : String} {ty : FieldType}, Laid Z a0 Cn O nm d → parseFieldDescriptor d = some ty → Fld Z h' a O nm d (defaultValue ty)) → Go p l e R s m args below meth c Y n0 G h' k' n' (mkF m pc' Ls (.ref a :: S))) :
    Go p l e R s m args below meth c Y n0 G h k n (mkF m pc Ls S) := fun T ⟨locs, Fz, X, eT⟩ => by
  subst hp hk' hn'
  obtain ⟨T', h', X', e', E, A, D, -, st⟩ := newO X C.1 C.2.1 C.2.2.2.2.1 w wi wz eT (g := mkF m pc Ls S) rfl (hb C.2.2.1 hd) hc hs
  exact step st (g h' _ rfl (hz C X eT) E A D T' ⟨_, Fz, X', e'⟩)
/-! arrays -/
theorem newarray (C : Cx p s m meth c Z n0 own bytes ml ret) {aty : ArrayType} {x : Int32} {cap : Nat} (w : (Cond.arrayClass (newarray.typeOf aty)).before a0 Z = true) (hd : decode bytes pc = .ok (.newarray aty, 2)) (hp : pc + 2 = pc') (hx : ¬ x < 0) (hcap : x.toNatClampNeg ≤ cap) (hbig : cap * 8 ≤ 536870912) (hc : k + 1 ≤ R.cells) (hs : n + cap ≤ R.slots) {k' n' : Nat} (hk' : k + 1 = k') (hn' : n + cap = n')
    (g : ∀ h' a kc, a = h.size → n0 ≤ a → Ext h h' → Arv Z h' a kc (newarray.typeOf aty) x [] (defaultValue (newarray.typeOf aty)) → Go p l e R s m args below meth c Y n0 G h' k' n' (mkF m pc' Ls (.ref a :: S))) :
    Go p l e R s m args below meth c Y n0 G h k n (mkF m pc Ls (.int x :: S)) := fun T ⟨locs, Fz, X, eT⟩ => by
  subst hp hk' hn'
  obtain ⟨T', h', kc, X', e', E, A, st⟩ := newP X C.1 C.2.1 w eT (g := mkF m pc Ls (.int x :: S)) rfl (hb C.2.2.1 hd) rfl hx hcap hbig hc hs
  exact step st (g h' _ kc rfl (hz C X eT) E (Arv.new A hx) T' ⟨_, Fz, X', e'⟩)
theorem arraylength (C : Cx p s m meth c Z n0 own bytes ml ret) {a : Addr} {kc : ClassId} {ty : FieldType} {z : Int32} {vs : List Value} {dv : Value} (A : Arv Z h a kc ty z vs dv) (hd : decode bytes pc = .ok (.arraylength, 1)) (hp : pc + 1 = pc')
    (g : Go p l e R s m args below meth c Y n0 G h k n (mkF m pc' Ls (.int z :: S))) : Go p l e R s m args below meth c Y n0 G h k n (mkF m pc Ls (.ref a :: S)) := by
  subst hp
  obtain ⟨cl, Ar, -, Sz, Nz, -, -⟩ := A
  refine stepG (fun T locs X eT t q => X.arraylength C.1 (by rw [eT]; exact Ar.1) (State.isArrayOf_alike C.2.1.alike Ar.2.1) (g := mkF m pc Ls (.ref a :: S)) rfl rfl (hb C.2.2.1 hd) t ?_) g
  rw [len_of Sz Nz]; exact q
theorem arv_at {a : Addr} {kc : ClassId} {ty : FieldType} {z : Int32} {vs : List Value} {dv : Value} (A : Arv Z h a kc ty z vs dv) {j : Int32} (h0 : 0 ≤ j.toInt) (h1 : j.toInt < z.toInt) {v : Value} (hv : vs.getD j.toInt.toNat dv = v) :
    ∃ cl, Arr Z h a cl ty ∧ ¬ (j < 0 ∨ cl.slots.size ≤ j.toNatClampNeg) ∧ cl.slots[j.toNatClampNeg]? = some v := by
  obtain ⟨cl, Ar, -, Sz, Nz, H, -⟩ := A
  have hj : ¬ j < 0 := fun q => by have := Int32.lt_iff_toInt_lt.mp q; simp at this; omega
  have hin := inb_of Sz (j := j) ⟨hj, Int32.lt_iff_toInt_lt.mpr h1⟩
  exact ⟨cl, Ar, hin, H.at hin hv⟩
theorem iaload (C : Cx p s m meth c Z n0 own bytes ml ret) {a : Addr} {kc : ClassId} {z j : Int32} {vs : List Value} {dv v : Value} (A : Arv Z h a kc .int z vs dv) (h0 : 0 ≤ j.toInt) (h1 : j.toInt < z.toInt) (hv : vs.getD j.toInt.toNat dv = v) (hd : decode bytes pc = .ok (.iaload, 1)) (hp : pc + 1 = pc')
    (g : Go p l e R s m args below meth c Y n0 G h k n (mkF m pc' Ls (v :: S))) : Go p l e R s m args below meth c Y n0 G h k n (mkF m pc Ls (.int j :: .ref a :: S)) := by
  subst hp
  obtain ⟨cl, Ar, hin, hat⟩ := arv_at A h0 h1 hv
  exact stepG (fun T locs X eT t q => X.iaload C.1 (by rw [eT]; exact Ar.1) (State.isArrayOf_alike C.2.1.alike Ar.2.1) Ar.2.2 hin hat (g := mkF m pc Ls (.int j :: .ref a :: S)) rfl rfl (hb C.2.2.1 hd) t q) g
theorem laload (C : Cx p s m meth c Z n0 own bytes ml ret) {a : Addr} {kc : ClassId} {z j : Int32} {vs : List Value} {dv v : Value} (A : Arv Z h a kc .long z vs dv) (h0 : 0 ≤ j.toInt) (h1 : j.toInt < z.toInt) (hv : vs.getD j.toInt.toNat dv = v) (hd : decode bytes pc = .ok (.laload, 1)) (hp : pc + 1 = pc')
    (g : Go p l e R s m args below meth c Y n0 G h k n (mkF m pc' Ls (v :: S))) : Go p l e R s m args below meth c Y n0 G h k n (mkF m pc Ls (.int j :: .ref a :: S)) := by
  subst hp
  obtain ⟨cl, Ar, hin, hat⟩ := arv_at A h0 h1 hv
  exact stepG (fun T locs X eT t q => X.laload C.1 (by rw [eT]; exact Ar.1) (State.isArrayOf_alike C.2.1.alike Ar.2.1) Ar.2.2 hin hat (g := mkF m pc Ls (.int j :: .ref a :: S)) rfl rfl (hb C.2.2.1 hd) t q) g
theorem caload (C : Cx p s m meth c Z n0 own bytes ml ret) {a : Addr} {kc : ClassId} {z j : Int32} {vs : List Value} {dv v : Value} (A : Arv Z h a kc .char z vs dv) (h0 : 0 ≤ j.toInt) (h1 : j.toInt < z.toInt) (hv : vs.getD j.toInt.toNat dv = v) (hd : decode bytes pc = .ok (.caload, 1)) (hp : pc + 1 = pc')
    (g : Go p l e R s m args below meth c Y n0 G h k n (mkF m pc' Ls (v :: S))) : Go p l e R s m args below meth c Y n0 G h k n (mkF m pc Ls (.int j :: .ref a :: S)) := by
  subst hp
  obtain ⟨cl, Ar, hin, hat⟩ := arv_at A h0 h1 hv
  exact stepG (fun T locs X eT t q => X.caload C.1 (by rw [eT]; exact Ar.1) (State.isArrayOf_alike C.2.1.alike Ar.2.1) Ar.2.2 hin hat (g := mkF m pc Ls (.int j :: .ref a :: S)) rfl rfl (hb C.2.2.1 hd) t q) g
theorem baload (C : Cx p s m meth c Z n0 own bytes ml ret) {a : Addr} {kc : ClassId} {z j : Int32} {vs : List Value} {dv v : Value} (A : Arv Z h a kc .byte z vs dv) (h0 : 0 ≤ j.toInt) (h1 : j.toInt < z.toInt) (hv : vs.getD j.toInt.toNat dv = v) (hd : decode bytes pc = .ok (.baload, 1)) (hp : pc + 1 = pc')
    (g : Go p l e R s m args below meth c Y n0 G h k n (mkF m pc' Ls (v :: S))) : Go p l e R s m args below meth c Y n0 G h k n (mkF m pc Ls (.int j :: .ref a :: S)) := by
  subst hp
  obtain ⟨cl, Ar, hin, hat⟩ := arv_at A h0 h1 hv
  exact stepG (fun T locs X eT t q => X.baloadBytes C.1 (by rw [eT]; exact Ar.1) (State.isArrayOf_alike C.2.1.alike Ar.2.1) Ar.2.2 hin hat (g := mkF m pc Ls (.int j :: .ref a :: S)) rfl rfl (hb C.2.2.1 hd) t q) g
theorem aaload (C : Cx p s m meth c Z n0 own bytes ml ret) {a : Addr} {cl : Cell} {ty : FieldType} {j : Int32} {v : Value} (A : Arr Z h a cl ty) (hty : ty.isReference = true) (hin : ¬ (j < 0 ∨ cl.slots.size ≤ j.toNatClampNeg)) (hat : cl.slots[j.toNatClampNeg]? = some v) (hd : decode bytes pc = .ok (.aaload, 1)) (hp : pc + 1 = pc')
    (g : Go p l e R s m args below meth c Y n0 G h k n (mkF m pc' Ls (v :: S))) : Go p l e R s m args below meth c Y n0 G h k n (mkF m pc Ls (.int j :: .ref a :: S)) := by
  subst hp
  exact stepG (fun T locs X eT t q => X.aaload C.1 (by rw [eT]; exact A.1) (State.isArrayOf_alike C.2.1.alike A.2.1) hty A.2.2 hin hat (g := mkF m pc Ls (.int j :: .ref a :: S)) rfl rfl (hb C.2.2.1 hd) t q) g
theorem instT (C : Cx p s m meth c Z n0 own bytes ml ret) {i : Nat} {Kn : String} {a : Addr} (w : (Cond.classLink own i Kn).before a0 Z = true) (I : Ins Z h a Kn true) (hd : decode bytes pc = .ok (.instanceof i, 3)) (hp : pc + 3 = pc')
    (g : Go p l e R s m args below meth c Y n0 G h k n (mkF m pc' Ls (.int 1 :: S))) : Go p l e R s m args below meth c Y n0 G h k n (mkF m pc Ls (.ref a :: S)) := fun T ⟨locs, Fz, X, eT⟩ => by
  subst hp
  obtain ⟨T', X', e', st⟩ := instY X C.1 C.2.1 C.2.2.2.2.1 w eT I (g := mkF m pc Ls (.ref a :: S)) rfl rfl (hb C.2.2.1 hd)
  exact step st (g T' ⟨_, Fz, X', e'⟩)
theorem instF (C : Cx p s m meth c Z n0 own bytes ml ret) {i : Nat} {Kn Cn : String} {a : Addr} (w : (Cond.classLink own i Kn).before a0 Z = true) (E : Exa Z h a Cn) (I : ∃ c t, Z.vm.findClass Cn = some c ∧ Z.vm.findClass Kn = some t ∧ Z.vm.assignable c t = false) (hd : decode bytes pc = .ok (.instanceof i, 3)) (hp : pc + 3 = pc')
    (g : Go p l e R s m args below meth c Y n0 G h k n (mkF m pc' Ls (.int 0 :: S))) : Go p l e R s m args below meth c Y n0 G h k n (mkF m pc Ls (.ref a :: S)) := fun T ⟨locs, Fz, X, eT⟩ => by
  subst hp
  obtain ⟨T', X', e', st⟩ := instNo X C.1 C.2.1 C.2.2.2.2.1 w eT E I (g := mkF m pc Ls (.ref a :: S)) rfl rfl (hb C.2.2.1 hd)
  exact step st (g T' ⟨_, Fz, X', e'⟩)
theorem instN (C : Cx p s m meth c Z n0 own bytes ml ret) {i : Nat} (hd : decode bytes pc = .ok (.instanceof i, 3)) (hp : pc + 3 = pc')
    (g : Go p l e R s m args below meth c Y n0 G h k n (mkF m pc' Ls (.int 0 :: S))) : Go p l e R s m args below meth c Y n0 G h k n (mkF m pc Ls (.null :: S)) := by
  subst hp; exact stepG (fun T locs X eT t q => X.instanceofNull C.1 (g := mkF m pc Ls (.null :: S)) rfl rfl (hb C.2.2.1 hd) t q) g
theorem castT (C : Cx p s m meth c Z n0 own bytes ml ret) {i : Nat} {Kn : String} {a : Addr} (w : (Cond.classLink own i Kn).before a0 Z = true) (I : Ins Z h a Kn true) (hd : decode bytes pc = .ok (.checkcast i, 3)) (hp : pc + 3 = pc')
    (g : Go p l e R s m args below meth c Y n0 G h k n (mkF m pc' Ls (.ref a :: S))) : Go p l e R s m args below meth c Y n0 G h k n (mkF m pc Ls (.ref a :: S)) := fun T ⟨locs, Fz, X, eT⟩ => by
  subst hp
  obtain ⟨T', X', e', st⟩ := castY X C.1 C.2.1 C.2.2.2.2.1 w eT I (g := mkF m pc Ls (.ref a :: S)) rfl rfl (hb C.2.2.1 hd)
  exact step st (g T' ⟨_, Fz, X', e'⟩)
theorem ns_root {O Kn : String} {q : Nat} (w : (Cond.noSuperclass O).before a0 Z = true) (wk : (Cond.instantiable Kn q).before a0 Z = true) (hn : O ≠ Kn) : NS Z O Kn := by
  obtain ⟨c, k, h1, h2, h3, -, -⟩ := Cond.noSuperclass_spec w
  obtain ⟨t, kt, g1, -⟩ := Cond.instantiable_spec wk
  have ne := ids_ne h1 g1 hn
  refine ⟨c, t, h1, g1, fun fuel => ?_⟩
  cases fuel with
  | zero => rfl
  | succ f => simp [Vm.isSubclassAux, ne, h2, h3]
theorem ns_no {Cn Sn Kn : String} {q : Nat} (w : (Cond.superclass Cn Sn).before a0 Z = true) (wk : (Cond.instantiable Kn q).before a0 Z = true) (n : NS Z Cn Kn) (hn : Cn ≠ Kn) : ∃ c t, Z.vm.findClass Cn = some c ∧ Z.vm.findClass Kn = some t ∧ Z.vm.assignable c t = false := by
  obtain ⟨c, t, h0, g0, n3⟩ := n
  obtain ⟨p, k, kp, h1, h2, h3, h4, h5, -, h7⟩ := Cond.superclass_spec h0 w
  obtain ⟨t', k', g1, g2, g5, g7, -⟩ := Cond.instantiable_spec wk
  cases g0.symm.trans g1
  have ne := ids_ne h0 g0 hn
  have g8 : k'.isInterface = false := by simp only [Bool.or_eq_false_iff] at g7; exact g7.1
  refine ⟨c, t, h0, g0, ?_⟩
  show Z.vm.assignableAux (255 + 1) c t = false
  simp [Vm.assignableAux, ne, h2, g2, h5, g5, g8, Vm.isSubclass, n3]
theorem iastore (C : Cx p s m meth c Z n0 own bytes ml ret) {a : Addr} {kc : ClassId} {z j : Int32} {x : Int32} {vs : List Value} {dv : Value} (A : Arv Z h a kc .int z vs dv) (h0 : 0 ≤ j.toInt) (h1 : j.toInt < z.toInt) (hlen : j.toInt.toNat < vs.length) (ha : n0 ≤ a) (hd : decode bytes pc = .ok (.iastore, 1)) (hp : pc + 1 = pc')
    (g : ∀ h', Wr h h' a j.toNatClampNeg (.int x) → Arv Z h' a kc .int z (vs.set j.toInt.toNat (.int x)) dv → Go p l e R s m args below meth c Y n0 G h' k n (mkF m pc' Ls S)) : Go p l e R s m args below meth c Y n0 G h k n (mkF m pc Ls (.int x :: .int j :: .ref a :: S)) := fun T ⟨locs, Fz, X, eT⟩ => by
  subst hp
  obtain ⟨cl, Ar, q1, Sz, Nz, H, Gf⟩ := A
  have hj : ¬ j < 0 := fun q => by have := Int32.lt_iff_toInt_lt.mp q; simp at this; omega
  have hin := inb_of Sz (j := j) ⟨hj, Int32.lt_iff_toInt_lt.mpr h1⟩
  obtain ⟨T', h', X', e', W, st⟩ := stI X C.1 C.2.1 eT Ar hin (g := mkF m pc Ls (.int x :: .int j :: .ref a :: S)) rfl rfl (hb C.2.2.1 hd)
  exact step st (g h' W (Arv.set Ar q1 Sz Nz H Gf rfl W _ rfl hlen) T' ⟨_, Fr.snoc X' Fz ha, X', e'⟩)
theorem lastore (C : Cx p s m meth c Z n0 own bytes ml ret) {a : Addr} {kc : ClassId} {z j : Int32} {x : Int64} {vs : List Value} {dv : Value} (A : Arv Z h a kc .long z vs dv) (h0 : 0 ≤ j.toInt) (h1 : j.toInt < z.toInt) (hlen : j.toInt.toNat < vs.length) (ha : n0 ≤ a) (hd : decode bytes pc = .ok (.lastore, 1)) (hp : pc + 1 = pc')
    (g : ∀ h', Wr h h' a j.toNatClampNeg (.long x) → Arv Z h' a kc .long z (vs.set j.toInt.toNat (.long x)) dv → Go p l e R s m args below meth c Y n0 G h' k n (mkF m pc' Ls S)) : Go p l e R s m args below meth c Y n0 G h k n (mkF m pc Ls (.long x :: .int j :: .ref a :: S)) := fun T ⟨locs, Fz, X, eT⟩ => by
  subst hp
  obtain ⟨cl, Ar, q1, Sz, Nz, H, Gf⟩ := A
  have hj : ¬ j < 0 := fun q => by have := Int32.lt_iff_toInt_lt.mp q; simp at this; omega
  have hin := inb_of Sz (j := j) ⟨hj, Int32.lt_iff_toInt_lt.mpr h1⟩
  obtain ⟨T', h', X', e', W, st⟩ := stJ X C.1 C.2.1 eT Ar hin (g := mkF m pc Ls (.long x :: .int j :: .ref a :: S)) rfl rfl (hb C.2.2.1 hd)
  exact step st (g h' W (Arv.set Ar q1 Sz Nz H Gf rfl W _ rfl hlen) T' ⟨_, Fr.snoc X' Fz ha, X', e'⟩)
theorem castore (C : Cx p s m meth c Z n0 own bytes ml ret) {a : Addr} {kc : ClassId} {z j : Int32} {x : Int32} {vs : List Value} {dv : Value} (A : Arv Z h a kc .char z vs dv) (h0 : 0 ≤ j.toInt) (h1 : j.toInt < z.toInt) (hlen : j.toInt.toNat < vs.length) (ha : n0 ≤ a) (hd : decode bytes pc = .ok (.castore, 1)) (hp : pc + 1 = pc')
    (g : ∀ h', Wr h h' a j.toNatClampNeg (.int (nar .char x)) → Arv Z h' a kc .char z (vs.set j.toInt.toNat (.int (nar .char x))) dv → Go p l e R s m args below meth c Y n0 G h' k n (mkF m pc' Ls S)) : Go p l e R s m args below meth c Y n0 G h k n (mkF m pc Ls (.int x :: .int j :: .ref a :: S)) := fun T ⟨locs, Fz, X, eT⟩ => by
  subst hp
  obtain ⟨cl, Ar, q1, Sz, Nz, H, Gf⟩ := A
  have hj : ¬ j < 0 := fun q => by have := Int32.lt_iff_toInt_lt.mp q; simp at this; omega
  have hin := inb_of Sz (j := j) ⟨hj, Int32.lt_iff_toInt_lt.mpr h1⟩
  obtain ⟨T', h', X', e', W, st⟩ := stC X C.1 C.2.1 eT Ar hin (g := mkF m pc Ls (.int x :: .int j :: .ref a :: S)) rfl rfl (hb C.2.2.1 hd)
  exact step st (g h' W (Arv.set Ar q1 Sz Nz H Gf (fits_nar_char _) W _ rfl hlen) T' ⟨_, Fr.snoc X' Fz ha, X', e'⟩)
theorem bastore (C : Cx p s m meth c Z n0 own bytes ml ret) {a : Addr} {kc : ClassId} {z j : Int32} {x : Int32} {vs : List Value} {dv : Value} (A : Arv Z h a kc .byte z vs dv) (h0 : 0 ≤ j.toInt) (h1 : j.toInt < z.toInt) (hlen : j.toInt.toNat < vs.length) (ha : n0 ≤ a) (hd : decode bytes pc = .ok (.bastore, 1)) (hp : pc + 1 = pc')
    (g : ∀ h', Wr h h' a j.toNatClampNeg (.int (nar .byte x)) → Arv Z h' a kc .byte z (vs.set j.toInt.toNat (.int (nar .byte x))) dv → Go p l e R s m args below meth c Y n0 G h' k n (mkF m pc' Ls S)) : Go p l e R s m args below meth c Y n0 G h k n (mkF m pc Ls (.int x :: .int j :: .ref a :: S)) := fun T ⟨locs, Fz, X, eT⟩ => by
  subst hp
  obtain ⟨cl, Ar, q1, Sz, Nz, H, Gf⟩ := A
  have hj : ¬ j < 0 := fun q => by have := Int32.lt_iff_toInt_lt.mp q; simp at this; omega
  have hin := inb_of Sz (j := j) ⟨hj, Int32.lt_iff_toInt_lt.mpr h1⟩
  obtain ⟨T', h', X', e', W, st⟩ := stB X C.1 C.2.1 eT Ar hin (g := mkF m pc Ls (.int x :: .int j :: .ref a :: S)) rfl rfl (hb C.2.2.1 hd)
  exact step st (g h' W (Arv.set Ar q1 Sz Nz H Gf (fits_nar_byte _) W _ rfl hlen) T' ⟨_, Fr.snoc X' Fz ha, X', e'⟩)
end Walk
end Jvm.Pilot.@@N@@.W
namespace Jvm.Pilot.@@N@@.W
open Jvm Jvm.ClassFile Sem Op Lib Jvm.Free Jvm.Stand Jvm.LawKit Jvm.RoadKit Bundle
section Dbls
variable {p : Program} {l : Launch} {e : Env} {R : Room} {s : State} {m : MethodId} {args : Array Value} {below : List Frame} {meth : Method} {c : Code} {K N n0 k n : Nat} {G : Option Value → Heap → Prop} {Y : State → Outcome → List Loc → Prop}
  {Z : State} {a0 : Array Value} {own : String} {bytes : ByteArray} {ml : Nat} {ret : Option FieldType} {Ls Ls' : Array Slot} {S : List Value} {pc pc' pn : Nat} {h h' : Heap}
theorem dload (C : Cx p s m meth c Z n0 own bytes ml ret) {i : Nat} {v : UInt64} (hd : decode bytes pc = .ok (.dload i, 2)) (hp : pc + 2 = pc') (hl : Ls[i]? = some (.val (.double v)))
    (g : Go p l e R s m args below meth c Y n0 G h k n (mkF m pc' Ls (.double v :: S))) : Go p l e R s m args below meth c Y n0 G h k n (mkF m pc Ls S) := by
  subst hp; exact stepG (fun T locs X _ _ q => XS.dload X.here C.1 rfl (hb C.2.2.1 hd) hl q) g
theorem dstore (C : Cx p s m meth c Z n0 own bytes ml ret) {i : Nat} {x : UInt64} (hd : decode bytes pc = .ok (.dstore i, 2)) (hp : pc + 2 = pc') (hl : storeLocals Ls i (.double x) = some Ls')
    (g : Go p l e R s m args below meth c Y n0 G h k n (mkF m pc' Ls' S)) : Go p l e R s m args below meth c Y n0 G h k n (mkF m pc Ls (.double x :: S)) := by
  subst hp; exact stepG (fun T locs X _ _ q => XS.dstore X.here C.1 rfl (hb C.2.2.1 hd) rfl hl q) g
theorem dconst0 (C : Cx p s m meth c Z n0 own bytes ml ret) (hd : decode bytes pc = .ok (.dconst 0, 1)) (hp : pc + 1 = pc')
    (g : Go p l e R s m args below meth c Y n0 G h k n (mkF m pc' Ls (.double FP.dconst0 :: S))) : Go p l e R s m args below meth c Y n0 G h k n (mkF m pc Ls S) := by
  subst hp; exact stepG (fun T locs X _ _ q => XS.dconst0 X.here C.1 rfl (hb C.2.2.1 hd) rfl q) g
theorem dconst1 (C : Cx p s m meth c Z n0 own bytes ml ret) (hd : decode bytes pc = .ok (.dconst 1, 1)) (hp : pc + 1 = pc')
    (g : Go p l e R s m args below meth c Y n0 G h k n (mkF m pc' Ls (.double FP.dconst1 :: S))) : Go p l e R s m args below meth c Y n0 G h k n (mkF m pc Ls S) := by
  subst hp; exact stepG (fun T locs X _ _ q => XS.dconst1 X.here C.1 rfl (hb C.2.2.1 hd) rfl q) g
theorem l2d (C : Cx p s m meth c Z n0 own bytes ml ret) {x : Int64} (hd : decode bytes pc = .ok (.l2d, 1)) (hp : pc + 1 = pc')
    (g : Go p l e R s m args below meth c Y n0 G h k n (mkF m pc' Ls (.double (FP.l2d x) :: S))) : Go p l e R s m args below meth c Y n0 G h k n (mkF m pc Ls (.long x :: S)) := by
  subst hp; exact stepG (fun T locs X _ _ q => XS.l2dS X.here C.1 rfl (hb C.2.2.1 hd) rfl rfl q) g
theorem dneg (C : Cx p s m meth c Z n0 own bytes ml ret) {x : UInt64} (hd : decode bytes pc = .ok (.dneg, 1)) (hp : pc + 1 = pc')
    (g : Go p l e R s m args below meth c Y n0 G h k n (mkF m pc' Ls (.double (FP.dneg x) :: S))) : Go p l e R s m args below meth c Y n0 G h k n (mkF m pc Ls (.double x :: S)) := by
  subst hp; exact stepG (fun T locs X _ _ q => XS.dnegS X.here C.1 rfl (hb C.2.2.1 hd) rfl rfl q) g
theorem ddiv (C : Cx p s m meth c Z n0 own bytes ml ret) {x y : UInt64} (hd : decode bytes pc = .ok (.ddiv, 1)) (hp : pc + 1 = pc') (hn : Jvm.Free.Fl.NoNaN64 (FP.ddiv x y))
    (g : Go p l e R s m args below meth c Y n0 G h k n (mkF m pc' Ls (.double (FP.ddiv x y) :: S))) : Go p l e R s m args below meth c Y n0 G h k n (mkF m pc Ls (.double y :: .double x :: S)) := by
  subst hp; exact stepG (fun T locs X _ _ q => XS.ddivS X.here C.1 rfl (hb C.2.2.1 hd) rfl hn rfl q) g
theorem dadd (C : Cx p s m meth c Z n0 own bytes ml ret) {x y : UInt64} (hd : decode bytes pc = .ok (.dadd, 1)) (hp : pc + 1 = pc') (hn : Jvm.Free.Fl.NoNaN64 (FP.dadd x y))
    (g : Go p l e R s m args below meth c Y n0 G h k n (mkF m pc' Ls (.double (FP.dadd x y) :: S))) : Go p l e R s m args below meth c Y n0 G h k n (mkF m pc Ls (.double y :: .double x :: S)) := by
  subst hp; exact stepG (fun T locs X _ _ q => XS.daddS X.here C.1 rfl (hb C.2.2.1 hd) rfl hn rfl q) g
theorem dcmp (C : Cx p s m meth c Z n0 own bytes ml ret) {o : CmpOp} {x y : UInt64} (hd : decode bytes pc = .ok (.dcmp o, 1)) (hp : pc + 1 = pc')
    (g : Go p l e R s m args below meth c Y n0 G h k n (mkF m pc' Ls (.int (cmpValue (FP.dcmp x y) o) :: S))) : Go p l e R s m args below meth c Y n0 G h k n (mkF m pc Ls (.double y :: .double x :: S)) := by
  subst hp; exact stepG (fun T locs X _ _ q => XS.dcmpS X.here C.1 rfl (hb C.2.2.1 hd) rfl rfl q) g
theorem retD (C : Cx p s m meth c Z n0 own bytes ml (some .double)) {z : UInt64} (hd : decode bytes pc = .ok (.dreturn, 1)) (hk : k ≤ K) (hn : n ≤ N) (hY : ∀ s₂ o L, s₂.heap = h → FrameEnd s o s₂ L K N → Y s₂ o L) (g : G (some (.double z)) h) :
    Go p l e R s m args below meth c Y n0 G h k n (mkF m pc Ls (.double z :: S)) := retV C rfl (Or.inr (Or.inr (Or.inl ⟨rfl, rfl, _, rfl⟩))) hd hk hn hY g
end Dbls
end Jvm.Pilot.@@N@@.W
namespace Jvm.Pilot.@@N@@
open Jvm Jvm.ClassFile Sem Op Lib Jvm.Free Jvm.Stand Jvm.LawKit Jvm.RoadKit Bundle Jvm.Pilot.@@N@@.Jvm.D
theorem ef_2 (m : MethodId) (o0 : Addr) : entryFrame m #[(.ref o0)] 1 = mkF m 0 #[.val (.ref o0)] [] := by first | (simp [entryFrame, mkF, argsToLocals, Value.category]; done) | rfl
theorem pn_0 : plainName "java/lang/Record" = true := by first | (simp [plainName, overriddenIn]; done) | decide +kernel
theorem d2_0 : decode jdk_30_method_1_code 0 = .ok (.aload_n 0, 1) := by decide +kernel
theorem d2_1 : decode jdk_30_method_1_code 1 = .ok (.invokespecial 1, 3) := by decide +kernel
theorem d2_4 : decode jdk_30_method_1_code 4 = .ok (.return_, 1) := by decide +kernel
theorem ef_1 (m : MethodId) (o0 : Addr) (q1 : Int64) (q2 : Int64) : entryFrame m #[(.ref o0), (.long q1), (.long q2)] 5 = mkF m 0 #[.val (.ref o0), .val (.long q1), .second, .val (.long q2), .second] [] := by first | (simp [entryFrame, mkF, argsToLocals, Value.category]; done) | rfl
theorem pn_1 : plainName "com/example/gage/gage/TrafficCounter$LastInterval" = true := by first | (simp [plainName, overriddenIn]; done) | decide +kernel
theorem d1_0 : decode prog_38_method_1_code 0 = .ok (.aload_n 0, 1) := by decide +kernel
theorem d1_1 : decode prog_38_method_1_code 1 = .ok (.invokespecial 1, 3) := by decide +kernel
theorem pd_0 : parseMethodDescriptor "()V" = some ⟨[], none⟩ := by decide +kernel
theorem d1_4 : decode prog_38_method_1_code 4 = .ok (.aload_n 0, 1) := by decide +kernel
theorem d1_5 : decode prog_38_method_1_code 5 = .ok (.lload_n 1, 1) := by decide +kernel
theorem d1_6 : decode prog_38_method_1_code 6 = .ok (.putfield 7, 3) := by decide +kernel
theorem d1_9 : decode prog_38_method_1_code 9 = .ok (.aload_n 0, 1) := by decide +kernel
theorem d1_10 : decode prog_38_method_1_code 10 = .ok (.lload_n 3, 1) := by decide +kernel
theorem d1_11 : decode prog_38_method_1_code 11 = .ok (.putfield 13, 3) := by decide +kernel
theorem d1_14 : decode prog_38_method_1_code 14 = .ok (.return_, 1) := by decide +kernel
theorem ef_4 (m : MethodId) (o0 : Addr) : entryFrame m #[(.ref o0)] 1 = mkF m 0 #[.val (.ref o0)] [] := by first | (simp [entryFrame, mkF, argsToLocals, Value.category]; done) | rfl
theorem d4_0 : decode prog_38_method_4_code 0 = .ok (.aload_n 0, 1) := by decide +kernel
theorem d4_1 : decode prog_38_method_4_code 1 = .ok (.getfield 7, 3) := by decide +kernel
theorem d4_4 : decode prog_38_method_4_code 4 = .ok (.lconst 0, 1) := by decide +kernel
theorem d4_5 : decode prog_38_method_4_code 5 = .ok (.lcmp, 1) := by decide +kernel
theorem d4_6 : decode prog_38_method_4_code 6 = .ok (.ifCond .ne 7, 3) := by decide +kernel
theorem d4_13 : decode prog_38_method_4_code 13 = .ok (.aload_n 0, 1) := by decide +kernel
theorem d4_14 : decode prog_38_method_4_code 14 = .ok (.getfield 13, 3) := by decide +kernel
theorem d4_17 : decode prog_38_method_4_code 17 = .ok (.l2d, 1) := by decide +kernel
theorem d4_18 : decode prog_38_method_4_code 18 = .ok (.aload_n 0, 1) := by decide +kernel
theorem d4_19 : decode prog_38_method_4_code 19 = .ok (.getfield 7, 3) := by decide +kernel
theorem d4_22 : decode prog_38_method_4_code 22 = .ok (.l2d, 1) := by decide +kernel
theorem d4_23 : decode prog_38_method_4_code 23 = .ok (.ddiv, 1) := by decide +kernel
theorem d4_24 : decode prog_38_method_4_code 24 = .ok (.dreturn, 1) := by decide +kernel
theorem d4_9 : decode prog_38_method_4_code 9 = .ok (.dconst 0, 1) := by decide +kernel
theorem d4_10 : decode prog_38_method_4_code 10 = .ok (.goto 14, 3) := by decide +kernel
theorem ef_0 (m : MethodId) (q0 : Int64) (p1 : Int32) (p2 : Int32) (p3 : Int32) (p4 : Int32) : entryFrame m #[(.long q0), (.int p1), (.int p2), (.int p3), (.int p4)] maxLocals = mkF m 0 #[.val (.long q0), .second, .val (.int p1), .val (.int p2), .val (.int p3), .val (.int p4), .unset, .unset, .unset, .unset, .unset, .unset, .unset, .unset, .unset, .unset, .unset, .unset, .unset, .unset, .unset, .unset, .unset] [] := by first | (simp [entryFrame, mkF, argsToLocals, Value.category, maxLocals]; done) | rfl
theorem pn_2 : plainName "com/example/gage/gage/LastIntervalAverageSizePinLaw" = true := by first | (simp [plainName, overriddenIn]; done) | decide +kernel
theorem pd_1 : parseMethodDescriptor "(JJ)V" = some ⟨[.long, .long], none⟩ := by decide +kernel
theorem pd_2 : parseMethodDescriptor "()D" = some ⟨[], some .double⟩ := by decide +kernel
section OwnFP
open Jvm.FP.Core
theorem own_ord {s t : Bool} {c d : Nat} {q r e : Int} (h1 : e ≤ q) (h2 : e ≤ r) : order (.fin s c q) (.fin t d r) = some (compare (signed s (inUnits c q e)) (signed t (inUnits d r e))) := by
  show some (compare (signed s (inUnits c q (min q r))) (signed t (inUnits d r (min q r)))) = _
  have h3 : e ≤ min q r := by omega
  rw [inUnits_move c h3 (Int.min_le_left q r), inUnits_move d h3 (Int.min_le_right q r), signed_mul, signed_mul, compare_mul_pos _ _ _ (by have := Nat.two_pow_pos (min q r - e).toNat; omega)]
/-- the quotient of two whole numbers, rounded -/
theorem own_quo {B M : Int} {x y : Datum} (hx : Whole B x) (hy : Whole M y) (hM : M ≠ 0) (hs : B = 0 → ∃ c q, x = .fin false c q) : quotient b64 x y = roundRatio b64 (decide (B < 0) != decide (M < 0)) B.natAbs M.natAbs 0 := by
  cases x with
  | nan => exact hx.elim
  | inf => exact hx.elim
  | fin s c q =>
  cases y with
  | nan => exact hy.elim
  | inf => exact hy.elim
  | fin t d r =>
    have e1 : s = decide (B < 0) := by
      by_cases h0 : B = 0
      · obtain ⟨c', q', e⟩ := hs h0
        cases e; subst h0; rfl
      · exact whole_sign hx h0
    have e2 : t = decide (M < 0) := whole_sign hy hM
    have hd : d ≠ 0 := fun z => hM ((whole_zero hy).mp z)
    show (if d = 0 then (if c = 0 then Datum.nan else .inf (s != t)) else roundRatio b64 (s != t) c d (q - r)) = _
    rw [if_neg hd, e1, e2]
    have a1 := whole_natAbs hx
    have a2 := whole_natAbs hy
    have hMp : 0 < M.natAbs := by omega
    refine roundRatio_congr (by omega) hMp ?_
    have hx : (q - r - 0).toNat + (-q).toNat + r.toNat = (0 - (q - r)).toNat + q.toNat + (-r).toNat := by omega
    generalize (q - r - 0).toNat = u at hx ⊢
    generalize (0 - (q - r)).toNat = u' at hx ⊢
    generalize q.toNat = x1 at hx a1
    generalize (-q).toNat = x2 at hx a1
    generalize r.toNat = y1 at hx a2
    generalize (-r).toNat = y2 at hx a2
    generalize B.natAbs = b at a1 ⊢
    generalize M.natAbs = m at a2 ⊢
    have hk : 0 < 2 ^ (x2 + y1) := Nat.two_pow_pos _
    apply Nat.eq_of_mul_eq_mul_right hk
    calc c * m * 2 ^ u * 2 ^ (x2 + y1) = c * m * 2 ^ (u + x2 + y1) := by rw [Nat.mul_assoc, ← Nat.pow_add, Nat.add_assoc]
      _ = c * m * 2 ^ (u' + x1 + y2) := by rw [hx]
      _ = (c * 2 ^ x1) * (m * 2 ^ y2) * 2 ^ u' := by rw [Nat.pow_add, Nat.pow_add]; ac_rfl
      _ = (b * 2 ^ x2) * (d * 2 ^ y1) * 2 ^ u' := by rw [a1, ← a2]
      _ = b * d * 2 ^ u' * 2 ^ (x2 + y1) := by rw [Nat.pow_add]; ac_rfl
/-- a whole quotient -/
theorem own_whole {q m : Nat} (hm : 0 < m) (hq : q ≤ 1048576) : Whole (q : Int) (roundRatio b64 false (q * m) m 0) := by
  have e : roundRatio b64 false (q * m) m 0 = roundRatio b64 false q 1 0 := roundRatio_congr hm (by decide) (by simp)
  rw [e]
  have w : Whole (q : Int) (.fin false q 0) := by
    show signed false (q * 2 ^ (0 : Int).toNat) = (q : Int) * ((2 ^ (-(0 : Int)).toNat : Nat) : Int)
    simp [signed]
  exact whole_round good_b64 wide_b64 (i := (q : Int)) (by show q ≤ 2 ^ 53; omega) w
/-- a broken quotient lies strictly between -/
theorem own_between {A m q r : Nat} (hm : 0 < m) (hm2 : m ≤ 1048576) (hq : q < 1048576) (hA : A = q * m + r) (hr : 0 < r) (hrm : r < m) :
    ∃ (c : Nat) (k : Int) (N P : Nat) (e1 : Int), roundRatio b64 false A m 0 = .fin false c k ∧ q * P < N ∧ N < (q + 1) * P ∧ P = 2 ^ (-e1).toNat ∧ e1 ≤ 0 ∧ ∀ e0, e0 ≤ e1 → inUnits c k e0 = inUnits N e1 e0 := by
  have hA0 : 0 < A := by omega
  have hlt : A < m * 2 ^ 20 := by
    have : A < (q + 1) * m := by rw [hA, Nat.add_mul]; omega
    have : (q + 1) * m ≤ 1048576 * m := Nat.mul_le_mul_right _ (by omega)
    have e : (2 : Nat) ^ 20 = 1048576 := by decide
    rw [e, Nat.mul_comm m]; omega
  have hb : Below A m 20 := by
    show A * 2 ^ (-(20 : Int)).toNat < m * 2 ^ (20 : Int).toNat
    simpa using hlt
  have hl := lt_of_below (leading_spec hA0 hm).1 hb
  have hqe : quantum b64 A m 0 ≤ -33 := by
    unfold quantum
    have h1 : b64.qmin = -1074 := by decide
    have h2 : (b64.p : Int) = 53 := by decide
    rw [h1, h2]; omega
  generalize hk : quantum b64 A m 0 = e1 at hqe
  have hN := nearest_units_le (f := b64) hA0 hm 0
  rw [hk] at hN
  have hU : unitsNum A 0 e1 = A * 2 ^ (-e1).toNat := by unfold unitsNum; congr 2; omega
  have hD : unitsDen m 0 e1 = m := by unfold unitsDen; rw [show (e1 - 0).toNat = 0 by omega]; simp
  have hP : 2 ^ 20 ≤ 2 ^ (-e1).toNat := Nat.pow_le_pow_right (by decide) (by omega)
  have e20 : (2 : Nat) ^ 20 = 1048576 := by decide
  generalize hPP : 2 ^ (-e1).toNat = P at hP hU
  rw [hU, hD] at hN
  generalize hNN : nearest (A * P) m = N at hN
  have g1 : q * P + 1 ≤ N := by
    rw [← hNN]
    refine nearest_ge hm ?_
    calc (q * P + 1) * m = q * m * P + m := by rw [Nat.add_mul, Nat.one_mul]; ac_rfl
      _ ≤ q * m * P + 1 * P := by omega
      _ ≤ q * m * P + r * P := Nat.add_le_add_left (Nat.mul_le_mul_right _ hr) _
      _ = A * P := by rw [hA, Nat.add_mul]
  have g2 : N ≤ (q + 1) * P - 1 := by
    rw [← hNN]
    refine nearest_le hm ?_
    have h1 : A * P + P ≤ (q + 1) * P * m := by
      calc A * P + P = (A + 1) * P := by rw [Nat.add_mul, Nat.one_mul]
        _ ≤ (q * m + m) * P := Nat.mul_le_mul_right _ (by omega)
        _ = (q + 1) * P * m := by rw [show q * m + m = (q + 1) * m from by rw [Nat.add_mul, Nat.one_mul]]; ac_rfl
    rw [Nat.sub_mul, Nat.one_mul]
    omega
  have hpos : 0 < (q + 1) * P := Nat.mul_pos (by omega) (by omega)
  have hround : roundRatio b64 false A m 0 = settle b64 false N e1 := by
    unfold roundRatio roundAt
    rw [if_neg (by omega), hk, hU, hD, hNN]
  have hmax : b64.qmax = 971 := by decide
  obtain ⟨c, k, hs⟩ : ∃ c k, settle b64 false N e1 = .fin false c k := by
    unfold settle bound
    rw [hmax]
    split
    · rw [if_pos (by omega)]; exact ⟨_, _, rfl⟩
    · rw [if_pos (by omega)]; exact ⟨_, _, rfl⟩
  refine ⟨c, k, N, P, e1, hround.trans hs, by omega, by omega, hPP.symm, by omega, fun e0 h0 => (settle_value good_b64 hN hs h0).2⟩
theorem own_bet_cmp {c N P : Nat} {k e1 : Int} {j : Nat} {x : Datum} (hx : Whole (j : Int) x) (hP : P = 2 ^ (-e1).toNat) (he : e1 ≤ 0) (hv : ∀ e0, e0 ≤ e1 → inUnits c k e0 = inUnits N e1 e0) : order (.fin false c k) x = some (compare (N : Int) ((j * P : Nat) : Int)) := by
  cases x with
  | nan => exact hx.elim
  | inf => exact hx.elim
  | fin t d r =>
    have ho : min e1 (min k r) ≤ e1 := Int.min_le_left _ _
    generalize hE : min e1 (min k r) = E at ho
    rw [own_ord (e := E) (by omega) (by omega), hv E ho]
    have w := whole_units hx (e := E) (by omega)
    rw [show E.toNat = 0 by omega] at w
    have w2 : signed t (inUnits d r E) = (j : Int) * ((2 ^ (-E).toNat : Nat) : Int) := by simpa using w
    have e3 : (-E).toNat = (-e1).toNat + (e1 - E).toNat := by omega
    have e4 : signed false (inUnits N e1 E) = (N : Int) * ((2 ^ (e1 - E).toNat : Nat) : Int) := by
      show ((N * 2 ^ (e1 - E).toNat : Nat) : Int) = _
      exact Int.natCast_mul _ _
    have e5 : ((2 ^ (-E).toNat : Nat) : Int) = (P : Int) * ((2 ^ (e1 - E).toNat : Nat) : Int) := by
      rw [e3, Nat.pow_add, ← hP]; exact Int.natCast_mul _ _
    have hpos : (0 : Int) < ((2 ^ (e1 - E).toNat : Nat) : Int) := by have := Nat.two_pow_pos (e1 - E).toNat; omega
    rw [w2, e4, e5, ← Int.mul_assoc, compare_mul_pos _ _ _ hpos, Int.natCast_mul]
/-- all that the law asks of the quotient a of bb = q * m + r by m, against q and q + 1 -/
theorem own_main {A m q r : Nat} (hm : 0 < m) (hm2 : m ≤ 1048576) (hq : q < 1048576) (hA : A = q * m + r) (hrm : r < m) (a x y : UInt64) (ha : val64 a = roundRatio b64 false A m 0 ∨ (A = 0 ∧ Whole 0 (val64 a))) (hx : Whole (q : Int) (val64 x)) (hy : Whole ((q + 1 : Nat) : Int) (val64 y)) :
    (Jvm.FP.Core.dcmp x a = some .lt ∨ Jvm.FP.Core.dcmp x a = some .eq) ∧ Jvm.FP.Core.dcmp a y = some .lt ∧ (r = 0 → Jvm.FP.Core.dcmp a x = some .eq) ∧ (r ≠ 0 → Jvm.FP.Core.dcmp a x = some .gt) := by
  by_cases h0 : r = 0
  · subst h0
    have w : Whole (q : Int) (val64 a) := by
      rcases ha with ha | ⟨ha, w⟩
      · rw [ha, hA, Nat.add_zero]; exact own_whole hm (by omega)
      · have : q = 0 := by
          rw [hA, Nat.add_zero] at ha
          rcases Nat.mul_eq_zero.mp ha with z | z <;> omega
        subst this; exact w
    have c1 : order (val64 x) (val64 a) = _ := order_whole hx w
    have c2 : order (val64 a) (val64 y) = _ := order_whole w hy
    have c3 : order (val64 a) (val64 x) = _ := order_whole w hx
    rw [compare_self_int] at c1 c3
    refine ⟨Or.inr c1, ?_, fun _ => c3, fun z => absurd rfl z⟩
    show order (val64 a) (val64 y) = _
    rw [c2]; congr 1
    rw [Int.compare_eq_lt]; omega
  · have hA0 : A ≠ 0 := by omega
    have ha : val64 a = roundRatio b64 false A m 0 := by rcases ha with ha | ⟨ha, -⟩; exact ha; exact absurd ha hA0
    obtain ⟨c, k, N, P, e1, hR, g1, g2, hP, he, hv⟩ := own_between hm hm2 hq hA (by omega) hrm
    have c3 : order (val64 a) (val64 x) = some (compare (N : Int) ((q * P : Nat) : Int)) := by rw [ha, hR]; exact own_bet_cmp hx hP he hv
    have c2 : order (val64 a) (val64 y) = some (compare (N : Int) (((q + 1) * P : Nat) : Int)) := by rw [ha, hR]; exact own_bet_cmp hy hP he hv
    have o3 : compare (N : Int) ((q * P : Nat) : Int) = .gt := by rw [Int.compare_eq_gt]; omega
    have o2 : compare (N : Int) (((q + 1) * P : Nat) : Int) = .lt := by rw [Int.compare_eq_lt]; omega
    rw [o3] at c3
    rw [o2] at c2
    refine ⟨Or.inl ?_, c2, fun z => absurd z h0, fun _ => c3⟩
    show order (val64 x) (val64 a) = _
    rw [order_swap, c3]; rfl
end OwnFP

def own_avg (m b : Int64) : UInt64 := if m = 0 then FP.dconst0 else FP.ddiv (FP.l2d b) (FP.l2d m)
theorem own_avg0 {m b : Int64} (h : m = 0) : own_avg m b = FP.dconst0 := if_pos h
theorem own_avg1 {m b : Int64} (h : ¬ m = 0) : own_avg m b = FP.ddiv (FP.l2d b) (FP.l2d m) := if_neg h
theorem own_dnn (b m : Int64) (h : ¬ m = 0) : Jvm.Free.Fl.NoNaN64 (FP.ddiv (FP.l2d b) (FP.l2d m)) := ((ddiv_mag (Jvm.Free.Fl.l2d_mag b) (l2d_big h) (by decide) (by decide)).fin (by decide)).noNaN
theorem own_whnn {x : UInt64} {i : Int} (h : FP.Core.Whole i (FP.Core.val64 x)) : Jvm.Free.Fl.NoNaN64 x := Jvm.Free.Fl.val64_no.mpr (fun q => by rw [q] at h; exact h)
theorem own_l2d1 : FP.l2d 1 = FP.dconst1 := by decide +kernel
theorem own_k1 (b : Int64) : cmpValue (FP.dcmp (own_avg 1 b) (FP.l2d b)) .l = 0 := by
  have nn : FP.Core.val64 (FP.l2d b) ≠ .nan := Jvm.Free.Fl.val64_no.mp (Jvm.Free.Fl.l2d_fin b).noNaN
  have e : own_avg 1 b = FP.l2d b := by
    rw [own_avg1 (by decide), own_l2d1]
    exact FP.Core.ddiv_one nn
  rw [e]; exact dcmpV_self (Jvm.Free.Fl.l2d_fin b).noNaN _
theorem own_k2 (b : Int64) : cmpValue (FP.dcmp (own_avg (-1) b) (FP.dneg (FP.l2d b))) .l = 0 := by
  obtain ⟨s, c, q, hv⟩ := FP.Core.l2d_fin b
  have hv : FP.Core.val64 (FP.l2d b) = .fin s c q := hv
  have v1 : FP.Core.val64 (FP.l2d (-1)) = .fin true (2 ^ 52) (-52) := by decide +kernel
  have e : own_avg (-1) b = FP.dneg (FP.l2d b) := by
    rw [own_avg1 (by decide)]
    have hq : FP.Core.val64 (FP.ddiv (FP.l2d b) (FP.l2d (-1))) = FP.Core.negate (.fin s c q) := by
      refine (FP.Core.val64_ddiv _ _).trans ?_
      rw [hv, v1]
      have q1 := FP.Core.quotient_one FP.Core.good_b64 (d := .fin s c q) (by rw [← hv]; exact FP.Core.val64_fits _) 52
      have q2 : FP.Core.quotient FP.Core.b64 (.fin s c q) (.fin true (2 ^ 52) (-52)) = FP.Core.negate (FP.Core.quotient FP.Core.b64 (.fin s c q) (.fin false (2 ^ 52) (-((52 : Nat) : Int)))) := by
        show FP.Core.roundRatio _ (s != true) c _ _ = FP.Core.negate (FP.Core.roundRatio _ (s != false) c _ _)
        rw [FP.Core.negate_roundRatio]
        cases s <;> rfl
      rw [q2, q1]
    refine FP.Core.val64_inj (by rw [hq]; intro z; cases z) ?_
    rw [hq]
    exact ((FP.val64_dneg _).trans (by rw [hv])).symm
  rw [e]
  refine dcmpV_self (Jvm.Free.Fl.val64_no.mpr ?_) _
  rw [FP.val64_dneg, hv]; intro z; cases z
theorem own_res (bb mm B M : Int64) (hb : 0 ≤ bb.toInt ∧ bb.toInt ≤ 2199023255552) (hm : 0 < mm.toInt ∧ mm.toInt ≤ 1048576) (nB nM : Bool) (eB : B.toInt = if nB then -bb.toInt else bb.toInt) (eM : M.toInt = if nM then -mm.toInt else mm.toInt) :
    FP.Core.val64 (if nB != nM then FP.dneg (own_avg M B) else own_avg M B) = FP.Core.roundRatio FP.Core.b64 false bb.toInt.toNat mm.toInt.toNat 0 ∨ (bb.toInt.toNat = 0 ∧ FP.Core.Whole 0 (FP.Core.val64 (if nB != nM then FP.dneg (own_avg M B) else own_avg M B))) := by
  have hM0 : M.toInt ≠ 0 := by cases nM <;> simp at eM <;> omega
  have hM : ¬ M = 0 := fun q => hM0 (by rw [q]; rfl)
  have aB : B.toInt.natAbs = bb.toInt.toNat := by cases nB <;> simp at eB <;> omega
  have aM : M.toInt.natAbs = mm.toInt.toNat := by cases nM <;> simp at eM <;> omega
  have wB : FP.Core.Whole B.toInt (FP.Core.val64 (FP.l2d B)) := FP.Core.l2d_int (by rw [aB]; omega)
  have wM : FP.Core.Whole M.toInt (FP.Core.val64 (FP.l2d M)) := FP.Core.l2d_int (by rw [aM]; omega)
  have hv : FP.Core.val64 (own_avg M B) = FP.Core.roundRatio FP.Core.b64 (decide (B.toInt < 0) != decide (M.toInt < 0)) bb.toInt.toNat mm.toInt.toNat 0 := by
    rw [own_avg1 hM]
    refine (FP.Core.val64_ddiv _ _).trans ?_
    rw [own_quo wB wM hM0 (fun z => ?_), aB, aM]
    have : B = 0 := Int64.toInt_inj.mp z
    subst this
    exact ⟨_, _, (by decide +kernel : FP.Core.val64 (FP.l2d 0) = .fin false 0 FP.Core.b64.qmin)⟩
  by_cases h0 : bb.toInt = 0
  · right
    refine ⟨by omega, ?_⟩
    have z : ∀ s : Bool, FP.Core.roundRatio FP.Core.b64 s bb.toInt.toNat mm.toInt.toNat 0 = .fin s 0 FP.Core.b64.qmin := fun s => by
      unfold FP.Core.roundRatio; rw [if_pos (by omega)]
    have wz : ∀ s : Bool, FP.Core.Whole 0 (.fin s 0 FP.Core.b64.qmin) := fun s => by
      show FP.Core.signed s (0 * _) = 0 * _
      rw [Nat.zero_mul, FP.Core.signed_zero, Int.zero_mul]
    rw [z] at hv
    split
    · rw [FP.val64_dneg, hv]; exact wz _
    · rw [hv]; exact wz _
  · left
    have sB : decide (B.toInt < 0) = nB := by cases nB <;> simp at eB <;> simp <;> omega
    have sM : decide (M.toInt < 0) = nM := by cases nM <;> simp at eM <;> simp <;> omega
    rw [sB, sM] at hv
    by_cases hx : (nB != nM) = true
    · rw [if_pos hx, FP.val64_dneg, hv, hx, FP.Core.negate_roundRatio]; rfl
    · rw [if_neg hx, hv]
      rw [Bool.not_eq_true] at hx
      rw [hx]
theorem own_l2dw (a : Int64) (h : 0 ≤ a.toInt ∧ a.toInt ≤ 2199023255552) : FP.Core.Whole (a.toInt.toNat : Int) (FP.Core.val64 (FP.l2d a)) := by
  have e : (a.toInt.toNat : Int) = a.toInt := by omega
  rw [e]
  have : (2 : Nat) ^ 53 = 9007199254740992 := by decide
  exact FP.Core.l2d_int (by omega)
theorem own_succw (a : Int64) (h : 0 ≤ a.toInt ∧ a.toInt ≤ 1048576) : FP.Core.Whole ((a.toInt.toNat + 1 : Nat) : Int) (FP.Core.val64 (FP.dadd (FP.l2d a) FP.dconst1)) := by
  have w1 : FP.Core.DInt 1 FP.dconst1 := by rw [← own_l2d1]; exact FP.Core.l2d_int (a := 1) (by decide)
  have w0 : FP.Core.DInt a.toInt (FP.l2d a) := FP.Core.l2d_int (by omega)
  have e : ((a.toInt.toNat + 1 : Nat) : Int) = a.toInt + 1 := by omega
  rw [e]
  have : (2 : Nat) ^ 53 = 9007199254740992 := by decide
  exact FP.Core.dadd_int w0 w1 (by omega)
def own_LI (Z : State) (h : Heap) (a : Addr) (x0 : Int64) (x1 : Int64) : Prop := Exa Z h a "com/example/gage/gage/TrafficCounter$LastInterval" ∧ Fld Z h a "com/example/gage/gage/TrafficCounter$LastInterval" "messages" "J" (.long x0) ∧ Fld Z h a "com/example/gage/gage/TrafficCounter$LastInterval" "bytes" "J" (.long x1)
set_option maxRecDepth 65536 in
set_option maxHeartbeats 40000000 in
theorem rm2 (l : Launch) (Z : State) (a0 : Array Value) (hw : ∀ d ∈ tables_1, d.before a0 Z = true) (ws : List Jvm.Cond) (o0 : Addr) (h0 : Heap) (n0 : Nat) (Z0 : n0 ≤ h0.size) :
    W.Con l Z (⟨"java/lang/Record", "<init>", "()V"⟩ : MethodName) jdk_30_method_1_code 1 none ws ({ frames := 1, cells := 0, slots := 0, locals := 12 } : Room) ({ frames := 1, cells := 0, slots := 0, locals := 12 } : Room).cells ({ frames := 1, cells := 0, slots := 0, locals := 12 } : Room).slots #[(.ref o0)] h0 n0 (fun v h => v = none ∧ h0 = h) := by
  refine W.enter (plainFor_of_name pn_0) Z0 ?_
  intro p e s m below meth c C hnm hsh
  have C : W.Cx p s m meth c Z n0 "java/lang/Record" jdk_30_method_1_code 1 none := C
  refine W.Go.castF (ef_2 m o0) ?_
  refine W.aloadN C d2_0 rfl rfl rfl ?_
  refine W.initObj C (hw _ (List.mem_of_getElem? (i := 13) rfl)) (hw _ (List.mem_of_getElem? (i := 14) rfl)) (hw _ (List.mem_of_getElem? (i := 15) rfl)) d2_1 rfl rfl (by decide) rfl (by decide) ?_
  refine W.ret0 C d2_4 (by decide) (by decide) (fun _ _ _ _ q => q) ?_
  exact ⟨rfl, rfl⟩
set_option maxRecDepth 65536 in
set_option maxHeartbeats 40000000 in
theorem rm1 (l : Launch) (Z : State) (a0 : Array Value) (hw : ∀ d ∈ tables_1, d.before a0 Z = true) (ws : List Jvm.Cond) (o0 : Addr) (q1 : Int64) (q2 : Int64) (h0 : Heap) (n0 : Nat) (Z0 : n0 ≤ h0.size) (O0 : own_LI Z h0 o0 (0 : Int64) (0 : Int64)) (g0_o0 : n0 ≤ o0) :
    W.Con l Z (⟨"com/example/gage/gage/TrafficCounter$LastInterval", "<init>", "(JJ)V"⟩ : MethodName) prog_38_method_1_code 5 none ws ({ frames := 2, cells := 0, slots := 0, locals := 24 } : Room) ({ frames := 2, cells := 0, slots := 0, locals := 24 } : Room).cells ({ frames := 2, cells := 0, slots := 0, locals := 24 } : Room).slots #[(.ref o0), (.long q1), (.long q2)] h0 n0 (fun v h => v = none ∧ Keep h0 h [o0] ∧ own_LI Z h o0 q1 q2) := by
  refine W.enter (plainFor_of_name pn_1) Z0 ?_
  intro p e s m below meth c C hnm hsh
  have C : W.Cx p s m meth c Z n0 "com/example/gage/gage/TrafficCounter$LastInterval" prog_38_method_1_code 5 none := C
  refine W.Go.castF (ef_1 m o0 q1 q2) ?_
  refine W.aloadN C d1_0 rfl rfl rfl ?_
  refine W.callSp C (y := (⟨"java/lang/Record", "<init>", "()V"⟩ : MethodName)) (a := o0) rfl (hw _ (List.mem_of_getElem? (i := 8) rfl)) (hw _ (List.mem_of_getElem? (i := 9) rfl)) (hw _ (List.mem_of_getElem? (i := 11) rfl)) (hw _ (List.mem_of_getElem? (i := 12) rfl)) (by decide) (fun hz => rm2 l Z a0 hw [] o0 h0 n0 hz) d1_1 rfl rfl pd_0 rfl (argsL := []) (rest := []) rfl (W := 0) rfl (by decide) (by decide) (by decide) (by decide) (k' := 0) (n' := 0) rfl rfl ?_
  rintro h1 _ ⟨rfl, rfl⟩
  show W.Go p l e _ _ m _ below meth c _ _ _ _ _ _ (mkF m 4 #[.val (.ref o0), .val (.long q1), .second, .val (.long q2), .second] [])
  refine W.aloadN C d1_4 rfl rfl rfl ?_
  refine W.lloadN C d1_5 rfl rfl ?_
  refine W.putfield C (hw _ (List.mem_of_getElem? (i := 16) rfl)) Via.refl O0.2.1 O0.1 (Or.inr ⟨(hw _ (List.mem_of_getElem? (i := 17) rfl)), rfl, hnm⟩) (hw _ (List.mem_of_getElem? (i := 3) rfl)) (ty := .long) (by decide) rfl rfl d1_6 rfl g0_o0 ?_
  intro h2 W2
  refine W.aloadN C d1_9 rfl rfl rfl ?_
  refine W.lloadN C d1_10 rfl rfl ?_
  refine W.putfield C (hw _ (List.mem_of_getElem? (i := 18) rfl)) Via.refl (O0.2.2.other W2 (Or.inr (slot_ne (Or.inr (hw _ (List.mem_of_getElem? (i := 19) rfl))) (Or.inr (hw _ (List.mem_of_getElem? (i := 17) rfl))) (by decide) (t := .long) (t' := .long) (by decide) (by decide)))) (O0.1.wr W2) (Or.inr ⟨(hw _ (List.mem_of_getElem? (i := 19) rfl)), rfl, hnm⟩) (hw _ (List.mem_of_getElem? (i := 3) rfl)) (ty := .long) (by decide) rfl rfl d1_11 rfl g0_o0 ?_
  intro h3 W3
  refine W.ret0 C d1_14 (by decide) (by decide) (fun _ _ _ _ q => q) ?_
  exact ⟨rfl, (((Keep.refl h0 [o0]).wr W2 (Or.inl (List.mem_of_getElem? (i := 0) rfl))).wr W3 (Or.inl (List.mem_of_getElem? (i := 0) rfl))), ⟨((O0.1.wr W2).wr W3), ((O0.2.1.same W2).other W3 (Or.inr (slot_ne (Or.inr (hw _ (List.mem_of_getElem? (i := 17) rfl))) (Or.inr (hw _ (List.mem_of_getElem? (i := 19) rfl))) (by decide) (t := .long) (t' := .long) (by decide) (by decide)))), ((O0.2.2.other W2 (Or.inr (slot_ne (Or.inr (hw _ (List.mem_of_getElem? (i := 19) rfl))) (Or.inr (hw _ (List.mem_of_getElem? (i := 17) rfl))) (by decide) (t := .long) (t' := .long) (by decide) (by decide)))).same W3)⟩⟩
set_option maxRecDepth 65536 in
set_option maxHeartbeats 40000000 in
theorem rm4 (l : Launch) (Z : State) (a0 : Array Value) (hw : ∀ d ∈ tables_1, d.before a0 Z = true) (ws : List Jvm.Cond) (o0 : Addr) (qm qb : Int64) (h0 : Heap) (n0 : Nat) (Z0 : n0 ≤ h0.size) (O0 : own_LI Z h0 o0 qm qb) :
    W.Con l Z (⟨"com/example/gage/gage/TrafficCounter$LastInterval", "averageSize", "()D"⟩ : MethodName) prog_38_method_4_code 1 (some .double) ws ({ frames := 0, cells := 0, slots := 0, locals := 0 } : Room) ({ frames := 0, cells := 0, slots := 0, locals := 0 } : Room).cells ({ frames := 0, cells := 0, slots := 0, locals := 0 } : Room).slots #[(.ref o0)] h0 n0 (fun v h => v = some (.double (own_avg qm qb)) ∧ h0 = h) := by
  refine W.enter (plainFor_of_name pn_1) Z0 ?_
  intro p e s m below meth c C hnm hsh
  have C : W.Cx p s m meth c Z n0 "com/example/gage/gage/TrafficCounter$LastInterval" prog_38_method_4_code 1 (some .double) := C
  refine W.Go.castF (ef_4 m o0) ?_
  refine W.aloadN C d4_0 rfl rfl rfl ?_
  refine W.getfield C (hw _ (List.mem_of_getElem? (i := 16) rfl)) Via.refl O0.2.1 d4_1 rfl ?_
  refine W.lconst C (x := (0 : Int64)) d4_4 rfl rfl ?_
  refine W.lcif C (pm := 6) (pc' := 13) (pn := 9) d4_5 rfl d4_6 (by decide) rfl rfl (W.ql_ne qm (0 : Int64)) (fun hc5 => ?_) (fun hc5 => ?_)
  · refine W.aloadN C d4_13 rfl rfl rfl ?_
    refine W.getfield C (hw _ (List.mem_of_getElem? (i := 18) rfl)) Via.refl O0.2.2 d4_14 rfl ?_
    refine W.l2d C d4_17 rfl ?_
    refine W.aloadN C d4_18 rfl rfl rfl ?_
    refine W.getfield C (hw _ (List.mem_of_getElem? (i := 16) rfl)) Via.refl O0.2.1 d4_19 rfl ?_
    refine W.l2d C d4_22 rfl ?_
    refine W.ddiv C d4_23 rfl (own_dnn qb qm hc5) ?_
    refine W.retD C d4_24 (by decide) (by decide) (fun _ _ _ _ q => q) ?_
    exact ⟨by rw [own_avg1 hc5], rfl⟩
  · refine W.dconst0 C d4_9 rfl ?_
    refine W.goto C (pc' := 24) d4_10 (by decide) rfl ?_
    refine W.retD C d4_24 (by decide) (by decide) (fun _ _ _ _ q => q) ?_
    exact ⟨by rw [own_avg0 hc5], rfl⟩
set_option maxRecDepth 65536 in
set_option maxHeartbeats 40000000 in
theorem rm0 (l : Launch) (Z : State) (a0 : Array Value) (hw : ∀ d ∈ tables_1, d.before a0 Z = true) (ws : List Jvm.Cond) (q0 : Int64) (p1 : Int32) (p2 : Int32) (p3 : Int32) (p4 : Int32) (h0 : Heap) (n0 : Nat) (Z0 : n0 ≤ h0.size) :
    W.Con l Z x code maxLocals ret ws room_1 16 128 #[(.long q0), (.int p1), (.int p2), (.int p3), (.int p4)] h0 n0 (fun v _ => v = some (.int 1)) := by
  refine W.enter (plainFor_of_name pn_2) Z0 ?_
  intro p e s m below meth c C hnm hsh
  have C : W.Cx p s m meth c Z n0 "com/example/gage/gage/LastIntervalAverageSizePinLaw" code 23 (some .boolean) := C
  refine W.Go.castF (ef_0 m q0 p1 p2 p3 p4) ?_
  refine W.iload C at_0 rfl rfl ?_
  refine W.iconst C (x := (3 : Int32)) at_2 rfl rfl ?_
  refine W.iand C (z := (p4 &&& (3 : Int32))) at_3 rfl rfl ?_
  refine W.istore C (Ls' := #[.val (.long q0), .second, .val (.int p1), .val (.int p2), .val (.int p3), .val (.int p4), .val (.int (p4 &&& (3 : Int32))), .unset, .unset, .unset, .unset, .unset, .unset, .unset, .unset, .unset, .unset, .unset, .unset, .unset, .unset, .unset, .unset]) at_4 rfl rfl ?_
  refine W.iload C at_6 rfl rfl ?_
  refine W.ifc C (pc' := 34) (pn := 11) at_8 (by decide) rfl rfl (W.q_ne (p4 &&& (3 : Int32)) (0 : Int32)) (fun hc8 => ?_) (fun hc8 => ?_)
  · refine W.iload C at_34 rfl rfl ?_
    refine W.iconst C (x := (1 : Int32)) at_36 rfl rfl ?_
    refine W.icmp C (pc' := 64) (pn := 40) at_37 (by decide) rfl rfl (W.q_ne (p4 &&& (3 : Int32)) (1 : Int32)) (fun hc37 => ?_) (fun hc37 => ?_)
    · refine W.iload C at_64 rfl rfl ?_
      refine W.iconst C (x := (2 : Int32)) at_66 rfl rfl ?_
      refine W.icmp C (pc' := 97) (pn := 70) at_67 (by decide) rfl rfl (W.q_ne (p4 &&& (3 : Int32)) (2 : Int32)) (fun hc67 => ?_) (fun hc67 => ?_)
      · refine W.iloadN C at_97 rfl rfl ?_
        refine W.ldcI C (hw _ (List.mem_of_getElem? (i := 0) rfl)) at_98 rfl ?_
        obtain ⟨v1, hv1⟩ : ∃ z, z = (p1 &&& (1048575 : Int32)) := ⟨_, rfl⟩
        have fv1 := c_mask p1 (1048575 : Int32) 20 (by decide) (by decide)
        rw [← hv1] at fv1
        try simp only [Int32.reduceToInt, Int64.reduceToInt, Nat.reducePow, Int.reducePow, Int.cast_ofNat_Int] at fv1
        have rv1 := rng32 v1
        refine W.iand C at_100 rfl hv1.symm ?_
        obtain ⟨v2, hv2⟩ : ∃ z, z = ((v1).toInt64) := ⟨_, rfl⟩
        have fv2 := c_i2l v1
        rw [← hv2] at fv2
        try simp only [Int32.reduceToInt, Int64.reduceToInt, Nat.reducePow, Int.reducePow, Int.cast_ofNat_Int] at fv2
        have rv2 := rng64 v2
        refine W.i2l C at_101 rfl hv2.symm ?_
        refine W.lconst C (x := (1 : Int64)) at_102 rfl rfl ?_
        obtain ⟨v3, hv3⟩ : ∃ z, z = (v2 + (1 : Int64)) := ⟨_, rfl⟩
        have fv3 := c_ladd v2 (1 : Int64)
        rw [← hv3] at fv3
        try simp only [Int32.reduceToInt, Int64.reduceToInt, Nat.reducePow, Int.reducePow, Int.cast_ofNat_Int] at fv3
        have rv3 := rng64 v3
        refine W.ladd C at_103 rfl hv3.symm ?_
        refine W.lstore C (Ls' := #[.val (.long q0), .second, .val (.int p1), .val (.int p2), .val (.int p3), .val (.int p4), .val (.int (p4 &&& (3 : Int32))), .val (.long v3), .second, .unset, .unset, .unset, .unset, .unset, .unset, .unset, .unset, .unset, .unset, .unset, .unset, .unset, .unset]) at_104 rfl rfl ?_
        refine W.iloadN C at_106 rfl rfl ?_
        refine W.ldcI C (hw _ (List.mem_of_getElem? (i := 0) rfl)) at_107 rfl ?_
        obtain ⟨v4, hv4⟩ : ∃ z, z = (p2 &&& (1048575 : Int32)) := ⟨_, rfl⟩
        have fv4 := c_mask p2 (1048575 : Int32) 20 (by decide) (by decide)
        rw [← hv4] at fv4
        try simp only [Int32.reduceToInt, Int64.reduceToInt, Nat.reducePow, Int.reducePow, Int.cast_ofNat_Int] at fv4
        have rv4 := rng32 v4
        refine W.iand C at_109 rfl hv4.symm ?_
        obtain ⟨v5, hv5⟩ : ∃ z, z = ((v4).toInt64) := ⟨_, rfl⟩
        have fv5 := c_i2l v4
        rw [← hv5] at fv5
        try simp only [Int32.reduceToInt, Int64.reduceToInt, Nat.reducePow, Int.reducePow, Int.cast_ofNat_Int] at fv5
        have rv5 := rng64 v5
        refine W.i2l C at_110 rfl hv5.symm ?_
        refine W.lstore C (Ls' := #[.val (.long q0), .second, .val (.int p1), .val (.int p2), .val (.int p3), .val (.int p4), .val (.int (p4 &&& (3 : Int32))), .val (.long v3), .second, .val (.long v5), .second, .unset, .unset, .unset, .unset, .unset, .unset, .unset, .unset, .unset, .unset, .unset, .unset]) at_111 rfl rfl ?_
        refine W.iload C at_113 rfl rfl ?_
        refine W.ldcI C (hw _ (List.mem_of_getElem? (i := 1) rfl)) at_115 rfl ?_
        obtain ⟨v6, hv6⟩ : ∃ z, z = (p3 &&& (2147483647 : Int32)) := ⟨_, rfl⟩
        have fv6 := c_mask p3 (2147483647 : Int32) 31 (by decide) (by decide)
        rw [← hv6] at fv6
        try simp only [Int32.reduceToInt, Int64.reduceToInt, Nat.reducePow, Int.reducePow, Int.cast_ofNat_Int] at fv6
        have rv6 := rng32 v6
        refine W.iand C at_117 rfl hv6.symm ?_
        refine W.lload C at_118 rfl rfl ?_
        obtain ⟨v7, hv7⟩ : ∃ z, z = ((v3).toInt32) := ⟨_, rfl⟩
        have fv7 := c_l2i v3
        rw [← hv7] at fv7
        try simp only [Int32.reduceToInt, Int64.reduceToInt, Nat.reducePow, Int.reducePow, Int.cast_ofNat_Int] at fv7
        have rv7 := rng32 v7
        refine W.l2i C at_120 rfl hv7.symm ?_
        have rmm : 0 < v3.toInt ∧ v3.toInt ≤ 1048576 := by omega
        have dp : v7.toInt = v3.toInt := by omega
        have hnz121 : v7 ≠ 0 := fun q => by have z := congrArg Int32.toInt q; simp only [Int32.reduceToInt] at z; omega
        obtain ⟨v8, hv8⟩ : ∃ z, z = (v6 % v7) := ⟨_, rfl⟩
        have fv8 := (c_iremV v6 v7).1
        rw [← hv8] at fv8
        try simp only [Int32.reduceToInt, Int64.reduceToInt, Nat.reducePow, Int.reducePow, Int.cast_ofNat_Int] at fv8
        have rv8 := rng32 v8
        refine W.irem C at_121 rfl hnz121 hv8.symm ?_
        obtain ⟨v9, hv9⟩ : ∃ z, z = ((v8).toInt64) := ⟨_, rfl⟩
        have fv9 := c_i2l v8
        rw [← hv9] at fv9
        try simp only [Int32.reduceToInt, Int64.reduceToInt, Nat.reducePow, Int.reducePow, Int.cast_ofNat_Int] at fv9
        have rv9 := rng64 v9
        refine W.i2l C at_122 rfl hv9.symm ?_
        refine W.lstore C (Ls' := #[.val (.long q0), .second, .val (.int p1), .val (.int p2), .val (.int p3), .val (.int p4), .val (.int (p4 &&& (3 : Int32))), .val (.long v3), .second, .val (.long v5), .second, .val (.long v9), .second, .unset, .unset, .unset, .unset, .unset, .unset, .unset, .unset, .unset, .unset]) at_123 rfl rfl ?_
        refine W.lload C at_125 rfl rfl ?_
        refine W.lload C at_127 rfl rfl ?_
        have rqq : 0 ≤ v5.toInt ∧ v5.toInt < 1048576 := by omega
        have rrr : 0 ≤ v9.toInt ∧ v9.toInt < v3.toInt := by omega
        have pm1 : 0 ≤ v5.toInt * v3.toInt := Int.mul_nonneg (by omega) (by omega)
        have pm2 : v5.toInt * v3.toInt ≤ 1048576 * 1048576 := Int.mul_le_mul (by omega) (by omega) (by omega) (by omega)
        obtain ⟨v10, hv10⟩ : ∃ z, z = (v5 * v3) := ⟨_, rfl⟩
        have fv10 := c_lmul v5 v3
        rw [← hv10] at fv10
        try simp only [Int32.reduceToInt, Int64.reduceToInt, Nat.reducePow, Int.reducePow, Int.cast_ofNat_Int] at fv10
        have rv10 := rng64 v10
        refine W.lmul C at_129 rfl hv10.symm ?_
        refine W.lload C at_130 rfl rfl ?_
        obtain ⟨v11, hv11⟩ : ∃ z, z = (v10 + v9) := ⟨_, rfl⟩
        have fv11 := c_ladd v10 v9
        rw [← hv11] at fv11
        try simp only [Int32.reduceToInt, Int64.reduceToInt, Nat.reducePow, Int.reducePow, Int.cast_ofNat_Int] at fv11
        have rv11 := rng64 v11
        refine W.ladd C at_132 rfl hv11.symm ?_
        refine W.lstore C (Ls' := #[.val (.long q0), .second, .val (.int p1), .val (.int p2), .val (.int p3), .val (.int p4), .val (.int (p4 &&& (3 : Int32))), .val (.long v3), .second, .val (.long v5), .second, .val (.long v9), .second, .val (.long v11), .second, .unset, .unset, .unset, .unset, .unset, .unset, .unset, .unset]) at_133 rfl rfl ?_
        have ebb : v11.toInt = v5.toInt * v3.toInt + v9.toInt := by omega
        have rbb : 0 ≤ v11.toInt ∧ v11.toInt ≤ 2199023255552 := by omega
        refine W.iload C at_135 rfl rfl ?_
        refine W.iconst C (x := (2 : Int32)) at_137 rfl rfl ?_
        refine W.ishr C (z := ((p4 >>> ((2 : Int32) &&& 31)))) at_138 rfl rfl ?_
        refine W.iconst C (x := (1 : Int32)) at_139 rfl rfl ?_
        refine W.iand C (z := (((p4 >>> ((2 : Int32) &&& 31))) &&& (1 : Int32))) at_140 rfl rfl ?_
        refine W.ifc C (pc' := 148) (pn := 144) at_141 (by decide) rfl rfl (W.q_eq (((p4 >>> ((2 : Int32) &&& 31))) &&& (1 : Int32)) (0 : Int32)) (fun hc141 => ?_) (fun hc141 => ?_)
        · refine W.iconst C (x := (0 : Int32)) at_148 rfl rfl ?_
          refine W.istore C (Ls' := #[.val (.long q0), .second, .val (.int p1), .val (.int p2), .val (.int p3), .val (.int p4), .val (.int (p4 &&& (3 : Int32))), .val (.long v3), .second, .val (.long v5), .second, .val (.long v9), .second, .val (.long v11), .second, .val (.int (0 : Int32)), .unset, .unset, .unset, .unset, .unset, .unset, .unset]) at_149 rfl rfl ?_
          refine W.iload C at_151 rfl rfl ?_
          refine W.iconst C (x := (3 : Int32)) at_153 rfl rfl ?_
          refine W.ishr C (z := ((p4 >>> ((3 : Int32) &&& 31)))) at_154 rfl rfl ?_
          refine W.iconst C (x := (1 : Int32)) at_155 rfl rfl ?_
          refine W.iand C (z := (((p4 >>> ((3 : Int32) &&& 31))) &&& (1 : Int32))) at_156 rfl rfl ?_
          refine W.ifc C (pc' := 164) (pn := 160) at_157 (by decide) rfl rfl (W.q_eq (((p4 >>> ((3 : Int32) &&& 31))) &&& (1 : Int32)) (0 : Int32)) (fun hc157 => ?_) (fun hc157 => ?_)
          · refine W.iconst C (x := (0 : Int32)) at_164 rfl rfl ?_
            refine W.istore C (Ls' := #[.val (.long q0), .second, .val (.int p1), .val (.int p2), .val (.int p3), .val (.int p4), .val (.int (p4 &&& (3 : Int32))), .val (.long v3), .second, .val (.long v5), .second, .val (.long v9), .second, .val (.long v11), .second, .val (.int (0 : Int32)), .val (.int (0 : Int32)), .unset, .unset, .unset, .unset, .unset, .unset]) at_165 rfl rfl ?_
            refine W.new C (hw _ (List.mem_of_getElem? (i := 2) rfl)) (hw _ (List.mem_of_getElem? (i := 3) rfl)) (hw _ (List.mem_of_getElem? (i := 4) rfl)) at_167 rfl (by decide) (by decide) (k' := 1) (n' := 2) rfl rfl ?_
            intro h12 b12 gb12 g0_b12 E12 Ab12 Db12
            have Fb12_messages : Fld Z h12 b12 "com/example/gage/gage/TrafficCounter$LastInterval" "messages" "J" (.long (0 : Int64)) := Db12 (Or.inr (hw _ (List.mem_of_getElem? (i := 17) rfl))) (ty := .long) (by decide)
            have Fb12_bytes : Fld Z h12 b12 "com/example/gage/gage/TrafficCounter$LastInterval" "bytes" "J" (.long (0 : Int64)) := Db12 (Or.inr (hw _ (List.mem_of_getElem? (i := 19) rfl))) (ty := .long) (by decide)
            refine W.dup C at_170 rfl rfl ?_
            refine W.iload C at_171 rfl rfl ?_
            refine W.ifc C (pc' := 182) (pn := 176) at_173 (by decide) rfl rfl (W.q_eq (0 : Int32) (0 : Int32)) (fun hc173 => ?_) (fun hc173 => ?_)
            rotate_left
            · exact absurd rfl hc173
            refine W.lload C at_182 rfl rfl ?_
            refine W.iload C at_184 rfl rfl ?_
            refine W.ifc C (pc' := 195) (pn := 189) at_186 (by decide) rfl rfl (W.q_eq (0 : Int32) (0 : Int32)) (fun hc186 => ?_) (fun hc186 => ?_)
            rotate_left
            · exact absurd rfl hc186
            refine W.lload C at_195 rfl rfl ?_
            refine W.callSp C (y := (⟨"com/example/gage/gage/TrafficCounter$LastInterval", "<init>", "(JJ)V"⟩ : MethodName)) (a := b12) rfl (hw _ (List.mem_of_getElem? (i := 5) rfl)) (hw _ (List.mem_of_getElem? (i := 6) rfl)) (hw _ (List.mem_of_getElem? (i := 4) rfl)) (hw _ (List.mem_of_getElem? (i := 7) rfl)) (by decide) (fun hz => rm1 l Z a0 hw [] b12 v3 v11 h12 n0 hz ⟨Ab12, Fb12_messages, Fb12_bytes⟩ g0_b12) at_197 rfl rfl pd_1 rfl (argsL := [(.long v3), (.long v11)]) (rest := [(.ref b12)]) rfl (W := 1) rfl (by decide) (by decide) (by decide) (by decide) (k' := 1) (n' := 2) rfl rfl ?_
            rintro h13 _ ⟨rfl, K13, O13⟩
            show W.Go p l e _ _ m _ below meth c _ _ _ _ _ _ (mkF m 200 #[.val (.long q0), .second, .val (.int p1), .val (.int p2), .val (.int p3), .val (.int p4), .val (.int (p4 &&& (3 : Int32))), .val (.long v3), .second, .val (.long v5), .second, .val (.long v9), .second, .val (.long v11), .second, .val (.int (0 : Int32)), .val (.int (0 : Int32)), .unset, .unset, .unset, .unset, .unset, .unset] [(.ref b12)])
            refine W.callV C (y := (⟨"com/example/gage/gage/TrafficCounter$LastInterval", "averageSize", "()D"⟩ : MethodName)) (a := b12) (hw _ (List.mem_of_getElem? (i := 20) rfl)) (hw _ (List.mem_of_getElem? (i := 21) rfl)) (W.nf_sel C (hw _ (List.mem_of_getElem? (i := 23) rfl))) (hw _ (List.mem_of_getElem? (i := 23) rfl)) (hw _ (List.mem_of_getElem? (i := 22) rfl)) (hw _ (List.mem_of_getElem? (i := 4) rfl)) (hw _ (List.mem_of_getElem? (i := 24) rfl)) (by decide) O13.1 (fun hz => rm4 l Z a0 hw [] b12 v3 v11 h13 n0 hz ⟨O13.1, O13.2.1, O13.2.2⟩) at_200 rfl rfl pd_2 rfl (argsL := []) (rest := []) rfl (W := 0) rfl (by decide) (by decide) (by decide) (by decide) (k' := 1) (n' := 2) rfl rfl ?_
            rintro h14 _ ⟨rfl, rfl⟩
            show W.Go p l e _ _ m _ below meth c _ _ _ _ _ _ (mkF m 203 #[.val (.long q0), .second, .val (.int p1), .val (.int p2), .val (.int p3), .val (.int p4), .val (.int (p4 &&& (3 : Int32))), .val (.long v3), .second, .val (.long v5), .second, .val (.long v9), .second, .val (.long v11), .second, .val (.int (0 : Int32)), .val (.int (0 : Int32)), .unset, .unset, .unset, .unset, .unset, .unset] [(.double (own_avg v3 v11))])
            refine W.dstore C (Ls' := #[.val (.long q0), .second, .val (.int p1), .val (.int p2), .val (.int p3), .val (.int p4), .val (.int (p4 &&& (3 : Int32))), .val (.long v3), .second, .val (.long v5), .second, .val (.long v9), .second, .val (.long v11), .second, .val (.int (0 : Int32)), .val (.int (0 : Int32)), .val (.double (own_avg v3 v11)), .second, .unset, .unset, .unset, .unset]) at_203 rfl rfl ?_
            refine W.iload C at_205 rfl rfl ?_
            refine W.iload C at_207 rfl rfl ?_
            refine W.icmp C (pc' := 218) (pn := 212) at_209 (by decide) rfl rfl (W.q_eq (0 : Int32) (0 : Int32)) (fun hc209 => ?_) (fun hc209 => ?_)
            rotate_left
            · exact absurd rfl hc209
            refine W.dload C at_218 rfl rfl ?_
            refine W.dstore C (Ls' := #[.val (.long q0), .second, .val (.int p1), .val (.int p2), .val (.int p3), .val (.int p4), .val (.int (p4 &&& (3 : Int32))), .val (.long v3), .second, .val (.long v5), .second, .val (.long v9), .second, .val (.long v11), .second, .val (.int (0 : Int32)), .val (.int (0 : Int32)), .val (.double (own_avg v3 v11)), .second, .val (.double (own_avg v3 v11)), .second, .unset, .unset]) at_220 rfl rfl ?_
            refine W.lload C at_222 rfl rfl ?_
            refine W.l2d C at_224 rfl ?_
            refine W.dstore C (Ls' := #[.val (.long q0), .second, .val (.int p1), .val (.int p2), .val (.int p3), .val (.int p4), .val (.int (p4 &&& (3 : Int32))), .val (.long v3), .second, .val (.long v5), .second, .val (.long v9), .second, .val (.long v11), .second, .val (.int (0 : Int32)), .val (.int (0 : Int32)), .val (.double (own_avg v3 v11)), .second, .val (.double (own_avg v3 v11)), .second, .val (.double (FP.l2d v5)), .second]) at_225 rfl rfl ?_
            have Ha : FP.Core.val64 (own_avg v3 v11) = FP.Core.roundRatio FP.Core.b64 false v11.toInt.toNat v3.toInt.toNat 0 ∨ (v11.toInt.toNat = 0 ∧ FP.Core.Whole 0 (FP.Core.val64 (own_avg v3 v11))) := own_res v11 v3 v11 v3 rbb rmm false false (by simp <;> omega) (by simp <;> omega)
            have eA : v11.toInt.toNat = v5.toInt.toNat * v3.toInt.toNat + v9.toInt.toNat := by
              have z : ((v5.toInt.toNat * v3.toInt.toNat : Nat) : Int) = v5.toInt * v3.toInt := by rw [Int.natCast_mul, Int.toNat_of_nonneg (by omega), Int.toNat_of_nonneg (by omega)]
              omega
            have H : (FP.dcmp (FP.l2d v5) (own_avg v3 v11) = some .lt ∨ FP.dcmp (FP.l2d v5) (own_avg v3 v11) = some .eq) ∧ FP.dcmp (own_avg v3 v11) (FP.dadd (FP.l2d v5) FP.dconst1) = some .lt ∧ (v9.toInt.toNat = 0 → FP.dcmp (own_avg v3 v11) (FP.l2d v5) = some .eq) ∧ (v9.toInt.toNat ≠ 0 → FP.dcmp (own_avg v3 v11) (FP.l2d v5) = some .gt) := own_main (by omega) (by omega) (by omega) eA (by omega) (own_avg v3 v11) (FP.l2d v5) (FP.dadd (FP.l2d v5) FP.dconst1) Ha (own_l2dw _ (by omega)) (own_succw _ (by omega))
            refine W.dload C at_227 rfl rfl ?_
            refine W.dload C at_229 rfl rfl ?_
            refine W.dcmp C at_231 rfl ?_
            refine W.ifc C (pc' := 277) (pn := 235) at_232 (by decide) rfl rfl (W.q_gt (cmpValue (FP.dcmp (FP.l2d v5) (own_avg v3 v11)) .g) (0 : Int32)) (fun hc232 => ?_) (fun hc232 => ?_)
            · exfalso
              rcases H.1 with q | q <;> rw [q] at hc232 <;> exact absurd hc232 (by decide)
            refine W.dload C at_235 rfl rfl ?_
            refine W.dload C at_237 rfl rfl ?_
            refine W.dconst1 C at_239 rfl ?_
            refine W.dadd C at_240 rfl (own_whnn (own_succw _ (by omega))) ?_
            refine W.dcmp C at_241 rfl ?_
            refine W.ifc C (pc' := 277) (pn := 245) at_242 (by decide) rfl rfl (W.q_ge (cmpValue (FP.dcmp (own_avg v3 v11) (FP.dadd (FP.l2d v5) FP.dconst1)) .g) (0 : Int32)) (fun hc242 => ?_) (fun hc242 => ?_)
            · exfalso
              rw [H.2.1] at hc242
              exact absurd hc242 (by decide)
            refine W.lload C at_245 rfl rfl ?_
            refine W.lconst C (x := (0 : Int64)) at_247 rfl rfl ?_
            refine W.lcif C (pm := 249) (pc' := 256) (pn := 252) at_248 rfl at_249 (by decide) rfl rfl (W.ql_ne v9 (0 : Int64)) (fun hc248 => ?_) (fun hc248 => ?_)
            · refine W.iconst C (x := (0 : Int32)) at_256 rfl rfl ?_
              refine W.dload C at_257 rfl rfl ?_
              refine W.dload C at_259 rfl rfl ?_
              refine W.dcmp C at_261 rfl ?_
              refine W.ifc C (pc' := 269) (pn := 265) at_262 (by decide) rfl rfl (W.q_ne (cmpValue (FP.dcmp (own_avg v3 v11) (FP.l2d v5)) .l) (0 : Int32)) (fun hc262 => ?_) (fun hc262 => ?_)
              rotate_left
              · exfalso
                have q := H.2.2.2 (fun z => hc248 (Int64.toInt_inj.mp (by show v9.toInt = 0; omega)))
                rw [q] at hc262
                exact absurd hc262 (by decide)
              refine W.iconst C (x := (0 : Int32)) at_269 rfl rfl ?_
              refine W.icmp C (pc' := 277) (pn := 273) at_270 (by decide) rfl rfl (W.q_ne (0 : Int32) (0 : Int32)) (fun hc270 => ?_) (fun hc270 => ?_)
              · exact absurd rfl hc270
              refine W.iconst C (x := (1 : Int32)) at_273 rfl rfl ?_
              refine W.goto C (pc' := 278) at_274 (by decide) rfl ?_
              refine W.retZ C (w := (1 : Int32)) (by simp) at_278 (by decide) (by decide) (by decide) (fun _ _ _ _ q => q) ?_
              rfl
            · refine W.iconst C (x := (1 : Int32)) at_252 rfl rfl ?_
              refine W.goto C (pc' := 257) at_253 (by decide) rfl ?_
              refine W.dload C at_257 rfl rfl ?_
              refine W.dload C at_259 rfl rfl ?_
              refine W.dcmp C at_261 rfl ?_
              refine W.ifc C (pc' := 269) (pn := 265) at_262 (by decide) rfl rfl (W.q_ne (cmpValue (FP.dcmp (own_avg v3 v11) (FP.l2d v5)) .l) (0 : Int32)) (fun hc262 => ?_) (fun hc262 => ?_)
              · exfalso
                have q := H.2.2.1 (by rw [hc248]; rfl)
                rw [q] at hc262
                exact hc262 rfl
              refine W.iconst C (x := (1 : Int32)) at_265 rfl rfl ?_
              refine W.goto C (pc' := 270) at_266 (by decide) rfl ?_
              refine W.icmp C (pc' := 277) (pn := 273) at_270 (by decide) rfl rfl (W.q_ne (1 : Int32) (1 : Int32)) (fun hc270 => ?_) (fun hc270 => ?_)
              · exact absurd rfl hc270
              refine W.iconst C (x := (1 : Int32)) at_273 rfl rfl ?_
              refine W.goto C (pc' := 278) at_274 (by decide) rfl ?_
              refine W.retZ C (w := (1 : Int32)) (by simp) at_278 (by decide) (by decide) (by decide) (fun _ _ _ _ q => q) ?_
              rfl
          · refine W.iconst C (x := (1 : Int32)) at_160 rfl rfl ?_
            refine W.goto C (pc' := 165) at_161 (by decide) rfl ?_
            refine W.istore C (Ls' := #[.val (.long q0), .second, .val (.int p1), .val (.int p2), .val (.int p3), .val (.int p4), .val (.int (p4 &&& (3 : Int32))), .val (.long v3), .second, .val (.long v5), .second, .val (.long v9), .second, .val (.long v11), .second, .val (.int (0 : Int32)), .val (.int (1 : Int32)), .unset, .unset, .unset, .unset, .unset, .unset]) at_165 rfl rfl ?_
            refine W.new C (hw _ (List.mem_of_getElem? (i := 2) rfl)) (hw _ (List.mem_of_getElem? (i := 3) rfl)) (hw _ (List.mem_of_getElem? (i := 4) rfl)) at_167 rfl (by decide) (by decide) (k' := 1) (n' := 2) rfl rfl ?_
            intro h15 b15 gb15 g0_b15 E15 Ab15 Db15
            have Fb15_messages : Fld Z h15 b15 "com/example/gage/gage/TrafficCounter$LastInterval" "messages" "J" (.long (0 : Int64)) := Db15 (Or.inr (hw _ (List.mem_of_getElem? (i := 17) rfl))) (ty := .long) (by decide)
            have Fb15_bytes : Fld Z h15 b15 "com/example/gage/gage/TrafficCounter$LastInterval" "bytes" "J" (.long (0 : Int64)) := Db15 (Or.inr (hw _ (List.mem_of_getElem? (i := 19) rfl))) (ty := .long) (by decide)
            refine W.dup C at_170 rfl rfl ?_
            refine W.iload C at_171 rfl rfl ?_
            refine W.ifc C (pc' := 182) (pn := 176) at_173 (by decide) rfl rfl (W.q_eq (1 : Int32) (0 : Int32)) (fun hc173 => ?_) (fun hc173 => ?_)
            · exact absurd hc173 (by decide)
            refine W.lload C at_176 rfl rfl ?_
            obtain ⟨v16, hv16⟩ : ∃ z, z = ((-v3)) := ⟨_, rfl⟩
            have fv16 := c_lneg v3
            rw [← hv16] at fv16
            try simp only [Int32.reduceToInt, Int64.reduceToInt, Nat.reducePow, Int.reducePow, Int.cast_ofNat_Int] at fv16
            have rv16 := rng64 v16
            refine W.lneg C at_178 rfl hv16.symm ?_
            refine W.goto C (pc' := 184) at_179 (by decide) rfl ?_
            refine W.iload C at_184 rfl rfl ?_
            refine W.ifc C (pc' := 195) (pn := 189) at_186 (by decide) rfl rfl (W.q_eq (0 : Int32) (0 : Int32)) (fun hc186 => ?_) (fun hc186 => ?_)
            rotate_left
            · exact absurd rfl hc186
            refine W.lload C at_195 rfl rfl ?_
            refine W.callSp C (y := (⟨"com/example/gage/gage/TrafficCounter$LastInterval", "<init>", "(JJ)V"⟩ : MethodName)) (a := b15) rfl (hw _ (List.mem_of_getElem? (i := 5) rfl)) (hw _ (List.mem_of_getElem? (i := 6) rfl)) (hw _ (List.mem_of_getElem? (i := 4) rfl)) (hw _ (List.mem_of_getElem? (i := 7) rfl)) (by decide) (fun hz => rm1 l Z a0 hw [] b15 v16 v11 h15 n0 hz ⟨Ab15, Fb15_messages, Fb15_bytes⟩ g0_b15) at_197 rfl rfl pd_1 rfl (argsL := [(.long v16), (.long v11)]) (rest := [(.ref b15)]) rfl (W := 1) rfl (by decide) (by decide) (by decide) (by decide) (k' := 1) (n' := 2) rfl rfl ?_
            rintro h17 _ ⟨rfl, K17, O17⟩
            show W.Go p l e _ _ m _ below meth c _ _ _ _ _ _ (mkF m 200 #[.val (.long q0), .second, .val (.int p1), .val (.int p2), .val (.int p3), .val (.int p4), .val (.int (p4 &&& (3 : Int32))), .val (.long v3), .second, .val (.long v5), .second, .val (.long v9), .second, .val (.long v11), .second, .val (.int (0 : Int32)), .val (.int (1 : Int32)), .unset, .unset, .unset, .unset, .unset, .unset] [(.ref b15)])
            refine W.callV C (y := (⟨"com/example/gage/gage/TrafficCounter$LastInterval", "averageSize", "()D"⟩ : MethodName)) (a := b15) (hw _ (List.mem_of_getElem? (i := 20) rfl)) (hw _ (List.mem_of_getElem? (i := 21) rfl)) (W.nf_sel C (hw _ (List.mem_of_getElem? (i := 23) rfl))) (hw _ (List.mem_of_getElem? (i := 23) rfl)) (hw _ (List.mem_of_getElem? (i := 22) rfl)) (hw _ (List.mem_of_getElem? (i := 4) rfl)) (hw _ (List.mem_of_getElem? (i := 24) rfl)) (by decide) O17.1 (fun hz => rm4 l Z a0 hw [] b15 v16 v11 h17 n0 hz ⟨O17.1, O17.2.1, O17.2.2⟩) at_200 rfl rfl pd_2 rfl (argsL := []) (rest := []) rfl (W := 0) rfl (by decide) (by decide) (by decide) (by decide) (k' := 1) (n' := 2) rfl rfl ?_
            rintro h18 _ ⟨rfl, rfl⟩
            show W.Go p l e _ _ m _ below meth c _ _ _ _ _ _ (mkF m 203 #[.val (.long q0), .second, .val (.int p1), .val (.int p2), .val (.int p3), .val (.int p4), .val (.int (p4 &&& (3 : Int32))), .val (.long v3), .second, .val (.long v5), .second, .val (.long v9), .second, .val (.long v11), .second, .val (.int (0 : Int32)), .val (.int (1 : Int32)), .unset, .unset, .unset, .unset, .unset, .unset] [(.double (own_avg v16 v11))])
            refine W.dstore C (Ls' := #[.val (.long q0), .second, .val (.int p1), .val (.int p2), .val (.int p3), .val (.int p4), .val (.int (p4 &&& (3 : Int32))), .val (.long v3), .second, .val (.long v5), .second, .val (.long v9), .second, .val (.long v11), .second, .val (.int (0 : Int32)), .val (.int (1 : Int32)), .val (.double (own_avg v16 v11)), .second, .unset, .unset, .unset, .unset]) at_203 rfl rfl ?_
            refine W.iload C at_205 rfl rfl ?_
            refine W.iload C at_207 rfl rfl ?_
            refine W.icmp C (pc' := 218) (pn := 212) at_209 (by decide) rfl rfl (W.q_eq (0 : Int32) (1 : Int32)) (fun hc209 => ?_) (fun hc209 => ?_)
            · exact absurd hc209 (by decide)
            refine W.dload C at_212 rfl rfl ?_
            refine W.dneg C at_214 rfl ?_
            refine W.goto C (pc' := 220) at_215 (by decide) rfl ?_
            refine W.dstore C (Ls' := #[.val (.long q0), .second, .val (.int p1), .val (.int p2), .val (.int p3), .val (.int p4), .val (.int (p4 &&& (3 : Int32))), .val (.long v3), .second, .val (.long v5), .second, .val (.long v9), .second, .val (.long v11), .second, .val (.int (0 : Int32)), .val (.int (1 : Int32)), .val (.double (own_avg v16 v11)), .second, .val (.double (FP.dneg (own_avg v16 v11))), .second, .unset, .unset]) at_220 rfl rfl ?_
            refine W.lload C at_222 rfl rfl ?_
            refine W.l2d C at_224 rfl ?_
            refine W.dstore C (Ls' := #[.val (.long q0), .second, .val (.int p1), .val (.int p2), .val (.int p3), .val (.int p4), .val (.int (p4 &&& (3 : Int32))), .val (.long v3), .second, .val (.long v5), .second, .val (.long v9), .second, .val (.long v11), .second, .val (.int (0 : Int32)), .val (.int (1 : Int32)), .val (.double (own_avg v16 v11)), .second, .val (.double (FP.dneg (own_avg v16 v11))), .second, .val (.double (FP.l2d v5)), .second]) at_225 rfl rfl ?_
            have Ha : FP.Core.val64 (FP.dneg (own_avg v16 v11)) = FP.Core.roundRatio FP.Core.b64 false v11.toInt.toNat v3.toInt.toNat 0 ∨ (v11.toInt.toNat = 0 ∧ FP.Core.Whole 0 (FP.Core.val64 (FP.dneg (own_avg v16 v11)))) := own_res v11 v3 v11 v16 rbb rmm false true (by simp <;> omega) (by simp <;> omega)
            have eA : v11.toInt.toNat = v5.toInt.toNat * v3.toInt.toNat + v9.toInt.toNat := by
              have z : ((v5.toInt.toNat * v3.toInt.toNat : Nat) : Int) = v5.toInt * v3.toInt := by rw [Int.natCast_mul, Int.toNat_of_nonneg (by omega), Int.toNat_of_nonneg (by omega)]
              omega
            have H : (FP.dcmp (FP.l2d v5) (FP.dneg (own_avg v16 v11)) = some .lt ∨ FP.dcmp (FP.l2d v5) (FP.dneg (own_avg v16 v11)) = some .eq) ∧ FP.dcmp (FP.dneg (own_avg v16 v11)) (FP.dadd (FP.l2d v5) FP.dconst1) = some .lt ∧ (v9.toInt.toNat = 0 → FP.dcmp (FP.dneg (own_avg v16 v11)) (FP.l2d v5) = some .eq) ∧ (v9.toInt.toNat ≠ 0 → FP.dcmp (FP.dneg (own_avg v16 v11)) (FP.l2d v5) = some .gt) := own_main (by omega) (by omega) (by omega) eA (by omega) (FP.dneg (own_avg v16 v11)) (FP.l2d v5) (FP.dadd (FP.l2d v5) FP.dconst1) Ha (own_l2dw _ (by omega)) (own_succw _ (by omega))
            refine W.dload C at_227 rfl rfl ?_
            refine W.dload C at_229 rfl rfl ?_
            refine W.dcmp C at_231 rfl ?_
            refine W.ifc C (pc' := 277) (pn := 235) at_232 (by decide) rfl rfl (W.q_gt (cmpValue (FP.dcmp (FP.l2d v5) (FP.dneg (own_avg v16 v11))) .g) (0 : Int32)) (fun hc232 => ?_) (fun hc232 => ?_)
            · exfalso
              rcases H.1 with q | q <;> rw [q] at hc232 <;> exact absurd hc232 (by decide)
            refine W.dload C at_235 rfl rfl ?_
            refine W.dload C at_237 rfl rfl ?_
            refine W.dconst1 C at_239 rfl ?_
            refine W.dadd C at_240 rfl (own_whnn (own_succw _ (by omega))) ?_
            refine W.dcmp C at_241 rfl ?_
            refine W.ifc C (pc' := 277) (pn := 245) at_242 (by decide) rfl rfl (W.q_ge (cmpValue (FP.dcmp (FP.dneg (own_avg v16 v11)) (FP.dadd (FP.l2d v5) FP.dconst1)) .g) (0 : Int32)) (fun hc242 => ?_) (fun hc242 => ?_)
            · exfalso
              rw [H.2.1] at hc242
              exact absurd hc242 (by decide)
            refine W.lload C at_245 rfl rfl ?_
            refine W.lconst C (x := (0 : Int64)) at_247 rfl rfl ?_
            refine W.lcif C (pm := 249) (pc' := 256) (pn := 252) at_248 rfl at_249 (by decide) rfl rfl (W.ql_ne v9 (0 : Int64)) (fun hc248 => ?_) (fun hc248 => ?_)
            · refine W.iconst C (x := (0 : Int32)) at_256 rfl rfl ?_
              refine W.dload C at_257 rfl rfl ?_
              refine W.dload C at_259 rfl rfl ?_
              refine W.dcmp C at_261 rfl ?_
              refine W.ifc C (pc' := 269) (pn := 265) at_262 (by decide) rfl rfl (W.q_ne (cmpValue (FP.dcmp (FP.dneg (own_avg v16 v11)) (FP.l2d v5)) .l) (0 : Int32)) (fun hc262 => ?_) (fun hc262 => ?_)
              rotate_left
              · exfalso
                have q := H.2.2.2 (fun z => hc248 (Int64.toInt_inj.mp (by show v9.toInt = 0; omega)))
                rw [q] at hc262
                exact absurd hc262 (by decide)
              refine W.iconst C (x := (0 : Int32)) at_269 rfl rfl ?_
              refine W.icmp C (pc' := 277) (pn := 273) at_270 (by decide) rfl rfl (W.q_ne (0 : Int32) (0 : Int32)) (fun hc270 => ?_) (fun hc270 => ?_)
              · exact absurd rfl hc270
              refine W.iconst C (x := (1 : Int32)) at_273 rfl rfl ?_
              refine W.goto C (pc' := 278) at_274 (by decide) rfl ?_
              refine W.retZ C (w := (1 : Int32)) (by simp) at_278 (by decide) (by decide) (by decide) (fun _ _ _ _ q => q) ?_
              rfl
            · refine W.iconst C (x := (1 : Int32)) at_252 rfl rfl ?_
              refine W.goto C (pc' := 257) at_253 (by decide) rfl ?_
              refine W.dload C at_257 rfl rfl ?_
              refine W.dload C at_259 rfl rfl ?_
              refine W.dcmp C at_261 rfl ?_
              refine W.ifc C (pc' := 269) (pn := 265) at_262 (by decide) rfl rfl (W.q_ne (cmpValue (FP.dcmp (FP.dneg (own_avg v16 v11)) (FP.l2d v5)) .l) (0 : Int32)) (fun hc262 => ?_) (fun hc262 => ?_)
              · exfalso
                have q := H.2.2.1 (by rw [hc248]; rfl)
                rw [q] at hc262
                exact hc262 rfl
              refine W.iconst C (x := (1 : Int32)) at_265 rfl rfl ?_
              refine W.goto C (pc' := 270) at_266 (by decide) rfl ?_
              refine W.icmp C (pc' := 277) (pn := 273) at_270 (by decide) rfl rfl (W.q_ne (1 : Int32) (1 : Int32)) (fun hc270 => ?_) (fun hc270 => ?_)
              · exact absurd rfl hc270
              refine W.iconst C (x := (1 : Int32)) at_273 rfl rfl ?_
              refine W.goto C (pc' := 278) at_274 (by decide) rfl ?_
              refine W.retZ C (w := (1 : Int32)) (by simp) at_278 (by decide) (by decide) (by decide) (fun _ _ _ _ q => q) ?_
              rfl
        · refine W.iconst C (x := (1 : Int32)) at_144 rfl rfl ?_
          refine W.goto C (pc' := 149) at_145 (by decide) rfl ?_
          refine W.istore C (Ls' := #[.val (.long q0), .second, .val (.int p1), .val (.int p2), .val (.int p3), .val (.int p4), .val (.int (p4 &&& (3 : Int32))), .val (.long v3), .second, .val (.long v5), .second, .val (.long v9), .second, .val (.long v11), .second, .val (.int (1 : Int32)), .unset, .unset, .unset, .unset, .unset, .unset, .unset]) at_149 rfl rfl ?_
          refine W.iload C at_151 rfl rfl ?_
          refine W.iconst C (x := (3 : Int32)) at_153 rfl rfl ?_
          refine W.ishr C (z := ((p4 >>> ((3 : Int32) &&& 31)))) at_154 rfl rfl ?_
          refine W.iconst C (x := (1 : Int32)) at_155 rfl rfl ?_
          refine W.iand C (z := (((p4 >>> ((3 : Int32) &&& 31))) &&& (1 : Int32))) at_156 rfl rfl ?_
          refine W.ifc C (pc' := 164) (pn := 160) at_157 (by decide) rfl rfl (W.q_eq (((p4 >>> ((3 : Int32) &&& 31))) &&& (1 : Int32)) (0 : Int32)) (fun hc157 => ?_) (fun hc157 => ?_)
          · refine W.iconst C (x := (0 : Int32)) at_164 rfl rfl ?_
            refine W.istore C (Ls' := #[.val (.long q0), .second, .val (.int p1), .val (.int p2), .val (.int p3), .val (.int p4), .val (.int (p4 &&& (3 : Int32))), .val (.long v3), .second, .val (.long v5), .second, .val (.long v9), .second, .val (.long v11), .second, .val (.int (1 : Int32)), .val (.int (0 : Int32)), .unset, .unset, .unset, .unset, .unset, .unset]) at_165 rfl rfl ?_
            refine W.new C (hw _ (List.mem_of_getElem? (i := 2) rfl)) (hw _ (List.mem_of_getElem? (i := 3) rfl)) (hw _ (List.mem_of_getElem? (i := 4) rfl)) at_167 rfl (by decide) (by decide) (k' := 1) (n' := 2) rfl rfl ?_
            intro h19 b19 gb19 g0_b19 E19 Ab19 Db19
            have Fb19_messages : Fld Z h19 b19 "com/example/gage/gage/TrafficCounter$LastInterval" "messages" "J" (.long (0 : Int64)) := Db19 (Or.inr (hw _ (List.mem_of_getElem? (i := 17) rfl))) (ty := .long) (by decide)
            have Fb19_bytes : Fld Z h19 b19 "com/example/gage/gage/TrafficCounter$LastInterval" "bytes" "J" (.long (0 : Int64)) := Db19 (Or.inr (hw _ (List.mem_of_getElem? (i := 19) rfl))) (ty := .long) (by decide)
            refine W.dup C at_170 rfl rfl ?_
            refine W.iload C at_171 rfl rfl ?_
            refine W.ifc C (pc' := 182) (pn := 176) at_173 (by decide) rfl rfl (W.q_eq (0 : Int32) (0 : Int32)) (fun hc173 => ?_) (fun hc173 => ?_)
            rotate_left
            · exact absurd rfl hc173
            refine W.lload C at_182 rfl rfl ?_
            refine W.iload C at_184 rfl rfl ?_
            refine W.ifc C (pc' := 195) (pn := 189) at_186 (by decide) rfl rfl (W.q_eq (1 : Int32) (0 : Int32)) (fun hc186 => ?_) (fun hc186 => ?_)
            · exact absurd hc186 (by decide)
            refine W.lload C at_189 rfl rfl ?_
            obtain ⟨v20, hv20⟩ : ∃ z, z = ((-v11)) := ⟨_, rfl⟩
            have fv20 := c_lneg v11
            rw [← hv20] at fv20
            try simp only [Int32.reduceToInt, Int64.reduceToInt, Nat.reducePow, Int.reducePow, Int.cast_ofNat_Int] at fv20
            have rv20 := rng64 v20
            refine W.lneg C at_191 rfl hv20.symm ?_
            refine W.goto C (pc' := 197) at_192 (by decide) rfl ?_
            refine W.callSp C (y := (⟨"com/example/gage/gage/TrafficCounter$LastInterval", "<init>", "(JJ)V"⟩ : MethodName)) (a := b19) rfl (hw _ (List.mem_of_getElem? (i := 5) rfl)) (hw _ (List.mem_of_getElem? (i := 6) rfl)) (hw _ (List.mem_of_getElem? (i := 4) rfl)) (hw _ (List.mem_of_getElem? (i := 7) rfl)) (by decide) (fun hz => rm1 l Z a0 hw [] b19 v3 v20 h19 n0 hz ⟨Ab19, Fb19_messages, Fb19_bytes⟩ g0_b19) at_197 rfl rfl pd_1 rfl (argsL := [(.long v3), (.long v20)]) (rest := [(.ref b19)]) rfl (W := 1) rfl (by decide) (by decide) (by decide) (by decide) (k' := 1) (n' := 2) rfl rfl ?_
            rintro h21 _ ⟨rfl, K21, O21⟩
            show W.Go p l e _ _ m _ below meth c _ _ _ _ _ _ (mkF m 200 #[.val (.long q0), .second, .val (.int p1), .val (.int p2), .val (.int p3), .val (.int p4), .val (.int (p4 &&& (3 : Int32))), .val (.long v3), .second, .val (.long v5), .second, .val (.long v9), .second, .val (.long v11), .second, .val (.int (1 : Int32)), .val (.int (0 : Int32)), .unset, .unset, .unset, .unset, .unset, .unset] [(.ref b19)])
            refine W.callV C (y := (⟨"com/example/gage/gage/TrafficCounter$LastInterval", "averageSize", "()D"⟩ : MethodName)) (a := b19) (hw _ (List.mem_of_getElem? (i := 20) rfl)) (hw _ (List.mem_of_getElem? (i := 21) rfl)) (W.nf_sel C (hw _ (List.mem_of_getElem? (i := 23) rfl))) (hw _ (List.mem_of_getElem? (i := 23) rfl)) (hw _ (List.mem_of_getElem? (i := 22) rfl)) (hw _ (List.mem_of_getElem? (i := 4) rfl)) (hw _ (List.mem_of_getElem? (i := 24) rfl)) (by decide) O21.1 (fun hz => rm4 l Z a0 hw [] b19 v3 v20 h21 n0 hz ⟨O21.1, O21.2.1, O21.2.2⟩) at_200 rfl rfl pd_2 rfl (argsL := []) (rest := []) rfl (W := 0) rfl (by decide) (by decide) (by decide) (by decide) (k' := 1) (n' := 2) rfl rfl ?_
            rintro h22 _ ⟨rfl, rfl⟩
            show W.Go p l e _ _ m _ below meth c _ _ _ _ _ _ (mkF m 203 #[.val (.long q0), .second, .val (.int p1), .val (.int p2), .val (.int p3), .val (.int p4), .val (.int (p4 &&& (3 : Int32))), .val (.long v3), .second, .val (.long v5), .second, .val (.long v9), .second, .val (.long v11), .second, .val (.int (1 : Int32)), .val (.int (0 : Int32)), .unset, .unset, .unset, .unset, .unset, .unset] [(.double (own_avg v3 v20))])
            refine W.dstore C (Ls' := #[.val (.long q0), .second, .val (.int p1), .val (.int p2), .val (.int p3), .val (.int p4), .val (.int (p4 &&& (3 : Int32))), .val (.long v3), .second, .val (.long v5), .second, .val (.long v9), .second, .val (.long v11), .second, .val (.int (1 : Int32)), .val (.int (0 : Int32)), .val (.double (own_avg v3 v20)), .second, .unset, .unset, .unset, .unset]) at_203 rfl rfl ?_
            refine W.iload C at_205 rfl rfl ?_
            refine W.iload C at_207 rfl rfl ?_
            refine W.icmp C (pc' := 218) (pn := 212) at_209 (by decide) rfl rfl (W.q_eq (1 : Int32) (0 : Int32)) (fun hc209 => ?_) (fun hc209 => ?_)
            · exact absurd hc209 (by decide)
            refine W.dload C at_212 rfl rfl ?_
            refine W.dneg C at_214 rfl ?_
            refine W.goto C (pc' := 220) at_215 (by decide) rfl ?_
            refine W.dstore C (Ls' := #[.val (.long q0), .second, .val (.int p1), .val (.int p2), .val (.int p3), .val (.int p4), .val (.int (p4 &&& (3 : Int32))), .val (.long v3), .second, .val (.long v5), .second, .val (.long v9), .second, .val (.long v11), .second, .val (.int (1 : Int32)), .val (.int (0 : Int32)), .val (.double (own_avg v3 v20)), .second, .val (.double (FP.dneg (own_avg v3 v20))), .second, .unset, .unset]) at_220 rfl rfl ?_
            refine W.lload C at_222 rfl rfl ?_
            refine W.l2d C at_224 rfl ?_
            refine W.dstore C (Ls' := #[.val (.long q0), .second, .val (.int p1), .val (.int p2), .val (.int p3), .val (.int p4), .val (.int (p4 &&& (3 : Int32))), .val (.long v3), .second, .val (.long v5), .second, .val (.long v9), .second, .val (.long v11), .second, .val (.int (1 : Int32)), .val (.int (0 : Int32)), .val (.double (own_avg v3 v20)), .second, .val (.double (FP.dneg (own_avg v3 v20))), .second, .val (.double (FP.l2d v5)), .second]) at_225 rfl rfl ?_
            have Ha : FP.Core.val64 (FP.dneg (own_avg v3 v20)) = FP.Core.roundRatio FP.Core.b64 false v11.toInt.toNat v3.toInt.toNat 0 ∨ (v11.toInt.toNat = 0 ∧ FP.Core.Whole 0 (FP.Core.val64 (FP.dneg (own_avg v3 v20)))) := own_res v11 v3 v20 v3 rbb rmm true false (by simp <;> omega) (by simp <;> omega)
            have eA : v11.toInt.toNat = v5.toInt.toNat * v3.toInt.toNat + v9.toInt.toNat := by
              have z : ((v5.toInt.toNat * v3.toInt.toNat : Nat) : Int) = v5.toInt * v3.toInt := by rw [Int.natCast_mul, Int.toNat_of_nonneg (by omega), Int.toNat_of_nonneg (by omega)]
              omega
            have H : (FP.dcmp (FP.l2d v5) (FP.dneg (own_avg v3 v20)) = some .lt ∨ FP.dcmp (FP.l2d v5) (FP.dneg (own_avg v3 v20)) = some .eq) ∧ FP.dcmp (FP.dneg (own_avg v3 v20)) (FP.dadd (FP.l2d v5) FP.dconst1) = some .lt ∧ (v9.toInt.toNat = 0 → FP.dcmp (FP.dneg (own_avg v3 v20)) (FP.l2d v5) = some .eq) ∧ (v9.toInt.toNat ≠ 0 → FP.dcmp (FP.dneg (own_avg v3 v20)) (FP.l2d v5) = some .gt) := own_main (by omega) (by omega) (by omega) eA (by omega) (FP.dneg (own_avg v3 v20)) (FP.l2d v5) (FP.dadd (FP.l2d v5) FP.dconst1) Ha (own_l2dw _ (by omega)) (own_succw _ (by omega))
            refine W.dload C at_227 rfl rfl ?_
            refine W.dload C at_229 rfl rfl ?_
            refine W.dcmp C at_231 rfl ?_
            refine W.ifc C (pc' := 277) (pn := 235) at_232 (by decide) rfl rfl (W.q_gt (cmpValue (FP.dcmp (FP.l2d v5) (FP.dneg (own_avg v3 v20))) .g) (0 : Int32)) (fun hc232 => ?_) (fun hc232 => ?_)
            · exfalso
              rcases H.1 with q | q <;> rw [q] at hc232 <;> exact absurd hc232 (by decide)
            refine W.dload C at_235 rfl rfl ?_
            refine W.dload C at_237 rfl rfl ?_
            refine W.dconst1 C at_239 rfl ?_
            refine W.dadd C at_240 rfl (own_whnn (own_succw _ (by omega))) ?_
            refine W.dcmp C at_241 rfl ?_
            refine W.ifc C (pc' := 277) (pn := 245) at_242 (by decide) rfl rfl (W.q_ge (cmpValue (FP.dcmp (FP.dneg (own_avg v3 v20)) (FP.dadd (FP.l2d v5) FP.dconst1)) .g) (0 : Int32)) (fun hc242 => ?_) (fun hc242 => ?_)
            · exfalso
              rw [H.2.1] at hc242
              exact absurd hc242 (by decide)
            refine W.lload C at_245 rfl rfl ?_
            refine W.lconst C (x := (0 : Int64)) at_247 rfl rfl ?_
            refine W.lcif C (pm := 249) (pc' := 256) (pn := 252) at_248 rfl at_249 (by decide) rfl rfl (W.ql_ne v9 (0 : Int64)) (fun hc248 => ?_) (fun hc248 => ?_)
            · refine W.iconst C (x := (0 : Int32)) at_256 rfl rfl ?_
              refine W.dload C at_257 rfl rfl ?_
              refine W.dload C at_259 rfl rfl ?_
              refine W.dcmp C at_261 rfl ?_
              refine W.ifc C (pc' := 269) (pn := 265) at_262 (by decide) rfl rfl (W.q_ne (cmpValue (FP.dcmp (FP.dneg (own_avg v3 v20)) (FP.l2d v5)) .l) (0 : Int32)) (fun hc262 => ?_) (fun hc262 => ?_)
              rotate_left
              · exfalso
                have q := H.2.2.2 (fun z => hc248 (Int64.toInt_inj.mp (by show v9.toInt = 0; omega)))
                rw [q] at hc262
                exact absurd hc262 (by decide)
              refine W.iconst C (x := (0 : Int32)) at_269 rfl rfl ?_
              refine W.icmp C (pc' := 277) (pn := 273) at_270 (by decide) rfl rfl (W.q_ne (0 : Int32) (0 : Int32)) (fun hc270 => ?_) (fun hc270 => ?_)
              · exact absurd rfl hc270
              refine W.iconst C (x := (1 : Int32)) at_273 rfl rfl ?_
              refine W.goto C (pc' := 278) at_274 (by decide) rfl ?_
              refine W.retZ C (w := (1 : Int32)) (by simp) at_278 (by decide) (by decide) (by decide) (fun _ _ _ _ q => q) ?_
              rfl
            · refine W.iconst C (x := (1 : Int32)) at_252 rfl rfl ?_
              refine W.goto C (pc' := 257) at_253 (by decide) rfl ?_
              refine W.dload C at_257 rfl rfl ?_
              refine W.dload C at_259 rfl rfl ?_
              refine W.dcmp C at_261 rfl ?_
              refine W.ifc C (pc' := 269) (pn := 265) at_262 (by decide) rfl rfl (W.q_ne (cmpValue (FP.dcmp (FP.dneg (own_avg v3 v20)) (FP.l2d v5)) .l) (0 : Int32)) (fun hc262 => ?_) (fun hc262 => ?_)
              · exfalso
                have q := H.2.2.1 (by rw [hc248]; rfl)
                rw [q] at hc262
                exact hc262 rfl
              refine W.iconst C (x := (1 : Int32)) at_265 rfl rfl ?_
              refine W.goto C (pc' := 270) at_266 (by decide) rfl ?_
              refine W.icmp C (pc' := 277) (pn := 273) at_270 (by decide) rfl rfl (W.q_ne (1 : Int32) (1 : Int32)) (fun hc270 => ?_) (fun hc270 => ?_)
              · exact absurd rfl hc270
              refine W.iconst C (x := (1 : Int32)) at_273 rfl rfl ?_
              refine W.goto C (pc' := 278) at_274 (by decide) rfl ?_
              refine W.retZ C (w := (1 : Int32)) (by simp) at_278 (by decide) (by decide) (by decide) (fun _ _ _ _ q => q) ?_
              rfl
          · refine W.iconst C (x := (1 : Int32)) at_160 rfl rfl ?_
            refine W.goto C (pc' := 165) at_161 (by decide) rfl ?_
            refine W.istore C (Ls' := #[.val (.long q0), .second, .val (.int p1), .val (.int p2), .val (.int p3), .val (.int p4), .val (.int (p4 &&& (3 : Int32))), .val (.long v3), .second, .val (.long v5), .second, .val (.long v9), .second, .val (.long v11), .second, .val (.int (1 : Int32)), .val (.int (1 : Int32)), .unset, .unset, .unset, .unset, .unset, .unset]) at_165 rfl rfl ?_
            refine W.new C (hw _ (List.mem_of_getElem? (i := 2) rfl)) (hw _ (List.mem_of_getElem? (i := 3) rfl)) (hw _ (List.mem_of_getElem? (i := 4) rfl)) at_167 rfl (by decide) (by decide) (k' := 1) (n' := 2) rfl rfl ?_
            intro h23 b23 gb23 g0_b23 E23 Ab23 Db23
            have Fb23_messages : Fld Z h23 b23 "com/example/gage/gage/TrafficCounter$LastInterval" "messages" "J" (.long (0 : Int64)) := Db23 (Or.inr (hw _ (List.mem_of_getElem? (i := 17) rfl))) (ty := .long) (by decide)
            have Fb23_bytes : Fld Z h23 b23 "com/example/gage/gage/TrafficCounter$LastInterval" "bytes" "J" (.long (0 : Int64)) := Db23 (Or.inr (hw _ (List.mem_of_getElem? (i := 19) rfl))) (ty := .long) (by decide)
            refine W.dup C at_170 rfl rfl ?_
            refine W.iload C at_171 rfl rfl ?_
            refine W.ifc C (pc' := 182) (pn := 176) at_173 (by decide) rfl rfl (W.q_eq (1 : Int32) (0 : Int32)) (fun hc173 => ?_) (fun hc173 => ?_)
            · exact absurd hc173 (by decide)
            refine W.lload C at_176 rfl rfl ?_
            obtain ⟨v24, hv24⟩ : ∃ z, z = ((-v3)) := ⟨_, rfl⟩
            have fv24 := c_lneg v3
            rw [← hv24] at fv24
            try simp only [Int32.reduceToInt, Int64.reduceToInt, Nat.reducePow, Int.reducePow, Int.cast_ofNat_Int] at fv24
            have rv24 := rng64 v24
            refine W.lneg C at_178 rfl hv24.symm ?_
            refine W.goto C (pc' := 184) at_179 (by decide) rfl ?_
            refine W.iload C at_184 rfl rfl ?_
            refine W.ifc C (pc' := 195) (pn := 189) at_186 (by decide) rfl rfl (W.q_eq (1 : Int32) (0 : Int32)) (fun hc186 => ?_) (fun hc186 => ?_)
            · exact absurd hc186 (by decide)
            refine W.lload C at_189 rfl rfl ?_
            obtain ⟨v25, hv25⟩ : ∃ z, z = ((-v11)) := ⟨_, rfl⟩
            have fv25 := c_lneg v11
            rw [← hv25] at fv25
            try simp only [Int32.reduceToInt, Int64.reduceToInt, Nat.reducePow, Int.reducePow, Int.cast_ofNat_Int] at fv25
            have rv25 := rng64 v25
            refine W.lneg C at_191 rfl hv25.symm ?_
            refine W.goto C (pc' := 197) at_192 (by decide) rfl ?_
            refine W.callSp C (y := (⟨"com/example/gage/gage/TrafficCounter$LastInterval", "<init>", "(JJ)V"⟩ : MethodName)) (a := b23) rfl (hw _ (List.mem_of_getElem? (i := 5) rfl)) (hw _ (List.mem_of_getElem? (i := 6) rfl)) (hw _ (List.mem_of_getElem? (i := 4) rfl)) (hw _ (List.mem_of_getElem? (i := 7) rfl)) (by decide) (fun hz => rm1 l Z a0 hw [] b23 v24 v25 h23 n0 hz ⟨Ab23, Fb23_messages, Fb23_bytes⟩ g0_b23) at_197 rfl rfl pd_1 rfl (argsL := [(.long v24), (.long v25)]) (rest := [(.ref b23)]) rfl (W := 1) rfl (by decide) (by decide) (by decide) (by decide) (k' := 1) (n' := 2) rfl rfl ?_
            rintro h26 _ ⟨rfl, K26, O26⟩
            show W.Go p l e _ _ m _ below meth c _ _ _ _ _ _ (mkF m 200 #[.val (.long q0), .second, .val (.int p1), .val (.int p2), .val (.int p3), .val (.int p4), .val (.int (p4 &&& (3 : Int32))), .val (.long v3), .second, .val (.long v5), .second, .val (.long v9), .second, .val (.long v11), .second, .val (.int (1 : Int32)), .val (.int (1 : Int32)), .unset, .unset, .unset, .unset, .unset, .unset] [(.ref b23)])
            refine W.callV C (y := (⟨"com/example/gage/gage/TrafficCounter$LastInterval", "averageSize", "()D"⟩ : MethodName)) (a := b23) (hw _ (List.mem_of_getElem? (i := 20) rfl)) (hw _ (List.mem_of_getElem? (i := 21) rfl)) (W.nf_sel C (hw _ (List.mem_of_getElem? (i := 23) rfl))) (hw _ (List.mem_of_getElem? (i := 23) rfl)) (hw _ (List.mem_of_getElem? (i := 22) rfl)) (hw _ (List.mem_of_getElem? (i := 4) rfl)) (hw _ (List.mem_of_getElem? (i := 24) rfl)) (by decide) O26.1 (fun hz => rm4 l Z a0 hw [] b23 v24 v25 h26 n0 hz ⟨O26.1, O26.2.1, O26.2.2⟩) at_200 rfl rfl pd_2 rfl (argsL := []) (rest := []) rfl (W := 0) rfl (by decide) (by decide) (by decide) (by decide) (k' := 1) (n' := 2) rfl rfl ?_
            rintro h27 _ ⟨rfl, rfl⟩
            show W.Go p l e _ _ m _ below meth c _ _ _ _ _ _ (mkF m 203 #[.val (.long q0), .second, .val (.int p1), .val (.int p2), .val (.int p3), .val (.int p4), .val (.int (p4 &&& (3 : Int32))), .val (.long v3), .second, .val (.long v5), .second, .val (.long v9), .second, .val (.long v11), .second, .val (.int (1 : Int32)), .val (.int (1 : Int32)), .unset, .unset, .unset, .unset, .unset, .unset] [(.double (own_avg v24 v25))])
            refine W.dstore C (Ls' := #[.val (.long q0), .second, .val (.int p1), .val (.int p2), .val (.int p3), .val (.int p4), .val (.int (p4 &&& (3 : Int32))), .val (.long v3), .second, .val (.long v5), .second, .val (.long v9), .second, .val (.long v11), .second, .val (.int (1 : Int32)), .val (.int (1 : Int32)), .val (.double (own_avg v24 v25)), .second, .unset, .unset, .unset, .unset]) at_203 rfl rfl ?_
            refine W.iload C at_205 rfl rfl ?_
            refine W.iload C at_207 rfl rfl ?_
            refine W.icmp C (pc' := 218) (pn := 212) at_209 (by decide) rfl rfl (W.q_eq (1 : Int32) (1 : Int32)) (fun hc209 => ?_) (fun hc209 => ?_)
            rotate_left
            · exact absurd rfl hc209
            refine W.dload C at_218 rfl rfl ?_
            refine W.dstore C (Ls' := #[.val (.long q0), .second, .val (.int p1), .val (.int p2), .val (.int p3), .val (.int p4), .val (.int (p4 &&& (3 : Int32))), .val (.long v3), .second, .val (.long v5), .second, .val (.long v9), .second, .val (.long v11), .second, .val (.int (1 : Int32)), .val (.int (1 : Int32)), .val (.double (own_avg v24 v25)), .second, .val (.double (own_avg v24 v25)), .second, .unset, .unset]) at_220 rfl rfl ?_
            refine W.lload C at_222 rfl rfl ?_
            refine W.l2d C at_224 rfl ?_
            refine W.dstore C (Ls' := #[.val (.long q0), .second, .val (.int p1), .val (.int p2), .val (.int p3), .val (.int p4), .val (.int (p4 &&& (3 : Int32))), .val (.long v3), .second, .val (.long v5), .second, .val (.long v9), .second, .val (.long v11), .second, .val (.int (1 : Int32)), .val (.int (1 : Int32)), .val (.double (own_avg v24 v25)), .second, .val (.double (own_avg v24 v25)), .second, .val (.double (FP.l2d v5)), .second]) at_225 rfl rfl ?_
            have Ha : FP.Core.val64 (own_avg v24 v25) = FP.Core.roundRatio FP.Core.b64 false v11.toInt.toNat v3.toInt.toNat 0 ∨ (v11.toInt.toNat = 0 ∧ FP.Core.Whole 0 (FP.Core.val64 (own_avg v24 v25))) := own_res v11 v3 v25 v24 rbb rmm true true (by simp <;> omega) (by simp <;> omega)
            have eA : v11.toInt.toNat = v5.toInt.toNat * v3.toInt.toNat + v9.toInt.toNat := by
              have z : ((v5.toInt.toNat * v3.toInt.toNat : Nat) : Int) = v5.toInt * v3.toInt := by rw [Int.natCast_mul, Int.toNat_of_nonneg (by omega), Int.toNat_of_nonneg (by omega)]
              omega
            have H : (FP.dcmp (FP.l2d v5) (own_avg v24 v25) = some .lt ∨ FP.dcmp (FP.l2d v5) (own_avg v24 v25) = some .eq) ∧ FP.dcmp (own_avg v24 v25) (FP.dadd (FP.l2d v5) FP.dconst1) = some .lt ∧ (v9.toInt.toNat = 0 → FP.dcmp (own_avg v24 v25) (FP.l2d v5) = some .eq) ∧ (v9.toInt.toNat ≠ 0 → FP.dcmp (own_avg v24 v25) (FP.l2d v5) = some .gt) := own_main (by omega) (by omega) (by omega) eA (by omega) (own_avg v24 v25) (FP.l2d v5) (FP.dadd (FP.l2d v5) FP.dconst1) Ha (own_l2dw _ (by omega)) (own_succw _ (by omega))
            refine W.dload C at_227 rfl rfl ?_
            refine W.dload C at_229 rfl rfl ?_
            refine W.dcmp C at_231 rfl ?_
            refine W.ifc C (pc' := 277) (pn := 235) at_232 (by decide) rfl rfl (W.q_gt (cmpValue (FP.dcmp (FP.l2d v5) (own_avg v24 v25)) .g) (0 : Int32)) (fun hc232 => ?_) (fun hc232 => ?_)
            · exfalso
              rcases H.1 with q | q <;> rw [q] at hc232 <;> exact absurd hc232 (by decide)
            refine W.dload C at_235 rfl rfl ?_
            refine W.dload C at_237 rfl rfl ?_
            refine W.dconst1 C at_239 rfl ?_
            refine W.dadd C at_240 rfl (own_whnn (own_succw _ (by omega))) ?_
            refine W.dcmp C at_241 rfl ?_
            refine W.ifc C (pc' := 277) (pn := 245) at_242 (by decide) rfl rfl (W.q_ge (cmpValue (FP.dcmp (own_avg v24 v25) (FP.dadd (FP.l2d v5) FP.dconst1)) .g) (0 : Int32)) (fun hc242 => ?_) (fun hc242 => ?_)
            · exfalso
              rw [H.2.1] at hc242
              exact absurd hc242 (by decide)
            refine W.lload C at_245 rfl rfl ?_
            refine W.lconst C (x := (0 : Int64)) at_247 rfl rfl ?_
            refine W.lcif C (pm := 249) (pc' := 256) (pn := 252) at_248 rfl at_249 (by decide) rfl rfl (W.ql_ne v9 (0 : Int64)) (fun hc248 => ?_) (fun hc248 => ?_)
            · refine W.iconst C (x := (0 : Int32)) at_256 rfl rfl ?_
              refine W.dload C at_257 rfl rfl ?_
              refine W.dload C at_259 rfl rfl ?_
              refine W.dcmp C at_261 rfl ?_
              refine W.ifc C (pc' := 269) (pn := 265) at_262 (by decide) rfl rfl (W.q_ne (cmpValue (FP.dcmp (own_avg v24 v25) (FP.l2d v5)) .l) (0 : Int32)) (fun hc262 => ?_) (fun hc262 => ?_)
              rotate_left
              · exfalso
                have q := H.2.2.2 (fun z => hc248 (Int64.toInt_inj.mp (by show v9.toInt = 0; omega)))
                rw [q] at hc262
                exact absurd hc262 (by decide)
              refine W.iconst C (x := (0 : Int32)) at_269 rfl rfl ?_
              refine W.icmp C (pc' := 277) (pn := 273) at_270 (by decide) rfl rfl (W.q_ne (0 : Int32) (0 : Int32)) (fun hc270 => ?_) (fun hc270 => ?_)
              · exact absurd rfl hc270
              refine W.iconst C (x := (1 : Int32)) at_273 rfl rfl ?_
              refine W.goto C (pc' := 278) at_274 (by decide) rfl ?_
              refine W.retZ C (w := (1 : Int32)) (by simp) at_278 (by decide) (by decide) (by decide) (fun _ _ _ _ q => q) ?_
              rfl
            · refine W.iconst C (x := (1 : Int32)) at_252 rfl rfl ?_
              refine W.goto C (pc' := 257) at_253 (by decide) rfl ?_
              refine W.dload C at_257 rfl rfl ?_
              refine W.dload C at_259 rfl rfl ?_
              refine W.dcmp C at_261 rfl ?_
              refine W.ifc C (pc' := 269) (pn := 265) at_262 (by decide) rfl rfl (W.q_ne (cmpValue (FP.dcmp (own_avg v24 v25) (FP.l2d v5)) .l) (0 : Int32)) (fun hc262 => ?_) (fun hc262 => ?_)
              · exfalso
                have q := H.2.2.1 (by rw [hc248]; rfl)
                rw [q] at hc262
                exact hc262 rfl
              refine W.iconst C (x := (1 : Int32)) at_265 rfl rfl ?_
              refine W.goto C (pc' := 270) at_266 (by decide) rfl ?_
              refine W.icmp C (pc' := 277) (pn := 273) at_270 (by decide) rfl rfl (W.q_ne (1 : Int32) (1 : Int32)) (fun hc270 => ?_) (fun hc270 => ?_)
              · exact absurd rfl hc270
              refine W.iconst C (x := (1 : Int32)) at_273 rfl rfl ?_
              refine W.goto C (pc' := 278) at_274 (by decide) rfl ?_
              refine W.retZ C (w := (1 : Int32)) (by simp) at_278 (by decide) (by decide) (by decide) (fun _ _ _ _ q => q) ?_
              rfl
      · refine W.new C (hw _ (List.mem_of_getElem? (i := 2) rfl)) (hw _ (List.mem_of_getElem? (i := 3) rfl)) (hw _ (List.mem_of_getElem? (i := 4) rfl)) at_70 rfl (by decide) (by decide) (k' := 1) (n' := 2) rfl rfl ?_
        intro h28 b28 gb28 g0_b28 E28 Ab28 Db28
        have Fb28_messages : Fld Z h28 b28 "com/example/gage/gage/TrafficCounter$LastInterval" "messages" "J" (.long (0 : Int64)) := Db28 (Or.inr (hw _ (List.mem_of_getElem? (i := 17) rfl))) (ty := .long) (by decide)
        have Fb28_bytes : Fld Z h28 b28 "com/example/gage/gage/TrafficCounter$LastInterval" "bytes" "J" (.long (0 : Int64)) := Db28 (Or.inr (hw _ (List.mem_of_getElem? (i := 19) rfl))) (ty := .long) (by decide)
        refine W.dup C at_73 rfl rfl ?_
        refine W.ldc2 C (hw _ (List.mem_of_getElem? (i := 25) rfl)) at_74 rfl ?_
        refine W.lloadN C at_77 rfl rfl ?_
        refine W.callSp C (y := (⟨"com/example/gage/gage/TrafficCounter$LastInterval", "<init>", "(JJ)V"⟩ : MethodName)) (a := b28) rfl (hw _ (List.mem_of_getElem? (i := 5) rfl)) (hw _ (List.mem_of_getElem? (i := 6) rfl)) (hw _ (List.mem_of_getElem? (i := 4) rfl)) (hw _ (List.mem_of_getElem? (i := 7) rfl)) (by decide) (fun hz => rm1 l Z a0 hw [] b28 (-1 : Int64) q0 h28 n0 hz ⟨Ab28, Fb28_messages, Fb28_bytes⟩ g0_b28) at_78 rfl rfl pd_1 rfl (argsL := [(.long (-1 : Int64)), (.long q0)]) (rest := [(.ref b28)]) rfl (W := 1) rfl (by decide) (by decide) (by decide) (by decide) (k' := 1) (n' := 2) rfl rfl ?_
        rintro h29 _ ⟨rfl, K29, O29⟩
        show W.Go p l e _ _ m _ below meth c _ _ _ _ _ _ (mkF m 81 #[.val (.long q0), .second, .val (.int p1), .val (.int p2), .val (.int p3), .val (.int p4), .val (.int (p4 &&& (3 : Int32))), .unset, .unset, .unset, .unset, .unset, .unset, .unset, .unset, .unset, .unset, .unset, .unset, .unset, .unset, .unset, .unset] [(.ref b28)])
        refine W.callV C (y := (⟨"com/example/gage/gage/TrafficCounter$LastInterval", "averageSize", "()D"⟩ : MethodName)) (a := b28) (hw _ (List.mem_of_getElem? (i := 20) rfl)) (hw _ (List.mem_of_getElem? (i := 21) rfl)) (W.nf_sel C (hw _ (List.mem_of_getElem? (i := 23) rfl))) (hw _ (List.mem_of_getElem? (i := 23) rfl)) (hw _ (List.mem_of_getElem? (i := 22) rfl)) (hw _ (List.mem_of_getElem? (i := 4) rfl)) (hw _ (List.mem_of_getElem? (i := 24) rfl)) (by decide) O29.1 (fun hz => rm4 l Z a0 hw [] b28 (-1 : Int64) q0 h29 n0 hz ⟨O29.1, O29.2.1, O29.2.2⟩) at_81 rfl rfl pd_2 rfl (argsL := []) (rest := []) rfl (W := 0) rfl (by decide) (by decide) (by decide) (by decide) (k' := 1) (n' := 2) rfl rfl ?_
        rintro h30 _ ⟨rfl, rfl⟩
        show W.Go p l e _ _ m _ below meth c _ _ _ _ _ _ (mkF m 84 #[.val (.long q0), .second, .val (.int p1), .val (.int p2), .val (.int p3), .val (.int p4), .val (.int (p4 &&& (3 : Int32))), .unset, .unset, .unset, .unset, .unset, .unset, .unset, .unset, .unset, .unset, .unset, .unset, .unset, .unset, .unset, .unset] [(.double (own_avg (-1 : Int64) q0))])
        refine W.lloadN C at_84 rfl rfl ?_
        refine W.l2d C at_85 rfl ?_
        refine W.dneg C at_86 rfl ?_
        refine W.dcmp C at_87 rfl ?_
        refine W.ifc C (pc' := 95) (pn := 91) at_88 (by decide) rfl rfl (W.q_ne (cmpValue (FP.dcmp (own_avg (-1 : Int64) q0) (FP.dneg (FP.l2d q0))) .l) (0 : Int32)) (fun hc88 => ?_) (fun hc88 => ?_)
        · exfalso
          exact hc88 (own_k2 q0)
        refine W.iconst C (x := (1 : Int32)) at_91 rfl rfl ?_
        refine W.goto C (pc' := 96) at_92 (by decide) rfl ?_
        refine W.retZ C (w := (1 : Int32)) (by simp) at_96 (by decide) (by decide) (by decide) (fun _ _ _ _ q => q) ?_
        rfl
    · refine W.new C (hw _ (List.mem_of_getElem? (i := 2) rfl)) (hw _ (List.mem_of_getElem? (i := 3) rfl)) (hw _ (List.mem_of_getElem? (i := 4) rfl)) at_40 rfl (by decide) (by decide) (k' := 1) (n' := 2) rfl rfl ?_
      intro h31 b31 gb31 g0_b31 E31 Ab31 Db31
      have Fb31_messages : Fld Z h31 b31 "com/example/gage/gage/TrafficCounter$LastInterval" "messages" "J" (.long (0 : Int64)) := Db31 (Or.inr (hw _ (List.mem_of_getElem? (i := 17) rfl))) (ty := .long) (by decide)
      have Fb31_bytes : Fld Z h31 b31 "com/example/gage/gage/TrafficCounter$LastInterval" "bytes" "J" (.long (0 : Int64)) := Db31 (Or.inr (hw _ (List.mem_of_getElem? (i := 19) rfl))) (ty := .long) (by decide)
      refine W.dup C at_43 rfl rfl ?_
      refine W.lconst C (x := (1 : Int64)) at_44 rfl rfl ?_
      refine W.lloadN C at_45 rfl rfl ?_
      refine W.callSp C (y := (⟨"com/example/gage/gage/TrafficCounter$LastInterval", "<init>", "(JJ)V"⟩ : MethodName)) (a := b31) rfl (hw _ (List.mem_of_getElem? (i := 5) rfl)) (hw _ (List.mem_of_getElem? (i := 6) rfl)) (hw _ (List.mem_of_getElem? (i := 4) rfl)) (hw _ (List.mem_of_getElem? (i := 7) rfl)) (by decide) (fun hz => rm1 l Z a0 hw [] b31 (1 : Int64) q0 h31 n0 hz ⟨Ab31, Fb31_messages, Fb31_bytes⟩ g0_b31) at_46 rfl rfl pd_1 rfl (argsL := [(.long (1 : Int64)), (.long q0)]) (rest := [(.ref b31)]) rfl (W := 1) rfl (by decide) (by decide) (by decide) (by decide) (k' := 1) (n' := 2) rfl rfl ?_
      rintro h32 _ ⟨rfl, K32, O32⟩
      show W.Go p l e _ _ m _ below meth c _ _ _ _ _ _ (mkF m 49 #[.val (.long q0), .second, .val (.int p1), .val (.int p2), .val (.int p3), .val (.int p4), .val (.int (p4 &&& (3 : Int32))), .unset, .unset, .unset, .unset, .unset, .unset, .unset, .unset, .unset, .unset, .unset, .unset, .unset, .unset, .unset, .unset] [(.ref b31)])
      refine W.callV C (y := (⟨"com/example/gage/gage/TrafficCounter$LastInterval", "averageSize", "()D"⟩ : MethodName)) (a := b31) (hw _ (List.mem_of_getElem? (i := 20) rfl)) (hw _ (List.mem_of_getElem? (i := 21) rfl)) (W.nf_sel C (hw _ (List.mem_of_getElem? (i := 23) rfl))) (hw _ (List.mem_of_getElem? (i := 23) rfl)) (hw _ (List.mem_of_getElem? (i := 22) rfl)) (hw _ (List.mem_of_getElem? (i := 4) rfl)) (hw _ (List.mem_of_getElem? (i := 24) rfl)) (by decide) O32.1 (fun hz => rm4 l Z a0 hw [] b31 (1 : Int64) q0 h32 n0 hz ⟨O32.1, O32.2.1, O32.2.2⟩) at_49 rfl rfl pd_2 rfl (argsL := []) (rest := []) rfl (W := 0) rfl (by decide) (by decide) (by decide) (by decide) (k' := 1) (n' := 2) rfl rfl ?_
      rintro h33 _ ⟨rfl, rfl⟩
      show W.Go p l e _ _ m _ below meth c _ _ _ _ _ _ (mkF m 52 #[.val (.long q0), .second, .val (.int p1), .val (.int p2), .val (.int p3), .val (.int p4), .val (.int (p4 &&& (3 : Int32))), .unset, .unset, .unset, .unset, .unset, .unset, .unset, .unset, .unset, .unset, .unset, .unset, .unset, .unset, .unset, .unset] [(.double (own_avg (1 : Int64) q0))])
      refine W.lloadN C at_52 rfl rfl ?_
      refine W.l2d C at_53 rfl ?_
      refine W.dcmp C at_54 rfl ?_
      refine W.ifc C (pc' := 62) (pn := 58) at_55 (by decide) rfl rfl (W.q_ne (cmpValue (FP.dcmp (own_avg (1 : Int64) q0) (FP.l2d q0)) .l) (0 : Int32)) (fun hc55 => ?_) (fun hc55 => ?_)
      · exfalso
        exact hc55 (own_k1 q0)
      refine W.iconst C (x := (1 : Int32)) at_58 rfl rfl ?_
      refine W.goto C (pc' := 63) at_59 (by decide) rfl ?_
      refine W.retZ C (w := (1 : Int32)) (by simp) at_63 (by decide) (by decide) (by decide) (fun _ _ _ _ q => q) ?_
      rfl
  · refine W.new C (hw _ (List.mem_of_getElem? (i := 2) rfl)) (hw _ (List.mem_of_getElem? (i := 3) rfl)) (hw _ (List.mem_of_getElem? (i := 4) rfl)) at_11 rfl (by decide) (by decide) (k' := 1) (n' := 2) rfl rfl ?_
    intro h34 b34 gb34 g0_b34 E34 Ab34 Db34
    have Fb34_messages : Fld Z h34 b34 "com/example/gage/gage/TrafficCounter$LastInterval" "messages" "J" (.long (0 : Int64)) := Db34 (Or.inr (hw _ (List.mem_of_getElem? (i := 17) rfl))) (ty := .long) (by decide)
    have Fb34_bytes : Fld Z h34 b34 "com/example/gage/gage/TrafficCounter$LastInterval" "bytes" "J" (.long (0 : Int64)) := Db34 (Or.inr (hw _ (List.mem_of_getElem? (i := 19) rfl))) (ty := .long) (by decide)
    refine W.dup C at_14 rfl rfl ?_
    refine W.lconst C (x := (0 : Int64)) at_15 rfl rfl ?_
    refine W.lloadN C at_16 rfl rfl ?_
    refine W.callSp C (y := (⟨"com/example/gage/gage/TrafficCounter$LastInterval", "<init>", "(JJ)V"⟩ : MethodName)) (a := b34) rfl (hw _ (List.mem_of_getElem? (i := 5) rfl)) (hw _ (List.mem_of_getElem? (i := 6) rfl)) (hw _ (List.mem_of_getElem? (i := 4) rfl)) (hw _ (List.mem_of_getElem? (i := 7) rfl)) (by decide) (fun hz => rm1 l Z a0 hw [] b34 (0 : Int64) q0 h34 n0 hz ⟨Ab34, Fb34_messages, Fb34_bytes⟩ g0_b34) at_17 rfl rfl pd_1 rfl (argsL := [(.long (0 : Int64)), (.long q0)]) (rest := [(.ref b34)]) rfl (W := 1) rfl (by decide) (by decide) (by decide) (by decide) (k' := 1) (n' := 2) rfl rfl ?_
    rintro h35 _ ⟨rfl, K35, O35⟩
    show W.Go p l e _ _ m _ below meth c _ _ _ _ _ _ (mkF m 20 #[.val (.long q0), .second, .val (.int p1), .val (.int p2), .val (.int p3), .val (.int p4), .val (.int (p4 &&& (3 : Int32))), .unset, .unset, .unset, .unset, .unset, .unset, .unset, .unset, .unset, .unset, .unset, .unset, .unset, .unset, .unset, .unset] [(.ref b34)])
    refine W.callV C (y := (⟨"com/example/gage/gage/TrafficCounter$LastInterval", "averageSize", "()D"⟩ : MethodName)) (a := b34) (hw _ (List.mem_of_getElem? (i := 20) rfl)) (hw _ (List.mem_of_getElem? (i := 21) rfl)) (W.nf_sel C (hw _ (List.mem_of_getElem? (i := 23) rfl))) (hw _ (List.mem_of_getElem? (i := 23) rfl)) (hw _ (List.mem_of_getElem? (i := 22) rfl)) (hw _ (List.mem_of_getElem? (i := 4) rfl)) (hw _ (List.mem_of_getElem? (i := 24) rfl)) (by decide) O35.1 (fun hz => rm4 l Z a0 hw [] b34 (0 : Int64) q0 h35 n0 hz ⟨O35.1, O35.2.1, O35.2.2⟩) at_20 rfl rfl pd_2 rfl (argsL := []) (rest := []) rfl (W := 0) rfl (by decide) (by decide) (by decide) (by decide) (k' := 1) (n' := 2) rfl rfl ?_
    rintro h36 _ ⟨rfl, rfl⟩
    show W.Go p l e _ _ m _ below meth c _ _ _ _ _ _ (mkF m 23 #[.val (.long q0), .second, .val (.int p1), .val (.int p2), .val (.int p3), .val (.int p4), .val (.int (p4 &&& (3 : Int32))), .unset, .unset, .unset, .unset, .unset, .unset, .unset, .unset, .unset, .unset, .unset, .unset, .unset, .unset, .unset, .unset] [(.double (own_avg (0 : Int64) q0))])
    refine W.dconst0 C at_23 rfl ?_
    refine W.dcmp C at_24 rfl ?_
    refine W.ifc C (pc' := 32) (pn := 28) at_25 (by decide) rfl rfl (W.q_ne (cmpValue (FP.dcmp (own_avg (0 : Int64) q0) FP.dconst0) .l) (0 : Int32)) (fun hc25 => ?_) (fun hc25 => ?_)
    · exfalso
      exact hc25 (by rw [own_avg0 rfl]; decide +kernel)
    refine W.iconst C (x := (1 : Int32)) at_28 rfl rfl ?_
    refine W.goto C (pc' := 33) at_29 (by decide) rfl ?_
    refine W.retZ C (w := (1 : Int32)) (by simp) at_33 (by decide) (by decide) (by decide) (fun _ _ _ _ q => q) ?_
    rfl
set_option maxRecDepth 65536 in
set_option maxHeartbeats 40000000 in
theorem comes_1 {Post : Tables → Env → Array Value → State → Outcome → State → Prop} (hpost : ∀ tb e args s v u, (limb_1_1.after args s (.returned v) u = true ∧ limb_1_2.after args s (.returned v) u = true ∧ True) → FrameEnd s (.returned v) u (Jvm.fieldLocs frame_1_writes args s ++ Jvm.arrayLocs frame_1_arrays args s ++ Jvm.staticLocs frame_1_statics s) 16 128 → Post tb e args s (.returned v) u) :
    ArmFor flags0 classFile x code maxLocals ret World_1 tables_1 room_1 Calls_1 rest_1 Pre_1 Post := by
  intro l hfl _ _ p e ha hc hk s m args below hf hA hF happ hP
  obtain ⟨hcalls, hrest, hpre⟩ := hP
  obtain ⟨-, -, -, hnamed, -, -, -, hat⟩ := (Spec.applies_iff hf).mp happ
  obtain ⟨hg, hn⟩ := and_e (Cond.before_iff.mp (show (Jvm.Cond.and given_1 narrow_1).before args s = true from hpre))
  obtain ⟨gv1, gv2⟩ := and_e hg
  obtain ⟨gv3, gv4⟩ := and_e gv2
  obtain ⟨gv5, gv6⟩ := and_e gv4
  obtain ⟨gv7, gv8⟩ := and_e gv6
  obtain ⟨gv9, gv10⟩ := and_e gv8
  obtain ⟨w0, w1, w2, w3, w4, rfl⟩ : ∃ w0 w1 w2 w3 w4 : Value, args = #[w0, w1, w2, w3, w4] := by
    have hs : args.size = 5 := by simpa [Cond.value, given_1] using gv1
    obtain ⟨L⟩ := args
    match L, hs with
    | [w0, w1, w2, w3, w4], _ => exact ⟨w0, w1, w2, w3, w4, rfl⟩
  have hw := fun d (hd : d ∈ tables_1) => atoms_spec (ws := Jvm.Cond.code x code maxLocals ret :: tables_1) hat d (List.mem_cons_of_mem _ hd)
  have hfit : Fit s := fun {y c} hc i hi => by
    obtain ⟨ha, rfl⟩ := Array.getElem?_eq_some_iff.mp hc
    have q := List.all_eq_true.mp ((Array.all_eq_true_iff_forall_mem.mp hF) _ (Array.getElem_mem ha)) i (List.mem_range.mpr hi)
    simpa [Array.getElem?_eq_getElem hi] using q
  obtain ⟨i0, ei0⟩ := isL_v gv3
  obtain rfl : w0 = (.long i0) := Option.some.inj ei0
  obtain ⟨i1, ei1⟩ := is_v gv5
  obtain rfl : w1 = (.int i1) := Option.some.inj ei1
  obtain ⟨i2, ei2⟩ := is_v gv7
  obtain rfl : w2 = (.int i2) := Option.some.inj ei2
  obtain ⟨i3, ei3⟩ := is_v gv9
  obtain rfl : w3 = (.int i3) := Option.some.inj ei3
  obtain ⟨i4, ei4⟩ := is_v gv10
  obtain rfl : w4 = (.int i4) := Option.some.inj ei4
  obtain ⟨n, o, h1, h2, h3, v, L, rfl, ⟨hGv, N⟩, hq⟩ := rm0 l s _ hw tables_1 i0 i1 i2 i3 i4 s.heap s.heap.size (Nat.le_refl _)  p e ha hc hk s m _ below hf ((Spec.applies_iff_loose hf).mp happ).1 ⟨rfl, State.Warmed39.refl s, rfl⟩ trivial
  obtain rfl : v = some (.int 1) := hGv
  refine ⟨n, _, h1, h2, h3, hpost _ _ _ _ _ _ ⟨Cond.after_iff.mpr rfl, Cond.after_iff.mpr (eq_i res_at (Term.int_eval (1)) rfl), trivial⟩ ⟨hq.1, hq.2.1, (hq.2.2.sift fun y hy => Or.inr (N y hy)).mono (by decide) (by decide)⟩⟩
theorem main_1_1 : Claimed_1_1 := comes_1 fun _ _ _ _ _ _ h hF => ⟨h.1, hF⟩
theorem main_1_2 : Claimed_1_2 := comes_1 fun _ _ _ _ _ _ h hF => ⟨h.2.1, hF⟩
end Jvm.Pilot.@@N@@
namespace Jvm.Pilot.@@N@@
open Jvm Jvm.ClassFile Sem Op Lib Jvm.Free Jvm.Stand Jvm.Pilot.@@N@@.Jvm.D
/-! MADE BY PROGRAM (witnessworld.py) out of the Statement's table words and the real class files: 10 classes; the members and pool entries that the words name. The judged class is class 1, her method 1. -/
namespace start1
open Jvm.ClassFile
def u (s : String) : CpInfo := .utf8 (stringToUtf16 s)
/-- a pool by its gaps: so many unusable entries, then the entry; so many at the end -/
def gap : Nat → List CpInfo → List CpInfo
  | 0, r => r
  | n + 1, r => .unusable :: gap n r
def poolList (es : List (Nat × CpInfo)) (last : Nat) : List CpInfo := es.foldr (fun e r => gap e.1 (e.2 :: r)) (gap last [])
def pool (es : List (Nat × CpInfo)) (last : Nat) : Array CpInfo := ⟨poolList es last⟩
def fileOf (pool : Array CpInfo) (this : Nat) (attrs : Array Attribute := #[]) (ms : Array MethodInfo := #[]) (fl : Nat := 33) (sup : Nat := 0) (ifs : Array Nat := #[]) (fds : Array FieldInfo := #[]) : ClassFile where
  minorVersion := 0
  majorVersion := 65
  constantPool := pool
  accessFlags := fl
  thisClass := this
  superClass := sup
  interfaces := ifs
  fields := fds
  methods := ms
  attributes := attrs
def plain (name : String) (sup : Option ClassId) : Class where
  name := name
  kind := .ordinary
  loader := none
  accessFlags := 33
  super := sup
  interfaces := #[]
  cf := none
  fields := #[]
  methods := #[]
  instanceTypes := #[]
  staticTypes := #[]
  resolved := #[]
  callSites := []
  init := .initialized
  statics := none
  mirror := none

def pool0 : Array CpInfo := pool [(5, u "<init>"), (0, u "()V"), (1, .class_ 10), (1, u "java/lang/Object")] 113

def k0c0 : Code := { maxStack := 0, maxLocals := 1, code := object_method_1_code, exceptionTable := #[], attributes := #[] }
def k0m0 : Method := { name := "<init>", desc := "()V", sig := { parameters := [], returnType := none }, accessFlags := 1, code := some k0c0 }
/-- java/lang/Object -/
def k0 : Class := { plain "java/lang/Object" none with
  accessFlags := 33
  interfaces := #[]
  cf := some (fileOf pool0 8 #[] #[{ accessFlags := 1, nameIndex := 5, descriptorIndex := 6, attributes := #[] }] 33 0 #[] #[])
  fields := #[]
  methods := #[k0m0]
  instanceTypes := #[]
  staticTypes := #[]
  resolved := Array.replicate 124 none
  statics := none }

def pool1 : Array CpInfo := pool [(2, .class_ 4), (1, u "java/lang/Object"), (0, u "<init>"), (0, u "()V"), (0, .class_ 8), (0, u "com/example/gage/gage/TrafficCounter$LastInterval"), (0, .methodref 7 10), (0, .nameAndType 5 11), (0, u "(JJ)V"), (0, .methodref 7 13), (0, .nameAndType 14 15), (0, u "averageSize"), (0, u "()D"), (0, .long 18446744073709551615), (1, .integer 1048575), (0, .integer 2147483647), (0, .class_ 21), (0, u "com/example/gage/gage/LastIntervalAverageSizePinLaw"), (2, u "law"), (0, u "(JIIII)Z")] 7

def k1m0 : Method := { name := "<init>", desc := "()V", sig := { parameters := [], returnType := none }, accessFlags := 1, code := none }
def k1c1 : Code := { maxStack := 6, maxLocals := 23, code := code, exceptionTable := #[], attributes := #[] }
def k1m1 : Method := { name := "law", desc := "(JIIII)Z", sig := { parameters := [.long, .int, .int, .int, .int], returnType := some .boolean }, accessFlags := 9, code := some k1c1 }
/-- com/example/gage/gage/LastIntervalAverageSizePinLaw -/
def k1 : Class := { plain "com/example/gage/gage/LastIntervalAverageSizePinLaw" (some 0) with
  accessFlags := 49
  interfaces := #[]
  cf := some (fileOf pool1 20 #[] #[{ accessFlags := 1, nameIndex := 5, descriptorIndex := 6, attributes := #[] }, { accessFlags := 9, nameIndex := 24, descriptorIndex := 25, attributes := #[] }] 49 2 #[] #[])
  fields := #[]
  methods := #[k1m0, k1m1]
  instanceTypes := #[]
  staticTypes := #[]
  resolved := Array.replicate 33 none
  statics := none }

def pool2 : Array CpInfo := pool [(1, .methodref 2 3), (0, .class_ 4), (0, .nameAndType 5 6), (0, u "java/lang/Object"), (0, u "<init>"), (0, u "()V"), (0, .class_ 8), (0, u "java/lang/Record")] 13

def k2c0 : Code := { maxStack := 1, maxLocals := 1, code := jdk_30_method_1_code, exceptionTable := #[], attributes := #[] }
def k2m0 : Method := { name := "<init>", desc := "()V", sig := { parameters := [], returnType := none }, accessFlags := 4, code := some k2c0 }
/-- java/lang/Record -/
def k2 : Class := { plain "java/lang/Record" (some 0) with
  accessFlags := 1057
  interfaces := #[]
  cf := some (fileOf pool2 7 #[] #[{ accessFlags := 4, nameIndex := 5, descriptorIndex := 6, attributes := #[] }] 1057 2 #[] #[])
  fields := #[]
  methods := #[k2m0]
  instanceTypes := #[]
  staticTypes := #[]
  resolved := Array.replicate 22 none
  statics := none }

def pool3 : Array CpInfo := pool [(1, .methodref 2 3), (0, .class_ 4), (0, .nameAndType 5 6), (0, u "java/lang/Record"), (0, u "<init>"), (0, u "()V"), (0, .fieldref 8 9), (0, .class_ 10), (0, .nameAndType 11 12), (0, u "com/example/gage/gage/TrafficCounter$LastInterval"), (0, u "messages"), (0, u "J"), (0, .fieldref 8 14), (0, .nameAndType 15 12), (0, u "bytes"), (3, .class_ 21), (1, u "com/example/gage/gage/TrafficCounter"), (13, u "(JJ)V"), (4, u "()D"), (1, u "averageSize")] 28

def k3c0 : Code := { maxStack := 3, maxLocals := 5, code := prog_38_method_1_code, exceptionTable := #[], attributes := #[] }
def k3m0 : Method := { name := "<init>", desc := "(JJ)V", sig := { parameters := [.long, .long], returnType := none }, accessFlags := 0, code := some k3c0 }
def k3c1 : Code := { maxStack := 4, maxLocals := 1, code := prog_38_method_4_code, exceptionTable := #[], attributes := #[] }
def k3m1 : Method := { name := "averageSize", desc := "()D", sig := { parameters := [], returnType := some .double }, accessFlags := 0, code := some k3c1 }
/-- com/example/gage/gage/TrafficCounter$LastInterval -/
def k3 : Class := { plain "com/example/gage/gage/TrafficCounter$LastInterval" (some 2) with
  accessFlags := 48
  interfaces := #[]
  cf := some (fileOf pool3 8 #[.nestHost 19] #[{ accessFlags := 0, nameIndex := 5, descriptorIndex := 35, attributes := #[] }, { accessFlags := 0, nameIndex := 42, descriptorIndex := 40, attributes := #[] }] 48 2 #[] #[{ accessFlags := 18, nameIndex := 11, descriptorIndex := 12, attributes := #[] }, { accessFlags := 18, nameIndex := 15, descriptorIndex := 12, attributes := #[] }])
  fields := #[{ name := "messages", type := .long, accessFlags := 18, slot := 0, constantValue := 0 }, { name := "bytes", type := .long, accessFlags := 18, slot := 1, constantValue := 0 }]
  methods := #[k3m0, k3m1]
  instanceTypes := #[.long, .long]
  staticTypes := #[]
  resolved := Array.replicate 71 none
  statics := none }

def pool4 : Array CpInfo := pool [(1, u "java/lang/Cloneable"), (0, .class_ 1), (0, u "java/lang/Object"), (0, .class_ 3)] 3

/-- java/lang/Cloneable -/
def k4 : Class := { plain "java/lang/Cloneable" (some 0) with
  accessFlags := 1537
  interfaces := #[]
  cf := some (fileOf pool4 2 #[] #[] 1537 4 #[] #[])
  fields := #[]
  methods := #[]
  instanceTypes := #[]
  staticTypes := #[]
  resolved := Array.replicate 8 none
  statics := none }

def pool5 : Array CpInfo := pool [(1, u "java/io/Serializable"), (0, .class_ 1), (0, u "java/lang/Object"), (0, .class_ 3)] 3

/-- java/io/Serializable -/
def k5 : Class := { plain "java/io/Serializable" (some 0) with
  accessFlags := 1537
  interfaces := #[]
  cf := some (fileOf pool5 2 #[] #[] 1537 4 #[] #[])
  fields := #[]
  methods := #[]
  instanceTypes := #[]
  staticTypes := #[]
  resolved := Array.replicate 8 none
  statics := none }

/-- the primitive byte -/
def k6 : Class := { plain "byte" none with kind := .primitive 'B', accessFlags := 0x411 }
/-- [B -/
def k7 : Class := { plain "[B" (some 0) with kind := .array 6 .byte, interfaces := #[4, 5], accessFlags := 1041 }

/-- the primitive int -/
def k8 : Class := { plain "int" none with kind := .primitive 'I', accessFlags := 0x411 }
/-- [I -/
def k9 : Class := { plain "[I" (some 0) with kind := .array 8 .int, interfaces := #[4, 5], accessFlags := 1041 }

def heap : Heap := #[]
def classes : Array Class := #[k0, k1, k2, k3, k4, k5, k6, k7, k8, k9]
def interned : List (Array UInt16 × Addr) := []
def slotsUsed : Nat := 0
def theMethod : MethodId := ⟨1, 1⟩
def args0 : Array Value := #[.long 5, .int 6, .int 7, .int 8, .int 9]
def aboutOver (below : List Frame) : State where
  vm := { classes := classes, interned := interned.toArray }
  heap := heap
  slotsUsed := slotsUsed
  threads := #[{ frames := .invoking theMethod args0 :: below }]
def below0 : List Frame := [.native { method := ⟨0, 0⟩, args := #[] }]
def about1 : State := aboutOver below0
def p0 : Program := .bare "" "" ""
def e0 : Env := launch0.env 0 0 0
theorem w_frames : about1.frames = Frame.invoking theMethod args0 :: below0 := rfl
set_option maxRecDepth 65536 in
theorem w_args : argsFit about1.vm theMethod args0 = true := by decide +kernel
set_option maxRecDepth 65536 in
theorem w_heap : heapFits about1 = true := by decide +kernel
set_option maxRecDepth 65536 in
theorem w_runnable : about1.curStatus? = some .runnable := by decide +kernel
set_option maxRecDepth 65536 in
theorem w_alone : about1.alone = true := by decide +kernel
set_option maxRecDepth 65536 in
theorem w_named : about1.methodNamed? x = some theMethod := by decide +kernel
set_option maxRecDepth 65536 in
theorem w_hears : about1.hears theMethod below0 = true := by decide +kernel
set_option maxRecDepth 65536 in
theorem w_ripe : about1.ripe theMethod args0 below0 = true := by decide +kernel
theorem w_running : about1.status = .running := rfl
set_option maxRecDepth 65536 in
theorem w_room : about1.hasRoom e0.platform room_1 = true :=
  launch0.hasRoom_least _ room_1 (by decide +kernel) (by decide +kernel) (by decide +kernel) (by decide +kernel) (by decide +kernel) (by decide +kernel)
theorem allAtoms_all (ts : List Jvm.Cond) (a : Array Jvm.Value) (st : Jvm.State) : (allAtoms ts).before a st = ts.all (fun c => c.before a st) := by
  induction ts with
  | nil => rfl
  | cons c t ih =>
    show (Jvm.Cond.and c (allAtoms t)).before a st = _
    rw [Jvm.Cond.before_and, ih, List.all_cons]
def words1 : List Jvm.Cond := Jvm.Cond.code x code maxLocals ret :: tables_1
/-- a 'code' word, met by the world's own term for the bytes: nothing is compared byte by byte -/
theorem code_word {y : MethodName} {bytes : ByteArray} {mx : Nat} {rt : Option FieldType} {a : Array Value} {s : State} {m : MethodId} {meth : Method} {c : Code} (h1 : s.methodNamed? y = some m) (h2 : s.vm.method? m = some meth) (h3 : meth.code = some c) (h4 : c.code = bytes)
    (h5 : (c.maxLocals == mx && c.exceptionTable.isEmpty && decide (c.maxStack ≤ mostOperands) && decide (meth.sig.returnType = rt) && !meth.locks && decide (parseMethodDescriptor y.desc = some meth.sig)) = true) : (Jvm.Cond.code y bytes mx rt).before a s = true := by
  simp only [Bool.and_eq_true, beq_iff_eq, Bool.not_eq_true', decide_eq_true_eq] at h5
  obtain ⟨⟨⟨⟨⟨g1, g2⟩, g3⟩, g4⟩, g5⟩, g6⟩ := h5
  simp [Cond.before, Cond.holds, Cond.value, h1, h2, h3, h4, g1, g2, g3, g4, g5, g6]
def isCode : Jvm.Cond → Bool
  | .code _ _ _ _ => true
  | _ => false
theorem all_split {L : List Jvm.Cond} {P : Jvm.Cond → Bool} (h1 : L.all (fun c => isCode c || P c) = true) (h2 : ∀ c ∈ L.filter isCode, P c = true) : L.all P = true := by
  refine List.all_eq_true.mpr fun c hc => ?_
  have h := List.all_eq_true.mp h1 c hc
  rcases Bool.eq_false_or_eq_true (isCode c) with hi | hi
  · exact h2 c (List.mem_filter.mpr ⟨hc, hi⟩)
  · simpa [hi] using h
set_option maxRecDepth 65536 in
theorem w_c0 : (Jvm.Cond.code x code maxLocals ret).before args0 about1 = true := code_word (m := ⟨1, 1⟩) (meth := k1m1) (c := k1c1) (by decide +kernel) rfl rfl rfl (by decide +kernel)
set_option maxRecDepth 65536 in
theorem w_c1 : (Jvm.Cond.code ({ cls := "com/example/gage/gage/TrafficCounter$LastInterval", name := "<init>", desc := "(JJ)V" } : Jvm.MethodName) prog_38_method_1_code (5 : Nat) (Option.none : Option Jvm.ClassFile.FieldType)).before args0 about1 = true := code_word (m := ⟨3, 0⟩) (meth := k3m0) (c := k3c0) (by decide +kernel) rfl rfl rfl (by decide +kernel)
set_option maxRecDepth 65536 in
theorem w_c2 : (Jvm.Cond.code ({ cls := "java/lang/Record", name := "<init>", desc := "()V" } : Jvm.MethodName) jdk_30_method_1_code (1 : Nat) (Option.none : Option Jvm.ClassFile.FieldType)).before args0 about1 = true := code_word (m := ⟨2, 0⟩) (meth := k2m0) (c := k2c0) (by decide +kernel) rfl rfl rfl (by decide +kernel)
set_option maxRecDepth 65536 in
theorem w_c3 : (Jvm.Cond.code ({ cls := "java/lang/Object", name := "<init>", desc := "()V" } : Jvm.MethodName) object_method_1_code (1 : Nat) (Option.none : Option Jvm.ClassFile.FieldType)).before args0 about1 = true := code_word (m := ⟨0, 0⟩) (meth := k0m0) (c := k0c0) (by decide +kernel) rfl rfl rfl (by decide +kernel)
set_option maxRecDepth 65536 in
theorem w_c4 : (Jvm.Cond.code ({ cls := "com/example/gage/gage/TrafficCounter$LastInterval", name := "averageSize", desc := "()D" } : Jvm.MethodName) prog_38_method_4_code (1 : Nat) (Option.some Jvm.ClassFile.FieldType.double)).before args0 about1 = true := code_word (m := ⟨3, 1⟩) (meth := k3m1) (c := k3c1) (by decide +kernel) rfl rfl rfl (by decide +kernel)
def codes1 : List Jvm.Cond := [Jvm.Cond.code x code maxLocals ret, Jvm.Cond.code ({ cls := "com/example/gage/gage/TrafficCounter$LastInterval", name := "<init>", desc := "(JJ)V" } : Jvm.MethodName) prog_38_method_1_code (5 : Nat) (Option.none : Option Jvm.ClassFile.FieldType), Jvm.Cond.code ({ cls := "java/lang/Record", name := "<init>", desc := "()V" } : Jvm.MethodName) jdk_30_method_1_code (1 : Nat) (Option.none : Option Jvm.ClassFile.FieldType), Jvm.Cond.code ({ cls := "java/lang/Object", name := "<init>", desc := "()V" } : Jvm.MethodName) object_method_1_code (1 : Nat) (Option.none : Option Jvm.ClassFile.FieldType), Jvm.Cond.code ({ cls := "com/example/gage/gage/TrafficCounter$LastInterval", name := "averageSize", desc := "()D" } : Jvm.MethodName) prog_38_method_4_code (1 : Nat) (Option.some Jvm.ClassFile.FieldType.double)]
set_option maxRecDepth 65536 in
theorem codes_eq : words1.filter isCode = codes1 := rfl
theorem w_codes : ∀ c ∈ words1.filter isCode, c.before args0 about1 = true := by
  rw [codes_eq]
  intro c hc
  simp only [codes1, List.mem_cons, List.not_mem_nil, or_false] at hc
  rcases hc with rfl | rfl | rfl | rfl | rfl
  · exact w_c0
  · exact w_c1
  · exact w_c2
  · exact w_c3
  · exact w_c4
set_option maxRecDepth 65536 in
theorem w_t1 : (words1.take 24).all (fun c => isCode c || c.before args0 about1) = true := by decide +kernel
set_option maxRecDepth 65536 in
theorem w_t2 : (words1.drop 24).all (fun c => isCode c || c.before args0 about1) = true := by decide +kernel
theorem w_tables : (allAtoms (Jvm.Cond.code x code maxLocals ret :: tables_1)).before args0 about1 = true := by
  rw [allAtoms_all]
  show words1.all (fun c => c.before args0 about1) = true
  refine all_split ?_ w_codes
  rw [← List.take_append_drop 24 words1, List.all_append, w_t1, w_t2]
  rfl
set_option maxRecDepth 65536 in
theorem w_case : (Jvm.Cond.and given_1 narrow_1).before args0 about1 = true := by decide +kernel
theorem w_applies : (headSpec (Jvm.Cond.code x code maxLocals ret :: tables_1) room_1).applies x e0.platform about1 = true :=
  (Spec.applies_iff w_frames).mpr ⟨w_running, w_runnable, w_alone, w_named, w_hears, w_ripe, w_room, w_tables⟩
theorem atStart : AtStart classFile x code maxLocals ret World_1 tables_1 room_1 Calls_1 rest_1 Pre_1 launch0 p0 e0 about1 theMethod args0 below0 :=
  ⟨lists_1, trivial, launch0.admits_env _ _ _, launch0.least_env, fairChoices_fair.cas, fairChoices_fair.clock, w_frames, w_args, w_heap, w_applies, trivial, trivial, w_case⟩
end start1
theorem witness_1 : WitnessClaimed_1 := ⟨start1.p0, start1.e0, start1.about1, start1.theMethod, start1.args0, start1.below0, start1.atStart⟩
end Jvm.Pilot.@@N@@
