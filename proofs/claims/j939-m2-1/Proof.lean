import JvmDerived
import JvmDerived.Pilot.@@N@@Statement
import JvmDerived.Pilot.@@N@@Code
set_option linter.unusedVariables false
set_option linter.unusedSimpArgs false
namespace Jvm.Pilot.@@N@@.W
open Jvm Jvm.ClassFile Sem Op Lib Jvm.Free Jvm.Stand Jvm.LawKit Jvm.RoadKit Bundle

/-- the invocation comes to its end from (T, f): what it returns and the heap there are as G says; nothing below n0 is written; at most K cells, N slots are made -/
def Ends (p : Program) (e : Env) (below : List Frame) (Y : State → Outcome → List Loc → Prop) (n0 : Nat) (G : Option Value → Heap → Prop) (T : State) (f : JFrame) : Prop :=
  ∃ s₂ o, Steps p.tables e below (T.setTop f) s₂ ∧ s₂.status = .running ∧ Ended s₂ below o ∧ ∃ v L, o = .returned v ∧ (G v s₂.heap ∧ Fr n0 L) ∧ Y s₂ o L
/-- the walk stands in T, whose heap is h -/
def St (p : Program) (l : Launch) (e : Env) (R : Room) (s : State) (m : MethodId) (args : Array Value) (below : List Frame) (meth : Method) (c : Code) (n0 : Nat) (h : Heap) (k n : Nat) (T : State) : Prop :=
  ∃ locs, Fr n0 locs ∧ Stand p l e R s m args below meth c T locs k n ∧ T.heap = h
/-- what stays through a walk: the machine, the tables of the start, the body, its class, what it returns -/
def Cx (p : Program) (s : State) (m : MethodId) (meth : Method) (c : Code) (Z : State) (n0 : Nat) (own : String) (bytes : ByteArray) (ml : Nat) (ret : Option FieldType) : Prop :=
  p.tables.exec = Jvm.exec ∧ Z.Warmed39 s.vm ∧ c.code = bytes ∧ c.maxLocals = ml ∧ s.vm.findClass own = some m.cls ∧ meth.sig.returnType = ret ∧ meth.locks = false ∧ n0 ≤ s.heap.size
/-- from every state that stands so, with the frame f on top, the invocation comes to its end -/
def Go (p : Program) (l : Launch) (e : Env) (R : Room) (s : State) (m : MethodId) (args : Array Value) (below : List Frame) (meth : Method) (c : Code) (Y : State → Outcome → List Loc → Prop) (n0 : Nat) (G : Option Value → Heap → Prop) (h : Heap) (k n : Nat) (f : JFrame) : Prop :=
  ∀ T, St p l e R s m args below meth c n0 h k n T → Ends p e below Y n0 G T f
/-- a body's contract -/
abbrev Con (l : Launch) (Z : State) (y : MethodName) (bytes : ByteArray) (ml : Nat) (ret : Option FieldType) (ws : List Cond) (rm : Room) (K N : Nat) (as : Array Value) (h0 : Heap) (n0 : Nat) (G : Option Value → Heap → Prop) : Prop :=
  MetFree l y (head1 (Cond.code y bytes ml ret :: ws) rm) (fun a U => a = as ∧ Z.Warmed39 U.vm ∧ U.heap = h0) (fun _ _ _ _ _ => True) (fun _ U o U' => ∃ v L, o = .returned v ∧ (G v U'.heap ∧ Fr n0 L) ∧ FrameEnd U o U' L K N)

section Walk
variable {p : Program} {l : Launch} {e : Env} {R : Room} {s : State} {m : MethodId} {args : Array Value} {below : List Frame} {meth : Method} {c : Code} {K N n0 k n : Nat} {G : Option Value → Heap → Prop} {Y : State → Outcome → List Loc → Prop}
  {Z : State} {a0 : Array Value} {own : String} {bytes : ByteArray} {ml : Nat} {ret : Option FieldType} {Ls Ls' : Array Slot} {S : List Value} {pc pc' pn : Nat} {h h' : Heap}

theorem step {T T' : State} {f f' : JFrame} (q : ∀ target, Steps p.tables e below (T'.setTop f') target → Steps p.tables e below (T.setTop f) target) (g : Ends p e below Y n0 G T' f') : Ends p e below Y n0 G T f := by
  obtain ⟨s₂, o, h1, h2⟩ := g
  exact ⟨s₂, o, q _ h1, h2⟩
theorem stepG {f f' : JFrame} (q : ∀ T locs, Stand p l e R s m args below meth c T locs k n → T.heap = h → ∀ target, Steps p.tables e below (T.setTop f') target → Steps p.tables e below (T.setTop f) target)
    (g : Go p l e R s m args below meth c Y n0 G h k n f') : Go p l e R s m args below meth c Y n0 G h k n f := fun T ⟨locs, F, X, eT⟩ => step (q T locs X eT) (g T ⟨locs, F, X, eT⟩)
theorem Go.mono {f : JFrame} {k2 n2 : Nat} (g : Go p l e R s m args below meth c Y n0 G h k2 n2 f) (h1 : k ≤ k2) (h2 : n ≤ n2) : Go p l e R s m args below meth c Y n0 G h k n f := fun T ⟨locs, F, X, eT⟩ =>
  g T ⟨locs, F, ⟨X.admits, X.cas, X.clock, X.frames, X.room, X.hears, X.method, X.code, X.here, X.tail, X.warmed, X.limits, X.bytes, X.same.mono h1 h2⟩, eT⟩
theorem Go.castF {f f' : JFrame} (q : f = f') (g : Go p l e R s m args below meth c Y n0 G h k n f') : Go p l e R s m args below meth c Y n0 G h k n f := q ▸ g

/-- entering -/
theorem enter {y : MethodName} {as : Array Value} {ws : List Cond} {rm : Room} {h0 : Heap} (hp : plainFor y = true) (Z0 : n0 ≤ h0.size)
    (body : ∀ p e s m below meth c, Cx p s m meth c Z n0 y.cls bytes ml ret → meth.name = y.name → s.heap = h0 → Go p l e rm s m as below meth c (fun s₂ o L => FrameEnd s o s₂ L K N) n0 G h0 0 0 (entryFrame m as ml)) : Con l Z y bytes ml ret ws rm K N as h0 n0 G := by
  refine MetFree.of_bodySF hp hisR ?_
  intro p e s m args below meth c s₁ Bd hml0 hP hK
  obtain ⟨rfl, hZ, hh⟩ := hP
  have X0 : Stand p l e rm s m args below meth c s₁ [] 0 0 := Stand.of_body Bd
  have e0 : s₁.heap = h0 := by rw [← hh, Bd.state]; rfl
  obtain ⟨s₂, o, h1, h2, h3, h4⟩ := body p e s m below meth c ⟨Bd.exec, hZ, Bd.bytes, hml0, findClass_of_methodNamed Bd.named, Bd.returns, Bd.notSynchronized, by rw [hh]; exact Z0⟩ (name_of_methodNamed Bd.named Bd.method).1 hh s₁ ⟨[], Fr.nil _, X0, e0⟩
  exact ⟨s₂, o, h1, h2, h3, h4⟩

/-! loads, stores, constants -/
theorem iloadN (C : Cx p s m meth c Z n0 own bytes ml ret) {i : Fin 4} {v : Int32} (hd : decode bytes pc = .ok (.iload_n i, 1)) (hp : pc + 1 = pc') (hl : Ls[i.val]? = some (.val (.int v)))
    (g : Go p l e R s m args below meth c Y n0 G h k n (mkF m pc' Ls (.int v :: S))) : Go p l e R s m args below meth c Y n0 G h k n (mkF m pc Ls S) := by
  subst hp; exact stepG (fun T locs X _ _ q => XS.iloadN X.here C.1 rfl (hb C.2.2.1 hd) hl q) g
theorem iload (C : Cx p s m meth c Z n0 own bytes ml ret) {i : Nat} {v : Int32} (hd : decode bytes pc = .ok (.iload i, 2)) (hp : pc + 2 = pc') (hl : Ls[i]? = some (.val (.int v)))
    (g : Go p l e R s m args below meth c Y n0 G h k n (mkF m pc' Ls (.int v :: S))) : Go p l e R s m args below meth c Y n0 G h k n (mkF m pc Ls S) := by
  subst hp; exact stepG (fun T locs X _ _ q => XS.iload X.here C.1 rfl (hb C.2.2.1 hd) hl q) g
theorem lloadN (C : Cx p s m meth c Z n0 own bytes ml ret) {i : Fin 4} {v : Int64} (hd : decode bytes pc = .ok (.lload_n i, 1)) (hp : pc + 1 = pc') (hl : Ls[i.val]? = some (.val (.long v)))
    (g : Go p l e R s m args below meth c Y n0 G h k n (mkF m pc' Ls (.long v :: S))) : Go p l e R s m args below meth c Y n0 G h k n (mkF m pc Ls S) := by
  subst hp; exact stepG (fun T locs X _ _ q => XS.lloadN X.here C.1 rfl (hb C.2.2.1 hd) hl q) g
theorem lload (C : Cx p s m meth c Z n0 own bytes ml ret) {i : Nat} {v : Int64} (hd : decode bytes pc = .ok (.lload i, 2)) (hp : pc + 2 = pc') (hl : Ls[i]? = some (.val (.long v)))
    (g : Go p l e R s m args below meth c Y n0 G h k n (mkF m pc' Ls (.long v :: S))) : Go p l e R s m args below meth c Y n0 G h k n (mkF m pc Ls S) := by
  subst hp; exact stepG (fun T locs X _ _ q => XS.lload X.here C.1 rfl (hb C.2.2.1 hd) hl q) g
theorem aloadN (C : Cx p s m meth c Z n0 own bytes ml ret) {i : Fin 4} {v : Value} (hd : decode bytes pc = .ok (.aload_n i, 1)) (hp : pc + 1 = pc') (hl : Ls[i.val]? = some (.val v)) (hv : v.isRef = true)
    (g : Go p l e R s m args below meth c Y n0 G h k n (mkF m pc' Ls (v :: S))) : Go p l e R s m args below meth c Y n0 G h k n (mkF m pc Ls S) := by
  subst hp; exact stepG (fun T locs X _ _ q => XS.aloadN X.here C.1 rfl (hb C.2.2.1 hd) hl hv q) g
theorem aload (C : Cx p s m meth c Z n0 own bytes ml ret) {i : Nat} {v : Value} (hd : decode bytes pc = .ok (.aload i, 2)) (hp : pc + 2 = pc') (hl : Ls[i]? = some (.val v)) (hv : v.isRef = true)
    (g : Go p l e R s m args below meth c Y n0 G h k n (mkF m pc' Ls (v :: S))) : Go p l e R s m args below meth c Y n0 G h k n (mkF m pc Ls S) := by
  subst hp; exact stepG (fun T locs X _ _ q => XS.aload X.here C.1 rfl (hb C.2.2.1 hd) hl hv q) g
theorem istoreN (C : Cx p s m meth c Z n0 own bytes ml ret) {i : Fin 4} {x : Int32} (hd : decode bytes pc = .ok (.istore_n i, 1)) (hp : pc + 1 = pc') (hl : storeLocals Ls i.val (.int x) = some Ls')
    (g : Go p l e R s m args below meth c Y n0 G h k n (mkF m pc' Ls' S)) : Go p l e R s m args below meth c Y n0 G h k n (mkF m pc Ls (.int x :: S)) := by
  subst hp; exact stepG (fun T locs X _ _ q => XS.istoreN X.here C.1 rfl (hb C.2.2.1 hd) rfl hl q) g
theorem istore (C : Cx p s m meth c Z n0 own bytes ml ret) {i : Nat} {x : Int32} (hd : decode bytes pc = .ok (.istore i, 2)) (hp : pc + 2 = pc') (hl : storeLocals Ls i (.int x) = some Ls')
    (g : Go p l e R s m args below meth c Y n0 G h k n (mkF m pc' Ls' S)) : Go p l e R s m args below meth c Y n0 G h k n (mkF m pc Ls (.int x :: S)) := by
  subst hp; exact stepG (fun T locs X _ _ q => XS.istore X.here C.1 rfl (hb C.2.2.1 hd) rfl hl q) g
theorem lstoreN (C : Cx p s m meth c Z n0 own bytes ml ret) {i : Fin 4} {x : Int64} (hd : decode bytes pc = .ok (.lstore_n i, 1)) (hp : pc + 1 = pc') (hl : storeLocals Ls i.val (.long x) = some Ls')
    (g : Go p l e R s m args below meth c Y n0 G h k n (mkF m pc' Ls' S)) : Go p l e R s m args below meth c Y n0 G h k n (mkF m pc Ls (.long x :: S)) := by
  subst hp; exact stepG (fun T locs X _ _ q => XS.lstoreN X.here C.1 rfl (hb C.2.2.1 hd) rfl hl q) g
theorem lstore (C : Cx p s m meth c Z n0 own bytes ml ret) {i : Nat} {x : Int64} (hd : decode bytes pc = .ok (.lstore i, 2)) (hp : pc + 2 = pc') (hl : storeLocals Ls i (.long x) = some Ls')
    (g : Go p l e R s m args below meth c Y n0 G h k n (mkF m pc' Ls' S)) : Go p l e R s m args below meth c Y n0 G h k n (mkF m pc Ls (.long x :: S)) := by
  subst hp; exact stepG (fun T locs X _ _ q => XS.lstore X.here C.1 rfl (hb C.2.2.1 hd) rfl hl q) g
theorem astoreN (C : Cx p s m meth c Z n0 own bytes ml ret) {i : Fin 4} {x : Value} (hd : decode bytes pc = .ok (.astore_n i, 1)) (hp : pc + 1 = pc') (hv : x.isRef = true) (hl : storeLocals Ls i.val x = some Ls')
    (g : Go p l e R s m args below meth c Y n0 G h k n (mkF m pc' Ls' S)) : Go p l e R s m args below meth c Y n0 G h k n (mkF m pc Ls (x :: S)) := by
  subst hp; exact stepG (fun T locs X _ _ q => XS.astoreN X.here C.1 rfl (hb C.2.2.1 hd) rfl hv hl q) g
theorem astore (C : Cx p s m meth c Z n0 own bytes ml ret) {i : Nat} {x : Value} (hd : decode bytes pc = .ok (.astore i, 2)) (hp : pc + 2 = pc') (hv : x.isRef = true) (hl : storeLocals Ls i x = some Ls')
    (g : Go p l e R s m args below meth c Y n0 G h k n (mkF m pc' Ls' S)) : Go p l e R s m args below meth c Y n0 G h k n (mkF m pc Ls (x :: S)) := by
  subst hp; exact stepG (fun T locs X _ _ q => XS.astore X.here C.1 rfl (hb C.2.2.1 hd) rfl hv hl q) g
theorem iconst (C : Cx p s m meth c Z n0 own bytes ml ret) {i : Int} {x : Int32} (hd : decode bytes pc = .ok (.iconst i, 1)) (hp : pc + 1 = pc') (hv : Int32.ofInt i = x)
    (g : Go p l e R s m args below meth c Y n0 G h k n (mkF m pc' Ls (.int x :: S))) : Go p l e R s m args below meth c Y n0 G h k n (mkF m pc Ls S) := by
  subst hp hv; exact stepG (fun T locs X _ _ q => XS.iconst X.here C.1 rfl (hb C.2.2.1 hd) q) g
theorem bipush (C : Cx p s m meth c Z n0 own bytes ml ret) {i : Int} {x : Int32} (hd : decode bytes pc = .ok (.bipush i, 2)) (hp : pc + 2 = pc') (hv : (Int8.ofInt i).toInt32 = x)
    (g : Go p l e R s m args below meth c Y n0 G h k n (mkF m pc' Ls (.int x :: S))) : Go p l e R s m args below meth c Y n0 G h k n (mkF m pc Ls S) := by
  subst hp hv; exact stepG (fun T locs X _ _ q => XS.bipush X.here C.1 rfl (hb C.2.2.1 hd) q) g
theorem sipush (C : Cx p s m meth c Z n0 own bytes ml ret) {i : Int} {x : Int32} (hd : decode bytes pc = .ok (.sipush i, 3)) (hp : pc + 3 = pc') (hv : (Int16.ofInt i).toInt32 = x)
    (g : Go p l e R s m args below meth c Y n0 G h k n (mkF m pc' Ls (.int x :: S))) : Go p l e R s m args below meth c Y n0 G h k n (mkF m pc Ls S) := by
  subst hp hv; exact stepG (fun T locs X _ _ q => XS.sipush X.here C.1 rfl (hb C.2.2.1 hd) q) g
theorem lconst (C : Cx p s m meth c Z n0 own bytes ml ret) {i : Fin 2} {x : Int64} (hd : decode bytes pc = .ok (.lconst i, 1)) (hp : pc + 1 = pc') (hv : Int64.ofNat i = x)
    (g : Go p l e R s m args below meth c Y n0 G h k n (mkF m pc' Ls (.long x :: S))) : Go p l e R s m args below meth c Y n0 G h k n (mkF m pc Ls S) := by
  subst hp hv; exact stepG (fun T locs X _ _ q => XS.lconst X.here C.1 rfl (hb C.2.2.1 hd) q) g
theorem aconst_null (C : Cx p s m meth c Z n0 own bytes ml ret) (hd : decode bytes pc = .ok (.aconst_null, 1)) (hp : pc + 1 = pc')
    (g : Go p l e R s m args below meth c Y n0 G h k n (mkF m pc' Ls (.null :: S))) : Go p l e R s m args below meth c Y n0 G h k n (mkF m pc Ls S) := by
  subst hp; exact stepG (fun T locs X _ _ q => XS.aconstNull X.here C.1 rfl (hb C.2.2.1 hd) q) g
theorem ldcI (C : Cx p s m meth c Z n0 own bytes ml ret) {i : Nat} {v : Int32} (w : (Cond.constant own i v).before a0 Z = true) (hd : decode bytes pc = .ok (.ldc i, 2)) (hp : pc + 2 = pc')
    (g : Go p l e R s m args below meth c Y n0 G h k n (mkF m pc' Ls (.int v :: S))) : Go p l e R s m args below meth c Y n0 G h k n (mkF m pc Ls S) := by
  subst hp; exact stepG (fun T locs X _ t q => X.ldcInt C.1 C.2.2.2.2.1 (mvT C.2.1 w) (g := mkF m pc Ls S) rfl (hb C.2.2.1 hd) t q) g
theorem ldcwI (C : Cx p s m meth c Z n0 own bytes ml ret) {i : Nat} {v : Int32} (w : (Cond.constant own i v).before a0 Z = true) (hd : decode bytes pc = .ok (.ldc_w i, 3)) (hp : pc + 3 = pc')
    (g : Go p l e R s m args below meth c Y n0 G h k n (mkF m pc' Ls (.int v :: S))) : Go p l e R s m args below meth c Y n0 G h k n (mkF m pc Ls S) := by
  subst hp; exact stepG (fun T locs X _ t q => X.ldcwInt C.1 C.2.2.2.2.1 (mvT C.2.1 w) (g := mkF m pc Ls S) rfl (hb C.2.2.1 hd) t q) g
theorem ldc2 (C : Cx p s m meth c Z n0 own bytes ml ret) {i : Nat} {v : Int64} (w : (Cond.constantLong own i v).before a0 Z = true) (hd : decode bytes pc = .ok (.ldc2_w i, 3)) (hp : pc + 3 = pc')
    (g : Go p l e R s m args below meth c Y n0 G h k n (mkF m pc' Ls (.long v :: S))) : Go p l e R s m args below meth c Y n0 G h k n (mkF m pc Ls S) := by
  subst hp; exact stepG (fun T locs X _ t q => X.ldc2Long C.1 C.2.2.2.2.1 (mvT C.2.1 w) (g := mkF m pc Ls S) rfl (hb C.2.2.1 hd) t q) g
theorem iadd (C : Cx p s m meth c Z n0 own bytes ml ret) {x y z : Int32} (hd : decode bytes pc = .ok (.iadd, 1)) (hp : pc + 1 = pc') (hv : x + y = z)
    (g : Go p l e R s m args below meth c Y n0 G h k n (mkF m pc' Ls (.int z :: S))) : Go p l e R s m args below meth c Y n0 G h k n (mkF m pc Ls (.int y :: .int x :: S)) := by
  subst hp hv; exact stepG (fun T locs X _ _ q => XS.iadd X.here C.1 rfl (hb C.2.2.1 hd) rfl q) g
theorem isub (C : Cx p s m meth c Z n0 own bytes ml ret) {x y z : Int32} (hd : decode bytes pc = .ok (.isub, 1)) (hp : pc + 1 = pc') (hv : x - y = z)
    (g : Go p l e R s m args below meth c Y n0 G h k n (mkF m pc' Ls (.int z :: S))) : Go p l e R s m args below meth c Y n0 G h k n (mkF m pc Ls (.int y :: .int x :: S)) := by
  subst hp hv; exact stepG (fun T locs X _ _ q => XS.isub X.here C.1 rfl (hb C.2.2.1 hd) rfl q) g
theorem imul (C : Cx p s m meth c Z n0 own bytes ml ret) {x y z : Int32} (hd : decode bytes pc = .ok (.imul, 1)) (hp : pc + 1 = pc') (hv : x * y = z)
    (g : Go p l e R s m args below meth c Y n0 G h k n (mkF m pc' Ls (.int z :: S))) : Go p l e R s m args below meth c Y n0 G h k n (mkF m pc Ls (.int y :: .int x :: S)) := by
  subst hp hv; exact stepG (fun T locs X _ _ q => XS.imul X.here C.1 rfl (hb C.2.2.1 hd) rfl q) g
theorem iand (C : Cx p s m meth c Z n0 own bytes ml ret) {x y z : Int32} (hd : decode bytes pc = .ok (.iand, 1)) (hp : pc + 1 = pc') (hv : x &&& y = z)
    (g : Go p l e R s m args below meth c Y n0 G h k n (mkF m pc' Ls (.int z :: S))) : Go p l e R s m args below meth c Y n0 G h k n (mkF m pc Ls (.int y :: .int x :: S)) := by
  subst hp hv; exact stepG (fun T locs X _ _ q => XS.iand X.here C.1 rfl (hb C.2.2.1 hd) rfl q) g
theorem ior (C : Cx p s m meth c Z n0 own bytes ml ret) {x y z : Int32} (hd : decode bytes pc = .ok (.ior, 1)) (hp : pc + 1 = pc') (hv : x ||| y = z)
    (g : Go p l e R s m args below meth c Y n0 G h k n (mkF m pc' Ls (.int z :: S))) : Go p l e R s m args below meth c Y n0 G h k n (mkF m pc Ls (.int y :: .int x :: S)) := by
  subst hp hv; exact stepG (fun T locs X _ _ q => XS.ior X.here C.1 rfl (hb C.2.2.1 hd) rfl q) g
theorem ixor (C : Cx p s m meth c Z n0 own bytes ml ret) {x y z : Int32} (hd : decode bytes pc = .ok (.ixor, 1)) (hp : pc + 1 = pc') (hv : x ^^^ y = z)
    (g : Go p l e R s m args below meth c Y n0 G h k n (mkF m pc' Ls (.int z :: S))) : Go p l e R s m args below meth c Y n0 G h k n (mkF m pc Ls (.int y :: .int x :: S)) := by
  subst hp hv; exact stepG (fun T locs X _ _ q => XS.ixor X.here C.1 rfl (hb C.2.2.1 hd) rfl q) g
theorem ladd (C : Cx p s m meth c Z n0 own bytes ml ret) {x y z : Int64} (hd : decode bytes pc = .ok (.ladd, 1)) (hp : pc + 1 = pc') (hv : x + y = z)
    (g : Go p l e R s m args below meth c Y n0 G h k n (mkF m pc' Ls (.long z :: S))) : Go p l e R s m args below meth c Y n0 G h k n (mkF m pc Ls (.long y :: .long x :: S)) := by
  subst hp hv; exact stepG (fun T locs X _ _ q => XS.ladd X.here C.1 rfl (hb C.2.2.1 hd) rfl q) g
theorem lsub (C : Cx p s m meth c Z n0 own bytes ml ret) {x y z : Int64} (hd : decode bytes pc = .ok (.lsub, 1)) (hp : pc + 1 = pc') (hv : x - y = z)
    (g : Go p l e R s m args below meth c Y n0 G h k n (mkF m pc' Ls (.long z :: S))) : Go p l e R s m args below meth c Y n0 G h k n (mkF m pc Ls (.long y :: .long x :: S)) := by
  subst hp hv; exact stepG (fun T locs X _ _ q => XS.lsub X.here C.1 rfl (hb C.2.2.1 hd) rfl q) g
theorem lmul (C : Cx p s m meth c Z n0 own bytes ml ret) {x y z : Int64} (hd : decode bytes pc = .ok (.lmul, 1)) (hp : pc + 1 = pc') (hv : x * y = z)
    (g : Go p l e R s m args below meth c Y n0 G h k n (mkF m pc' Ls (.long z :: S))) : Go p l e R s m args below meth c Y n0 G h k n (mkF m pc Ls (.long y :: .long x :: S)) := by
  subst hp hv; exact stepG (fun T locs X _ _ q => XS.lmul X.here C.1 rfl (hb C.2.2.1 hd) rfl q) g
theorem land (C : Cx p s m meth c Z n0 own bytes ml ret) {x y z : Int64} (hd : decode bytes pc = .ok (.land, 1)) (hp : pc + 1 = pc') (hv : x &&& y = z)
    (g : Go p l e R s m args below meth c Y n0 G h k n (mkF m pc' Ls (.long z :: S))) : Go p l e R s m args below meth c Y n0 G h k n (mkF m pc Ls (.long y :: .long x :: S)) := by
  subst hp hv; exact stepG (fun T locs X _ _ q => XS.land X.here C.1 rfl (hb C.2.2.1 hd) rfl q) g
theorem lor (C : Cx p s m meth c Z n0 own bytes ml ret) {x y z : Int64} (hd : decode bytes pc = .ok (.lor, 1)) (hp : pc + 1 = pc') (hv : x ||| y = z)
    (g : Go p l e R s m args below meth c Y n0 G h k n (mkF m pc' Ls (.long z :: S))) : Go p l e R s m args below meth c Y n0 G h k n (mkF m pc Ls (.long y :: .long x :: S)) := by
  subst hp hv; exact stepG (fun T locs X _ _ q => XS.lor X.here C.1 rfl (hb C.2.2.1 hd) rfl q) g
theorem lxor (C : Cx p s m meth c Z n0 own bytes ml ret) {x y z : Int64} (hd : decode bytes pc = .ok (.lxor, 1)) (hp : pc + 1 = pc') (hv : x ^^^ y = z)
    (g : Go p l e R s m args below meth c Y n0 G h k n (mkF m pc' Ls (.long z :: S))) : Go p l e R s m args below meth c Y n0 G h k n (mkF m pc Ls (.long y :: .long x :: S)) := by
  subst hp hv; exact stepG (fun T locs X _ _ q => XS.lxor X.here C.1 rfl (hb C.2.2.1 hd) rfl q) g
theorem ishl (C : Cx p s m meth c Z n0 own bytes ml ret) {x z : Int32} {y : Int32} (hd : decode bytes pc = .ok (.ishl, 1)) (hp : pc + 1 = pc') (hv : (x <<< (y &&& 31)) = z)
    (g : Go p l e R s m args below meth c Y n0 G h k n (mkF m pc' Ls (.int z :: S))) : Go p l e R s m args below meth c Y n0 G h k n (mkF m pc Ls (.int y :: .int x :: S)) := by
  subst hp hv; exact stepG (fun T locs X _ _ q => XS.ishl X.here C.1 rfl (hb C.2.2.1 hd) rfl q) g
theorem ishr (C : Cx p s m meth c Z n0 own bytes ml ret) {x z : Int32} {y : Int32} (hd : decode bytes pc = .ok (.ishr, 1)) (hp : pc + 1 = pc') (hv : (x >>> (y &&& 31)) = z)
    (g : Go p l e R s m args below meth c Y n0 G h k n (mkF m pc' Ls (.int z :: S))) : Go p l e R s m args below meth c Y n0 G h k n (mkF m pc Ls (.int y :: .int x :: S)) := by
  subst hp hv; exact stepG (fun T locs X _ _ q => XS.ishr X.here C.1 rfl (hb C.2.2.1 hd) rfl q) g
theorem iushr (C : Cx p s m meth c Z n0 own bytes ml ret) {x z : Int32} {y : Int32} (hd : decode bytes pc = .ok (.iushr, 1)) (hp : pc + 1 = pc') (hv : ((x).toUInt32 >>> (y &&& 31).toUInt32).toInt32 = z)
    (g : Go p l e R s m args below meth c Y n0 G h k n (mkF m pc' Ls (.int z :: S))) : Go p l e R s m args below meth c Y n0 G h k n (mkF m pc Ls (.int y :: .int x :: S)) := by
  subst hp hv; exact stepG (fun T locs X _ _ q => XS.iushr X.here C.1 rfl (hb C.2.2.1 hd) rfl q) g
theorem lshl (C : Cx p s m meth c Z n0 own bytes ml ret) {x z : Int64} {y : Int32} (hd : decode bytes pc = .ok (.lshl, 1)) (hp : pc + 1 = pc') (hv : (x <<< (y &&& 0x3f).toInt64) = z)
    (g : Go p l e R s m args below meth c Y n0 G h k n (mkF m pc' Ls (.long z :: S))) : Go p l e R s m args below meth c Y n0 G h k n (mkF m pc Ls (.int y :: .long x :: S)) := by
  subst hp hv; exact stepG (fun T locs X _ _ q => XS.lshl X.here C.1 rfl (hb C.2.2.1 hd) rfl q) g
theorem lshr (C : Cx p s m meth c Z n0 own bytes ml ret) {x z : Int64} {y : Int32} (hd : decode bytes pc = .ok (.lshr, 1)) (hp : pc + 1 = pc') (hv : (x >>> (y &&& 0x3f).toInt64) = z)
    (g : Go p l e R s m args below meth c Y n0 G h k n (mkF m pc' Ls (.long z :: S))) : Go p l e R s m args below meth c Y n0 G h k n (mkF m pc Ls (.int y :: .long x :: S)) := by
  subst hp hv; exact stepG (fun T locs X _ _ q => XS.lshr X.here C.1 rfl (hb C.2.2.1 hd) rfl q) g
theorem lushr (C : Cx p s m meth c Z n0 own bytes ml ret) {x z : Int64} {y : Int32} (hd : decode bytes pc = .ok (.lushr, 1)) (hp : pc + 1 = pc') (hv : ((x).toUInt64 >>> (y &&& 0x3f).toInt64.toUInt64).toInt64 = z)
    (g : Go p l e R s m args below meth c Y n0 G h k n (mkF m pc' Ls (.long z :: S))) : Go p l e R s m args below meth c Y n0 G h k n (mkF m pc Ls (.int y :: .long x :: S)) := by
  subst hp hv; exact stepG (fun T locs X _ _ q => XS.lushr X.here C.1 rfl (hb C.2.2.1 hd) rfl q) g
theorem ineg (C : Cx p s m meth c Z n0 own bytes ml ret) {x : Int32} {z : Int32} (hd : decode bytes pc = .ok (.ineg, 1)) (hp : pc + 1 = pc') (hv : (-x) = z)
    (g : Go p l e R s m args below meth c Y n0 G h k n (mkF m pc' Ls (.int z :: S))) : Go p l e R s m args below meth c Y n0 G h k n (mkF m pc Ls (.int x :: S)) := by
  subst hp hv; exact stepG (fun T locs X _ _ q => XS.ineg X.here C.1 rfl (hb C.2.2.1 hd) rfl q) g
theorem lneg (C : Cx p s m meth c Z n0 own bytes ml ret) {x : Int64} {z : Int64} (hd : decode bytes pc = .ok (.lneg, 1)) (hp : pc + 1 = pc') (hv : (-x) = z)
    (g : Go p l e R s m args below meth c Y n0 G h k n (mkF m pc' Ls (.long z :: S))) : Go p l e R s m args below meth c Y n0 G h k n (mkF m pc Ls (.long x :: S)) := by
  subst hp hv; exact stepG (fun T locs X _ _ q => XS.lneg X.here C.1 rfl (hb C.2.2.1 hd) rfl q) g
theorem i2l (C : Cx p s m meth c Z n0 own bytes ml ret) {x : Int32} {z : Int64} (hd : decode bytes pc = .ok (.i2l, 1)) (hp : pc + 1 = pc') (hv : (x).toInt64 = z)
    (g : Go p l e R s m args below meth c Y n0 G h k n (mkF m pc' Ls (.long z :: S))) : Go p l e R s m args below meth c Y n0 G h k n (mkF m pc Ls (.int x :: S)) := by
  subst hp hv; exact stepG (fun T locs X _ _ q => XS.i2l X.here C.1 rfl (hb C.2.2.1 hd) rfl q) g
theorem l2i (C : Cx p s m meth c Z n0 own bytes ml ret) {x : Int64} {z : Int32} (hd : decode bytes pc = .ok (.l2i, 1)) (hp : pc + 1 = pc') (hv : (x).toInt32 = z)
    (g : Go p l e R s m args below meth c Y n0 G h k n (mkF m pc' Ls (.int z :: S))) : Go p l e R s m args below meth c Y n0 G h k n (mkF m pc Ls (.long x :: S)) := by
  subst hp hv; exact stepG (fun T locs X _ _ q => XS.l2i X.here C.1 rfl (hb C.2.2.1 hd) rfl q) g
theorem i2b (C : Cx p s m meth c Z n0 own bytes ml ret) {x : Int32} {z : Int32} (hd : decode bytes pc = .ok (.i2b, 1)) (hp : pc + 1 = pc') (hv : (x).toInt8.toInt32 = z)
    (g : Go p l e R s m args below meth c Y n0 G h k n (mkF m pc' Ls (.int z :: S))) : Go p l e R s m args below meth c Y n0 G h k n (mkF m pc Ls (.int x :: S)) := by
  subst hp hv; exact stepG (fun T locs X _ _ q => XS.i2b X.here C.1 rfl (hb C.2.2.1 hd) rfl q) g
theorem i2s (C : Cx p s m meth c Z n0 own bytes ml ret) {x : Int32} {z : Int32} (hd : decode bytes pc = .ok (.i2s, 1)) (hp : pc + 1 = pc') (hv : (x).toInt16.toInt32 = z)
    (g : Go p l e R s m args below meth c Y n0 G h k n (mkF m pc' Ls (.int z :: S))) : Go p l e R s m args below meth c Y n0 G h k n (mkF m pc Ls (.int x :: S)) := by
  subst hp hv; exact stepG (fun T locs X _ _ q => XS.i2s X.here C.1 rfl (hb C.2.2.1 hd) rfl q) g
theorem i2c (C : Cx p s m meth c Z n0 own bytes ml ret) {x : Int32} {z : Int32} (hd : decode bytes pc = .ok (.i2c, 1)) (hp : pc + 1 = pc') (hv : (x).toUInt32.toUInt16.toUInt32.toInt32 = z)
    (g : Go p l e R s m args below meth c Y n0 G h k n (mkF m pc' Ls (.int z :: S))) : Go p l e R s m args below meth c Y n0 G h k n (mkF m pc Ls (.int x :: S)) := by
  subst hp hv; exact stepG (fun T locs X _ _ q => XS.i2c X.here C.1 rfl (hb C.2.2.1 hd) rfl q) g
theorem idiv (C : Cx p s m meth c Z n0 own bytes ml ret) {x y z : Int32} (hd : decode bytes pc = .ok (.idiv, 1)) (hp : pc + 1 = pc') (hy : y ≠ 0) (hv : x / y = z)
    (g : Go p l e R s m args below meth c Y n0 G h k n (mkF m pc' Ls (.int z :: S))) : Go p l e R s m args below meth c Y n0 G h k n (mkF m pc Ls (.int y :: .int x :: S)) := by
  subst hp hv; exact stepG (fun T locs X _ _ q => XS.idiv X.here C.1 rfl (hb C.2.2.1 hd) rfl hy q) g
theorem ldiv (C : Cx p s m meth c Z n0 own bytes ml ret) {x y z : Int64} (hd : decode bytes pc = .ok (.ldiv, 1)) (hp : pc + 1 = pc') (hy : y ≠ 0) (hv : x / y = z)
    (g : Go p l e R s m args below meth c Y n0 G h k n (mkF m pc' Ls (.long z :: S))) : Go p l e R s m args below meth c Y n0 G h k n (mkF m pc Ls (.long y :: .long x :: S)) := by
  subst hp hv; exact stepG (fun T locs X _ _ q => XS.ldiv X.here C.1 rfl (hb C.2.2.1 hd) rfl hy q) g
theorem irem (C : Cx p s m meth c Z n0 own bytes ml ret) {x y z : Int32} (hd : decode bytes pc = .ok (.irem, 1)) (hp : pc + 1 = pc') (hy : y ≠ 0) (hv : x % y = z)
    (g : Go p l e R s m args below meth c Y n0 G h k n (mkF m pc' Ls (.int z :: S))) : Go p l e R s m args below meth c Y n0 G h k n (mkF m pc Ls (.int y :: .int x :: S)) := by
  subst hp; rw [← irem_eq_mod x y] at hv; subst hv; exact stepG (fun T locs X _ _ q => XS.irem X.here C.1 rfl (hb C.2.2.1 hd) rfl hy q) g
theorem lrem (C : Cx p s m meth c Z n0 own bytes ml ret) {x y z : Int64} (hd : decode bytes pc = .ok (.lrem, 1)) (hp : pc + 1 = pc') (hy : y ≠ 0) (hv : x % y = z)
    (g : Go p l e R s m args below meth c Y n0 G h k n (mkF m pc' Ls (.long z :: S))) : Go p l e R s m args below meth c Y n0 G h k n (mkF m pc Ls (.long y :: .long x :: S)) := by
  subst hp; rw [← lrem_mod x y] at hv; subst hv; exact stepG (fun T locs X _ _ q => XS.lrem X.here C.1 rfl (hb C.2.2.1 hd) rfl hy q) g
theorem iinc (C : Cx p s m meth c Z n0 own bytes ml ret) {i : Nat} {cst : Int} {x z : Int32} (hd : decode bytes pc = .ok (.iinc i cst, 3)) (hp : pc + 3 = pc') (hl : Ls[i]? = some (.val (.int x))) (hv : x + Int32.ofInt cst = z) (hl' : storeLocals Ls i (.int z) = some Ls')
    (g : Go p l e R s m args below meth c Y n0 G h k n (mkF m pc' Ls' S)) : Go p l e R s m args below meth c Y n0 G h k n (mkF m pc Ls S) := by
  subst hp hv; exact stepG (fun T locs X _ _ q => XS.iinc X.here C.1 rfl (hb C.2.2.1 hd) hl hl' q) g
theorem dup (C : Cx p s m meth c Z n0 own bytes ml ret) {x : Value} (hd : decode bytes pc = .ok (.dup, 1)) (hp : pc + 1 = pc') (hc : x.category = 1)
    (g : Go p l e R s m args below meth c Y n0 G h k n (mkF m pc' Ls (x :: x :: S))) : Go p l e R s m args below meth c Y n0 G h k n (mkF m pc Ls (x :: S)) := by
  subst hp; exact stepG (fun T locs X _ _ q => XS.dup X.here C.1 rfl (hb C.2.2.1 hd) rfl hc q) g
theorem dup_x1 (C : Cx p s m meth c Z n0 own bytes ml ret) {x y : Value} (hd : decode bytes pc = .ok (.dup_x1, 1)) (hp : pc + 1 = pc') (hc : x.category = 1) (hc2 : y.category = 1)
    (g : Go p l e R s m args below meth c Y n0 G h k n (mkF m pc' Ls (x :: y :: x :: S))) : Go p l e R s m args below meth c Y n0 G h k n (mkF m pc Ls (x :: y :: S)) := by
  subst hp; exact stepG (fun T locs X _ _ q => XS.dupX1 X.here C.1 rfl (hb C.2.2.1 hd) rfl hc hc2 q) g
theorem dup2L (C : Cx p s m meth c Z n0 own bytes ml ret) {x : Int64} (hd : decode bytes pc = .ok (.dup2, 1)) (hp : pc + 1 = pc')
    (g : Go p l e R s m args below meth c Y n0 G h k n (mkF m pc' Ls (.long x :: .long x :: S))) : Go p l e R s m args below meth c Y n0 G h k n (mkF m pc Ls (.long x :: S)) := by
  subst hp; exact stepG (fun T locs X _ _ q => Jvm.Free.XT.dup2L X.here C.1 rfl (hb C.2.2.1 hd) rfl q) g
theorem dup2 (C : Cx p s m meth c Z n0 own bytes ml ret) {x y : Value} (hd : decode bytes pc = .ok (.dup2, 1)) (hp : pc + 1 = pc') (hc : x.category = 1) (hc2 : y.category = 1)
    (g : Go p l e R s m args below meth c Y n0 G h k n (mkF m pc' Ls (x :: y :: x :: y :: S))) : Go p l e R s m args below meth c Y n0 G h k n (mkF m pc Ls (x :: y :: S)) := by
  subst hp; exact stepG (fun T locs X _ _ q => Jvm.Free.XT.dup2 X.here C.1 rfl (hb C.2.2.1 hd) rfl hc hc2 q) g
theorem pop (C : Cx p s m meth c Z n0 own bytes ml ret) {x : Value} (hd : decode bytes pc = .ok (.pop, 1)) (hp : pc + 1 = pc') (hc : x.category = 1)
    (g : Go p l e R s m args below meth c Y n0 G h k n (mkF m pc' Ls S)) : Go p l e R s m args below meth c Y n0 G h k n (mkF m pc Ls (x :: S)) := by
  subst hp; exact stepG (fun T locs X _ _ q => XS.pop X.here C.1 rfl (hb C.2.2.1 hd) rfl hc q) g
theorem goto (C : Cx p s m meth c Z n0 own bytes ml ret) {o : Int} (hd : decode bytes pc = .ok (.goto o, 3)) (ho : 0 ≤ (pc : Int) + o) (hp : ((pc : Int) + o).toNat = pc')
    (g : Go p l e R s m args below meth c Y n0 G h k n (mkF m pc' Ls S)) : Go p l e R s m args below meth c Y n0 G h k n (mkF m pc Ls S) := by
  exact stepG (fun T locs X _ _ q => XS.goto X.here C.1 rfl (pc0 := pc) rfl (hb C.2.2.1 hd) ho hp q) g

/-! branches: P: taken, P': not taken -/
theorem icmp (C : Cx p s m meth c Z n0 own bytes ml ret) {cd : ClassFile.Cond} {o : Int} {x y : Int32} (hd : decode bytes pc = .ok (.if_icmp cd o, 3)) (ho : 0 ≤ (pc : Int) + o) (hp : ((pc : Int) + o).toNat = pc') (hn : pc + 3 = pn)
    {P P' : Prop} (q : (P → if_icmp.holds cd x y = true) ∧ (P' → if_icmp.holds cd x y = false) ∧ (P ∨ P'))
    (g1 : P → Go p l e R s m args below meth c Y n0 G h k n (mkF m pc' Ls S)) (g2 : P' → Go p l e R s m args below meth c Y n0 G h k n (mkF m pn Ls S)) : Go p l e R s m args below meth c Y n0 G h k n (mkF m pc Ls (.int y :: .int x :: S)) := by
  rcases q.2.2 with hP | hP
  · exact stepG (fun T locs X _ _ z => XS.icmpYes X.here C.1 rfl (pc0 := pc) rfl (hb C.2.2.1 hd) rfl (q.1 hP) ho hp z) (g1 hP)
  · subst hn; exact stepG (fun T locs X _ _ z => XS.icmpNo X.here C.1 rfl (hb C.2.2.1 hd) rfl (q.2.1 hP) z) (g2 hP)
theorem ifc (C : Cx p s m meth c Z n0 own bytes ml ret) {cd : ClassFile.Cond} {o : Int} {x : Int32} (hd : decode bytes pc = .ok (.ifCond cd o, 3)) (ho : 0 ≤ (pc : Int) + o) (hp : ((pc : Int) + o).toNat = pc') (hn : pc + 3 = pn)
    {P P' : Prop} (q : (P → if_icmp.holds cd x 0 = true) ∧ (P' → if_icmp.holds cd x 0 = false) ∧ (P ∨ P'))
    (g1 : P → Go p l e R s m args below meth c Y n0 G h k n (mkF m pc' Ls S)) (g2 : P' → Go p l e R s m args below meth c Y n0 G h k n (mkF m pn Ls S)) : Go p l e R s m args below meth c Y n0 G h k n (mkF m pc Ls (.int x :: S)) := by
  rcases q.2.2 with hP | hP
  · exact stepG (fun T locs X _ _ z => XS.ifYes X.here C.1 rfl (pc0 := pc) rfl (hb C.2.2.1 hd) rfl ((if0 _ _).trans (q.1 hP)) ho hp z) (g1 hP)
  · subst hn; exact stepG (fun T locs X _ _ z => XS.ifNo X.here C.1 rfl (hb C.2.2.1 hd) rfl ((if0 _ _).trans (q.2.1 hP)) z) (g2 hP)
/-- lcmp and the branch behind it -/
theorem lcif (C : Cx p s m meth c Z n0 own bytes ml ret) {cd : ClassFile.Cond} {o : Int} {x y : Int64} {pm : Nat} (hd0 : decode bytes pc = .ok (.lcmp, 1)) (hm : pc + 1 = pm) (hd : decode bytes pm = .ok (.ifCond cd o, 3)) (ho : 0 ≤ (pm : Int) + o) (hp : ((pm : Int) + o).toNat = pc') (hn : pm + 3 = pn)
    {P P' : Prop} (q : (P → if_icmp.holds cd (lcmpW x y) 0 = true) ∧ (P' → if_icmp.holds cd (lcmpW x y) 0 = false) ∧ (P ∨ P'))
    (g1 : P → Go p l e R s m args below meth c Y n0 G h k n (mkF m pc' Ls S)) (g2 : P' → Go p l e R s m args below meth c Y n0 G h k n (mkF m pn Ls S)) : Go p l e R s m args below meth c Y n0 G h k n (mkF m pc Ls (.long y :: .long x :: S)) := by
  subst hm
  exact stepG (fun T locs X _ _ z => XS.lcmp X.here C.1 rfl (hb C.2.2.1 hd0) rfl z) (ifc C hd ho hp hn q g1 g2)
theorem q_lt (x y : Int32) : (x.toInt < y.toInt → if_icmp.holds .lt x y = true) ∧ (y.toInt ≤ x.toInt → if_icmp.holds .lt x y = false) ∧ (x.toInt < y.toInt ∨ y.toInt ≤ x.toInt) :=
  ⟨fun q => (tlt (Int32.lt_iff_toInt_lt.mpr q)).1, fun q => (flt (fun w => absurd (Int32.lt_iff_toInt_lt.mp w) (Int.not_lt.mpr q))).1, Int.lt_or_le _ _⟩
theorem q_ge (x y : Int32) : (y.toInt ≤ x.toInt → if_icmp.holds .ge x y = true) ∧ (x.toInt < y.toInt → if_icmp.holds .ge x y = false) ∧ (y.toInt ≤ x.toInt ∨ x.toInt < y.toInt) :=
  ⟨fun q => (flt (fun w => absurd (Int32.lt_iff_toInt_lt.mp w) (Int.not_lt.mpr q))).2.1, fun q => (tlt (Int32.lt_iff_toInt_lt.mpr q)).2.1, (Int.lt_or_le _ _).symm⟩
theorem q_gt (x y : Int32) : (y.toInt < x.toInt → if_icmp.holds .gt x y = true) ∧ (x.toInt ≤ y.toInt → if_icmp.holds .gt x y = false) ∧ (y.toInt < x.toInt ∨ x.toInt ≤ y.toInt) :=
  ⟨fun q => (tlt (Int32.lt_iff_toInt_lt.mpr q)).2.2.1, fun q => (flt (fun w => absurd (Int32.lt_iff_toInt_lt.mp w) (Int.not_lt.mpr q))).2.2.1, Int.lt_or_le _ _⟩
theorem q_le (x y : Int32) : (x.toInt ≤ y.toInt → if_icmp.holds .le x y = true) ∧ (y.toInt < x.toInt → if_icmp.holds .le x y = false) ∧ (x.toInt ≤ y.toInt ∨ y.toInt < x.toInt) :=
  ⟨fun q => (flt (fun w => absurd (Int32.lt_iff_toInt_lt.mp w) (Int.not_lt.mpr q))).2.2.2, fun q => (tlt (Int32.lt_iff_toInt_lt.mpr q)).2.2.2, (Int.lt_or_le _ _).symm⟩
theorem q_eq (x y : Int32) : (x = y → if_icmp.holds .eq x y = true) ∧ (¬ x = y → if_icmp.holds .eq x y = false) ∧ (x = y ∨ ¬ x = y) := ⟨fun q => (teq q).1, fun q => (feq q).1, Classical.em _⟩
theorem q_ne (x y : Int32) : (¬ x = y → if_icmp.holds .ne x y = true) ∧ (x = y → if_icmp.holds .ne x y = false) ∧ (¬ x = y ∨ x = y) := ⟨fun q => (feq q).2, fun q => (teq q).2, (Classical.em _).symm⟩
theorem ql_lt (x y : Int64) : (x.toInt < y.toInt → if_icmp.holds .lt (lcmpW x y) 0 = true) ∧ (y.toInt ≤ x.toInt → if_icmp.holds .lt (lcmpW x y) 0 = false) ∧ (x.toInt < y.toInt ∨ y.toInt ≤ x.toInt) :=
  ⟨fun q => (tlt ((lw_lt x y).mpr (Int64.lt_iff_toInt_lt.mpr q))).1, fun q => (flt (fun w => absurd (Int64.lt_iff_toInt_lt.mp ((lw_lt x y).mp w)) (Int.not_lt.mpr q))).1, Int.lt_or_le _ _⟩
theorem ql_ge (x y : Int64) : (y.toInt ≤ x.toInt → if_icmp.holds .ge (lcmpW x y) 0 = true) ∧ (x.toInt < y.toInt → if_icmp.holds .ge (lcmpW x y) 0 = false) ∧ (y.toInt ≤ x.toInt ∨ x.toInt < y.toInt) :=
  ⟨fun q => (flt (fun w => absurd (Int64.lt_iff_toInt_lt.mp ((lw_lt x y).mp w)) (Int.not_lt.mpr q))).2.1, fun q => (tlt ((lw_lt x y).mpr (Int64.lt_iff_toInt_lt.mpr q))).2.1, (Int.lt_or_le _ _).symm⟩
theorem ql_gt (x y : Int64) : (y.toInt < x.toInt → if_icmp.holds .gt (lcmpW x y) 0 = true) ∧ (x.toInt ≤ y.toInt → if_icmp.holds .gt (lcmpW x y) 0 = false) ∧ (y.toInt < x.toInt ∨ x.toInt ≤ y.toInt) :=
  ⟨fun q => (tlt ((lw_gt x y).mpr (Int64.lt_iff_toInt_lt.mpr q))).2.2.1, fun q => (flt (fun w => absurd (Int64.lt_iff_toInt_lt.mp ((lw_gt x y).mp w)) (Int.not_lt.mpr q))).2.2.1, Int.lt_or_le _ _⟩
theorem ql_le (x y : Int64) : (x.toInt ≤ y.toInt → if_icmp.holds .le (lcmpW x y) 0 = true) ∧ (y.toInt < x.toInt → if_icmp.holds .le (lcmpW x y) 0 = false) ∧ (x.toInt ≤ y.toInt ∨ y.toInt < x.toInt) :=
  ⟨fun q => (flt (fun w => absurd (Int64.lt_iff_toInt_lt.mp ((lw_gt x y).mp w)) (Int.not_lt.mpr q))).2.2.2, fun q => (tlt ((lw_gt x y).mpr (Int64.lt_iff_toInt_lt.mpr q))).2.2.2, (Int.lt_or_le _ _).symm⟩
theorem ql_eq (x y : Int64) : (x = y → if_icmp.holds .eq (lcmpW x y) 0 = true) ∧ (¬ x = y → if_icmp.holds .eq (lcmpW x y) 0 = false) ∧ (x = y ∨ ¬ x = y) := ⟨fun q => (teq ((lw_eq x y).mpr q)).1, fun q => (feq (fun w => q ((lw_eq x y).mp w))).1, Classical.em _⟩
theorem ql_ne (x y : Int64) : (¬ x = y → if_icmp.holds .ne (lcmpW x y) 0 = true) ∧ (x = y → if_icmp.holds .ne (lcmpW x y) 0 = false) ∧ (¬ x = y ∨ x = y) := ⟨fun q => (feq (fun w => q ((lw_eq x y).mp w))).2, fun q => (teq ((lw_eq x y).mpr q)).2, (Classical.em _).symm⟩

theorem acmp (C : Cx p s m meth c Z n0 own bytes ml ret) {cd : ACond} {o : Int} {x y : Value} (h1 : x.isRef = true) (h2 : y.isRef = true) (hd : decode bytes pc = .ok (.if_acmp cd o, 3)) (ho : 0 ≤ (pc : Int) + o) (hp : ((pc : Int) + o).toNat = pc') (hn : pc + 3 = pn)
    {P P' : Prop} (q : (P → acV cd (decide (x = y)) = true) ∧ (P' → acV cd (decide (x = y)) = false) ∧ (P ∨ P'))
    (g1 : P → Go p l e R s m args below meth c Y n0 G h k n (mkF m pc' Ls S)) (g2 : P' → Go p l e R s m args below meth c Y n0 G h k n (mkF m pn Ls S)) : Go p l e R s m args below meth c Y n0 G h k n (mkF m pc Ls (y :: x :: S)) := by
  rcases q.2.2 with hP | hP
  · exact stepG (fun T locs X _ _ z => Jvm.RoadKit.acmp (g := mkF m pc Ls (y :: x :: S)) X C.1 rfl h1 h2 (pc0 := pc) (pc' := pc') (same := decide (x = y)) rfl (hb C.2.2.1 hd) rfl rfl ho (by rw [q.1 hP]; exact hp.symm) z) (g1 hP)
  · exact stepG (fun T locs X _ _ z => Jvm.RoadKit.acmp (g := mkF m pc Ls (y :: x :: S)) X C.1 rfl h1 h2 (pc0 := pc) (pc' := pn) (same := decide (x = y)) rfl (hb C.2.2.1 hd) rfl rfl ho (by rw [q.2.1 hP]; exact hn.symm) z) (g2 hP)
theorem qa_eq (a b : Addr) : (a = b → acV .eq (decide (Value.ref a = Value.ref b)) = true) ∧ (¬ a = b → acV .eq (decide (Value.ref a = Value.ref b)) = false) ∧ (a = b ∨ ¬ a = b) :=
  ⟨fun q => decide_eq_true (congrArg Value.ref q), fun q => decide_eq_false fun z => q (Value.ref.inj z), Classical.em _⟩
theorem qa_ne (a b : Addr) : (¬ a = b → acV .ne (decide (Value.ref a = Value.ref b)) = true) ∧ (a = b → acV .ne (decide (Value.ref a = Value.ref b)) = false) ∧ (¬ a = b ∨ a = b) :=
  ⟨fun q => by rw [decide_eq_false fun z => q (Value.ref.inj z)]; rfl, fun q => by rw [decide_eq_true (congrArg Value.ref q)]; rfl, (Classical.em _).symm⟩
theorem ifnullT (C : Cx p s m meth c Z n0 own bytes ml ret) {o : Int} (hd : decode bytes pc = .ok (.ifnull o, 3)) (ho : 0 ≤ (pc : Int) + o) (hp : ((pc : Int) + o).toNat = pc')
    (g : Go p l e R s m args below meth c Y n0 G h k n (mkF m pc' Ls S)) : Go p l e R s m args below meth c Y n0 G h k n (mkF m pc Ls (.null :: S)) := stepG (fun T locs X _ _ z => XS.ifnullYes X.here C.1 rfl (pc0 := pc) rfl (hb C.2.2.1 hd) rfl ho hp z) g
theorem ifnullF (C : Cx p s m meth c Z n0 own bytes ml ret) {o : Int} {a : Addr} (hd : decode bytes pc = .ok (.ifnull o, 3)) (hp : pc + 3 = pc')
    (g : Go p l e R s m args below meth c Y n0 G h k n (mkF m pc' Ls S)) : Go p l e R s m args below meth c Y n0 G h k n (mkF m pc Ls (.ref a :: S)) := by subst hp; exact stepG (fun T locs X _ _ z => XS.ifnullNo X.here C.1 rfl (hb C.2.2.1 hd) rfl z) g
theorem ifnonnullT (C : Cx p s m meth c Z n0 own bytes ml ret) {o : Int} {a : Addr} (hd : decode bytes pc = .ok (.ifnonnull o, 3)) (ho : 0 ≤ (pc : Int) + o) (hp : ((pc : Int) + o).toNat = pc')
    (g : Go p l e R s m args below meth c Y n0 G h k n (mkF m pc' Ls S)) : Go p l e R s m args below meth c Y n0 G h k n (mkF m pc Ls (.ref a :: S)) := stepG (fun T locs X _ _ z => XS.ifnonnullYes X.here C.1 rfl (pc0 := pc) rfl (hb C.2.2.1 hd) rfl ho hp z) g
theorem ifnonnullF (C : Cx p s m meth c Z n0 own bytes ml ret) {o : Int} (hd : decode bytes pc = .ok (.ifnonnull o, 3)) (hp : pc + 3 = pc')
    (g : Go p l e R s m args below meth c Y n0 G h k n (mkF m pc' Ls S)) : Go p l e R s m args below meth c Y n0 G h k n (mkF m pc Ls (.null :: S)) := by subst hp; exact stepG (fun T locs X _ _ z => XS.ifnonnullNo X.here C.1 rfl (hb C.2.2.1 hd) rfl z) g

/-! returns -/
theorem retZ {t : FieldType} (C : Cx p s m meth c Z n0 own bytes ml (some t)) {z w : Int32} (ht : t = .boolean ∨ t = .byte ∨ t = .char ∨ t = .short) (hd : decode bytes pc = .ok (.ireturn, 1)) (hv : nar t z = w) (hk : k ≤ K) (hn : n ≤ N) (hY : ∀ s₂ o L, s₂.heap = h → FrameEnd s o s₂ L K N → Y s₂ o L) (g : G (some (.int w)) h) :
    Go p l e R s m args below meth c Y n0 G h k n (mkF m pc Ls (.int z :: S)) := fun T ⟨locs, F, X, eT⟩ => by
  subst hv eT
  have hlk : meth.locks = false := C.2.2.2.2.2.2.1
  obtain ⟨fs, hr, hrun, hended, hW, hsame⟩ := X.leave (v := some (.int (nar t z))) (fun q => by rw [C.2.2.2.2.2.1] at q; cases q) hlk
  exact ⟨_, _, retN X C.1 (t := t) C.2.2.2.2.2.1 ht (hb C.2.2.1 hd) hr, hrun, hended, _, _, rfl, ⟨g, F⟩, hY _ _ _ rfl ⟨⟨_, rfl⟩, hW, hsame.mono hk hn⟩⟩
theorem retV {t : FieldType} (C : Cx p s m meth c Z n0 own bytes ml (some t)) {w : Value} {i : Instr} (hv : narrow t w = w)
    (hi : (i = .ireturn ∧ (t = .int ∨ t = .boolean ∨ t = .byte ∨ t = .char ∨ t = .short) ∧ ∃ z, w = .int z) ∨ (i = .lreturn ∧ t = .long ∧ ∃ z, w = .long z) ∨ (i = .dreturn ∧ t = .double ∧ ∃ z, w = .double z) ∨ (i = .freturn ∧ t = .float ∧ ∃ z, w = .float z) ∨ (i = .areturn ∧ t.isReference = true ∧ w.isRef = true))
    (hd : decode bytes pc = .ok (i, 1)) (hk : k ≤ K) (hn : n ≤ N) (hY : ∀ s₂ o L, s₂.heap = h → FrameEnd s o s₂ L K N → Y s₂ o L) (g : G (some w) h) :
    Go p l e R s m args below meth c Y n0 G h k n (mkF m pc Ls (w :: S)) := fun T ⟨locs, F, X, eT⟩ => by
  subst eT
  have hlk : meth.locks = false := C.2.2.2.2.2.2.1
  obtain ⟨fs, hr, hrun, hended, hW, hsame⟩ := X.leave (v := some w) (fun q => by rw [C.2.2.2.2.2.1] at q; cases q) hlk
  exact ⟨_, _, retOut X C.1 (t := t) C.2.2.2.2.2.1 hv hi (hb C.2.2.1 hd) hr, hrun, hended, _, _, rfl, ⟨g, F⟩, hY _ _ _ rfl ⟨⟨_, rfl⟩, hW, hsame.mono hk hn⟩⟩
theorem retI (C : Cx p s m meth c Z n0 own bytes ml (some .int)) {z : Int32} (hd : decode bytes pc = .ok (.ireturn, 1)) (hk : k ≤ K) (hn : n ≤ N) (hY : ∀ s₂ o L, s₂.heap = h → FrameEnd s o s₂ L K N → Y s₂ o L) (g : G (some (.int z)) h) :
    Go p l e R s m args below meth c Y n0 G h k n (mkF m pc Ls (.int z :: S)) := retV C rfl (Or.inl ⟨rfl, Or.inl rfl, _, rfl⟩) hd hk hn hY g
theorem retL (C : Cx p s m meth c Z n0 own bytes ml (some .long)) {z : Int64} (hd : decode bytes pc = .ok (.lreturn, 1)) (hk : k ≤ K) (hn : n ≤ N) (hY : ∀ s₂ o L, s₂.heap = h → FrameEnd s o s₂ L K N → Y s₂ o L) (g : G (some (.long z)) h) :
    Go p l e R s m args below meth c Y n0 G h k n (mkF m pc Ls (.long z :: S)) := retV C rfl (Or.inr (Or.inl ⟨rfl, rfl, _, rfl⟩)) hd hk hn hY g
theorem retA {t : FieldType} (C : Cx p s m meth c Z n0 own bytes ml (some t)) {w : Value} (ht : t.isReference = true) (hw : w.isRef = true) (hn' : narrow t w = w) (hd : decode bytes pc = .ok (.areturn, 1)) (hk : k ≤ K) (hn : n ≤ N) (hY : ∀ s₂ o L, s₂.heap = h → FrameEnd s o s₂ L K N → Y s₂ o L) (g : G (some w) h) :
    Go p l e R s m args below meth c Y n0 G h k n (mkF m pc Ls (w :: S)) := retV C hn' (Or.inr (Or.inr (Or.inr (Or.inr ⟨rfl, ht, hw⟩)))) hd hk hn hY g
theorem ret0 (C : Cx p s m meth c Z n0 own bytes ml none) (hd : decode bytes pc = .ok (.return_, 1)) (hk : k ≤ K) (hn : n ≤ N) (hY : ∀ s₂ o L, s₂.heap = h → FrameEnd s o s₂ L K N → Y s₂ o L) (g : G none h) :
    Go p l e R s m args below meth c Y n0 G h k n (mkF m pc Ls []) := fun T ⟨locs, F, X, eT⟩ => by
  subst eT
  have hlk : meth.locks = false := C.2.2.2.2.2.2.1
  obtain ⟨fs, hr, hrun, hended, hW, hsame⟩ := X.leave (v := none) (fun _ => rfl) hlk
  exact ⟨_, _, X.returnOut C.1 C.2.2.2.2.2.1 (hb C.2.2.1 hd) hr, hrun, hended, _, _, rfl, ⟨g, F⟩, hY _ _ _ rfl ⟨⟨_, rfl⟩, hW, hsame.mono hk hn⟩⟩

theorem hz (C : Cx p s m meth c Z n0 own bytes ml ret) {T : State} {locs : List Loc} (X : Stand p l e R s m args below meth c T locs k n) (eT : T.heap = h) : n0 ≤ h.size := eT ▸ Nat.le_trans C.2.2.2.2.2.2.2 X.same.2.1
/-! calls -/
theorem callS (C : Cx p s m meth c Z n0 own bytes ml ret) {i : Nat} {y : MethodName} {b' : ByteArray} {mL : Nat} {r' : Option FieldType} {rm : Room} {Gc : Option Value → Heap → Prop} {argsL rest : List Value} {W : Nat}
    (w1 : (Cond.methodLink own i y).before a0 Z = true) (w2 : (Cond.static y).before a0 Z = true) (w3 : (Cond.initialized y.cls).before a0 Z = true) (w4 : (Cond.code y b' mL r').before a0 Z = true)
    (hy : y.cls ≠ "java/lang/invoke/MethodHandle" ∧ y.cls ≠ "java/lang/invoke/VarHandle") (con : n0 ≤ h.size → Con l Z y b' mL r' [] rm rm.cells rm.slots argsL.toArray h n0 Gc)
    (hd : decode bytes pc = .ok (.invokestatic i, 3)) (hp : pc + 3 = pc') (hsz : Ls.size = ml) {ps : List FieldType} {rr : Option FieldType} (hds : parseMethodDescriptor y.desc = some ⟨ps, rr⟩) (hlen : argsL.length = ps.length)
    (hS : S = argsL.reverse ++ rest) (hW : (rest.map fun v => v.category).sum = W) (hf : rm.frames + 1 ≤ R.frames) (hl : W + (mL + 11) + rm.locals ≤ R.locals) (hc : k + rm.cells ≤ R.cells) (hs : n + rm.slots ≤ R.slots) {k' n' : Nat} (hk' : k + rm.cells = k') (hn' : n + rm.slots = n')
    (g : ∀ h' v, Gc v h' → Go p l e R s m args below meth c Y n0 G h' k' n' (mkF m pc' Ls (v.toList ++ rest))) :
    Go p l e R s m args below meth c Y n0 G h k n (mkF m pc Ls S) := fun T ⟨locs, F, X, eT⟩ => by
  subst hp hS hk' hn'
  obtain ⟨v, _, ⟨T', L', k', n'⟩, -, X', ⟨Lc, ⟨hQ, hF⟩, l1, y1, z1⟩, st⟩ := Jvm.LawKit.callS X C.1 C.2.2.2.2.1 (mvT C.2.1 w1) (mvT C.2.1 w2) (mvT C.2.1 w3) (mvT C.2.1 w4) hy
    (backOf (W := W) (Q := fun v h L => Gc v h ∧ Fr n0 L) (con (hz C X eT)) C.2.1 w4 w3 hf hl) (g := mkF m pc Ls (argsL.reverse ++ rest)) rfl (hsz.trans C.2.2.2.1.symm) (argsL := argsL) (rest := rest) (lenOf hds hlen) rfl (by show 2 * 0 + _ ≤ _; rw [Nat.mul_zero, Nat.zero_add]; exact Nat.le_of_eq hW) (hb C.2.2.1 hd) (fun _ _ => ⟨rfl, eT, hc, hs⟩)
  dsimp only [Pt.U, Pt.locs, Pt.cells, Pt.slots] at X' l1 y1 z1 st hQ
  subst l1 y1 z1
  exact step (fun t q => st t q) (g T'.heap v hQ T' ⟨_, Fr.app F hF, X', rfl⟩)
theorem callSp (C : Cx p s m meth c Z n0 own bytes ml ret) {i : Nat} {y : MethodName} {b' : ByteArray} {mL : Nat} {rm : Room} {Gc : Option Value → Heap → Prop} {a : Addr} {argsL rest : List Value} {W : Nat} (hy1 : y.name = "<init>")
    (w1 : (Cond.methodLink own i y).before a0 Z = true) (w2 : (Cond.instanceMethod y).before a0 Z = true) (w3 : (Cond.initialized y.cls).before a0 Z = true) (w4 : (Cond.code y b' mL none).before a0 Z = true)
    (hy : y.cls ≠ "java/lang/invoke/MethodHandle" ∧ y.cls ≠ "java/lang/invoke/VarHandle") (con : n0 ≤ h.size → Con l Z y b' mL none [] rm rm.cells rm.slots (.ref a :: argsL).toArray h n0 Gc)
    (hd : decode bytes pc = .ok (.invokespecial i, 3)) (hp : pc + 3 = pc') (hsz : Ls.size = ml) {ps : List FieldType} {rr : Option FieldType} (hds : parseMethodDescriptor y.desc = some ⟨ps, rr⟩) (hlen : argsL.length = ps.length)
    (hS : S = argsL.reverse ++ .ref a :: rest) (hW : (rest.map fun v => v.category).sum = W) (hf : rm.frames + 1 ≤ R.frames) (hl : W + (mL + 11) + rm.locals ≤ R.locals) (hc : k + rm.cells ≤ R.cells) (hs : n + rm.slots ≤ R.slots) {k' n' : Nat} (hk' : k + rm.cells = k') (hn' : n + rm.slots = n')
    (g : ∀ h' v, Gc v h' → Go p l e R s m args below meth c Y n0 G h' k' n' (mkF m pc' Ls (v.toList ++ rest))) :
    Go p l e R s m args below meth c Y n0 G h k n (mkF m pc Ls S) := fun T ⟨locs, F, X, eT⟩ => by
  subst hp hS hk' hn'
  obtain ⟨v, _, ⟨T', L', k', n'⟩, -, X', ⟨Lc, ⟨hQ, hF⟩, l1, y1, z1⟩, st⟩ := X.specialBack C.1 hy1 C.2.2.2.2.1 (mvT C.2.1 w1) (mvT C.2.1 w2) (mvT C.2.1 w4) hy
    (backOf (W := W) (Q := fun v h L => Gc v h ∧ Fr n0 L) (con (hz C X eT)) C.2.1 w4 w3 hf hl) (g := mkF m pc Ls (argsL.reverse ++ .ref a :: rest)) rfl (hsz.trans C.2.2.2.1.symm) (Steps.refl _) (a := a) (argsL := argsL) (rest := rest) (lenOf hds hlen) rfl (by show 2 * 0 + _ ≤ _; rw [Nat.mul_zero, Nat.zero_add]; exact Nat.le_of_eq hW) (hb C.2.2.1 hd) (fun _ _ => ⟨rfl, eT, hc, hs⟩)
  dsimp only [Pt.U, Pt.locs, Pt.cells, Pt.slots] at X' l1 y1 z1 st hQ
  subst l1 y1 z1
  exact step (fun t q => st.trans q) (g T'.heap v hQ T' ⟨_, Fr.app F hF, X', rfl⟩)
theorem callV (C : Cx p s m meth c Z n0 own bytes ml ret) {i : Nat} {y z : MethodName} {b' : ByteArray} {mL : Nat} {r' : Option FieldType} {rm : Room} {Gc : Option Value → Heap → Prop} {a : Addr} {argsL rest : List Value} {W : Nat} {Cn : String}
    (w1 : (Cond.methodLink own i y).before a0 Z = true) (w2 : (Cond.declares y).before a0 Z = true) (hnf : NotFace s y) (w5 : (Cond.selects Cn y z).before a0 Z = true) (w6 : (Cond.instanceMethod z).before a0 Z = true) (w3 : (Cond.initialized z.cls).before a0 Z = true) (w4 : (Cond.code z b' mL r').before a0 Z = true)
    (hy : y.cls ≠ "java/lang/invoke/MethodHandle" ∧ y.cls ≠ "java/lang/invoke/VarHandle") (E : Exa Z h a Cn) (con : n0 ≤ h.size → Con l Z z b' mL r' [] rm rm.cells rm.slots (.ref a :: argsL).toArray h n0 Gc)
    (hd : decode bytes pc = .ok (.invokevirtual i, 3)) (hp : pc + 3 = pc') (hsz : Ls.size = ml) {ps : List FieldType} {rr : Option FieldType} (hds : parseMethodDescriptor y.desc = some ⟨ps, rr⟩) (hlen : argsL.length = ps.length)
    (hS : S = argsL.reverse ++ .ref a :: rest) (hW : (rest.map fun v => v.category).sum = W) (hf : rm.frames + 1 ≤ R.frames) (hl : W + (mL + 11) + rm.locals ≤ R.locals) (hc : k + rm.cells ≤ R.cells) (hs : n + rm.slots ≤ R.slots) {k' n' : Nat} (hk' : k + rm.cells = k') (hn' : n + rm.slots = n')
    (g : ∀ h' v, Gc v h' → Go p l e R s m args below meth c Y n0 G h' k' n' (mkF m pc' Ls (v.toList ++ rest))) :
    Go p l e R s m args below meth c Y n0 G h k n (mkF m pc Ls S) := fun T ⟨locs, F, X, eT⟩ => by
  subst hp hS hk' hn'
  obtain ⟨cq, kq, qa, qb, qc⟩ := isOf C.2.1 eT E
  obtain ⟨v, _, ⟨T', L', k', n'⟩, -, X', ⟨Lc, ⟨hQ, hF⟩, l1, y1, z1⟩, st⟩ := X.virtualBack C.1 C.2.2.2.2.1 (mvT C.2.1 w1) (mvT C.2.1 w2) hnf (mvT C.2.1 w5) (mvT C.2.1 w6) hy
    (backOf (W := W) (Q := fun v h L => Gc v h ∧ Fr n0 L) (con (hz C X eT)) C.2.1 w4 w3 hf hl) qa qc (g := mkF m pc Ls (argsL.reverse ++ .ref a :: rest)) rfl (hsz.trans C.2.2.2.1.symm) (Steps.refl _) (argsL := argsL) (rest := rest) (lenOf hds hlen) rfl (by show 2 * 0 + _ ≤ _; rw [Nat.mul_zero, Nat.zero_add]; exact Nat.le_of_eq hW) (hb C.2.2.1 hd) (fun _ _ => ⟨rfl, eT, hc, hs⟩)
  dsimp only [Pt.U, Pt.locs, Pt.cells, Pt.slots] at X' l1 y1 z1 st hQ
  subst l1 y1 z1
  exact step (fun t q => st.trans q) (g T'.heap v hQ T' ⟨_, Fr.app F hF, X', rfl⟩)
theorem callI (C : Cx p s m meth c Z n0 own bytes ml ret) {i cnt : Nat} {y z : MethodName} {b' : ByteArray} {mL : Nat} {r' : Option FieldType} {rm : Room} {Gc : Option Value → Heap → Prop} {a : Addr} {argsL rest : List Value} {W : Nat} {Cn : String}
    (w1 : (Cond.methodLink own i y).before a0 Z = true) (w2 : (Cond.declares y).before a0 Z = true) (w7 : (Cond.interfaceMethod y.cls y.cls y.name y.desc).before a0 Z = true) (w5 : (Cond.selects Cn y z).before a0 Z = true) (w6 : (Cond.instanceMethod z).before a0 Z = true) (w8 : (Cond.publicMethod z).before a0 Z = true) (w9 : (Cond.unhidden Cn y.name y.desc).before a0 Z = true) (w10 : (Cond.castable Cn y.cls).before a0 Z = true)
    (w3 : (Cond.initialized z.cls).before a0 Z = true) (w4 : (Cond.code z b' mL r').before a0 Z = true)
    (hy : y.cls ≠ "java/lang/invoke/MethodHandle" ∧ y.cls ≠ "java/lang/invoke/VarHandle") (E : Exa Z h a Cn) (con : n0 ≤ h.size → Con l Z z b' mL r' [] rm rm.cells rm.slots (.ref a :: argsL).toArray h n0 Gc)
    (hd : decode bytes pc = .ok (.invokeinterface i cnt, 5)) (hp : pc + 5 = pc') (hsz : Ls.size = ml) {ps : List FieldType} {rr : Option FieldType} (hds : parseMethodDescriptor y.desc = some ⟨ps, rr⟩) (hlen : argsL.length = ps.length)
    (hS : S = argsL.reverse ++ .ref a :: rest) (hW : (rest.map fun v => v.category).sum = W) (hf : rm.frames + 1 ≤ R.frames) (hl : W + (mL + 11) + rm.locals ≤ R.locals) (hc : k + rm.cells ≤ R.cells) (hs : n + rm.slots ≤ R.slots) {k' n' : Nat} (hk' : k + rm.cells = k') (hn' : n + rm.slots = n')
    (g : ∀ h' v, Gc v h' → Go p l e R s m args below meth c Y n0 G h' k' n' (mkF m pc' Ls (v.toList ++ rest))) :
    Go p l e R s m args below meth c Y n0 G h k n (mkF m pc Ls S) := fun T ⟨locs, F, X, eT⟩ => by
  subst hp hS hk' hn'
  obtain ⟨cq, kq, qa, qb, qc⟩ := isOf C.2.1 eT E
  obtain ⟨v, _, ⟨T', L', k', n'⟩, -, X', ⟨Lc, ⟨hQ, hF⟩, l1, y1, z1⟩, st⟩ := X.interfaceBack C.1 C.2.2.2.2.1 (mvT C.2.1 w1) (mvT C.2.1 w2) (mvT C.2.1 w7 (by simp [Cond.onTables, Cond.keepsFace, Cond.keeps, Cond.steady, Cond.faceAtom, hy.1, hy.2])) (mvT C.2.1 w5) (mvT C.2.1 w6) (mvT C.2.1 w8) (mvT C.2.1 w9) (mvT C.2.1 w10) hy
    (backOf (W := W) (Q := fun v h L => Gc v h ∧ Fr n0 L) (con (hz C X eT)) C.2.1 w4 w3 hf hl) qa qb qc (g := mkF m pc Ls (argsL.reverse ++ .ref a :: rest)) rfl (hsz.trans C.2.2.2.1.symm) (Steps.refl _) (argsL := argsL) (rest := rest) (lenOf hds hlen) rfl (by show 2 * 0 + _ ≤ _; rw [Nat.mul_zero, Nat.zero_add]; exact Nat.le_of_eq hW) (hb C.2.2.1 hd) (fun _ _ => ⟨rfl, eT, hc, hs⟩)
  dsimp only [Pt.U, Pt.locs, Pt.cells, Pt.slots] at X' l1 y1 z1 st hQ
  subst l1 y1 z1
  exact step (fun t q => st.trans q) (g T'.heap v hQ T' ⟨_, Fr.app F hF, X', rfl⟩)
/-- a private method by invokevirtual: no 'selects' word is wanted; the class is instantiable -/
theorem callP (C : Cx p s m meth c Z n0 own bytes ml ret) {i q : Nat} {y : MethodName} {b' : ByteArray} {mL : Nat} {r' : Option FieldType} {rm : Room} {Gc : Option Value → Heap → Prop} {a : Addr} {argsL rest : List Value} {W : Nat} {Cn : String}
    (w1 : (Cond.methodLink own i y).before a0 Z = true) (w6 : (Cond.instanceMethod y).before a0 Z = true) (w7 : (Cond.privateMethod y).before a0 Z = true) (w8 : (Cond.instantiable y.cls q).before a0 Z = true) (w3 : (Cond.initialized y.cls).before a0 Z = true) (w4 : (Cond.code y b' mL r').before a0 Z = true)
    (hy : y.cls ≠ "java/lang/invoke/MethodHandle" ∧ y.cls ≠ "java/lang/invoke/VarHandle") (E : Exa Z h a Cn) (con : n0 ≤ h.size → Con l Z y b' mL r' [] rm rm.cells rm.slots (.ref a :: argsL).toArray h n0 Gc)
    (hd : decode bytes pc = .ok (.invokevirtual i, 3)) (hp : pc + 3 = pc') (hsz : Ls.size = ml) {ps : List FieldType} {rr : Option FieldType} (hds : parseMethodDescriptor y.desc = some ⟨ps, rr⟩) (hlen : argsL.length = ps.length)
    (hS : S = argsL.reverse ++ .ref a :: rest) (hW : (rest.map fun v => v.category).sum = W) (hf : rm.frames + 1 ≤ R.frames) (hl : W + (mL + 11) + rm.locals ≤ R.locals) (hc : k + rm.cells ≤ R.cells) (hs : n + rm.slots ≤ R.slots) {k' n' : Nat} (hk' : k + rm.cells = k') (hn' : n + rm.slots = n')
    (g : ∀ h' v, Gc v h' → Go p l e R s m args below meth c Y n0 G h' k' n' (mkF m pc' Ls (v.toList ++ rest))) :
    Go p l e R s m args below meth c Y n0 G h k n (mkF m pc Ls S) := fun T ⟨locs, F, X, eT⟩ => by
  subst hp hS hk' hn'
  obtain ⟨cell, hc1, hc2⟩ := E.cell
  obtain ⟨mk, methM, hnamed, hmethM, hstM, habM⟩ := Cond.instanceMethod_spec (mvT (args := args) C.2.1 w6)
  obtain ⟨methM', cM, hmethM', -, -, -, -, -, -, hsigM⟩ := Cond.code_spec hnamed (mvT (args := args) C.2.1 w4)
  cases hmethM.symm.trans hmethM'
  obtain ⟨cid, kP, z1, z2, z3, z4, -⟩ := Cond.instantiable_spec (mvT (args := args) C.2.1 w8)
  have z5 : cid = mk.cls := Option.some.inj (z1.symm.trans (findClass_of_methodNamed hnamed))
  subst z5
  have z6 : kP.isInterface = false := by simp only [Bool.or_eq_false_iff] at z4; exact z4.1
  obtain ⟨vm₁, X₁, hstep₁⟩ := X.invokevirtual C.1 C.2.2.2.2.1 (mvT C.2.1 w1) hnamed hmethM hstM z2 z6 hy (a := a) (cell := cell) (by rw [eT]; exact hc1) hc2 (selectMethod_private hmethM (Cond.privateMethod_at (mvP C.2.1 w7 (args := #[])) mk methM hnamed hmethM)) hmethM habM z2 z6 (g := mkF m pc Ls (argsL.reverse ++ .ref a :: rest)) rfl (argsL := argsL) (rest := rest) (lenOf hds hlen _ hsigM) rfl (hb C.2.2.1 hd)
  obtain ⟨v, ⟨T', L', k', n'⟩, X', ⟨Lc, ⟨hQ, hF⟩, l1, y1, z1⟩, hsteps⟩ := (backOf (W := W) (len := 3) (Q := fun v h L => Gc v h ∧ Fr n0 L) (con (hz C X eT)) C.2.1 w4 w3 hf hl) m meth c ⟨T.setVm vm₁, locs, k, n⟩ (mkF m pc Ls rest) (.invokevirtual i) mk (.ref a :: argsL).toArray X₁ rfl (hsz.trans C.2.2.2.1.symm) (hb C.2.2.1 hd) (by show 2 * 0 + _ ≤ _; rw [Nat.mul_zero, Nat.zero_add]; exact Nat.le_of_eq hW) (X₁.named hnamed) ⟨rfl, eT, hc, hs⟩
  dsimp only [Pt.U, Pt.locs, Pt.cells, Pt.slots] at X' l1 y1 z1 hsteps hQ
  subst l1 y1 z1
  exact step (fun t q => (hstep₁ _ fun acts => by rw [doInvoke_state]; exact hsteps).trans q) (g T'.heap v hQ T' ⟨_, Fr.app F hF, X', rfl⟩)
theorem arraycopy (C : Cx p s m meth c Z n0 own bytes ml ret) {i : Nat} {a b : Addr} {ka kb : ClassId} {ty : FieldType} {za zb sp dp nn : Int32} {vs vd : List Value} {dv dd : Value} {W : Nat}
    (w1 : (Cond.methodLink own i Jvm.Stand.acN).before a0 Z = true) (w2 : (Cond.native Jvm.Stand.acN).before a0 Z = true) (w3 : (Cond.static Jvm.Stand.acN).before a0 Z = true) (w4 : (Cond.initialized "java/lang/System").before a0 Z = true)
    (A : Arv Z h a ka ty za vs dv) (B : Arv Z h b kb ty zb vd dd) (hty : refKind ty = false) (h1 : 0 ≤ sp.toInt) (h2 : 0 ≤ dp.toInt) (h3 : 0 ≤ nn.toInt) (h4 : sp.toInt + nn.toInt ≤ za.toInt) (h5 : dp.toInt + nn.toInt ≤ zb.toInt) (hl : dp.toInt.toNat + nn.toInt.toNat ≤ vd.length) (ge : n0 ≤ b)
    (hd : decode bytes pc = .ok (.invokestatic i, 3)) (hp : pc + 3 = pc') (hsz : Ls.size = ml) (hf : 1 ≤ R.frames) (hW : (S.map fun v => v.category).sum = W) (hlo : W + 18 ≤ R.locals)
    (g : ∀ h', Keep h h' [b] → Arv Z h' b kb ty zb (vd.take dp.toInt.toNat ++ (List.range nn.toInt.toNat).map (fun j => vs.getD (sp.toInt.toNat + j) dv) ++ vd.drop (dp.toInt.toNat + nn.toInt.toNat)) dd → Go p l e R s m args below meth c Y n0 G h' k n (mkF m pc' Ls S)) :
    Go p l e R s m args below meth c Y n0 G h k n (mkF m pc Ls (.int nn :: .int dp :: .ref b :: .int sp :: .ref a :: S)) := fun T ⟨locs, F, X, eT⟩ => by
  subst hp
  have nn0 : ∀ {x : Int32}, 0 ≤ x.toInt → ¬ x < 0 := fun {x} q w => by have := Int32.lt_iff_toInt_lt.mp w; simp only [Int32.reduceToInt] at this; omega
  obtain ⟨T', h', L', X', e', F', K', V', st⟩ := cpA X C.1 C.2.1 C.2.2.2.2.1 w1 w2 w3 w4 eT A B (Or.inl ⟨rfl, hty⟩) (nn0 h1) (nn0 h2) (nn0 h3) (by show sp.toInt.toNat + nn.toInt.toNat ≤ za.toInt.toNat; omega) (by show dp.toInt.toNat + nn.toInt.toNat ≤ zb.toInt.toNat; omega) rfl hl F ge
    (g := mkF m pc Ls (.int nn :: .int dp :: .ref b :: .int sp :: .ref a :: S)) rfl (hsz.trans C.2.2.2.1.symm) rfl (hb C.2.2.1 hd) hf (W := W) (by show 2 * 0 + _ ≤ _; rw [Nat.mul_zero, Nat.zero_add]; exact Nat.le_of_eq hW) (by show W + (7 + 11) ≤ _; exact hlo)
  exact step st (g h' K' V' T' ⟨_, F', X', e'⟩)
theorem nf_sel (C : Cx p s m meth c Z n0 own bytes ml ret) {Cn : String} {y : MethodName} (w : (Cond.selects Cn y y).before a0 Z = true) : NotFace s y := notFace_of_selects (args := #[]) (mvT C.2.1 w)
theorem initObj (C : Cx p s m meth c Z n0 own bytes ml ret) {i : Nat} {a : Addr} {W : Nat} (w1 : (Cond.methodLink own i Lib.objectInit).before a0 Z = true) (w2 : (Cond.instanceMethod Lib.objectInit).before a0 Z = true) (w3 : (Cond.code Lib.objectInit ⟨#[0xb1]⟩ 1 none).before a0 Z = true)
    (hd : decode bytes pc = .ok (.invokespecial i, 3)) (hp : pc + 3 = pc') (hsz : Ls.size = ml) (hf : 1 ≤ R.frames) (hW : (S.map fun v => v.category).sum = W) (hl : W + 12 ≤ R.locals)
    (g : Go p l e R s m args below meth c Y n0 G h k n (mkF m pc' Ls S)) : Go p l e R s m args below meth c Y n0 G h k n (mkF m pc Ls (.ref a :: S)) := fun T ⟨locs, F, X, eT⟩ => by
  subst hp
  obtain ⟨T', X', e', st⟩ := initO X C.1 C.2.1 C.2.2.2.2.1 w1 w2 w3 eT (g := mkF m pc Ls (.ref a :: S)) rfl (hsz.trans C.2.2.2.1.symm) rfl (hb C.2.2.1 hd) hf (W := W) (by show 2 * 0 + _ ≤ _; rw [Nat.mul_zero, Nat.zero_add]; exact Nat.le_of_eq hW) hl
  exact step st (g T' ⟨_, F, X', e'⟩)

/-! fields and objects -/
theorem getfield (C : Cx p s m meth c Z n0 own bytes ml ret) {i : Nat} {R0 O f d : String} {a : Addr} {v : Value} (w : (Cond.fieldLink own i R0 f d).before a0 Z = true) (via : Via Z R0 O f d) (F : Fld Z h a O f d v) (hd : decode bytes pc = .ok (.getfield i, 3)) (hp : pc + 3 = pc')
    (g : Go p l e R s m args below meth c Y n0 G h k n (mkF m pc' Ls (v :: S))) : Go p l e R s m args below meth c Y n0 G h k n (mkF m pc Ls (.ref a :: S)) := fun T ⟨locs, Fz, X, eT⟩ => by
  subst hp
  obtain ⟨T', X', e', st⟩ := getF X C.1 C.2.1 C.2.2.2.2.1 (host := "") (Or.inl w) via eT F (g := mkF m pc Ls (.ref a :: S)) rfl rfl (hb C.2.2.1 hd)
  exact step st (g T' ⟨_, Fz, X', e'⟩)
theorem getstatic (C : Cx p s m meth c Z n0 own bytes ml ret) {i : Nat} {R0 O f d : String} {v : Value} (w : (Cond.fieldLink own i R0 f d).before a0 Z = true) (via : Via Z R0 O f d) (F : Sta Z h O f d v) (hd : decode bytes pc = .ok (.getstatic i, 3)) (hp : pc + 3 = pc')
    (g : Go p l e R s m args below meth c Y n0 G h k n (mkF m pc' Ls (v :: S))) : Go p l e R s m args below meth c Y n0 G h k n (mkF m pc Ls S) := fun T ⟨locs, Fz, X, eT⟩ => by
  subst hp
  obtain ⟨T', X', e', st⟩ := getS2 X C.1 C.2.1 C.2.2.2.2.1 (host := "") (Or.inl w) via eT F (g := mkF m pc Ls S) rfl (hb C.2.2.1 hd)
  exact step st (g T' ⟨_, Fz, X', e'⟩)
theorem putfield (C : Cx p s m meth c Z n0 own bytes ml ret) {i kk : Nat} {R0 O f d Cn : String} {ty : FieldType} {a : Addr} {v old : Value} (w : (Cond.fieldLink own i R0 f d).before a0 Z = true) (via : Via Z R0 O f d) (F : Fld Z h a O f d old) (E : Exa Z h a Cn)
    (L : (Cond.lays Cn O f d).before a0 Z = true ∨ ((Cond.laysFinal Cn O f d).before a0 Z = true ∧ own = O ∧ meth.name = "<init>")) (wi : (Cond.instantiable Cn kk).before a0 Z = true) (hty : parseFieldDescriptor d = some ty) (hnr : narrow ty v = v) (hft : fits ty v = true) (hd : decode bytes pc = .ok (.putfield i, 3)) (hp : pc + 3 = pc') (ha : n0 ≤ a)
    (g : ∀ h', Wr h h' a (Jvm.RoadKit.slotOf Z O f d) v → Go p l e R s m args below meth c Y n0 G h' k n (mkF m pc' Ls S)) : Go p l e R s m args below meth c Y n0 G h k n (mkF m pc Ls (v :: .ref a :: S)) := fun T ⟨locs, Fz, X, eT⟩ => by
  subst hp
  obtain ⟨T', h', X', e', W, st⟩ := putF X C.1 C.2.1 C.2.2.2.2.1 (host := "") (Or.inl w) via eT F E L wi hty hnr hft (g := mkF m pc Ls (v :: .ref a :: S)) rfl rfl (hb C.2.2.1 hd)
  exact step st (g h' W T' ⟨_, Fr.snoc X' Fz ha, X', e'⟩)
theorem new (C : Cx p s m meth c Z n0 own bytes ml ret) {i sz : Nat} {Cn : String} (w : (Cond.classLink own i Cn).before a0 Z = true) (wi : (Cond.instantiable Cn sz).before a0 Z = true) (wz : (Cond.initialized Cn).before a0 Z = true) (hd : decode bytes pc = .ok (.new i, 3)) (hp : pc + 3 = pc') (hc : k + 1 ≤ R.cells) (hs : n + sz ≤ R.slots) {k' n' : Nat} (hk' : k + 1 = k') (hn' : n + sz = n')
    (g : ∀ h' a, a = h.size → n0 ≤ a → Ext h h' → Exa Z h' a Cn → (∀ {O nm d : String} {ty : FieldType}, Laid Z a0 Cn O nm d → parseFieldDescriptor d = some ty → Fld Z h' a O nm d (defaultValue ty)) → Go p l e R s m args below meth c Y n0 G h' k' n' (mkF m pc' Ls (.ref a :: S))) :
    Go p l e R s m args below meth c Y n0 G h k n (mkF m pc Ls S) := fun T ⟨locs, Fz, X, eT⟩ => by
  subst hp hk' hn'
  obtain ⟨T', h', X', e', E, A, D, -, st⟩ := newO X C.1 C.2.1 C.2.2.2.2.1 w wi wz eT (g := mkF m pc Ls S) rfl (hb C.2.2.1 hd) hc hs
  exact step st (g h' _ rfl (hz C X eT) E A D T' ⟨_, Fz, X', e'⟩)
/-! arrays -/
theorem newarray (C : Cx p s m meth c Z n0 own bytes ml ret) {aty : ArrayType} {x : Int32} {cap : Nat} (w : (Cond.arrayClass (newarray.typeOf aty)).before a0 Z = true) (hd : decode bytes pc = .ok (.newarray aty, 2)) (hp : pc + 2 = pc') (hx : ¬ x < 0) (hcap : x.toNatClampNeg ≤ cap) (hbig : cap * 8 ≤ 536870912) (hc : k + 1 ≤ R.cells) (hs : n + cap ≤ R.slots) {k' n' : Nat} (hk' : k + 1 = k') (hn' : n + cap = n')
    (g : ∀ h' a kc, a = h.size → n0 ≤ a → Ext h h' → Arv Z h' a kc (newarray.typeOf aty) x [] (defaultValue (newarray.typeOf aty)) → Go p l e R s m args below meth c Y n0 G h' k' n' (mkF m pc' Ls (.ref a :: S))) :
    Go p l e R s m args below meth c Y n0 G h k n (mkF m pc Ls (.int x :: S)) := fun T ⟨locs, Fz, X, eT⟩ => by
  subst hp hk' hn'
  obtain ⟨T', h', kc, X', e', E, A, st⟩ := newP X C.1 C.2.1 w eT (g := mkF m pc Ls (.int x :: S)) rfl (hb C.2.2.1 hd) rfl hx hcap hbig hc hs
  exact step st (g h' _ kc rfl (hz C X eT) E (Arv.new A hx) T' ⟨_, Fz, X', e'⟩)
theorem arraylength (C : Cx p s m meth c Z n0 own bytes ml ret) {a : Addr} {kc : ClassId} {ty : FieldType} {z : Int32} {vs : List Value} {dv : Value} (A : Arv Z h a kc ty z vs dv) (hd : decode bytes pc = .ok (.arraylength, 1)) (hp : pc + 1 = pc')
    (g : Go p l e R s m args below meth c Y n0 G h k n (mkF m pc' Ls (.int z :: S))) : Go p l e R s m args below meth c Y n0 G h k n (mkF m pc Ls (.ref a :: S)) := by
  subst hp
  obtain ⟨cl, Ar, -, Sz, Nz, -, -⟩ := A
  refine stepG (fun T locs X eT t q => X.arraylength C.1 (by rw [eT]; exact Ar.1) (State.isArrayOf_alike C.2.1.alike Ar.2.1) (g := mkF m pc Ls (.ref a :: S)) rfl rfl (hb C.2.2.1 hd) t ?_) g
  rw [len_of Sz Nz]; exact q
theorem arv_at {a : Addr} {kc : ClassId} {ty : FieldType} {z : Int32} {vs : List Value} {dv : Value} (A : Arv Z h a kc ty z vs dv) {j : Int32} (h0 : 0 ≤ j.toInt) (h1 : j.toInt < z.toInt) {v : Value} (hv : vs.getD j.toInt.toNat dv = v) :
    ∃ cl, Arr Z h a cl ty ∧ ¬ (j < 0 ∨ cl.slots.size ≤ j.toNatClampNeg) ∧ cl.slots[j.toNatClampNeg]? = some v := by
  obtain ⟨cl, Ar, -, Sz, Nz, H, -⟩ := A
  have hj : ¬ j < 0 := fun q => by have := Int32.lt_iff_toInt_lt.mp q; simp at this; omega
  have hin := inb_of Sz (j := j) ⟨hj, Int32.lt_iff_toInt_lt.mpr h1⟩
  exact ⟨cl, Ar, hin, H.at hin hv⟩
theorem iaload (C : Cx p s m meth c Z n0 own bytes ml ret) {a : Addr} {kc : ClassId} {z j : Int32} {vs : List Value} {dv v : Value} (A : Arv Z h a kc .int z vs dv) (h0 : 0 ≤ j.toInt) (h1 : j.toInt < z.toInt) (hv : vs.getD j.toInt.toNat dv = v) (hd : decode bytes pc = .ok (.iaload, 1)) (hp : pc + 1 = pc')
    (g : Go p l e R s m args below meth c Y n0 G h k n (mkF m pc' Ls (v :: S))) : Go p l e R s m args below meth c Y n0 G h k n (mkF m pc Ls (.int j :: .ref a :: S)) := by
  subst hp
  obtain ⟨cl, Ar, hin, hat⟩ := arv_at A h0 h1 hv
  exact stepG (fun T locs X eT t q => X.iaload C.1 (by rw [eT]; exact Ar.1) (State.isArrayOf_alike C.2.1.alike Ar.2.1) Ar.2.2 hin hat (g := mkF m pc Ls (.int j :: .ref a :: S)) rfl rfl (hb C.2.2.1 hd) t q) g
theorem laload (C : Cx p s m meth c Z n0 own bytes ml ret) {a : Addr} {kc : ClassId} {z j : Int32} {vs : List Value} {dv v : Value} (A : Arv Z h a kc .long z vs dv) (h0 : 0 ≤ j.toInt) (h1 : j.toInt < z.toInt) (hv : vs.getD j.toInt.toNat dv = v) (hd : decode bytes pc = .ok (.laload, 1)) (hp : pc + 1 = pc')
    (g : Go p l e R s m args below meth c Y n0 G h k n (mkF m pc' Ls (v :: S))) : Go p l e R s m args below meth c Y n0 G h k n (mkF m pc Ls (.int j :: .ref a :: S)) := by
  subst hp
  obtain ⟨cl, Ar, hin, hat⟩ := arv_at A h0 h1 hv
  exact stepG (fun T locs X eT t q => X.laload C.1 (by rw [eT]; exact Ar.1) (State.isArrayOf_alike C.2.1.alike Ar.2.1) Ar.2.2 hin hat (g := mkF m pc Ls (.int j :: .ref a :: S)) rfl rfl (hb C.2.2.1 hd) t q) g
theorem caload (C : Cx p s m meth c Z n0 own bytes ml ret) {a : Addr} {kc : ClassId} {z j : Int32} {vs : List Value} {dv v : Value} (A : Arv Z h a kc .char z vs dv) (h0 : 0 ≤ j.toInt) (h1 : j.toInt < z.toInt) (hv : vs.getD j.toInt.toNat dv = v) (hd : decode bytes pc = .ok (.caload, 1)) (hp : pc + 1 = pc')
    (g : Go p l e R s m args below meth c Y n0 G h k n (mkF m pc' Ls (v :: S))) : Go p l e R s m args below meth c Y n0 G h k n (mkF m pc Ls (.int j :: .ref a :: S)) := by
  subst hp
  obtain ⟨cl, Ar, hin, hat⟩ := arv_at A h0 h1 hv
  exact stepG (fun T locs X eT t q => X.caload C.1 (by rw [eT]; exact Ar.1) (State.isArrayOf_alike C.2.1.alike Ar.2.1) Ar.2.2 hin hat (g := mkF m pc Ls (.int j :: .ref a :: S)) rfl rfl (hb C.2.2.1 hd) t q) g
theorem baload (C : Cx p s m meth c Z n0 own bytes ml ret) {a : Addr} {kc : ClassId} {z j : Int32} {vs : List Value} {dv v : Value} (A : Arv Z h a kc .byte z vs dv) (h0 : 0 ≤ j.toInt) (h1 : j.toInt < z.toInt) (hv : vs.getD j.toInt.toNat dv = v) (hd : decode bytes pc = .ok (.baload, 1)) (hp : pc + 1 = pc')
    (g : Go p l e R s m args below meth c Y n0 G h k n (mkF m pc' Ls (v :: S))) : Go p l e R s m args below meth c Y n0 G h k n (mkF m pc Ls (.int j :: .ref a :: S)) := by
  subst hp
  obtain ⟨cl, Ar, hin, hat⟩ := arv_at A h0 h1 hv
  exact stepG (fun T locs X eT t q => X.baloadBytes C.1 (by rw [eT]; exact Ar.1) (State.isArrayOf_alike C.2.1.alike Ar.2.1) Ar.2.2 hin hat (g := mkF m pc Ls (.int j :: .ref a :: S)) rfl rfl (hb C.2.2.1 hd) t q) g
theorem aaload (C : Cx p s m meth c Z n0 own bytes ml ret) {a : Addr} {cl : Cell} {ty : FieldType} {j : Int32} {v : Value} (A : Arr Z h a cl ty) (hty : ty.isReference = true) (hin : ¬ (j < 0 ∨ cl.slots.size ≤ j.toNatClampNeg)) (hat : cl.slots[j.toNatClampNeg]? = some v) (hd : decode bytes pc = .ok (.aaload, 1)) (hp : pc + 1 = pc')
    (g : Go p l e R s m args below meth c Y n0 G h k n (mkF m pc' Ls (v :: S))) : Go p l e R s m args below meth c Y n0 G h k n (mkF m pc Ls (.int j :: .ref a :: S)) := by
  subst hp
  exact stepG (fun T locs X eT t q => X.aaload C.1 (by rw [eT]; exact A.1) (State.isArrayOf_alike C.2.1.alike A.2.1) hty A.2.2 hin hat (g := mkF m pc Ls (.int j :: .ref a :: S)) rfl rfl (hb C.2.2.1 hd) t q) g
theorem instT (C : Cx p s m meth c Z n0 own bytes ml ret) {i : Nat} {Kn : String} {a : Addr} (w : (Cond.classLink own i Kn).before a0 Z = true) (I : Ins Z h a Kn true) (hd : decode bytes pc = .ok (.instanceof i, 3)) (hp : pc + 3 = pc')
    (g : Go p l e R s m args below meth c Y n0 G h k n (mkF m pc' Ls (.int 1 :: S))) : Go p l e R s m args below meth c Y n0 G h k n (mkF m pc Ls (.ref a :: S)) := fun T ⟨locs, Fz, X, eT⟩ => by
  subst hp
  obtain ⟨T', X', e', st⟩ := instY X C.1 C.2.1 C.2.2.2.2.1 w eT I (g := mkF m pc Ls (.ref a :: S)) rfl rfl (hb C.2.2.1 hd)
  exact step st (g T' ⟨_, Fz, X', e'⟩)
theorem instF (C : Cx p s m meth c Z n0 own bytes ml ret) {i : Nat} {Kn Cn : String} {a : Addr} (w : (Cond.classLink own i Kn).before a0 Z = true) (E : Exa Z h a Cn) (I : ∃ c t, Z.vm.findClass Cn = some c ∧ Z.vm.findClass Kn = some t ∧ Z.vm.assignable c t = false) (hd : decode bytes pc = .ok (.instanceof i, 3)) (hp : pc + 3 = pc')
    (g : Go p l e R s m args below meth c Y n0 G h k n (mkF m pc' Ls (.int 0 :: S))) : Go p l e R s m args below meth c Y n0 G h k n (mkF m pc Ls (.ref a :: S)) := fun T ⟨locs, Fz, X, eT⟩ => by
  subst hp
  obtain ⟨T', X', e', st⟩ := instNo X C.1 C.2.1 C.2.2.2.2.1 w eT E I (g := mkF m pc Ls (.ref a :: S)) rfl rfl (hb C.2.2.1 hd)
  exact step st (g T' ⟨_, Fz, X', e'⟩)
theorem instN (C : Cx p s m meth c Z n0 own bytes ml ret) {i : Nat} (hd : decode bytes pc = .ok (.instanceof i, 3)) (hp : pc + 3 = pc')
    (g : Go p l e R s m args below meth c Y n0 G h k n (mkF m pc' Ls (.int 0 :: S))) : Go p l e R s m args below meth c Y n0 G h k n (mkF m pc Ls (.null :: S)) := by
  subst hp; exact stepG (fun T locs X eT t q => X.instanceofNull C.1 (g := mkF m pc Ls (.null :: S)) rfl rfl (hb C.2.2.1 hd) t q) g
theorem castT (C : Cx p s m meth c Z n0 own bytes ml ret) {i : Nat} {Kn : String} {a : Addr} (w : (Cond.classLink own i Kn).before a0 Z = true) (I : Ins Z h a Kn true) (hd : decode bytes pc = .ok (.checkcast i, 3)) (hp : pc + 3 = pc')
    (g : Go p l e R s m args below meth c Y n0 G h k n (mkF m pc' Ls (.ref a :: S))) : Go p l e R s m args below meth c Y n0 G h k n (mkF m pc Ls (.ref a :: S)) := fun T ⟨locs, Fz, X, eT⟩ => by
  subst hp
  obtain ⟨T', X', e', st⟩ := castY X C.1 C.2.1 C.2.2.2.2.1 w eT I (g := mkF m pc Ls (.ref a :: S)) rfl rfl (hb C.2.2.1 hd)
  exact step st (g T' ⟨_, Fz, X', e'⟩)
theorem ns_root {O Kn : String} {q : Nat} (w : (Cond.noSuperclass O).before a0 Z = true) (wk : (Cond.instantiable Kn q).before a0 Z = true) (hn : O ≠ Kn) : NS Z O Kn := by
  obtain ⟨c, k, h1, h2, h3, -, -⟩ := Cond.noSuperclass_spec w
  obtain ⟨t, kt, g1, -⟩ := Cond.instantiable_spec wk
  have ne := ids_ne h1 g1 hn
  refine ⟨c, t, h1, g1, fun fuel => ?_⟩
  cases fuel with
  | zero => rfl
  | succ f => simp [Vm.isSubclassAux, ne, h2, h3]
theorem ns_no {Cn Sn Kn : String} {q : Nat} (w : (Cond.superclass Cn Sn).before a0 Z = true) (wk : (Cond.instantiable Kn q).before a0 Z = true) (n : NS Z Cn Kn) (hn : Cn ≠ Kn) : ∃ c t, Z.vm.findClass Cn = some c ∧ Z.vm.findClass Kn = some t ∧ Z.vm.assignable c t = false := by
  obtain ⟨c, t, h0, g0, n3⟩ := n
  obtain ⟨p, k, kp, h1, h2, h3, h4, h5, -, h7⟩ := Cond.superclass_spec h0 w
  obtain ⟨t', k', g1, g2, g5, g7, -⟩ := Cond.instantiable_spec wk
  cases g0.symm.trans g1
  have ne := ids_ne h0 g0 hn
  have g8 : k'.isInterface = false := by simp only [Bool.or_eq_false_iff] at g7; exact g7.1
  refine ⟨c, t, h0, g0, ?_⟩
  show Z.vm.assignableAux (255 + 1) c t = false
  simp [Vm.assignableAux, ne, h2, g2, h5, g5, g8, Vm.isSubclass, n3]
theorem iastore (C : Cx p s m meth c Z n0 own bytes ml ret) {a : Addr} {kc : ClassId} {z j : Int32} {x : Int32} {vs : List Value} {dv : Value} (A : Arv Z h a kc .int z vs dv) (h0 : 0 ≤ j.toInt) (h1 : j.toInt < z.toInt) (hlen : j.toInt.toNat < vs.length) (ha : n0 ≤ a) (hd : decode bytes pc = .ok (.iastore, 1)) (hp : pc + 1 = pc')
    (g : ∀ h', Wr h h' a j.toNatClampNeg (.int x) → Arv Z h' a kc .int z (vs.set j.toInt.toNat (.int x)) dv → Go p l e R s m args below meth c Y n0 G h' k n (mkF m pc' Ls S)) : Go p l e R s m args below meth c Y n0 G h k n (mkF m pc Ls (.int x :: .int j :: .ref a :: S)) := fun T ⟨locs, Fz, X, eT⟩ => by
  subst hp
  obtain ⟨cl, Ar, q1, Sz, Nz, H, Gf⟩ := A
  have hj : ¬ j < 0 := fun q => by have := Int32.lt_iff_toInt_lt.mp q; simp at this; omega
  have hin := inb_of Sz (j := j) ⟨hj, Int32.lt_iff_toInt_lt.mpr h1⟩
  obtain ⟨T', h', X', e', W, st⟩ := stI X C.1 C.2.1 eT Ar hin (g := mkF m pc Ls (.int x :: .int j :: .ref a :: S)) rfl rfl (hb C.2.2.1 hd)
  exact step st (g h' W (Arv.set Ar q1 Sz Nz H Gf rfl W _ rfl hlen) T' ⟨_, Fr.snoc X' Fz ha, X', e'⟩)
theorem lastore (C : Cx p s m meth c Z n0 own bytes ml ret) {a : Addr} {kc : ClassId} {z j : Int32} {x : Int64} {vs : List Value} {dv : Value} (A : Arv Z h a kc .long z vs dv) (h0 : 0 ≤ j.toInt) (h1 : j.toInt < z.toInt) (hlen : j.toInt.toNat < vs.length) (ha : n0 ≤ a) (hd : decode bytes pc = .ok (.lastore, 1)) (hp : pc + 1 = pc')
    (g : ∀ h', Wr h h' a j.toNatClampNeg (.long x) → Arv Z h' a kc .long z (vs.set j.toInt.toNat (.long x)) dv → Go p l e R s m args below meth c Y n0 G h' k n (mkF m pc' Ls S)) : Go p l e R s m args below meth c Y n0 G h k n (mkF m pc Ls (.long x :: .int j :: .ref a :: S)) := fun T ⟨locs, Fz, X, eT⟩ => by
  subst hp
  obtain ⟨cl, Ar, q1, Sz, Nz, H, Gf⟩ := A
  have hj : ¬ j < 0 := fun q => by have := Int32.lt_iff_toInt_lt.mp q; simp at this; omega
  have hin := inb_of Sz (j := j) ⟨hj, Int32.lt_iff_toInt_lt.mpr h1⟩
  obtain ⟨T', h', X', e', W, st⟩ := stJ X C.1 C.2.1 eT Ar hin (g := mkF m pc Ls (.long x :: .int j :: .ref a :: S)) rfl rfl (hb C.2.2.1 hd)
  exact step st (g h' W (Arv.set Ar q1 Sz Nz H Gf rfl W _ rfl hlen) T' ⟨_, Fr.snoc X' Fz ha, X', e'⟩)
theorem castore (C : Cx p s m meth c Z n0 own bytes ml ret) {a : Addr} {kc : ClassId} {z j : Int32} {x : Int32} {vs : List Value} {dv : Value} (A : Arv Z h a kc .char z vs dv) (h0 : 0 ≤ j.toInt) (h1 : j.toInt < z.toInt) (hlen : j.toInt.toNat < vs.length) (ha : n0 ≤ a) (hd : decode bytes pc = .ok (.castore, 1)) (hp : pc + 1 = pc')
    (g : ∀ h', Wr h h' a j.toNatClampNeg (.int (nar .char x)) → Arv Z h' a kc .char z (vs.set j.toInt.toNat (.int (nar .char x))) dv → Go p l e R s m args below meth c Y n0 G h' k n (mkF m pc' Ls S)) : Go p l e R s m args below meth c Y n0 G h k n (mkF m pc Ls (.int x :: .int j :: .ref a :: S)) := fun T ⟨locs, Fz, X, eT⟩ => by
  subst hp
  obtain ⟨cl, Ar, q1, Sz, Nz, H, Gf⟩ := A
  have hj : ¬ j < 0 := fun q => by have := Int32.lt_iff_toInt_lt.mp q; simp at this; omega
  have hin := inb_of Sz (j := j) ⟨hj, Int32.lt_iff_toInt_lt.mpr h1⟩
  obtain ⟨T', h', X', e', W, st⟩ := stC X C.1 C.2.1 eT Ar hin (g := mkF m pc Ls (.int x :: .int j :: .ref a :: S)) rfl rfl (hb C.2.2.1 hd)
  exact step st (g h' W (Arv.set Ar q1 Sz Nz H Gf (fits_nar_char _) W _ rfl hlen) T' ⟨_, Fr.snoc X' Fz ha, X', e'⟩)
theorem bastore (C : Cx p s m meth c Z n0 own bytes ml ret) {a : Addr} {kc : ClassId} {z j : Int32} {x : Int32} {vs : List Value} {dv : Value} (A : Arv Z h a kc .byte z vs dv) (h0 : 0 ≤ j.toInt) (h1 : j.toInt < z.toInt) (hlen : j.toInt.toNat < vs.length) (ha : n0 ≤ a) (hd : decode bytes pc = .ok (.bastore, 1)) (hp : pc + 1 = pc')
    (g : ∀ h', Wr h h' a j.toNatClampNeg (.int (nar .byte x)) → Arv Z h' a kc .byte z (vs.set j.toInt.toNat (.int (nar .byte x))) dv → Go p l e R s m args below meth c Y n0 G h' k n (mkF m pc' Ls S)) : Go p l e R s m args below meth c Y n0 G h k n (mkF m pc Ls (.int x :: .int j :: .ref a :: S)) := fun T ⟨locs, Fz, X, eT⟩ => by
  subst hp
  obtain ⟨cl, Ar, q1, Sz, Nz, H, Gf⟩ := A
  have hj : ¬ j < 0 := fun q => by have := Int32.lt_iff_toInt_lt.mp q; simp at this; omega
  have hin := inb_of Sz (j := j) ⟨hj, Int32.lt_iff_toInt_lt.mpr h1⟩
  obtain ⟨T', h', X', e', W, st⟩ := stB X C.1 C.2.1 eT Ar hin (g := mkF m pc Ls (.int x :: .int j :: .ref a :: S)) rfl rfl (hb C.2.2.1 hd)
  exact step st (g h' W (Arv.set Ar q1 Sz Nz H Gf (fits_nar_byte _) W _ rfl hlen) T' ⟨_, Fr.snoc X' Fz ha, X', e'⟩)
end Walk
end Jvm.Pilot.@@N@@.W
namespace Jvm.Pilot.@@N@@.W
open Jvm Jvm.ClassFile Sem Op Lib Jvm.Free Jvm.Stand Jvm.LawKit Jvm.RoadKit Bundle
/-- a body's contract where String constants are loaded: the booked constants stay whole; sf: places that are none of theirs -/
abbrev ConL (l : Launch) (Z : State) (EL : List (String × Nat)) (y : MethodName) (bytes : ByteArray) (ml : Nat) (ret : Option FieldType) (ws : List Cond) (rm : Room) (K N : Nat) (as : Array Value) (h0 : Heap) (n0 : Nat) (sf : List Addr) (G : Option Value → Heap → Prop) : Prop :=
  MetFree l y (head1 (Cond.code y bytes ml ret :: ws) rm) (fun a U => a = as ∧ Z.Warmed39 U.vm ∧ U.heap = h0 ∧ CHv Z EL U.vm h0 ∧ ∀ x ∈ sf, Safe Z EL U.vm h0 x) (fun _ _ _ _ _ => True)
    (fun _ U o U' => ∃ v L, o = .returned v ∧ (G v U'.heap ∧ Fr n0 L) ∧ CHr Z EL U.vm U.heap U'.vm U'.heap ∧ ReturnedEndW U o U' L K N)
/-- what a walk bears that loads String constants: s0 is its true start, vm0 the tables over which it stands -/
def Lt (Z : State) (a0 : Array Value) (EL : List (String × Nat)) (s0 : State) (vm0 : Vm) (k0 : Nat) (h : Heap) : Prop :=
  s0.Since vm0 k0 ∧ k0 ≤ h.size ∧ CHr Z EL s0.vm s0.heap vm0 h ∧ EW Z a0 EL ∧ (∀ a ∈ Bundle.stringAtoms, a.before a0 Z = true) ∧ Z.Warmed39 vm0
section Lit
variable {p : Program} {l : Launch} {e : Env} {R : Room} {m : MethodId} {args : Array Value} {below : List Frame} {meth : Method} {c : Code} {s0 : State} {vm0 vm1 : Vm} {k0 K N n0 k n : Nat} {G : Option Value → Heap → Prop} {Y : State → Outcome → List Loc → Prop}
  {Z : State} {a0 : Array Value} {EL : List (String × Nat)} {own : String} {bytes : ByteArray} {ml : Nat} {ret : Option FieldType} {Ls Ls' : Array Slot} {S : List Value} {pc pc' pn : Nat} {h h' : Heap} {x a : Addr} {ws : List Addr} {sl : Nat} {v : Value}
theorem Lt.ext (L : Lt Z a0 EL s0 vm0 k0 h) (E : Ext h h') : Lt Z a0 EL s0 vm0 k0 h' := ⟨L.1, Nat.le_trans L.2.1 E.1, L.2.2.1.trans (CHr.ext E L.2.2.1.1), L.2.2.2⟩
theorem Lt.wr (L : Lt Z a0 EL s0 vm0 k0 h) (W : Wr h h' a sl v) (Sf : Safe Z EL vm0 h a) : Lt Z a0 EL s0 vm0 k0 h' := ⟨L.1, by rw [W.size]; exact L.2.1, L.2.2.1.trans (CHr.wr W Sf L.2.2.1.1), L.2.2.2⟩
theorem Lt.keep (L : Lt Z a0 EL s0 vm0 k0 h) (Kp : Keep h h' ws) (hs : ∀ x ∈ ws, Safe Z EL vm0 h x) : Lt Z a0 EL s0 vm0 k0 h' := ⟨L.1, Nat.le_trans L.2.1 Kp.1, L.2.2.1.trans (CHr.keep Kp hs L.2.2.1.1), L.2.2.2⟩
theorem Lt.sext (L : Lt Z a0 EL s0 vm0 k0 h) (E : Ext h h') (Sx : Safe Z EL vm0 h x) : Safe Z EL vm0 h' x := Safe.ext E L.2.2.1.1 Sx
theorem Lt.swr (L : Lt Z a0 EL s0 vm0 k0 h) (W : Wr h h' a sl v) (Sf : Safe Z EL vm0 h a) (Sx : Safe Z EL vm0 h x) : Safe Z EL vm0 h' x := Safe.wr W Sf L.2.2.1.1 Sx
theorem Lt.skeep (L : Lt Z a0 EL s0 vm0 k0 h) (Kp : Keep h h' ws) (hs : ∀ x ∈ ws, Safe Z EL vm0 h x) (Sx : Safe Z EL vm0 h x) : Safe Z EL vm0 h' x := Safe.keep Kp hs L.2.2.1.1 Sx
theorem Lt.fin (L : Lt Z a0 EL s0 vm0 k0 h) : ∀ s₂ o L', s₂.heap = h → FrameEnd (s0.setVm vm0) o s₂ L' K N → (CHr Z EL s0.vm s0.heap s₂.vm s₂.heap ∧ ReturnedEndW s0 o s₂ L' K N) := by
  rintro s₂ o L' rfl ⟨h1, h2, h3⟩
  obtain ⟨a, b, d⟩ := L.1.ended h2 L.2.1 h3
  refine ⟨L.2.2.1.trans ?_, h1, a, b, d⟩
  have q := CHv.later (h' := s₂.heap) L.2.2.2.2.2 (hW := (show (Wst Z vm0 s₂.heap).Warmed39 s₂.vm from h2.wide)) L.2.2.2.1 ⟨Nat.le_refl _, fun _ _ q => q⟩ (Or.inl h2.interned_eq) L.2.2.1.1
  exact ⟨q.1, Nat.le_refl _, q.2⟩
theorem enterL {y : MethodName} {as : Array Value} {wsc : List Cond} {rm : Room} {h0 : Heap} {sf : List Addr} (hp : plainFor y = true) (Z0 : n0 ≤ h0.size) (hEL : EW Z a0 EL) (hSA : ∀ a ∈ Bundle.stringAtoms, a.before a0 Z = true)
    (body : ∀ p e s0 m below meth c, Cx p (s0.setVm s0.vm) m meth c Z n0 y.cls bytes ml ret → meth.name = y.name → s0.heap = h0 → Lt Z a0 EL s0 s0.vm 0 h0 → (∀ x ∈ sf, Safe Z EL s0.vm h0 x) →
      Go p l e rm (s0.setVm s0.vm) m as below meth c (fun s₂ o L => CHr Z EL s0.vm s0.heap s₂.vm s₂.heap ∧ ReturnedEndW s0 o s₂ L K N) n0 G h0 0 0 (entryFrame m as ml)) : ConL l Z EL y bytes ml ret wsc rm K N as h0 n0 sf G := by
  refine MetFree.of_bodySF hp hisR ?_
  intro p e s m args below meth c s₁ Bd hml0 hP hK
  obtain ⟨rfl, hZ, hh, hCH, hsf⟩ := hP
  have X0 : Stand p l e rm (s.setVm s.vm) m args below meth c s₁ [] 0 0 := Stand.of_body Bd
  have e0 : s₁.heap = h0 := by rw [← hh, Bd.state]; rfl
  obtain ⟨s₂, o, h1, h2, h3, v, L, h4, h5, h6⟩ := body p e s m below meth c ⟨Bd.exec, hZ, Bd.bytes, hml0, findClass_of_methodNamed Bd.named, Bd.returns, Bd.notSynchronized, by show n0 ≤ s.heap.size; rw [hh]; exact Z0⟩ (name_of_methodNamed Bd.named Bd.method).1 hh
    ⟨(State.WarmedH.refl s).since 0, Nat.zero_le _, by rw [hh]; exact CHr.refl hCH, hEL, hSA, hZ⟩ hsf s₁ ⟨[], Fr.nil _, X0, e0⟩
  exact ⟨s₂, o, h1, h2, h3, v, L, h4, h5, h6⟩
theorem ldcL (C : Cx p (s0.setVm vm0) m meth c Z n0 own bytes ml ret) {i : Nat} {text : String} {vs : List Value} {z : Int32} {nn : Nat} (L : Lt Z a0 EL s0 vm0 k0 h) (w : (Cond.stringLink own i text).before a0 Z = true) (hmem : (own, i) ∈ EL)
    (ht : (∀ c ∈ text.toList, c.toNat < 256) ∧ text.toList.map (fun c => Value.int (Jvm.Lit.byteI c.toNat.toUInt16)) = vs) (hz : ¬ z < 0) (hl : z.toNatClampNeg = vs.length) (hd : decode bytes pc = .ok (.ldc i, 2)) (hp : pc + 2 = pc')
    (hn : 4 * text.toList.length ≤ nn) (hbig : nn ≤ 536870912) (hc : k + 2 ≤ R.cells) (hs : n + (nn + 4) ≤ R.slots) {k' n' : Nat} (hk' : k + 2 = k') (hn' : n + (nn + 4) = n')
    (g : ∀ vm1 k1 h' a b kc, Cx p (s0.setVm vm1) m meth c Z n0 own bytes ml ret → Lt Z a0 EL s0 vm1 k1 h' → Ext h h' → Exa Z h' a "java/lang/String" → Fld Z h' a "java/lang/String" "coder" "B" (.int 0) → Fld Z h' a "java/lang/String" "value" "[B" (.ref b) → Arv Z h' b kc .byte z vs (.int 0) →
      (∀ x, x < h.size → Safe Z EL vm0 h x → Safe Z EL vm1 h' x) → (∀ x, Safe Z EL vm1 h' x → x ≠ a ∧ x ≠ b) → Go p l e R (s0.setVm vm1) m args below meth c Y n0 G h' k' n' (mkF m pc' Ls (.ref a :: S))) :
    Go p l e R (s0.setVm vm0) m args below meth c Y n0 G h k n (mkF m pc Ls S) := fun T ⟨locs, F, X, eT⟩ => by
  subst hp hk' hn'
  obtain ⟨a, T', h', k1, b, kc, X', e', E, hS', hk1, hW, hf, A, F1, F2, V, la, lb, hC, hL, hne, st⟩ := ldcCH X C.1 L.2.2.2.2.2 C.2.2.2.2.1 w L.2.2.2.2.1 eT L.1 L.2.1 L.2.2.2.1 hmem L.2.2.1.1 ht hz hl (g := mkF m pc Ls S) rfl (hb C.2.2.1 hd) hn hbig hc hs
  exact step st (g T'.vm k1 h' a b kc ⟨C.1, hW, C.2.2.1, C.2.2.2.1, hf, C.2.2.2.2.2.1, C.2.2.2.2.2.2.1, C.2.2.2.2.2.2.2⟩ ⟨hS', hk1, L.2.2.1.trans hC, L.2.2.2.1, L.2.2.2.2.1, hW⟩ E A F1 F2 V (fun x hx Sx => hC.safe hx Sx) hne T' ⟨_, F, X', e'⟩)
theorem backOfL {y : MethodName} {b' : ByteArray} {mL : Nat} {r' : Option FieldType} {rm : Room} {len W : Nat} {as' : Array Value} {sf : List Addr} {Gc : Option Value → Heap → Prop} {s : State}
    (hM : ConL l Z EL y b' mL r' [] rm rm.cells rm.slots as' h n0 sf Gc) (hZ : Z.Warmed39 vm0) (wc : (Cond.code y b' mL r').before a0 Z = true) (wz : (Cond.initialized y.cls).before a0 Z = true) (hf : rm.frames + 1 ≤ R.frames) (hl : W + (mL + 11) + rm.locals ≤ R.locals)
    (hEL : EW Z a0 EL) (H : CHv Z EL vm0 h) (hsf : ∀ x ∈ sf, x < h.size ∧ Safe Z EL vm0 h x) :
    BackS l R p e below (s.setVm vm0) args y len W (fun A a => a = as' ∧ A.U.heap = h ∧ A.cells + rm.cells ≤ R.cells ∧ A.slots + rm.slots ≤ R.slots)
      (fun A _ v B => ∃ L, (Gc v B.U.heap ∧ Fr n0 L) ∧ B.locs = A.locs ++ L ∧ B.cells = A.cells + rm.cells ∧ B.slots = A.slots + rm.slots ∧ CHr Z EL vm0 h B.U.vm B.U.heap) :=
  BackS.of_freeW (bytes := b') (maxL := mL) (ret := r') (E := fun _ first o t L k n => k = rm.cells ∧ n = rm.slots ∧ (∃ v, o = .returned v ∧ (Gc v t.heap ∧ Fr n0 L)) ∧ CHr Z EL first.vm first.heap t.vm t.heap) hM hf hl
    (fun m meth c A a Y hp => have hU : Z.Warmed39 A.U.vm := wtrans (s := s.setVm vm0) hZ Y.warmed
      ⟨by show (Cond.and _ .tt).before a A.U = true; rw [Cond.before_and, mv hU wc]; rfl, mv hU wc, mv hU wz, hp.2.2.1, hp.2.2.2⟩)
    (fun m meth c A a g mk Y hp => ⟨hp.1, wtrans (s := s.setVm vm0) hZ Y.warmed, hp.2.1, (CHv.at Y hZ hEL H).1, fun x hx => (CHv.at Y hZ hEL H).safe (hsf x hx).1 (hsf x hx).2⟩) (fun _ _ _ _ _ _ _ _ _ => trivial)
    (fun _ _ _ _ ⟨v, L, h1, h2, h3, h4⟩ => ⟨L, _, _, h4, rfl, rfl, ⟨v, h1, h2⟩, h3⟩)
    (fun m meth c A a g mk v t L k n Y hp _ _ ⟨e1, e2, ⟨v', e3, e4⟩, e5⟩ => by
      cases e3; subst e1 e2
      refine ⟨L, e4, rfl, rfl, rfl, (CHv.at Y hZ hEL H).trans ?_⟩
      rw [← hp.2.1]; exact e5)
theorem callSL (C : Cx p (s0.setVm vm0) m meth c Z n0 own bytes ml ret) {i : Nat} {y : MethodName} {b' : ByteArray} {mL : Nat} {r' : Option FieldType} {rm : Room} {Gc : Option Value → Heap → Prop} {sf : List Addr} {argsL rest : List Value} {W : Nat} (L : Lt Z a0 EL s0 vm0 k0 h)
    (w1 : (Cond.methodLink own i y).before a0 Z = true) (w2 : (Cond.static y).before a0 Z = true) (w3 : (Cond.initialized y.cls).before a0 Z = true) (w4 : (Cond.code y b' mL r').before a0 Z = true)
    (hy : y.cls ≠ "java/lang/invoke/MethodHandle" ∧ y.cls ≠ "java/lang/invoke/VarHandle") (con : n0 ≤ h.size → ConL l Z EL y b' mL r' [] rm rm.cells rm.slots argsL.toArray h n0 sf Gc) (hsf : ∀ x ∈ sf, x < h.size ∧ Safe Z EL vm0 h x)
    (hd : decode bytes pc = .ok (.invokestatic i, 3)) (hp : pc + 3 = pc') (hsz : Ls.size = ml) {ps : List FieldType} {rr : Option FieldType} (hds : parseMethodDescriptor y.desc = some ⟨ps, rr⟩) (hlen : argsL.length = ps.length)
    (hS : S = argsL.reverse ++ rest) (hW : (rest.map fun v => v.category).sum = W) (hf : rm.frames + 1 ≤ R.frames) (hl : W + (mL + 11) + rm.locals ≤ R.locals) (hc : k + rm.cells ≤ R.cells) (hs : n + rm.slots ≤ R.slots) {k' n' : Nat} (hk' : k + rm.cells = k') (hn' : n + rm.slots = n')
    (g : ∀ vm1 k1 h' v, Cx p (s0.setVm vm1) m meth c Z n0 own bytes ml ret → Lt Z a0 EL s0 vm1 k1 h' → (∀ x, x < h.size → Safe Z EL vm0 h x → Safe Z EL vm1 h' x) → Gc v h' → Go p l e R (s0.setVm vm1) m args below meth c Y n0 G h' k' n' (mkF m pc' Ls (v.toList ++ rest))) :
    Go p l e R (s0.setVm vm0) m args below meth c Y n0 G h k n (mkF m pc Ls S) := fun T ⟨locs, F, X, eT⟩ => by
  subst hp hS hk' hn'
  obtain ⟨v, _, ⟨T', L', k', n'⟩, -, X', hSi, hg, ⟨Lc, ⟨hQ, hF⟩, l1, y1, z1, hC⟩, st⟩ := callSS X C.1 C.2.2.2.2.1 (mvT C.2.1 w1) (mvT C.2.1 w2) (mvT C.2.1 w3) (mvT C.2.1 w4) hy
    (backOfL (W := W) (con (hz C X eT)) L.2.2.2.2.2 w4 w3 hf hl L.2.2.2.1 L.2.2.1.1 hsf) (g := mkF m pc Ls (argsL.reverse ++ rest)) rfl (hsz.trans C.2.2.2.1.symm) (argsL := argsL) (rest := rest) (lenOf hds hlen) rfl (by show 2 * 0 + _ ≤ _; rw [Nat.mul_zero, Nat.zero_add]; exact Nat.le_of_eq hW) (hb C.2.2.1 hd) (fun _ _ => ⟨rfl, eT, hc, hs⟩)
  dsimp only [Pt.U, Pt.locs, Pt.cells, Pt.slots] at X' l1 y1 z1 st hQ hSi hg hC
  subst l1 y1 z1
  have hk0 : k0 ≤ T.heap.size := by rw [eT]; exact L.2.1
  obtain ⟨Xr, Sr, Wr', Or⟩ := rebS L.1 hk0 X' hSi hg C.2.1 C.2.2.2.2.1
  exact step (fun t q => st.trans q) (g T'.vm _ T'.heap v ⟨C.1, Wr', C.2.2.1, C.2.2.2.1, Or, C.2.2.2.2.2.1, C.2.2.2.2.2.2.1, C.2.2.2.2.2.2.2⟩ ⟨Sr, Nat.le_refl _, L.2.2.1.trans hC, L.2.2.2.1, L.2.2.2.2.1, Wr'⟩ (fun x hx Sx => hC.safe hx Sx) hQ T' ⟨_, Fr.app F hF, Xr, rfl⟩)
theorem callSpL (C : Cx p (s0.setVm vm0) m meth c Z n0 own bytes ml ret) {i : Nat} {y : MethodName} {b' : ByteArray} {mL : Nat} {rm : Room} {Gc : Option Value → Heap → Prop} {sf : List Addr} {b : Addr} {argsL rest : List Value} {W : Nat} (L : Lt Z a0 EL s0 vm0 k0 h) (hy1 : y.name = "<init>")
    (w1 : (Cond.methodLink own i y).before a0 Z = true) (w2 : (Cond.instanceMethod y).before a0 Z = true) (w3 : (Cond.initialized y.cls).before a0 Z = true) (w4 : (Cond.code y b' mL none).before a0 Z = true)
    (hy : y.cls ≠ "java/lang/invoke/MethodHandle" ∧ y.cls ≠ "java/lang/invoke/VarHandle") (con : n0 ≤ h.size → ConL l Z EL y b' mL none [] rm rm.cells rm.slots (.ref b :: argsL).toArray h n0 sf Gc) (hsf : ∀ x ∈ sf, x < h.size ∧ Safe Z EL vm0 h x)
    (hd : decode bytes pc = .ok (.invokespecial i, 3)) (hp : pc + 3 = pc') (hsz : Ls.size = ml) {ps : List FieldType} {rr : Option FieldType} (hds : parseMethodDescriptor y.desc = some ⟨ps, rr⟩) (hlen : argsL.length = ps.length)
    (hS : S = argsL.reverse ++ .ref b :: rest) (hW : (rest.map fun v => v.category).sum = W) (hf : rm.frames + 1 ≤ R.frames) (hl : W + (mL + 11) + rm.locals ≤ R.locals) (hc : k + rm.cells ≤ R.cells) (hs : n + rm.slots ≤ R.slots) {k' n' : Nat} (hk' : k + rm.cells = k') (hn' : n + rm.slots = n')
    (g : ∀ vm1 k1 h' v, Cx p (s0.setVm vm1) m meth c Z n0 own bytes ml ret → Lt Z a0 EL s0 vm1 k1 h' → (∀ x, x < h.size → Safe Z EL vm0 h x → Safe Z EL vm1 h' x) → Gc v h' → Go p l e R (s0.setVm vm1) m args below meth c Y n0 G h' k' n' (mkF m pc' Ls (v.toList ++ rest))) :
    Go p l e R (s0.setVm vm0) m args below meth c Y n0 G h k n (mkF m pc Ls S) := fun T ⟨locs, F, X, eT⟩ => by
  subst hp hS hk' hn'
  obtain ⟨v, _, ⟨T', L', k', n'⟩, -, X', hSi, hg, ⟨Lc, ⟨hQ, hF⟩, l1, y1, z1, hC⟩, st⟩ := X.specialBackS C.1 hy1 C.2.2.2.2.1 (mvT C.2.1 w1) (mvT C.2.1 w2) (mvT C.2.1 w4) hy
    (backOfL (W := W) (con (hz C X eT)) L.2.2.2.2.2 w4 w3 hf hl L.2.2.2.1 L.2.2.1.1 hsf) (g := mkF m pc Ls (argsL.reverse ++ .ref b :: rest)) rfl (hsz.trans C.2.2.2.1.symm) (Steps.refl _) (a := b) (argsL := argsL) (rest := rest) (lenOf hds hlen) rfl (by show 2 * 0 + _ ≤ _; rw [Nat.mul_zero, Nat.zero_add]; exact Nat.le_of_eq hW) (hb C.2.2.1 hd) (fun _ _ => ⟨rfl, eT, hc, hs⟩)
  dsimp only [Pt.U, Pt.locs, Pt.cells, Pt.slots] at X' l1 y1 z1 st hQ hSi hg hC
  subst l1 y1 z1
  have hk0 : k0 ≤ T.heap.size := by rw [eT]; exact L.2.1
  obtain ⟨Xr, Sr, Wr', Or⟩ := rebS L.1 hk0 X' hSi hg C.2.1 C.2.2.2.2.1
  exact step (fun t q => st.trans q) (g T'.vm _ T'.heap v ⟨C.1, Wr', C.2.2.1, C.2.2.2.1, Or, C.2.2.2.2.2.1, C.2.2.2.2.2.2.1, C.2.2.2.2.2.2.2⟩ ⟨Sr, Nat.le_refl _, L.2.2.1.trans hC, L.2.2.2.1, L.2.2.2.2.1, Wr'⟩ (fun x hx Sx => hC.safe hx Sx) hQ T' ⟨_, Fr.app F hF, Xr, rfl⟩)
end Lit
end Jvm.Pilot.@@N@@.W
namespace Jvm.Pilot.@@N@@
open Jvm Jvm.ClassFile Sem Op Lib Jvm.Free Jvm.Stand Jvm.LawKit Jvm.RoadKit Bundle Jvm.Pilot.@@N@@.Jvm.D
theorem ef_2 (m : MethodId) (o0 : Addr) : entryFrame m #[(.ref o0)] 1 = mkF m 0 #[.val (.ref o0)] [] := by first | (simp [entryFrame, mkF, argsToLocals, Value.category]; done) | rfl
theorem pn_0 : plainName "com/example/lower/lower/sql/Dialect" = true := by first | (simp [plainName, overriddenIn]; done) | decide +kernel
theorem d2_0 : decode prog_13_method_5_code 0 = .ok (.aload_n 0, 1) := by decide +kernel
theorem d2_1 : decode prog_13_method_5_code 1 = .ok (.getfield 32, 3) := by decide +kernel
theorem d2_4 : decode prog_13_method_5_code 4 = .ok (.areturn, 1) := by decide +kernel
theorem ef_5 (m : MethodId) (o0 : Addr) : entryFrame m #[(.ref o0)] 1 = mkF m 0 #[.val (.ref o0)] [] := by first | (simp [entryFrame, mkF, argsToLocals, Value.category]; done) | rfl
theorem d5_0 : decode prog_13_method_16_code 0 = .ok (.aload_n 0, 1) := by decide +kernel
theorem d5_1 : decode prog_13_method_16_code 1 = .ok (.getstatic 10, 3) := by decide +kernel
theorem d5_4 : decode prog_13_method_16_code 4 = .ok (.if_acmp .ne 7, 3) := by decide +kernel
theorem d5_11 : decode prog_13_method_16_code 11 = .ok (.iconst 0, 1) := by decide +kernel
theorem d5_12 : decode prog_13_method_16_code 12 = .ok (.ireturn, 1) := by decide +kernel
theorem d5_7 : decode prog_13_method_16_code 7 = .ok (.iconst 1, 1) := by decide +kernel
theorem d5_8 : decode prog_13_method_16_code 8 = .ok (.goto 4, 3) := by decide +kernel
theorem ef_4d (m : MethodId) (v0 : Addr) (v1 : Addr) : entryFrame m #[(.ref v0), (.ref v1)] 3 = mkF m 0 #[.val (.ref v0), .val (.ref v1), .unset] [] := by first | (simp [entryFrame, mkF, argsToLocals, Value.category]; done) | rfl
theorem pn_1 : plainName "java/lang/StringLatin1" = true := by first | (simp [plainName, overriddenIn]; done) | decide +kernel
theorem d4_0 : decode jdk_43_method_13_code 0 = .ok (.aload_n 0, 1) := by decide +kernel
theorem d4_1 : decode jdk_43_method_13_code 1 = .ok (.arraylength, 1) := by decide +kernel
theorem d4_2 : decode jdk_43_method_13_code 2 = .ok (.aload_n 1, 1) := by decide +kernel
theorem d4_3 : decode jdk_43_method_13_code 3 = .ok (.arraylength, 1) := by decide +kernel
theorem d4_4 : decode jdk_43_method_13_code 4 = .ok (.if_icmp .ne 30, 3) := by decide +kernel
theorem d4_34 : decode jdk_43_method_13_code 34 = .ok (.iconst 0, 1) := by decide +kernel
theorem d4_35 : decode jdk_43_method_13_code 35 = .ok (.ireturn, 1) := by decide +kernel
theorem ef_3d (m : MethodId) (o0 : Addr) (o1 : Addr) : entryFrame m #[(.ref o0), (.ref o1)] 3 = mkF m 0 #[.val (.ref o0), .val (.ref o1), .unset] [] := by first | (simp [entryFrame, mkF, argsToLocals, Value.category]; done) | rfl
theorem pn_2 : plainName "java/lang/String" = true := by first | (simp [plainName, overriddenIn]; done) | decide +kernel
theorem d3_0 : decode jdk_42_method_66_code 0 = .ok (.aload_n 0, 1) := by decide +kernel
theorem d3_1 : decode jdk_42_method_66_code 1 = .ok (.aload_n 1, 1) := by decide +kernel
theorem d3_2 : decode jdk_42_method_66_code 2 = .ok (.if_acmp .ne 5, 3) := by decide +kernel
theorem d3_7 : decode jdk_42_method_66_code 7 = .ok (.aload_n 1, 1) := by decide +kernel
theorem d3_8 : decode jdk_42_method_66_code 8 = .ok (.instanceof 10, 3) := by decide +kernel
theorem d3_11 : decode jdk_42_method_66_code 11 = .ok (.ifCond .eq 43, 3) := by decide +kernel
theorem d3_14 : decode jdk_42_method_66_code 14 = .ok (.aload_n 1, 1) := by decide +kernel
theorem d3_15 : decode jdk_42_method_66_code 15 = .ok (.checkcast 10, 3) := by decide +kernel
theorem d3_18 : decode jdk_42_method_66_code 18 = .ok (.astore_n 2, 1) := by decide +kernel
theorem d3_19 : decode jdk_42_method_66_code 19 = .ok (.getstatic 38, 3) := by decide +kernel
theorem d3_22 : decode jdk_42_method_66_code 22 = .ok (.ifCond .eq 14, 3) := by decide +kernel
theorem d3_25 : decode jdk_42_method_66_code 25 = .ok (.aload_n 0, 1) := by decide +kernel
theorem d3_26 : decode jdk_42_method_66_code 26 = .ok (.getfield 15, 3) := by decide +kernel
theorem d3_29 : decode jdk_42_method_66_code 29 = .ok (.aload_n 2, 1) := by decide +kernel
theorem d3_30 : decode jdk_42_method_66_code 30 = .ok (.getfield 15, 3) := by decide +kernel
theorem d3_33 : decode jdk_42_method_66_code 33 = .ok (.if_icmp .ne 21, 3) := by decide +kernel
theorem d3_36 : decode jdk_42_method_66_code 36 = .ok (.aload_n 0, 1) := by decide +kernel
theorem d3_37 : decode jdk_42_method_66_code 37 = .ok (.getfield 9, 3) := by decide +kernel
theorem d3_40 : decode jdk_42_method_66_code 40 = .ok (.aload_n 2, 1) := by decide +kernel
theorem d3_41 : decode jdk_42_method_66_code 41 = .ok (.getfield 9, 3) := by decide +kernel
theorem d3_44 : decode jdk_42_method_66_code 44 = .ok (.invokestatic 541, 3) := by decide +kernel
theorem pd_0 : parseMethodDescriptor "([B[B)Z" = some ⟨[(.array .byte), (.array .byte)], some .boolean⟩ := by decide +kernel
theorem d3_47 : decode jdk_42_method_66_code 47 = .ok (.ifCond .eq 7, 3) := by decide +kernel
theorem d3_54 : decode jdk_42_method_66_code 54 = .ok (.iconst 0, 1) := by decide +kernel
theorem d3_55 : decode jdk_42_method_66_code 55 = .ok (.ireturn, 1) := by decide +kernel
theorem ef_4sL (m : MethodId) (v0 : Addr) (v1 : Addr) : entryFrame m #[(.ref v0), (.ref v1)] 3 = mkF m 0 #[.val (.ref v0), .val (.ref v1), .unset] [] := by first | (simp [entryFrame, mkF, argsToLocals, Value.category]; done) | rfl
theorem d4_7 : decode jdk_43_method_13_code 7 = .ok (.iconst 0, 1) := by decide +kernel
theorem d4_8 : decode jdk_43_method_13_code 8 = .ok (.istore_n 2, 1) := by decide +kernel
theorem d4_9 : decode jdk_43_method_13_code 9 = .ok (.iload_n 2, 1) := by decide +kernel
theorem d4_10 : decode jdk_43_method_13_code 10 = .ok (.aload_n 0, 1) := by decide +kernel
theorem d4_11 : decode jdk_43_method_13_code 11 = .ok (.arraylength, 1) := by decide +kernel
theorem d4_12 : decode jdk_43_method_13_code 12 = .ok (.if_icmp .ge 20, 3) := by decide +kernel
theorem d4_15 : decode jdk_43_method_13_code 15 = .ok (.aload_n 0, 1) := by decide +kernel
theorem d4_16 : decode jdk_43_method_13_code 16 = .ok (.iload_n 2, 1) := by decide +kernel
theorem d4_17 : decode jdk_43_method_13_code 17 = .ok (.baload, 1) := by decide +kernel
theorem d4_18 : decode jdk_43_method_13_code 18 = .ok (.aload_n 1, 1) := by decide +kernel
theorem d4_19 : decode jdk_43_method_13_code 19 = .ok (.iload_n 2, 1) := by decide +kernel
theorem d4_20 : decode jdk_43_method_13_code 20 = .ok (.baload, 1) := by decide +kernel
theorem d4_21 : decode jdk_43_method_13_code 21 = .ok (.if_icmp .eq 5, 3) := by decide +kernel
theorem d4_26 : decode jdk_43_method_13_code 26 = .ok (.iinc 2 1, 3) := by decide +kernel
theorem d4_29 : decode jdk_43_method_13_code 29 = .ok (.goto (-20), 3) := by decide +kernel
theorem d4_32 : decode jdk_43_method_13_code 32 = .ok (.iconst 1, 1) := by decide +kernel
theorem d4_33 : decode jdk_43_method_13_code 33 = .ok (.ireturn, 1) := by decide +kernel
theorem ef_3sL (m : MethodId) (o0 : Addr) (o1 : Addr) : entryFrame m #[(.ref o0), (.ref o1)] 3 = mkF m 0 #[.val (.ref o0), .val (.ref o1), .unset] [] := by first | (simp [entryFrame, mkF, argsToLocals, Value.category]; done) | rfl
theorem d3_50 : decode jdk_42_method_66_code 50 = .ok (.iconst 1, 1) := by decide +kernel
theorem d3_51 : decode jdk_42_method_66_code 51 = .ok (.goto 4, 3) := by decide +kernel
theorem d3_5 : decode jdk_42_method_66_code 5 = .ok (.iconst 1, 1) := by decide +kernel
theorem d3_6 : decode jdk_42_method_66_code 6 = .ok (.ireturn, 1) := by decide +kernel
theorem ef_1 (m : MethodId) (p0 : Int32) : entryFrame m #[(.int p0)] 2 = mkF m 0 #[.val (.int p0), .unset] [] := by first | (simp [entryFrame, mkF, argsToLocals, Value.category]; done) | rfl
theorem pn_3 : plainName "com/example/lower/lower/sql/DialectAssignsInOrderPinLaw" = true := by first | (simp [plainName, overriddenIn]; done) | decide +kernel
theorem d1_0 : decode method_2_code 0 = .ok (.iload_n 0, 1) := by decide +kernel
theorem d1_1 : decode method_2_code 1 = .ok (.ifCond .ne 10, 3) := by decide +kernel
theorem d1_11 : decode method_2_code 11 = .ok (.iload_n 0, 1) := by decide +kernel
theorem d1_12 : decode method_2_code 12 = .ok (.iconst 1, 1) := by decide +kernel
theorem d1_13 : decode method_2_code 13 = .ok (.if_icmp .ne 10, 3) := by decide +kernel
theorem d1_23 : decode method_2_code 23 = .ok (.getstatic 16, 3) := by decide +kernel
theorem d1_26 : decode method_2_code 26 = .ok (.astore_n 1, 1) := by decide +kernel
theorem d1_27 : decode method_2_code 27 = .ok (.aload_n 1, 1) := by decide +kernel
theorem d1_28 : decode method_2_code 28 = .ok (.areturn, 1) := by decide +kernel
theorem d1_16 : decode method_2_code 16 = .ok (.getstatic 13, 3) := by decide +kernel
theorem d1_19 : decode method_2_code 19 = .ok (.astore_n 1, 1) := by decide +kernel
theorem d1_20 : decode method_2_code 20 = .ok (.goto 7, 3) := by decide +kernel
theorem d1_4 : decode method_2_code 4 = .ok (.getstatic 7, 3) := by decide +kernel
theorem d1_7 : decode method_2_code 7 = .ok (.astore_n 1, 1) := by decide +kernel
theorem d1_8 : decode method_2_code 8 = .ok (.goto 19, 3) := by decide +kernel
theorem ef_0 (m : MethodId) (p0 : Int32) : entryFrame m #[(.int p0)] maxLocals = mkF m 0 #[.val (.int p0), .unset, .unset, .unset, .unset, .unset] [] := by first | (simp [entryFrame, mkF, argsToLocals, Value.category, maxLocals]; done) | rfl
theorem pd_1 : parseMethodDescriptor "(I)Lcom/example/lower/lower/sql/Dialect;" = some ⟨[.int], some (.object "com/example/lower/lower/sql/Dialect")⟩ := by decide +kernel
theorem pd_2 : parseMethodDescriptor "()Ljava/lang/String;" = some ⟨[], some (.object "java/lang/String")⟩ := by decide +kernel
theorem tx_0 : (∀ c ∈ "MariaDB".toList, c.toNat < 256) ∧ "MariaDB".toList.map (fun c => Value.int (Jvm.Lit.byteI c.toNat.toUInt16)) = [(.int (77 : Int32)), (.int (97 : Int32)), (.int (114 : Int32)), (.int (105 : Int32)), (.int (97 : Int32)), (.int (68 : Int32)), (.int (66 : Int32))] := by
  have e : "MariaDB".toList = ['M', 'a', 'r', 'i', 'a', 'D', 'B'] := by first | rfl | decide +kernel | simp
  rw [e]; constructor
  · decide
  · rfl
theorem txl_0 : 4 * "MariaDB".toList.length ≤ 28 := by
  have e : "MariaDB".toList = ['M', 'a', 'r', 'i', 'a', 'D', 'B'] := by first | rfl | decide +kernel | simp
  rw [e]; decide
theorem pd_3 : parseMethodDescriptor "(Ljava/lang/Object;)Z" = some ⟨[(.object "java/lang/Object")], some .boolean⟩ := by decide +kernel
theorem pd_4 : parseMethodDescriptor "()Z" = some ⟨[], some .boolean⟩ := by decide +kernel
def own_eq (a b : Addr) : Int32 := if a = b then 1 else 0
theorem own_len {Z : State} {args : Array Value} {t : Term} {a : Addr} {c : Cell} {ty : FieldType} {k : Int32} (ht : t.eval args Z none [] Z = some (.ref a)) (A : Arr Z Z.heap a c ty) (h : (Cond.eq (Term.length t) (Term.int k)).value args Z none Z [] = some true) : c.slots.size < 2 ^ 31 ∧ c.slots.size.toInt32 = k := by
  have e := eqv_i (F := Term.int k) rfl h
  have hq : Z.arrayAt? a = some c := A.fin (Vm.Alike.refl _)
  by_cases q : c.slots.size < 2 ^ 31
  · rw [len_f ht hq q] at e
    exact ⟨q, Value.int.inj (Option.some.inj e)⟩
  · exfalso
    simp [Term.eval, ht, hq, q] at e
set_option maxRecDepth 65536 in
set_option maxHeartbeats 40000000 in
theorem rm2 (l : Launch) (Z : State) (a0 : Array Value) (hw : ∀ d ∈ tables_1, d.before a0 Z = true) (ws : List Jvm.Cond) (o0 r : Addr) (h0 : Heap) (n0 : Nat) (Z0 : n0 ≤ h0.size) (F0 : Fld Z h0 o0 "com/example/lower/lower/sql/Dialect" "productName" "Ljava/lang/String;" (.ref r)) :
    W.Con l Z (⟨"com/example/lower/lower/sql/Dialect", "productName", "()Ljava/lang/String;"⟩ : MethodName) prog_13_method_5_code 1 (some (.object "java/lang/String")) ws ({ frames := 0, cells := 0, slots := 0, locals := 0 } : Room) ({ frames := 0, cells := 0, slots := 0, locals := 0 } : Room).cells ({ frames := 0, cells := 0, slots := 0, locals := 0 } : Room).slots #[(.ref o0)] h0 n0 (fun v h => v = some (.ref r) ∧ h0 = h) := by
  refine W.enter (plainFor_of_name pn_0) Z0 ?_
  intro p e s m below meth c C hnm hsh
  have C : W.Cx p s m meth c Z n0 "com/example/lower/lower/sql/Dialect" prog_13_method_5_code 1 (some (.object "java/lang/String")) := C
  refine W.Go.castF (ef_2 m o0) ?_
  refine W.aloadN C d2_0 rfl rfl rfl ?_
  refine W.getfield C (hw _ (List.mem_of_getElem? (i := 13) rfl)) Via.refl F0 d2_1 rfl ?_
  refine W.retA C rfl rfl rfl d2_4 (by decide) (by decide) (fun _ _ _ _ q => q) ?_
  exact ⟨rfl, rfl⟩
set_option maxRecDepth 65536 in
set_option maxHeartbeats 40000000 in
theorem rm5 (l : Launch) (Z : State) (a0 : Array Value) (hw : ∀ d ∈ tables_1, d.before a0 Z = true) (ws : List Jvm.Cond) (o0 aG : Addr) (h0 : Heap) (n0 : Nat) (Z0 : n0 ≤ h0.size) (SG : Sta Z h0 "com/example/lower/lower/sql/Dialect" "MARIADB" "Lcom/example/lower/lower/sql/Dialect;" (.ref aG)) :
    W.Con l Z (⟨"com/example/lower/lower/sql/Dialect", "assignsInOrder", "()Z"⟩ : MethodName) prog_13_method_16_code 1 (some .boolean) ws ({ frames := 0, cells := 0, slots := 0, locals := 0 } : Room) ({ frames := 0, cells := 0, slots := 0, locals := 0 } : Room).cells ({ frames := 0, cells := 0, slots := 0, locals := 0 } : Room).slots #[(.ref o0)] h0 n0 (fun v h => v = some (.int (own_eq o0 aG)) ∧ h0 = h) := by
  refine W.enter (plainFor_of_name pn_0) Z0 ?_
  intro p e s m below meth c C hnm hsh
  have C : W.Cx p s m meth c Z n0 "com/example/lower/lower/sql/Dialect" prog_13_method_16_code 1 (some .boolean) := C
  refine W.Go.castF (ef_5 m o0) ?_
  refine W.aloadN C d5_0 rfl rfl rfl ?_
  refine W.getstatic C (hw _ (List.mem_of_getElem? (i := 42) rfl)) Via.refl SG d5_1 rfl ?_
  refine W.acmp C (pc' := 11) (pn := 7) rfl rfl d5_4 (by decide) rfl rfl (W.qa_ne o0 aG) (fun hc4 => ?_) (fun hc4 => ?_)
  · refine W.iconst C (x := (0 : Int32)) d5_11 rfl rfl ?_
    refine W.retZ C (w := (0 : Int32)) (by simp) d5_12 (by decide) (by decide) (by decide) (fun _ _ _ _ q => q) ?_
    exact ⟨by rw [show own_eq o0 aG = (0 : Int32) from if_neg hc4], rfl⟩
  · refine W.iconst C (x := (1 : Int32)) d5_7 rfl rfl ?_
    refine W.goto C (pc' := 12) d5_8 (by decide) rfl ?_
    refine W.retZ C (w := (1 : Int32)) (by simp) d5_12 (by decide) (by decide) (by decide) (fun _ _ _ _ q => q) ?_
    exact ⟨by rw [show own_eq o0 aG = (1 : Int32) from if_pos hc4], rfl⟩
set_option maxRecDepth 65536 in
set_option maxHeartbeats 40000000 in
theorem rmLd (l : Launch) (Z : State) (a0 : Array Value) (hw : ∀ d ∈ tables_1, d.before a0 Z = true) (ws : List Jvm.Cond) (v0 v1 : Addr) (k0 k1 : ClassId) (z0 z1 : Int32) (vs us : List Value) (h0 : Heap) (n0 : Nat) (Z0 : n0 ≤ h0.size) (V0 : Arv Z h0 v0 k0 .byte z0 vs (.int 0)) (V1 : Arv Z h0 v1 k1 .byte z1 us (.int 0)) (hz : ¬ z0 = z1) :
    W.Con l Z (⟨"java/lang/StringLatin1", "equals", "([B[B)Z"⟩ : MethodName) jdk_43_method_13_code 3 (some .boolean) ws ({ frames := 0, cells := 0, slots := 0, locals := 0 } : Room) ({ frames := 0, cells := 0, slots := 0, locals := 0 } : Room).cells ({ frames := 0, cells := 0, slots := 0, locals := 0 } : Room).slots #[(.ref v0), (.ref v1)] h0 n0 (fun v h => v = some (.int 0) ∧ h0 = h) := by
  refine W.enter (plainFor_of_name pn_1) Z0 ?_
  intro p e s m below meth c C hnm hsh
  have C : W.Cx p s m meth c Z n0 "java/lang/StringLatin1" jdk_43_method_13_code 3 (some .boolean) := C
  refine W.Go.castF (ef_4d m v0 v1) ?_
  refine W.aloadN C d4_0 rfl rfl rfl ?_
  refine W.arraylength C V0 d4_1 rfl ?_
  refine W.aloadN C d4_2 rfl rfl rfl ?_
  refine W.arraylength C V1 d4_3 rfl ?_
  refine W.icmp C (pc' := 34) (pn := 7) d4_4 (by decide) rfl rfl (W.q_ne z0 z1) (fun hc4 => ?_) (fun hc4 => ?_)
  rotate_left
  · exfalso
    exact hz hc4
  refine W.iconst C (x := (0 : Int32)) d4_34 rfl rfl ?_
  refine W.retZ C (w := (0 : Int32)) (by simp) d4_35 (by decide) (by decide) (by decide) (fun _ _ _ _ q => q) ?_
  exact ⟨rfl, rfl⟩
set_option maxRecDepth 65536 in
set_option maxHeartbeats 40000000 in
theorem rmEd (l : Launch) (Z : State) (a0 : Array Value) (hw : ∀ d ∈ tables_1, d.before a0 Z = true) (ws : List Jvm.Cond) (o0 o1 : Addr) (cs : Int32) (v0 v1 : Addr) (k0 k1 : ClassId) (z0 z1 : Int32) (vs us : List Value) (h0 : Heap) (n0 : Nat) (Z0 : n0 ≤ h0.size) (SC : Sta Z h0 "java/lang/String" "COMPACT_STRINGS" "Z" (.int cs)) (hcs : ¬ cs = 0) (E0 : Exa Z h0 o0 "java/lang/String") (C0 : Fld Z h0 o0 "java/lang/String" "coder" "B" (.int 0)) (B0 : Fld Z h0 o0 "java/lang/String" "value" "[B" (.ref v0)) (V0 : Arv Z h0 v0 k0 .byte z0 vs (.int 0)) (E1 : Exa Z h0 o1 "java/lang/String") (C1 : Fld Z h0 o1 "java/lang/String" "coder" "B" (.int 0)) (B1 : Fld Z h0 o1 "java/lang/String" "value" "[B" (.ref v1)) (V1 : Arv Z h0 v1 k1 .byte z1 us (.int 0)) (hz : ¬ z0 = z1) (hne : ¬ o0 = o1) :
    W.Con l Z (⟨"java/lang/String", "equals", "(Ljava/lang/Object;)Z"⟩ : MethodName) jdk_42_method_66_code 3 (some .boolean) ws ({ frames := 1, cells := 0, slots := 0, locals := 14 } : Room) ({ frames := 1, cells := 0, slots := 0, locals := 14 } : Room).cells ({ frames := 1, cells := 0, slots := 0, locals := 14 } : Room).slots #[(.ref o0), (.ref o1)] h0 n0 (fun v h => v = some (.int 0) ∧ h0 = h) := by
  refine W.enter (plainFor_of_name pn_2) Z0 ?_
  intro p e s m below meth c C hnm hsh
  have C : W.Cx p s m meth c Z n0 "java/lang/String" jdk_42_method_66_code 3 (some .boolean) := C
  refine W.Go.castF (ef_3d m o0 o1) ?_
  refine W.aloadN C d3_0 rfl rfl rfl ?_
  refine W.aloadN C d3_1 rfl rfl rfl ?_
  refine W.acmp C (pc' := 7) (pn := 5) rfl rfl d3_2 (by decide) rfl rfl (W.qa_ne o0 o1) (fun hc2 => ?_) (fun hc2 => ?_)
  rotate_left
  · exfalso
    exact hne hc2
  refine W.aloadN C d3_7 rfl rfl rfl ?_
  refine W.instT C (hw _ (List.mem_of_getElem? (i := 28) rfl)) (Ins.self E1) d3_8 rfl ?_
  refine W.ifc C (pc' := 54) (pn := 14) d3_11 (by decide) rfl rfl (W.q_eq (1 : Int32) (0 : Int32)) (fun hc11 => ?_) (fun hc11 => ?_)
  · exact absurd hc11 (by decide)
  refine W.aloadN C d3_14 rfl rfl rfl ?_
  refine W.castT C (hw _ (List.mem_of_getElem? (i := 28) rfl)) (Ins.self E1) d3_15 rfl ?_
  refine W.astoreN C (Ls' := #[.val (.ref o0), .val (.ref o1), .val (.ref o1)]) d3_18 rfl rfl rfl ?_
  refine W.getstatic C (hw _ (List.mem_of_getElem? (i := 30) rfl)) Via.refl SC d3_19 rfl ?_
  refine W.ifc C (pc' := 36) (pn := 25) d3_22 (by decide) rfl rfl (W.q_eq cs (0 : Int32)) (fun hc22 => ?_) (fun hc22 => ?_)
  · exfalso
    exact hcs hc22
  refine W.aloadN C d3_25 rfl rfl rfl ?_
  refine W.getfield C (hw _ (List.mem_of_getElem? (i := 31) rfl)) Via.refl C0 d3_26 rfl ?_
  refine W.aloadN C d3_29 rfl rfl rfl ?_
  refine W.getfield C (hw _ (List.mem_of_getElem? (i := 31) rfl)) Via.refl C1 d3_30 rfl ?_
  refine W.icmp C (pc' := 54) (pn := 36) d3_33 (by decide) rfl rfl (W.q_ne (0 : Int32) (0 : Int32)) (fun hc33 => ?_) (fun hc33 => ?_)
  · exact absurd rfl hc33
  refine W.aloadN C d3_36 rfl rfl rfl ?_
  refine W.getfield C (hw _ (List.mem_of_getElem? (i := 32) rfl)) Via.refl B0 d3_37 rfl ?_
  refine W.aloadN C d3_40 rfl rfl rfl ?_
  refine W.getfield C (hw _ (List.mem_of_getElem? (i := 32) rfl)) Via.refl B1 d3_41 rfl ?_
  refine W.callS C (y := (⟨"java/lang/StringLatin1", "equals", "([B[B)Z"⟩ : MethodName)) (hw _ (List.mem_of_getElem? (i := 33) rfl)) (hw _ (List.mem_of_getElem? (i := 34) rfl)) (hw _ (List.mem_of_getElem? (i := 35) rfl)) (hw _ (List.mem_of_getElem? (i := 36) rfl)) (by decide) (fun hz' => rmLd l Z a0 hw [] v0 v1 k0 k1 z0 z1 vs us h0 n0 hz' V0 V1 hz) d3_44 rfl rfl pd_0 rfl (argsL := [(.ref v0), (.ref v1)]) (rest := []) rfl (W := 0) rfl (by decide) (by decide) (by decide) (by decide) (k' := 0) (n' := 0) rfl rfl ?_
  rintro h1 _ ⟨rfl, rfl⟩
  show W.Go p l e _ _ m _ below meth c _ _ _ _ _ _ (mkF m 47 #[.val (.ref o0), .val (.ref o1), .val (.ref o1)] [(.int (0 : Int32))])
  refine W.ifc C (pc' := 54) (pn := 50) d3_47 (by decide) rfl rfl (W.q_eq (0 : Int32) (0 : Int32)) (fun hc47 => ?_) (fun hc47 => ?_)
  rotate_left
  · exact absurd rfl hc47
  refine W.iconst C (x := (0 : Int32)) d3_54 rfl rfl ?_
  refine W.retZ C (w := (0 : Int32)) (by simp) d3_55 (by decide) (by decide) (by decide) (fun _ _ _ _ q => q) ?_
  exact ⟨rfl, rfl⟩
set_option maxRecDepth 65536 in
set_option maxHeartbeats 40000000 in
theorem rmLsL (l : Launch) (Z : State) (a0 : Array Value) (hw : ∀ d ∈ tables_1, d.before a0 Z = true) (ws : List Jvm.Cond) (v0 v1 : Addr) (k0 k1 : ClassId) (h0 : Heap) (n0 : Nat) (Z0 : n0 ≤ h0.size) (V0 : Arv Z h0 v0 k0 .byte (7 : Int32) [(.int (77 : Int32)), (.int (97 : Int32)), (.int (114 : Int32)), (.int (105 : Int32)), (.int (97 : Int32)), (.int (68 : Int32)), (.int (66 : Int32))] (.int 0)) (V1 : Arv Z h0 v1 k1 .byte (7 : Int32) [(.int (77 : Int32)), (.int (97 : Int32)), (.int (114 : Int32)), (.int (105 : Int32)), (.int (97 : Int32)), (.int (68 : Int32)), (.int (66 : Int32))] (.int 0)) :
    W.Con l Z (⟨"java/lang/StringLatin1", "equals", "([B[B)Z"⟩ : MethodName) jdk_43_method_13_code 3 (some .boolean) ws ({ frames := 0, cells := 0, slots := 0, locals := 0 } : Room) ({ frames := 0, cells := 0, slots := 0, locals := 0 } : Room).cells ({ frames := 0, cells := 0, slots := 0, locals := 0 } : Room).slots #[(.ref v0), (.ref v1)] h0 n0 (fun v h => v = some (.int 1) ∧ h0 = h) := by
  refine W.enter (plainFor_of_name pn_1) Z0 ?_
  intro p e s m below meth c C hnm hsh
  have C : W.Cx p s m meth c Z n0 "java/lang/StringLatin1" jdk_43_method_13_code 3 (some .boolean) := C
  refine W.Go.castF (ef_4sL m v0 v1) ?_
  refine W.aloadN C d4_0 rfl rfl rfl ?_
  refine W.arraylength C V0 d4_1 rfl ?_
  refine W.aloadN C d4_2 rfl rfl rfl ?_
  refine W.arraylength C V1 d4_3 rfl ?_
  refine W.icmp C (pc' := 34) (pn := 7) d4_4 (by decide) rfl rfl (W.q_ne (7 : Int32) (7 : Int32)) (fun hc4 => ?_) (fun hc4 => ?_)
  · exact absurd rfl hc4
  refine W.iconst C (x := (0 : Int32)) d4_7 rfl rfl ?_
  refine W.istoreN C (Ls' := #[.val (.ref v0), .val (.ref v1), .val (.int (0 : Int32))]) d4_8 rfl rfl ?_
  refine W.iloadN C d4_9 rfl rfl ?_
  refine W.aloadN C d4_10 rfl rfl rfl ?_
  refine W.arraylength C V0 d4_11 rfl ?_
  refine W.icmp C (pc' := 32) (pn := 15) d4_12 (by decide) rfl rfl (W.q_ge (0 : Int32) (7 : Int32)) (fun hc12 => ?_) (fun hc12 => ?_)
  · exact absurd hc12 (by decide)
  refine W.aloadN C d4_15 rfl rfl rfl ?_
  refine W.iloadN C d4_16 rfl rfl ?_
  refine W.baload C (v := (.int (77 : Int32))) V0 (by decide) (by decide) rfl d4_17 rfl ?_
  refine W.aloadN C d4_18 rfl rfl rfl ?_
  refine W.iloadN C d4_19 rfl rfl ?_
  refine W.baload C (v := (.int (77 : Int32))) V1 (by decide) (by decide) rfl d4_20 rfl ?_
  refine W.icmp C (pc' := 26) (pn := 24) d4_21 (by decide) rfl rfl (W.q_eq (77 : Int32) (77 : Int32)) (fun hc21 => ?_) (fun hc21 => ?_)
  rotate_left
  · exact absurd rfl hc21
  refine W.iinc C (z := (1 : Int32)) (Ls' := #[.val (.ref v0), .val (.ref v1), .val (.int (1 : Int32))]) d4_26 rfl rfl (by decide) rfl ?_
  refine W.goto C (pc' := 9) d4_29 (by decide) rfl ?_
  refine W.iloadN C d4_9 rfl rfl ?_
  refine W.aloadN C d4_10 rfl rfl rfl ?_
  refine W.arraylength C V0 d4_11 rfl ?_
  refine W.icmp C (pc' := 32) (pn := 15) d4_12 (by decide) rfl rfl (W.q_ge (1 : Int32) (7 : Int32)) (fun hc12 => ?_) (fun hc12 => ?_)
  · exact absurd hc12 (by decide)
  refine W.aloadN C d4_15 rfl rfl rfl ?_
  refine W.iloadN C d4_16 rfl rfl ?_
  refine W.baload C (v := (.int (97 : Int32))) V0 (by decide) (by decide) rfl d4_17 rfl ?_
  refine W.aloadN C d4_18 rfl rfl rfl ?_
  refine W.iloadN C d4_19 rfl rfl ?_
  refine W.baload C (v := (.int (97 : Int32))) V1 (by decide) (by decide) rfl d4_20 rfl ?_
  refine W.icmp C (pc' := 26) (pn := 24) d4_21 (by decide) rfl rfl (W.q_eq (97 : Int32) (97 : Int32)) (fun hc21 => ?_) (fun hc21 => ?_)
  rotate_left
  · exact absurd rfl hc21
  refine W.iinc C (z := (2 : Int32)) (Ls' := #[.val (.ref v0), .val (.ref v1), .val (.int (2 : Int32))]) d4_26 rfl rfl (by decide) rfl ?_
  refine W.goto C (pc' := 9) d4_29 (by decide) rfl ?_
  refine W.iloadN C d4_9 rfl rfl ?_
  refine W.aloadN C d4_10 rfl rfl rfl ?_
  refine W.arraylength C V0 d4_11 rfl ?_
  refine W.icmp C (pc' := 32) (pn := 15) d4_12 (by decide) rfl rfl (W.q_ge (2 : Int32) (7 : Int32)) (fun hc12 => ?_) (fun hc12 => ?_)
  · exact absurd hc12 (by decide)
  refine W.aloadN C d4_15 rfl rfl rfl ?_
  refine W.iloadN C d4_16 rfl rfl ?_
  refine W.baload C (v := (.int (114 : Int32))) V0 (by decide) (by decide) rfl d4_17 rfl ?_
  refine W.aloadN C d4_18 rfl rfl rfl ?_
  refine W.iloadN C d4_19 rfl rfl ?_
  refine W.baload C (v := (.int (114 : Int32))) V1 (by decide) (by decide) rfl d4_20 rfl ?_
  refine W.icmp C (pc' := 26) (pn := 24) d4_21 (by decide) rfl rfl (W.q_eq (114 : Int32) (114 : Int32)) (fun hc21 => ?_) (fun hc21 => ?_)
  rotate_left
  · exact absurd rfl hc21
  refine W.iinc C (z := (3 : Int32)) (Ls' := #[.val (.ref v0), .val (.ref v1), .val (.int (3 : Int32))]) d4_26 rfl rfl (by decide) rfl ?_
  refine W.goto C (pc' := 9) d4_29 (by decide) rfl ?_
  refine W.iloadN C d4_9 rfl rfl ?_
  refine W.aloadN C d4_10 rfl rfl rfl ?_
  refine W.arraylength C V0 d4_11 rfl ?_
  refine W.icmp C (pc' := 32) (pn := 15) d4_12 (by decide) rfl rfl (W.q_ge (3 : Int32) (7 : Int32)) (fun hc12 => ?_) (fun hc12 => ?_)
  · exact absurd hc12 (by decide)
  refine W.aloadN C d4_15 rfl rfl rfl ?_
  refine W.iloadN C d4_16 rfl rfl ?_
  refine W.baload C (v := (.int (105 : Int32))) V0 (by decide) (by decide) rfl d4_17 rfl ?_
  refine W.aloadN C d4_18 rfl rfl rfl ?_
  refine W.iloadN C d4_19 rfl rfl ?_
  refine W.baload C (v := (.int (105 : Int32))) V1 (by decide) (by decide) rfl d4_20 rfl ?_
  refine W.icmp C (pc' := 26) (pn := 24) d4_21 (by decide) rfl rfl (W.q_eq (105 : Int32) (105 : Int32)) (fun hc21 => ?_) (fun hc21 => ?_)
  rotate_left
  · exact absurd rfl hc21
  refine W.iinc C (z := (4 : Int32)) (Ls' := #[.val (.ref v0), .val (.ref v1), .val (.int (4 : Int32))]) d4_26 rfl rfl (by decide) rfl ?_
  refine W.goto C (pc' := 9) d4_29 (by decide) rfl ?_
  refine W.iloadN C d4_9 rfl rfl ?_
  refine W.aloadN C d4_10 rfl rfl rfl ?_
  refine W.arraylength C V0 d4_11 rfl ?_
  refine W.icmp C (pc' := 32) (pn := 15) d4_12 (by decide) rfl rfl (W.q_ge (4 : Int32) (7 : Int32)) (fun hc12 => ?_) (fun hc12 => ?_)
  · exact absurd hc12 (by decide)
  refine W.aloadN C d4_15 rfl rfl rfl ?_
  refine W.iloadN C d4_16 rfl rfl ?_
  refine W.baload C (v := (.int (97 : Int32))) V0 (by decide) (by decide) rfl d4_17 rfl ?_
  refine W.aloadN C d4_18 rfl rfl rfl ?_
  refine W.iloadN C d4_19 rfl rfl ?_
  refine W.baload C (v := (.int (97 : Int32))) V1 (by decide) (by decide) rfl d4_20 rfl ?_
  refine W.icmp C (pc' := 26) (pn := 24) d4_21 (by decide) rfl rfl (W.q_eq (97 : Int32) (97 : Int32)) (fun hc21 => ?_) (fun hc21 => ?_)
  rotate_left
  · exact absurd rfl hc21
  refine W.iinc C (z := (5 : Int32)) (Ls' := #[.val (.ref v0), .val (.ref v1), .val (.int (5 : Int32))]) d4_26 rfl rfl (by decide) rfl ?_
  refine W.goto C (pc' := 9) d4_29 (by decide) rfl ?_
  refine W.iloadN C d4_9 rfl rfl ?_
  refine W.aloadN C d4_10 rfl rfl rfl ?_
  refine W.arraylength C V0 d4_11 rfl ?_
  refine W.icmp C (pc' := 32) (pn := 15) d4_12 (by decide) rfl rfl (W.q_ge (5 : Int32) (7 : Int32)) (fun hc12 => ?_) (fun hc12 => ?_)
  · exact absurd hc12 (by decide)
  refine W.aloadN C d4_15 rfl rfl rfl ?_
  refine W.iloadN C d4_16 rfl rfl ?_
  refine W.baload C (v := (.int (68 : Int32))) V0 (by decide) (by decide) rfl d4_17 rfl ?_
  refine W.aloadN C d4_18 rfl rfl rfl ?_
  refine W.iloadN C d4_19 rfl rfl ?_
  refine W.baload C (v := (.int (68 : Int32))) V1 (by decide) (by decide) rfl d4_20 rfl ?_
  refine W.icmp C (pc' := 26) (pn := 24) d4_21 (by decide) rfl rfl (W.q_eq (68 : Int32) (68 : Int32)) (fun hc21 => ?_) (fun hc21 => ?_)
  rotate_left
  · exact absurd rfl hc21
  refine W.iinc C (z := (6 : Int32)) (Ls' := #[.val (.ref v0), .val (.ref v1), .val (.int (6 : Int32))]) d4_26 rfl rfl (by decide) rfl ?_
  refine W.goto C (pc' := 9) d4_29 (by decide) rfl ?_
  refine W.iloadN C d4_9 rfl rfl ?_
  refine W.aloadN C d4_10 rfl rfl rfl ?_
  refine W.arraylength C V0 d4_11 rfl ?_
  refine W.icmp C (pc' := 32) (pn := 15) d4_12 (by decide) rfl rfl (W.q_ge (6 : Int32) (7 : Int32)) (fun hc12 => ?_) (fun hc12 => ?_)
  · exact absurd hc12 (by decide)
  refine W.aloadN C d4_15 rfl rfl rfl ?_
  refine W.iloadN C d4_16 rfl rfl ?_
  refine W.baload C (v := (.int (66 : Int32))) V0 (by decide) (by decide) rfl d4_17 rfl ?_
  refine W.aloadN C d4_18 rfl rfl rfl ?_
  refine W.iloadN C d4_19 rfl rfl ?_
  refine W.baload C (v := (.int (66 : Int32))) V1 (by decide) (by decide) rfl d4_20 rfl ?_
  refine W.icmp C (pc' := 26) (pn := 24) d4_21 (by decide) rfl rfl (W.q_eq (66 : Int32) (66 : Int32)) (fun hc21 => ?_) (fun hc21 => ?_)
  rotate_left
  · exact absurd rfl hc21
  refine W.iinc C (z := (7 : Int32)) (Ls' := #[.val (.ref v0), .val (.ref v1), .val (.int (7 : Int32))]) d4_26 rfl rfl (by decide) rfl ?_
  refine W.goto C (pc' := 9) d4_29 (by decide) rfl ?_
  refine W.iloadN C d4_9 rfl rfl ?_
  refine W.aloadN C d4_10 rfl rfl rfl ?_
  refine W.arraylength C V0 d4_11 rfl ?_
  refine W.icmp C (pc' := 32) (pn := 15) d4_12 (by decide) rfl rfl (W.q_ge (7 : Int32) (7 : Int32)) (fun hc12 => ?_) (fun hc12 => ?_)
  rotate_left
  · exact absurd hc12 (by decide)
  refine W.iconst C (x := (1 : Int32)) d4_32 rfl rfl ?_
  refine W.retZ C (w := (1 : Int32)) (by simp) d4_33 (by decide) (by decide) (by decide) (fun _ _ _ _ q => q) ?_
  exact ⟨rfl, rfl⟩
set_option maxRecDepth 65536 in
set_option maxHeartbeats 40000000 in
theorem rmEsL (l : Launch) (Z : State) (a0 : Array Value) (hw : ∀ d ∈ tables_1, d.before a0 Z = true) (ws : List Jvm.Cond) (o0 o1 : Addr) (cs : Int32) (v0 v1 : Addr) (k0 k1 : ClassId) (h0 : Heap) (n0 : Nat) (Z0 : n0 ≤ h0.size) (SC : Sta Z h0 "java/lang/String" "COMPACT_STRINGS" "Z" (.int cs)) (hcs : ¬ cs = 0) (E0 : Exa Z h0 o0 "java/lang/String") (C0 : Fld Z h0 o0 "java/lang/String" "coder" "B" (.int 0)) (B0 : Fld Z h0 o0 "java/lang/String" "value" "[B" (.ref v0)) (V0 : Arv Z h0 v0 k0 .byte (7 : Int32) [(.int (77 : Int32)), (.int (97 : Int32)), (.int (114 : Int32)), (.int (105 : Int32)), (.int (97 : Int32)), (.int (68 : Int32)), (.int (66 : Int32))] (.int 0)) (E1 : Exa Z h0 o1 "java/lang/String") (C1 : Fld Z h0 o1 "java/lang/String" "coder" "B" (.int 0)) (B1 : Fld Z h0 o1 "java/lang/String" "value" "[B" (.ref v1)) (V1 : Arv Z h0 v1 k1 .byte (7 : Int32) [(.int (77 : Int32)), (.int (97 : Int32)), (.int (114 : Int32)), (.int (105 : Int32)), (.int (97 : Int32)), (.int (68 : Int32)), (.int (66 : Int32))] (.int 0)) :
    W.Con l Z (⟨"java/lang/String", "equals", "(Ljava/lang/Object;)Z"⟩ : MethodName) jdk_42_method_66_code 3 (some .boolean) ws ({ frames := 1, cells := 0, slots := 0, locals := 14 } : Room) ({ frames := 1, cells := 0, slots := 0, locals := 14 } : Room).cells ({ frames := 1, cells := 0, slots := 0, locals := 14 } : Room).slots #[(.ref o0), (.ref o1)] h0 n0 (fun v h => v = some (.int 1) ∧ h0 = h) := by
  refine W.enter (plainFor_of_name pn_2) Z0 ?_
  intro p e s m below meth c C hnm hsh
  have C : W.Cx p s m meth c Z n0 "java/lang/String" jdk_42_method_66_code 3 (some .boolean) := C
  refine W.Go.castF (ef_3sL m o0 o1) ?_
  refine W.aloadN C d3_0 rfl rfl rfl ?_
  refine W.aloadN C d3_1 rfl rfl rfl ?_
  refine W.acmp C (pc' := 7) (pn := 5) rfl rfl d3_2 (by decide) rfl rfl (W.qa_ne o0 o1) (fun hc2 => ?_) (fun hc2 => ?_)
  · refine W.aloadN C d3_7 rfl rfl rfl ?_
    refine W.instT C (hw _ (List.mem_of_getElem? (i := 28) rfl)) (Ins.self E1) d3_8 rfl ?_
    refine W.ifc C (pc' := 54) (pn := 14) d3_11 (by decide) rfl rfl (W.q_eq (1 : Int32) (0 : Int32)) (fun hc11 => ?_) (fun hc11 => ?_)
    · exact absurd hc11 (by decide)
    refine W.aloadN C d3_14 rfl rfl rfl ?_
    refine W.castT C (hw _ (List.mem_of_getElem? (i := 28) rfl)) (Ins.self E1) d3_15 rfl ?_
    refine W.astoreN C (Ls' := #[.val (.ref o0), .val (.ref o1), .val (.ref o1)]) d3_18 rfl rfl rfl ?_
    refine W.getstatic C (hw _ (List.mem_of_getElem? (i := 30) rfl)) Via.refl SC d3_19 rfl ?_
    refine W.ifc C (pc' := 36) (pn := 25) d3_22 (by decide) rfl rfl (W.q_eq cs (0 : Int32)) (fun hc22 => ?_) (fun hc22 => ?_)
    · exfalso
      exact hcs hc22
    refine W.aloadN C d3_25 rfl rfl rfl ?_
    refine W.getfield C (hw _ (List.mem_of_getElem? (i := 31) rfl)) Via.refl C0 d3_26 rfl ?_
    refine W.aloadN C d3_29 rfl rfl rfl ?_
    refine W.getfield C (hw _ (List.mem_of_getElem? (i := 31) rfl)) Via.refl C1 d3_30 rfl ?_
    refine W.icmp C (pc' := 54) (pn := 36) d3_33 (by decide) rfl rfl (W.q_ne (0 : Int32) (0 : Int32)) (fun hc33 => ?_) (fun hc33 => ?_)
    · exact absurd rfl hc33
    refine W.aloadN C d3_36 rfl rfl rfl ?_
    refine W.getfield C (hw _ (List.mem_of_getElem? (i := 32) rfl)) Via.refl B0 d3_37 rfl ?_
    refine W.aloadN C d3_40 rfl rfl rfl ?_
    refine W.getfield C (hw _ (List.mem_of_getElem? (i := 32) rfl)) Via.refl B1 d3_41 rfl ?_
    refine W.callS C (y := (⟨"java/lang/StringLatin1", "equals", "([B[B)Z"⟩ : MethodName)) (hw _ (List.mem_of_getElem? (i := 33) rfl)) (hw _ (List.mem_of_getElem? (i := 34) rfl)) (hw _ (List.mem_of_getElem? (i := 35) rfl)) (hw _ (List.mem_of_getElem? (i := 36) rfl)) (by decide) (fun hz' => rmLsL l Z a0 hw [] v0 v1 k0 k1 h0 n0 hz' V0 V1) d3_44 rfl rfl pd_0 rfl (argsL := [(.ref v0), (.ref v1)]) (rest := []) rfl (W := 0) rfl (by decide) (by decide) (by decide) (by decide) (k' := 0) (n' := 0) rfl rfl ?_
    rintro h1 _ ⟨rfl, rfl⟩
    show W.Go p l e _ _ m _ below meth c _ _ _ _ _ _ (mkF m 47 #[.val (.ref o0), .val (.ref o1), .val (.ref o1)] [(.int (1 : Int32))])
    refine W.ifc C (pc' := 54) (pn := 50) d3_47 (by decide) rfl rfl (W.q_eq (1 : Int32) (0 : Int32)) (fun hc47 => ?_) (fun hc47 => ?_)
    · exact absurd hc47 (by decide)
    refine W.iconst C (x := (1 : Int32)) d3_50 rfl rfl ?_
    refine W.goto C (pc' := 55) d3_51 (by decide) rfl ?_
    refine W.retZ C (w := (1 : Int32)) (by simp) d3_55 (by decide) (by decide) (by decide) (fun _ _ _ _ q => q) ?_
    exact ⟨rfl, rfl⟩
  · refine W.iconst C (x := (1 : Int32)) d3_5 rfl rfl ?_
    refine W.retZ C (w := (1 : Int32)) (by simp) d3_6 (by decide) (by decide) (by decide) (fun _ _ _ _ q => q) ?_
    exact ⟨rfl, rfl⟩
set_option maxRecDepth 65536 in
set_option maxHeartbeats 40000000 in
theorem rm1 (l : Launch) (Z : State) (a0 : Array Value) (hw : ∀ d ∈ tables_1, d.before a0 Z = true) (ws : List Jvm.Cond) (p0 : Int32) (aH aP aM : Addr) (h0 : Heap) (n0 : Nat) (Z0 : n0 ≤ h0.size) (SH : Sta Z h0 "com/example/lower/lower/sql/Dialect" "H2" "Lcom/example/lower/lower/sql/Dialect;" (.ref aH)) (SP : Sta Z h0 "com/example/lower/lower/sql/Dialect" "POSTGRESQL" "Lcom/example/lower/lower/sql/Dialect;" (.ref aP)) (SM : Sta Z h0 "com/example/lower/lower/sql/Dialect" "MARIADB" "Lcom/example/lower/lower/sql/Dialect;" (.ref aM)) :
    W.Con l Z (⟨"com/example/lower/lower/sql/DialectAssignsInOrderPinLaw", "pick", "(I)Lcom/example/lower/lower/sql/Dialect;"⟩ : MethodName) method_2_code 2 (some (.object "com/example/lower/lower/sql/Dialect")) ws ({ frames := 0, cells := 0, slots := 0, locals := 0 } : Room) ({ frames := 0, cells := 0, slots := 0, locals := 0 } : Room).cells ({ frames := 0, cells := 0, slots := 0, locals := 0 } : Room).slots #[(.int p0)] h0 n0 (fun v h => ((p0 = 0 ∧ v = some (.ref aH)) ∨ (p0 = 1 ∧ v = some (.ref aP)) ∨ (¬ p0 = 0 ∧ ¬ p0 = 1 ∧ v = some (.ref aM))) ∧ h0 = h) := by
  refine W.enter (plainFor_of_name pn_3) Z0 ?_
  intro p e s m below meth c C hnm hsh
  have C : W.Cx p s m meth c Z n0 "com/example/lower/lower/sql/DialectAssignsInOrderPinLaw" method_2_code 2 (some (.object "com/example/lower/lower/sql/Dialect")) := C
  refine W.Go.castF (ef_1 m p0) ?_
  refine W.iloadN C d1_0 rfl rfl ?_
  refine W.ifc C (pc' := 11) (pn := 4) d1_1 (by decide) rfl rfl (W.q_ne p0 (0 : Int32)) (fun hc1 => ?_) (fun hc1 => ?_)
  · refine W.iloadN C d1_11 rfl rfl ?_
    refine W.iconst C (x := (1 : Int32)) d1_12 rfl rfl ?_
    refine W.icmp C (pc' := 23) (pn := 16) d1_13 (by decide) rfl rfl (W.q_ne p0 (1 : Int32)) (fun hc13 => ?_) (fun hc13 => ?_)
    · refine W.getstatic C (hw _ (List.mem_of_getElem? (i := 44) rfl)) Via.refl SM d1_23 rfl ?_
      refine W.astoreN C (Ls' := #[.val (.int p0), .val (.ref aM)]) d1_26 rfl rfl rfl ?_
      refine W.aloadN C d1_27 rfl rfl rfl ?_
      refine W.retA C rfl rfl rfl d1_28 (by decide) (by decide) (fun _ _ _ _ q => q) ?_
      exact ⟨Or.inr (Or.inr ⟨hc1, hc13, rfl⟩), rfl⟩
    · refine W.getstatic C (hw _ (List.mem_of_getElem? (i := 45) rfl)) Via.refl SP d1_16 rfl ?_
      refine W.astoreN C (Ls' := #[.val (.int p0), .val (.ref aP)]) d1_19 rfl rfl rfl ?_
      refine W.goto C (pc' := 27) d1_20 (by decide) rfl ?_
      refine W.aloadN C d1_27 rfl rfl rfl ?_
      refine W.retA C rfl rfl rfl d1_28 (by decide) (by decide) (fun _ _ _ _ q => q) ?_
      exact ⟨Or.inr (Or.inl ⟨hc13, rfl⟩), rfl⟩
  · refine W.getstatic C (hw _ (List.mem_of_getElem? (i := 5) rfl)) Via.refl SH d1_4 rfl ?_
    refine W.astoreN C (Ls' := #[.val (.int p0), .val (.ref aH)]) d1_7 rfl rfl rfl ?_
    refine W.goto C (pc' := 27) d1_8 (by decide) rfl ?_
    refine W.aloadN C d1_27 rfl rfl rfl ?_
    refine W.retA C rfl rfl rfl d1_28 (by decide) (by decide) (fun _ _ _ _ q => q) ?_
    exact ⟨Or.inl ⟨hc1, rfl⟩, rfl⟩
set_option maxRecDepth 65536 in
set_option maxHeartbeats 40000000 in
theorem rm0 (l : Launch) (Z : State) (a0 : Array Value) (hw : ∀ d ∈ tables_1, d.before a0 Z = true) (hEL : EW Z a0 consts_1) (hSA : ∀ a ∈ Bundle.stringAtoms, a.before a0 Z = true) (ws : List Jvm.Cond) (p0 : Int32) (aH aP aM sH sP sM vH vP vM : Addr) (kH kP kM : ClassId) (cs : Int32) (h0 : Heap) (n0 : Nat) (Z0 : n0 ≤ h0.size) (SH : Sta Z Z.heap "com/example/lower/lower/sql/Dialect" "H2" "Lcom/example/lower/lower/sql/Dialect;" (.ref aH)) (EH : Exa Z h0 aH "com/example/lower/lower/sql/Dialect") (PH : Fld Z h0 aH "com/example/lower/lower/sql/Dialect" "productName" "Ljava/lang/String;" (.ref sH)) (EsH : Exa Z h0 sH "java/lang/String") (CsH : Fld Z h0 sH "java/lang/String" "coder" "B" (.int 0)) (BsH : Fld Z h0 sH "java/lang/String" "value" "[B" (.ref vH)) (VsH : Arv Z h0 vH kH .byte (2 : Int32) [(.int (72 : Int32)), (.int (50 : Int32))] (.int 0)) (SP : Sta Z Z.heap "com/example/lower/lower/sql/Dialect" "POSTGRESQL" "Lcom/example/lower/lower/sql/Dialect;" (.ref aP)) (EP : Exa Z h0 aP "com/example/lower/lower/sql/Dialect") (PP : Fld Z h0 aP "com/example/lower/lower/sql/Dialect" "productName" "Ljava/lang/String;" (.ref sP)) (EsP : Exa Z h0 sP "java/lang/String") (CsP : Fld Z h0 sP "java/lang/String" "coder" "B" (.int 0)) (BsP : Fld Z h0 sP "java/lang/String" "value" "[B" (.ref vP)) (VsP : Arv Z h0 vP kP .byte (10 : Int32) [(.int (80 : Int32)), (.int (111 : Int32)), (.int (115 : Int32)), (.int (116 : Int32)), (.int (103 : Int32)), (.int (114 : Int32)), (.int (101 : Int32)), (.int (83 : Int32)), (.int (81 : Int32)), (.int (76 : Int32))] (.int 0)) (SM : Sta Z Z.heap "com/example/lower/lower/sql/Dialect" "MARIADB" "Lcom/example/lower/lower/sql/Dialect;" (.ref aM)) (EM : Exa Z h0 aM "com/example/lower/lower/sql/Dialect") (PM : Fld Z h0 aM "com/example/lower/lower/sql/Dialect" "productName" "Ljava/lang/String;" (.ref sM)) (EsM : Exa Z h0 sM "java/lang/String") (CsM : Fld Z h0 sM "java/lang/String" "coder" "B" (.int 0)) (BsM : Fld Z h0 sM "java/lang/String" "value" "[B" (.ref vM)) (VsM : Arv Z h0 vM kM .byte (7 : Int32) [(.int (77 : Int32)), (.int (97 : Int32)), (.int (114 : Int32)), (.int (105 : Int32)), (.int (97 : Int32)), (.int (68 : Int32)), (.int (66 : Int32))] (.int 0)) (SC : Sta Z Z.heap "java/lang/String" "COMPACT_STRINGS" "Z" (.int cs)) (hcs : ¬ cs = 0) (OO : Old Z n0 h0) (nH : ¬ aH = aM) (nP : ¬ aP = aM) :
    W.ConL l Z consts_1 x code maxLocals ret ws room_1 8 1088 #[(.int p0)] h0 n0 [] (fun v _ => v = some (.int 1)) := by
  refine W.enterL (plainFor_of_name pn_3) Z0 hEL hSA ?_
  intro p e s0 m below meth c C hnm hsh LT SF0
  have C : W.Cx p (s0.setVm s0.vm) m meth c Z n0 "com/example/lower/lower/sql/DialectAssignsInOrderPinLaw" code 6 (some .boolean) := C
  refine W.Go.castF (ef_0 m p0) ?_
  refine W.iloadN C at_0 rfl rfl ?_
  refine W.ldcI C (hw _ (List.mem_of_getElem? (i := 0) rfl)) at_1 rfl ?_
  obtain ⟨v1, hv1⟩ : ∃ z, z = (p0 &&& (2147483647 : Int32)) := ⟨_, rfl⟩
  have fv1 := c_mask p0 (2147483647 : Int32) 31 (by decide) (by decide)
  rw [← hv1] at fv1
  try simp only [Int32.reduceToInt, Int64.reduceToInt, Nat.reducePow, Int.reducePow, Int.cast_ofNat_Int] at fv1
  have rv1 := rng32 v1
  refine W.iand C at_3 rfl hv1.symm ?_
  refine W.iconst C (x := (3 : Int32)) at_4 rfl rfl ?_
  obtain ⟨v2, hv2⟩ : ∃ z, z = (v1 % (3 : Int32)) := ⟨_, rfl⟩
  have fv2 := c_irem v1 (3 : Int32) 3 rfl
  rw [← hv2] at fv2
  try simp only [Int32.reduceToInt, Int64.reduceToInt, Nat.reducePow, Int.reducePow, Int.cast_ofNat_Int] at fv2
  have rv2 := rng32 v2
  refine W.irem C at_5 rfl (by decide) hv2.symm ?_
  refine W.istoreN C (Ls' := #[.val (.int p0), .val (.int v2), .unset, .unset, .unset, .unset]) at_6 rfl rfl ?_
  refine W.iloadN C at_7 rfl rfl ?_
  refine W.callS C (y := (⟨"com/example/lower/lower/sql/DialectAssignsInOrderPinLaw", "pick", "(I)Lcom/example/lower/lower/sql/Dialect;"⟩ : MethodName)) (hw _ (List.mem_of_getElem? (i := 1) rfl)) (hw _ (List.mem_of_getElem? (i := 2) rfl)) (hw _ (List.mem_of_getElem? (i := 3) rfl)) (hw _ (List.mem_of_getElem? (i := 4) rfl)) (by decide) (fun hz => rm1 l Z a0 hw [] v2 aH aP aM h0 n0 hz (SH.ext OO.2) (SP.ext OO.2) (SM.ext OO.2)) at_8 rfl rfl pd_1 rfl (argsL := [(.int v2)]) (rest := []) rfl (W := 0) rfl (by decide) (by decide) (by decide) (by decide) (k' := 0) (n' := 0) rfl rfl ?_
  rintro h3 _ ⟨⟨hk, rfl⟩ | ⟨hk, rfl⟩ | ⟨hk, hk2, rfl⟩, rfl⟩
  · show W.Go p l e _ _ m _ below meth c _ _ _ _ _ _ (mkF m 11 #[.val (.int p0), .val (.int v2), .unset, .unset, .unset, .unset] [(.ref aH)])
    refine W.astoreN C (Ls' := #[.val (.int p0), .val (.int v2), .val (.ref aH), .unset, .unset, .unset]) at_11 rfl rfl rfl ?_
    refine W.iloadN C at_12 rfl rfl ?_
    refine W.iconst C (x := (2 : Int32)) at_13 rfl rfl ?_
    refine W.icmp C (pc' := 21) (pn := 17) at_14 (by decide) rfl rfl (W.q_ne v2 (2 : Int32)) (fun hc14 => ?_) (fun hc14 => ?_)
    rotate_left
    · exfalso
      rw [hk] at hc14
      exact absurd hc14 (by decide)
    refine W.iconst C (x := (0 : Int32)) at_21 rfl rfl ?_
    refine W.istoreN C (Ls' := #[.val (.int p0), .val (.int v2), .val (.ref aH), .val (.int (0 : Int32)), .unset, .unset]) at_22 rfl rfl ?_
    refine W.aloadN C at_23 rfl rfl rfl ?_
    refine W.callV C (y := (⟨"com/example/lower/lower/sql/Dialect", "productName", "()Ljava/lang/String;"⟩ : MethodName)) (a := aH) (hw _ (List.mem_of_getElem? (i := 8) rfl)) (hw _ (List.mem_of_getElem? (i := 9) rfl)) (W.nf_sel C (hw _ (List.mem_of_getElem? (i := 11) rfl))) (hw _ (List.mem_of_getElem? (i := 11) rfl)) (hw _ (List.mem_of_getElem? (i := 10) rfl)) (hw _ (List.mem_of_getElem? (i := 6) rfl)) (hw _ (List.mem_of_getElem? (i := 12) rfl)) (by decide) EH (fun hz => rm2 l Z a0 hw [] aH sH h0 n0 hz PH) at_24 rfl rfl pd_2 rfl (argsL := []) (rest := []) rfl (W := 0) rfl (by decide) (by decide) (by decide) (by decide) (k' := 0) (n' := 0) rfl rfl ?_
    rintro h4 _ ⟨rfl, rfl⟩
    show W.Go p l e _ _ m _ below meth c _ _ _ _ _ _ (mkF m 27 #[.val (.int p0), .val (.int v2), .val (.ref aH), .val (.int (0 : Int32)), .unset, .unset] [(.ref sH)])
    refine W.ldcL C (vs := [(.int (77 : Int32)), (.int (97 : Int32)), (.int (114 : Int32)), (.int (105 : Int32)), (.int (97 : Int32)), (.int (68 : Int32)), (.int (66 : Int32))]) (z := (7 : Int32)) (nn := 28) LT (hw _ (List.mem_of_getElem? (i := 15) rfl)) (List.mem_of_getElem? (i := 0) rfl) tx_0 (by decide) (by decide) at_27 rfl txl_0 (by decide) (by decide) (by decide) (k' := 2) (n' := 32) rfl rfl ?_
    intro vm5 k5 h5 a5 b5 kc_b5 C LT5 E5 X5 Fc5 Fv5 V5 SF5 NE5
    refine W.callV C (y := (⟨"java/lang/String", "equals", "(Ljava/lang/Object;)Z"⟩ : MethodName)) (a := sH) (hw _ (List.mem_of_getElem? (i := 23) rfl)) (hw _ (List.mem_of_getElem? (i := 24) rfl)) (W.nf_sel C (hw _ (List.mem_of_getElem? (i := 26) rfl))) (hw _ (List.mem_of_getElem? (i := 26) rfl)) (hw _ (List.mem_of_getElem? (i := 25) rfl)) (hw _ (List.mem_of_getElem? (i := 16) rfl)) (hw _ (List.mem_of_getElem? (i := 27) rfl)) (by decide) (EsH.ext E5) (fun hz' => rmEd l Z a0 hw [] sH a5 cs vH b5 kH kc_b5 (2 : Int32) (7 : Int32) [(.int (72 : Int32)), (.int (50 : Int32))] [(.int (77 : Int32)), (.int (97 : Int32)), (.int (114 : Int32)), (.int (105 : Int32)), (.int (97 : Int32)), (.int (68 : Int32)), (.int (66 : Int32))] h5 n0 hz' (SC.ext (OO.ext E5).2) hcs (EsH.ext E5) (CsH.ext E5) (BsH.ext E5) (VsH.ext E5) X5 Fc5 Fv5 V5 (by decide) ((BsH.ext E5).ne Fv5 (fun q => arv_ne (VsH.ext E5) V5 (by decide) (Value.ref.inj q)))) at_29 rfl rfl pd_3 rfl (argsL := [(.ref a5)]) (rest := []) rfl (W := 0) rfl (by decide) (by decide) (by decide) (by decide) (k' := 2) (n' := 32) rfl rfl ?_
    rintro h6 _ ⟨rfl, rfl⟩
    show W.Go p l e _ _ m _ below meth c _ _ _ _ _ _ (mkF m 32 #[.val (.int p0), .val (.int v2), .val (.ref aH), .val (.int (0 : Int32)), .unset, .unset] [(.int (0 : Int32))])
    refine W.istore C (Ls' := #[.val (.int p0), .val (.int v2), .val (.ref aH), .val (.int (0 : Int32)), .val (.int (0 : Int32)), .unset]) at_32 rfl rfl ?_
    refine W.aloadN C at_34 rfl rfl rfl ?_
    refine W.callV C (y := (⟨"com/example/lower/lower/sql/Dialect", "assignsInOrder", "()Z"⟩ : MethodName)) (a := aH) (hw _ (List.mem_of_getElem? (i := 37) rfl)) (hw _ (List.mem_of_getElem? (i := 38) rfl)) (W.nf_sel C (hw _ (List.mem_of_getElem? (i := 40) rfl))) (hw _ (List.mem_of_getElem? (i := 40) rfl)) (hw _ (List.mem_of_getElem? (i := 39) rfl)) (hw _ (List.mem_of_getElem? (i := 6) rfl)) (hw _ (List.mem_of_getElem? (i := 41) rfl)) (by decide) (EH.ext E5) (fun hz => rm5 l Z a0 hw [] aH aM h5 n0 hz (SM.ext (OO.ext E5).2)) at_35 rfl rfl pd_4 rfl (argsL := []) (rest := []) rfl (W := 0) rfl (by decide) (by decide) (by decide) (by decide) (k' := 2) (n' := 32) rfl rfl ?_
    rintro h7 _ ⟨rfl, rfl⟩
    rw [show own_eq aH aM = (0 : Int32) from if_neg nH]
    show W.Go p l e _ _ m _ below meth c _ _ _ _ _ _ (mkF m 38 #[.val (.int p0), .val (.int v2), .val (.ref aH), .val (.int (0 : Int32)), .val (.int (0 : Int32)), .unset] [(.int (0 : Int32))])
    refine W.istore C (Ls' := #[.val (.int p0), .val (.int v2), .val (.ref aH), .val (.int (0 : Int32)), .val (.int (0 : Int32)), .val (.int (0 : Int32))]) at_38 rfl rfl ?_
    refine W.iload C at_40 rfl rfl ?_
    refine W.iloadN C at_42 rfl rfl ?_
    refine W.icmp C (pc' := 57) (pn := 46) at_43 (by decide) rfl rfl (W.q_ne (0 : Int32) (0 : Int32)) (fun hc43 => ?_) (fun hc43 => ?_)
    · exact absurd rfl hc43
    refine W.iload C at_46 rfl rfl ?_
    refine W.iload C at_48 rfl rfl ?_
    refine W.icmp C (pc' := 57) (pn := 53) at_50 (by decide) rfl rfl (W.q_ne (0 : Int32) (0 : Int32)) (fun hc50 => ?_) (fun hc50 => ?_)
    · exact absurd rfl hc50
    refine W.iconst C (x := (1 : Int32)) at_53 rfl rfl ?_
    refine W.goto C (pc' := 58) at_54 (by decide) rfl ?_
    refine W.retZ C (w := (1 : Int32)) (by simp) at_58 (by decide) (by decide) (by decide) (W.Lt.fin LT5) ?_
    rfl
  · show W.Go p l e _ _ m _ below meth c _ _ _ _ _ _ (mkF m 11 #[.val (.int p0), .val (.int v2), .unset, .unset, .unset, .unset] [(.ref aP)])
    refine W.astoreN C (Ls' := #[.val (.int p0), .val (.int v2), .val (.ref aP), .unset, .unset, .unset]) at_11 rfl rfl rfl ?_
    refine W.iloadN C at_12 rfl rfl ?_
    refine W.iconst C (x := (2 : Int32)) at_13 rfl rfl ?_
    refine W.icmp C (pc' := 21) (pn := 17) at_14 (by decide) rfl rfl (W.q_ne v2 (2 : Int32)) (fun hc14 => ?_) (fun hc14 => ?_)
    rotate_left
    · exfalso
      rw [hk] at hc14
      exact absurd hc14 (by decide)
    refine W.iconst C (x := (0 : Int32)) at_21 rfl rfl ?_
    refine W.istoreN C (Ls' := #[.val (.int p0), .val (.int v2), .val (.ref aP), .val (.int (0 : Int32)), .unset, .unset]) at_22 rfl rfl ?_
    refine W.aloadN C at_23 rfl rfl rfl ?_
    refine W.callV C (y := (⟨"com/example/lower/lower/sql/Dialect", "productName", "()Ljava/lang/String;"⟩ : MethodName)) (a := aP) (hw _ (List.mem_of_getElem? (i := 8) rfl)) (hw _ (List.mem_of_getElem? (i := 9) rfl)) (W.nf_sel C (hw _ (List.mem_of_getElem? (i := 11) rfl))) (hw _ (List.mem_of_getElem? (i := 11) rfl)) (hw _ (List.mem_of_getElem? (i := 10) rfl)) (hw _ (List.mem_of_getElem? (i := 6) rfl)) (hw _ (List.mem_of_getElem? (i := 12) rfl)) (by decide) EP (fun hz => rm2 l Z a0 hw [] aP sP h0 n0 hz PP) at_24 rfl rfl pd_2 rfl (argsL := []) (rest := []) rfl (W := 0) rfl (by decide) (by decide) (by decide) (by decide) (k' := 0) (n' := 0) rfl rfl ?_
    rintro h8 _ ⟨rfl, rfl⟩
    show W.Go p l e _ _ m _ below meth c _ _ _ _ _ _ (mkF m 27 #[.val (.int p0), .val (.int v2), .val (.ref aP), .val (.int (0 : Int32)), .unset, .unset] [(.ref sP)])
    refine W.ldcL C (vs := [(.int (77 : Int32)), (.int (97 : Int32)), (.int (114 : Int32)), (.int (105 : Int32)), (.int (97 : Int32)), (.int (68 : Int32)), (.int (66 : Int32))]) (z := (7 : Int32)) (nn := 28) LT (hw _ (List.mem_of_getElem? (i := 15) rfl)) (List.mem_of_getElem? (i := 0) rfl) tx_0 (by decide) (by decide) at_27 rfl txl_0 (by decide) (by decide) (by decide) (k' := 2) (n' := 32) rfl rfl ?_
    intro vm9 k9 h9 a9 b9 kc_b9 C LT9 E9 X9 Fc9 Fv9 V9 SF9 NE9
    refine W.callV C (y := (⟨"java/lang/String", "equals", "(Ljava/lang/Object;)Z"⟩ : MethodName)) (a := sP) (hw _ (List.mem_of_getElem? (i := 23) rfl)) (hw _ (List.mem_of_getElem? (i := 24) rfl)) (W.nf_sel C (hw _ (List.mem_of_getElem? (i := 26) rfl))) (hw _ (List.mem_of_getElem? (i := 26) rfl)) (hw _ (List.mem_of_getElem? (i := 25) rfl)) (hw _ (List.mem_of_getElem? (i := 16) rfl)) (hw _ (List.mem_of_getElem? (i := 27) rfl)) (by decide) (EsP.ext E9) (fun hz' => rmEd l Z a0 hw [] sP a9 cs vP b9 kP kc_b9 (10 : Int32) (7 : Int32) [(.int (80 : Int32)), (.int (111 : Int32)), (.int (115 : Int32)), (.int (116 : Int32)), (.int (103 : Int32)), (.int (114 : Int32)), (.int (101 : Int32)), (.int (83 : Int32)), (.int (81 : Int32)), (.int (76 : Int32))] [(.int (77 : Int32)), (.int (97 : Int32)), (.int (114 : Int32)), (.int (105 : Int32)), (.int (97 : Int32)), (.int (68 : Int32)), (.int (66 : Int32))] h9 n0 hz' (SC.ext (OO.ext E9).2) hcs (EsP.ext E9) (CsP.ext E9) (BsP.ext E9) (VsP.ext E9) X9 Fc9 Fv9 V9 (by decide) ((BsP.ext E9).ne Fv9 (fun q => arv_ne (VsP.ext E9) V9 (by decide) (Value.ref.inj q)))) at_29 rfl rfl pd_3 rfl (argsL := [(.ref a9)]) (rest := []) rfl (W := 0) rfl (by decide) (by decide) (by decide) (by decide) (k' := 2) (n' := 32) rfl rfl ?_
    rintro h10 _ ⟨rfl, rfl⟩
    show W.Go p l e _ _ m _ below meth c _ _ _ _ _ _ (mkF m 32 #[.val (.int p0), .val (.int v2), .val (.ref aP), .val (.int (0 : Int32)), .unset, .unset] [(.int (0 : Int32))])
    refine W.istore C (Ls' := #[.val (.int p0), .val (.int v2), .val (.ref aP), .val (.int (0 : Int32)), .val (.int (0 : Int32)), .unset]) at_32 rfl rfl ?_
    refine W.aloadN C at_34 rfl rfl rfl ?_
    refine W.callV C (y := (⟨"com/example/lower/lower/sql/Dialect", "assignsInOrder", "()Z"⟩ : MethodName)) (a := aP) (hw _ (List.mem_of_getElem? (i := 37) rfl)) (hw _ (List.mem_of_getElem? (i := 38) rfl)) (W.nf_sel C (hw _ (List.mem_of_getElem? (i := 40) rfl))) (hw _ (List.mem_of_getElem? (i := 40) rfl)) (hw _ (List.mem_of_getElem? (i := 39) rfl)) (hw _ (List.mem_of_getElem? (i := 6) rfl)) (hw _ (List.mem_of_getElem? (i := 41) rfl)) (by decide) (EP.ext E9) (fun hz => rm5 l Z a0 hw [] aP aM h9 n0 hz (SM.ext (OO.ext E9).2)) at_35 rfl rfl pd_4 rfl (argsL := []) (rest := []) rfl (W := 0) rfl (by decide) (by decide) (by decide) (by decide) (k' := 2) (n' := 32) rfl rfl ?_
    rintro h11 _ ⟨rfl, rfl⟩
    rw [show own_eq aP aM = (0 : Int32) from if_neg nP]
    show W.Go p l e _ _ m _ below meth c _ _ _ _ _ _ (mkF m 38 #[.val (.int p0), .val (.int v2), .val (.ref aP), .val (.int (0 : Int32)), .val (.int (0 : Int32)), .unset] [(.int (0 : Int32))])
    refine W.istore C (Ls' := #[.val (.int p0), .val (.int v2), .val (.ref aP), .val (.int (0 : Int32)), .val (.int (0 : Int32)), .val (.int (0 : Int32))]) at_38 rfl rfl ?_
    refine W.iload C at_40 rfl rfl ?_
    refine W.iloadN C at_42 rfl rfl ?_
    refine W.icmp C (pc' := 57) (pn := 46) at_43 (by decide) rfl rfl (W.q_ne (0 : Int32) (0 : Int32)) (fun hc43 => ?_) (fun hc43 => ?_)
    · exact absurd rfl hc43
    refine W.iload C at_46 rfl rfl ?_
    refine W.iload C at_48 rfl rfl ?_
    refine W.icmp C (pc' := 57) (pn := 53) at_50 (by decide) rfl rfl (W.q_ne (0 : Int32) (0 : Int32)) (fun hc50 => ?_) (fun hc50 => ?_)
    · exact absurd rfl hc50
    refine W.iconst C (x := (1 : Int32)) at_53 rfl rfl ?_
    refine W.goto C (pc' := 58) at_54 (by decide) rfl ?_
    refine W.retZ C (w := (1 : Int32)) (by simp) at_58 (by decide) (by decide) (by decide) (W.Lt.fin LT9) ?_
    rfl
  · show W.Go p l e _ _ m _ below meth c _ _ _ _ _ _ (mkF m 11 #[.val (.int p0), .val (.int v2), .unset, .unset, .unset, .unset] [(.ref aM)])
    refine W.astoreN C (Ls' := #[.val (.int p0), .val (.int v2), .val (.ref aM), .unset, .unset, .unset]) at_11 rfl rfl rfl ?_
    refine W.iloadN C at_12 rfl rfl ?_
    refine W.iconst C (x := (2 : Int32)) at_13 rfl rfl ?_
    refine W.icmp C (pc' := 21) (pn := 17) at_14 (by decide) rfl rfl (W.q_ne v2 (2 : Int32)) (fun hc14 => ?_) (fun hc14 => ?_)
    · exfalso
      have z0 : ¬ v2.toInt = 0 := fun q => hk (Int32.toInt_inj.mp q)
      have z1 : ¬ v2.toInt = 1 := fun q => hk2 (Int32.toInt_inj.mp q)
      have z2 : ¬ v2.toInt = 2 := fun q => hc14 (Int32.toInt_inj.mp q)
      omega
    refine W.iconst C (x := (1 : Int32)) at_17 rfl rfl ?_
    refine W.goto C (pc' := 22) at_18 (by decide) rfl ?_
    refine W.istoreN C (Ls' := #[.val (.int p0), .val (.int v2), .val (.ref aM), .val (.int (1 : Int32)), .unset, .unset]) at_22 rfl rfl ?_
    refine W.aloadN C at_23 rfl rfl rfl ?_
    refine W.callV C (y := (⟨"com/example/lower/lower/sql/Dialect", "productName", "()Ljava/lang/String;"⟩ : MethodName)) (a := aM) (hw _ (List.mem_of_getElem? (i := 8) rfl)) (hw _ (List.mem_of_getElem? (i := 9) rfl)) (W.nf_sel C (hw _ (List.mem_of_getElem? (i := 11) rfl))) (hw _ (List.mem_of_getElem? (i := 11) rfl)) (hw _ (List.mem_of_getElem? (i := 10) rfl)) (hw _ (List.mem_of_getElem? (i := 6) rfl)) (hw _ (List.mem_of_getElem? (i := 12) rfl)) (by decide) EM (fun hz => rm2 l Z a0 hw [] aM sM h0 n0 hz PM) at_24 rfl rfl pd_2 rfl (argsL := []) (rest := []) rfl (W := 0) rfl (by decide) (by decide) (by decide) (by decide) (k' := 0) (n' := 0) rfl rfl ?_
    rintro h12 _ ⟨rfl, rfl⟩
    show W.Go p l e _ _ m _ below meth c _ _ _ _ _ _ (mkF m 27 #[.val (.int p0), .val (.int v2), .val (.ref aM), .val (.int (1 : Int32)), .unset, .unset] [(.ref sM)])
    refine W.ldcL C (vs := [(.int (77 : Int32)), (.int (97 : Int32)), (.int (114 : Int32)), (.int (105 : Int32)), (.int (97 : Int32)), (.int (68 : Int32)), (.int (66 : Int32))]) (z := (7 : Int32)) (nn := 28) LT (hw _ (List.mem_of_getElem? (i := 15) rfl)) (List.mem_of_getElem? (i := 0) rfl) tx_0 (by decide) (by decide) at_27 rfl txl_0 (by decide) (by decide) (by decide) (k' := 2) (n' := 32) rfl rfl ?_
    intro vm13 k13 h13 a13 b13 kc_b13 C LT13 E13 X13 Fc13 Fv13 V13 SF13 NE13
    refine W.callV C (y := (⟨"java/lang/String", "equals", "(Ljava/lang/Object;)Z"⟩ : MethodName)) (a := sM) (hw _ (List.mem_of_getElem? (i := 23) rfl)) (hw _ (List.mem_of_getElem? (i := 24) rfl)) (W.nf_sel C (hw _ (List.mem_of_getElem? (i := 26) rfl))) (hw _ (List.mem_of_getElem? (i := 26) rfl)) (hw _ (List.mem_of_getElem? (i := 25) rfl)) (hw _ (List.mem_of_getElem? (i := 16) rfl)) (hw _ (List.mem_of_getElem? (i := 27) rfl)) (by decide) (EsM.ext E13) (fun hz' => rmEsL l Z a0 hw [] sM a13 cs vM b13 kM kc_b13 h13 n0 hz' (SC.ext (OO.ext E13).2) hcs (EsM.ext E13) (CsM.ext E13) (BsM.ext E13) (VsM.ext E13) X13 Fc13 Fv13 V13) at_29 rfl rfl pd_3 rfl (argsL := [(.ref a13)]) (rest := []) rfl (W := 0) rfl (by decide) (by decide) (by decide) (by decide) (k' := 2) (n' := 32) rfl rfl ?_
    rintro h14 _ ⟨rfl, rfl⟩
    show W.Go p l e _ _ m _ below meth c _ _ _ _ _ _ (mkF m 32 #[.val (.int p0), .val (.int v2), .val (.ref aM), .val (.int (1 : Int32)), .unset, .unset] [(.int (1 : Int32))])
    refine W.istore C (Ls' := #[.val (.int p0), .val (.int v2), .val (.ref aM), .val (.int (1 : Int32)), .val (.int (1 : Int32)), .unset]) at_32 rfl rfl ?_
    refine W.aloadN C at_34 rfl rfl rfl ?_
    refine W.callV C (y := (⟨"com/example/lower/lower/sql/Dialect", "assignsInOrder", "()Z"⟩ : MethodName)) (a := aM) (hw _ (List.mem_of_getElem? (i := 37) rfl)) (hw _ (List.mem_of_getElem? (i := 38) rfl)) (W.nf_sel C (hw _ (List.mem_of_getElem? (i := 40) rfl))) (hw _ (List.mem_of_getElem? (i := 40) rfl)) (hw _ (List.mem_of_getElem? (i := 39) rfl)) (hw _ (List.mem_of_getElem? (i := 6) rfl)) (hw _ (List.mem_of_getElem? (i := 41) rfl)) (by decide) (EM.ext E13) (fun hz => rm5 l Z a0 hw [] aM aM h13 n0 hz (SM.ext (OO.ext E13).2)) at_35 rfl rfl pd_4 rfl (argsL := []) (rest := []) rfl (W := 0) rfl (by decide) (by decide) (by decide) (by decide) (k' := 2) (n' := 32) rfl rfl ?_
    rintro h15 _ ⟨rfl, rfl⟩
    rw [show own_eq aM aM = (1 : Int32) from if_pos rfl]
    show W.Go p l e _ _ m _ below meth c _ _ _ _ _ _ (mkF m 38 #[.val (.int p0), .val (.int v2), .val (.ref aM), .val (.int (1 : Int32)), .val (.int (1 : Int32)), .unset] [(.int (1 : Int32))])
    refine W.istore C (Ls' := #[.val (.int p0), .val (.int v2), .val (.ref aM), .val (.int (1 : Int32)), .val (.int (1 : Int32)), .val (.int (1 : Int32))]) at_38 rfl rfl ?_
    refine W.iload C at_40 rfl rfl ?_
    refine W.iloadN C at_42 rfl rfl ?_
    refine W.icmp C (pc' := 57) (pn := 46) at_43 (by decide) rfl rfl (W.q_ne (1 : Int32) (1 : Int32)) (fun hc43 => ?_) (fun hc43 => ?_)
    · exact absurd rfl hc43
    refine W.iload C at_46 rfl rfl ?_
    refine W.iload C at_48 rfl rfl ?_
    refine W.icmp C (pc' := 57) (pn := 53) at_50 (by decide) rfl rfl (W.q_ne (1 : Int32) (1 : Int32)) (fun hc50 => ?_) (fun hc50 => ?_)
    · exact absurd rfl hc50
    refine W.iconst C (x := (1 : Int32)) at_53 rfl rfl ?_
    refine W.goto C (pc' := 58) at_54 (by decide) rfl ?_
    refine W.retZ C (w := (1 : Int32)) (by simp) at_58 (by decide) (by decide) (by decide) (W.Lt.fin LT13) ?_
    rfl
set_option maxRecDepth 65536 in
set_option maxHeartbeats 40000000 in
theorem comes_1 {Post : Tables → Env → Array Value → State → Outcome → State → Prop} (hpost : ∀ tb e args s v u, (limb_1_1.after args s (.returned v) u = true ∧ limb_1_2.after args s (.returned v) u = true ∧ True) → FramedW s (.returned v) u (Jvm.fieldLocs frame_1_writes args s ++ Jvm.arrayLocs frame_1_arrays args s ++ Jvm.staticLocs frame_1_statics s) 8 1088 → Post tb e args s (.returned v) u) :
    ArmFor flags0 classFile x code maxLocals ret World_1 tables_1 room_1 Calls_1 rest_1 Pre_1 Post := by
  intro l hfl _ _ p e ha hc hk s m args below hf hA hF happ hP
  obtain ⟨hcalls, hrest, hpre⟩ := hP
  obtain ⟨-, -, -, hnamed, -, -, -, hat⟩ := (Spec.applies_iff hf).mp happ
  obtain ⟨hg, hn⟩ := and_e (Cond.before_iff.mp (show (Jvm.Cond.and given_1 narrow_1).before args s = true from hpre))
  obtain ⟨gv1, gv2⟩ := and_e hg
  obtain ⟨w0, rfl⟩ : ∃ w0 : Value, args = #[w0] := by
    have hs : args.size = 1 := by simpa [Cond.value, given_1] using gv1
    obtain ⟨L⟩ := args
    match L, hs with
    | [w0], _ => exact ⟨w0, rfl⟩
  have hw := fun d (hd : d ∈ tables_1) => atoms_spec (ws := Jvm.Cond.code x code maxLocals ret :: tables_1) hat d (List.mem_cons_of_mem _ hd)
  have hfit : Fit s := fun {y c} hc i hi => by
    obtain ⟨ha, rfl⟩ := Array.getElem?_eq_some_iff.mp hc
    have q := List.all_eq_true.mp ((Array.all_eq_true_iff_forall_mem.mp hF) _ (Array.getElem_mem ha)) i (List.mem_range.mpr hi)
    simpa [Array.getElem?_eq_getElem hi] using q
  obtain ⟨hsets, hown0⟩ := atoms_of _ (rest_1_c_eq ▸ (show rest_1_c.before _ s = true from hrest))
  have hr0 := Cond.before_iff.mp hown0
  obtain ⟨i0, ei0⟩ := is_v gv2
  obtain rfl : w0 = (.int i0) := Option.some.inj ei0
  obtain ⟨nw0, hn⟩ := and_e hn
  obtain ⟨nw1, hn⟩ := and_e hn
  obtain ⟨nw2, hn⟩ := and_e hn
  obtain ⟨nw3, hn⟩ := and_e hn
  obtain ⟨nw4, hn⟩ := and_e hn
  obtain ⟨nw5, hn⟩ := and_e hn
  obtain ⟨nw6, hn⟩ := and_e hn
  obtain ⟨nw7, hn⟩ := and_e hn
  obtain ⟨nw8, hn⟩ := and_e hn
  obtain ⟨nw9, hn⟩ := and_e hn
  obtain ⟨nw10, hn⟩ := and_e hn
  obtain ⟨nw11, hn⟩ := and_e hn
  obtain ⟨nw12, hn⟩ := and_e hn
  obtain ⟨nw13, hn⟩ := and_e hn
  obtain ⟨nw14, hn⟩ := and_e hn
  obtain ⟨nw15, hn⟩ := and_e hn
  obtain ⟨nw16, hn⟩ := and_e hn
  obtain ⟨nw17, hn⟩ := and_e hn
  obtain ⟨nw18, hn⟩ := and_e hn
  obtain ⟨nw19, hn⟩ := and_e hn
  obtain ⟨nw20, hn⟩ := and_e hn
  obtain ⟨nw21, hn⟩ := and_e hn
  obtain ⟨nw22, hn⟩ := and_e hn
  obtain ⟨nw23, hn⟩ := and_e hn
  obtain ⟨nw24, hn⟩ := and_e hn
  obtain ⟨nw25, hn⟩ := and_e hn
  obtain ⟨nw26, hn⟩ := and_e hn
  obtain ⟨nw27, hn⟩ := and_e hn
  obtain ⟨nw28, hn⟩ := and_e hn
  obtain ⟨nw29, hn⟩ := and_e hn
  obtain ⟨nw30, hn⟩ := and_e hn
  obtain ⟨nw31, hn⟩ := and_e hn
  obtain ⟨nw32, hn⟩ := and_e hn
  obtain ⟨nw33, hn⟩ := and_e hn
  obtain ⟨nw34, hn⟩ := and_e hn
  obtain ⟨nw35, hn⟩ := and_e hn
  have nw36 := hn
  obtain ⟨aH, eH⟩ := exa_v nw0
  have SH := Sta.start eH (Or.inr ⟨(hw _ (List.mem_of_getElem? (i := 6) rfl)), (hw _ (List.mem_of_getElem? (i := 7) rfl))⟩)
  have EH := Exa.start eH nw0
  obtain ⟨sH, esH⟩ := exa_v nw1
  have PH := Fld.start ((fld_at eH).symm.trans esH)
  have EsH := Exa.start esH nw1
  have CsH := Fld.start ((fld_at esH).symm.trans (eqv_i (F := Term.int 0) rfl nw2))
  obtain ⟨vH, evH⟩ := arr_v nw3
  have BsH := Fld.start ((fld_at esH).symm.trans evH)
  obtain ⟨cH, AH⟩ := Arr.start evH nw3
  obtain ⟨qH, lH⟩ := own_len evH AH nw4
  have tH0 : cH.slots[0]? = some (.int (72 : Int32)) := (elem_f (a := Term.int 0) (j := (0 : Int32)) evH rfl (AH.fin (Vm.Alike.refl _)) (by decide)).symm.trans (eqv_i (F := Term.int 72) rfl nw18)
  have tH1 : cH.slots[1]? = some (.int (50 : Int32)) := (elem_f (a := Term.int 1) (j := (1 : Int32)) evH rfl (AH.fin (Vm.Alike.refl _)) (by decide)).symm.trans (eqv_i (F := Term.int 50) rfl nw19)
  have VsH := Arv.start (dv := .int 0) (vs := [(.int (72 : Int32)), (.int (50 : Int32))]) hfit AH qH lH (by decide) (by decide) ⟨tH0, tH1, trivial⟩
  have FH := Fld.start ((fld_at eH).symm.trans (eqv_i (F := Term.int 0) rfl nw6))
  obtain ⟨aP, eP⟩ := exa_v nw12
  have SP := Sta.start eP (Or.inr ⟨(hw _ (List.mem_of_getElem? (i := 6) rfl)), (hw _ (List.mem_of_getElem? (i := 46) rfl))⟩)
  have EP := Exa.start eP nw12
  obtain ⟨sP, esP⟩ := exa_v nw13
  have PP := Fld.start ((fld_at eP).symm.trans esP)
  have EsP := Exa.start esP nw13
  have CsP := Fld.start ((fld_at esP).symm.trans (eqv_i (F := Term.int 0) rfl nw14))
  obtain ⟨vP, evP⟩ := arr_v nw15
  have BsP := Fld.start ((fld_at esP).symm.trans evP)
  obtain ⟨cP, AP⟩ := Arr.start evP nw15
  obtain ⟨qP, lP⟩ := own_len evP AP nw16
  have tP0 : cP.slots[0]? = some (.int (80 : Int32)) := (elem_f (a := Term.int 0) (j := (0 : Int32)) evP rfl (AP.fin (Vm.Alike.refl _)) (by decide)).symm.trans (eqv_i (F := Term.int 80) rfl nw27)
  have tP1 : cP.slots[1]? = some (.int (111 : Int32)) := (elem_f (a := Term.int 1) (j := (1 : Int32)) evP rfl (AP.fin (Vm.Alike.refl _)) (by decide)).symm.trans (eqv_i (F := Term.int 111) rfl nw28)
  have tP2 : cP.slots[2]? = some (.int (115 : Int32)) := (elem_f (a := Term.int 2) (j := (2 : Int32)) evP rfl (AP.fin (Vm.Alike.refl _)) (by decide)).symm.trans (eqv_i (F := Term.int 115) rfl nw29)
  have tP3 : cP.slots[3]? = some (.int (116 : Int32)) := (elem_f (a := Term.int 3) (j := (3 : Int32)) evP rfl (AP.fin (Vm.Alike.refl _)) (by decide)).symm.trans (eqv_i (F := Term.int 116) rfl nw30)
  have tP4 : cP.slots[4]? = some (.int (103 : Int32)) := (elem_f (a := Term.int 4) (j := (4 : Int32)) evP rfl (AP.fin (Vm.Alike.refl _)) (by decide)).symm.trans (eqv_i (F := Term.int 103) rfl nw31)
  have tP5 : cP.slots[5]? = some (.int (114 : Int32)) := (elem_f (a := Term.int 5) (j := (5 : Int32)) evP rfl (AP.fin (Vm.Alike.refl _)) (by decide)).symm.trans (eqv_i (F := Term.int 114) rfl nw32)
  have tP6 : cP.slots[6]? = some (.int (101 : Int32)) := (elem_f (a := Term.int 6) (j := (6 : Int32)) evP rfl (AP.fin (Vm.Alike.refl _)) (by decide)).symm.trans (eqv_i (F := Term.int 101) rfl nw33)
  have tP7 : cP.slots[7]? = some (.int (83 : Int32)) := (elem_f (a := Term.int 7) (j := (7 : Int32)) evP rfl (AP.fin (Vm.Alike.refl _)) (by decide)).symm.trans (eqv_i (F := Term.int 83) rfl nw34)
  have tP8 : cP.slots[8]? = some (.int (81 : Int32)) := (elem_f (a := Term.int 8) (j := (8 : Int32)) evP rfl (AP.fin (Vm.Alike.refl _)) (by decide)).symm.trans (eqv_i (F := Term.int 81) rfl nw35)
  have tP9 : cP.slots[9]? = some (.int (76 : Int32)) := (elem_f (a := Term.int 9) (j := (9 : Int32)) evP rfl (AP.fin (Vm.Alike.refl _)) (by decide)).symm.trans (eqv_i (F := Term.int 76) rfl nw36)
  have VsP := Arv.start (dv := .int 0) (vs := [(.int (80 : Int32)), (.int (111 : Int32)), (.int (115 : Int32)), (.int (116 : Int32)), (.int (103 : Int32)), (.int (114 : Int32)), (.int (101 : Int32)), (.int (83 : Int32)), (.int (81 : Int32)), (.int (76 : Int32))]) hfit AP qP lP (by decide) (by decide) ⟨tP0, tP1, tP2, tP3, tP4, tP5, tP6, tP7, tP8, tP9, trivial⟩
  have FP := Fld.start ((fld_at eP).symm.trans (eqv_i (F := Term.int 1) rfl nw17))
  obtain ⟨aM, eM⟩ := exa_v nw5
  have SM := Sta.start eM (Or.inr ⟨(hw _ (List.mem_of_getElem? (i := 6) rfl)), (hw _ (List.mem_of_getElem? (i := 43) rfl))⟩)
  have EM := Exa.start eM nw5
  obtain ⟨sM, esM⟩ := exa_v nw8
  have PM := Fld.start ((fld_at eM).symm.trans esM)
  have EsM := Exa.start esM nw8
  have CsM := Fld.start ((fld_at esM).symm.trans (eqv_i (F := Term.int 0) rfl nw9))
  obtain ⟨vM, evM⟩ := arr_v nw10
  have BsM := Fld.start ((fld_at esM).symm.trans evM)
  obtain ⟨cM, AM⟩ := Arr.start evM nw10
  obtain ⟨qM, lM⟩ := own_len evM AM nw11
  have tM0 : cM.slots[0]? = some (.int (77 : Int32)) := (elem_f (a := Term.int 0) (j := (0 : Int32)) evM rfl (AM.fin (Vm.Alike.refl _)) (by decide)).symm.trans (eqv_i (F := Term.int 77) rfl nw20)
  have tM1 : cM.slots[1]? = some (.int (97 : Int32)) := (elem_f (a := Term.int 1) (j := (1 : Int32)) evM rfl (AM.fin (Vm.Alike.refl _)) (by decide)).symm.trans (eqv_i (F := Term.int 97) rfl nw21)
  have tM2 : cM.slots[2]? = some (.int (114 : Int32)) := (elem_f (a := Term.int 2) (j := (2 : Int32)) evM rfl (AM.fin (Vm.Alike.refl _)) (by decide)).symm.trans (eqv_i (F := Term.int 114) rfl nw22)
  have tM3 : cM.slots[3]? = some (.int (105 : Int32)) := (elem_f (a := Term.int 3) (j := (3 : Int32)) evM rfl (AM.fin (Vm.Alike.refl _)) (by decide)).symm.trans (eqv_i (F := Term.int 105) rfl nw23)
  have tM4 : cM.slots[4]? = some (.int (97 : Int32)) := (elem_f (a := Term.int 4) (j := (4 : Int32)) evM rfl (AM.fin (Vm.Alike.refl _)) (by decide)).symm.trans (eqv_i (F := Term.int 97) rfl nw24)
  have tM5 : cM.slots[5]? = some (.int (68 : Int32)) := (elem_f (a := Term.int 5) (j := (5 : Int32)) evM rfl (AM.fin (Vm.Alike.refl _)) (by decide)).symm.trans (eqv_i (F := Term.int 68) rfl nw25)
  have tM6 : cM.slots[6]? = some (.int (66 : Int32)) := (elem_f (a := Term.int 6) (j := (6 : Int32)) evM rfl (AM.fin (Vm.Alike.refl _)) (by decide)).symm.trans (eqv_i (F := Term.int 66) rfl nw26)
  have VsM := Arv.start (dv := .int 0) (vs := [(.int (77 : Int32)), (.int (97 : Int32)), (.int (114 : Int32)), (.int (105 : Int32)), (.int (97 : Int32)), (.int (68 : Int32)), (.int (66 : Int32))]) hfit AM qM lM (by decide) (by decide) ⟨tM0, tM1, tM2, tM3, tM4, tM5, tM6, trivial⟩
  have FM := Fld.start ((fld_at eM).symm.trans (eqv_i (F := Term.int 2) rfl nw7))
  obtain ⟨cs, ecs⟩ := is_v (Cond.before_iff.mp (hsets _ (List.mem_of_getElem? (i := 1) rfl)))
  have SC : Sta s s.heap "java/lang/String" "COMPACT_STRINGS" "Z" (.int cs) := Sta.start ecs (Or.inl (hsets _ (List.mem_of_getElem? (i := 0) rfl)))
  have hcs : ¬ cs = 0 := fun q => by
    have hb := Cond.before_iff.mp (hsets _ (List.mem_of_getElem? (i := 2) rfl))
    subst q
    simp [Cond.value, Term.eval] at hb ecs
    simp [hb, ecs] at hb
  have hSA : ∀ a ∈ Bundle.stringAtoms, a.before #[(.int i0)] s = true := by
    intro a ha
    simp only [Bundle.stringAtoms, List.mem_cons, List.not_mem_nil, or_false] at ha
    rcases ha with rfl | rfl | rfl | rfl | rfl | rfl | rfl
    · exact (hw _ (List.mem_of_getElem? (i := 16) rfl))
    · exact (hw _ (List.mem_of_getElem? (i := 17) rfl))
    · exact (hw _ (List.mem_of_getElem? (i := 18) rfl))
    · exact (hw _ (List.mem_of_getElem? (i := 19) rfl))
    · exact (hw _ (List.mem_of_getElem? (i := 20) rfl))
    · exact (hw _ (List.mem_of_getElem? (i := 21) rfl))
    · exact (hw _ (List.mem_of_getElem? (i := 22) rfl))
  have hEL : EW s #[(.int i0)] consts_1 := (EW.cons (hw _ (List.mem_of_getElem? (i := 15) rfl)) tx_0.1 EW.nil)
  have hCH : CHv s consts_1 s.vm s.heap := CHv.start hEL (fun p hp => hcalls.1 p hp) (hsets _ (List.mem_of_getElem? (i := 2) rfl)) (hw _ (List.mem_of_getElem? (i := 18) rfl)) (hw _ (List.mem_of_getElem? (i := 17) rfl))
  obtain ⟨n, o, h1, h2, h3, v, L, rfl, ⟨hGv, N⟩, -, hq⟩ := rm0 l s _ hw hEL hSA tables_1 i0 aH aP aM sH sP sM vH vP vM _ _ _ cs s.heap s.heap.size (Nat.le_refl _) SH EH PH EsH CsH BsH VsH SP EP PP EsP CsP BsP VsP SM EM PM EsM CsM BsM VsM SC hcs (Old.start s) (FH.ne FM (by decide)) (FP.ne FM (by decide)) p e ha hc hk s m _ below hf ((Spec.applies_iff_loose hf).mp happ).1 ⟨rfl, State.Warmed39.refl s, rfl, hCH, fun x hx => absurd hx List.not_mem_nil⟩ trivial
  obtain rfl : v = some (.int 1) := hGv
  refine ⟨n, _, h1, h2, h3, hpost _ _ _ _ _ _ ⟨Cond.after_iff.mpr rfl, Cond.after_iff.mpr (eq_i res_at (Term.int_eval (1)) rfl), trivial⟩ ⟨hq.1, hq.2.1, hq.2.2.1, (hq.2.2.2.sift fun y hy => Or.inr (N y hy)).mono (by decide) (by decide)⟩⟩
theorem main_1_1 : Claimed_1_1 := comes_1 fun _ _ _ _ _ _ h hF => ⟨h.1, hF⟩
theorem main_1_2 : Claimed_1_2 := comes_1 fun _ _ _ _ _ _ h hF => ⟨h.2.1, hF⟩
end Jvm.Pilot.@@N@@
namespace Jvm.Pilot.@@N@@
open Jvm Jvm.ClassFile Sem Op Lib Jvm.Free Jvm.Stand Jvm.Pilot.@@N@@.Jvm.D
/-! MADE BY PROGRAM (witnessworld.py) out of the Statement's table words and the real class files: 18 classes; the members and pool entries that the words name. The judged class is class 1, her method 2. -/
namespace start1
open Jvm.ClassFile
def u (s : String) : CpInfo := .utf8 (stringToUtf16 s)
/-- a pool by its gaps: so many unusable entries, then the entry; so many at the end -/
def gap : Nat → List CpInfo → List CpInfo
  | 0, r => r
  | n + 1, r => .unusable :: gap n r
def poolList (es : List (Nat × CpInfo)) (last : Nat) : List CpInfo := es.foldr (fun e r => gap e.1 (e.2 :: r)) (gap last [])
def pool (es : List (Nat × CpInfo)) (last : Nat) : Array CpInfo := ⟨poolList es last⟩
def fileOf (pool : Array CpInfo) (this : Nat) (attrs : Array Attribute := #[]) (ms : Array MethodInfo := #[]) (fl : Nat := 33) (sup : Nat := 0) (ifs : Array Nat := #[]) (fds : Array FieldInfo := #[]) : ClassFile where
  minorVersion := 0
  majorVersion := 65
  constantPool := pool
  accessFlags := fl
  thisClass := this
  superClass := sup
  interfaces := ifs
  fields := fds
  methods := ms
  attributes := attrs
def plain (name : String) (sup : Option ClassId) : Class where
  name := name
  kind := .ordinary
  loader := none
  accessFlags := 33
  super := sup
  interfaces := #[]
  cf := none
  fields := #[]
  methods := #[]
  instanceTypes := #[]
  staticTypes := #[]
  resolved := #[]
  callSites := []
  init := .initialized
  statics := none
  mirror := none

def pool0 : Array CpInfo := pool [(5, u "<init>"), (0, u "()V"), (1, .class_ 10), (1, u "java/lang/Object")] 113

def k0m0 : Method := { name := "<init>", desc := "()V", sig := { parameters := [], returnType := none }, accessFlags := 1, code := none }
/-- java/lang/Object -/
def k0 : Class := { plain "java/lang/Object" none with
  accessFlags := 33
  interfaces := #[]
  cf := some (fileOf pool0 8 #[] #[{ accessFlags := 1, nameIndex := 5, descriptorIndex := 6, attributes := #[] }] 33 0 #[] #[])
  fields := #[]
  methods := #[k0m0]
  instanceTypes := #[]
  staticTypes := #[]
  resolved := Array.replicate 124 none
  statics := none }

def pool1 : Array CpInfo := pool [(2, .class_ 4), (1, u "java/lang/Object"), (0, u "<init>"), (0, u "()V"), (0, .fieldref 8 9), (0, .class_ 10), (0, .nameAndType 11 12), (0, u "com/example/lower/lower/sql/Dialect"), (0, u "H2"), (0, u "Lcom/example/lower/lower/sql/Dialect;"), (0, .fieldref 8 14), (0, .nameAndType 15 12), (0, u "POSTGRESQL"), (0, .fieldref 8 17), (0, .nameAndType 18 12), (0, u "MARIADB"), (0, .integer 2147483647), (0, .methodref 21 22), (0, .class_ 23), (0, .nameAndType 24 25), (0, u "com/example/lower/lower/sql/DialectAssignsInOrderPinLaw"), (0, u "pick"), (0, u "(I)Lcom/example/lower/lower/sql/Dialect;"), (0, .methodref 8 27), (0, .nameAndType 28 29), (0, u "productName"), (0, u "()Ljava/lang/String;"), (0, .string 31), (0, u "MariaDB"), (0, .methodref 33 34), (0, .class_ 35), (0, .nameAndType 36 37), (0, u "java/lang/String"), (0, u "equals"), (0, u "(Ljava/lang/Object;)Z"), (0, .methodref 8 39), (0, .nameAndType 40 41), (0, u "assignsInOrder"), (0, u "()Z"), (3, u "law"), (0, u "(I)Z")] 2

def k1m0 : Method := { name := "<init>", desc := "()V", sig := { parameters := [], returnType := none }, accessFlags := 2, code := none }
def k1c1 : Code := { maxStack := 2, maxLocals := 2, code := method_2_code, exceptionTable := #[], attributes := #[] }
def k1m1 : Method := { name := "pick", desc := "(I)Lcom/example/lower/lower/sql/Dialect;", sig := { parameters := [.int], returnType := some (.object "com/example/lower/lower/sql/Dialect") }, accessFlags := 10, code := some k1c1 }
def k1c2 : Code := { maxStack := 2, maxLocals := 6, code := code, exceptionTable := #[], attributes := #[] }
def k1m2 : Method := { name := "law", desc := "(I)Z", sig := { parameters := [.int], returnType := some .boolean }, accessFlags := 9, code := some k1c2 }
/-- com/example/lower/lower/sql/DialectAssignsInOrderPinLaw -/
def k1 : Class := { plain "com/example/lower/lower/sql/DialectAssignsInOrderPinLaw" (some 0) with
  accessFlags := 49
  interfaces := #[]
  cf := some (fileOf pool1 21 #[] #[{ accessFlags := 2, nameIndex := 5, descriptorIndex := 6, attributes := #[] }, { accessFlags := 10, nameIndex := 24, descriptorIndex := 25, attributes := #[] }, { accessFlags := 9, nameIndex := 45, descriptorIndex := 46, attributes := #[] }] 49 2 #[] #[])
  fields := #[]
  methods := #[k1m0, k1m1, k1m2]
  instanceTypes := #[]
  staticTypes := #[]
  resolved := Array.replicate 49 none
  statics := none }

def pool2 : Array CpInfo := pool [(1, .class_ 2), (0, u "java/lang/constant/Constable"), (0, .class_ 4), (0, u "java/lang/Object")] 6

/-- java/lang/constant/Constable -/
def k2 : Class := { plain "java/lang/constant/Constable" (some 0) with
  accessFlags := 1537
  interfaces := #[]
  cf := some (fileOf pool2 1 #[] #[] 1537 3 #[] #[])
  fields := #[]
  methods := #[]
  instanceTypes := #[]
  staticTypes := #[]
  resolved := Array.replicate 11 none
  statics := none }

def pool3 : Array CpInfo := pool [(1, .class_ 2), (0, u "java/lang/Comparable"), (0, .class_ 4), (0, u "java/lang/Object")] 7

/-- java/lang/Comparable -/
def k3 : Class := { plain "java/lang/Comparable" (some 0) with
  accessFlags := 1537
  interfaces := #[]
  cf := some (fileOf pool3 1 #[] #[] 1537 3 #[] #[])
  fields := #[]
  methods := #[]
  instanceTypes := #[]
  staticTypes := #[]
  resolved := Array.replicate 12 none
  statics := none }

def pool4 : Array CpInfo := pool [(1, .class_ 2), (0, u "java/io/Serializable"), (0, .class_ 4), (0, u "java/lang/Object")] 2

/-- java/io/Serializable -/
def k4 : Class := { plain "java/io/Serializable" (some 0) with
  accessFlags := 1537
  interfaces := #[]
  cf := some (fileOf pool4 1 #[] #[] 1537 3 #[] #[])
  fields := #[]
  methods := #[]
  instanceTypes := #[]
  staticTypes := #[]
  resolved := Array.replicate 7 none
  statics := none }

def pool5 : Array CpInfo := pool [(2, .class_ 4), (1, u "java/lang/Enum"), (0, u "name"), (0, u "Ljava/lang/String;"), (2, u "ordinal"), (0, u "I"), (1, .class_ 14), (1, u "java/lang/Object"), (4, u "hash"), (86, .class_ 108), (1, u "java/lang/Enum$EnumDesc"), (2, .class_ 112), (0, u "java/lang/constant/Constable"), (0, .class_ 114), (0, u "java/lang/Comparable"), (0, .class_ 116), (0, u "java/io/Serializable")] 87

/-- java/lang/Enum -/
def k5 : Class := { plain "java/lang/Enum" (some 0) with
  accessFlags := 1057
  interfaces := #[2, 3, 4]
  cf := some (fileOf pool5 2 #[.nestMembers #[106]] #[] 1057 12 #[111, 113, 115] #[{ accessFlags := 18, nameIndex := 5, descriptorIndex := 6, attributes := #[] }, { accessFlags := 18, nameIndex := 9, descriptorIndex := 10, attributes := #[] }, { accessFlags := 2, nameIndex := 19, descriptorIndex := 10, attributes := #[] }])
  fields := #[{ name := "name", type := (.object "java/lang/String"), accessFlags := 18, slot := 0, constantValue := 0 }, { name := "ordinal", type := .int, accessFlags := 18, slot := 1, constantValue := 0 }, { name := "hash", type := .int, accessFlags := 2, slot := 2, constantValue := 0 }]
  methods := #[]
  instanceTypes := #[(.object "java/lang/String"), .int, .int]
  staticTypes := #[]
  resolved := Array.replicate 204 none
  statics := none }

def pool6 : Array CpInfo := pool [(1, .class_ 2), (0, u "com/example/lower/lower/sql/Dialect"), (2, u "H2"), (0, u "Lcom/example/lower/lower/sql/Dialect;"), (2, u "POSTGRESQL"), (0, .fieldref 1 11), (0, .nameAndType 12 6), (0, u "MARIADB"), (2, u "$VALUES"), (0, u "[Lcom/example/lower/lower/sql/Dialect;"), (6, .class_ 25), (1, u "java/lang/Enum"), (6, .fieldref 1 33), (0, .nameAndType 34 35), (0, u "productName"), (0, u "Ljava/lang/String;"), (2, u "typeNames"), (0, u "Ljava/util/Map;"), (96, u "()Ljava/lang/String;"), (5, .class_ 144), (1, u "com/example/lower/lower/sql/Dialect$1"), (11, .class_ 158), (1, u "com/example/lower/lower/sql/Dialect$Form"), (85, u "WIDE_ZERO"), (116, u "()Z"), (1, u "assignsInOrder")] 69

def k6c0 : Code := { maxStack := 1, maxLocals := 1, code := prog_13_method_5_code, exceptionTable := #[], attributes := #[] }
def k6m0 : Method := { name := "productName", desc := "()Ljava/lang/String;", sig := { parameters := [], returnType := some (.object "java/lang/String") }, accessFlags := 1, code := some k6c0 }
def k6c1 : Code := { maxStack := 2, maxLocals := 1, code := prog_13_method_16_code, exceptionTable := #[], attributes := #[] }
def k6m1 : Method := { name := "assignsInOrder", desc := "()Z", sig := { parameters := [], returnType := some .boolean }, accessFlags := 0, code := some k6c1 }
/-- com/example/lower/lower/sql/Dialect -/
def k6 : Class := { plain "com/example/lower/lower/sql/Dialect" (some 5) with
  accessFlags := 16433
  interfaces := #[]
  cf := some (fileOf pool6 1 #[.nestMembers #[142, 156]] #[{ accessFlags := 1, nameIndex := 34, descriptorIndex := 136, attributes := #[] }, { accessFlags := 0, nameIndex := 363, descriptorIndex := 361, attributes := #[] }] 16433 23 #[] #[{ accessFlags := 16409, nameIndex := 5, descriptorIndex := 6, attributes := #[] }, { accessFlags := 16409, nameIndex := 9, descriptorIndex := 6, attributes := #[] }, { accessFlags := 16409, nameIndex := 12, descriptorIndex := 6, attributes := #[] }, { accessFlags := 26, nameIndex := 244, descriptorIndex := 35, attributes := #[] }, { accessFlags := 18, nameIndex := 34, descriptorIndex := 35, attributes := #[] }, { accessFlags := 18, nameIndex := 38, descriptorIndex := 39, attributes := #[] }, { accessFlags := 4122, nameIndex := 15, descriptorIndex := 16, attributes := #[] }])
  fields := #[{ name := "H2", type := (.object "com/example/lower/lower/sql/Dialect"), accessFlags := 16409, slot := 0, constantValue := 0 }, { name := "POSTGRESQL", type := (.object "com/example/lower/lower/sql/Dialect"), accessFlags := 16409, slot := 1, constantValue := 0 }, { name := "MARIADB", type := (.object "com/example/lower/lower/sql/Dialect"), accessFlags := 16409, slot := 2, constantValue := 0 }, { name := "WIDE_ZERO", type := (.object "java/lang/String"), accessFlags := 26, slot := 3, constantValue := 0 }, { name := "productName", type := (.object "java/lang/String"), accessFlags := 18, slot := 3, constantValue := 0 }, { name := "typeNames", type := (.object "java/util/Map"), accessFlags := 18, slot := 4, constantValue := 0 }, { name := "$VALUES", type := (.array (.object "com/example/lower/lower/sql/Dialect")), accessFlags := 4122, slot := 4, constantValue := 0 }]
  methods := #[k6m0, k6m1]
  instanceTypes := #[(.object "java/lang/String"), .int, .int, (.object "java/lang/String"), (.object "java/util/Map")]
  staticTypes := #[(.object "com/example/lower/lower/sql/Dialect"), (.object "com/example/lower/lower/sql/Dialect"), (.object "com/example/lower/lower/sql/Dialect"), (.object "java/lang/String"), (.array (.object "com/example/lower/lower/sql/Dialect"))]
  resolved := Array.replicate 433 none
  statics := some 0 }

def pool7 : Array CpInfo := pool [(2, .class_ 4), (1, u "java/lang/CharSequence"), (42, .class_ 48), (0, u "java/lang/CharSequence$1CodePointIterator"), (10, .class_ 60), (0, u "java/lang/CharSequence$1CharIterator"), (5, .class_ 67), (0, u "java/lang/Object")] 63

/-- java/lang/CharSequence -/
def k7 : Class := { plain "java/lang/CharSequence" (some 0) with
  accessFlags := 1537
  interfaces := #[]
  cf := some (fileOf pool7 2 #[.nestMembers #[47, 59]] #[] 1537 66 #[] #[])
  fields := #[]
  methods := #[]
  instanceTypes := #[]
  staticTypes := #[]
  resolved := Array.replicate 131 none
  statics := none }

def pool8 : Array CpInfo := pool [(1, .class_ 2), (0, u "java/lang/constant/ConstantDesc"), (0, .class_ 4), (0, u "java/lang/Object")] 32

/-- java/lang/constant/ConstantDesc -/
def k8 : Class := { plain "java/lang/constant/ConstantDesc" (some 0) with
  accessFlags := 1537
  interfaces := #[]
  cf := some (fileOf pool8 1 #[] #[] 1537 3 #[] #[])
  fields := #[]
  methods := #[]
  instanceTypes := #[]
  staticTypes := #[]
  resolved := Array.replicate 37 none
  statics := none }

def pool9 : Array CpInfo := pool [(2, .class_ 4), (1, u "java/lang/Object"), (0, u "<init>"), (0, u "()V"), (2, .fieldref 10 11), (0, .class_ 12), (0, .nameAndType 13 14), (0, u "java/lang/String"), (0, u "value"), (0, u "[B"), (0, .fieldref 10 16), (0, .nameAndType 17 18), (0, u "coder"), (0, u "B"), (2, u "hash"), (0, u "I"), (2, u "hashIsZero"), (0, u "Z"), (11, .fieldref 10 39), (0, .nameAndType 40 26), (0, u "COMPACT_STRINGS"), (66, .class_ 109), (1, u "java/lang/StringLatin1"), (431, .methodref 107 542), (0, .nameAndType 543 544), (0, u "equals"), (0, u "([B[B)Z"), (28, u "(Ljava/lang/Object;)Z"), (1, .class_ 576), (0, u "java/lang/CharSequence"), (22, u "CASE_INSENSITIVE_ORDER"), (0, u "Ljava/util/Comparator;"), (500, u "serialPersistentFields"), (0, u "[Ljava/io/ObjectStreamField;"), (0, .class_ 1104), (0, u "java/lang/String$CaseInsensitiveComparator"), (1, .class_ 1107), (0, u "java/io/Serializable"), (0, .class_ 1109), (0, u "java/lang/Comparable"), (0, .class_ 1111), (0, u "java/lang/constant/Constable"), (0, .class_ 1113), (0, u "java/lang/constant/ConstantDesc"), (2, u "serialVersionUID"), (0, u "J"), (3, u "REPL"), (0, u "C"), (2, u "LATIN1"), (1, u "UTF16")] 323

def k9m0 : Method := { name := "<init>", desc := "()V", sig := { parameters := [], returnType := none }, accessFlags := 1, code := none }
def k9c1 : Code := { maxStack := 2, maxLocals := 3, code := jdk_42_method_66_code, exceptionTable := #[], attributes := #[] }
def k9m1 : Method := { name := "equals", desc := "(Ljava/lang/Object;)Z", sig := { parameters := [(.object "java/lang/Object")], returnType := some .boolean }, accessFlags := 1, code := some k9c1 }
/-- java/lang/String -/
def k9 : Class := { plain "java/lang/String" (some 0) with
  accessFlags := 49
  interfaces := #[4, 3, 7, 2, 8]
  cf := some (fileOf pool9 10 #[.nestMembers #[1103]] #[{ accessFlags := 1, nameIndex := 5, descriptorIndex := 6, attributes := #[] }, { accessFlags := 1, nameIndex := 543, descriptorIndex := 573, attributes := #[] }] 49 2 #[1106, 1108, 575, 1110, 1112] #[{ accessFlags := 18, nameIndex := 13, descriptorIndex := 14, attributes := #[] }, { accessFlags := 18, nameIndex := 17, descriptorIndex := 18, attributes := #[] }, { accessFlags := 2, nameIndex := 21, descriptorIndex := 22, attributes := #[] }, { accessFlags := 2, nameIndex := 25, descriptorIndex := 26, attributes := #[] }, { accessFlags := 26, nameIndex := 1116, descriptorIndex := 1117, attributes := #[] }, { accessFlags := 24, nameIndex := 40, descriptorIndex := 26, attributes := #[] }, { accessFlags := 26, nameIndex := 1101, descriptorIndex := 1102, attributes := #[] }, { accessFlags := 26, nameIndex := 1121, descriptorIndex := 1122, attributes := #[] }, { accessFlags := 25, nameIndex := 599, descriptorIndex := 600, attributes := #[] }, { accessFlags := 24, nameIndex := 1125, descriptorIndex := 18, attributes := #[] }, { accessFlags := 24, nameIndex := 1127, descriptorIndex := 18, attributes := #[] }])
  fields := #[{ name := "value", type := (.array .byte), accessFlags := 18, slot := 0, constantValue := 0 }, { name := "coder", type := .byte, accessFlags := 18, slot := 1, constantValue := 0 }, { name := "hash", type := .int, accessFlags := 2, slot := 2, constantValue := 0 }, { name := "hashIsZero", type := .boolean, accessFlags := 2, slot := 3, constantValue := 0 }, { name := "serialVersionUID", type := .long, accessFlags := 26, slot := 0, constantValue := 0 }, { name := "COMPACT_STRINGS", type := .boolean, accessFlags := 24, slot := 1, constantValue := 0 }, { name := "serialPersistentFields", type := (.array (.object "java/io/ObjectStreamField")), accessFlags := 26, slot := 2, constantValue := 0 }, { name := "REPL", type := .char, accessFlags := 26, slot := 3, constantValue := 0 }, { name := "CASE_INSENSITIVE_ORDER", type := (.object "java/util/Comparator"), accessFlags := 25, slot := 4, constantValue := 0 }, { name := "LATIN1", type := .byte, accessFlags := 24, slot := 5, constantValue := 0 }, { name := "UTF16", type := .byte, accessFlags := 24, slot := 6, constantValue := 0 }]
  methods := #[k9m0, k9m1]
  instanceTypes := #[(.array .byte), .byte, .int, .boolean]
  staticTypes := #[.long, .boolean, (.array (.object "java/io/ObjectStreamField")), .char, (.object "java/util/Comparator"), .byte, .byte]
  resolved := Array.replicate 1451 none
  statics := some 1 }

def pool10 : Array CpInfo := pool [(4, .class_ 6), (1, u "java/lang/Object"), (0, u "<init>"), (0, u "()V"), (5, .class_ 16), (1, u "java/lang/StringLatin1"), (104, u "$assertionsDisabled"), (0, u "Z"), (98, .class_ 223), (1, u "java/lang/StringLatin1$LinesSpliterator"), (57, u "equals"), (0, u "([B[B)Z"), (107, .class_ 391), (0, u "java/lang/StringLatin1$CharsSpliterator")] 3

def k10m0 : Method := { name := "<init>", desc := "()V", sig := { parameters := [], returnType := none }, accessFlags := 0, code := none }
def k10c1 : Code := { maxStack := 3, maxLocals := 3, code := jdk_43_method_13_code, exceptionTable := #[], attributes := #[] }
def k10m1 : Method := { name := "equals", desc := "([B[B)Z", sig := { parameters := [(.array .byte), (.array .byte)], returnType := some .boolean }, accessFlags := 9, code := some k10c1 }
/-- java/lang/StringLatin1 -/
def k10 : Class := { plain "java/lang/StringLatin1" (some 0) with
  accessFlags := 48
  interfaces := #[]
  cf := some (fileOf pool10 14 #[.nestMembers #[390, 221]] #[{ accessFlags := 0, nameIndex := 7, descriptorIndex := 8, attributes := #[] }, { accessFlags := 9, nameIndex := 281, descriptorIndex := 282, attributes := #[] }] 48 4 #[] #[{ accessFlags := 4120, nameIndex := 121, descriptorIndex := 122, attributes := #[] }])
  fields := #[{ name := "$assertionsDisabled", type := .boolean, accessFlags := 4120, slot := 0, constantValue := 0 }]
  methods := #[k10m0, k10m1]
  instanceTypes := #[]
  staticTypes := #[.boolean]
  resolved := Array.replicate 395 none
  statics := none }

def pool11 : Array CpInfo := pool [(2, .class_ 4), (1, u "java/lang/Object"), (0, u "<init>"), (0, u "()V"), (17, .class_ 26), (1, u "jdk/internal/util/Preconditions"), (28, .class_ 56), (0, u "jdk/internal/util/Preconditions$4"), (57, .class_ 115), (0, u "jdk/internal/util/Preconditions$1"), (7, u "SIOOBE_FORMATTER"), (0, u "Ljava/util/function/BiFunction;"), (0, .class_ 126), (0, u "jdk/internal/util/Preconditions$2"), (3, u "AIOOBE_FORMATTER"), (0, .class_ 132), (0, u "jdk/internal/util/Preconditions$3"), (3, u "IOOBE_FORMATTER")] 57

def k11m0 : Method := { name := "<init>", desc := "()V", sig := { parameters := [], returnType := none }, accessFlags := 1, code := none }
/-- jdk/internal/util/Preconditions -/
def k11 : Class := { plain "jdk/internal/util/Preconditions" (some 0) with
  accessFlags := 33
  interfaces := #[]
  cf := some (fileOf pool11 24 #[.nestMembers #[55, 131, 125, 114]] #[{ accessFlags := 1, nameIndex := 5, descriptorIndex := 6, attributes := #[] }] 33 2 #[] #[{ accessFlags := 25, nameIndex := 123, descriptorIndex := 124, attributes := #[] }, { accessFlags := 25, nameIndex := 130, descriptorIndex := 124, attributes := #[] }, { accessFlags := 25, nameIndex := 136, descriptorIndex := 124, attributes := #[] }])
  fields := #[{ name := "SIOOBE_FORMATTER", type := (.object "java/util/function/BiFunction"), accessFlags := 25, slot := 0, constantValue := 0 }, { name := "AIOOBE_FORMATTER", type := (.object "java/util/function/BiFunction"), accessFlags := 25, slot := 1, constantValue := 0 }, { name := "IOOBE_FORMATTER", type := (.object "java/util/function/BiFunction"), accessFlags := 25, slot := 2, constantValue := 0 }]
  methods := #[k11m0]
  instanceTypes := #[]
  staticTypes := #[(.object "java/util/function/BiFunction"), (.object "java/util/function/BiFunction"), (.object "java/util/function/BiFunction")]
  resolved := Array.replicate 194 none
  statics := some 2 }

def pool12 : Array CpInfo := pool [(9, u "<init>"), (6, .class_ 18), (1, u "java/lang/Object"), (0, u "()V"), (1, .class_ 23), (1, u "jdk/internal/util/ArraysSupport"), (0, u "LOG2_ARRAY_LONG_INDEX_SCALE"), (0, u "I"), (2, u "U"), (0, u "Ljdk/internal/misc/Unsafe;"), (8, u "BIG_ENDIAN"), (0, u "Z"), (8, u "LOG2_BYTE_BIT_SIZE"), (4, u "LOG2_ARRAY_INT_INDEX_SCALE"), (54, u "JLA"), (0, u "Ljdk/internal/access/JavaLangAccess;"), (11, u "LOG2_ARRAY_BOOLEAN_INDEX_SCALE"), (9, u "LOG2_ARRAY_BYTE_INDEX_SCALE"), (5, u "LOG2_ARRAY_CHAR_INDEX_SCALE"), (5, u "LOG2_ARRAY_SHORT_INDEX_SCALE"), (18, u "LOG2_ARRAY_FLOAT_INDEX_SCALE"), (24, u "LOG2_ARRAY_DOUBLE_INDEX_SCALE"), (89, u "T_BOOLEAN"), (2, u "T_CHAR"), (1, u "T_FLOAT"), (1, u "T_DOUBLE"), (1, u "T_BYTE"), (1, u "T_SHORT"), (1, u "T_INT"), (1, u "T_LONG"), (1, u "SOFT_MAX_ARRAY_LENGTH")] 83

def k12m0 : Method := { name := "<init>", desc := "()V", sig := { parameters := [], returnType := none }, accessFlags := 2, code := none }
/-- jdk/internal/util/ArraysSupport -/
def k12 : Class := { plain "jdk/internal/util/ArraysSupport" (some 0) with
  accessFlags := 33
  interfaces := #[]
  cf := some (fileOf pool12 21 #[] #[{ accessFlags := 2, nameIndex := 9, descriptorIndex := 19, attributes := #[] }] 33 16 #[] #[{ accessFlags := 24, nameIndex := 28, descriptorIndex := 29, attributes := #[] }, { accessFlags := 26, nameIndex := 38, descriptorIndex := 39, attributes := #[] }, { accessFlags := 25, nameIndex := 121, descriptorIndex := 25, attributes := #[] }, { accessFlags := 25, nameIndex := 131, descriptorIndex := 25, attributes := #[] }, { accessFlags := 25, nameIndex := 137, descriptorIndex := 25, attributes := #[] }, { accessFlags := 25, nameIndex := 143, descriptorIndex := 25, attributes := #[] }, { accessFlags := 25, nameIndex := 53, descriptorIndex := 25, attributes := #[] }, { accessFlags := 25, nameIndex := 24, descriptorIndex := 25, attributes := #[] }, { accessFlags := 25, nameIndex := 162, descriptorIndex := 25, attributes := #[] }, { accessFlags := 25, nameIndex := 187, descriptorIndex := 25, attributes := #[] }, { accessFlags := 26, nameIndex := 48, descriptorIndex := 25, attributes := #[] }, { accessFlags := 25, nameIndex := 277, descriptorIndex := 25, attributes := #[] }, { accessFlags := 25, nameIndex := 280, descriptorIndex := 25, attributes := #[] }, { accessFlags := 25, nameIndex := 282, descriptorIndex := 25, attributes := #[] }, { accessFlags := 25, nameIndex := 284, descriptorIndex := 25, attributes := #[] }, { accessFlags := 25, nameIndex := 286, descriptorIndex := 25, attributes := #[] }, { accessFlags := 25, nameIndex := 288, descriptorIndex := 25, attributes := #[] }, { accessFlags := 25, nameIndex := 290, descriptorIndex := 25, attributes := #[] }, { accessFlags := 25, nameIndex := 292, descriptorIndex := 25, attributes := #[] }, { accessFlags := 26, nameIndex := 108, descriptorIndex := 109, attributes := #[] }, { accessFlags := 25, nameIndex := 294, descriptorIndex := 25, attributes := #[] }])
  fields := #[{ name := "U", type := (.object "jdk/internal/misc/Unsafe"), accessFlags := 24, slot := 0, constantValue := 0 }, { name := "BIG_ENDIAN", type := .boolean, accessFlags := 26, slot := 1, constantValue := 0 }, { name := "LOG2_ARRAY_BOOLEAN_INDEX_SCALE", type := .int, accessFlags := 25, slot := 2, constantValue := 0 }, { name := "LOG2_ARRAY_BYTE_INDEX_SCALE", type := .int, accessFlags := 25, slot := 3, constantValue := 0 }, { name := "LOG2_ARRAY_CHAR_INDEX_SCALE", type := .int, accessFlags := 25, slot := 4, constantValue := 0 }, { name := "LOG2_ARRAY_SHORT_INDEX_SCALE", type := .int, accessFlags := 25, slot := 5, constantValue := 0 }, { name := "LOG2_ARRAY_INT_INDEX_SCALE", type := .int, accessFlags := 25, slot := 6, constantValue := 0 }, { name := "LOG2_ARRAY_LONG_INDEX_SCALE", type := .int, accessFlags := 25, slot := 7, constantValue := 0 }, { name := "LOG2_ARRAY_FLOAT_INDEX_SCALE", type := .int, accessFlags := 25, slot := 8, constantValue := 0 }, { name := "LOG2_ARRAY_DOUBLE_INDEX_SCALE", type := .int, accessFlags := 25, slot := 9, constantValue := 0 }, { name := "LOG2_BYTE_BIT_SIZE", type := .int, accessFlags := 26, slot := 10, constantValue := 0 }, { name := "T_BOOLEAN", type := .int, accessFlags := 25, slot := 11, constantValue := 0 }, { name := "T_CHAR", type := .int, accessFlags := 25, slot := 12, constantValue := 0 }, { name := "T_FLOAT", type := .int, accessFlags := 25, slot := 13, constantValue := 0 }, { name := "T_DOUBLE", type := .int, accessFlags := 25, slot := 14, constantValue := 0 }, { name := "T_BYTE", type := .int, accessFlags := 25, slot := 15, constantValue := 0 }, { name := "T_SHORT", type := .int, accessFlags := 25, slot := 16, constantValue := 0 }, { name := "T_INT", type := .int, accessFlags := 25, slot := 17, constantValue := 0 }, { name := "T_LONG", type := .int, accessFlags := 25, slot := 18, constantValue := 0 }, { name := "JLA", type := (.object "jdk/internal/access/JavaLangAccess"), accessFlags := 26, slot := 19, constantValue := 0 }, { name := "SOFT_MAX_ARRAY_LENGTH", type := .int, accessFlags := 25, slot := 20, constantValue := 0 }]
  methods := #[k12m0]
  instanceTypes := #[]
  staticTypes := #[(.object "jdk/internal/misc/Unsafe"), .boolean, .int, .int, .int, .int, .int, .int, .int, .int, .int, .int, .int, .int, .int, .int, .int, .int, .int, (.object "jdk/internal/access/JavaLangAccess"), .int]
  resolved := Array.replicate 378 none
  statics := none }

def pool13 : Array CpInfo := pool [(1, u "java/lang/Cloneable"), (0, .class_ 1), (0, u "java/lang/Object"), (0, .class_ 3)] 3

/-- java/lang/Cloneable -/
def k13 : Class := { plain "java/lang/Cloneable" (some 0) with
  accessFlags := 1537
  interfaces := #[]
  cf := some (fileOf pool13 2 #[] #[] 1537 4 #[] #[])
  fields := #[]
  methods := #[]
  instanceTypes := #[]
  staticTypes := #[]
  resolved := Array.replicate 8 none
  statics := none }

/-- the primitive byte -/
def k14 : Class := { plain "byte" none with kind := .primitive 'B', accessFlags := 0x411 }
/-- [B -/
def k15 : Class := { plain "[B" (some 0) with kind := .array 14 .byte, interfaces := #[13, 4], accessFlags := 1041 }

/-- the primitive int -/
def k16 : Class := { plain "int" none with kind := .primitive 'I', accessFlags := 0x411 }
/-- [I -/
def k17 : Class := { plain "[I" (some 0) with kind := .array 16 .int, interfaces := #[13, 4], accessFlags := 1041 }

def heap : Heap := #[{ cls := 6, slots := #[.ref 5, .ref 8, .ref 11, .null, .null], vm := .statics 6 },
  { cls := 9, slots := #[.long 0, .int 1, .null, .int 0, .null, .int 0, .int 0], vm := .statics 9 },
  { cls := 11, slots := #[.null, .null, .null], vm := .statics 11 },
  { cls := 15, slots := #[.int 72, .int 50], vm := .none },
  { cls := 9, slots := #[.ref 3, .int 0, .int 0, .int 0], vm := .none },
  { cls := 6, slots := #[.null, .int 0, .int 0, .ref 4, .null], vm := .none },
  { cls := 15, slots := #[.int 80, .int 111, .int 115, .int 116, .int 103, .int 114, .int 101, .int 83, .int 81, .int 76], vm := .none },
  { cls := 9, slots := #[.ref 6, .int 0, .int 0, .int 0], vm := .none },
  { cls := 6, slots := #[.null, .int 1, .int 0, .ref 7, .null], vm := .none },
  { cls := 15, slots := #[.int 77, .int 97, .int 114, .int 105, .int 97, .int 68, .int 66], vm := .none },
  { cls := 9, slots := #[.ref 9, .int 0, .int 0, .int 0], vm := .none },
  { cls := 6, slots := #[.null, .int 2, .int 0, .ref 10, .null], vm := .none }]
def classes : Array Class := #[k0, k1, k2, k3, k4, k5, k6, k7, k8, k9, k10, k11, k12, k13, k14, k15, k16, k17]
def interned : List (Array UInt16 × Addr) := []
def slotsUsed : Nat := 61
def theMethod : MethodId := ⟨1, 2⟩
def args0 : Array Value := #[.int 5]
def aboutOver (below : List Frame) : State where
  vm := { classes := classes, interned := interned.toArray }
  heap := heap
  slotsUsed := slotsUsed
  threads := #[{ frames := .invoking theMethod args0 :: below }]
def below0 : List Frame := [.native { method := ⟨0, 0⟩, args := #[] }]
def about1 : State := aboutOver below0
def p0 : Program := .bare "" "" ""
def e0 : Env := launch0.env 0 0 0
theorem w_frames : about1.frames = Frame.invoking theMethod args0 :: below0 := rfl
set_option maxRecDepth 65536 in
theorem w_args : argsFit about1.vm theMethod args0 = true := by decide +kernel
set_option maxRecDepth 65536 in
theorem w_heap : heapFits about1 = true := by decide +kernel
set_option maxRecDepth 65536 in
theorem w_runnable : about1.curStatus? = some .runnable := by decide +kernel
set_option maxRecDepth 65536 in
theorem w_alone : about1.alone = true := by decide +kernel
set_option maxRecDepth 65536 in
theorem w_named : about1.methodNamed? x = some theMethod := by decide +kernel
set_option maxRecDepth 65536 in
theorem w_hears : about1.hears theMethod below0 = true := by decide +kernel
set_option maxRecDepth 65536 in
theorem w_ripe : about1.ripe theMethod args0 below0 = true := by decide +kernel
theorem w_running : about1.status = .running := rfl
set_option maxRecDepth 65536 in
theorem w_room : about1.hasRoom e0.platform room_1 = true :=
  launch0.hasRoom_least _ room_1 (by decide +kernel) (by decide +kernel) (by decide +kernel) (by decide +kernel) (by decide +kernel) (by decide +kernel)
theorem allAtoms_all (ts : List Jvm.Cond) (a : Array Jvm.Value) (st : Jvm.State) : (allAtoms ts).before a st = ts.all (fun c => c.before a st) := by
  induction ts with
  | nil => rfl
  | cons c t ih =>
    show (Jvm.Cond.and c (allAtoms t)).before a st = _
    rw [Jvm.Cond.before_and, ih, List.all_cons]
def words1 : List Jvm.Cond := Jvm.Cond.code x code maxLocals ret :: tables_1
/-- a 'code' word, met by the world's own term for the bytes: nothing is compared byte by byte -/
theorem code_word {y : MethodName} {bytes : ByteArray} {mx : Nat} {rt : Option FieldType} {a : Array Value} {s : State} {m : MethodId} {meth : Method} {c : Code} (h1 : s.methodNamed? y = some m) (h2 : s.vm.method? m = some meth) (h3 : meth.code = some c) (h4 : c.code = bytes)
    (h5 : (c.maxLocals == mx && c.exceptionTable.isEmpty && decide (c.maxStack ≤ mostOperands) && decide (meth.sig.returnType = rt) && !meth.locks && decide (parseMethodDescriptor y.desc = some meth.sig)) = true) : (Jvm.Cond.code y bytes mx rt).before a s = true := by
  simp only [Bool.and_eq_true, beq_iff_eq, Bool.not_eq_true', decide_eq_true_eq] at h5
  obtain ⟨⟨⟨⟨⟨g1, g2⟩, g3⟩, g4⟩, g5⟩, g6⟩ := h5
  simp [Cond.before, Cond.holds, Cond.value, h1, h2, h3, h4, g1, g2, g3, g4, g5, g6]
def isCode : Jvm.Cond → Bool
  | .code _ _ _ _ => true
  | _ => false
theorem all_split {L : List Jvm.Cond} {P : Jvm.Cond → Bool} (h1 : L.all (fun c => isCode c || P c) = true) (h2 : ∀ c ∈ L.filter isCode, P c = true) : L.all P = true := by
  refine List.all_eq_true.mpr fun c hc => ?_
  have h := List.all_eq_true.mp h1 c hc
  rcases Bool.eq_false_or_eq_true (isCode c) with hi | hi
  · exact h2 c (List.mem_filter.mpr ⟨hc, hi⟩)
  · simpa [hi] using h
set_option maxRecDepth 65536 in
theorem w_c0 : (Jvm.Cond.code x code maxLocals ret).before args0 about1 = true := code_word (m := ⟨1, 2⟩) (meth := k1m2) (c := k1c2) (by decide +kernel) rfl rfl rfl (by decide +kernel)
set_option maxRecDepth 65536 in
theorem w_c1 : (Jvm.Cond.code ({ cls := "com/example/lower/lower/sql/DialectAssignsInOrderPinLaw", name := "pick", desc := "(I)Lcom/example/lower/lower/sql/Dialect;" } : Jvm.MethodName) method_2_code (2 : Nat) (Option.some (Jvm.ClassFile.FieldType.object "com/example/lower/lower/sql/Dialect"))).before args0 about1 = true := code_word (m := ⟨1, 1⟩) (meth := k1m1) (c := k1c1) (by decide +kernel) rfl rfl rfl (by decide +kernel)
set_option maxRecDepth 65536 in
theorem w_c2 : (Jvm.Cond.code ({ cls := "com/example/lower/lower/sql/Dialect", name := "productName", desc := "()Ljava/lang/String;" } : Jvm.MethodName) prog_13_method_5_code (1 : Nat) (Option.some (Jvm.ClassFile.FieldType.object "java/lang/String"))).before args0 about1 = true := code_word (m := ⟨6, 0⟩) (meth := k6m0) (c := k6c0) (by decide +kernel) rfl rfl rfl (by decide +kernel)
set_option maxRecDepth 65536 in
theorem w_c3 : (Jvm.Cond.code ({ cls := "java/lang/String", name := "equals", desc := "(Ljava/lang/Object;)Z" } : Jvm.MethodName) jdk_42_method_66_code (3 : Nat) (Option.some Jvm.ClassFile.FieldType.boolean)).before args0 about1 = true := code_word (m := ⟨9, 1⟩) (meth := k9m1) (c := k9c1) (by decide +kernel) rfl rfl rfl (by decide +kernel)
set_option maxRecDepth 65536 in
theorem w_c4 : (Jvm.Cond.code ({ cls := "java/lang/StringLatin1", name := "equals", desc := "([B[B)Z" } : Jvm.MethodName) jdk_43_method_13_code (3 : Nat) (Option.some Jvm.ClassFile.FieldType.boolean)).before args0 about1 = true := code_word (m := ⟨10, 1⟩) (meth := k10m1) (c := k10c1) (by decide +kernel) rfl rfl rfl (by decide +kernel)
set_option maxRecDepth 65536 in
theorem w_c5 : (Jvm.Cond.code ({ cls := "com/example/lower/lower/sql/Dialect", name := "assignsInOrder", desc := "()Z" } : Jvm.MethodName) prog_13_method_16_code (1 : Nat) (Option.some Jvm.ClassFile.FieldType.boolean)).before args0 about1 = true := code_word (m := ⟨6, 1⟩) (meth := k6m1) (c := k6c1) (by decide +kernel) rfl rfl rfl (by decide +kernel)
def codes1 : List Jvm.Cond := [Jvm.Cond.code x code maxLocals ret, Jvm.Cond.code ({ cls := "com/example/lower/lower/sql/DialectAssignsInOrderPinLaw", name := "pick", desc := "(I)Lcom/example/lower/lower/sql/Dialect;" } : Jvm.MethodName) method_2_code (2 : Nat) (Option.some (Jvm.ClassFile.FieldType.object "com/example/lower/lower/sql/Dialect")), Jvm.Cond.code ({ cls := "com/example/lower/lower/sql/Dialect", name := "productName", desc := "()Ljava/lang/String;" } : Jvm.MethodName) prog_13_method_5_code (1 : Nat) (Option.some (Jvm.ClassFile.FieldType.object "java/lang/String")), Jvm.Cond.code ({ cls := "java/lang/String", name := "equals", desc := "(Ljava/lang/Object;)Z" } : Jvm.MethodName) jdk_42_method_66_code (3 : Nat) (Option.some Jvm.ClassFile.FieldType.boolean), Jvm.Cond.code ({ cls := "java/lang/StringLatin1", name := "equals", desc := "([B[B)Z" } : Jvm.MethodName) jdk_43_method_13_code (3 : Nat) (Option.some Jvm.ClassFile.FieldType.boolean), Jvm.Cond.code ({ cls := "com/example/lower/lower/sql/Dialect", name := "assignsInOrder", desc := "()Z" } : Jvm.MethodName) prog_13_method_16_code (1 : Nat) (Option.some Jvm.ClassFile.FieldType.boolean)]
set_option maxRecDepth 65536 in
theorem codes_eq : words1.filter isCode = codes1 := rfl
theorem w_codes : ∀ c ∈ words1.filter isCode, c.before args0 about1 = true := by
  rw [codes_eq]
  intro c hc
  simp only [codes1, List.mem_cons, List.not_mem_nil, or_false] at hc
  rcases hc with rfl | rfl | rfl | rfl | rfl | rfl
  · exact w_c0
  · exact w_c1
  · exact w_c2
  · exact w_c3
  · exact w_c4
  · exact w_c5
set_option maxRecDepth 65536 in
theorem w_t1 : (words1.take 24).all (fun c => isCode c || c.before args0 about1) = true := by decide +kernel
set_option maxRecDepth 65536 in
theorem w_t2 : (words1.drop 24).all (fun c => isCode c || c.before args0 about1) = true := by decide +kernel
theorem w_tables : (allAtoms (Jvm.Cond.code x code maxLocals ret :: tables_1)).before args0 about1 = true := by
  rw [allAtoms_all]
  show words1.all (fun c => c.before args0 about1) = true
  refine all_split ?_ w_codes
  rw [← List.take_append_drop 24 words1, List.all_append, w_t1, w_t2]
  rfl
set_option maxRecDepth 65536 in
theorem w_rest : rest_1_c.before args0 about1 = true := by decide +kernel
set_option maxRecDepth 65536 in
theorem w_case : (Jvm.Cond.and given_1 narrow_1).before args0 about1 = true := by decide +kernel
set_option maxRecDepth 65536 in
theorem w_consts : constsHeld consts_1 about1 := Jvm.Lit.constsHeldB_iff.mp (by decide +kernel)
theorem w_applies : (headSpec (Jvm.Cond.code x code maxLocals ret :: tables_1) room_1).applies x e0.platform about1 = true :=
  (Spec.applies_iff w_frames).mpr ⟨w_running, w_runnable, w_alone, w_named, w_hears, w_ripe, w_room, w_tables⟩
theorem atStart : AtStart classFile x code maxLocals ret World_1 tables_1 room_1 Calls_1 rest_1 Pre_1 launch0 p0 e0 about1 theMethod args0 below0 :=
  ⟨lists_1, trivial, launch0.admits_env _ _ _, launch0.least_env, fairChoices_fair.cas, fairChoices_fair.clock, w_frames, w_args, w_heap, w_applies, ⟨w_consts, trivial⟩, w_rest, w_case⟩
end start1
theorem witness_1 : WitnessClaimed_1 := ⟨start1.p0, start1.e0, start1.about1, start1.theMethod, start1.args0, start1.below0, start1.atStart⟩
end Jvm.Pilot.@@N@@
