import JvmDerived
import JvmDerived.Pilot.@@N@@Statement
import JvmDerived.Pilot.@@N@@Code
set_option linter.unusedVariables false
set_option linter.unusedSimpArgs false
namespace Jvm.Pilot.@@N@@
open Jvm Jvm.ClassFile Sem Op Lib Jvm.Free Jvm.Stand Jvm.LawKit Jvm.RoadKit Bundle Jvm.Pilot.@@N@@.Jvm.D

/-- from here the invocation ends, and what it leaves meets Q -/
def Go (p : Program) (e : Env) (below : List Frame) (s : State) (mc ms : Nat) (Q : Option Value → Heap → List Loc → Prop) (m : MethodId) (T : State) (pc : Nat) (Ls : Array Slot) (st : List Value) : Prop :=
  ∃ s₂ o, Steps p.tables e below (T.setTop (mkF m pc Ls st)) s₂ ∧ s₂.status = .running ∧ Ended s₂ below o ∧ ∃ v L, o = .returned v ∧ Q v s₂.heap L ∧ FrameEnd s o s₂ L mc ms
section Law
variable {p : Program} {l : Launch} {e : Env} {R : Room} {s : State} {m : MethodId} {args : Array Value} {below : List Frame} {meth : Method} {c : Code} {T T' : State} {locs : List Loc} {cells slots : Nat} {code : ByteArray} {Q : Option Value → Heap → List Loc → Prop} {mc ms : Nat} {pc pc' : Nat} {Ls Ls' : Array Slot} {st st' rest : List Value}
theorem Go.of (k : Go p e below s mc ms Q m T' pc' Ls' st') (h : ∀ t, Steps p.tables e below (T'.setTop (mkF m pc' Ls' st')) t → Steps p.tables e below (T.setTop (mkF m pc Ls st)) t) : Go p e below s mc ms Q m T pc Ls st := by
  obtain ⟨a, o, h1, h2⟩ := k
  exact ⟨a, o, h _ h1, h2⟩
def remI (x y : Int32) : Int32 := x - (x / y) * y
def remJ (x y : Int64) : Int64 := x - (x / y) * y
def i2bF (x : Int32) : Int32 := x.toInt8.toInt32
def i2cF (x : Int32) : Int32 := x.toUInt32.toUInt16.toUInt32.toInt32
def i2sF (x : Int32) : Int32 := x.toInt16.toInt32
def shlI (x y : Int32) : Int32 := x <<< (y &&& 31)
def shrI (x y : Int32) : Int32 := x >>> (y &&& 31)
def shlJ (x : Int64) (y : Int32) : Int64 := x <<< (y.toInt64 &&& 63)
def shrJ (x : Int64) (y : Int32) : Int64 := x >>> (y.toInt64 &&& 63)

theorem Go.iload (X : Stand p l e R s m args below meth c T locs cells slots) (hx : p.tables.exec = Jvm.exec) (hby : c.code = code) {k : Nat} {v : Int32} (hd : decode code pc = .ok (.iload k, 2)) (hpc : pc + 2 = pc') (hl : Ls[k]? = some (.val (.int v))) (h : Go p e below s mc ms Q m T pc' Ls (.int v :: st)) : Go p e below s mc ms Q m T pc Ls (st) := by
  subst hpc; exact h.of fun _ kk => XS.iload (g := mkF m pc Ls (st)) X.here hx rfl (hb hby hd) hl kk
theorem Go.iloadN (X : Stand p l e R s m args below meth c T locs cells slots) (hx : p.tables.exec = Jvm.exec) (hby : c.code = code) {k : Fin 4} {v : Int32} (hd : decode code pc = .ok (.iload_n k, 1)) (hpc : pc + 1 = pc') (hl : Ls[k.val]? = some (.val (.int v))) (h : Go p e below s mc ms Q m T pc' Ls (.int v :: st)) : Go p e below s mc ms Q m T pc Ls (st) := by
  subst hpc; exact h.of fun _ kk => XS.iloadN (g := mkF m pc Ls (st)) X.here hx rfl (hb hby hd) hl kk
theorem Go.lload (X : Stand p l e R s m args below meth c T locs cells slots) (hx : p.tables.exec = Jvm.exec) (hby : c.code = code) {k : Nat} {v : Int64} (hd : decode code pc = .ok (.lload k, 2)) (hpc : pc + 2 = pc') (hl : Ls[k]? = some (.val (.long v))) (h : Go p e below s mc ms Q m T pc' Ls (.long v :: st)) : Go p e below s mc ms Q m T pc Ls (st) := by
  subst hpc; exact h.of fun _ kk => XT.lload (g := mkF m pc Ls (st)) X.here hx rfl (hb hby hd) hl kk
theorem Go.lloadN (X : Stand p l e R s m args below meth c T locs cells slots) (hx : p.tables.exec = Jvm.exec) (hby : c.code = code) {k : Fin 4} {v : Int64} (hd : decode code pc = .ok (.lload_n k, 1)) (hpc : pc + 1 = pc') (hl : Ls[k.val]? = some (.val (.long v))) (h : Go p e below s mc ms Q m T pc' Ls (.long v :: st)) : Go p e below s mc ms Q m T pc Ls (st) := by
  subst hpc; exact h.of fun _ kk => XT.lloadN (g := mkF m pc Ls (st)) X.here hx rfl (hb hby hd) hl kk
theorem Go.aload (X : Stand p l e R s m args below meth c T locs cells slots) (hx : p.tables.exec = Jvm.exec) (hby : c.code = code) {k : Nat} {v : Value} (hd : decode code pc = .ok (.aload k, 2)) (hpc : pc + 2 = pc') (hl : Ls[k]? = some (.val v)) (hv : v.isRef = true) (h : Go p e below s mc ms Q m T pc' Ls (v :: st)) : Go p e below s mc ms Q m T pc Ls (st) := by
  subst hpc; exact h.of fun _ kk => XS.aload (g := mkF m pc Ls (st)) X.here hx rfl (hb hby hd) hl hv kk
theorem Go.aloadN (X : Stand p l e R s m args below meth c T locs cells slots) (hx : p.tables.exec = Jvm.exec) (hby : c.code = code) {k : Fin 4} {v : Value} (hd : decode code pc = .ok (.aload_n k, 1)) (hpc : pc + 1 = pc') (hl : Ls[k.val]? = some (.val v)) (hv : v.isRef = true) (h : Go p e below s mc ms Q m T pc' Ls (v :: st)) : Go p e below s mc ms Q m T pc Ls (st) := by
  subst hpc; exact h.of fun _ kk => XS.aloadN (g := mkF m pc Ls (st)) X.here hx rfl (hb hby hd) hl hv kk
theorem Go.istore (X : Stand p l e R s m args below meth c T locs cells slots) (hx : p.tables.exec = Jvm.exec) (hby : c.code = code) {k : Nat} {v : Int32} (hd : decode code pc = .ok (.istore k, 2)) (hpc : pc + 2 = pc') (hl : storeLocals Ls k (.int v) = some Ls') (h : Go p e below s mc ms Q m T pc' Ls' (st)) : Go p e below s mc ms Q m T pc Ls (.int v :: st) := by
  subst hpc; exact h.of fun _ kk => XS.istore (g := mkF m pc Ls (.int v :: st)) X.here hx rfl (hb hby hd) rfl hl kk
theorem Go.istoreN (X : Stand p l e R s m args below meth c T locs cells slots) (hx : p.tables.exec = Jvm.exec) (hby : c.code = code) {k : Fin 4} {v : Int32} (hd : decode code pc = .ok (.istore_n k, 1)) (hpc : pc + 1 = pc') (hl : storeLocals Ls k.val (.int v) = some Ls') (h : Go p e below s mc ms Q m T pc' Ls' (st)) : Go p e below s mc ms Q m T pc Ls (.int v :: st) := by
  subst hpc; exact h.of fun _ kk => XS.istoreN (g := mkF m pc Ls (.int v :: st)) X.here hx rfl (hb hby hd) rfl hl kk
theorem Go.lstore (X : Stand p l e R s m args below meth c T locs cells slots) (hx : p.tables.exec = Jvm.exec) (hby : c.code = code) {k : Nat} {v : Int64} (hd : decode code pc = .ok (.lstore k, 2)) (hpc : pc + 2 = pc') (hl : storeLocals Ls k (.long v) = some Ls') (h : Go p e below s mc ms Q m T pc' Ls' (st)) : Go p e below s mc ms Q m T pc Ls (.long v :: st) := by
  subst hpc; exact h.of fun _ kk => XT.lstore (g := mkF m pc Ls (.long v :: st)) X.here hx rfl (hb hby hd) rfl hl kk
theorem Go.lstoreN (X : Stand p l e R s m args below meth c T locs cells slots) (hx : p.tables.exec = Jvm.exec) (hby : c.code = code) {k : Fin 4} {v : Int64} (hd : decode code pc = .ok (.lstore_n k, 1)) (hpc : pc + 1 = pc') (hl : storeLocals Ls k.val (.long v) = some Ls') (h : Go p e below s mc ms Q m T pc' Ls' (st)) : Go p e below s mc ms Q m T pc Ls (.long v :: st) := by
  subst hpc; exact h.of fun _ kk => XT.lstoreN (g := mkF m pc Ls (.long v :: st)) X.here hx rfl (hb hby hd) rfl hl kk
theorem Go.astore (X : Stand p l e R s m args below meth c T locs cells slots) (hx : p.tables.exec = Jvm.exec) (hby : c.code = code) {k : Nat} {v : Value} (hd : decode code pc = .ok (.astore k, 2)) (hpc : pc + 2 = pc') (hv : v.isRef = true) (hl : storeLocals Ls k v = some Ls') (h : Go p e below s mc ms Q m T pc' Ls' (st)) : Go p e below s mc ms Q m T pc Ls (v :: st) := by
  subst hpc; exact h.of fun _ kk => XS.astore (g := mkF m pc Ls (v :: st)) X.here hx rfl (hb hby hd) rfl hv hl kk
theorem Go.astoreN (X : Stand p l e R s m args below meth c T locs cells slots) (hx : p.tables.exec = Jvm.exec) (hby : c.code = code) {k : Fin 4} {v : Value} (hd : decode code pc = .ok (.astore_n k, 1)) (hpc : pc + 1 = pc') (hv : v.isRef = true) (hl : storeLocals Ls k.val v = some Ls') (h : Go p e below s mc ms Q m T pc' Ls' (st)) : Go p e below s mc ms Q m T pc Ls (v :: st) := by
  subst hpc; exact h.of fun _ kk => XS.astoreN (g := mkF m pc Ls (v :: st)) X.here hx rfl (hb hby hd) rfl hv hl kk
theorem Go.iconst (X : Stand p l e R s m args below meth c T locs cells slots) (hx : p.tables.exec = Jvm.exec) (hby : c.code = code) {i : Int} {v : Int32} (hd : decode code pc = .ok (.iconst i, 1)) (hpc : pc + 1 = pc') (hv : Int32.ofInt i = v) (h : Go p e below s mc ms Q m T pc' Ls (.int v :: st)) : Go p e below s mc ms Q m T pc Ls (st) := by
  subst hpc; exact h.of fun _ kk => XT.iconstV (g := mkF m pc Ls (st)) X.here hx rfl v (hb hby hd) hv kk
theorem Go.bipush (X : Stand p l e R s m args below meth c T locs cells slots) (hx : p.tables.exec = Jvm.exec) (hby : c.code = code) {i : Int} {v : Int32} (hd : decode code pc = .ok (.bipush i, 2)) (hpc : pc + 2 = pc') (hv : (Int8.ofInt i).toInt32 = v) (h : Go p e below s mc ms Q m T pc' Ls (.int v :: st)) : Go p e below s mc ms Q m T pc Ls (st) := by
  subst hpc; exact h.of fun _ kk => XT.bipushV (g := mkF m pc Ls (st)) X.here hx rfl v (hb hby hd) hv kk
theorem Go.sipush (X : Stand p l e R s m args below meth c T locs cells slots) (hx : p.tables.exec = Jvm.exec) (hby : c.code = code) {i : Int} {v : Int32} (hd : decode code pc = .ok (.sipush i, 3)) (hpc : pc + 3 = pc') (hv : (Int16.ofInt i).toInt32 = v) (h : Go p e below s mc ms Q m T pc' Ls (.int v :: st)) : Go p e below s mc ms Q m T pc Ls (st) := by
  subst hpc; exact h.of fun _ kk => XT.sipushV (g := mkF m pc Ls (st)) X.here hx rfl v (hb hby hd) hv kk
theorem Go.lconst (X : Stand p l e R s m args below meth c T locs cells slots) (hx : p.tables.exec = Jvm.exec) (hby : c.code = code) {k : Fin 2} {v : Int64} (hd : decode code pc = .ok (.lconst k, 1)) (hpc : pc + 1 = pc') (hv : Int64.ofNat k = v) (h : Go p e below s mc ms Q m T pc' Ls (.long v :: st)) : Go p e below s mc ms Q m T pc Ls (st) := by
  subst hpc; exact h.of fun _ kk => XT.lconstV (g := mkF m pc Ls (st)) X.here hx rfl v (hb hby hd) hv kk
theorem Go.aconstNull (X : Stand p l e R s m args below meth c T locs cells slots) (hx : p.tables.exec = Jvm.exec) (hby : c.code = code) (hd : decode code pc = .ok (.aconst_null, 1)) (hpc : pc + 1 = pc') (h : Go p e below s mc ms Q m T pc' Ls (.null :: st)) : Go p e below s mc ms Q m T pc Ls (st) := by
  subst hpc; exact h.of fun _ kk => XS.aconstNull (g := mkF m pc Ls (st)) X.here hx rfl (hb hby hd) kk
theorem Go.ldcI (X : Stand p l e R s m args below meth c T locs cells slots) (hx : p.tables.exec = Jvm.exec) (hby : c.code = code) {Z : State} {a0 : Array Value} (hZ : Z.Warmed39 s.vm) {own : String} {k : Nat} {v : Int32} (hown : s.vm.findClass own = some m.cls) (w : (Cond.constant own k v).before a0 Z = true) (hd : decode code pc = .ok (.ldc k, 2)) (hpc : pc + 2 = pc') (h : Go p e below s mc ms Q m T pc' Ls (.int v :: st)) : Go p e below s mc ms Q m T pc Ls (st) := by
  subst hpc; exact h.of fun _ kk => Stand.ldcI (g := mkF m pc Ls (st)) X hx hown (mvT hZ w) rfl (hb hby hd) kk
theorem Go.ldcJ (X : Stand p l e R s m args below meth c T locs cells slots) (hx : p.tables.exec = Jvm.exec) (hby : c.code = code) {Z : State} {a0 : Array Value} (hZ : Z.Warmed39 s.vm) {own : String} {k : Nat} {v : Int64} (hown : s.vm.findClass own = some m.cls) (w : (Cond.constantLong own k v).before a0 Z = true) (hd : decode code pc = .ok (.ldc2_w k, 3)) (hpc : pc + 3 = pc') (h : Go p e below s mc ms Q m T pc' Ls (.long v :: st)) : Go p e below s mc ms Q m T pc Ls (st) := by
  subst hpc; exact h.of fun _ kk => Stand.ldc2J (g := mkF m pc Ls (st)) X hx hown (mvT hZ w) rfl (hb hby hd) kk
theorem Go.iadd (X : Stand p l e R s m args below meth c T locs cells slots) (hx : p.tables.exec = Jvm.exec) (hby : c.code = code) {x y : Int32} (hd : decode code pc = .ok (.iadd, 1)) (hpc : pc + 1 = pc') (h : Go p e below s mc ms Q m T pc' Ls (.int (x + y) :: st)) : Go p e below s mc ms Q m T pc Ls (.int y :: .int x :: st) := by
  subst hpc; exact h.of fun _ kk => XS.iadd (g := mkF m pc Ls (.int y :: .int x :: st)) X.here hx rfl (hb hby hd) rfl kk
theorem Go.isub (X : Stand p l e R s m args below meth c T locs cells slots) (hx : p.tables.exec = Jvm.exec) (hby : c.code = code) {x y : Int32} (hd : decode code pc = .ok (.isub, 1)) (hpc : pc + 1 = pc') (h : Go p e below s mc ms Q m T pc' Ls (.int (x - y) :: st)) : Go p e below s mc ms Q m T pc Ls (.int y :: .int x :: st) := by
  subst hpc; exact h.of fun _ kk => XS.isub (g := mkF m pc Ls (.int y :: .int x :: st)) X.here hx rfl (hb hby hd) rfl kk
theorem Go.imul (X : Stand p l e R s m args below meth c T locs cells slots) (hx : p.tables.exec = Jvm.exec) (hby : c.code = code) {x y : Int32} (hd : decode code pc = .ok (.imul, 1)) (hpc : pc + 1 = pc') (h : Go p e below s mc ms Q m T pc' Ls (.int (x * y) :: st)) : Go p e below s mc ms Q m T pc Ls (.int y :: .int x :: st) := by
  subst hpc; exact h.of fun _ kk => XS.imul (g := mkF m pc Ls (.int y :: .int x :: st)) X.here hx rfl (hb hby hd) rfl kk
theorem Go.iand (X : Stand p l e R s m args below meth c T locs cells slots) (hx : p.tables.exec = Jvm.exec) (hby : c.code = code) {x y : Int32} (hd : decode code pc = .ok (.iand, 1)) (hpc : pc + 1 = pc') (h : Go p e below s mc ms Q m T pc' Ls (.int (x &&& y) :: st)) : Go p e below s mc ms Q m T pc Ls (.int y :: .int x :: st) := by
  subst hpc; exact h.of fun _ kk => XS.iand (g := mkF m pc Ls (.int y :: .int x :: st)) X.here hx rfl (hb hby hd) rfl kk
theorem Go.ior (X : Stand p l e R s m args below meth c T locs cells slots) (hx : p.tables.exec = Jvm.exec) (hby : c.code = code) {x y : Int32} (hd : decode code pc = .ok (.ior, 1)) (hpc : pc + 1 = pc') (h : Go p e below s mc ms Q m T pc' Ls (.int (x ||| y) :: st)) : Go p e below s mc ms Q m T pc Ls (.int y :: .int x :: st) := by
  subst hpc; exact h.of fun _ kk => XT.ior (g := mkF m pc Ls (.int y :: .int x :: st)) X.here hx rfl (hb hby hd) rfl kk
theorem Go.ixor (X : Stand p l e R s m args below meth c T locs cells slots) (hx : p.tables.exec = Jvm.exec) (hby : c.code = code) {x y : Int32} (hd : decode code pc = .ok (.ixor, 1)) (hpc : pc + 1 = pc') (h : Go p e below s mc ms Q m T pc' Ls (.int (x ^^^ y) :: st)) : Go p e below s mc ms Q m T pc Ls (.int y :: .int x :: st) := by
  subst hpc; exact h.of fun _ kk => XT.ixor (g := mkF m pc Ls (.int y :: .int x :: st)) X.here hx rfl (hb hby hd) rfl kk
theorem Go.ishl (X : Stand p l e R s m args below meth c T locs cells slots) (hx : p.tables.exec = Jvm.exec) (hby : c.code = code) {x y : Int32} (hd : decode code pc = .ok (.ishl, 1)) (hpc : pc + 1 = pc') (h : Go p e below s mc ms Q m T pc' Ls (.int (shlI x y) :: st)) : Go p e below s mc ms Q m T pc Ls (.int y :: .int x :: st) := by
  subst hpc; exact h.of fun _ kk => XT.ishl (g := mkF m pc Ls (.int y :: .int x :: st)) X.here hx rfl (hb hby hd) rfl kk
theorem Go.ishr (X : Stand p l e R s m args below meth c T locs cells slots) (hx : p.tables.exec = Jvm.exec) (hby : c.code = code) {x y : Int32} (hd : decode code pc = .ok (.ishr, 1)) (hpc : pc + 1 = pc') (h : Go p e below s mc ms Q m T pc' Ls (.int (shrI x y) :: st)) : Go p e below s mc ms Q m T pc Ls (.int y :: .int x :: st) := by
  subst hpc; exact h.of fun _ kk => XT.ishr (g := mkF m pc Ls (.int y :: .int x :: st)) X.here hx rfl (hb hby hd) rfl kk
theorem Go.iushr (X : Stand p l e R s m args below meth c T locs cells slots) (hx : p.tables.exec = Jvm.exec) (hby : c.code = code) {x y : Int32} (hd : decode code pc = .ok (.iushr, 1)) (hpc : pc + 1 = pc') (h : Go p e below s mc ms Q m T pc' Ls (.int (XT.ushr x y) :: st)) : Go p e below s mc ms Q m T pc Ls (.int y :: .int x :: st) := by
  subst hpc; exact h.of fun _ kk => XT.iushr (g := mkF m pc Ls (.int y :: .int x :: st)) X.here hx rfl (hb hby hd) rfl kk
theorem Go.idiv (X : Stand p l e R s m args below meth c T locs cells slots) (hx : p.tables.exec = Jvm.exec) (hby : c.code = code) {x y : Int32} (hd : decode code pc = .ok (.idiv, 1)) (hpc : pc + 1 = pc') (hy : y ≠ 0) (h : Go p e below s mc ms Q m T pc' Ls (.int (x / y) :: st)) : Go p e below s mc ms Q m T pc Ls (.int y :: .int x :: st) := by
  subst hpc; exact h.of fun _ kk => XS.idiv (g := mkF m pc Ls (.int y :: .int x :: st)) X.here hx rfl (hb hby hd) rfl hy kk
theorem Go.irem (X : Stand p l e R s m args below meth c T locs cells slots) (hx : p.tables.exec = Jvm.exec) (hby : c.code = code) {x y : Int32} (hd : decode code pc = .ok (.irem, 1)) (hpc : pc + 1 = pc') (hy : y ≠ 0) (h : Go p e below s mc ms Q m T pc' Ls (.int (remI x y) :: st)) : Go p e below s mc ms Q m T pc Ls (.int y :: .int x :: st) := by
  subst hpc; exact h.of fun _ kk => XS.irem (g := mkF m pc Ls (.int y :: .int x :: st)) X.here hx rfl (hb hby hd) rfl hy kk
theorem Go.ladd (X : Stand p l e R s m args below meth c T locs cells slots) (hx : p.tables.exec = Jvm.exec) (hby : c.code = code) {x y : Int64} (hd : decode code pc = .ok (.ladd, 1)) (hpc : pc + 1 = pc') (h : Go p e below s mc ms Q m T pc' Ls (.long (x + y) :: st)) : Go p e below s mc ms Q m T pc Ls (.long y :: .long x :: st) := by
  subst hpc; exact h.of fun _ kk => XT.ladd (g := mkF m pc Ls (.long y :: .long x :: st)) X.here hx rfl (hb hby hd) rfl kk
theorem Go.lsub (X : Stand p l e R s m args below meth c T locs cells slots) (hx : p.tables.exec = Jvm.exec) (hby : c.code = code) {x y : Int64} (hd : decode code pc = .ok (.lsub, 1)) (hpc : pc + 1 = pc') (h : Go p e below s mc ms Q m T pc' Ls (.long (x - y) :: st)) : Go p e below s mc ms Q m T pc Ls (.long y :: .long x :: st) := by
  subst hpc; exact h.of fun _ kk => XT.lsub (g := mkF m pc Ls (.long y :: .long x :: st)) X.here hx rfl (hb hby hd) rfl kk
theorem Go.lmul (X : Stand p l e R s m args below meth c T locs cells slots) (hx : p.tables.exec = Jvm.exec) (hby : c.code = code) {x y : Int64} (hd : decode code pc = .ok (.lmul, 1)) (hpc : pc + 1 = pc') (h : Go p e below s mc ms Q m T pc' Ls (.long (x * y) :: st)) : Go p e below s mc ms Q m T pc Ls (.long y :: .long x :: st) := by
  subst hpc; exact h.of fun _ kk => XT.lmul (g := mkF m pc Ls (.long y :: .long x :: st)) X.here hx rfl (hb hby hd) rfl kk
theorem Go.land (X : Stand p l e R s m args below meth c T locs cells slots) (hx : p.tables.exec = Jvm.exec) (hby : c.code = code) {x y : Int64} (hd : decode code pc = .ok (.land, 1)) (hpc : pc + 1 = pc') (h : Go p e below s mc ms Q m T pc' Ls (.long (x &&& y) :: st)) : Go p e below s mc ms Q m T pc Ls (.long y :: .long x :: st) := by
  subst hpc; exact h.of fun _ kk => XT.land (g := mkF m pc Ls (.long y :: .long x :: st)) X.here hx rfl (hb hby hd) rfl kk
theorem Go.lor (X : Stand p l e R s m args below meth c T locs cells slots) (hx : p.tables.exec = Jvm.exec) (hby : c.code = code) {x y : Int64} (hd : decode code pc = .ok (.lor, 1)) (hpc : pc + 1 = pc') (h : Go p e below s mc ms Q m T pc' Ls (.long (x ||| y) :: st)) : Go p e below s mc ms Q m T pc Ls (.long y :: .long x :: st) := by
  subst hpc; exact h.of fun _ kk => XT.lor (g := mkF m pc Ls (.long y :: .long x :: st)) X.here hx rfl (hb hby hd) rfl kk
theorem Go.lxor (X : Stand p l e R s m args below meth c T locs cells slots) (hx : p.tables.exec = Jvm.exec) (hby : c.code = code) {x y : Int64} (hd : decode code pc = .ok (.lxor, 1)) (hpc : pc + 1 = pc') (h : Go p e below s mc ms Q m T pc' Ls (.long (x ^^^ y) :: st)) : Go p e below s mc ms Q m T pc Ls (.long y :: .long x :: st) := by
  subst hpc; exact h.of fun _ kk => XT.lxor (g := mkF m pc Ls (.long y :: .long x :: st)) X.here hx rfl (hb hby hd) rfl kk
theorem Go.ldiv (X : Stand p l e R s m args below meth c T locs cells slots) (hx : p.tables.exec = Jvm.exec) (hby : c.code = code) {x y : Int64} (hd : decode code pc = .ok (.ldiv, 1)) (hpc : pc + 1 = pc') (hy : y ≠ 0) (h : Go p e below s mc ms Q m T pc' Ls (.long (x / y) :: st)) : Go p e below s mc ms Q m T pc Ls (.long y :: .long x :: st) := by
  subst hpc; exact h.of fun _ kk => XT.ldiv (g := mkF m pc Ls (.long y :: .long x :: st)) X.here hx rfl (hb hby hd) rfl hy kk
theorem Go.lrem (X : Stand p l e R s m args below meth c T locs cells slots) (hx : p.tables.exec = Jvm.exec) (hby : c.code = code) {x y : Int64} (hd : decode code pc = .ok (.lrem, 1)) (hpc : pc + 1 = pc') (hy : y ≠ 0) (h : Go p e below s mc ms Q m T pc' Ls (.long (remJ x y) :: st)) : Go p e below s mc ms Q m T pc Ls (.long y :: .long x :: st) := by
  subst hpc; exact h.of fun _ kk => XT.lrem (g := mkF m pc Ls (.long y :: .long x :: st)) X.here hx rfl (hb hby hd) rfl hy kk
theorem Go.lushr (X : Stand p l e R s m args below meth c T locs cells slots) (hx : p.tables.exec = Jvm.exec) (hby : c.code = code) {x : Int64} {y : Int32} (hd : decode code pc = .ok (.lushr, 1)) (hpc : pc + 1 = pc') (h : Go p e below s mc ms Q m T pc' Ls (.long (XT.ushrL x y) :: st)) : Go p e below s mc ms Q m T pc Ls (.int y :: .long x :: st) := by
  subst hpc; exact h.of fun _ kk => XT.lushr (g := mkF m pc Ls (.int y :: .long x :: st)) X.here hx rfl (hb hby hd) rfl kk
theorem Go.lshl (X : Stand p l e R s m args below meth c T locs cells slots) (hx : p.tables.exec = Jvm.exec) (hby : c.code = code) {x : Int64} {y : Int32} {z : Int64} (hd : decode code pc = .ok (.lshl, 1)) (hpc : pc + 1 = pc') (hz : x <<< (y.toInt64 &&& 63) = z) (h : Go p e below s mc ms Q m T pc' Ls (.long z :: st)) : Go p e below s mc ms Q m T pc Ls (.int y :: .long x :: st) := by
  subst hpc hz; exact h.of fun _ kk => XT.lshl (g := mkF m pc Ls (.int y :: .long x :: st)) X.here hx rfl (hb hby hd) rfl kk
theorem Go.lshr (X : Stand p l e R s m args below meth c T locs cells slots) (hx : p.tables.exec = Jvm.exec) (hby : c.code = code) {x : Int64} {y : Int32} {z : Int64} (hd : decode code pc = .ok (.lshr, 1)) (hpc : pc + 1 = pc') (hz : x >>> (y.toInt64 &&& 63) = z) (h : Go p e below s mc ms Q m T pc' Ls (.long z :: st)) : Go p e below s mc ms Q m T pc Ls (.int y :: .long x :: st) := by
  subst hpc hz; exact h.of fun _ kk => XT.lshr (g := mkF m pc Ls (.int y :: .long x :: st)) X.here hx rfl (hb hby hd) rfl kk
theorem Go.lcmp (X : Stand p l e R s m args below meth c T locs cells slots) (hx : p.tables.exec = Jvm.exec) (hby : c.code = code) {x y : Int64} (hd : decode code pc = .ok (.lcmp, 1)) (hpc : pc + 1 = pc') (h : Go p e below s mc ms Q m T pc' Ls (.int (XT.cmpL x y) :: st)) : Go p e below s mc ms Q m T pc Ls (.long y :: .long x :: st) := by
  subst hpc; exact h.of fun _ kk => XT.lcmp (g := mkF m pc Ls (.long y :: .long x :: st)) X.here hx rfl (hb hby hd) rfl kk
theorem Go.ineg (X : Stand p l e R s m args below meth c T locs cells slots) (hx : p.tables.exec = Jvm.exec) (hby : c.code = code) {x : Int32} (hd : decode code pc = .ok (.ineg, 1)) (hpc : pc + 1 = pc') (h : Go p e below s mc ms Q m T pc' Ls (.int (-x) :: st)) : Go p e below s mc ms Q m T pc Ls (.int x :: st) := by
  subst hpc; exact h.of fun _ kk => XS.ineg (g := mkF m pc Ls (.int x :: st)) X.here hx rfl (hb hby hd) rfl kk
theorem Go.i2l (X : Stand p l e R s m args below meth c T locs cells slots) (hx : p.tables.exec = Jvm.exec) (hby : c.code = code) {x : Int32} (hd : decode code pc = .ok (.i2l, 1)) (hpc : pc + 1 = pc') (h : Go p e below s mc ms Q m T pc' Ls (.long (x.toInt64) :: st)) : Go p e below s mc ms Q m T pc Ls (.int x :: st) := by
  subst hpc; exact h.of fun _ kk => XT.i2l (g := mkF m pc Ls (.int x :: st)) X.here hx rfl (hb hby hd) rfl kk
theorem Go.l2i (X : Stand p l e R s m args below meth c T locs cells slots) (hx : p.tables.exec = Jvm.exec) (hby : c.code = code) {x : Int64} (hd : decode code pc = .ok (.l2i, 1)) (hpc : pc + 1 = pc') (h : Go p e below s mc ms Q m T pc' Ls (.int (x.toInt32) :: st)) : Go p e below s mc ms Q m T pc Ls (.long x :: st) := by
  subst hpc; exact h.of fun _ kk => XT.l2i (g := mkF m pc Ls (.long x :: st)) X.here hx rfl (hb hby hd) rfl kk
theorem Go.i2b (X : Stand p l e R s m args below meth c T locs cells slots) (hx : p.tables.exec = Jvm.exec) (hby : c.code = code) {x : Int32} (hd : decode code pc = .ok (.i2b, 1)) (hpc : pc + 1 = pc') (h : Go p e below s mc ms Q m T pc' Ls (.int (i2bF x) :: st)) : Go p e below s mc ms Q m T pc Ls (.int x :: st) := by
  subst hpc; exact h.of fun _ kk => XT.i2b (g := mkF m pc Ls (.int x :: st)) X.here hx rfl (hb hby hd) rfl kk
theorem Go.i2c (X : Stand p l e R s m args below meth c T locs cells slots) (hx : p.tables.exec = Jvm.exec) (hby : c.code = code) {x : Int32} (hd : decode code pc = .ok (.i2c, 1)) (hpc : pc + 1 = pc') (h : Go p e below s mc ms Q m T pc' Ls (.int (i2cF x) :: st)) : Go p e below s mc ms Q m T pc Ls (.int x :: st) := by
  subst hpc; exact h.of fun _ kk => XT.i2c (g := mkF m pc Ls (.int x :: st)) X.here hx rfl (hb hby hd) rfl kk
theorem Go.i2s (X : Stand p l e R s m args below meth c T locs cells slots) (hx : p.tables.exec = Jvm.exec) (hby : c.code = code) {x : Int32} (hd : decode code pc = .ok (.i2s, 1)) (hpc : pc + 1 = pc') (h : Go p e below s mc ms Q m T pc' Ls (.int (i2sF x) :: st)) : Go p e below s mc ms Q m T pc Ls (.int x :: st) := by
  subst hpc; exact h.of fun _ kk => XT.i2s (g := mkF m pc Ls (.int x :: st)) X.here hx rfl (hb hby hd) rfl kk
theorem Go.iinc (X : Stand p l e R s m args below meth c T locs cells slots) (hx : p.tables.exec = Jvm.exec) (hby : c.code = code) {k : Nat} {i : Int} {x v : Int32} (hd : decode code pc = .ok (.iinc k i, 3)) (hpc : pc + 3 = pc') (hv : Int32.ofInt i = v) (hl : Ls[k]? = some (.val (.int x))) (hl' : storeLocals Ls k (.int (x + v)) = some Ls') (h : Go p e below s mc ms Q m T pc' Ls' (st)) : Go p e below s mc ms Q m T pc Ls (st) := by
  subst hpc; exact h.of fun _ kk => XT.iincV (g := mkF m pc Ls (st)) X.here hx rfl v (hb hby hd) hv hl hl' kk
theorem Go.dup (X : Stand p l e R s m args below meth c T locs cells slots) (hx : p.tables.exec = Jvm.exec) (hby : c.code = code) {v : Value} (hd : decode code pc = .ok (.dup, 1)) (hpc : pc + 1 = pc') (hv : v.category = 1) (h : Go p e below s mc ms Q m T pc' Ls (v :: v :: st)) : Go p e below s mc ms Q m T pc Ls (v :: st) := by
  subst hpc; exact h.of fun _ kk => XS.dup (g := mkF m pc Ls (v :: st)) X.here hx rfl (hb hby hd) rfl hv kk
theorem Go.pop (X : Stand p l e R s m args below meth c T locs cells slots) (hx : p.tables.exec = Jvm.exec) (hby : c.code = code) {v : Value} (hd : decode code pc = .ok (.pop, 1)) (hpc : pc + 1 = pc') (hv : v.category = 1) (h : Go p e below s mc ms Q m T pc' Ls (st)) : Go p e below s mc ms Q m T pc Ls (v :: st) := by
  subst hpc; exact h.of fun _ kk => XT.pop (g := mkF m pc Ls (v :: st)) X.here hx rfl (hb hby hd) rfl hv kk
theorem Go.goto (X : Stand p l e R s m args below meth c T locs cells slots) (hx : p.tables.exec = Jvm.exec) (hby : c.code = code) {o : Int} (hd : decode code pc = .ok (.goto o, 3)) (ho : 0 ≤ (pc : Int) + o) (hp : ((pc : Int) + o).toNat = pc') (h : Go p e below s mc ms Q m T pc' Ls st) : Go p e below s mc ms Q m T pc Ls st :=
  h.of fun _ kk => XS.goto (g := mkF m pc Ls st) X.here hx rfl (pc0 := pc) rfl (hb hby hd) ho hp kk
theorem Go.icmp_eq (X : Stand p l e R s m args below meth c T locs cells slots) (hx : p.tables.exec = Jvm.exec) (hby : c.code = code) {pcN : Nat} {x y : Int32} {o : Int} (hd : decode code pc = .ok (.if_icmp .eq o, 3)) (ho : 0 ≤ (pc : Int) + o) (hp : ((pc : Int) + o).toNat = pc') (hn : pc + 3 = pcN) (yes : x = y → Go p e below s mc ms Q m T pc' Ls st) (no : ¬ x = y → Go p e below s mc ms Q m T pcN Ls st) : Go p e below s mc ms Q m T pc Ls (.int y :: .int x :: st) := by
  subst hn
  by_cases q : x = y
  · exact (yes q).of fun _ kk => XS.icmpYes (g := mkF m pc Ls (.int y :: .int x :: st)) X.here hx rfl (pc0 := pc) rfl (hb hby hd) rfl (XT.ii_eq_t q) ho hp kk
  · exact (no q).of fun _ kk => XS.icmpNo (g := mkF m pc Ls (.int y :: .int x :: st)) X.here hx rfl (hb hby hd) rfl (XT.ii_eq_f q) kk
theorem Go.icmp_ne (X : Stand p l e R s m args below meth c T locs cells slots) (hx : p.tables.exec = Jvm.exec) (hby : c.code = code) {pcN : Nat} {x y : Int32} {o : Int} (hd : decode code pc = .ok (.if_icmp .ne o, 3)) (ho : 0 ≤ (pc : Int) + o) (hp : ((pc : Int) + o).toNat = pc') (hn : pc + 3 = pcN) (yes : ¬ x = y → Go p e below s mc ms Q m T pc' Ls st) (no : x = y → Go p e below s mc ms Q m T pcN Ls st) : Go p e below s mc ms Q m T pc Ls (.int y :: .int x :: st) := by
  subst hn
  by_cases q : x = y
  · exact (no q).of fun _ kk => XS.icmpNo (g := mkF m pc Ls (.int y :: .int x :: st)) X.here hx rfl (hb hby hd) rfl (XT.ii_ne_f q) kk
  · exact (yes q).of fun _ kk => XS.icmpYes (g := mkF m pc Ls (.int y :: .int x :: st)) X.here hx rfl (pc0 := pc) rfl (hb hby hd) rfl (XT.ii_ne_t q) ho hp kk
theorem Go.icmp_lt (X : Stand p l e R s m args below meth c T locs cells slots) (hx : p.tables.exec = Jvm.exec) (hby : c.code = code) {pcN : Nat} {x y : Int32} {o : Int} (hd : decode code pc = .ok (.if_icmp .lt o, 3)) (ho : 0 ≤ (pc : Int) + o) (hp : ((pc : Int) + o).toNat = pc') (hn : pc + 3 = pcN) (yes : x < y → Go p e below s mc ms Q m T pc' Ls st) (no : ¬ x < y → Go p e below s mc ms Q m T pcN Ls st) : Go p e below s mc ms Q m T pc Ls (.int y :: .int x :: st) := by
  subst hn
  by_cases q : x < y
  · exact (yes q).of fun _ kk => XS.icmpYes (g := mkF m pc Ls (.int y :: .int x :: st)) X.here hx rfl (pc0 := pc) rfl (hb hby hd) rfl (XT.ii_lt_t q) ho hp kk
  · exact (no q).of fun _ kk => XS.icmpNo (g := mkF m pc Ls (.int y :: .int x :: st)) X.here hx rfl (hb hby hd) rfl (XT.ii_lt_f q) kk
theorem Go.icmp_ge (X : Stand p l e R s m args below meth c T locs cells slots) (hx : p.tables.exec = Jvm.exec) (hby : c.code = code) {pcN : Nat} {x y : Int32} {o : Int} (hd : decode code pc = .ok (.if_icmp .ge o, 3)) (ho : 0 ≤ (pc : Int) + o) (hp : ((pc : Int) + o).toNat = pc') (hn : pc + 3 = pcN) (yes : ¬ x < y → Go p e below s mc ms Q m T pc' Ls st) (no : x < y → Go p e below s mc ms Q m T pcN Ls st) : Go p e below s mc ms Q m T pc Ls (.int y :: .int x :: st) := by
  subst hn
  by_cases q : x < y
  · exact (no q).of fun _ kk => XS.icmpNo (g := mkF m pc Ls (.int y :: .int x :: st)) X.here hx rfl (hb hby hd) rfl (XT.ii_ge_f q) kk
  · exact (yes q).of fun _ kk => XS.icmpYes (g := mkF m pc Ls (.int y :: .int x :: st)) X.here hx rfl (pc0 := pc) rfl (hb hby hd) rfl (XT.ii_ge_t q) ho hp kk
theorem Go.icmp_gt (X : Stand p l e R s m args below meth c T locs cells slots) (hx : p.tables.exec = Jvm.exec) (hby : c.code = code) {pcN : Nat} {x y : Int32} {o : Int} (hd : decode code pc = .ok (.if_icmp .gt o, 3)) (ho : 0 ≤ (pc : Int) + o) (hp : ((pc : Int) + o).toNat = pc') (hn : pc + 3 = pcN) (yes : y < x → Go p e below s mc ms Q m T pc' Ls st) (no : ¬ y < x → Go p e below s mc ms Q m T pcN Ls st) : Go p e below s mc ms Q m T pc Ls (.int y :: .int x :: st) := by
  subst hn
  by_cases q : y < x
  · exact (yes q).of fun _ kk => XS.icmpYes (g := mkF m pc Ls (.int y :: .int x :: st)) X.here hx rfl (pc0 := pc) rfl (hb hby hd) rfl (XT.ii_gt_t q) ho hp kk
  · exact (no q).of fun _ kk => XS.icmpNo (g := mkF m pc Ls (.int y :: .int x :: st)) X.here hx rfl (hb hby hd) rfl (XT.ii_gt_f q) kk
theorem Go.icmp_le (X : Stand p l e R s m args below meth c T locs cells slots) (hx : p.tables.exec = Jvm.exec) (hby : c.code = code) {pcN : Nat} {x y : Int32} {o : Int} (hd : decode code pc = .ok (.if_icmp .le o, 3)) (ho : 0 ≤ (pc : Int) + o) (hp : ((pc : Int) + o).toNat = pc') (hn : pc + 3 = pcN) (yes : ¬ y < x → Go p e below s mc ms Q m T pc' Ls st) (no : y < x → Go p e below s mc ms Q m T pcN Ls st) : Go p e below s mc ms Q m T pc Ls (.int y :: .int x :: st) := by
  subst hn
  by_cases q : y < x
  · exact (no q).of fun _ kk => XS.icmpNo (g := mkF m pc Ls (.int y :: .int x :: st)) X.here hx rfl (hb hby hd) rfl (XT.ii_le_f q) kk
  · exact (yes q).of fun _ kk => XS.icmpYes (g := mkF m pc Ls (.int y :: .int x :: st)) X.here hx rfl (pc0 := pc) rfl (hb hby hd) rfl (XT.ii_le_t q) ho hp kk
theorem Go.if_eq (X : Stand p l e R s m args below meth c T locs cells slots) (hx : p.tables.exec = Jvm.exec) (hby : c.code = code) {pcN : Nat} {x : Int32} {o : Int} (hd : decode code pc = .ok (.ifCond .eq o, 3)) (ho : 0 ≤ (pc : Int) + o) (hp : ((pc : Int) + o).toNat = pc') (hn : pc + 3 = pcN) (yes : x = 0 → Go p e below s mc ms Q m T pc' Ls st) (no : ¬ x = 0 → Go p e below s mc ms Q m T pcN Ls st) : Go p e below s mc ms Q m T pc Ls (.int x :: st) := by
  subst hn
  by_cases q : x = 0
  · exact (yes q).of fun _ kk => XS.ifYes (g := mkF m pc Ls (.int x :: st)) X.here hx rfl (pc0 := pc) rfl (hb hby hd) rfl (XT.i0_eq_t q) ho hp kk
  · exact (no q).of fun _ kk => XS.ifNo (g := mkF m pc Ls (.int x :: st)) X.here hx rfl (hb hby hd) rfl (XT.i0_eq_f q) kk
theorem Go.if_ne (X : Stand p l e R s m args below meth c T locs cells slots) (hx : p.tables.exec = Jvm.exec) (hby : c.code = code) {pcN : Nat} {x : Int32} {o : Int} (hd : decode code pc = .ok (.ifCond .ne o, 3)) (ho : 0 ≤ (pc : Int) + o) (hp : ((pc : Int) + o).toNat = pc') (hn : pc + 3 = pcN) (yes : ¬ x = 0 → Go p e below s mc ms Q m T pc' Ls st) (no : x = 0 → Go p e below s mc ms Q m T pcN Ls st) : Go p e below s mc ms Q m T pc Ls (.int x :: st) := by
  subst hn
  by_cases q : x = 0
  · exact (no q).of fun _ kk => XS.ifNo (g := mkF m pc Ls (.int x :: st)) X.here hx rfl (hb hby hd) rfl (XT.i0_ne_f q) kk
  · exact (yes q).of fun _ kk => XS.ifYes (g := mkF m pc Ls (.int x :: st)) X.here hx rfl (pc0 := pc) rfl (hb hby hd) rfl (XT.i0_ne_t q) ho hp kk
theorem Go.if_lt (X : Stand p l e R s m args below meth c T locs cells slots) (hx : p.tables.exec = Jvm.exec) (hby : c.code = code) {pcN : Nat} {x : Int32} {o : Int} (hd : decode code pc = .ok (.ifCond .lt o, 3)) (ho : 0 ≤ (pc : Int) + o) (hp : ((pc : Int) + o).toNat = pc') (hn : pc + 3 = pcN) (yes : x < 0 → Go p e below s mc ms Q m T pc' Ls st) (no : ¬ x < 0 → Go p e below s mc ms Q m T pcN Ls st) : Go p e below s mc ms Q m T pc Ls (.int x :: st) := by
  subst hn
  by_cases q : x < 0
  · exact (yes q).of fun _ kk => XS.ifYes (g := mkF m pc Ls (.int x :: st)) X.here hx rfl (pc0 := pc) rfl (hb hby hd) rfl (XT.i0_lt_t q) ho hp kk
  · exact (no q).of fun _ kk => XS.ifNo (g := mkF m pc Ls (.int x :: st)) X.here hx rfl (hb hby hd) rfl (XT.i0_lt_f q) kk
theorem Go.if_ge (X : Stand p l e R s m args below meth c T locs cells slots) (hx : p.tables.exec = Jvm.exec) (hby : c.code = code) {pcN : Nat} {x : Int32} {o : Int} (hd : decode code pc = .ok (.ifCond .ge o, 3)) (ho : 0 ≤ (pc : Int) + o) (hp : ((pc : Int) + o).toNat = pc') (hn : pc + 3 = pcN) (yes : ¬ x < 0 → Go p e below s mc ms Q m T pc' Ls st) (no : x < 0 → Go p e below s mc ms Q m T pcN Ls st) : Go p e below s mc ms Q m T pc Ls (.int x :: st) := by
  subst hn
  by_cases q : x < 0
  · exact (no q).of fun _ kk => XS.ifNo (g := mkF m pc Ls (.int x :: st)) X.here hx rfl (hb hby hd) rfl (XT.i0_ge_f q) kk
  · exact (yes q).of fun _ kk => XS.ifYes (g := mkF m pc Ls (.int x :: st)) X.here hx rfl (pc0 := pc) rfl (hb hby hd) rfl (XT.i0_ge_t q) ho hp kk
theorem Go.if_gt (X : Stand p l e R s m args below meth c T locs cells slots) (hx : p.tables.exec = Jvm.exec) (hby : c.code = code) {pcN : Nat} {x : Int32} {o : Int} (hd : decode code pc = .ok (.ifCond .gt o, 3)) (ho : 0 ≤ (pc : Int) + o) (hp : ((pc : Int) + o).toNat = pc') (hn : pc + 3 = pcN) (yes : 0 < x → Go p e below s mc ms Q m T pc' Ls st) (no : ¬ 0 < x → Go p e below s mc ms Q m T pcN Ls st) : Go p e below s mc ms Q m T pc Ls (.int x :: st) := by
  subst hn
  by_cases q : 0 < x
  · exact (yes q).of fun _ kk => XS.ifYes (g := mkF m pc Ls (.int x :: st)) X.here hx rfl (pc0 := pc) rfl (hb hby hd) rfl (XT.i0_gt_t q) ho hp kk
  · exact (no q).of fun _ kk => XS.ifNo (g := mkF m pc Ls (.int x :: st)) X.here hx rfl (hb hby hd) rfl (XT.i0_gt_f q) kk
theorem Go.if_le (X : Stand p l e R s m args below meth c T locs cells slots) (hx : p.tables.exec = Jvm.exec) (hby : c.code = code) {pcN : Nat} {x : Int32} {o : Int} (hd : decode code pc = .ok (.ifCond .le o, 3)) (ho : 0 ≤ (pc : Int) + o) (hp : ((pc : Int) + o).toNat = pc') (hn : pc + 3 = pcN) (yes : ¬ 0 < x → Go p e below s mc ms Q m T pc' Ls st) (no : 0 < x → Go p e below s mc ms Q m T pcN Ls st) : Go p e below s mc ms Q m T pc Ls (.int x :: st) := by
  subst hn
  by_cases q : 0 < x
  · exact (no q).of fun _ kk => XS.ifNo (g := mkF m pc Ls (.int x :: st)) X.here hx rfl (hb hby hd) rfl (XT.i0_le_f q) kk
  · exact (yes q).of fun _ kk => XS.ifYes (g := mkF m pc Ls (.int x :: st)) X.here hx rfl (pc0 := pc) rfl (hb hby hd) rfl (XT.i0_le_t q) ho hp kk
theorem Go.ifL_eq (X : Stand p l e R s m args below meth c T locs cells slots) (hx : p.tables.exec = Jvm.exec) (hby : c.code = code) {pcN : Nat} {x y : Int64} {o : Int} (hd : decode code pc = .ok (.ifCond .eq o, 3)) (ho : 0 ≤ (pc : Int) + o) (hp : ((pc : Int) + o).toNat = pc') (hn : pc + 3 = pcN) (yes : x = y → Go p e below s mc ms Q m T pc' Ls st) (no : ¬ x = y → Go p e below s mc ms Q m T pcN Ls st) : Go p e below s mc ms Q m T pc Ls (.int (XT.cmpL x y) :: st) := by
  subst hn
  by_cases q : x = y
  · exact (yes q).of fun _ kk => XS.ifYes (g := mkF m pc Ls (.int (XT.cmpL x y) :: st)) X.here hx rfl (pc0 := pc) rfl (hb hby hd) rfl (XT.ll_eq_t q) ho hp kk
  · exact (no q).of fun _ kk => XS.ifNo (g := mkF m pc Ls (.int (XT.cmpL x y) :: st)) X.here hx rfl (hb hby hd) rfl (XT.ll_eq_f q) kk
theorem Go.ifL_ne (X : Stand p l e R s m args below meth c T locs cells slots) (hx : p.tables.exec = Jvm.exec) (hby : c.code = code) {pcN : Nat} {x y : Int64} {o : Int} (hd : decode code pc = .ok (.ifCond .ne o, 3)) (ho : 0 ≤ (pc : Int) + o) (hp : ((pc : Int) + o).toNat = pc') (hn : pc + 3 = pcN) (yes : ¬ x = y → Go p e below s mc ms Q m T pc' Ls st) (no : x = y → Go p e below s mc ms Q m T pcN Ls st) : Go p e below s mc ms Q m T pc Ls (.int (XT.cmpL x y) :: st) := by
  subst hn
  by_cases q : x = y
  · exact (no q).of fun _ kk => XS.ifNo (g := mkF m pc Ls (.int (XT.cmpL x y) :: st)) X.here hx rfl (hb hby hd) rfl (XT.ll_ne_f q) kk
  · exact (yes q).of fun _ kk => XS.ifYes (g := mkF m pc Ls (.int (XT.cmpL x y) :: st)) X.here hx rfl (pc0 := pc) rfl (hb hby hd) rfl (XT.ll_ne_t q) ho hp kk
theorem Go.ifL_lt (X : Stand p l e R s m args below meth c T locs cells slots) (hx : p.tables.exec = Jvm.exec) (hby : c.code = code) {pcN : Nat} {x y : Int64} {o : Int} (hd : decode code pc = .ok (.ifCond .lt o, 3)) (ho : 0 ≤ (pc : Int) + o) (hp : ((pc : Int) + o).toNat = pc') (hn : pc + 3 = pcN) (yes : x < y → Go p e below s mc ms Q m T pc' Ls st) (no : ¬ x < y → Go p e below s mc ms Q m T pcN Ls st) : Go p e below s mc ms Q m T pc Ls (.int (XT.cmpL x y) :: st) := by
  subst hn
  by_cases q : x < y
  · exact (yes q).of fun _ kk => XS.ifYes (g := mkF m pc Ls (.int (XT.cmpL x y) :: st)) X.here hx rfl (pc0 := pc) rfl (hb hby hd) rfl (XT.ll_lt_t q) ho hp kk
  · exact (no q).of fun _ kk => XS.ifNo (g := mkF m pc Ls (.int (XT.cmpL x y) :: st)) X.here hx rfl (hb hby hd) rfl (XT.ll_lt_f q) kk
theorem Go.ifL_ge (X : Stand p l e R s m args below meth c T locs cells slots) (hx : p.tables.exec = Jvm.exec) (hby : c.code = code) {pcN : Nat} {x y : Int64} {o : Int} (hd : decode code pc = .ok (.ifCond .ge o, 3)) (ho : 0 ≤ (pc : Int) + o) (hp : ((pc : Int) + o).toNat = pc') (hn : pc + 3 = pcN) (yes : ¬ x < y → Go p e below s mc ms Q m T pc' Ls st) (no : x < y → Go p e below s mc ms Q m T pcN Ls st) : Go p e below s mc ms Q m T pc Ls (.int (XT.cmpL x y) :: st) := by
  subst hn
  by_cases q : x < y
  · exact (no q).of fun _ kk => XS.ifNo (g := mkF m pc Ls (.int (XT.cmpL x y) :: st)) X.here hx rfl (hb hby hd) rfl (XT.ll_ge_f q) kk
  · exact (yes q).of fun _ kk => XS.ifYes (g := mkF m pc Ls (.int (XT.cmpL x y) :: st)) X.here hx rfl (pc0 := pc) rfl (hb hby hd) rfl (XT.ll_ge_t q) ho hp kk
theorem Go.ifL_gt (X : Stand p l e R s m args below meth c T locs cells slots) (hx : p.tables.exec = Jvm.exec) (hby : c.code = code) {pcN : Nat} {x y : Int64} {o : Int} (hd : decode code pc = .ok (.ifCond .gt o, 3)) (ho : 0 ≤ (pc : Int) + o) (hp : ((pc : Int) + o).toNat = pc') (hn : pc + 3 = pcN) (yes : y < x → Go p e below s mc ms Q m T pc' Ls st) (no : ¬ y < x → Go p e below s mc ms Q m T pcN Ls st) : Go p e below s mc ms Q m T pc Ls (.int (XT.cmpL x y) :: st) := by
  subst hn
  by_cases q : y < x
  · exact (yes q).of fun _ kk => XS.ifYes (g := mkF m pc Ls (.int (XT.cmpL x y) :: st)) X.here hx rfl (pc0 := pc) rfl (hb hby hd) rfl (XT.ll_gt_t q) ho hp kk
  · exact (no q).of fun _ kk => XS.ifNo (g := mkF m pc Ls (.int (XT.cmpL x y) :: st)) X.here hx rfl (hb hby hd) rfl (XT.ll_gt_f q) kk
theorem Go.ifL_le (X : Stand p l e R s m args below meth c T locs cells slots) (hx : p.tables.exec = Jvm.exec) (hby : c.code = code) {pcN : Nat} {x y : Int64} {o : Int} (hd : decode code pc = .ok (.ifCond .le o, 3)) (ho : 0 ≤ (pc : Int) + o) (hp : ((pc : Int) + o).toNat = pc') (hn : pc + 3 = pcN) (yes : ¬ y < x → Go p e below s mc ms Q m T pc' Ls st) (no : y < x → Go p e below s mc ms Q m T pcN Ls st) : Go p e below s mc ms Q m T pc Ls (.int (XT.cmpL x y) :: st) := by
  subst hn
  by_cases q : y < x
  · exact (no q).of fun _ kk => XS.ifNo (g := mkF m pc Ls (.int (XT.cmpL x y) :: st)) X.here hx rfl (hb hby hd) rfl (XT.ll_le_f q) kk
  · exact (yes q).of fun _ kk => XS.ifYes (g := mkF m pc Ls (.int (XT.cmpL x y) :: st)) X.here hx rfl (pc0 := pc) rfl (hb hby hd) rfl (XT.ll_le_t q) ho hp kk
theorem Go.iretI (X : Stand p l e R s m args below meth c T locs cells slots) (hx : p.tables.exec = Jvm.exec) (hby : c.code = code) (hlk : meth.locks = false) (hret : meth.sig.returnType = some .int) {w : Int32} (hd : decode code pc = .ok (.ireturn, 1)) (hc : cells ≤ mc) (hs : slots ≤ ms) (hq : Q (some (.int w)) T.heap locs) : Go p e below s mc ms Q m T pc Ls [.int w] := by
  obtain ⟨fs, hr, hrun, hended, hW, hsame⟩ := X.leave (v := some (.int w)) (fun h => by rw [hret] at h; cases h) hlk
  exact ⟨_, _, X.ireturnOut hx hret rfl (Or.inl rfl) (hb hby hd) hr, hrun, hended, _, _, rfl, hq, ⟨_, rfl⟩, hW, hsame.mono hc hs⟩
theorem Go.iretN (X : Stand p l e R s m args below meth c T locs cells slots) (hx : p.tables.exec = Jvm.exec) (hby : c.code = code) (hlk : meth.locks = false) {t : FieldType} (hret : meth.sig.returnType = some t) (ht : t = .boolean ∨ t = .byte ∨ t = .char ∨ t = .short) {w w' : Int32} (hw : nar t w = w') (hd : decode code pc = .ok (.ireturn, 1)) (hc : cells ≤ mc) (hs : slots ≤ ms) (hq : Q (some (.int w')) T.heap locs) : Go p e below s mc ms Q m T pc Ls [.int w] := by
  subst hw
  obtain ⟨fs, hr, hrun, hended, hW, hsame⟩ := X.leave (v := some (.int (nar t w))) (fun h => by rw [hret] at h; cases h) hlk
  exact ⟨_, _, retN X hx (t := t) hret ht (hb hby hd) hr, hrun, hended, _, _, rfl, hq, ⟨_, rfl⟩, hW, hsame.mono hc hs⟩
theorem Go.lret (X : Stand p l e R s m args below meth c T locs cells slots) (hx : p.tables.exec = Jvm.exec) (hby : c.code = code) (hlk : meth.locks = false) (hret : meth.sig.returnType = some .long) {w : Int64} (hd : decode code pc = .ok (.lreturn, 1)) (hc : cells ≤ mc) (hs : slots ≤ ms) (hq : Q (some (.long w)) T.heap locs) : Go p e below s mc ms Q m T pc Ls [.long w] := by
  obtain ⟨fs, hr, hrun, hended, hW, hsame⟩ := X.leave (v := some (.long w)) (fun h => by rw [hret] at h; cases h) hlk
  exact ⟨_, _, X.lreturnOut hx hret (hb hby hd) hr, hrun, hended, _, _, rfl, hq, ⟨_, rfl⟩, hW, hsame.mono hc hs⟩
theorem Go.aret (X : Stand p l e R s m args below meth c T locs cells slots) (hx : p.tables.exec = Jvm.exec) (hby : c.code = code) (hlk : meth.locks = false) {t : FieldType} (hret : meth.sig.returnType = some t) (ht : t.isReference = true) {w : Value} (hw : w.isRef = true) (hd : decode code pc = .ok (.areturn, 1)) (hc : cells ≤ mc) (hs : slots ≤ ms) (hq : Q (some w) T.heap locs) : Go p e below s mc ms Q m T pc Ls [w] := by
  obtain ⟨fs, hr, hrun, hended, hW, hsame⟩ := X.leave (v := some w) (fun h => by rw [hret] at h; cases h) hlk
  exact ⟨_, _, X.areturnOut hx hw hret ht (hb hby hd) hr, hrun, hended, _, _, rfl, hq, ⟨_, rfl⟩, hW, hsame.mono hc hs⟩
theorem Go.vret (X : Stand p l e R s m args below meth c T locs cells slots) (hx : p.tables.exec = Jvm.exec) (hby : c.code = code) (hlk : meth.locks = false) (hret : meth.sig.returnType = none) (hd : decode code pc = .ok (.return_, 1)) (hc : cells ≤ mc) (hs : slots ≤ ms) (hq : Q none T.heap locs) : Go p e below s mc ms Q m T pc Ls [] := by
  obtain ⟨fs, hr, hrun, hended, hW, hsame⟩ := X.leave (v := none) (fun _ => rfl) hlk
  exact ⟨_, _, X.returnOut hx hret (hb hby hd) hr, hrun, hended, _, _, rfl, hq, ⟨_, rfl⟩, hW, hsame.mono hc hs⟩
/-- what a body that keeps the heap leaves -/
def PQ (h0 : Heap) (r : Option Value) (v : Option Value) (h : Heap) (L : List Loc) : Prop := v = r ∧ L = [] ∧ h = h0
theorem Go.callS (X : Stand p l e R s m args below meth c T locs cells slots) (hx : p.tables.exec = Jvm.exec) (hby : c.code = code) {Z : State} {a0 : Array Value} {h : Heap} (hZ : Z.Warmed39 s.vm) (hml : Ls.size = c.maxLocals) {own : String} {k : Nat} {y : MethodName} {bytes : ByteArray} {maxL : Nat} {ret : Option FieldType} {rm : Room} {W : Nat} {as' : Array Value} {QY : Option Value → Heap → List Loc → Prop}
    (hown : s.vm.findClass own = some m.cls) (w1 : (Cond.methodLink own k y).before a0 Z = true) (w2 : (Cond.static y).before a0 Z = true) (w3 : (Cond.initialized y.cls).before a0 Z = true) (w4 : (Cond.code y bytes maxL ret).before a0 Z = true) (hy : y.cls ≠ "java/lang/invoke/MethodHandle" ∧ y.cls ≠ "java/lang/invoke/VarHandle")
    (hM : MetFree l y (head1 [Cond.code y bytes maxL ret] rm) (fun a U => a = as' ∧ Z.Warmed39 U.vm ∧ U.heap = h) (fun _ _ _ _ _ => True) (fun _ U o U' => ∃ v L, o = .returned v ∧ QY v U'.heap L ∧ FrameEnd U o U' L rm.cells rm.slots))
    (hf : rm.frames + 1 ≤ R.frames) (hl : W + (maxL + 11) + rm.locals ≤ R.locals) (eT : T.heap = h) {argsL rest : List Value} {sig : MethodDescriptor} (hsig : parseMethodDescriptor y.desc = some sig) (hlen : argsL.length = sig.parameters.length) (has : argsL.toArray = as') (hst : st = argsL.reverse ++ rest) (hW : (rest.map fun v => v.category).sum ≤ W)
    (hc : cells + rm.cells ≤ R.cells) (hsl : slots + rm.slots ≤ R.slots) (hd : decode code pc = .ok (.invokestatic k, 3)) (hpc : pc + 3 = pc')
    (K : ∀ v T' L, Stand p l e R s m args below meth c T' (locs ++ L) (cells + rm.cells) (slots + rm.slots) → QY v T'.heap L → Go p e below s mc ms Q m T' pc' Ls (v.toList ++ rest)) : Go p e below s mc ms Q m T pc Ls st := by
  subst hpc hst has
  obtain ⟨v, vm₁, B, -, X', ⟨L, hQ, l1, l2, l3⟩, st⟩ := Jvm.LawKit.callS X hx hown (mvT hZ w1) (mvT hZ w2) (mvT hZ w3) (mvT hZ w4) hy (backOf (W := W) hM hZ w4 w3 hf hl) (g := mkF m pc Ls (argsL.reverse ++ rest)) rfl hml (argsL := argsL) (rest := rest) (lenOf hsig hlen) rfl (by show 2 * 0 + _ ≤ _; omega) (hb hby hd) (fun _ _ => ⟨rfl, eT, hc, hsl⟩)
  rw [l1, l2, l3] at X'
  exact (K v B.U L X' hQ).of st
theorem Go.callSP (X : Stand p l e R s m args below meth c T locs cells slots) (hx : p.tables.exec = Jvm.exec) (hby : c.code = code) {Z : State} {a0 : Array Value} {h : Heap} (hZ : Z.Warmed39 s.vm) (hml : Ls.size = c.maxLocals) {own : String} {k : Nat} {y : MethodName} {bytes : ByteArray} {maxL : Nat} {ret : Option FieldType} {rm : Room} {W : Nat} {as' : Array Value} {r : Value}
    (hown : s.vm.findClass own = some m.cls) (w1 : (Cond.methodLink own k y).before a0 Z = true) (w2 : (Cond.static y).before a0 Z = true) (w3 : (Cond.initialized y.cls).before a0 Z = true) (w4 : (Cond.code y bytes maxL ret).before a0 Z = true) (hy : y.cls ≠ "java/lang/invoke/MethodHandle" ∧ y.cls ≠ "java/lang/invoke/VarHandle")
    (hM : MetFree l y (head1 [Cond.code y bytes maxL ret] rm) (fun a U => a = as' ∧ Z.Warmed39 U.vm ∧ U.heap = h) (fun _ _ _ _ _ => True) (fun _ U o U' => ∃ v L, o = .returned v ∧ PQ h (some r) v U'.heap L ∧ FrameEnd U o U' L rm.cells rm.slots))
    (hf : rm.frames + 1 ≤ R.frames) (hl : W + (maxL + 11) + rm.locals ≤ R.locals) (eT : T.heap = h) {argsL rest : List Value} {sig : MethodDescriptor} (hsig : parseMethodDescriptor y.desc = some sig) (hlen : argsL.length = sig.parameters.length) (has : argsL.toArray = as') (hst : st = argsL.reverse ++ rest) (hW : (rest.map fun v => v.category).sum ≤ W)
    (r1 : rm.cells = 0) (r2 : rm.slots = 0) (hc : cells ≤ R.cells) (hsl : slots ≤ R.slots) (hd : decode code pc = .ok (.invokestatic k, 3)) (hpc : pc + 3 = pc')
    (K : ∀ T', Stand p l e R s m args below meth c T' locs cells slots → T'.heap = h → Go p e below s mc ms Q m T' pc' Ls (r :: rest)) : Go p e below s mc ms Q m T pc Ls st := by
  refine Go.callS X hx hby hZ hml hown w1 w2 w3 w4 hy hM hf hl eT hsig hlen has hst hW (by rw [r1]; exact hc) (by rw [r2]; exact hsl) hd hpc (fun v T' L X' hQ => ?_)
  obtain ⟨rfl, rfl, e1⟩ := hQ
  rw [List.append_nil, r1, r2] at X'
  exact K T' X' e1
end Law

/-- the place j is in the list -/
abbrev inA {α : Type} (A : List α) (j : Int32) : Prop := ¬ (j < 0 ∨ A.length ≤ j.toNatClampNeg)
def atA {α : Type} [OfNat α 0] (A : List α) (j : Int32) : α := A.getD j.toNatClampNeg 0
def setA {α : Type} (A : List α) (j : Int32) (v : α) : List α := A.set j.toNatClampNeg v
def lenA {α : Type} (A : List α) : Int32 := A.length.toInt32
/-- an array of ints, bytes, chars that holds the list -/
def AryI (Z : State) (h : Heap) (a : Addr) (ty : FieldType) (A : List Int32) : Prop := ∃ (k : ClassId) (z : Int32), Arv Z h a k ty z (A.map Value.int) (.int 0) ∧ z.toNatClampNeg = A.length
def AryJ (Z : State) (h : Heap) (a : Addr) (A : List Int64) : Prop := ∃ (k : ClassId) (z : Int32), Arv Z h a k .long z (A.map Value.long) (.long 0) ∧ z.toNatClampNeg = A.length
theorem own_inK {α : Type} {A : List α} {j : Int32} {n : Nat} (hl : A.length = n) (hj : ¬ (j < 0 ∨ n ≤ j.toNatClampNeg)) : inA A j := by subst hl; exact hj
section Heaps
variable {p : Program} {l : Launch} {e : Env} {R : Room} {s : State} {m : MethodId} {args : Array Value} {below : List Frame} {meth : Method} {c : Code} {T T' : State} {locs : List Loc} {cells slots : Nat} {code : ByteArray} {Q : Option Value → Heap → List Loc → Prop} {mc ms : Nat} {pc pc' : Nat} {Ls Ls' : Array Slot} {st st' rest : List Value}
variable {Z : State} {h h' : Heap} {a b : Addr} {ty : FieldType} {A : List Int32} {J : List Int64} {sl : Nat} {v : Value} {ws : List Addr} {a0 : Array Value}
theorem AryI.lt (F : AryI Z h a ty A) : a < h.size := by obtain ⟨k, z, V, -⟩ := F; exact V.lt
theorem AryI.ext (F : AryI Z h a ty A) (E : Ext h h') : AryI Z h' a ty A := by obtain ⟨k, z, V, q⟩ := F; exact ⟨k, z, V.ext E, q⟩
theorem AryI.other (F : AryI Z h b ty A) (W : Wr h h' a sl v) (q : b ≠ a) : AryI Z h' b ty A := by obtain ⟨k, z, V, r⟩ := F; exact ⟨k, z, V.other W q, r⟩
theorem AryI.keep (F : AryI Z h a ty A) (K : Keep h h' ws) (q : a ∉ ws) : AryI Z h' a ty A := by obtain ⟨k, z, V, r⟩ := F; exact ⟨k, z, V.keep K q, r⟩
theorem AryJ.lt (F : AryJ Z h a J) : a < h.size := by obtain ⟨k, z, V, -⟩ := F; exact V.lt
theorem AryJ.ext (F : AryJ Z h a J) (E : Ext h h') : AryJ Z h' a J := by obtain ⟨k, z, V, q⟩ := F; exact ⟨k, z, V.ext E, q⟩
theorem AryJ.other (F : AryJ Z h b J) (W : Wr h h' a sl v) (q : b ≠ a) : AryJ Z h' b J := by obtain ⟨k, z, V, r⟩ := F; exact ⟨k, z, V.other W q, r⟩
theorem AryJ.keep (F : AryJ Z h a J) (K : Keep h h' ws) (q : a ∉ ws) : AryJ Z h' a J := by obtain ⟨k, z, V, r⟩ := F; exact ⟨k, z, V.keep K q, r⟩
theorem own_getI (A : List Int32) (n : Nat) : (A.map Value.int).getD n (.int 0) = .int (A.getD n 0) := by
  simp only [List.getD_eq_getElem?_getD, List.getElem?_map]; cases A[n]? <;> rfl
theorem own_getJ (A : List Int64) (n : Nat) : (A.map Value.long).getD n (.long 0) = .long (A.getD n 0) := by
  simp only [List.getD_eq_getElem?_getD, List.getElem?_map]; cases A[n]? <;> rfl
theorem own_fin {α : Type} {w r : α} {P : α → Prop} (e : some w = some r) (h : P w) : P r := Option.some.inj e ▸ h
theorem Go.baload (X : Stand p l e R s m args below meth c T locs cells slots) (hx : p.tables.exec = Jvm.exec) (hby : c.code = code) (hZ : Z.Warmed39 s.vm) (eT : T.heap = h) (F : AryI Z h a .byte A) {j : Int32} (hj : inA A j) (hd : decode code pc = .ok (.baload, 1)) (hpc : pc + 1 = pc') (K : Go p e below s mc ms Q m T pc' Ls (.int (atA A j) :: st)) : Go p e below s mc ms Q m T pc Ls (.int j :: .ref a :: st) := by
  subst hpc
  obtain ⟨k, z, ⟨cl, Ar, q1, S, q3, H, -⟩, r⟩ := F
  have hin : ¬ (j < 0 ∨ cl.slots.size ≤ j.toNatClampNeg) := by rw [S, r]; exact hj
  have hv : cl.slots[j.toNatClampNeg]? = some (.int (atA A j)) := by rw [H _ (Nat.lt_of_not_le fun y => hin (Or.inr y)), own_getI]; rfl
  exact K.of fun t kk => X.baloadBytes hx (by rw [eT]; exact Ar.1) (State.isArrayOf_alike hZ.alike Ar.2.1) Ar.2.2 hin hv (g := mkF m pc Ls (.int j :: .ref a :: st)) rfl rfl (hb hby hd) t kk
theorem Go.caload (X : Stand p l e R s m args below meth c T locs cells slots) (hx : p.tables.exec = Jvm.exec) (hby : c.code = code) (hZ : Z.Warmed39 s.vm) (eT : T.heap = h) (F : AryI Z h a .char A) {j : Int32} (hj : inA A j) (hd : decode code pc = .ok (.caload, 1)) (hpc : pc + 1 = pc') (K : Go p e below s mc ms Q m T pc' Ls (.int (atA A j) :: st)) : Go p e below s mc ms Q m T pc Ls (.int j :: .ref a :: st) := by
  subst hpc
  obtain ⟨k, z, ⟨cl, Ar, q1, S, q3, H, -⟩, r⟩ := F
  have hin : ¬ (j < 0 ∨ cl.slots.size ≤ j.toNatClampNeg) := by rw [S, r]; exact hj
  have hv : cl.slots[j.toNatClampNeg]? = some (.int (atA A j)) := by rw [H _ (Nat.lt_of_not_le fun y => hin (Or.inr y)), own_getI]; rfl
  exact K.of fun t kk => X.caload hx (by rw [eT]; exact Ar.1) (State.isArrayOf_alike hZ.alike Ar.2.1) Ar.2.2 hin hv (g := mkF m pc Ls (.int j :: .ref a :: st)) rfl rfl (hb hby hd) t kk
theorem Go.iaload (X : Stand p l e R s m args below meth c T locs cells slots) (hx : p.tables.exec = Jvm.exec) (hby : c.code = code) (hZ : Z.Warmed39 s.vm) (eT : T.heap = h) (F : AryI Z h a .int A) {j : Int32} (hj : inA A j) (hd : decode code pc = .ok (.iaload, 1)) (hpc : pc + 1 = pc') (K : Go p e below s mc ms Q m T pc' Ls (.int (atA A j) :: st)) : Go p e below s mc ms Q m T pc Ls (.int j :: .ref a :: st) := by
  subst hpc
  obtain ⟨k, z, ⟨cl, Ar, q1, S, q3, H, -⟩, r⟩ := F
  have hin : ¬ (j < 0 ∨ cl.slots.size ≤ j.toNatClampNeg) := by rw [S, r]; exact hj
  have hv : cl.slots[j.toNatClampNeg]? = some (.int (atA A j)) := by rw [H _ (Nat.lt_of_not_le fun y => hin (Or.inr y)), own_getI]; rfl
  exact K.of fun t kk => X.iaload hx (by rw [eT]; exact Ar.1) (State.isArrayOf_alike hZ.alike Ar.2.1) Ar.2.2 hin hv (g := mkF m pc Ls (.int j :: .ref a :: st)) rfl rfl (hb hby hd) t kk
theorem Go.laload (X : Stand p l e R s m args below meth c T locs cells slots) (hx : p.tables.exec = Jvm.exec) (hby : c.code = code) (hZ : Z.Warmed39 s.vm) (eT : T.heap = h) (F : AryJ Z h a J) {j : Int32} (hj : inA J j) (hd : decode code pc = .ok (.laload, 1)) (hpc : pc + 1 = pc') (K : Go p e below s mc ms Q m T pc' Ls (.long (atA J j) :: st)) : Go p e below s mc ms Q m T pc Ls (.int j :: .ref a :: st) := by
  subst hpc
  obtain ⟨k, z, ⟨cl, Ar, q1, S, q3, H, -⟩, r⟩ := F
  have hin : ¬ (j < 0 ∨ cl.slots.size ≤ j.toNatClampNeg) := by rw [S, r]; exact hj
  have hv : cl.slots[j.toNatClampNeg]? = some (.long (atA J j)) := by rw [H _ (Nat.lt_of_not_le fun y => hin (Or.inr y)), own_getJ]; rfl
  exact K.of fun t kk => X.laload hx (by rw [eT]; exact Ar.1) (State.isArrayOf_alike hZ.alike Ar.2.1) Ar.2.2 hin hv (g := mkF m pc Ls (.int j :: .ref a :: st)) rfl rfl (hb hby hd) t kk
theorem Go.alen (X : Stand p l e R s m args below meth c T locs cells slots) (hx : p.tables.exec = Jvm.exec) (hby : c.code = code) (hZ : Z.Warmed39 s.vm) (eT : T.heap = h) (F : AryI Z h a ty A) (hd : decode code pc = .ok (.arraylength, 1)) (hpc : pc + 1 = pc') (K : Go p e below s mc ms Q m T pc' Ls (.int (lenA A) :: st)) : Go p e below s mc ms Q m T pc Ls (.ref a :: st) := by
  subst hpc
  obtain ⟨k, z, ⟨cl, Ar, q1, S, q3, H, -⟩, r⟩ := F
  have e2 : cl.slots.size.toInt32 = lenA A := by rw [S, r]; rfl
  exact K.of fun t kk => X.arraylength hx (by rw [eT]; exact Ar.1) (State.isArrayOf_alike hZ.alike Ar.2.1) (g := mkF m pc Ls (.ref a :: st)) rfl rfl (hb hby hd) t (by rw [e2]; exact kk)
theorem Go.alenJ (X : Stand p l e R s m args below meth c T locs cells slots) (hx : p.tables.exec = Jvm.exec) (hby : c.code = code) (hZ : Z.Warmed39 s.vm) (eT : T.heap = h) (F : AryJ Z h a J) (hd : decode code pc = .ok (.arraylength, 1)) (hpc : pc + 1 = pc') (K : Go p e below s mc ms Q m T pc' Ls (.int (lenA J) :: st)) : Go p e below s mc ms Q m T pc Ls (.ref a :: st) := by
  subst hpc
  obtain ⟨k, z, ⟨cl, Ar, q1, S, q3, H, -⟩, r⟩ := F
  have e2 : cl.slots.size.toInt32 = lenA J := by rw [S, r]; rfl
  exact K.of fun t kk => X.arraylength hx (by rw [eT]; exact Ar.1) (State.isArrayOf_alike hZ.alike Ar.2.1) (g := mkF m pc Ls (.ref a :: st)) rfl rfl (hb hby hd) t (by rw [e2]; exact kk)
theorem Go.bastore (X : Stand p l e R s m args below meth c T locs cells slots) (hx : p.tables.exec = Jvm.exec) (hby : c.code = code) (hZ : Z.Warmed39 s.vm) (eT : T.heap = h) (F : AryI Z h a .byte A) {j x : Int32} (hj : inA A j) (hd : decode code pc = .ok (.bastore, 1)) (hpc : pc + 1 = pc') (K : ∀ T' h', Stand p l e R s m args below meth c T' (locs ++ [⟨a, j.toNatClampNeg⟩]) cells slots → T'.heap = h' → Wr h h' a j.toNatClampNeg (.int (i2bF x)) → AryI Z h' a .byte (setA A j (i2bF x)) → Go p e below s mc ms Q m T' pc' Ls st) : Go p e below s mc ms Q m T pc Ls (.int x :: .int j :: .ref a :: st) := by
  subst hpc
  obtain ⟨k, z, ⟨cl, Ar, q1, S, q3, H, H2⟩, r⟩ := F
  have hin : ¬ (j < 0 ∨ cl.slots.size ≤ j.toNatClampNeg) := by rw [S, r]; exact hj
  obtain ⟨T', h', X', e', W, stp⟩ := stB X hx hZ eT Ar hin (g := mkF m pc Ls (.int x :: .int j :: .ref a :: st)) rfl rfl (hb hby hd)
  have V := Arv.set (v := .int (i2bF x)) Ar q1 S q3 H H2 (fits_nar_byte x) W j.toNatClampNeg rfl (by rw [List.length_map]; exact Nat.lt_of_not_le fun y => hj (Or.inr y))
  exact (K T' h' X' e' W ⟨k, z, by rw [setA, List.map_set]; exact V, by rw [setA, List.length_set]; exact r⟩).of stp
theorem Go.castore (X : Stand p l e R s m args below meth c T locs cells slots) (hx : p.tables.exec = Jvm.exec) (hby : c.code = code) (hZ : Z.Warmed39 s.vm) (eT : T.heap = h) (F : AryI Z h a .char A) {j x : Int32} (hj : inA A j) (hd : decode code pc = .ok (.castore, 1)) (hpc : pc + 1 = pc') (K : ∀ T' h', Stand p l e R s m args below meth c T' (locs ++ [⟨a, j.toNatClampNeg⟩]) cells slots → T'.heap = h' → Wr h h' a j.toNatClampNeg (.int (i2cF x)) → AryI Z h' a .char (setA A j (i2cF x)) → Go p e below s mc ms Q m T' pc' Ls st) : Go p e below s mc ms Q m T pc Ls (.int x :: .int j :: .ref a :: st) := by
  subst hpc
  obtain ⟨k, z, ⟨cl, Ar, q1, S, q3, H, H2⟩, r⟩ := F
  have hin : ¬ (j < 0 ∨ cl.slots.size ≤ j.toNatClampNeg) := by rw [S, r]; exact hj
  obtain ⟨T', h', X', e', W, stp⟩ := stC X hx hZ eT Ar hin (g := mkF m pc Ls (.int x :: .int j :: .ref a :: st)) rfl rfl (hb hby hd)
  have V := Arv.set (v := .int (i2cF x)) Ar q1 S q3 H H2 (fits_nar_char x) W j.toNatClampNeg rfl (by rw [List.length_map]; exact Nat.lt_of_not_le fun y => hj (Or.inr y))
  exact (K T' h' X' e' W ⟨k, z, by rw [setA, List.map_set]; exact V, by rw [setA, List.length_set]; exact r⟩).of stp
theorem Go.iastore (X : Stand p l e R s m args below meth c T locs cells slots) (hx : p.tables.exec = Jvm.exec) (hby : c.code = code) (hZ : Z.Warmed39 s.vm) (eT : T.heap = h) (F : AryI Z h a .int A) {j x : Int32} (hj : inA A j) (hd : decode code pc = .ok (.iastore, 1)) (hpc : pc + 1 = pc') (K : ∀ T' h', Stand p l e R s m args below meth c T' (locs ++ [⟨a, j.toNatClampNeg⟩]) cells slots → T'.heap = h' → Wr h h' a j.toNatClampNeg (.int x) → AryI Z h' a .int (setA A j x) → Go p e below s mc ms Q m T' pc' Ls st) : Go p e below s mc ms Q m T pc Ls (.int x :: .int j :: .ref a :: st) := by
  subst hpc
  obtain ⟨k, z, ⟨cl, Ar, q1, S, q3, H, H2⟩, r⟩ := F
  have hin : ¬ (j < 0 ∨ cl.slots.size ≤ j.toNatClampNeg) := by rw [S, r]; exact hj
  obtain ⟨T', h', X', e', W, stp⟩ := stI X hx hZ eT Ar hin (g := mkF m pc Ls (.int x :: .int j :: .ref a :: st)) rfl rfl (hb hby hd)
  have V := Arv.set (v := .int x) Ar q1 S q3 H H2 rfl W j.toNatClampNeg rfl (by rw [List.length_map]; exact Nat.lt_of_not_le fun y => hj (Or.inr y))
  exact (K T' h' X' e' W ⟨k, z, by rw [setA, List.map_set]; exact V, by rw [setA, List.length_set]; exact r⟩).of stp
theorem Go.lastore (X : Stand p l e R s m args below meth c T locs cells slots) (hx : p.tables.exec = Jvm.exec) (hby : c.code = code) (hZ : Z.Warmed39 s.vm) (eT : T.heap = h) (F : AryJ Z h a J) {j : Int32} {x : Int64} (hj : inA J j) (hd : decode code pc = .ok (.lastore, 1)) (hpc : pc + 1 = pc') (K : ∀ T' h', Stand p l e R s m args below meth c T' (locs ++ [⟨a, j.toNatClampNeg⟩]) cells slots → T'.heap = h' → Wr h h' a j.toNatClampNeg (.long x) → AryJ Z h' a (setA J j x) → Go p e below s mc ms Q m T' pc' Ls st) : Go p e below s mc ms Q m T pc Ls (.long x :: .int j :: .ref a :: st) := by
  subst hpc
  obtain ⟨k, z, ⟨cl, Ar, q1, S, q3, H, H2⟩, r⟩ := F
  have hin : ¬ (j < 0 ∨ cl.slots.size ≤ j.toNatClampNeg) := by rw [S, r]; exact hj
  obtain ⟨T', h', X', e', W, stp⟩ := stJ X hx hZ eT Ar hin (g := mkF m pc Ls (.long x :: .int j :: .ref a :: st)) rfl rfl (hb hby hd)
  have V := Arv.set (v := .long x) Ar q1 S q3 H H2 rfl W j.toNatClampNeg rfl (by rw [List.length_map]; exact Nat.lt_of_not_le fun y => hj (Or.inr y))
  exact (K T' h' X' e' W ⟨k, z, by rw [setA, List.map_set]; exact V, by rw [setA, List.length_set]; exact r⟩).of stp
theorem Go.newA (X : Stand p l e R s m args below meth c T locs cells slots) (hx : p.tables.exec = Jvm.exec) (hby : c.code = code) (hZ : Z.Warmed39 s.vm) {nn : Nat} {n : Int32} {aty : ArrayType} (w : (Cond.arrayClass ty).before a0 Z = true) (eT : T.heap = h) (hd : decode code pc = .ok (.newarray aty, 2)) (hpc : pc + 2 = pc') (ht : newarray.typeOf aty = ty) (hv : defaultValue ty = .int 0) (hn : n.toNatClampNeg = nn) (hn0 : ¬ n < 0) (hcap : nn * 8 ≤ 536870912) (hc : cells + 1 ≤ R.cells) (hsl : slots + nn ≤ R.slots)
    (K : ∀ T' h' (a : Addr), Stand p l e R s m args below meth c T' locs (cells + 1) (slots + nn) → T'.heap = h' → Ext h h' → h.size ≤ a → AryI Z h' a ty (List.replicate nn 0) → Go p e below s mc ms Q m T' pc' Ls (.ref a :: st)) : Go p e below s mc ms Q m T pc Ls (.int n :: st) := by
  subst hpc ht
  obtain ⟨T', h', cA, X', e', E, Ar, stp⟩ := newP X hx hZ w eT (g := mkF m pc Ls (.int n :: st)) rfl (hb hby hd) rfl hn0 (cap := nn) (Nat.le_of_eq hn) hcap hc hsl
  have V := Arv.new Ar hn0
  rw [hv] at V
  have V2 := Arv.pad V (vs' := (List.replicate nn (0 : Int32)).map Value.int) (fun i => by rw [List.map_replicate]; exact pad_rep [] (.int 0) nn i)
  exact (K T' h' h.size X' e' E (Nat.le_refl _) ⟨cA, n, V2, by rw [hn, List.length_replicate]⟩).of stp
theorem Go.newAJ (X : Stand p l e R s m args below meth c T locs cells slots) (hx : p.tables.exec = Jvm.exec) (hby : c.code = code) (hZ : Z.Warmed39 s.vm) {nn : Nat} {n : Int32} (w : (Cond.arrayClass .long).before a0 Z = true) (eT : T.heap = h) (hd : decode code pc = .ok (.newarray .long, 2)) (hpc : pc + 2 = pc') (hn : n.toNatClampNeg = nn) (hn0 : ¬ n < 0) (hcap : nn * 8 ≤ 536870912) (hc : cells + 1 ≤ R.cells) (hsl : slots + nn ≤ R.slots)
    (K : ∀ T' h' (a : Addr), Stand p l e R s m args below meth c T' locs (cells + 1) (slots + nn) → T'.heap = h' → Ext h h' → h.size ≤ a → AryJ Z h' a (List.replicate nn 0) → Go p e below s mc ms Q m T' pc' Ls (.ref a :: st)) : Go p e below s mc ms Q m T pc Ls (.int n :: st) := by
  subst hpc
  obtain ⟨T', h', cA, X', e', E, Ar, stp⟩ := newP (aty := .long) X hx hZ w eT (g := mkF m pc Ls (.int n :: st)) rfl (hb hby hd) rfl hn0 (cap := nn) (Nat.le_of_eq hn) hcap hc hsl
  have V : Arv Z h' h.size cA .long n [] (.long 0) := Arv.new Ar hn0
  have V2 := Arv.pad V (vs' := (List.replicate nn (0 : Int64)).map Value.long) (fun i => by rw [List.map_replicate]; exact pad_rep [] (.long 0) nn i)
  exact (K T' h' h.size X' e' E (Nat.le_refl _) ⟨cA, n, V2, by rw [hn, List.length_replicate]⟩).of stp
theorem Go.ifnullNo (X : Stand p l e R s m args below meth c T locs cells slots) (hx : p.tables.exec = Jvm.exec) (hby : c.code = code) {o : Int} (hd : decode code pc = .ok (.ifnull o, 3)) (hpc : pc + 3 = pc') (K : Go p e below s mc ms Q m T pc' Ls st) : Go p e below s mc ms Q m T pc Ls (.ref a :: st) := by
  subst hpc; exact K.of fun _ kk => XS.ifnullNo (g := mkF m pc Ls (.ref a :: st)) X.here hx rfl (hb hby hd) rfl kk
theorem Go.acmpNe (X : Stand p l e R s m args below meth c T locs cells slots) (hx : p.tables.exec = Jvm.exec) (hby : c.code = code) {o : Int} (hd : decode code pc = .ok (.if_acmp .eq o, 3)) (hpc : pc + 3 = pc') (hne : a ≠ b) (K : Go p e below s mc ms Q m T pc' Ls st) : Go p e below s mc ms Q m T pc Ls (.ref b :: .ref a :: st) := by
  subst hpc; exact K.of fun _ kk => XT.acmpNo (g := mkF m pc Ls (.ref b :: .ref a :: st)) X.here hx rfl (hb hby hd) rfl rfl rfl (XT.aa_eq_f fun q => hne (Value.ref.inj q)) kk
theorem Go.getF (X : Stand p l e R s m args below meth c T locs cells slots) (hx : p.tables.exec = Jvm.exec) (hby : c.code = code) (hZ : Z.Warmed39 s.vm) {own O n d : String} {k : Nat} {v : Value} (hown : s.vm.findClass own = some m.cls) (w : (Cond.fieldLink own k O n d).before a0 Z = true) (eT : T.heap = h) (F : Fld Z h a O n d v) (hd : decode code pc = .ok (.getfield k, 3)) (hpc : pc + 3 = pc') (K : ∀ T', Stand p l e R s m args below meth c T' locs cells slots → T'.heap = h → Go p e below s mc ms Q m T' pc' Ls (v :: st)) : Go p e below s mc ms Q m T pc Ls (.ref a :: st) := by
  subst hpc
  obtain ⟨T', X', e', stp⟩ := getF X hx hZ hown (host := "") (Or.inl w) Via.refl eT F (g := mkF m pc Ls (.ref a :: st)) rfl rfl (hb hby hd)
  exact (K T' X' e').of stp
theorem Go.putF (X : Stand p l e R s m args below meth c T locs cells slots) (hx : p.tables.exec = Jvm.exec) (hby : c.code = code) (hZ : Z.Warmed39 s.vm) {own O n d C : String} {k kk : Nat} {ty : FieldType} {v old : Value} (hown : s.vm.findClass own = some m.cls) (w : (Cond.fieldLink own k O n d).before a0 Z = true) (eT : T.heap = h) (F : Fld Z h a O n d old) (E : Exa Z h a C) (L : (Cond.lays C O n d).before a0 Z = true ∨ ((Cond.laysFinal C O n d).before a0 Z = true ∧ own = O ∧ meth.name = "<init>")) (wi : (Cond.instantiable C kk).before a0 Z = true)
    (hty : parseFieldDescriptor d = some ty) (hn : narrow ty v = v) (hf : fits ty v = true) (hd : decode code pc = .ok (.putfield k, 3)) (hpc : pc + 3 = pc') (K : ∀ T' h', Stand p l e R s m args below meth c T' (locs ++ [⟨a, RoadKit.slotOf Z O n d⟩]) cells slots → T'.heap = h' → Wr h h' a (RoadKit.slotOf Z O n d) v → Go p e below s mc ms Q m T' pc' Ls st) : Go p e below s mc ms Q m T pc Ls (v :: .ref a :: st) := by
  subst hpc
  obtain ⟨T', h', X', e', W, stp⟩ := putF X hx hZ hown (host := "") (Or.inl w) Via.refl eT F E L wi hty hn hf (g := mkF m pc Ls (v :: .ref a :: st)) rfl rfl (hb hby hd)
  exact (K T' h' X' e' W).of stp
theorem Go.newO (X : Stand p l e R s m args below meth c T locs cells slots) (hx : p.tables.exec = Jvm.exec) (hby : c.code = code) (hZ : Z.Warmed39 s.vm) {own C : String} {k n : Nat} (hown : s.vm.findClass own = some m.cls) (w : (Cond.classLink own k C).before a0 Z = true) (wi : (Cond.instantiable C n).before a0 Z = true) (wz : (Cond.initialized C).before a0 Z = true) (eT : T.heap = h) (hd : decode code pc = .ok (.new k, 3)) (hpc : pc + 3 = pc') (hc : cells + 1 ≤ R.cells) (hsl : slots + n ≤ R.slots)
    (K : ∀ T' h' (a : Addr), Stand p l e R s m args below meth c T' locs (cells + 1) (slots + n) → T'.heap = h' → Ext h h' → h.size ≤ a → Exa Z h' a C → (∀ {O nm d : String} {ty : FieldType}, Laid Z a0 C O nm d → parseFieldDescriptor d = some ty → Fld Z h' a O nm d (defaultValue ty)) → Go p e below s mc ms Q m T' pc' Ls (.ref a :: st)) : Go p e below s mc ms Q m T pc Ls st := by
  subst hpc
  obtain ⟨T', h', X', e', E, A, D, -, stp⟩ := newO X hx hZ hown w wi wz eT (g := mkF m pc Ls st) rfl (hb hby hd) hc hsl
  exact (K T' h' h.size X' e' E (Nat.le_refl _) A D).of stp
theorem Go.callV (X : Stand p l e R s m args below meth c T locs cells slots) (hx : p.tables.exec = Jvm.exec) (hby : c.code = code) (hZ : Z.Warmed39 s.vm) (hml : Ls.size = c.maxLocals) {own : String} {k : Nat} {y : MethodName} {bytes : ByteArray} {maxL : Nat} {ret : Option FieldType} {rm : Room} {W : Nat} {as' : Array Value} {C : String} {QY : Option Value → Heap → List Loc → Prop} (hown : s.vm.findClass own = some m.cls) (w1 : (Cond.methodLink own k y).before a0 Z = true) (w2 : (Cond.declares y).before a0 Z = true) (w3 : (Cond.selects C y y).before a0 Z = true) (w4 : (Cond.instanceMethod y).before a0 Z = true) (w5 : (Cond.initialized y.cls).before a0 Z = true) (w6 : (Cond.code y bytes maxL ret).before a0 Z = true) (E : Exa Z h a C) (hy : y.cls ≠ "java/lang/invoke/MethodHandle" ∧ y.cls ≠ "java/lang/invoke/VarHandle") (hM : MetFree l y (head1 [Cond.code y bytes maxL ret] rm) (fun a U => a = as' ∧ Z.Warmed39 U.vm ∧ U.heap = h) (fun _ _ _ _ _ => True) (fun _ U o U' => ∃ v L, o = .returned v ∧ QY v U'.heap L ∧ FrameEnd U o U' L rm.cells rm.slots))
    (hf : rm.frames + 1 ≤ R.frames) (hl : W + (maxL + 11) + rm.locals ≤ R.locals) (eT : T.heap = h) {argsL rest : List Value} {sig : MethodDescriptor} (hsig : parseMethodDescriptor y.desc = some sig) (hlen : argsL.length = sig.parameters.length) (has : (Value.ref a :: argsL).toArray = as') (hst : st = argsL.reverse ++ .ref a :: rest) (hW : (rest.map fun v => v.category).sum ≤ W) (hc : cells + rm.cells ≤ R.cells) (hsl : slots + rm.slots ≤ R.slots) (hd : decode code pc = .ok (.invokevirtual k, 3)) (hpc : pc + 3 = pc')
    (K : ∀ v T' L, Stand p l e R s m args below meth c T' (locs ++ L) (cells + rm.cells) (slots + rm.slots) → QY v T'.heap L → Go p e below s mc ms Q m T' pc' Ls (v.toList ++ rest)) : Go p e below s mc ms Q m T pc Ls st := by
  subst hpc hst has
  obtain ⟨cq, kq, qa, qb, qc⟩ := isOf hZ eT E
  obtain ⟨v, vm₁, B, -, X', ⟨L, hQ, l1, l2, l3⟩, stp⟩ := X.virtualBack hx hown (mvT hZ w1) (mvT hZ w2) (notFace_of_selects (args := #[]) (mvT hZ w3)) (mvT hZ w3) (mvT hZ w4) hy (backOf (W := W) hM hZ w6 w5 hf hl) qa qc (g := mkF m pc Ls (argsL.reverse ++ .ref a :: rest)) rfl hml (Steps.refl _) (argsL := argsL) (rest := rest) (lenOf hsig hlen) rfl (by show 2 * 0 + _ ≤ _; omega) (hb hby hd) (fun _ _ => ⟨rfl, eT, hc, hsl⟩)
  rw [l1, l2, l3] at X'
  exact (K v B.U L X' hQ).of fun _ k => stp.trans k
theorem Go.callVP (X : Stand p l e R s m args below meth c T locs cells slots) (hx : p.tables.exec = Jvm.exec) (hby : c.code = code) (hZ : Z.Warmed39 s.vm) (hml : Ls.size = c.maxLocals) {own : String} {k : Nat} {y : MethodName} {bytes : ByteArray} {maxL : Nat} {ret : Option FieldType} {rm : Room} {W : Nat} {as' : Array Value} {C : String} {r : Value} (hown : s.vm.findClass own = some m.cls) (w1 : (Cond.methodLink own k y).before a0 Z = true) (w2 : (Cond.declares y).before a0 Z = true) (w3 : (Cond.selects C y y).before a0 Z = true) (w4 : (Cond.instanceMethod y).before a0 Z = true) (w5 : (Cond.initialized y.cls).before a0 Z = true) (w6 : (Cond.code y bytes maxL ret).before a0 Z = true) (E : Exa Z h a C) (hy : y.cls ≠ "java/lang/invoke/MethodHandle" ∧ y.cls ≠ "java/lang/invoke/VarHandle") (hM : MetFree l y (head1 [Cond.code y bytes maxL ret] rm) (fun a U => a = as' ∧ Z.Warmed39 U.vm ∧ U.heap = h) (fun _ _ _ _ _ => True) (fun _ U o U' => ∃ v L, o = .returned v ∧ PQ h (some r) v U'.heap L ∧ FrameEnd U o U' L rm.cells rm.slots))
    (hf : rm.frames + 1 ≤ R.frames) (hl : W + (maxL + 11) + rm.locals ≤ R.locals) (eT : T.heap = h) {argsL rest : List Value} {sig : MethodDescriptor} (hsig : parseMethodDescriptor y.desc = some sig) (hlen : argsL.length = sig.parameters.length) (has : (Value.ref a :: argsL).toArray = as') (hst : st = argsL.reverse ++ .ref a :: rest) (hW : (rest.map fun v => v.category).sum ≤ W) (r1 : rm.cells = 0) (r2 : rm.slots = 0) (hc : cells ≤ R.cells) (hsl : slots ≤ R.slots) (hd : decode code pc = .ok (.invokevirtual k, 3)) (hpc : pc + 3 = pc')
    (K : ∀ T', Stand p l e R s m args below meth c T' locs cells slots → T'.heap = h → Go p e below s mc ms Q m T' pc' Ls (r :: rest)) : Go p e below s mc ms Q m T pc Ls st := by
  refine Go.callV X hx hby hZ hml hown w1 w2 w3 w4 w5 w6 E hy hM hf hl eT hsig hlen has hst hW (by rw [r1]; exact hc) (by rw [r2]; exact hsl) hd hpc (fun v T' L X' hQ => ?_)
  obtain ⟨rfl, rfl, e1⟩ := hQ
  rw [List.append_nil, r1, r2] at X'
  exact K T' X' e1
theorem Go.callC (X : Stand p l e R s m args below meth c T locs cells slots) (hx : p.tables.exec = Jvm.exec) (hby : c.code = code) (hZ : Z.Warmed39 s.vm) (hml : Ls.size = c.maxLocals) {own : String} {k : Nat} {y : MethodName} {bytes : ByteArray} {maxL : Nat} {rm : Room} {W : Nat} {as' : Array Value} {QY : Option Value → Heap → List Loc → Prop} (hown : s.vm.findClass own = some m.cls) (w1 : (Cond.methodLink own k y).before a0 Z = true) (w4 : (Cond.instanceMethod y).before a0 Z = true) (w5 : (Cond.initialized y.cls).before a0 Z = true) (w6 : (Cond.code y bytes maxL none).before a0 Z = true) (hy : y.cls ≠ "java/lang/invoke/MethodHandle" ∧ y.cls ≠ "java/lang/invoke/VarHandle") (hi : y.name = "<init>") (hM : MetFree l y (head1 [Cond.code y bytes maxL none] rm) (fun a U => a = as' ∧ Z.Warmed39 U.vm ∧ U.heap = h) (fun _ _ _ _ _ => True) (fun _ U o U' => ∃ v L, o = .returned v ∧ QY v U'.heap L ∧ FrameEnd U o U' L rm.cells rm.slots))
    (hf : rm.frames + 1 ≤ R.frames) (hl : W + (maxL + 11) + rm.locals ≤ R.locals) (eT : T.heap = h) {argsL rest : List Value} {sig : MethodDescriptor} (hsig : parseMethodDescriptor y.desc = some sig) (hlen : argsL.length = sig.parameters.length) (has : (Value.ref a :: argsL).toArray = as') (hst : st = argsL.reverse ++ .ref a :: rest) (hW : (rest.map fun v => v.category).sum ≤ W) (hc : cells + rm.cells ≤ R.cells) (hsl : slots + rm.slots ≤ R.slots) (hd : decode code pc = .ok (.invokespecial k, 3)) (hpc : pc + 3 = pc')
    (K : ∀ v T' L, Stand p l e R s m args below meth c T' (locs ++ L) (cells + rm.cells) (slots + rm.slots) → QY v T'.heap L → Go p e below s mc ms Q m T' pc' Ls (v.toList ++ rest)) : Go p e below s mc ms Q m T pc Ls st := by
  subst hpc hst has
  obtain ⟨v, vm₁, B, -, X', ⟨L, hQ, l1, l2, l3⟩, stp⟩ := X.specialBack hx hi hown (mvT hZ w1) (mvT hZ w4) (mvT hZ w6) hy (backOf (W := W) hM hZ w6 w5 hf hl) (g := mkF m pc Ls (argsL.reverse ++ .ref a :: rest)) rfl hml (Steps.refl _) (argsL := argsL) (rest := rest) (lenOf hsig hlen) rfl (by show 2 * 0 + _ ≤ _; omega) (hb hby hd) (fun _ _ => ⟨rfl, eT, hc, hsl⟩)
  rw [l1, l2, l3] at X'
  exact (K v B.U L X' hQ).of fun _ k => stp.trans k
end Heaps

-- body 1
def f1_179 (x0 : Int32) : Option (Int32) := if x0 < (65536 : Int32) then some (0 : Int32) else if (983039 : Int32) < x0 then some (0 : Int32) else some (1 : Int32)
def f1_167 (x0 : Int32) : Option (Int32) := if x0 < (65008 : Int32) then f1_179 x0 else if (65533 : Int32) < x0 then f1_179 x0 else some (1 : Int32)
def f1_155 (x0 : Int32) : Option (Int32) := if x0 < (63744 : Int32) then f1_167 x0 else if (64975 : Int32) < x0 then f1_167 x0 else some (1 : Int32)
def f1_142 (x0 : Int32) : Option (Int32) := if x0 < (12289 : Int32) then f1_155 x0 else if (55295 : Int32) < x0 then f1_155 x0 else some (1 : Int32)
def f1_128 (x0 : Int32) : Option (Int32) := if x0 < (11264 : Int32) then f1_142 x0 else if (12271 : Int32) < x0 then f1_142 x0 else some (1 : Int32)
def f1_114 (x0 : Int32) : Option (Int32) := if x0 < (8304 : Int32) then f1_128 x0 else if (8591 : Int32) < x0 then f1_128 x0 else some (1 : Int32)
def f1_100 (x0 : Int32) : Option (Int32) := if x0 < (8204 : Int32) then f1_114 x0 else if (8205 : Int32) < x0 then f1_114 x0 else some (1 : Int32)
def f1_86 (x0 : Int32) : Option (Int32) := if x0 < (895 : Int32) then f1_100 x0 else if (8191 : Int32) < x0 then f1_100 x0 else some (1 : Int32)
def f1_72 (x0 : Int32) : Option (Int32) := if x0 < (880 : Int32) then f1_86 x0 else if (893 : Int32) < x0 then f1_86 x0 else some (1 : Int32)
def f1_58 (x0 : Int32) : Option (Int32) := if x0 < (248 : Int32) then f1_72 x0 else if (767 : Int32) < x0 then f1_72 x0 else some (1 : Int32)
def f1_44 (x0 : Int32) : Option (Int32) := if x0 < (216 : Int32) then f1_58 x0 else if (246 : Int32) < x0 then f1_58 x0 else some (1 : Int32)
def f1_24 (x0 : Int32) : Option (Int32) := if x0 = (95 : Int32) then some (1 : Int32) else if x0 < (192 : Int32) then f1_44 x0 else if (214 : Int32) < x0 then f1_44 x0 else some (1 : Int32)
def f1_12 (x0 : Int32) : Option (Int32) := if x0 < (65 : Int32) then f1_24 x0 else if (90 : Int32) < x0 then f1_24 x0 else some (1 : Int32)
def f1_0 (x0 : Int32) : Option (Int32) := if x0 < (97 : Int32) then f1_12 x0 else if (122 : Int32) < x0 then f1_12 x0 else some (1 : Int32)
theorem d1_0 : decode prog_199_method_2_code 0 = .ok (.iload_n 0, 1) := by decide +kernel
theorem d1_1 : decode prog_199_method_2_code 1 = .ok (.bipush 97, 2) := by decide +kernel
theorem d1_3 : decode prog_199_method_2_code 3 = .ok (.if_icmp .lt 9, 3) := by decide +kernel
theorem d1_6 : decode prog_199_method_2_code 6 = .ok (.iload_n 0, 1) := by decide +kernel
theorem d1_7 : decode prog_199_method_2_code 7 = .ok (.bipush 122, 2) := by decide +kernel
theorem d1_9 : decode prog_199_method_2_code 9 = .ok (.if_icmp .le 182, 3) := by decide +kernel
theorem d1_12 : decode prog_199_method_2_code 12 = .ok (.iload_n 0, 1) := by decide +kernel
theorem d1_13 : decode prog_199_method_2_code 13 = .ok (.bipush 65, 2) := by decide +kernel
theorem d1_15 : decode prog_199_method_2_code 15 = .ok (.if_icmp .lt 9, 3) := by decide +kernel
theorem d1_18 : decode prog_199_method_2_code 18 = .ok (.iload_n 0, 1) := by decide +kernel
theorem d1_19 : decode prog_199_method_2_code 19 = .ok (.bipush 90, 2) := by decide +kernel
theorem d1_21 : decode prog_199_method_2_code 21 = .ok (.if_icmp .le 170, 3) := by decide +kernel
theorem d1_24 : decode prog_199_method_2_code 24 = .ok (.iload_n 0, 1) := by decide +kernel
theorem d1_25 : decode prog_199_method_2_code 25 = .ok (.bipush 95, 2) := by decide +kernel
theorem d1_27 : decode prog_199_method_2_code 27 = .ok (.if_icmp .eq 164, 3) := by decide +kernel
theorem d1_30 : decode prog_199_method_2_code 30 = .ok (.iload_n 0, 1) := by decide +kernel
theorem d1_31 : decode prog_199_method_2_code 31 = .ok (.sipush 192, 3) := by decide +kernel
theorem d1_34 : decode prog_199_method_2_code 34 = .ok (.if_icmp .lt 10, 3) := by decide +kernel
theorem d1_37 : decode prog_199_method_2_code 37 = .ok (.iload_n 0, 1) := by decide +kernel
theorem d1_38 : decode prog_199_method_2_code 38 = .ok (.sipush 214, 3) := by decide +kernel
theorem d1_41 : decode prog_199_method_2_code 41 = .ok (.if_icmp .le 150, 3) := by decide +kernel
theorem d1_44 : decode prog_199_method_2_code 44 = .ok (.iload_n 0, 1) := by decide +kernel
theorem d1_45 : decode prog_199_method_2_code 45 = .ok (.sipush 216, 3) := by decide +kernel
theorem d1_48 : decode prog_199_method_2_code 48 = .ok (.if_icmp .lt 10, 3) := by decide +kernel
theorem d1_51 : decode prog_199_method_2_code 51 = .ok (.iload_n 0, 1) := by decide +kernel
theorem d1_52 : decode prog_199_method_2_code 52 = .ok (.sipush 246, 3) := by decide +kernel
theorem d1_55 : decode prog_199_method_2_code 55 = .ok (.if_icmp .le 136, 3) := by decide +kernel
theorem d1_58 : decode prog_199_method_2_code 58 = .ok (.iload_n 0, 1) := by decide +kernel
theorem d1_59 : decode prog_199_method_2_code 59 = .ok (.sipush 248, 3) := by decide +kernel
theorem d1_62 : decode prog_199_method_2_code 62 = .ok (.if_icmp .lt 10, 3) := by decide +kernel
theorem d1_65 : decode prog_199_method_2_code 65 = .ok (.iload_n 0, 1) := by decide +kernel
theorem d1_66 : decode prog_199_method_2_code 66 = .ok (.sipush 767, 3) := by decide +kernel
theorem d1_69 : decode prog_199_method_2_code 69 = .ok (.if_icmp .le 122, 3) := by decide +kernel
theorem d1_72 : decode prog_199_method_2_code 72 = .ok (.iload_n 0, 1) := by decide +kernel
theorem d1_73 : decode prog_199_method_2_code 73 = .ok (.sipush 880, 3) := by decide +kernel
theorem d1_76 : decode prog_199_method_2_code 76 = .ok (.if_icmp .lt 10, 3) := by decide +kernel
theorem d1_79 : decode prog_199_method_2_code 79 = .ok (.iload_n 0, 1) := by decide +kernel
theorem d1_80 : decode prog_199_method_2_code 80 = .ok (.sipush 893, 3) := by decide +kernel
theorem d1_83 : decode prog_199_method_2_code 83 = .ok (.if_icmp .le 108, 3) := by decide +kernel
theorem d1_86 : decode prog_199_method_2_code 86 = .ok (.iload_n 0, 1) := by decide +kernel
theorem d1_87 : decode prog_199_method_2_code 87 = .ok (.sipush 895, 3) := by decide +kernel
theorem d1_90 : decode prog_199_method_2_code 90 = .ok (.if_icmp .lt 10, 3) := by decide +kernel
theorem d1_93 : decode prog_199_method_2_code 93 = .ok (.iload_n 0, 1) := by decide +kernel
theorem d1_94 : decode prog_199_method_2_code 94 = .ok (.sipush 8191, 3) := by decide +kernel
theorem d1_97 : decode prog_199_method_2_code 97 = .ok (.if_icmp .le 94, 3) := by decide +kernel
theorem d1_100 : decode prog_199_method_2_code 100 = .ok (.iload_n 0, 1) := by decide +kernel
theorem d1_101 : decode prog_199_method_2_code 101 = .ok (.sipush 8204, 3) := by decide +kernel
theorem d1_104 : decode prog_199_method_2_code 104 = .ok (.if_icmp .lt 10, 3) := by decide +kernel
theorem d1_107 : decode prog_199_method_2_code 107 = .ok (.iload_n 0, 1) := by decide +kernel
theorem d1_108 : decode prog_199_method_2_code 108 = .ok (.sipush 8205, 3) := by decide +kernel
theorem d1_111 : decode prog_199_method_2_code 111 = .ok (.if_icmp .le 80, 3) := by decide +kernel
theorem d1_114 : decode prog_199_method_2_code 114 = .ok (.iload_n 0, 1) := by decide +kernel
theorem d1_115 : decode prog_199_method_2_code 115 = .ok (.sipush 8304, 3) := by decide +kernel
theorem d1_118 : decode prog_199_method_2_code 118 = .ok (.if_icmp .lt 10, 3) := by decide +kernel
theorem d1_121 : decode prog_199_method_2_code 121 = .ok (.iload_n 0, 1) := by decide +kernel
theorem d1_122 : decode prog_199_method_2_code 122 = .ok (.sipush 8591, 3) := by decide +kernel
theorem d1_125 : decode prog_199_method_2_code 125 = .ok (.if_icmp .le 66, 3) := by decide +kernel
theorem d1_128 : decode prog_199_method_2_code 128 = .ok (.iload_n 0, 1) := by decide +kernel
theorem d1_129 : decode prog_199_method_2_code 129 = .ok (.sipush 11264, 3) := by decide +kernel
theorem d1_132 : decode prog_199_method_2_code 132 = .ok (.if_icmp .lt 10, 3) := by decide +kernel
theorem d1_135 : decode prog_199_method_2_code 135 = .ok (.iload_n 0, 1) := by decide +kernel
theorem d1_136 : decode prog_199_method_2_code 136 = .ok (.sipush 12271, 3) := by decide +kernel
theorem d1_139 : decode prog_199_method_2_code 139 = .ok (.if_icmp .le 52, 3) := by decide +kernel
theorem d1_142 : decode prog_199_method_2_code 142 = .ok (.iload_n 0, 1) := by decide +kernel
theorem d1_143 : decode prog_199_method_2_code 143 = .ok (.sipush 12289, 3) := by decide +kernel
theorem d1_146 : decode prog_199_method_2_code 146 = .ok (.if_icmp .lt 9, 3) := by decide +kernel
theorem d1_149 : decode prog_199_method_2_code 149 = .ok (.iload_n 0, 1) := by decide +kernel
theorem d1_150 : decode prog_199_method_2_code 150 = .ok (.ldc 7, 2) := by decide +kernel
theorem d1_152 : decode prog_199_method_2_code 152 = .ok (.if_icmp .le 39, 3) := by decide +kernel
theorem d1_155 : decode prog_199_method_2_code 155 = .ok (.iload_n 0, 1) := by decide +kernel
theorem d1_156 : decode prog_199_method_2_code 156 = .ok (.ldc 8, 2) := by decide +kernel
theorem d1_158 : decode prog_199_method_2_code 158 = .ok (.if_icmp .lt 9, 3) := by decide +kernel
theorem d1_161 : decode prog_199_method_2_code 161 = .ok (.iload_n 0, 1) := by decide +kernel
theorem d1_162 : decode prog_199_method_2_code 162 = .ok (.ldc 9, 2) := by decide +kernel
theorem d1_164 : decode prog_199_method_2_code 164 = .ok (.if_icmp .le 27, 3) := by decide +kernel
theorem d1_167 : decode prog_199_method_2_code 167 = .ok (.iload_n 0, 1) := by decide +kernel
theorem d1_168 : decode prog_199_method_2_code 168 = .ok (.ldc 10, 2) := by decide +kernel
theorem d1_170 : decode prog_199_method_2_code 170 = .ok (.if_icmp .lt 9, 3) := by decide +kernel
theorem d1_173 : decode prog_199_method_2_code 173 = .ok (.iload_n 0, 1) := by decide +kernel
theorem d1_174 : decode prog_199_method_2_code 174 = .ok (.ldc 11, 2) := by decide +kernel
theorem d1_176 : decode prog_199_method_2_code 176 = .ok (.if_icmp .le 15, 3) := by decide +kernel
theorem d1_179 : decode prog_199_method_2_code 179 = .ok (.iload_n 0, 1) := by decide +kernel
theorem d1_180 : decode prog_199_method_2_code 180 = .ok (.ldc 12, 2) := by decide +kernel
theorem d1_182 : decode prog_199_method_2_code 182 = .ok (.if_icmp .lt 13, 3) := by decide +kernel
theorem d1_185 : decode prog_199_method_2_code 185 = .ok (.iload_n 0, 1) := by decide +kernel
theorem d1_186 : decode prog_199_method_2_code 186 = .ok (.ldc 13, 2) := by decide +kernel
theorem d1_188 : decode prog_199_method_2_code 188 = .ok (.if_icmp .gt 7, 3) := by decide +kernel
theorem d1_191 : decode prog_199_method_2_code 191 = .ok (.iconst 1, 1) := by decide +kernel
theorem d1_192 : decode prog_199_method_2_code 192 = .ok (.goto 4, 3) := by decide +kernel
theorem d1_195 : decode prog_199_method_2_code 195 = .ok (.iconst 0, 1) := by decide +kernel
theorem d1_196 : decode prog_199_method_2_code 196 = .ok (.ireturn, 1) := by decide +kernel
abbrev Y1 : MethodName := ⟨"com/example/nereus/nereus/value/XmlChars", "isNameStartChar", "(I)Z"⟩
def RM1 : Room := { frames := 0, cells := 0, slots := 0, locals := 0 }
theorem pd_1 : parseMethodDescriptor Y1.desc = some ⟨[.int], some .boolean⟩ := by decide +kernel
theorem pn_1 : plainName "com/example/nereus/nereus/value/XmlChars" = true := by first | (simp [plainName, overriddenIn]; done) | decide +kernel
theorem ef_1 (m : MethodId) (x0 : Int32) : entryFrame m #[.int x0] 1 = mkF m 0 #[.val (.int x0)] [] := by first | (simp [entryFrame, mkF, argsToLocals, Value.category]; done) | rfl
set_option maxRecDepth 65536 in
set_option maxHeartbeats 40000000 in
theorem rm1 (l : Launch) (Z : State) (a0 : Array Value) (hw : ∀ d ∈ tables_1, d.before a0 Z = true) (x0 : Int32)  (h0 : Heap) (r : Int32) (hf : f1_0 x0 = some r)  :
    MetFree l Y1 (head1 ([Jvm.Cond.code Y1 prog_199_method_2_code 1 (some .boolean)]) RM1) (fun a U => a = #[.int x0] ∧ Z.Warmed39 U.vm ∧ U.heap = h0) (fun _ _ _ _ _ => True) (fun _ U o U' => ∃ v L, o = .returned v ∧ (PQ h0 (some (.int r))) v U'.heap L ∧ FrameEnd U o U' L RM1.cells RM1.slots) := by
  refine MetFree.of_bodySF (plainFor_of_name pn_1) hisR ?_
  intro p e s m args below meth c s₁ Bd hml0 hP hK
  obtain ⟨rfl, hZ, hh⟩ := hP
  have hx := Bd.exec
  have hby := Bd.bytes
  have hlk : meth.locks = false := BodyLoose.notSynchronized Bd
  have hret := Bd.returns
  have hml : c.maxLocals = 1 := hml0
  have hown : s.vm.findClass "com/example/nereus/nereus/value/XmlChars" = some m.cls := findClass_of_methodNamed Bd.named
  have X0 : Stand p l e RM1 s m #[.int x0] below meth c s₁ [] 0 0 := Stand.of_body Bd
  have e0 : s₁.heap = h0 := by rw [← hh, Bd.state]; rfl
  suffices G : Go p e below s RM1.cells RM1.slots (PQ h0 (some (.int r))) m s₁ 0 #[.val (.int x0)] [] by
    obtain ⟨s₂, o, h1, h2⟩ := G
    exact ⟨s₂, o, castTop (ef_1 m x0) h1, h2⟩
  have hf0 := hf
  clear hf
  have B179 : ∀ (T : State), Stand p l e RM1 s m #[.int x0] below meth c T [] 0 0 → T.heap = h0 → ∀ (x0 : Int32), f1_179 x0 = some r → Go p e below s RM1.cells RM1.slots (PQ h0 (some (.int r))) m T 179 #[.val (.int x0)] [] := by
    intro T30 X30 e30 x0 hf
    unfold f1_179 at hf
    refine Go.iloadN X30 hx hby (v := x0) d1_179 rfl rfl ?_
    refine Go.ldcI X30 hx hby hZ (v := (65536 : Int32)) hown (hw _ (List.mem_of_getElem? (i := 20) rfl)) d1_180 rfl ?_
    refine Go.icmp_lt X30 hx hby (pc' := 195) d1_182 (by decide) (by decide) rfl (fun hc31 => ?_) (fun hc31 => ?_)
    · replace hf := (if_pos hc31).symm.trans hf
      refine Go.iconst X30 hx hby (v := (0 : Int32)) d1_195 rfl rfl ?_
      exact Go.iretN X30 hx hby hlk hret (Or.inl rfl) (w' := (0 : Int32)) rfl d1_196 (by decide) (by decide) ⟨congrArg (fun z => some (Value.int z)) (Option.some.inj hf), rfl, e30⟩
    · replace hf := (if_neg hc31).symm.trans hf
      refine Go.iloadN X30 hx hby (v := x0) d1_185 rfl rfl ?_
      refine Go.ldcI X30 hx hby hZ (v := (983039 : Int32)) hown (hw _ (List.mem_of_getElem? (i := 24) rfl)) d1_186 rfl ?_
      refine Go.icmp_gt X30 hx hby (pc' := 195) d1_188 (by decide) (by decide) rfl (fun hc32 => ?_) (fun hc32 => ?_)
      · replace hf := (if_pos hc32).symm.trans hf
        refine Go.iconst X30 hx hby (v := (0 : Int32)) d1_195 rfl rfl ?_
        exact Go.iretN X30 hx hby hlk hret (Or.inl rfl) (w' := (0 : Int32)) rfl d1_196 (by decide) (by decide) ⟨congrArg (fun z => some (Value.int z)) (Option.some.inj hf), rfl, e30⟩
      · replace hf := (if_neg hc32).symm.trans hf
        refine Go.iconst X30 hx hby (v := (1 : Int32)) d1_191 rfl rfl ?_
        refine Go.goto X30 hx hby (pc' := 196) d1_192 (by decide) (by decide) ?_
        exact Go.iretN X30 hx hby hlk hret (Or.inl rfl) (w' := (1 : Int32)) rfl d1_196 (by decide) (by decide) ⟨congrArg (fun z => some (Value.int z)) (Option.some.inj hf), rfl, e30⟩
  have B167 : ∀ (T : State), Stand p l e RM1 s m #[.int x0] below meth c T [] 0 0 → T.heap = h0 → ∀ (x0 : Int32), f1_167 x0 = some r → Go p e below s RM1.cells RM1.slots (PQ h0 (some (.int r))) m T 167 #[.val (.int x0)] [] := by
    intro T33 X33 e33 x0 hf
    unfold f1_167 at hf
    refine Go.iloadN X33 hx hby (v := x0) d1_167 rfl rfl ?_
    refine Go.ldcI X33 hx hby hZ (v := (65008 : Int32)) hown (hw _ (List.mem_of_getElem? (i := 19) rfl)) d1_168 rfl ?_
    refine Go.icmp_lt X33 hx hby (pc' := 179) d1_170 (by decide) (by decide) rfl (fun hc34 => ?_) (fun hc34 => ?_)
    · replace hf := (if_pos hc34).symm.trans hf
      exact B179 T33 X33 e33 x0 hf
    · replace hf := (if_neg hc34).symm.trans hf
      refine Go.iloadN X33 hx hby (v := x0) d1_173 rfl rfl ?_
      refine Go.ldcI X33 hx hby hZ (v := (65533 : Int32)) hown (hw _ (List.mem_of_getElem? (i := 23) rfl)) d1_174 rfl ?_
      refine Go.icmp_le X33 hx hby (pc' := 191) d1_176 (by decide) (by decide) rfl (fun hc35 => ?_) (fun hc35 => ?_)
      · replace hf := (if_neg hc35).symm.trans hf
        refine Go.iconst X33 hx hby (v := (1 : Int32)) d1_191 rfl rfl ?_
        refine Go.goto X33 hx hby (pc' := 196) d1_192 (by decide) (by decide) ?_
        exact Go.iretN X33 hx hby hlk hret (Or.inl rfl) (w' := (1 : Int32)) rfl d1_196 (by decide) (by decide) ⟨congrArg (fun z => some (Value.int z)) (Option.some.inj hf), rfl, e33⟩
      · replace hf := (if_pos hc35).symm.trans hf
        exact B179 T33 X33 e33 x0 hf
  have B155 : ∀ (T : State), Stand p l e RM1 s m #[.int x0] below meth c T [] 0 0 → T.heap = h0 → ∀ (x0 : Int32), f1_155 x0 = some r → Go p e below s RM1.cells RM1.slots (PQ h0 (some (.int r))) m T 155 #[.val (.int x0)] [] := by
    intro T36 X36 e36 x0 hf
    unfold f1_155 at hf
    refine Go.iloadN X36 hx hby (v := x0) d1_155 rfl rfl ?_
    refine Go.ldcI X36 hx hby hZ (v := (63744 : Int32)) hown (hw _ (List.mem_of_getElem? (i := 18) rfl)) d1_156 rfl ?_
    refine Go.icmp_lt X36 hx hby (pc' := 167) d1_158 (by decide) (by decide) rfl (fun hc37 => ?_) (fun hc37 => ?_)
    · replace hf := (if_pos hc37).symm.trans hf
      exact B167 T36 X36 e36 x0 hf
    · replace hf := (if_neg hc37).symm.trans hf
      refine Go.iloadN X36 hx hby (v := x0) d1_161 rfl rfl ?_
      refine Go.ldcI X36 hx hby hZ (v := (64975 : Int32)) hown (hw _ (List.mem_of_getElem? (i := 22) rfl)) d1_162 rfl ?_
      refine Go.icmp_le X36 hx hby (pc' := 191) d1_164 (by decide) (by decide) rfl (fun hc38 => ?_) (fun hc38 => ?_)
      · replace hf := (if_neg hc38).symm.trans hf
        refine Go.iconst X36 hx hby (v := (1 : Int32)) d1_191 rfl rfl ?_
        refine Go.goto X36 hx hby (pc' := 196) d1_192 (by decide) (by decide) ?_
        exact Go.iretN X36 hx hby hlk hret (Or.inl rfl) (w' := (1 : Int32)) rfl d1_196 (by decide) (by decide) ⟨congrArg (fun z => some (Value.int z)) (Option.some.inj hf), rfl, e36⟩
      · replace hf := (if_pos hc38).symm.trans hf
        exact B167 T36 X36 e36 x0 hf
  have B142 : ∀ (T : State), Stand p l e RM1 s m #[.int x0] below meth c T [] 0 0 → T.heap = h0 → ∀ (x0 : Int32), f1_142 x0 = some r → Go p e below s RM1.cells RM1.slots (PQ h0 (some (.int r))) m T 142 #[.val (.int x0)] [] := by
    intro T39 X39 e39 x0 hf
    unfold f1_142 at hf
    refine Go.iloadN X39 hx hby (v := x0) d1_142 rfl rfl ?_
    refine Go.sipush X39 hx hby (v := (12289 : Int32)) d1_143 rfl rfl ?_
    refine Go.icmp_lt X39 hx hby (pc' := 155) d1_146 (by decide) (by decide) rfl (fun hc40 => ?_) (fun hc40 => ?_)
    · replace hf := (if_pos hc40).symm.trans hf
      exact B155 T39 X39 e39 x0 hf
    · replace hf := (if_neg hc40).symm.trans hf
      refine Go.iloadN X39 hx hby (v := x0) d1_149 rfl rfl ?_
      refine Go.ldcI X39 hx hby hZ (v := (55295 : Int32)) hown (hw _ (List.mem_of_getElem? (i := 21) rfl)) d1_150 rfl ?_
      refine Go.icmp_le X39 hx hby (pc' := 191) d1_152 (by decide) (by decide) rfl (fun hc41 => ?_) (fun hc41 => ?_)
      · replace hf := (if_neg hc41).symm.trans hf
        refine Go.iconst X39 hx hby (v := (1 : Int32)) d1_191 rfl rfl ?_
        refine Go.goto X39 hx hby (pc' := 196) d1_192 (by decide) (by decide) ?_
        exact Go.iretN X39 hx hby hlk hret (Or.inl rfl) (w' := (1 : Int32)) rfl d1_196 (by decide) (by decide) ⟨congrArg (fun z => some (Value.int z)) (Option.some.inj hf), rfl, e39⟩
      · replace hf := (if_pos hc41).symm.trans hf
        exact B155 T39 X39 e39 x0 hf
  have B128 : ∀ (T : State), Stand p l e RM1 s m #[.int x0] below meth c T [] 0 0 → T.heap = h0 → ∀ (x0 : Int32), f1_128 x0 = some r → Go p e below s RM1.cells RM1.slots (PQ h0 (some (.int r))) m T 128 #[.val (.int x0)] [] := by
    intro T42 X42 e42 x0 hf
    unfold f1_128 at hf
    refine Go.iloadN X42 hx hby (v := x0) d1_128 rfl rfl ?_
    refine Go.sipush X42 hx hby (v := (11264 : Int32)) d1_129 rfl rfl ?_
    refine Go.icmp_lt X42 hx hby (pc' := 142) d1_132 (by decide) (by decide) rfl (fun hc43 => ?_) (fun hc43 => ?_)
    · replace hf := (if_pos hc43).symm.trans hf
      exact B142 T42 X42 e42 x0 hf
    · replace hf := (if_neg hc43).symm.trans hf
      refine Go.iloadN X42 hx hby (v := x0) d1_135 rfl rfl ?_
      refine Go.sipush X42 hx hby (v := (12271 : Int32)) d1_136 rfl rfl ?_
      refine Go.icmp_le X42 hx hby (pc' := 191) d1_139 (by decide) (by decide) rfl (fun hc44 => ?_) (fun hc44 => ?_)
      · replace hf := (if_neg hc44).symm.trans hf
        refine Go.iconst X42 hx hby (v := (1 : Int32)) d1_191 rfl rfl ?_
        refine Go.goto X42 hx hby (pc' := 196) d1_192 (by decide) (by decide) ?_
        exact Go.iretN X42 hx hby hlk hret (Or.inl rfl) (w' := (1 : Int32)) rfl d1_196 (by decide) (by decide) ⟨congrArg (fun z => some (Value.int z)) (Option.some.inj hf), rfl, e42⟩
      · replace hf := (if_pos hc44).symm.trans hf
        exact B142 T42 X42 e42 x0 hf
  have B114 : ∀ (T : State), Stand p l e RM1 s m #[.int x0] below meth c T [] 0 0 → T.heap = h0 → ∀ (x0 : Int32), f1_114 x0 = some r → Go p e below s RM1.cells RM1.slots (PQ h0 (some (.int r))) m T 114 #[.val (.int x0)] [] := by
    intro T45 X45 e45 x0 hf
    unfold f1_114 at hf
    refine Go.iloadN X45 hx hby (v := x0) d1_114 rfl rfl ?_
    refine Go.sipush X45 hx hby (v := (8304 : Int32)) d1_115 rfl rfl ?_
    refine Go.icmp_lt X45 hx hby (pc' := 128) d1_118 (by decide) (by decide) rfl (fun hc46 => ?_) (fun hc46 => ?_)
    · replace hf := (if_pos hc46).symm.trans hf
      exact B128 T45 X45 e45 x0 hf
    · replace hf := (if_neg hc46).symm.trans hf
      refine Go.iloadN X45 hx hby (v := x0) d1_121 rfl rfl ?_
      refine Go.sipush X45 hx hby (v := (8591 : Int32)) d1_122 rfl rfl ?_
      refine Go.icmp_le X45 hx hby (pc' := 191) d1_125 (by decide) (by decide) rfl (fun hc47 => ?_) (fun hc47 => ?_)
      · replace hf := (if_neg hc47).symm.trans hf
        refine Go.iconst X45 hx hby (v := (1 : Int32)) d1_191 rfl rfl ?_
        refine Go.goto X45 hx hby (pc' := 196) d1_192 (by decide) (by decide) ?_
        exact Go.iretN X45 hx hby hlk hret (Or.inl rfl) (w' := (1 : Int32)) rfl d1_196 (by decide) (by decide) ⟨congrArg (fun z => some (Value.int z)) (Option.some.inj hf), rfl, e45⟩
      · replace hf := (if_pos hc47).symm.trans hf
        exact B128 T45 X45 e45 x0 hf
  have B100 : ∀ (T : State), Stand p l e RM1 s m #[.int x0] below meth c T [] 0 0 → T.heap = h0 → ∀ (x0 : Int32), f1_100 x0 = some r → Go p e below s RM1.cells RM1.slots (PQ h0 (some (.int r))) m T 100 #[.val (.int x0)] [] := by
    intro T48 X48 e48 x0 hf
    unfold f1_100 at hf
    refine Go.iloadN X48 hx hby (v := x0) d1_100 rfl rfl ?_
    refine Go.sipush X48 hx hby (v := (8204 : Int32)) d1_101 rfl rfl ?_
    refine Go.icmp_lt X48 hx hby (pc' := 114) d1_104 (by decide) (by decide) rfl (fun hc49 => ?_) (fun hc49 => ?_)
    · replace hf := (if_pos hc49).symm.trans hf
      exact B114 T48 X48 e48 x0 hf
    · replace hf := (if_neg hc49).symm.trans hf
      refine Go.iloadN X48 hx hby (v := x0) d1_107 rfl rfl ?_
      refine Go.sipush X48 hx hby (v := (8205 : Int32)) d1_108 rfl rfl ?_
      refine Go.icmp_le X48 hx hby (pc' := 191) d1_111 (by decide) (by decide) rfl (fun hc50 => ?_) (fun hc50 => ?_)
      · replace hf := (if_neg hc50).symm.trans hf
        refine Go.iconst X48 hx hby (v := (1 : Int32)) d1_191 rfl rfl ?_
        refine Go.goto X48 hx hby (pc' := 196) d1_192 (by decide) (by decide) ?_
        exact Go.iretN X48 hx hby hlk hret (Or.inl rfl) (w' := (1 : Int32)) rfl d1_196 (by decide) (by decide) ⟨congrArg (fun z => some (Value.int z)) (Option.some.inj hf), rfl, e48⟩
      · replace hf := (if_pos hc50).symm.trans hf
        exact B114 T48 X48 e48 x0 hf
  have B86 : ∀ (T : State), Stand p l e RM1 s m #[.int x0] below meth c T [] 0 0 → T.heap = h0 → ∀ (x0 : Int32), f1_86 x0 = some r → Go p e below s RM1.cells RM1.slots (PQ h0 (some (.int r))) m T 86 #[.val (.int x0)] [] := by
    intro T51 X51 e51 x0 hf
    unfold f1_86 at hf
    refine Go.iloadN X51 hx hby (v := x0) d1_86 rfl rfl ?_
    refine Go.sipush X51 hx hby (v := (895 : Int32)) d1_87 rfl rfl ?_
    refine Go.icmp_lt X51 hx hby (pc' := 100) d1_90 (by decide) (by decide) rfl (fun hc52 => ?_) (fun hc52 => ?_)
    · replace hf := (if_pos hc52).symm.trans hf
      exact B100 T51 X51 e51 x0 hf
    · replace hf := (if_neg hc52).symm.trans hf
      refine Go.iloadN X51 hx hby (v := x0) d1_93 rfl rfl ?_
      refine Go.sipush X51 hx hby (v := (8191 : Int32)) d1_94 rfl rfl ?_
      refine Go.icmp_le X51 hx hby (pc' := 191) d1_97 (by decide) (by decide) rfl (fun hc53 => ?_) (fun hc53 => ?_)
      · replace hf := (if_neg hc53).symm.trans hf
        refine Go.iconst X51 hx hby (v := (1 : Int32)) d1_191 rfl rfl ?_
        refine Go.goto X51 hx hby (pc' := 196) d1_192 (by decide) (by decide) ?_
        exact Go.iretN X51 hx hby hlk hret (Or.inl rfl) (w' := (1 : Int32)) rfl d1_196 (by decide) (by decide) ⟨congrArg (fun z => some (Value.int z)) (Option.some.inj hf), rfl, e51⟩
      · replace hf := (if_pos hc53).symm.trans hf
        exact B100 T51 X51 e51 x0 hf
  have B72 : ∀ (T : State), Stand p l e RM1 s m #[.int x0] below meth c T [] 0 0 → T.heap = h0 → ∀ (x0 : Int32), f1_72 x0 = some r → Go p e below s RM1.cells RM1.slots (PQ h0 (some (.int r))) m T 72 #[.val (.int x0)] [] := by
    intro T54 X54 e54 x0 hf
    unfold f1_72 at hf
    refine Go.iloadN X54 hx hby (v := x0) d1_72 rfl rfl ?_
    refine Go.sipush X54 hx hby (v := (880 : Int32)) d1_73 rfl rfl ?_
    refine Go.icmp_lt X54 hx hby (pc' := 86) d1_76 (by decide) (by decide) rfl (fun hc55 => ?_) (fun hc55 => ?_)
    · replace hf := (if_pos hc55).symm.trans hf
      exact B86 T54 X54 e54 x0 hf
    · replace hf := (if_neg hc55).symm.trans hf
      refine Go.iloadN X54 hx hby (v := x0) d1_79 rfl rfl ?_
      refine Go.sipush X54 hx hby (v := (893 : Int32)) d1_80 rfl rfl ?_
      refine Go.icmp_le X54 hx hby (pc' := 191) d1_83 (by decide) (by decide) rfl (fun hc56 => ?_) (fun hc56 => ?_)
      · replace hf := (if_neg hc56).symm.trans hf
        refine Go.iconst X54 hx hby (v := (1 : Int32)) d1_191 rfl rfl ?_
        refine Go.goto X54 hx hby (pc' := 196) d1_192 (by decide) (by decide) ?_
        exact Go.iretN X54 hx hby hlk hret (Or.inl rfl) (w' := (1 : Int32)) rfl d1_196 (by decide) (by decide) ⟨congrArg (fun z => some (Value.int z)) (Option.some.inj hf), rfl, e54⟩
      · replace hf := (if_pos hc56).symm.trans hf
        exact B86 T54 X54 e54 x0 hf
  have B58 : ∀ (T : State), Stand p l e RM1 s m #[.int x0] below meth c T [] 0 0 → T.heap = h0 → ∀ (x0 : Int32), f1_58 x0 = some r → Go p e below s RM1.cells RM1.slots (PQ h0 (some (.int r))) m T 58 #[.val (.int x0)] [] := by
    intro T57 X57 e57 x0 hf
    unfold f1_58 at hf
    refine Go.iloadN X57 hx hby (v := x0) d1_58 rfl rfl ?_
    refine Go.sipush X57 hx hby (v := (248 : Int32)) d1_59 rfl rfl ?_
    refine Go.icmp_lt X57 hx hby (pc' := 72) d1_62 (by decide) (by decide) rfl (fun hc58 => ?_) (fun hc58 => ?_)
    · replace hf := (if_pos hc58).symm.trans hf
      exact B72 T57 X57 e57 x0 hf
    · replace hf := (if_neg hc58).symm.trans hf
      refine Go.iloadN X57 hx hby (v := x0) d1_65 rfl rfl ?_
      refine Go.sipush X57 hx hby (v := (767 : Int32)) d1_66 rfl rfl ?_
      refine Go.icmp_le X57 hx hby (pc' := 191) d1_69 (by decide) (by decide) rfl (fun hc59 => ?_) (fun hc59 => ?_)
      · replace hf := (if_neg hc59).symm.trans hf
        refine Go.iconst X57 hx hby (v := (1 : Int32)) d1_191 rfl rfl ?_
        refine Go.goto X57 hx hby (pc' := 196) d1_192 (by decide) (by decide) ?_
        exact Go.iretN X57 hx hby hlk hret (Or.inl rfl) (w' := (1 : Int32)) rfl d1_196 (by decide) (by decide) ⟨congrArg (fun z => some (Value.int z)) (Option.some.inj hf), rfl, e57⟩
      · replace hf := (if_pos hc59).symm.trans hf
        exact B72 T57 X57 e57 x0 hf
  have B44 : ∀ (T : State), Stand p l e RM1 s m #[.int x0] below meth c T [] 0 0 → T.heap = h0 → ∀ (x0 : Int32), f1_44 x0 = some r → Go p e below s RM1.cells RM1.slots (PQ h0 (some (.int r))) m T 44 #[.val (.int x0)] [] := by
    intro T60 X60 e60 x0 hf
    unfold f1_44 at hf
    refine Go.iloadN X60 hx hby (v := x0) d1_44 rfl rfl ?_
    refine Go.sipush X60 hx hby (v := (216 : Int32)) d1_45 rfl rfl ?_
    refine Go.icmp_lt X60 hx hby (pc' := 58) d1_48 (by decide) (by decide) rfl (fun hc61 => ?_) (fun hc61 => ?_)
    · replace hf := (if_pos hc61).symm.trans hf
      exact B58 T60 X60 e60 x0 hf
    · replace hf := (if_neg hc61).symm.trans hf
      refine Go.iloadN X60 hx hby (v := x0) d1_51 rfl rfl ?_
      refine Go.sipush X60 hx hby (v := (246 : Int32)) d1_52 rfl rfl ?_
      refine Go.icmp_le X60 hx hby (pc' := 191) d1_55 (by decide) (by decide) rfl (fun hc62 => ?_) (fun hc62 => ?_)
      · replace hf := (if_neg hc62).symm.trans hf
        refine Go.iconst X60 hx hby (v := (1 : Int32)) d1_191 rfl rfl ?_
        refine Go.goto X60 hx hby (pc' := 196) d1_192 (by decide) (by decide) ?_
        exact Go.iretN X60 hx hby hlk hret (Or.inl rfl) (w' := (1 : Int32)) rfl d1_196 (by decide) (by decide) ⟨congrArg (fun z => some (Value.int z)) (Option.some.inj hf), rfl, e60⟩
      · replace hf := (if_pos hc62).symm.trans hf
        exact B58 T60 X60 e60 x0 hf
  have B24 : ∀ (T : State), Stand p l e RM1 s m #[.int x0] below meth c T [] 0 0 → T.heap = h0 → ∀ (x0 : Int32), f1_24 x0 = some r → Go p e below s RM1.cells RM1.slots (PQ h0 (some (.int r))) m T 24 #[.val (.int x0)] [] := by
    intro T63 X63 e63 x0 hf
    unfold f1_24 at hf
    refine Go.iloadN X63 hx hby (v := x0) d1_24 rfl rfl ?_
    refine Go.bipush X63 hx hby (v := (95 : Int32)) d1_25 rfl rfl ?_
    refine Go.icmp_eq X63 hx hby (pc' := 191) d1_27 (by decide) (by decide) rfl (fun hc64 => ?_) (fun hc64 => ?_)
    · replace hf := (if_pos hc64).symm.trans hf
      refine Go.iconst X63 hx hby (v := (1 : Int32)) d1_191 rfl rfl ?_
      refine Go.goto X63 hx hby (pc' := 196) d1_192 (by decide) (by decide) ?_
      exact Go.iretN X63 hx hby hlk hret (Or.inl rfl) (w' := (1 : Int32)) rfl d1_196 (by decide) (by decide) ⟨congrArg (fun z => some (Value.int z)) (Option.some.inj hf), rfl, e63⟩
    · replace hf := (if_neg hc64).symm.trans hf
      refine Go.iloadN X63 hx hby (v := x0) d1_30 rfl rfl ?_
      refine Go.sipush X63 hx hby (v := (192 : Int32)) d1_31 rfl rfl ?_
      refine Go.icmp_lt X63 hx hby (pc' := 44) d1_34 (by decide) (by decide) rfl (fun hc65 => ?_) (fun hc65 => ?_)
      · replace hf := (if_pos hc65).symm.trans hf
        exact B44 T63 X63 e63 x0 hf
      · replace hf := (if_neg hc65).symm.trans hf
        refine Go.iloadN X63 hx hby (v := x0) d1_37 rfl rfl ?_
        refine Go.sipush X63 hx hby (v := (214 : Int32)) d1_38 rfl rfl ?_
        refine Go.icmp_le X63 hx hby (pc' := 191) d1_41 (by decide) (by decide) rfl (fun hc66 => ?_) (fun hc66 => ?_)
        · replace hf := (if_neg hc66).symm.trans hf
          refine Go.iconst X63 hx hby (v := (1 : Int32)) d1_191 rfl rfl ?_
          refine Go.goto X63 hx hby (pc' := 196) d1_192 (by decide) (by decide) ?_
          exact Go.iretN X63 hx hby hlk hret (Or.inl rfl) (w' := (1 : Int32)) rfl d1_196 (by decide) (by decide) ⟨congrArg (fun z => some (Value.int z)) (Option.some.inj hf), rfl, e63⟩
        · replace hf := (if_pos hc66).symm.trans hf
          exact B44 T63 X63 e63 x0 hf
  have B12 : ∀ (T : State), Stand p l e RM1 s m #[.int x0] below meth c T [] 0 0 → T.heap = h0 → ∀ (x0 : Int32), f1_12 x0 = some r → Go p e below s RM1.cells RM1.slots (PQ h0 (some (.int r))) m T 12 #[.val (.int x0)] [] := by
    intro T67 X67 e67 x0 hf
    unfold f1_12 at hf
    refine Go.iloadN X67 hx hby (v := x0) d1_12 rfl rfl ?_
    refine Go.bipush X67 hx hby (v := (65 : Int32)) d1_13 rfl rfl ?_
    refine Go.icmp_lt X67 hx hby (pc' := 24) d1_15 (by decide) (by decide) rfl (fun hc68 => ?_) (fun hc68 => ?_)
    · replace hf := (if_pos hc68).symm.trans hf
      exact B24 T67 X67 e67 x0 hf
    · replace hf := (if_neg hc68).symm.trans hf
      refine Go.iloadN X67 hx hby (v := x0) d1_18 rfl rfl ?_
      refine Go.bipush X67 hx hby (v := (90 : Int32)) d1_19 rfl rfl ?_
      refine Go.icmp_le X67 hx hby (pc' := 191) d1_21 (by decide) (by decide) rfl (fun hc69 => ?_) (fun hc69 => ?_)
      · replace hf := (if_neg hc69).symm.trans hf
        refine Go.iconst X67 hx hby (v := (1 : Int32)) d1_191 rfl rfl ?_
        refine Go.goto X67 hx hby (pc' := 196) d1_192 (by decide) (by decide) ?_
        exact Go.iretN X67 hx hby hlk hret (Or.inl rfl) (w' := (1 : Int32)) rfl d1_196 (by decide) (by decide) ⟨congrArg (fun z => some (Value.int z)) (Option.some.inj hf), rfl, e67⟩
      · replace hf := (if_pos hc69).symm.trans hf
        exact B24 T67 X67 e67 x0 hf
  have hf := hf0
  unfold f1_0 at hf
  refine Go.iloadN X0 hx hby (v := x0) d1_0 rfl rfl ?_
  refine Go.bipush X0 hx hby (v := (97 : Int32)) d1_1 rfl rfl ?_
  refine Go.icmp_lt X0 hx hby (pc' := 12) d1_3 (by decide) (by decide) rfl (fun hc70 => ?_) (fun hc70 => ?_)
  · replace hf := (if_pos hc70).symm.trans hf
    exact B12 s₁ X0 e0 x0 hf
  · replace hf := (if_neg hc70).symm.trans hf
    refine Go.iloadN X0 hx hby (v := x0) d1_6 rfl rfl ?_
    refine Go.bipush X0 hx hby (v := (122 : Int32)) d1_7 rfl rfl ?_
    refine Go.icmp_le X0 hx hby (pc' := 191) d1_9 (by decide) (by decide) rfl (fun hc71 => ?_) (fun hc71 => ?_)
    · replace hf := (if_neg hc71).symm.trans hf
      refine Go.iconst X0 hx hby (v := (1 : Int32)) d1_191 rfl rfl ?_
      refine Go.goto X0 hx hby (pc' := 196) d1_192 (by decide) (by decide) ?_
      exact Go.iretN X0 hx hby hlk hret (Or.inl rfl) (w' := (1 : Int32)) rfl d1_196 (by decide) (by decide) ⟨congrArg (fun z => some (Value.int z)) (Option.some.inj hf), rfl, e0⟩
    · replace hf := (if_pos hc71).symm.trans hf
      exact B12 s₁ X0 e0 x0 hf
-- body 2
def f2_190 (x0 : Int32) : Option (Int32) := if (983039 : Int32) < x0 then some (1 : Int32) else some (0 : Int32)
def f2_176 (x0 : Int32) : Option (Int32) := if (65533 : Int32) < x0 then if x0 < (65536 : Int32) then some (1 : Int32) else f2_190 x0 else f2_190 x0
def f2_162 (x0 : Int32) : Option (Int32) := if (64975 : Int32) < x0 then if x0 < (65008 : Int32) then some (1 : Int32) else f2_176 x0 else f2_176 x0
def f2_148 (x0 : Int32) : Option (Int32) := if (55295 : Int32) < x0 then if x0 < (63744 : Int32) then some (1 : Int32) else f2_162 x0 else f2_162 x0
def f2_132 (x0 : Int32) : Option (Int32) := if (12271 : Int32) < x0 then if x0 < (12289 : Int32) then some (1 : Int32) else f2_148 x0 else f2_148 x0
def f2_116 (x0 : Int32) : Option (Int32) := if (8591 : Int32) < x0 then if x0 < (11264 : Int32) then some (1 : Int32) else f2_132 x0 else f2_132 x0
def f2_100 (x0 : Int32) : Option (Int32) := if (8205 : Int32) < x0 then if x0 < (8304 : Int32) then some (1 : Int32) else f2_116 x0 else f2_116 x0
def f2_75 (x0 : Int32) : Option (Int32) := if x0 = (894 : Int32) then some (1 : Int32) else if (8191 : Int32) < x0 then if x0 < (8204 : Int32) then some (1 : Int32) else f2_100 x0 else f2_100 x0
def f2_43 (x0 : Int32) : Option (Int32) := if x0 = (215 : Int32) then some (1 : Int32) else if x0 = (247 : Int32) then some (1 : Int32) else if (767 : Int32) < x0 then if x0 < (880 : Int32) then some (1 : Int32) else f2_75 x0 else f2_75 x0
def f2_28 (x0 : Int32) : Option (Int32) := if (122 : Int32) < x0 then if x0 < (192 : Int32) then some (1 : Int32) else f2_43 x0 else f2_43 x0
def f2_0 (x0 : Int32) : Option (Int32) := if x0 < (65 : Int32) then some (1 : Int32) else if (90 : Int32) < x0 then if x0 < (97 : Int32) then if x0 = (95 : Int32) then f2_28 x0 else some (1 : Int32) else f2_28 x0 else f2_28 x0
theorem d2_0 : decode method_2_code 0 = .ok (.iload_n 0, 1) := by decide +kernel
theorem d2_1 : decode method_2_code 1 = .ok (.bipush 65, 2) := by decide +kernel
theorem d2_3 : decode method_2_code 3 = .ok (.if_icmp .ge 5, 3) := by decide +kernel
theorem d2_6 : decode method_2_code 6 = .ok (.iconst 1, 1) := by decide +kernel
theorem d2_7 : decode method_2_code 7 = .ok (.ireturn, 1) := by decide +kernel
theorem d2_8 : decode method_2_code 8 = .ok (.iload_n 0, 1) := by decide +kernel
theorem d2_9 : decode method_2_code 9 = .ok (.bipush 90, 2) := by decide +kernel
theorem d2_11 : decode method_2_code 11 = .ok (.if_icmp .le 17, 3) := by decide +kernel
theorem d2_14 : decode method_2_code 14 = .ok (.iload_n 0, 1) := by decide +kernel
theorem d2_15 : decode method_2_code 15 = .ok (.bipush 97, 2) := by decide +kernel
theorem d2_17 : decode method_2_code 17 = .ok (.if_icmp .ge 11, 3) := by decide +kernel
theorem d2_20 : decode method_2_code 20 = .ok (.iload_n 0, 1) := by decide +kernel
theorem d2_21 : decode method_2_code 21 = .ok (.bipush 95, 2) := by decide +kernel
theorem d2_23 : decode method_2_code 23 = .ok (.if_icmp .eq 5, 3) := by decide +kernel
theorem d2_26 : decode method_2_code 26 = .ok (.iconst 1, 1) := by decide +kernel
theorem d2_27 : decode method_2_code 27 = .ok (.ireturn, 1) := by decide +kernel
theorem d2_28 : decode method_2_code 28 = .ok (.iload_n 0, 1) := by decide +kernel
theorem d2_29 : decode method_2_code 29 = .ok (.bipush 122, 2) := by decide +kernel
theorem d2_31 : decode method_2_code 31 = .ok (.if_icmp .le 12, 3) := by decide +kernel
theorem d2_34 : decode method_2_code 34 = .ok (.iload_n 0, 1) := by decide +kernel
theorem d2_35 : decode method_2_code 35 = .ok (.sipush 192, 3) := by decide +kernel
theorem d2_38 : decode method_2_code 38 = .ok (.if_icmp .ge 5, 3) := by decide +kernel
theorem d2_41 : decode method_2_code 41 = .ok (.iconst 1, 1) := by decide +kernel
theorem d2_42 : decode method_2_code 42 = .ok (.ireturn, 1) := by decide +kernel
theorem d2_43 : decode method_2_code 43 = .ok (.iload_n 0, 1) := by decide +kernel
theorem d2_44 : decode method_2_code 44 = .ok (.sipush 215, 3) := by decide +kernel
theorem d2_47 : decode method_2_code 47 = .ok (.if_icmp .eq 10, 3) := by decide +kernel
theorem d2_50 : decode method_2_code 50 = .ok (.iload_n 0, 1) := by decide +kernel
theorem d2_51 : decode method_2_code 51 = .ok (.sipush 247, 3) := by decide +kernel
theorem d2_54 : decode method_2_code 54 = .ok (.if_icmp .ne 5, 3) := by decide +kernel
theorem d2_57 : decode method_2_code 57 = .ok (.iconst 1, 1) := by decide +kernel
theorem d2_58 : decode method_2_code 58 = .ok (.ireturn, 1) := by decide +kernel
theorem d2_59 : decode method_2_code 59 = .ok (.iload_n 0, 1) := by decide +kernel
theorem d2_60 : decode method_2_code 60 = .ok (.sipush 767, 3) := by decide +kernel
theorem d2_63 : decode method_2_code 63 = .ok (.if_icmp .le 12, 3) := by decide +kernel
theorem d2_66 : decode method_2_code 66 = .ok (.iload_n 0, 1) := by decide +kernel
theorem d2_67 : decode method_2_code 67 = .ok (.sipush 880, 3) := by decide +kernel
theorem d2_70 : decode method_2_code 70 = .ok (.if_icmp .ge 5, 3) := by decide +kernel
theorem d2_73 : decode method_2_code 73 = .ok (.iconst 1, 1) := by decide +kernel
theorem d2_74 : decode method_2_code 74 = .ok (.ireturn, 1) := by decide +kernel
theorem d2_75 : decode method_2_code 75 = .ok (.iload_n 0, 1) := by decide +kernel
theorem d2_76 : decode method_2_code 76 = .ok (.sipush 894, 3) := by decide +kernel
theorem d2_79 : decode method_2_code 79 = .ok (.if_icmp .ne 5, 3) := by decide +kernel
theorem d2_82 : decode method_2_code 82 = .ok (.iconst 1, 1) := by decide +kernel
theorem d2_83 : decode method_2_code 83 = .ok (.ireturn, 1) := by decide +kernel
theorem d2_84 : decode method_2_code 84 = .ok (.iload_n 0, 1) := by decide +kernel
theorem d2_85 : decode method_2_code 85 = .ok (.sipush 8191, 3) := by decide +kernel
theorem d2_88 : decode method_2_code 88 = .ok (.if_icmp .le 12, 3) := by decide +kernel
theorem d2_91 : decode method_2_code 91 = .ok (.iload_n 0, 1) := by decide +kernel
theorem d2_92 : decode method_2_code 92 = .ok (.sipush 8204, 3) := by decide +kernel
theorem d2_95 : decode method_2_code 95 = .ok (.if_icmp .ge 5, 3) := by decide +kernel
theorem d2_98 : decode method_2_code 98 = .ok (.iconst 1, 1) := by decide +kernel
theorem d2_99 : decode method_2_code 99 = .ok (.ireturn, 1) := by decide +kernel
theorem d2_100 : decode method_2_code 100 = .ok (.iload_n 0, 1) := by decide +kernel
theorem d2_101 : decode method_2_code 101 = .ok (.sipush 8205, 3) := by decide +kernel
theorem d2_104 : decode method_2_code 104 = .ok (.if_icmp .le 12, 3) := by decide +kernel
theorem d2_107 : decode method_2_code 107 = .ok (.iload_n 0, 1) := by decide +kernel
theorem d2_108 : decode method_2_code 108 = .ok (.sipush 8304, 3) := by decide +kernel
theorem d2_111 : decode method_2_code 111 = .ok (.if_icmp .ge 5, 3) := by decide +kernel
theorem d2_114 : decode method_2_code 114 = .ok (.iconst 1, 1) := by decide +kernel
theorem d2_115 : decode method_2_code 115 = .ok (.ireturn, 1) := by decide +kernel
theorem d2_116 : decode method_2_code 116 = .ok (.iload_n 0, 1) := by decide +kernel
theorem d2_117 : decode method_2_code 117 = .ok (.sipush 8591, 3) := by decide +kernel
theorem d2_120 : decode method_2_code 120 = .ok (.if_icmp .le 12, 3) := by decide +kernel
theorem d2_123 : decode method_2_code 123 = .ok (.iload_n 0, 1) := by decide +kernel
theorem d2_124 : decode method_2_code 124 = .ok (.sipush 11264, 3) := by decide +kernel
theorem d2_127 : decode method_2_code 127 = .ok (.if_icmp .ge 5, 3) := by decide +kernel
theorem d2_130 : decode method_2_code 130 = .ok (.iconst 1, 1) := by decide +kernel
theorem d2_131 : decode method_2_code 131 = .ok (.ireturn, 1) := by decide +kernel
theorem d2_132 : decode method_2_code 132 = .ok (.iload_n 0, 1) := by decide +kernel
theorem d2_133 : decode method_2_code 133 = .ok (.sipush 12271, 3) := by decide +kernel
theorem d2_136 : decode method_2_code 136 = .ok (.if_icmp .le 12, 3) := by decide +kernel
theorem d2_139 : decode method_2_code 139 = .ok (.iload_n 0, 1) := by decide +kernel
theorem d2_140 : decode method_2_code 140 = .ok (.sipush 12289, 3) := by decide +kernel
theorem d2_143 : decode method_2_code 143 = .ok (.if_icmp .ge 5, 3) := by decide +kernel
theorem d2_146 : decode method_2_code 146 = .ok (.iconst 1, 1) := by decide +kernel
theorem d2_147 : decode method_2_code 147 = .ok (.ireturn, 1) := by decide +kernel
theorem d2_148 : decode method_2_code 148 = .ok (.iload_n 0, 1) := by decide +kernel
theorem d2_149 : decode method_2_code 149 = .ok (.ldc 7, 2) := by decide +kernel
theorem d2_151 : decode method_2_code 151 = .ok (.if_icmp .le 11, 3) := by decide +kernel
theorem d2_154 : decode method_2_code 154 = .ok (.iload_n 0, 1) := by decide +kernel
theorem d2_155 : decode method_2_code 155 = .ok (.ldc 8, 2) := by decide +kernel
theorem d2_157 : decode method_2_code 157 = .ok (.if_icmp .ge 5, 3) := by decide +kernel
theorem d2_160 : decode method_2_code 160 = .ok (.iconst 1, 1) := by decide +kernel
theorem d2_161 : decode method_2_code 161 = .ok (.ireturn, 1) := by decide +kernel
theorem d2_162 : decode method_2_code 162 = .ok (.iload_n 0, 1) := by decide +kernel
theorem d2_163 : decode method_2_code 163 = .ok (.ldc 9, 2) := by decide +kernel
theorem d2_165 : decode method_2_code 165 = .ok (.if_icmp .le 11, 3) := by decide +kernel
theorem d2_168 : decode method_2_code 168 = .ok (.iload_n 0, 1) := by decide +kernel
theorem d2_169 : decode method_2_code 169 = .ok (.ldc 10, 2) := by decide +kernel
theorem d2_171 : decode method_2_code 171 = .ok (.if_icmp .ge 5, 3) := by decide +kernel
theorem d2_174 : decode method_2_code 174 = .ok (.iconst 1, 1) := by decide +kernel
theorem d2_175 : decode method_2_code 175 = .ok (.ireturn, 1) := by decide +kernel
theorem d2_176 : decode method_2_code 176 = .ok (.iload_n 0, 1) := by decide +kernel
theorem d2_177 : decode method_2_code 177 = .ok (.ldc 11, 2) := by decide +kernel
theorem d2_179 : decode method_2_code 179 = .ok (.if_icmp .le 11, 3) := by decide +kernel
theorem d2_182 : decode method_2_code 182 = .ok (.iload_n 0, 1) := by decide +kernel
theorem d2_183 : decode method_2_code 183 = .ok (.ldc 12, 2) := by decide +kernel
theorem d2_185 : decode method_2_code 185 = .ok (.if_icmp .ge 5, 3) := by decide +kernel
theorem d2_188 : decode method_2_code 188 = .ok (.iconst 1, 1) := by decide +kernel
theorem d2_189 : decode method_2_code 189 = .ok (.ireturn, 1) := by decide +kernel
theorem d2_190 : decode method_2_code 190 = .ok (.iload_n 0, 1) := by decide +kernel
theorem d2_191 : decode method_2_code 191 = .ok (.ldc 13, 2) := by decide +kernel
theorem d2_193 : decode method_2_code 193 = .ok (.if_icmp .le 5, 3) := by decide +kernel
theorem d2_196 : decode method_2_code 196 = .ok (.iconst 1, 1) := by decide +kernel
theorem d2_197 : decode method_2_code 197 = .ok (.ireturn, 1) := by decide +kernel
theorem d2_198 : decode method_2_code 198 = .ok (.iconst 0, 1) := by decide +kernel
theorem d2_199 : decode method_2_code 199 = .ok (.ireturn, 1) := by decide +kernel
abbrev Y2 : MethodName := ⟨"com/example/nereus/nereus/value/XmlCharsIsNameStartCharPinLaw", "excluded", "(I)Z"⟩
def RM2 : Room := { frames := 0, cells := 0, slots := 0, locals := 0 }
theorem pd_2 : parseMethodDescriptor Y2.desc = some ⟨[.int], some .boolean⟩ := by decide +kernel
theorem pn_2 : plainName "com/example/nereus/nereus/value/XmlCharsIsNameStartCharPinLaw" = true := by first | (simp [plainName, overriddenIn]; done) | decide +kernel
theorem ef_2 (m : MethodId) (x0 : Int32) : entryFrame m #[.int x0] 1 = mkF m 0 #[.val (.int x0)] [] := by first | (simp [entryFrame, mkF, argsToLocals, Value.category]; done) | rfl
set_option maxRecDepth 65536 in
set_option maxHeartbeats 40000000 in
theorem rm2 (l : Launch) (Z : State) (a0 : Array Value) (hw : ∀ d ∈ tables_1, d.before a0 Z = true) (x0 : Int32)  (h0 : Heap) (r : Int32) (hf : f2_0 x0 = some r)  :
    MetFree l Y2 (head1 ([Jvm.Cond.code Y2 method_2_code 1 (some .boolean)]) RM2) (fun a U => a = #[.int x0] ∧ Z.Warmed39 U.vm ∧ U.heap = h0) (fun _ _ _ _ _ => True) (fun _ U o U' => ∃ v L, o = .returned v ∧ (PQ h0 (some (.int r))) v U'.heap L ∧ FrameEnd U o U' L RM2.cells RM2.slots) := by
  refine MetFree.of_bodySF (plainFor_of_name pn_2) hisR ?_
  intro p e s m args below meth c s₁ Bd hml0 hP hK
  obtain ⟨rfl, hZ, hh⟩ := hP
  have hx := Bd.exec
  have hby := Bd.bytes
  have hlk : meth.locks = false := BodyLoose.notSynchronized Bd
  have hret := Bd.returns
  have hml : c.maxLocals = 1 := hml0
  have hown : s.vm.findClass "com/example/nereus/nereus/value/XmlCharsIsNameStartCharPinLaw" = some m.cls := findClass_of_methodNamed Bd.named
  have X0 : Stand p l e RM2 s m #[.int x0] below meth c s₁ [] 0 0 := Stand.of_body Bd
  have e0 : s₁.heap = h0 := by rw [← hh, Bd.state]; rfl
  suffices G : Go p e below s RM2.cells RM2.slots (PQ h0 (some (.int r))) m s₁ 0 #[.val (.int x0)] [] by
    obtain ⟨s₂, o, h1, h2⟩ := G
    exact ⟨s₂, o, castTop (ef_2 m x0) h1, h2⟩
  have hf0 := hf
  clear hf
  have B190 : ∀ (T : State), Stand p l e RM2 s m #[.int x0] below meth c T [] 0 0 → T.heap = h0 → ∀ (x0 : Int32), f2_190 x0 = some r → Go p e below s RM2.cells RM2.slots (PQ h0 (some (.int r))) m T 190 #[.val (.int x0)] [] := by
    intro T98 X98 e98 x0 hf
    unfold f2_190 at hf
    refine Go.iloadN X98 hx hby (v := x0) d2_190 rfl rfl ?_
    refine Go.ldcI X98 hx hby hZ (v := (983039 : Int32)) hown (hw _ (List.mem_of_getElem? (i := 7) rfl)) d2_191 rfl ?_
    refine Go.icmp_le X98 hx hby (pc' := 198) d2_193 (by decide) (by decide) rfl (fun hc99 => ?_) (fun hc99 => ?_)
    · replace hf := (if_neg hc99).symm.trans hf
      refine Go.iconst X98 hx hby (v := (0 : Int32)) d2_198 rfl rfl ?_
      exact Go.iretN X98 hx hby hlk hret (Or.inl rfl) (w' := (0 : Int32)) rfl d2_199 (by decide) (by decide) ⟨congrArg (fun z => some (Value.int z)) (Option.some.inj hf), rfl, e98⟩
    · replace hf := (if_pos hc99).symm.trans hf
      refine Go.iconst X98 hx hby (v := (1 : Int32)) d2_196 rfl rfl ?_
      exact Go.iretN X98 hx hby hlk hret (Or.inl rfl) (w' := (1 : Int32)) rfl d2_197 (by decide) (by decide) ⟨congrArg (fun z => some (Value.int z)) (Option.some.inj hf), rfl, e98⟩
  have B176 : ∀ (T : State), Stand p l e RM2 s m #[.int x0] below meth c T [] 0 0 → T.heap = h0 → ∀ (x0 : Int32), f2_176 x0 = some r → Go p e below s RM2.cells RM2.slots (PQ h0 (some (.int r))) m T 176 #[.val (.int x0)] [] := by
    intro T100 X100 e100 x0 hf
    unfold f2_176 at hf
    refine Go.iloadN X100 hx hby (v := x0) d2_176 rfl rfl ?_
    refine Go.ldcI X100 hx hby hZ (v := (65533 : Int32)) hown (hw _ (List.mem_of_getElem? (i := 5) rfl)) d2_177 rfl ?_
    refine Go.icmp_le X100 hx hby (pc' := 190) d2_179 (by decide) (by decide) rfl (fun hc101 => ?_) (fun hc101 => ?_)
    · replace hf := (if_neg hc101).symm.trans hf
      exact B190 T100 X100 e100 x0 hf
    · replace hf := (if_pos hc101).symm.trans hf
      refine Go.iloadN X100 hx hby (v := x0) d2_182 rfl rfl ?_
      refine Go.ldcI X100 hx hby hZ (v := (65536 : Int32)) hown (hw _ (List.mem_of_getElem? (i := 6) rfl)) d2_183 rfl ?_
      refine Go.icmp_ge X100 hx hby (pc' := 190) d2_185 (by decide) (by decide) rfl (fun hc102 => ?_) (fun hc102 => ?_)
      · replace hf := (if_neg hc102).symm.trans hf
        exact B190 T100 X100 e100 x0 hf
      · replace hf := (if_pos hc102).symm.trans hf
        refine Go.iconst X100 hx hby (v := (1 : Int32)) d2_188 rfl rfl ?_
        exact Go.iretN X100 hx hby hlk hret (Or.inl rfl) (w' := (1 : Int32)) rfl d2_189 (by decide) (by decide) ⟨congrArg (fun z => some (Value.int z)) (Option.some.inj hf), rfl, e100⟩
  have B162 : ∀ (T : State), Stand p l e RM2 s m #[.int x0] below meth c T [] 0 0 → T.heap = h0 → ∀ (x0 : Int32), f2_162 x0 = some r → Go p e below s RM2.cells RM2.slots (PQ h0 (some (.int r))) m T 162 #[.val (.int x0)] [] := by
    intro T103 X103 e103 x0 hf
    unfold f2_162 at hf
    refine Go.iloadN X103 hx hby (v := x0) d2_162 rfl rfl ?_
    refine Go.ldcI X103 hx hby hZ (v := (64975 : Int32)) hown (hw _ (List.mem_of_getElem? (i := 3) rfl)) d2_163 rfl ?_
    refine Go.icmp_le X103 hx hby (pc' := 176) d2_165 (by decide) (by decide) rfl (fun hc104 => ?_) (fun hc104 => ?_)
    · replace hf := (if_neg hc104).symm.trans hf
      exact B176 T103 X103 e103 x0 hf
    · replace hf := (if_pos hc104).symm.trans hf
      refine Go.iloadN X103 hx hby (v := x0) d2_168 rfl rfl ?_
      refine Go.ldcI X103 hx hby hZ (v := (65008 : Int32)) hown (hw _ (List.mem_of_getElem? (i := 4) rfl)) d2_169 rfl ?_
      refine Go.icmp_ge X103 hx hby (pc' := 176) d2_171 (by decide) (by decide) rfl (fun hc105 => ?_) (fun hc105 => ?_)
      · replace hf := (if_neg hc105).symm.trans hf
        exact B176 T103 X103 e103 x0 hf
      · replace hf := (if_pos hc105).symm.trans hf
        refine Go.iconst X103 hx hby (v := (1 : Int32)) d2_174 rfl rfl ?_
        exact Go.iretN X103 hx hby hlk hret (Or.inl rfl) (w' := (1 : Int32)) rfl d2_175 (by decide) (by decide) ⟨congrArg (fun z => some (Value.int z)) (Option.some.inj hf), rfl, e103⟩
  have B148 : ∀ (T : State), Stand p l e RM2 s m #[.int x0] below meth c T [] 0 0 → T.heap = h0 → ∀ (x0 : Int32), f2_148 x0 = some r → Go p e below s RM2.cells RM2.slots (PQ h0 (some (.int r))) m T 148 #[.val (.int x0)] [] := by
    intro T106 X106 e106 x0 hf
    unfold f2_148 at hf
    refine Go.iloadN X106 hx hby (v := x0) d2_148 rfl rfl ?_
    refine Go.ldcI X106 hx hby hZ (v := (55295 : Int32)) hown (hw _ (List.mem_of_getElem? (i := 1) rfl)) d2_149 rfl ?_
    refine Go.icmp_le X106 hx hby (pc' := 162) d2_151 (by decide) (by decide) rfl (fun hc107 => ?_) (fun hc107 => ?_)
    · replace hf := (if_neg hc107).symm.trans hf
      exact B162 T106 X106 e106 x0 hf
    · replace hf := (if_pos hc107).symm.trans hf
      refine Go.iloadN X106 hx hby (v := x0) d2_154 rfl rfl ?_
      refine Go.ldcI X106 hx hby hZ (v := (63744 : Int32)) hown (hw _ (List.mem_of_getElem? (i := 2) rfl)) d2_155 rfl ?_
      refine Go.icmp_ge X106 hx hby (pc' := 162) d2_157 (by decide) (by decide) rfl (fun hc108 => ?_) (fun hc108 => ?_)
      · replace hf := (if_neg hc108).symm.trans hf
        exact B162 T106 X106 e106 x0 hf
      · replace hf := (if_pos hc108).symm.trans hf
        refine Go.iconst X106 hx hby (v := (1 : Int32)) d2_160 rfl rfl ?_
        exact Go.iretN X106 hx hby hlk hret (Or.inl rfl) (w' := (1 : Int32)) rfl d2_161 (by decide) (by decide) ⟨congrArg (fun z => some (Value.int z)) (Option.some.inj hf), rfl, e106⟩
  have B132 : ∀ (T : State), Stand p l e RM2 s m #[.int x0] below meth c T [] 0 0 → T.heap = h0 → ∀ (x0 : Int32), f2_132 x0 = some r → Go p e below s RM2.cells RM2.slots (PQ h0 (some (.int r))) m T 132 #[.val (.int x0)] [] := by
    intro T109 X109 e109 x0 hf
    unfold f2_132 at hf
    refine Go.iloadN X109 hx hby (v := x0) d2_132 rfl rfl ?_
    refine Go.sipush X109 hx hby (v := (12271 : Int32)) d2_133 rfl rfl ?_
    refine Go.icmp_le X109 hx hby (pc' := 148) d2_136 (by decide) (by decide) rfl (fun hc110 => ?_) (fun hc110 => ?_)
    · replace hf := (if_neg hc110).symm.trans hf
      exact B148 T109 X109 e109 x0 hf
    · replace hf := (if_pos hc110).symm.trans hf
      refine Go.iloadN X109 hx hby (v := x0) d2_139 rfl rfl ?_
      refine Go.sipush X109 hx hby (v := (12289 : Int32)) d2_140 rfl rfl ?_
      refine Go.icmp_ge X109 hx hby (pc' := 148) d2_143 (by decide) (by decide) rfl (fun hc111 => ?_) (fun hc111 => ?_)
      · replace hf := (if_neg hc111).symm.trans hf
        exact B148 T109 X109 e109 x0 hf
      · replace hf := (if_pos hc111).symm.trans hf
        refine Go.iconst X109 hx hby (v := (1 : Int32)) d2_146 rfl rfl ?_
        exact Go.iretN X109 hx hby hlk hret (Or.inl rfl) (w' := (1 : Int32)) rfl d2_147 (by decide) (by decide) ⟨congrArg (fun z => some (Value.int z)) (Option.some.inj hf), rfl, e109⟩
  have B116 : ∀ (T : State), Stand p l e RM2 s m #[.int x0] below meth c T [] 0 0 → T.heap = h0 → ∀ (x0 : Int32), f2_116 x0 = some r → Go p e below s RM2.cells RM2.slots (PQ h0 (some (.int r))) m T 116 #[.val (.int x0)] [] := by
    intro T112 X112 e112 x0 hf
    unfold f2_116 at hf
    refine Go.iloadN X112 hx hby (v := x0) d2_116 rfl rfl ?_
    refine Go.sipush X112 hx hby (v := (8591 : Int32)) d2_117 rfl rfl ?_
    refine Go.icmp_le X112 hx hby (pc' := 132) d2_120 (by decide) (by decide) rfl (fun hc113 => ?_) (fun hc113 => ?_)
    · replace hf := (if_neg hc113).symm.trans hf
      exact B132 T112 X112 e112 x0 hf
    · replace hf := (if_pos hc113).symm.trans hf
      refine Go.iloadN X112 hx hby (v := x0) d2_123 rfl rfl ?_
      refine Go.sipush X112 hx hby (v := (11264 : Int32)) d2_124 rfl rfl ?_
      refine Go.icmp_ge X112 hx hby (pc' := 132) d2_127 (by decide) (by decide) rfl (fun hc114 => ?_) (fun hc114 => ?_)
      · replace hf := (if_neg hc114).symm.trans hf
        exact B132 T112 X112 e112 x0 hf
      · replace hf := (if_pos hc114).symm.trans hf
        refine Go.iconst X112 hx hby (v := (1 : Int32)) d2_130 rfl rfl ?_
        exact Go.iretN X112 hx hby hlk hret (Or.inl rfl) (w' := (1 : Int32)) rfl d2_131 (by decide) (by decide) ⟨congrArg (fun z => some (Value.int z)) (Option.some.inj hf), rfl, e112⟩
  have B100 : ∀ (T : State), Stand p l e RM2 s m #[.int x0] below meth c T [] 0 0 → T.heap = h0 → ∀ (x0 : Int32), f2_100 x0 = some r → Go p e below s RM2.cells RM2.slots (PQ h0 (some (.int r))) m T 100 #[.val (.int x0)] [] := by
    intro T115 X115 e115 x0 hf
    unfold f2_100 at hf
    refine Go.iloadN X115 hx hby (v := x0) d2_100 rfl rfl ?_
    refine Go.sipush X115 hx hby (v := (8205 : Int32)) d2_101 rfl rfl ?_
    refine Go.icmp_le X115 hx hby (pc' := 116) d2_104 (by decide) (by decide) rfl (fun hc116 => ?_) (fun hc116 => ?_)
    · replace hf := (if_neg hc116).symm.trans hf
      exact B116 T115 X115 e115 x0 hf
    · replace hf := (if_pos hc116).symm.trans hf
      refine Go.iloadN X115 hx hby (v := x0) d2_107 rfl rfl ?_
      refine Go.sipush X115 hx hby (v := (8304 : Int32)) d2_108 rfl rfl ?_
      refine Go.icmp_ge X115 hx hby (pc' := 116) d2_111 (by decide) (by decide) rfl (fun hc117 => ?_) (fun hc117 => ?_)
      · replace hf := (if_neg hc117).symm.trans hf
        exact B116 T115 X115 e115 x0 hf
      · replace hf := (if_pos hc117).symm.trans hf
        refine Go.iconst X115 hx hby (v := (1 : Int32)) d2_114 rfl rfl ?_
        exact Go.iretN X115 hx hby hlk hret (Or.inl rfl) (w' := (1 : Int32)) rfl d2_115 (by decide) (by decide) ⟨congrArg (fun z => some (Value.int z)) (Option.some.inj hf), rfl, e115⟩
  have B75 : ∀ (T : State), Stand p l e RM2 s m #[.int x0] below meth c T [] 0 0 → T.heap = h0 → ∀ (x0 : Int32), f2_75 x0 = some r → Go p e below s RM2.cells RM2.slots (PQ h0 (some (.int r))) m T 75 #[.val (.int x0)] [] := by
    intro T118 X118 e118 x0 hf
    unfold f2_75 at hf
    refine Go.iloadN X118 hx hby (v := x0) d2_75 rfl rfl ?_
    refine Go.sipush X118 hx hby (v := (894 : Int32)) d2_76 rfl rfl ?_
    refine Go.icmp_ne X118 hx hby (pc' := 84) d2_79 (by decide) (by decide) rfl (fun hc119 => ?_) (fun hc119 => ?_)
    · replace hf := (if_neg hc119).symm.trans hf
      refine Go.iloadN X118 hx hby (v := x0) d2_84 rfl rfl ?_
      refine Go.sipush X118 hx hby (v := (8191 : Int32)) d2_85 rfl rfl ?_
      refine Go.icmp_le X118 hx hby (pc' := 100) d2_88 (by decide) (by decide) rfl (fun hc120 => ?_) (fun hc120 => ?_)
      · replace hf := (if_neg hc120).symm.trans hf
        exact B100 T118 X118 e118 x0 hf
      · replace hf := (if_pos hc120).symm.trans hf
        refine Go.iloadN X118 hx hby (v := x0) d2_91 rfl rfl ?_
        refine Go.sipush X118 hx hby (v := (8204 : Int32)) d2_92 rfl rfl ?_
        refine Go.icmp_ge X118 hx hby (pc' := 100) d2_95 (by decide) (by decide) rfl (fun hc121 => ?_) (fun hc121 => ?_)
        · replace hf := (if_neg hc121).symm.trans hf
          exact B100 T118 X118 e118 x0 hf
        · replace hf := (if_pos hc121).symm.trans hf
          refine Go.iconst X118 hx hby (v := (1 : Int32)) d2_98 rfl rfl ?_
          exact Go.iretN X118 hx hby hlk hret (Or.inl rfl) (w' := (1 : Int32)) rfl d2_99 (by decide) (by decide) ⟨congrArg (fun z => some (Value.int z)) (Option.some.inj hf), rfl, e118⟩
    · replace hf := (if_pos hc119).symm.trans hf
      refine Go.iconst X118 hx hby (v := (1 : Int32)) d2_82 rfl rfl ?_
      exact Go.iretN X118 hx hby hlk hret (Or.inl rfl) (w' := (1 : Int32)) rfl d2_83 (by decide) (by decide) ⟨congrArg (fun z => some (Value.int z)) (Option.some.inj hf), rfl, e118⟩
  have B43 : ∀ (T : State), Stand p l e RM2 s m #[.int x0] below meth c T [] 0 0 → T.heap = h0 → ∀ (x0 : Int32), f2_43 x0 = some r → Go p e below s RM2.cells RM2.slots (PQ h0 (some (.int r))) m T 43 #[.val (.int x0)] [] := by
    intro T122 X122 e122 x0 hf
    unfold f2_43 at hf
    refine Go.iloadN X122 hx hby (v := x0) d2_43 rfl rfl ?_
    refine Go.sipush X122 hx hby (v := (215 : Int32)) d2_44 rfl rfl ?_
    refine Go.icmp_eq X122 hx hby (pc' := 57) d2_47 (by decide) (by decide) rfl (fun hc123 => ?_) (fun hc123 => ?_)
    · replace hf := (if_pos hc123).symm.trans hf
      refine Go.iconst X122 hx hby (v := (1 : Int32)) d2_57 rfl rfl ?_
      exact Go.iretN X122 hx hby hlk hret (Or.inl rfl) (w' := (1 : Int32)) rfl d2_58 (by decide) (by decide) ⟨congrArg (fun z => some (Value.int z)) (Option.some.inj hf), rfl, e122⟩
    · replace hf := (if_neg hc123).symm.trans hf
      refine Go.iloadN X122 hx hby (v := x0) d2_50 rfl rfl ?_
      refine Go.sipush X122 hx hby (v := (247 : Int32)) d2_51 rfl rfl ?_
      refine Go.icmp_ne X122 hx hby (pc' := 59) d2_54 (by decide) (by decide) rfl (fun hc124 => ?_) (fun hc124 => ?_)
      · replace hf := (if_neg hc124).symm.trans hf
        refine Go.iloadN X122 hx hby (v := x0) d2_59 rfl rfl ?_
        refine Go.sipush X122 hx hby (v := (767 : Int32)) d2_60 rfl rfl ?_
        refine Go.icmp_le X122 hx hby (pc' := 75) d2_63 (by decide) (by decide) rfl (fun hc125 => ?_) (fun hc125 => ?_)
        · replace hf := (if_neg hc125).symm.trans hf
          exact B75 T122 X122 e122 x0 hf
        · replace hf := (if_pos hc125).symm.trans hf
          refine Go.iloadN X122 hx hby (v := x0) d2_66 rfl rfl ?_
          refine Go.sipush X122 hx hby (v := (880 : Int32)) d2_67 rfl rfl ?_
          refine Go.icmp_ge X122 hx hby (pc' := 75) d2_70 (by decide) (by decide) rfl (fun hc126 => ?_) (fun hc126 => ?_)
          · replace hf := (if_neg hc126).symm.trans hf
            exact B75 T122 X122 e122 x0 hf
          · replace hf := (if_pos hc126).symm.trans hf
            refine Go.iconst X122 hx hby (v := (1 : Int32)) d2_73 rfl rfl ?_
            exact Go.iretN X122 hx hby hlk hret (Or.inl rfl) (w' := (1 : Int32)) rfl d2_74 (by decide) (by decide) ⟨congrArg (fun z => some (Value.int z)) (Option.some.inj hf), rfl, e122⟩
      · replace hf := (if_pos hc124).symm.trans hf
        refine Go.iconst X122 hx hby (v := (1 : Int32)) d2_57 rfl rfl ?_
        exact Go.iretN X122 hx hby hlk hret (Or.inl rfl) (w' := (1 : Int32)) rfl d2_58 (by decide) (by decide) ⟨congrArg (fun z => some (Value.int z)) (Option.some.inj hf), rfl, e122⟩
  have B28 : ∀ (T : State), Stand p l e RM2 s m #[.int x0] below meth c T [] 0 0 → T.heap = h0 → ∀ (x0 : Int32), f2_28 x0 = some r → Go p e below s RM2.cells RM2.slots (PQ h0 (some (.int r))) m T 28 #[.val (.int x0)] [] := by
    intro T127 X127 e127 x0 hf
    unfold f2_28 at hf
    refine Go.iloadN X127 hx hby (v := x0) d2_28 rfl rfl ?_
    refine Go.bipush X127 hx hby (v := (122 : Int32)) d2_29 rfl rfl ?_
    refine Go.icmp_le X127 hx hby (pc' := 43) d2_31 (by decide) (by decide) rfl (fun hc128 => ?_) (fun hc128 => ?_)
    · replace hf := (if_neg hc128).symm.trans hf
      exact B43 T127 X127 e127 x0 hf
    · replace hf := (if_pos hc128).symm.trans hf
      refine Go.iloadN X127 hx hby (v := x0) d2_34 rfl rfl ?_
      refine Go.sipush X127 hx hby (v := (192 : Int32)) d2_35 rfl rfl ?_
      refine Go.icmp_ge X127 hx hby (pc' := 43) d2_38 (by decide) (by decide) rfl (fun hc129 => ?_) (fun hc129 => ?_)
      · replace hf := (if_neg hc129).symm.trans hf
        exact B43 T127 X127 e127 x0 hf
      · replace hf := (if_pos hc129).symm.trans hf
        refine Go.iconst X127 hx hby (v := (1 : Int32)) d2_41 rfl rfl ?_
        exact Go.iretN X127 hx hby hlk hret (Or.inl rfl) (w' := (1 : Int32)) rfl d2_42 (by decide) (by decide) ⟨congrArg (fun z => some (Value.int z)) (Option.some.inj hf), rfl, e127⟩
  have hf := hf0
  unfold f2_0 at hf
  refine Go.iloadN X0 hx hby (v := x0) d2_0 rfl rfl ?_
  refine Go.bipush X0 hx hby (v := (65 : Int32)) d2_1 rfl rfl ?_
  refine Go.icmp_ge X0 hx hby (pc' := 8) d2_3 (by decide) (by decide) rfl (fun hc130 => ?_) (fun hc130 => ?_)
  · replace hf := (if_neg hc130).symm.trans hf
    refine Go.iloadN X0 hx hby (v := x0) d2_8 rfl rfl ?_
    refine Go.bipush X0 hx hby (v := (90 : Int32)) d2_9 rfl rfl ?_
    refine Go.icmp_le X0 hx hby (pc' := 28) d2_11 (by decide) (by decide) rfl (fun hc131 => ?_) (fun hc131 => ?_)
    · replace hf := (if_neg hc131).symm.trans hf
      exact B28 s₁ X0 e0 x0 hf
    · replace hf := (if_pos hc131).symm.trans hf
      refine Go.iloadN X0 hx hby (v := x0) d2_14 rfl rfl ?_
      refine Go.bipush X0 hx hby (v := (97 : Int32)) d2_15 rfl rfl ?_
      refine Go.icmp_ge X0 hx hby (pc' := 28) d2_17 (by decide) (by decide) rfl (fun hc132 => ?_) (fun hc132 => ?_)
      · replace hf := (if_neg hc132).symm.trans hf
        exact B28 s₁ X0 e0 x0 hf
      · replace hf := (if_pos hc132).symm.trans hf
        refine Go.iloadN X0 hx hby (v := x0) d2_20 rfl rfl ?_
        refine Go.bipush X0 hx hby (v := (95 : Int32)) d2_21 rfl rfl ?_
        refine Go.icmp_eq X0 hx hby (pc' := 28) d2_23 (by decide) (by decide) rfl (fun hc133 => ?_) (fun hc133 => ?_)
        · replace hf := (if_pos hc133).symm.trans hf
          exact B28 s₁ X0 e0 x0 hf
        · replace hf := (if_neg hc133).symm.trans hf
          refine Go.iconst X0 hx hby (v := (1 : Int32)) d2_26 rfl rfl ?_
          exact Go.iretN X0 hx hby hlk hret (Or.inl rfl) (w' := (1 : Int32)) rfl d2_27 (by decide) (by decide) ⟨congrArg (fun z => some (Value.int z)) (Option.some.inj hf), rfl, e0⟩
  · replace hf := (if_pos hc130).symm.trans hf
    refine Go.iconst X0 hx hby (v := (1 : Int32)) d2_6 rfl rfl ?_
    exact Go.iretN X0 hx hby hlk hret (Or.inl rfl) (w' := (1 : Int32)) rfl d2_7 (by decide) (by decide) ⟨congrArg (fun z => some (Value.int z)) (Option.some.inj hf), rfl, e0⟩
-- body 0
def f0_255 (t0 : Int32) (t1 : Int32) (G_bb : List Int32) : Option (Int32) := if t1 = t0 then some (1 : Int32) else some (0 : Int32)
def f0_237 (x5 : Int32) (G_bb : List Int32) : Option (Int32) := (f1_0 x5).bind fun r135 => (f2_0 x5).bind fun r136 => if r136 = 0 then f0_255 (1 : Int32) r135 G_bb else f0_255 (0 : Int32) r135 G_bb
def f0_0 (x0 : Int32) (x1 : Int32) (x2 : Int32) (x3 : Int32) : Option (Int32) := if (x0 &&& (1 : Int32)) = 0 then if inA ([(65 : Int32), (90 : Int32), (95 : Int32), (97 : Int32), (122 : Int32), (192 : Int32), (214 : Int32), (216 : Int32), (246 : Int32), (248 : Int32), (767 : Int32), (880 : Int32), (893 : Int32), (895 : Int32), (8191 : Int32), (8204 : Int32), (8205 : Int32), (8304 : Int32), (8591 : Int32), (11264 : Int32), (12271 : Int32), (12289 : Int32), (55295 : Int32), (63744 : Int32), (64975 : Int32), (65008 : Int32), (65533 : Int32), (65536 : Int32), (983039 : Int32), (0 : Int32), (-2147483647 : Int32), (2147483646 : Int32)] : List Int32) (x2 &&& (31 : Int32)) then f0_237 ((atA ([(65 : Int32), (90 : Int32), (95 : Int32), (97 : Int32), (122 : Int32), (192 : Int32), (214 : Int32), (216 : Int32), (246 : Int32), (248 : Int32), (767 : Int32), (880 : Int32), (893 : Int32), (895 : Int32), (8191 : Int32), (8204 : Int32), (8205 : Int32), (8304 : Int32), (8591 : Int32), (11264 : Int32), (12271 : Int32), (12289 : Int32), (55295 : Int32), (63744 : Int32), (64975 : Int32), (65008 : Int32), (65533 : Int32), (65536 : Int32), (983039 : Int32), (0 : Int32), (-2147483647 : Int32), (2147483646 : Int32)] : List Int32) (x2 &&& (31 : Int32))) + ((remI (x3 &&& (3 : Int32)) (3 : Int32)) - (1 : Int32))) ([(65 : Int32), (90 : Int32), (95 : Int32), (97 : Int32), (122 : Int32), (192 : Int32), (214 : Int32), (216 : Int32), (246 : Int32), (248 : Int32), (767 : Int32), (880 : Int32), (893 : Int32), (895 : Int32), (8191 : Int32), (8204 : Int32), (8205 : Int32), (8304 : Int32), (8591 : Int32), (11264 : Int32), (12271 : Int32), (12289 : Int32), (55295 : Int32), (63744 : Int32), (64975 : Int32), (65008 : Int32), (65533 : Int32), (65536 : Int32), (983039 : Int32), (0 : Int32), (-2147483647 : Int32), (2147483646 : Int32)] : List Int32) else none else f0_237 x1 ([(65 : Int32), (90 : Int32), (95 : Int32), (97 : Int32), (122 : Int32), (192 : Int32), (214 : Int32), (216 : Int32), (246 : Int32), (248 : Int32), (767 : Int32), (880 : Int32), (893 : Int32), (895 : Int32), (8191 : Int32), (8204 : Int32), (8205 : Int32), (8304 : Int32), (8591 : Int32), (11264 : Int32), (12271 : Int32), (12289 : Int32), (55295 : Int32), (63744 : Int32), (64975 : Int32), (65008 : Int32), (65533 : Int32), (65536 : Int32), (983039 : Int32), (0 : Int32), (-2147483647 : Int32), (2147483646 : Int32)] : List Int32)
theorem pn_0 : plainName "com/example/nereus/nereus/value/XmlCharsIsNameStartCharPinLaw" = true := by first | (simp [plainName, overriddenIn]; done) | decide +kernel
theorem ef_0 (m : MethodId) (x0 : Int32) (x1 : Int32) (x2 : Int32) (x3 : Int32) : entryFrame m #[.int x0, .int x1, .int x2, .int x3] maxLocals = mkF m 0 #[.val (.int x0), .val (.int x1), .val (.int x2), .val (.int x3), .unset, .unset] [] := by first | (simp [entryFrame, mkF, argsToLocals, Value.category, maxLocals]; done) | rfl
set_option maxRecDepth 65536 in
set_option maxHeartbeats 40000000 in
theorem rm0 (l : Launch) (Z : State) (a0 : Array Value) (hw : ∀ d ∈ tables_1, d.before a0 Z = true) (ws : List Jvm.Cond) (x0 : Int32) (x1 : Int32) (x2 : Int32) (x3 : Int32)  (h0 : Heap) (n0 : Nat) (Z0 : n0 ≤ h0.size) (r : Int32) (hf : f0_0 x0 x1 x2 x3 = some r)  :
    MetFree l x (head1 (Jvm.Cond.code x code maxLocals ret :: ws) room_1) (fun a U => a = #[.int x0, .int x1, .int x2, .int x3] ∧ Z.Warmed39 U.vm ∧ U.heap = h0) (fun _ _ _ _ _ => True) (fun _ U o U' => ∃ v L, o = .returned v ∧ (fun v h L => v = some (.int r) ∧ Fr n0 L) v U'.heap L ∧ FrameEnd U o U' L room_1.cells room_1.slots) := by
  refine MetFree.of_bodySF (plainFor_of_name pn_0) hisR ?_
  intro p e s m args below meth c s₁ Bd hml0 hP hK
  obtain ⟨rfl, hZ, hh⟩ := hP
  have hx := Bd.exec
  have hby := Bd.bytes
  have hlk : meth.locks = false := BodyLoose.notSynchronized Bd
  have hret := Bd.returns
  have hml : c.maxLocals = 6 := hml0
  have hown : s.vm.findClass "com/example/nereus/nereus/value/XmlCharsIsNameStartCharPinLaw" = some m.cls := findClass_of_methodNamed Bd.named
  have X0 : Stand p l e room_1 s m #[.int x0, .int x1, .int x2, .int x3] below meth c s₁ [] 0 0 := Stand.of_body Bd
  have e0 : s₁.heap = h0 := by rw [← hh, Bd.state]; rfl
  have N0 := Fr.nil n0
  have K0 := Keep.refl h0 []
  suffices G : Go p e below s room_1.cells room_1.slots (fun v h L => v = some (.int r) ∧ Fr n0 L) m s₁ 0 #[.val (.int x0), .val (.int x1), .val (.int x2), .val (.int x3), .unset, .unset] [] by
    obtain ⟨s₂, o, h1, h2⟩ := G
    exact ⟨s₂, o, castTop (ef_0 m x0 x1 x2 x3) h1, h2⟩
  have hf0 := hf
  clear hf
  have B255 : ∀ (T : State) (h : Heap) (locs : List Loc), Stand p l e room_1 s m #[.int x0, .int x1, .int x2, .int x3] below meth c T locs 1 32 → T.heap = h → Fr n0 locs → Keep h0 h [] → ∀ (bb : Addr), h0.size ≤ bb → ∀ (G_bb : List Int32), AryI Z h bb .int G_bb → ∀ (x0 : Int32) (x1 : Int32) (x2 : Int32) (x3 : Int32) (x5 : Int32) (t0 : Int32) (t1 : Int32), f0_255 t0 t1 G_bb = some r → Go p e below s room_1.cells room_1.slots (fun v h L => v = some (.int r) ∧ Fr n0 L) m T 255 #[.val (.int x0), .val (.int x1), .val (.int x2), .val (.int x3), .val (.ref bb), .val (.int x5)] [.int t0, .int t1] := by
    intro T205 h205 _ X205 e205 N205 K205 bb na_bb G_bb F205_bb x0 x1 x2 x3 x5 t0 t1 hf
    unfold f0_255 at hf
    refine Go.icmp_ne X205 hx hby (pc' := 262) at_255 (by decide) (by decide) rfl (fun hc206 => ?_) (fun hc206 => ?_)
    · replace hf := (if_neg hc206).symm.trans hf
      refine Go.iconst X205 hx hby (v := (0 : Int32)) at_262 rfl rfl ?_
      exact Go.iretN X205 hx hby hlk hret (Or.inl rfl) (w' := (0 : Int32)) rfl at_263 (by decide) (by decide) ⟨congrArg (fun z => some (Value.int z)) (Option.some.inj hf), N205⟩
    · replace hf := (if_pos hc206).symm.trans hf
      refine Go.iconst X205 hx hby (v := (1 : Int32)) at_258 rfl rfl ?_
      refine Go.goto X205 hx hby (pc' := 263) at_259 (by decide) (by decide) ?_
      exact Go.iretN X205 hx hby hlk hret (Or.inl rfl) (w' := (1 : Int32)) rfl at_263 (by decide) (by decide) ⟨congrArg (fun z => some (Value.int z)) (Option.some.inj hf), N205⟩
  have B237 : ∀ (T : State) (h : Heap) (locs : List Loc), Stand p l e room_1 s m #[.int x0, .int x1, .int x2, .int x3] below meth c T locs 1 32 → T.heap = h → Fr n0 locs → Keep h0 h [] → ∀ (bb : Addr), h0.size ≤ bb → ∀ (G_bb : List Int32), AryI Z h bb .int G_bb → ∀ (x0 : Int32) (x1 : Int32) (x2 : Int32) (x3 : Int32) (x5 : Int32), f0_237 x5 G_bb = some r → Go p e below s room_1.cells room_1.slots (fun v h L => v = some (.int r) ∧ Fr n0 L) m T 237 #[.val (.int x0), .val (.int x1), .val (.int x2), .val (.int x3), .val (.ref bb), .val (.int x5)] [] := by
    intro T207 h207 _ X207 e207 N207 K207 bb na_bb G_bb F207_bb x0 x1 x2 x3 x5 hf
    unfold f0_237 at hf
    refine Go.iload X207 hx hby (v := x5) at_237 rfl rfl ?_
    obtain ⟨r208, g208, hf⟩ := Option.bind_eq_some_iff.mp hf
    refine Go.callSP X207 hx hby hZ (by rw [hml]; rfl) (W := 0) (argsL := [.int x5]) (rest := []) hown (hw _ (List.mem_of_getElem? (i := 10) rfl)) (hw _ (List.mem_of_getElem? (i := 11) rfl)) (hw _ (List.mem_of_getElem? (i := 12) rfl)) (hw _ (List.mem_of_getElem? (i := 13) rfl)) (by decide) (rm1 l Z a0 hw x5  h207 r208 g208 ) (by decide) (by decide) e207 pd_1 rfl rfl rfl (Nat.le_of_eq rfl) rfl rfl (by decide) (by decide) at_239 rfl (fun T208 X208 e208 => ?_)
    refine Go.iload X208 hx hby (v := x5) at_242 rfl rfl ?_
    obtain ⟨r209, g209, hf⟩ := Option.bind_eq_some_iff.mp hf
    refine Go.callSP X208 hx hby hZ (by rw [hml]; rfl) (W := 1) (argsL := [.int x5]) (rest := [.int r208]) hown (hw _ (List.mem_of_getElem? (i := 14) rfl)) (hw _ (List.mem_of_getElem? (i := 15) rfl)) (hw _ (List.mem_of_getElem? (i := 16) rfl)) (hw _ (List.mem_of_getElem? (i := 17) rfl)) (by decide) (rm2 l Z a0 hw x5  h207 r209 g209 ) (by decide) (by decide) e208 pd_2 rfl rfl rfl (Nat.le_of_eq rfl) rfl rfl (by decide) (by decide) at_244 rfl (fun T209 X209 e209 => ?_)
    refine Go.if_ne X209 hx hby (pc' := 254) at_247 (by decide) (by decide) rfl (fun hc210 => ?_) (fun hc210 => ?_)
    · replace hf := (if_neg hc210).symm.trans hf
      refine Go.iconst X209 hx hby (v := (0 : Int32)) at_254 rfl rfl ?_
      exact B255 T209 h207 _ X209 e209 N207 K207 bb na_bb  G_bb F207_bb x0 x1 x2 x3 x5 (0 : Int32) r208 hf
    · replace hf := (if_pos hc210).symm.trans hf
      refine Go.iconst X209 hx hby (v := (1 : Int32)) at_250 rfl rfl ?_
      refine Go.goto X209 hx hby (pc' := 255) at_251 (by decide) (by decide) ?_
      exact B255 T209 h207 _ X209 e209 N207 K207 bb na_bb  G_bb F207_bb x0 x1 x2 x3 x5 (1 : Int32) r208 hf
  have hf := hf0
  unfold f0_0 at hf
  refine Go.bipush X0 hx hby (v := (32 : Int32)) at_0 rfl rfl ?_
  refine Go.newA X0 hx hby hZ (nn := 32) (ty := .int) (hw _ (List.mem_of_getElem? (i := 0) rfl)) e0 at_2 rfl rfl rfl (by decide) (by decide) (by decide) (by decide) (by decide) (fun T211 h211 bb X211 e211 E211 z211 A211 => ?_)
  have na_bb := Nat.le_trans K0.1 z211
  have K211 := Keep.ext K0 E211
  have A211 : AryI Z h211 bb .int ([0, 0, 0, 0, 0, 0, 0, 0, 0, 0, 0, 0, 0, 0, 0, 0, 0, 0, 0, 0, 0, 0, 0, 0, 0, 0, 0, 0, 0, 0, 0, 0] : List Int32) := A211
  refine Go.dup X211 hx hby at_4 rfl rfl ?_
  refine Go.iconst X211 hx hby (v := (0 : Int32)) at_5 rfl rfl ?_
  refine Go.bipush X211 hx hby (v := (65 : Int32)) at_6 rfl rfl ?_
  refine Go.iastore X211 hx hby hZ e211 A211 (own_inK (n := 32) rfl (by decide)) at_8 rfl (fun T213 h213 X213 e213 W213 A213 => ?_)
  have N213 := Fr.snoc X213 N0 (Nat.le_trans Z0 na_bb)
  have K213 := Keep.wr K211 W213 (Or.inr na_bb)
  have A213 : AryI Z h213 bb .int ([(65 : Int32), 0, 0, 0, 0, 0, 0, 0, 0, 0, 0, 0, 0, 0, 0, 0, 0, 0, 0, 0, 0, 0, 0, 0, 0, 0, 0, 0, 0, 0, 0, 0] : List Int32) := A213
  refine Go.dup X213 hx hby at_9 rfl rfl ?_
  refine Go.iconst X213 hx hby (v := (1 : Int32)) at_10 rfl rfl ?_
  refine Go.bipush X213 hx hby (v := (90 : Int32)) at_11 rfl rfl ?_
  refine Go.iastore X213 hx hby hZ e213 A213 (own_inK (n := 32) rfl (by decide)) at_13 rfl (fun T215 h215 X215 e215 W215 A215 => ?_)
  have N215 := Fr.snoc X215 N213 (Nat.le_trans Z0 na_bb)
  have K215 := Keep.wr K213 W215 (Or.inr na_bb)
  have A215 : AryI Z h215 bb .int ([(65 : Int32), (90 : Int32), 0, 0, 0, 0, 0, 0, 0, 0, 0, 0, 0, 0, 0, 0, 0, 0, 0, 0, 0, 0, 0, 0, 0, 0, 0, 0, 0, 0, 0, 0] : List Int32) := A215
  refine Go.dup X215 hx hby at_14 rfl rfl ?_
  refine Go.iconst X215 hx hby (v := (2 : Int32)) at_15 rfl rfl ?_
  refine Go.bipush X215 hx hby (v := (95 : Int32)) at_16 rfl rfl ?_
  refine Go.iastore X215 hx hby hZ e215 A215 (own_inK (n := 32) rfl (by decide)) at_18 rfl (fun T217 h217 X217 e217 W217 A217 => ?_)
  have N217 := Fr.snoc X217 N215 (Nat.le_trans Z0 na_bb)
  have K217 := Keep.wr K215 W217 (Or.inr na_bb)
  have A217 : AryI Z h217 bb .int ([(65 : Int32), (90 : Int32), (95 : Int32), 0, 0, 0, 0, 0, 0, 0, 0, 0, 0, 0, 0, 0, 0, 0, 0, 0, 0, 0, 0, 0, 0, 0, 0, 0, 0, 0, 0, 0] : List Int32) := A217
  refine Go.dup X217 hx hby at_19 rfl rfl ?_
  refine Go.iconst X217 hx hby (v := (3 : Int32)) at_20 rfl rfl ?_
  refine Go.bipush X217 hx hby (v := (97 : Int32)) at_21 rfl rfl ?_
  refine Go.iastore X217 hx hby hZ e217 A217 (own_inK (n := 32) rfl (by decide)) at_23 rfl (fun T219 h219 X219 e219 W219 A219 => ?_)
  have N219 := Fr.snoc X219 N217 (Nat.le_trans Z0 na_bb)
  have K219 := Keep.wr K217 W219 (Or.inr na_bb)
  have A219 : AryI Z h219 bb .int ([(65 : Int32), (90 : Int32), (95 : Int32), (97 : Int32), 0, 0, 0, 0, 0, 0, 0, 0, 0, 0, 0, 0, 0, 0, 0, 0, 0, 0, 0, 0, 0, 0, 0, 0, 0, 0, 0, 0] : List Int32) := A219
  refine Go.dup X219 hx hby at_24 rfl rfl ?_
  refine Go.iconst X219 hx hby (v := (4 : Int32)) at_25 rfl rfl ?_
  refine Go.bipush X219 hx hby (v := (122 : Int32)) at_26 rfl rfl ?_
  refine Go.iastore X219 hx hby hZ e219 A219 (own_inK (n := 32) rfl (by decide)) at_28 rfl (fun T221 h221 X221 e221 W221 A221 => ?_)
  have N221 := Fr.snoc X221 N219 (Nat.le_trans Z0 na_bb)
  have K221 := Keep.wr K219 W221 (Or.inr na_bb)
  have A221 : AryI Z h221 bb .int ([(65 : Int32), (90 : Int32), (95 : Int32), (97 : Int32), (122 : Int32), 0, 0, 0, 0, 0, 0, 0, 0, 0, 0, 0, 0, 0, 0, 0, 0, 0, 0, 0, 0, 0, 0, 0, 0, 0, 0, 0] : List Int32) := A221
  refine Go.dup X221 hx hby at_29 rfl rfl ?_
  refine Go.iconst X221 hx hby (v := (5 : Int32)) at_30 rfl rfl ?_
  refine Go.sipush X221 hx hby (v := (192 : Int32)) at_31 rfl rfl ?_
  refine Go.iastore X221 hx hby hZ e221 A221 (own_inK (n := 32) rfl (by decide)) at_34 rfl (fun T223 h223 X223 e223 W223 A223 => ?_)
  have N223 := Fr.snoc X223 N221 (Nat.le_trans Z0 na_bb)
  have K223 := Keep.wr K221 W223 (Or.inr na_bb)
  have A223 : AryI Z h223 bb .int ([(65 : Int32), (90 : Int32), (95 : Int32), (97 : Int32), (122 : Int32), (192 : Int32), 0, 0, 0, 0, 0, 0, 0, 0, 0, 0, 0, 0, 0, 0, 0, 0, 0, 0, 0, 0, 0, 0, 0, 0, 0, 0] : List Int32) := A223
  refine Go.dup X223 hx hby at_35 rfl rfl ?_
  refine Go.bipush X223 hx hby (v := (6 : Int32)) at_36 rfl rfl ?_
  refine Go.sipush X223 hx hby (v := (214 : Int32)) at_38 rfl rfl ?_
  refine Go.iastore X223 hx hby hZ e223 A223 (own_inK (n := 32) rfl (by decide)) at_41 rfl (fun T225 h225 X225 e225 W225 A225 => ?_)
  have N225 := Fr.snoc X225 N223 (Nat.le_trans Z0 na_bb)
  have K225 := Keep.wr K223 W225 (Or.inr na_bb)
  have A225 : AryI Z h225 bb .int ([(65 : Int32), (90 : Int32), (95 : Int32), (97 : Int32), (122 : Int32), (192 : Int32), (214 : Int32), 0, 0, 0, 0, 0, 0, 0, 0, 0, 0, 0, 0, 0, 0, 0, 0, 0, 0, 0, 0, 0, 0, 0, 0, 0] : List Int32) := A225
  refine Go.dup X225 hx hby at_42 rfl rfl ?_
  refine Go.bipush X225 hx hby (v := (7 : Int32)) at_43 rfl rfl ?_
  refine Go.sipush X225 hx hby (v := (216 : Int32)) at_45 rfl rfl ?_
  refine Go.iastore X225 hx hby hZ e225 A225 (own_inK (n := 32) rfl (by decide)) at_48 rfl (fun T227 h227 X227 e227 W227 A227 => ?_)
  have N227 := Fr.snoc X227 N225 (Nat.le_trans Z0 na_bb)
  have K227 := Keep.wr K225 W227 (Or.inr na_bb)
  have A227 : AryI Z h227 bb .int ([(65 : Int32), (90 : Int32), (95 : Int32), (97 : Int32), (122 : Int32), (192 : Int32), (214 : Int32), (216 : Int32), 0, 0, 0, 0, 0, 0, 0, 0, 0, 0, 0, 0, 0, 0, 0, 0, 0, 0, 0, 0, 0, 0, 0, 0] : List Int32) := A227
  refine Go.dup X227 hx hby at_49 rfl rfl ?_
  refine Go.bipush X227 hx hby (v := (8 : Int32)) at_50 rfl rfl ?_
  refine Go.sipush X227 hx hby (v := (246 : Int32)) at_52 rfl rfl ?_
  refine Go.iastore X227 hx hby hZ e227 A227 (own_inK (n := 32) rfl (by decide)) at_55 rfl (fun T229 h229 X229 e229 W229 A229 => ?_)
  have N229 := Fr.snoc X229 N227 (Nat.le_trans Z0 na_bb)
  have K229 := Keep.wr K227 W229 (Or.inr na_bb)
  have A229 : AryI Z h229 bb .int ([(65 : Int32), (90 : Int32), (95 : Int32), (97 : Int32), (122 : Int32), (192 : Int32), (214 : Int32), (216 : Int32), (246 : Int32), 0, 0, 0, 0, 0, 0, 0, 0, 0, 0, 0, 0, 0, 0, 0, 0, 0, 0, 0, 0, 0, 0, 0] : List Int32) := A229
  refine Go.dup X229 hx hby at_56 rfl rfl ?_
  refine Go.bipush X229 hx hby (v := (9 : Int32)) at_57 rfl rfl ?_
  refine Go.sipush X229 hx hby (v := (248 : Int32)) at_59 rfl rfl ?_
  refine Go.iastore X229 hx hby hZ e229 A229 (own_inK (n := 32) rfl (by decide)) at_62 rfl (fun T231 h231 X231 e231 W231 A231 => ?_)
  have N231 := Fr.snoc X231 N229 (Nat.le_trans Z0 na_bb)
  have K231 := Keep.wr K229 W231 (Or.inr na_bb)
  have A231 : AryI Z h231 bb .int ([(65 : Int32), (90 : Int32), (95 : Int32), (97 : Int32), (122 : Int32), (192 : Int32), (214 : Int32), (216 : Int32), (246 : Int32), (248 : Int32), 0, 0, 0, 0, 0, 0, 0, 0, 0, 0, 0, 0, 0, 0, 0, 0, 0, 0, 0, 0, 0, 0] : List Int32) := A231
  refine Go.dup X231 hx hby at_63 rfl rfl ?_
  refine Go.bipush X231 hx hby (v := (10 : Int32)) at_64 rfl rfl ?_
  refine Go.sipush X231 hx hby (v := (767 : Int32)) at_66 rfl rfl ?_
  refine Go.iastore X231 hx hby hZ e231 A231 (own_inK (n := 32) rfl (by decide)) at_69 rfl (fun T233 h233 X233 e233 W233 A233 => ?_)
  have N233 := Fr.snoc X233 N231 (Nat.le_trans Z0 na_bb)
  have K233 := Keep.wr K231 W233 (Or.inr na_bb)
  have A233 : AryI Z h233 bb .int ([(65 : Int32), (90 : Int32), (95 : Int32), (97 : Int32), (122 : Int32), (192 : Int32), (214 : Int32), (216 : Int32), (246 : Int32), (248 : Int32), (767 : Int32), 0, 0, 0, 0, 0, 0, 0, 0, 0, 0, 0, 0, 0, 0, 0, 0, 0, 0, 0, 0, 0] : List Int32) := A233
  refine Go.dup X233 hx hby at_70 rfl rfl ?_
  refine Go.bipush X233 hx hby (v := (11 : Int32)) at_71 rfl rfl ?_
  refine Go.sipush X233 hx hby (v := (880 : Int32)) at_73 rfl rfl ?_
  refine Go.iastore X233 hx hby hZ e233 A233 (own_inK (n := 32) rfl (by decide)) at_76 rfl (fun T235 h235 X235 e235 W235 A235 => ?_)
  have N235 := Fr.snoc X235 N233 (Nat.le_trans Z0 na_bb)
  have K235 := Keep.wr K233 W235 (Or.inr na_bb)
  have A235 : AryI Z h235 bb .int ([(65 : Int32), (90 : Int32), (95 : Int32), (97 : Int32), (122 : Int32), (192 : Int32), (214 : Int32), (216 : Int32), (246 : Int32), (248 : Int32), (767 : Int32), (880 : Int32), 0, 0, 0, 0, 0, 0, 0, 0, 0, 0, 0, 0, 0, 0, 0, 0, 0, 0, 0, 0] : List Int32) := A235
  refine Go.dup X235 hx hby at_77 rfl rfl ?_
  refine Go.bipush X235 hx hby (v := (12 : Int32)) at_78 rfl rfl ?_
  refine Go.sipush X235 hx hby (v := (893 : Int32)) at_80 rfl rfl ?_
  refine Go.iastore X235 hx hby hZ e235 A235 (own_inK (n := 32) rfl (by decide)) at_83 rfl (fun T237 h237 X237 e237 W237 A237 => ?_)
  have N237 := Fr.snoc X237 N235 (Nat.le_trans Z0 na_bb)
  have K237 := Keep.wr K235 W237 (Or.inr na_bb)
  have A237 : AryI Z h237 bb .int ([(65 : Int32), (90 : Int32), (95 : Int32), (97 : Int32), (122 : Int32), (192 : Int32), (214 : Int32), (216 : Int32), (246 : Int32), (248 : Int32), (767 : Int32), (880 : Int32), (893 : Int32), 0, 0, 0, 0, 0, 0, 0, 0, 0, 0, 0, 0, 0, 0, 0, 0, 0, 0, 0] : List Int32) := A237
  refine Go.dup X237 hx hby at_84 rfl rfl ?_
  refine Go.bipush X237 hx hby (v := (13 : Int32)) at_85 rfl rfl ?_
  refine Go.sipush X237 hx hby (v := (895 : Int32)) at_87 rfl rfl ?_
  refine Go.iastore X237 hx hby hZ e237 A237 (own_inK (n := 32) rfl (by decide)) at_90 rfl (fun T239 h239 X239 e239 W239 A239 => ?_)
  have N239 := Fr.snoc X239 N237 (Nat.le_trans Z0 na_bb)
  have K239 := Keep.wr K237 W239 (Or.inr na_bb)
  have A239 : AryI Z h239 bb .int ([(65 : Int32), (90 : Int32), (95 : Int32), (97 : Int32), (122 : Int32), (192 : Int32), (214 : Int32), (216 : Int32), (246 : Int32), (248 : Int32), (767 : Int32), (880 : Int32), (893 : Int32), (895 : Int32), 0, 0, 0, 0, 0, 0, 0, 0, 0, 0, 0, 0, 0, 0, 0, 0, 0, 0] : List Int32) := A239
  refine Go.dup X239 hx hby at_91 rfl rfl ?_
  refine Go.bipush X239 hx hby (v := (14 : Int32)) at_92 rfl rfl ?_
  refine Go.sipush X239 hx hby (v := (8191 : Int32)) at_94 rfl rfl ?_
  refine Go.iastore X239 hx hby hZ e239 A239 (own_inK (n := 32) rfl (by decide)) at_97 rfl (fun T241 h241 X241 e241 W241 A241 => ?_)
  have N241 := Fr.snoc X241 N239 (Nat.le_trans Z0 na_bb)
  have K241 := Keep.wr K239 W241 (Or.inr na_bb)
  have A241 : AryI Z h241 bb .int ([(65 : Int32), (90 : Int32), (95 : Int32), (97 : Int32), (122 : Int32), (192 : Int32), (214 : Int32), (216 : Int32), (246 : Int32), (248 : Int32), (767 : Int32), (880 : Int32), (893 : Int32), (895 : Int32), (8191 : Int32), 0, 0, 0, 0, 0, 0, 0, 0, 0, 0, 0, 0, 0, 0, 0, 0, 0] : List Int32) := A241
  refine Go.dup X241 hx hby at_98 rfl rfl ?_
  refine Go.bipush X241 hx hby (v := (15 : Int32)) at_99 rfl rfl ?_
  refine Go.sipush X241 hx hby (v := (8204 : Int32)) at_101 rfl rfl ?_
  refine Go.iastore X241 hx hby hZ e241 A241 (own_inK (n := 32) rfl (by decide)) at_104 rfl (fun T243 h243 X243 e243 W243 A243 => ?_)
  have N243 := Fr.snoc X243 N241 (Nat.le_trans Z0 na_bb)
  have K243 := Keep.wr K241 W243 (Or.inr na_bb)
  have A243 : AryI Z h243 bb .int ([(65 : Int32), (90 : Int32), (95 : Int32), (97 : Int32), (122 : Int32), (192 : Int32), (214 : Int32), (216 : Int32), (246 : Int32), (248 : Int32), (767 : Int32), (880 : Int32), (893 : Int32), (895 : Int32), (8191 : Int32), (8204 : Int32), 0, 0, 0, 0, 0, 0, 0, 0, 0, 0, 0, 0, 0, 0, 0, 0] : List Int32) := A243
  refine Go.dup X243 hx hby at_105 rfl rfl ?_
  refine Go.bipush X243 hx hby (v := (16 : Int32)) at_106 rfl rfl ?_
  refine Go.sipush X243 hx hby (v := (8205 : Int32)) at_108 rfl rfl ?_
  refine Go.iastore X243 hx hby hZ e243 A243 (own_inK (n := 32) rfl (by decide)) at_111 rfl (fun T245 h245 X245 e245 W245 A245 => ?_)
  have N245 := Fr.snoc X245 N243 (Nat.le_trans Z0 na_bb)
  have K245 := Keep.wr K243 W245 (Or.inr na_bb)
  have A245 : AryI Z h245 bb .int ([(65 : Int32), (90 : Int32), (95 : Int32), (97 : Int32), (122 : Int32), (192 : Int32), (214 : Int32), (216 : Int32), (246 : Int32), (248 : Int32), (767 : Int32), (880 : Int32), (893 : Int32), (895 : Int32), (8191 : Int32), (8204 : Int32), (8205 : Int32), 0, 0, 0, 0, 0, 0, 0, 0, 0, 0, 0, 0, 0, 0, 0] : List Int32) := A245
  refine Go.dup X245 hx hby at_112 rfl rfl ?_
  refine Go.bipush X245 hx hby (v := (17 : Int32)) at_113 rfl rfl ?_
  refine Go.sipush X245 hx hby (v := (8304 : Int32)) at_115 rfl rfl ?_
  refine Go.iastore X245 hx hby hZ e245 A245 (own_inK (n := 32) rfl (by decide)) at_118 rfl (fun T247 h247 X247 e247 W247 A247 => ?_)
  have N247 := Fr.snoc X247 N245 (Nat.le_trans Z0 na_bb)
  have K247 := Keep.wr K245 W247 (Or.inr na_bb)
  have A247 : AryI Z h247 bb .int ([(65 : Int32), (90 : Int32), (95 : Int32), (97 : Int32), (122 : Int32), (192 : Int32), (214 : Int32), (216 : Int32), (246 : Int32), (248 : Int32), (767 : Int32), (880 : Int32), (893 : Int32), (895 : Int32), (8191 : Int32), (8204 : Int32), (8205 : Int32), (8304 : Int32), 0, 0, 0, 0, 0, 0, 0, 0, 0, 0, 0, 0, 0, 0] : List Int32) := A247
  refine Go.dup X247 hx hby at_119 rfl rfl ?_
  refine Go.bipush X247 hx hby (v := (18 : Int32)) at_120 rfl rfl ?_
  refine Go.sipush X247 hx hby (v := (8591 : Int32)) at_122 rfl rfl ?_
  refine Go.iastore X247 hx hby hZ e247 A247 (own_inK (n := 32) rfl (by decide)) at_125 rfl (fun T249 h249 X249 e249 W249 A249 => ?_)
  have N249 := Fr.snoc X249 N247 (Nat.le_trans Z0 na_bb)
  have K249 := Keep.wr K247 W249 (Or.inr na_bb)
  have A249 : AryI Z h249 bb .int ([(65 : Int32), (90 : Int32), (95 : Int32), (97 : Int32), (122 : Int32), (192 : Int32), (214 : Int32), (216 : Int32), (246 : Int32), (248 : Int32), (767 : Int32), (880 : Int32), (893 : Int32), (895 : Int32), (8191 : Int32), (8204 : Int32), (8205 : Int32), (8304 : Int32), (8591 : Int32), 0, 0, 0, 0, 0, 0, 0, 0, 0, 0, 0, 0, 0] : List Int32) := A249
  refine Go.dup X249 hx hby at_126 rfl rfl ?_
  refine Go.bipush X249 hx hby (v := (19 : Int32)) at_127 rfl rfl ?_
  refine Go.sipush X249 hx hby (v := (11264 : Int32)) at_129 rfl rfl ?_
  refine Go.iastore X249 hx hby hZ e249 A249 (own_inK (n := 32) rfl (by decide)) at_132 rfl (fun T251 h251 X251 e251 W251 A251 => ?_)
  have N251 := Fr.snoc X251 N249 (Nat.le_trans Z0 na_bb)
  have K251 := Keep.wr K249 W251 (Or.inr na_bb)
  have A251 : AryI Z h251 bb .int ([(65 : Int32), (90 : Int32), (95 : Int32), (97 : Int32), (122 : Int32), (192 : Int32), (214 : Int32), (216 : Int32), (246 : Int32), (248 : Int32), (767 : Int32), (880 : Int32), (893 : Int32), (895 : Int32), (8191 : Int32), (8204 : Int32), (8205 : Int32), (8304 : Int32), (8591 : Int32), (11264 : Int32), 0, 0, 0, 0, 0, 0, 0, 0, 0, 0, 0, 0] : List Int32) := A251
  refine Go.dup X251 hx hby at_133 rfl rfl ?_
  refine Go.bipush X251 hx hby (v := (20 : Int32)) at_134 rfl rfl ?_
  refine Go.sipush X251 hx hby (v := (12271 : Int32)) at_136 rfl rfl ?_
  refine Go.iastore X251 hx hby hZ e251 A251 (own_inK (n := 32) rfl (by decide)) at_139 rfl (fun T253 h253 X253 e253 W253 A253 => ?_)
  have N253 := Fr.snoc X253 N251 (Nat.le_trans Z0 na_bb)
  have K253 := Keep.wr K251 W253 (Or.inr na_bb)
  have A253 : AryI Z h253 bb .int ([(65 : Int32), (90 : Int32), (95 : Int32), (97 : Int32), (122 : Int32), (192 : Int32), (214 : Int32), (216 : Int32), (246 : Int32), (248 : Int32), (767 : Int32), (880 : Int32), (893 : Int32), (895 : Int32), (8191 : Int32), (8204 : Int32), (8205 : Int32), (8304 : Int32), (8591 : Int32), (11264 : Int32), (12271 : Int32), 0, 0, 0, 0, 0, 0, 0, 0, 0, 0, 0] : List Int32) := A253
  refine Go.dup X253 hx hby at_140 rfl rfl ?_
  refine Go.bipush X253 hx hby (v := (21 : Int32)) at_141 rfl rfl ?_
  refine Go.sipush X253 hx hby (v := (12289 : Int32)) at_143 rfl rfl ?_
  refine Go.iastore X253 hx hby hZ e253 A253 (own_inK (n := 32) rfl (by decide)) at_146 rfl (fun T255 h255 X255 e255 W255 A255 => ?_)
  have N255 := Fr.snoc X255 N253 (Nat.le_trans Z0 na_bb)
  have K255 := Keep.wr K253 W255 (Or.inr na_bb)
  have A255 : AryI Z h255 bb .int ([(65 : Int32), (90 : Int32), (95 : Int32), (97 : Int32), (122 : Int32), (192 : Int32), (214 : Int32), (216 : Int32), (246 : Int32), (248 : Int32), (767 : Int32), (880 : Int32), (893 : Int32), (895 : Int32), (8191 : Int32), (8204 : Int32), (8205 : Int32), (8304 : Int32), (8591 : Int32), (11264 : Int32), (12271 : Int32), (12289 : Int32), 0, 0, 0, 0, 0, 0, 0, 0, 0, 0] : List Int32) := A255
  refine Go.dup X255 hx hby at_147 rfl rfl ?_
  refine Go.bipush X255 hx hby (v := (22 : Int32)) at_148 rfl rfl ?_
  refine Go.ldcI X255 hx hby hZ (v := (55295 : Int32)) hown (hw _ (List.mem_of_getElem? (i := 1) rfl)) at_150 rfl ?_
  refine Go.iastore X255 hx hby hZ e255 A255 (own_inK (n := 32) rfl (by decide)) at_152 rfl (fun T257 h257 X257 e257 W257 A257 => ?_)
  have N257 := Fr.snoc X257 N255 (Nat.le_trans Z0 na_bb)
  have K257 := Keep.wr K255 W257 (Or.inr na_bb)
  have A257 : AryI Z h257 bb .int ([(65 : Int32), (90 : Int32), (95 : Int32), (97 : Int32), (122 : Int32), (192 : Int32), (214 : Int32), (216 : Int32), (246 : Int32), (248 : Int32), (767 : Int32), (880 : Int32), (893 : Int32), (895 : Int32), (8191 : Int32), (8204 : Int32), (8205 : Int32), (8304 : Int32), (8591 : Int32), (11264 : Int32), (12271 : Int32), (12289 : Int32), (55295 : Int32), 0, 0, 0, 0, 0, 0, 0, 0, 0] : List Int32) := A257
  refine Go.dup X257 hx hby at_153 rfl rfl ?_
  refine Go.bipush X257 hx hby (v := (23 : Int32)) at_154 rfl rfl ?_
  refine Go.ldcI X257 hx hby hZ (v := (63744 : Int32)) hown (hw _ (List.mem_of_getElem? (i := 2) rfl)) at_156 rfl ?_
  refine Go.iastore X257 hx hby hZ e257 A257 (own_inK (n := 32) rfl (by decide)) at_158 rfl (fun T259 h259 X259 e259 W259 A259 => ?_)
  have N259 := Fr.snoc X259 N257 (Nat.le_trans Z0 na_bb)
  have K259 := Keep.wr K257 W259 (Or.inr na_bb)
  have A259 : AryI Z h259 bb .int ([(65 : Int32), (90 : Int32), (95 : Int32), (97 : Int32), (122 : Int32), (192 : Int32), (214 : Int32), (216 : Int32), (246 : Int32), (248 : Int32), (767 : Int32), (880 : Int32), (893 : Int32), (895 : Int32), (8191 : Int32), (8204 : Int32), (8205 : Int32), (8304 : Int32), (8591 : Int32), (11264 : Int32), (12271 : Int32), (12289 : Int32), (55295 : Int32), (63744 : Int32), 0, 0, 0, 0, 0, 0, 0, 0] : List Int32) := A259
  refine Go.dup X259 hx hby at_159 rfl rfl ?_
  refine Go.bipush X259 hx hby (v := (24 : Int32)) at_160 rfl rfl ?_
  refine Go.ldcI X259 hx hby hZ (v := (64975 : Int32)) hown (hw _ (List.mem_of_getElem? (i := 3) rfl)) at_162 rfl ?_
  refine Go.iastore X259 hx hby hZ e259 A259 (own_inK (n := 32) rfl (by decide)) at_164 rfl (fun T261 h261 X261 e261 W261 A261 => ?_)
  have N261 := Fr.snoc X261 N259 (Nat.le_trans Z0 na_bb)
  have K261 := Keep.wr K259 W261 (Or.inr na_bb)
  have A261 : AryI Z h261 bb .int ([(65 : Int32), (90 : Int32), (95 : Int32), (97 : Int32), (122 : Int32), (192 : Int32), (214 : Int32), (216 : Int32), (246 : Int32), (248 : Int32), (767 : Int32), (880 : Int32), (893 : Int32), (895 : Int32), (8191 : Int32), (8204 : Int32), (8205 : Int32), (8304 : Int32), (8591 : Int32), (11264 : Int32), (12271 : Int32), (12289 : Int32), (55295 : Int32), (63744 : Int32), (64975 : Int32), 0, 0, 0, 0, 0, 0, 0] : List Int32) := A261
  refine Go.dup X261 hx hby at_165 rfl rfl ?_
  refine Go.bipush X261 hx hby (v := (25 : Int32)) at_166 rfl rfl ?_
  refine Go.ldcI X261 hx hby hZ (v := (65008 : Int32)) hown (hw _ (List.mem_of_getElem? (i := 4) rfl)) at_168 rfl ?_
  refine Go.iastore X261 hx hby hZ e261 A261 (own_inK (n := 32) rfl (by decide)) at_170 rfl (fun T263 h263 X263 e263 W263 A263 => ?_)
  have N263 := Fr.snoc X263 N261 (Nat.le_trans Z0 na_bb)
  have K263 := Keep.wr K261 W263 (Or.inr na_bb)
  have A263 : AryI Z h263 bb .int ([(65 : Int32), (90 : Int32), (95 : Int32), (97 : Int32), (122 : Int32), (192 : Int32), (214 : Int32), (216 : Int32), (246 : Int32), (248 : Int32), (767 : Int32), (880 : Int32), (893 : Int32), (895 : Int32), (8191 : Int32), (8204 : Int32), (8205 : Int32), (8304 : Int32), (8591 : Int32), (11264 : Int32), (12271 : Int32), (12289 : Int32), (55295 : Int32), (63744 : Int32), (64975 : Int32), (65008 : Int32), 0, 0, 0, 0, 0, 0] : List Int32) := A263
  refine Go.dup X263 hx hby at_171 rfl rfl ?_
  refine Go.bipush X263 hx hby (v := (26 : Int32)) at_172 rfl rfl ?_
  refine Go.ldcI X263 hx hby hZ (v := (65533 : Int32)) hown (hw _ (List.mem_of_getElem? (i := 5) rfl)) at_174 rfl ?_
  refine Go.iastore X263 hx hby hZ e263 A263 (own_inK (n := 32) rfl (by decide)) at_176 rfl (fun T265 h265 X265 e265 W265 A265 => ?_)
  have N265 := Fr.snoc X265 N263 (Nat.le_trans Z0 na_bb)
  have K265 := Keep.wr K263 W265 (Or.inr na_bb)
  have A265 : AryI Z h265 bb .int ([(65 : Int32), (90 : Int32), (95 : Int32), (97 : Int32), (122 : Int32), (192 : Int32), (214 : Int32), (216 : Int32), (246 : Int32), (248 : Int32), (767 : Int32), (880 : Int32), (893 : Int32), (895 : Int32), (8191 : Int32), (8204 : Int32), (8205 : Int32), (8304 : Int32), (8591 : Int32), (11264 : Int32), (12271 : Int32), (12289 : Int32), (55295 : Int32), (63744 : Int32), (64975 : Int32), (65008 : Int32), (65533 : Int32), 0, 0, 0, 0, 0] : List Int32) := A265
  refine Go.dup X265 hx hby at_177 rfl rfl ?_
  refine Go.bipush X265 hx hby (v := (27 : Int32)) at_178 rfl rfl ?_
  refine Go.ldcI X265 hx hby hZ (v := (65536 : Int32)) hown (hw _ (List.mem_of_getElem? (i := 6) rfl)) at_180 rfl ?_
  refine Go.iastore X265 hx hby hZ e265 A265 (own_inK (n := 32) rfl (by decide)) at_182 rfl (fun T267 h267 X267 e267 W267 A267 => ?_)
  have N267 := Fr.snoc X267 N265 (Nat.le_trans Z0 na_bb)
  have K267 := Keep.wr K265 W267 (Or.inr na_bb)
  have A267 : AryI Z h267 bb .int ([(65 : Int32), (90 : Int32), (95 : Int32), (97 : Int32), (122 : Int32), (192 : Int32), (214 : Int32), (216 : Int32), (246 : Int32), (248 : Int32), (767 : Int32), (880 : Int32), (893 : Int32), (895 : Int32), (8191 : Int32), (8204 : Int32), (8205 : Int32), (8304 : Int32), (8591 : Int32), (11264 : Int32), (12271 : Int32), (12289 : Int32), (55295 : Int32), (63744 : Int32), (64975 : Int32), (65008 : Int32), (65533 : Int32), (65536 : Int32), 0, 0, 0, 0] : List Int32) := A267
  refine Go.dup X267 hx hby at_183 rfl rfl ?_
  refine Go.bipush X267 hx hby (v := (28 : Int32)) at_184 rfl rfl ?_
  refine Go.ldcI X267 hx hby hZ (v := (983039 : Int32)) hown (hw _ (List.mem_of_getElem? (i := 7) rfl)) at_186 rfl ?_
  refine Go.iastore X267 hx hby hZ e267 A267 (own_inK (n := 32) rfl (by decide)) at_188 rfl (fun T269 h269 X269 e269 W269 A269 => ?_)
  have N269 := Fr.snoc X269 N267 (Nat.le_trans Z0 na_bb)
  have K269 := Keep.wr K267 W269 (Or.inr na_bb)
  have A269 : AryI Z h269 bb .int ([(65 : Int32), (90 : Int32), (95 : Int32), (97 : Int32), (122 : Int32), (192 : Int32), (214 : Int32), (216 : Int32), (246 : Int32), (248 : Int32), (767 : Int32), (880 : Int32), (893 : Int32), (895 : Int32), (8191 : Int32), (8204 : Int32), (8205 : Int32), (8304 : Int32), (8591 : Int32), (11264 : Int32), (12271 : Int32), (12289 : Int32), (55295 : Int32), (63744 : Int32), (64975 : Int32), (65008 : Int32), (65533 : Int32), (65536 : Int32), (983039 : Int32), 0, 0, 0] : List Int32) := A269
  refine Go.dup X269 hx hby at_189 rfl rfl ?_
  refine Go.bipush X269 hx hby (v := (29 : Int32)) at_190 rfl rfl ?_
  refine Go.iconst X269 hx hby (v := (0 : Int32)) at_192 rfl rfl ?_
  refine Go.iastore X269 hx hby hZ e269 A269 (own_inK (n := 32) rfl (by decide)) at_193 rfl (fun T271 h271 X271 e271 W271 A271 => ?_)
  have N271 := Fr.snoc X271 N269 (Nat.le_trans Z0 na_bb)
  have K271 := Keep.wr K269 W271 (Or.inr na_bb)
  have A271 : AryI Z h271 bb .int ([(65 : Int32), (90 : Int32), (95 : Int32), (97 : Int32), (122 : Int32), (192 : Int32), (214 : Int32), (216 : Int32), (246 : Int32), (248 : Int32), (767 : Int32), (880 : Int32), (893 : Int32), (895 : Int32), (8191 : Int32), (8204 : Int32), (8205 : Int32), (8304 : Int32), (8591 : Int32), (11264 : Int32), (12271 : Int32), (12289 : Int32), (55295 : Int32), (63744 : Int32), (64975 : Int32), (65008 : Int32), (65533 : Int32), (65536 : Int32), (983039 : Int32), (0 : Int32), 0, 0] : List Int32) := A271
  refine Go.dup X271 hx hby at_194 rfl rfl ?_
  refine Go.bipush X271 hx hby (v := (30 : Int32)) at_195 rfl rfl ?_
  refine Go.ldcI X271 hx hby hZ (v := (-2147483647 : Int32)) hown (hw _ (List.mem_of_getElem? (i := 8) rfl)) at_197 rfl ?_
  refine Go.iastore X271 hx hby hZ e271 A271 (own_inK (n := 32) rfl (by decide)) at_199 rfl (fun T273 h273 X273 e273 W273 A273 => ?_)
  have N273 := Fr.snoc X273 N271 (Nat.le_trans Z0 na_bb)
  have K273 := Keep.wr K271 W273 (Or.inr na_bb)
  have A273 : AryI Z h273 bb .int ([(65 : Int32), (90 : Int32), (95 : Int32), (97 : Int32), (122 : Int32), (192 : Int32), (214 : Int32), (216 : Int32), (246 : Int32), (248 : Int32), (767 : Int32), (880 : Int32), (893 : Int32), (895 : Int32), (8191 : Int32), (8204 : Int32), (8205 : Int32), (8304 : Int32), (8591 : Int32), (11264 : Int32), (12271 : Int32), (12289 : Int32), (55295 : Int32), (63744 : Int32), (64975 : Int32), (65008 : Int32), (65533 : Int32), (65536 : Int32), (983039 : Int32), (0 : Int32), (-2147483647 : Int32), 0] : List Int32) := A273
  refine Go.dup X273 hx hby at_200 rfl rfl ?_
  refine Go.bipush X273 hx hby (v := (31 : Int32)) at_201 rfl rfl ?_
  refine Go.ldcI X273 hx hby hZ (v := (2147483646 : Int32)) hown (hw _ (List.mem_of_getElem? (i := 9) rfl)) at_203 rfl ?_
  refine Go.iastore X273 hx hby hZ e273 A273 (own_inK (n := 32) rfl (by decide)) at_205 rfl (fun T275 h275 X275 e275 W275 A275 => ?_)
  have N275 := Fr.snoc X275 N273 (Nat.le_trans Z0 na_bb)
  have K275 := Keep.wr K273 W275 (Or.inr na_bb)
  have A275 : AryI Z h275 bb .int ([(65 : Int32), (90 : Int32), (95 : Int32), (97 : Int32), (122 : Int32), (192 : Int32), (214 : Int32), (216 : Int32), (246 : Int32), (248 : Int32), (767 : Int32), (880 : Int32), (893 : Int32), (895 : Int32), (8191 : Int32), (8204 : Int32), (8205 : Int32), (8304 : Int32), (8591 : Int32), (11264 : Int32), (12271 : Int32), (12289 : Int32), (55295 : Int32), (63744 : Int32), (64975 : Int32), (65008 : Int32), (65533 : Int32), (65536 : Int32), (983039 : Int32), (0 : Int32), (-2147483647 : Int32), (2147483646 : Int32)] : List Int32) := A275
  refine Go.astore X275 hx hby (Ls' := #[.val (.int x0), .val (.int x1), .val (.int x2), .val (.int x3), .val (.ref bb), .unset]) at_206 rfl rfl rfl ?_
  refine Go.iloadN X275 hx hby (v := x0) at_208 rfl rfl ?_
  refine Go.iconst X275 hx hby (v := (1 : Int32)) at_209 rfl rfl ?_
  refine Go.iand X275 hx hby at_210 rfl ?_
  refine Go.if_eq X275 hx hby (pc' := 220) at_211 (by decide) (by decide) rfl (fun hc276 => ?_) (fun hc276 => ?_)
  · replace hf := (if_pos hc276).symm.trans hf
    refine Go.aload X275 hx hby (v := .ref bb) at_220 rfl rfl rfl ?_
    refine Go.iloadN X275 hx hby (v := x2) at_222 rfl rfl ?_
    refine Go.bipush X275 hx hby (v := (31 : Int32)) at_223 rfl rfl ?_
    refine Go.iand X275 hx hby at_225 rfl ?_
    rcases Decidable.em (inA ([(65 : Int32), (90 : Int32), (95 : Int32), (97 : Int32), (122 : Int32), (192 : Int32), (214 : Int32), (216 : Int32), (246 : Int32), (248 : Int32), (767 : Int32), (880 : Int32), (893 : Int32), (895 : Int32), (8191 : Int32), (8204 : Int32), (8205 : Int32), (8304 : Int32), (8591 : Int32), (11264 : Int32), (12271 : Int32), (12289 : Int32), (55295 : Int32), (63744 : Int32), (64975 : Int32), (65008 : Int32), (65533 : Int32), (65536 : Int32), (983039 : Int32), (0 : Int32), (-2147483647 : Int32), (2147483646 : Int32)] : List Int32) (x2 &&& (31 : Int32))) with hj277 | hj277
    case inr => exact absurd ((if_neg hj277).symm.trans hf) nofun
    replace hf := (if_pos hj277).symm.trans hf
    refine Go.iaload X275 hx hby hZ e275 A275 hj277 at_226 rfl ?_
    refine Go.iloadN X275 hx hby (v := x3) at_227 rfl rfl ?_
    refine Go.iconst X275 hx hby (v := (3 : Int32)) at_228 rfl rfl ?_
    refine Go.iand X275 hx hby at_229 rfl ?_
    refine Go.iconst X275 hx hby (v := (3 : Int32)) at_230 rfl rfl ?_
    refine Go.irem X275 hx hby at_231 rfl (by decide) ?_
    refine Go.iconst X275 hx hby (v := (1 : Int32)) at_232 rfl rfl ?_
    refine Go.isub X275 hx hby at_233 rfl ?_
    refine Go.iadd X275 hx hby at_234 rfl ?_
    refine Go.istore X275 hx hby (Ls' := #[.val (.int x0), .val (.int x1), .val (.int x2), .val (.int x3), .val (.ref bb), .val (.int ((atA ([(65 : Int32), (90 : Int32), (95 : Int32), (97 : Int32), (122 : Int32), (192 : Int32), (214 : Int32), (216 : Int32), (246 : Int32), (248 : Int32), (767 : Int32), (880 : Int32), (893 : Int32), (895 : Int32), (8191 : Int32), (8204 : Int32), (8205 : Int32), (8304 : Int32), (8591 : Int32), (11264 : Int32), (12271 : Int32), (12289 : Int32), (55295 : Int32), (63744 : Int32), (64975 : Int32), (65008 : Int32), (65533 : Int32), (65536 : Int32), (983039 : Int32), (0 : Int32), (-2147483647 : Int32), (2147483646 : Int32)] : List Int32) (x2 &&& (31 : Int32))) + ((remI (x3 &&& (3 : Int32)) (3 : Int32)) - (1 : Int32))))]) at_235 rfl rfl ?_
    exact B237 T275 h275 _ X275 e275 N275 K275 bb na_bb  ([(65 : Int32), (90 : Int32), (95 : Int32), (97 : Int32), (122 : Int32), (192 : Int32), (214 : Int32), (216 : Int32), (246 : Int32), (248 : Int32), (767 : Int32), (880 : Int32), (893 : Int32), (895 : Int32), (8191 : Int32), (8204 : Int32), (8205 : Int32), (8304 : Int32), (8591 : Int32), (11264 : Int32), (12271 : Int32), (12289 : Int32), (55295 : Int32), (63744 : Int32), (64975 : Int32), (65008 : Int32), (65533 : Int32), (65536 : Int32), (983039 : Int32), (0 : Int32), (-2147483647 : Int32), (2147483646 : Int32)] : List Int32) A275 x0 x1 x2 x3 ((atA ([(65 : Int32), (90 : Int32), (95 : Int32), (97 : Int32), (122 : Int32), (192 : Int32), (214 : Int32), (216 : Int32), (246 : Int32), (248 : Int32), (767 : Int32), (880 : Int32), (893 : Int32), (895 : Int32), (8191 : Int32), (8204 : Int32), (8205 : Int32), (8304 : Int32), (8591 : Int32), (11264 : Int32), (12271 : Int32), (12289 : Int32), (55295 : Int32), (63744 : Int32), (64975 : Int32), (65008 : Int32), (65533 : Int32), (65536 : Int32), (983039 : Int32), (0 : Int32), (-2147483647 : Int32), (2147483646 : Int32)] : List Int32) (x2 &&& (31 : Int32))) + ((remI (x3 &&& (3 : Int32)) (3 : Int32)) - (1 : Int32))) hf
  · replace hf := (if_neg hc276).symm.trans hf
    refine Go.iloadN X275 hx hby (v := x1) at_214 rfl rfl ?_
    refine Go.istore X275 hx hby (Ls' := #[.val (.int x0), .val (.int x1), .val (.int x2), .val (.int x3), .val (.ref bb), .val (.int x1)]) at_215 rfl rfl ?_
    refine Go.goto X275 hx hby (pc' := 237) at_217 (by decide) (by decide) ?_
    exact B237 T275 h275 _ X275 e275 N275 K275 bb na_bb  ([(65 : Int32), (90 : Int32), (95 : Int32), (97 : Int32), (122 : Int32), (192 : Int32), (214 : Int32), (216 : Int32), (246 : Int32), (248 : Int32), (767 : Int32), (880 : Int32), (893 : Int32), (895 : Int32), (8191 : Int32), (8204 : Int32), (8205 : Int32), (8304 : Int32), (8591 : Int32), (11264 : Int32), (12271 : Int32), (12289 : Int32), (55295 : Int32), (63744 : Int32), (64975 : Int32), (65008 : Int32), (65533 : Int32), (65536 : Int32), (983039 : Int32), (0 : Int32), (-2147483647 : Int32), (2147483646 : Int32)] : List Int32) A275 x0 x1 x2 x3 x1 hf
theorem own_mask (x : Int32) (k : Nat) (hk : k ≤ 31) (m : Int32) (hm : m = Int32.ofNat (2 ^ k - 1)) : (x &&& m).toInt = x.toInt % (2 ^ k : Nat) := by
  subst hm
  have h1 : (x &&& Int32.ofNat (2 ^ k - 1)).toBitVec.toNat = x.toBitVec.toNat % 2 ^ k := by
    rw [Int32.toBitVec_and, BitVec.toNat_and]
    have : (Int32.ofNat (2 ^ k - 1)).toBitVec.toNat = 2 ^ k - 1 := by
      show (BitVec.ofNat 32 (2 ^ k - 1)).toNat = _
      rw [BitVec.toNat_ofNat]
      apply Nat.mod_eq_of_lt
      have : 2 ^ k ≤ 2 ^ 31 := Nat.pow_le_pow_right (by decide) hk
      omega
    rw [this, Nat.and_two_pow_sub_one_eq_mod]
  have hp : 2 ^ k ≤ 2 ^ 31 := Nat.pow_le_pow_right (by decide) hk
  have hpos : 0 < 2 ^ k := Nat.two_pow_pos k
  have hlt := Nat.mod_lt x.toBitVec.toNat hpos
  show (x &&& Int32.ofNat (2 ^ k - 1)).toBitVec.toInt = x.toBitVec.toInt % _
  rw [BitVec.toInt_eq_toNat_cond, h1, if_pos (by omega), BitVec.toInt_eq_toNat_cond]
  split
  · simp
  · have hd : (2 ^ k : Nat) ∣ 2 ^ 32 := Nat.pow_dvd_pow 2 (by omega)
    obtain ⟨q, hq⟩ := hd
    rw [Int.sub_emod, show ((2 ^ 32 : Nat) : Int) % (2 ^ k : Nat) = 0 by rw [hq]; simp]
    simp
theorem own_fin32 (x : Int32) (N : Nat) (h0 : 0 ≤ x.toInt) (h1 : x.toInt < N) : ∃ n : Fin N, x = Int32.ofNat n.val := by
  refine ⟨⟨x.toInt.toNat, by omega⟩, Int32.toInt_inj.mp ?_⟩
  have := x.toInt_lt
  rw [Int32.toInt_ofNat_of_lt (by show x.toInt.toNat < _; omega)]
  show x.toInt = (x.toInt.toNat : Int); omega
theorem own_remI (x y : Int32) (hx : 0 ≤ x.toInt) (hy : 0 < y.toInt) : (remI x y).toInt = x.toInt % y.toInt := by
  have h1 := x.toInt_lt; have h2 := y.toInt_lt
  have hq : (x / y).toInt = x.toInt / y.toInt := by
    rw [Int32.toInt_div, Int.tdiv_eq_ediv_of_nonneg hx]
    have a1 : 0 ≤ x.toInt / y.toInt := Int.ediv_nonneg hx (by omega)
    have a2 : x.toInt / y.toInt ≤ x.toInt := Int.ediv_le_self _ hx
    exact Int.bmod_eq_of_le (by omega) (by omega)
  have e := Int.emod_add_mul_ediv x.toInt y.toInt
  have m0 := Int.emod_nonneg x.toInt (b := y.toInt) (by omega)
  have hm : (x / y * y).toInt = x.toInt / y.toInt * y.toInt := by
    rw [Int32.toInt_mul, hq]
    have : x.toInt / y.toInt * y.toInt = y.toInt * (x.toInt / y.toInt) := Int.mul_comm _ _
    have a1 : 0 ≤ y.toInt * (x.toInt / y.toInt) := Int.mul_nonneg (by omega) (Int.ediv_nonneg hx (by omega))
    exact Int.bmod_eq_of_le (by omega) (by omega)
  unfold remI
  rw [Int32.toInt_sub, hm]
  have : x.toInt / y.toInt * y.toInt = y.toInt * (x.toInt / y.toInt) := Int.mul_comm _ _
  have m1 := Int.emod_lt_of_pos x.toInt hy
  rw [show x.toInt - x.toInt / y.toInt * y.toInt = x.toInt % y.toInt by omega]
  exact Int.bmod_eq_of_le (by omega) (by omega)
theorem own_bm (x : Int) (n : Nat) (m : Int) (h : (2 * m).toNat = n) (hm : 0 < m) : x.bmod n = (x + m) % (2 * m) - m := by
  have hn : (n : Int) = 2 * m := by omega
  rw [Int.bmod_def, hn, show ((2 * m + 1) / 2 : Int) = m by omega]
  have h1 := Int.emod_nonneg x (b := 2 * m) (by omega)
  have h2 := Int.emod_lt_of_pos x (b := 2 * m) (by omega)
  have e := Int.emod_add_mul_ediv x (2 * m)
  generalize x / (2 * m) = q at *
  generalize x % (2 * m) = r at *
  subst e
  rw [show r + 2 * m * q + m = (r + m) + 2 * m * q by omega, Int.add_mul_emod_self_left]
  split
  · rw [Int.emod_eq_of_lt (by omega) (by omega)]; omega
  · rw [show r + m = (r - m) + 2 * m * 1 by omega, Int.add_mul_emod_self_left, Int.emod_eq_of_lt (by omega) (by omega)]; omega
theorem own_i2b (x : Int32) : (i2bF x).toInt = (x.toInt + 128) % 256 - 128 := by
  unfold i2bF; rw [Int8.toInt_toInt32, Int32.toInt_toInt8]; exact own_bm _ _ 128 rfl (by decide)
theorem own_i2s (x : Int32) : (i2sF x).toInt = (x.toInt + 32768) % 65536 - 32768 := by
  unfold i2sF; rw [Int16.toInt_toInt32, Int32.toInt_toInt16]; exact own_bm _ _ 32768 rfl (by decide)
theorem own_tonat (x : Int32) : (x.toBitVec.toNat : Int) = x.toInt % 4294967296 := by
  show _ = x.toBitVec.toInt % 4294967296
  rw [BitVec.toInt_eq_toNat_cond]
  have := x.toBitVec.isLt
  split <;> omega
theorem own_toint (x : Int32) (h : x.toBitVec.toNat < 2147483648) : x.toInt = x.toBitVec.toNat := by
  show x.toBitVec.toInt = _
  rw [BitVec.toInt_eq_toNat_cond, if_pos (by omega)]
theorem own_tonatJ (x : Int64) : (x.toBitVec.toNat : Int) = x.toInt % 18446744073709551616 := by
  show _ = x.toBitVec.toInt % 18446744073709551616
  rw [BitVec.toInt_eq_toNat_cond]
  have := x.toBitVec.isLt
  split <;> omega
theorem own_tointJ (x : Int64) (h : x.toBitVec.toNat < 9223372036854775808) : x.toInt = x.toBitVec.toNat := by
  show x.toBitVec.toInt = _
  rw [BitVec.toInt_eq_toNat_cond, if_pos (by omega)]
theorem own_i2c (x : Int32) : (i2cF x).toInt = x.toInt % 65536 := by
  have h : (i2cF x).toBitVec.toNat = x.toBitVec.toNat % 65536 := by
    show (BitVec.setWidth 32 (BitVec.setWidth 16 x.toBitVec)).toNat = _
    rw [BitVec.toNat_setWidth, BitVec.toNat_setWidth]; omega
  have := own_tonat x
  rw [own_toint _ (by omega), h]; omega
theorem own_amt : ∀ k : Fin 32, ((Int32.ofNat k.val &&& 31).toBitVec.smod 32).toNat = k.val := by decide +kernel
theorem own_amtU : ∀ k : Fin 32, ((Int32.ofNat k.val &&& 31).toUInt32.toBitVec.toNat) = k.val := by decide +kernel
theorem own_shr (x : Int32) (k : Nat) (hk : k < 32) : (shrI x (Int32.ofNat k)).toInt = x.toInt / (2 ^ k : Nat) := by
  show (BitVec.sshiftRight x.toBitVec ((Int32.ofNat k &&& 31).toBitVec.smod 32).toNat).toInt = x.toBitVec.toInt / _
  rw [own_amt ⟨k, hk⟩, BitVec.toInt_sshiftRight, Int.shiftRight_eq_div_pow]
theorem own_shl (x : Int32) (k : Nat) (hk : k < 32) : (shlI x (Int32.ofNat k)).toInt = (x.toInt * (2 ^ k : Nat)).bmod 4294967296 := by
  show (x.toBitVec <<< ((Int32.ofNat k &&& 31).toBitVec.smod 32)).toInt = (x.toBitVec.toInt * _).bmod _
  rw [BitVec.shiftLeft_eq', own_amt ⟨k, hk⟩, BitVec.toInt_shiftLeft, Nat.shiftLeft_eq, BitVec.toInt_eq_toNat_bmod]
  rw [Int.bmod_mul_bmod]
  congr 1
theorem own_ushr (x : Int32) (k : Nat) (hk : k < 32) (h0 : 0 < k) : (XT.ushr x (Int32.ofNat k)).toInt = (x.toInt % 4294967296) / (2 ^ k : Nat) := by
  have h : (XT.ushr x (Int32.ofNat k)).toBitVec.toNat = x.toBitVec.toNat / 2 ^ k := by
    show (x.toBitVec >>> ((Int32.ofNat k &&& 31).toUInt32.toBitVec % 32)).toNat = _
    rw [BitVec.ushiftRight_eq', BitVec.toNat_ushiftRight, BitVec.toNat_umod, own_amtU ⟨k, hk⟩, Nat.shiftRight_eq_div_pow]
    show _ / 2 ^ (k % 32) = _
    rw [Nat.mod_eq_of_lt hk]
  have h1 := x.toBitVec.isLt
  have h2 : x.toBitVec.toNat / 2 ^ k ≤ x.toBitVec.toNat / 2 ^ 1 := Nat.div_le_div_left (Nat.pow_le_pow_right (by decide) h0) (by decide)
  rw [own_toint _ (by omega), h, ← own_tonat]; rfl
theorem own_ushr0 (x : Int32) (k : Nat) (hk : k < 32) (h0 : 0 ≤ x.toInt) : (XT.ushr x (Int32.ofNat k)).toInt = x.toInt / (2 ^ k : Nat) := by
  have h1 := x.toInt_lt
  by_cases q : k = 0
  · subst q
    have : XT.ushr x (Int32.ofNat 0) = x := by
      apply Int32.toBitVec_inj.mp
      apply BitVec.eq_of_toNat_eq
      show (x.toBitVec >>> ((Int32.ofNat 0 &&& 31).toUInt32.toBitVec % 32)).toNat = _
      rw [BitVec.ushiftRight_eq', BitVec.toNat_ushiftRight, BitVec.toNat_umod, own_amtU ⟨0, hk⟩]; rfl
    rw [this]; simp
  · rw [own_ushr x k hk (by omega), Int.emod_eq_of_lt h0 (by omega)]
theorem own_if {c : Prop} [Decidable c] {α : Type} {a b r : α} (h1 : c → a = r) (h2 : ¬ c → b = r) : (if c then a else b) = r := by
  by_cases h : c
  · rw [if_pos h]; exact h1 h
  · rw [if_neg h]; exact h2 h
theorem own_maskJ (x : Int64) (k : Nat) (hk : k ≤ 63) (m : Int64) (hm : m = Int64.ofNat (2 ^ k - 1)) : (x &&& m).toInt = x.toInt % (2 ^ k : Nat) := by
  subst hm
  have h1 : (x &&& Int64.ofNat (2 ^ k - 1)).toBitVec.toNat = x.toBitVec.toNat % 2 ^ k := by
    rw [Int64.toBitVec_and, BitVec.toNat_and]
    have : (Int64.ofNat (2 ^ k - 1)).toBitVec.toNat = 2 ^ k - 1 := by
      show (BitVec.ofNat 64 (2 ^ k - 1)).toNat = _
      rw [BitVec.toNat_ofNat]
      apply Nat.mod_eq_of_lt
      have : 2 ^ k ≤ 2 ^ 63 := Nat.pow_le_pow_right (by decide) hk
      omega
    rw [this, Nat.and_two_pow_sub_one_eq_mod]
  have hp : 2 ^ k ≤ 2 ^ 63 := Nat.pow_le_pow_right (by decide) hk
  have hpos : 0 < 2 ^ k := Nat.two_pow_pos k
  have hlt := Nat.mod_lt x.toBitVec.toNat hpos
  show (x &&& Int64.ofNat (2 ^ k - 1)).toBitVec.toInt = x.toBitVec.toInt % _
  rw [BitVec.toInt_eq_toNat_cond, h1, if_pos (by omega), BitVec.toInt_eq_toNat_cond]
  split
  · simp
  · have hd : (2 ^ k : Nat) ∣ 2 ^ 64 := Nat.pow_dvd_pow 2 (by omega)
    obtain ⟨q, hq⟩ := hd
    rw [Int.sub_emod, show ((2 ^ 64 : Nat) : Int) % (2 ^ k : Nat) = 0 by rw [hq]; simp]
    simp
theorem own_amtJ : ∀ k : Fin 64, ((Int32.ofNat k.val).toInt64.toUInt64 &&& Int64.toUInt64 63).toBitVec.toNat = k.val := by decide +kernel
theorem own_ushrL (x : Int64) (k : Nat) (hk : k < 64) (h0 : 0 < k) : (XT.ushrL x (Int32.ofNat k)).toInt = (x.toInt % 18446744073709551616) / (2 ^ k : Nat) := by
  have h : (XT.ushrL x (Int32.ofNat k)).toBitVec.toNat = x.toBitVec.toNat / 2 ^ k := by
    show (x.toBitVec >>> (((Int32.ofNat k).toInt64.toUInt64 &&& Int64.toUInt64 63).toBitVec % 64)).toNat = _
    rw [BitVec.ushiftRight_eq', BitVec.toNat_ushiftRight, BitVec.toNat_umod, own_amtJ ⟨k, hk⟩, Nat.shiftRight_eq_div_pow]
    show _ / 2 ^ (k % 64) = _
    rw [Nat.mod_eq_of_lt hk]
  have h1 := x.toBitVec.isLt
  have h2 : x.toBitVec.toNat / 2 ^ k ≤ x.toBitVec.toNat / 2 ^ 1 := Nat.div_le_div_left (Nat.pow_le_pow_right (by decide) h0) (by decide)
  rw [own_tointJ _ (by omega), h, ← own_tonatJ]; rfl
theorem own_inR {α : Type} {A : List α} {j : Int32} (n : Nat) (hl : A.length = n) (h0 : 0 ≤ j.toInt) (h1 : j.toInt < n) : inA A j := by
  rintro (h | h)
  · rw [Int32.lt_iff_toInt_lt] at h; change j.toInt < 0 at h; omega
  · rw [hl] at h; simp only [Int32.toNatClampNeg] at h; omega

theorem own_ite {P Q : Prop} [Decidable P] [Decidable Q] (h : P ↔ Q) (a b : Int32) : (if P then a else b) = (if Q then a else b) := by
  by_cases p : P
  · rw [if_pos p, if_pos (h.mp p)]
  · rw [if_neg p, if_neg (fun q => p (h.mpr q))]
theorem own_stepI {x lo hi : Int32} {f : Option Int32} {P : Prop} [Decidable P] {a b : Int} (ha : lo.toInt = a) (hb : hi.toInt = b) (hf : f = some (if P then 1 else 0)) : (if x < lo then f else if hi < x then f else some 1) = some (if (a ≤ x.toInt ∧ x.toInt ≤ b) ∨ P then 1 else 0) := by
  subst ha hb hf
  simp only [Int32.lt_iff_toInt_lt]
  split
  · rename_i h
    exact congrArg some (own_ite ⟨Or.inr, fun q => q.elim (fun q => absurd h (by omega)) id⟩ _ _)
  · split
    · rename_i h
      exact congrArg some (own_ite ⟨Or.inr, fun q => q.elim (fun q => absurd h (by omega)) id⟩ _ _)
    · rw [if_pos (Or.inl ⟨by omega, by omega⟩)]
theorem own_stepE {x c : Int32} {f : Option Int32} {P : Prop} [Decidable P] {a : Int} (ha : c.toInt = a) (hf : f = some (if P then 1 else 0)) : (if x = c then some 1 else f) = some (if x.toInt = a ∨ P then 1 else 0) := by
  subst ha hf
  by_cases h : x = c
  · rw [if_pos h, if_pos (Or.inl (congrArg _ h))]
  · rw [if_neg h]; exact congrArg some (own_ite ⟨Or.inr, fun q => q.elim (fun q => absurd (Int32.toInt_inj.mp q) h) id⟩ _ _)
theorem own_stepZ {x lo hi : Int32} {a b : Int} (ha : lo.toInt = a) (hb : hi.toInt = b) : (if x < lo then some (0 : Int32) else if hi < x then some 0 else some 1) = some (if a ≤ x.toInt ∧ x.toInt ≤ b then 1 else 0) := by
  subst ha hb
  simp only [Int32.lt_iff_toInt_lt]
  split
  · rw [if_neg (by omega)]
  · split
    · rw [if_neg (by omega)]
    · rw [if_pos (by omega)]
theorem own_c1_179 (x : Int32) : f1_179 x = some (if (65536 ≤ x.toInt ∧ x.toInt ≤ 983039) then 1 else 0) := own_stepZ rfl rfl
theorem own_c1_167 (x : Int32) : f1_167 x = some (if (65008 ≤ x.toInt ∧ x.toInt ≤ 65533) ∨ (65536 ≤ x.toInt ∧ x.toInt ≤ 983039) then 1 else 0) := own_stepI rfl rfl (own_c1_179 x)
theorem own_c1_155 (x : Int32) : f1_155 x = some (if (63744 ≤ x.toInt ∧ x.toInt ≤ 64975) ∨ (65008 ≤ x.toInt ∧ x.toInt ≤ 65533) ∨ (65536 ≤ x.toInt ∧ x.toInt ≤ 983039) then 1 else 0) := own_stepI rfl rfl (own_c1_167 x)
theorem own_c1_142 (x : Int32) : f1_142 x = some (if (12289 ≤ x.toInt ∧ x.toInt ≤ 55295) ∨ (63744 ≤ x.toInt ∧ x.toInt ≤ 64975) ∨ (65008 ≤ x.toInt ∧ x.toInt ≤ 65533) ∨ (65536 ≤ x.toInt ∧ x.toInt ≤ 983039) then 1 else 0) := own_stepI rfl rfl (own_c1_155 x)
theorem own_c1_128 (x : Int32) : f1_128 x = some (if (11264 ≤ x.toInt ∧ x.toInt ≤ 12271) ∨ (12289 ≤ x.toInt ∧ x.toInt ≤ 55295) ∨ (63744 ≤ x.toInt ∧ x.toInt ≤ 64975) ∨ (65008 ≤ x.toInt ∧ x.toInt ≤ 65533) ∨ (65536 ≤ x.toInt ∧ x.toInt ≤ 983039) then 1 else 0) := own_stepI rfl rfl (own_c1_142 x)
theorem own_c1_114 (x : Int32) : f1_114 x = some (if (8304 ≤ x.toInt ∧ x.toInt ≤ 8591) ∨ (11264 ≤ x.toInt ∧ x.toInt ≤ 12271) ∨ (12289 ≤ x.toInt ∧ x.toInt ≤ 55295) ∨ (63744 ≤ x.toInt ∧ x.toInt ≤ 64975) ∨ (65008 ≤ x.toInt ∧ x.toInt ≤ 65533) ∨ (65536 ≤ x.toInt ∧ x.toInt ≤ 983039) then 1 else 0) := own_stepI rfl rfl (own_c1_128 x)
theorem own_c1_100 (x : Int32) : f1_100 x = some (if (8204 ≤ x.toInt ∧ x.toInt ≤ 8205) ∨ (8304 ≤ x.toInt ∧ x.toInt ≤ 8591) ∨ (11264 ≤ x.toInt ∧ x.toInt ≤ 12271) ∨ (12289 ≤ x.toInt ∧ x.toInt ≤ 55295) ∨ (63744 ≤ x.toInt ∧ x.toInt ≤ 64975) ∨ (65008 ≤ x.toInt ∧ x.toInt ≤ 65533) ∨ (65536 ≤ x.toInt ∧ x.toInt ≤ 983039) then 1 else 0) := own_stepI rfl rfl (own_c1_114 x)
theorem own_c1_86 (x : Int32) : f1_86 x = some (if (895 ≤ x.toInt ∧ x.toInt ≤ 8191) ∨ (8204 ≤ x.toInt ∧ x.toInt ≤ 8205) ∨ (8304 ≤ x.toInt ∧ x.toInt ≤ 8591) ∨ (11264 ≤ x.toInt ∧ x.toInt ≤ 12271) ∨ (12289 ≤ x.toInt ∧ x.toInt ≤ 55295) ∨ (63744 ≤ x.toInt ∧ x.toInt ≤ 64975) ∨ (65008 ≤ x.toInt ∧ x.toInt ≤ 65533) ∨ (65536 ≤ x.toInt ∧ x.toInt ≤ 983039) then 1 else 0) := own_stepI rfl rfl (own_c1_100 x)
theorem own_c1_72 (x : Int32) : f1_72 x = some (if (880 ≤ x.toInt ∧ x.toInt ≤ 893) ∨ (895 ≤ x.toInt ∧ x.toInt ≤ 8191) ∨ (8204 ≤ x.toInt ∧ x.toInt ≤ 8205) ∨ (8304 ≤ x.toInt ∧ x.toInt ≤ 8591) ∨ (11264 ≤ x.toInt ∧ x.toInt ≤ 12271) ∨ (12289 ≤ x.toInt ∧ x.toInt ≤ 55295) ∨ (63744 ≤ x.toInt ∧ x.toInt ≤ 64975) ∨ (65008 ≤ x.toInt ∧ x.toInt ≤ 65533) ∨ (65536 ≤ x.toInt ∧ x.toInt ≤ 983039) then 1 else 0) := own_stepI rfl rfl (own_c1_86 x)
theorem own_c1_58 (x : Int32) : f1_58 x = some (if (248 ≤ x.toInt ∧ x.toInt ≤ 767) ∨ (880 ≤ x.toInt ∧ x.toInt ≤ 893) ∨ (895 ≤ x.toInt ∧ x.toInt ≤ 8191) ∨ (8204 ≤ x.toInt ∧ x.toInt ≤ 8205) ∨ (8304 ≤ x.toInt ∧ x.toInt ≤ 8591) ∨ (11264 ≤ x.toInt ∧ x.toInt ≤ 12271) ∨ (12289 ≤ x.toInt ∧ x.toInt ≤ 55295) ∨ (63744 ≤ x.toInt ∧ x.toInt ≤ 64975) ∨ (65008 ≤ x.toInt ∧ x.toInt ≤ 65533) ∨ (65536 ≤ x.toInt ∧ x.toInt ≤ 983039) then 1 else 0) := own_stepI rfl rfl (own_c1_72 x)
theorem own_c1_44 (x : Int32) : f1_44 x = some (if (216 ≤ x.toInt ∧ x.toInt ≤ 246) ∨ (248 ≤ x.toInt ∧ x.toInt ≤ 767) ∨ (880 ≤ x.toInt ∧ x.toInt ≤ 893) ∨ (895 ≤ x.toInt ∧ x.toInt ≤ 8191) ∨ (8204 ≤ x.toInt ∧ x.toInt ≤ 8205) ∨ (8304 ≤ x.toInt ∧ x.toInt ≤ 8591) ∨ (11264 ≤ x.toInt ∧ x.toInt ≤ 12271) ∨ (12289 ≤ x.toInt ∧ x.toInt ≤ 55295) ∨ (63744 ≤ x.toInt ∧ x.toInt ≤ 64975) ∨ (65008 ≤ x.toInt ∧ x.toInt ≤ 65533) ∨ (65536 ≤ x.toInt ∧ x.toInt ≤ 983039) then 1 else 0) := own_stepI rfl rfl (own_c1_58 x)
theorem own_c1_24 (x : Int32) : f1_24 x = some (if x.toInt = 95 ∨ (192 ≤ x.toInt ∧ x.toInt ≤ 214) ∨ (216 ≤ x.toInt ∧ x.toInt ≤ 246) ∨ (248 ≤ x.toInt ∧ x.toInt ≤ 767) ∨ (880 ≤ x.toInt ∧ x.toInt ≤ 893) ∨ (895 ≤ x.toInt ∧ x.toInt ≤ 8191) ∨ (8204 ≤ x.toInt ∧ x.toInt ≤ 8205) ∨ (8304 ≤ x.toInt ∧ x.toInt ≤ 8591) ∨ (11264 ≤ x.toInt ∧ x.toInt ≤ 12271) ∨ (12289 ≤ x.toInt ∧ x.toInt ≤ 55295) ∨ (63744 ≤ x.toInt ∧ x.toInt ≤ 64975) ∨ (65008 ≤ x.toInt ∧ x.toInt ≤ 65533) ∨ (65536 ≤ x.toInt ∧ x.toInt ≤ 983039) then 1 else 0) := own_stepE rfl (own_stepI rfl rfl (own_c1_44 x))
theorem own_c1_12 (x : Int32) : f1_12 x = some (if (65 ≤ x.toInt ∧ x.toInt ≤ 90) ∨ x.toInt = 95 ∨ (192 ≤ x.toInt ∧ x.toInt ≤ 214) ∨ (216 ≤ x.toInt ∧ x.toInt ≤ 246) ∨ (248 ≤ x.toInt ∧ x.toInt ≤ 767) ∨ (880 ≤ x.toInt ∧ x.toInt ≤ 893) ∨ (895 ≤ x.toInt ∧ x.toInt ≤ 8191) ∨ (8204 ≤ x.toInt ∧ x.toInt ≤ 8205) ∨ (8304 ≤ x.toInt ∧ x.toInt ≤ 8591) ∨ (11264 ≤ x.toInt ∧ x.toInt ≤ 12271) ∨ (12289 ≤ x.toInt ∧ x.toInt ≤ 55295) ∨ (63744 ≤ x.toInt ∧ x.toInt ≤ 64975) ∨ (65008 ≤ x.toInt ∧ x.toInt ≤ 65533) ∨ (65536 ≤ x.toInt ∧ x.toInt ≤ 983039) then 1 else 0) := own_stepI rfl rfl (own_c1_24 x)
theorem own_c1_0 (x : Int32) : f1_0 x = some (if (97 ≤ x.toInt ∧ x.toInt ≤ 122) ∨ (65 ≤ x.toInt ∧ x.toInt ≤ 90) ∨ x.toInt = 95 ∨ (192 ≤ x.toInt ∧ x.toInt ≤ 214) ∨ (216 ≤ x.toInt ∧ x.toInt ≤ 246) ∨ (248 ≤ x.toInt ∧ x.toInt ≤ 767) ∨ (880 ≤ x.toInt ∧ x.toInt ≤ 893) ∨ (895 ≤ x.toInt ∧ x.toInt ≤ 8191) ∨ (8204 ≤ x.toInt ∧ x.toInt ≤ 8205) ∨ (8304 ≤ x.toInt ∧ x.toInt ≤ 8591) ∨ (11264 ≤ x.toInt ∧ x.toInt ≤ 12271) ∨ (12289 ≤ x.toInt ∧ x.toInt ≤ 55295) ∨ (63744 ≤ x.toInt ∧ x.toInt ≤ 64975) ∨ (65008 ≤ x.toInt ∧ x.toInt ≤ 65533) ∨ (65536 ≤ x.toInt ∧ x.toInt ≤ 983039) then 1 else 0) := own_stepI rfl rfl (own_c1_12 x)

theorem own_stepX {x lo hi : Int32} {f : Option Int32} {P : Prop} [Decidable P] {a b : Int} (ha : lo.toInt = a) (hb : hi.toInt = b) (hf : f = some (if P then 1 else 0)) : (if lo < x then if x < hi then some 1 else f else f) = some (if (a < x.toInt ∧ x.toInt < b) ∨ P then 1 else 0) := by
  subst ha hb hf
  simp only [Int32.lt_iff_toInt_lt]
  refine own_if (fun h => own_if (fun h' => ?_) (fun h' => ?_)) (fun h => ?_)
  · rw [if_pos (Or.inl ⟨h, h'⟩)]
  · exact congrArg some (own_ite ⟨Or.inr, fun q => q.elim (fun q => absurd q.2 h') id⟩ _ _)
  · exact congrArg some (own_ite ⟨Or.inr, fun q => q.elim (fun q => absurd q.1 h) id⟩ _ _)
theorem own_e2_190 (x : Int32) : f2_190 x = some (if 983039 < x.toInt then 1 else 0) := by
  unfold f2_190
  refine own_if (fun h => ?_) (fun h => ?_) <;> rw [Int32.lt_iff_toInt_lt] at h
  · rw [if_pos (show 983039 < x.toInt from h)]
  · rw [if_neg (show ¬ 983039 < x.toInt from h)]
theorem own_e2_176 (x : Int32) : f2_176 x = some (if (65533 < x.toInt ∧ x.toInt < 65536) ∨ 983039 < x.toInt then 1 else 0) := own_stepX rfl rfl (own_e2_190 x)
theorem own_e2_162 (x : Int32) : f2_162 x = some (if (64975 < x.toInt ∧ x.toInt < 65008) ∨ (65533 < x.toInt ∧ x.toInt < 65536) ∨ 983039 < x.toInt then 1 else 0) := own_stepX rfl rfl (own_e2_176 x)
theorem own_e2_148 (x : Int32) : f2_148 x = some (if (55295 < x.toInt ∧ x.toInt < 63744) ∨ (64975 < x.toInt ∧ x.toInt < 65008) ∨ (65533 < x.toInt ∧ x.toInt < 65536) ∨ 983039 < x.toInt then 1 else 0) := own_stepX rfl rfl (own_e2_162 x)
theorem own_e2_132 (x : Int32) : f2_132 x = some (if (12271 < x.toInt ∧ x.toInt < 12289) ∨ (55295 < x.toInt ∧ x.toInt < 63744) ∨ (64975 < x.toInt ∧ x.toInt < 65008) ∨ (65533 < x.toInt ∧ x.toInt < 65536) ∨ 983039 < x.toInt then 1 else 0) := own_stepX rfl rfl (own_e2_148 x)
theorem own_e2_116 (x : Int32) : f2_116 x = some (if (8591 < x.toInt ∧ x.toInt < 11264) ∨ (12271 < x.toInt ∧ x.toInt < 12289) ∨ (55295 < x.toInt ∧ x.toInt < 63744) ∨ (64975 < x.toInt ∧ x.toInt < 65008) ∨ (65533 < x.toInt ∧ x.toInt < 65536) ∨ 983039 < x.toInt then 1 else 0) := own_stepX rfl rfl (own_e2_132 x)
theorem own_e2_100 (x : Int32) : f2_100 x = some (if (8205 < x.toInt ∧ x.toInt < 8304) ∨ (8591 < x.toInt ∧ x.toInt < 11264) ∨ (12271 < x.toInt ∧ x.toInt < 12289) ∨ (55295 < x.toInt ∧ x.toInt < 63744) ∨ (64975 < x.toInt ∧ x.toInt < 65008) ∨ (65533 < x.toInt ∧ x.toInt < 65536) ∨ 983039 < x.toInt then 1 else 0) := own_stepX rfl rfl (own_e2_116 x)
theorem own_e2_75 (x : Int32) : f2_75 x = some (if x.toInt = 894 ∨ (8191 < x.toInt ∧ x.toInt < 8204) ∨ (8205 < x.toInt ∧ x.toInt < 8304) ∨ (8591 < x.toInt ∧ x.toInt < 11264) ∨ (12271 < x.toInt ∧ x.toInt < 12289) ∨ (55295 < x.toInt ∧ x.toInt < 63744) ∨ (64975 < x.toInt ∧ x.toInt < 65008) ∨ (65533 < x.toInt ∧ x.toInt < 65536) ∨ 983039 < x.toInt then 1 else 0) := own_stepE rfl (own_stepX rfl rfl (own_e2_100 x))
theorem own_e2_43 (x : Int32) : f2_43 x = some (if x.toInt = 215 ∨ x.toInt = 247 ∨ (767 < x.toInt ∧ x.toInt < 880) ∨ x.toInt = 894 ∨ (8191 < x.toInt ∧ x.toInt < 8204) ∨ (8205 < x.toInt ∧ x.toInt < 8304) ∨ (8591 < x.toInt ∧ x.toInt < 11264) ∨ (12271 < x.toInt ∧ x.toInt < 12289) ∨ (55295 < x.toInt ∧ x.toInt < 63744) ∨ (64975 < x.toInt ∧ x.toInt < 65008) ∨ (65533 < x.toInt ∧ x.toInt < 65536) ∨ 983039 < x.toInt then 1 else 0) := own_stepE rfl (own_stepE rfl (own_stepX rfl rfl (own_e2_75 x)))
theorem own_e2_28 (x : Int32) : f2_28 x = some (if (122 < x.toInt ∧ x.toInt < 192) ∨ x.toInt = 215 ∨ x.toInt = 247 ∨ (767 < x.toInt ∧ x.toInt < 880) ∨ x.toInt = 894 ∨ (8191 < x.toInt ∧ x.toInt < 8204) ∨ (8205 < x.toInt ∧ x.toInt < 8304) ∨ (8591 < x.toInt ∧ x.toInt < 11264) ∨ (12271 < x.toInt ∧ x.toInt < 12289) ∨ (55295 < x.toInt ∧ x.toInt < 63744) ∨ (64975 < x.toInt ∧ x.toInt < 65008) ∨ (65533 < x.toInt ∧ x.toInt < 65536) ∨ 983039 < x.toInt then 1 else 0) := own_stepX rfl rfl (own_e2_43 x)
theorem own_ex (x : Int32) : f2_0 x = some (if (97 ≤ x.toInt ∧ x.toInt ≤ 122) ∨ (65 ≤ x.toInt ∧ x.toInt ≤ 90) ∨ x.toInt = 95 ∨ (192 ≤ x.toInt ∧ x.toInt ≤ 214) ∨ (216 ≤ x.toInt ∧ x.toInt ≤ 246) ∨ (248 ≤ x.toInt ∧ x.toInt ≤ 767) ∨ (880 ≤ x.toInt ∧ x.toInt ≤ 893) ∨ (895 ≤ x.toInt ∧ x.toInt ≤ 8191) ∨ (8204 ≤ x.toInt ∧ x.toInt ≤ 8205) ∨ (8304 ≤ x.toInt ∧ x.toInt ≤ 8591) ∨ (11264 ≤ x.toInt ∧ x.toInt ≤ 12271) ∨ (12289 ≤ x.toInt ∧ x.toInt ≤ 55295) ∨ (63744 ≤ x.toInt ∧ x.toInt ≤ 64975) ∨ (65008 ≤ x.toInt ∧ x.toInt ≤ 65533) ∨ (65536 ≤ x.toInt ∧ x.toInt ≤ 983039) then 0 else 1) := by
  have l1 : (65 : Int32).toInt = 65 := rfl
  have l2 : (90 : Int32).toInt = 90 := rfl
  have l3 : (97 : Int32).toInt = 97 := rfl
  have l4 : (95 : Int32).toInt = 95 := rfl
  unfold f2_0
  rw [own_e2_28]
  simp only [← Int32.toInt_inj, Int32.lt_iff_toInt_lt, l1, l2, l3, l4]
  clear l1 l2 l3 l4
  generalize x.toInt = n
  refine own_if (fun _ => ?_) (fun _ => own_if (fun _ => own_if (fun _ => own_if (fun _ => ?_) (fun _ => ?_)) (fun _ => ?_)) (fun _ => ?_))
  · exact congrArg some (if_neg (by omega)).symm
  all_goals first | exact congrArg some (if_neg (by omega)).symm | skip
  all_goals
    by_cases d : (97 ≤ n ∧ n ≤ 122) ∨ (65 ≤ n ∧ n ≤ 90) ∨ n = 95 ∨ (192 ≤ n ∧ n ≤ 214) ∨ (216 ≤ n ∧ n ≤ 246) ∨ (248 ≤ n ∧ n ≤ 767) ∨ (880 ≤ n ∧ n ≤ 893) ∨ (895 ≤ n ∧ n ≤ 8191) ∨ (8204 ≤ n ∧ n ≤ 8205) ∨ (8304 ≤ n ∧ n ≤ 8591) ∨ (11264 ≤ n ∧ n ≤ 12271) ∨ (12289 ≤ n ∧ n ≤ 55295) ∨ (63744 ≤ n ∧ n ≤ 64975) ∨ (65008 ≤ n ∧ n ≤ 65533) ∨ (65536 ≤ n ∧ n ≤ 983039)
    · rw [if_neg (by omega), if_pos d]
    · rw [if_pos (by omega), if_neg d]
theorem own_237 (x : Int32) (A : List Int32) : f0_237 x A = some 1 := by
  unfold f0_237
  rw [own_c1_0, own_ex, Option.bind_some, Option.bind_some]
  split <;> rfl
theorem own_law (x0 : Int32) (x1 : Int32) (x2 : Int32) (x3 : Int32) : f0_0 x0 x1 x2 x3 = some 1 := by
  have m := own_mask x2 5 (by decide) 31 rfl
  unfold f0_0
  refine own_if (fun _ => ?_) (fun _ => own_237 _ _)
  rw [if_pos]
  · exact own_237 _ _
  · exact own_inR (j := x2 &&& 31) 32 rfl (by omega) (by omega)


set_option maxRecDepth 65536 in
set_option maxHeartbeats 40000000 in
theorem comes_1 {Post : Tables → Env → Array Value → State → Outcome → State → Prop} (hpost : ∀ tb e args s v u, (limb_1_1.after args s (.returned v) u = true ∧ limb_1_2.after args s (.returned v) u = true ∧ True) → FrameEnd s (.returned v) u (Jvm.fieldLocs frame_1_writes args s ++ Jvm.arrayLocs frame_1_arrays args s ++ Jvm.staticLocs frame_1_statics s) 16 128 → Post tb e args s (.returned v) u) :
    ArmFor flags0 classFile x code maxLocals ret World_1 tables_1 room_1 Calls_1 rest_1 Pre_1 Post := by
  intro l hfl _ _ p e ha hc hk s m args below hf hA hF happ hP
  obtain ⟨hcalls, hrest, hpre⟩ := hP
  obtain ⟨-, -, -, hnamed, -, -, -, hat⟩ := (Spec.applies_iff hf).mp happ
  obtain ⟨hg, hn⟩ := and_e (Cond.before_iff.mp (show (Jvm.Cond.and given_1 narrow_1).before args s = true from hpre))
  obtain ⟨hcnt, q0⟩ := and_e hg
  obtain ⟨p0, q1⟩ := and_e q0
  obtain ⟨p1, q2⟩ := and_e q1
  obtain ⟨p2, q3⟩ := and_e q2
  obtain ⟨w0, w1, w2, w3, rfl⟩ : ∃ w0 w1 w2 w3 : Value, args = #[w0, w1, w2, w3] := by
    have hs : args.size = 4 := by simpa [Cond.value, given_1] using hcnt
    obtain ⟨L⟩ := args
    match L, hs with
    | [w0, w1, w2, w3], _ => exact ⟨w0, w1, w2, w3, rfl⟩
  have hw := fun d (hd : d ∈ tables_1) => atoms_spec (ws := Jvm.Cond.code x code maxLocals ret :: tables_1) hat d (List.mem_cons_of_mem _ hd)
  obtain ⟨i0, c0⟩ := is_v p0
  obtain rfl : w0 = (.int i0) := Option.some.inj c0
  obtain ⟨i1, c1⟩ := is_v p1
  obtain rfl : w1 = (.int i1) := Option.some.inj c1
  obtain ⟨i2, c2⟩ := is_v p2
  obtain rfl : w2 = (.int i2) := Option.some.inj c2
  obtain ⟨i3, c3⟩ := is_v q3
  obtain rfl : w3 = (.int i3) := Option.some.inj c3
  obtain ⟨n, o, h1, h2, h3, _, L, rfl, ⟨rfl, N⟩, hq⟩ := rm0 l s _ hw tables_1 i0 i1 i2 i3 s.heap s.heap.size (Nat.le_refl _) 1 (own_law i0 i1 i2 i3) p e ha hc hk s m _ below hf ((Spec.applies_iff_loose hf).mp happ).1 ⟨rfl, State.Warmed39.refl s, rfl⟩ trivial
  refine ⟨n, _, h1, h2, h3, hpost _ _ _ _ _ _ ⟨Cond.after_iff.mpr rfl, Cond.after_iff.mpr (eq_i res_at (Term.int_eval (1)) rfl), trivial⟩ ⟨hq.1, hq.2.1, (hq.2.2.sift fun y hy => Or.inr (N y hy)).mono (by decide) (by decide)⟩⟩
theorem main_1_1 : Claimed_1_1 := comes_1 fun _ _ _ _ _ _ h hF => ⟨h.1, hF⟩
theorem main_1_2 : Claimed_1_2 := comes_1 fun _ _ _ _ _ _ h hF => ⟨h.2.1, hF⟩
end Jvm.Pilot.@@N@@
namespace Jvm.Pilot.@@N@@
open Jvm Jvm.ClassFile Sem Op Lib Jvm.Free Jvm.Stand Jvm.Pilot.@@N@@.Jvm.D
/-! MADE BY PROGRAM (witnessworld.py) out of the Statement's table words and the real class files: 9 classes; the members and pool entries that the words name. The judged class is class 1, her method 2. -/
namespace start1
open Jvm.ClassFile
def u (s : String) : CpInfo := .utf8 (stringToUtf16 s)
/-- a pool by its gaps: so many unusable entries, then the entry; so many at the end -/
def gap : Nat → List CpInfo → List CpInfo
  | 0, r => r
  | n + 1, r => .unusable :: gap n r
def poolList (es : List (Nat × CpInfo)) (last : Nat) : List CpInfo := es.foldr (fun e r => gap e.1 (e.2 :: r)) (gap last [])
def pool (es : List (Nat × CpInfo)) (last : Nat) : Array CpInfo := ⟨poolList es last⟩
def fileOf (pool : Array CpInfo) (this : Nat) (attrs : Array Attribute := #[]) (ms : Array MethodInfo := #[]) (fl : Nat := 33) (sup : Nat := 0) (ifs : Array Nat := #[]) (fds : Array FieldInfo := #[]) : ClassFile where
  minorVersion := 0
  majorVersion := 65
  constantPool := pool
  accessFlags := fl
  thisClass := this
  superClass := sup
  interfaces := ifs
  fields := fds
  methods := ms
  attributes := attrs
def plain (name : String) (sup : Option ClassId) : Class where
  name := name
  kind := .ordinary
  loader := none
  accessFlags := 33
  super := sup
  interfaces := #[]
  cf := none
  fields := #[]
  methods := #[]
  instanceTypes := #[]
  staticTypes := #[]
  resolved := #[]
  callSites := []
  init := .initialized
  statics := none
  mirror := none

def pool0 : Array CpInfo := pool [(5, u "<init>"), (0, u "()V"), (1, .class_ 10), (1, u "java/lang/Object")] 113

def k0m0 : Method := { name := "<init>", desc := "()V", sig := { parameters := [], returnType := none }, accessFlags := 1, code := none }
/-- java/lang/Object -/
def k0 : Class := { plain "java/lang/Object" none with
  accessFlags := 33
  interfaces := #[]
  cf := some (fileOf pool0 8 #[] #[{ accessFlags := 1, nameIndex := 5, descriptorIndex := 6, attributes := #[] }] 33 0 #[] #[])
  fields := #[]
  methods := #[k0m0]
  instanceTypes := #[]
  staticTypes := #[]
  resolved := Array.replicate 124 none
  statics := none }

def pool1 : Array CpInfo := pool [(2, .class_ 4), (1, u "java/lang/Object"), (0, u "<init>"), (0, u "()V"), (0, .integer 55295), (0, .integer 63744), (0, .integer 64975), (0, .integer 65008), (0, .integer 65533), (0, .integer 65536), (0, .integer 983039), (2, .integer 2147483649), (0, .integer 2147483646), (0, .methodref 19 20), (0, .class_ 21), (0, .nameAndType 22 23), (0, u "com/example/nereus/nereus/value/XmlChars"), (0, u "isNameStartChar"), (0, u "(I)Z"), (0, .methodref 25 26), (0, .class_ 27), (0, .nameAndType 28 23), (0, u "com/example/nereus/nereus/value/XmlCharsIsNameStartCharPinLaw"), (0, u "excluded"), (3, u "law"), (0, u "(IIII)Z")] 4

def k1m0 : Method := { name := "<init>", desc := "()V", sig := { parameters := [], returnType := none }, accessFlags := 2, code := none }
def k1c1 : Code := { maxStack := 2, maxLocals := 1, code := method_2_code, exceptionTable := #[], attributes := #[] }
def k1m1 : Method := { name := "excluded", desc := "(I)Z", sig := { parameters := [.int], returnType := some .boolean }, accessFlags := 10, code := some k1c1 }
def k1c2 : Code := { maxStack := 4, maxLocals := 6, code := code, exceptionTable := #[], attributes := #[] }
def k1m2 : Method := { name := "law", desc := "(IIII)Z", sig := { parameters := [.int, .int, .int, .int], returnType := some .boolean }, accessFlags := 9, code := some k1c2 }
/-- com/example/nereus/nereus/value/XmlCharsIsNameStartCharPinLaw -/
def k1 : Class := { plain "com/example/nereus/nereus/value/XmlCharsIsNameStartCharPinLaw" (some 0) with
  accessFlags := 49
  interfaces := #[]
  cf := some (fileOf pool1 25 #[] #[{ accessFlags := 2, nameIndex := 5, descriptorIndex := 6, attributes := #[] }, { accessFlags := 10, nameIndex := 28, descriptorIndex := 23, attributes := #[] }, { accessFlags := 9, nameIndex := 32, descriptorIndex := 33, attributes := #[] }] 49 2 #[] #[])
  fields := #[]
  methods := #[k1m0, k1m1, k1m2]
  instanceTypes := #[]
  staticTypes := #[]
  resolved := Array.replicate 38 none
  statics := none }

def pool2 : Array CpInfo := pool [(2, .class_ 4), (1, u "java/lang/Object"), (0, u "<init>"), (0, u "()V"), (0, .integer 55295), (0, .integer 63744), (0, .integer 64975), (0, .integer 65008), (0, .integer 65533), (0, .integer 65536), (0, .integer 983039), (1, .class_ 17), (1, u "com/example/nereus/nereus/value/XmlChars"), (0, u "isNameStartChar"), (0, u "(I)Z")] 84

def k2m0 : Method := { name := "<init>", desc := "()V", sig := { parameters := [], returnType := none }, accessFlags := 2, code := none }
def k2c1 : Code := { maxStack := 2, maxLocals := 1, code := prog_199_method_2_code, exceptionTable := #[], attributes := #[] }
def k2m1 : Method := { name := "isNameStartChar", desc := "(I)Z", sig := { parameters := [.int], returnType := some .boolean }, accessFlags := 9, code := some k2c1 }
/-- com/example/nereus/nereus/value/XmlChars -/
def k2 : Class := { plain "com/example/nereus/nereus/value/XmlChars" (some 0) with
  accessFlags := 49
  interfaces := #[]
  cf := some (fileOf pool2 15 #[] #[{ accessFlags := 2, nameIndex := 5, descriptorIndex := 6, attributes := #[] }, { accessFlags := 9, nameIndex := 18, descriptorIndex := 19, attributes := #[] }] 49 2 #[] #[])
  fields := #[]
  methods := #[k2m0, k2m1]
  instanceTypes := #[]
  staticTypes := #[]
  resolved := Array.replicate 104 none
  statics := none }

def pool3 : Array CpInfo := pool [(1, u "java/lang/Cloneable"), (0, .class_ 1), (0, u "java/lang/Object"), (0, .class_ 3)] 3

/-- java/lang/Cloneable -/
def k3 : Class := { plain "java/lang/Cloneable" (some 0) with
  accessFlags := 1537
  interfaces := #[]
  cf := some (fileOf pool3 2 #[] #[] 1537 4 #[] #[])
  fields := #[]
  methods := #[]
  instanceTypes := #[]
  staticTypes := #[]
  resolved := Array.replicate 8 none
  statics := none }

def pool4 : Array CpInfo := pool [(1, u "java/io/Serializable"), (0, .class_ 1), (0, u "java/lang/Object"), (0, .class_ 3)] 3

/-- java/io/Serializable -/
def k4 : Class := { plain "java/io/Serializable" (some 0) with
  accessFlags := 1537
  interfaces := #[]
  cf := some (fileOf pool4 2 #[] #[] 1537 4 #[] #[])
  fields := #[]
  methods := #[]
  instanceTypes := #[]
  staticTypes := #[]
  resolved := Array.replicate 8 none
  statics := none }

/-- the primitive byte -/
def k5 : Class := { plain "byte" none with kind := .primitive 'B', accessFlags := 0x411 }
/-- [B -/
def k6 : Class := { plain "[B" (some 0) with kind := .array 5 .byte, interfaces := #[3, 4], accessFlags := 1041 }

/-- the primitive int -/
def k7 : Class := { plain "int" none with kind := .primitive 'I', accessFlags := 0x411 }
/-- [I -/
def k8 : Class := { plain "[I" (some 0) with kind := .array 7 .int, interfaces := #[3, 4], accessFlags := 1041 }

def heap : Heap := #[]
def classes : Array Class := #[k0, k1, k2, k3, k4, k5, k6, k7, k8]
def interned : List (Array UInt16 × Addr) := []
def slotsUsed : Nat := 0
def theMethod : MethodId := ⟨1, 2⟩
def args0 : Array Value := #[.int 5, .int 5, .int 5, .int 5]
def aboutOver (below : List Frame) : State where
  vm := { classes := classes, interned := interned.toArray }
  heap := heap
  slotsUsed := slotsUsed
  threads := #[{ frames := .invoking theMethod args0 :: below }]
def below0 : List Frame := [.native { method := ⟨0, 0⟩, args := #[] }]
def about1 : State := aboutOver below0
def p0 : Program := .bare "" "" ""
def e0 : Env := launch0.env 0 0 0
theorem w_frames : about1.frames = Frame.invoking theMethod args0 :: below0 := rfl
set_option maxRecDepth 65536 in
theorem w_args : argsFit about1.vm theMethod args0 = true := by decide +kernel
set_option maxRecDepth 65536 in
theorem w_heap : heapFits about1 = true := by decide +kernel
set_option maxRecDepth 65536 in
theorem w_runnable : about1.curStatus? = some .runnable := by decide +kernel
set_option maxRecDepth 65536 in
theorem w_alone : about1.alone = true := by decide +kernel
set_option maxRecDepth 65536 in
theorem w_named : about1.methodNamed? x = some theMethod := by decide +kernel
set_option maxRecDepth 65536 in
theorem w_hears : about1.hears theMethod below0 = true := by decide +kernel
set_option maxRecDepth 65536 in
theorem w_ripe : about1.ripe theMethod args0 below0 = true := by decide +kernel
theorem w_running : about1.status = .running := rfl
set_option maxRecDepth 65536 in
theorem w_room : about1.hasRoom e0.platform room_1 = true :=
  launch0.hasRoom_least _ room_1 (by decide +kernel) (by decide +kernel) (by decide +kernel) (by decide +kernel) (by decide +kernel) (by decide +kernel)
theorem allAtoms_all (ts : List Jvm.Cond) (a : Array Jvm.Value) (st : Jvm.State) : (allAtoms ts).before a st = ts.all (fun c => c.before a st) := by
  induction ts with
  | nil => rfl
  | cons c t ih =>
    show (Jvm.Cond.and c (allAtoms t)).before a st = _
    rw [Jvm.Cond.before_and, ih, List.all_cons]
def words1 : List Jvm.Cond := Jvm.Cond.code x code maxLocals ret :: tables_1
/-- a 'code' word, met by the world's own term for the bytes: nothing is compared byte by byte -/
theorem code_word {y : MethodName} {bytes : ByteArray} {mx : Nat} {rt : Option FieldType} {a : Array Value} {s : State} {m : MethodId} {meth : Method} {c : Code} (h1 : s.methodNamed? y = some m) (h2 : s.vm.method? m = some meth) (h3 : meth.code = some c) (h4 : c.code = bytes)
    (h5 : (c.maxLocals == mx && c.exceptionTable.isEmpty && decide (c.maxStack ≤ mostOperands) && decide (meth.sig.returnType = rt) && !meth.locks && decide (parseMethodDescriptor y.desc = some meth.sig)) = true) : (Jvm.Cond.code y bytes mx rt).before a s = true := by
  simp only [Bool.and_eq_true, beq_iff_eq, Bool.not_eq_true', decide_eq_true_eq] at h5
  obtain ⟨⟨⟨⟨⟨g1, g2⟩, g3⟩, g4⟩, g5⟩, g6⟩ := h5
  simp [Cond.before, Cond.holds, Cond.value, h1, h2, h3, h4, g1, g2, g3, g4, g5, g6]
def isCode : Jvm.Cond → Bool
  | .code _ _ _ _ => true
  | _ => false
theorem all_split {L : List Jvm.Cond} {P : Jvm.Cond → Bool} (h1 : L.all (fun c => isCode c || P c) = true) (h2 : ∀ c ∈ L.filter isCode, P c = true) : L.all P = true := by
  refine List.all_eq_true.mpr fun c hc => ?_
  have h := List.all_eq_true.mp h1 c hc
  rcases Bool.eq_false_or_eq_true (isCode c) with hi | hi
  · exact h2 c (List.mem_filter.mpr ⟨hc, hi⟩)
  · simpa [hi] using h
set_option maxRecDepth 65536 in
theorem w_c0 : (Jvm.Cond.code x code maxLocals ret).before args0 about1 = true := code_word (m := ⟨1, 2⟩) (meth := k1m2) (c := k1c2) (by decide +kernel) rfl rfl rfl (by decide +kernel)
set_option maxRecDepth 65536 in
theorem w_c1 : (Jvm.Cond.code ({ cls := "com/example/nereus/nereus/value/XmlChars", name := "isNameStartChar", desc := "(I)Z" } : Jvm.MethodName) prog_199_method_2_code (1 : Nat) (Option.some Jvm.ClassFile.FieldType.boolean)).before args0 about1 = true := code_word (m := ⟨2, 1⟩) (meth := k2m1) (c := k2c1) (by decide +kernel) rfl rfl rfl (by decide +kernel)
set_option maxRecDepth 65536 in
theorem w_c2 : (Jvm.Cond.code ({ cls := "com/example/nereus/nereus/value/XmlCharsIsNameStartCharPinLaw", name := "excluded", desc := "(I)Z" } : Jvm.MethodName) method_2_code (1 : Nat) (Option.some Jvm.ClassFile.FieldType.boolean)).before args0 about1 = true := code_word (m := ⟨1, 1⟩) (meth := k1m1) (c := k1c1) (by decide +kernel) rfl rfl rfl (by decide +kernel)
def codes1 : List Jvm.Cond := [Jvm.Cond.code x code maxLocals ret, Jvm.Cond.code ({ cls := "com/example/nereus/nereus/value/XmlChars", name := "isNameStartChar", desc := "(I)Z" } : Jvm.MethodName) prog_199_method_2_code (1 : Nat) (Option.some Jvm.ClassFile.FieldType.boolean), Jvm.Cond.code ({ cls := "com/example/nereus/nereus/value/XmlCharsIsNameStartCharPinLaw", name := "excluded", desc := "(I)Z" } : Jvm.MethodName) method_2_code (1 : Nat) (Option.some Jvm.ClassFile.FieldType.boolean)]
set_option maxRecDepth 65536 in
theorem codes_eq : words1.filter isCode = codes1 := rfl
theorem w_codes : ∀ c ∈ words1.filter isCode, c.before args0 about1 = true := by
  rw [codes_eq]
  intro c hc
  simp only [codes1, List.mem_cons, List.not_mem_nil, or_false] at hc
  rcases hc with rfl | rfl | rfl
  · exact w_c0
  · exact w_c1
  · exact w_c2
set_option maxRecDepth 65536 in
theorem w_t1 : (words1.take 24).all (fun c => isCode c || c.before args0 about1) = true := by decide +kernel
set_option maxRecDepth 65536 in
theorem w_t2 : (words1.drop 24).all (fun c => isCode c || c.before args0 about1) = true := by decide +kernel
theorem w_tables : (allAtoms (Jvm.Cond.code x code maxLocals ret :: tables_1)).before args0 about1 = true := by
  rw [allAtoms_all]
  show words1.all (fun c => c.before args0 about1) = true
  refine all_split ?_ w_codes
  rw [← List.take_append_drop 24 words1, List.all_append, w_t1, w_t2]
  rfl
set_option maxRecDepth 65536 in
theorem w_case : (Jvm.Cond.and given_1 narrow_1).before args0 about1 = true := by decide +kernel
theorem w_applies : (headSpec (Jvm.Cond.code x code maxLocals ret :: tables_1) room_1).applies x e0.platform about1 = true :=
  (Spec.applies_iff w_frames).mpr ⟨w_running, w_runnable, w_alone, w_named, w_hears, w_ripe, w_room, w_tables⟩
theorem atStart : AtStart classFile x code maxLocals ret World_1 tables_1 room_1 Calls_1 rest_1 Pre_1 launch0 p0 e0 about1 theMethod args0 below0 :=
  ⟨lists_1, trivial, launch0.admits_env _ _ _, launch0.least_env, fairChoices_fair.cas, fairChoices_fair.clock, w_frames, w_args, w_heap, w_applies, trivial, trivial, w_case⟩
end start1
theorem witness_1 : WitnessClaimed_1 := ⟨start1.p0, start1.e0, start1.about1, start1.theMethod, start1.args0, start1.below0, start1.atStart⟩
end Jvm.Pilot.@@N@@
