import JvmDerived
import JvmDerived.Pilot.@@N@@Statement
import JvmDerived.Pilot.@@N@@Code
set_option linter.unusedVariables false
set_option linter.unusedSimpArgs false
namespace Jvm.Pilot.@@N@@
open Jvm Jvm.ClassFile Sem Op Lib Jvm.Free Jvm.Stand Jvm.LawKit Jvm.RoadKit Bundle Jvm.Pilot.@@N@@.Jvm.D

/-- from here the invocation ends, and what it leaves meets Q -/
def Go (p : Program) (e : Env) (below : List Frame) (s : State) (mc ms : Nat) (Q : Option Value → Heap → List Loc → Prop) (m : MethodId) (T : State) (pc : Nat) (Ls : Array Slot) (st : List Value) : Prop :=
  ∃ s₂ o, Steps p.tables e below (T.setTop (mkF m pc Ls st)) s₂ ∧ s₂.status = .running ∧ Ended s₂ below o ∧ ∃ v L, o = .returned v ∧ Q v s₂.heap L ∧ FrameEnd s o s₂ L mc ms
section Law
variable {p : Program} {l : Launch} {e : Env} {R : Room} {s : State} {m : MethodId} {args : Array Value} {below : List Frame} {meth : Method} {c : Code} {T T' : State} {locs : List Loc} {cells slots : Nat} {code : ByteArray} {Q : Option Value → Heap → List Loc → Prop} {mc ms : Nat} {pc pc' : Nat} {Ls Ls' : Array Slot} {st st' rest : List Value}
theorem Go.of (k : Go p e below s mc ms Q m T' pc' Ls' st') (h : ∀ t, Steps p.tables e below (T'.setTop (mkF m pc' Ls' st')) t → Steps p.tables e below (T.setTop (mkF m pc Ls st)) t) : Go p e below s mc ms Q m T pc Ls st := by
  obtain ⟨a, o, h1, h2⟩ := k
  exact ⟨a, o, h _ h1, h2⟩
def remI (x y : Int32) : Int32 := x - (x / y) * y
def remJ (x y : Int64) : Int64 := x - (x / y) * y
def i2bF (x : Int32) : Int32 := x.toInt8.toInt32
def i2cF (x : Int32) : Int32 := x.toUInt32.toUInt16.toUInt32.toInt32
def i2sF (x : Int32) : Int32 := x.toInt16.toInt32
def shlI (x y : Int32) : Int32 := x <<< (y &&& 31)
def shrI (x y : Int32) : Int32 := x >>> (y &&& 31)
def shlJ (x : Int64) (y : Int32) : Int64 := x <<< (y.toInt64 &&& 63)
def shrJ (x : Int64) (y : Int32) : Int64 := x >>> (y.toInt64 &&& 63)

theorem Go.iload (X : Stand p l e R s m args below meth c T locs cells slots) (hx : p.tables.exec = Jvm.exec) (hby : c.code = code) {k : Nat} {v : Int32} (hd : decode code pc = .ok (.iload k, 2)) (hpc : pc + 2 = pc') (hl : Ls[k]? = some (.val (.int v))) (h : Go p e below s mc ms Q m T pc' Ls (.int v :: st)) : Go p e below s mc ms Q m T pc Ls (st) := by
  subst hpc; exact h.of fun _ kk => XS.iload (g := mkF m pc Ls (st)) X.here hx rfl (hb hby hd) hl kk
theorem Go.iloadN (X : Stand p l e R s m args below meth c T locs cells slots) (hx : p.tables.exec = Jvm.exec) (hby : c.code = code) {k : Fin 4} {v : Int32} (hd : decode code pc = .ok (.iload_n k, 1)) (hpc : pc + 1 = pc') (hl : Ls[k.val]? = some (.val (.int v))) (h : Go p e below s mc ms Q m T pc' Ls (.int v :: st)) : Go p e below s mc ms Q m T pc Ls (st) := by
  subst hpc; exact h.of fun _ kk => XS.iloadN (g := mkF m pc Ls (st)) X.here hx rfl (hb hby hd) hl kk
theorem Go.lload (X : Stand p l e R s m args below meth c T locs cells slots) (hx : p.tables.exec = Jvm.exec) (hby : c.code = code) {k : Nat} {v : Int64} (hd : decode code pc = .ok (.lload k, 2)) (hpc : pc + 2 = pc') (hl : Ls[k]? = some (.val (.long v))) (h : Go p e below s mc ms Q m T pc' Ls (.long v :: st)) : Go p e below s mc ms Q m T pc Ls (st) := by
  subst hpc; exact h.of fun _ kk => XT.lload (g := mkF m pc Ls (st)) X.here hx rfl (hb hby hd) hl kk
theorem Go.lloadN (X : Stand p l e R s m args below meth c T locs cells slots) (hx : p.tables.exec = Jvm.exec) (hby : c.code = code) {k : Fin 4} {v : Int64} (hd : decode code pc = .ok (.lload_n k, 1)) (hpc : pc + 1 = pc') (hl : Ls[k.val]? = some (.val (.long v))) (h : Go p e below s mc ms Q m T pc' Ls (.long v :: st)) : Go p e below s mc ms Q m T pc Ls (st) := by
  subst hpc; exact h.of fun _ kk => XT.lloadN (g := mkF m pc Ls (st)) X.here hx rfl (hb hby hd) hl kk
theorem Go.aload (X : Stand p l e R s m args below meth c T locs cells slots) (hx : p.tables.exec = Jvm.exec) (hby : c.code = code) {k : Nat} {v : Value} (hd : decode code pc = .ok (.aload k, 2)) (hpc : pc + 2 = pc') (hl : Ls[k]? = some (.val v)) (hv : v.isRef = true) (h : Go p e below s mc ms Q m T pc' Ls (v :: st)) : Go p e below s mc ms Q m T pc Ls (st) := by
  subst hpc; exact h.of fun _ kk => XS.aload (g := mkF m pc Ls (st)) X.here hx rfl (hb hby hd) hl hv kk
theorem Go.aloadN (X : Stand p l e R s m args below meth c T locs cells slots) (hx : p.tables.exec = Jvm.exec) (hby : c.code = code) {k : Fin 4} {v : Value} (hd : decode code pc = .ok (.aload_n k, 1)) (hpc : pc + 1 = pc') (hl : Ls[k.val]? = some (.val v)) (hv : v.isRef = true) (h : Go p e below s mc ms Q m T pc' Ls (v :: st)) : Go p e below s mc ms Q m T pc Ls (st) := by
  subst hpc; exact h.of fun _ kk => XS.aloadN (g := mkF m pc Ls (st)) X.here hx rfl (hb hby hd) hl hv kk
theorem Go.istore (X : Stand p l e R s m args below meth c T locs cells slots) (hx : p.tables.exec = Jvm.exec) (hby : c.code = code) {k : Nat} {v : Int32} (hd : decode code pc = .ok (.istore k, 2)) (hpc : pc + 2 = pc') (hl : storeLocals Ls k (.int v) = some Ls') (h : Go p e below s mc ms Q m T pc' Ls' (st)) : Go p e below s mc ms Q m T pc Ls (.int v :: st) := by
  subst hpc; exact h.of fun _ kk => XS.istore (g := mkF m pc Ls (.int v :: st)) X.here hx rfl (hb hby hd) rfl hl kk
theorem Go.istoreN (X : Stand p l e R s m args below meth c T locs cells slots) (hx : p.tables.exec = Jvm.exec) (hby : c.code = code) {k : Fin 4} {v : Int32} (hd : decode code pc = .ok (.istore_n k, 1)) (hpc : pc + 1 = pc') (hl : storeLocals Ls k.val (.int v) = some Ls') (h : Go p e below s mc ms Q m T pc' Ls' (st)) : Go p e below s mc ms Q m T pc Ls (.int v :: st) := by
  subst hpc; exact h.of fun _ kk => XS.istoreN (g := mkF m pc Ls (.int v :: st)) X.here hx rfl (hb hby hd) rfl hl kk
theorem Go.lstore (X : Stand p l e R s m args below meth c T locs cells slots) (hx : p.tables.exec = Jvm.exec) (hby : c.code = code) {k : Nat} {v : Int64} (hd : decode code pc = .ok (.lstore k, 2)) (hpc : pc + 2 = pc') (hl : storeLocals Ls k (.long v) = some Ls') (h : Go p e below s mc ms Q m T pc' Ls' (st)) : Go p e below s mc ms Q m T pc Ls (.long v :: st) := by
  subst hpc; exact h.of fun _ kk => XT.lstore (g := mkF m pc Ls (.long v :: st)) X.here hx rfl (hb hby hd) rfl hl kk
theorem Go.lstoreN (X : Stand p l e R s m args below meth c T locs cells slots) (hx : p.tables.exec = Jvm.exec) (hby : c.code = code) {k : Fin 4} {v : Int64} (hd : decode code pc = .ok (.lstore_n k, 1)) (hpc : pc + 1 = pc') (hl : storeLocals Ls k.val (.long v) = some Ls') (h : Go p e below s mc ms Q m T pc' Ls' (st)) : Go p e below s mc ms Q m T pc Ls (.long v :: st) := by
  subst hpc; exact h.of fun _ kk => XT.lstoreN (g := mkF m pc Ls (.long v :: st)) X.here hx rfl (hb hby hd) rfl hl kk
theorem Go.astore (X : Stand p l e R s m args below meth c T locs cells slots) (hx : p.tables.exec = Jvm.exec) (hby : c.code = code) {k : Nat} {v : Value} (hd : decode code pc = .ok (.astore k, 2)) (hpc : pc + 2 = pc') (hv : v.isRef = true) (hl : storeLocals Ls k v = some Ls') (h : Go p e below s mc ms Q m T pc' Ls' (st)) : Go p e below s mc ms Q m T pc Ls (v :: st) := by
  subst hpc; exact h.of fun _ kk => XS.astore (g := mkF m pc Ls (v :: st)) X.here hx rfl (hb hby hd) rfl hv hl kk
theorem Go.astoreN (X : Stand p l e R s m args below meth c T locs cells slots) (hx : p.tables.exec = Jvm.exec) (hby : c.code = code) {k : Fin 4} {v : Value} (hd : decode code pc = .ok (.astore_n k, 1)) (hpc : pc + 1 = pc') (hv : v.isRef = true) (hl : storeLocals Ls k.val v = some Ls') (h : Go p e below s mc ms Q m T pc' Ls' (st)) : Go p e below s mc ms Q m T pc Ls (v :: st) := by
  subst hpc; exact h.of fun _ kk => XS.astoreN (g := mkF m pc Ls (v :: st)) X.here hx rfl (hb hby hd) rfl hv hl kk
theorem Go.iconst (X : Stand p l e R s m args below meth c T locs cells slots) (hx : p.tables.exec = Jvm.exec) (hby : c.code = code) {i : Int} {v : Int32} (hd : decode code pc = .ok (.iconst i, 1)) (hpc : pc + 1 = pc') (hv : Int32.ofInt i = v) (h : Go p e below s mc ms Q m T pc' Ls (.int v :: st)) : Go p e below s mc ms Q m T pc Ls (st) := by
  subst hpc; exact h.of fun _ kk => XT.iconstV (g := mkF m pc Ls (st)) X.here hx rfl v (hb hby hd) hv kk
theorem Go.bipush (X : Stand p l e R s m args below meth c T locs cells slots) (hx : p.tables.exec = Jvm.exec) (hby : c.code = code) {i : Int} {v : Int32} (hd : decode code pc = .ok (.bipush i, 2)) (hpc : pc + 2 = pc') (hv : (Int8.ofInt i).toInt32 = v) (h : Go p e below s mc ms Q m T pc' Ls (.int v :: st)) : Go p e below s mc ms Q m T pc Ls (st) := by
  subst hpc; exact h.of fun _ kk => XT.bipushV (g := mkF m pc Ls (st)) X.here hx rfl v (hb hby hd) hv kk
theorem Go.sipush (X : Stand p l e R s m args below meth c T locs cells slots) (hx : p.tables.exec = Jvm.exec) (hby : c.code = code) {i : Int} {v : Int32} (hd : decode code pc = .ok (.sipush i, 3)) (hpc : pc + 3 = pc') (hv : (Int16.ofInt i).toInt32 = v) (h : Go p e below s mc ms Q m T pc' Ls (.int v :: st)) : Go p e below s mc ms Q m T pc Ls (st) := by
  subst hpc; exact h.of fun _ kk => XT.sipushV (g := mkF m pc Ls (st)) X.here hx rfl v (hb hby hd) hv kk
theorem Go.lconst (X : Stand p l e R s m args below meth c T locs cells slots) (hx : p.tables.exec = Jvm.exec) (hby : c.code = code) {k : Fin 2} {v : Int64} (hd : decode code pc = .ok (.lconst k, 1)) (hpc : pc + 1 = pc') (hv : Int64.ofNat k = v) (h : Go p e below s mc ms Q m T pc' Ls (.long v :: st)) : Go p e below s mc ms Q m T pc Ls (st) := by
  subst hpc; exact h.of fun _ kk => XT.lconstV (g := mkF m pc Ls (st)) X.here hx rfl v (hb hby hd) hv kk
theorem Go.aconstNull (X : Stand p l e R s m args below meth c T locs cells slots) (hx : p.tables.exec = Jvm.exec) (hby : c.code = code) (hd : decode code pc = .ok (.aconst_null, 1)) (hpc : pc + 1 = pc') (h : Go p e below s mc ms Q m T pc' Ls (.null :: st)) : Go p e below s mc ms Q m T pc Ls (st) := by
  subst hpc; exact h.of fun _ kk => XS.aconstNull (g := mkF m pc Ls (st)) X.here hx rfl (hb hby hd) kk
theorem Go.ldcI (X : Stand p l e R s m args below meth c T locs cells slots) (hx : p.tables.exec = Jvm.exec) (hby : c.code = code) {Z : State} {a0 : Array Value} (hZ : Z.Warmed39 s.vm) {own : String} {k : Nat} {v : Int32} (hown : s.vm.findClass own = some m.cls) (w : (Cond.constant own k v).before a0 Z = true) (hd : decode code pc = .ok (.ldc k, 2)) (hpc : pc + 2 = pc') (h : Go p e below s mc ms Q m T pc' Ls (.int v :: st)) : Go p e below s mc ms Q m T pc Ls (st) := by
  subst hpc; exact h.of fun _ kk => Stand.ldcI (g := mkF m pc Ls (st)) X hx hown (mvT hZ w) rfl (hb hby hd) kk
theorem Go.ldcJ (X : Stand p l e R s m args below meth c T locs cells slots) (hx : p.tables.exec = Jvm.exec) (hby : c.code = code) {Z : State} {a0 : Array Value} (hZ : Z.Warmed39 s.vm) {own : String} {k : Nat} {v : Int64} (hown : s.vm.findClass own = some m.cls) (w : (Cond.constantLong own k v).before a0 Z = true) (hd : decode code pc = .ok (.ldc2_w k, 3)) (hpc : pc + 3 = pc') (h : Go p e below s mc ms Q m T pc' Ls (.long v :: st)) : Go p e below s mc ms Q m T pc Ls (st) := by
  subst hpc; exact h.of fun _ kk => Stand.ldc2J (g := mkF m pc Ls (st)) X hx hown (mvT hZ w) rfl (hb hby hd) kk
theorem Go.iadd (X : Stand p l e R s m args below meth c T locs cells slots) (hx : p.tables.exec = Jvm.exec) (hby : c.code = code) {x y : Int32} (hd : decode code pc = .ok (.iadd, 1)) (hpc : pc + 1 = pc') (h : Go p e below s mc ms Q m T pc' Ls (.int (x + y) :: st)) : Go p e below s mc ms Q m T pc Ls (.int y :: .int x :: st) := by
  subst hpc; exact h.of fun _ kk => XS.iadd (g := mkF m pc Ls (.int y :: .int x :: st)) X.here hx rfl (hb hby hd) rfl kk
theorem Go.isub (X : Stand p l e R s m args below meth c T locs cells slots) (hx : p.tables.exec = Jvm.exec) (hby : c.code = code) {x y : Int32} (hd : decode code pc = .ok (.isub, 1)) (hpc : pc + 1 = pc') (h : Go p e below s mc ms Q m T pc' Ls (.int (x - y) :: st)) : Go p e below s mc ms Q m T pc Ls (.int y :: .int x :: st) := by
  subst hpc; exact h.of fun _ kk => XS.isub (g := mkF m pc Ls (.int y :: .int x :: st)) X.here hx rfl (hb hby hd) rfl kk
theorem Go.imul (X : Stand p l e R s m args below meth c T locs cells slots) (hx : p.tables.exec = Jvm.exec) (hby : c.code = code) {x y : Int32} (hd : decode code pc = .ok (.imul, 1)) (hpc : pc + 1 = pc') (h : Go p e below s mc ms Q m T pc' Ls (.int (x * y) :: st)) : Go p e below s mc ms Q m T pc Ls (.int y :: .int x :: st) := by
  subst hpc; exact h.of fun _ kk => XS.imul (g := mkF m pc Ls (.int y :: .int x :: st)) X.here hx rfl (hb hby hd) rfl kk
theorem Go.iand (X : Stand p l e R s m args below meth c T locs cells slots) (hx : p.tables.exec = Jvm.exec) (hby : c.code = code) {x y : Int32} (hd : decode code pc = .ok (.iand, 1)) (hpc : pc + 1 = pc') (h : Go p e below s mc ms Q m T pc' Ls (.int (x &&& y) :: st)) : Go p e below s mc ms Q m T pc Ls (.int y :: .int x :: st) := by
  subst hpc; exact h.of fun _ kk => XS.iand (g := mkF m pc Ls (.int y :: .int x :: st)) X.here hx rfl (hb hby hd) rfl kk
theorem Go.ior (X : Stand p l e R s m args below meth c T locs cells slots) (hx : p.tables.exec = Jvm.exec) (hby : c.code = code) {x y : Int32} (hd : decode code pc = .ok (.ior, 1)) (hpc : pc + 1 = pc') (h : Go p e below s mc ms Q m T pc' Ls (.int (x ||| y) :: st)) : Go p e below s mc ms Q m T pc Ls (.int y :: .int x :: st) := by
  subst hpc; exact h.of fun _ kk => XT.ior (g := mkF m pc Ls (.int y :: .int x :: st)) X.here hx rfl (hb hby hd) rfl kk
theorem Go.ixor (X : Stand p l e R s m args below meth c T locs cells slots) (hx : p.tables.exec = Jvm.exec) (hby : c.code = code) {x y : Int32} (hd : decode code pc = .ok (.ixor, 1)) (hpc : pc + 1 = pc') (h : Go p e below s mc ms Q m T pc' Ls (.int (x ^^^ y) :: st)) : Go p e below s mc ms Q m T pc Ls (.int y :: .int x :: st) := by
  subst hpc; exact h.of fun _ kk => XT.ixor (g := mkF m pc Ls (.int y :: .int x :: st)) X.here hx rfl (hb hby hd) rfl kk
theorem Go.ishl (X : Stand p l e R s m args below meth c T locs cells slots) (hx : p.tables.exec = Jvm.exec) (hby : c.code = code) {x y : Int32} (hd : decode code pc = .ok (.ishl, 1)) (hpc : pc + 1 = pc') (h : Go p e below s mc ms Q m T pc' Ls (.int (shlI x y) :: st)) : Go p e below s mc ms Q m T pc Ls (.int y :: .int x :: st) := by
  subst hpc; exact h.of fun _ kk => XT.ishl (g := mkF m pc Ls (.int y :: .int x :: st)) X.here hx rfl (hb hby hd) rfl kk
theorem Go.ishr (X : Stand p l e R s m args below meth c T locs cells slots) (hx : p.tables.exec = Jvm.exec) (hby : c.code = code) {x y : Int32} (hd : decode code pc = .ok (.ishr, 1)) (hpc : pc + 1 = pc') (h : Go p e below s mc ms Q m T pc' Ls (.int (shrI x y) :: st)) : Go p e below s mc ms Q m T pc Ls (.int y :: .int x :: st) := by
  subst hpc; exact h.of fun _ kk => XT.ishr (g := mkF m pc Ls (.int y :: .int x :: st)) X.here hx rfl (hb hby hd) rfl kk
theorem Go.iushr (X : Stand p l e R s m args below meth c T locs cells slots) (hx : p.tables.exec = Jvm.exec) (hby : c.code = code) {x y : Int32} (hd : decode code pc = .ok (.iushr, 1)) (hpc : pc + 1 = pc') (h : Go p e below s mc ms Q m T pc' Ls (.int (XT.ushr x y) :: st)) : Go p e below s mc ms Q m T pc Ls (.int y :: .int x :: st) := by
  subst hpc; exact h.of fun _ kk => XT.iushr (g := mkF m pc Ls (.int y :: .int x :: st)) X.here hx rfl (hb hby hd) rfl kk
theorem Go.idiv (X : Stand p l e R s m args below meth c T locs cells slots) (hx : p.tables.exec = Jvm.exec) (hby : c.code = code) {x y : Int32} (hd : decode code pc = .ok (.idiv, 1)) (hpc : pc + 1 = pc') (hy : y ≠ 0) (h : Go p e below s mc ms Q m T pc' Ls (.int (x / y) :: st)) : Go p e below s mc ms Q m T pc Ls (.int y :: .int x :: st) := by
  subst hpc; exact h.of fun _ kk => XS.idiv (g := mkF m pc Ls (.int y :: .int x :: st)) X.here hx rfl (hb hby hd) rfl hy kk
theorem Go.irem (X : Stand p l e R s m args below meth c T locs cells slots) (hx : p.tables.exec = Jvm.exec) (hby : c.code = code) {x y : Int32} (hd : decode code pc = .ok (.irem, 1)) (hpc : pc + 1 = pc') (hy : y ≠ 0) (h : Go p e below s mc ms Q m T pc' Ls (.int (remI x y) :: st)) : Go p e below s mc ms Q m T pc Ls (.int y :: .int x :: st) := by
  subst hpc; exact h.of fun _ kk => XS.irem (g := mkF m pc Ls (.int y :: .int x :: st)) X.here hx rfl (hb hby hd) rfl hy kk
theorem Go.ladd (X : Stand p l e R s m args below meth c T locs cells slots) (hx : p.tables.exec = Jvm.exec) (hby : c.code = code) {x y : Int64} (hd : decode code pc = .ok (.ladd, 1)) (hpc : pc + 1 = pc') (h : Go p e below s mc ms Q m T pc' Ls (.long (x + y) :: st)) : Go p e below s mc ms Q m T pc Ls (.long y :: .long x :: st) := by
  subst hpc; exact h.of fun _ kk => XT.ladd (g := mkF m pc Ls (.long y :: .long x :: st)) X.here hx rfl (hb hby hd) rfl kk
theorem Go.lsub (X : Stand p l e R s m args below meth c T locs cells slots) (hx : p.tables.exec = Jvm.exec) (hby : c.code = code) {x y : Int64} (hd : decode code pc = .ok (.lsub, 1)) (hpc : pc + 1 = pc') (h : Go p e below s mc ms Q m T pc' Ls (.long (x - y) :: st)) : Go p e below s mc ms Q m T pc Ls (.long y :: .long x :: st) := by
  subst hpc; exact h.of fun _ kk => XT.lsub (g := mkF m pc Ls (.long y :: .long x :: st)) X.here hx rfl (hb hby hd) rfl kk
theorem Go.lmul (X : Stand p l e R s m args below meth c T locs cells slots) (hx : p.tables.exec = Jvm.exec) (hby : c.code = code) {x y : Int64} (hd : decode code pc = .ok (.lmul, 1)) (hpc : pc + 1 = pc') (h : Go p e below s mc ms Q m T pc' Ls (.long (x * y) :: st)) : Go p e below s mc ms Q m T pc Ls (.long y :: .long x :: st) := by
  subst hpc; exact h.of fun _ kk => XT.lmul (g := mkF m pc Ls (.long y :: .long x :: st)) X.here hx rfl (hb hby hd) rfl kk
theorem Go.land (X : Stand p l e R s m args below meth c T locs cells slots) (hx : p.tables.exec = Jvm.exec) (hby : c.code = code) {x y : Int64} (hd : decode code pc = .ok (.land, 1)) (hpc : pc + 1 = pc') (h : Go p e below s mc ms Q m T pc' Ls (.long (x &&& y) :: st)) : Go p e below s mc ms Q m T pc Ls (.long y :: .long x :: st) := by
  subst hpc; exact h.of fun _ kk => XT.land (g := mkF m pc Ls (.long y :: .long x :: st)) X.here hx rfl (hb hby hd) rfl kk
theorem Go.lor (X : Stand p l e R s m args below meth c T locs cells slots) (hx : p.tables.exec = Jvm.exec) (hby : c.code = code) {x y : Int64} (hd : decode code pc = .ok (.lor, 1)) (hpc : pc + 1 = pc') (h : Go p e below s mc ms Q m T pc' Ls (.long (x ||| y) :: st)) : Go p e below s mc ms Q m T pc Ls (.long y :: .long x :: st) := by
  subst hpc; exact h.of fun _ kk => XT.lor (g := mkF m pc Ls (.long y :: .long x :: st)) X.here hx rfl (hb hby hd) rfl kk
theorem Go.lxor (X : Stand p l e R s m args below meth c T locs cells slots) (hx : p.tables.exec = Jvm.exec) (hby : c.code = code) {x y : Int64} (hd : decode code pc = .ok (.lxor, 1)) (hpc : pc + 1 = pc') (h : Go p e below s mc ms Q m T pc' Ls (.long (x ^^^ y) :: st)) : Go p e below s mc ms Q m T pc Ls (.long y :: .long x :: st) := by
  subst hpc; exact h.of fun _ kk => XT.lxor (g := mkF m pc Ls (.long y :: .long x :: st)) X.here hx rfl (hb hby hd) rfl kk
theorem Go.ldiv (X : Stand p l e R s m args below meth c T locs cells slots) (hx : p.tables.exec = Jvm.exec) (hby : c.code = code) {x y : Int64} (hd : decode code pc = .ok (.ldiv, 1)) (hpc : pc + 1 = pc') (hy : y ≠ 0) (h : Go p e below s mc ms Q m T pc' Ls (.long (x / y) :: st)) : Go p e below s mc ms Q m T pc Ls (.long y :: .long x :: st) := by
  subst hpc; exact h.of fun _ kk => XT.ldiv (g := mkF m pc Ls (.long y :: .long x :: st)) X.here hx rfl (hb hby hd) rfl hy kk
theorem Go.lrem (X : Stand p l e R s m args below meth c T locs cells slots) (hx : p.tables.exec = Jvm.exec) (hby : c.code = code) {x y : Int64} (hd : decode code pc = .ok (.lrem, 1)) (hpc : pc + 1 = pc') (hy : y ≠ 0) (h : Go p e below s mc ms Q m T pc' Ls (.long (remJ x y) :: st)) : Go p e below s mc ms Q m T pc Ls (.long y :: .long x :: st) := by
  subst hpc; exact h.of fun _ kk => XT.lrem (g := mkF m pc Ls (.long y :: .long x :: st)) X.here hx rfl (hb hby hd) rfl hy kk
theorem Go.lushr (X : Stand p l e R s m args below meth c T locs cells slots) (hx : p.tables.exec = Jvm.exec) (hby : c.code = code) {x : Int64} {y : Int32} (hd : decode code pc = .ok (.lushr, 1)) (hpc : pc + 1 = pc') (h : Go p e below s mc ms Q m T pc' Ls (.long (XT.ushrL x y) :: st)) : Go p e below s mc ms Q m T pc Ls (.int y :: .long x :: st) := by
  subst hpc; exact h.of fun _ kk => XT.lushr (g := mkF m pc Ls (.int y :: .long x :: st)) X.here hx rfl (hb hby hd) rfl kk
theorem Go.lshl (X : Stand p l e R s m args below meth c T locs cells slots) (hx : p.tables.exec = Jvm.exec) (hby : c.code = code) {x : Int64} {y : Int32} {z : Int64} (hd : decode code pc = .ok (.lshl, 1)) (hpc : pc + 1 = pc') (hz : x <<< (y.toInt64 &&& 63) = z) (h : Go p e below s mc ms Q m T pc' Ls (.long z :: st)) : Go p e below s mc ms Q m T pc Ls (.int y :: .long x :: st) := by
  subst hpc hz; exact h.of fun _ kk => XT.lshl (g := mkF m pc Ls (.int y :: .long x :: st)) X.here hx rfl (hb hby hd) rfl kk
theorem Go.lshr (X : Stand p l e R s m args below meth c T locs cells slots) (hx : p.tables.exec = Jvm.exec) (hby : c.code = code) {x : Int64} {y : Int32} {z : Int64} (hd : decode code pc = .ok (.lshr, 1)) (hpc : pc + 1 = pc') (hz : x >>> (y.toInt64 &&& 63) = z) (h : Go p e below s mc ms Q m T pc' Ls (.long z :: st)) : Go p e below s mc ms Q m T pc Ls (.int y :: .long x :: st) := by
  subst hpc hz; exact h.of fun _ kk => XT.lshr (g := mkF m pc Ls (.int y :: .long x :: st)) X.here hx rfl (hb hby hd) rfl kk
theorem Go.lcmp (X : Stand p l e R s m args below meth c T locs cells slots) (hx : p.tables.exec = Jvm.exec) (hby : c.code = code) {x y : Int64} (hd : decode code pc = .ok (.lcmp, 1)) (hpc : pc + 1 = pc') (h : Go p e below s mc ms Q m T pc' Ls (.int (XT.cmpL x y) :: st)) : Go p e below s mc ms Q m T pc Ls (.long y :: .long x :: st) := by
  subst hpc; exact h.of fun _ kk => XT.lcmp (g := mkF m pc Ls (.long y :: .long x :: st)) X.here hx rfl (hb hby hd) rfl kk
theorem Go.ineg (X : Stand p l e R s m args below meth c T locs cells slots) (hx : p.tables.exec = Jvm.exec) (hby : c.code = code) {x : Int32} (hd : decode code pc = .ok (.ineg, 1)) (hpc : pc + 1 = pc') (h : Go p e below s mc ms Q m T pc' Ls (.int (-x) :: st)) : Go p e below s mc ms Q m T pc Ls (.int x :: st) := by
  subst hpc; exact h.of fun _ kk => XS.ineg (g := mkF m pc Ls (.int x :: st)) X.here hx rfl (hb hby hd) rfl kk
theorem Go.i2l (X : Stand p l e R s m args below meth c T locs cells slots) (hx : p.tables.exec = Jvm.exec) (hby : c.code = code) {x : Int32} (hd : decode code pc = .ok (.i2l, 1)) (hpc : pc + 1 = pc') (h : Go p e below s mc ms Q m T pc' Ls (.long (x.toInt64) :: st)) : Go p e below s mc ms Q m T pc Ls (.int x :: st) := by
  subst hpc; exact h.of fun _ kk => XT.i2l (g := mkF m pc Ls (.int x :: st)) X.here hx rfl (hb hby hd) rfl kk
theorem Go.l2i (X : Stand p l e R s m args below meth c T locs cells slots) (hx : p.tables.exec = Jvm.exec) (hby : c.code = code) {x : Int64} (hd : decode code pc = .ok (.l2i, 1)) (hpc : pc + 1 = pc') (h : Go p e below s mc ms Q m T pc' Ls (.int (x.toInt32) :: st)) : Go p e below s mc ms Q m T pc Ls (.long x :: st) := by
  subst hpc; exact h.of fun _ kk => XT.l2i (g := mkF m pc Ls (.long x :: st)) X.here hx rfl (hb hby hd) rfl kk
theorem Go.i2b (X : Stand p l e R s m args below meth c T locs cells slots) (hx : p.tables.exec = Jvm.exec) (hby : c.code = code) {x : Int32} (hd : decode code pc = .ok (.i2b, 1)) (hpc : pc + 1 = pc') (h : Go p e below s mc ms Q m T pc' Ls (.int (i2bF x) :: st)) : Go p e below s mc ms Q m T pc Ls (.int x :: st) := by
  subst hpc; exact h.of fun _ kk => XT.i2b (g := mkF m pc Ls (.int x :: st)) X.here hx rfl (hb hby hd) rfl kk
theorem Go.i2c (X : Stand p l e R s m args below meth c T locs cells slots) (hx : p.tables.exec = Jvm.exec) (hby : c.code = code) {x : Int32} (hd : decode code pc = .ok (.i2c, 1)) (hpc : pc + 1 = pc') (h : Go p e below s mc ms Q m T pc' Ls (.int (i2cF x) :: st)) : Go p e below s mc ms Q m T pc Ls (.int x :: st) := by
  subst hpc; exact h.of fun _ kk => XT.i2c (g := mkF m pc Ls (.int x :: st)) X.here hx rfl (hb hby hd) rfl kk
theorem Go.i2s (X : Stand p l e R s m args below meth c T locs cells slots) (hx : p.tables.exec = Jvm.exec) (hby : c.code = code) {x : Int32} (hd : decode code pc = .ok (.i2s, 1)) (hpc : pc + 1 = pc') (h : Go p e below s mc ms Q m T pc' Ls (.int (i2sF x) :: st)) : Go p e below s mc ms Q m T pc Ls (.int x :: st) := by
  subst hpc; exact h.of fun _ kk => XT.i2s (g := mkF m pc Ls (.int x :: st)) X.here hx rfl (hb hby hd) rfl kk
theorem Go.iinc (X : Stand p l e R s m args below meth c T locs cells slots) (hx : p.tables.exec = Jvm.exec) (hby : c.code = code) {k : Nat} {i : Int} {x v : Int32} (hd : decode code pc = .ok (.iinc k i, 3)) (hpc : pc + 3 = pc') (hv : Int32.ofInt i = v) (hl : Ls[k]? = some (.val (.int x))) (hl' : storeLocals Ls k (.int (x + v)) = some Ls') (h : Go p e below s mc ms Q m T pc' Ls' (st)) : Go p e below s mc ms Q m T pc Ls (st) := by
  subst hpc; exact h.of fun _ kk => XT.iincV (g := mkF m pc Ls (st)) X.here hx rfl v (hb hby hd) hv hl hl' kk
theorem Go.dup (X : Stand p l e R s m args below meth c T locs cells slots) (hx : p.tables.exec = Jvm.exec) (hby : c.code = code) {v : Value} (hd : decode code pc = .ok (.dup, 1)) (hpc : pc + 1 = pc') (hv : v.category = 1) (h : Go p e below s mc ms Q m T pc' Ls (v :: v :: st)) : Go p e below s mc ms Q m T pc Ls (v :: st) := by
  subst hpc; exact h.of fun _ kk => XS.dup (g := mkF m pc Ls (v :: st)) X.here hx rfl (hb hby hd) rfl hv kk
theorem Go.pop (X : Stand p l e R s m args below meth c T locs cells slots) (hx : p.tables.exec = Jvm.exec) (hby : c.code = code) {v : Value} (hd : decode code pc = .ok (.pop, 1)) (hpc : pc + 1 = pc') (hv : v.category = 1) (h : Go p e below s mc ms Q m T pc' Ls (st)) : Go p e below s mc ms Q m T pc Ls (v :: st) := by
  subst hpc; exact h.of fun _ kk => XT.pop (g := mkF m pc Ls (v :: st)) X.here hx rfl (hb hby hd) rfl hv kk
theorem Go.goto (X : Stand p l e R s m args below meth c T locs cells slots) (hx : p.tables.exec = Jvm.exec) (hby : c.code = code) {o : Int} (hd : decode code pc = .ok (.goto o, 3)) (ho : 0 ≤ (pc : Int) + o) (hp : ((pc : Int) + o).toNat = pc') (h : Go p e below s mc ms Q m T pc' Ls st) : Go p e below s mc ms Q m T pc Ls st :=
  h.of fun _ kk => XS.goto (g := mkF m pc Ls st) X.here hx rfl (pc0 := pc) rfl (hb hby hd) ho hp kk
theorem Go.icmp_eq (X : Stand p l e R s m args below meth c T locs cells slots) (hx : p.tables.exec = Jvm.exec) (hby : c.code = code) {pcN : Nat} {x y : Int32} {o : Int} (hd : decode code pc = .ok (.if_icmp .eq o, 3)) (ho : 0 ≤ (pc : Int) + o) (hp : ((pc : Int) + o).toNat = pc') (hn : pc + 3 = pcN) (yes : x = y → Go p e below s mc ms Q m T pc' Ls st) (no : ¬ x = y → Go p e below s mc ms Q m T pcN Ls st) : Go p e below s mc ms Q m T pc Ls (.int y :: .int x :: st) := by
  subst hn
  by_cases q : x = y
  · exact (yes q).of fun _ kk => XS.icmpYes (g := mkF m pc Ls (.int y :: .int x :: st)) X.here hx rfl (pc0 := pc) rfl (hb hby hd) rfl (XT.ii_eq_t q) ho hp kk
  · exact (no q).of fun _ kk => XS.icmpNo (g := mkF m pc Ls (.int y :: .int x :: st)) X.here hx rfl (hb hby hd) rfl (XT.ii_eq_f q) kk
theorem Go.icmp_ne (X : Stand p l e R s m args below meth c T locs cells slots) (hx : p.tables.exec = Jvm.exec) (hby : c.code = code) {pcN : Nat} {x y : Int32} {o : Int} (hd : decode code pc = .ok (.if_icmp .ne o, 3)) (ho : 0 ≤ (pc : Int) + o) (hp : ((pc : Int) + o).toNat = pc') (hn : pc + 3 = pcN) (yes : ¬ x = y → Go p e below s mc ms Q m T pc' Ls st) (no : x = y → Go p e below s mc ms Q m T pcN Ls st) : Go p e below s mc ms Q m T pc Ls (.int y :: .int x :: st) := by
  subst hn
  by_cases q : x = y
  · exact (no q).of fun _ kk => XS.icmpNo (g := mkF m pc Ls (.int y :: .int x :: st)) X.here hx rfl (hb hby hd) rfl (XT.ii_ne_f q) kk
  · exact (yes q).of fun _ kk => XS.icmpYes (g := mkF m pc Ls (.int y :: .int x :: st)) X.here hx rfl (pc0 := pc) rfl (hb hby hd) rfl (XT.ii_ne_t q) ho hp kk
theorem Go.icmp_lt (X : Stand p l e R s m args below meth c T locs cells slots) (hx : p.tables.exec = Jvm.exec) (hby : c.code = code) {pcN : Nat} {x y : Int32} {o : Int} (hd : decode code pc = .ok (.if_icmp .lt o, 3)) (ho : 0 ≤ (pc : Int) + o) (hp : ((pc : Int) + o).toNat = pc') (hn : pc + 3 = pcN) (yes : x < y → Go p e below s mc ms Q m T pc' Ls st) (no : ¬ x < y → Go p e below s mc ms Q m T pcN Ls st) : Go p e below s mc ms Q m T pc Ls (.int y :: .int x :: st) := by
  subst hn
  by_cases q : x < y
  · exact (yes q).of fun _ kk => XS.icmpYes (g := mkF m pc Ls (.int y :: .int x :: st)) X.here hx rfl (pc0 := pc) rfl (hb hby hd) rfl (XT.ii_lt_t q) ho hp kk
  · exact (no q).of fun _ kk => XS.icmpNo (g := mkF m pc Ls (.int y :: .int x :: st)) X.here hx rfl (hb hby hd) rfl (XT.ii_lt_f q) kk
theorem Go.icmp_ge (X : Stand p l e R s m args below meth c T locs cells slots) (hx : p.tables.exec = Jvm.exec) (hby : c.code = code) {pcN : Nat} {x y : Int32} {o : Int} (hd : decode code pc = .ok (.if_icmp .ge o, 3)) (ho : 0 ≤ (pc : Int) + o) (hp : ((pc : Int) + o).toNat = pc') (hn : pc + 3 = pcN) (yes : ¬ x < y → Go p e below s mc ms Q m T pc' Ls st) (no : x < y → Go p e below s mc ms Q m T pcN Ls st) : Go p e below s mc ms Q m T pc Ls (.int y :: .int x :: st) := by
  subst hn
  by_cases q : x < y
  · exact (no q).of fun _ kk => XS.icmpNo (g := mkF m pc Ls (.int y :: .int x :: st)) X.here hx rfl (hb hby hd) rfl (XT.ii_ge_f q) kk
  · exact (yes q).of fun _ kk => XS.icmpYes (g := mkF m pc Ls (.int y :: .int x :: st)) X.here hx rfl (pc0 := pc) rfl (hb hby hd) rfl (XT.ii_ge_t q) ho hp kk
theorem Go.icmp_gt (X : Stand p l e R s m args below meth c T locs cells slots) (hx : p.tables.exec = Jvm.exec) (hby : c.code = code) {pcN : Nat} {x y : Int32} {o : Int} (hd : decode code pc = .ok (.if_icmp .gt o, 3)) (ho : 0 ≤ (pc : Int) + o) (hp : ((pc : Int) + o).toNat = pc') (hn : pc + 3 = pcN) (yes : y < x → Go p e below s mc ms Q m T pc' Ls st) (no : ¬ y < x → Go p e below s mc ms Q m T pcN Ls st) : Go p e below s mc ms Q m T pc Ls (.int y :: .int x :: st) := by
  subst hn
  by_cases q : y < x
  · exact (yes q).of fun _ kk => XS.icmpYes (g := mkF m pc Ls (.int y :: .int x :: st)) X.here hx rfl (pc0 := pc) rfl (hb hby hd) rfl (XT.ii_gt_t q) ho hp kk
  · exact (no q).of fun _ kk => XS.icmpNo (g := mkF m pc Ls (.int y :: .int x :: st)) X.here hx rfl (hb hby hd) rfl (XT.ii_gt_f q) kk
theorem Go.icmp_le (X : Stand p l e R s m args below meth c T locs cells slots) (hx : p.tables.exec = Jvm.exec) (hby : c.code = code) {pcN : Nat} {x y : Int32} {o : Int} (hd : decode code pc = .ok (.if_icmp .le o, 3)) (ho : 0 ≤ (pc : Int) + o) (hp : ((pc : Int) + o).toNat = pc') (hn : pc + 3 = pcN) (yes : ¬ y < x → Go p e below s mc ms Q m T pc' Ls st) (no : y < x → Go p e below s mc ms Q m T pcN Ls st) : Go p e below s mc ms Q m T pc Ls (.int y :: .int x :: st) := by
  subst hn
  by_cases q : y < x
  · exact (no q).of fun _ kk => XS.icmpNo (g := mkF m pc Ls (.int y :: .int x :: st)) X.here hx rfl (hb hby hd) rfl (XT.ii_le_f q) kk
  · exact (yes q).of fun _ kk => XS.icmpYes (g := mkF m pc Ls (.int y :: .int x :: st)) X.here hx rfl (pc0 := pc) rfl (hb hby hd) rfl (XT.ii_le_t q) ho hp kk
theorem Go.if_eq (X : Stand p l e R s m args below meth c T locs cells slots) (hx : p.tables.exec = Jvm.exec) (hby : c.code = code) {pcN : Nat} {x : Int32} {o : Int} (hd : decode code pc = .ok (.ifCond .eq o, 3)) (ho : 0 ≤ (pc : Int) + o) (hp : ((pc : Int) + o).toNat = pc') (hn : pc + 3 = pcN) (yes : x = 0 → Go p e below s mc ms Q m T pc' Ls st) (no : ¬ x = 0 → Go p e below s mc ms Q m T pcN Ls st) : Go p e below s mc ms Q m T pc Ls (.int x :: st) := by
  subst hn
  by_cases q : x = 0
  · exact (yes q).of fun _ kk => XS.ifYes (g := mkF m pc Ls (.int x :: st)) X.here hx rfl (pc0 := pc) rfl (hb hby hd) rfl (XT.i0_eq_t q) ho hp kk
  · exact (no q).of fun _ kk => XS.ifNo (g := mkF m pc Ls (.int x :: st)) X.here hx rfl (hb hby hd) rfl (XT.i0_eq_f q) kk
theorem Go.if_ne (X : Stand p l e R s m args below meth c T locs cells slots) (hx : p.tables.exec = Jvm.exec) (hby : c.code = code) {pcN : Nat} {x : Int32} {o : Int} (hd : decode code pc = .ok (.ifCond .ne o, 3)) (ho : 0 ≤ (pc : Int) + o) (hp : ((pc : Int) + o).toNat = pc') (hn : pc + 3 = pcN) (yes : ¬ x = 0 → Go p e below s mc ms Q m T pc' Ls st) (no : x = 0 → Go p e below s mc ms Q m T pcN Ls st) : Go p e below s mc ms Q m T pc Ls (.int x :: st) := by
  subst hn
  by_cases q : x = 0
  · exact (no q).of fun _ kk => XS.ifNo (g := mkF m pc Ls (.int x :: st)) X.here hx rfl (hb hby hd) rfl (XT.i0_ne_f q) kk
  · exact (yes q).of fun _ kk => XS.ifYes (g := mkF m pc Ls (.int x :: st)) X.here hx rfl (pc0 := pc) rfl (hb hby hd) rfl (XT.i0_ne_t q) ho hp kk
theorem Go.if_lt (X : Stand p l e R s m args below meth c T locs cells slots) (hx : p.tables.exec = Jvm.exec) (hby : c.code = code) {pcN : Nat} {x : Int32} {o : Int} (hd : decode code pc = .ok (.ifCond .lt o, 3)) (ho : 0 ≤ (pc : Int) + o) (hp : ((pc : Int) + o).toNat = pc') (hn : pc + 3 = pcN) (yes : x < 0 → Go p e below s mc ms Q m T pc' Ls st) (no : ¬ x < 0 → Go p e below s mc ms Q m T pcN Ls st) : Go p e below s mc ms Q m T pc Ls (.int x :: st) := by
  subst hn
  by_cases q : x < 0
  · exact (yes q).of fun _ kk => XS.ifYes (g := mkF m pc Ls (.int x :: st)) X.here hx rfl (pc0 := pc) rfl (hb hby hd) rfl (XT.i0_lt_t q) ho hp kk
  · exact (no q).of fun _ kk => XS.ifNo (g := mkF m pc Ls (.int x :: st)) X.here hx rfl (hb hby hd) rfl (XT.i0_lt_f q) kk
theorem Go.if_ge (X : Stand p l e R s m args below meth c T locs cells slots) (hx : p.tables.exec = Jvm.exec) (hby : c.code = code) {pcN : Nat} {x : Int32} {o : Int} (hd : decode code pc = .ok (.ifCond .ge o, 3)) (ho : 0 ≤ (pc : Int) + o) (hp : ((pc : Int) + o).toNat = pc') (hn : pc + 3 = pcN) (yes : ¬ x < 0 → Go p e below s mc ms Q m T pc' Ls st) (no : x < 0 → Go p e below s mc ms Q m T pcN Ls st) : Go p e below s mc ms Q m T pc Ls (.int x :: st) := by
  subst hn
  by_cases q : x < 0
  · exact (no q).of fun _ kk => XS.ifNo (g := mkF m pc Ls (.int x :: st)) X.here hx rfl (hb hby hd) rfl (XT.i0_ge_f q) kk
  · exact (yes q).of fun _ kk => XS.ifYes (g := mkF m pc Ls (.int x :: st)) X.here hx rfl (pc0 := pc) rfl (hb hby hd) rfl (XT.i0_ge_t q) ho hp kk
theorem Go.if_gt (X : Stand p l e R s m args below meth c T locs cells slots) (hx : p.tables.exec = Jvm.exec) (hby : c.code = code) {pcN : Nat} {x : Int32} {o : Int} (hd : decode code pc = .ok (.ifCond .gt o, 3)) (ho : 0 ≤ (pc : Int) + o) (hp : ((pc : Int) + o).toNat = pc') (hn : pc + 3 = pcN) (yes : 0 < x → Go p e below s mc ms Q m T pc' Ls st) (no : ¬ 0 < x → Go p e below s mc ms Q m T pcN Ls st) : Go p e below s mc ms Q m T pc Ls (.int x :: st) := by
  subst hn
  by_cases q : 0 < x
  · exact (yes q).of fun _ kk => XS.ifYes (g := mkF m pc Ls (.int x :: st)) X.here hx rfl (pc0 := pc) rfl (hb hby hd) rfl (XT.i0_gt_t q) ho hp kk
  · exact (no q).of fun _ kk => XS.ifNo (g := mkF m pc Ls (.int x :: st)) X.here hx rfl (hb hby hd) rfl (XT.i0_gt_f q) kk
theorem Go.if_le (X : Stand p l e R s m args below meth c T locs cells slots) (hx : p.tables.exec = Jvm.exec) (hby : c.code = code) {pcN : Nat} {x : Int32} {o : Int} (hd : decode code pc = .ok (.ifCond .le o, 3)) (ho : 0 ≤ (pc : Int) + o) (hp : ((pc : Int) + o).toNat = pc') (hn : pc + 3 = pcN) (yes : ¬ 0 < x → Go p e below s mc ms Q m T pc' Ls st) (no : 0 < x → Go p e below s mc ms Q m T pcN Ls st) : Go p e below s mc ms Q m T pc Ls (.int x :: st) := by
  subst hn
  by_cases q : 0 < x
  · exact (no q).of fun _ kk => XS.ifNo (g := mkF m pc Ls (.int x :: st)) X.here hx rfl (hb hby hd) rfl (XT.i0_le_f q) kk
  · exact (yes q).of fun _ kk => XS.ifYes (g := mkF m pc Ls (.int x :: st)) X.here hx rfl (pc0 := pc) rfl (hb hby hd) rfl (XT.i0_le_t q) ho hp kk
theorem Go.ifL_eq (X : Stand p l e R s m args below meth c T locs cells slots) (hx : p.tables.exec = Jvm.exec) (hby : c.code = code) {pcN : Nat} {x y : Int64} {o : Int} (hd : decode code pc = .ok (.ifCond .eq o, 3)) (ho : 0 ≤ (pc : Int) + o) (hp : ((pc : Int) + o).toNat = pc') (hn : pc + 3 = pcN) (yes : x = y → Go p e below s mc ms Q m T pc' Ls st) (no : ¬ x = y → Go p e below s mc ms Q m T pcN Ls st) : Go p e below s mc ms Q m T pc Ls (.int (XT.cmpL x y) :: st) := by
  subst hn
  by_cases q : x = y
  · exact (yes q).of fun _ kk => XS.ifYes (g := mkF m pc Ls (.int (XT.cmpL x y) :: st)) X.here hx rfl (pc0 := pc) rfl (hb hby hd) rfl (XT.ll_eq_t q) ho hp kk
  · exact (no q).of fun _ kk => XS.ifNo (g := mkF m pc Ls (.int (XT.cmpL x y) :: st)) X.here hx rfl (hb hby hd) rfl (XT.ll_eq_f q) kk
theorem Go.ifL_ne (X : Stand p l e R s m args below meth c T locs cells slots) (hx : p.tables.exec = Jvm.exec) (hby : c.code = code) {pcN : Nat} {x y : Int64} {o : Int} (hd : decode code pc = .ok (.ifCond .ne o, 3)) (ho : 0 ≤ (pc : Int) + o) (hp : ((pc : Int) + o).toNat = pc') (hn : pc + 3 = pcN) (yes : ¬ x = y → Go p e below s mc ms Q m T pc' Ls st) (no : x = y → Go p e below s mc ms Q m T pcN Ls st) : Go p e below s mc ms Q m T pc Ls (.int (XT.cmpL x y) :: st) := by
  subst hn
  by_cases q : x = y
  · exact (no q).of fun _ kk => XS.ifNo (g := mkF m pc Ls (.int (XT.cmpL x y) :: st)) X.here hx rfl (hb hby hd) rfl (XT.ll_ne_f q) kk
  · exact (yes q).of fun _ kk => XS.ifYes (g := mkF m pc Ls (.int (XT.cmpL x y) :: st)) X.here hx rfl (pc0 := pc) rfl (hb hby hd) rfl (XT.ll_ne_t q) ho hp kk
theorem Go.ifL_lt (X : Stand p l e R s m args below meth c T locs cells slots) (hx : p.tables.exec = Jvm.exec) (hby : c.code = code) {pcN : Nat} {x y : Int64} {o : Int} (hd : decode code pc = .ok (.ifCond .lt o, 3)) (ho : 0 ≤ (pc : Int) + o) (hp : ((pc : Int) + o).toNat = pc') (hn : pc + 3 = pcN) (yes : x < y → Go p e below s mc ms Q m T pc' Ls st) (no : ¬ x < y → Go p e below s mc ms Q m T pcN Ls st) : Go p e below s mc ms Q m T pc Ls (.int (XT.cmpL x y) :: st) := by
  subst hn
  by_cases q : x < y
  · exact (yes q).of fun _ kk => XS.ifYes (g := mkF m pc Ls (.int (XT.cmpL x y) :: st)) X.here hx rfl (pc0 := pc) rfl (hb hby hd) rfl (XT.ll_lt_t q) ho hp kk
  · exact (no q).of fun _ kk => XS.ifNo (g := mkF m pc Ls (.int (XT.cmpL x y) :: st)) X.here hx rfl (hb hby hd) rfl (XT.ll_lt_f q) kk
theorem Go.ifL_ge (X : Stand p l e R s m args below meth c T locs cells slots) (hx : p.tables.exec = Jvm.exec) (hby : c.code = code) {pcN : Nat} {x y : Int64} {o : Int} (hd : decode code pc = .ok (.ifCond .ge o, 3)) (ho : 0 ≤ (pc : Int) + o) (hp : ((pc : Int) + o).toNat = pc') (hn : pc + 3 = pcN) (yes : ¬ x < y → Go p e below s mc ms Q m T pc' Ls st) (no : x < y → Go p e below s mc ms Q m T pcN Ls st) : Go p e below s mc ms Q m T pc Ls (.int (XT.cmpL x y) :: st) := by
  subst hn
  by_cases q : x < y
  · exact (no q).of fun _ kk => XS.ifNo (g := mkF m pc Ls (.int (XT.cmpL x y) :: st)) X.here hx rfl (hb hby hd) rfl (XT.ll_ge_f q) kk
  · exact (yes q).of fun _ kk => XS.ifYes (g := mkF m pc Ls (.int (XT.cmpL x y) :: st)) X.here hx rfl (pc0 := pc) rfl (hb hby hd) rfl (XT.ll_ge_t q) ho hp kk
theorem Go.ifL_gt (X : Stand p l e R s m args below meth c T locs cells slots) (hx : p.tables.exec = Jvm.exec) (hby : c.code = code) {pcN : Nat} {x y : Int64} {o : Int} (hd : decode code pc = .ok (.ifCond .gt o, 3)) (ho : 0 ≤ (pc : Int) + o) (hp : ((pc : Int) + o).toNat = pc') (hn : pc + 3 = pcN) (yes : y < x → Go p e below s mc ms Q m T pc' Ls st) (no : ¬ y < x → Go p e below s mc ms Q m T pcN Ls st) : Go p e below s mc ms Q m T pc Ls (.int (XT.cmpL x y) :: st) := by
  subst hn
  by_cases q : y < x
  · exact (yes q).of fun _ kk => XS.ifYes (g := mkF m pc Ls (.int (XT.cmpL x y) :: st)) X.here hx rfl (pc0 := pc) rfl (hb hby hd) rfl (XT.ll_gt_t q) ho hp kk
  · exact (no q).of fun _ kk => XS.ifNo (g := mkF m pc Ls (.int (XT.cmpL x y) :: st)) X.here hx rfl (hb hby hd) rfl (XT.ll_gt_f q) kk
theorem Go.ifL_le (X : Stand p l e R s m args below meth c T locs cells slots) (hx : p.tables.exec = Jvm.exec) (hby : c.code = code) {pcN : Nat} {x y : Int64} {o : Int} (hd : decode code pc = .ok (.ifCond .le o, 3)) (ho : 0 ≤ (pc : Int) + o) (hp : ((pc : Int) + o).toNat = pc') (hn : pc + 3 = pcN) (yes : ¬ y < x → Go p e below s mc ms Q m T pc' Ls st) (no : y < x → Go p e below s mc ms Q m T pcN Ls st) : Go p e below s mc ms Q m T pc Ls (.int (XT.cmpL x y) :: st) := by
  subst hn
  by_cases q : y < x
  · exact (no q).of fun _ kk => XS.ifNo (g := mkF m pc Ls (.int (XT.cmpL x y) :: st)) X.here hx rfl (hb hby hd) rfl (XT.ll_le_f q) kk
  · exact (yes q).of fun _ kk => XS.ifYes (g := mkF m pc Ls (.int (XT.cmpL x y) :: st)) X.here hx rfl (pc0 := pc) rfl (hb hby hd) rfl (XT.ll_le_t q) ho hp kk
theorem Go.iretI (X : Stand p l e R s m args below meth c T locs cells slots) (hx : p.tables.exec = Jvm.exec) (hby : c.code = code) (hlk : meth.locks = false) (hret : meth.sig.returnType = some .int) {w : Int32} (hd : decode code pc = .ok (.ireturn, 1)) (hc : cells ≤ mc) (hs : slots ≤ ms) (hq : Q (some (.int w)) T.heap locs) : Go p e below s mc ms Q m T pc Ls [.int w] := by
  obtain ⟨fs, hr, hrun, hended, hW, hsame⟩ := X.leave (v := some (.int w)) (fun h => by rw [hret] at h; cases h) hlk
  exact ⟨_, _, X.ireturnOut hx hret rfl (Or.inl rfl) (hb hby hd) hr, hrun, hended, _, _, rfl, hq, ⟨_, rfl⟩, hW, hsame.mono hc hs⟩
theorem Go.iretN (X : Stand p l e R s m args below meth c T locs cells slots) (hx : p.tables.exec = Jvm.exec) (hby : c.code = code) (hlk : meth.locks = false) {t : FieldType} (hret : meth.sig.returnType = some t) (ht : t = .boolean ∨ t = .byte ∨ t = .char ∨ t = .short) {w w' : Int32} (hw : nar t w = w') (hd : decode code pc = .ok (.ireturn, 1)) (hc : cells ≤ mc) (hs : slots ≤ ms) (hq : Q (some (.int w')) T.heap locs) : Go p e below s mc ms Q m T pc Ls [.int w] := by
  subst hw
  obtain ⟨fs, hr, hrun, hended, hW, hsame⟩ := X.leave (v := some (.int (nar t w))) (fun h => by rw [hret] at h; cases h) hlk
  exact ⟨_, _, retN X hx (t := t) hret ht (hb hby hd) hr, hrun, hended, _, _, rfl, hq, ⟨_, rfl⟩, hW, hsame.mono hc hs⟩
theorem Go.lret (X : Stand p l e R s m args below meth c T locs cells slots) (hx : p.tables.exec = Jvm.exec) (hby : c.code = code) (hlk : meth.locks = false) (hret : meth.sig.returnType = some .long) {w : Int64} (hd : decode code pc = .ok (.lreturn, 1)) (hc : cells ≤ mc) (hs : slots ≤ ms) (hq : Q (some (.long w)) T.heap locs) : Go p e below s mc ms Q m T pc Ls [.long w] := by
  obtain ⟨fs, hr, hrun, hended, hW, hsame⟩ := X.leave (v := some (.long w)) (fun h => by rw [hret] at h; cases h) hlk
  exact ⟨_, _, X.lreturnOut hx hret (hb hby hd) hr, hrun, hended, _, _, rfl, hq, ⟨_, rfl⟩, hW, hsame.mono hc hs⟩
theorem Go.aret (X : Stand p l e R s m args below meth c T locs cells slots) (hx : p.tables.exec = Jvm.exec) (hby : c.code = code) (hlk : meth.locks = false) {t : FieldType} (hret : meth.sig.returnType = some t) (ht : t.isReference = true) {w : Value} (hw : w.isRef = true) (hd : decode code pc = .ok (.areturn, 1)) (hc : cells ≤ mc) (hs : slots ≤ ms) (hq : Q (some w) T.heap locs) : Go p e below s mc ms Q m T pc Ls [w] := by
  obtain ⟨fs, hr, hrun, hended, hW, hsame⟩ := X.leave (v := some w) (fun h => by rw [hret] at h; cases h) hlk
  exact ⟨_, _, X.areturnOut hx hw hret ht (hb hby hd) hr, hrun, hended, _, _, rfl, hq, ⟨_, rfl⟩, hW, hsame.mono hc hs⟩
theorem Go.vret (X : Stand p l e R s m args below meth c T locs cells slots) (hx : p.tables.exec = Jvm.exec) (hby : c.code = code) (hlk : meth.locks = false) (hret : meth.sig.returnType = none) (hd : decode code pc = .ok (.return_, 1)) (hc : cells ≤ mc) (hs : slots ≤ ms) (hq : Q none T.heap locs) : Go p e below s mc ms Q m T pc Ls [] := by
  obtain ⟨fs, hr, hrun, hended, hW, hsame⟩ := X.leave (v := none) (fun _ => rfl) hlk
  exact ⟨_, _, X.returnOut hx hret (hb hby hd) hr, hrun, hended, _, _, rfl, hq, ⟨_, rfl⟩, hW, hsame.mono hc hs⟩
/-- what a body that keeps the heap leaves -/
def PQ (h0 : Heap) (r : Option Value) (v : Option Value) (h : Heap) (L : List Loc) : Prop := v = r ∧ L = [] ∧ h = h0
theorem Go.callS (X : Stand p l e R s m args below meth c T locs cells slots) (hx : p.tables.exec = Jvm.exec) (hby : c.code = code) {Z : State} {a0 : Array Value} {h : Heap} (hZ : Z.Warmed39 s.vm) (hml : Ls.size = c.maxLocals) {own : String} {k : Nat} {y : MethodName} {bytes : ByteArray} {maxL : Nat} {ret : Option FieldType} {rm : Room} {W : Nat} {as' : Array Value} {QY : Option Value → Heap → List Loc → Prop}
    (hown : s.vm.findClass own = some m.cls) (w1 : (Cond.methodLink own k y).before a0 Z = true) (w2 : (Cond.static y).before a0 Z = true) (w3 : (Cond.initialized y.cls).before a0 Z = true) (w4 : (Cond.code y bytes maxL ret).before a0 Z = true) (hy : y.cls ≠ "java/lang/invoke/MethodHandle" ∧ y.cls ≠ "java/lang/invoke/VarHandle")
    (hM : MetFree l y (head1 [Cond.code y bytes maxL ret] rm) (fun a U => a = as' ∧ Z.Warmed39 U.vm ∧ U.heap = h) (fun _ _ _ _ _ => True) (fun _ U o U' => ∃ v L, o = .returned v ∧ QY v U'.heap L ∧ FrameEnd U o U' L rm.cells rm.slots))
    (hf : rm.frames + 1 ≤ R.frames) (hl : W + (maxL + 11) + rm.locals ≤ R.locals) (eT : T.heap = h) {argsL rest : List Value} {sig : MethodDescriptor} (hsig : parseMethodDescriptor y.desc = some sig) (hlen : argsL.length = sig.parameters.length) (has : argsL.toArray = as') (hst : st = argsL.reverse ++ rest) (hW : (rest.map fun v => v.category).sum ≤ W)
    (hc : cells + rm.cells ≤ R.cells) (hsl : slots + rm.slots ≤ R.slots) (hd : decode code pc = .ok (.invokestatic k, 3)) (hpc : pc + 3 = pc')
    (K : ∀ v T' L, Stand p l e R s m args below meth c T' (locs ++ L) (cells + rm.cells) (slots + rm.slots) → QY v T'.heap L → Go p e below s mc ms Q m T' pc' Ls (v.toList ++ rest)) : Go p e below s mc ms Q m T pc Ls st := by
  subst hpc hst has
  obtain ⟨v, vm₁, B, -, X', ⟨L, hQ, l1, l2, l3⟩, st⟩ := Jvm.LawKit.callS X hx hown (mvT hZ w1) (mvT hZ w2) (mvT hZ w3) (mvT hZ w4) hy (backOf (W := W) hM hZ w4 w3 hf hl) (g := mkF m pc Ls (argsL.reverse ++ rest)) rfl hml (argsL := argsL) (rest := rest) (lenOf hsig hlen) rfl (by show 2 * 0 + _ ≤ _; omega) (hb hby hd) (fun _ _ => ⟨rfl, eT, hc, hsl⟩)
  rw [l1, l2, l3] at X'
  exact (K v B.U L X' hQ).of st
theorem Go.callSP (X : Stand p l e R s m args below meth c T locs cells slots) (hx : p.tables.exec = Jvm.exec) (hby : c.code = code) {Z : State} {a0 : Array Value} {h : Heap} (hZ : Z.Warmed39 s.vm) (hml : Ls.size = c.maxLocals) {own : String} {k : Nat} {y : MethodName} {bytes : ByteArray} {maxL : Nat} {ret : Option FieldType} {rm : Room} {W : Nat} {as' : Array Value} {r : Value}
    (hown : s.vm.findClass own = some m.cls) (w1 : (Cond.methodLink own k y).before a0 Z = true) (w2 : (Cond.static y).before a0 Z = true) (w3 : (Cond.initialized y.cls).before a0 Z = true) (w4 : (Cond.code y bytes maxL ret).before a0 Z = true) (hy : y.cls ≠ "java/lang/invoke/MethodHandle" ∧ y.cls ≠ "java/lang/invoke/VarHandle")
    (hM : MetFree l y (head1 [Cond.code y bytes maxL ret] rm) (fun a U => a = as' ∧ Z.Warmed39 U.vm ∧ U.heap = h) (fun _ _ _ _ _ => True) (fun _ U o U' => ∃ v L, o = .returned v ∧ PQ h (some r) v U'.heap L ∧ FrameEnd U o U' L rm.cells rm.slots))
    (hf : rm.frames + 1 ≤ R.frames) (hl : W + (maxL + 11) + rm.locals ≤ R.locals) (eT : T.heap = h) {argsL rest : List Value} {sig : MethodDescriptor} (hsig : parseMethodDescriptor y.desc = some sig) (hlen : argsL.length = sig.parameters.length) (has : argsL.toArray = as') (hst : st = argsL.reverse ++ rest) (hW : (rest.map fun v => v.category).sum ≤ W)
    (r1 : rm.cells = 0) (r2 : rm.slots = 0) (hc : cells ≤ R.cells) (hsl : slots ≤ R.slots) (hd : decode code pc = .ok (.invokestatic k, 3)) (hpc : pc + 3 = pc')
    (K : ∀ T', Stand p l e R s m args below meth c T' locs cells slots → T'.heap = h → Go p e below s mc ms Q m T' pc' Ls (r :: rest)) : Go p e below s mc ms Q m T pc Ls st := by
  refine Go.callS X hx hby hZ hml hown w1 w2 w3 w4 hy hM hf hl eT hsig hlen has hst hW (by rw [r1]; exact hc) (by rw [r2]; exact hsl) hd hpc (fun v T' L X' hQ => ?_)
  obtain ⟨rfl, rfl, e1⟩ := hQ
  rw [List.append_nil, r1, r2] at X'
  exact K T' X' e1
end Law

/-- the place j is in the list -/
abbrev inA {α : Type} (A : List α) (j : Int32) : Prop := ¬ (j < 0 ∨ A.length ≤ j.toNatClampNeg)
def atA {α : Type} [OfNat α 0] (A : List α) (j : Int32) : α := A.getD j.toNatClampNeg 0
def setA {α : Type} (A : List α) (j : Int32) (v : α) : List α := A.set j.toNatClampNeg v
def lenA {α : Type} (A : List α) : Int32 := A.length.toInt32
/-- an array of ints, bytes, chars that holds the list -/
def AryI (Z : State) (h : Heap) (a : Addr) (ty : FieldType) (A : List Int32) : Prop := ∃ (k : ClassId) (z : Int32), Arv Z h a k ty z (A.map Value.int) (.int 0) ∧ z.toNatClampNeg = A.length
def AryJ (Z : State) (h : Heap) (a : Addr) (A : List Int64) : Prop := ∃ (k : ClassId) (z : Int32), Arv Z h a k .long z (A.map Value.long) (.long 0) ∧ z.toNatClampNeg = A.length
theorem own_inK {α : Type} {A : List α} {j : Int32} {n : Nat} (hl : A.length = n) (hj : ¬ (j < 0 ∨ n ≤ j.toNatClampNeg)) : inA A j := by subst hl; exact hj
section Heaps
variable {p : Program} {l : Launch} {e : Env} {R : Room} {s : State} {m : MethodId} {args : Array Value} {below : List Frame} {meth : Method} {c : Code} {T T' : State} {locs : List Loc} {cells slots : Nat} {code : ByteArray} {Q : Option Value → Heap → List Loc → Prop} {mc ms : Nat} {pc pc' : Nat} {Ls Ls' : Array Slot} {st st' rest : List Value}
variable {Z : State} {h h' : Heap} {a b : Addr} {ty : FieldType} {A : List Int32} {J : List Int64} {sl : Nat} {v : Value} {ws : List Addr} {a0 : Array Value}
theorem AryI.lt (F : AryI Z h a ty A) : a < h.size := by obtain ⟨k, z, V, -⟩ := F; exact V.lt
theorem AryI.ext (F : AryI Z h a ty A) (E : Ext h h') : AryI Z h' a ty A := by obtain ⟨k, z, V, q⟩ := F; exact ⟨k, z, V.ext E, q⟩
theorem AryI.other (F : AryI Z h b ty A) (W : Wr h h' a sl v) (q : b ≠ a) : AryI Z h' b ty A := by obtain ⟨k, z, V, r⟩ := F; exact ⟨k, z, V.other W q, r⟩
theorem AryI.keep (F : AryI Z h a ty A) (K : Keep h h' ws) (q : a ∉ ws) : AryI Z h' a ty A := by obtain ⟨k, z, V, r⟩ := F; exact ⟨k, z, V.keep K q, r⟩
theorem AryJ.lt (F : AryJ Z h a J) : a < h.size := by obtain ⟨k, z, V, -⟩ := F; exact V.lt
theorem AryJ.ext (F : AryJ Z h a J) (E : Ext h h') : AryJ Z h' a J := by obtain ⟨k, z, V, q⟩ := F; exact ⟨k, z, V.ext E, q⟩
theorem AryJ.other (F : AryJ Z h b J) (W : Wr h h' a sl v) (q : b ≠ a) : AryJ Z h' b J := by obtain ⟨k, z, V, r⟩ := F; exact ⟨k, z, V.other W q, r⟩
theorem AryJ.keep (F : AryJ Z h a J) (K : Keep h h' ws) (q : a ∉ ws) : AryJ Z h' a J := by obtain ⟨k, z, V, r⟩ := F; exact ⟨k, z, V.keep K q, r⟩
theorem own_getI (A : List Int32) (n : Nat) : (A.map Value.int).getD n (.int 0) = .int (A.getD n 0) := by
  simp only [List.getD_eq_getElem?_getD, List.getElem?_map]; cases A[n]? <;> rfl
theorem own_getJ (A : List Int64) (n : Nat) : (A.map Value.long).getD n (.long 0) = .long (A.getD n 0) := by
  simp only [List.getD_eq_getElem?_getD, List.getElem?_map]; cases A[n]? <;> rfl
theorem own_fin {α : Type} {w r : α} {P : α → Prop} (e : some w = some r) (h : P w) : P r := Option.some.inj e ▸ h
theorem Go.baload (X : Stand p l e R s m args below meth c T locs cells slots) (hx : p.tables.exec = Jvm.exec) (hby : c.code = code) (hZ : Z.Warmed39 s.vm) (eT : T.heap = h) (F : AryI Z h a .byte A) {j : Int32} (hj : inA A j) (hd : decode code pc = .ok (.baload, 1)) (hpc : pc + 1 = pc') (K : Go p e below s mc ms Q m T pc' Ls (.int (atA A j) :: st)) : Go p e below s mc ms Q m T pc Ls (.int j :: .ref a :: st) := by
  subst hpc
  obtain ⟨k, z, ⟨cl, Ar, q1, S, q3, H, -⟩, r⟩ := F
  have hin : ¬ (j < 0 ∨ cl.slots.size ≤ j.toNatClampNeg) := by rw [S, r]; exact hj
  have hv : cl.slots[j.toNatClampNeg]? = some (.int (atA A j)) := by rw [H _ (Nat.lt_of_not_le fun y => hin (Or.inr y)), own_getI]; rfl
  exact K.of fun t kk => X.baloadBytes hx (by rw [eT]; exact Ar.1) (State.isArrayOf_alike hZ.alike Ar.2.1) Ar.2.2 hin hv (g := mkF m pc Ls (.int j :: .ref a :: st)) rfl rfl (hb hby hd) t kk
theorem Go.caload (X : Stand p l e R s m args below meth c T locs cells slots) (hx : p.tables.exec = Jvm.exec) (hby : c.code = code) (hZ : Z.Warmed39 s.vm) (eT : T.heap = h) (F : AryI Z h a .char A) {j : Int32} (hj : inA A j) (hd : decode code pc = .ok (.caload, 1)) (hpc : pc + 1 = pc') (K : Go p e below s mc ms Q m T pc' Ls (.int (atA A j) :: st)) : Go p e below s mc ms Q m T pc Ls (.int j :: .ref a :: st) := by
  subst hpc
  obtain ⟨k, z, ⟨cl, Ar, q1, S, q3, H, -⟩, r⟩ := F
  have hin : ¬ (j < 0 ∨ cl.slots.size ≤ j.toNatClampNeg) := by rw [S, r]; exact hj
  have hv : cl.slots[j.toNatClampNeg]? = some (.int (atA A j)) := by rw [H _ (Nat.lt_of_not_le fun y => hin (Or.inr y)), own_getI]; rfl
  exact K.of fun t kk => X.caload hx (by rw [eT]; exact Ar.1) (State.isArrayOf_alike hZ.alike Ar.2.1) Ar.2.2 hin hv (g := mkF m pc Ls (.int j :: .ref a :: st)) rfl rfl (hb hby hd) t kk
theorem Go.iaload (X : Stand p l e R s m args below meth c T locs cells slots) (hx : p.tables.exec = Jvm.exec) (hby : c.code = code) (hZ : Z.Warmed39 s.vm) (eT : T.heap = h) (F : AryI Z h a .int A) {j : Int32} (hj : inA A j) (hd : decode code pc = .ok (.iaload, 1)) (hpc : pc + 1 = pc') (K : Go p e below s mc ms Q m T pc' Ls (.int (atA A j) :: st)) : Go p e below s mc ms Q m T pc Ls (.int j :: .ref a :: st) := by
  subst hpc
  obtain ⟨k, z, ⟨cl, Ar, q1, S, q3, H, -⟩, r⟩ := F
  have hin : ¬ (j < 0 ∨ cl.slots.size ≤ j.toNatClampNeg) := by rw [S, r]; exact hj
  have hv : cl.slots[j.toNatClampNeg]? = some (.int (atA A j)) := by rw [H _ (Nat.lt_of_not_le fun y => hin (Or.inr y)), own_getI]; rfl
  exact K.of fun t kk => X.iaload hx (by rw [eT]; exact Ar.1) (State.isArrayOf_alike hZ.alike Ar.2.1) Ar.2.2 hin hv (g := mkF m pc Ls (.int j :: .ref a :: st)) rfl rfl (hb hby hd) t kk
theorem Go.laload (X : Stand p l e R s m args below meth c T locs cells slots) (hx : p.tables.exec = Jvm.exec) (hby : c.code = code) (hZ : Z.Warmed39 s.vm) (eT : T.heap = h) (F : AryJ Z h a J) {j : Int32} (hj : inA J j) (hd : decode code pc = .ok (.laload, 1)) (hpc : pc + 1 = pc') (K : Go p e below s mc ms Q m T pc' Ls (.long (atA J j) :: st)) : Go p e below s mc ms Q m T pc Ls (.int j :: .ref a :: st) := by
  subst hpc
  obtain ⟨k, z, ⟨cl, Ar, q1, S, q3, H, -⟩, r⟩ := F
  have hin : ¬ (j < 0 ∨ cl.slots.size ≤ j.toNatClampNeg) := by rw [S, r]; exact hj
  have hv : cl.slots[j.toNatClampNeg]? = some (.long (atA J j)) := by rw [H _ (Nat.lt_of_not_le fun y => hin (Or.inr y)), own_getJ]; rfl
  exact K.of fun t kk => X.laload hx (by rw [eT]; exact Ar.1) (State.isArrayOf_alike hZ.alike Ar.2.1) Ar.2.2 hin hv (g := mkF m pc Ls (.int j :: .ref a :: st)) rfl rfl (hb hby hd) t kk
theorem Go.alen (X : Stand p l e R s m args below meth c T locs cells slots) (hx : p.tables.exec = Jvm.exec) (hby : c.code = code) (hZ : Z.Warmed39 s.vm) (eT : T.heap = h) (F : AryI Z h a ty A) (hd : decode code pc = .ok (.arraylength, 1)) (hpc : pc + 1 = pc') (K : Go p e below s mc ms Q m T pc' Ls (.int (lenA A) :: st)) : Go p e below s mc ms Q m T pc Ls (.ref a :: st) := by
  subst hpc
  obtain ⟨k, z, ⟨cl, Ar, q1, S, q3, H, -⟩, r⟩ := F
  have e2 : cl.slots.size.toInt32 = lenA A := by rw [S, r]; rfl
  exact K.of fun t kk => X.arraylength hx (by rw [eT]; exact Ar.1) (State.isArrayOf_alike hZ.alike Ar.2.1) (g := mkF m pc Ls (.ref a :: st)) rfl rfl (hb hby hd) t (by rw [e2]; exact kk)
theorem Go.alenJ (X : Stand p l e R s m args below meth c T locs cells slots) (hx : p.tables.exec = Jvm.exec) (hby : c.code = code) (hZ : Z.Warmed39 s.vm) (eT : T.heap = h) (F : AryJ Z h a J) (hd : decode code pc = .ok (.arraylength, 1)) (hpc : pc + 1 = pc') (K : Go p e below s mc ms Q m T pc' Ls (.int (lenA J) :: st)) : Go p e below s mc ms Q m T pc Ls (.ref a :: st) := by
  subst hpc
  obtain ⟨k, z, ⟨cl, Ar, q1, S, q3, H, -⟩, r⟩ := F
  have e2 : cl.slots.size.toInt32 = lenA J := by rw [S, r]; rfl
  exact K.of fun t kk => X.arraylength hx (by rw [eT]; exact Ar.1) (State.isArrayOf_alike hZ.alike Ar.2.1) (g := mkF m pc Ls (.ref a :: st)) rfl rfl (hb hby hd) t (by rw [e2]; exact kk)
theorem Go.bastore (X : Stand p l e R s m args below meth c T locs cells slots) (hx : p.tables.exec = Jvm.exec) (hby : c.code = code) (hZ : Z.Warmed39 s.vm) (eT : T.heap = h) (F : AryI Z h a .byte A) {j x : Int32} (hj : inA A j) (hd : decode code pc = .ok (.bastore, 1)) (hpc : pc + 1 = pc') (K : ∀ T' h', Stand p l e R s m args below meth c T' (locs ++ [⟨a, j.toNatClampNeg⟩]) cells slots → T'.heap = h' → Wr h h' a j.toNatClampNeg (.int (i2bF x)) → AryI Z h' a .byte (setA A j (i2bF x)) → Go p e below s mc ms Q m T' pc' Ls st) : Go p e below s mc ms Q m T pc Ls (.int x :: .int j :: .ref a :: st) := by
  subst hpc
  obtain ⟨k, z, ⟨cl, Ar, q1, S, q3, H, H2⟩, r⟩ := F
  have hin : ¬ (j < 0 ∨ cl.slots.size ≤ j.toNatClampNeg) := by rw [S, r]; exact hj
  obtain ⟨T', h', X', e', W, stp⟩ := stB X hx hZ eT Ar hin (g := mkF m pc Ls (.int x :: .int j :: .ref a :: st)) rfl rfl (hb hby hd)
  have V := Arv.set (v := .int (i2bF x)) Ar q1 S q3 H H2 (fits_nar_byte x) W j.toNatClampNeg rfl (by rw [List.length_map]; exact Nat.lt_of_not_le fun y => hj (Or.inr y))
  exact (K T' h' X' e' W ⟨k, z, by rw [setA, List.map_set]; exact V, by rw [setA, List.length_set]; exact r⟩).of stp
theorem Go.castore (X : Stand p l e R s m args below meth c T locs cells slots) (hx : p.tables.exec = Jvm.exec) (hby : c.code = code) (hZ : Z.Warmed39 s.vm) (eT : T.heap = h) (F : AryI Z h a .char A) {j x : Int32} (hj : inA A j) (hd : decode code pc = .ok (.castore, 1)) (hpc : pc + 1 = pc') (K : ∀ T' h', Stand p l e R s m args below meth c T' (locs ++ [⟨a, j.toNatClampNeg⟩]) cells slots → T'.heap = h' → Wr h h' a j.toNatClampNeg (.int (i2cF x)) → AryI Z h' a .char (setA A j (i2cF x)) → Go p e below s mc ms Q m T' pc' Ls st) : Go p e below s mc ms Q m T pc Ls (.int x :: .int j :: .ref a :: st) := by
  subst hpc
  obtain ⟨k, z, ⟨cl, Ar, q1, S, q3, H, H2⟩, r⟩ := F
  have hin : ¬ (j < 0 ∨ cl.slots.size ≤ j.toNatClampNeg) := by rw [S, r]; exact hj
  obtain ⟨T', h', X', e', W, stp⟩ := stC X hx hZ eT Ar hin (g := mkF m pc Ls (.int x :: .int j :: .ref a :: st)) rfl rfl (hb hby hd)
  have V := Arv.set (v := .int (i2cF x)) Ar q1 S q3 H H2 (fits_nar_char x) W j.toNatClampNeg rfl (by rw [List.length_map]; exact Nat.lt_of_not_le fun y => hj (Or.inr y))
  exact (K T' h' X' e' W ⟨k, z, by rw [setA, List.map_set]; exact V, by rw [setA, List.length_set]; exact r⟩).of stp
theorem Go.iastore (X : Stand p l e R s m args below meth c T locs cells slots) (hx : p.tables.exec = Jvm.exec) (hby : c.code = code) (hZ : Z.Warmed39 s.vm) (eT : T.heap = h) (F : AryI Z h a .int A) {j x : Int32} (hj : inA A j) (hd : decode code pc = .ok (.iastore, 1)) (hpc : pc + 1 = pc') (K : ∀ T' h', Stand p l e R s m args below meth c T' (locs ++ [⟨a, j.toNatClampNeg⟩]) cells slots → T'.heap = h' → Wr h h' a j.toNatClampNeg (.int x) → AryI Z h' a .int (setA A j x) → Go p e below s mc ms Q m T' pc' Ls st) : Go p e below s mc ms Q m T pc Ls (.int x :: .int j :: .ref a :: st) := by
  subst hpc
  obtain ⟨k, z, ⟨cl, Ar, q1, S, q3, H, H2⟩, r⟩ := F
  have hin : ¬ (j < 0 ∨ cl.slots.size ≤ j.toNatClampNeg) := by rw [S, r]; exact hj
  obtain ⟨T', h', X', e', W, stp⟩ := stI X hx hZ eT Ar hin (g := mkF m pc Ls (.int x :: .int j :: .ref a :: st)) rfl rfl (hb hby hd)
  have V := Arv.set (v := .int x) Ar q1 S q3 H H2 rfl W j.toNatClampNeg rfl (by rw [List.length_map]; exact Nat.lt_of_not_le fun y => hj (Or.inr y))
  exact (K T' h' X' e' W ⟨k, z, by rw [setA, List.map_set]; exact V, by rw [setA, List.length_set]; exact r⟩).of stp
theorem Go.lastore (X : Stand p l e R s m args below meth c T locs cells slots) (hx : p.tables.exec = Jvm.exec) (hby : c.code = code) (hZ : Z.Warmed39 s.vm) (eT : T.heap = h) (F : AryJ Z h a J) {j : Int32} {x : Int64} (hj : inA J j) (hd : decode code pc = .ok (.lastore, 1)) (hpc : pc + 1 = pc') (K : ∀ T' h', Stand p l e R s m args below meth c T' (locs ++ [⟨a, j.toNatClampNeg⟩]) cells slots → T'.heap = h' → Wr h h' a j.toNatClampNeg (.long x) → AryJ Z h' a (setA J j x) → Go p e below s mc ms Q m T' pc' Ls st) : Go p e below s mc ms Q m T pc Ls (.long x :: .int j :: .ref a :: st) := by
  subst hpc
  obtain ⟨k, z, ⟨cl, Ar, q1, S, q3, H, H2⟩, r⟩ := F
  have hin : ¬ (j < 0 ∨ cl.slots.size ≤ j.toNatClampNeg) := by rw [S, r]; exact hj
  obtain ⟨T', h', X', e', W, stp⟩ := stJ X hx hZ eT Ar hin (g := mkF m pc Ls (.long x :: .int j :: .ref a :: st)) rfl rfl (hb hby hd)
  have V := Arv.set (v := .long x) Ar q1 S q3 H H2 rfl W j.toNatClampNeg rfl (by rw [List.length_map]; exact Nat.lt_of_not_le fun y => hj (Or.inr y))
  exact (K T' h' X' e' W ⟨k, z, by rw [setA, List.map_set]; exact V, by rw [setA, List.length_set]; exact r⟩).of stp
theorem Go.newA (X : Stand p l e R s m args below meth c T locs cells slots) (hx : p.tables.exec = Jvm.exec) (hby : c.code = code) (hZ : Z.Warmed39 s.vm) {nn : Nat} {n : Int32} {aty : ArrayType} (w : (Cond.arrayClass ty).before a0 Z = true) (eT : T.heap = h) (hd : decode code pc = .ok (.newarray aty, 2)) (hpc : pc + 2 = pc') (ht : newarray.typeOf aty = ty) (hv : defaultValue ty = .int 0) (hn : n.toNatClampNeg = nn) (hn0 : ¬ n < 0) (hcap : nn * 8 ≤ 536870912) (hc : cells + 1 ≤ R.cells) (hsl : slots + nn ≤ R.slots)
    (K : ∀ T' h' (a : Addr), Stand p l e R s m args below meth c T' locs (cells + 1) (slots + nn) → T'.heap = h' → Ext h h' → h.size ≤ a → AryI Z h' a ty (List.replicate nn 0) → Go p e below s mc ms Q m T' pc' Ls (.ref a :: st)) : Go p e below s mc ms Q m T pc Ls (.int n :: st) := by
  subst hpc ht
  obtain ⟨T', h', cA, X', e', E, Ar, stp⟩ := newP X hx hZ w eT (g := mkF m pc Ls (.int n :: st)) rfl (hb hby hd) rfl hn0 (cap := nn) (Nat.le_of_eq hn) hcap hc hsl
  have V := Arv.new Ar hn0
  rw [hv] at V
  have V2 := Arv.pad V (vs' := (List.replicate nn (0 : Int32)).map Value.int) (fun i => by rw [List.map_replicate]; exact pad_rep [] (.int 0) nn i)
  exact (K T' h' h.size X' e' E (Nat.le_refl _) ⟨cA, n, V2, by rw [hn, List.length_replicate]⟩).of stp
theorem Go.newAJ (X : Stand p l e R s m args below meth c T locs cells slots) (hx : p.tables.exec = Jvm.exec) (hby : c.code = code) (hZ : Z.Warmed39 s.vm) {nn : Nat} {n : Int32} (w : (Cond.arrayClass .long).before a0 Z = true) (eT : T.heap = h) (hd : decode code pc = .ok (.newarray .long, 2)) (hpc : pc + 2 = pc') (hn : n.toNatClampNeg = nn) (hn0 : ¬ n < 0) (hcap : nn * 8 ≤ 536870912) (hc : cells + 1 ≤ R.cells) (hsl : slots + nn ≤ R.slots)
    (K : ∀ T' h' (a : Addr), Stand p l e R s m args below meth c T' locs (cells + 1) (slots + nn) → T'.heap = h' → Ext h h' → h.size ≤ a → AryJ Z h' a (List.replicate nn 0) → Go p e below s mc ms Q m T' pc' Ls (.ref a :: st)) : Go p e below s mc ms Q m T pc Ls (.int n :: st) := by
  subst hpc
  obtain ⟨T', h', cA, X', e', E, Ar, stp⟩ := newP (aty := .long) X hx hZ w eT (g := mkF m pc Ls (.int n :: st)) rfl (hb hby hd) rfl hn0 (cap := nn) (Nat.le_of_eq hn) hcap hc hsl
  have V : Arv Z h' h.size cA .long n [] (.long 0) := Arv.new Ar hn0
  have V2 := Arv.pad V (vs' := (List.replicate nn (0 : Int64)).map Value.long) (fun i => by rw [List.map_replicate]; exact pad_rep [] (.long 0) nn i)
  exact (K T' h' h.size X' e' E (Nat.le_refl _) ⟨cA, n, V2, by rw [hn, List.length_replicate]⟩).of stp
theorem Go.ifnullNo (X : Stand p l e R s m args below meth c T locs cells slots) (hx : p.tables.exec = Jvm.exec) (hby : c.code = code) {o : Int} (hd : decode code pc = .ok (.ifnull o, 3)) (hpc : pc + 3 = pc') (K : Go p e below s mc ms Q m T pc' Ls st) : Go p e below s mc ms Q m T pc Ls (.ref a :: st) := by
  subst hpc; exact K.of fun _ kk => XS.ifnullNo (g := mkF m pc Ls (.ref a :: st)) X.here hx rfl (hb hby hd) rfl kk
theorem Go.acmpNe (X : Stand p l e R s m args below meth c T locs cells slots) (hx : p.tables.exec = Jvm.exec) (hby : c.code = code) {o : Int} (hd : decode code pc = .ok (.if_acmp .eq o, 3)) (hpc : pc + 3 = pc') (hne : a ≠ b) (K : Go p e below s mc ms Q m T pc' Ls st) : Go p e below s mc ms Q m T pc Ls (.ref b :: .ref a :: st) := by
  subst hpc; exact K.of fun _ kk => XT.acmpNo (g := mkF m pc Ls (.ref b :: .ref a :: st)) X.here hx rfl (hb hby hd) rfl rfl rfl (XT.aa_eq_f fun q => hne (Value.ref.inj q)) kk
theorem Go.getF (X : Stand p l e R s m args below meth c T locs cells slots) (hx : p.tables.exec = Jvm.exec) (hby : c.code = code) (hZ : Z.Warmed39 s.vm) {own O n d : String} {k : Nat} {v : Value} (hown : s.vm.findClass own = some m.cls) (w : (Cond.fieldLink own k O n d).before a0 Z = true) (eT : T.heap = h) (F : Fld Z h a O n d v) (hd : decode code pc = .ok (.getfield k, 3)) (hpc : pc + 3 = pc') (K : ∀ T', Stand p l e R s m args below meth c T' locs cells slots → T'.heap = h → Go p e below s mc ms Q m T' pc' Ls (v :: st)) : Go p e below s mc ms Q m T pc Ls (.ref a :: st) := by
  subst hpc
  obtain ⟨T', X', e', stp⟩ := getF X hx hZ hown (host := "") (Or.inl w) Via.refl eT F (g := mkF m pc Ls (.ref a :: st)) rfl rfl (hb hby hd)
  exact (K T' X' e').of stp
theorem Go.putF (X : Stand p l e R s m args below meth c T locs cells slots) (hx : p.tables.exec = Jvm.exec) (hby : c.code = code) (hZ : Z.Warmed39 s.vm) {own O n d C : String} {k kk : Nat} {ty : FieldType} {v old : Value} (hown : s.vm.findClass own = some m.cls) (w : (Cond.fieldLink own k O n d).before a0 Z = true) (eT : T.heap = h) (F : Fld Z h a O n d old) (E : Exa Z h a C) (L : (Cond.lays C O n d).before a0 Z = true ∨ ((Cond.laysFinal C O n d).before a0 Z = true ∧ own = O ∧ meth.name = "<init>")) (wi : (Cond.instantiable C kk).before a0 Z = true)
    (hty : parseFieldDescriptor d = some ty) (hn : narrow ty v = v) (hf : fits ty v = true) (hd : decode code pc = .ok (.putfield k, 3)) (hpc : pc + 3 = pc') (K : ∀ T' h', Stand p l e R s m args below meth c T' (locs ++ [⟨a, RoadKit.slotOf Z O n d⟩]) cells slots → T'.heap = h' → Wr h h' a (RoadKit.slotOf Z O n d) v → Go p e below s mc ms Q m T' pc' Ls st) : Go p e below s mc ms Q m T pc Ls (v :: .ref a :: st) := by
  subst hpc
  obtain ⟨T', h', X', e', W, stp⟩ := putF X hx hZ hown (host := "") (Or.inl w) Via.refl eT F E L wi hty hn hf (g := mkF m pc Ls (v :: .ref a :: st)) rfl rfl (hb hby hd)
  exact (K T' h' X' e' W).of stp
theorem Go.newO (X : Stand p l e R s m args below meth c T locs cells slots) (hx : p.tables.exec = Jvm.exec) (hby : c.code = code) (hZ : Z.Warmed39 s.vm) {own C : String} {k n : Nat} (hown : s.vm.findClass own = some m.cls) (w : (Cond.classLink own k C).before a0 Z = true) (wi : (Cond.instantiable C n).before a0 Z = true) (wz : (Cond.initialized C).before a0 Z = true) (eT : T.heap = h) (hd : decode code pc = .ok (.new k, 3)) (hpc : pc + 3 = pc') (hc : cells + 1 ≤ R.cells) (hsl : slots + n ≤ R.slots)
    (K : ∀ T' h' (a : Addr), Stand p l e R s m args below meth c T' locs (cells + 1) (slots + n) → T'.heap = h' → Ext h h' → h.size ≤ a → Exa Z h' a C → (∀ {O nm d : String} {ty : FieldType}, Laid Z a0 C O nm d → parseFieldDescriptor d = some ty → Fld Z h' a O nm d (defaultValue ty)) → Go p e below s mc ms Q m T' pc' Ls (.ref a :: st)) : Go p e below s mc ms Q m T pc Ls st := by
  subst hpc
  obtain ⟨T', h', X', e', E, A, D, -, stp⟩ := newO X hx hZ hown w wi wz eT (g := mkF m pc Ls st) rfl (hb hby hd) hc hsl
  exact (K T' h' h.size X' e' E (Nat.le_refl _) A D).of stp
theorem Go.callV (X : Stand p l e R s m args below meth c T locs cells slots) (hx : p.tables.exec = Jvm.exec) (hby : c.code = code) (hZ : Z.Warmed39 s.vm) (hml : Ls.size = c.maxLocals) {own : String} {k : Nat} {y : MethodName} {bytes : ByteArray} {maxL : Nat} {ret : Option FieldType} {rm : Room} {W : Nat} {as' : Array Value} {C : String} {QY : Option Value → Heap → List Loc → Prop} (hown : s.vm.findClass own = some m.cls) (w1 : (Cond.methodLink own k y).before a0 Z = true) (w2 : (Cond.declares y).before a0 Z = true) (w3 : (Cond.selects C y y).before a0 Z = true) (w4 : (Cond.instanceMethod y).before a0 Z = true) (w5 : (Cond.initialized y.cls).before a0 Z = true) (w6 : (Cond.code y bytes maxL ret).before a0 Z = true) (E : Exa Z h a C) (hy : y.cls ≠ "java/lang/invoke/MethodHandle" ∧ y.cls ≠ "java/lang/invoke/VarHandle") (hM : MetFree l y (head1 [Cond.code y bytes maxL ret] rm) (fun a U => a = as' ∧ Z.Warmed39 U.vm ∧ U.heap = h) (fun _ _ _ _ _ => True) (fun _ U o U' => ∃ v L, o = .returned v ∧ QY v U'.heap L ∧ FrameEnd U o U' L rm.cells rm.slots))
    (hf : rm.frames + 1 ≤ R.frames) (hl : W + (maxL + 11) + rm.locals ≤ R.locals) (eT : T.heap = h) {argsL rest : List Value} {sig : MethodDescriptor} (hsig : parseMethodDescriptor y.desc = some sig) (hlen : argsL.length = sig.parameters.length) (has : (Value.ref a :: argsL).toArray = as') (hst : st = argsL.reverse ++ .ref a :: rest) (hW : (rest.map fun v => v.category).sum ≤ W) (hc : cells + rm.cells ≤ R.cells) (hsl : slots + rm.slots ≤ R.slots) (hd : decode code pc = .ok (.invokevirtual k, 3)) (hpc : pc + 3 = pc')
    (K : ∀ v T' L, Stand p l e R s m args below meth c T' (locs ++ L) (cells + rm.cells) (slots + rm.slots) → QY v T'.heap L → Go p e below s mc ms Q m T' pc' Ls (v.toList ++ rest)) : Go p e below s mc ms Q m T pc Ls st := by
  subst hpc hst has
  obtain ⟨cq, kq, qa, qb, qc⟩ := isOf hZ eT E
  obtain ⟨v, vm₁, B, -, X', ⟨L, hQ, l1, l2, l3⟩, stp⟩ := X.virtualBack hx hown (mvT hZ w1) (mvT hZ w2) (notFace_of_selects (args := #[]) (mvT hZ w3)) (mvT hZ w3) (mvT hZ w4) hy (backOf (W := W) hM hZ w6 w5 hf hl) qa qc (g := mkF m pc Ls (argsL.reverse ++ .ref a :: rest)) rfl hml (Steps.refl _) (argsL := argsL) (rest := rest) (lenOf hsig hlen) rfl (by show 2 * 0 + _ ≤ _; omega) (hb hby hd) (fun _ _ => ⟨rfl, eT, hc, hsl⟩)
  rw [l1, l2, l3] at X'
  exact (K v B.U L X' hQ).of fun _ k => stp.trans k
theorem Go.callVP (X : Stand p l e R s m args below meth c T locs cells slots) (hx : p.tables.exec = Jvm.exec) (hby : c.code = code) (hZ : Z.Warmed39 s.vm) (hml : Ls.size = c.maxLocals) {own : String} {k : Nat} {y : MethodName} {bytes : ByteArray} {maxL : Nat} {ret : Option FieldType} {rm : Room} {W : Nat} {as' : Array Value} {C : String} {r : Value} (hown : s.vm.findClass own = some m.cls) (w1 : (Cond.methodLink own k y).before a0 Z = true) (w2 : (Cond.declares y).before a0 Z = true) (w3 : (Cond.selects C y y).before a0 Z = true) (w4 : (Cond.instanceMethod y).before a0 Z = true) (w5 : (Cond.initialized y.cls).before a0 Z = true) (w6 : (Cond.code y bytes maxL ret).before a0 Z = true) (E : Exa Z h a C) (hy : y.cls ≠ "java/lang/invoke/MethodHandle" ∧ y.cls ≠ "java/lang/invoke/VarHandle") (hM : MetFree l y (head1 [Cond.code y bytes maxL ret] rm) (fun a U => a = as' ∧ Z.Warmed39 U.vm ∧ U.heap = h) (fun _ _ _ _ _ => True) (fun _ U o U' => ∃ v L, o = .returned v ∧ PQ h (some r) v U'.heap L ∧ FrameEnd U o U' L rm.cells rm.slots))
    (hf : rm.frames + 1 ≤ R.frames) (hl : W + (maxL + 11) + rm.locals ≤ R.locals) (eT : T.heap = h) {argsL rest : List Value} {sig : MethodDescriptor} (hsig : parseMethodDescriptor y.desc = some sig) (hlen : argsL.length = sig.parameters.length) (has : (Value.ref a :: argsL).toArray = as') (hst : st = argsL.reverse ++ .ref a :: rest) (hW : (rest.map fun v => v.category).sum ≤ W) (r1 : rm.cells = 0) (r2 : rm.slots = 0) (hc : cells ≤ R.cells) (hsl : slots ≤ R.slots) (hd : decode code pc = .ok (.invokevirtual k, 3)) (hpc : pc + 3 = pc')
    (K : ∀ T', Stand p l e R s m args below meth c T' locs cells slots → T'.heap = h → Go p e below s mc ms Q m T' pc' Ls (r :: rest)) : Go p e below s mc ms Q m T pc Ls st := by
  refine Go.callV X hx hby hZ hml hown w1 w2 w3 w4 w5 w6 E hy hM hf hl eT hsig hlen has hst hW (by rw [r1]; exact hc) (by rw [r2]; exact hsl) hd hpc (fun v T' L X' hQ => ?_)
  obtain ⟨rfl, rfl, e1⟩ := hQ
  rw [List.append_nil, r1, r2] at X'
  exact K T' X' e1
theorem Go.callC (X : Stand p l e R s m args below meth c T locs cells slots) (hx : p.tables.exec = Jvm.exec) (hby : c.code = code) (hZ : Z.Warmed39 s.vm) (hml : Ls.size = c.maxLocals) {own : String} {k : Nat} {y : MethodName} {bytes : ByteArray} {maxL : Nat} {rm : Room} {W : Nat} {as' : Array Value} {QY : Option Value → Heap → List Loc → Prop} (hown : s.vm.findClass own = some m.cls) (w1 : (Cond.methodLink own k y).before a0 Z = true) (w4 : (Cond.instanceMethod y).before a0 Z = true) (w5 : (Cond.initialized y.cls).before a0 Z = true) (w6 : (Cond.code y bytes maxL none).before a0 Z = true) (hy : y.cls ≠ "java/lang/invoke/MethodHandle" ∧ y.cls ≠ "java/lang/invoke/VarHandle") (hi : y.name = "<init>") (hM : MetFree l y (head1 [Cond.code y bytes maxL none] rm) (fun a U => a = as' ∧ Z.Warmed39 U.vm ∧ U.heap = h) (fun _ _ _ _ _ => True) (fun _ U o U' => ∃ v L, o = .returned v ∧ QY v U'.heap L ∧ FrameEnd U o U' L rm.cells rm.slots))
    (hf : rm.frames + 1 ≤ R.frames) (hl : W + (maxL + 11) + rm.locals ≤ R.locals) (eT : T.heap = h) {argsL rest : List Value} {sig : MethodDescriptor} (hsig : parseMethodDescriptor y.desc = some sig) (hlen : argsL.length = sig.parameters.length) (has : (Value.ref a :: argsL).toArray = as') (hst : st = argsL.reverse ++ .ref a :: rest) (hW : (rest.map fun v => v.category).sum ≤ W) (hc : cells + rm.cells ≤ R.cells) (hsl : slots + rm.slots ≤ R.slots) (hd : decode code pc = .ok (.invokespecial k, 3)) (hpc : pc + 3 = pc')
    (K : ∀ v T' L, Stand p l e R s m args below meth c T' (locs ++ L) (cells + rm.cells) (slots + rm.slots) → QY v T'.heap L → Go p e below s mc ms Q m T' pc' Ls (v.toList ++ rest)) : Go p e below s mc ms Q m T pc Ls st := by
  subst hpc hst has
  obtain ⟨v, vm₁, B, -, X', ⟨L, hQ, l1, l2, l3⟩, stp⟩ := X.specialBack hx hi hown (mvT hZ w1) (mvT hZ w4) (mvT hZ w6) hy (backOf (W := W) hM hZ w6 w5 hf hl) (g := mkF m pc Ls (argsL.reverse ++ .ref a :: rest)) rfl hml (Steps.refl _) (argsL := argsL) (rest := rest) (lenOf hsig hlen) rfl (by show 2 * 0 + _ ≤ _; omega) (hb hby hd) (fun _ _ => ⟨rfl, eT, hc, hsl⟩)
  rw [l1, l2, l3] at X'
  exact (K v B.U L X' hQ).of fun _ k => stp.trans k
end Heaps

-- body 1
def f1_56 (x0 : Int64) : Option (Int32) := if x0 < (65536 : Int64) then some (0 : Int32) else if (1114111 : Int64) < x0 then some (0 : Int32) else some (1 : Int32)
def f1_40 (x0 : Int64) : Option (Int32) := if x0 < (57344 : Int64) then f1_56 x0 else if (65533 : Int64) < x0 then f1_56 x0 else some (1 : Int32)
def f1_0 (x0 : Int64) : Option (Int32) := if x0 = (9 : Int64) then some (1 : Int32) else if x0 = (10 : Int64) then some (1 : Int32) else if x0 = (13 : Int64) then some (1 : Int32) else if x0 < (32 : Int64) then f1_40 x0 else if (55295 : Int64) < x0 then f1_40 x0 else some (1 : Int32)
theorem d1_0 : decode prog_199_method_7_code 0 = .ok (.lload_n 0, 1) := by decide +kernel
theorem d1_1 : decode prog_199_method_7_code 1 = .ok (.ldc2_w 42, 3) := by decide +kernel
theorem d1_4 : decode prog_199_method_7_code 4 = .ok (.lcmp, 1) := by decide +kernel
theorem d1_5 : decode prog_199_method_7_code 5 = .ok (.ifCond .eq 67, 3) := by decide +kernel
theorem d1_8 : decode prog_199_method_7_code 8 = .ok (.lload_n 0, 1) := by decide +kernel
theorem d1_9 : decode prog_199_method_7_code 9 = .ok (.ldc2_w 44, 3) := by decide +kernel
theorem d1_12 : decode prog_199_method_7_code 12 = .ok (.lcmp, 1) := by decide +kernel
theorem d1_13 : decode prog_199_method_7_code 13 = .ok (.ifCond .eq 59, 3) := by decide +kernel
theorem d1_16 : decode prog_199_method_7_code 16 = .ok (.lload_n 0, 1) := by decide +kernel
theorem d1_17 : decode prog_199_method_7_code 17 = .ok (.ldc2_w 46, 3) := by decide +kernel
theorem d1_20 : decode prog_199_method_7_code 20 = .ok (.lcmp, 1) := by decide +kernel
theorem d1_21 : decode prog_199_method_7_code 21 = .ok (.ifCond .eq 51, 3) := by decide +kernel
theorem d1_24 : decode prog_199_method_7_code 24 = .ok (.lload_n 0, 1) := by decide +kernel
theorem d1_25 : decode prog_199_method_7_code 25 = .ok (.ldc2_w 48, 3) := by decide +kernel
theorem d1_28 : decode prog_199_method_7_code 28 = .ok (.lcmp, 1) := by decide +kernel
theorem d1_29 : decode prog_199_method_7_code 29 = .ok (.ifCond .lt 11, 3) := by decide +kernel
theorem d1_32 : decode prog_199_method_7_code 32 = .ok (.lload_n 0, 1) := by decide +kernel
theorem d1_33 : decode prog_199_method_7_code 33 = .ok (.ldc2_w 50, 3) := by decide +kernel
theorem d1_36 : decode prog_199_method_7_code 36 = .ok (.lcmp, 1) := by decide +kernel
theorem d1_37 : decode prog_199_method_7_code 37 = .ok (.ifCond .le 35, 3) := by decide +kernel
theorem d1_40 : decode prog_199_method_7_code 40 = .ok (.lload_n 0, 1) := by decide +kernel
theorem d1_41 : decode prog_199_method_7_code 41 = .ok (.ldc2_w 52, 3) := by decide +kernel
theorem d1_44 : decode prog_199_method_7_code 44 = .ok (.lcmp, 1) := by decide +kernel
theorem d1_45 : decode prog_199_method_7_code 45 = .ok (.ifCond .lt 11, 3) := by decide +kernel
theorem d1_48 : decode prog_199_method_7_code 48 = .ok (.lload_n 0, 1) := by decide +kernel
theorem d1_49 : decode prog_199_method_7_code 49 = .ok (.ldc2_w 54, 3) := by decide +kernel
theorem d1_52 : decode prog_199_method_7_code 52 = .ok (.lcmp, 1) := by decide +kernel
theorem d1_53 : decode prog_199_method_7_code 53 = .ok (.ifCond .le 19, 3) := by decide +kernel
theorem d1_56 : decode prog_199_method_7_code 56 = .ok (.lload_n 0, 1) := by decide +kernel
theorem d1_57 : decode prog_199_method_7_code 57 = .ok (.ldc2_w 56, 3) := by decide +kernel
theorem d1_60 : decode prog_199_method_7_code 60 = .ok (.lcmp, 1) := by decide +kernel
theorem d1_61 : decode prog_199_method_7_code 61 = .ok (.ifCond .lt 15, 3) := by decide +kernel
theorem d1_64 : decode prog_199_method_7_code 64 = .ok (.lload_n 0, 1) := by decide +kernel
theorem d1_65 : decode prog_199_method_7_code 65 = .ok (.ldc2_w 58, 3) := by decide +kernel
theorem d1_68 : decode prog_199_method_7_code 68 = .ok (.lcmp, 1) := by decide +kernel
theorem d1_69 : decode prog_199_method_7_code 69 = .ok (.ifCond .gt 7, 3) := by decide +kernel
theorem d1_72 : decode prog_199_method_7_code 72 = .ok (.iconst 1, 1) := by decide +kernel
theorem d1_73 : decode prog_199_method_7_code 73 = .ok (.goto 4, 3) := by decide +kernel
theorem d1_76 : decode prog_199_method_7_code 76 = .ok (.iconst 0, 1) := by decide +kernel
theorem d1_77 : decode prog_199_method_7_code 77 = .ok (.ireturn, 1) := by decide +kernel
abbrev Y1 : MethodName := ⟨"com/example/nereus/nereus/value/XmlChars", "isXmlChar", "(J)Z"⟩
def RM1 : Room := { frames := 0, cells := 0, slots := 0, locals := 0 }
theorem pd_1 : parseMethodDescriptor Y1.desc = some ⟨[.long], some .boolean⟩ := by decide +kernel
theorem pn_1 : plainName "com/example/nereus/nereus/value/XmlChars" = true := by first | (simp [plainName, overriddenIn]; done) | decide +kernel
theorem ef_1 (m : MethodId) (x0 : Int64) : entryFrame m #[.long x0] 2 = mkF m 0 #[.val (.long x0), .second] [] := by first | (simp [entryFrame, mkF, argsToLocals, Value.category]; done) | rfl
set_option maxRecDepth 65536 in
set_option maxHeartbeats 40000000 in
theorem rm1 (l : Launch) (Z : State) (a0 : Array Value) (hw : ∀ d ∈ tables_1, d.before a0 Z = true) (x0 : Int64)  (h0 : Heap) (r : Int32) (hf : f1_0 x0 = some r)  :
    MetFree l Y1 (head1 ([Jvm.Cond.code Y1 prog_199_method_7_code 2 (some .boolean)]) RM1) (fun a U => a = #[.long x0] ∧ Z.Warmed39 U.vm ∧ U.heap = h0) (fun _ _ _ _ _ => True) (fun _ U o U' => ∃ v L, o = .returned v ∧ (PQ h0 (some (.int r))) v U'.heap L ∧ FrameEnd U o U' L RM1.cells RM1.slots) := by
  refine MetFree.of_bodySF (plainFor_of_name pn_1) hisR ?_
  intro p e s m args below meth c s₁ Bd hml0 hP hK
  obtain ⟨rfl, hZ, hh⟩ := hP
  have hx := Bd.exec
  have hby := Bd.bytes
  have hlk : meth.locks = false := BodyLoose.notSynchronized Bd
  have hret := Bd.returns
  have hml : c.maxLocals = 2 := hml0
  have hown : s.vm.findClass "com/example/nereus/nereus/value/XmlChars" = some m.cls := findClass_of_methodNamed Bd.named
  have X0 : Stand p l e RM1 s m #[.long x0] below meth c s₁ [] 0 0 := Stand.of_body Bd
  have e0 : s₁.heap = h0 := by rw [← hh, Bd.state]; rfl
  suffices G : Go p e below s RM1.cells RM1.slots (PQ h0 (some (.int r))) m s₁ 0 #[.val (.long x0), .second] [] by
    obtain ⟨s₂, o, h1, h2⟩ := G
    exact ⟨s₂, o, castTop (ef_1 m x0) h1, h2⟩
  have hf0 := hf
  clear hf
  have B56 : ∀ (T : State), Stand p l e RM1 s m #[.long x0] below meth c T [] 0 0 → T.heap = h0 → ∀ (x0 : Int64), f1_56 x0 = some r → Go p e below s RM1.cells RM1.slots (PQ h0 (some (.int r))) m T 56 #[.val (.long x0), .second] [] := by
    intro T10 X10 e10 x0 hf
    unfold f1_56 at hf
    refine Go.lloadN X10 hx hby (v := x0) d1_56 rfl rfl ?_
    refine Go.ldcJ X10 hx hby hZ (v := (65536 : Int64)) hown (hw _ (List.mem_of_getElem? (i := 26) rfl)) d1_57 rfl ?_
    refine Go.lcmp X10 hx hby d1_60 rfl ?_
    refine Go.ifL_lt X10 hx hby (pc' := 76) d1_61 (by decide) (by decide) rfl (fun hc11 => ?_) (fun hc11 => ?_)
    · replace hf := (if_pos hc11).symm.trans hf
      refine Go.iconst X10 hx hby (v := (0 : Int32)) d1_76 rfl rfl ?_
      exact Go.iretN X10 hx hby hlk hret (Or.inl rfl) (w' := (0 : Int32)) rfl d1_77 (by decide) (by decide) ⟨congrArg (fun z => some (Value.int z)) (Option.some.inj hf), rfl, e10⟩
    · replace hf := (if_neg hc11).symm.trans hf
      refine Go.lloadN X10 hx hby (v := x0) d1_64 rfl rfl ?_
      refine Go.ldcJ X10 hx hby hZ (v := (1114111 : Int64)) hown (hw _ (List.mem_of_getElem? (i := 34) rfl)) d1_65 rfl ?_
      refine Go.lcmp X10 hx hby d1_68 rfl ?_
      refine Go.ifL_gt X10 hx hby (pc' := 76) d1_69 (by decide) (by decide) rfl (fun hc12 => ?_) (fun hc12 => ?_)
      · replace hf := (if_pos hc12).symm.trans hf
        refine Go.iconst X10 hx hby (v := (0 : Int32)) d1_76 rfl rfl ?_
        exact Go.iretN X10 hx hby hlk hret (Or.inl rfl) (w' := (0 : Int32)) rfl d1_77 (by decide) (by decide) ⟨congrArg (fun z => some (Value.int z)) (Option.some.inj hf), rfl, e10⟩
      · replace hf := (if_neg hc12).symm.trans hf
        refine Go.iconst X10 hx hby (v := (1 : Int32)) d1_72 rfl rfl ?_
        refine Go.goto X10 hx hby (pc' := 77) d1_73 (by decide) (by decide) ?_
        exact Go.iretN X10 hx hby hlk hret (Or.inl rfl) (w' := (1 : Int32)) rfl d1_77 (by decide) (by decide) ⟨congrArg (fun z => some (Value.int z)) (Option.some.inj hf), rfl, e10⟩
  have B40 : ∀ (T : State), Stand p l e RM1 s m #[.long x0] below meth c T [] 0 0 → T.heap = h0 → ∀ (x0 : Int64), f1_40 x0 = some r → Go p e below s RM1.cells RM1.slots (PQ h0 (some (.int r))) m T 40 #[.val (.long x0), .second] [] := by
    intro T13 X13 e13 x0 hf
    unfold f1_40 at hf
    refine Go.lloadN X13 hx hby (v := x0) d1_40 rfl rfl ?_
    refine Go.ldcJ X13 hx hby hZ (v := (57344 : Int64)) hown (hw _ (List.mem_of_getElem? (i := 25) rfl)) d1_41 rfl ?_
    refine Go.lcmp X13 hx hby d1_44 rfl ?_
    refine Go.ifL_lt X13 hx hby (pc' := 56) d1_45 (by decide) (by decide) rfl (fun hc14 => ?_) (fun hc14 => ?_)
    · replace hf := (if_pos hc14).symm.trans hf
      exact B56 T13 X13 e13 x0 hf
    · replace hf := (if_neg hc14).symm.trans hf
      refine Go.lloadN X13 hx hby (v := x0) d1_48 rfl rfl ?_
      refine Go.ldcJ X13 hx hby hZ (v := (65533 : Int64)) hown (hw _ (List.mem_of_getElem? (i := 33) rfl)) d1_49 rfl ?_
      refine Go.lcmp X13 hx hby d1_52 rfl ?_
      refine Go.ifL_le X13 hx hby (pc' := 72) d1_53 (by decide) (by decide) rfl (fun hc15 => ?_) (fun hc15 => ?_)
      · replace hf := (if_neg hc15).symm.trans hf
        refine Go.iconst X13 hx hby (v := (1 : Int32)) d1_72 rfl rfl ?_
        refine Go.goto X13 hx hby (pc' := 77) d1_73 (by decide) (by decide) ?_
        exact Go.iretN X13 hx hby hlk hret (Or.inl rfl) (w' := (1 : Int32)) rfl d1_77 (by decide) (by decide) ⟨congrArg (fun z => some (Value.int z)) (Option.some.inj hf), rfl, e13⟩
      · replace hf := (if_pos hc15).symm.trans hf
        exact B56 T13 X13 e13 x0 hf
  have hf := hf0
  unfold f1_0 at hf
  refine Go.lloadN X0 hx hby (v := x0) d1_0 rfl rfl ?_
  refine Go.ldcJ X0 hx hby hZ (v := (9 : Int64)) hown (hw _ (List.mem_of_getElem? (i := 21) rfl)) d1_1 rfl ?_
  refine Go.lcmp X0 hx hby d1_4 rfl ?_
  refine Go.ifL_eq X0 hx hby (pc' := 72) d1_5 (by decide) (by decide) rfl (fun hc16 => ?_) (fun hc16 => ?_)
  · replace hf := (if_pos hc16).symm.trans hf
    refine Go.iconst X0 hx hby (v := (1 : Int32)) d1_72 rfl rfl ?_
    refine Go.goto X0 hx hby (pc' := 77) d1_73 (by decide) (by decide) ?_
    exact Go.iretN X0 hx hby hlk hret (Or.inl rfl) (w' := (1 : Int32)) rfl d1_77 (by decide) (by decide) ⟨congrArg (fun z => some (Value.int z)) (Option.some.inj hf), rfl, e0⟩
  · replace hf := (if_neg hc16).symm.trans hf
    refine Go.lloadN X0 hx hby (v := x0) d1_8 rfl rfl ?_
    refine Go.ldcJ X0 hx hby hZ (v := (10 : Int64)) hown (hw _ (List.mem_of_getElem? (i := 22) rfl)) d1_9 rfl ?_
    refine Go.lcmp X0 hx hby d1_12 rfl ?_
    refine Go.ifL_eq X0 hx hby (pc' := 72) d1_13 (by decide) (by decide) rfl (fun hc17 => ?_) (fun hc17 => ?_)
    · replace hf := (if_pos hc17).symm.trans hf
      refine Go.iconst X0 hx hby (v := (1 : Int32)) d1_72 rfl rfl ?_
      refine Go.goto X0 hx hby (pc' := 77) d1_73 (by decide) (by decide) ?_
      exact Go.iretN X0 hx hby hlk hret (Or.inl rfl) (w' := (1 : Int32)) rfl d1_77 (by decide) (by decide) ⟨congrArg (fun z => some (Value.int z)) (Option.some.inj hf), rfl, e0⟩
    · replace hf := (if_neg hc17).symm.trans hf
      refine Go.lloadN X0 hx hby (v := x0) d1_16 rfl rfl ?_
      refine Go.ldcJ X0 hx hby hZ (v := (13 : Int64)) hown (hw _ (List.mem_of_getElem? (i := 23) rfl)) d1_17 rfl ?_
      refine Go.lcmp X0 hx hby d1_20 rfl ?_
      refine Go.ifL_eq X0 hx hby (pc' := 72) d1_21 (by decide) (by decide) rfl (fun hc18 => ?_) (fun hc18 => ?_)
      · replace hf := (if_pos hc18).symm.trans hf
        refine Go.iconst X0 hx hby (v := (1 : Int32)) d1_72 rfl rfl ?_
        refine Go.goto X0 hx hby (pc' := 77) d1_73 (by decide) (by decide) ?_
        exact Go.iretN X0 hx hby hlk hret (Or.inl rfl) (w' := (1 : Int32)) rfl d1_77 (by decide) (by decide) ⟨congrArg (fun z => some (Value.int z)) (Option.some.inj hf), rfl, e0⟩
      · replace hf := (if_neg hc18).symm.trans hf
        refine Go.lloadN X0 hx hby (v := x0) d1_24 rfl rfl ?_
        refine Go.ldcJ X0 hx hby hZ (v := (32 : Int64)) hown (hw _ (List.mem_of_getElem? (i := 24) rfl)) d1_25 rfl ?_
        refine Go.lcmp X0 hx hby d1_28 rfl ?_
        refine Go.ifL_lt X0 hx hby (pc' := 40) d1_29 (by decide) (by decide) rfl (fun hc19 => ?_) (fun hc19 => ?_)
        · replace hf := (if_pos hc19).symm.trans hf
          exact B40 s₁ X0 e0 x0 hf
        · replace hf := (if_neg hc19).symm.trans hf
          refine Go.lloadN X0 hx hby (v := x0) d1_32 rfl rfl ?_
          refine Go.ldcJ X0 hx hby hZ (v := (55295 : Int64)) hown (hw _ (List.mem_of_getElem? (i := 31) rfl)) d1_33 rfl ?_
          refine Go.lcmp X0 hx hby d1_36 rfl ?_
          refine Go.ifL_le X0 hx hby (pc' := 72) d1_37 (by decide) (by decide) rfl (fun hc20 => ?_) (fun hc20 => ?_)
          · replace hf := (if_neg hc20).symm.trans hf
            refine Go.iconst X0 hx hby (v := (1 : Int32)) d1_72 rfl rfl ?_
            refine Go.goto X0 hx hby (pc' := 77) d1_73 (by decide) (by decide) ?_
            exact Go.iretN X0 hx hby hlk hret (Or.inl rfl) (w' := (1 : Int32)) rfl d1_77 (by decide) (by decide) ⟨congrArg (fun z => some (Value.int z)) (Option.some.inj hf), rfl, e0⟩
          · replace hf := (if_pos hc20).symm.trans hf
            exact B40 s₁ X0 e0 x0 hf
-- body 2
def f2_74 (x0 : Int64) : Option (Int32) := if x0 = (65534 : Int64) then some (1 : Int32) else if x0 = (65535 : Int64) then some (1 : Int32) else some (0 : Int32)
def f2_0 (x0 : Int64) : Option (Int32) := if x0 < (0 : Int64) then some (1 : Int32) else if (1114111 : Int64) < x0 then some (1 : Int32) else if x0 < (32 : Int64) then if x0 = (9 : Int64) then some (0 : Int32) else if x0 = (10 : Int64) then some (0 : Int32) else if x0 = (13 : Int64) then some (0 : Int32) else some (1 : Int32) else if x0 < (55296 : Int64) then f2_74 x0 else if (57343 : Int64) < x0 then f2_74 x0 else some (1 : Int32)
theorem d2_0 : decode method_2_code 0 = .ok (.lload_n 0, 1) := by decide +kernel
theorem d2_1 : decode method_2_code 1 = .ok (.lconst 0, 1) := by decide +kernel
theorem d2_2 : decode method_2_code 2 = .ok (.lcmp, 1) := by decide +kernel
theorem d2_3 : decode method_2_code 3 = .ok (.ifCond .ge 5, 3) := by decide +kernel
theorem d2_6 : decode method_2_code 6 = .ok (.iconst 1, 1) := by decide +kernel
theorem d2_7 : decode method_2_code 7 = .ok (.ireturn, 1) := by decide +kernel
theorem d2_8 : decode method_2_code 8 = .ok (.lload_n 0, 1) := by decide +kernel
theorem d2_9 : decode method_2_code 9 = .ok (.ldc2_w 7, 3) := by decide +kernel
theorem d2_12 : decode method_2_code 12 = .ok (.lcmp, 1) := by decide +kernel
theorem d2_13 : decode method_2_code 13 = .ok (.ifCond .le 5, 3) := by decide +kernel
theorem d2_16 : decode method_2_code 16 = .ok (.iconst 1, 1) := by decide +kernel
theorem d2_17 : decode method_2_code 17 = .ok (.ireturn, 1) := by decide +kernel
theorem d2_18 : decode method_2_code 18 = .ok (.lload_n 0, 1) := by decide +kernel
theorem d2_19 : decode method_2_code 19 = .ok (.ldc2_w 9, 3) := by decide +kernel
theorem d2_22 : decode method_2_code 22 = .ok (.lcmp, 1) := by decide +kernel
theorem d2_23 : decode method_2_code 23 = .ok (.ifCond .ge 33, 3) := by decide +kernel
theorem d2_26 : decode method_2_code 26 = .ok (.lload_n 0, 1) := by decide +kernel
theorem d2_27 : decode method_2_code 27 = .ok (.ldc2_w 11, 3) := by decide +kernel
theorem d2_30 : decode method_2_code 30 = .ok (.lcmp, 1) := by decide +kernel
theorem d2_31 : decode method_2_code 31 = .ok (.ifCond .eq 23, 3) := by decide +kernel
theorem d2_34 : decode method_2_code 34 = .ok (.lload_n 0, 1) := by decide +kernel
theorem d2_35 : decode method_2_code 35 = .ok (.ldc2_w 13, 3) := by decide +kernel
theorem d2_38 : decode method_2_code 38 = .ok (.lcmp, 1) := by decide +kernel
theorem d2_39 : decode method_2_code 39 = .ok (.ifCond .eq 15, 3) := by decide +kernel
theorem d2_42 : decode method_2_code 42 = .ok (.lload_n 0, 1) := by decide +kernel
theorem d2_43 : decode method_2_code 43 = .ok (.ldc2_w 15, 3) := by decide +kernel
theorem d2_46 : decode method_2_code 46 = .ok (.lcmp, 1) := by decide +kernel
theorem d2_47 : decode method_2_code 47 = .ok (.ifCond .eq 7, 3) := by decide +kernel
theorem d2_50 : decode method_2_code 50 = .ok (.iconst 1, 1) := by decide +kernel
theorem d2_51 : decode method_2_code 51 = .ok (.goto 4, 3) := by decide +kernel
theorem d2_54 : decode method_2_code 54 = .ok (.iconst 0, 1) := by decide +kernel
theorem d2_55 : decode method_2_code 55 = .ok (.ireturn, 1) := by decide +kernel
theorem d2_56 : decode method_2_code 56 = .ok (.lload_n 0, 1) := by decide +kernel
theorem d2_57 : decode method_2_code 57 = .ok (.ldc2_w 17, 3) := by decide +kernel
theorem d2_60 : decode method_2_code 60 = .ok (.lcmp, 1) := by decide +kernel
theorem d2_61 : decode method_2_code 61 = .ok (.ifCond .lt 13, 3) := by decide +kernel
theorem d2_64 : decode method_2_code 64 = .ok (.lload_n 0, 1) := by decide +kernel
theorem d2_65 : decode method_2_code 65 = .ok (.ldc2_w 19, 3) := by decide +kernel
theorem d2_68 : decode method_2_code 68 = .ok (.lcmp, 1) := by decide +kernel
theorem d2_69 : decode method_2_code 69 = .ok (.ifCond .gt 5, 3) := by decide +kernel
theorem d2_72 : decode method_2_code 72 = .ok (.iconst 1, 1) := by decide +kernel
theorem d2_73 : decode method_2_code 73 = .ok (.ireturn, 1) := by decide +kernel
theorem d2_74 : decode method_2_code 74 = .ok (.lload_n 0, 1) := by decide +kernel
theorem d2_75 : decode method_2_code 75 = .ok (.ldc2_w 21, 3) := by decide +kernel
theorem d2_78 : decode method_2_code 78 = .ok (.lcmp, 1) := by decide +kernel
theorem d2_79 : decode method_2_code 79 = .ok (.ifCond .eq 11, 3) := by decide +kernel
theorem d2_82 : decode method_2_code 82 = .ok (.lload_n 0, 1) := by decide +kernel
theorem d2_83 : decode method_2_code 83 = .ok (.ldc2_w 23, 3) := by decide +kernel
theorem d2_86 : decode method_2_code 86 = .ok (.lcmp, 1) := by decide +kernel
theorem d2_87 : decode method_2_code 87 = .ok (.ifCond .ne 7, 3) := by decide +kernel
theorem d2_90 : decode method_2_code 90 = .ok (.iconst 1, 1) := by decide +kernel
theorem d2_91 : decode method_2_code 91 = .ok (.goto 4, 3) := by decide +kernel
theorem d2_94 : decode method_2_code 94 = .ok (.iconst 0, 1) := by decide +kernel
theorem d2_95 : decode method_2_code 95 = .ok (.ireturn, 1) := by decide +kernel
abbrev Y2 : MethodName := ⟨"com/example/nereus/nereus/value/XmlCharsIsXmlCharPinLaw", "excluded", "(J)Z"⟩
def RM2 : Room := { frames := 0, cells := 0, slots := 0, locals := 0 }
theorem pd_2 : parseMethodDescriptor Y2.desc = some ⟨[.long], some .boolean⟩ := by decide +kernel
theorem pn_2 : plainName "com/example/nereus/nereus/value/XmlCharsIsXmlCharPinLaw" = true := by first | (simp [plainName, overriddenIn]; done) | decide +kernel
theorem ef_2 (m : MethodId) (x0 : Int64) : entryFrame m #[.long x0] 2 = mkF m 0 #[.val (.long x0), .second] [] := by first | (simp [entryFrame, mkF, argsToLocals, Value.category]; done) | rfl
set_option maxRecDepth 65536 in
set_option maxHeartbeats 40000000 in
theorem rm2 (l : Launch) (Z : State) (a0 : Array Value) (hw : ∀ d ∈ tables_1, d.before a0 Z = true) (x0 : Int64)  (h0 : Heap) (r : Int32) (hf : f2_0 x0 = some r)  :
    MetFree l Y2 (head1 ([Jvm.Cond.code Y2 method_2_code 2 (some .boolean)]) RM2) (fun a U => a = #[.long x0] ∧ Z.Warmed39 U.vm ∧ U.heap = h0) (fun _ _ _ _ _ => True) (fun _ U o U' => ∃ v L, o = .returned v ∧ (PQ h0 (some (.int r))) v U'.heap L ∧ FrameEnd U o U' L RM2.cells RM2.slots) := by
  refine MetFree.of_bodySF (plainFor_of_name pn_2) hisR ?_
  intro p e s m args below meth c s₁ Bd hml0 hP hK
  obtain ⟨rfl, hZ, hh⟩ := hP
  have hx := Bd.exec
  have hby := Bd.bytes
  have hlk : meth.locks = false := BodyLoose.notSynchronized Bd
  have hret := Bd.returns
  have hml : c.maxLocals = 2 := hml0
  have hown : s.vm.findClass "com/example/nereus/nereus/value/XmlCharsIsXmlCharPinLaw" = some m.cls := findClass_of_methodNamed Bd.named
  have X0 : Stand p l e RM2 s m #[.long x0] below meth c s₁ [] 0 0 := Stand.of_body Bd
  have e0 : s₁.heap = h0 := by rw [← hh, Bd.state]; rfl
  suffices G : Go p e below s RM2.cells RM2.slots (PQ h0 (some (.int r))) m s₁ 0 #[.val (.long x0), .second] [] by
    obtain ⟨s₂, o, h1, h2⟩ := G
    exact ⟨s₂, o, castTop (ef_2 m x0) h1, h2⟩
  have hf0 := hf
  clear hf
  have B74 : ∀ (T : State), Stand p l e RM2 s m #[.long x0] below meth c T [] 0 0 → T.heap = h0 → ∀ (x0 : Int64), f2_74 x0 = some r → Go p e below s RM2.cells RM2.slots (PQ h0 (some (.int r))) m T 74 #[.val (.long x0), .second] [] := by
    intro T31 X31 e31 x0 hf
    unfold f2_74 at hf
    refine Go.lloadN X31 hx hby (v := x0) d2_74 rfl rfl ?_
    refine Go.ldcJ X31 hx hby hZ (v := (65534 : Int64)) hown (hw _ (List.mem_of_getElem? (i := 11) rfl)) d2_75 rfl ?_
    refine Go.lcmp X31 hx hby d2_78 rfl ?_
    refine Go.ifL_eq X31 hx hby (pc' := 90) d2_79 (by decide) (by decide) rfl (fun hc32 => ?_) (fun hc32 => ?_)
    · replace hf := (if_pos hc32).symm.trans hf
      refine Go.iconst X31 hx hby (v := (1 : Int32)) d2_90 rfl rfl ?_
      refine Go.goto X31 hx hby (pc' := 95) d2_91 (by decide) (by decide) ?_
      exact Go.iretN X31 hx hby hlk hret (Or.inl rfl) (w' := (1 : Int32)) rfl d2_95 (by decide) (by decide) ⟨congrArg (fun z => some (Value.int z)) (Option.some.inj hf), rfl, e31⟩
    · replace hf := (if_neg hc32).symm.trans hf
      refine Go.lloadN X31 hx hby (v := x0) d2_82 rfl rfl ?_
      refine Go.ldcJ X31 hx hby hZ (v := (65535 : Int64)) hown (hw _ (List.mem_of_getElem? (i := 32) rfl)) d2_83 rfl ?_
      refine Go.lcmp X31 hx hby d2_86 rfl ?_
      refine Go.ifL_ne X31 hx hby (pc' := 94) d2_87 (by decide) (by decide) rfl (fun hc33 => ?_) (fun hc33 => ?_)
      · replace hf := (if_neg hc33).symm.trans hf
        refine Go.iconst X31 hx hby (v := (0 : Int32)) d2_94 rfl rfl ?_
        exact Go.iretN X31 hx hby hlk hret (Or.inl rfl) (w' := (0 : Int32)) rfl d2_95 (by decide) (by decide) ⟨congrArg (fun z => some (Value.int z)) (Option.some.inj hf), rfl, e31⟩
      · replace hf := (if_pos hc33).symm.trans hf
        refine Go.iconst X31 hx hby (v := (1 : Int32)) d2_90 rfl rfl ?_
        refine Go.goto X31 hx hby (pc' := 95) d2_91 (by decide) (by decide) ?_
        exact Go.iretN X31 hx hby hlk hret (Or.inl rfl) (w' := (1 : Int32)) rfl d2_95 (by decide) (by decide) ⟨congrArg (fun z => some (Value.int z)) (Option.some.inj hf), rfl, e31⟩
  have hf := hf0
  unfold f2_0 at hf
  refine Go.lloadN X0 hx hby (v := x0) d2_0 rfl rfl ?_
  refine Go.lconst X0 hx hby (v := (0 : Int64)) d2_1 rfl rfl ?_
  refine Go.lcmp X0 hx hby d2_2 rfl ?_
  refine Go.ifL_ge X0 hx hby (pc' := 8) d2_3 (by decide) (by decide) rfl (fun hc34 => ?_) (fun hc34 => ?_)
  · replace hf := (if_neg hc34).symm.trans hf
    refine Go.lloadN X0 hx hby (v := x0) d2_8 rfl rfl ?_
    refine Go.ldcJ X0 hx hby hZ (v := (1114111 : Int64)) hown (hw _ (List.mem_of_getElem? (i := 13) rfl)) d2_9 rfl ?_
    refine Go.lcmp X0 hx hby d2_12 rfl ?_
    refine Go.ifL_le X0 hx hby (pc' := 18) d2_13 (by decide) (by decide) rfl (fun hc35 => ?_) (fun hc35 => ?_)
    · replace hf := (if_neg hc35).symm.trans hf
      refine Go.lloadN X0 hx hby (v := x0) d2_18 rfl rfl ?_
      refine Go.ldcJ X0 hx hby hZ (v := (32 : Int64)) hown (hw _ (List.mem_of_getElem? (i := 5) rfl)) d2_19 rfl ?_
      refine Go.lcmp X0 hx hby d2_22 rfl ?_
      refine Go.ifL_ge X0 hx hby (pc' := 56) d2_23 (by decide) (by decide) rfl (fun hc36 => ?_) (fun hc36 => ?_)
      · replace hf := (if_neg hc36).symm.trans hf
        refine Go.lloadN X0 hx hby (v := x0) d2_56 rfl rfl ?_
        refine Go.ldcJ X0 hx hby hZ (v := (55296 : Int64)) hown (hw _ (List.mem_of_getElem? (i := 7) rfl)) d2_57 rfl ?_
        refine Go.lcmp X0 hx hby d2_60 rfl ?_
        refine Go.ifL_lt X0 hx hby (pc' := 74) d2_61 (by decide) (by decide) rfl (fun hc37 => ?_) (fun hc37 => ?_)
        · replace hf := (if_pos hc37).symm.trans hf
          exact B74 s₁ X0 e0 x0 hf
        · replace hf := (if_neg hc37).symm.trans hf
          refine Go.lloadN X0 hx hby (v := x0) d2_64 rfl rfl ?_
          refine Go.ldcJ X0 hx hby hZ (v := (57343 : Int64)) hown (hw _ (List.mem_of_getElem? (i := 8) rfl)) d2_65 rfl ?_
          refine Go.lcmp X0 hx hby d2_68 rfl ?_
          refine Go.ifL_gt X0 hx hby (pc' := 74) d2_69 (by decide) (by decide) rfl (fun hc38 => ?_) (fun hc38 => ?_)
          · replace hf := (if_pos hc38).symm.trans hf
            exact B74 s₁ X0 e0 x0 hf
          · replace hf := (if_neg hc38).symm.trans hf
            refine Go.iconst X0 hx hby (v := (1 : Int32)) d2_72 rfl rfl ?_
            exact Go.iretN X0 hx hby hlk hret (Or.inl rfl) (w' := (1 : Int32)) rfl d2_73 (by decide) (by decide) ⟨congrArg (fun z => some (Value.int z)) (Option.some.inj hf), rfl, e0⟩
      · replace hf := (if_pos hc36).symm.trans hf
        refine Go.lloadN X0 hx hby (v := x0) d2_26 rfl rfl ?_
        refine Go.ldcJ X0 hx hby hZ (v := (9 : Int64)) hown (hw _ (List.mem_of_getElem? (i := 1) rfl)) d2_27 rfl ?_
        refine Go.lcmp X0 hx hby d2_30 rfl ?_
        refine Go.ifL_eq X0 hx hby (pc' := 54) d2_31 (by decide) (by decide) rfl (fun hc39 => ?_) (fun hc39 => ?_)
        · replace hf := (if_pos hc39).symm.trans hf
          refine Go.iconst X0 hx hby (v := (0 : Int32)) d2_54 rfl rfl ?_
          exact Go.iretN X0 hx hby hlk hret (Or.inl rfl) (w' := (0 : Int32)) rfl d2_55 (by decide) (by decide) ⟨congrArg (fun z => some (Value.int z)) (Option.some.inj hf), rfl, e0⟩
        · replace hf := (if_neg hc39).symm.trans hf
          refine Go.lloadN X0 hx hby (v := x0) d2_34 rfl rfl ?_
          refine Go.ldcJ X0 hx hby hZ (v := (10 : Int64)) hown (hw _ (List.mem_of_getElem? (i := 2) rfl)) d2_35 rfl ?_
          refine Go.lcmp X0 hx hby d2_38 rfl ?_
          refine Go.ifL_eq X0 hx hby (pc' := 54) d2_39 (by decide) (by decide) rfl (fun hc40 => ?_) (fun hc40 => ?_)
          · replace hf := (if_pos hc40).symm.trans hf
            refine Go.iconst X0 hx hby (v := (0 : Int32)) d2_54 rfl rfl ?_
            exact Go.iretN X0 hx hby hlk hret (Or.inl rfl) (w' := (0 : Int32)) rfl d2_55 (by decide) (by decide) ⟨congrArg (fun z => some (Value.int z)) (Option.some.inj hf), rfl, e0⟩
          · replace hf := (if_neg hc40).symm.trans hf
            refine Go.lloadN X0 hx hby (v := x0) d2_42 rfl rfl ?_
            refine Go.ldcJ X0 hx hby hZ (v := (13 : Int64)) hown (hw _ (List.mem_of_getElem? (i := 4) rfl)) d2_43 rfl ?_
            refine Go.lcmp X0 hx hby d2_46 rfl ?_
            refine Go.ifL_eq X0 hx hby (pc' := 54) d2_47 (by decide) (by decide) rfl (fun hc41 => ?_) (fun hc41 => ?_)
            · replace hf := (if_pos hc41).symm.trans hf
              refine Go.iconst X0 hx hby (v := (0 : Int32)) d2_54 rfl rfl ?_
              exact Go.iretN X0 hx hby hlk hret (Or.inl rfl) (w' := (0 : Int32)) rfl d2_55 (by decide) (by decide) ⟨congrArg (fun z => some (Value.int z)) (Option.some.inj hf), rfl, e0⟩
            · replace hf := (if_neg hc41).symm.trans hf
              refine Go.iconst X0 hx hby (v := (1 : Int32)) d2_50 rfl rfl ?_
              refine Go.goto X0 hx hby (pc' := 55) d2_51 (by decide) (by decide) ?_
              exact Go.iretN X0 hx hby hlk hret (Or.inl rfl) (w' := (1 : Int32)) rfl d2_55 (by decide) (by decide) ⟨congrArg (fun z => some (Value.int z)) (Option.some.inj hf), rfl, e0⟩
    · replace hf := (if_pos hc35).symm.trans hf
      refine Go.iconst X0 hx hby (v := (1 : Int32)) d2_16 rfl rfl ?_
      exact Go.iretN X0 hx hby hlk hret (Or.inl rfl) (w' := (1 : Int32)) rfl d2_17 (by decide) (by decide) ⟨congrArg (fun z => some (Value.int z)) (Option.some.inj hf), rfl, e0⟩
  · replace hf := (if_pos hc34).symm.trans hf
    refine Go.iconst X0 hx hby (v := (1 : Int32)) d2_6 rfl rfl ?_
    exact Go.iretN X0 hx hby hlk hret (Or.inl rfl) (w' := (1 : Int32)) rfl d2_7 (by decide) (by decide) ⟨congrArg (fun z => some (Value.int z)) (Option.some.inj hf), rfl, e0⟩
-- body 0
def f0_180 (t0 : Int32) (t1 : Int32) (G_bb : List Int64) : Option (Int32) := if t1 = t0 then some (1 : Int32) else some (0 : Int32)
def f0_162 (x5 : Int64) (G_bb : List Int64) : Option (Int32) := (f1_0 x5).bind fun r43 => (f2_0 x5).bind fun r44 => if r44 = 0 then f0_180 (1 : Int32) r43 G_bb else f0_180 (0 : Int32) r43 G_bb
def f0_0 (x0 : Int64) (x2 : Int32) (x3 : Int32) : Option (Int32) := if (x2 &&& (1 : Int32)) = 0 then f0_162 x0 ([(0 : Int64), (9 : Int64), (10 : Int64), (11 : Int64), (13 : Int64), (32 : Int64), (55295 : Int64), (55296 : Int64), (57343 : Int64), (57344 : Int64), (65533 : Int64), (65534 : Int64), (65536 : Int64), (1114111 : Int64), (1114112 : Int64), (-9223372036854775808 : Int64), (9223372036854775807 : Int64)] : List Int64) else if (lenA ([(0 : Int64), (9 : Int64), (10 : Int64), (11 : Int64), (13 : Int64), (32 : Int64), (55295 : Int64), (55296 : Int64), (57343 : Int64), (57344 : Int64), (65533 : Int64), (65534 : Int64), (65536 : Int64), (1114111 : Int64), (1114112 : Int64), (-9223372036854775808 : Int64), (9223372036854775807 : Int64)] : List Int64)) = 0 then none else if inA ([(0 : Int64), (9 : Int64), (10 : Int64), (11 : Int64), (13 : Int64), (32 : Int64), (55295 : Int64), (55296 : Int64), (57343 : Int64), (57344 : Int64), (65533 : Int64), (65534 : Int64), (65536 : Int64), (1114111 : Int64), (1114112 : Int64), (-9223372036854775808 : Int64), (9223372036854775807 : Int64)] : List Int64) (remI ((XT.ushr x2 (1 : Int32)) &&& (1073741823 : Int32)) (lenA ([(0 : Int64), (9 : Int64), (10 : Int64), (11 : Int64), (13 : Int64), (32 : Int64), (55295 : Int64), (55296 : Int64), (57343 : Int64), (57344 : Int64), (65533 : Int64), (65534 : Int64), (65536 : Int64), (1114111 : Int64), (1114112 : Int64), (-9223372036854775808 : Int64), (9223372036854775807 : Int64)] : List Int64))) then f0_162 ((atA ([(0 : Int64), (9 : Int64), (10 : Int64), (11 : Int64), (13 : Int64), (32 : Int64), (55295 : Int64), (55296 : Int64), (57343 : Int64), (57344 : Int64), (65533 : Int64), (65534 : Int64), (65536 : Int64), (1114111 : Int64), (1114112 : Int64), (-9223372036854775808 : Int64), (9223372036854775807 : Int64)] : List Int64) (remI ((XT.ushr x2 (1 : Int32)) &&& (1073741823 : Int32)) (lenA ([(0 : Int64), (9 : Int64), (10 : Int64), (11 : Int64), (13 : Int64), (32 : Int64), (55295 : Int64), (55296 : Int64), (57343 : Int64), (57344 : Int64), (65533 : Int64), (65534 : Int64), (65536 : Int64), (1114111 : Int64), (1114112 : Int64), (-9223372036854775808 : Int64), (9223372036854775807 : Int64)] : List Int64)))) + ((((remI (x3 &&& (2147483647 : Int32)) (5 : Int32)) - (2 : Int32))).toInt64)) ([(0 : Int64), (9 : Int64), (10 : Int64), (11 : Int64), (13 : Int64), (32 : Int64), (55295 : Int64), (55296 : Int64), (57343 : Int64), (57344 : Int64), (65533 : Int64), (65534 : Int64), (65536 : Int64), (1114111 : Int64), (1114112 : Int64), (-9223372036854775808 : Int64), (9223372036854775807 : Int64)] : List Int64) else none
theorem pn_0 : plainName "com/example/nereus/nereus/value/XmlCharsIsXmlCharPinLaw" = true := by first | (simp [plainName, overriddenIn]; done) | decide +kernel
theorem ef_0 (m : MethodId) (x0 : Int64) (x2 : Int32) (x3 : Int32) : entryFrame m #[.long x0, .int x2, .int x3] maxLocals = mkF m 0 #[.val (.long x0), .second, .val (.int x2), .val (.int x3), .unset, .unset, .unset, .unset, .unset, .unset] [] := by first | (simp [entryFrame, mkF, argsToLocals, Value.category, maxLocals]; done) | rfl
set_option maxRecDepth 65536 in
set_option maxHeartbeats 40000000 in
theorem rm0 (l : Launch) (Z : State) (a0 : Array Value) (hw : ∀ d ∈ tables_1, d.before a0 Z = true) (ws : List Jvm.Cond) (x0 : Int64) (x2 : Int32) (x3 : Int32)  (h0 : Heap) (n0 : Nat) (Z0 : n0 ≤ h0.size) (r : Int32) (hf : f0_0 x0 x2 x3 = some r)  :
    MetFree l x (head1 (Jvm.Cond.code x code maxLocals ret :: ws) room_1) (fun a U => a = #[.long x0, .int x2, .int x3] ∧ Z.Warmed39 U.vm ∧ U.heap = h0) (fun _ _ _ _ _ => True) (fun _ U o U' => ∃ v L, o = .returned v ∧ (fun v h L => v = some (.int r) ∧ Fr n0 L) v U'.heap L ∧ FrameEnd U o U' L room_1.cells room_1.slots) := by
  refine MetFree.of_bodySF (plainFor_of_name pn_0) hisR ?_
  intro p e s m args below meth c s₁ Bd hml0 hP hK
  obtain ⟨rfl, hZ, hh⟩ := hP
  have hx := Bd.exec
  have hby := Bd.bytes
  have hlk : meth.locks = false := BodyLoose.notSynchronized Bd
  have hret := Bd.returns
  have hml : c.maxLocals = 10 := hml0
  have hown : s.vm.findClass "com/example/nereus/nereus/value/XmlCharsIsXmlCharPinLaw" = some m.cls := findClass_of_methodNamed Bd.named
  have X0 : Stand p l e room_1 s m #[.long x0, .int x2, .int x3] below meth c s₁ [] 0 0 := Stand.of_body Bd
  have e0 : s₁.heap = h0 := by rw [← hh, Bd.state]; rfl
  have N0 := Fr.nil n0
  have K0 := Keep.refl h0 []
  suffices G : Go p e below s room_1.cells room_1.slots (fun v h L => v = some (.int r) ∧ Fr n0 L) m s₁ 0 #[.val (.long x0), .second, .val (.int x2), .val (.int x3), .unset, .unset, .unset, .unset, .unset, .unset] [] by
    obtain ⟨s₂, o, h1, h2⟩ := G
    exact ⟨s₂, o, castTop (ef_0 m x0 x2 x3) h1, h2⟩
  have hf0 := hf
  clear hf
  have B180 : ∀ (T : State) (h : Heap) (locs : List Loc), Stand p l e room_1 s m #[.long x0, .int x2, .int x3] below meth c T locs 1 17 → T.heap = h → Fr n0 locs → Keep h0 h [] → ∀ (bb : Addr), h0.size ≤ bb → ∀ (G_bb : List Int64), AryJ Z h bb G_bb → ∀ (x0 : Int64) (x2 : Int32) (x3 : Int32) (x5 : Int64) (t0 : Int32) (t1 : Int32), f0_180 t0 t1 G_bb = some r → Go p e below s room_1.cells room_1.slots (fun v h L => v = some (.int r) ∧ Fr n0 L) m T 180 #[.val (.long x0), .second, .val (.int x2), .val (.int x3), .val (.ref bb), .val (.long x5), .second, .unset, .unset, .unset] [.int t0, .int t1] := by
    intro T84 h84 _ X84 e84 N84 K84 bb na_bb G_bb F84_bb x0 x2 x3 x5 t0 t1 hf
    unfold f0_180 at hf
    refine Go.icmp_ne X84 hx hby (pc' := 187) at_180 (by decide) (by decide) rfl (fun hc85 => ?_) (fun hc85 => ?_)
    · replace hf := (if_neg hc85).symm.trans hf
      refine Go.iconst X84 hx hby (v := (0 : Int32)) at_187 rfl rfl ?_
      exact Go.iretN X84 hx hby hlk hret (Or.inl rfl) (w' := (0 : Int32)) rfl at_188 (by decide) (by decide) ⟨congrArg (fun z => some (Value.int z)) (Option.some.inj hf), N84⟩
    · replace hf := (if_pos hc85).symm.trans hf
      refine Go.iconst X84 hx hby (v := (1 : Int32)) at_183 rfl rfl ?_
      refine Go.goto X84 hx hby (pc' := 188) at_184 (by decide) (by decide) ?_
      exact Go.iretN X84 hx hby hlk hret (Or.inl rfl) (w' := (1 : Int32)) rfl at_188 (by decide) (by decide) ⟨congrArg (fun z => some (Value.int z)) (Option.some.inj hf), N84⟩
  have B180_1 : ∀ (T : State) (h : Heap) (locs : List Loc), Stand p l e room_1 s m #[.long x0, .int x2, .int x3] below meth c T locs 1 17 → T.heap = h → Fr n0 locs → Keep h0 h [] → ∀ (bb : Addr), h0.size ≤ bb → ∀ (G_bb : List Int64), AryJ Z h bb G_bb → ∀ (x0 : Int64) (x2 : Int32) (x3 : Int32) (x5 : Int64) (x7 : Int32) (x8 : Int64) (t0 : Int32) (t1 : Int32), f0_180 t0 t1 G_bb = some r → Go p e below s room_1.cells room_1.slots (fun v h L => v = some (.int r) ∧ Fr n0 L) m T 180 #[.val (.long x0), .second, .val (.int x2), .val (.int x3), .val (.ref bb), .val (.long x5), .second, .val (.int x7), .val (.long x8), .second] [.int t0, .int t1] := by
    intro T86 h86 _ X86 e86 N86 K86 bb na_bb G_bb F86_bb x0 x2 x3 x5 x7 x8 t0 t1 hf
    unfold f0_180 at hf
    refine Go.icmp_ne X86 hx hby (pc' := 187) at_180 (by decide) (by decide) rfl (fun hc87 => ?_) (fun hc87 => ?_)
    · replace hf := (if_neg hc87).symm.trans hf
      refine Go.iconst X86 hx hby (v := (0 : Int32)) at_187 rfl rfl ?_
      exact Go.iretN X86 hx hby hlk hret (Or.inl rfl) (w' := (0 : Int32)) rfl at_188 (by decide) (by decide) ⟨congrArg (fun z => some (Value.int z)) (Option.some.inj hf), N86⟩
    · replace hf := (if_pos hc87).symm.trans hf
      refine Go.iconst X86 hx hby (v := (1 : Int32)) at_183 rfl rfl ?_
      refine Go.goto X86 hx hby (pc' := 188) at_184 (by decide) (by decide) ?_
      exact Go.iretN X86 hx hby hlk hret (Or.inl rfl) (w' := (1 : Int32)) rfl at_188 (by decide) (by decide) ⟨congrArg (fun z => some (Value.int z)) (Option.some.inj hf), N86⟩
  have B162 : ∀ (T : State) (h : Heap) (locs : List Loc), Stand p l e room_1 s m #[.long x0, .int x2, .int x3] below meth c T locs 1 17 → T.heap = h → Fr n0 locs → Keep h0 h [] → ∀ (bb : Addr), h0.size ≤ bb → ∀ (G_bb : List Int64), AryJ Z h bb G_bb → ∀ (x0 : Int64) (x2 : Int32) (x3 : Int32) (x5 : Int64), f0_162 x5 G_bb = some r → Go p e below s room_1.cells room_1.slots (fun v h L => v = some (.int r) ∧ Fr n0 L) m T 162 #[.val (.long x0), .second, .val (.int x2), .val (.int x3), .val (.ref bb), .val (.long x5), .second, .unset, .unset, .unset] [] := by
    intro T88 h88 _ X88 e88 N88 K88 bb na_bb G_bb F88_bb x0 x2 x3 x5 hf
    unfold f0_162 at hf
    refine Go.lload X88 hx hby (v := x5) at_162 rfl rfl ?_
    obtain ⟨r89, g89, hf⟩ := Option.bind_eq_some_iff.mp hf
    refine Go.callSP X88 hx hby hZ (by rw [hml]; rfl) (W := 0) (argsL := [.long x5]) (rest := []) hown (hw _ (List.mem_of_getElem? (i := 17) rfl)) (hw _ (List.mem_of_getElem? (i := 18) rfl)) (hw _ (List.mem_of_getElem? (i := 19) rfl)) (hw _ (List.mem_of_getElem? (i := 20) rfl)) (by decide) (rm1 l Z a0 hw x5  h88 r89 g89 ) (by decide) (by decide) e88 pd_1 rfl rfl rfl (Nat.le_of_eq rfl) rfl rfl (by decide) (by decide) at_164 rfl (fun T89 X89 e89 => ?_)
    refine Go.lload X89 hx hby (v := x5) at_167 rfl rfl ?_
    obtain ⟨r90, g90, hf⟩ := Option.bind_eq_some_iff.mp hf
    refine Go.callSP X89 hx hby hZ (by rw [hml]; rfl) (W := 1) (argsL := [.long x5]) (rest := [.int r89]) hown (hw _ (List.mem_of_getElem? (i := 27) rfl)) (hw _ (List.mem_of_getElem? (i := 28) rfl)) (hw _ (List.mem_of_getElem? (i := 29) rfl)) (hw _ (List.mem_of_getElem? (i := 30) rfl)) (by decide) (rm2 l Z a0 hw x5  h88 r90 g90 ) (by decide) (by decide) e89 pd_2 rfl rfl rfl (Nat.le_of_eq rfl) rfl rfl (by decide) (by decide) at_169 rfl (fun T90 X90 e90 => ?_)
    refine Go.if_ne X90 hx hby (pc' := 179) at_172 (by decide) (by decide) rfl (fun hc91 => ?_) (fun hc91 => ?_)
    · replace hf := (if_neg hc91).symm.trans hf
      refine Go.iconst X90 hx hby (v := (0 : Int32)) at_179 rfl rfl ?_
      exact B180 T90 h88 _ X90 e90 N88 K88 bb na_bb  G_bb F88_bb x0 x2 x3 x5 (0 : Int32) r89 hf
    · replace hf := (if_pos hc91).symm.trans hf
      refine Go.iconst X90 hx hby (v := (1 : Int32)) at_175 rfl rfl ?_
      refine Go.goto X90 hx hby (pc' := 180) at_176 (by decide) (by decide) ?_
      exact B180 T90 h88 _ X90 e90 N88 K88 bb na_bb  G_bb F88_bb x0 x2 x3 x5 (1 : Int32) r89 hf
  have B162_1 : ∀ (T : State) (h : Heap) (locs : List Loc), Stand p l e room_1 s m #[.long x0, .int x2, .int x3] below meth c T locs 1 17 → T.heap = h → Fr n0 locs → Keep h0 h [] → ∀ (bb : Addr), h0.size ≤ bb → ∀ (G_bb : List Int64), AryJ Z h bb G_bb → ∀ (x0 : Int64) (x2 : Int32) (x3 : Int32) (x5 : Int64) (x7 : Int32) (x8 : Int64), f0_162 x5 G_bb = some r → Go p e below s room_1.cells room_1.slots (fun v h L => v = some (.int r) ∧ Fr n0 L) m T 162 #[.val (.long x0), .second, .val (.int x2), .val (.int x3), .val (.ref bb), .val (.long x5), .second, .val (.int x7), .val (.long x8), .second] [] := by
    intro T92 h92 _ X92 e92 N92 K92 bb na_bb G_bb F92_bb x0 x2 x3 x5 x7 x8 hf
    unfold f0_162 at hf
    refine Go.lload X92 hx hby (v := x5) at_162 rfl rfl ?_
    obtain ⟨r93, g93, hf⟩ := Option.bind_eq_some_iff.mp hf
    refine Go.callSP X92 hx hby hZ (by rw [hml]; rfl) (W := 0) (argsL := [.long x5]) (rest := []) hown (hw _ (List.mem_of_getElem? (i := 17) rfl)) (hw _ (List.mem_of_getElem? (i := 18) rfl)) (hw _ (List.mem_of_getElem? (i := 19) rfl)) (hw _ (List.mem_of_getElem? (i := 20) rfl)) (by decide) (rm1 l Z a0 hw x5  h92 r93 g93 ) (by decide) (by decide) e92 pd_1 rfl rfl rfl (Nat.le_of_eq rfl) rfl rfl (by decide) (by decide) at_164 rfl (fun T93 X93 e93 => ?_)
    refine Go.lload X93 hx hby (v := x5) at_167 rfl rfl ?_
    obtain ⟨r94, g94, hf⟩ := Option.bind_eq_some_iff.mp hf
    refine Go.callSP X93 hx hby hZ (by rw [hml]; rfl) (W := 1) (argsL := [.long x5]) (rest := [.int r93]) hown (hw _ (List.mem_of_getElem? (i := 27) rfl)) (hw _ (List.mem_of_getElem? (i := 28) rfl)) (hw _ (List.mem_of_getElem? (i := 29) rfl)) (hw _ (List.mem_of_getElem? (i := 30) rfl)) (by decide) (rm2 l Z a0 hw x5  h92 r94 g94 ) (by decide) (by decide) e93 pd_2 rfl rfl rfl (Nat.le_of_eq rfl) rfl rfl (by decide) (by decide) at_169 rfl (fun T94 X94 e94 => ?_)
    refine Go.if_ne X94 hx hby (pc' := 179) at_172 (by decide) (by decide) rfl (fun hc95 => ?_) (fun hc95 => ?_)
    · replace hf := (if_neg hc95).symm.trans hf
      refine Go.iconst X94 hx hby (v := (0 : Int32)) at_179 rfl rfl ?_
      exact B180_1 T94 h92 _ X94 e94 N92 K92 bb na_bb  G_bb F92_bb x0 x2 x3 x5 x7 x8 (0 : Int32) r93 hf
    · replace hf := (if_pos hc95).symm.trans hf
      refine Go.iconst X94 hx hby (v := (1 : Int32)) at_175 rfl rfl ?_
      refine Go.goto X94 hx hby (pc' := 180) at_176 (by decide) (by decide) ?_
      exact B180_1 T94 h92 _ X94 e94 N92 K92 bb na_bb  G_bb F92_bb x0 x2 x3 x5 x7 x8 (1 : Int32) r93 hf
  have hf := hf0
  unfold f0_0 at hf
  refine Go.bipush X0 hx hby (v := (17 : Int32)) at_0 rfl rfl ?_
  refine Go.newAJ X0 hx hby hZ (nn := 17) (hw _ (List.mem_of_getElem? (i := 0) rfl)) e0 at_2 rfl (by decide) (by decide) (by decide) (by decide) (by decide) (fun T96 h96 bb X96 e96 E96 z96 A96 => ?_)
  have na_bb := Nat.le_trans K0.1 z96
  have K96 := Keep.ext K0 E96
  have A96 : AryJ Z h96 bb ([0, 0, 0, 0, 0, 0, 0, 0, 0, 0, 0, 0, 0, 0, 0, 0, 0] : List Int64) := A96
  refine Go.dup X96 hx hby at_4 rfl rfl ?_
  refine Go.iconst X96 hx hby (v := (0 : Int32)) at_5 rfl rfl ?_
  refine Go.lconst X96 hx hby (v := (0 : Int64)) at_6 rfl rfl ?_
  refine Go.lastore X96 hx hby hZ e96 A96 (own_inK (n := 17) rfl (by decide)) at_7 rfl (fun T98 h98 X98 e98 W98 A98 => ?_)
  have N98 := Fr.snoc X98 N0 (Nat.le_trans Z0 na_bb)
  have K98 := Keep.wr K96 W98 (Or.inr na_bb)
  have A98 : AryJ Z h98 bb ([(0 : Int64), 0, 0, 0, 0, 0, 0, 0, 0, 0, 0, 0, 0, 0, 0, 0, 0] : List Int64) := A98
  refine Go.dup X98 hx hby at_8 rfl rfl ?_
  refine Go.iconst X98 hx hby (v := (1 : Int32)) at_9 rfl rfl ?_
  refine Go.ldcJ X98 hx hby hZ (v := (9 : Int64)) hown (hw _ (List.mem_of_getElem? (i := 1) rfl)) at_10 rfl ?_
  refine Go.lastore X98 hx hby hZ e98 A98 (own_inK (n := 17) rfl (by decide)) at_13 rfl (fun T100 h100 X100 e100 W100 A100 => ?_)
  have N100 := Fr.snoc X100 N98 (Nat.le_trans Z0 na_bb)
  have K100 := Keep.wr K98 W100 (Or.inr na_bb)
  have A100 : AryJ Z h100 bb ([(0 : Int64), (9 : Int64), 0, 0, 0, 0, 0, 0, 0, 0, 0, 0, 0, 0, 0, 0, 0] : List Int64) := A100
  refine Go.dup X100 hx hby at_14 rfl rfl ?_
  refine Go.iconst X100 hx hby (v := (2 : Int32)) at_15 rfl rfl ?_
  refine Go.ldcJ X100 hx hby hZ (v := (10 : Int64)) hown (hw _ (List.mem_of_getElem? (i := 2) rfl)) at_16 rfl ?_
  refine Go.lastore X100 hx hby hZ e100 A100 (own_inK (n := 17) rfl (by decide)) at_19 rfl (fun T102 h102 X102 e102 W102 A102 => ?_)
  have N102 := Fr.snoc X102 N100 (Nat.le_trans Z0 na_bb)
  have K102 := Keep.wr K100 W102 (Or.inr na_bb)
  have A102 : AryJ Z h102 bb ([(0 : Int64), (9 : Int64), (10 : Int64), 0, 0, 0, 0, 0, 0, 0, 0, 0, 0, 0, 0, 0, 0] : List Int64) := A102
  refine Go.dup X102 hx hby at_20 rfl rfl ?_
  refine Go.iconst X102 hx hby (v := (3 : Int32)) at_21 rfl rfl ?_
  refine Go.ldcJ X102 hx hby hZ (v := (11 : Int64)) hown (hw _ (List.mem_of_getElem? (i := 3) rfl)) at_22 rfl ?_
  refine Go.lastore X102 hx hby hZ e102 A102 (own_inK (n := 17) rfl (by decide)) at_25 rfl (fun T104 h104 X104 e104 W104 A104 => ?_)
  have N104 := Fr.snoc X104 N102 (Nat.le_trans Z0 na_bb)
  have K104 := Keep.wr K102 W104 (Or.inr na_bb)
  have A104 : AryJ Z h104 bb ([(0 : Int64), (9 : Int64), (10 : Int64), (11 : Int64), 0, 0, 0, 0, 0, 0, 0, 0, 0, 0, 0, 0, 0] : List Int64) := A104
  refine Go.dup X104 hx hby at_26 rfl rfl ?_
  refine Go.iconst X104 hx hby (v := (4 : Int32)) at_27 rfl rfl ?_
  refine Go.ldcJ X104 hx hby hZ (v := (13 : Int64)) hown (hw _ (List.mem_of_getElem? (i := 4) rfl)) at_28 rfl ?_
  refine Go.lastore X104 hx hby hZ e104 A104 (own_inK (n := 17) rfl (by decide)) at_31 rfl (fun T106 h106 X106 e106 W106 A106 => ?_)
  have N106 := Fr.snoc X106 N104 (Nat.le_trans Z0 na_bb)
  have K106 := Keep.wr K104 W106 (Or.inr na_bb)
  have A106 : AryJ Z h106 bb ([(0 : Int64), (9 : Int64), (10 : Int64), (11 : Int64), (13 : Int64), 0, 0, 0, 0, 0, 0, 0, 0, 0, 0, 0, 0] : List Int64) := A106
  refine Go.dup X106 hx hby at_32 rfl rfl ?_
  refine Go.iconst X106 hx hby (v := (5 : Int32)) at_33 rfl rfl ?_
  refine Go.ldcJ X106 hx hby hZ (v := (32 : Int64)) hown (hw _ (List.mem_of_getElem? (i := 5) rfl)) at_34 rfl ?_
  refine Go.lastore X106 hx hby hZ e106 A106 (own_inK (n := 17) rfl (by decide)) at_37 rfl (fun T108 h108 X108 e108 W108 A108 => ?_)
  have N108 := Fr.snoc X108 N106 (Nat.le_trans Z0 na_bb)
  have K108 := Keep.wr K106 W108 (Or.inr na_bb)
  have A108 : AryJ Z h108 bb ([(0 : Int64), (9 : Int64), (10 : Int64), (11 : Int64), (13 : Int64), (32 : Int64), 0, 0, 0, 0, 0, 0, 0, 0, 0, 0, 0] : List Int64) := A108
  refine Go.dup X108 hx hby at_38 rfl rfl ?_
  refine Go.bipush X108 hx hby (v := (6 : Int32)) at_39 rfl rfl ?_
  refine Go.ldcJ X108 hx hby hZ (v := (55295 : Int64)) hown (hw _ (List.mem_of_getElem? (i := 6) rfl)) at_41 rfl ?_
  refine Go.lastore X108 hx hby hZ e108 A108 (own_inK (n := 17) rfl (by decide)) at_44 rfl (fun T110 h110 X110 e110 W110 A110 => ?_)
  have N110 := Fr.snoc X110 N108 (Nat.le_trans Z0 na_bb)
  have K110 := Keep.wr K108 W110 (Or.inr na_bb)
  have A110 : AryJ Z h110 bb ([(0 : Int64), (9 : Int64), (10 : Int64), (11 : Int64), (13 : Int64), (32 : Int64), (55295 : Int64), 0, 0, 0, 0, 0, 0, 0, 0, 0, 0] : List Int64) := A110
  refine Go.dup X110 hx hby at_45 rfl rfl ?_
  refine Go.bipush X110 hx hby (v := (7 : Int32)) at_46 rfl rfl ?_
  refine Go.ldcJ X110 hx hby hZ (v := (55296 : Int64)) hown (hw _ (List.mem_of_getElem? (i := 7) rfl)) at_48 rfl ?_
  refine Go.lastore X110 hx hby hZ e110 A110 (own_inK (n := 17) rfl (by decide)) at_51 rfl (fun T112 h112 X112 e112 W112 A112 => ?_)
  have N112 := Fr.snoc X112 N110 (Nat.le_trans Z0 na_bb)
  have K112 := Keep.wr K110 W112 (Or.inr na_bb)
  have A112 : AryJ Z h112 bb ([(0 : Int64), (9 : Int64), (10 : Int64), (11 : Int64), (13 : Int64), (32 : Int64), (55295 : Int64), (55296 : Int64), 0, 0, 0, 0, 0, 0, 0, 0, 0] : List Int64) := A112
  refine Go.dup X112 hx hby at_52 rfl rfl ?_
  refine Go.bipush X112 hx hby (v := (8 : Int32)) at_53 rfl rfl ?_
  refine Go.ldcJ X112 hx hby hZ (v := (57343 : Int64)) hown (hw _ (List.mem_of_getElem? (i := 8) rfl)) at_55 rfl ?_
  refine Go.lastore X112 hx hby hZ e112 A112 (own_inK (n := 17) rfl (by decide)) at_58 rfl (fun T114 h114 X114 e114 W114 A114 => ?_)
  have N114 := Fr.snoc X114 N112 (Nat.le_trans Z0 na_bb)
  have K114 := Keep.wr K112 W114 (Or.inr na_bb)
  have A114 : AryJ Z h114 bb ([(0 : Int64), (9 : Int64), (10 : Int64), (11 : Int64), (13 : Int64), (32 : Int64), (55295 : Int64), (55296 : Int64), (57343 : Int64), 0, 0, 0, 0, 0, 0, 0, 0] : List Int64) := A114
  refine Go.dup X114 hx hby at_59 rfl rfl ?_
  refine Go.bipush X114 hx hby (v := (9 : Int32)) at_60 rfl rfl ?_
  refine Go.ldcJ X114 hx hby hZ (v := (57344 : Int64)) hown (hw _ (List.mem_of_getElem? (i := 9) rfl)) at_62 rfl ?_
  refine Go.lastore X114 hx hby hZ e114 A114 (own_inK (n := 17) rfl (by decide)) at_65 rfl (fun T116 h116 X116 e116 W116 A116 => ?_)
  have N116 := Fr.snoc X116 N114 (Nat.le_trans Z0 na_bb)
  have K116 := Keep.wr K114 W116 (Or.inr na_bb)
  have A116 : AryJ Z h116 bb ([(0 : Int64), (9 : Int64), (10 : Int64), (11 : Int64), (13 : Int64), (32 : Int64), (55295 : Int64), (55296 : Int64), (57343 : Int64), (57344 : Int64), 0, 0, 0, 0, 0, 0, 0] : List Int64) := A116
  refine Go.dup X116 hx hby at_66 rfl rfl ?_
  refine Go.bipush X116 hx hby (v := (10 : Int32)) at_67 rfl rfl ?_
  refine Go.ldcJ X116 hx hby hZ (v := (65533 : Int64)) hown (hw _ (List.mem_of_getElem? (i := 10) rfl)) at_69 rfl ?_
  refine Go.lastore X116 hx hby hZ e116 A116 (own_inK (n := 17) rfl (by decide)) at_72 rfl (fun T118 h118 X118 e118 W118 A118 => ?_)
  have N118 := Fr.snoc X118 N116 (Nat.le_trans Z0 na_bb)
  have K118 := Keep.wr K116 W118 (Or.inr na_bb)
  have A118 : AryJ Z h118 bb ([(0 : Int64), (9 : Int64), (10 : Int64), (11 : Int64), (13 : Int64), (32 : Int64), (55295 : Int64), (55296 : Int64), (57343 : Int64), (57344 : Int64), (65533 : Int64), 0, 0, 0, 0, 0, 0] : List Int64) := A118
  refine Go.dup X118 hx hby at_73 rfl rfl ?_
  refine Go.bipush X118 hx hby (v := (11 : Int32)) at_74 rfl rfl ?_
  refine Go.ldcJ X118 hx hby hZ (v := (65534 : Int64)) hown (hw _ (List.mem_of_getElem? (i := 11) rfl)) at_76 rfl ?_
  refine Go.lastore X118 hx hby hZ e118 A118 (own_inK (n := 17) rfl (by decide)) at_79 rfl (fun T120 h120 X120 e120 W120 A120 => ?_)
  have N120 := Fr.snoc X120 N118 (Nat.le_trans Z0 na_bb)
  have K120 := Keep.wr K118 W120 (Or.inr na_bb)
  have A120 : AryJ Z h120 bb ([(0 : Int64), (9 : Int64), (10 : Int64), (11 : Int64), (13 : Int64), (32 : Int64), (55295 : Int64), (55296 : Int64), (57343 : Int64), (57344 : Int64), (65533 : Int64), (65534 : Int64), 0, 0, 0, 0, 0] : List Int64) := A120
  refine Go.dup X120 hx hby at_80 rfl rfl ?_
  refine Go.bipush X120 hx hby (v := (12 : Int32)) at_81 rfl rfl ?_
  refine Go.ldcJ X120 hx hby hZ (v := (65536 : Int64)) hown (hw _ (List.mem_of_getElem? (i := 12) rfl)) at_83 rfl ?_
  refine Go.lastore X120 hx hby hZ e120 A120 (own_inK (n := 17) rfl (by decide)) at_86 rfl (fun T122 h122 X122 e122 W122 A122 => ?_)
  have N122 := Fr.snoc X122 N120 (Nat.le_trans Z0 na_bb)
  have K122 := Keep.wr K120 W122 (Or.inr na_bb)
  have A122 : AryJ Z h122 bb ([(0 : Int64), (9 : Int64), (10 : Int64), (11 : Int64), (13 : Int64), (32 : Int64), (55295 : Int64), (55296 : Int64), (57343 : Int64), (57344 : Int64), (65533 : Int64), (65534 : Int64), (65536 : Int64), 0, 0, 0, 0] : List Int64) := A122
  refine Go.dup X122 hx hby at_87 rfl rfl ?_
  refine Go.bipush X122 hx hby (v := (13 : Int32)) at_88 rfl rfl ?_
  refine Go.ldcJ X122 hx hby hZ (v := (1114111 : Int64)) hown (hw _ (List.mem_of_getElem? (i := 13) rfl)) at_90 rfl ?_
  refine Go.lastore X122 hx hby hZ e122 A122 (own_inK (n := 17) rfl (by decide)) at_93 rfl (fun T124 h124 X124 e124 W124 A124 => ?_)
  have N124 := Fr.snoc X124 N122 (Nat.le_trans Z0 na_bb)
  have K124 := Keep.wr K122 W124 (Or.inr na_bb)
  have A124 : AryJ Z h124 bb ([(0 : Int64), (9 : Int64), (10 : Int64), (11 : Int64), (13 : Int64), (32 : Int64), (55295 : Int64), (55296 : Int64), (57343 : Int64), (57344 : Int64), (65533 : Int64), (65534 : Int64), (65536 : Int64), (1114111 : Int64), 0, 0, 0] : List Int64) := A124
  refine Go.dup X124 hx hby at_94 rfl rfl ?_
  refine Go.bipush X124 hx hby (v := (14 : Int32)) at_95 rfl rfl ?_
  refine Go.ldcJ X124 hx hby hZ (v := (1114112 : Int64)) hown (hw _ (List.mem_of_getElem? (i := 14) rfl)) at_97 rfl ?_
  refine Go.lastore X124 hx hby hZ e124 A124 (own_inK (n := 17) rfl (by decide)) at_100 rfl (fun T126 h126 X126 e126 W126 A126 => ?_)
  have N126 := Fr.snoc X126 N124 (Nat.le_trans Z0 na_bb)
  have K126 := Keep.wr K124 W126 (Or.inr na_bb)
  have A126 : AryJ Z h126 bb ([(0 : Int64), (9 : Int64), (10 : Int64), (11 : Int64), (13 : Int64), (32 : Int64), (55295 : Int64), (55296 : Int64), (57343 : Int64), (57344 : Int64), (65533 : Int64), (65534 : Int64), (65536 : Int64), (1114111 : Int64), (1114112 : Int64), 0, 0] : List Int64) := A126
  refine Go.dup X126 hx hby at_101 rfl rfl ?_
  refine Go.bipush X126 hx hby (v := (15 : Int32)) at_102 rfl rfl ?_
  refine Go.ldcJ X126 hx hby hZ (v := (-9223372036854775808 : Int64)) hown (hw _ (List.mem_of_getElem? (i := 15) rfl)) at_104 rfl ?_
  refine Go.lastore X126 hx hby hZ e126 A126 (own_inK (n := 17) rfl (by decide)) at_107 rfl (fun T128 h128 X128 e128 W128 A128 => ?_)
  have N128 := Fr.snoc X128 N126 (Nat.le_trans Z0 na_bb)
  have K128 := Keep.wr K126 W128 (Or.inr na_bb)
  have A128 : AryJ Z h128 bb ([(0 : Int64), (9 : Int64), (10 : Int64), (11 : Int64), (13 : Int64), (32 : Int64), (55295 : Int64), (55296 : Int64), (57343 : Int64), (57344 : Int64), (65533 : Int64), (65534 : Int64), (65536 : Int64), (1114111 : Int64), (1114112 : Int64), (-9223372036854775808 : Int64), 0] : List Int64) := A128
  refine Go.dup X128 hx hby at_108 rfl rfl ?_
  refine Go.bipush X128 hx hby (v := (16 : Int32)) at_109 rfl rfl ?_
  refine Go.ldcJ X128 hx hby hZ (v := (9223372036854775807 : Int64)) hown (hw _ (List.mem_of_getElem? (i := 16) rfl)) at_111 rfl ?_
  refine Go.lastore X128 hx hby hZ e128 A128 (own_inK (n := 17) rfl (by decide)) at_114 rfl (fun T130 h130 X130 e130 W130 A130 => ?_)
  have N130 := Fr.snoc X130 N128 (Nat.le_trans Z0 na_bb)
  have K130 := Keep.wr K128 W130 (Or.inr na_bb)
  have A130 : AryJ Z h130 bb ([(0 : Int64), (9 : Int64), (10 : Int64), (11 : Int64), (13 : Int64), (32 : Int64), (55295 : Int64), (55296 : Int64), (57343 : Int64), (57344 : Int64), (65533 : Int64), (65534 : Int64), (65536 : Int64), (1114111 : Int64), (1114112 : Int64), (-9223372036854775808 : Int64), (9223372036854775807 : Int64)] : List Int64) := A130
  refine Go.astore X130 hx hby (Ls' := #[.val (.long x0), .second, .val (.int x2), .val (.int x3), .val (.ref bb), .unset, .unset, .unset, .unset, .unset]) at_115 rfl rfl rfl ?_
  refine Go.iloadN X130 hx hby (v := x2) at_117 rfl rfl ?_
  refine Go.iconst X130 hx hby (v := (1 : Int32)) at_118 rfl rfl ?_
  refine Go.iand X130 hx hby at_119 rfl ?_
  refine Go.if_ne X130 hx hby (pc' := 129) at_120 (by decide) (by decide) rfl (fun hc131 => ?_) (fun hc131 => ?_)
  · replace hf := (if_neg hc131).symm.trans hf
    refine Go.iloadN X130 hx hby (v := x2) at_129 rfl rfl ?_
    refine Go.iconst X130 hx hby (v := (1 : Int32)) at_130 rfl rfl ?_
    refine Go.iushr X130 hx hby at_131 rfl ?_
    refine Go.ldcI X130 hx hby hZ (v := (1073741823 : Int32)) hown (hw _ (List.mem_of_getElem? (i := 35) rfl)) at_132 rfl ?_
    refine Go.iand X130 hx hby at_134 rfl ?_
    refine Go.aload X130 hx hby (v := .ref bb) at_135 rfl rfl rfl ?_
    refine Go.alenJ X130 hx hby hZ e130 A130 at_137 rfl ?_
    rcases Decidable.em ((lenA ([(0 : Int64), (9 : Int64), (10 : Int64), (11 : Int64), (13 : Int64), (32 : Int64), (55295 : Int64), (55296 : Int64), (57343 : Int64), (57344 : Int64), (65533 : Int64), (65534 : Int64), (65536 : Int64), (1114111 : Int64), (1114112 : Int64), (-9223372036854775808 : Int64), (9223372036854775807 : Int64)] : List Int64)) = 0) with hy132 | hy132
    · exact absurd ((if_pos hy132).symm.trans hf) nofun
    replace hf := (if_neg hy132).symm.trans hf
    refine Go.irem X130 hx hby at_138 rfl hy132 ?_
    refine Go.istore X130 hx hby (Ls' := #[.val (.long x0), .second, .val (.int x2), .val (.int x3), .val (.ref bb), .unset, .unset, .val (.int (remI ((XT.ushr x2 (1 : Int32)) &&& (1073741823 : Int32)) (lenA ([(0 : Int64), (9 : Int64), (10 : Int64), (11 : Int64), (13 : Int64), (32 : Int64), (55295 : Int64), (55296 : Int64), (57343 : Int64), (57344 : Int64), (65533 : Int64), (65534 : Int64), (65536 : Int64), (1114111 : Int64), (1114112 : Int64), (-9223372036854775808 : Int64), (9223372036854775807 : Int64)] : List Int64)))), .unset, .unset]) at_139 rfl rfl ?_
    refine Go.iloadN X130 hx hby (v := x3) at_141 rfl rfl ?_
    refine Go.ldcI X130 hx hby hZ (v := (2147483647 : Int32)) hown (hw _ (List.mem_of_getElem? (i := 36) rfl)) at_142 rfl ?_
    refine Go.iand X130 hx hby at_144 rfl ?_
    refine Go.iconst X130 hx hby (v := (5 : Int32)) at_145 rfl rfl ?_
    refine Go.irem X130 hx hby at_146 rfl (by decide) ?_
    refine Go.iconst X130 hx hby (v := (2 : Int32)) at_147 rfl rfl ?_
    refine Go.isub X130 hx hby at_148 rfl ?_
    refine Go.i2l X130 hx hby at_149 rfl ?_
    refine Go.lstore X130 hx hby (Ls' := #[.val (.long x0), .second, .val (.int x2), .val (.int x3), .val (.ref bb), .unset, .unset, .val (.int (remI ((XT.ushr x2 (1 : Int32)) &&& (1073741823 : Int32)) (lenA ([(0 : Int64), (9 : Int64), (10 : Int64), (11 : Int64), (13 : Int64), (32 : Int64), (55295 : Int64), (55296 : Int64), (57343 : Int64), (57344 : Int64), (65533 : Int64), (65534 : Int64), (65536 : Int64), (1114111 : Int64), (1114112 : Int64), (-9223372036854775808 : Int64), (9223372036854775807 : Int64)] : List Int64)))), .val (.long ((((remI (x3 &&& (2147483647 : Int32)) (5 : Int32)) - (2 : Int32))).toInt64)), .second]) at_150 rfl rfl ?_
    refine Go.aload X130 hx hby (v := .ref bb) at_152 rfl rfl rfl ?_
    refine Go.iload X130 hx hby (v := (remI ((XT.ushr x2 (1 : Int32)) &&& (1073741823 : Int32)) (lenA ([(0 : Int64), (9 : Int64), (10 : Int64), (11 : Int64), (13 : Int64), (32 : Int64), (55295 : Int64), (55296 : Int64), (57343 : Int64), (57344 : Int64), (65533 : Int64), (65534 : Int64), (65536 : Int64), (1114111 : Int64), (1114112 : Int64), (-9223372036854775808 : Int64), (9223372036854775807 : Int64)] : List Int64)))) at_154 rfl rfl ?_
    rcases Decidable.em (inA ([(0 : Int64), (9 : Int64), (10 : Int64), (11 : Int64), (13 : Int64), (32 : Int64), (55295 : Int64), (55296 : Int64), (57343 : Int64), (57344 : Int64), (65533 : Int64), (65534 : Int64), (65536 : Int64), (1114111 : Int64), (1114112 : Int64), (-9223372036854775808 : Int64), (9223372036854775807 : Int64)] : List Int64) (remI ((XT.ushr x2 (1 : Int32)) &&& (1073741823 : Int32)) (lenA ([(0 : Int64), (9 : Int64), (10 : Int64), (11 : Int64), (13 : Int64), (32 : Int64), (55295 : Int64), (55296 : Int64), (57343 : Int64), (57344 : Int64), (65533 : Int64), (65534 : Int64), (65536 : Int64), (1114111 : Int64), (1114112 : Int64), (-9223372036854775808 : Int64), (9223372036854775807 : Int64)] : List Int64)))) with hj133 | hj133
    case inr => exact absurd ((if_neg hj133).symm.trans hf) nofun
    replace hf := (if_pos hj133).symm.trans hf
    refine Go.laload X130 hx hby hZ e130 A130 hj133 at_156 rfl ?_
    refine Go.lload X130 hx hby (v := ((((remI (x3 &&& (2147483647 : Int32)) (5 : Int32)) - (2 : Int32))).toInt64)) at_157 rfl rfl ?_
    refine Go.ladd X130 hx hby at_159 rfl ?_
    refine Go.lstore X130 hx hby (Ls' := #[.val (.long x0), .second, .val (.int x2), .val (.int x3), .val (.ref bb), .val (.long ((atA ([(0 : Int64), (9 : Int64), (10 : Int64), (11 : Int64), (13 : Int64), (32 : Int64), (55295 : Int64), (55296 : Int64), (57343 : Int64), (57344 : Int64), (65533 : Int64), (65534 : Int64), (65536 : Int64), (1114111 : Int64), (1114112 : Int64), (-9223372036854775808 : Int64), (9223372036854775807 : Int64)] : List Int64) (remI ((XT.ushr x2 (1 : Int32)) &&& (1073741823 : Int32)) (lenA ([(0 : Int64), (9 : Int64), (10 : Int64), (11 : Int64), (13 : Int64), (32 : Int64), (55295 : Int64), (55296 : Int64), (57343 : Int64), (57344 : Int64), (65533 : Int64), (65534 : Int64), (65536 : Int64), (1114111 : Int64), (1114112 : Int64), (-9223372036854775808 : Int64), (9223372036854775807 : Int64)] : List Int64)))) + ((((remI (x3 &&& (2147483647 : Int32)) (5 : Int32)) - (2 : Int32))).toInt64))), .second, .val (.int (remI ((XT.ushr x2 (1 : Int32)) &&& (1073741823 : Int32)) (lenA ([(0 : Int64), (9 : Int64), (10 : Int64), (11 : Int64), (13 : Int64), (32 : Int64), (55295 : Int64), (55296 : Int64), (57343 : Int64), (57344 : Int64), (65533 : Int64), (65534 : Int64), (65536 : Int64), (1114111 : Int64), (1114112 : Int64), (-9223372036854775808 : Int64), (9223372036854775807 : Int64)] : List Int64)))), .val (.long ((((remI (x3 &&& (2147483647 : Int32)) (5 : Int32)) - (2 : Int32))).toInt64)), .second]) at_160 rfl rfl ?_
    exact B162_1 T130 h130 _ X130 e130 N130 K130 bb na_bb  ([(0 : Int64), (9 : Int64), (10 : Int64), (11 : Int64), (13 : Int64), (32 : Int64), (55295 : Int64), (55296 : Int64), (57343 : Int64), (57344 : Int64), (65533 : Int64), (65534 : Int64), (65536 : Int64), (1114111 : Int64), (1114112 : Int64), (-9223372036854775808 : Int64), (9223372036854775807 : Int64)] : List Int64) A130 x0 x2 x3 ((atA ([(0 : Int64), (9 : Int64), (10 : Int64), (11 : Int64), (13 : Int64), (32 : Int64), (55295 : Int64), (55296 : Int64), (57343 : Int64), (57344 : Int64), (65533 : Int64), (65534 : Int64), (65536 : Int64), (1114111 : Int64), (1114112 : Int64), (-9223372036854775808 : Int64), (9223372036854775807 : Int64)] : List Int64) (remI ((XT.ushr x2 (1 : Int32)) &&& (1073741823 : Int32)) (lenA ([(0 : Int64), (9 : Int64), (10 : Int64), (11 : Int64), (13 : Int64), (32 : Int64), (55295 : Int64), (55296 : Int64), (57343 : Int64), (57344 : Int64), (65533 : Int64), (65534 : Int64), (65536 : Int64), (1114111 : Int64), (1114112 : Int64), (-9223372036854775808 : Int64), (9223372036854775807 : Int64)] : List Int64)))) + ((((remI (x3 &&& (2147483647 : Int32)) (5 : Int32)) - (2 : Int32))).toInt64)) (remI ((XT.ushr x2 (1 : Int32)) &&& (1073741823 : Int32)) (lenA ([(0 : Int64), (9 : Int64), (10 : Int64), (11 : Int64), (13 : Int64), (32 : Int64), (55295 : Int64), (55296 : Int64), (57343 : Int64), (57344 : Int64), (65533 : Int64), (65534 : Int64), (65536 : Int64), (1114111 : Int64), (1114112 : Int64), (-9223372036854775808 : Int64), (9223372036854775807 : Int64)] : List Int64))) ((((remI (x3 &&& (2147483647 : Int32)) (5 : Int32)) - (2 : Int32))).toInt64) hf
  · replace hf := (if_pos hc131).symm.trans hf
    refine Go.lloadN X130 hx hby (v := x0) at_123 rfl rfl ?_
    refine Go.lstore X130 hx hby (Ls' := #[.val (.long x0), .second, .val (.int x2), .val (.int x3), .val (.ref bb), .val (.long x0), .second, .unset, .unset, .unset]) at_124 rfl rfl ?_
    refine Go.goto X130 hx hby (pc' := 162) at_126 (by decide) (by decide) ?_
    exact B162 T130 h130 _ X130 e130 N130 K130 bb na_bb  ([(0 : Int64), (9 : Int64), (10 : Int64), (11 : Int64), (13 : Int64), (32 : Int64), (55295 : Int64), (55296 : Int64), (57343 : Int64), (57344 : Int64), (65533 : Int64), (65534 : Int64), (65536 : Int64), (1114111 : Int64), (1114112 : Int64), (-9223372036854775808 : Int64), (9223372036854775807 : Int64)] : List Int64) A130 x0 x2 x3 x0 hf
theorem own_mask (x : Int32) (k : Nat) (hk : k ≤ 31) (m : Int32) (hm : m = Int32.ofNat (2 ^ k - 1)) : (x &&& m).toInt = x.toInt % (2 ^ k : Nat) := by
  subst hm
  have h1 : (x &&& Int32.ofNat (2 ^ k - 1)).toBitVec.toNat = x.toBitVec.toNat % 2 ^ k := by
    rw [Int32.toBitVec_and, BitVec.toNat_and]
    have : (Int32.ofNat (2 ^ k - 1)).toBitVec.toNat = 2 ^ k - 1 := by
      show (BitVec.ofNat 32 (2 ^ k - 1)).toNat = _
      rw [BitVec.toNat_ofNat]
      apply Nat.mod_eq_of_lt
      have : 2 ^ k ≤ 2 ^ 31 := Nat.pow_le_pow_right (by decide) hk
      omega
    rw [this, Nat.and_two_pow_sub_one_eq_mod]
  have hp : 2 ^ k ≤ 2 ^ 31 := Nat.pow_le_pow_right (by decide) hk
  have hpos : 0 < 2 ^ k := Nat.two_pow_pos k
  have hlt := Nat.mod_lt x.toBitVec.toNat hpos
  show (x &&& Int32.ofNat (2 ^ k - 1)).toBitVec.toInt = x.toBitVec.toInt % _
  rw [BitVec.toInt_eq_toNat_cond, h1, if_pos (by omega), BitVec.toInt_eq_toNat_cond]
  split
  · simp
  · have hd : (2 ^ k : Nat) ∣ 2 ^ 32 := Nat.pow_dvd_pow 2 (by omega)
    obtain ⟨q, hq⟩ := hd
    rw [Int.sub_emod, show ((2 ^ 32 : Nat) : Int) % (2 ^ k : Nat) = 0 by rw [hq]; simp]
    simp
theorem own_fin32 (x : Int32) (N : Nat) (h0 : 0 ≤ x.toInt) (h1 : x.toInt < N) : ∃ n : Fin N, x = Int32.ofNat n.val := by
  refine ⟨⟨x.toInt.toNat, by omega⟩, Int32.toInt_inj.mp ?_⟩
  have := x.toInt_lt
  rw [Int32.toInt_ofNat_of_lt (by show x.toInt.toNat < _; omega)]
  show x.toInt = (x.toInt.toNat : Int); omega
theorem own_remI (x y : Int32) (hx : 0 ≤ x.toInt) (hy : 0 < y.toInt) : (remI x y).toInt = x.toInt % y.toInt := by
  have h1 := x.toInt_lt; have h2 := y.toInt_lt
  have hq : (x / y).toInt = x.toInt / y.toInt := by
    rw [Int32.toInt_div, Int.tdiv_eq_ediv_of_nonneg hx]
    have a1 : 0 ≤ x.toInt / y.toInt := Int.ediv_nonneg hx (by omega)
    have a2 : x.toInt / y.toInt ≤ x.toInt := Int.ediv_le_self _ hx
    exact Int.bmod_eq_of_le (by omega) (by omega)
  have e := Int.emod_add_mul_ediv x.toInt y.toInt
  have m0 := Int.emod_nonneg x.toInt (b := y.toInt) (by omega)
  have hm : (x / y * y).toInt = x.toInt / y.toInt * y.toInt := by
    rw [Int32.toInt_mul, hq]
    have : x.toInt / y.toInt * y.toInt = y.toInt * (x.toInt / y.toInt) := Int.mul_comm _ _
    have a1 : 0 ≤ y.toInt * (x.toInt / y.toInt) := Int.mul_nonneg (by omega) (Int.ediv_nonneg hx (by omega))
    exact Int.bmod_eq_of_le (by omega) (by omega)
  unfold remI
  rw [Int32.toInt_sub, hm]
  have : x.toInt / y.toInt * y.toInt = y.toInt * (x.toInt / y.toInt) := Int.mul_comm _ _
  have m1 := Int.emod_lt_of_pos x.toInt hy
  rw [show x.toInt - x.toInt / y.toInt * y.toInt = x.toInt % y.toInt by omega]
  exact Int.bmod_eq_of_le (by omega) (by omega)
theorem own_bm (x : Int) (n : Nat) (m : Int) (h : (2 * m).toNat = n) (hm : 0 < m) : x.bmod n = (x + m) % (2 * m) - m := by
  have hn : (n : Int) = 2 * m := by omega
  rw [Int.bmod_def, hn, show ((2 * m + 1) / 2 : Int) = m by omega]
  have h1 := Int.emod_nonneg x (b := 2 * m) (by omega)
  have h2 := Int.emod_lt_of_pos x (b := 2 * m) (by omega)
  have e := Int.emod_add_mul_ediv x (2 * m)
  generalize x / (2 * m) = q at *
  generalize x % (2 * m) = r at *
  subst e
  rw [show r + 2 * m * q + m = (r + m) + 2 * m * q by omega, Int.add_mul_emod_self_left]
  split
  · rw [Int.emod_eq_of_lt (by omega) (by omega)]; omega
  · rw [show r + m = (r - m) + 2 * m * 1 by omega, Int.add_mul_emod_self_left, Int.emod_eq_of_lt (by omega) (by omega)]; omega
theorem own_i2b (x : Int32) : (i2bF x).toInt = (x.toInt + 128) % 256 - 128 := by
  unfold i2bF; rw [Int8.toInt_toInt32, Int32.toInt_toInt8]; exact own_bm _ _ 128 rfl (by decide)
theorem own_i2s (x : Int32) : (i2sF x).toInt = (x.toInt + 32768) % 65536 - 32768 := by
  unfold i2sF; rw [Int16.toInt_toInt32, Int32.toInt_toInt16]; exact own_bm _ _ 32768 rfl (by decide)
theorem own_tonat (x : Int32) : (x.toBitVec.toNat : Int) = x.toInt % 4294967296 := by
  show _ = x.toBitVec.toInt % 4294967296
  rw [BitVec.toInt_eq_toNat_cond]
  have := x.toBitVec.isLt
  split <;> omega
theorem own_toint (x : Int32) (h : x.toBitVec.toNat < 2147483648) : x.toInt = x.toBitVec.toNat := by
  show x.toBitVec.toInt = _
  rw [BitVec.toInt_eq_toNat_cond, if_pos (by omega)]
theorem own_tonatJ (x : Int64) : (x.toBitVec.toNat : Int) = x.toInt % 18446744073709551616 := by
  show _ = x.toBitVec.toInt % 18446744073709551616
  rw [BitVec.toInt_eq_toNat_cond]
  have := x.toBitVec.isLt
  split <;> omega
theorem own_tointJ (x : Int64) (h : x.toBitVec.toNat < 9223372036854775808) : x.toInt = x.toBitVec.toNat := by
  show x.toBitVec.toInt = _
  rw [BitVec.toInt_eq_toNat_cond, if_pos (by omega)]
theorem own_i2c (x : Int32) : (i2cF x).toInt = x.toInt % 65536 := by
  have h : (i2cF x).toBitVec.toNat = x.toBitVec.toNat % 65536 := by
    show (BitVec.setWidth 32 (BitVec.setWidth 16 x.toBitVec)).toNat = _
    rw [BitVec.toNat_setWidth, BitVec.toNat_setWidth]; omega
  have := own_tonat x
  rw [own_toint _ (by omega), h]; omega
theorem own_amt : ∀ k : Fin 32, ((Int32.ofNat k.val &&& 31).toBitVec.smod 32).toNat = k.val := by decide +kernel
theorem own_amtU : ∀ k : Fin 32, ((Int32.ofNat k.val &&& 31).toUInt32.toBitVec.toNat) = k.val := by decide +kernel
theorem own_shr (x : Int32) (k : Nat) (hk : k < 32) : (shrI x (Int32.ofNat k)).toInt = x.toInt / (2 ^ k : Nat) := by
  show (BitVec.sshiftRight x.toBitVec ((Int32.ofNat k &&& 31).toBitVec.smod 32).toNat).toInt = x.toBitVec.toInt / _
  rw [own_amt ⟨k, hk⟩, BitVec.toInt_sshiftRight, Int.shiftRight_eq_div_pow]
theorem own_shl (x : Int32) (k : Nat) (hk : k < 32) : (shlI x (Int32.ofNat k)).toInt = (x.toInt * (2 ^ k : Nat)).bmod 4294967296 := by
  show (x.toBitVec <<< ((Int32.ofNat k &&& 31).toBitVec.smod 32)).toInt = (x.toBitVec.toInt * _).bmod _
  rw [BitVec.shiftLeft_eq', own_amt ⟨k, hk⟩, BitVec.toInt_shiftLeft, Nat.shiftLeft_eq, BitVec.toInt_eq_toNat_bmod]
  rw [Int.bmod_mul_bmod]
  congr 1
theorem own_ushr (x : Int32) (k : Nat) (hk : k < 32) (h0 : 0 < k) : (XT.ushr x (Int32.ofNat k)).toInt = (x.toInt % 4294967296) / (2 ^ k : Nat) := by
  have h : (XT.ushr x (Int32.ofNat k)).toBitVec.toNat = x.toBitVec.toNat / 2 ^ k := by
    show (x.toBitVec >>> ((Int32.ofNat k &&& 31).toUInt32.toBitVec % 32)).toNat = _
    rw [BitVec.ushiftRight_eq', BitVec.toNat_ushiftRight, BitVec.toNat_umod, own_amtU ⟨k, hk⟩, Nat.shiftRight_eq_div_pow]
    show _ / 2 ^ (k % 32) = _
    rw [Nat.mod_eq_of_lt hk]
  have h1 := x.toBitVec.isLt
  have h2 : x.toBitVec.toNat / 2 ^ k ≤ x.toBitVec.toNat / 2 ^ 1 := Nat.div_le_div_left (Nat.pow_le_pow_right (by decide) h0) (by decide)
  rw [own_toint _ (by omega), h, ← own_tonat]; rfl
theorem own_ushr0 (x : Int32) (k : Nat) (hk : k < 32) (h0 : 0 ≤ x.toInt) : (XT.ushr x (Int32.ofNat k)).toInt = x.toInt / (2 ^ k : Nat) := by
  have h1 := x.toInt_lt
  by_cases q : k = 0
  · subst q
    have : XT.ushr x (Int32.ofNat 0) = x := by
      apply Int32.toBitVec_inj.mp
      apply BitVec.eq_of_toNat_eq
      show (x.toBitVec >>> ((Int32.ofNat 0 &&& 31).toUInt32.toBitVec % 32)).toNat = _
      rw [BitVec.ushiftRight_eq', BitVec.toNat_ushiftRight, BitVec.toNat_umod, own_amtU ⟨0, hk⟩]; rfl
    rw [this]; simp
  · rw [own_ushr x k hk (by omega), Int.emod_eq_of_lt h0 (by omega)]
theorem own_if {c : Prop} [Decidable c] {α : Type} {a b r : α} (h1 : c → a = r) (h2 : ¬ c → b = r) : (if c then a else b) = r := by
  by_cases h : c
  · rw [if_pos h]; exact h1 h
  · rw [if_neg h]; exact h2 h
theorem own_maskJ (x : Int64) (k : Nat) (hk : k ≤ 63) (m : Int64) (hm : m = Int64.ofNat (2 ^ k - 1)) : (x &&& m).toInt = x.toInt % (2 ^ k : Nat) := by
  subst hm
  have h1 : (x &&& Int64.ofNat (2 ^ k - 1)).toBitVec.toNat = x.toBitVec.toNat % 2 ^ k := by
    rw [Int64.toBitVec_and, BitVec.toNat_and]
    have : (Int64.ofNat (2 ^ k - 1)).toBitVec.toNat = 2 ^ k - 1 := by
      show (BitVec.ofNat 64 (2 ^ k - 1)).toNat = _
      rw [BitVec.toNat_ofNat]
      apply Nat.mod_eq_of_lt
      have : 2 ^ k ≤ 2 ^ 63 := Nat.pow_le_pow_right (by decide) hk
      omega
    rw [this, Nat.and_two_pow_sub_one_eq_mod]
  have hp : 2 ^ k ≤ 2 ^ 63 := Nat.pow_le_pow_right (by decide) hk
  have hpos : 0 < 2 ^ k := Nat.two_pow_pos k
  have hlt := Nat.mod_lt x.toBitVec.toNat hpos
  show (x &&& Int64.ofNat (2 ^ k - 1)).toBitVec.toInt = x.toBitVec.toInt % _
  rw [BitVec.toInt_eq_toNat_cond, h1, if_pos (by omega), BitVec.toInt_eq_toNat_cond]
  split
  · simp
  · have hd : (2 ^ k : Nat) ∣ 2 ^ 64 := Nat.pow_dvd_pow 2 (by omega)
    obtain ⟨q, hq⟩ := hd
    rw [Int.sub_emod, show ((2 ^ 64 : Nat) : Int) % (2 ^ k : Nat) = 0 by rw [hq]; simp]
    simp
theorem own_amtJ : ∀ k : Fin 64, ((Int32.ofNat k.val).toInt64.toUInt64 &&& Int64.toUInt64 63).toBitVec.toNat = k.val := by decide +kernel
theorem own_ushrL (x : Int64) (k : Nat) (hk : k < 64) (h0 : 0 < k) : (XT.ushrL x (Int32.ofNat k)).toInt = (x.toInt % 18446744073709551616) / (2 ^ k : Nat) := by
  have h : (XT.ushrL x (Int32.ofNat k)).toBitVec.toNat = x.toBitVec.toNat / 2 ^ k := by
    show (x.toBitVec >>> (((Int32.ofNat k).toInt64.toUInt64 &&& Int64.toUInt64 63).toBitVec % 64)).toNat = _
    rw [BitVec.ushiftRight_eq', BitVec.toNat_ushiftRight, BitVec.toNat_umod, own_amtJ ⟨k, hk⟩, Nat.shiftRight_eq_div_pow]
    show _ / 2 ^ (k % 64) = _
    rw [Nat.mod_eq_of_lt hk]
  have h1 := x.toBitVec.isLt
  have h2 : x.toBitVec.toNat / 2 ^ k ≤ x.toBitVec.toNat / 2 ^ 1 := Nat.div_le_div_left (Nat.pow_le_pow_right (by decide) h0) (by decide)
  rw [own_tointJ _ (by omega), h, ← own_tonatJ]; rfl
theorem own_inR {α : Type} {A : List α} {j : Int32} (n : Nat) (hl : A.length = n) (h0 : 0 ≤ j.toInt) (h1 : j.toInt < n) : inA A j := by
  rintro (h | h)
  · rw [Int32.lt_iff_toInt_lt] at h; change j.toInt < 0 at h; omega
  · rw [hl] at h; simp only [Int32.toNatClampNeg] at h; omega

theorem own_ite {P Q : Prop} [Decidable P] [Decidable Q] (h : P ↔ Q) (a b : Int32) : (if P then a else b) = (if Q then a else b) := by
  by_cases p : P
  · rw [if_pos p, if_pos (h.mp p)]
  · rw [if_neg p, if_neg (fun q => p (h.mpr q))]
theorem own_stepI {x lo hi : Int64} {f : Option Int32} {P : Prop} [Decidable P] {a b : Int} (ha : lo.toInt = a) (hb : hi.toInt = b) (hf : f = some (if P then 1 else 0)) : (if x < lo then f else if hi < x then f else some 1) = some (if (a ≤ x.toInt ∧ x.toInt ≤ b) ∨ P then 1 else 0) := by
  subst ha hb hf
  simp only [Int64.lt_iff_toInt_lt]
  split
  · rename_i h
    exact congrArg some (own_ite ⟨Or.inr, fun q => q.elim (fun q => absurd h (by omega)) id⟩ _ _)
  · split
    · rename_i h
      exact congrArg some (own_ite ⟨Or.inr, fun q => q.elim (fun q => absurd h (by omega)) id⟩ _ _)
    · rw [if_pos (Or.inl ⟨by omega, by omega⟩)]
theorem own_stepE {x c : Int64} {f : Option Int32} {P : Prop} [Decidable P] {a : Int} (ha : c.toInt = a) (hf : f = some (if P then 1 else 0)) : (if x = c then some 1 else f) = some (if x.toInt = a ∨ P then 1 else 0) := by
  subst ha hf
  by_cases h : x = c
  · rw [if_pos h, if_pos (Or.inl (congrArg _ h))]
  · rw [if_neg h]; exact congrArg some (own_ite ⟨Or.inr, fun q => q.elim (fun q => absurd (Int64.toInt_inj.mp q) h) id⟩ _ _)
theorem own_stepZ {x lo hi : Int64} {a b : Int} (ha : lo.toInt = a) (hb : hi.toInt = b) : (if x < lo then some (0 : Int32) else if hi < x then some 0 else some 1) = some (if a ≤ x.toInt ∧ x.toInt ≤ b then 1 else 0) := by
  subst ha hb
  simp only [Int64.lt_iff_toInt_lt]
  split
  · rw [if_neg (by omega)]
  · split
    · rw [if_neg (by omega)]
    · rw [if_pos (by omega)]
theorem own_c1_56 (x : Int64) : f1_56 x = some (if (65536 ≤ x.toInt ∧ x.toInt ≤ 1114111) then 1 else 0) := own_stepZ rfl rfl
theorem own_c1_40 (x : Int64) : f1_40 x = some (if (57344 ≤ x.toInt ∧ x.toInt ≤ 65533) ∨ (65536 ≤ x.toInt ∧ x.toInt ≤ 1114111) then 1 else 0) := own_stepI rfl rfl (own_c1_56 x)
theorem own_c1_0 (x : Int64) : f1_0 x = some (if x.toInt = 9 ∨ x.toInt = 10 ∨ x.toInt = 13 ∨ (32 ≤ x.toInt ∧ x.toInt ≤ 55295) ∨ (57344 ≤ x.toInt ∧ x.toInt ≤ 65533) ∨ (65536 ≤ x.toInt ∧ x.toInt ≤ 1114111) then 1 else 0) := own_stepE rfl (own_stepE rfl (own_stepE rfl (own_stepI rfl rfl (own_c1_40 x))))
theorem own_ex (x : Int64) : f2_0 x = some (if x.toInt = 9 ∨ x.toInt = 10 ∨ x.toInt = 13 ∨ (32 ≤ x.toInt ∧ x.toInt ≤ 55295) ∨ (57344 ≤ x.toInt ∧ x.toInt ≤ 65533) ∨ (65536 ≤ x.toInt ∧ x.toInt ≤ 1114111) then 0 else 1) := by
  unfold f2_0 f2_74
  have l0 : (0 : Int64).toInt = 0 := rfl
  have l9 : (9 : Int64).toInt = 9 := rfl
  have l10 : (10 : Int64).toInt = 10 := rfl
  have l13 : (13 : Int64).toInt = 13 := rfl
  have l32 : (32 : Int64).toInt = 32 := rfl
  have l55296 : (55296 : Int64).toInt = 55296 := rfl
  have l57343 : (57343 : Int64).toInt = 57343 := rfl
  have l65534 : (65534 : Int64).toInt = 65534 := rfl
  have l65535 : (65535 : Int64).toInt = 65535 := rfl
  have l1114111 : (1114111 : Int64).toInt = 1114111 := rfl
  simp only [← Int64.toInt_inj, Int64.lt_iff_toInt_lt, l0, l9, l10, l13, l32, l55296, l57343, l65534, l65535, l1114111]
  clear l0 l9 l10 l13 l32 l55296 l57343 l65534 l65535 l1114111
  generalize x.toInt = n
  repeat' refine own_if (fun _ => ?_) (fun _ => ?_)
  all_goals first | (exfalso; omega) | exact congrArg some (if_neg (by omega)).symm | exact congrArg some (if_pos (by omega)).symm

theorem own_162 (x : Int64) (A : List Int64) : f0_162 x A = some 1 := by
  unfold f0_162
  rw [own_c1_0, own_ex, Option.bind_some, Option.bind_some]
  split <;> rfl
theorem own_law (x0 : Int64) (x2 : Int32) (x3 : Int32) : f0_0 x0 x2 x3 = some 1 := by
  have m := own_mask (XT.ushr x2 1) 30 (by decide) 1073741823 rfl
  have r := own_remI ((XT.ushr x2 1) &&& 1073741823) 17 (by omega) (by decide)
  rw [show (17 : Int32).toInt = 17 from rfl] at r
  unfold f0_0
  refine own_if (fun _ => own_162 _ _) (fun _ => ?_)
  rw [if_neg (by decide), if_pos]
  · exact own_162 _ _
  · exact own_inR (j := remI ((XT.ushr x2 1) &&& 1073741823) 17) 17 rfl (by omega) (by omega)

set_option maxRecDepth 65536 in
set_option maxHeartbeats 40000000 in
theorem comes_1 {Post : Tables → Env → Array Value → State → Outcome → State → Prop} (hpost : ∀ tb e args s v u, (limb_1_1.after args s (.returned v) u = true ∧ limb_1_2.after args s (.returned v) u = true ∧ True) → FrameEnd s (.returned v) u (Jvm.fieldLocs frame_1_writes args s ++ Jvm.arrayLocs frame_1_arrays args s ++ Jvm.staticLocs frame_1_statics s) 16 128 → Post tb e args s (.returned v) u) :
    ArmFor flags0 classFile x code maxLocals ret World_1 tables_1 room_1 Calls_1 rest_1 Pre_1 Post := by
  intro l hfl _ _ p e ha hc hk s m args below hf hA hF happ hP
  obtain ⟨hcalls, hrest, hpre⟩ := hP
  obtain ⟨-, -, -, hnamed, -, -, -, hat⟩ := (Spec.applies_iff hf).mp happ
  obtain ⟨hg, hn⟩ := and_e (Cond.before_iff.mp (show (Jvm.Cond.and given_1 narrow_1).before args s = true from hpre))
  obtain ⟨hcnt, q0⟩ := and_e hg
  obtain ⟨p0, q1⟩ := and_e q0
  obtain ⟨p1, q2⟩ := and_e q1
  obtain ⟨w0, w1, w2, rfl⟩ : ∃ w0 w1 w2 : Value, args = #[w0, w1, w2] := by
    have hs : args.size = 3 := by simpa [Cond.value, given_1] using hcnt
    obtain ⟨L⟩ := args
    match L, hs with
    | [w0, w1, w2], _ => exact ⟨w0, w1, w2, rfl⟩
  have hw := fun d (hd : d ∈ tables_1) => atoms_spec (ws := Jvm.Cond.code x code maxLocals ret :: tables_1) hat d (List.mem_cons_of_mem _ hd)
  obtain ⟨i0, c0⟩ := isL_v p0
  obtain rfl : w0 = (.long i0) := Option.some.inj c0
  obtain ⟨i1, c1⟩ := is_v p1
  obtain rfl : w1 = (.int i1) := Option.some.inj c1
  obtain ⟨i2, c2⟩ := is_v q2
  obtain rfl : w2 = (.int i2) := Option.some.inj c2
  obtain ⟨n, o, h1, h2, h3, _, L, rfl, ⟨rfl, N⟩, hq⟩ := rm0 l s _ hw tables_1 i0 i1 i2 s.heap s.heap.size (Nat.le_refl _) 1 (own_law i0 i1 i2) p e ha hc hk s m _ below hf ((Spec.applies_iff_loose hf).mp happ).1 ⟨rfl, State.Warmed39.refl s, rfl⟩ trivial
  refine ⟨n, _, h1, h2, h3, hpost _ _ _ _ _ _ ⟨Cond.after_iff.mpr rfl, Cond.after_iff.mpr (eq_i res_at (Term.int_eval (1)) rfl), trivial⟩ ⟨hq.1, hq.2.1, (hq.2.2.sift fun y hy => Or.inr (N y hy)).mono (by decide) (by decide)⟩⟩
theorem main_1_1 : Claimed_1_1 := comes_1 fun _ _ _ _ _ _ h hF => ⟨h.1, hF⟩
theorem main_1_2 : Claimed_1_2 := comes_1 fun _ _ _ _ _ _ h hF => ⟨h.2.1, hF⟩
end Jvm.Pilot.@@N@@
namespace Jvm.Pilot.@@N@@
open Jvm Jvm.ClassFile Sem Op Lib Jvm.Free Jvm.Stand Jvm.Pilot.@@N@@.Jvm.D
/-! MADE BY PROGRAM (witnessworld.py) out of the Statement's table words and the real class files: 11 classes; the members and pool entries that the words name. The judged class is class 1, her method 2. -/
namespace start1
open Jvm.ClassFile
def u (s : String) : CpInfo := .utf8 (stringToUtf16 s)
/-- a pool by its gaps: so many unusable entries, then the entry; so many at the end -/
def gap : Nat → List CpInfo → List CpInfo
  | 0, r => r
  | n + 1, r => .unusable :: gap n r
def poolList (es : List (Nat × CpInfo)) (last : Nat) : List CpInfo := es.foldr (fun e r => gap e.1 (e.2 :: r)) (gap last [])
def pool (es : List (Nat × CpInfo)) (last : Nat) : Array CpInfo := ⟨poolList es last⟩
def fileOf (pool : Array CpInfo) (this : Nat) (attrs : Array Attribute := #[]) (ms : Array MethodInfo := #[]) (fl : Nat := 33) (sup : Nat := 0) (ifs : Array Nat := #[]) (fds : Array FieldInfo := #[]) : ClassFile where
  minorVersion := 0
  majorVersion := 65
  constantPool := pool
  accessFlags := fl
  thisClass := this
  superClass := sup
  interfaces := ifs
  fields := fds
  methods := ms
  attributes := attrs
def plain (name : String) (sup : Option ClassId) : Class where
  name := name
  kind := .ordinary
  loader := none
  accessFlags := 33
  super := sup
  interfaces := #[]
  cf := none
  fields := #[]
  methods := #[]
  instanceTypes := #[]
  staticTypes := #[]
  resolved := #[]
  callSites := []
  init := .initialized
  statics := none
  mirror := none

def pool0 : Array CpInfo := pool [(5, u "<init>"), (0, u "()V"), (1, .class_ 10), (1, u "java/lang/Object")] 113

def k0m0 : Method := { name := "<init>", desc := "()V", sig := { parameters := [], returnType := none }, accessFlags := 1, code := none }
/-- java/lang/Object -/
def k0 : Class := { plain "java/lang/Object" none with
  accessFlags := 33
  interfaces := #[]
  cf := some (fileOf pool0 8 #[] #[{ accessFlags := 1, nameIndex := 5, descriptorIndex := 6, attributes := #[] }] 33 0 #[] #[])
  fields := #[]
  methods := #[k0m0]
  instanceTypes := #[]
  staticTypes := #[]
  resolved := Array.replicate 124 none
  statics := none }

def pool1 : Array CpInfo := pool [(2, .class_ 4), (1, u "java/lang/Object"), (0, u "<init>"), (0, u "()V"), (0, .long 1114111), (1, .long 32), (1, .long 9), (1, .long 10), (1, .long 13), (1, .long 55296), (1, .long 57343), (1, .long 65534), (1, .long 65535), (1, .long 11), (1, .long 55295), (1, .long 57344), (1, .long 65533), (1, .long 65536), (1, .long 1114112), (3, .long 9223372036854775808), (1, .long 9223372036854775807), (1, .integer 1073741823), (0, .integer 2147483647), (0, .methodref 46 47), (0, .class_ 48), (0, .nameAndType 49 50), (0, u "com/example/nereus/nereus/value/XmlChars"), (0, u "isXmlChar"), (0, u "(J)Z"), (0, .methodref 52 53), (0, .class_ 54), (0, .nameAndType 55 50), (0, u "com/example/nereus/nereus/value/XmlCharsIsXmlCharPinLaw"), (0, u "excluded"), (3, u "law"), (0, u "(JII)Z")] 4

def k1m0 : Method := { name := "<init>", desc := "()V", sig := { parameters := [], returnType := none }, accessFlags := 2, code := none }
def k1c1 : Code := { maxStack := 4, maxLocals := 2, code := method_2_code, exceptionTable := #[], attributes := #[] }
def k1m1 : Method := { name := "excluded", desc := "(J)Z", sig := { parameters := [.long], returnType := some .boolean }, accessFlags := 10, code := some k1c1 }
def k1c2 : Code := { maxStack := 5, maxLocals := 10, code := code, exceptionTable := #[], attributes := #[] }
def k1m2 : Method := { name := "law", desc := "(JII)Z", sig := { parameters := [.long, .int, .int], returnType := some .boolean }, accessFlags := 9, code := some k1c2 }
/-- com/example/nereus/nereus/value/XmlCharsIsXmlCharPinLaw -/
def k1 : Class := { plain "com/example/nereus/nereus/value/XmlCharsIsXmlCharPinLaw" (some 0) with
  accessFlags := 49
  interfaces := #[]
  cf := some (fileOf pool1 52 #[] #[{ accessFlags := 2, nameIndex := 5, descriptorIndex := 6, attributes := #[] }, { accessFlags := 10, nameIndex := 55, descriptorIndex := 50, attributes := #[] }, { accessFlags := 9, nameIndex := 59, descriptorIndex := 60, attributes := #[] }] 49 2 #[] #[])
  fields := #[]
  methods := #[k1m0, k1m1, k1m2]
  instanceTypes := #[]
  staticTypes := #[]
  resolved := Array.replicate 65 none
  statics := none }

def pool2 : Array CpInfo := pool [(2, .class_ 4), (1, u "java/lang/Object"), (0, u "<init>"), (0, u "()V"), (8, .class_ 17), (1, u "com/example/nereus/nereus/value/XmlChars"), (24, .long 9), (1, .long 10), (1, .long 13), (1, .long 32), (1, .long 55295), (1, .long 57344), (1, .long 65533), (1, .long 65536), (1, .long 1114111), (37, u "isXmlChar"), (0, u "(J)Z")] 6

def k2m0 : Method := { name := "<init>", desc := "()V", sig := { parameters := [], returnType := none }, accessFlags := 2, code := none }
def k2c1 : Code := { maxStack := 4, maxLocals := 2, code := prog_199_method_7_code, exceptionTable := #[], attributes := #[] }
def k2m1 : Method := { name := "isXmlChar", desc := "(J)Z", sig := { parameters := [.long], returnType := some .boolean }, accessFlags := 9, code := some k2c1 }
/-- com/example/nereus/nereus/value/XmlChars -/
def k2 : Class := { plain "com/example/nereus/nereus/value/XmlChars" (some 0) with
  accessFlags := 49
  interfaces := #[]
  cf := some (fileOf pool2 15 #[] #[{ accessFlags := 2, nameIndex := 5, descriptorIndex := 6, attributes := #[] }, { accessFlags := 9, nameIndex := 96, descriptorIndex := 97, attributes := #[] }] 49 2 #[] #[])
  fields := #[]
  methods := #[k2m0, k2m1]
  instanceTypes := #[]
  staticTypes := #[]
  resolved := Array.replicate 104 none
  statics := none }

def pool3 : Array CpInfo := pool [(1, u "java/lang/Cloneable"), (0, .class_ 1), (0, u "java/lang/Object"), (0, .class_ 3)] 3

/-- java/lang/Cloneable -/
def k3 : Class := { plain "java/lang/Cloneable" (some 0) with
  accessFlags := 1537
  interfaces := #[]
  cf := some (fileOf pool3 2 #[] #[] 1537 4 #[] #[])
  fields := #[]
  methods := #[]
  instanceTypes := #[]
  staticTypes := #[]
  resolved := Array.replicate 8 none
  statics := none }

def pool4 : Array CpInfo := pool [(1, u "java/io/Serializable"), (0, .class_ 1), (0, u "java/lang/Object"), (0, .class_ 3)] 3

/-- java/io/Serializable -/
def k4 : Class := { plain "java/io/Serializable" (some 0) with
  accessFlags := 1537
  interfaces := #[]
  cf := some (fileOf pool4 2 #[] #[] 1537 4 #[] #[])
  fields := #[]
  methods := #[]
  instanceTypes := #[]
  staticTypes := #[]
  resolved := Array.replicate 8 none
  statics := none }

/-- the primitive byte -/
def k5 : Class := { plain "byte" none with kind := .primitive 'B', accessFlags := 0x411 }
/-- [B -/
def k6 : Class := { plain "[B" (some 0) with kind := .array 5 .byte, interfaces := #[3, 4], accessFlags := 1041 }

/-- the primitive int -/
def k7 : Class := { plain "int" none with kind := .primitive 'I', accessFlags := 0x411 }
/-- [I -/
def k8 : Class := { plain "[I" (some 0) with kind := .array 7 .int, interfaces := #[3, 4], accessFlags := 1041 }

/-- the primitive long -/
def k9 : Class := { plain "long" none with kind := .primitive 'J', accessFlags := 0x411 }
/-- [J -/
def k10 : Class := { plain "[J" (some 0) with kind := .array 9 .long, interfaces := #[3, 4], accessFlags := 1041 }

def heap : Heap := #[]
def classes : Array Class := #[k0, k1, k2, k3, k4, k5, k6, k7, k8, k9, k10]
def interned : List (Array UInt16 × Addr) := []
def slotsUsed : Nat := 0
def theMethod : MethodId := ⟨1, 2⟩
def args0 : Array Value := #[.long 5, .int 5, .int 5]
def aboutOver (below : List Frame) : State where
  vm := { classes := classes, interned := interned.toArray }
  heap := heap
  slotsUsed := slotsUsed
  threads := #[{ frames := .invoking theMethod args0 :: below }]
def below0 : List Frame := [.native { method := ⟨0, 0⟩, args := #[] }]
def about1 : State := aboutOver below0
def p0 : Program := .bare "" "" ""
def e0 : Env := launch0.env 0 0 0
theorem w_frames : about1.frames = Frame.invoking theMethod args0 :: below0 := rfl
set_option maxRecDepth 65536 in
theorem w_args : argsFit about1.vm theMethod args0 = true := by decide +kernel
set_option maxRecDepth 65536 in
theorem w_heap : heapFits about1 = true := by decide +kernel
set_option maxRecDepth 65536 in
theorem w_runnable : about1.curStatus? = some .runnable := by decide +kernel
set_option maxRecDepth 65536 in
theorem w_alone : about1.alone = true := by decide +kernel
set_option maxRecDepth 65536 in
theorem w_named : about1.methodNamed? x = some theMethod := by decide +kernel
set_option maxRecDepth 65536 in
theorem w_hears : about1.hears theMethod below0 = true := by decide +kernel
set_option maxRecDepth 65536 in
theorem w_ripe : about1.ripe theMethod args0 below0 = true := by decide +kernel
theorem w_running : about1.status = .running := rfl
set_option maxRecDepth 65536 in
theorem w_room : about1.hasRoom e0.platform room_1 = true :=
  launch0.hasRoom_least _ room_1 (by decide +kernel) (by decide +kernel) (by decide +kernel) (by decide +kernel) (by decide +kernel) (by decide +kernel)
theorem allAtoms_all (ts : List Jvm.Cond) (a : Array Jvm.Value) (st : Jvm.State) : (allAtoms ts).before a st = ts.all (fun c => c.before a st) := by
  induction ts with
  | nil => rfl
  | cons c t ih =>
    show (Jvm.Cond.and c (allAtoms t)).before a st = _
    rw [Jvm.Cond.before_and, ih, List.all_cons]
def words1 : List Jvm.Cond := Jvm.Cond.code x code maxLocals ret :: tables_1
/-- a 'code' word, met by the world's own term for the bytes: nothing is compared byte by byte -/
theorem code_word {y : MethodName} {bytes : ByteArray} {mx : Nat} {rt : Option FieldType} {a : Array Value} {s : State} {m : MethodId} {meth : Method} {c : Code} (h1 : s.methodNamed? y = some m) (h2 : s.vm.method? m = some meth) (h3 : meth.code = some c) (h4 : c.code = bytes)
    (h5 : (c.maxLocals == mx && c.exceptionTable.isEmpty && decide (c.maxStack ≤ mostOperands) && decide (meth.sig.returnType = rt) && !meth.locks && decide (parseMethodDescriptor y.desc = some meth.sig)) = true) : (Jvm.Cond.code y bytes mx rt).before a s = true := by
  simp only [Bool.and_eq_true, beq_iff_eq, Bool.not_eq_true', decide_eq_true_eq] at h5
  obtain ⟨⟨⟨⟨⟨g1, g2⟩, g3⟩, g4⟩, g5⟩, g6⟩ := h5
  simp [Cond.before, Cond.holds, Cond.value, h1, h2, h3, h4, g1, g2, g3, g4, g5, g6]
def isCode : Jvm.Cond → Bool
  | .code _ _ _ _ => true
  | _ => false
theorem all_split {L : List Jvm.Cond} {P : Jvm.Cond → Bool} (h1 : L.all (fun c => isCode c || P c) = true) (h2 : ∀ c ∈ L.filter isCode, P c = true) : L.all P = true := by
  refine List.all_eq_true.mpr fun c hc => ?_
  have h := List.all_eq_true.mp h1 c hc
  rcases Bool.eq_false_or_eq_true (isCode c) with hi | hi
  · exact h2 c (List.mem_filter.mpr ⟨hc, hi⟩)
  · simpa [hi] using h
set_option maxRecDepth 65536 in
theorem w_c0 : (Jvm.Cond.code x code maxLocals ret).before args0 about1 = true := code_word (m := ⟨1, 2⟩) (meth := k1m2) (c := k1c2) (by decide +kernel) rfl rfl rfl (by decide +kernel)
set_option maxRecDepth 65536 in
theorem w_c1 : (Jvm.Cond.code ({ cls := "com/example/nereus/nereus/value/XmlChars", name := "isXmlChar", desc := "(J)Z" } : Jvm.MethodName) prog_199_method_7_code (2 : Nat) (Option.some Jvm.ClassFile.FieldType.boolean)).before args0 about1 = true := code_word (m := ⟨2, 1⟩) (meth := k2m1) (c := k2c1) (by decide +kernel) rfl rfl rfl (by decide +kernel)
set_option maxRecDepth 65536 in
theorem w_c2 : (Jvm.Cond.code ({ cls := "com/example/nereus/nereus/value/XmlCharsIsXmlCharPinLaw", name := "excluded", desc := "(J)Z" } : Jvm.MethodName) method_2_code (2 : Nat) (Option.some Jvm.ClassFile.FieldType.boolean)).before args0 about1 = true := code_word (m := ⟨1, 1⟩) (meth := k1m1) (c := k1c1) (by decide +kernel) rfl rfl rfl (by decide +kernel)
def codes1 : List Jvm.Cond := [Jvm.Cond.code x code maxLocals ret, Jvm.Cond.code ({ cls := "com/example/nereus/nereus/value/XmlChars", name := "isXmlChar", desc := "(J)Z" } : Jvm.MethodName) prog_199_method_7_code (2 : Nat) (Option.some Jvm.ClassFile.FieldType.boolean), Jvm.Cond.code ({ cls := "com/example/nereus/nereus/value/XmlCharsIsXmlCharPinLaw", name := "excluded", desc := "(J)Z" } : Jvm.MethodName) method_2_code (2 : Nat) (Option.some Jvm.ClassFile.FieldType.boolean)]
set_option maxRecDepth 65536 in
theorem codes_eq : words1.filter isCode = codes1 := rfl
theorem w_codes : ∀ c ∈ words1.filter isCode, c.before args0 about1 = true := by
  rw [codes_eq]
  intro c hc
  simp only [codes1, List.mem_cons, List.not_mem_nil, or_false] at hc
  rcases hc with rfl | rfl | rfl
  · exact w_c0
  · exact w_c1
  · exact w_c2
set_option maxRecDepth 65536 in
theorem w_t1 : (words1.take 24).all (fun c => isCode c || c.before args0 about1) = true := by decide +kernel
set_option maxRecDepth 65536 in
theorem w_t2 : (words1.drop 24).all (fun c => isCode c || c.before args0 about1) = true := by decide +kernel
theorem w_tables : (allAtoms (Jvm.Cond.code x code maxLocals ret :: tables_1)).before args0 about1 = true := by
  rw [allAtoms_all]
  show words1.all (fun c => c.before args0 about1) = true
  refine all_split ?_ w_codes
  rw [← List.take_append_drop 24 words1, List.all_append, w_t1, w_t2]
  rfl
set_option maxRecDepth 65536 in
theorem w_case : (Jvm.Cond.and given_1 narrow_1).before args0 about1 = true := by decide +kernel
theorem w_applies : (headSpec (Jvm.Cond.code x code maxLocals ret :: tables_1) room_1).applies x e0.platform about1 = true :=
  (Spec.applies_iff w_frames).mpr ⟨w_running, w_runnable, w_alone, w_named, w_hears, w_ripe, w_room, w_tables⟩
theorem atStart : AtStart classFile x code maxLocals ret World_1 tables_1 room_1 Calls_1 rest_1 Pre_1 launch0 p0 e0 about1 theMethod args0 below0 :=
  ⟨lists_1, trivial, launch0.admits_env _ _ _, launch0.least_env, fairChoices_fair.cas, fairChoices_fair.clock, w_frames, w_args, w_heap, w_applies, trivial, trivial, w_case⟩
end start1
theorem witness_1 : WitnessClaimed_1 := ⟨start1.p0, start1.e0, start1.about1, start1.theMethod, start1.args0, start1.below0, start1.atStart⟩
end Jvm.Pilot.@@N@@
