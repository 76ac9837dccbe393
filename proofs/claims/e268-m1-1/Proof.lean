import JvmDerived
import JvmDerived.Pilot.@@N@@Statement
import JvmDerived.Pilot.@@N@@Code
set_option linter.unusedVariables false
set_option linter.unusedSimpArgs false
namespace Jvm.Pilot.@@N@@
open Jvm Jvm.ClassFile Sem Op Lib Jvm.Free Jvm.Stand Jvm.LawKit Jvm.RoadKit Bundle Jvm.Pilot.@@N@@.Jvm.D

/-- from here the invocation ends, and what it leaves meets Q -/
def Go (p : Program) (e : Env) (below : List Frame) (s : State) (mc ms : Nat) (Q : Option Value → Heap → List Loc → Prop) (m : MethodId) (T : State) (pc : Nat) (Ls : Array Slot) (st : List Value) : Prop :=
  ∃ s₂ o, Steps p.tables e below (T.setTop (mkF m pc Ls st)) s₂ ∧ s₂.status = .running ∧ Ended s₂ below o ∧ ∃ v L, o = .returned v ∧ Q v s₂.heap L ∧ FrameEnd s o s₂ L mc ms
section Law
variable {p : Program} {l : Launch} {e : Env} {R : Room} {s : State} {m : MethodId} {args : Array Value} {below : List Frame} {meth : Method} {c : Code} {T T' : State} {locs : List Loc} {cells slots : Nat} {code : ByteArray} {Q : Option Value → Heap → List Loc → Prop} {mc ms : Nat} {pc pc' : Nat} {Ls Ls' : Array Slot} {st st' rest : List Value}
theorem Go.of (k : Go p e below s mc ms Q m T' pc' Ls' st') (h : ∀ t, Steps p.tables e below (T'.setTop (mkF m pc' Ls' st')) t → Steps p.tables e below (T.setTop (mkF m pc Ls st)) t) : Go p e below s mc ms Q m T pc Ls st := by
  obtain ⟨a, o, h1, h2⟩ := k
  exact ⟨a, o, h _ h1, h2⟩
def remI (x y : Int32) : Int32 := x - (x / y) * y
def remJ (x y : Int64) : Int64 := x - (x / y) * y
def i2bF (x : Int32) : Int32 := x.toInt8.toInt32
def i2cF (x : Int32) : Int32 := x.toUInt32.toUInt16.toUInt32.toInt32
def i2sF (x : Int32) : Int32 := x.toInt16.toInt32
def shlI (x y : Int32) : Int32 := x <<< (y &&& 31)
def shrI (x y : Int32) : Int32 := x >>> (y &&& 31)
def shlJ (x : Int64) (y : Int32) : Int64 := x <<< (y.toInt64 &&& 63)
def shrJ (x : Int64) (y : Int32) : Int64 := x >>> (y.toInt64 &&& 63)

theorem Go.iload (X : Stand p l e R s m args below meth c T locs cells slots) (hx : p.tables.exec = Jvm.exec) (hby : c.code = code) {k : Nat} {v : Int32} (hd : decode code pc = .ok (.iload k, 2)) (hpc : pc + 2 = pc') (hl : Ls[k]? = some (.val (.int v))) (h : Go p e below s mc ms Q m T pc' Ls (.int v :: st)) : Go p e below s mc ms Q m T pc Ls (st) := by
  subst hpc; exact h.of fun _ kk => XS.iload (g := mkF m pc Ls (st)) X.here hx rfl (hb hby hd) hl kk
theorem Go.iloadN (X : Stand p l e R s m args below meth c T locs cells slots) (hx : p.tables.exec = Jvm.exec) (hby : c.code = code) {k : Fin 4} {v : Int32} (hd : decode code pc = .ok (.iload_n k, 1)) (hpc : pc + 1 = pc') (hl : Ls[k.val]? = some (.val (.int v))) (h : Go p e below s mc ms Q m T pc' Ls (.int v :: st)) : Go p e below s mc ms Q m T pc Ls (st) := by
  subst hpc; exact h.of fun _ kk => XS.iloadN (g := mkF m pc Ls (st)) X.here hx rfl (hb hby hd) hl kk
theorem Go.lload (X : Stand p l e R s m args below meth c T locs cells slots) (hx : p.tables.exec = Jvm.exec) (hby : c.code = code) {k : Nat} {v : Int64} (hd : decode code pc = .ok (.lload k, 2)) (hpc : pc + 2 = pc') (hl : Ls[k]? = some (.val (.long v))) (h : Go p e below s mc ms Q m T pc' Ls (.long v :: st)) : Go p e below s mc ms Q m T pc Ls (st) := by
  subst hpc; exact h.of fun _ kk => XT.lload (g := mkF m pc Ls (st)) X.here hx rfl (hb hby hd) hl kk
theorem Go.lloadN (X : Stand p l e R s m args below meth c T locs cells slots) (hx : p.tables.exec = Jvm.exec) (hby : c.code = code) {k : Fin 4} {v : Int64} (hd : decode code pc = .ok (.lload_n k, 1)) (hpc : pc + 1 = pc') (hl : Ls[k.val]? = some (.val (.long v))) (h : Go p e below s mc ms Q m T pc' Ls (.long v :: st)) : Go p e below s mc ms Q m T pc Ls (st) := by
  subst hpc; exact h.of fun _ kk => XT.lloadN (g := mkF m pc Ls (st)) X.here hx rfl (hb hby hd) hl kk
theorem Go.aload (X : Stand p l e R s m args below meth c T locs cells slots) (hx : p.tables.exec = Jvm.exec) (hby : c.code = code) {k : Nat} {v : Value} (hd : decode code pc = .ok (.aload k, 2)) (hpc : pc + 2 = pc') (hl : Ls[k]? = some (.val v)) (hv : v.isRef = true) (h : Go p e below s mc ms Q m T pc' Ls (v :: st)) : Go p e below s mc ms Q m T pc Ls (st) := by
  subst hpc; exact h.of fun _ kk => XS.aload (g := mkF m pc Ls (st)) X.here hx rfl (hb hby hd) hl hv kk
theorem Go.aloadN (X : Stand p l e R s m args below meth c T locs cells slots) (hx : p.tables.exec = Jvm.exec) (hby : c.code = code) {k : Fin 4} {v : Value} (hd : decode code pc = .ok (.aload_n k, 1)) (hpc : pc + 1 = pc') (hl : Ls[k.val]? = some (.val v)) (hv : v.isRef = true) (h : Go p e below s mc ms Q m T pc' Ls (v :: st)) : Go p e below s mc ms Q m T pc Ls (st) := by
  subst hpc; exact h.of fun _ kk => XS.aloadN (g := mkF m pc Ls (st)) X.here hx rfl (hb hby hd) hl hv kk
theorem Go.istore (X : Stand p l e R s m args below meth c T locs cells slots) (hx : p.tables.exec = Jvm.exec) (hby : c.code = code) {k : Nat} {v : Int32} (hd : decode code pc = .ok (.istore k, 2)) (hpc : pc + 2 = pc') (hl : storeLocals Ls k (.int v) = some Ls') (h : Go p e below s mc ms Q m T pc' Ls' (st)) : Go p e below s mc ms Q m T pc Ls (.int v :: st) := by
  subst hpc; exact h.of fun _ kk => XS.istore (g := mkF m pc Ls (.int v :: st)) X.here hx rfl (hb hby hd) rfl hl kk
theorem Go.istoreN (X : Stand p l e R s m args below meth c T locs cells slots) (hx : p.tables.exec = Jvm.exec) (hby : c.code = code) {k : Fin 4} {v : Int32} (hd : decode code pc = .ok (.istore_n k, 1)) (hpc : pc + 1 = pc') (hl : storeLocals Ls k.val (.int v) = some Ls') (h : Go p e below s mc ms Q m T pc' Ls' (st)) : Go p e below s mc ms Q m T pc Ls (.int v :: st) := by
  subst hpc; exact h.of fun _ kk => XS.istoreN (g := mkF m pc Ls (.int v :: st)) X.here hx rfl (hb hby hd) rfl hl kk
theorem Go.lstore (X : Stand p l e R s m args below meth c T locs cells slots) (hx : p.tables.exec = Jvm.exec) (hby : c.code = code) {k : Nat} {v : Int64} (hd : decode code pc = .ok (.lstore k, 2)) (hpc : pc + 2 = pc') (hl : storeLocals Ls k (.long v) = some Ls') (h : Go p e below s mc ms Q m T pc' Ls' (st)) : Go p e below s mc ms Q m T pc Ls (.long v :: st) := by
  subst hpc; exact h.of fun _ kk => XT.lstore (g := mkF m pc Ls (.long v :: st)) X.here hx rfl (hb hby hd) rfl hl kk
theorem Go.lstoreN (X : Stand p l e R s m args below meth c T locs cells slots) (hx : p.tables.exec = Jvm.exec) (hby : c.code = code) {k : Fin 4} {v : Int64} (hd : decode code pc = .ok (.lstore_n k, 1)) (hpc : pc + 1 = pc') (hl : storeLocals Ls k.val (.long v) = some Ls') (h : Go p e below s mc ms Q m T pc' Ls' (st)) : Go p e below s mc ms Q m T pc Ls (.long v :: st) := by
  subst hpc; exact h.of fun _ kk => XT.lstoreN (g := mkF m pc Ls (.long v :: st)) X.here hx rfl (hb hby hd) rfl hl kk
theorem Go.astore (X : Stand p l e R s m args below meth c T locs cells slots) (hx : p.tables.exec = Jvm.exec) (hby : c.code = code) {k : Nat} {v : Value} (hd : decode code pc = .ok (.astore k, 2)) (hpc : pc + 2 = pc') (hv : v.isRef = true) (hl : storeLocals Ls k v = some Ls') (h : Go p e below s mc ms Q m T pc' Ls' (st)) : Go p e below s mc ms Q m T pc Ls (v :: st) := by
  subst hpc; exact h.of fun _ kk => XS.astore (g := mkF m pc Ls (v :: st)) X.here hx rfl (hb hby hd) rfl hv hl kk
theorem Go.astoreN (X : Stand p l e R s m args below meth c T locs cells slots) (hx : p.tables.exec = Jvm.exec) (hby : c.code = code) {k : Fin 4} {v : Value} (hd : decode code pc = .ok (.astore_n k, 1)) (hpc : pc + 1 = pc') (hv : v.isRef = true) (hl : storeLocals Ls k.val v = some Ls') (h : Go p e below s mc ms Q m T pc' Ls' (st)) : Go p e below s mc ms Q m T pc Ls (v :: st) := by
  subst hpc; exact h.of fun _ kk => XS.astoreN (g := mkF m pc Ls (v :: st)) X.here hx rfl (hb hby hd) rfl hv hl kk
theorem Go.iconst (X : Stand p l e R s m args below meth c T locs cells slots) (hx : p.tables.exec = Jvm.exec) (hby : c.code = code) {i : Int} {v : Int32} (hd : decode code pc = .ok (.iconst i, 1)) (hpc : pc + 1 = pc') (hv : Int32.ofInt i = v) (h : Go p e below s mc ms Q m T pc' Ls (.int v :: st)) : Go p e below s mc ms Q m T pc Ls (st) := by
  subst hpc; exact h.of fun _ kk => XT.iconstV (g := mkF m pc Ls (st)) X.here hx rfl v (hb hby hd) hv kk
theorem Go.bipush (X : Stand p l e R s m args below meth c T locs cells slots) (hx : p.tables.exec = Jvm.exec) (hby : c.code = code) {i : Int} {v : Int32} (hd : decode code pc = .ok (.bipush i, 2)) (hpc : pc + 2 = pc') (hv : (Int8.ofInt i).toInt32 = v) (h : Go p e below s mc ms Q m T pc' Ls (.int v :: st)) : Go p e below s mc ms Q m T pc Ls (st) := by
  subst hpc; exact h.of fun _ kk => XT.bipushV (g := mkF m pc Ls (st)) X.here hx rfl v (hb hby hd) hv kk
theorem Go.sipush (X : Stand p l e R s m args below meth c T locs cells slots) (hx : p.tables.exec = Jvm.exec) (hby : c.code = code) {i : Int} {v : Int32} (hd : decode code pc = .ok (.sipush i, 3)) (hpc : pc + 3 = pc') (hv : (Int16.ofInt i).toInt32 = v) (h : Go p e below s mc ms Q m T pc' Ls (.int v :: st)) : Go p e below s mc ms Q m T pc Ls (st) := by
  subst hpc; exact h.of fun _ kk => XT.sipushV (g := mkF m pc Ls (st)) X.here hx rfl v (hb hby hd) hv kk
theorem Go.lconst (X : Stand p l e R s m args below meth c T locs cells slots) (hx : p.tables.exec = Jvm.exec) (hby : c.code = code) {k : Fin 2} {v : Int64} (hd : decode code pc = .ok (.lconst k, 1)) (hpc : pc + 1 = pc') (hv : Int64.ofNat k = v) (h : Go p e below s mc ms Q m T pc' Ls (.long v :: st)) : Go p e below s mc ms Q m T pc Ls (st) := by
  subst hpc; exact h.of fun _ kk => XT.lconstV (g := mkF m pc Ls (st)) X.here hx rfl v (hb hby hd) hv kk
theorem Go.aconstNull (X : Stand p l e R s m args below meth c T locs cells slots) (hx : p.tables.exec = Jvm.exec) (hby : c.code = code) (hd : decode code pc = .ok (.aconst_null, 1)) (hpc : pc + 1 = pc') (h : Go p e below s mc ms Q m T pc' Ls (.null :: st)) : Go p e below s mc ms Q m T pc Ls (st) := by
  subst hpc; exact h.of fun _ kk => XS.aconstNull (g := mkF m pc Ls (st)) X.here hx rfl (hb hby hd) kk
theorem Go.ldcI (X : Stand p l e R s m args below meth c T locs cells slots) (hx : p.tables.exec = Jvm.exec) (hby : c.code = code) {Z : State} {a0 : Array Value} (hZ : Z.Warmed39 s.vm) {own : String} {k : Nat} {v : Int32} (hown : s.vm.findClass own = some m.cls) (w : (Cond.constant own k v).before a0 Z = true) (hd : decode code pc = .ok (.ldc k, 2)) (hpc : pc + 2 = pc') (h : Go p e below s mc ms Q m T pc' Ls (.int v :: st)) : Go p e below s mc ms Q m T pc Ls (st) := by
  subst hpc; exact h.of fun _ kk => Stand.ldcI (g := mkF m pc Ls (st)) X hx hown (mvT hZ w) rfl (hb hby hd) kk
theorem Go.ldcJ (X : Stand p l e R s m args below meth c T locs cells slots) (hx : p.tables.exec = Jvm.exec) (hby : c.code = code) {Z : State} {a0 : Array Value} (hZ : Z.Warmed39 s.vm) {own : String} {k : Nat} {v : Int64} (hown : s.vm.findClass own = some m.cls) (w : (Cond.constantLong own k v).before a0 Z = true) (hd : decode code pc = .ok (.ldc2_w k, 3)) (hpc : pc + 3 = pc') (h : Go p e below s mc ms Q m T pc' Ls (.long v :: st)) : Go p e below s mc ms Q m T pc Ls (st) := by
  subst hpc; exact h.of fun _ kk => Stand.ldc2J (g := mkF m pc Ls (st)) X hx hown (mvT hZ w) rfl (hb hby hd) kk
theorem Go.iadd (X : Stand p l e R s m args below meth c T locs cells slots) (hx : p.tables.exec = Jvm.exec) (hby : c.code = code) {x y : Int32} (hd : decode code pc = .ok (.iadd, 1)) (hpc : pc + 1 = pc') (h : Go p e below s mc ms Q m T pc' Ls (.int (x + y) :: st)) : Go p e below s mc ms Q m T pc Ls (.int y :: .int x :: st) := by
  subst hpc; exact h.of fun _ kk => XS.iadd (g := mkF m pc Ls (.int y :: .int x :: st)) X.here hx rfl (hb hby hd) rfl kk
theorem Go.isub (X : Stand p l e R s m args below meth c T locs cells slots) (hx : p.tables.exec = Jvm.exec) (hby : c.code = code) {x y : Int32} (hd : decode code pc = .ok (.isub, 1)) (hpc : pc + 1 = pc') (h : Go p e below s mc ms Q m T pc' Ls (.int (x - y) :: st)) : Go p e below s mc ms Q m T pc Ls (.int y :: .int x :: st) := by
  subst hpc; exact h.of fun _ kk => XS.isub (g := mkF m pc Ls (.int y :: .int x :: st)) X.here hx rfl (hb hby hd) rfl kk
theorem Go.imul (X : Stand p l e R s m args below meth c T locs cells slots) (hx : p.tables.exec = Jvm.exec) (hby : c.code = code) {x y : Int32} (hd : decode code pc = .ok (.imul, 1)) (hpc : pc + 1 = pc') (h : Go p e below s mc ms Q m T pc' Ls (.int (x * y) :: st)) : Go p e below s mc ms Q m T pc Ls (.int y :: .int x :: st) := by
  subst hpc; exact h.of fun _ kk => XS.imul (g := mkF m pc Ls (.int y :: .int x :: st)) X.here hx rfl (hb hby hd) rfl kk
theorem Go.iand (X : Stand p l e R s m args below meth c T locs cells slots) (hx : p.tables.exec = Jvm.exec) (hby : c.code = code) {x y : Int32} (hd : decode code pc = .ok (.iand, 1)) (hpc : pc + 1 = pc') (h : Go p e below s mc ms Q m T pc' Ls (.int (x &&& y) :: st)) : Go p e below s mc ms Q m T pc Ls (.int y :: .int x :: st) := by
  subst hpc; exact h.of fun _ kk => XS.iand (g := mkF m pc Ls (.int y :: .int x :: st)) X.here hx rfl (hb hby hd) rfl kk
theorem Go.ior (X : Stand p l e R s m args below meth c T locs cells slots) (hx : p.tables.exec = Jvm.exec) (hby : c.code = code) {x y : Int32} (hd : decode code pc = .ok (.ior, 1)) (hpc : pc + 1 = pc') (h : Go p e below s mc ms Q m T pc' Ls (.int (x ||| y) :: st)) : Go p e below s mc ms Q m T pc Ls (.int y :: .int x :: st) := by
  subst hpc; exact h.of fun _ kk => XT.ior (g := mkF m pc Ls (.int y :: .int x :: st)) X.here hx rfl (hb hby hd) rfl kk
theorem Go.ixor (X : Stand p l e R s m args below meth c T locs cells slots) (hx : p.tables.exec = Jvm.exec) (hby : c.code = code) {x y : Int32} (hd : decode code pc = .ok (.ixor, 1)) (hpc : pc + 1 = pc') (h : Go p e below s mc ms Q m T pc' Ls (.int (x ^^^ y) :: st)) : Go p e below s mc ms Q m T pc Ls (.int y :: .int x :: st) := by
  subst hpc; exact h.of fun _ kk => XT.ixor (g := mkF m pc Ls (.int y :: .int x :: st)) X.here hx rfl (hb hby hd) rfl kk
theorem Go.ishl (X : Stand p l e R s m args below meth c T locs cells slots) (hx : p.tables.exec = Jvm.exec) (hby : c.code = code) {x y : Int32} (hd : decode code pc = .ok (.ishl, 1)) (hpc : pc + 1 = pc') (h : Go p e below s mc ms Q m T pc' Ls (.int (shlI x y) :: st)) : Go p e below s mc ms Q m T pc Ls (.int y :: .int x :: st) := by
  subst hpc; exact h.of fun _ kk => XT.ishl (g := mkF m pc Ls (.int y :: .int x :: st)) X.here hx rfl (hb hby hd) rfl kk
theorem Go.ishr (X : Stand p l e R s m args below meth c T locs cells slots) (hx : p.tables.exec = Jvm.exec) (hby : c.code = code) {x y : Int32} (hd : decode code pc = .ok (.ishr, 1)) (hpc : pc + 1 = pc') (h : Go p e below s mc ms Q m T pc' Ls (.int (shrI x y) :: st)) : Go p e below s mc ms Q m T pc Ls (.int y :: .int x :: st) := by
  subst hpc; exact h.of fun _ kk => XT.ishr (g := mkF m pc Ls (.int y :: .int x :: st)) X.here hx rfl (hb hby hd) rfl kk
theorem Go.iushr (X : Stand p l e R s m args below meth c T locs cells slots) (hx : p.tables.exec = Jvm.exec) (hby : c.code = code) {x y : Int32} (hd : decode code pc = .ok (.iushr, 1)) (hpc : pc + 1 = pc') (h : Go p e below s mc ms Q m T pc' Ls (.int (XT.ushr x y) :: st)) : Go p e below s mc ms Q m T pc Ls (.int y :: .int x :: st) := by
  subst hpc; exact h.of fun _ kk => XT.iushr (g := mkF m pc Ls (.int y :: .int x :: st)) X.here hx rfl (hb hby hd) rfl kk
theorem Go.idiv (X : Stand p l e R s m args below meth c T locs cells slots) (hx : p.tables.exec = Jvm.exec) (hby : c.code = code) {x y : Int32} (hd : decode code pc = .ok (.idiv, 1)) (hpc : pc + 1 = pc') (hy : y ≠ 0) (h : Go p e below s mc ms Q m T pc' Ls (.int (x / y) :: st)) : Go p e below s mc ms Q m T pc Ls (.int y :: .int x :: st) := by
  subst hpc; exact h.of fun _ kk => XS.idiv (g := mkF m pc Ls (.int y :: .int x :: st)) X.here hx rfl (hb hby hd) rfl hy kk
theorem Go.irem (X : Stand p l e R s m args below meth c T locs cells slots) (hx : p.tables.exec = Jvm.exec) (hby : c.code = code) {x y : Int32} (hd : decode code pc = .ok (.irem, 1)) (hpc : pc + 1 = pc') (hy : y ≠ 0) (h : Go p e below s mc ms Q m T pc' Ls (.int (remI x y) :: st)) : Go p e below s mc ms Q m T pc Ls (.int y :: .int x :: st) := by
  subst hpc; exact h.of fun _ kk => XS.irem (g := mkF m pc Ls (.int y :: .int x :: st)) X.here hx rfl (hb hby hd) rfl hy kk
theorem Go.ladd (X : Stand p l e R s m args below meth c T locs cells slots) (hx : p.tables.exec = Jvm.exec) (hby : c.code = code) {x y : Int64} (hd : decode code pc = .ok (.ladd, 1)) (hpc : pc + 1 = pc') (h : Go p e below s mc ms Q m T pc' Ls (.long (x + y) :: st)) : Go p e below s mc ms Q m T pc Ls (.long y :: .long x :: st) := by
  subst hpc; exact h.of fun _ kk => XT.ladd (g := mkF m pc Ls (.long y :: .long x :: st)) X.here hx rfl (hb hby hd) rfl kk
theorem Go.lsub (X : Stand p l e R s m args below meth c T locs cells slots) (hx : p.tables.exec = Jvm.exec) (hby : c.code = code) {x y : Int64} (hd : decode code pc = .ok (.lsub, 1)) (hpc : pc + 1 = pc') (h : Go p e below s mc ms Q m T pc' Ls (.long (x - y) :: st)) : Go p e below s mc ms Q m T pc Ls (.long y :: .long x :: st) := by
  subst hpc; exact h.of fun _ kk => XT.lsub (g := mkF m pc Ls (.long y :: .long x :: st)) X.here hx rfl (hb hby hd) rfl kk
theorem Go.lmul (X : Stand p l e R s m args below meth c T locs cells slots) (hx : p.tables.exec = Jvm.exec) (hby : c.code = code) {x y : Int64} (hd : decode code pc = .ok (.lmul, 1)) (hpc : pc + 1 = pc') (h : Go p e below s mc ms Q m T pc' Ls (.long (x * y) :: st)) : Go p e below s mc ms Q m T pc Ls (.long y :: .long x :: st) := by
  subst hpc; exact h.of fun _ kk => XT.lmul (g := mkF m pc Ls (.long y :: .long x :: st)) X.here hx rfl (hb hby hd) rfl kk
theorem Go.land (X : Stand p l e R s m args below meth c T locs cells slots) (hx : p.tables.exec = Jvm.exec) (hby : c.code = code) {x y : Int64} (hd : decode code pc = .ok (.land, 1)) (hpc : pc + 1 = pc') (h : Go p e below s mc ms Q m T pc' Ls (.long (x &&& y) :: st)) : Go p e below s mc ms Q m T pc Ls (.long y :: .long x :: st) := by
  subst hpc; exact h.of fun _ kk => XT.land (g := mkF m pc Ls (.long y :: .long x :: st)) X.here hx rfl (hb hby hd) rfl kk
theorem Go.lor (X : Stand p l e R s m args below meth c T locs cells slots) (hx : p.tables.exec = Jvm.exec) (hby : c.code = code) {x y : Int64} (hd : decode code pc = .ok (.lor, 1)) (hpc : pc + 1 = pc') (h : Go p e below s mc ms Q m T pc' Ls (.long (x ||| y) :: st)) : Go p e below s mc ms Q m T pc Ls (.long y :: .long x :: st) := by
  subst hpc; exact h.of fun _ kk => XT.lor (g := mkF m pc Ls (.long y :: .long x :: st)) X.here hx rfl (hb hby hd) rfl kk
theorem Go.lxor (X : Stand p l e R s m args below meth c T locs cells slots) (hx : p.tables.exec = Jvm.exec) (hby : c.code = code) {x y : Int64} (hd : decode code pc = .ok (.lxor, 1)) (hpc : pc + 1 = pc') (h : Go p e below s mc ms Q m T pc' Ls (.long (x ^^^ y) :: st)) : Go p e below s mc ms Q m T pc Ls (.long y :: .long x :: st) := by
  subst hpc; exact h.of fun _ kk => XT.lxor (g := mkF m pc Ls (.long y :: .long x :: st)) X.here hx rfl (hb hby hd) rfl kk
theorem Go.ldiv (X : Stand p l e R s m args below meth c T locs cells slots) (hx : p.tables.exec = Jvm.exec) (hby : c.code = code) {x y : Int64} (hd : decode code pc = .ok (.ldiv, 1)) (hpc : pc + 1 = pc') (hy : y ≠ 0) (h : Go p e below s mc ms Q m T pc' Ls (.long (x / y) :: st)) : Go p e below s mc ms Q m T pc Ls (.long y :: .long x :: st) := by
  subst hpc; exact h.of fun _ kk => XT.ldiv (g := mkF m pc Ls (.long y :: .long x :: st)) X.here hx rfl (hb hby hd) rfl hy kk
theorem Go.lrem (X : Stand p l e R s m args below meth c T locs cells slots) (hx : p.tables.exec = Jvm.exec) (hby : c.code = code) {x y : Int64} (hd : decode code pc = .ok (.lrem, 1)) (hpc : pc + 1 = pc') (hy : y ≠ 0) (h : Go p e below s mc ms Q m T pc' Ls (.long (remJ x y) :: st)) : Go p e below s mc ms Q m T pc Ls (.long y :: .long x :: st) := by
  subst hpc; exact h.of fun _ kk => XT.lrem (g := mkF m pc Ls (.long y :: .long x :: st)) X.here hx rfl (hb hby hd) rfl hy kk
theorem Go.lushr (X : Stand p l e R s m args below meth c T locs cells slots) (hx : p.tables.exec = Jvm.exec) (hby : c.code = code) {x : Int64} {y : Int32} (hd : decode code pc = .ok (.lushr, 1)) (hpc : pc + 1 = pc') (h : Go p e below s mc ms Q m T pc' Ls (.long (XT.ushrL x y) :: st)) : Go p e below s mc ms Q m T pc Ls (.int y :: .long x :: st) := by
  subst hpc; exact h.of fun _ kk => XT.lushr (g := mkF m pc Ls (.int y :: .long x :: st)) X.here hx rfl (hb hby hd) rfl kk
theorem Go.lshl (X : Stand p l e R s m args below meth c T locs cells slots) (hx : p.tables.exec = Jvm.exec) (hby : c.code = code) {x : Int64} {y : Int32} {z : Int64} (hd : decode code pc = .ok (.lshl, 1)) (hpc : pc + 1 = pc') (hz : x <<< (y.toInt64 &&& 63) = z) (h : Go p e below s mc ms Q m T pc' Ls (.long z :: st)) : Go p e below s mc ms Q m T pc Ls (.int y :: .long x :: st) := by
  subst hpc hz; exact h.of fun _ kk => XT.lshl (g := mkF m pc Ls (.int y :: .long x :: st)) X.here hx rfl (hb hby hd) rfl kk
theorem Go.lshr (X : Stand p l e R s m args below meth c T locs cells slots) (hx : p.tables.exec = Jvm.exec) (hby : c.code = code) {x : Int64} {y : Int32} {z : Int64} (hd : decode code pc = .ok (.lshr, 1)) (hpc : pc + 1 = pc') (hz : x >>> (y.toInt64 &&& 63) = z) (h : Go p e below s mc ms Q m T pc' Ls (.long z :: st)) : Go p e below s mc ms Q m T pc Ls (.int y :: .long x :: st) := by
  subst hpc hz; exact h.of fun _ kk => XT.lshr (g := mkF m pc Ls (.int y :: .long x :: st)) X.here hx rfl (hb hby hd) rfl kk
theorem Go.lcmp (X : Stand p l e R s m args below meth c T locs cells slots) (hx : p.tables.exec = Jvm.exec) (hby : c.code = code) {x y : Int64} (hd : decode code pc = .ok (.lcmp, 1)) (hpc : pc + 1 = pc') (h : Go p e below s mc ms Q m T pc' Ls (.int (XT.cmpL x y) :: st)) : Go p e below s mc ms Q m T pc Ls (.long y :: .long x :: st) := by
  subst hpc; exact h.of fun _ kk => XT.lcmp (g := mkF m pc Ls (.long y :: .long x :: st)) X.here hx rfl (hb hby hd) rfl kk
theorem Go.ineg (X : Stand p l e R s m args below meth c T locs cells slots) (hx : p.tables.exec = Jvm.exec) (hby : c.code = code) {x : Int32} (hd : decode code pc = .ok (.ineg, 1)) (hpc : pc + 1 = pc') (h : Go p e below s mc ms Q m T pc' Ls (.int (-x) :: st)) : Go p e below s mc ms Q m T pc Ls (.int x :: st) := by
  subst hpc; exact h.of fun _ kk => XS.ineg (g := mkF m pc Ls (.int x :: st)) X.here hx rfl (hb hby hd) rfl kk
theorem Go.i2l (X : Stand p l e R s m args below meth c T locs cells slots) (hx : p.tables.exec = Jvm.exec) (hby : c.code = code) {x : Int32} (hd : decode code pc = .ok (.i2l, 1)) (hpc : pc + 1 = pc') (h : Go p e below s mc ms Q m T pc' Ls (.long (x.toInt64) :: st)) : Go p e below s mc ms Q m T pc Ls (.int x :: st) := by
  subst hpc; exact h.of fun _ kk => XT.i2l (g := mkF m pc Ls (.int x :: st)) X.here hx rfl (hb hby hd) rfl kk
theorem Go.l2i (X : Stand p l e R s m args below meth c T locs cells slots) (hx : p.tables.exec = Jvm.exec) (hby : c.code = code) {x : Int64} (hd : decode code pc = .ok (.l2i, 1)) (hpc : pc + 1 = pc') (h : Go p e below s mc ms Q m T pc' Ls (.int (x.toInt32) :: st)) : Go p e below s mc ms Q m T pc Ls (.long x :: st) := by
  subst hpc; exact h.of fun _ kk => XT.l2i (g := mkF m pc Ls (.long x :: st)) X.here hx rfl (hb hby hd) rfl kk
theorem Go.i2b (X : Stand p l e R s m args below meth c T locs cells slots) (hx : p.tables.exec = Jvm.exec) (hby : c.code = code) {x : Int32} (hd : decode code pc = .ok (.i2b, 1)) (hpc : pc + 1 = pc') (h : Go p e below s mc ms Q m T pc' Ls (.int (i2bF x) :: st)) : Go p e below s mc ms Q m T pc Ls (.int x :: st) := by
  subst hpc; exact h.of fun _ kk => XT.i2b (g := mkF m pc Ls (.int x :: st)) X.here hx rfl (hb hby hd) rfl kk
theorem Go.i2c (X : Stand p l e R s m args below meth c T locs cells slots) (hx : p.tables.exec = Jvm.exec) (hby : c.code = code) {x : Int32} (hd : decode code pc = .ok (.i2c, 1)) (hpc : pc + 1 = pc') (h : Go p e below s mc ms Q m T pc' Ls (.int (i2cF x) :: st)) : Go p e below s mc ms Q m T pc Ls (.int x :: st) := by
  subst hpc; exact h.of fun _ kk => XT.i2c (g := mkF m pc Ls (.int x :: st)) X.here hx rfl (hb hby hd) rfl kk
theorem Go.i2s (X : Stand p l e R s m args below meth c T locs cells slots) (hx : p.tables.exec = Jvm.exec) (hby : c.code = code) {x : Int32} (hd : decode code pc = .ok (.i2s, 1)) (hpc : pc + 1 = pc') (h : Go p e below s mc ms Q m T pc' Ls (.int (i2sF x) :: st)) : Go p e below s mc ms Q m T pc Ls (.int x :: st) := by
  subst hpc; exact h.of fun _ kk => XT.i2s (g := mkF m pc Ls (.int x :: st)) X.here hx rfl (hb hby hd) rfl kk
theorem Go.iinc (X : Stand p l e R s m args below meth c T locs cells slots) (hx : p.tables.exec = Jvm.exec) (hby : c.code = code) {k : Nat} {i : Int} {x v : Int32} (hd : decode code pc = .ok (.iinc k i, 3)) (hpc : pc + 3 = pc') (hv : Int32.ofInt i = v) (hl : Ls[k]? = some (.val (.int x))) (hl' : storeLocals Ls k (.int (x + v)) = some Ls') (h : Go p e below s mc ms Q m T pc' Ls' (st)) : Go p e below s mc ms Q m T pc Ls (st) := by
  subst hpc; exact h.of fun _ kk => XT.iincV (g := mkF m pc Ls (st)) X.here hx rfl v (hb hby hd) hv hl hl' kk
theorem Go.dup (X : Stand p l e R s m args below meth c T locs cells slots) (hx : p.tables.exec = Jvm.exec) (hby : c.code = code) {v : Value} (hd : decode code pc = .ok (.dup, 1)) (hpc : pc + 1 = pc') (hv : v.category = 1) (h : Go p e below s mc ms Q m T pc' Ls (v :: v :: st)) : Go p e below s mc ms Q m T pc Ls (v :: st) := by
  subst hpc; exact h.of fun _ kk => XS.dup (g := mkF m pc Ls (v :: st)) X.here hx rfl (hb hby hd) rfl hv kk
theorem Go.pop (X : Stand p l e R s m args below meth c T locs cells slots) (hx : p.tables.exec = Jvm.exec) (hby : c.code = code) {v : Value} (hd : decode code pc = .ok (.pop, 1)) (hpc : pc + 1 = pc') (hv : v.category = 1) (h : Go p e below s mc ms Q m T pc' Ls (st)) : Go p e below s mc ms Q m T pc Ls (v :: st) := by
  subst hpc; exact h.of fun _ kk => XT.pop (g := mkF m pc Ls (v :: st)) X.here hx rfl (hb hby hd) rfl hv kk
theorem Go.goto (X : Stand p l e R s m args below meth c T locs cells slots) (hx : p.tables.exec = Jvm.exec) (hby : c.code = code) {o : Int} (hd : decode code pc = .ok (.goto o, 3)) (ho : 0 ≤ (pc : Int) + o) (hp : ((pc : Int) + o).toNat = pc') (h : Go p e below s mc ms Q m T pc' Ls st) : Go p e below s mc ms Q m T pc Ls st :=
  h.of fun _ kk => XS.goto (g := mkF m pc Ls st) X.here hx rfl (pc0 := pc) rfl (hb hby hd) ho hp kk
theorem Go.icmp_eq (X : Stand p l e R s m args below meth c T locs cells slots) (hx : p.tables.exec = Jvm.exec) (hby : c.code = code) {pcN : Nat} {x y : Int32} {o : Int} (hd : decode code pc = .ok (.if_icmp .eq o, 3)) (ho : 0 ≤ (pc : Int) + o) (hp : ((pc : Int) + o).toNat = pc') (hn : pc + 3 = pcN) (yes : x = y → Go p e below s mc ms Q m T pc' Ls st) (no : ¬ x = y → Go p e below s mc ms Q m T pcN Ls st) : Go p e below s mc ms Q m T pc Ls (.int y :: .int x :: st) := by
  subst hn
  by_cases q : x = y
  · exact (yes q).of fun _ kk => XS.icmpYes (g := mkF m pc Ls (.int y :: .int x :: st)) X.here hx rfl (pc0 := pc) rfl (hb hby hd) rfl (XT.ii_eq_t q) ho hp kk
  · exact (no q).of fun _ kk => XS.icmpNo (g := mkF m pc Ls (.int y :: .int x :: st)) X.here hx rfl (hb hby hd) rfl (XT.ii_eq_f q) kk
theorem Go.icmp_ne (X : Stand p l e R s m args below meth c T locs cells slots) (hx : p.tables.exec = Jvm.exec) (hby : c.code = code) {pcN : Nat} {x y : Int32} {o : Int} (hd : decode code pc = .ok (.if_icmp .ne o, 3)) (ho : 0 ≤ (pc : Int) + o) (hp : ((pc : Int) + o).toNat = pc') (hn : pc + 3 = pcN) (yes : ¬ x = y → Go p e below s mc ms Q m T pc' Ls st) (no : x = y → Go p e below s mc ms Q m T pcN Ls st) : Go p e below s mc ms Q m T pc Ls (.int y :: .int x :: st) := by
  subst hn
  by_cases q : x = y
  · exact (no q).of fun _ kk => XS.icmpNo (g := mkF m pc Ls (.int y :: .int x :: st)) X.here hx rfl (hb hby hd) rfl (XT.ii_ne_f q) kk
  · exact (yes q).of fun _ kk => XS.icmpYes (g := mkF m pc Ls (.int y :: .int x :: st)) X.here hx rfl (pc0 := pc) rfl (hb hby hd) rfl (XT.ii_ne_t q) ho hp kk
theorem Go.icmp_lt (X : Stand p l e R s m args below meth c T locs cells slots) (hx : p.tables.exec = Jvm.exec) (hby : c.code = code) {pcN : Nat} {x y : Int32} {o : Int} (hd : decode code pc = .ok (.if_icmp .lt o, 3)) (ho : 0 ≤ (pc : Int) + o) (hp : ((pc : Int) + o).toNat = pc') (hn : pc + 3 = pcN) (yes : x < y → Go p e below s mc ms Q m T pc' Ls st) (no : ¬ x < y → Go p e below s mc ms Q m T pcN Ls st) : Go p e below s mc ms Q m T pc Ls (.int y :: .int x :: st) := by
  subst hn
  by_cases q : x < y
  · exact (yes q).of fun _ kk => XS.icmpYes (g := mkF m pc Ls (.int y :: .int x :: st)) X.here hx rfl (pc0 := pc) rfl (hb hby hd) rfl (XT.ii_lt_t q) ho hp kk
  · exact (no q).of fun _ kk => XS.icmpNo (g := mkF m pc Ls (.int y :: .int x :: st)) X.here hx rfl (hb hby hd) rfl (XT.ii_lt_f q) kk
theorem Go.icmp_ge (X : Stand p l e R s m args below meth c T locs cells slots) (hx : p.tables.exec = Jvm.exec) (hby : c.code = code) {pcN : Nat} {x y : Int32} {o : Int} (hd : decode code pc = .ok (.if_icmp .ge o, 3)) (ho : 0 ≤ (pc : Int) + o) (hp : ((pc : Int) + o).toNat = pc') (hn : pc + 3 = pcN) (yes : ¬ x < y → Go p e below s mc ms Q m T pc' Ls st) (no : x < y → Go p e below s mc ms Q m T pcN Ls st) : Go p e below s mc ms Q m T pc Ls (.int y :: .int x :: st) := by
  subst hn
  by_cases q : x < y
  · exact (no q).of fun _ kk => XS.icmpNo (g := mkF m pc Ls (.int y :: .int x :: st)) X.here hx rfl (hb hby hd) rfl (XT.ii_ge_f q) kk
  · exact (yes q).of fun _ kk => XS.icmpYes (g := mkF m pc Ls (.int y :: .int x :: st)) X.here hx rfl (pc0 := pc) rfl (hb hby hd) rfl (XT.ii_ge_t q) ho hp kk
theorem Go.icmp_gt (X : Stand p l e R s m args below meth c T locs cells slots) (hx : p.tables.exec = Jvm.exec) (hby : c.code = code) {pcN : Nat} {x y : Int32} {o : Int} (hd : decode code pc = .ok (.if_icmp .gt o, 3)) (ho : 0 ≤ (pc : Int) + o) (hp : ((pc : Int) + o).toNat = pc') (hn : pc + 3 = pcN) (yes : y < x → Go p e below s mc ms Q m T pc' Ls st) (no : ¬ y < x → Go p e below s mc ms Q m T pcN Ls st) : Go p e below s mc ms Q m T pc Ls (.int y :: .int x :: st) := by
  subst hn
  by_cases q : y < x
  · exact (yes q).of fun _ kk => XS.icmpYes (g := mkF m pc Ls (.int y :: .int x :: st)) X.here hx rfl (pc0 := pc) rfl (hb hby hd) rfl (XT.ii_gt_t q) ho hp kk
  · exact (no q).of fun _ kk => XS.icmpNo (g := mkF m pc Ls (.int y :: .int x :: st)) X.here hx rfl (hb hby hd) rfl (XT.ii_gt_f q) kk
theorem Go.icmp_le (X : Stand p l e R s m args below meth c T locs cells slots) (hx : p.tables.exec = Jvm.exec) (hby : c.code = code) {pcN : Nat} {x y : Int32} {o : Int} (hd : decode code pc = .ok (.if_icmp .le o, 3)) (ho : 0 ≤ (pc : Int) + o) (hp : ((pc : Int) + o).toNat = pc') (hn : pc + 3 = pcN) (yes : ¬ y < x → Go p e below s mc ms Q m T pc' Ls st) (no : y < x → Go p e below s mc ms Q m T pcN Ls st) : Go p e below s mc ms Q m T pc Ls (.int y :: .int x :: st) := by
  subst hn
  by_cases q : y < x
  · exact (no q).of fun _ kk => XS.icmpNo (g := mkF m pc Ls (.int y :: .int x :: st)) X.here hx rfl (hb hby hd) rfl (XT.ii_le_f q) kk
  · exact (yes q).of fun _ kk => XS.icmpYes (g := mkF m pc Ls (.int y :: .int x :: st)) X.here hx rfl (pc0 := pc) rfl (hb hby hd) rfl (XT.ii_le_t q) ho hp kk
theorem Go.if_eq (X : Stand p l e R s m args below meth c T locs cells slots) (hx : p.tables.exec = Jvm.exec) (hby : c.code = code) {pcN : Nat} {x : Int32} {o : Int} (hd : decode code pc = .ok (.ifCond .eq o, 3)) (ho : 0 ≤ (pc : Int) + o) (hp : ((pc : Int) + o).toNat = pc') (hn : pc + 3 = pcN) (yes : x = 0 → Go p e below s mc ms Q m T pc' Ls st) (no : ¬ x = 0 → Go p e below s mc ms Q m T pcN Ls st) : Go p e below s mc ms Q m T pc Ls (.int x :: st) := by
  subst hn
  by_cases q : x = 0
  · exact (yes q).of fun _ kk => XS.ifYes (g := mkF m pc Ls (.int x :: st)) X.here hx rfl (pc0 := pc) rfl (hb hby hd) rfl (XT.i0_eq_t q) ho hp kk
  · exact (no q).of fun _ kk => XS.ifNo (g := mkF m pc Ls (.int x :: st)) X.here hx rfl (hb hby hd) rfl (XT.i0_eq_f q) kk
theorem Go.if_ne (X : Stand p l e R s m args below meth c T locs cells slots) (hx : p.tables.exec = Jvm.exec) (hby : c.code = code) {pcN : Nat} {x : Int32} {o : Int} (hd : decode code pc = .ok (.ifCond .ne o, 3)) (ho : 0 ≤ (pc : Int) + o) (hp : ((pc : Int) + o).toNat = pc') (hn : pc + 3 = pcN) (yes : ¬ x = 0 → Go p e below s mc ms Q m T pc' Ls st) (no : x = 0 → Go p e below s mc ms Q m T pcN Ls st) : Go p e below s mc ms Q m T pc Ls (.int x :: st) := by
  subst hn
  by_cases q : x = 0
  · exact (no q).of fun _ kk => XS.ifNo (g := mkF m pc Ls (.int x :: st)) X.here hx rfl (hb hby hd) rfl (XT.i0_ne_f q) kk
  · exact (yes q).of fun _ kk => XS.ifYes (g := mkF m pc Ls (.int x :: st)) X.here hx rfl (pc0 := pc) rfl (hb hby hd) rfl (XT.i0_ne_t q) ho hp kk
theorem Go.if_lt (X : Stand p l e R s m args below meth c T locs cells slots) (hx : p.tables.exec = Jvm.exec) (hby : c.code = code) {pcN : Nat} {x : Int32} {o : Int} (hd : decode code pc = .ok (.ifCond .lt o, 3)) (ho : 0 ≤ (pc : Int) + o) (hp : ((pc : Int) + o).toNat = pc') (hn : pc + 3 = pcN) (yes : x < 0 → Go p e below s mc ms Q m T pc' Ls st) (no : ¬ x < 0 → Go p e below s mc ms Q m T pcN Ls st) : Go p e below s mc ms Q m T pc Ls (.int x :: st) := by
  subst hn
  by_cases q : x < 0
  · exact (yes q).of fun _ kk => XS.ifYes (g := mkF m pc Ls (.int x :: st)) X.here hx rfl (pc0 := pc) rfl (hb hby hd) rfl (XT.i0_lt_t q) ho hp kk
  · exact (no q).of fun _ kk => XS.ifNo (g := mkF m pc Ls (.int x :: st)) X.here hx rfl (hb hby hd) rfl (XT.i0_lt_f q) kk
theorem Go.if_ge (X : Stand p l e R s m args below meth c T locs cells slots) (hx : p.tables.exec = Jvm.exec) (hby : c.code = code) {pcN : Nat} {x : Int32} {o : Int} (hd : decode code pc = .ok (.ifCond .ge o, 3)) (ho : 0 ≤ (pc : Int) + o) (hp : ((pc : Int) + o).toNat = pc') (hn : pc + 3 = pcN) (yes : ¬ x < 0 → Go p e below s mc ms Q m T pc' Ls st) (no : x < 0 → Go p e below s mc ms Q m T pcN Ls st) : Go p e below s mc ms Q m T pc Ls (.int x :: st) := by
  subst hn
  by_cases q : x < 0
  · exact (no q).of fun _ kk => XS.ifNo (g := mkF m pc Ls (.int x :: st)) X.here hx rfl (hb hby hd) rfl (XT.i0_ge_f q) kk
  · exact (yes q).of fun _ kk => XS.ifYes (g := mkF m pc Ls (.int x :: st)) X.here hx rfl (pc0 := pc) rfl (hb hby hd) rfl (XT.i0_ge_t q) ho hp kk
theorem Go.if_gt (X : Stand p l e R s m args below meth c T locs cells slots) (hx : p.tables.exec = Jvm.exec) (hby : c.code = code) {pcN : Nat} {x : Int32} {o : Int} (hd : decode code pc = .ok (.ifCond .gt o, 3)) (ho : 0 ≤ (pc : Int) + o) (hp : ((pc : Int) + o).toNat = pc') (hn : pc + 3 = pcN) (yes : 0 < x → Go p e below s mc ms Q m T pc' Ls st) (no : ¬ 0 < x → Go p e below s mc ms Q m T pcN Ls st) : Go p e below s mc ms Q m T pc Ls (.int x :: st) := by
  subst hn
  by_cases q : 0 < x
  · exact (yes q).of fun _ kk => XS.ifYes (g := mkF m pc Ls (.int x :: st)) X.here hx rfl (pc0 := pc) rfl (hb hby hd) rfl (XT.i0_gt_t q) ho hp kk
  · exact (no q).of fun _ kk => XS.ifNo (g := mkF m pc Ls (.int x :: st)) X.here hx rfl (hb hby hd) rfl (XT.i0_gt_f q) kk
theorem Go.if_le (X : Stand p l e R s m args below meth c T locs cells slots) (hx : p.tables.exec = Jvm.exec) (hby : c.code = code) {pcN : Nat} {x : Int32} {o : Int} (hd : decode code pc = .ok (.ifCond .le o, 3)) (ho : 0 ≤ (pc : Int) + o) (hp : ((pc : Int) + o).toNat = pc') (hn : pc + 3 = pcN) (yes : ¬ 0 < x → Go p e below s mc ms Q m T pc' Ls st) (no : 0 < x → Go p e below s mc ms Q m T pcN Ls st) : Go p e below s mc ms Q m T pc Ls (.int x :: st) := by
  subst hn
  by_cases q : 0 < x
  · exact (no q).of fun _ kk => XS.ifNo (g := mkF m pc Ls (.int x :: st)) X.here hx rfl (hb hby hd) rfl (XT.i0_le_f q) kk
  · exact (yes q).of fun _ kk => XS.ifYes (g := mkF m pc Ls (.int x :: st)) X.here hx rfl (pc0 := pc) rfl (hb hby hd) rfl (XT.i0_le_t q) ho hp kk
theorem Go.ifL_eq (X : Stand p l e R s m args below meth c T locs cells slots) (hx : p.tables.exec = Jvm.exec) (hby : c.code = code) {pcN : Nat} {x y : Int64} {o : Int} (hd : decode code pc = .ok (.ifCond .eq o, 3)) (ho : 0 ≤ (pc : Int) + o) (hp : ((pc : Int) + o).toNat = pc') (hn : pc + 3 = pcN) (yes : x = y → Go p e below s mc ms Q m T pc' Ls st) (no : ¬ x = y → Go p e below s mc ms Q m T pcN Ls st) : Go p e below s mc ms Q m T pc Ls (.int (XT.cmpL x y) :: st) := by
  subst hn
  by_cases q : x = y
  · exact (yes q).of fun _ kk => XS.ifYes (g := mkF m pc Ls (.int (XT.cmpL x y) :: st)) X.here hx rfl (pc0 := pc) rfl (hb hby hd) rfl (XT.ll_eq_t q) ho hp kk
  · exact (no q).of fun _ kk => XS.ifNo (g := mkF m pc Ls (.int (XT.cmpL x y) :: st)) X.here hx rfl (hb hby hd) rfl (XT.ll_eq_f q) kk
theorem Go.ifL_ne (X : Stand p l e R s m args below meth c T locs cells slots) (hx : p.tables.exec = Jvm.exec) (hby : c.code = code) {pcN : Nat} {x y : Int64} {o : Int} (hd : decode code pc = .ok (.ifCond .ne o, 3)) (ho : 0 ≤ (pc : Int) + o) (hp : ((pc : Int) + o).toNat = pc') (hn : pc + 3 = pcN) (yes : ¬ x = y → Go p e below s mc ms Q m T pc' Ls st) (no : x = y → Go p e below s mc ms Q m T pcN Ls st) : Go p e below s mc ms Q m T pc Ls (.int (XT.cmpL x y) :: st) := by
  subst hn
  by_cases q : x = y
  · exact (no q).of fun _ kk => XS.ifNo (g := mkF m pc Ls (.int (XT.cmpL x y) :: st)) X.here hx rfl (hb hby hd) rfl (XT.ll_ne_f q) kk
  · exact (yes q).of fun _ kk => XS.ifYes (g := mkF m pc Ls (.int (XT.cmpL x y) :: st)) X.here hx rfl (pc0 := pc) rfl (hb hby hd) rfl (XT.ll_ne_t q) ho hp kk
theorem Go.ifL_lt (X : Stand p l e R s m args below meth c T locs cells slots) (hx : p.tables.exec = Jvm.exec) (hby : c.code = code) {pcN : Nat} {x y : Int64} {o : Int} (hd : decode code pc = .ok (.ifCond .lt o, 3)) (ho : 0 ≤ (pc : Int) + o) (hp : ((pc : Int) + o).toNat = pc') (hn : pc + 3 = pcN) (yes : x < y → Go p e below s mc ms Q m T pc' Ls st) (no : ¬ x < y → Go p e below s mc ms Q m T pcN Ls st) : Go p e below s mc ms Q m T pc Ls (.int (XT.cmpL x y) :: st) := by
  subst hn
  by_cases q : x < y
  · exact (yes q).of fun _ kk => XS.ifYes (g := mkF m pc Ls (.int (XT.cmpL x y) :: st)) X.here hx rfl (pc0 := pc) rfl (hb hby hd) rfl (XT.ll_lt_t q) ho hp kk
  · exact (no q).of fun _ kk => XS.ifNo (g := mkF m pc Ls (.int (XT.cmpL x y) :: st)) X.here hx rfl (hb hby hd) rfl (XT.ll_lt_f q) kk
theorem Go.ifL_ge (X : Stand p l e R s m args below meth c T locs cells slots) (hx : p.tables.exec = Jvm.exec) (hby : c.code = code) {pcN : Nat} {x y : Int64} {o : Int} (hd : decode code pc = .ok (.ifCond .ge o, 3)) (ho : 0 ≤ (pc : Int) + o) (hp : ((pc : Int) + o).toNat = pc') (hn : pc + 3 = pcN) (yes : ¬ x < y → Go p e below s mc ms Q m T pc' Ls st) (no : x < y → Go p e below s mc ms Q m T pcN Ls st) : Go p e below s mc ms Q m T pc Ls (.int (XT.cmpL x y) :: st) := by
  subst hn
  by_cases q : x < y
  · exact (no q).of fun _ kk => XS.ifNo (g := mkF m pc Ls (.int (XT.cmpL x y) :: st)) X.here hx rfl (hb hby hd) rfl (XT.ll_ge_f q) kk
  · exact (yes q).of fun _ kk => XS.ifYes (g := mkF m pc Ls (.int (XT.cmpL x y) :: st)) X.here hx rfl (pc0 := pc) rfl (hb hby hd) rfl (XT.ll_ge_t q) ho hp kk
theorem Go.ifL_gt (X : Stand p l e R s m args below meth c T locs cells slots) (hx : p.tables.exec = Jvm.exec) (hby : c.code = code) {pcN : Nat} {x y : Int64} {o : Int} (hd : decode code pc = .ok (.ifCond .gt o, 3)) (ho : 0 ≤ (pc : Int) + o) (hp : ((pc : Int) + o).toNat = pc') (hn : pc + 3 = pcN) (yes : y < x → Go p e below s mc ms Q m T pc' Ls st) (no : ¬ y < x → Go p e below s mc ms Q m T pcN Ls st) : Go p e below s mc ms Q m T pc Ls (.int (XT.cmpL x y) :: st) := by
  subst hn
  by_cases q : y < x
  · exact (yes q).of fun _ kk => XS.ifYes (g := mkF m pc Ls (.int (XT.cmpL x y) :: st)) X.here hx rfl (pc0 := pc) rfl (hb hby hd) rfl (XT.ll_gt_t q) ho hp kk
  · exact (no q).of fun _ kk => XS.ifNo (g := mkF m pc Ls (.int (XT.cmpL x y) :: st)) X.here hx rfl (hb hby hd) rfl (XT.ll_gt_f q) kk
theorem Go.ifL_le (X : Stand p l e R s m args below meth c T locs cells slots) (hx : p.tables.exec = Jvm.exec) (hby : c.code = code) {pcN : Nat} {x y : Int64} {o : Int} (hd : decode code pc = .ok (.ifCond .le o, 3)) (ho : 0 ≤ (pc : Int) + o) (hp : ((pc : Int) + o).toNat = pc') (hn : pc + 3 = pcN) (yes : ¬ y < x → Go p e below s mc ms Q m T pc' Ls st) (no : y < x → Go p e below s mc ms Q m T pcN Ls st) : Go p e below s mc ms Q m T pc Ls (.int (XT.cmpL x y) :: st) := by
  subst hn
  by_cases q : y < x
  · exact (no q).of fun _ kk => XS.ifNo (g := mkF m pc Ls (.int (XT.cmpL x y) :: st)) X.here hx rfl (hb hby hd) rfl (XT.ll_le_f q) kk
  · exact (yes q).of fun _ kk => XS.ifYes (g := mkF m pc Ls (.int (XT.cmpL x y) :: st)) X.here hx rfl (pc0 := pc) rfl (hb hby hd) rfl (XT.ll_le_t q) ho hp kk
theorem Go.iretI (X : Stand p l e R s m args below meth c T locs cells slots) (hx : p.tables.exec = Jvm.exec) (hby : c.code = code) (hlk : meth.locks = false) (hret : meth.sig.returnType = some .int) {w : Int32} (hd : decode code pc = .ok (.ireturn, 1)) (hc : cells ≤ mc) (hs : slots ≤ ms) (hq : Q (some (.int w)) T.heap locs) : Go p e below s mc ms Q m T pc Ls [.int w] := by
  obtain ⟨fs, hr, hrun, hended, hW, hsame⟩ := X.leave (v := some (.int w)) (fun h => by rw [hret] at h; cases h) hlk
  exact ⟨_, _, X.ireturnOut hx hret rfl (Or.inl rfl) (hb hby hd) hr, hrun, hended, _, _, rfl, hq, ⟨_, rfl⟩, hW, hsame.mono hc hs⟩
theorem Go.iretN (X : Stand p l e R s m args below meth c T locs cells slots) (hx : p.tables.exec = Jvm.exec) (hby : c.code = code) (hlk : meth.locks = false) {t : FieldType} (hret : meth.sig.returnType = some t) (ht : t = .boolean ∨ t = .byte ∨ t = .char ∨ t = .short) {w w' : Int32} (hw : nar t w = w') (hd : decode code pc = .ok (.ireturn, 1)) (hc : cells ≤ mc) (hs : slots ≤ ms) (hq : Q (some (.int w')) T.heap locs) : Go p e below s mc ms Q m T pc Ls [.int w] := by
  subst hw
  obtain ⟨fs, hr, hrun, hended, hW, hsame⟩ := X.leave (v := some (.int (nar t w))) (fun h => by rw [hret] at h; cases h) hlk
  exact ⟨_, _, retN X hx (t := t) hret ht (hb hby hd) hr, hrun, hended, _, _, rfl, hq, ⟨_, rfl⟩, hW, hsame.mono hc hs⟩
theorem Go.lret (X : Stand p l e R s m args below meth c T locs cells slots) (hx : p.tables.exec = Jvm.exec) (hby : c.code = code) (hlk : meth.locks = false) (hret : meth.sig.returnType = some .long) {w : Int64} (hd : decode code pc = .ok (.lreturn, 1)) (hc : cells ≤ mc) (hs : slots ≤ ms) (hq : Q (some (.long w)) T.heap locs) : Go p e below s mc ms Q m T pc Ls [.long w] := by
  obtain ⟨fs, hr, hrun, hended, hW, hsame⟩ := X.leave (v := some (.long w)) (fun h => by rw [hret] at h; cases h) hlk
  exact ⟨_, _, X.lreturnOut hx hret (hb hby hd) hr, hrun, hended, _, _, rfl, hq, ⟨_, rfl⟩, hW, hsame.mono hc hs⟩
theorem Go.aret (X : Stand p l e R s m args below meth c T locs cells slots) (hx : p.tables.exec = Jvm.exec) (hby : c.code = code) (hlk : meth.locks = false) {t : FieldType} (hret : meth.sig.returnType = some t) (ht : t.isReference = true) {w : Value} (hw : w.isRef = true) (hd : decode code pc = .ok (.areturn, 1)) (hc : cells ≤ mc) (hs : slots ≤ ms) (hq : Q (some w) T.heap locs) : Go p e below s mc ms Q m T pc Ls [w] := by
  obtain ⟨fs, hr, hrun, hended, hW, hsame⟩ := X.leave (v := some w) (fun h => by rw [hret] at h; cases h) hlk
  exact ⟨_, _, X.areturnOut hx hw hret ht (hb hby hd) hr, hrun, hended, _, _, rfl, hq, ⟨_, rfl⟩, hW, hsame.mono hc hs⟩
theorem Go.vret (X : Stand p l e R s m args below meth c T locs cells slots) (hx : p.tables.exec = Jvm.exec) (hby : c.code = code) (hlk : meth.locks = false) (hret : meth.sig.returnType = none) (hd : decode code pc = .ok (.return_, 1)) (hc : cells ≤ mc) (hs : slots ≤ ms) (hq : Q none T.heap locs) : Go p e below s mc ms Q m T pc Ls [] := by
  obtain ⟨fs, hr, hrun, hended, hW, hsame⟩ := X.leave (v := none) (fun _ => rfl) hlk
  exact ⟨_, _, X.returnOut hx hret (hb hby hd) hr, hrun, hended, _, _, rfl, hq, ⟨_, rfl⟩, hW, hsame.mono hc hs⟩
/-- what a body that keeps the heap leaves -/
def PQ (h0 : Heap) (r : Option Value) (v : Option Value) (h : Heap) (L : List Loc) : Prop := v = r ∧ L = [] ∧ h = h0
theorem Go.callS (X : Stand p l e R s m args below meth c T locs cells slots) (hx : p.tables.exec = Jvm.exec) (hby : c.code = code) {Z : State} {a0 : Array Value} {h : Heap} (hZ : Z.Warmed39 s.vm) (hml : Ls.size = c.maxLocals) {own : String} {k : Nat} {y : MethodName} {bytes : ByteArray} {maxL : Nat} {ret : Option FieldType} {rm : Room} {W : Nat} {as' : Array Value} {QY : Option Value → Heap → List Loc → Prop}
    (hown : s.vm.findClass own = some m.cls) (w1 : (Cond.methodLink own k y).before a0 Z = true) (w2 : (Cond.static y).before a0 Z = true) (w3 : (Cond.initialized y.cls).before a0 Z = true) (w4 : (Cond.code y bytes maxL ret).before a0 Z = true) (hy : y.cls ≠ "java/lang/invoke/MethodHandle" ∧ y.cls ≠ "java/lang/invoke/VarHandle")
    (hM : MetFree l y (head1 [Cond.code y bytes maxL ret] rm) (fun a U => a = as' ∧ Z.Warmed39 U.vm ∧ U.heap = h) (fun _ _ _ _ _ => True) (fun _ U o U' => ∃ v L, o = .returned v ∧ QY v U'.heap L ∧ FrameEnd U o U' L rm.cells rm.slots))
    (hf : rm.frames + 1 ≤ R.frames) (hl : W + (maxL + 11) + rm.locals ≤ R.locals) (eT : T.heap = h) {argsL rest : List Value} {sig : MethodDescriptor} (hsig : parseMethodDescriptor y.desc = some sig) (hlen : argsL.length = sig.parameters.length) (has : argsL.toArray = as') (hst : st = argsL.reverse ++ rest) (hW : (rest.map fun v => v.category).sum ≤ W)
    (hc : cells + rm.cells ≤ R.cells) (hsl : slots + rm.slots ≤ R.slots) (hd : decode code pc = .ok (.invokestatic k, 3)) (hpc : pc + 3 = pc')
    (K : ∀ v T' L, Stand p l e R s m args below meth c T' (locs ++ L) (cells + rm.cells) (slots + rm.slots) → QY v T'.heap L → Go p e below s mc ms Q m T' pc' Ls (v.toList ++ rest)) : Go p e below s mc ms Q m T pc Ls st := by
  subst hpc hst has
  obtain ⟨v, vm₁, B, -, X', ⟨L, hQ, l1, l2, l3⟩, st⟩ := Jvm.LawKit.callS X hx hown (mvT hZ w1) (mvT hZ w2) (mvT hZ w3) (mvT hZ w4) hy (backOf (W := W) hM hZ w4 w3 hf hl) (g := mkF m pc Ls (argsL.reverse ++ rest)) rfl hml (argsL := argsL) (rest := rest) (lenOf hsig hlen) rfl (by show 2 * 0 + _ ≤ _; omega) (hb hby hd) (fun _ _ => ⟨rfl, eT, hc, hsl⟩)
  rw [l1, l2, l3] at X'
  exact (K v B.U L X' hQ).of st
theorem Go.callSP (X : Stand p l e R s m args below meth c T locs cells slots) (hx : p.tables.exec = Jvm.exec) (hby : c.code = code) {Z : State} {a0 : Array Value} {h : Heap} (hZ : Z.Warmed39 s.vm) (hml : Ls.size = c.maxLocals) {own : String} {k : Nat} {y : MethodName} {bytes : ByteArray} {maxL : Nat} {ret : Option FieldType} {rm : Room} {W : Nat} {as' : Array Value} {r : Value}
    (hown : s.vm.findClass own = some m.cls) (w1 : (Cond.methodLink own k y).before a0 Z = true) (w2 : (Cond.static y).before a0 Z = true) (w3 : (Cond.initialized y.cls).before a0 Z = true) (w4 : (Cond.code y bytes maxL ret).before a0 Z = true) (hy : y.cls ≠ "java/lang/invoke/MethodHandle" ∧ y.cls ≠ "java/lang/invoke/VarHandle")
    (hM : MetFree l y (head1 [Cond.code y bytes maxL ret] rm) (fun a U => a = as' ∧ Z.Warmed39 U.vm ∧ U.heap = h) (fun _ _ _ _ _ => True) (fun _ U o U' => ∃ v L, o = .returned v ∧ PQ h (some r) v U'.heap L ∧ FrameEnd U o U' L rm.cells rm.slots))
    (hf : rm.frames + 1 ≤ R.frames) (hl : W + (maxL + 11) + rm.locals ≤ R.locals) (eT : T.heap = h) {argsL rest : List Value} {sig : MethodDescriptor} (hsig : parseMethodDescriptor y.desc = some sig) (hlen : argsL.length = sig.parameters.length) (has : argsL.toArray = as') (hst : st = argsL.reverse ++ rest) (hW : (rest.map fun v => v.category).sum ≤ W)
    (r1 : rm.cells = 0) (r2 : rm.slots = 0) (hc : cells ≤ R.cells) (hsl : slots ≤ R.slots) (hd : decode code pc = .ok (.invokestatic k, 3)) (hpc : pc + 3 = pc')
    (K : ∀ T', Stand p l e R s m args below meth c T' locs cells slots → T'.heap = h → Go p e below s mc ms Q m T' pc' Ls (r :: rest)) : Go p e below s mc ms Q m T pc Ls st := by
  refine Go.callS X hx hby hZ hml hown w1 w2 w3 w4 hy hM hf hl eT hsig hlen has hst hW (by rw [r1]; exact hc) (by rw [r2]; exact hsl) hd hpc (fun v T' L X' hQ => ?_)
  obtain ⟨rfl, rfl, e1⟩ := hQ
  rw [List.append_nil, r1, r2] at X'
  exact K T' X' e1
end Law

/-- the place j is in the list -/
abbrev inA {α : Type} (A : List α) (j : Int32) : Prop := ¬ (j < 0 ∨ A.length ≤ j.toNatClampNeg)
def atA {α : Type} [OfNat α 0] (A : List α) (j : Int32) : α := A.getD j.toNatClampNeg 0
def setA {α : Type} (A : List α) (j : Int32) (v : α) : List α := A.set j.toNatClampNeg v
def lenA {α : Type} (A : List α) : Int32 := A.length.toInt32
/-- an array of ints, bytes, chars that holds the list -/
def AryI (Z : State) (h : Heap) (a : Addr) (ty : FieldType) (A : List Int32) : Prop := ∃ (k : ClassId) (z : Int32), Arv Z h a k ty z (A.map Value.int) (.int 0) ∧ z.toNatClampNeg = A.length
def AryJ (Z : State) (h : Heap) (a : Addr) (A : List Int64) : Prop := ∃ (k : ClassId) (z : Int32), Arv Z h a k .long z (A.map Value.long) (.long 0) ∧ z.toNatClampNeg = A.length
theorem own_inK {α : Type} {A : List α} {j : Int32} {n : Nat} (hl : A.length = n) (hj : ¬ (j < 0 ∨ n ≤ j.toNatClampNeg)) : inA A j := by subst hl; exact hj
section Heaps
variable {p : Program} {l : Launch} {e : Env} {R : Room} {s : State} {m : MethodId} {args : Array Value} {below : List Frame} {meth : Method} {c : Code} {T T' : State} {locs : List Loc} {cells slots : Nat} {code : ByteArray} {Q : Option Value → Heap → List Loc → Prop} {mc ms : Nat} {pc pc' : Nat} {Ls Ls' : Array Slot} {st st' rest : List Value}
variable {Z : State} {h h' : Heap} {a b : Addr} {ty : FieldType} {A : List Int32} {J : List Int64} {sl : Nat} {v : Value} {ws : List Addr} {a0 : Array Value}
theorem AryI.lt (F : AryI Z h a ty A) : a < h.size := by obtain ⟨k, z, V, -⟩ := F; exact V.lt
theorem AryI.ext (F : AryI Z h a ty A) (E : Ext h h') : AryI Z h' a ty A := by obtain ⟨k, z, V, q⟩ := F; exact ⟨k, z, V.ext E, q⟩
theorem AryI.other (F : AryI Z h b ty A) (W : Wr h h' a sl v) (q : b ≠ a) : AryI Z h' b ty A := by obtain ⟨k, z, V, r⟩ := F; exact ⟨k, z, V.other W q, r⟩
theorem AryI.keep (F : AryI Z h a ty A) (K : Keep h h' ws) (q : a ∉ ws) : AryI Z h' a ty A := by obtain ⟨k, z, V, r⟩ := F; exact ⟨k, z, V.keep K q, r⟩
theorem AryJ.lt (F : AryJ Z h a J) : a < h.size := by obtain ⟨k, z, V, -⟩ := F; exact V.lt
theorem AryJ.ext (F : AryJ Z h a J) (E : Ext h h') : AryJ Z h' a J := by obtain ⟨k, z, V, q⟩ := F; exact ⟨k, z, V.ext E, q⟩
theorem AryJ.other (F : AryJ Z h b J) (W : Wr h h' a sl v) (q : b ≠ a) : AryJ Z h' b J := by obtain ⟨k, z, V, r⟩ := F; exact ⟨k, z, V.other W q, r⟩
theorem AryJ.keep (F : AryJ Z h a J) (K : Keep h h' ws) (q : a ∉ ws) : AryJ Z h' a J := by obtain ⟨k, z, V, r⟩ := F; exact ⟨k, z, V.keep K q, r⟩
theorem own_getI (A : List Int32) (n : Nat) : (A.map Value.int).getD n (.int 0) = .int (A.getD n 0) := by
  simp only [List.getD_eq_getElem?_getD, List.getElem?_map]; cases A[n]? <;> rfl
theorem own_getJ (A : List Int64) (n : Nat) : (A.map Value.long).getD n (.long 0) = .long (A.getD n 0) := by
  simp only [List.getD_eq_getElem?_getD, List.getElem?_map]; cases A[n]? <;> rfl
theorem own_fin {α : Type} {w r : α} {P : α → Prop} (e : some w = some r) (h : P w) : P r := Option.some.inj e ▸ h
theorem Go.baload (X : Stand p l e R s m args below meth c T locs cells slots) (hx : p.tables.exec = Jvm.exec) (hby : c.code = code) (hZ : Z.Warmed39 s.vm) (eT : T.heap = h) (F : AryI Z h a .byte A) {j : Int32} (hj : inA A j) (hd : decode code pc = .ok (.baload, 1)) (hpc : pc + 1 = pc') (K : Go p e below s mc ms Q m T pc' Ls (.int (atA A j) :: st)) : Go p e below s mc ms Q m T pc Ls (.int j :: .ref a :: st) := by
  subst hpc
  obtain ⟨k, z, ⟨cl, Ar, q1, S, q3, H, -⟩, r⟩ := F
  have hin : ¬ (j < 0 ∨ cl.slots.size ≤ j.toNatClampNeg) := by rw [S, r]; exact hj
  have hv : cl.slots[j.toNatClampNeg]? = some (.int (atA A j)) := by rw [H _ (Nat.lt_of_not_le fun y => hin (Or.inr y)), own_getI]; rfl
  exact K.of fun t kk => X.baloadBytes hx (by rw [eT]; exact Ar.1) (State.isArrayOf_alike hZ.alike Ar.2.1) Ar.2.2 hin hv (g := mkF m pc Ls (.int j :: .ref a :: st)) rfl rfl (hb hby hd) t kk
theorem Go.caload (X : Stand p l e R s m args below meth c T locs cells slots) (hx : p.tables.exec = Jvm.exec) (hby : c.code = code) (hZ : Z.Warmed39 s.vm) (eT : T.heap = h) (F : AryI Z h a .char A) {j : Int32} (hj : inA A j) (hd : decode code pc = .ok (.caload, 1)) (hpc : pc + 1 = pc') (K : Go p e below s mc ms Q m T pc' Ls (.int (atA A j) :: st)) : Go p e below s mc ms Q m T pc Ls (.int j :: .ref a :: st) := by
  subst hpc
  obtain ⟨k, z, ⟨cl, Ar, q1, S, q3, H, -⟩, r⟩ := F
  have hin : ¬ (j < 0 ∨ cl.slots.size ≤ j.toNatClampNeg) := by rw [S, r]; exact hj
  have hv : cl.slots[j.toNatClampNeg]? = some (.int (atA A j)) := by rw [H _ (Nat.lt_of_not_le fun y => hin (Or.inr y)), own_getI]; rfl
  exact K.of fun t kk => X.caload hx (by rw [eT]; exact Ar.1) (State.isArrayOf_alike hZ.alike Ar.2.1) Ar.2.2 hin hv (g := mkF m pc Ls (.int j :: .ref a :: st)) rfl rfl (hb hby hd) t kk
theorem Go.iaload (X : Stand p l e R s m args below meth c T locs cells slots) (hx : p.tables.exec = Jvm.exec) (hby : c.code = code) (hZ : Z.Warmed39 s.vm) (eT : T.heap = h) (F : AryI Z h a .int A) {j : Int32} (hj : inA A j) (hd : decode code pc = .ok (.iaload, 1)) (hpc : pc + 1 = pc') (K : Go p e below s mc ms Q m T pc' Ls (.int (atA A j) :: st)) : Go p e below s mc ms Q m T pc Ls (.int j :: .ref a :: st) := by
  subst hpc
  obtain ⟨k, z, ⟨cl, Ar, q1, S, q3, H, -⟩, r⟩ := F
  have hin : ¬ (j < 0 ∨ cl.slots.size ≤ j.toNatClampNeg) := by rw [S, r]; exact hj
  have hv : cl.slots[j.toNatClampNeg]? = some (.int (atA A j)) := by rw [H _ (Nat.lt_of_not_le fun y => hin (Or.inr y)), own_getI]; rfl
  exact K.of fun t kk => X.iaload hx (by rw [eT]; exact Ar.1) (State.isArrayOf_alike hZ.alike Ar.2.1) Ar.2.2 hin hv (g := mkF m pc Ls (.int j :: .ref a :: st)) rfl rfl (hb hby hd) t kk
theorem Go.laload (X : Stand p l e R s m args below meth c T locs cells slots) (hx : p.tables.exec = Jvm.exec) (hby : c.code = code) (hZ : Z.Warmed39 s.vm) (eT : T.heap = h) (F : AryJ Z h a J) {j : Int32} (hj : inA J j) (hd : decode code pc = .ok (.laload, 1)) (hpc : pc + 1 = pc') (K : Go p e below s mc ms Q m T pc' Ls (.long (atA J j) :: st)) : Go p e below s mc ms Q m T pc Ls (.int j :: .ref a :: st) := by
  subst hpc
  obtain ⟨k, z, ⟨cl, Ar, q1, S, q3, H, -⟩, r⟩ := F
  have hin : ¬ (j < 0 ∨ cl.slots.size ≤ j.toNatClampNeg) := by rw [S, r]; exact hj
  have hv : cl.slots[j.toNatClampNeg]? = some (.long (atA J j)) := by rw [H _ (Nat.lt_of_not_le fun y => hin (Or.inr y)), own_getJ]; rfl
  exact K.of fun t kk => X.laload hx (by rw [eT]; exact Ar.1) (State.isArrayOf_alike hZ.alike Ar.2.1) Ar.2.2 hin hv (g := mkF m pc Ls (.int j :: .ref a :: st)) rfl rfl (hb hby hd) t kk
theorem Go.alen (X : Stand p l e R s m args below meth c T locs cells slots) (hx : p.tables.exec = Jvm.exec) (hby : c.code = code) (hZ : Z.Warmed39 s.vm) (eT : T.heap = h) (F : AryI Z h a ty A) (hd : decode code pc = .ok (.arraylength, 1)) (hpc : pc + 1 = pc') (K : Go p e below s mc ms Q m T pc' Ls (.int (lenA A) :: st)) : Go p e below s mc ms Q m T pc Ls (.ref a :: st) := by
  subst hpc
  obtain ⟨k, z, ⟨cl, Ar, q1, S, q3, H, -⟩, r⟩ := F
  have e2 : cl.slots.size.toInt32 = lenA A := by rw [S, r]; rfl
  exact K.of fun t kk => X.arraylength hx (by rw [eT]; exact Ar.1) (State.isArrayOf_alike hZ.alike Ar.2.1) (g := mkF m pc Ls (.ref a :: st)) rfl rfl (hb hby hd) t (by rw [e2]; exact kk)
theorem Go.alenJ (X : Stand p l e R s m args below meth c T locs cells slots) (hx : p.tables.exec = Jvm.exec) (hby : c.code = code) (hZ : Z.Warmed39 s.vm) (eT : T.heap = h) (F : AryJ Z h a J) (hd : decode code pc = .ok (.arraylength, 1)) (hpc : pc + 1 = pc') (K : Go p e below s mc ms Q m T pc' Ls (.int (lenA J) :: st)) : Go p e below s mc ms Q m T pc Ls (.ref a :: st) := by
  subst hpc
  obtain ⟨k, z, ⟨cl, Ar, q1, S, q3, H, -⟩, r⟩ := F
  have e2 : cl.slots.size.toInt32 = lenA J := by rw [S, r]; rfl
  exact K.of fun t kk => X.arraylength hx (by rw [eT]; exact Ar.1) (State.isArrayOf_alike hZ.alike Ar.2.1) (g := mkF m pc Ls (.ref a :: st)) rfl rfl (hb hby hd) t (by rw [e2]; exact kk)
theorem Go.bastore (X : Stand p l e R s m args below meth c T locs cells slots) (hx : p.tables.exec = Jvm.exec) (hby : c.code = code) (hZ : Z.Warmed39 s.vm) (eT : T.heap = h) (F : AryI Z h a .byte A) {j x : Int32} (hj : inA A j) (hd : decode code pc = .ok (.bastore, 1)) (hpc : pc + 1 = pc') (K : ∀ T' h', Stand p l e R s m args below meth c T' (locs ++ [⟨a, j.toNatClampNeg⟩]) cells slots → T'.heap = h' → Wr h h' a j.toNatClampNeg (.int (i2bF x)) → AryI Z h' a .byte (setA A j (i2bF x)) → Go p e below s mc ms Q m T' pc' Ls st) : Go p e below s mc ms Q m T pc Ls (.int x :: .int j :: .ref a :: st) := by
  subst hpc
  obtain ⟨k, z, ⟨cl, Ar, q1, S, q3, H, H2⟩, r⟩ := F
  have hin : ¬ (j < 0 ∨ cl.slots.size ≤ j.toNatClampNeg) := by rw [S, r]; exact hj
  obtain ⟨T', h', X', e', W, stp⟩ := stB X hx hZ eT Ar hin (g := mkF m pc Ls (.int x :: .int j :: .ref a :: st)) rfl rfl (hb hby hd)
  have V := Arv.set (v := .int (i2bF x)) Ar q1 S q3 H H2 (fits_nar_byte x) W j.toNatClampNeg rfl (by rw [List.length_map]; exact Nat.lt_of_not_le fun y => hj (Or.inr y))
  exact (K T' h' X' e' W ⟨k, z, by rw [setA, List.map_set]; exact V, by rw [setA, List.length_set]; exact r⟩).of stp
theorem Go.castore (X : Stand p l e R s m args below meth c T locs cells slots) (hx : p.tables.exec = Jvm.exec) (hby : c.code = code) (hZ : Z.Warmed39 s.vm) (eT : T.heap = h) (F : AryI Z h a .char A) {j x : Int32} (hj : inA A j) (hd : decode code pc = .ok (.castore, 1)) (hpc : pc + 1 = pc') (K : ∀ T' h', Stand p l e R s m args below meth c T' (locs ++ [⟨a, j.toNatClampNeg⟩]) cells slots → T'.heap = h' → Wr h h' a j.toNatClampNeg (.int (i2cF x)) → AryI Z h' a .char (setA A j (i2cF x)) → Go p e below s mc ms Q m T' pc' Ls st) : Go p e below s mc ms Q m T pc Ls (.int x :: .int j :: .ref a :: st) := by
  subst hpc
  obtain ⟨k, z, ⟨cl, Ar, q1, S, q3, H, H2⟩, r⟩ := F
  have hin : ¬ (j < 0 ∨ cl.slots.size ≤ j.toNatClampNeg) := by rw [S, r]; exact hj
  obtain ⟨T', h', X', e', W, stp⟩ := stC X hx hZ eT Ar hin (g := mkF m pc Ls (.int x :: .int j :: .ref a :: st)) rfl rfl (hb hby hd)
  have V := Arv.set (v := .int (i2cF x)) Ar q1 S q3 H H2 (fits_nar_char x) W j.toNatClampNeg rfl (by rw [List.length_map]; exact Nat.lt_of_not_le fun y => hj (Or.inr y))
  exact (K T' h' X' e' W ⟨k, z, by rw [setA, List.map_set]; exact V, by rw [setA, List.length_set]; exact r⟩).of stp
theorem Go.iastore (X : Stand p l e R s m args below meth c T locs cells slots) (hx : p.tables.exec = Jvm.exec) (hby : c.code = code) (hZ : Z.Warmed39 s.vm) (eT : T.heap = h) (F : AryI Z h a .int A) {j x : Int32} (hj : inA A j) (hd : decode code pc = .ok (.iastore, 1)) (hpc : pc + 1 = pc') (K : ∀ T' h', Stand p l e R s m args below meth c T' (locs ++ [⟨a, j.toNatClampNeg⟩]) cells slots → T'.heap = h' → Wr h h' a j.toNatClampNeg (.int x) → AryI Z h' a .int (setA A j x) → Go p e below s mc ms Q m T' pc' Ls st) : Go p e below s mc ms Q m T pc Ls (.int x :: .int j :: .ref a :: st) := by
  subst hpc
  obtain ⟨k, z, ⟨cl, Ar, q1, S, q3, H, H2⟩, r⟩ := F
  have hin : ¬ (j < 0 ∨ cl.slots.size ≤ j.toNatClampNeg) := by rw [S, r]; exact hj
  obtain ⟨T', h', X', e', W, stp⟩ := stI X hx hZ eT Ar hin (g := mkF m pc Ls (.int x :: .int j :: .ref a :: st)) rfl rfl (hb hby hd)
  have V := Arv.set (v := .int x) Ar q1 S q3 H H2 rfl W j.toNatClampNeg rfl (by rw [List.length_map]; exact Nat.lt_of_not_le fun y => hj (Or.inr y))
  exact (K T' h' X' e' W ⟨k, z, by rw [setA, List.map_set]; exact V, by rw [setA, List.length_set]; exact r⟩).of stp
theorem Go.lastore (X : Stand p l e R s m args below meth c T locs cells slots) (hx : p.tables.exec = Jvm.exec) (hby : c.code = code) (hZ : Z.Warmed39 s.vm) (eT : T.heap = h) (F : AryJ Z h a J) {j : Int32} {x : Int64} (hj : inA J j) (hd : decode code pc = .ok (.lastore, 1)) (hpc : pc + 1 = pc') (K : ∀ T' h', Stand p l e R s m args below meth c T' (locs ++ [⟨a, j.toNatClampNeg⟩]) cells slots → T'.heap = h' → Wr h h' a j.toNatClampNeg (.long x) → AryJ Z h' a (setA J j x) → Go p e below s mc ms Q m T' pc' Ls st) : Go p e below s mc ms Q m T pc Ls (.long x :: .int j :: .ref a :: st) := by
  subst hpc
  obtain ⟨k, z, ⟨cl, Ar, q1, S, q3, H, H2⟩, r⟩ := F
  have hin : ¬ (j < 0 ∨ cl.slots.size ≤ j.toNatClampNeg) := by rw [S, r]; exact hj
  obtain ⟨T', h', X', e', W, stp⟩ := stJ X hx hZ eT Ar hin (g := mkF m pc Ls (.long x :: .int j :: .ref a :: st)) rfl rfl (hb hby hd)
  have V := Arv.set (v := .long x) Ar q1 S q3 H H2 rfl W j.toNatClampNeg rfl (by rw [List.length_map]; exact Nat.lt_of_not_le fun y => hj (Or.inr y))
  exact (K T' h' X' e' W ⟨k, z, by rw [setA, List.map_set]; exact V, by rw [setA, List.length_set]; exact r⟩).of stp
theorem Go.newA (X : Stand p l e R s m args below meth c T locs cells slots) (hx : p.tables.exec = Jvm.exec) (hby : c.code = code) (hZ : Z.Warmed39 s.vm) {nn : Nat} {n : Int32} {aty : ArrayType} (w : (Cond.arrayClass ty).before a0 Z = true) (eT : T.heap = h) (hd : decode code pc = .ok (.newarray aty, 2)) (hpc : pc + 2 = pc') (ht : newarray.typeOf aty = ty) (hv : defaultValue ty = .int 0) (hn : n.toNatClampNeg = nn) (hn0 : ¬ n < 0) (hcap : nn * 8 ≤ 536870912) (hc : cells + 1 ≤ R.cells) (hsl : slots + nn ≤ R.slots)
    (K : ∀ T' h' (a : Addr), Stand p l e R s m args below meth c T' locs (cells + 1) (slots + nn) → T'.heap = h' → Ext h h' → h.size ≤ a → AryI Z h' a ty (List.replicate nn 0) → Go p e below s mc ms Q m T' pc' Ls (.ref a :: st)) : Go p e below s mc ms Q m T pc Ls (.int n :: st) := by
  subst hpc ht
  obtain ⟨T', h', cA, X', e', E, Ar, stp⟩ := newP X hx hZ w eT (g := mkF m pc Ls (.int n :: st)) rfl (hb hby hd) rfl hn0 (cap := nn) (Nat.le_of_eq hn) hcap hc hsl
  have V := Arv.new Ar hn0
  rw [hv] at V
  have V2 := Arv.pad V (vs' := (List.replicate nn (0 : Int32)).map Value.int) (fun i => by rw [List.map_replicate]; exact pad_rep [] (.int 0) nn i)
  exact (K T' h' h.size X' e' E (Nat.le_refl _) ⟨cA, n, V2, by rw [hn, List.length_replicate]⟩).of stp
theorem Go.newAJ (X : Stand p l e R s m args below meth c T locs cells slots) (hx : p.tables.exec = Jvm.exec) (hby : c.code = code) (hZ : Z.Warmed39 s.vm) {nn : Nat} {n : Int32} (w : (Cond.arrayClass .long).before a0 Z = true) (eT : T.heap = h) (hd : decode code pc = .ok (.newarray .long, 2)) (hpc : pc + 2 = pc') (hn : n.toNatClampNeg = nn) (hn0 : ¬ n < 0) (hcap : nn * 8 ≤ 536870912) (hc : cells + 1 ≤ R.cells) (hsl : slots + nn ≤ R.slots)
    (K : ∀ T' h' (a : Addr), Stand p l e R s m args below meth c T' locs (cells + 1) (slots + nn) → T'.heap = h' → Ext h h' → h.size ≤ a → AryJ Z h' a (List.replicate nn 0) → Go p e below s mc ms Q m T' pc' Ls (.ref a :: st)) : Go p e below s mc ms Q m T pc Ls (.int n :: st) := by
  subst hpc
  obtain ⟨T', h', cA, X', e', E, Ar, stp⟩ := newP (aty := .long) X hx hZ w eT (g := mkF m pc Ls (.int n :: st)) rfl (hb hby hd) rfl hn0 (cap := nn) (Nat.le_of_eq hn) hcap hc hsl
  have V : Arv Z h' h.size cA .long n [] (.long 0) := Arv.new Ar hn0
  have V2 := Arv.pad V (vs' := (List.replicate nn (0 : Int64)).map Value.long) (fun i => by rw [List.map_replicate]; exact pad_rep [] (.long 0) nn i)
  exact (K T' h' h.size X' e' E (Nat.le_refl _) ⟨cA, n, V2, by rw [hn, List.length_replicate]⟩).of stp
theorem Go.ifnullNo (X : Stand p l e R s m args below meth c T locs cells slots) (hx : p.tables.exec = Jvm.exec) (hby : c.code = code) {o : Int} (hd : decode code pc = .ok (.ifnull o, 3)) (hpc : pc + 3 = pc') (K : Go p e below s mc ms Q m T pc' Ls st) : Go p e below s mc ms Q m T pc Ls (.ref a :: st) := by
  subst hpc; exact K.of fun _ kk => XS.ifnullNo (g := mkF m pc Ls (.ref a :: st)) X.here hx rfl (hb hby hd) rfl kk
theorem Go.acmpNe (X : Stand p l e R s m args below meth c T locs cells slots) (hx : p.tables.exec = Jvm.exec) (hby : c.code = code) {o : Int} (hd : decode code pc = .ok (.if_acmp .eq o, 3)) (hpc : pc + 3 = pc') (hne : a ≠ b) (K : Go p e below s mc ms Q m T pc' Ls st) : Go p e below s mc ms Q m T pc Ls (.ref b :: .ref a :: st) := by
  subst hpc; exact K.of fun _ kk => XT.acmpNo (g := mkF m pc Ls (.ref b :: .ref a :: st)) X.here hx rfl (hb hby hd) rfl rfl rfl (XT.aa_eq_f fun q => hne (Value.ref.inj q)) kk
theorem Go.getF (X : Stand p l e R s m args below meth c T locs cells slots) (hx : p.tables.exec = Jvm.exec) (hby : c.code = code) (hZ : Z.Warmed39 s.vm) {own O n d : String} {k : Nat} {v : Value} (hown : s.vm.findClass own = some m.cls) (w : (Cond.fieldLink own k O n d).before a0 Z = true) (eT : T.heap = h) (F : Fld Z h a O n d v) (hd : decode code pc = .ok (.getfield k, 3)) (hpc : pc + 3 = pc') (K : ∀ T', Stand p l e R s m args below meth c T' locs cells slots → T'.heap = h → Go p e below s mc ms Q m T' pc' Ls (v :: st)) : Go p e below s mc ms Q m T pc Ls (.ref a :: st) := by
  subst hpc
  obtain ⟨T', X', e', stp⟩ := getF X hx hZ hown (host := "") (Or.inl w) Via.refl eT F (g := mkF m pc Ls (.ref a :: st)) rfl rfl (hb hby hd)
  exact (K T' X' e').of stp
theorem Go.putF (X : Stand p l e R s m args below meth c T locs cells slots) (hx : p.tables.exec = Jvm.exec) (hby : c.code = code) (hZ : Z.Warmed39 s.vm) {own O n d C : String} {k kk : Nat} {ty : FieldType} {v old : Value} (hown : s.vm.findClass own = some m.cls) (w : (Cond.fieldLink own k O n d).before a0 Z = true) (eT : T.heap = h) (F : Fld Z h a O n d old) (E : Exa Z h a C) (L : (Cond.lays C O n d).before a0 Z = true ∨ ((Cond.laysFinal C O n d).before a0 Z = true ∧ own = O ∧ meth.name = "<init>")) (wi : (Cond.instantiable C kk).before a0 Z = true)
    (hty : parseFieldDescriptor d = some ty) (hn : narrow ty v = v) (hf : fits ty v = true) (hd : decode code pc = .ok (.putfield k, 3)) (hpc : pc + 3 = pc') (K : ∀ T' h', Stand p l e R s m args below meth c T' (locs ++ [⟨a, RoadKit.slotOf Z O n d⟩]) cells slots → T'.heap = h' → Wr h h' a (RoadKit.slotOf Z O n d) v → Go p e below s mc ms Q m T' pc' Ls st) : Go p e below s mc ms Q m T pc Ls (v :: .ref a :: st) := by
  subst hpc
  obtain ⟨T', h', X', e', W, stp⟩ := putF X hx hZ hown (host := "") (Or.inl w) Via.refl eT F E L wi hty hn hf (g := mkF m pc Ls (v :: .ref a :: st)) rfl rfl (hb hby hd)
  exact (K T' h' X' e' W).of stp
theorem Go.newO (X : Stand p l e R s m args below meth c T locs cells slots) (hx : p.tables.exec = Jvm.exec) (hby : c.code = code) (hZ : Z.Warmed39 s.vm) {own C : String} {k n : Nat} (hown : s.vm.findClass own = some m.cls) (w : (Cond.classLink own k C).before a0 Z = true) (wi : (Cond.instantiable C n).before a0 Z = true) (wz : (Cond.initialized C).before a0 Z = true) (eT : T.heap = h) (hd : decode code pc = .ok (.new k, 3)) (hpc : pc + 3 = pc') (hc : cells + 1 ≤ R.cells) (hsl : slots + n ≤ R.slots)
    (K : ∀ T' h' (a : Addr), Stand p l e R s m args below meth c T' locs (cells + 1) (slots + n) → T'.heap = h' → Ext h h' → h.size ≤ a → Exa Z h' a C → (∀ {O nm d : String} {ty : FieldType}, Laid Z a0 C O nm d → parseFieldDescriptor d = some ty → Fld Z h' a O nm d (defaultValue ty)) → Go p e below s mc ms Q m T' pc' Ls (.ref a :: st)) : Go p e below s mc ms Q m T pc Ls st := by
  subst hpc
  obtain ⟨T', h', X', e', E, A, D, -, stp⟩ := newO X hx hZ hown w wi wz eT (g := mkF m pc Ls st) rfl (hb hby hd) hc hsl
  exact (K T' h' h.size X' e' E (Nat.le_refl _) A D).of stp
theorem Go.callV (X : Stand p l e R s m args below meth c T locs cells slots) (hx : p.tables.exec = Jvm.exec) (hby : c.code = code) (hZ : Z.Warmed39 s.vm) (hml : Ls.size = c.maxLocals) {own : String} {k : Nat} {y : MethodName} {bytes : ByteArray} {maxL : Nat} {ret : Option FieldType} {rm : Room} {W : Nat} {as' : Array Value} {C : String} {QY : Option Value → Heap → List Loc → Prop} (hown : s.vm.findClass own = some m.cls) (w1 : (Cond.methodLink own k y).before a0 Z = true) (w2 : (Cond.declares y).before a0 Z = true) (w3 : (Cond.selects C y y).before a0 Z = true) (w4 : (Cond.instanceMethod y).before a0 Z = true) (w5 : (Cond.initialized y.cls).before a0 Z = true) (w6 : (Cond.code y bytes maxL ret).before a0 Z = true) (E : Exa Z h a C) (hy : y.cls ≠ "java/lang/invoke/MethodHandle" ∧ y.cls ≠ "java/lang/invoke/VarHandle") (hM : MetFree l y (head1 [Cond.code y bytes maxL ret] rm) (fun a U => a = as' ∧ Z.Warmed39 U.vm ∧ U.heap = h) (fun _ _ _ _ _ => True) (fun _ U o U' => ∃ v L, o = .returned v ∧ QY v U'.heap L ∧ FrameEnd U o U' L rm.cells rm.slots))
    (hf : rm.frames + 1 ≤ R.frames) (hl : W + (maxL + 11) + rm.locals ≤ R.locals) (eT : T.heap = h) {argsL rest : List Value} {sig : MethodDescriptor} (hsig : parseMethodDescriptor y.desc = some sig) (hlen : argsL.length = sig.parameters.length) (has : (Value.ref a :: argsL).toArray = as') (hst : st = argsL.reverse ++ .ref a :: rest) (hW : (rest.map fun v => v.category).sum ≤ W) (hc : cells + rm.cells ≤ R.cells) (hsl : slots + rm.slots ≤ R.slots) (hd : decode code pc = .ok (.invokevirtual k, 3)) (hpc : pc + 3 = pc')
    (K : ∀ v T' L, Stand p l e R s m args below meth c T' (locs ++ L) (cells + rm.cells) (slots + rm.slots) → QY v T'.heap L → Go p e below s mc ms Q m T' pc' Ls (v.toList ++ rest)) : Go p e below s mc ms Q m T pc Ls st := by
  subst hpc hst has
  obtain ⟨cq, kq, qa, qb, qc⟩ := isOf hZ eT E
  obtain ⟨v, vm₁, B, -, X', ⟨L, hQ, l1, l2, l3⟩, stp⟩ := X.virtualBack hx hown (mvT hZ w1) (mvT hZ w2) (notFace_of_selects (args := #[]) (mvT hZ w3)) (mvT hZ w3) (mvT hZ w4) hy (backOf (W := W) hM hZ w6 w5 hf hl) qa qc (g := mkF m pc Ls (argsL.reverse ++ .ref a :: rest)) rfl hml (Steps.refl _) (argsL := argsL) (rest := rest) (lenOf hsig hlen) rfl (by show 2 * 0 + _ ≤ _; omega) (hb hby hd) (fun _ _ => ⟨rfl, eT, hc, hsl⟩)
  rw [l1, l2, l3] at X'
  exact (K v B.U L X' hQ).of fun _ k => stp.trans k
theorem Go.callVP (X : Stand p l e R s m args below meth c T locs cells slots) (hx : p.tables.exec = Jvm.exec) (hby : c.code = code) (hZ : Z.Warmed39 s.vm) (hml : Ls.size = c.maxLocals) {own : String} {k : Nat} {y : MethodName} {bytes : ByteArray} {maxL : Nat} {ret : Option FieldType} {rm : Room} {W : Nat} {as' : Array Value} {C : String} {r : Value} (hown : s.vm.findClass own = some m.cls) (w1 : (Cond.methodLink own k y).before a0 Z = true) (w2 : (Cond.declares y).before a0 Z = true) (w3 : (Cond.selects C y y).before a0 Z = true) (w4 : (Cond.instanceMethod y).before a0 Z = true) (w5 : (Cond.initialized y.cls).before a0 Z = true) (w6 : (Cond.code y bytes maxL ret).before a0 Z = true) (E : Exa Z h a C) (hy : y.cls ≠ "java/lang/invoke/MethodHandle" ∧ y.cls ≠ "java/lang/invoke/VarHandle") (hM : MetFree l y (head1 [Cond.code y bytes maxL ret] rm) (fun a U => a = as' ∧ Z.Warmed39 U.vm ∧ U.heap = h) (fun _ _ _ _ _ => True) (fun _ U o U' => ∃ v L, o = .returned v ∧ PQ h (some r) v U'.heap L ∧ FrameEnd U o U' L rm.cells rm.slots))
    (hf : rm.frames + 1 ≤ R.frames) (hl : W + (maxL + 11) + rm.locals ≤ R.locals) (eT : T.heap = h) {argsL rest : List Value} {sig : MethodDescriptor} (hsig : parseMethodDescriptor y.desc = some sig) (hlen : argsL.length = sig.parameters.length) (has : (Value.ref a :: argsL).toArray = as') (hst : st = argsL.reverse ++ .ref a :: rest) (hW : (rest.map fun v => v.category).sum ≤ W) (r1 : rm.cells = 0) (r2 : rm.slots = 0) (hc : cells ≤ R.cells) (hsl : slots ≤ R.slots) (hd : decode code pc = .ok (.invokevirtual k, 3)) (hpc : pc + 3 = pc')
    (K : ∀ T', Stand p l e R s m args below meth c T' locs cells slots → T'.heap = h → Go p e below s mc ms Q m T' pc' Ls (r :: rest)) : Go p e below s mc ms Q m T pc Ls st := by
  refine Go.callV X hx hby hZ hml hown w1 w2 w3 w4 w5 w6 E hy hM hf hl eT hsig hlen has hst hW (by rw [r1]; exact hc) (by rw [r2]; exact hsl) hd hpc (fun v T' L X' hQ => ?_)
  obtain ⟨rfl, rfl, e1⟩ := hQ
  rw [List.append_nil, r1, r2] at X'
  exact K T' X' e1
theorem Go.callC (X : Stand p l e R s m args below meth c T locs cells slots) (hx : p.tables.exec = Jvm.exec) (hby : c.code = code) (hZ : Z.Warmed39 s.vm) (hml : Ls.size = c.maxLocals) {own : String} {k : Nat} {y : MethodName} {bytes : ByteArray} {maxL : Nat} {rm : Room} {W : Nat} {as' : Array Value} {QY : Option Value → Heap → List Loc → Prop} (hown : s.vm.findClass own = some m.cls) (w1 : (Cond.methodLink own k y).before a0 Z = true) (w4 : (Cond.instanceMethod y).before a0 Z = true) (w5 : (Cond.initialized y.cls).before a0 Z = true) (w6 : (Cond.code y bytes maxL none).before a0 Z = true) (hy : y.cls ≠ "java/lang/invoke/MethodHandle" ∧ y.cls ≠ "java/lang/invoke/VarHandle") (hi : y.name = "<init>") (hM : MetFree l y (head1 [Cond.code y bytes maxL none] rm) (fun a U => a = as' ∧ Z.Warmed39 U.vm ∧ U.heap = h) (fun _ _ _ _ _ => True) (fun _ U o U' => ∃ v L, o = .returned v ∧ QY v U'.heap L ∧ FrameEnd U o U' L rm.cells rm.slots))
    (hf : rm.frames + 1 ≤ R.frames) (hl : W + (maxL + 11) + rm.locals ≤ R.locals) (eT : T.heap = h) {argsL rest : List Value} {sig : MethodDescriptor} (hsig : parseMethodDescriptor y.desc = some sig) (hlen : argsL.length = sig.parameters.length) (has : (Value.ref a :: argsL).toArray = as') (hst : st = argsL.reverse ++ .ref a :: rest) (hW : (rest.map fun v => v.category).sum ≤ W) (hc : cells + rm.cells ≤ R.cells) (hsl : slots + rm.slots ≤ R.slots) (hd : decode code pc = .ok (.invokespecial k, 3)) (hpc : pc + 3 = pc')
    (K : ∀ v T' L, Stand p l e R s m args below meth c T' (locs ++ L) (cells + rm.cells) (slots + rm.slots) → QY v T'.heap L → Go p e below s mc ms Q m T' pc' Ls (v.toList ++ rest)) : Go p e below s mc ms Q m T pc Ls st := by
  subst hpc hst has
  obtain ⟨v, vm₁, B, -, X', ⟨L, hQ, l1, l2, l3⟩, stp⟩ := X.specialBack hx hi hown (mvT hZ w1) (mvT hZ w4) (mvT hZ w6) hy (backOf (W := W) hM hZ w6 w5 hf hl) (g := mkF m pc Ls (argsL.reverse ++ .ref a :: rest)) rfl hml (Steps.refl _) (argsL := argsL) (rest := rest) (lenOf hsig hlen) rfl (by show 2 * 0 + _ ≤ _; omega) (hb hby hd) (fun _ _ => ⟨rfl, eT, hc, hsl⟩)
  rw [l1, l2, l3] at X'
  exact (K v B.U L X' hQ).of fun _ k => stp.trans k
end Heaps

-- body 1
def f1_0  : Option (List Int32) := some ([(i2bF (-16 : Int32)), (i2bF (69 : Int32)), (i2bF (77 : Int32)), (i2bF (78 : Int32)), (i2bF (73 : Int32)), (i2bF (89 : Int32)), (i2bF (69 : Int32)), (i2bF (84 : Int32)), (i2bF (1 : Int32))] : List Int32)
theorem d1_0 : decode prog_2_method_1_code 0 = .ok (.bipush 9, 2) := by decide +kernel
theorem d1_2 : decode prog_2_method_1_code 2 = .ok (.newarray .byte, 2) := by decide +kernel
theorem d1_4 : decode prog_2_method_1_code 4 = .ok (.dup, 1) := by decide +kernel
theorem d1_5 : decode prog_2_method_1_code 5 = .ok (.iconst 0, 1) := by decide +kernel
theorem d1_6 : decode prog_2_method_1_code 6 = .ok (.bipush (-16), 2) := by decide +kernel
theorem d1_8 : decode prog_2_method_1_code 8 = .ok (.bastore, 1) := by decide +kernel
theorem d1_9 : decode prog_2_method_1_code 9 = .ok (.dup, 1) := by decide +kernel
theorem d1_10 : decode prog_2_method_1_code 10 = .ok (.iconst 1, 1) := by decide +kernel
theorem d1_11 : decode prog_2_method_1_code 11 = .ok (.bipush 69, 2) := by decide +kernel
theorem d1_13 : decode prog_2_method_1_code 13 = .ok (.bastore, 1) := by decide +kernel
theorem d1_14 : decode prog_2_method_1_code 14 = .ok (.dup, 1) := by decide +kernel
theorem d1_15 : decode prog_2_method_1_code 15 = .ok (.iconst 2, 1) := by decide +kernel
theorem d1_16 : decode prog_2_method_1_code 16 = .ok (.bipush 77, 2) := by decide +kernel
theorem d1_18 : decode prog_2_method_1_code 18 = .ok (.bastore, 1) := by decide +kernel
theorem d1_19 : decode prog_2_method_1_code 19 = .ok (.dup, 1) := by decide +kernel
theorem d1_20 : decode prog_2_method_1_code 20 = .ok (.iconst 3, 1) := by decide +kernel
theorem d1_21 : decode prog_2_method_1_code 21 = .ok (.bipush 78, 2) := by decide +kernel
theorem d1_23 : decode prog_2_method_1_code 23 = .ok (.bastore, 1) := by decide +kernel
theorem d1_24 : decode prog_2_method_1_code 24 = .ok (.dup, 1) := by decide +kernel
theorem d1_25 : decode prog_2_method_1_code 25 = .ok (.iconst 4, 1) := by decide +kernel
theorem d1_26 : decode prog_2_method_1_code 26 = .ok (.bipush 73, 2) := by decide +kernel
theorem d1_28 : decode prog_2_method_1_code 28 = .ok (.bastore, 1) := by decide +kernel
theorem d1_29 : decode prog_2_method_1_code 29 = .ok (.dup, 1) := by decide +kernel
theorem d1_30 : decode prog_2_method_1_code 30 = .ok (.iconst 5, 1) := by decide +kernel
theorem d1_31 : decode prog_2_method_1_code 31 = .ok (.bipush 89, 2) := by decide +kernel
theorem d1_33 : decode prog_2_method_1_code 33 = .ok (.bastore, 1) := by decide +kernel
theorem d1_34 : decode prog_2_method_1_code 34 = .ok (.dup, 1) := by decide +kernel
theorem d1_35 : decode prog_2_method_1_code 35 = .ok (.bipush 6, 2) := by decide +kernel
theorem d1_37 : decode prog_2_method_1_code 37 = .ok (.bipush 69, 2) := by decide +kernel
theorem d1_39 : decode prog_2_method_1_code 39 = .ok (.bastore, 1) := by decide +kernel
theorem d1_40 : decode prog_2_method_1_code 40 = .ok (.dup, 1) := by decide +kernel
theorem d1_41 : decode prog_2_method_1_code 41 = .ok (.bipush 7, 2) := by decide +kernel
theorem d1_43 : decode prog_2_method_1_code 43 = .ok (.bipush 84, 2) := by decide +kernel
theorem d1_45 : decode prog_2_method_1_code 45 = .ok (.bastore, 1) := by decide +kernel
theorem d1_46 : decode prog_2_method_1_code 46 = .ok (.dup, 1) := by decide +kernel
theorem d1_47 : decode prog_2_method_1_code 47 = .ok (.bipush 8, 2) := by decide +kernel
theorem d1_49 : decode prog_2_method_1_code 49 = .ok (.iconst 1, 1) := by decide +kernel
theorem d1_50 : decode prog_2_method_1_code 50 = .ok (.bastore, 1) := by decide +kernel
theorem d1_51 : decode prog_2_method_1_code 51 = .ok (.areturn, 1) := by decide +kernel
abbrev Y1 : MethodName := ⟨"com/example/emniyet/emniyet/bridge/EngineCard", "engineAid", "()[B"⟩
def RM1 : Room := { frames := 0, cells := 1, slots := 9, locals := 0 }
theorem pd_1 : parseMethodDescriptor Y1.desc = some ⟨[], some (.array .byte)⟩ := by decide +kernel
theorem pn_1 : plainName "com/example/emniyet/emniyet/bridge/EngineCard" = true := by first | (simp [plainName, overriddenIn]; done) | decide +kernel
theorem ef_1 (m : MethodId)  : entryFrame m #[] 0 = mkF m 0 #[] [] := by first | (simp [entryFrame, mkF, argsToLocals, Value.category]; done) | rfl
def QB1 (Z : State) (h0 : Heap) (n0 : Nat) (r : List Int32) (v : Option Value) (h : Heap) (L : List Loc) : Prop := ∃ aa : Addr, v = some (.ref aa) ∧ h0.size ≤ aa ∧ Fr n0 L ∧ Keep h0 h [] ∧ AryI Z h aa .byte r
set_option maxRecDepth 65536 in
set_option maxHeartbeats 40000000 in
theorem rm1 (l : Launch) (Z : State) (a0 : Array Value) (hw : ∀ d ∈ tables_1, d.before a0 Z = true)   (h0 : Heap) (n0 : Nat) (Z0 : n0 ≤ h0.size) (r : List Int32) (hf : f1_0 = some r)  :
    MetFree l Y1 (head1 ([Jvm.Cond.code Y1 prog_2_method_1_code 0 (some (.array .byte))]) RM1) (fun a U => a = #[] ∧ Z.Warmed39 U.vm ∧ U.heap = h0) (fun _ _ _ _ _ => True) (fun _ U o U' => ∃ v L, o = .returned v ∧ (QB1 Z h0 n0 r) v U'.heap L ∧ FrameEnd U o U' L RM1.cells RM1.slots) := by
  refine MetFree.of_bodySF (plainFor_of_name pn_1) hisR ?_
  intro p e s m args below meth c s₁ Bd hml0 hP hK
  obtain ⟨rfl, hZ, hh⟩ := hP
  have hx := Bd.exec
  have hby := Bd.bytes
  have hlk : meth.locks = false := BodyLoose.notSynchronized Bd
  have hret := Bd.returns
  have hml : c.maxLocals = 0 := hml0
  have hown : s.vm.findClass "com/example/emniyet/emniyet/bridge/EngineCard" = some m.cls := findClass_of_methodNamed Bd.named
  have X0 : Stand p l e RM1 s m #[] below meth c s₁ [] 0 0 := Stand.of_body Bd
  have e0 : s₁.heap = h0 := by rw [← hh, Bd.state]; rfl
  have N0 := Fr.nil n0
  have K0 := Keep.refl h0 []
  suffices G : Go p e below s RM1.cells RM1.slots (QB1 Z h0 n0 r) m s₁ 0 #[] [] by
    obtain ⟨s₂, o, h1, h2⟩ := G
    exact ⟨s₂, o, castTop (ef_1 m ) h1, h2⟩
  have hf0 := hf
  clear hf
  have hf := hf0
  unfold f1_0 at hf
  refine Go.bipush X0 hx hby (v := (9 : Int32)) d1_0 rfl rfl ?_
  refine Go.newA X0 hx hby hZ (nn := 9) (ty := .byte) (hw _ (List.mem_of_getElem? (i := 4) rfl)) e0 d1_2 rfl rfl rfl (by decide) (by decide) (by decide) (by decide) (by decide) (fun T20 h20 aa X20 e20 E20 z20 A20 => ?_)
  have na_aa := Nat.le_trans K0.1 z20
  have K20 := Keep.ext K0 E20
  have A20 : AryI Z h20 aa .byte ([0, 0, 0, 0, 0, 0, 0, 0, 0] : List Int32) := A20
  refine Go.dup X20 hx hby d1_4 rfl rfl ?_
  refine Go.iconst X20 hx hby (v := (0 : Int32)) d1_5 rfl rfl ?_
  refine Go.bipush X20 hx hby (v := (-16 : Int32)) d1_6 rfl rfl ?_
  refine Go.bastore X20 hx hby hZ e20 A20 (own_inK (n := 9) rfl (by decide)) d1_8 rfl (fun T22 h22 X22 e22 W22 A22 => ?_)
  have N22 := Fr.snoc X22 N0 (Nat.le_trans Z0 na_aa)
  have K22 := Keep.wr K20 W22 (Or.inr na_aa)
  have A22 : AryI Z h22 aa .byte ([(i2bF (-16 : Int32)), 0, 0, 0, 0, 0, 0, 0, 0] : List Int32) := A22
  refine Go.dup X22 hx hby d1_9 rfl rfl ?_
  refine Go.iconst X22 hx hby (v := (1 : Int32)) d1_10 rfl rfl ?_
  refine Go.bipush X22 hx hby (v := (69 : Int32)) d1_11 rfl rfl ?_
  refine Go.bastore X22 hx hby hZ e22 A22 (own_inK (n := 9) rfl (by decide)) d1_13 rfl (fun T24 h24 X24 e24 W24 A24 => ?_)
  have N24 := Fr.snoc X24 N22 (Nat.le_trans Z0 na_aa)
  have K24 := Keep.wr K22 W24 (Or.inr na_aa)
  have A24 : AryI Z h24 aa .byte ([(i2bF (-16 : Int32)), (i2bF (69 : Int32)), 0, 0, 0, 0, 0, 0, 0] : List Int32) := A24
  refine Go.dup X24 hx hby d1_14 rfl rfl ?_
  refine Go.iconst X24 hx hby (v := (2 : Int32)) d1_15 rfl rfl ?_
  refine Go.bipush X24 hx hby (v := (77 : Int32)) d1_16 rfl rfl ?_
  refine Go.bastore X24 hx hby hZ e24 A24 (own_inK (n := 9) rfl (by decide)) d1_18 rfl (fun T26 h26 X26 e26 W26 A26 => ?_)
  have N26 := Fr.snoc X26 N24 (Nat.le_trans Z0 na_aa)
  have K26 := Keep.wr K24 W26 (Or.inr na_aa)
  have A26 : AryI Z h26 aa .byte ([(i2bF (-16 : Int32)), (i2bF (69 : Int32)), (i2bF (77 : Int32)), 0, 0, 0, 0, 0, 0] : List Int32) := A26
  refine Go.dup X26 hx hby d1_19 rfl rfl ?_
  refine Go.iconst X26 hx hby (v := (3 : Int32)) d1_20 rfl rfl ?_
  refine Go.bipush X26 hx hby (v := (78 : Int32)) d1_21 rfl rfl ?_
  refine Go.bastore X26 hx hby hZ e26 A26 (own_inK (n := 9) rfl (by decide)) d1_23 rfl (fun T28 h28 X28 e28 W28 A28 => ?_)
  have N28 := Fr.snoc X28 N26 (Nat.le_trans Z0 na_aa)
  have K28 := Keep.wr K26 W28 (Or.inr na_aa)
  have A28 : AryI Z h28 aa .byte ([(i2bF (-16 : Int32)), (i2bF (69 : Int32)), (i2bF (77 : Int32)), (i2bF (78 : Int32)), 0, 0, 0, 0, 0] : List Int32) := A28
  refine Go.dup X28 hx hby d1_24 rfl rfl ?_
  refine Go.iconst X28 hx hby (v := (4 : Int32)) d1_25 rfl rfl ?_
  refine Go.bipush X28 hx hby (v := (73 : Int32)) d1_26 rfl rfl ?_
  refine Go.bastore X28 hx hby hZ e28 A28 (own_inK (n := 9) rfl (by decide)) d1_28 rfl (fun T30 h30 X30 e30 W30 A30 => ?_)
  have N30 := Fr.snoc X30 N28 (Nat.le_trans Z0 na_aa)
  have K30 := Keep.wr K28 W30 (Or.inr na_aa)
  have A30 : AryI Z h30 aa .byte ([(i2bF (-16 : Int32)), (i2bF (69 : Int32)), (i2bF (77 : Int32)), (i2bF (78 : Int32)), (i2bF (73 : Int32)), 0, 0, 0, 0] : List Int32) := A30
  refine Go.dup X30 hx hby d1_29 rfl rfl ?_
  refine Go.iconst X30 hx hby (v := (5 : Int32)) d1_30 rfl rfl ?_
  refine Go.bipush X30 hx hby (v := (89 : Int32)) d1_31 rfl rfl ?_
  refine Go.bastore X30 hx hby hZ e30 A30 (own_inK (n := 9) rfl (by decide)) d1_33 rfl (fun T32 h32 X32 e32 W32 A32 => ?_)
  have N32 := Fr.snoc X32 N30 (Nat.le_trans Z0 na_aa)
  have K32 := Keep.wr K30 W32 (Or.inr na_aa)
  have A32 : AryI Z h32 aa .byte ([(i2bF (-16 : Int32)), (i2bF (69 : Int32)), (i2bF (77 : Int32)), (i2bF (78 : Int32)), (i2bF (73 : Int32)), (i2bF (89 : Int32)), 0, 0, 0] : List Int32) := A32
  refine Go.dup X32 hx hby d1_34 rfl rfl ?_
  refine Go.bipush X32 hx hby (v := (6 : Int32)) d1_35 rfl rfl ?_
  refine Go.bipush X32 hx hby (v := (69 : Int32)) d1_37 rfl rfl ?_
  refine Go.bastore X32 hx hby hZ e32 A32 (own_inK (n := 9) rfl (by decide)) d1_39 rfl (fun T34 h34 X34 e34 W34 A34 => ?_)
  have N34 := Fr.snoc X34 N32 (Nat.le_trans Z0 na_aa)
  have K34 := Keep.wr K32 W34 (Or.inr na_aa)
  have A34 : AryI Z h34 aa .byte ([(i2bF (-16 : Int32)), (i2bF (69 : Int32)), (i2bF (77 : Int32)), (i2bF (78 : Int32)), (i2bF (73 : Int32)), (i2bF (89 : Int32)), (i2bF (69 : Int32)), 0, 0] : List Int32) := A34
  refine Go.dup X34 hx hby d1_40 rfl rfl ?_
  refine Go.bipush X34 hx hby (v := (7 : Int32)) d1_41 rfl rfl ?_
  refine Go.bipush X34 hx hby (v := (84 : Int32)) d1_43 rfl rfl ?_
  refine Go.bastore X34 hx hby hZ e34 A34 (own_inK (n := 9) rfl (by decide)) d1_45 rfl (fun T36 h36 X36 e36 W36 A36 => ?_)
  have N36 := Fr.snoc X36 N34 (Nat.le_trans Z0 na_aa)
  have K36 := Keep.wr K34 W36 (Or.inr na_aa)
  have A36 : AryI Z h36 aa .byte ([(i2bF (-16 : Int32)), (i2bF (69 : Int32)), (i2bF (77 : Int32)), (i2bF (78 : Int32)), (i2bF (73 : Int32)), (i2bF (89 : Int32)), (i2bF (69 : Int32)), (i2bF (84 : Int32)), 0] : List Int32) := A36
  refine Go.dup X36 hx hby d1_46 rfl rfl ?_
  refine Go.bipush X36 hx hby (v := (8 : Int32)) d1_47 rfl rfl ?_
  refine Go.iconst X36 hx hby (v := (1 : Int32)) d1_49 rfl rfl ?_
  refine Go.bastore X36 hx hby hZ e36 A36 (own_inK (n := 9) rfl (by decide)) d1_50 rfl (fun T38 h38 X38 e38 W38 A38 => ?_)
  have N38 := Fr.snoc X38 N36 (Nat.le_trans Z0 na_aa)
  have K38 := Keep.wr K36 W38 (Or.inr na_aa)
  have A38 : AryI Z h38 aa .byte ([(i2bF (-16 : Int32)), (i2bF (69 : Int32)), (i2bF (77 : Int32)), (i2bF (78 : Int32)), (i2bF (73 : Int32)), (i2bF (89 : Int32)), (i2bF (69 : Int32)), (i2bF (84 : Int32)), (i2bF (1 : Int32))] : List Int32) := A38
  exact Go.aret X38 hx hby hlk hret rfl rfl d1_51 (by decide) (by decide) (by obtain rfl := Option.some.inj hf; unfold QB1; exact ⟨_, rfl, na_aa, N38, by rw [e38]; exact K38, by rw [e38]; exact A38⟩)
-- body 2
def f2_0 (G_aa : List Int32) : Option (Int32) := if inA G_aa (0 : Int32) then if (atA G_aa (0 : Int32)) = (-16 : Int32) then if inA G_aa (1 : Int32) then if (atA G_aa (1 : Int32)) = (69 : Int32) then if inA G_aa (2 : Int32) then if (atA G_aa (2 : Int32)) = (77 : Int32) then if inA G_aa (3 : Int32) then if (atA G_aa (3 : Int32)) = (78 : Int32) then if inA G_aa (4 : Int32) then if (atA G_aa (4 : Int32)) = (73 : Int32) then if inA G_aa (5 : Int32) then if (atA G_aa (5 : Int32)) = (89 : Int32) then if inA G_aa (6 : Int32) then if (atA G_aa (6 : Int32)) = (69 : Int32) then if inA G_aa (7 : Int32) then if (atA G_aa (7 : Int32)) = (84 : Int32) then if inA G_aa (8 : Int32) then if (atA G_aa (8 : Int32)) = (1 : Int32) then some (1 : Int32) else some (0 : Int32) else none else some (0 : Int32) else none else some (0 : Int32) else none else some (0 : Int32) else none else some (0 : Int32) else none else some (0 : Int32) else none else some (0 : Int32) else none else some (0 : Int32) else none else some (0 : Int32) else none
theorem d2_0 : decode method_3_code 0 = .ok (.aload_n 0, 1) := by decide +kernel
theorem d2_1 : decode method_3_code 1 = .ok (.iconst 0, 1) := by decide +kernel
theorem d2_2 : decode method_3_code 2 = .ok (.baload, 1) := by decide +kernel
theorem d2_3 : decode method_3_code 3 = .ok (.bipush (-16), 2) := by decide +kernel
theorem d2_5 : decode method_3_code 5 = .ok (.if_icmp .ne 73, 3) := by decide +kernel
theorem d2_8 : decode method_3_code 8 = .ok (.aload_n 0, 1) := by decide +kernel
theorem d2_9 : decode method_3_code 9 = .ok (.iconst 1, 1) := by decide +kernel
theorem d2_10 : decode method_3_code 10 = .ok (.baload, 1) := by decide +kernel
theorem d2_11 : decode method_3_code 11 = .ok (.bipush 69, 2) := by decide +kernel
theorem d2_13 : decode method_3_code 13 = .ok (.if_icmp .ne 65, 3) := by decide +kernel
theorem d2_16 : decode method_3_code 16 = .ok (.aload_n 0, 1) := by decide +kernel
theorem d2_17 : decode method_3_code 17 = .ok (.iconst 2, 1) := by decide +kernel
theorem d2_18 : decode method_3_code 18 = .ok (.baload, 1) := by decide +kernel
theorem d2_19 : decode method_3_code 19 = .ok (.bipush 77, 2) := by decide +kernel
theorem d2_21 : decode method_3_code 21 = .ok (.if_icmp .ne 57, 3) := by decide +kernel
theorem d2_24 : decode method_3_code 24 = .ok (.aload_n 0, 1) := by decide +kernel
theorem d2_25 : decode method_3_code 25 = .ok (.iconst 3, 1) := by decide +kernel
theorem d2_26 : decode method_3_code 26 = .ok (.baload, 1) := by decide +kernel
theorem d2_27 : decode method_3_code 27 = .ok (.bipush 78, 2) := by decide +kernel
theorem d2_29 : decode method_3_code 29 = .ok (.if_icmp .ne 49, 3) := by decide +kernel
theorem d2_32 : decode method_3_code 32 = .ok (.aload_n 0, 1) := by decide +kernel
theorem d2_33 : decode method_3_code 33 = .ok (.iconst 4, 1) := by decide +kernel
theorem d2_34 : decode method_3_code 34 = .ok (.baload, 1) := by decide +kernel
theorem d2_35 : decode method_3_code 35 = .ok (.bipush 73, 2) := by decide +kernel
theorem d2_37 : decode method_3_code 37 = .ok (.if_icmp .ne 41, 3) := by decide +kernel
theorem d2_40 : decode method_3_code 40 = .ok (.aload_n 0, 1) := by decide +kernel
theorem d2_41 : decode method_3_code 41 = .ok (.iconst 5, 1) := by decide +kernel
theorem d2_42 : decode method_3_code 42 = .ok (.baload, 1) := by decide +kernel
theorem d2_43 : decode method_3_code 43 = .ok (.bipush 89, 2) := by decide +kernel
theorem d2_45 : decode method_3_code 45 = .ok (.if_icmp .ne 33, 3) := by decide +kernel
theorem d2_48 : decode method_3_code 48 = .ok (.aload_n 0, 1) := by decide +kernel
theorem d2_49 : decode method_3_code 49 = .ok (.bipush 6, 2) := by decide +kernel
theorem d2_51 : decode method_3_code 51 = .ok (.baload, 1) := by decide +kernel
theorem d2_52 : decode method_3_code 52 = .ok (.bipush 69, 2) := by decide +kernel
theorem d2_54 : decode method_3_code 54 = .ok (.if_icmp .ne 24, 3) := by decide +kernel
theorem d2_57 : decode method_3_code 57 = .ok (.aload_n 0, 1) := by decide +kernel
theorem d2_58 : decode method_3_code 58 = .ok (.bipush 7, 2) := by decide +kernel
theorem d2_60 : decode method_3_code 60 = .ok (.baload, 1) := by decide +kernel
theorem d2_61 : decode method_3_code 61 = .ok (.bipush 84, 2) := by decide +kernel
theorem d2_63 : decode method_3_code 63 = .ok (.if_icmp .ne 15, 3) := by decide +kernel
theorem d2_66 : decode method_3_code 66 = .ok (.aload_n 0, 1) := by decide +kernel
theorem d2_67 : decode method_3_code 67 = .ok (.bipush 8, 2) := by decide +kernel
theorem d2_69 : decode method_3_code 69 = .ok (.baload, 1) := by decide +kernel
theorem d2_70 : decode method_3_code 70 = .ok (.iconst 1, 1) := by decide +kernel
theorem d2_71 : decode method_3_code 71 = .ok (.if_icmp .ne 7, 3) := by decide +kernel
theorem d2_74 : decode method_3_code 74 = .ok (.iconst 1, 1) := by decide +kernel
theorem d2_75 : decode method_3_code 75 = .ok (.goto 4, 3) := by decide +kernel
theorem d2_78 : decode method_3_code 78 = .ok (.iconst 0, 1) := by decide +kernel
theorem d2_79 : decode method_3_code 79 = .ok (.ireturn, 1) := by decide +kernel
abbrev Y2 : MethodName := ⟨"com/example/emniyet/emniyet/bridge/EngineCardEngineAidPinLaw", "isAid", "([B)Z"⟩
def RM2 : Room := { frames := 0, cells := 0, slots := 0, locals := 0 }
theorem pd_2 : parseMethodDescriptor Y2.desc = some ⟨[(.array .byte)], some .boolean⟩ := by decide +kernel
theorem pn_2 : plainName "com/example/emniyet/emniyet/bridge/EngineCardEngineAidPinLaw" = true := by first | (simp [plainName, overriddenIn]; done) | decide +kernel
theorem ef_2 (m : MethodId) (aa : Addr) : entryFrame m #[.ref aa] 1 = mkF m 0 #[.val (.ref aa)] [] := by first | (simp [entryFrame, mkF, argsToLocals, Value.category]; done) | rfl
set_option maxRecDepth 65536 in
set_option maxHeartbeats 40000000 in
theorem rm2 (l : Launch) (Z : State) (a0 : Array Value) (hw : ∀ d ∈ tables_1, d.before a0 Z = true) (aa : Addr) (G_aa : List Int32) (h0 : Heap) (r : Int32) (hf : f2_0 G_aa = some r) (F_aa : AryI Z h0 aa .byte G_aa) :
    MetFree l Y2 (head1 ([Jvm.Cond.code Y2 method_3_code 1 (some .boolean)]) RM2) (fun a U => a = #[.ref aa] ∧ Z.Warmed39 U.vm ∧ U.heap = h0) (fun _ _ _ _ _ => True) (fun _ U o U' => ∃ v L, o = .returned v ∧ (PQ h0 (some (.int r))) v U'.heap L ∧ FrameEnd U o U' L RM2.cells RM2.slots) := by
  refine MetFree.of_bodySF (plainFor_of_name pn_2) hisR ?_
  intro p e s m args below meth c s₁ Bd hml0 hP hK
  obtain ⟨rfl, hZ, hh⟩ := hP
  have hx := Bd.exec
  have hby := Bd.bytes
  have hlk : meth.locks = false := BodyLoose.notSynchronized Bd
  have hret := Bd.returns
  have hml : c.maxLocals = 1 := hml0
  have hown : s.vm.findClass "com/example/emniyet/emniyet/bridge/EngineCardEngineAidPinLaw" = some m.cls := findClass_of_methodNamed Bd.named
  have X0 : Stand p l e RM2 s m #[.ref aa] below meth c s₁ [] 0 0 := Stand.of_body Bd
  have e0 : s₁.heap = h0 := by rw [← hh, Bd.state]; rfl
  suffices G : Go p e below s RM2.cells RM2.slots (PQ h0 (some (.int r))) m s₁ 0 #[.val (.ref aa)] [] by
    obtain ⟨s₂, o, h1, h2⟩ := G
    exact ⟨s₂, o, castTop (ef_2 m aa) h1, h2⟩
  have hf0 := hf
  clear hf
  have hf := hf0
  unfold f2_0 at hf
  refine Go.aloadN X0 hx hby (v := .ref aa) d2_0 rfl rfl rfl ?_
  refine Go.iconst X0 hx hby (v := (0 : Int32)) d2_1 rfl rfl ?_
  rcases Decidable.em (inA G_aa (0 : Int32)) with hj57 | hj57
  case inr => exact absurd ((if_neg hj57).symm.trans hf) nofun
  replace hf := (if_pos hj57).symm.trans hf
  refine Go.baload X0 hx hby hZ e0 F_aa hj57 d2_2 rfl ?_
  refine Go.bipush X0 hx hby (v := (-16 : Int32)) d2_3 rfl rfl ?_
  refine Go.icmp_ne X0 hx hby (pc' := 78) d2_5 (by decide) (by decide) rfl (fun hc58 => ?_) (fun hc58 => ?_)
  · replace hf := (if_neg hc58).symm.trans hf
    refine Go.iconst X0 hx hby (v := (0 : Int32)) d2_78 rfl rfl ?_
    exact Go.iretN X0 hx hby hlk hret (Or.inl rfl) (w' := (0 : Int32)) rfl d2_79 (by decide) (by decide) ⟨congrArg (fun z => some (Value.int z)) (Option.some.inj hf), rfl, e0⟩
  · replace hf := (if_pos hc58).symm.trans hf
    refine Go.aloadN X0 hx hby (v := .ref aa) d2_8 rfl rfl rfl ?_
    refine Go.iconst X0 hx hby (v := (1 : Int32)) d2_9 rfl rfl ?_
    rcases Decidable.em (inA G_aa (1 : Int32)) with hj59 | hj59
    case inr => exact absurd ((if_neg hj59).symm.trans hf) nofun
    replace hf := (if_pos hj59).symm.trans hf
    refine Go.baload X0 hx hby hZ e0 F_aa hj59 d2_10 rfl ?_
    refine Go.bipush X0 hx hby (v := (69 : Int32)) d2_11 rfl rfl ?_
    refine Go.icmp_ne X0 hx hby (pc' := 78) d2_13 (by decide) (by decide) rfl (fun hc60 => ?_) (fun hc60 => ?_)
    · replace hf := (if_neg hc60).symm.trans hf
      refine Go.iconst X0 hx hby (v := (0 : Int32)) d2_78 rfl rfl ?_
      exact Go.iretN X0 hx hby hlk hret (Or.inl rfl) (w' := (0 : Int32)) rfl d2_79 (by decide) (by decide) ⟨congrArg (fun z => some (Value.int z)) (Option.some.inj hf), rfl, e0⟩
    · replace hf := (if_pos hc60).symm.trans hf
      refine Go.aloadN X0 hx hby (v := .ref aa) d2_16 rfl rfl rfl ?_
      refine Go.iconst X0 hx hby (v := (2 : Int32)) d2_17 rfl rfl ?_
      rcases Decidable.em (inA G_aa (2 : Int32)) with hj61 | hj61
      case inr => exact absurd ((if_neg hj61).symm.trans hf) nofun
      replace hf := (if_pos hj61).symm.trans hf
      refine Go.baload X0 hx hby hZ e0 F_aa hj61 d2_18 rfl ?_
      refine Go.bipush X0 hx hby (v := (77 : Int32)) d2_19 rfl rfl ?_
      refine Go.icmp_ne X0 hx hby (pc' := 78) d2_21 (by decide) (by decide) rfl (fun hc62 => ?_) (fun hc62 => ?_)
      · replace hf := (if_neg hc62).symm.trans hf
        refine Go.iconst X0 hx hby (v := (0 : Int32)) d2_78 rfl rfl ?_
        exact Go.iretN X0 hx hby hlk hret (Or.inl rfl) (w' := (0 : Int32)) rfl d2_79 (by decide) (by decide) ⟨congrArg (fun z => some (Value.int z)) (Option.some.inj hf), rfl, e0⟩
      · replace hf := (if_pos hc62).symm.trans hf
        refine Go.aloadN X0 hx hby (v := .ref aa) d2_24 rfl rfl rfl ?_
        refine Go.iconst X0 hx hby (v := (3 : Int32)) d2_25 rfl rfl ?_
        rcases Decidable.em (inA G_aa (3 : Int32)) with hj63 | hj63
        case inr => exact absurd ((if_neg hj63).symm.trans hf) nofun
        replace hf := (if_pos hj63).symm.trans hf
        refine Go.baload X0 hx hby hZ e0 F_aa hj63 d2_26 rfl ?_
        refine Go.bipush X0 hx hby (v := (78 : Int32)) d2_27 rfl rfl ?_
        refine Go.icmp_ne X0 hx hby (pc' := 78) d2_29 (by decide) (by decide) rfl (fun hc64 => ?_) (fun hc64 => ?_)
        · replace hf := (if_neg hc64).symm.trans hf
          refine Go.iconst X0 hx hby (v := (0 : Int32)) d2_78 rfl rfl ?_
          exact Go.iretN X0 hx hby hlk hret (Or.inl rfl) (w' := (0 : Int32)) rfl d2_79 (by decide) (by decide) ⟨congrArg (fun z => some (Value.int z)) (Option.some.inj hf), rfl, e0⟩
        · replace hf := (if_pos hc64).symm.trans hf
          refine Go.aloadN X0 hx hby (v := .ref aa) d2_32 rfl rfl rfl ?_
          refine Go.iconst X0 hx hby (v := (4 : Int32)) d2_33 rfl rfl ?_
          rcases Decidable.em (inA G_aa (4 : Int32)) with hj65 | hj65
          case inr => exact absurd ((if_neg hj65).symm.trans hf) nofun
          replace hf := (if_pos hj65).symm.trans hf
          refine Go.baload X0 hx hby hZ e0 F_aa hj65 d2_34 rfl ?_
          refine Go.bipush X0 hx hby (v := (73 : Int32)) d2_35 rfl rfl ?_
          refine Go.icmp_ne X0 hx hby (pc' := 78) d2_37 (by decide) (by decide) rfl (fun hc66 => ?_) (fun hc66 => ?_)
          · replace hf := (if_neg hc66).symm.trans hf
            refine Go.iconst X0 hx hby (v := (0 : Int32)) d2_78 rfl rfl ?_
            exact Go.iretN X0 hx hby hlk hret (Or.inl rfl) (w' := (0 : Int32)) rfl d2_79 (by decide) (by decide) ⟨congrArg (fun z => some (Value.int z)) (Option.some.inj hf), rfl, e0⟩
          · replace hf := (if_pos hc66).symm.trans hf
            refine Go.aloadN X0 hx hby (v := .ref aa) d2_40 rfl rfl rfl ?_
            refine Go.iconst X0 hx hby (v := (5 : Int32)) d2_41 rfl rfl ?_
            rcases Decidable.em (inA G_aa (5 : Int32)) with hj67 | hj67
            case inr => exact absurd ((if_neg hj67).symm.trans hf) nofun
            replace hf := (if_pos hj67).symm.trans hf
            refine Go.baload X0 hx hby hZ e0 F_aa hj67 d2_42 rfl ?_
            refine Go.bipush X0 hx hby (v := (89 : Int32)) d2_43 rfl rfl ?_
            refine Go.icmp_ne X0 hx hby (pc' := 78) d2_45 (by decide) (by decide) rfl (fun hc68 => ?_) (fun hc68 => ?_)
            · replace hf := (if_neg hc68).symm.trans hf
              refine Go.iconst X0 hx hby (v := (0 : Int32)) d2_78 rfl rfl ?_
              exact Go.iretN X0 hx hby hlk hret (Or.inl rfl) (w' := (0 : Int32)) rfl d2_79 (by decide) (by decide) ⟨congrArg (fun z => some (Value.int z)) (Option.some.inj hf), rfl, e0⟩
            · replace hf := (if_pos hc68).symm.trans hf
              refine Go.aloadN X0 hx hby (v := .ref aa) d2_48 rfl rfl rfl ?_
              refine Go.bipush X0 hx hby (v := (6 : Int32)) d2_49 rfl rfl ?_
              rcases Decidable.em (inA G_aa (6 : Int32)) with hj69 | hj69
              case inr => exact absurd ((if_neg hj69).symm.trans hf) nofun
              replace hf := (if_pos hj69).symm.trans hf
              refine Go.baload X0 hx hby hZ e0 F_aa hj69 d2_51 rfl ?_
              refine Go.bipush X0 hx hby (v := (69 : Int32)) d2_52 rfl rfl ?_
              refine Go.icmp_ne X0 hx hby (pc' := 78) d2_54 (by decide) (by decide) rfl (fun hc70 => ?_) (fun hc70 => ?_)
              · replace hf := (if_neg hc70).symm.trans hf
                refine Go.iconst X0 hx hby (v := (0 : Int32)) d2_78 rfl rfl ?_
                exact Go.iretN X0 hx hby hlk hret (Or.inl rfl) (w' := (0 : Int32)) rfl d2_79 (by decide) (by decide) ⟨congrArg (fun z => some (Value.int z)) (Option.some.inj hf), rfl, e0⟩
              · replace hf := (if_pos hc70).symm.trans hf
                refine Go.aloadN X0 hx hby (v := .ref aa) d2_57 rfl rfl rfl ?_
                refine Go.bipush X0 hx hby (v := (7 : Int32)) d2_58 rfl rfl ?_
                rcases Decidable.em (inA G_aa (7 : Int32)) with hj71 | hj71
                case inr => exact absurd ((if_neg hj71).symm.trans hf) nofun
                replace hf := (if_pos hj71).symm.trans hf
                refine Go.baload X0 hx hby hZ e0 F_aa hj71 d2_60 rfl ?_
                refine Go.bipush X0 hx hby (v := (84 : Int32)) d2_61 rfl rfl ?_
                refine Go.icmp_ne X0 hx hby (pc' := 78) d2_63 (by decide) (by decide) rfl (fun hc72 => ?_) (fun hc72 => ?_)
                · replace hf := (if_neg hc72).symm.trans hf
                  refine Go.iconst X0 hx hby (v := (0 : Int32)) d2_78 rfl rfl ?_
                  exact Go.iretN X0 hx hby hlk hret (Or.inl rfl) (w' := (0 : Int32)) rfl d2_79 (by decide) (by decide) ⟨congrArg (fun z => some (Value.int z)) (Option.some.inj hf), rfl, e0⟩
                · replace hf := (if_pos hc72).symm.trans hf
                  refine Go.aloadN X0 hx hby (v := .ref aa) d2_66 rfl rfl rfl ?_
                  refine Go.bipush X0 hx hby (v := (8 : Int32)) d2_67 rfl rfl ?_
                  rcases Decidable.em (inA G_aa (8 : Int32)) with hj73 | hj73
                  case inr => exact absurd ((if_neg hj73).symm.trans hf) nofun
                  replace hf := (if_pos hj73).symm.trans hf
                  refine Go.baload X0 hx hby hZ e0 F_aa hj73 d2_69 rfl ?_
                  refine Go.iconst X0 hx hby (v := (1 : Int32)) d2_70 rfl rfl ?_
                  refine Go.icmp_ne X0 hx hby (pc' := 78) d2_71 (by decide) (by decide) rfl (fun hc74 => ?_) (fun hc74 => ?_)
                  · replace hf := (if_neg hc74).symm.trans hf
                    refine Go.iconst X0 hx hby (v := (0 : Int32)) d2_78 rfl rfl ?_
                    exact Go.iretN X0 hx hby hlk hret (Or.inl rfl) (w' := (0 : Int32)) rfl d2_79 (by decide) (by decide) ⟨congrArg (fun z => some (Value.int z)) (Option.some.inj hf), rfl, e0⟩
                  · replace hf := (if_pos hc74).symm.trans hf
                    refine Go.iconst X0 hx hby (v := (1 : Int32)) d2_74 rfl rfl ?_
                    refine Go.goto X0 hx hby (pc' := 79) d2_75 (by decide) (by decide) ?_
                    exact Go.iretN X0 hx hby hlk hret (Or.inl rfl) (w' := (1 : Int32)) rfl d2_79 (by decide) (by decide) ⟨congrArg (fun z => some (Value.int z)) (Option.some.inj hf), rfl, e0⟩
-- body 0
def f0_0 (x0 : Int32) (x1 : Int32) : Option (Int32) := (f1_0 ).bind fun r75 => if (lenA r75) = (9 : Int32) then (f2_0 r75).bind fun r77 => if r77 = 0 then some (0 : Int32) else if inA r75 (remI (x0 &&& (2147483647 : Int32)) (9 : Int32)) then (f1_0 ).bind fun r81 => if (lenA r81) = (9 : Int32) then (f2_0 r81).bind fun r83 => some (r83 &&& 1) else some (0 : Int32) else none else some (0 : Int32)
theorem pn_0 : plainName "com/example/emniyet/emniyet/bridge/EngineCardEngineAidPinLaw" = true := by first | (simp [plainName, overriddenIn]; done) | decide +kernel
theorem ef_0 (m : MethodId) (x0 : Int32) (x1 : Int32) : entryFrame m #[.int x0, .int x1] maxLocals = mkF m 0 #[.val (.int x0), .val (.int x1), .unset, .unset, .unset] [] := by first | (simp [entryFrame, mkF, argsToLocals, Value.category, maxLocals]; done) | rfl
set_option maxRecDepth 65536 in
set_option maxHeartbeats 40000000 in
theorem rm0 (l : Launch) (Z : State) (a0 : Array Value) (hw : ∀ d ∈ tables_1, d.before a0 Z = true) (ws : List Jvm.Cond) (x0 : Int32) (x1 : Int32)  (h0 : Heap) (n0 : Nat) (Z0 : n0 ≤ h0.size) (r : Int32) (hf : f0_0 x0 x1 = some r)  :
    MetFree l x (head1 (Jvm.Cond.code x code maxLocals ret :: ws) room_1) (fun a U => a = #[.int x0, .int x1] ∧ Z.Warmed39 U.vm ∧ U.heap = h0) (fun _ _ _ _ _ => True) (fun _ U o U' => ∃ v L, o = .returned v ∧ (fun v h L => v = some (.int r) ∧ Fr n0 L) v U'.heap L ∧ FrameEnd U o U' L room_1.cells room_1.slots) := by
  refine MetFree.of_bodySF (plainFor_of_name pn_0) hisR ?_
  intro p e s m args below meth c s₁ Bd hml0 hP hK
  obtain ⟨rfl, hZ, hh⟩ := hP
  have hx := Bd.exec
  have hby := Bd.bytes
  have hlk : meth.locks = false := BodyLoose.notSynchronized Bd
  have hret := Bd.returns
  have hml : c.maxLocals = 5 := hml0
  have hown : s.vm.findClass "com/example/emniyet/emniyet/bridge/EngineCardEngineAidPinLaw" = some m.cls := findClass_of_methodNamed Bd.named
  have X0 : Stand p l e room_1 s m #[.int x0, .int x1] below meth c s₁ [] 0 0 := Stand.of_body Bd
  have e0 : s₁.heap = h0 := by rw [← hh, Bd.state]; rfl
  have N0 := Fr.nil n0
  have K0 := Keep.refl h0 []
  suffices G : Go p e below s room_1.cells room_1.slots (fun v h L => v = some (.int r) ∧ Fr n0 L) m s₁ 0 #[.val (.int x0), .val (.int x1), .unset, .unset, .unset] [] by
    obtain ⟨s₂, o, h1, h2⟩ := G
    exact ⟨s₂, o, castTop (ef_0 m x0 x1) h1, h2⟩
  have hf0 := hf
  clear hf
  have hf := hf0
  unfold f0_0 at hf
  obtain ⟨r84, g84, hf⟩ := Option.bind_eq_some_iff.mp hf
  refine Go.callS X0 hx hby hZ (by rw [hml]; rfl) (W := 0) (argsL := []) (rest := []) hown (hw _ (List.mem_of_getElem? (i := 0) rfl)) (hw _ (List.mem_of_getElem? (i := 1) rfl)) (hw _ (List.mem_of_getElem? (i := 2) rfl)) (hw _ (List.mem_of_getElem? (i := 3) rfl)) (by decide) (rm1 l Z a0 hw   h0 n0 (Nat.le_trans Z0 K0.1) r84 g84  ) (by decide) (by decide) e0 pd_1 rfl rfl rfl (Nat.le_of_eq rfl) (by decide) (by decide) at_0 rfl (fun v84 T84 L84 X84 Q84 => ?_)
  obtain ⟨aa, rfl, z84, N84', K84', F84_aa⟩ := Q84
  have na_aa := Nat.le_trans K0.1 z84
  have N84 := Fr.app N0 N84'
  have K84 := Keep.trans K0 K84' all0
  refine Go.astoreN X84 hx hby (Ls' := #[.val (.int x0), .val (.int x1), .val (.ref aa), .unset, .unset]) at_3 rfl rfl rfl ?_
  refine Go.aloadN X84 hx hby (v := .ref aa) at_4 rfl rfl rfl ?_
  refine Go.ifnullNo X84 hx hby at_5 rfl ?_
  refine Go.aloadN X84 hx hby (v := .ref aa) at_8 rfl rfl rfl ?_
  refine Go.alen X84 hx hby hZ rfl F84_aa at_9 rfl ?_
  refine Go.bipush X84 hx hby (v := (9 : Int32)) at_10 rfl rfl ?_
  refine Go.icmp_eq X84 hx hby (pc' := 17) at_12 (by decide) (by decide) rfl (fun hc85 => ?_) (fun hc85 => ?_)
  · replace hf := (if_pos hc85).symm.trans hf
    refine Go.aloadN X84 hx hby (v := .ref aa) at_17 rfl rfl rfl ?_
    obtain ⟨r86, g86, hf⟩ := Option.bind_eq_some_iff.mp hf
    refine Go.callSP X84 hx hby hZ (by rw [hml]; rfl) (W := 0) (argsL := [.ref aa]) (rest := []) hown (hw _ (List.mem_of_getElem? (i := 5) rfl)) (hw _ (List.mem_of_getElem? (i := 6) rfl)) (hw _ (List.mem_of_getElem? (i := 7) rfl)) (hw _ (List.mem_of_getElem? (i := 8) rfl)) (by decide) (rm2 l Z a0 hw aa r84 T84.heap r86 g86 F84_aa) (by decide) (by decide) rfl pd_2 rfl rfl rfl (Nat.le_of_eq rfl) rfl rfl (by decide) (by decide) at_18 rfl (fun T86 X86 e86 => ?_)
    refine Go.if_ne X86 hx hby (pc' := 26) at_21 (by decide) (by decide) rfl (fun hc87 => ?_) (fun hc87 => ?_)
    · replace hf := (if_neg hc87).symm.trans hf
      refine Go.iloadN X86 hx hby (v := x0) at_26 rfl rfl ?_
      refine Go.ldcI X86 hx hby hZ (v := (2147483647 : Int32)) hown (hw _ (List.mem_of_getElem? (i := 9) rfl)) at_27 rfl ?_
      refine Go.iand X86 hx hby at_29 rfl ?_
      refine Go.bipush X86 hx hby (v := (9 : Int32)) at_30 rfl rfl ?_
      refine Go.irem X86 hx hby at_32 rfl (by decide) ?_
      refine Go.istoreN X86 hx hby (Ls' := #[.val (.int x0), .val (.int x1), .val (.ref aa), .val (.int (remI (x0 &&& (2147483647 : Int32)) (9 : Int32))), .unset]) at_33 rfl rfl ?_
      refine Go.aloadN X86 hx hby (v := .ref aa) at_34 rfl rfl rfl ?_
      refine Go.iloadN X86 hx hby (v := (remI (x0 &&& (2147483647 : Int32)) (9 : Int32))) at_35 rfl rfl ?_
      refine Go.iloadN X86 hx hby (v := x1) at_36 rfl rfl ?_
      refine Go.i2b X86 hx hby at_37 rfl ?_
      rcases Decidable.em (inA r84 (remI (x0 &&& (2147483647 : Int32)) (9 : Int32))) with hj88 | hj88
      case inr => exact absurd ((if_neg hj88).symm.trans hf) nofun
      replace hf := (if_pos hj88).symm.trans hf
      refine Go.bastore X86 hx hby hZ e86 F84_aa hj88 at_38 rfl (fun T89 h89 X89 e89 W89 A89 => ?_)
      have N89 := Fr.snoc X89 N84 (Nat.le_trans Z0 na_aa)
      have K89 := Keep.wr K84 W89 (Or.inr na_aa)
      obtain ⟨r90, g90, hf⟩ := Option.bind_eq_some_iff.mp hf
      refine Go.callS X89 hx hby hZ (by rw [hml]; rfl) (W := 0) (argsL := []) (rest := []) hown (hw _ (List.mem_of_getElem? (i := 0) rfl)) (hw _ (List.mem_of_getElem? (i := 1) rfl)) (hw _ (List.mem_of_getElem? (i := 2) rfl)) (hw _ (List.mem_of_getElem? (i := 3) rfl)) (by decide) (rm1 l Z a0 hw   h89 n0 (Nat.le_trans Z0 K89.1) r90 g90  ) (by decide) (by decide) e89 pd_1 rfl rfl rfl (Nat.le_of_eq rfl) (by decide) (by decide) at_39 rfl (fun v90 T90 L90 X90 Q90 => ?_)
      obtain ⟨bb, rfl, z90, N90', K90', F90_bb⟩ := Q90
      have ne_aa_bb : aa ≠ bb := Nat.ne_of_lt (Nat.lt_of_lt_of_le (AryI.lt A89) z90)
      have F90_aa := AryI.keep A89 K90' nin0
      have na_bb := Nat.le_trans K89.1 z90
      have N90 := Fr.app N89 N90'
      have K90 := Keep.trans K89 K90' all0
      refine Go.astore X90 hx hby (Ls' := #[.val (.int x0), .val (.int x1), .val (.ref aa), .val (.int (remI (x0 &&& (2147483647 : Int32)) (9 : Int32))), .val (.ref bb)]) at_42 rfl rfl rfl ?_
      refine Go.aload X90 hx hby (v := .ref bb) at_44 rfl rfl rfl ?_
      refine Go.ifnullNo X90 hx hby at_46 rfl ?_
      refine Go.aload X90 hx hby (v := .ref bb) at_49 rfl rfl rfl ?_
      refine Go.aloadN X90 hx hby (v := .ref aa) at_51 rfl rfl rfl ?_
      refine Go.acmpNe X90 hx hby at_52 rfl (Ne.symm ne_aa_bb) ?_
      refine Go.aload X90 hx hby (v := .ref bb) at_55 rfl rfl rfl ?_
      refine Go.alen X90 hx hby hZ rfl F90_bb at_57 rfl ?_
      refine Go.bipush X90 hx hby (v := (9 : Int32)) at_58 rfl rfl ?_
      refine Go.icmp_eq X90 hx hby (pc' := 65) at_60 (by decide) (by decide) rfl (fun hc91 => ?_) (fun hc91 => ?_)
      · replace hf := (if_pos hc91).symm.trans hf
        refine Go.aload X90 hx hby (v := .ref bb) at_65 rfl rfl rfl ?_
        obtain ⟨r92, g92, hf⟩ := Option.bind_eq_some_iff.mp hf
        refine Go.callSP X90 hx hby hZ (by rw [hml]; rfl) (W := 0) (argsL := [.ref bb]) (rest := []) hown (hw _ (List.mem_of_getElem? (i := 5) rfl)) (hw _ (List.mem_of_getElem? (i := 6) rfl)) (hw _ (List.mem_of_getElem? (i := 7) rfl)) (hw _ (List.mem_of_getElem? (i := 8) rfl)) (by decide) (rm2 l Z a0 hw bb r90 T90.heap r92 g92 F90_bb) (by decide) (by decide) rfl pd_2 rfl rfl rfl (Nat.le_of_eq rfl) rfl rfl (by decide) (by decide) at_67 rfl (fun T92 X92 e92 => ?_)
        exact Go.iretN X92 hx hby hlk hret (Or.inl rfl) (w' := (r92 &&& 1)) rfl at_70 (by decide) (by decide) ⟨congrArg (fun z => some (Value.int z)) (Option.some.inj hf), N90⟩
      · replace hf := (if_neg hc91).symm.trans hf
        refine Go.iconst X90 hx hby (v := (0 : Int32)) at_63 rfl rfl ?_
        exact Go.iretN X90 hx hby hlk hret (Or.inl rfl) (w' := (0 : Int32)) rfl at_64 (by decide) (by decide) ⟨congrArg (fun z => some (Value.int z)) (Option.some.inj hf), N90⟩
    · replace hf := (if_pos hc87).symm.trans hf
      refine Go.iconst X86 hx hby (v := (0 : Int32)) at_24 rfl rfl ?_
      exact Go.iretN X86 hx hby hlk hret (Or.inl rfl) (w' := (0 : Int32)) rfl at_25 (by decide) (by decide) ⟨congrArg (fun z => some (Value.int z)) (Option.some.inj hf), N84⟩
  · replace hf := (if_neg hc85).symm.trans hf
    refine Go.iconst X84 hx hby (v := (0 : Int32)) at_15 rfl rfl ?_
    exact Go.iretN X84 hx hby hlk hret (Or.inl rfl) (w' := (0 : Int32)) rfl at_16 (by decide) (by decide) ⟨congrArg (fun z => some (Value.int z)) (Option.some.inj hf), N84⟩
theorem own_mask (x : Int32) (k : Nat) (hk : k ≤ 31) (m : Int32) (hm : m = Int32.ofNat (2 ^ k - 1)) : (x &&& m).toInt = x.toInt % (2 ^ k : Nat) := by
  subst hm
  have h1 : (x &&& Int32.ofNat (2 ^ k - 1)).toBitVec.toNat = x.toBitVec.toNat % 2 ^ k := by
    rw [Int32.toBitVec_and, BitVec.toNat_and]
    have : (Int32.ofNat (2 ^ k - 1)).toBitVec.toNat = 2 ^ k - 1 := by
      show (BitVec.ofNat 32 (2 ^ k - 1)).toNat = _
      rw [BitVec.toNat_ofNat]
      apply Nat.mod_eq_of_lt
      have : 2 ^ k ≤ 2 ^ 31 := Nat.pow_le_pow_right (by decide) hk
      omega
    rw [this, Nat.and_two_pow_sub_one_eq_mod]
  have hp : 2 ^ k ≤ 2 ^ 31 := Nat.pow_le_pow_right (by decide) hk
  have hpos : 0 < 2 ^ k := Nat.two_pow_pos k
  have hlt := Nat.mod_lt x.toBitVec.toNat hpos
  show (x &&& Int32.ofNat (2 ^ k - 1)).toBitVec.toInt = x.toBitVec.toInt % _
  rw [BitVec.toInt_eq_toNat_cond, h1, if_pos (by omega), BitVec.toInt_eq_toNat_cond]
  split
  · simp
  · have hd : (2 ^ k : Nat) ∣ 2 ^ 32 := Nat.pow_dvd_pow 2 (by omega)
    obtain ⟨q, hq⟩ := hd
    rw [Int.sub_emod, show ((2 ^ 32 : Nat) : Int) % (2 ^ k : Nat) = 0 by rw [hq]; simp]
    simp
theorem own_fin32 (x : Int32) (N : Nat) (h0 : 0 ≤ x.toInt) (h1 : x.toInt < N) : ∃ n : Fin N, x = Int32.ofNat n.val := by
  refine ⟨⟨x.toInt.toNat, by omega⟩, Int32.toInt_inj.mp ?_⟩
  have := x.toInt_lt
  rw [Int32.toInt_ofNat_of_lt (by show x.toInt.toNat < _; omega)]
  show x.toInt = (x.toInt.toNat : Int); omega
theorem own_remI (x y : Int32) (hx : 0 ≤ x.toInt) (hy : 0 < y.toInt) : (remI x y).toInt = x.toInt % y.toInt := by
  have h1 := x.toInt_lt; have h2 := y.toInt_lt
  have hq : (x / y).toInt = x.toInt / y.toInt := by
    rw [Int32.toInt_div, Int.tdiv_eq_ediv_of_nonneg hx]
    have a1 : 0 ≤ x.toInt / y.toInt := Int.ediv_nonneg hx (by omega)
    have a2 : x.toInt / y.toInt ≤ x.toInt := Int.ediv_le_self _ hx
    exact Int.bmod_eq_of_le (by omega) (by omega)
  have e := Int.emod_add_mul_ediv x.toInt y.toInt
  have m0 := Int.emod_nonneg x.toInt (b := y.toInt) (by omega)
  have hm : (x / y * y).toInt = x.toInt / y.toInt * y.toInt := by
    rw [Int32.toInt_mul, hq]
    have : x.toInt / y.toInt * y.toInt = y.toInt * (x.toInt / y.toInt) := Int.mul_comm _ _
    have a1 : 0 ≤ y.toInt * (x.toInt / y.toInt) := Int.mul_nonneg (by omega) (Int.ediv_nonneg hx (by omega))
    exact Int.bmod_eq_of_le (by omega) (by omega)
  unfold remI
  rw [Int32.toInt_sub, hm]
  have : x.toInt / y.toInt * y.toInt = y.toInt * (x.toInt / y.toInt) := Int.mul_comm _ _
  have m1 := Int.emod_lt_of_pos x.toInt hy
  rw [show x.toInt - x.toInt / y.toInt * y.toInt = x.toInt % y.toInt by omega]
  exact Int.bmod_eq_of_le (by omega) (by omega)
theorem own_bm (x : Int) (n : Nat) (m : Int) (h : (2 * m).toNat = n) (hm : 0 < m) : x.bmod n = (x + m) % (2 * m) - m := by
  have hn : (n : Int) = 2 * m := by omega
  rw [Int.bmod_def, hn, show ((2 * m + 1) / 2 : Int) = m by omega]
  have h1 := Int.emod_nonneg x (b := 2 * m) (by omega)
  have h2 := Int.emod_lt_of_pos x (b := 2 * m) (by omega)
  have e := Int.emod_add_mul_ediv x (2 * m)
  generalize x / (2 * m) = q at *
  generalize x % (2 * m) = r at *
  subst e
  rw [show r + 2 * m * q + m = (r + m) + 2 * m * q by omega, Int.add_mul_emod_self_left]
  split
  · rw [Int.emod_eq_of_lt (by omega) (by omega)]; omega
  · rw [show r + m = (r - m) + 2 * m * 1 by omega, Int.add_mul_emod_self_left, Int.emod_eq_of_lt (by omega) (by omega)]; omega
theorem own_i2b (x : Int32) : (i2bF x).toInt = (x.toInt + 128) % 256 - 128 := by
  unfold i2bF; rw [Int8.toInt_toInt32, Int32.toInt_toInt8]; exact own_bm _ _ 128 rfl (by decide)
theorem own_i2s (x : Int32) : (i2sF x).toInt = (x.toInt + 32768) % 65536 - 32768 := by
  unfold i2sF; rw [Int16.toInt_toInt32, Int32.toInt_toInt16]; exact own_bm _ _ 32768 rfl (by decide)
theorem own_tonat (x : Int32) : (x.toBitVec.toNat : Int) = x.toInt % 4294967296 := by
  show _ = x.toBitVec.toInt % 4294967296
  rw [BitVec.toInt_eq_toNat_cond]
  have := x.toBitVec.isLt
  split <;> omega
theorem own_toint (x : Int32) (h : x.toBitVec.toNat < 2147483648) : x.toInt = x.toBitVec.toNat := by
  show x.toBitVec.toInt = _
  rw [BitVec.toInt_eq_toNat_cond, if_pos (by omega)]
theorem own_tonatJ (x : Int64) : (x.toBitVec.toNat : Int) = x.toInt % 18446744073709551616 := by
  show _ = x.toBitVec.toInt % 18446744073709551616
  rw [BitVec.toInt_eq_toNat_cond]
  have := x.toBitVec.isLt
  split <;> omega
theorem own_tointJ (x : Int64) (h : x.toBitVec.toNat < 9223372036854775808) : x.toInt = x.toBitVec.toNat := by
  show x.toBitVec.toInt = _
  rw [BitVec.toInt_eq_toNat_cond, if_pos (by omega)]
theorem own_i2c (x : Int32) : (i2cF x).toInt = x.toInt % 65536 := by
  have h : (i2cF x).toBitVec.toNat = x.toBitVec.toNat % 65536 := by
    show (BitVec.setWidth 32 (BitVec.setWidth 16 x.toBitVec)).toNat = _
    rw [BitVec.toNat_setWidth, BitVec.toNat_setWidth]; omega
  have := own_tonat x
  rw [own_toint _ (by omega), h]; omega
theorem own_amt : ∀ k : Fin 32, ((Int32.ofNat k.val &&& 31).toBitVec.smod 32).toNat = k.val := by decide +kernel
theorem own_amtU : ∀ k : Fin 32, ((Int32.ofNat k.val &&& 31).toUInt32.toBitVec.toNat) = k.val := by decide +kernel
theorem own_shr (x : Int32) (k : Nat) (hk : k < 32) : (shrI x (Int32.ofNat k)).toInt = x.toInt / (2 ^ k : Nat) := by
  show (BitVec.sshiftRight x.toBitVec ((Int32.ofNat k &&& 31).toBitVec.smod 32).toNat).toInt = x.toBitVec.toInt / _
  rw [own_amt ⟨k, hk⟩, BitVec.toInt_sshiftRight, Int.shiftRight_eq_div_pow]
theorem own_shl (x : Int32) (k : Nat) (hk : k < 32) : (shlI x (Int32.ofNat k)).toInt = (x.toInt * (2 ^ k : Nat)).bmod 4294967296 := by
  show (x.toBitVec <<< ((Int32.ofNat k &&& 31).toBitVec.smod 32)).toInt = (x.toBitVec.toInt * _).bmod _
  rw [BitVec.shiftLeft_eq', own_amt ⟨k, hk⟩, BitVec.toInt_shiftLeft, Nat.shiftLeft_eq, BitVec.toInt_eq_toNat_bmod]
  rw [Int.bmod_mul_bmod]
  congr 1
theorem own_ushr (x : Int32) (k : Nat) (hk : k < 32) (h0 : 0 < k) : (XT.ushr x (Int32.ofNat k)).toInt = (x.toInt % 4294967296) / (2 ^ k : Nat) := by
  have h : (XT.ushr x (Int32.ofNat k)).toBitVec.toNat = x.toBitVec.toNat / 2 ^ k := by
    show (x.toBitVec >>> ((Int32.ofNat k &&& 31).toUInt32.toBitVec % 32)).toNat = _
    rw [BitVec.ushiftRight_eq', BitVec.toNat_ushiftRight, BitVec.toNat_umod, own_amtU ⟨k, hk⟩, Nat.shiftRight_eq_div_pow]
    show _ / 2 ^ (k % 32) = _
    rw [Nat.mod_eq_of_lt hk]
  have h1 := x.toBitVec.isLt
  have h2 : x.toBitVec.toNat / 2 ^ k ≤ x.toBitVec.toNat / 2 ^ 1 := Nat.div_le_div_left (Nat.pow_le_pow_right (by decide) h0) (by decide)
  rw [own_toint _ (by omega), h, ← own_tonat]; rfl
theorem own_ushr0 (x : Int32) (k : Nat) (hk : k < 32) (h0 : 0 ≤ x.toInt) : (XT.ushr x (Int32.ofNat k)).toInt = x.toInt / (2 ^ k : Nat) := by
  have h1 := x.toInt_lt
  by_cases q : k = 0
  · subst q
    have : XT.ushr x (Int32.ofNat 0) = x := by
      apply Int32.toBitVec_inj.mp
      apply BitVec.eq_of_toNat_eq
      show (x.toBitVec >>> ((Int32.ofNat 0 &&& 31).toUInt32.toBitVec % 32)).toNat = _
      rw [BitVec.ushiftRight_eq', BitVec.toNat_ushiftRight, BitVec.toNat_umod, own_amtU ⟨0, hk⟩]; rfl
    rw [this]; simp
  · rw [own_ushr x k hk (by omega), Int.emod_eq_of_lt h0 (by omega)]
theorem own_if {c : Prop} [Decidable c] {α : Type} {a b r : α} (h1 : c → a = r) (h2 : ¬ c → b = r) : (if c then a else b) = r := by
  by_cases h : c
  · rw [if_pos h]; exact h1 h
  · rw [if_neg h]; exact h2 h
theorem own_maskJ (x : Int64) (k : Nat) (hk : k ≤ 63) (m : Int64) (hm : m = Int64.ofNat (2 ^ k - 1)) : (x &&& m).toInt = x.toInt % (2 ^ k : Nat) := by
  subst hm
  have h1 : (x &&& Int64.ofNat (2 ^ k - 1)).toBitVec.toNat = x.toBitVec.toNat % 2 ^ k := by
    rw [Int64.toBitVec_and, BitVec.toNat_and]
    have : (Int64.ofNat (2 ^ k - 1)).toBitVec.toNat = 2 ^ k - 1 := by
      show (BitVec.ofNat 64 (2 ^ k - 1)).toNat = _
      rw [BitVec.toNat_ofNat]
      apply Nat.mod_eq_of_lt
      have : 2 ^ k ≤ 2 ^ 63 := Nat.pow_le_pow_right (by decide) hk
      omega
    rw [this, Nat.and_two_pow_sub_one_eq_mod]
  have hp : 2 ^ k ≤ 2 ^ 63 := Nat.pow_le_pow_right (by decide) hk
  have hpos : 0 < 2 ^ k := Nat.two_pow_pos k
  have hlt := Nat.mod_lt x.toBitVec.toNat hpos
  show (x &&& Int64.ofNat (2 ^ k - 1)).toBitVec.toInt = x.toBitVec.toInt % _
  rw [BitVec.toInt_eq_toNat_cond, h1, if_pos (by omega), BitVec.toInt_eq_toNat_cond]
  split
  · simp
  · have hd : (2 ^ k : Nat) ∣ 2 ^ 64 := Nat.pow_dvd_pow 2 (by omega)
    obtain ⟨q, hq⟩ := hd
    rw [Int.sub_emod, show ((2 ^ 64 : Nat) : Int) % (2 ^ k : Nat) = 0 by rw [hq]; simp]
    simp
theorem own_amtJ : ∀ k : Fin 64, ((Int32.ofNat k.val).toInt64.toUInt64 &&& Int64.toUInt64 63).toBitVec.toNat = k.val := by decide +kernel
theorem own_ushrL (x : Int64) (k : Nat) (hk : k < 64) (h0 : 0 < k) : (XT.ushrL x (Int32.ofNat k)).toInt = (x.toInt % 18446744073709551616) / (2 ^ k : Nat) := by
  have h : (XT.ushrL x (Int32.ofNat k)).toBitVec.toNat = x.toBitVec.toNat / 2 ^ k := by
    show (x.toBitVec >>> (((Int32.ofNat k).toInt64.toUInt64 &&& Int64.toUInt64 63).toBitVec % 64)).toNat = _
    rw [BitVec.ushiftRight_eq', BitVec.toNat_ushiftRight, BitVec.toNat_umod, own_amtJ ⟨k, hk⟩, Nat.shiftRight_eq_div_pow]
    show _ / 2 ^ (k % 64) = _
    rw [Nat.mod_eq_of_lt hk]
  have h1 := x.toBitVec.isLt
  have h2 : x.toBitVec.toNat / 2 ^ k ≤ x.toBitVec.toNat / 2 ^ 1 := Nat.div_le_div_left (Nat.pow_le_pow_right (by decide) h0) (by decide)
  rw [own_tointJ _ (by omega), h, ← own_tonatJ]; rfl
theorem own_inR {α : Type} {A : List α} {j : Int32} (n : Nat) (hl : A.length = n) (h0 : 0 ≤ j.toInt) (h1 : j.toInt < n) : inA A j := by
  rintro (h | h)
  · rw [Int32.lt_iff_toInt_lt] at h; change j.toInt < 0 at h; omega
  · rw [hl] at h; simp only [Int32.toNatClampNeg] at h; omega

def own_L : List Int32 := [-16, 69, 77, 78, 73, 89, 69, 84, 1]
theorem own_f1 : f1_0 = some own_L := by decide +kernel
theorem own_f2 : f2_0 own_L = some 1 := by decide +kernel
theorem own_law (x0 : Int32) (x1 : Int32) : f0_0 x0 x1 = some 1 := by
  have m := own_mask x0 31 (by decide) 2147483647 rfl
  have r := own_remI (x0 &&& 2147483647) 9 (by omega) (by decide)
  rw [show (9 : Int32).toInt = 9 from rfl] at r
  unfold f0_0
  rw [own_f1, Option.bind_some, if_pos (by decide), own_f2, Option.bind_some, if_neg (by decide), if_pos (own_inR 9 rfl (by omega) (by omega)), Option.bind_some, if_pos (by decide), own_f2, Option.bind_some]
  rfl

set_option maxRecDepth 65536 in
set_option maxHeartbeats 40000000 in
theorem comes_1 {Post : Tables → Env → Array Value → State → Outcome → State → Prop} (hpost : ∀ tb e args s v u, (limb_1_1.after args s (.returned v) u = true ∧ limb_1_2.after args s (.returned v) u = true ∧ True) → FrameEnd s (.returned v) u (Jvm.fieldLocs frame_1_writes args s ++ Jvm.arrayLocs frame_1_arrays args s ++ Jvm.staticLocs frame_1_statics s) 16 128 → Post tb e args s (.returned v) u) :
    ArmFor flags0 classFile x code maxLocals ret World_1 tables_1 room_1 Calls_1 rest_1 Pre_1 Post := by
  intro l hfl _ _ p e ha hc hk s m args below hf hA hF happ hP
  obtain ⟨hcalls, hrest, hpre⟩ := hP
  obtain ⟨-, -, -, hnamed, -, -, -, hat⟩ := (Spec.applies_iff hf).mp happ
  obtain ⟨hg, hn⟩ := and_e (Cond.before_iff.mp (show (Jvm.Cond.and given_1 narrow_1).before args s = true from hpre))
  obtain ⟨hcnt, q0⟩ := and_e hg
  obtain ⟨p0, q1⟩ := and_e q0
  obtain ⟨w0, w1, rfl⟩ : ∃ w0 w1 : Value, args = #[w0, w1] := by
    have hs : args.size = 2 := by simpa [Cond.value, given_1] using hcnt
    obtain ⟨L⟩ := args
    match L, hs with
    | [w0, w1], _ => exact ⟨w0, w1, rfl⟩
  have hw := fun d (hd : d ∈ tables_1) => atoms_spec (ws := Jvm.Cond.code x code maxLocals ret :: tables_1) hat d (List.mem_cons_of_mem _ hd)
  obtain ⟨i0, c0⟩ := is_v p0
  obtain rfl : w0 = (.int i0) := Option.some.inj c0
  obtain ⟨i1, c1⟩ := is_v q1
  obtain rfl : w1 = (.int i1) := Option.some.inj c1
  obtain ⟨n, o, h1, h2, h3, _, L, rfl, ⟨rfl, N⟩, hq⟩ := rm0 l s _ hw tables_1 i0 i1 s.heap s.heap.size (Nat.le_refl _) 1 (own_law i0 i1) p e ha hc hk s m _ below hf ((Spec.applies_iff_loose hf).mp happ).1 ⟨rfl, State.Warmed39.refl s, rfl⟩ trivial
  refine ⟨n, _, h1, h2, h3, hpost _ _ _ _ _ _ ⟨Cond.after_iff.mpr rfl, Cond.after_iff.mpr (eq_i res_at (Term.int_eval (1)) rfl), trivial⟩ ⟨hq.1, hq.2.1, (hq.2.2.sift fun y hy => Or.inr (N y hy)).mono (by decide) (by decide)⟩⟩
theorem main_1_1 : Claimed_1_1 := comes_1 fun _ _ _ _ _ _ h hF => ⟨h.1, hF⟩
theorem main_1_2 : Claimed_1_2 := comes_1 fun _ _ _ _ _ _ h hF => ⟨h.2.1, hF⟩
end Jvm.Pilot.@@N@@
namespace Jvm.Pilot.@@N@@
open Jvm Jvm.ClassFile Sem Op Lib Jvm.Free Jvm.Stand Jvm.Pilot.@@N@@.Jvm.D
/-! MADE BY PROGRAM (witnessworld.py) out of the Statement's table words and the real class files: 9 classes; the members and pool entries that the words name. The judged class is class 1, her method 1. -/
namespace start1
open Jvm.ClassFile
def u (s : String) : CpInfo := .utf8 (stringToUtf16 s)
/-- a pool by its gaps: so many unusable entries, then the entry; so many at the end -/
def gap : Nat → List CpInfo → List CpInfo
  | 0, r => r
  | n + 1, r => .unusable :: gap n r
def poolList (es : List (Nat × CpInfo)) (last : Nat) : List CpInfo := es.foldr (fun e r => gap e.1 (e.2 :: r)) (gap last [])
def pool (es : List (Nat × CpInfo)) (last : Nat) : Array CpInfo := ⟨poolList es last⟩
def fileOf (pool : Array CpInfo) (this : Nat) (attrs : Array Attribute := #[]) (ms : Array MethodInfo := #[]) (fl : Nat := 33) (sup : Nat := 0) (ifs : Array Nat := #[]) (fds : Array FieldInfo := #[]) : ClassFile where
  minorVersion := 0
  majorVersion := 65
  constantPool := pool
  accessFlags := fl
  thisClass := this
  superClass := sup
  interfaces := ifs
  fields := fds
  methods := ms
  attributes := attrs
def plain (name : String) (sup : Option ClassId) : Class where
  name := name
  kind := .ordinary
  loader := none
  accessFlags := 33
  super := sup
  interfaces := #[]
  cf := none
  fields := #[]
  methods := #[]
  instanceTypes := #[]
  staticTypes := #[]
  resolved := #[]
  callSites := []
  init := .initialized
  statics := none
  mirror := none

def pool0 : Array CpInfo := pool [(5, u "<init>"), (0, u "()V"), (1, .class_ 10), (1, u "java/lang/Object")] 113

def k0m0 : Method := { name := "<init>", desc := "()V", sig := { parameters := [], returnType := none }, accessFlags := 1, code := none }
/-- java/lang/Object -/
def k0 : Class := { plain "java/lang/Object" none with
  accessFlags := 33
  interfaces := #[]
  cf := some (fileOf pool0 8 #[] #[{ accessFlags := 1, nameIndex := 5, descriptorIndex := 6, attributes := #[] }] 33 0 #[] #[])
  fields := #[]
  methods := #[k0m0]
  instanceTypes := #[]
  staticTypes := #[]
  resolved := Array.replicate 124 none
  statics := none }

def pool1 : Array CpInfo := pool [(2, .class_ 4), (1, u "java/lang/Object"), (0, u "<init>"), (0, u "()V"), (0, .interfaceMethodref 8 9), (0, .class_ 10), (0, .nameAndType 11 12), (0, u "com/example/emniyet/emniyet/bridge/EngineCard"), (0, u "engineAid"), (0, u "()[B"), (0, .methodref 14 15), (0, .class_ 16), (0, .nameAndType 17 18), (0, u "com/example/emniyet/emniyet/bridge/EngineCardEngineAidPinLaw"), (0, u "isAid"), (0, u "([B)Z"), (0, .integer 2147483647), (2, u "law"), (0, u "(II)Z")] 5

def k1m0 : Method := { name := "<init>", desc := "()V", sig := { parameters := [], returnType := none }, accessFlags := 1, code := none }
def k1c1 : Code := { maxStack := 3, maxLocals := 5, code := code, exceptionTable := #[], attributes := #[] }
def k1m1 : Method := { name := "law", desc := "(II)Z", sig := { parameters := [.int, .int], returnType := some .boolean }, accessFlags := 9, code := some k1c1 }
def k1c2 : Code := { maxStack := 2, maxLocals := 1, code := method_3_code, exceptionTable := #[], attributes := #[] }
def k1m2 : Method := { name := "isAid", desc := "([B)Z", sig := { parameters := [(.array .byte)], returnType := some .boolean }, accessFlags := 10, code := some k1c2 }
/-- com/example/emniyet/emniyet/bridge/EngineCardEngineAidPinLaw -/
def k1 : Class := { plain "com/example/emniyet/emniyet/bridge/EngineCardEngineAidPinLaw" (some 0) with
  accessFlags := 49
  interfaces := #[]
  cf := some (fileOf pool1 14 #[] #[{ accessFlags := 1, nameIndex := 5, descriptorIndex := 6, attributes := #[] }, { accessFlags := 9, nameIndex := 22, descriptorIndex := 23, attributes := #[] }, { accessFlags := 10, nameIndex := 17, descriptorIndex := 18, attributes := #[] }] 49 2 #[] #[])
  fields := #[]
  methods := #[k1m0, k1m1, k1m2]
  instanceTypes := #[]
  staticTypes := #[]
  resolved := Array.replicate 29 none
  statics := none }

def pool2 : Array CpInfo := pool [(1, .class_ 2), (0, u "com/example/emniyet/emniyet/bridge/EngineCard"), (0, .class_ 4), (0, u "java/lang/Object"), (0, u "engineAid"), (0, u "()[B")] 13

def k2c0 : Code := { maxStack := 4, maxLocals := 0, code := prog_2_method_1_code, exceptionTable := #[], attributes := #[] }
def k2m0 : Method := { name := "engineAid", desc := "()[B", sig := { parameters := [], returnType := some (.array .byte) }, accessFlags := 9, code := some k2c0 }
/-- com/example/emniyet/emniyet/bridge/EngineCard -/
def k2 : Class := { plain "com/example/emniyet/emniyet/bridge/EngineCard" (some 0) with
  accessFlags := 1537
  interfaces := #[]
  cf := some (fileOf pool2 1 #[] #[{ accessFlags := 9, nameIndex := 5, descriptorIndex := 6, attributes := #[] }] 1537 3 #[] #[])
  fields := #[]
  methods := #[k2m0]
  instanceTypes := #[]
  staticTypes := #[]
  resolved := Array.replicate 20 none
  statics := none }

def pool3 : Array CpInfo := pool [(1, u "java/lang/Cloneable"), (0, .class_ 1), (0, u "java/lang/Object"), (0, .class_ 3)] 3

/-- java/lang/Cloneable -/
def k3 : Class := { plain "java/lang/Cloneable" (some 0) with
  accessFlags := 1537
  interfaces := #[]
  cf := some (fileOf pool3 2 #[] #[] 1537 4 #[] #[])
  fields := #[]
  methods := #[]
  instanceTypes := #[]
  staticTypes := #[]
  resolved := Array.replicate 8 none
  statics := none }

def pool4 : Array CpInfo := pool [(1, u "java/io/Serializable"), (0, .class_ 1), (0, u "java/lang/Object"), (0, .class_ 3)] 3

/-- java/io/Serializable -/
def k4 : Class := { plain "java/io/Serializable" (some 0) with
  accessFlags := 1537
  interfaces := #[]
  cf := some (fileOf pool4 2 #[] #[] 1537 4 #[] #[])
  fields := #[]
  methods := #[]
  instanceTypes := #[]
  staticTypes := #[]
  resolved := Array.replicate 8 none
  statics := none }

/-- the primitive byte -/
def k5 : Class := { plain "byte" none with kind := .primitive 'B', accessFlags := 0x411 }
/-- [B -/
def k6 : Class := { plain "[B" (some 0) with kind := .array 5 .byte, interfaces := #[3, 4], accessFlags := 1041 }

/-- the primitive int -/
def k7 : Class := { plain "int" none with kind := .primitive 'I', accessFlags := 0x411 }
/-- [I -/
def k8 : Class := { plain "[I" (some 0) with kind := .array 7 .int, interfaces := #[3, 4], accessFlags := 1041 }

def heap : Heap := #[]
def classes : Array Class := #[k0, k1, k2, k3, k4, k5, k6, k7, k8]
def interned : List (Array UInt16 × Addr) := []
def slotsUsed : Nat := 0
def theMethod : MethodId := ⟨1, 1⟩
def args0 : Array Value := #[.int 5, .int 5]
def aboutOver (below : List Frame) : State where
  vm := { classes := classes, interned := interned.toArray }
  heap := heap
  slotsUsed := slotsUsed
  threads := #[{ frames := .invoking theMethod args0 :: below }]
def below0 : List Frame := [.native { method := ⟨0, 0⟩, args := #[] }]
def about1 : State := aboutOver below0
def p0 : Program := .bare "" "" ""
def e0 : Env := launch0.env 0 0 0
theorem w_frames : about1.frames = Frame.invoking theMethod args0 :: below0 := rfl
set_option maxRecDepth 65536 in
theorem w_args : argsFit about1.vm theMethod args0 = true := by decide +kernel
set_option maxRecDepth 65536 in
theorem w_heap : heapFits about1 = true := by decide +kernel
set_option maxRecDepth 65536 in
theorem w_runnable : about1.curStatus? = some .runnable := by decide +kernel
set_option maxRecDepth 65536 in
theorem w_alone : about1.alone = true := by decide +kernel
set_option maxRecDepth 65536 in
theorem w_named : about1.methodNamed? x = some theMethod := by decide +kernel
set_option maxRecDepth 65536 in
theorem w_hears : about1.hears theMethod below0 = true := by decide +kernel
set_option maxRecDepth 65536 in
theorem w_ripe : about1.ripe theMethod args0 below0 = true := by decide +kernel
theorem w_running : about1.status = .running := rfl
set_option maxRecDepth 65536 in
theorem w_room : about1.hasRoom e0.platform room_1 = true :=
  launch0.hasRoom_least _ room_1 (by decide +kernel) (by decide +kernel) (by decide +kernel) (by decide +kernel) (by decide +kernel) (by decide +kernel)
theorem allAtoms_all (ts : List Jvm.Cond) (a : Array Jvm.Value) (st : Jvm.State) : (allAtoms ts).before a st = ts.all (fun c => c.before a st) := by
  induction ts with
  | nil => rfl
  | cons c t ih =>
    show (Jvm.Cond.and c (allAtoms t)).before a st = _
    rw [Jvm.Cond.before_and, ih, List.all_cons]
def words1 : List Jvm.Cond := Jvm.Cond.code x code maxLocals ret :: tables_1
/-- a 'code' word, met by the world's own term for the bytes: nothing is compared byte by byte -/
theorem code_word {y : MethodName} {bytes : ByteArray} {mx : Nat} {rt : Option FieldType} {a : Array Value} {s : State} {m : MethodId} {meth : Method} {c : Code} (h1 : s.methodNamed? y = some m) (h2 : s.vm.method? m = some meth) (h3 : meth.code = some c) (h4 : c.code = bytes)
    (h5 : (c.maxLocals == mx && c.exceptionTable.isEmpty && decide (c.maxStack ≤ mostOperands) && decide (meth.sig.returnType = rt) && !meth.locks && decide (parseMethodDescriptor y.desc = some meth.sig)) = true) : (Jvm.Cond.code y bytes mx rt).before a s = true := by
  simp only [Bool.and_eq_true, beq_iff_eq, Bool.not_eq_true', decide_eq_true_eq] at h5
  obtain ⟨⟨⟨⟨⟨g1, g2⟩, g3⟩, g4⟩, g5⟩, g6⟩ := h5
  simp [Cond.before, Cond.holds, Cond.value, h1, h2, h3, h4, g1, g2, g3, g4, g5, g6]
def isCode : Jvm.Cond → Bool
  | .code _ _ _ _ => true
  | _ => false
theorem all_split {L : List Jvm.Cond} {P : Jvm.Cond → Bool} (h1 : L.all (fun c => isCode c || P c) = true) (h2 : ∀ c ∈ L.filter isCode, P c = true) : L.all P = true := by
  refine List.all_eq_true.mpr fun c hc => ?_
  have h := List.all_eq_true.mp h1 c hc
  rcases Bool.eq_false_or_eq_true (isCode c) with hi | hi
  · exact h2 c (List.mem_filter.mpr ⟨hc, hi⟩)
  · simpa [hi] using h
set_option maxRecDepth 65536 in
theorem w_c0 : (Jvm.Cond.code x code maxLocals ret).before args0 about1 = true := code_word (m := ⟨1, 1⟩) (meth := k1m1) (c := k1c1) (by decide +kernel) rfl rfl rfl (by decide +kernel)
set_option maxRecDepth 65536 in
theorem w_c1 : (Jvm.Cond.code ({ cls := "com/example/emniyet/emniyet/bridge/EngineCard", name := "engineAid", desc := "()[B" } : Jvm.MethodName) prog_2_method_1_code (0 : Nat) (Option.some (Jvm.ClassFile.FieldType.array Jvm.ClassFile.FieldType.byte))).before args0 about1 = true := code_word (m := ⟨2, 0⟩) (meth := k2m0) (c := k2c0) (by decide +kernel) rfl rfl rfl (by decide +kernel)
set_option maxRecDepth 65536 in
theorem w_c2 : (Jvm.Cond.code ({ cls := "com/example/emniyet/emniyet/bridge/EngineCardEngineAidPinLaw", name := "isAid", desc := "([B)Z" } : Jvm.MethodName) method_3_code (1 : Nat) (Option.some Jvm.ClassFile.FieldType.boolean)).before args0 about1 = true := code_word (m := ⟨1, 2⟩) (meth := k1m2) (c := k1c2) (by decide +kernel) rfl rfl rfl (by decide +kernel)
def codes1 : List Jvm.Cond := [Jvm.Cond.code x code maxLocals ret, Jvm.Cond.code ({ cls := "com/example/emniyet/emniyet/bridge/EngineCard", name := "engineAid", desc := "()[B" } : Jvm.MethodName) prog_2_method_1_code (0 : Nat) (Option.some (Jvm.ClassFile.FieldType.array Jvm.ClassFile.FieldType.byte)), Jvm.Cond.code ({ cls := "com/example/emniyet/emniyet/bridge/EngineCardEngineAidPinLaw", name := "isAid", desc := "([B)Z" } : Jvm.MethodName) method_3_code (1 : Nat) (Option.some Jvm.ClassFile.FieldType.boolean)]
set_option maxRecDepth 65536 in
theorem codes_eq : words1.filter isCode = codes1 := rfl
theorem w_codes : ∀ c ∈ words1.filter isCode, c.before args0 about1 = true := by
  rw [codes_eq]
  intro c hc
  simp only [codes1, List.mem_cons, List.not_mem_nil, or_false] at hc
  rcases hc with rfl | rfl | rfl
  · exact w_c0
  · exact w_c1
  · exact w_c2
set_option maxRecDepth 65536 in
theorem w_t1 : words1.all (fun c => isCode c || c.before args0 about1) = true := by decide +kernel
theorem w_tables : (allAtoms (Jvm.Cond.code x code maxLocals ret :: tables_1)).before args0 about1 = true := by
  rw [allAtoms_all]
  show words1.all (fun c => c.before args0 about1) = true
  refine all_split ?_ w_codes
  rw [w_t1]
set_option maxRecDepth 65536 in
theorem w_case : (Jvm.Cond.and given_1 narrow_1).before args0 about1 = true := by decide +kernel
theorem w_applies : (headSpec (Jvm.Cond.code x code maxLocals ret :: tables_1) room_1).applies x e0.platform about1 = true :=
  (Spec.applies_iff w_frames).mpr ⟨w_running, w_runnable, w_alone, w_named, w_hears, w_ripe, w_room, w_tables⟩
theorem atStart : AtStart classFile x code maxLocals ret World_1 tables_1 room_1 Calls_1 rest_1 Pre_1 launch0 p0 e0 about1 theMethod args0 below0 :=
  ⟨lists_1, trivial, launch0.admits_env _ _ _, launch0.least_env, fairChoices_fair.cas, fairChoices_fair.clock, w_frames, w_args, w_heap, w_applies, trivial, trivial, w_case⟩
end start1
theorem witness_1 : WitnessClaimed_1 := ⟨start1.p0, start1.e0, start1.about1, start1.theMethod, start1.args0, start1.below0, start1.atStart⟩
end Jvm.Pilot.@@N@@
