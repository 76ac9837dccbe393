import JvmDerived
import JvmDerived.Pilot.@@N@@Statement
import JvmDerived.Pilot.@@N@@Code
set_option linter.unusedVariables false
set_option linter.unusedSimpArgs false
namespace Jvm.Pilot.@@N@@
open Jvm Jvm.ClassFile Sem Op Lib Jvm.Free Jvm.Stand Jvm.LawKit Jvm.RoadKit Bundle Jvm.Pilot.@@N@@.Jvm.D

/-- from here the invocation ends, and what it leaves meets Q -/
def Go (p : Program) (e : Env) (below : List Frame) (s : State) (mc ms : Nat) (Q : Option Value → Heap → List Loc → Prop) (m : MethodId) (T : State) (pc : Nat) (Ls : Array Slot) (st : List Value) : Prop :=
  ∃ s₂ o, Steps p.tables e below (T.setTop (mkF m pc Ls st)) s₂ ∧ s₂.status = .running ∧ Ended s₂ below o ∧ ∃ v L, o = .returned v ∧ Q v s₂.heap L ∧ FrameEnd s o s₂ L mc ms
section Law
variable {p : Program} {l : Launch} {e : Env} {R : Room} {s : State} {m : MethodId} {args : Array Value} {below : List Frame} {meth : Method} {c : Code} {T T' : State} {locs : List Loc} {cells slots : Nat} {code : ByteArray} {Q : Option Value → Heap → List Loc → Prop} {mc ms : Nat} {pc pc' : Nat} {Ls Ls' : Array Slot} {st st' rest : List Value}
theorem Go.of (k : Go p e below s mc ms Q m T' pc' Ls' st') (h : ∀ t, Steps p.tables e below (T'.setTop (mkF m pc' Ls' st')) t → Steps p.tables e below (T.setTop (mkF m pc Ls st)) t) : Go p e below s mc ms Q m T pc Ls st := by
  obtain ⟨a, o, h1, h2⟩ := k
  exact ⟨a, o, h _ h1, h2⟩
def remI (x y : Int32) : Int32 := x - (x / y) * y
def remJ (x y : Int64) : Int64 := x - (x / y) * y
def i2bF (x : Int32) : Int32 := x.toInt8.toInt32
def i2cF (x : Int32) : Int32 := x.toUInt32.toUInt16.toUInt32.toInt32
def i2sF (x : Int32) : Int32 := x.toInt16.toInt32
def shlI (x y : Int32) : Int32 := x <<< (y &&& 31)
def shrI (x y : Int32) : Int32 := x >>> (y &&& 31)
def shlJ (x : Int64) (y : Int32) : Int64 := x <<< (y.toInt64 &&& 63)
def shrJ (x : Int64) (y : Int32) : Int64 := x >>> (y.toInt64 &&& 63)

theorem Go.iload (X : Stand p l e R s m args below meth c T locs cells slots) (hx : p.tables.exec = Jvm.exec) (hby : c.code = code) {k : Nat} {v : Int32} (hd : decode code pc = .ok (.iload k, 2)) (hpc : pc + 2 = pc') (hl : Ls[k]? = some (.val (.int v))) (h : Go p e below s mc ms Q m T pc' Ls (.int v :: st)) : Go p e below s mc ms Q m T pc Ls (st) := by
  subst hpc; exact h.of fun _ kk => XS.iload (g := mkF m pc Ls (st)) X.here hx rfl (hb hby hd) hl kk
theorem Go.iloadN (X : Stand p l e R s m args below meth c T locs cells slots) (hx : p.tables.exec = Jvm.exec) (hby : c.code = code) {k : Fin 4} {v : Int32} (hd : decode code pc = .ok (.iload_n k, 1)) (hpc : pc + 1 = pc') (hl : Ls[k.val]? = some (.val (.int v))) (h : Go p e below s mc ms Q m T pc' Ls (.int v :: st)) : Go p e below s mc ms Q m T pc Ls (st) := by
  subst hpc; exact h.of fun _ kk => XS.iloadN (g := mkF m pc Ls (st)) X.here hx rfl (hb hby hd) hl kk
theorem Go.lload (X : Stand p l e R s m args below meth c T locs cells slots) (hx : p.tables.exec = Jvm.exec) (hby : c.code = code) {k : Nat} {v : Int64} (hd : decode code pc = .ok (.lload k, 2)) (hpc : pc + 2 = pc') (hl : Ls[k]? = some (.val (.long v))) (h : Go p e below s mc ms Q m T pc' Ls (.long v :: st)) : Go p e below s mc ms Q m T pc Ls (st) := by
  subst hpc; exact h.of fun _ kk => XT.lload (g := mkF m pc Ls (st)) X.here hx rfl (hb hby hd) hl kk
theorem Go.lloadN (X : Stand p l e R s m args below meth c T locs cells slots) (hx : p.tables.exec = Jvm.exec) (hby : c.code = code) {k : Fin 4} {v : Int64} (hd : decode code pc = .ok (.lload_n k, 1)) (hpc : pc + 1 = pc') (hl : Ls[k.val]? = some (.val (.long v))) (h : Go p e below s mc ms Q m T pc' Ls (.long v :: st)) : Go p e below s mc ms Q m T pc Ls (st) := by
  subst hpc; exact h.of fun _ kk => XT.lloadN (g := mkF m pc Ls (st)) X.here hx rfl (hb hby hd) hl kk
theorem Go.aload (X : Stand p l e R s m args below meth c T locs cells slots) (hx : p.tables.exec = Jvm.exec) (hby : c.code = code) {k : Nat} {v : Value} (hd : decode code pc = .ok (.aload k, 2)) (hpc : pc + 2 = pc') (hl : Ls[k]? = some (.val v)) (hv : v.isRef = true) (h : Go p e below s mc ms Q m T pc' Ls (v :: st)) : Go p e below s mc ms Q m T pc Ls (st) := by
  subst hpc; exact h.of fun _ kk => XS.aload (g := mkF m pc Ls (st)) X.here hx rfl (hb hby hd) hl hv kk
theorem Go.aloadN (X : Stand p l e R s m args below meth c T locs cells slots) (hx : p.tables.exec = Jvm.exec) (hby : c.code = code) {k : Fin 4} {v : Value} (hd : decode code pc = .ok (.aload_n k, 1)) (hpc : pc + 1 = pc') (hl : Ls[k.val]? = some (.val v)) (hv : v.isRef = true) (h : Go p e below s mc ms Q m T pc' Ls (v :: st)) : Go p e below s mc ms Q m T pc Ls (st) := by
  subst hpc; exact h.of fun _ kk => XS.aloadN (g := mkF m pc Ls (st)) X.here hx rfl (hb hby hd) hl hv kk
theorem Go.istore (X : Stand p l e R s m args below meth c T locs cells slots) (hx : p.tables.exec = Jvm.exec) (hby : c.code = code) {k : Nat} {v : Int32} (hd : decode code pc = .ok (.istore k, 2)) (hpc : pc + 2 = pc') (hl : storeLocals Ls k (.int v) = some Ls') (h : Go p e below s mc ms Q m T pc' Ls' (st)) : Go p e below s mc ms Q m T pc Ls (.int v :: st) := by
  subst hpc; exact h.of fun _ kk => XS.istore (g := mkF m pc Ls (.int v :: st)) X.here hx rfl (hb hby hd) rfl hl kk
theorem Go.istoreN (X : Stand p l e R s m args below meth c T locs cells slots) (hx : p.tables.exec = Jvm.exec) (hby : c.code = code) {k : Fin 4} {v : Int32} (hd : decode code pc = .ok (.istore_n k, 1)) (hpc : pc + 1 = pc') (hl : storeLocals Ls k.val (.int v) = some Ls') (h : Go p e below s mc ms Q m T pc' Ls' (st)) : Go p e below s mc ms Q m T pc Ls (.int v :: st) := by
  subst hpc; exact h.of fun _ kk => XS.istoreN (g := mkF m pc Ls (.int v :: st)) X.here hx rfl (hb hby hd) rfl hl kk
theorem Go.lstore (X : Stand p l e R s m args below meth c T locs cells slots) (hx : p.tables.exec = Jvm.exec) (hby : c.code = code) {k : Nat} {v : Int64} (hd : decode code pc = .ok (.lstore k, 2)) (hpc : pc + 2 = pc') (hl : storeLocals Ls k (.long v) = some Ls') (h : Go p e below s mc ms Q m T pc' Ls' (st)) : Go p e below s mc ms Q m T pc Ls (.long v :: st) := by
  subst hpc; exact h.of fun _ kk => XT.lstore (g := mkF m pc Ls (.long v :: st)) X.here hx rfl (hb hby hd) rfl hl kk
theorem Go.lstoreN (X : Stand p l e R s m args below meth c T locs cells slots) (hx : p.tables.exec = Jvm.exec) (hby : c.code = code) {k : Fin 4} {v : Int64} (hd : decode code pc = .ok (.lstore_n k, 1)) (hpc : pc + 1 = pc') (hl : storeLocals Ls k.val (.long v) = some Ls') (h : Go p e below s mc ms Q m T pc' Ls' (st)) : Go p e below s mc ms Q m T pc Ls (.long v :: st) := by
  subst hpc; exact h.of fun _ kk => XT.lstoreN (g := mkF m pc Ls (.long v :: st)) X.here hx rfl (hb hby hd) rfl hl kk
theorem Go.astore (X : Stand p l e R s m args below meth c T locs cells slots) (hx : p.tables.exec = Jvm.exec) (hby : c.code = code) {k : Nat} {v : Value} (hd : decode code pc = .ok (.astore k, 2)) (hpc : pc + 2 = pc') (hv : v.isRef = true) (hl : storeLocals Ls k v = some Ls') (h : Go p e below s mc ms Q m T pc' Ls' (st)) : Go p e below s mc ms Q m T pc Ls (v :: st) := by
  subst hpc; exact h.of fun _ kk => XS.astore (g := mkF m pc Ls (v :: st)) X.here hx rfl (hb hby hd) rfl hv hl kk
theorem Go.astoreN (X : Stand p l e R s m args below meth c T locs cells slots) (hx : p.tables.exec = Jvm.exec) (hby : c.code = code) {k : Fin 4} {v : Value} (hd : decode code pc = .ok (.astore_n k, 1)) (hpc : pc + 1 = pc') (hv : v.isRef = true) (hl : storeLocals Ls k.val v = some Ls') (h : Go p e below s mc ms Q m T pc' Ls' (st)) : Go p e below s mc ms Q m T pc Ls (v :: st) := by
  subst hpc; exact h.of fun _ kk => XS.astoreN (g := mkF m pc Ls (v :: st)) X.here hx rfl (hb hby hd) rfl hv hl kk
theorem Go.iconst (X : Stand p l e R s m args below meth c T locs cells slots) (hx : p.tables.exec = Jvm.exec) (hby : c.code = code) {i : Int} {v : Int32} (hd : decode code pc = .ok (.iconst i, 1)) (hpc : pc + 1 = pc') (hv : Int32.ofInt i = v) (h : Go p e below s mc ms Q m T pc' Ls (.int v :: st)) : Go p e below s mc ms Q m T pc Ls (st) := by
  subst hpc; exact h.of fun _ kk => XT.iconstV (g := mkF m pc Ls (st)) X.here hx rfl v (hb hby hd) hv kk
theorem Go.bipush (X : Stand p l e R s m args below meth c T locs cells slots) (hx : p.tables.exec = Jvm.exec) (hby : c.code = code) {i : Int} {v : Int32} (hd : decode code pc = .ok (.bipush i, 2)) (hpc : pc + 2 = pc') (hv : (Int8.ofInt i).toInt32 = v) (h : Go p e below s mc ms Q m T pc' Ls (.int v :: st)) : Go p e below s mc ms Q m T pc Ls (st) := by
  subst hpc; exact h.of fun _ kk => XT.bipushV (g := mkF m pc Ls (st)) X.here hx rfl v (hb hby hd) hv kk
theorem Go.sipush (X : Stand p l e R s m args below meth c T locs cells slots) (hx : p.tables.exec = Jvm.exec) (hby : c.code = code) {i : Int} {v : Int32} (hd : decode code pc = .ok (.sipush i, 3)) (hpc : pc + 3 = pc') (hv : (Int16.ofInt i).toInt32 = v) (h : Go p e below s mc ms Q m T pc' Ls (.int v :: st)) : Go p e below s mc ms Q m T pc Ls (st) := by
  subst hpc; exact h.of fun _ kk => XT.sipushV (g := mkF m pc Ls (st)) X.here hx rfl v (hb hby hd) hv kk
theorem Go.lconst (X : Stand p l e R s m args below meth c T locs cells slots) (hx : p.tables.exec = Jvm.exec) (hby : c.code = code) {k : Fin 2} {v : Int64} (hd : decode code pc = .ok (.lconst k, 1)) (hpc : pc + 1 = pc') (hv : Int64.ofNat k = v) (h : Go p e below s mc ms Q m T pc' Ls (.long v :: st)) : Go p e below s mc ms Q m T pc Ls (st) := by
  subst hpc; exact h.of fun _ kk => XT.lconstV (g := mkF m pc Ls (st)) X.here hx rfl v (hb hby hd) hv kk
theorem Go.aconstNull (X : Stand p l e R s m args below meth c T locs cells slots) (hx : p.tables.exec = Jvm.exec) (hby : c.code = code) (hd : decode code pc = .ok (.aconst_null, 1)) (hpc : pc + 1 = pc') (h : Go p e below s mc ms Q m T pc' Ls (.null :: st)) : Go p e below s mc ms Q m T pc Ls (st) := by
  subst hpc; exact h.of fun _ kk => XS.aconstNull (g := mkF m pc Ls (st)) X.here hx rfl (hb hby hd) kk
theorem Go.ldcI (X : Stand p l e R s m args below meth c T locs cells slots) (hx : p.tables.exec = Jvm.exec) (hby : c.code = code) {Z : State} {a0 : Array Value} (hZ : Z.Warmed39 s.vm) {own : String} {k : Nat} {v : Int32} (hown : s.vm.findClass own = some m.cls) (w : (Cond.constant own k v).before a0 Z = true) (hd : decode code pc = .ok (.ldc k, 2)) (hpc : pc + 2 = pc') (h : Go p e below s mc ms Q m T pc' Ls (.int v :: st)) : Go p e below s mc ms Q m T pc Ls (st) := by
  subst hpc; exact h.of fun _ kk => Stand.ldcI (g := mkF m pc Ls (st)) X hx hown (mvT hZ w) rfl (hb hby hd) kk
theorem Go.ldcJ (X : Stand p l e R s m args below meth c T locs cells slots) (hx : p.tables.exec = Jvm.exec) (hby : c.code = code) {Z : State} {a0 : Array Value} (hZ : Z.Warmed39 s.vm) {own : String} {k : Nat} {v : Int64} (hown : s.vm.findClass own = some m.cls) (w : (Cond.constantLong own k v).before a0 Z = true) (hd : decode code pc = .ok (.ldc2_w k, 3)) (hpc : pc + 3 = pc') (h : Go p e below s mc ms Q m T pc' Ls (.long v :: st)) : Go p e below s mc ms Q m T pc Ls (st) := by
  subst hpc; exact h.of fun _ kk => Stand.ldc2J (g := mkF m pc Ls (st)) X hx hown (mvT hZ w) rfl (hb hby hd) kk
theorem Go.iadd (X : Stand p l e R s m args below meth c T locs cells slots) (hx : p.tables.exec = Jvm.exec) (hby : c.code = code) {x y : Int32} (hd : decode code pc = .ok (.iadd, 1)) (hpc : pc + 1 = pc') (h : Go p e below s mc ms Q m T pc' Ls (.int (x + y) :: st)) : Go p e below s mc ms Q m T pc Ls (.int y :: .int x :: st) := by
  subst hpc; exact h.of fun _ kk => XS.iadd (g := mkF m pc Ls (.int y :: .int x :: st)) X.here hx rfl (hb hby hd) rfl kk
theorem Go.isub (X : Stand p l e R s m args below meth c T locs cells slots) (hx : p.tables.exec = Jvm.exec) (hby : c.code = code) {x y : Int32} (hd : decode code pc = .ok (.isub, 1)) (hpc : pc + 1 = pc') (h : Go p e below s mc ms Q m T pc' Ls (.int (x - y) :: st)) : Go p e below s mc ms Q m T pc Ls (.int y :: .int x :: st) := by
  subst hpc; exact h.of fun _ kk => XS.isub (g := mkF m pc Ls (.int y :: .int x :: st)) X.here hx rfl (hb hby hd) rfl kk
theorem Go.imul (X : Stand p l e R s m args below meth c T locs cells slots) (hx : p.tables.exec = Jvm.exec) (hby : c.code = code) {x y : Int32} (hd : decode code pc = .ok (.imul, 1)) (hpc : pc + 1 = pc') (h : Go p e below s mc ms Q m T pc' Ls (.int (x * y) :: st)) : Go p e below s mc ms Q m T pc Ls (.int y :: .int x :: st) := by
  subst hpc; exact h.of fun _ kk => XS.imul (g := mkF m pc Ls (.int y :: .int x :: st)) X.here hx rfl (hb hby hd) rfl kk
theorem Go.iand (X : Stand p l e R s m args below meth c T locs cells slots) (hx : p.tables.exec = Jvm.exec) (hby : c.code = code) {x y : Int32} (hd : decode code pc = .ok (.iand, 1)) (hpc : pc + 1 = pc') (h : Go p e below s mc ms Q m T pc' Ls (.int (x &&& y) :: st)) : Go p e below s mc ms Q m T pc Ls (.int y :: .int x :: st) := by
  subst hpc; exact h.of fun _ kk => XS.iand (g := mkF m pc Ls (.int y :: .int x :: st)) X.here hx rfl (hb hby hd) rfl kk
theorem Go.ior (X : Stand p l e R s m args below meth c T locs cells slots) (hx : p.tables.exec = Jvm.exec) (hby : c.code = code) {x y : Int32} (hd : decode code pc = .ok (.ior, 1)) (hpc : pc + 1 = pc') (h : Go p e below s mc ms Q m T pc' Ls (.int (x ||| y) :: st)) : Go p e below s mc ms Q m T pc Ls (.int y :: .int x :: st) := by
  subst hpc; exact h.of fun _ kk => XT.ior (g := mkF m pc Ls (.int y :: .int x :: st)) X.here hx rfl (hb hby hd) rfl kk
theorem Go.ixor (X : Stand p l e R s m args below meth c T locs cells slots) (hx : p.tables.exec = Jvm.exec) (hby : c.code = code) {x y : Int32} (hd : decode code pc = .ok (.ixor, 1)) (hpc : pc + 1 = pc') (h : Go p e below s mc ms Q m T pc' Ls (.int (x ^^^ y) :: st)) : Go p e below s mc ms Q m T pc Ls (.int y :: .int x :: st) := by
  subst hpc; exact h.of fun _ kk => XT.ixor (g := mkF m pc Ls (.int y :: .int x :: st)) X.here hx rfl (hb hby hd) rfl kk
theorem Go.ishl (X : Stand p l e R s m args below meth c T locs cells slots) (hx : p.tables.exec = Jvm.exec) (hby : c.code = code) {x y : Int32} (hd : decode code pc = .ok (.ishl, 1)) (hpc : pc + 1 = pc') (h : Go p e below s mc ms Q m T pc' Ls (.int (shlI x y) :: st)) : Go p e below s mc ms Q m T pc Ls (.int y :: .int x :: st) := by
  subst hpc; exact h.of fun _ kk => XT.ishl (g := mkF m pc Ls (.int y :: .int x :: st)) X.here hx rfl (hb hby hd) rfl kk
theorem Go.ishr (X : Stand p l e R s m args below meth c T locs cells slots) (hx : p.tables.exec = Jvm.exec) (hby : c.code = code) {x y : Int32} (hd : decode code pc = .ok (.ishr, 1)) (hpc : pc + 1 = pc') (h : Go p e below s mc ms Q m T pc' Ls (.int (shrI x y) :: st)) : Go p e below s mc ms Q m T pc Ls (.int y :: .int x :: st) := by
  subst hpc; exact h.of fun _ kk => XT.ishr (g := mkF m pc Ls (.int y :: .int x :: st)) X.here hx rfl (hb hby hd) rfl kk
theorem Go.iushr (X : Stand p l e R s m args below meth c T locs cells slots) (hx : p.tables.exec = Jvm.exec) (hby : c.code = code) {x y : Int32} (hd : decode code pc = .ok (.iushr, 1)) (hpc : pc + 1 = pc') (h : Go p e below s mc ms Q m T pc' Ls (.int (XT.ushr x y) :: st)) : Go p e below s mc ms Q m T pc Ls (.int y :: .int x :: st) := by
  subst hpc; exact h.of fun _ kk => XT.iushr (g := mkF m pc Ls (.int y :: .int x :: st)) X.here hx rfl (hb hby hd) rfl kk
theorem Go.idiv (X : Stand p l e R s m args below meth c T locs cells slots) (hx : p.tables.exec = Jvm.exec) (hby : c.code = code) {x y : Int32} (hd : decode code pc = .ok (.idiv, 1)) (hpc : pc + 1 = pc') (hy : y ≠ 0) (h : Go p e below s mc ms Q m T pc' Ls (.int (x / y) :: st)) : Go p e below s mc ms Q m T pc Ls (.int y :: .int x :: st) := by
  subst hpc; exact h.of fun _ kk => XS.idiv (g := mkF m pc Ls (.int y :: .int x :: st)) X.here hx rfl (hb hby hd) rfl hy kk
theorem Go.irem (X : Stand p l e R s m args below meth c T locs cells slots) (hx : p.tables.exec = Jvm.exec) (hby : c.code = code) {x y : Int32} (hd : decode code pc = .ok (.irem, 1)) (hpc : pc + 1 = pc') (hy : y ≠ 0) (h : Go p e below s mc ms Q m T pc' Ls (.int (remI x y) :: st)) : Go p e below s mc ms Q m T pc Ls (.int y :: .int x :: st) := by
  subst hpc; exact h.of fun _ kk => XS.irem (g := mkF m pc Ls (.int y :: .int x :: st)) X.here hx rfl (hb hby hd) rfl hy kk
theorem Go.ladd (X : Stand p l e R s m args below meth c T locs cells slots) (hx : p.tables.exec = Jvm.exec) (hby : c.code = code) {x y : Int64} (hd : decode code pc = .ok (.ladd, 1)) (hpc : pc + 1 = pc') (h : Go p e below s mc ms Q m T pc' Ls (.long (x + y) :: st)) : Go p e below s mc ms Q m T pc Ls (.long y :: .long x :: st) := by
  subst hpc; exact h.of fun _ kk => XT.ladd (g := mkF m pc Ls (.long y :: .long x :: st)) X.here hx rfl (hb hby hd) rfl kk
theorem Go.lsub (X : Stand p l e R s m args below meth c T locs cells slots) (hx : p.tables.exec = Jvm.exec) (hby : c.code = code) {x y : Int64} (hd : decode code pc = .ok (.lsub, 1)) (hpc : pc + 1 = pc') (h : Go p e below s mc ms Q m T pc' Ls (.long (x - y) :: st)) : Go p e below s mc ms Q m T pc Ls (.long y :: .long x :: st) := by
  subst hpc; exact h.of fun _ kk => XT.lsub (g := mkF m pc Ls (.long y :: .long x :: st)) X.here hx rfl (hb hby hd) rfl kk
theorem Go.lmul (X : Stand p l e R s m args below meth c T locs cells slots) (hx : p.tables.exec = Jvm.exec) (hby : c.code = code) {x y : Int64} (hd : decode code pc = .ok (.lmul, 1)) (hpc : pc + 1 = pc') (h : Go p e below s mc ms Q m T pc' Ls (.long (x * y) :: st)) : Go p e below s mc ms Q m T pc Ls (.long y :: .long x :: st) := by
  subst hpc; exact h.of fun _ kk => XT.lmul (g := mkF m pc Ls (.long y :: .long x :: st)) X.here hx rfl (hb hby hd) rfl kk
theorem Go.land (X : Stand p l e R s m args below meth c T locs cells slots) (hx : p.tables.exec = Jvm.exec) (hby : c.code = code) {x y : Int64} (hd : decode code pc = .ok (.land, 1)) (hpc : pc + 1 = pc') (h : Go p e below s mc ms Q m T pc' Ls (.long (x &&& y) :: st)) : Go p e below s mc ms Q m T pc Ls (.long y :: .long x :: st) := by
  subst hpc; exact h.of fun _ kk => XT.land (g := mkF m pc Ls (.long y :: .long x :: st)) X.here hx rfl (hb hby hd) rfl kk
theorem Go.lor (X : Stand p l e R s m args below meth c T locs cells slots) (hx : p.tables.exec = Jvm.exec) (hby : c.code = code) {x y : Int64} (hd : decode code pc = .ok (.lor, 1)) (hpc : pc + 1 = pc') (h : Go p e below s mc ms Q m T pc' Ls (.long (x ||| y) :: st)) : Go p e below s mc ms Q m T pc Ls (.long y :: .long x :: st) := by
  subst hpc; exact h.of fun _ kk => XT.lor (g := mkF m pc Ls (.long y :: .long x :: st)) X.here hx rfl (hb hby hd) rfl kk
theorem Go.lxor (X : Stand p l e R s m args below meth c T locs cells slots) (hx : p.tables.exec = Jvm.exec) (hby : c.code = code) {x y : Int64} (hd : decode code pc = .ok (.lxor, 1)) (hpc : pc + 1 = pc') (h : Go p e below s mc ms Q m T pc' Ls (.long (x ^^^ y) :: st)) : Go p e below s mc ms Q m T pc Ls (.long y :: .long x :: st) := by
  subst hpc; exact h.of fun _ kk => XT.lxor (g := mkF m pc Ls (.long y :: .long x :: st)) X.here hx rfl (hb hby hd) rfl kk
theorem Go.ldiv (X : Stand p l e R s m args below meth c T locs cells slots) (hx : p.tables.exec = Jvm.exec) (hby : c.code = code) {x y : Int64} (hd : decode code pc = .ok (.ldiv, 1)) (hpc : pc + 1 = pc') (hy : y ≠ 0) (h : Go p e below s mc ms Q m T pc' Ls (.long (x / y) :: st)) : Go p e below s mc ms Q m T pc Ls (.long y :: .long x :: st) := by
  subst hpc; exact h.of fun _ kk => XT.ldiv (g := mkF m pc Ls (.long y :: .long x :: st)) X.here hx rfl (hb hby hd) rfl hy kk
theorem Go.lrem (X : Stand p l e R s m args below meth c T locs cells slots) (hx : p.tables.exec = Jvm.exec) (hby : c.code = code) {x y : Int64} (hd : decode code pc = .ok (.lrem, 1)) (hpc : pc + 1 = pc') (hy : y ≠ 0) (h : Go p e below s mc ms Q m T pc' Ls (.long (remJ x y) :: st)) : Go p e below s mc ms Q m T pc Ls (.long y :: .long x :: st) := by
  subst hpc; exact h.of fun _ kk => XT.lrem (g := mkF m pc Ls (.long y :: .long x :: st)) X.here hx rfl (hb hby hd) rfl hy kk
theorem Go.lushr (X : Stand p l e R s m args below meth c T locs cells slots) (hx : p.tables.exec = Jvm.exec) (hby : c.code = code) {x : Int64} {y : Int32} (hd : decode code pc = .ok (.lushr, 1)) (hpc : pc + 1 = pc') (h : Go p e below s mc ms Q m T pc' Ls (.long (XT.ushrL x y) :: st)) : Go p e below s mc ms Q m T pc Ls (.int y :: .long x :: st) := by
  subst hpc; exact h.of fun _ kk => XT.lushr (g := mkF m pc Ls (.int y :: .long x :: st)) X.here hx rfl (hb hby hd) rfl kk
theorem Go.lshl (X : Stand p l e R s m args below meth c T locs cells slots) (hx : p.tables.exec = Jvm.exec) (hby : c.code = code) {x : Int64} {y : Int32} {z : Int64} (hd : decode code pc = .ok (.lshl, 1)) (hpc : pc + 1 = pc') (hz : x <<< (y.toInt64 &&& 63) = z) (h : Go p e below s mc ms Q m T pc' Ls (.long z :: st)) : Go p e below s mc ms Q m T pc Ls (.int y :: .long x :: st) := by
  subst hpc hz; exact h.of fun _ kk => XT.lshl (g := mkF m pc Ls (.int y :: .long x :: st)) X.here hx rfl (hb hby hd) rfl kk
theorem Go.lshr (X : Stand p l e R s m args below meth c T locs cells slots) (hx : p.tables.exec = Jvm.exec) (hby : c.code = code) {x : Int64} {y : Int32} {z : Int64} (hd : decode code pc = .ok (.lshr, 1)) (hpc : pc + 1 = pc') (hz : x >>> (y.toInt64 &&& 63) = z) (h : Go p e below s mc ms Q m T pc' Ls (.long z :: st)) : Go p e below s mc ms Q m T pc Ls (.int y :: .long x :: st) := by
  subst hpc hz; exact h.of fun _ kk => XT.lshr (g := mkF m pc Ls (.int y :: .long x :: st)) X.here hx rfl (hb hby hd) rfl kk
theorem Go.lcmp (X : Stand p l e R s m args below meth c T locs cells slots) (hx : p.tables.exec = Jvm.exec) (hby : c.code = code) {x y : Int64} (hd : decode code pc = .ok (.lcmp, 1)) (hpc : pc + 1 = pc') (h : Go p e below s mc ms Q m T pc' Ls (.int (XT.cmpL x y) :: st)) : Go p e below s mc ms Q m T pc Ls (.long y :: .long x :: st) := by
  subst hpc; exact h.of fun _ kk => XT.lcmp (g := mkF m pc Ls (.long y :: .long x :: st)) X.here hx rfl (hb hby hd) rfl kk
theorem Go.ineg (X : Stand p l e R s m args below meth c T locs cells slots) (hx : p.tables.exec = Jvm.exec) (hby : c.code = code) {x : Int32} (hd : decode code pc = .ok (.ineg, 1)) (hpc : pc + 1 = pc') (h : Go p e below s mc ms Q m T pc' Ls (.int (-x) :: st)) : Go p e below s mc ms Q m T pc Ls (.int x :: st) := by
  subst hpc; exact h.of fun _ kk => XS.ineg (g := mkF m pc Ls (.int x :: st)) X.here hx rfl (hb hby hd) rfl kk
theorem Go.i2l (X : Stand p l e R s m args below meth c T locs cells slots) (hx : p.tables.exec = Jvm.exec) (hby : c.code = code) {x : Int32} (hd : decode code pc = .ok (.i2l, 1)) (hpc : pc + 1 = pc') (h : Go p e below s mc ms Q m T pc' Ls (.long (x.toInt64) :: st)) : Go p e below s mc ms Q m T pc Ls (.int x :: st) := by
  subst hpc; exact h.of fun _ kk => XT.i2l (g := mkF m pc Ls (.int x :: st)) X.here hx rfl (hb hby hd) rfl kk
theorem Go.l2i (X : Stand p l e R s m args below meth c T locs cells slots) (hx : p.tables.exec = Jvm.exec) (hby : c.code = code) {x : Int64} (hd : decode code pc = .ok (.l2i, 1)) (hpc : pc + 1 = pc') (h : Go p e below s mc ms Q m T pc' Ls (.int (x.toInt32) :: st)) : Go p e below s mc ms Q m T pc Ls (.long x :: st) := by
  subst hpc; exact h.of fun _ kk => XT.l2i (g := mkF m pc Ls (.long x :: st)) X.here hx rfl (hb hby hd) rfl kk
theorem Go.i2b (X : Stand p l e R s m args below meth c T locs cells slots) (hx : p.tables.exec = Jvm.exec) (hby : c.code = code) {x : Int32} (hd : decode code pc = .ok (.i2b, 1)) (hpc : pc + 1 = pc') (h : Go p e below s mc ms Q m T pc' Ls (.int (i2bF x) :: st)) : Go p e below s mc ms Q m T pc Ls (.int x :: st) := by
  subst hpc; exact h.of fun _ kk => XT.i2b (g := mkF m pc Ls (.int x :: st)) X.here hx rfl (hb hby hd) rfl kk
theorem Go.i2c (X : Stand p l e R s m args below meth c T locs cells slots) (hx : p.tables.exec = Jvm.exec) (hby : c.code = code) {x : Int32} (hd : decode code pc = .ok (.i2c, 1)) (hpc : pc + 1 = pc') (h : Go p e below s mc ms Q m T pc' Ls (.int (i2cF x) :: st)) : Go p e below s mc ms Q m T pc Ls (.int x :: st) := by
  subst hpc; exact h.of fun _ kk => XT.i2c (g := mkF m pc Ls (.int x :: st)) X.here hx rfl (hb hby hd) rfl kk
theorem Go.i2s (X : Stand p l e R s m args below meth c T locs cells slots) (hx : p.tables.exec = Jvm.exec) (hby : c.code = code) {x : Int32} (hd : decode code pc = .ok (.i2s, 1)) (hpc : pc + 1 = pc') (h : Go p e below s mc ms Q m T pc' Ls (.int (i2sF x) :: st)) : Go p e below s mc ms Q m T pc Ls (.int x :: st) := by
  subst hpc; exact h.of fun _ kk => XT.i2s (g := mkF m pc Ls (.int x :: st)) X.here hx rfl (hb hby hd) rfl kk
theorem Go.iinc (X : Stand p l e R s m args below meth c T locs cells slots) (hx : p.tables.exec = Jvm.exec) (hby : c.code = code) {k : Nat} {i : Int} {x v : Int32} (hd : decode code pc = .ok (.iinc k i, 3)) (hpc : pc + 3 = pc') (hv : Int32.ofInt i = v) (hl : Ls[k]? = some (.val (.int x))) (hl' : storeLocals Ls k (.int (x + v)) = some Ls') (h : Go p e below s mc ms Q m T pc' Ls' (st)) : Go p e below s mc ms Q m T pc Ls (st) := by
  subst hpc; exact h.of fun _ kk => XT.iincV (g := mkF m pc Ls (st)) X.here hx rfl v (hb hby hd) hv hl hl' kk
theorem Go.dup (X : Stand p l e R s m args below meth c T locs cells slots) (hx : p.tables.exec = Jvm.exec) (hby : c.code = code) {v : Value} (hd : decode code pc = .ok (.dup, 1)) (hpc : pc + 1 = pc') (hv : v.category = 1) (h : Go p e below s mc ms Q m T pc' Ls (v :: v :: st)) : Go p e below s mc ms Q m T pc Ls (v :: st) := by
  subst hpc; exact h.of fun _ kk => XS.dup (g := mkF m pc Ls (v :: st)) X.here hx rfl (hb hby hd) rfl hv kk
theorem Go.pop (X : Stand p l e R s m args below meth c T locs cells slots) (hx : p.tables.exec = Jvm.exec) (hby : c.code = code) {v : Value} (hd : decode code pc = .ok (.pop, 1)) (hpc : pc + 1 = pc') (hv : v.category = 1) (h : Go p e below s mc ms Q m T pc' Ls (st)) : Go p e below s mc ms Q m T pc Ls (v :: st) := by
  subst hpc; exact h.of fun _ kk => XT.pop (g := mkF m pc Ls (v :: st)) X.here hx rfl (hb hby hd) rfl hv kk
theorem Go.goto (X : Stand p l e R s m args below meth c T locs cells slots) (hx : p.tables.exec = Jvm.exec) (hby : c.code = code) {o : Int} (hd : decode code pc = .ok (.goto o, 3)) (ho : 0 ≤ (pc : Int) + o) (hp : ((pc : Int) + o).toNat = pc') (h : Go p e below s mc ms Q m T pc' Ls st) : Go p e below s mc ms Q m T pc Ls st :=
  h.of fun _ kk => XS.goto (g := mkF m pc Ls st) X.here hx rfl (pc0 := pc) rfl (hb hby hd) ho hp kk
theorem Go.icmp_eq (X : Stand p l e R s m args below meth c T locs cells slots) (hx : p.tables.exec = Jvm.exec) (hby : c.code = code) {pcN : Nat} {x y : Int32} {o : Int} (hd : decode code pc = .ok (.if_icmp .eq o, 3)) (ho : 0 ≤ (pc : Int) + o) (hp : ((pc : Int) + o).toNat = pc') (hn : pc + 3 = pcN) (yes : x = y → Go p e below s mc ms Q m T pc' Ls st) (no : ¬ x = y → Go p e below s mc ms Q m T pcN Ls st) : Go p e below s mc ms Q m T pc Ls (.int y :: .int x :: st) := by
  subst hn
  by_cases q : x = y
  · exact (yes q).of fun _ kk => XS.icmpYes (g := mkF m pc Ls (.int y :: .int x :: st)) X.here hx rfl (pc0 := pc) rfl (hb hby hd) rfl (XT.ii_eq_t q) ho hp kk
  · exact (no q).of fun _ kk => XS.icmpNo (g := mkF m pc Ls (.int y :: .int x :: st)) X.here hx rfl (hb hby hd) rfl (XT.ii_eq_f q) kk
theorem Go.icmp_ne (X : Stand p l e R s m args below meth c T locs cells slots) (hx : p.tables.exec = Jvm.exec) (hby : c.code = code) {pcN : Nat} {x y : Int32} {o : Int} (hd : decode code pc = .ok (.if_icmp .ne o, 3)) (ho : 0 ≤ (pc : Int) + o) (hp : ((pc : Int) + o).toNat = pc') (hn : pc + 3 = pcN) (yes : ¬ x = y → Go p e below s mc ms Q m T pc' Ls st) (no : x = y → Go p e below s mc ms Q m T pcN Ls st) : Go p e below s mc ms Q m T pc Ls (.int y :: .int x :: st) := by
  subst hn
  by_cases q : x = y
  · exact (no q).of fun _ kk => XS.icmpNo (g := mkF m pc Ls (.int y :: .int x :: st)) X.here hx rfl (hb hby hd) rfl (XT.ii_ne_f q) kk
  · exact (yes q).of fun _ kk => XS.icmpYes (g := mkF m pc Ls (.int y :: .int x :: st)) X.here hx rfl (pc0 := pc) rfl (hb hby hd) rfl (XT.ii_ne_t q) ho hp kk
theorem Go.icmp_lt (X : Stand p l e R s m args below meth c T locs cells slots) (hx : p.tables.exec = Jvm.exec) (hby : c.code = code) {pcN : Nat} {x y : Int32} {o : Int} (hd : decode code pc = .ok (.if_icmp .lt o, 3)) (ho : 0 ≤ (pc : Int) + o) (hp : ((pc : Int) + o).toNat = pc') (hn : pc + 3 = pcN) (yes : x < y → Go p e below s mc ms Q m T pc' Ls st) (no : ¬ x < y → Go p e below s mc ms Q m T pcN Ls st) : Go p e below s mc ms Q m T pc Ls (.int y :: .int x :: st) := by
  subst hn
  by_cases q : x < y
  · exact (yes q).of fun _ kk => XS.icmpYes (g := mkF m pc Ls (.int y :: .int x :: st)) X.here hx rfl (pc0 := pc) rfl (hb hby hd) rfl (XT.ii_lt_t q) ho hp kk
  · exact (no q).of fun _ kk => XS.icmpNo (g := mkF m pc Ls (.int y :: .int x :: st)) X.here hx rfl (hb hby hd) rfl (XT.ii_lt_f q) kk
theorem Go.icmp_ge (X : Stand p l e R s m args below meth c T locs cells slots) (hx : p.tables.exec = Jvm.exec) (hby : c.code = code) {pcN : Nat} {x y : Int32} {o : Int} (hd : decode code pc = .ok (.if_icmp .ge o, 3)) (ho : 0 ≤ (pc : Int) + o) (hp : ((pc : Int) + o).toNat = pc') (hn : pc + 3 = pcN) (yes : ¬ x < y → Go p e below s mc ms Q m T pc' Ls st) (no : x < y → Go p e below s mc ms Q m T pcN Ls st) : Go p e below s mc ms Q m T pc Ls (.int y :: .int x :: st) := by
  subst hn
  by_cases q : x < y
  · exact (no q).of fun _ kk => XS.icmpNo (g := mkF m pc Ls (.int y :: .int x :: st)) X.here hx rfl (hb hby hd) rfl (XT.ii_ge_f q) kk
  · exact (yes q).of fun _ kk => XS.icmpYes (g := mkF m pc Ls (.int y :: .int x :: st)) X.here hx rfl (pc0 := pc) rfl (hb hby hd) rfl (XT.ii_ge_t q) ho hp kk
theorem Go.icmp_gt (X : Stand p l e R s m args below meth c T locs cells slots) (hx : p.tables.exec = Jvm.exec) (hby : c.code = code) {pcN : Nat} {x y : Int32} {o : Int} (hd : decode code pc = .ok (.if_icmp .gt o, 3)) (ho : 0 ≤ (pc : Int) + o) (hp : ((pc : Int) + o).toNat = pc') (hn : pc + 3 = pcN) (yes : y < x → Go p e below s mc ms Q m T pc' Ls st) (no : ¬ y < x → Go p e below s mc ms Q m T pcN Ls st) : Go p e below s mc ms Q m T pc Ls (.int y :: .int x :: st) := by
  subst hn
  by_cases q : y < x
  · exact (yes q).of fun _ kk => XS.icmpYes (g := mkF m pc Ls (.int y :: .int x :: st)) X.here hx rfl (pc0 := pc) rfl (hb hby hd) rfl (XT.ii_gt_t q) ho hp kk
  · exact (no q).of fun _ kk => XS.icmpNo (g := mkF m pc Ls (.int y :: .int x :: st)) X.here hx rfl (hb hby hd) rfl (XT.ii_gt_f q) kk
theorem Go.icmp_le (X : Stand p l e R s m args below meth c T locs cells slots) (hx : p.tables.exec = Jvm.exec) (hby : c.code = code) {pcN : Nat} {x y : Int32} {o : Int} (hd : decode code pc = .ok (.if_icmp .le o, 3)) (ho : 0 ≤ (pc : Int) + o) (hp : ((pc : Int) + o).toNat = pc') (hn : pc + 3 = pcN) (yes : ¬ y < x → Go p e below s mc ms Q m T pc' Ls st) (no : y < x → Go p e below s mc ms Q m T pcN Ls st) : Go p e below s mc ms Q m T pc Ls (.int y :: .int x :: st) := by
  subst hn
  by_cases q : y < x
  · exact (no q).of fun _ kk => XS.icmpNo (g := mkF m pc Ls (.int y :: .int x :: st)) X.here hx rfl (hb hby hd) rfl (XT.ii_le_f q) kk
  · exact (yes q).of fun _ kk => XS.icmpYes (g := mkF m pc Ls (.int y :: .int x :: st)) X.here hx rfl (pc0 := pc) rfl (hb hby hd) rfl (XT.ii_le_t q) ho hp kk
theorem Go.if_eq (X : Stand p l e R s m args below meth c T locs cells slots) (hx : p.tables.exec = Jvm.exec) (hby : c.code = code) {pcN : Nat} {x : Int32} {o : Int} (hd : decode code pc = .ok (.ifCond .eq o, 3)) (ho : 0 ≤ (pc : Int) + o) (hp : ((pc : Int) + o).toNat = pc') (hn : pc + 3 = pcN) (yes : x = 0 → Go p e below s mc ms Q m T pc' Ls st) (no : ¬ x = 0 → Go p e below s mc ms Q m T pcN Ls st) : Go p e below s mc ms Q m T pc Ls (.int x :: st) := by
  subst hn
  by_cases q : x = 0
  · exact (yes q).of fun _ kk => XS.ifYes (g := mkF m pc Ls (.int x :: st)) X.here hx rfl (pc0 := pc) rfl (hb hby hd) rfl (XT.i0_eq_t q) ho hp kk
  · exact (no q).of fun _ kk => XS.ifNo (g := mkF m pc Ls (.int x :: st)) X.here hx rfl (hb hby hd) rfl (XT.i0_eq_f q) kk
theorem Go.if_ne (X : Stand p l e R s m args below meth c T locs cells slots) (hx : p.tables.exec = Jvm.exec) (hby : c.code = code) {pcN : Nat} {x : Int32} {o : Int} (hd : decode code pc = .ok (.ifCond .ne o, 3)) (ho : 0 ≤ (pc : Int) + o) (hp : ((pc : Int) + o).toNat = pc') (hn : pc + 3 = pcN) (yes : ¬ x = 0 → Go p e below s mc ms Q m T pc' Ls st) (no : x = 0 → Go p e below s mc ms Q m T pcN Ls st) : Go p e below s mc ms Q m T pc Ls (.int x :: st) := by
  subst hn
  by_cases q : x = 0
  · exact (no q).of fun _ kk => XS.ifNo (g := mkF m pc Ls (.int x :: st)) X.here hx rfl (hb hby hd) rfl (XT.i0_ne_f q) kk
  · exact (yes q).of fun _ kk => XS.ifYes (g := mkF m pc Ls (.int x :: st)) X.here hx rfl (pc0 := pc) rfl (hb hby hd) rfl (XT.i0_ne_t q) ho hp kk
theorem Go.if_lt (X : Stand p l e R s m args below meth c T locs cells slots) (hx : p.tables.exec = Jvm.exec) (hby : c.code = code) {pcN : Nat} {x : Int32} {o : Int} (hd : decode code pc = .ok (.ifCond .lt o, 3)) (ho : 0 ≤ (pc : Int) + o) (hp : ((pc : Int) + o).toNat = pc') (hn : pc + 3 = pcN) (yes : x < 0 → Go p e below s mc ms Q m T pc' Ls st) (no : ¬ x < 0 → Go p e below s mc ms Q m T pcN Ls st) : Go p e below s mc ms Q m T pc Ls (.int x :: st) := by
  subst hn
  by_cases q : x < 0
  · exact (yes q).of fun _ kk => XS.ifYes (g := mkF m pc Ls (.int x :: st)) X.here hx rfl (pc0 := pc) rfl (hb hby hd) rfl (XT.i0_lt_t q) ho hp kk
  · exact (no q).of fun _ kk => XS.ifNo (g := mkF m pc Ls (.int x :: st)) X.here hx rfl (hb hby hd) rfl (XT.i0_lt_f q) kk
theorem Go.if_ge (X : Stand p l e R s m args below meth c T locs cells slots) (hx : p.tables.exec = Jvm.exec) (hby : c.code = code) {pcN : Nat} {x : Int32} {o : Int} (hd : decode code pc = .ok (.ifCond .ge o, 3)) (ho : 0 ≤ (pc : Int) + o) (hp : ((pc : Int) + o).toNat = pc') (hn : pc + 3 = pcN) (yes : ¬ x < 0 → Go p e below s mc ms Q m T pc' Ls st) (no : x < 0 → Go p e below s mc ms Q m T pcN Ls st) : Go p e below s mc ms Q m T pc Ls (.int x :: st) := by
  subst hn
  by_cases q : x < 0
  · exact (no q).of fun _ kk => XS.ifNo (g := mkF m pc Ls (.int x :: st)) X.here hx rfl (hb hby hd) rfl (XT.i0_ge_f q) kk
  · exact (yes q).of fun _ kk => XS.ifYes (g := mkF m pc Ls (.int x :: st)) X.here hx rfl (pc0 := pc) rfl (hb hby hd) rfl (XT.i0_ge_t q) ho hp kk
theorem Go.if_gt (X : Stand p l e R s m args below meth c T locs cells slots) (hx : p.tables.exec = Jvm.exec) (hby : c.code = code) {pcN : Nat} {x : Int32} {o : Int} (hd : decode code pc = .ok (.ifCond .gt o, 3)) (ho : 0 ≤ (pc : Int) + o) (hp : ((pc : Int) + o).toNat = pc') (hn : pc + 3 = pcN) (yes : 0 < x → Go p e below s mc ms Q m T pc' Ls st) (no : ¬ 0 < x → Go p e below s mc ms Q m T pcN Ls st) : Go p e below s mc ms Q m T pc Ls (.int x :: st) := by
  subst hn
  by_cases q : 0 < x
  · exact (yes q).of fun _ kk => XS.ifYes (g := mkF m pc Ls (.int x :: st)) X.here hx rfl (pc0 := pc) rfl (hb hby hd) rfl (XT.i0_gt_t q) ho hp kk
  · exact (no q).of fun _ kk => XS.ifNo (g := mkF m pc Ls (.int x :: st)) X.here hx rfl (hb hby hd) rfl (XT.i0_gt_f q) kk
theorem Go.if_le (X : Stand p l e R s m args below meth c T locs cells slots) (hx : p.tables.exec = Jvm.exec) (hby : c.code = code) {pcN : Nat} {x : Int32} {o : Int} (hd : decode code pc = .ok (.ifCond .le o, 3)) (ho : 0 ≤ (pc : Int) + o) (hp : ((pc : Int) + o).toNat = pc') (hn : pc + 3 = pcN) (yes : ¬ 0 < x → Go p e below s mc ms Q m T pc' Ls st) (no : 0 < x → Go p e below s mc ms Q m T pcN Ls st) : Go p e below s mc ms Q m T pc Ls (.int x :: st) := by
  subst hn
  by_cases q : 0 < x
  · exact (no q).of fun _ kk => XS.ifNo (g := mkF m pc Ls (.int x :: st)) X.here hx rfl (hb hby hd) rfl (XT.i0_le_f q) kk
  · exact (yes q).of fun _ kk => XS.ifYes (g := mkF m pc Ls (.int x :: st)) X.here hx rfl (pc0 := pc) rfl (hb hby hd) rfl (XT.i0_le_t q) ho hp kk
theorem Go.ifL_eq (X : Stand p l e R s m args below meth c T locs cells slots) (hx : p.tables.exec = Jvm.exec) (hby : c.code = code) {pcN : Nat} {x y : Int64} {o : Int} (hd : decode code pc = .ok (.ifCond .eq o, 3)) (ho : 0 ≤ (pc : Int) + o) (hp : ((pc : Int) + o).toNat = pc') (hn : pc + 3 = pcN) (yes : x = y → Go p e below s mc ms Q m T pc' Ls st) (no : ¬ x = y → Go p e below s mc ms Q m T pcN Ls st) : Go p e below s mc ms Q m T pc Ls (.int (XT.cmpL x y) :: st) := by
  subst hn
  by_cases q : x = y
  · exact (yes q).of fun _ kk => XS.ifYes (g := mkF m pc Ls (.int (XT.cmpL x y) :: st)) X.here hx rfl (pc0 := pc) rfl (hb hby hd) rfl (XT.ll_eq_t q) ho hp kk
  · exact (no q).of fun _ kk => XS.ifNo (g := mkF m pc Ls (.int (XT.cmpL x y) :: st)) X.here hx rfl (hb hby hd) rfl (XT.ll_eq_f q) kk
theorem Go.ifL_ne (X : Stand p l e R s m args below meth c T locs cells slots) (hx : p.tables.exec = Jvm.exec) (hby : c.code = code) {pcN : Nat} {x y : Int64} {o : Int} (hd : decode code pc = .ok (.ifCond .ne o, 3)) (ho : 0 ≤ (pc : Int) + o) (hp : ((pc : Int) + o).toNat = pc') (hn : pc + 3 = pcN) (yes : ¬ x = y → Go p e below s mc ms Q m T pc' Ls st) (no : x = y → Go p e below s mc ms Q m T pcN Ls st) : Go p e below s mc ms Q m T pc Ls (.int (XT.cmpL x y) :: st) := by
  subst hn
  by_cases q : x = y
  · exact (no q).of fun _ kk => XS.ifNo (g := mkF m pc Ls (.int (XT.cmpL x y) :: st)) X.here hx rfl (hb hby hd) rfl (XT.ll_ne_f q) kk
  · exact (yes q).of fun _ kk => XS.ifYes (g := mkF m pc Ls (.int (XT.cmpL x y) :: st)) X.here hx rfl (pc0 := pc) rfl (hb hby hd) rfl (XT.ll_ne_t q) ho hp kk
theorem Go.ifL_lt (X : Stand p l e R s m args below meth c T locs cells slots) (hx : p.tables.exec = Jvm.exec) (hby : c.code = code) {pcN : Nat} {x y : Int64} {o : Int} (hd : decode code pc = .ok (.ifCond .lt o, 3)) (ho : 0 ≤ (pc : Int) + o) (hp : ((pc : Int) + o).toNat = pc') (hn : pc + 3 = pcN) (yes : x < y → Go p e below s mc ms Q m T pc' Ls st) (no : ¬ x < y → Go p e below s mc ms Q m T pcN Ls st) : Go p e below s mc ms Q m T pc Ls (.int (XT.cmpL x y) :: st) := by
  subst hn
  by_cases q : x < y
  · exact (yes q).of fun _ kk => XS.ifYes (g := mkF m pc Ls (.int (XT.cmpL x y) :: st)) X.here hx rfl (pc0 := pc) rfl (hb hby hd) rfl (XT.ll_lt_t q) ho hp kk
  · exact (no q).of fun _ kk => XS.ifNo (g := mkF m pc Ls (.int (XT.cmpL x y) :: st)) X.here hx rfl (hb hby hd) rfl (XT.ll_lt_f q) kk
theorem Go.ifL_ge (X : Stand p l e R s m args below meth c T locs cells slots) (hx : p.tables.exec = Jvm.exec) (hby : c.code = code) {pcN : Nat} {x y : Int64} {o : Int} (hd : decode code pc = .ok (.ifCond .ge o, 3)) (ho : 0 ≤ (pc : Int) + o) (hp : ((pc : Int) + o).toNat = pc') (hn : pc + 3 = pcN) (yes : ¬ x < y → Go p e below s mc ms Q m T pc' Ls st) (no : x < y → Go p e below s mc ms Q m T pcN Ls st) : Go p e below s mc ms Q m T pc Ls (.int (XT.cmpL x y) :: st) := by
  subst hn
  by_cases q : x < y
  · exact (no q).of fun _ kk => XS.ifNo (g := mkF m pc Ls (.int (XT.cmpL x y) :: st)) X.here hx rfl (hb hby hd) rfl (XT.ll_ge_f q) kk
  · exact (yes q).of fun _ kk => XS.ifYes (g := mkF m pc Ls (.int (XT.cmpL x y) :: st)) X.here hx rfl (pc0 := pc) rfl (hb hby hd) rfl (XT.ll_ge_t q) ho hp kk
theorem Go.ifL_gt (X : Stand p l e R s m args below meth c T locs cells slots) (hx : p.tables.exec = Jvm.exec) (hby : c.code = code) {pcN : Nat} {x y : Int64} {o : Int} (hd : decode code pc = .ok (.ifCond .gt o, 3)) (ho : 0 ≤ (pc : Int) + o) (hp : ((pc : Int) + o).toNat = pc') (hn : pc + 3 = pcN) (yes : y < x → Go p e below s mc ms Q m T pc' Ls st) (no : ¬ y < x → Go p e below s mc ms Q m T pcN Ls st) : Go p e below s mc ms Q m T pc Ls (.int (XT.cmpL x y) :: st) := by
  subst hn
  by_cases q : y < x
  · exact (yes q).of fun _ kk => XS.ifYes (g := mkF m pc Ls (.int (XT.cmpL x y) :: st)) X.here hx rfl (pc0 := pc) rfl (hb hby hd) rfl (XT.ll_gt_t q) ho hp kk
  · exact (no q).of fun _ kk => XS.ifNo (g := mkF m pc Ls (.int (XT.cmpL x y) :: st)) X.here hx rfl (hb hby hd) rfl (XT.ll_gt_f q) kk
theorem Go.ifL_le (X : Stand p l e R s m args below meth c T locs cells slots) (hx : p.tables.exec = Jvm.exec) (hby : c.code = code) {pcN : Nat} {x y : Int64} {o : Int} (hd : decode code pc = .ok (.ifCond .le o, 3)) (ho : 0 ≤ (pc : Int) + o) (hp : ((pc : Int) + o).toNat = pc') (hn : pc + 3 = pcN) (yes : ¬ y < x → Go p e below s mc ms Q m T pc' Ls st) (no : y < x → Go p e below s mc ms Q m T pcN Ls st) : Go p e below s mc ms Q m T pc Ls (.int (XT.cmpL x y) :: st) := by
  subst hn
  by_cases q : y < x
  · exact (no q).of fun _ kk => XS.ifNo (g := mkF m pc Ls (.int (XT.cmpL x y) :: st)) X.here hx rfl (hb hby hd) rfl (XT.ll_le_f q) kk
  · exact (yes q).of fun _ kk => XS.ifYes (g := mkF m pc Ls (.int (XT.cmpL x y) :: st)) X.here hx rfl (pc0 := pc) rfl (hb hby hd) rfl (XT.ll_le_t q) ho hp kk
theorem Go.iretI (X : Stand p l e R s m args below meth c T locs cells slots) (hx : p.tables.exec = Jvm.exec) (hby : c.code = code) (hlk : meth.locks = false) (hret : meth.sig.returnType = some .int) {w : Int32} (hd : decode code pc = .ok (.ireturn, 1)) (hc : cells ≤ mc) (hs : slots ≤ ms) (hq : Q (some (.int w)) T.heap locs) : Go p e below s mc ms Q m T pc Ls [.int w] := by
  obtain ⟨fs, hr, hrun, hended, hW, hsame⟩ := X.leave (v := some (.int w)) (fun h => by rw [hret] at h; cases h) hlk
  exact ⟨_, _, X.ireturnOut hx hret rfl (Or.inl rfl) (hb hby hd) hr, hrun, hended, _, _, rfl, hq, ⟨_, rfl⟩, hW, hsame.mono hc hs⟩
theorem Go.iretN (X : Stand p l e R s m args below meth c T locs cells slots) (hx : p.tables.exec = Jvm.exec) (hby : c.code = code) (hlk : meth.locks = false) {t : FieldType} (hret : meth.sig.returnType = some t) (ht : t = .boolean ∨ t = .byte ∨ t = .char ∨ t = .short) {w w' : Int32} (hw : nar t w = w') (hd : decode code pc = .ok (.ireturn, 1)) (hc : cells ≤ mc) (hs : slots ≤ ms) (hq : Q (some (.int w')) T.heap locs) : Go p e below s mc ms Q m T pc Ls [.int w] := by
  subst hw
  obtain ⟨fs, hr, hrun, hended, hW, hsame⟩ := X.leave (v := some (.int (nar t w))) (fun h => by rw [hret] at h; cases h) hlk
  exact ⟨_, _, retN X hx (t := t) hret ht (hb hby hd) hr, hrun, hended, _, _, rfl, hq, ⟨_, rfl⟩, hW, hsame.mono hc hs⟩
theorem Go.lret (X : Stand p l e R s m args below meth c T locs cells slots) (hx : p.tables.exec = Jvm.exec) (hby : c.code = code) (hlk : meth.locks = false) (hret : meth.sig.returnType = some .long) {w : Int64} (hd : decode code pc = .ok (.lreturn, 1)) (hc : cells ≤ mc) (hs : slots ≤ ms) (hq : Q (some (.long w)) T.heap locs) : Go p e below s mc ms Q m T pc Ls [.long w] := by
  obtain ⟨fs, hr, hrun, hended, hW, hsame⟩ := X.leave (v := some (.long w)) (fun h => by rw [hret] at h; cases h) hlk
  exact ⟨_, _, X.lreturnOut hx hret (hb hby hd) hr, hrun, hended, _, _, rfl, hq, ⟨_, rfl⟩, hW, hsame.mono hc hs⟩
theorem Go.aret (X : Stand p l e R s m args below meth c T locs cells slots) (hx : p.tables.exec = Jvm.exec) (hby : c.code = code) (hlk : meth.locks = false) {t : FieldType} (hret : meth.sig.returnType = some t) (ht : t.isReference = true) {w : Value} (hw : w.isRef = true) (hd : decode code pc = .ok (.areturn, 1)) (hc : cells ≤ mc) (hs : slots ≤ ms) (hq : Q (some w) T.heap locs) : Go p e below s mc ms Q m T pc Ls [w] := by
  obtain ⟨fs, hr, hrun, hended, hW, hsame⟩ := X.leave (v := some w) (fun h => by rw [hret] at h; cases h) hlk
  exact ⟨_, _, X.areturnOut hx hw hret ht (hb hby hd) hr, hrun, hended, _, _, rfl, hq, ⟨_, rfl⟩, hW, hsame.mono hc hs⟩
theorem Go.vret (X : Stand p l e R s m args below meth c T locs cells slots) (hx : p.tables.exec = Jvm.exec) (hby : c.code = code) (hlk : meth.locks = false) (hret : meth.sig.returnType = none) (hd : decode code pc = .ok (.return_, 1)) (hc : cells ≤ mc) (hs : slots ≤ ms) (hq : Q none T.heap locs) : Go p e below s mc ms Q m T pc Ls [] := by
  obtain ⟨fs, hr, hrun, hended, hW, hsame⟩ := X.leave (v := none) (fun _ => rfl) hlk
  exact ⟨_, _, X.returnOut hx hret (hb hby hd) hr, hrun, hended, _, _, rfl, hq, ⟨_, rfl⟩, hW, hsame.mono hc hs⟩
/-- what a body that keeps the heap leaves -/
def PQ (h0 : Heap) (r : Option Value) (v : Option Value) (h : Heap) (L : List Loc) : Prop := v = r ∧ L = [] ∧ h = h0
theorem Go.callS (X : Stand p l e R s m args below meth c T locs cells slots) (hx : p.tables.exec = Jvm.exec) (hby : c.code = code) {Z : State} {a0 : Array Value} {h : Heap} (hZ : Z.Warmed39 s.vm) (hml : Ls.size = c.maxLocals) {own : String} {k : Nat} {y : MethodName} {bytes : ByteArray} {maxL : Nat} {ret : Option FieldType} {rm : Room} {W : Nat} {as' : Array Value} {QY : Option Value → Heap → List Loc → Prop}
    (hown : s.vm.findClass own = some m.cls) (w1 : (Cond.methodLink own k y).before a0 Z = true) (w2 : (Cond.static y).before a0 Z = true) (w3 : (Cond.initialized y.cls).before a0 Z = true) (w4 : (Cond.code y bytes maxL ret).before a0 Z = true) (hy : y.cls ≠ "java/lang/invoke/MethodHandle" ∧ y.cls ≠ "java/lang/invoke/VarHandle")
    (hM : MetFree l y (head1 [Cond.code y bytes maxL ret] rm) (fun a U => a = as' ∧ Z.Warmed39 U.vm ∧ U.heap = h) (fun _ _ _ _ _ => True) (fun _ U o U' => ∃ v L, o = .returned v ∧ QY v U'.heap L ∧ FrameEnd U o U' L rm.cells rm.slots))
    (hf : rm.frames + 1 ≤ R.frames) (hl : W + (maxL + 11) + rm.locals ≤ R.locals) (eT : T.heap = h) {argsL rest : List Value} {sig : MethodDescriptor} (hsig : parseMethodDescriptor y.desc = some sig) (hlen : argsL.length = sig.parameters.length) (has : argsL.toArray = as') (hst : st = argsL.reverse ++ rest) (hW : (rest.map fun v => v.category).sum ≤ W)
    (hc : cells + rm.cells ≤ R.cells) (hsl : slots + rm.slots ≤ R.slots) (hd : decode code pc = .ok (.invokestatic k, 3)) (hpc : pc + 3 = pc')
    (K : ∀ v T' L, Stand p l e R s m args below meth c T' (locs ++ L) (cells + rm.cells) (slots + rm.slots) → QY v T'.heap L → Go p e below s mc ms Q m T' pc' Ls (v.toList ++ rest)) : Go p e below s mc ms Q m T pc Ls st := by
  subst hpc hst has
  obtain ⟨v, vm₁, B, -, X', ⟨L, hQ, l1, l2, l3⟩, st⟩ := Jvm.LawKit.callS X hx hown (mvT hZ w1) (mvT hZ w2) (mvT hZ w3) (mvT hZ w4) hy (backOf (W := W) hM hZ w4 w3 hf hl) (g := mkF m pc Ls (argsL.reverse ++ rest)) rfl hml (argsL := argsL) (rest := rest) (lenOf hsig hlen) rfl (by show 2 * 0 + _ ≤ _; omega) (hb hby hd) (fun _ _ => ⟨rfl, eT, hc, hsl⟩)
  rw [l1, l2, l3] at X'
  exact (K v B.U L X' hQ).of st
theorem Go.callSP (X : Stand p l e R s m args below meth c T locs cells slots) (hx : p.tables.exec = Jvm.exec) (hby : c.code = code) {Z : State} {a0 : Array Value} {h : Heap} (hZ : Z.Warmed39 s.vm) (hml : Ls.size = c.maxLocals) {own : String} {k : Nat} {y : MethodName} {bytes : ByteArray} {maxL : Nat} {ret : Option FieldType} {rm : Room} {W : Nat} {as' : Array Value} {r : Value}
    (hown : s.vm.findClass own = some m.cls) (w1 : (Cond.methodLink own k y).before a0 Z = true) (w2 : (Cond.static y).before a0 Z = true) (w3 : (Cond.initialized y.cls).before a0 Z = true) (w4 : (Cond.code y bytes maxL ret).before a0 Z = true) (hy : y.cls ≠ "java/lang/invoke/MethodHandle" ∧ y.cls ≠ "java/lang/invoke/VarHandle")
    (hM : MetFree l y (head1 [Cond.code y bytes maxL ret] rm) (fun a U => a = as' ∧ Z.Warmed39 U.vm ∧ U.heap = h) (fun _ _ _ _ _ => True) (fun _ U o U' => ∃ v L, o = .returned v ∧ PQ h (some r) v U'.heap L ∧ FrameEnd U o U' L rm.cells rm.slots))
    (hf : rm.frames + 1 ≤ R.frames) (hl : W + (maxL + 11) + rm.locals ≤ R.locals) (eT : T.heap = h) {argsL rest : List Value} {sig : MethodDescriptor} (hsig : parseMethodDescriptor y.desc = some sig) (hlen : argsL.length = sig.parameters.length) (has : argsL.toArray = as') (hst : st = argsL.reverse ++ rest) (hW : (rest.map fun v => v.category).sum ≤ W)
    (r1 : rm.cells = 0) (r2 : rm.slots = 0) (hc : cells ≤ R.cells) (hsl : slots ≤ R.slots) (hd : decode code pc = .ok (.invokestatic k, 3)) (hpc : pc + 3 = pc')
    (K : ∀ T', Stand p l e R s m args below meth c T' locs cells slots → T'.heap = h → Go p e below s mc ms Q m T' pc' Ls (r :: rest)) : Go p e below s mc ms Q m T pc Ls st := by
  refine Go.callS X hx hby hZ hml hown w1 w2 w3 w4 hy hM hf hl eT hsig hlen has hst hW (by rw [r1]; exact hc) (by rw [r2]; exact hsl) hd hpc (fun v T' L X' hQ => ?_)
  obtain ⟨rfl, rfl, e1⟩ := hQ
  rw [List.append_nil, r1, r2] at X'
  exact K T' X' e1
end Law

/-- the place j is in the list -/
abbrev inA {α : Type} (A : List α) (j : Int32) : Prop := ¬ (j < 0 ∨ A.length ≤ j.toNatClampNeg)
def atA {α : Type} [OfNat α 0] (A : List α) (j : Int32) : α := A.getD j.toNatClampNeg 0
def setA {α : Type} (A : List α) (j : Int32) (v : α) : List α := A.set j.toNatClampNeg v
def lenA {α : Type} (A : List α) : Int32 := A.length.toInt32
/-- an array of ints, bytes, chars that holds the list -/
def AryI (Z : State) (h : Heap) (a : Addr) (ty : FieldType) (A : List Int32) : Prop := ∃ (k : ClassId) (z : Int32), Arv Z h a k ty z (A.map Value.int) (.int 0) ∧ z.toNatClampNeg = A.length
def AryJ (Z : State) (h : Heap) (a : Addr) (A : List Int64) : Prop := ∃ (k : ClassId) (z : Int32), Arv Z h a k .long z (A.map Value.long) (.long 0) ∧ z.toNatClampNeg = A.length
theorem own_inK {α : Type} {A : List α} {j : Int32} {n : Nat} (hl : A.length = n) (hj : ¬ (j < 0 ∨ n ≤ j.toNatClampNeg)) : inA A j := by subst hl; exact hj
section Heaps
variable {p : Program} {l : Launch} {e : Env} {R : Room} {s : State} {m : MethodId} {args : Array Value} {below : List Frame} {meth : Method} {c : Code} {T T' : State} {locs : List Loc} {cells slots : Nat} {code : ByteArray} {Q : Option Value → Heap → List Loc → Prop} {mc ms : Nat} {pc pc' : Nat} {Ls Ls' : Array Slot} {st st' rest : List Value}
variable {Z : State} {h h' : Heap} {a b : Addr} {ty : FieldType} {A : List Int32} {J : List Int64} {sl : Nat} {v : Value} {ws : List Addr} {a0 : Array Value}
theorem AryI.lt (F : AryI Z h a ty A) : a < h.size := by obtain ⟨k, z, V, -⟩ := F; exact V.lt
theorem AryI.ext (F : AryI Z h a ty A) (E : Ext h h') : AryI Z h' a ty A := by obtain ⟨k, z, V, q⟩ := F; exact ⟨k, z, V.ext E, q⟩
theorem AryI.other (F : AryI Z h b ty A) (W : Wr h h' a sl v) (q : b ≠ a) : AryI Z h' b ty A := by obtain ⟨k, z, V, r⟩ := F; exact ⟨k, z, V.other W q, r⟩
theorem AryI.keep (F : AryI Z h a ty A) (K : Keep h h' ws) (q : a ∉ ws) : AryI Z h' a ty A := by obtain ⟨k, z, V, r⟩ := F; exact ⟨k, z, V.keep K q, r⟩
theorem AryJ.lt (F : AryJ Z h a J) : a < h.size := by obtain ⟨k, z, V, -⟩ := F; exact V.lt
theorem AryJ.ext (F : AryJ Z h a J) (E : Ext h h') : AryJ Z h' a J := by obtain ⟨k, z, V, q⟩ := F; exact ⟨k, z, V.ext E, q⟩
theorem AryJ.other (F : AryJ Z h b J) (W : Wr h h' a sl v) (q : b ≠ a) : AryJ Z h' b J := by obtain ⟨k, z, V, r⟩ := F; exact ⟨k, z, V.other W q, r⟩
theorem AryJ.keep (F : AryJ Z h a J) (K : Keep h h' ws) (q : a ∉ ws) : AryJ Z h' a J := by obtain ⟨k, z, V, r⟩ := F; exact ⟨k, z, V.keep K q, r⟩
theorem own_getI (A : List Int32) (n : Nat) : (A.map Value.int).getD n (.int 0) = .int (A.getD n 0) := by
  simp only [List.getD_eq_getElem?_getD, List.getElem?_map]; cases A[n]? <;> rfl
theorem own_getJ (A : List Int64) (n : Nat) : (A.map Value.long).getD n (.long 0) = .long (A.getD n 0) := by
  simp only [List.getD_eq_getElem?_getD, List.getElem?_map]; cases A[n]? <;> rfl
theorem own_fin {α : Type} {w r : α} {P : α → Prop} (e : some w = some r) (h : P w) : P r := Option.some.inj e ▸ h
theorem Go.baload (X : Stand p l e R s m args below meth c T locs cells slots) (hx : p.tables.exec = Jvm.exec) (hby : c.code = code) (hZ : Z.Warmed39 s.vm) (eT : T.heap = h) (F : AryI Z h a .byte A) {j : Int32} (hj : inA A j) (hd : decode code pc = .ok (.baload, 1)) (hpc : pc + 1 = pc') (K : Go p e below s mc ms Q m T pc' Ls (.int (atA A j) :: st)) : Go p e below s mc ms Q m T pc Ls (.int j :: .ref a :: st) := by
  subst hpc
  obtain ⟨k, z, ⟨cl, Ar, q1, S, q3, H, -⟩, r⟩ := F
  have hin : ¬ (j < 0 ∨ cl.slots.size ≤ j.toNatClampNeg) := by rw [S, r]; exact hj
  have hv : cl.slots[j.toNatClampNeg]? = some (.int (atA A j)) := by rw [H _ (Nat.lt_of_not_le fun y => hin (Or.inr y)), own_getI]; rfl
  exact K.of fun t kk => X.baloadBytes hx (by rw [eT]; exact Ar.1) (State.isArrayOf_alike hZ.alike Ar.2.1) Ar.2.2 hin hv (g := mkF m pc Ls (.int j :: .ref a :: st)) rfl rfl (hb hby hd) t kk
theorem Go.caload (X : Stand p l e R s m args below meth c T locs cells slots) (hx : p.tables.exec = Jvm.exec) (hby : c.code = code) (hZ : Z.Warmed39 s.vm) (eT : T.heap = h) (F : AryI Z h a .char A) {j : Int32} (hj : inA A j) (hd : decode code pc = .ok (.caload, 1)) (hpc : pc + 1 = pc') (K : Go p e below s mc ms Q m T pc' Ls (.int (atA A j) :: st)) : Go p e below s mc ms Q m T pc Ls (.int j :: .ref a :: st) := by
  subst hpc
  obtain ⟨k, z, ⟨cl, Ar, q1, S, q3, H, -⟩, r⟩ := F
  have hin : ¬ (j < 0 ∨ cl.slots.size ≤ j.toNatClampNeg) := by rw [S, r]; exact hj
  have hv : cl.slots[j.toNatClampNeg]? = some (.int (atA A j)) := by rw [H _ (Nat.lt_of_not_le fun y => hin (Or.inr y)), own_getI]; rfl
  exact K.of fun t kk => X.caload hx (by rw [eT]; exact Ar.1) (State.isArrayOf_alike hZ.alike Ar.2.1) Ar.2.2 hin hv (g := mkF m pc Ls (.int j :: .ref a :: st)) rfl rfl (hb hby hd) t kk
theorem Go.iaload (X : Stand p l e R s m args below meth c T locs cells slots) (hx : p.tables.exec = Jvm.exec) (hby : c.code = code) (hZ : Z.Warmed39 s.vm) (eT : T.heap = h) (F : AryI Z h a .int A) {j : Int32} (hj : inA A j) (hd : decode code pc = .ok (.iaload, 1)) (hpc : pc + 1 = pc') (K : Go p e below s mc ms Q m T pc' Ls (.int (atA A j) :: st)) : Go p e below s mc ms Q m T pc Ls (.int j :: .ref a :: st) := by
  subst hpc
  obtain ⟨k, z, ⟨cl, Ar, q1, S, q3, H, -⟩, r⟩ := F
  have hin : ¬ (j < 0 ∨ cl.slots.size ≤ j.toNatClampNeg) := by rw [S, r]; exact hj
  have hv : cl.slots[j.toNatClampNeg]? = some (.int (atA A j)) := by rw [H _ (Nat.lt_of_not_le fun y => hin (Or.inr y)), own_getI]; rfl
  exact K.of fun t kk => X.iaload hx (by rw [eT]; exact Ar.1) (State.isArrayOf_alike hZ.alike Ar.2.1) Ar.2.2 hin hv (g := mkF m pc Ls (.int j :: .ref a :: st)) rfl rfl (hb hby hd) t kk
theorem Go.laload (X : Stand p l e R s m args below meth c T locs cells slots) (hx : p.tables.exec = Jvm.exec) (hby : c.code = code) (hZ : Z.Warmed39 s.vm) (eT : T.heap = h) (F : AryJ Z h a J) {j : Int32} (hj : inA J j) (hd : decode code pc = .ok (.laload, 1)) (hpc : pc + 1 = pc') (K : Go p e below s mc ms Q m T pc' Ls (.long (atA J j) :: st)) : Go p e below s mc ms Q m T pc Ls (.int j :: .ref a :: st) := by
  subst hpc
  obtain ⟨k, z, ⟨cl, Ar, q1, S, q3, H, -⟩, r⟩ := F
  have hin : ¬ (j < 0 ∨ cl.slots.size ≤ j.toNatClampNeg) := by rw [S, r]; exact hj
  have hv : cl.slots[j.toNatClampNeg]? = some (.long (atA J j)) := by rw [H _ (Nat.lt_of_not_le fun y => hin (Or.inr y)), own_getJ]; rfl
  exact K.of fun t kk => X.laload hx (by rw [eT]; exact Ar.1) (State.isArrayOf_alike hZ.alike Ar.2.1) Ar.2.2 hin hv (g := mkF m pc Ls (.int j :: .ref a :: st)) rfl rfl (hb hby hd) t kk
theorem Go.alen (X : Stand p l e R s m args below meth c T locs cells slots) (hx : p.tables.exec = Jvm.exec) (hby : c.code = code) (hZ : Z.Warmed39 s.vm) (eT : T.heap = h) (F : AryI Z h a ty A) (hd : decode code pc = .ok (.arraylength, 1)) (hpc : pc + 1 = pc') (K : Go p e below s mc ms Q m T pc' Ls (.int (lenA A) :: st)) : Go p e below s mc ms Q m T pc Ls (.ref a :: st) := by
  subst hpc
  obtain ⟨k, z, ⟨cl, Ar, q1, S, q3, H, -⟩, r⟩ := F
  have e2 : cl.slots.size.toInt32 = lenA A := by rw [S, r]; rfl
  exact K.of fun t kk => X.arraylength hx (by rw [eT]; exact Ar.1) (State.isArrayOf_alike hZ.alike Ar.2.1) (g := mkF m pc Ls (.ref a :: st)) rfl rfl (hb hby hd) t (by rw [e2]; exact kk)
theorem Go.alenJ (X : Stand p l e R s m args below meth c T locs cells slots) (hx : p.tables.exec = Jvm.exec) (hby : c.code = code) (hZ : Z.Warmed39 s.vm) (eT : T.heap = h) (F : AryJ Z h a J) (hd : decode code pc = .ok (.arraylength, 1)) (hpc : pc + 1 = pc') (K : Go p e below s mc ms Q m T pc' Ls (.int (lenA J) :: st)) : Go p e below s mc ms Q m T pc Ls (.ref a :: st) := by
  subst hpc
  obtain ⟨k, z, ⟨cl, Ar, q1, S, q3, H, -⟩, r⟩ := F
  have e2 : cl.slots.size.toInt32 = lenA J := by rw [S, r]; rfl
  exact K.of fun t kk => X.arraylength hx (by rw [eT]; exact Ar.1) (State.isArrayOf_alike hZ.alike Ar.2.1) (g := mkF m pc Ls (.ref a :: st)) rfl rfl (hb hby hd) t (by rw [e2]; exact kk)
theorem Go.bastore (X : Stand p l e R s m args below meth c T locs cells slots) (hx : p.tables.exec = Jvm.exec) (hby : c.code = code) (hZ : Z.Warmed39 s.vm) (eT : T.heap = h) (F : AryI Z h a .byte A) {j x : Int32} (hj : inA A j) (hd : decode code pc = .ok (.bastore, 1)) (hpc : pc + 1 = pc') (K : ∀ T' h', Stand p l e R s m args below meth c T' (locs ++ [⟨a, j.toNatClampNeg⟩]) cells slots → T'.heap = h' → Wr h h' a j.toNatClampNeg (.int (i2bF x)) → AryI Z h' a .byte (setA A j (i2bF x)) → Go p e below s mc ms Q m T' pc' Ls st) : Go p e below s mc ms Q m T pc Ls (.int x :: .int j :: .ref a :: st) := by
  subst hpc
  obtain ⟨k, z, ⟨cl, Ar, q1, S, q3, H, H2⟩, r⟩ := F
  have hin : ¬ (j < 0 ∨ cl.slots.size ≤ j.toNatClampNeg) := by rw [S, r]; exact hj
  obtain ⟨T', h', X', e', W, stp⟩ := stB X hx hZ eT Ar hin (g := mkF m pc Ls (.int x :: .int j :: .ref a :: st)) rfl rfl (hb hby hd)
  have V := Arv.set (v := .int (i2bF x)) Ar q1 S q3 H H2 (fits_nar_byte x) W j.toNatClampNeg rfl (by rw [List.length_map]; exact Nat.lt_of_not_le fun y => hj (Or.inr y))
  exact (K T' h' X' e' W ⟨k, z, by rw [setA, List.map_set]; exact V, by rw [setA, List.length_set]; exact r⟩).of stp
theorem Go.castore (X : Stand p l e R s m args below meth c T locs cells slots) (hx : p.tables.exec = Jvm.exec) (hby : c.code = code) (hZ : Z.Warmed39 s.vm) (eT : T.heap = h) (F : AryI Z h a .char A) {j x : Int32} (hj : inA A j) (hd : decode code pc = .ok (.castore, 1)) (hpc : pc + 1 = pc') (K : ∀ T' h', Stand p l e R s m args below meth c T' (locs ++ [⟨a, j.toNatClampNeg⟩]) cells slots → T'.heap = h' → Wr h h' a j.toNatClampNeg (.int (i2cF x)) → AryI Z h' a .char (setA A j (i2cF x)) → Go p e below s mc ms Q m T' pc' Ls st) : Go p e below s mc ms Q m T pc Ls (.int x :: .int j :: .ref a :: st) := by
  subst hpc
  obtain ⟨k, z, ⟨cl, Ar, q1, S, q3, H, H2⟩, r⟩ := F
  have hin : ¬ (j < 0 ∨ cl.slots.size ≤ j.toNatClampNeg) := by rw [S, r]; exact hj
  obtain ⟨T', h', X', e', W, stp⟩ := stC X hx hZ eT Ar hin (g := mkF m pc Ls (.int x :: .int j :: .ref a :: st)) rfl rfl (hb hby hd)
  have V := Arv.set (v := .int (i2cF x)) Ar q1 S q3 H H2 (fits_nar_char x) W j.toNatClampNeg rfl (by rw [List.length_map]; exact Nat.lt_of_not_le fun y => hj (Or.inr y))
  exact (K T' h' X' e' W ⟨k, z, by rw [setA, List.map_set]; exact V, by rw [setA, List.length_set]; exact r⟩).of stp
theorem Go.iastore (X : Stand p l e R s m args below meth c T locs cells slots) (hx : p.tables.exec = Jvm.exec) (hby : c.code = code) (hZ : Z.Warmed39 s.vm) (eT : T.heap = h) (F : AryI Z h a .int A) {j x : Int32} (hj : inA A j) (hd : decode code pc = .ok (.iastore, 1)) (hpc : pc + 1 = pc') (K : ∀ T' h', Stand p l e R s m args below meth c T' (locs ++ [⟨a, j.toNatClampNeg⟩]) cells slots → T'.heap = h' → Wr h h' a j.toNatClampNeg (.int x) → AryI Z h' a .int (setA A j x) → Go p e below s mc ms Q m T' pc' Ls st) : Go p e below s mc ms Q m T pc Ls (.int x :: .int j :: .ref a :: st) := by
  subst hpc
  obtain ⟨k, z, ⟨cl, Ar, q1, S, q3, H, H2⟩, r⟩ := F
  have hin : ¬ (j < 0 ∨ cl.slots.size ≤ j.toNatClampNeg) := by rw [S, r]; exact hj
  obtain ⟨T', h', X', e', W, stp⟩ := stI X hx hZ eT Ar hin (g := mkF m pc Ls (.int x :: .int j :: .ref a :: st)) rfl rfl (hb hby hd)
  have V := Arv.set (v := .int x) Ar q1 S q3 H H2 rfl W j.toNatClampNeg rfl (by rw [List.length_map]; exact Nat.lt_of_not_le fun y => hj (Or.inr y))
  exact (K T' h' X' e' W ⟨k, z, by rw [setA, List.map_set]; exact V, by rw [setA, List.length_set]; exact r⟩).of stp
theorem Go.lastore (X : Stand p l e R s m args below meth c T locs cells slots) (hx : p.tables.exec = Jvm.exec) (hby : c.code = code) (hZ : Z.Warmed39 s.vm) (eT : T.heap = h) (F : AryJ Z h a J) {j : Int32} {x : Int64} (hj : inA J j) (hd : decode code pc = .ok (.lastore, 1)) (hpc : pc + 1 = pc') (K : ∀ T' h', Stand p l e R s m args below meth c T' (locs ++ [⟨a, j.toNatClampNeg⟩]) cells slots → T'.heap = h' → Wr h h' a j.toNatClampNeg (.long x) → AryJ Z h' a (setA J j x) → Go p e below s mc ms Q m T' pc' Ls st) : Go p e below s mc ms Q m T pc Ls (.long x :: .int j :: .ref a :: st) := by
  subst hpc
  obtain ⟨k, z, ⟨cl, Ar, q1, S, q3, H, H2⟩, r⟩ := F
  have hin : ¬ (j < 0 ∨ cl.slots.size ≤ j.toNatClampNeg) := by rw [S, r]; exact hj
  obtain ⟨T', h', X', e', W, stp⟩ := stJ X hx hZ eT Ar hin (g := mkF m pc Ls (.long x :: .int j :: .ref a :: st)) rfl rfl (hb hby hd)
  have V := Arv.set (v := .long x) Ar q1 S q3 H H2 rfl W j.toNatClampNeg rfl (by rw [List.length_map]; exact Nat.lt_of_not_le fun y => hj (Or.inr y))
  exact (K T' h' X' e' W ⟨k, z, by rw [setA, List.map_set]; exact V, by rw [setA, List.length_set]; exact r⟩).of stp
theorem Go.newA (X : Stand p l e R s m args below meth c T locs cells slots) (hx : p.tables.exec = Jvm.exec) (hby : c.code = code) (hZ : Z.Warmed39 s.vm) {nn : Nat} {n : Int32} {aty : ArrayType} (w : (Cond.arrayClass ty).before a0 Z = true) (eT : T.heap = h) (hd : decode code pc = .ok (.newarray aty, 2)) (hpc : pc + 2 = pc') (ht : newarray.typeOf aty = ty) (hv : defaultValue ty = .int 0) (hn : n.toNatClampNeg = nn) (hn0 : ¬ n < 0) (hcap : nn * 8 ≤ 536870912) (hc : cells + 1 ≤ R.cells) (hsl : slots + nn ≤ R.slots)
    (K : ∀ T' h' (a : Addr), Stand p l e R s m args below meth c T' locs (cells + 1) (slots + nn) → T'.heap = h' → Ext h h' → h.size ≤ a → AryI Z h' a ty (List.replicate nn 0) → Go p e below s mc ms Q m T' pc' Ls (.ref a :: st)) : Go p e below s mc ms Q m T pc Ls (.int n :: st) := by
  subst hpc ht
  obtain ⟨T', h', cA, X', e', E, Ar, stp⟩ := newP X hx hZ w eT (g := mkF m pc Ls (.int n :: st)) rfl (hb hby hd) rfl hn0 (cap := nn) (Nat.le_of_eq hn) hcap hc hsl
  have V := Arv.new Ar hn0
  rw [hv] at V
  have V2 := Arv.pad V (vs' := (List.replicate nn (0 : Int32)).map Value.int) (fun i => by rw [List.map_replicate]; exact pad_rep [] (.int 0) nn i)
  exact (K T' h' h.size X' e' E (Nat.le_refl _) ⟨cA, n, V2, by rw [hn, List.length_replicate]⟩).of stp
theorem Go.newAJ (X : Stand p l e R s m args below meth c T locs cells slots) (hx : p.tables.exec = Jvm.exec) (hby : c.code = code) (hZ : Z.Warmed39 s.vm) {nn : Nat} {n : Int32} (w : (Cond.arrayClass .long).before a0 Z = true) (eT : T.heap = h) (hd : decode code pc = .ok (.newarray .long, 2)) (hpc : pc + 2 = pc') (hn : n.toNatClampNeg = nn) (hn0 : ¬ n < 0) (hcap : nn * 8 ≤ 536870912) (hc : cells + 1 ≤ R.cells) (hsl : slots + nn ≤ R.slots)
    (K : ∀ T' h' (a : Addr), Stand p l e R s m args below meth c T' locs (cells + 1) (slots + nn) → T'.heap = h' → Ext h h' → h.size ≤ a → AryJ Z h' a (List.replicate nn 0) → Go p e below s mc ms Q m T' pc' Ls (.ref a :: st)) : Go p e below s mc ms Q m T pc Ls (.int n :: st) := by
  subst hpc
  obtain ⟨T', h', cA, X', e', E, Ar, stp⟩ := newP (aty := .long) X hx hZ w eT (g := mkF m pc Ls (.int n :: st)) rfl (hb hby hd) rfl hn0 (cap := nn) (Nat.le_of_eq hn) hcap hc hsl
  have V : Arv Z h' h.size cA .long n [] (.long 0) := Arv.new Ar hn0
  have V2 := Arv.pad V (vs' := (List.replicate nn (0 : Int64)).map Value.long) (fun i => by rw [List.map_replicate]; exact pad_rep [] (.long 0) nn i)
  exact (K T' h' h.size X' e' E (Nat.le_refl _) ⟨cA, n, V2, by rw [hn, List.length_replicate]⟩).of stp
theorem Go.ifnullNo (X : Stand p l e R s m args below meth c T locs cells slots) (hx : p.tables.exec = Jvm.exec) (hby : c.code = code) {o : Int} (hd : decode code pc = .ok (.ifnull o, 3)) (hpc : pc + 3 = pc') (K : Go p e below s mc ms Q m T pc' Ls st) : Go p e below s mc ms Q m T pc Ls (.ref a :: st) := by
  subst hpc; exact K.of fun _ kk => XS.ifnullNo (g := mkF m pc Ls (.ref a :: st)) X.here hx rfl (hb hby hd) rfl kk
theorem Go.acmpNe (X : Stand p l e R s m args below meth c T locs cells slots) (hx : p.tables.exec = Jvm.exec) (hby : c.code = code) {o : Int} (hd : decode code pc = .ok (.if_acmp .eq o, 3)) (hpc : pc + 3 = pc') (hne : a ≠ b) (K : Go p e below s mc ms Q m T pc' Ls st) : Go p e below s mc ms Q m T pc Ls (.ref b :: .ref a :: st) := by
  subst hpc; exact K.of fun _ kk => XT.acmpNo (g := mkF m pc Ls (.ref b :: .ref a :: st)) X.here hx rfl (hb hby hd) rfl rfl rfl (XT.aa_eq_f fun q => hne (Value.ref.inj q)) kk
theorem Go.getF (X : Stand p l e R s m args below meth c T locs cells slots) (hx : p.tables.exec = Jvm.exec) (hby : c.code = code) (hZ : Z.Warmed39 s.vm) {own O n d : String} {k : Nat} {v : Value} (hown : s.vm.findClass own = some m.cls) (w : (Cond.fieldLink own k O n d).before a0 Z = true) (eT : T.heap = h) (F : Fld Z h a O n d v) (hd : decode code pc = .ok (.getfield k, 3)) (hpc : pc + 3 = pc') (K : ∀ T', Stand p l e R s m args below meth c T' locs cells slots → T'.heap = h → Go p e below s mc ms Q m T' pc' Ls (v :: st)) : Go p e below s mc ms Q m T pc Ls (.ref a :: st) := by
  subst hpc
  obtain ⟨T', X', e', stp⟩ := getF X hx hZ hown (host := "") (Or.inl w) Via.refl eT F (g := mkF m pc Ls (.ref a :: st)) rfl rfl (hb hby hd)
  exact (K T' X' e').of stp
theorem Go.putF (X : Stand p l e R s m args below meth c T locs cells slots) (hx : p.tables.exec = Jvm.exec) (hby : c.code = code) (hZ : Z.Warmed39 s.vm) {own O n d C : String} {k kk : Nat} {ty : FieldType} {v old : Value} (hown : s.vm.findClass own = some m.cls) (w : (Cond.fieldLink own k O n d).before a0 Z = true) (eT : T.heap = h) (F : Fld Z h a O n d old) (E : Exa Z h a C) (L : (Cond.lays C O n d).before a0 Z = true ∨ ((Cond.laysFinal C O n d).before a0 Z = true ∧ own = O ∧ meth.name = "<init>")) (wi : (Cond.instantiable C kk).before a0 Z = true)
    (hty : parseFieldDescriptor d = some ty) (hn : narrow ty v = v) (hf : fits ty v = true) (hd : decode code pc = .ok (.putfield k, 3)) (hpc : pc + 3 = pc') (K : ∀ T' h', Stand p l e R s m args below meth c T' (locs ++ [⟨a, RoadKit.slotOf Z O n d⟩]) cells slots → T'.heap = h' → Wr h h' a (RoadKit.slotOf Z O n d) v → Go p e below s mc ms Q m T' pc' Ls st) : Go p e below s mc ms Q m T pc Ls (v :: .ref a :: st) := by
  subst hpc
  obtain ⟨T', h', X', e', W, stp⟩ := putF X hx hZ hown (host := "") (Or.inl w) Via.refl eT F E L wi hty hn hf (g := mkF m pc Ls (v :: .ref a :: st)) rfl rfl (hb hby hd)
  exact (K T' h' X' e' W).of stp
theorem Go.newO (X : Stand p l e R s m args below meth c T locs cells slots) (hx : p.tables.exec = Jvm.exec) (hby : c.code = code) (hZ : Z.Warmed39 s.vm) {own C : String} {k n : Nat} (hown : s.vm.findClass own = some m.cls) (w : (Cond.classLink own k C).before a0 Z = true) (wi : (Cond.instantiable C n).before a0 Z = true) (wz : (Cond.initialized C).before a0 Z = true) (eT : T.heap = h) (hd : decode code pc = .ok (.new k, 3)) (hpc : pc + 3 = pc') (hc : cells + 1 ≤ R.cells) (hsl : slots + n ≤ R.slots)
    (K : ∀ T' h' (a : Addr), Stand p l e R s m args below meth c T' locs (cells + 1) (slots + n) → T'.heap = h' → Ext h h' → h.size ≤ a → Exa Z h' a C → (∀ {O nm d : String} {ty : FieldType}, Laid Z a0 C O nm d → parseFieldDescriptor d = some ty → Fld Z h' a O nm d (defaultValue ty)) → Go p e below s mc ms Q m T' pc' Ls (.ref a :: st)) : Go p e below s mc ms Q m T pc Ls st := by
  subst hpc
  obtain ⟨T', h', X', e', E, A, D, -, stp⟩ := newO X hx hZ hown w wi wz eT (g := mkF m pc Ls st) rfl (hb hby hd) hc hsl
  exact (K T' h' h.size X' e' E (Nat.le_refl _) A D).of stp
theorem Go.callV (X : Stand p l e R s m args below meth c T locs cells slots) (hx : p.tables.exec = Jvm.exec) (hby : c.code = code) (hZ : Z.Warmed39 s.vm) (hml : Ls.size = c.maxLocals) {own : String} {k : Nat} {y : MethodName} {bytes : ByteArray} {maxL : Nat} {ret : Option FieldType} {rm : Room} {W : Nat} {as' : Array Value} {C : String} {QY : Option Value → Heap → List Loc → Prop} (hown : s.vm.findClass own = some m.cls) (w1 : (Cond.methodLink own k y).before a0 Z = true) (w2 : (Cond.declares y).before a0 Z = true) (w3 : (Cond.selects C y y).before a0 Z = true) (w4 : (Cond.instanceMethod y).before a0 Z = true) (w5 : (Cond.initialized y.cls).before a0 Z = true) (w6 : (Cond.code y bytes maxL ret).before a0 Z = true) (E : Exa Z h a C) (hy : y.cls ≠ "java/lang/invoke/MethodHandle" ∧ y.cls ≠ "java/lang/invoke/VarHandle") (hM : MetFree l y (head1 [Cond.code y bytes maxL ret] rm) (fun a U => a = as' ∧ Z.Warmed39 U.vm ∧ U.heap = h) (fun _ _ _ _ _ => True) (fun _ U o U' => ∃ v L, o = .returned v ∧ QY v U'.heap L ∧ FrameEnd U o U' L rm.cells rm.slots))
    (hf : rm.frames + 1 ≤ R.frames) (hl : W + (maxL + 11) + rm.locals ≤ R.locals) (eT : T.heap = h) {argsL rest : List Value} {sig : MethodDescriptor} (hsig : parseMethodDescriptor y.desc = some sig) (hlen : argsL.length = sig.parameters.length) (has : (Value.ref a :: argsL).toArray = as') (hst : st = argsL.reverse ++ .ref a :: rest) (hW : (rest.map fun v => v.category).sum ≤ W) (hc : cells + rm.cells ≤ R.cells) (hsl : slots + rm.slots ≤ R.slots) (hd : decode code pc = .ok (.invokevirtual k, 3)) (hpc : pc + 3 = pc')
    (K : ∀ v T' L, Stand p l e R s m args below meth c T' (locs ++ L) (cells + rm.cells) (slots + rm.slots) → QY v T'.heap L → Go p e below s mc ms Q m T' pc' Ls (v.toList ++ rest)) : Go p e below s mc ms Q m T pc Ls st := by
  subst hpc hst has
  obtain ⟨cq, kq, qa, qb, qc⟩ := isOf hZ eT E
  obtain ⟨v, vm₁, B, -, X', ⟨L, hQ, l1, l2, l3⟩, stp⟩ := X.virtualBack hx hown (mvT hZ w1) (mvT hZ w2) (notFace_of_selects (args := #[]) (mvT hZ w3)) (mvT hZ w3) (mvT hZ w4) hy (backOf (W := W) hM hZ w6 w5 hf hl) qa qc (g := mkF m pc Ls (argsL.reverse ++ .ref a :: rest)) rfl hml (Steps.refl _) (argsL := argsL) (rest := rest) (lenOf hsig hlen) rfl (by show 2 * 0 + _ ≤ _; omega) (hb hby hd) (fun _ _ => ⟨rfl, eT, hc, hsl⟩)
  rw [l1, l2, l3] at X'
  exact (K v B.U L X' hQ).of fun _ k => stp.trans k
theorem Go.callVP (X : Stand p l e R s m args below meth c T locs cells slots) (hx : p.tables.exec = Jvm.exec) (hby : c.code = code) (hZ : Z.Warmed39 s.vm) (hml : Ls.size = c.maxLocals) {own : String} {k : Nat} {y : MethodName} {bytes : ByteArray} {maxL : Nat} {ret : Option FieldType} {rm : Room} {W : Nat} {as' : Array Value} {C : String} {r : Value} (hown : s.vm.findClass own = some m.cls) (w1 : (Cond.methodLink own k y).before a0 Z = true) (w2 : (Cond.declares y).before a0 Z = true) (w3 : (Cond.selects C y y).before a0 Z = true) (w4 : (Cond.instanceMethod y).before a0 Z = true) (w5 : (Cond.initialized y.cls).before a0 Z = true) (w6 : (Cond.code y bytes maxL ret).before a0 Z = true) (E : Exa Z h a C) (hy : y.cls ≠ "java/lang/invoke/MethodHandle" ∧ y.cls ≠ "java/lang/invoke/VarHandle") (hM : MetFree l y (head1 [Cond.code y bytes maxL ret] rm) (fun a U => a = as' ∧ Z.Warmed39 U.vm ∧ U.heap = h) (fun _ _ _ _ _ => True) (fun _ U o U' => ∃ v L, o = .returned v ∧ PQ h (some r) v U'.heap L ∧ FrameEnd U o U' L rm.cells rm.slots))
    (hf : rm.frames + 1 ≤ R.frames) (hl : W + (maxL + 11) + rm.locals ≤ R.locals) (eT : T.heap = h) {argsL rest : List Value} {sig : MethodDescriptor} (hsig : parseMethodDescriptor y.desc = some sig) (hlen : argsL.length = sig.parameters.length) (has : (Value.ref a :: argsL).toArray = as') (hst : st = argsL.reverse ++ .ref a :: rest) (hW : (rest.map fun v => v.category).sum ≤ W) (r1 : rm.cells = 0) (r2 : rm.slots = 0) (hc : cells ≤ R.cells) (hsl : slots ≤ R.slots) (hd : decode code pc = .ok (.invokevirtual k, 3)) (hpc : pc + 3 = pc')
    (K : ∀ T', Stand p l e R s m args below meth c T' locs cells slots → T'.heap = h → Go p e below s mc ms Q m T' pc' Ls (r :: rest)) : Go p e below s mc ms Q m T pc Ls st := by
  refine Go.callV X hx hby hZ hml hown w1 w2 w3 w4 w5 w6 E hy hM hf hl eT hsig hlen has hst hW (by rw [r1]; exact hc) (by rw [r2]; exact hsl) hd hpc (fun v T' L X' hQ => ?_)
  obtain ⟨rfl, rfl, e1⟩ := hQ
  rw [List.append_nil, r1, r2] at X'
  exact K T' X' e1
theorem Go.callC (X : Stand p l e R s m args below meth c T locs cells slots) (hx : p.tables.exec = Jvm.exec) (hby : c.code = code) (hZ : Z.Warmed39 s.vm) (hml : Ls.size = c.maxLocals) {own : String} {k : Nat} {y : MethodName} {bytes : ByteArray} {maxL : Nat} {rm : Room} {W : Nat} {as' : Array Value} {QY : Option Value → Heap → List Loc → Prop} (hown : s.vm.findClass own = some m.cls) (w1 : (Cond.methodLink own k y).before a0 Z = true) (w4 : (Cond.instanceMethod y).before a0 Z = true) (w5 : (Cond.initialized y.cls).before a0 Z = true) (w6 : (Cond.code y bytes maxL none).before a0 Z = true) (hy : y.cls ≠ "java/lang/invoke/MethodHandle" ∧ y.cls ≠ "java/lang/invoke/VarHandle") (hi : y.name = "<init>") (hM : MetFree l y (head1 [Cond.code y bytes maxL none] rm) (fun a U => a = as' ∧ Z.Warmed39 U.vm ∧ U.heap = h) (fun _ _ _ _ _ => True) (fun _ U o U' => ∃ v L, o = .returned v ∧ QY v U'.heap L ∧ FrameEnd U o U' L rm.cells rm.slots))
    (hf : rm.frames + 1 ≤ R.frames) (hl : W + (maxL + 11) + rm.locals ≤ R.locals) (eT : T.heap = h) {argsL rest : List Value} {sig : MethodDescriptor} (hsig : parseMethodDescriptor y.desc = some sig) (hlen : argsL.length = sig.parameters.length) (has : (Value.ref a :: argsL).toArray = as') (hst : st = argsL.reverse ++ .ref a :: rest) (hW : (rest.map fun v => v.category).sum ≤ W) (hc : cells + rm.cells ≤ R.cells) (hsl : slots + rm.slots ≤ R.slots) (hd : decode code pc = .ok (.invokespecial k, 3)) (hpc : pc + 3 = pc')
    (K : ∀ v T' L, Stand p l e R s m args below meth c T' (locs ++ L) (cells + rm.cells) (slots + rm.slots) → QY v T'.heap L → Go p e below s mc ms Q m T' pc' Ls (v.toList ++ rest)) : Go p e below s mc ms Q m T pc Ls st := by
  subst hpc hst has
  obtain ⟨v, vm₁, B, -, X', ⟨L, hQ, l1, l2, l3⟩, stp⟩ := X.specialBack hx hi hown (mvT hZ w1) (mvT hZ w4) (mvT hZ w6) hy (backOf (W := W) hM hZ w6 w5 hf hl) (g := mkF m pc Ls (argsL.reverse ++ .ref a :: rest)) rfl hml (Steps.refl _) (argsL := argsL) (rest := rest) (lenOf hsig hlen) rfl (by show 2 * 0 + _ ≤ _; omega) (hb hby hd) (fun _ _ => ⟨rfl, eT, hc, hsl⟩)
  rw [l1, l2, l3] at X'
  exact (K v B.U L X' hQ).of fun _ k => stp.trans k
end Heaps

section Init
variable {p : Program} {l : Launch} {e : Env} {R : Room} {s : State} {m : MethodId} {args : Array Value} {below : List Frame} {meth : Method} {c : Code} {T T' : State} {locs : List Loc} {cells slots : Nat} {code : ByteArray} {Q : Option Value → Heap → List Loc → Prop} {mc ms : Nat} {pc pc' : Nat} {Ls Ls' : Array Slot} {st st' rest : List Value} {Z : State} {h h' : Heap} {a b : Addr} {a0 : Array Value}
theorem Go.initO (X : Stand p l e R s m args below meth c T locs cells slots) (hx : p.tables.exec = Jvm.exec) (hby : c.code = code) (hZ : Z.Warmed39 s.vm) (hml : Ls.size = c.maxLocals) {own : String} {k W : Nat} (hown : s.vm.findClass own = some m.cls) (w1 : (Cond.methodLink own k Lib.objectInit).before a0 Z = true) (w2 : (Cond.instanceMethod Lib.objectInit).before a0 Z = true) (w3 : (Cond.code Lib.objectInit object_method_1_code 1 none).before a0 Z = true) (eT : T.heap = h) (hd : decode code pc = .ok (.invokespecial k, 3)) (hpc : pc + 3 = pc') (hf : 1 ≤ R.frames) (hW : (st.map fun v => v.category).sum ≤ W) (hl : W + 12 ≤ R.locals)
    (K : ∀ T', Stand p l e R s m args below meth c T' locs cells slots → T'.heap = h → Go p e below s mc ms Q m T' pc' Ls st) : Go p e below s mc ms Q m T pc Ls (.ref a :: st) := by
  subst hpc
  obtain ⟨T', X', e', stp⟩ := initO X hx hZ hown w1 w2 w3 eT (g := mkF m pc Ls (.ref a :: st)) rfl hml rfl (hb hby hd) hf (W := W) (by show 2 * 0 + _ ≤ _; omega) hl
  exact (K T' X' e').of stp
end Init
def Ob_S (Z : State) (h : Heap) (o : Addr) (v0 v1 v2 v3 v4 v5 : Value) : Prop := Exa Z h o "com/example/yarrow/yarrow/data/StartTags" ∧ Fld Z h o "com/example/yarrow/yarrow/data/StartTags" "line" "I" v0 ∧ Fld Z h o "com/example/yarrow/yarrow/data/StartTags" "column" "I" v1 ∧ Fld Z h o "com/example/yarrow/yarrow/data/StartTags" "content" "[B" v2 ∧ Fld Z h o "com/example/yarrow/yarrow/data/StartTags" "start" "I" v3 ∧ Fld Z h o "com/example/yarrow/yarrow/data/StartTags" "scan" "I" v4 ∧ Fld Z h o "com/example/yarrow/yarrow/data/StartTags" "counted" "I" v5
section ObS
variable {Z : State} {h h' : Heap} {o a : Addr} {v0 v1 v2 v3 v4 v5 : Value} {a0 : Array Value} {sl : Nat} {w : Value} {ws : List Addr}
theorem Ob_S.mk (E : Exa Z h o "com/example/yarrow/yarrow/data/StartTags") (F0 : Fld Z h o "com/example/yarrow/yarrow/data/StartTags" "line" "I" v0) (F1 : Fld Z h o "com/example/yarrow/yarrow/data/StartTags" "column" "I" v1) (F2 : Fld Z h o "com/example/yarrow/yarrow/data/StartTags" "content" "[B" v2) (F3 : Fld Z h o "com/example/yarrow/yarrow/data/StartTags" "start" "I" v3) (F4 : Fld Z h o "com/example/yarrow/yarrow/data/StartTags" "scan" "I" v4) (F5 : Fld Z h o "com/example/yarrow/yarrow/data/StartTags" "counted" "I" v5) : Ob_S Z h o v0 v1 v2 v3 v4 v5 := ⟨E, F0, F1, F2, F3, F4, F5⟩
theorem Ob_S.exa (O : Ob_S Z h o v0 v1 v2 v3 v4 v5) : Exa Z h o "com/example/yarrow/yarrow/data/StartTags" := O.1
theorem Ob_S.lt (O : Ob_S Z h o v0 v1 v2 v3 v4 v5) : o < h.size := O.1.lt
theorem Ob_S.ext (O : Ob_S Z h o v0 v1 v2 v3 v4 v5) (E' : Ext h h') : Ob_S Z h' o v0 v1 v2 v3 v4 v5 := by obtain ⟨E, F0, F1, F2, F3, F4, F5⟩ := O; exact ⟨E.ext E', F0.ext E', F1.ext E', F2.ext E', F3.ext E', F4.ext E', F5.ext E'⟩
theorem Ob_S.other (O : Ob_S Z h o v0 v1 v2 v3 v4 v5) (W : Wr h h' a sl w) (q : o ≠ a) : Ob_S Z h' o v0 v1 v2 v3 v4 v5 := by obtain ⟨E, F0, F1, F2, F3, F4, F5⟩ := O; exact ⟨E.wr W, F0.other W (Or.inl q), F1.other W (Or.inl q), F2.other W (Or.inl q), F3.other W (Or.inl q), F4.other W (Or.inl q), F5.other W (Or.inl q)⟩
theorem Ob_S.keep (O : Ob_S Z h o v0 v1 v2 v3 v4 v5) (K : Keep h h' ws) (q : o ∉ ws) : Ob_S Z h' o v0 v1 v2 v3 v4 v5 := by obtain ⟨E, F0, F1, F2, F3, F4, F5⟩ := O; exact ⟨E.keep K, F0.keep K q, F1.keep K q, F2.keep K q, F3.keep K q, F4.keep K q, F5.keep K q⟩
theorem Ob_S.get_line (O : Ob_S Z h o v0 v1 v2 v3 v4 v5) : Fld Z h o "com/example/yarrow/yarrow/data/StartTags" "line" "I" v0 := by obtain ⟨E, F0, F1, F2, F3, F4, F5⟩ := O; exact F0
theorem Ob_S.get_column (O : Ob_S Z h o v0 v1 v2 v3 v4 v5) : Fld Z h o "com/example/yarrow/yarrow/data/StartTags" "column" "I" v1 := by obtain ⟨E, F0, F1, F2, F3, F4, F5⟩ := O; exact F1
theorem Ob_S.get_content (O : Ob_S Z h o v0 v1 v2 v3 v4 v5) : Fld Z h o "com/example/yarrow/yarrow/data/StartTags" "content" "[B" v2 := by obtain ⟨E, F0, F1, F2, F3, F4, F5⟩ := O; exact F2
theorem Ob_S.get_start (O : Ob_S Z h o v0 v1 v2 v3 v4 v5) : Fld Z h o "com/example/yarrow/yarrow/data/StartTags" "start" "I" v3 := by obtain ⟨E, F0, F1, F2, F3, F4, F5⟩ := O; exact F3
theorem Ob_S.get_scan (O : Ob_S Z h o v0 v1 v2 v3 v4 v5) : Fld Z h o "com/example/yarrow/yarrow/data/StartTags" "scan" "I" v4 := by obtain ⟨E, F0, F1, F2, F3, F4, F5⟩ := O; exact F4
theorem Ob_S.get_counted (O : Ob_S Z h o v0 v1 v2 v3 v4 v5) : Fld Z h o "com/example/yarrow/yarrow/data/StartTags" "counted" "I" v5 := by obtain ⟨E, F0, F1, F2, F3, F4, F5⟩ := O; exact F5
theorem Ob_S.put_line (hw : ∀ d ∈ tables_1, d.before a0 Z = true) (W : Wr h h' o (RoadKit.slotOf Z "com/example/yarrow/yarrow/data/StartTags" "line" "I") w) (O : Ob_S Z h o v0 v1 v2 v3 v4 v5) : Ob_S Z h' o w v1 v2 v3 v4 v5 := by obtain ⟨E, F0, F1, F2, F3, F4, F5⟩ := O; exact ⟨E.wr W, F0.same W, F1.other W (Or.inr (slot_ne (Or.inl (hw _ (List.mem_of_getElem? (i := 20) rfl))) (Or.inl (hw _ (List.mem_of_getElem? (i := 18) rfl))) (by decide) rfl rfl)), F2.other W (Or.inr (slot_ne (Or.inr (hw _ (List.mem_of_getElem? (i := 22) rfl))) (Or.inl (hw _ (List.mem_of_getElem? (i := 18) rfl))) (by decide) rfl rfl)), F3.other W (Or.inr (slot_ne (Or.inr (hw _ (List.mem_of_getElem? (i := 24) rfl))) (Or.inl (hw _ (List.mem_of_getElem? (i := 18) rfl))) (by decide) rfl rfl)), F4.other W (Or.inr (slot_ne (Or.inl (hw _ (List.mem_of_getElem? (i := 26) rfl))) (Or.inl (hw _ (List.mem_of_getElem? (i := 18) rfl))) (by decide) rfl rfl)), F5.other W (Or.inr (slot_ne (Or.inl (hw _ (List.mem_of_getElem? (i := 28) rfl))) (Or.inl (hw _ (List.mem_of_getElem? (i := 18) rfl))) (by decide) rfl rfl))⟩
theorem Ob_S.put_column (hw : ∀ d ∈ tables_1, d.before a0 Z = true) (W : Wr h h' o (RoadKit.slotOf Z "com/example/yarrow/yarrow/data/StartTags" "column" "I") w) (O : Ob_S Z h o v0 v1 v2 v3 v4 v5) : Ob_S Z h' o v0 w v2 v3 v4 v5 := by obtain ⟨E, F0, F1, F2, F3, F4, F5⟩ := O; exact ⟨E.wr W, F0.other W (Or.inr (slot_ne (Or.inl (hw _ (List.mem_of_getElem? (i := 18) rfl))) (Or.inl (hw _ (List.mem_of_getElem? (i := 20) rfl))) (by decide) rfl rfl)), F1.same W, F2.other W (Or.inr (slot_ne (Or.inr (hw _ (List.mem_of_getElem? (i := 22) rfl))) (Or.inl (hw _ (List.mem_of_getElem? (i := 20) rfl))) (by decide) rfl rfl)), F3.other W (Or.inr (slot_ne (Or.inr (hw _ (List.mem_of_getElem? (i := 24) rfl))) (Or.inl (hw _ (List.mem_of_getElem? (i := 20) rfl))) (by decide) rfl rfl)), F4.other W (Or.inr (slot_ne (Or.inl (hw _ (List.mem_of_getElem? (i := 26) rfl))) (Or.inl (hw _ (List.mem_of_getElem? (i := 20) rfl))) (by decide) rfl rfl)), F5.other W (Or.inr (slot_ne (Or.inl (hw _ (List.mem_of_getElem? (i := 28) rfl))) (Or.inl (hw _ (List.mem_of_getElem? (i := 20) rfl))) (by decide) rfl rfl))⟩
theorem Ob_S.put_content (hw : ∀ d ∈ tables_1, d.before a0 Z = true) (W : Wr h h' o (RoadKit.slotOf Z "com/example/yarrow/yarrow/data/StartTags" "content" "[B") w) (O : Ob_S Z h o v0 v1 v2 v3 v4 v5) : Ob_S Z h' o v0 v1 w v3 v4 v5 := by obtain ⟨E, F0, F1, F2, F3, F4, F5⟩ := O; exact ⟨E.wr W, F0.other W (Or.inr (slot_ne (Or.inl (hw _ (List.mem_of_getElem? (i := 18) rfl))) (Or.inr (hw _ (List.mem_of_getElem? (i := 22) rfl))) (by decide) rfl rfl)), F1.other W (Or.inr (slot_ne (Or.inl (hw _ (List.mem_of_getElem? (i := 20) rfl))) (Or.inr (hw _ (List.mem_of_getElem? (i := 22) rfl))) (by decide) rfl rfl)), F2.same W, F3.other W (Or.inr (slot_ne (Or.inr (hw _ (List.mem_of_getElem? (i := 24) rfl))) (Or.inr (hw _ (List.mem_of_getElem? (i := 22) rfl))) (by decide) rfl rfl)), F4.other W (Or.inr (slot_ne (Or.inl (hw _ (List.mem_of_getElem? (i := 26) rfl))) (Or.inr (hw _ (List.mem_of_getElem? (i := 22) rfl))) (by decide) rfl rfl)), F5.other W (Or.inr (slot_ne (Or.inl (hw _ (List.mem_of_getElem? (i := 28) rfl))) (Or.inr (hw _ (List.mem_of_getElem? (i := 22) rfl))) (by decide) rfl rfl))⟩
theorem Ob_S.put_start (hw : ∀ d ∈ tables_1, d.before a0 Z = true) (W : Wr h h' o (RoadKit.slotOf Z "com/example/yarrow/yarrow/data/StartTags" "start" "I") w) (O : Ob_S Z h o v0 v1 v2 v3 v4 v5) : Ob_S Z h' o v0 v1 v2 w v4 v5 := by obtain ⟨E, F0, F1, F2, F3, F4, F5⟩ := O; exact ⟨E.wr W, F0.other W (Or.inr (slot_ne (Or.inl (hw _ (List.mem_of_getElem? (i := 18) rfl))) (Or.inr (hw _ (List.mem_of_getElem? (i := 24) rfl))) (by decide) rfl rfl)), F1.other W (Or.inr (slot_ne (Or.inl (hw _ (List.mem_of_getElem? (i := 20) rfl))) (Or.inr (hw _ (List.mem_of_getElem? (i := 24) rfl))) (by decide) rfl rfl)), F2.other W (Or.inr (slot_ne (Or.inr (hw _ (List.mem_of_getElem? (i := 22) rfl))) (Or.inr (hw _ (List.mem_of_getElem? (i := 24) rfl))) (by decide) rfl rfl)), F3.same W, F4.other W (Or.inr (slot_ne (Or.inl (hw _ (List.mem_of_getElem? (i := 26) rfl))) (Or.inr (hw _ (List.mem_of_getElem? (i := 24) rfl))) (by decide) rfl rfl)), F5.other W (Or.inr (slot_ne (Or.inl (hw _ (List.mem_of_getElem? (i := 28) rfl))) (Or.inr (hw _ (List.mem_of_getElem? (i := 24) rfl))) (by decide) rfl rfl))⟩
theorem Ob_S.put_scan (hw : ∀ d ∈ tables_1, d.before a0 Z = true) (W : Wr h h' o (RoadKit.slotOf Z "com/example/yarrow/yarrow/data/StartTags" "scan" "I") w) (O : Ob_S Z h o v0 v1 v2 v3 v4 v5) : Ob_S Z h' o v0 v1 v2 v3 w v5 := by obtain ⟨E, F0, F1, F2, F3, F4, F5⟩ := O; exact ⟨E.wr W, F0.other W (Or.inr (slot_ne (Or.inl (hw _ (List.mem_of_getElem? (i := 18) rfl))) (Or.inl (hw _ (List.mem_of_getElem? (i := 26) rfl))) (by decide) rfl rfl)), F1.other W (Or.inr (slot_ne (Or.inl (hw _ (List.mem_of_getElem? (i := 20) rfl))) (Or.inl (hw _ (List.mem_of_getElem? (i := 26) rfl))) (by decide) rfl rfl)), F2.other W (Or.inr (slot_ne (Or.inr (hw _ (List.mem_of_getElem? (i := 22) rfl))) (Or.inl (hw _ (List.mem_of_getElem? (i := 26) rfl))) (by decide) rfl rfl)), F3.other W (Or.inr (slot_ne (Or.inr (hw _ (List.mem_of_getElem? (i := 24) rfl))) (Or.inl (hw _ (List.mem_of_getElem? (i := 26) rfl))) (by decide) rfl rfl)), F4.same W, F5.other W (Or.inr (slot_ne (Or.inl (hw _ (List.mem_of_getElem? (i := 28) rfl))) (Or.inl (hw _ (List.mem_of_getElem? (i := 26) rfl))) (by decide) rfl rfl))⟩
theorem Ob_S.put_counted (hw : ∀ d ∈ tables_1, d.before a0 Z = true) (W : Wr h h' o (RoadKit.slotOf Z "com/example/yarrow/yarrow/data/StartTags" "counted" "I") w) (O : Ob_S Z h o v0 v1 v2 v3 v4 v5) : Ob_S Z h' o v0 v1 v2 v3 v4 w := by obtain ⟨E, F0, F1, F2, F3, F4, F5⟩ := O; exact ⟨E.wr W, F0.other W (Or.inr (slot_ne (Or.inl (hw _ (List.mem_of_getElem? (i := 18) rfl))) (Or.inl (hw _ (List.mem_of_getElem? (i := 28) rfl))) (by decide) rfl rfl)), F1.other W (Or.inr (slot_ne (Or.inl (hw _ (List.mem_of_getElem? (i := 20) rfl))) (Or.inl (hw _ (List.mem_of_getElem? (i := 28) rfl))) (by decide) rfl rfl)), F2.other W (Or.inr (slot_ne (Or.inr (hw _ (List.mem_of_getElem? (i := 22) rfl))) (Or.inl (hw _ (List.mem_of_getElem? (i := 28) rfl))) (by decide) rfl rfl)), F3.other W (Or.inr (slot_ne (Or.inr (hw _ (List.mem_of_getElem? (i := 24) rfl))) (Or.inl (hw _ (List.mem_of_getElem? (i := 28) rfl))) (by decide) rfl rfl)), F4.other W (Or.inr (slot_ne (Or.inl (hw _ (List.mem_of_getElem? (i := 26) rfl))) (Or.inl (hw _ (List.mem_of_getElem? (i := 28) rfl))) (by decide) rfl rfl)), F5.same W⟩
end ObS
-- body 1
def f1_0 (x0 : Int32) : Option (Int32) := if (2 : Int32) < x0 then if (4 : Int32) < x0 then if (6 : Int32) < x0 then some (4 : Int32) else some (3 : Int32) else some (2 : Int32) else some (1 : Int32)
theorem d1_0 : decode method_5_code 0 = .ok (.iload_n 0, 1) := by decide +kernel
theorem d1_1 : decode method_5_code 1 = .ok (.iconst 2, 1) := by decide +kernel
theorem d1_2 : decode method_5_code 2 = .ok (.if_icmp .gt 5, 3) := by decide +kernel
theorem d1_5 : decode method_5_code 5 = .ok (.iconst 1, 1) := by decide +kernel
theorem d1_6 : decode method_5_code 6 = .ok (.ireturn, 1) := by decide +kernel
theorem d1_7 : decode method_5_code 7 = .ok (.iload_n 0, 1) := by decide +kernel
theorem d1_8 : decode method_5_code 8 = .ok (.iconst 4, 1) := by decide +kernel
theorem d1_9 : decode method_5_code 9 = .ok (.if_icmp .gt 5, 3) := by decide +kernel
theorem d1_12 : decode method_5_code 12 = .ok (.iconst 2, 1) := by decide +kernel
theorem d1_13 : decode method_5_code 13 = .ok (.ireturn, 1) := by decide +kernel
theorem d1_14 : decode method_5_code 14 = .ok (.iload_n 0, 1) := by decide +kernel
theorem d1_15 : decode method_5_code 15 = .ok (.bipush 6, 2) := by decide +kernel
theorem d1_17 : decode method_5_code 17 = .ok (.if_icmp .gt 5, 3) := by decide +kernel
theorem d1_20 : decode method_5_code 20 = .ok (.iconst 3, 1) := by decide +kernel
theorem d1_21 : decode method_5_code 21 = .ok (.ireturn, 1) := by decide +kernel
theorem d1_22 : decode method_5_code 22 = .ok (.iconst 4, 1) := by decide +kernel
theorem d1_23 : decode method_5_code 23 = .ok (.ireturn, 1) := by decide +kernel
abbrev Y1 : MethodName := ⟨"com/example/yarrow/yarrow/data/StartTagsColumnOfPinLaw", "len", "(I)I"⟩
def RM1 : Room := { frames := 0, cells := 0, slots := 0, locals := 0 }
theorem pd_1 : parseMethodDescriptor Y1.desc = some ⟨[.int], some .int⟩ := by decide +kernel
theorem pn_1 : plainName "com/example/yarrow/yarrow/data/StartTagsColumnOfPinLaw" = true := by first | (simp [plainName, overriddenIn]; done) | decide +kernel
theorem ef_1 (m : MethodId) (x0 : Int32) : entryFrame m #[.int x0] 1 = mkF m 0 #[.val (.int x0)] [] := by first | (simp [entryFrame, mkF, argsToLocals, Value.category]; done) | rfl
set_option maxRecDepth 65536 in
set_option maxHeartbeats 40000000 in
theorem rm1 (l : Launch) (Z : State) (a0 : Array Value) (hw : ∀ d ∈ tables_1, d.before a0 Z = true) (x0 : Int32)  (h0 : Heap) (r : Int32) (hf : f1_0 x0 = some r)  :
    MetFree l Y1 (head1 ([Jvm.Cond.code Y1 method_5_code 1 (some .int)]) RM1) (fun a U => a = #[.int x0] ∧ Z.Warmed39 U.vm ∧ U.heap = h0) (fun _ _ _ _ _ => True) (fun _ U o U' => ∃ v L, o = .returned v ∧ (PQ h0 (some (.int r))) v U'.heap L ∧ FrameEnd U o U' L RM1.cells RM1.slots) := by
  refine MetFree.of_bodySF (plainFor_of_name pn_1) hisR ?_
  intro p e s m args below meth c s₁ Bd hml0 hP hK
  obtain ⟨rfl, hZ, hh⟩ := hP
  have hx := Bd.exec
  have hby := Bd.bytes
  have hlk : meth.locks = false := BodyLoose.notSynchronized Bd
  have hret := Bd.returns
  have hml : c.maxLocals = 1 := hml0
  have hown : s.vm.findClass "com/example/yarrow/yarrow/data/StartTagsColumnOfPinLaw" = some m.cls := findClass_of_methodNamed Bd.named
  have X0 : Stand p l e RM1 s m #[.int x0] below meth c s₁ [] 0 0 := Stand.of_body Bd
  have e0 : s₁.heap = h0 := by rw [← hh, Bd.state]; rfl
  suffices G : Go p e below s RM1.cells RM1.slots (PQ h0 (some (.int r))) m s₁ 0 #[.val (.int x0)] [] by
    obtain ⟨s₂, o, h1, h2⟩ := G
    exact ⟨s₂, o, castTop (ef_1 m x0) h1, h2⟩
  have hf0 := hf
  clear hf
  have hf := hf0
  unfold f1_0 at hf
  refine Go.iloadN X0 hx hby (v := x0) d1_0 rfl rfl ?_
  refine Go.iconst X0 hx hby (v := (2 : Int32)) d1_1 rfl rfl ?_
  refine Go.icmp_gt X0 hx hby (pc' := 7) d1_2 (by decide) (by decide) rfl (fun hc4 => ?_) (fun hc4 => ?_)
  · replace hf := (if_pos hc4).symm.trans hf
    refine Go.iloadN X0 hx hby (v := x0) d1_7 rfl rfl ?_
    refine Go.iconst X0 hx hby (v := (4 : Int32)) d1_8 rfl rfl ?_
    refine Go.icmp_gt X0 hx hby (pc' := 14) d1_9 (by decide) (by decide) rfl (fun hc5 => ?_) (fun hc5 => ?_)
    · replace hf := (if_pos hc5).symm.trans hf
      refine Go.iloadN X0 hx hby (v := x0) d1_14 rfl rfl ?_
      refine Go.bipush X0 hx hby (v := (6 : Int32)) d1_15 rfl rfl ?_
      refine Go.icmp_gt X0 hx hby (pc' := 22) d1_17 (by decide) (by decide) rfl (fun hc6 => ?_) (fun hc6 => ?_)
      · replace hf := (if_pos hc6).symm.trans hf
        refine Go.iconst X0 hx hby (v := (4 : Int32)) d1_22 rfl rfl ?_
        exact Go.iretI X0 hx hby hlk hret d1_23 (by decide) (by decide) ⟨congrArg (fun z => some (Value.int z)) (Option.some.inj hf), rfl, e0⟩
      · replace hf := (if_neg hc6).symm.trans hf
        refine Go.iconst X0 hx hby (v := (3 : Int32)) d1_20 rfl rfl ?_
        exact Go.iretI X0 hx hby hlk hret d1_21 (by decide) (by decide) ⟨congrArg (fun z => some (Value.int z)) (Option.some.inj hf), rfl, e0⟩
    · replace hf := (if_neg hc5).symm.trans hf
      refine Go.iconst X0 hx hby (v := (2 : Int32)) d1_12 rfl rfl ?_
      exact Go.iretI X0 hx hby hlk hret d1_13 (by decide) (by decide) ⟨congrArg (fun z => some (Value.int z)) (Option.some.inj hf), rfl, e0⟩
  · replace hf := (if_neg hc4).symm.trans hf
    refine Go.iconst X0 hx hby (v := (1 : Int32)) d1_5 rfl rfl ?_
    exact Go.iretI X0 hx hby hlk hret d1_6 (by decide) (by decide) ⟨congrArg (fun z => some (Value.int z)) (Option.some.inj hf), rfl, e0⟩
-- body 2
def f2_0 (x1 : Int32) (x2 : Int32) (G_cc : List Int32) : Option (List Int32) := if x2 = 0 then if inA G_cc x1 then some (setA G_cc x1 (i2bF (127 : Int32))) else none else if x2 = (1 : Int32) then if inA G_cc x1 then some (setA G_cc x1 (i2bF (10 : Int32))) else none else if x2 = (2 : Int32) then if inA G_cc x1 then some (setA G_cc x1 (i2bF (13 : Int32))) else none else if x2 = (3 : Int32) then if inA G_cc x1 then if inA (setA G_cc x1 (i2bF (-62 : Int32))) (x1 + (1 : Int32)) then some (setA (setA G_cc x1 (i2bF (-62 : Int32))) (x1 + (1 : Int32)) (i2bF (-128 : Int32))) else none else none else if x2 = (4 : Int32) then if inA G_cc x1 then if inA (setA G_cc x1 (i2bF (-33 : Int32))) (x1 + (1 : Int32)) then some (setA (setA G_cc x1 (i2bF (-33 : Int32))) (x1 + (1 : Int32)) (i2bF (-65 : Int32))) else none else none else if x2 = (5 : Int32) then if inA G_cc x1 then if inA (setA G_cc x1 (i2bF (-32 : Int32))) (x1 + (1 : Int32)) then if inA (setA (setA G_cc x1 (i2bF (-32 : Int32))) (x1 + (1 : Int32)) (i2bF (-96 : Int32))) (x1 + (2 : Int32)) then some (setA (setA (setA G_cc x1 (i2bF (-32 : Int32))) (x1 + (1 : Int32)) (i2bF (-96 : Int32))) (x1 + (2 : Int32)) (i2bF (-128 : Int32))) else none else none else none else if x2 = (6 : Int32) then if inA G_cc x1 then if inA (setA G_cc x1 (i2bF (-17 : Int32))) (x1 + (1 : Int32)) then if inA (setA (setA G_cc x1 (i2bF (-17 : Int32))) (x1 + (1 : Int32)) (i2bF (-65 : Int32))) (x1 + (2 : Int32)) then some (setA (setA (setA G_cc x1 (i2bF (-17 : Int32))) (x1 + (1 : Int32)) (i2bF (-65 : Int32))) (x1 + (2 : Int32)) (i2bF (-67 : Int32))) else none else none else none else if inA G_cc x1 then if inA (setA G_cc x1 (i2bF (-16 : Int32))) (x1 + (1 : Int32)) then if inA (setA (setA G_cc x1 (i2bF (-16 : Int32))) (x1 + (1 : Int32)) (i2bF (-112 : Int32))) (x1 + (2 : Int32)) then if inA (setA (setA (setA G_cc x1 (i2bF (-16 : Int32))) (x1 + (1 : Int32)) (i2bF (-112 : Int32))) (x1 + (2 : Int32)) (i2bF (-128 : Int32))) (x1 + (3 : Int32)) then some (setA (setA (setA (setA G_cc x1 (i2bF (-16 : Int32))) (x1 + (1 : Int32)) (i2bF (-112 : Int32))) (x1 + (2 : Int32)) (i2bF (-128 : Int32))) (x1 + (3 : Int32)) (i2bF (-128 : Int32))) else none else none else none else none
theorem d2_0 : decode method_6_code 0 = .ok (.iload_n 2, 1) := by decide +kernel
theorem d2_1 : decode method_6_code 1 = .ok (.ifCond .ne 11, 3) := by decide +kernel
theorem d2_4 : decode method_6_code 4 = .ok (.aload_n 0, 1) := by decide +kernel
theorem d2_5 : decode method_6_code 5 = .ok (.iload_n 1, 1) := by decide +kernel
theorem d2_6 : decode method_6_code 6 = .ok (.bipush 127, 2) := by decide +kernel
theorem d2_8 : decode method_6_code 8 = .ok (.bastore, 1) := by decide +kernel
theorem d2_9 : decode method_6_code 9 = .ok (.goto 150, 3) := by decide +kernel
theorem d2_12 : decode method_6_code 12 = .ok (.iload_n 2, 1) := by decide +kernel
theorem d2_13 : decode method_6_code 13 = .ok (.iconst 1, 1) := by decide +kernel
theorem d2_14 : decode method_6_code 14 = .ok (.if_icmp .ne 11, 3) := by decide +kernel
theorem d2_17 : decode method_6_code 17 = .ok (.aload_n 0, 1) := by decide +kernel
theorem d2_18 : decode method_6_code 18 = .ok (.iload_n 1, 1) := by decide +kernel
theorem d2_19 : decode method_6_code 19 = .ok (.bipush 10, 2) := by decide +kernel
theorem d2_21 : decode method_6_code 21 = .ok (.bastore, 1) := by decide +kernel
theorem d2_22 : decode method_6_code 22 = .ok (.goto 137, 3) := by decide +kernel
theorem d2_25 : decode method_6_code 25 = .ok (.iload_n 2, 1) := by decide +kernel
theorem d2_26 : decode method_6_code 26 = .ok (.iconst 2, 1) := by decide +kernel
theorem d2_27 : decode method_6_code 27 = .ok (.if_icmp .ne 11, 3) := by decide +kernel
theorem d2_30 : decode method_6_code 30 = .ok (.aload_n 0, 1) := by decide +kernel
theorem d2_31 : decode method_6_code 31 = .ok (.iload_n 1, 1) := by decide +kernel
theorem d2_32 : decode method_6_code 32 = .ok (.bipush 13, 2) := by decide +kernel
theorem d2_34 : decode method_6_code 34 = .ok (.bastore, 1) := by decide +kernel
theorem d2_35 : decode method_6_code 35 = .ok (.goto 124, 3) := by decide +kernel
theorem d2_38 : decode method_6_code 38 = .ok (.iload_n 2, 1) := by decide +kernel
theorem d2_39 : decode method_6_code 39 = .ok (.iconst 3, 1) := by decide +kernel
theorem d2_40 : decode method_6_code 40 = .ok (.if_icmp .ne 18, 3) := by decide +kernel
theorem d2_43 : decode method_6_code 43 = .ok (.aload_n 0, 1) := by decide +kernel
theorem d2_44 : decode method_6_code 44 = .ok (.iload_n 1, 1) := by decide +kernel
theorem d2_45 : decode method_6_code 45 = .ok (.bipush (-62), 2) := by decide +kernel
theorem d2_47 : decode method_6_code 47 = .ok (.bastore, 1) := by decide +kernel
theorem d2_48 : decode method_6_code 48 = .ok (.aload_n 0, 1) := by decide +kernel
theorem d2_49 : decode method_6_code 49 = .ok (.iload_n 1, 1) := by decide +kernel
theorem d2_50 : decode method_6_code 50 = .ok (.iconst 1, 1) := by decide +kernel
theorem d2_51 : decode method_6_code 51 = .ok (.iadd, 1) := by decide +kernel
theorem d2_52 : decode method_6_code 52 = .ok (.bipush (-128), 2) := by decide +kernel
theorem d2_54 : decode method_6_code 54 = .ok (.bastore, 1) := by decide +kernel
theorem d2_55 : decode method_6_code 55 = .ok (.goto 104, 3) := by decide +kernel
theorem d2_58 : decode method_6_code 58 = .ok (.iload_n 2, 1) := by decide +kernel
theorem d2_59 : decode method_6_code 59 = .ok (.iconst 4, 1) := by decide +kernel
theorem d2_60 : decode method_6_code 60 = .ok (.if_icmp .ne 18, 3) := by decide +kernel
theorem d2_63 : decode method_6_code 63 = .ok (.aload_n 0, 1) := by decide +kernel
theorem d2_64 : decode method_6_code 64 = .ok (.iload_n 1, 1) := by decide +kernel
theorem d2_65 : decode method_6_code 65 = .ok (.bipush (-33), 2) := by decide +kernel
theorem d2_67 : decode method_6_code 67 = .ok (.bastore, 1) := by decide +kernel
theorem d2_68 : decode method_6_code 68 = .ok (.aload_n 0, 1) := by decide +kernel
theorem d2_69 : decode method_6_code 69 = .ok (.iload_n 1, 1) := by decide +kernel
theorem d2_70 : decode method_6_code 70 = .ok (.iconst 1, 1) := by decide +kernel
theorem d2_71 : decode method_6_code 71 = .ok (.iadd, 1) := by decide +kernel
theorem d2_72 : decode method_6_code 72 = .ok (.bipush (-65), 2) := by decide +kernel
theorem d2_74 : decode method_6_code 74 = .ok (.bastore, 1) := by decide +kernel
theorem d2_75 : decode method_6_code 75 = .ok (.goto 84, 3) := by decide +kernel
theorem d2_78 : decode method_6_code 78 = .ok (.iload_n 2, 1) := by decide +kernel
theorem d2_79 : decode method_6_code 79 = .ok (.iconst 5, 1) := by decide +kernel
theorem d2_80 : decode method_6_code 80 = .ok (.if_icmp .ne 25, 3) := by decide +kernel
theorem d2_83 : decode method_6_code 83 = .ok (.aload_n 0, 1) := by decide +kernel
theorem d2_84 : decode method_6_code 84 = .ok (.iload_n 1, 1) := by decide +kernel
theorem d2_85 : decode method_6_code 85 = .ok (.bipush (-32), 2) := by decide +kernel
theorem d2_87 : decode method_6_code 87 = .ok (.bastore, 1) := by decide +kernel
theorem d2_88 : decode method_6_code 88 = .ok (.aload_n 0, 1) := by decide +kernel
theorem d2_89 : decode method_6_code 89 = .ok (.iload_n 1, 1) := by decide +kernel
theorem d2_90 : decode method_6_code 90 = .ok (.iconst 1, 1) := by decide +kernel
theorem d2_91 : decode method_6_code 91 = .ok (.iadd, 1) := by decide +kernel
theorem d2_92 : decode method_6_code 92 = .ok (.bipush (-96), 2) := by decide +kernel
theorem d2_94 : decode method_6_code 94 = .ok (.bastore, 1) := by decide +kernel
theorem d2_95 : decode method_6_code 95 = .ok (.aload_n 0, 1) := by decide +kernel
theorem d2_96 : decode method_6_code 96 = .ok (.iload_n 1, 1) := by decide +kernel
theorem d2_97 : decode method_6_code 97 = .ok (.iconst 2, 1) := by decide +kernel
theorem d2_98 : decode method_6_code 98 = .ok (.iadd, 1) := by decide +kernel
theorem d2_99 : decode method_6_code 99 = .ok (.bipush (-128), 2) := by decide +kernel
theorem d2_101 : decode method_6_code 101 = .ok (.bastore, 1) := by decide +kernel
theorem d2_102 : decode method_6_code 102 = .ok (.goto 57, 3) := by decide +kernel
theorem d2_105 : decode method_6_code 105 = .ok (.iload_n 2, 1) := by decide +kernel
theorem d2_106 : decode method_6_code 106 = .ok (.bipush 6, 2) := by decide +kernel
theorem d2_108 : decode method_6_code 108 = .ok (.if_icmp .ne 25, 3) := by decide +kernel
theorem d2_111 : decode method_6_code 111 = .ok (.aload_n 0, 1) := by decide +kernel
theorem d2_112 : decode method_6_code 112 = .ok (.iload_n 1, 1) := by decide +kernel
theorem d2_113 : decode method_6_code 113 = .ok (.bipush (-17), 2) := by decide +kernel
theorem d2_115 : decode method_6_code 115 = .ok (.bastore, 1) := by decide +kernel
theorem d2_116 : decode method_6_code 116 = .ok (.aload_n 0, 1) := by decide +kernel
theorem d2_117 : decode method_6_code 117 = .ok (.iload_n 1, 1) := by decide +kernel
theorem d2_118 : decode method_6_code 118 = .ok (.iconst 1, 1) := by decide +kernel
theorem d2_119 : decode method_6_code 119 = .ok (.iadd, 1) := by decide +kernel
theorem d2_120 : decode method_6_code 120 = .ok (.bipush (-65), 2) := by decide +kernel
theorem d2_122 : decode method_6_code 122 = .ok (.bastore, 1) := by decide +kernel
theorem d2_123 : decode method_6_code 123 = .ok (.aload_n 0, 1) := by decide +kernel
theorem d2_124 : decode method_6_code 124 = .ok (.iload_n 1, 1) := by decide +kernel
theorem d2_125 : decode method_6_code 125 = .ok (.iconst 2, 1) := by decide +kernel
theorem d2_126 : decode method_6_code 126 = .ok (.iadd, 1) := by decide +kernel
theorem d2_127 : decode method_6_code 127 = .ok (.bipush (-67), 2) := by decide +kernel
theorem d2_129 : decode method_6_code 129 = .ok (.bastore, 1) := by decide +kernel
theorem d2_130 : decode method_6_code 130 = .ok (.goto 29, 3) := by decide +kernel
theorem d2_133 : decode method_6_code 133 = .ok (.aload_n 0, 1) := by decide +kernel
theorem d2_134 : decode method_6_code 134 = .ok (.iload_n 1, 1) := by decide +kernel
theorem d2_135 : decode method_6_code 135 = .ok (.bipush (-16), 2) := by decide +kernel
theorem d2_137 : decode method_6_code 137 = .ok (.bastore, 1) := by decide +kernel
theorem d2_138 : decode method_6_code 138 = .ok (.aload_n 0, 1) := by decide +kernel
theorem d2_139 : decode method_6_code 139 = .ok (.iload_n 1, 1) := by decide +kernel
theorem d2_140 : decode method_6_code 140 = .ok (.iconst 1, 1) := by decide +kernel
theorem d2_141 : decode method_6_code 141 = .ok (.iadd, 1) := by decide +kernel
theorem d2_142 : decode method_6_code 142 = .ok (.bipush (-112), 2) := by decide +kernel
theorem d2_144 : decode method_6_code 144 = .ok (.bastore, 1) := by decide +kernel
theorem d2_145 : decode method_6_code 145 = .ok (.aload_n 0, 1) := by decide +kernel
theorem d2_146 : decode method_6_code 146 = .ok (.iload_n 1, 1) := by decide +kernel
theorem d2_147 : decode method_6_code 147 = .ok (.iconst 2, 1) := by decide +kernel
theorem d2_148 : decode method_6_code 148 = .ok (.iadd, 1) := by decide +kernel
theorem d2_149 : decode method_6_code 149 = .ok (.bipush (-128), 2) := by decide +kernel
theorem d2_151 : decode method_6_code 151 = .ok (.bastore, 1) := by decide +kernel
theorem d2_152 : decode method_6_code 152 = .ok (.aload_n 0, 1) := by decide +kernel
theorem d2_153 : decode method_6_code 153 = .ok (.iload_n 1, 1) := by decide +kernel
theorem d2_154 : decode method_6_code 154 = .ok (.iconst 3, 1) := by decide +kernel
theorem d2_155 : decode method_6_code 155 = .ok (.iadd, 1) := by decide +kernel
theorem d2_156 : decode method_6_code 156 = .ok (.bipush (-128), 2) := by decide +kernel
theorem d2_158 : decode method_6_code 158 = .ok (.bastore, 1) := by decide +kernel
theorem d2_159 : decode method_6_code 159 = .ok (.return_, 1) := by decide +kernel
abbrev Y2 : MethodName := ⟨"com/example/yarrow/yarrow/data/StartTagsColumnOfPinLaw", "put", "([BII)V"⟩
def RM2 : Room := { frames := 0, cells := 0, slots := 0, locals := 0 }
theorem pd_2 : parseMethodDescriptor Y2.desc = some ⟨[(.array .byte), .int, .int], none⟩ := by decide +kernel
theorem pn_2 : plainName "com/example/yarrow/yarrow/data/StartTagsColumnOfPinLaw" = true := by first | (simp [plainName, overriddenIn]; done) | decide +kernel
theorem ef_2 (m : MethodId) (cc : Addr) (x1 : Int32) (x2 : Int32) : entryFrame m #[.ref cc, .int x1, .int x2] 3 = mkF m 0 #[.val (.ref cc), .val (.int x1), .val (.int x2)] [] := by first | (simp [entryFrame, mkF, argsToLocals, Value.category]; done) | rfl
def QB2 (Z : State) (h0 : Heap) (n0 : Nat) (cc : Addr) (r : List Int32) (v : Option Value) (h : Heap) (L : List Loc) : Prop := v = none ∧ Fr n0 L ∧ Keep h0 h [cc] ∧ AryI Z h cc .byte r
set_option maxRecDepth 65536 in
set_option maxHeartbeats 40000000 in
theorem rm2 (l : Launch) (Z : State) (a0 : Array Value) (hw : ∀ d ∈ tables_1, d.before a0 Z = true) (cc : Addr) (x1 : Int32) (x2 : Int32) (G_cc : List Int32) (h0 : Heap) (n0 : Nat) (Z0 : n0 ≤ h0.size) (r : List Int32) (hf : f2_0 x1 x2 G_cc = some r) (F_cc : AryI Z h0 cc .byte G_cc) (na_cc : n0 ≤ cc) :
    MetFree l Y2 (head1 ([Jvm.Cond.code Y2 method_6_code 3 (none)]) RM2) (fun a U => a = #[.ref cc, .int x1, .int x2] ∧ Z.Warmed39 U.vm ∧ U.heap = h0) (fun _ _ _ _ _ => True) (fun _ U o U' => ∃ v L, o = .returned v ∧ (QB2 Z h0 n0 cc r) v U'.heap L ∧ FrameEnd U o U' L RM2.cells RM2.slots) := by
  refine MetFree.of_bodySF (plainFor_of_name pn_2) hisR ?_
  intro p e s m args below meth c s₁ Bd hml0 hP hK
  obtain ⟨rfl, hZ, hh⟩ := hP
  have hx := Bd.exec
  have hby := Bd.bytes
  have hlk : meth.locks = false := BodyLoose.notSynchronized Bd
  have hret := Bd.returns
  have hml : c.maxLocals = 3 := hml0
  have hown : s.vm.findClass "com/example/yarrow/yarrow/data/StartTagsColumnOfPinLaw" = some m.cls := findClass_of_methodNamed Bd.named
  have X0 : Stand p l e RM2 s m #[.ref cc, .int x1, .int x2] below meth c s₁ [] 0 0 := Stand.of_body Bd
  have e0 : s₁.heap = h0 := by rw [← hh, Bd.state]; rfl
  have N0 := Fr.nil n0
  have K0 := Keep.refl h0 [cc]
  suffices G : Go p e below s RM2.cells RM2.slots (QB2 Z h0 n0 cc r) m s₁ 0 #[.val (.ref cc), .val (.int x1), .val (.int x2)] [] by
    obtain ⟨s₂, o, h1, h2⟩ := G
    exact ⟨s₂, o, castTop (ef_2 m cc x1 x2) h1, h2⟩
  have hf0 := hf
  clear hf
  have hf := hf0
  unfold f2_0 at hf
  refine Go.iloadN X0 hx hby (v := x2) d2_0 rfl rfl ?_
  refine Go.if_ne X0 hx hby (pc' := 12) d2_1 (by decide) (by decide) rfl (fun hc48 => ?_) (fun hc48 => ?_)
  · replace hf := (if_neg hc48).symm.trans hf
    refine Go.iloadN X0 hx hby (v := x2) d2_12 rfl rfl ?_
    refine Go.iconst X0 hx hby (v := (1 : Int32)) d2_13 rfl rfl ?_
    refine Go.icmp_ne X0 hx hby (pc' := 25) d2_14 (by decide) (by decide) rfl (fun hc49 => ?_) (fun hc49 => ?_)
    · replace hf := (if_neg hc49).symm.trans hf
      refine Go.iloadN X0 hx hby (v := x2) d2_25 rfl rfl ?_
      refine Go.iconst X0 hx hby (v := (2 : Int32)) d2_26 rfl rfl ?_
      refine Go.icmp_ne X0 hx hby (pc' := 38) d2_27 (by decide) (by decide) rfl (fun hc50 => ?_) (fun hc50 => ?_)
      · replace hf := (if_neg hc50).symm.trans hf
        refine Go.iloadN X0 hx hby (v := x2) d2_38 rfl rfl ?_
        refine Go.iconst X0 hx hby (v := (3 : Int32)) d2_39 rfl rfl ?_
        refine Go.icmp_ne X0 hx hby (pc' := 58) d2_40 (by decide) (by decide) rfl (fun hc51 => ?_) (fun hc51 => ?_)
        · replace hf := (if_neg hc51).symm.trans hf
          refine Go.iloadN X0 hx hby (v := x2) d2_58 rfl rfl ?_
          refine Go.iconst X0 hx hby (v := (4 : Int32)) d2_59 rfl rfl ?_
          refine Go.icmp_ne X0 hx hby (pc' := 78) d2_60 (by decide) (by decide) rfl (fun hc52 => ?_) (fun hc52 => ?_)
          · replace hf := (if_neg hc52).symm.trans hf
            refine Go.iloadN X0 hx hby (v := x2) d2_78 rfl rfl ?_
            refine Go.iconst X0 hx hby (v := (5 : Int32)) d2_79 rfl rfl ?_
            refine Go.icmp_ne X0 hx hby (pc' := 105) d2_80 (by decide) (by decide) rfl (fun hc53 => ?_) (fun hc53 => ?_)
            · replace hf := (if_neg hc53).symm.trans hf
              refine Go.iloadN X0 hx hby (v := x2) d2_105 rfl rfl ?_
              refine Go.bipush X0 hx hby (v := (6 : Int32)) d2_106 rfl rfl ?_
              refine Go.icmp_ne X0 hx hby (pc' := 133) d2_108 (by decide) (by decide) rfl (fun hc54 => ?_) (fun hc54 => ?_)
              · replace hf := (if_neg hc54).symm.trans hf
                refine Go.aloadN X0 hx hby (v := .ref cc) d2_133 rfl rfl rfl ?_
                refine Go.iloadN X0 hx hby (v := x1) d2_134 rfl rfl ?_
                refine Go.bipush X0 hx hby (v := (-16 : Int32)) d2_135 rfl rfl ?_
                rcases Decidable.em (inA G_cc x1) with hj55 | hj55
                case inr => exact absurd ((if_neg hj55).symm.trans hf) nofun
                replace hf := (if_pos hj55).symm.trans hf
                refine Go.bastore X0 hx hby hZ e0 F_cc hj55 d2_137 rfl (fun T56 h56 X56 e56 W56 A56 => ?_)
                have N56 := Fr.snoc X56 N0 na_cc
                have K56 := Keep.wr K0 W56 (Or.inl (List.mem_of_getElem? (i := 0) rfl))
                refine Go.aloadN X56 hx hby (v := .ref cc) d2_138 rfl rfl rfl ?_
                refine Go.iloadN X56 hx hby (v := x1) d2_139 rfl rfl ?_
                refine Go.iconst X56 hx hby (v := (1 : Int32)) d2_140 rfl rfl ?_
                refine Go.iadd X56 hx hby d2_141 rfl ?_
                refine Go.bipush X56 hx hby (v := (-112 : Int32)) d2_142 rfl rfl ?_
                rcases Decidable.em (inA (setA G_cc x1 (i2bF (-16 : Int32))) (x1 + (1 : Int32))) with hj57 | hj57
                case inr => exact absurd ((if_neg hj57).symm.trans hf) nofun
                replace hf := (if_pos hj57).symm.trans hf
                refine Go.bastore X56 hx hby hZ e56 A56 hj57 d2_144 rfl (fun T58 h58 X58 e58 W58 A58 => ?_)
                have N58 := Fr.snoc X58 N56 na_cc
                have K58 := Keep.wr K56 W58 (Or.inl (List.mem_of_getElem? (i := 0) rfl))
                refine Go.aloadN X58 hx hby (v := .ref cc) d2_145 rfl rfl rfl ?_
                refine Go.iloadN X58 hx hby (v := x1) d2_146 rfl rfl ?_
                refine Go.iconst X58 hx hby (v := (2 : Int32)) d2_147 rfl rfl ?_
                refine Go.iadd X58 hx hby d2_148 rfl ?_
                refine Go.bipush X58 hx hby (v := (-128 : Int32)) d2_149 rfl rfl ?_
                rcases Decidable.em (inA (setA (setA G_cc x1 (i2bF (-16 : Int32))) (x1 + (1 : Int32)) (i2bF (-112 : Int32))) (x1 + (2 : Int32))) with hj59 | hj59
                case inr => exact absurd ((if_neg hj59).symm.trans hf) nofun
                replace hf := (if_pos hj59).symm.trans hf
                refine Go.bastore X58 hx hby hZ e58 A58 hj59 d2_151 rfl (fun T60 h60 X60 e60 W60 A60 => ?_)
                have N60 := Fr.snoc X60 N58 na_cc
                have K60 := Keep.wr K58 W60 (Or.inl (List.mem_of_getElem? (i := 0) rfl))
                refine Go.aloadN X60 hx hby (v := .ref cc) d2_152 rfl rfl rfl ?_
                refine Go.iloadN X60 hx hby (v := x1) d2_153 rfl rfl ?_
                refine Go.iconst X60 hx hby (v := (3 : Int32)) d2_154 rfl rfl ?_
                refine Go.iadd X60 hx hby d2_155 rfl ?_
                refine Go.bipush X60 hx hby (v := (-128 : Int32)) d2_156 rfl rfl ?_
                rcases Decidable.em (inA (setA (setA (setA G_cc x1 (i2bF (-16 : Int32))) (x1 + (1 : Int32)) (i2bF (-112 : Int32))) (x1 + (2 : Int32)) (i2bF (-128 : Int32))) (x1 + (3 : Int32))) with hj61 | hj61
                case inr => exact absurd ((if_neg hj61).symm.trans hf) nofun
                replace hf := (if_pos hj61).symm.trans hf
                refine Go.bastore X60 hx hby hZ e60 A60 hj61 d2_158 rfl (fun T62 h62 X62 e62 W62 A62 => ?_)
                have N62 := Fr.snoc X62 N60 na_cc
                have K62 := Keep.wr K60 W62 (Or.inl (List.mem_of_getElem? (i := 0) rfl))
                exact Go.vret X62 hx hby hlk hret d2_159 (by decide) (by decide) (by obtain rfl := Option.some.inj hf; unfold QB2; exact ⟨rfl, N62, by rw [e62]; exact K62, by rw [e62]; exact A62⟩)
              · replace hf := (if_pos hc54).symm.trans hf
                refine Go.aloadN X0 hx hby (v := .ref cc) d2_111 rfl rfl rfl ?_
                refine Go.iloadN X0 hx hby (v := x1) d2_112 rfl rfl ?_
                refine Go.bipush X0 hx hby (v := (-17 : Int32)) d2_113 rfl rfl ?_
                rcases Decidable.em (inA G_cc x1) with hj63 | hj63
                case inr => exact absurd ((if_neg hj63).symm.trans hf) nofun
                replace hf := (if_pos hj63).symm.trans hf
                refine Go.bastore X0 hx hby hZ e0 F_cc hj63 d2_115 rfl (fun T64 h64 X64 e64 W64 A64 => ?_)
                have N64 := Fr.snoc X64 N0 na_cc
                have K64 := Keep.wr K0 W64 (Or.inl (List.mem_of_getElem? (i := 0) rfl))
                refine Go.aloadN X64 hx hby (v := .ref cc) d2_116 rfl rfl rfl ?_
                refine Go.iloadN X64 hx hby (v := x1) d2_117 rfl rfl ?_
                refine Go.iconst X64 hx hby (v := (1 : Int32)) d2_118 rfl rfl ?_
                refine Go.iadd X64 hx hby d2_119 rfl ?_
                refine Go.bipush X64 hx hby (v := (-65 : Int32)) d2_120 rfl rfl ?_
                rcases Decidable.em (inA (setA G_cc x1 (i2bF (-17 : Int32))) (x1 + (1 : Int32))) with hj65 | hj65
                case inr => exact absurd ((if_neg hj65).symm.trans hf) nofun
                replace hf := (if_pos hj65).symm.trans hf
                refine Go.bastore X64 hx hby hZ e64 A64 hj65 d2_122 rfl (fun T66 h66 X66 e66 W66 A66 => ?_)
                have N66 := Fr.snoc X66 N64 na_cc
                have K66 := Keep.wr K64 W66 (Or.inl (List.mem_of_getElem? (i := 0) rfl))
                refine Go.aloadN X66 hx hby (v := .ref cc) d2_123 rfl rfl rfl ?_
                refine Go.iloadN X66 hx hby (v := x1) d2_124 rfl rfl ?_
                refine Go.iconst X66 hx hby (v := (2 : Int32)) d2_125 rfl rfl ?_
                refine Go.iadd X66 hx hby d2_126 rfl ?_
                refine Go.bipush X66 hx hby (v := (-67 : Int32)) d2_127 rfl rfl ?_
                rcases Decidable.em (inA (setA (setA G_cc x1 (i2bF (-17 : Int32))) (x1 + (1 : Int32)) (i2bF (-65 : Int32))) (x1 + (2 : Int32))) with hj67 | hj67
                case inr => exact absurd ((if_neg hj67).symm.trans hf) nofun
                replace hf := (if_pos hj67).symm.trans hf
                refine Go.bastore X66 hx hby hZ e66 A66 hj67 d2_129 rfl (fun T68 h68 X68 e68 W68 A68 => ?_)
                have N68 := Fr.snoc X68 N66 na_cc
                have K68 := Keep.wr K66 W68 (Or.inl (List.mem_of_getElem? (i := 0) rfl))
                refine Go.goto X68 hx hby (pc' := 159) d2_130 (by decide) (by decide) ?_
                exact Go.vret X68 hx hby hlk hret d2_159 (by decide) (by decide) (by obtain rfl := Option.some.inj hf; unfold QB2; exact ⟨rfl, N68, by rw [e68]; exact K68, by rw [e68]; exact A68⟩)
            · replace hf := (if_pos hc53).symm.trans hf
              refine Go.aloadN X0 hx hby (v := .ref cc) d2_83 rfl rfl rfl ?_
              refine Go.iloadN X0 hx hby (v := x1) d2_84 rfl rfl ?_
              refine Go.bipush X0 hx hby (v := (-32 : Int32)) d2_85 rfl rfl ?_
              rcases Decidable.em (inA G_cc x1) with hj69 | hj69
              case inr => exact absurd ((if_neg hj69).symm.trans hf) nofun
              replace hf := (if_pos hj69).symm.trans hf
              refine Go.bastore X0 hx hby hZ e0 F_cc hj69 d2_87 rfl (fun T70 h70 X70 e70 W70 A70 => ?_)
              have N70 := Fr.snoc X70 N0 na_cc
              have K70 := Keep.wr K0 W70 (Or.inl (List.mem_of_getElem? (i := 0) rfl))
              refine Go.aloadN X70 hx hby (v := .ref cc) d2_88 rfl rfl rfl ?_
              refine Go.iloadN X70 hx hby (v := x1) d2_89 rfl rfl ?_
              refine Go.iconst X70 hx hby (v := (1 : Int32)) d2_90 rfl rfl ?_
              refine Go.iadd X70 hx hby d2_91 rfl ?_
              refine Go.bipush X70 hx hby (v := (-96 : Int32)) d2_92 rfl rfl ?_
              rcases Decidable.em (inA (setA G_cc x1 (i2bF (-32 : Int32))) (x1 + (1 : Int32))) with hj71 | hj71
              case inr => exact absurd ((if_neg hj71).symm.trans hf) nofun
              replace hf := (if_pos hj71).symm.trans hf
              refine Go.bastore X70 hx hby hZ e70 A70 hj71 d2_94 rfl (fun T72 h72 X72 e72 W72 A72 => ?_)
              have N72 := Fr.snoc X72 N70 na_cc
              have K72 := Keep.wr K70 W72 (Or.inl (List.mem_of_getElem? (i := 0) rfl))
              refine Go.aloadN X72 hx hby (v := .ref cc) d2_95 rfl rfl rfl ?_
              refine Go.iloadN X72 hx hby (v := x1) d2_96 rfl rfl ?_
              refine Go.iconst X72 hx hby (v := (2 : Int32)) d2_97 rfl rfl ?_
              refine Go.iadd X72 hx hby d2_98 rfl ?_
              refine Go.bipush X72 hx hby (v := (-128 : Int32)) d2_99 rfl rfl ?_
              rcases Decidable.em (inA (setA (setA G_cc x1 (i2bF (-32 : Int32))) (x1 + (1 : Int32)) (i2bF (-96 : Int32))) (x1 + (2 : Int32))) with hj73 | hj73
              case inr => exact absurd ((if_neg hj73).symm.trans hf) nofun
              replace hf := (if_pos hj73).symm.trans hf
              refine Go.bastore X72 hx hby hZ e72 A72 hj73 d2_101 rfl (fun T74 h74 X74 e74 W74 A74 => ?_)
              have N74 := Fr.snoc X74 N72 na_cc
              have K74 := Keep.wr K72 W74 (Or.inl (List.mem_of_getElem? (i := 0) rfl))
              refine Go.goto X74 hx hby (pc' := 159) d2_102 (by decide) (by decide) ?_
              exact Go.vret X74 hx hby hlk hret d2_159 (by decide) (by decide) (by obtain rfl := Option.some.inj hf; unfold QB2; exact ⟨rfl, N74, by rw [e74]; exact K74, by rw [e74]; exact A74⟩)
          · replace hf := (if_pos hc52).symm.trans hf
            refine Go.aloadN X0 hx hby (v := .ref cc) d2_63 rfl rfl rfl ?_
            refine Go.iloadN X0 hx hby (v := x1) d2_64 rfl rfl ?_
            refine Go.bipush X0 hx hby (v := (-33 : Int32)) d2_65 rfl rfl ?_
            rcases Decidable.em (inA G_cc x1) with hj75 | hj75
            case inr => exact absurd ((if_neg hj75).symm.trans hf) nofun
            replace hf := (if_pos hj75).symm.trans hf
            refine Go.bastore X0 hx hby hZ e0 F_cc hj75 d2_67 rfl (fun T76 h76 X76 e76 W76 A76 => ?_)
            have N76 := Fr.snoc X76 N0 na_cc
            have K76 := Keep.wr K0 W76 (Or.inl (List.mem_of_getElem? (i := 0) rfl))
            refine Go.aloadN X76 hx hby (v := .ref cc) d2_68 rfl rfl rfl ?_
            refine Go.iloadN X76 hx hby (v := x1) d2_69 rfl rfl ?_
            refine Go.iconst X76 hx hby (v := (1 : Int32)) d2_70 rfl rfl ?_
            refine Go.iadd X76 hx hby d2_71 rfl ?_
            refine Go.bipush X76 hx hby (v := (-65 : Int32)) d2_72 rfl rfl ?_
            rcases Decidable.em (inA (setA G_cc x1 (i2bF (-33 : Int32))) (x1 + (1 : Int32))) with hj77 | hj77
            case inr => exact absurd ((if_neg hj77).symm.trans hf) nofun
            replace hf := (if_pos hj77).symm.trans hf
            refine Go.bastore X76 hx hby hZ e76 A76 hj77 d2_74 rfl (fun T78 h78 X78 e78 W78 A78 => ?_)
            have N78 := Fr.snoc X78 N76 na_cc
            have K78 := Keep.wr K76 W78 (Or.inl (List.mem_of_getElem? (i := 0) rfl))
            refine Go.goto X78 hx hby (pc' := 159) d2_75 (by decide) (by decide) ?_
            exact Go.vret X78 hx hby hlk hret d2_159 (by decide) (by decide) (by obtain rfl := Option.some.inj hf; unfold QB2; exact ⟨rfl, N78, by rw [e78]; exact K78, by rw [e78]; exact A78⟩)
        · replace hf := (if_pos hc51).symm.trans hf
          refine Go.aloadN X0 hx hby (v := .ref cc) d2_43 rfl rfl rfl ?_
          refine Go.iloadN X0 hx hby (v := x1) d2_44 rfl rfl ?_
          refine Go.bipush X0 hx hby (v := (-62 : Int32)) d2_45 rfl rfl ?_
          rcases Decidable.em (inA G_cc x1) with hj79 | hj79
          case inr => exact absurd ((if_neg hj79).symm.trans hf) nofun
          replace hf := (if_pos hj79).symm.trans hf
          refine Go.bastore X0 hx hby hZ e0 F_cc hj79 d2_47 rfl (fun T80 h80 X80 e80 W80 A80 => ?_)
          have N80 := Fr.snoc X80 N0 na_cc
          have K80 := Keep.wr K0 W80 (Or.inl (List.mem_of_getElem? (i := 0) rfl))
          refine Go.aloadN X80 hx hby (v := .ref cc) d2_48 rfl rfl rfl ?_
          refine Go.iloadN X80 hx hby (v := x1) d2_49 rfl rfl ?_
          refine Go.iconst X80 hx hby (v := (1 : Int32)) d2_50 rfl rfl ?_
          refine Go.iadd X80 hx hby d2_51 rfl ?_
          refine Go.bipush X80 hx hby (v := (-128 : Int32)) d2_52 rfl rfl ?_
          rcases Decidable.em (inA (setA G_cc x1 (i2bF (-62 : Int32))) (x1 + (1 : Int32))) with hj81 | hj81
          case inr => exact absurd ((if_neg hj81).symm.trans hf) nofun
          replace hf := (if_pos hj81).symm.trans hf
          refine Go.bastore X80 hx hby hZ e80 A80 hj81 d2_54 rfl (fun T82 h82 X82 e82 W82 A82 => ?_)
          have N82 := Fr.snoc X82 N80 na_cc
          have K82 := Keep.wr K80 W82 (Or.inl (List.mem_of_getElem? (i := 0) rfl))
          refine Go.goto X82 hx hby (pc' := 159) d2_55 (by decide) (by decide) ?_
          exact Go.vret X82 hx hby hlk hret d2_159 (by decide) (by decide) (by obtain rfl := Option.some.inj hf; unfold QB2; exact ⟨rfl, N82, by rw [e82]; exact K82, by rw [e82]; exact A82⟩)
      · replace hf := (if_pos hc50).symm.trans hf
        refine Go.aloadN X0 hx hby (v := .ref cc) d2_30 rfl rfl rfl ?_
        refine Go.iloadN X0 hx hby (v := x1) d2_31 rfl rfl ?_
        refine Go.bipush X0 hx hby (v := (13 : Int32)) d2_32 rfl rfl ?_
        rcases Decidable.em (inA G_cc x1) with hj83 | hj83
        case inr => exact absurd ((if_neg hj83).symm.trans hf) nofun
        replace hf := (if_pos hj83).symm.trans hf
        refine Go.bastore X0 hx hby hZ e0 F_cc hj83 d2_34 rfl (fun T84 h84 X84 e84 W84 A84 => ?_)
        have N84 := Fr.snoc X84 N0 na_cc
        have K84 := Keep.wr K0 W84 (Or.inl (List.mem_of_getElem? (i := 0) rfl))
        refine Go.goto X84 hx hby (pc' := 159) d2_35 (by decide) (by decide) ?_
        exact Go.vret X84 hx hby hlk hret d2_159 (by decide) (by decide) (by obtain rfl := Option.some.inj hf; unfold QB2; exact ⟨rfl, N84, by rw [e84]; exact K84, by rw [e84]; exact A84⟩)
    · replace hf := (if_pos hc49).symm.trans hf
      refine Go.aloadN X0 hx hby (v := .ref cc) d2_17 rfl rfl rfl ?_
      refine Go.iloadN X0 hx hby (v := x1) d2_18 rfl rfl ?_
      refine Go.bipush X0 hx hby (v := (10 : Int32)) d2_19 rfl rfl ?_
      rcases Decidable.em (inA G_cc x1) with hj85 | hj85
      case inr => exact absurd ((if_neg hj85).symm.trans hf) nofun
      replace hf := (if_pos hj85).symm.trans hf
      refine Go.bastore X0 hx hby hZ e0 F_cc hj85 d2_21 rfl (fun T86 h86 X86 e86 W86 A86 => ?_)
      have N86 := Fr.snoc X86 N0 na_cc
      have K86 := Keep.wr K0 W86 (Or.inl (List.mem_of_getElem? (i := 0) rfl))
      refine Go.goto X86 hx hby (pc' := 159) d2_22 (by decide) (by decide) ?_
      exact Go.vret X86 hx hby hlk hret d2_159 (by decide) (by decide) (by obtain rfl := Option.some.inj hf; unfold QB2; exact ⟨rfl, N86, by rw [e86]; exact K86, by rw [e86]; exact A86⟩)
  · replace hf := (if_pos hc48).symm.trans hf
    refine Go.aloadN X0 hx hby (v := .ref cc) d2_4 rfl rfl rfl ?_
    refine Go.iloadN X0 hx hby (v := x1) d2_5 rfl rfl ?_
    refine Go.bipush X0 hx hby (v := (127 : Int32)) d2_6 rfl rfl ?_
    rcases Decidable.em (inA G_cc x1) with hj87 | hj87
    case inr => exact absurd ((if_neg hj87).symm.trans hf) nofun
    replace hf := (if_pos hj87).symm.trans hf
    refine Go.bastore X0 hx hby hZ e0 F_cc hj87 d2_8 rfl (fun T88 h88 X88 e88 W88 A88 => ?_)
    have N88 := Fr.snoc X88 N0 na_cc
    have K88 := Keep.wr K0 W88 (Or.inl (List.mem_of_getElem? (i := 0) rfl))
    refine Go.goto X88 hx hby (pc' := 159) d2_9 (by decide) (by decide) ?_
    exact Go.vret X88 hx hby hlk hret d2_159 (by decide) (by decide) (by obtain rfl := Option.some.inj hf; unfold QB2; exact ⟨rfl, N88, by rw [e88]; exact K88, by rw [e88]; exact A88⟩)
-- body 3
def f3_0 (x2 : Int32) (G_oo_line : Int32) (G_oo_column : Int32) (G_oo_start : Int32) (G_oo_scan : Int32) (G_oo_counted : Int32) (G_cc : List Int32) : Option (Int32 × Int32 × Int32 × Int32 × Int32) := some ((1 : Int32), (1 : Int32), x2, x2, x2)
theorem d3_0 : decode prog_31_method_1_code 0 = .ok (.aload_n 0, 1) := by decide +kernel
theorem d3_1 : decode prog_31_method_1_code 1 = .ok (.invokespecial 1, 3) := by decide +kernel
theorem d3_4 : decode prog_31_method_1_code 4 = .ok (.aload_n 0, 1) := by decide +kernel
theorem d3_5 : decode prog_31_method_1_code 5 = .ok (.iconst 1, 1) := by decide +kernel
theorem d3_6 : decode prog_31_method_1_code 6 = .ok (.putfield 7, 3) := by decide +kernel
theorem d3_9 : decode prog_31_method_1_code 9 = .ok (.aload_n 0, 1) := by decide +kernel
theorem d3_10 : decode prog_31_method_1_code 10 = .ok (.iconst 1, 1) := by decide +kernel
theorem d3_11 : decode prog_31_method_1_code 11 = .ok (.putfield 13, 3) := by decide +kernel
theorem d3_14 : decode prog_31_method_1_code 14 = .ok (.aload_n 0, 1) := by decide +kernel
theorem d3_15 : decode prog_31_method_1_code 15 = .ok (.aload_n 1, 1) := by decide +kernel
theorem d3_16 : decode prog_31_method_1_code 16 = .ok (.putfield 16, 3) := by decide +kernel
theorem d3_19 : decode prog_31_method_1_code 19 = .ok (.aload_n 0, 1) := by decide +kernel
theorem d3_20 : decode prog_31_method_1_code 20 = .ok (.iload_n 2, 1) := by decide +kernel
theorem d3_21 : decode prog_31_method_1_code 21 = .ok (.putfield 20, 3) := by decide +kernel
theorem d3_24 : decode prog_31_method_1_code 24 = .ok (.aload_n 0, 1) := by decide +kernel
theorem d3_25 : decode prog_31_method_1_code 25 = .ok (.iload_n 2, 1) := by decide +kernel
theorem d3_26 : decode prog_31_method_1_code 26 = .ok (.putfield 23, 3) := by decide +kernel
theorem d3_29 : decode prog_31_method_1_code 29 = .ok (.aload_n 0, 1) := by decide +kernel
theorem d3_30 : decode prog_31_method_1_code 30 = .ok (.iload_n 2, 1) := by decide +kernel
theorem d3_31 : decode prog_31_method_1_code 31 = .ok (.putfield 26, 3) := by decide +kernel
theorem d3_34 : decode prog_31_method_1_code 34 = .ok (.return_, 1) := by decide +kernel
abbrev Y3 : MethodName := ⟨"com/example/yarrow/yarrow/data/StartTags", "<init>", "([BI)V"⟩
def RM3 : Room := { frames := 1, cells := 0, slots := 0, locals := 12 }
theorem pd_3 : parseMethodDescriptor Y3.desc = some ⟨[(.array .byte), .int], none⟩ := by decide +kernel
theorem pn_3 : plainName "com/example/yarrow/yarrow/data/StartTags" = true := by first | (simp [plainName, overriddenIn]; done) | decide +kernel
theorem ef_3 (m : MethodId) (oo : Addr) (cc : Addr) (x2 : Int32) : entryFrame m #[.ref oo, .ref cc, .int x2] 3 = mkF m 0 #[.val (.ref oo), .val (.ref cc), .val (.int x2)] [] := by first | (simp [entryFrame, mkF, argsToLocals, Value.category]; done) | rfl
def QB3 (Z : State) (h0 : Heap) (n0 : Nat) (oo : Addr) (cc : Addr) (r : Int32 × Int32 × Int32 × Int32 × Int32) (v : Option Value) (h : Heap) (L : List Loc) : Prop := v = none ∧ Fr n0 L ∧ Keep h0 h [oo] ∧ Ob_S Z h oo (.int r.1) (.int r.2.1) (.ref cc) (.int r.2.2.1) (.int r.2.2.2.1) (.int r.2.2.2.2)
set_option maxRecDepth 65536 in
set_option maxHeartbeats 40000000 in
theorem rm3 (l : Launch) (Z : State) (a0 : Array Value) (hw : ∀ d ∈ tables_1, d.before a0 Z = true) (oo : Addr) (cc : Addr) (x2 : Int32) (G_oo_line : Int32) (G_oo_column : Int32) (G_oo_start : Int32) (G_oo_scan : Int32) (G_oo_counted : Int32) (G_cc : List Int32) (h0 : Heap) (n0 : Nat) (Z0 : n0 ≤ h0.size) (r : Int32 × Int32 × Int32 × Int32 × Int32) (hf : f3_0 x2 G_oo_line G_oo_column G_oo_start G_oo_scan G_oo_counted G_cc = some r) (F_oo : Ob_S Z h0 oo (.int G_oo_line) (.int G_oo_column) .null (.int G_oo_start) (.int G_oo_scan) (.int G_oo_counted)) (F_cc : AryI Z h0 cc .byte G_cc) (na_oo : n0 ≤ oo) (ne_oo_cc : oo ≠ cc) :
    MetFree l Y3 (head1 ([Jvm.Cond.code Y3 prog_31_method_1_code 3 (none)]) RM3) (fun a U => a = #[.ref oo, .ref cc, .int x2] ∧ Z.Warmed39 U.vm ∧ U.heap = h0) (fun _ _ _ _ _ => True) (fun _ U o U' => ∃ v L, o = .returned v ∧ (QB3 Z h0 n0 oo cc r) v U'.heap L ∧ FrameEnd U o U' L RM3.cells RM3.slots) := by
  refine MetFree.of_bodySF (plainFor_of_name pn_3) hisR ?_
  intro p e s m args below meth c s₁ Bd hml0 hP hK
  obtain ⟨rfl, hZ, hh⟩ := hP
  have hx := Bd.exec
  have hby := Bd.bytes
  have hlk : meth.locks = false := BodyLoose.notSynchronized Bd
  have hret := Bd.returns
  have hml : c.maxLocals = 3 := hml0
  have hown : s.vm.findClass "com/example/yarrow/yarrow/data/StartTags" = some m.cls := findClass_of_methodNamed Bd.named
  have hnm := (name_of_methodNamed Bd.named Bd.method).1
  have X0 : Stand p l e RM3 s m #[.ref oo, .ref cc, .int x2] below meth c s₁ [] 0 0 := Stand.of_body Bd
  have e0 : s₁.heap = h0 := by rw [← hh, Bd.state]; rfl
  have N0 := Fr.nil n0
  have K0 := Keep.refl h0 [oo]
  suffices G : Go p e below s RM3.cells RM3.slots (QB3 Z h0 n0 oo cc r) m s₁ 0 #[.val (.ref oo), .val (.ref cc), .val (.int x2)] [] by
    obtain ⟨s₂, o, h1, h2⟩ := G
    exact ⟨s₂, o, castTop (ef_3 m oo cc x2) h1, h2⟩
  have hf0 := hf
  clear hf
  have hf := hf0
  unfold f3_0 at hf
  refine Go.aloadN X0 hx hby (v := .ref oo) d3_0 rfl rfl rfl ?_
  refine Go.initO X0 hx hby hZ (by rw [hml]; rfl) hown (hw _ (List.mem_of_getElem? (i := 14) rfl)) (hw _ (List.mem_of_getElem? (i := 15) rfl)) (hw _ (List.mem_of_getElem? (i := 16) rfl)) e0 d3_1 rfl (by decide) (W := 0) (Nat.le_of_eq rfl) (by decide) (fun T96 X96 e96 => ?_)
  refine Go.aloadN X96 hx hby (v := .ref oo) d3_4 rfl rfl rfl ?_
  refine Go.iconst X96 hx hby (v := (1 : Int32)) d3_5 rfl rfl ?_
  refine Go.putF X96 hx hby hZ hown (hw _ (List.mem_of_getElem? (i := 17) rfl)) e96 (Ob_S.get_line F_oo) (Ob_S.exa F_oo) (Or.inl (hw _ (List.mem_of_getElem? (i := 18) rfl))) (hw _ (List.mem_of_getElem? (i := 9) rfl)) (ty := .int) (by decide) rfl rfl d3_6 rfl (fun T97 h97 X97 e97 W97 => ?_)
  have O97 := Ob_S.put_line hw W97 F_oo
  have F97_cc := AryI.other F_cc W97 (Ne.symm ne_oo_cc)
  have N97 := Fr.snoc X97 N0 na_oo
  have K97 := Keep.wr K0 W97 (Or.inl (List.mem_of_getElem? (i := 0) rfl))
  refine Go.aloadN X97 hx hby (v := .ref oo) d3_9 rfl rfl rfl ?_
  refine Go.iconst X97 hx hby (v := (1 : Int32)) d3_10 rfl rfl ?_
  refine Go.putF X97 hx hby hZ hown (hw _ (List.mem_of_getElem? (i := 19) rfl)) e97 (Ob_S.get_column O97) (Ob_S.exa O97) (Or.inl (hw _ (List.mem_of_getElem? (i := 20) rfl))) (hw _ (List.mem_of_getElem? (i := 9) rfl)) (ty := .int) (by decide) rfl rfl d3_11 rfl (fun T98 h98 X98 e98 W98 => ?_)
  have O98 := Ob_S.put_column hw W98 O97
  have F98_cc := AryI.other F97_cc W98 (Ne.symm ne_oo_cc)
  have N98 := Fr.snoc X98 N97 na_oo
  have K98 := Keep.wr K97 W98 (Or.inl (List.mem_of_getElem? (i := 0) rfl))
  refine Go.aloadN X98 hx hby (v := .ref oo) d3_14 rfl rfl rfl ?_
  refine Go.aloadN X98 hx hby (v := .ref cc) d3_15 rfl rfl rfl ?_
  refine Go.putF X98 hx hby hZ hown (hw _ (List.mem_of_getElem? (i := 21) rfl)) e98 (Ob_S.get_content O98) (Ob_S.exa O98) (Or.inr ⟨(hw _ (List.mem_of_getElem? (i := 22) rfl)), rfl, hnm⟩) (hw _ (List.mem_of_getElem? (i := 9) rfl)) (ty := (.array .byte)) (by decide) rfl rfl d3_16 rfl (fun T99 h99 X99 e99 W99 => ?_)
  have O99 := Ob_S.put_content hw W99 O98
  have F99_cc := AryI.other F98_cc W99 (Ne.symm ne_oo_cc)
  have N99 := Fr.snoc X99 N98 na_oo
  have K99 := Keep.wr K98 W99 (Or.inl (List.mem_of_getElem? (i := 0) rfl))
  refine Go.aloadN X99 hx hby (v := .ref oo) d3_19 rfl rfl rfl ?_
  refine Go.iloadN X99 hx hby (v := x2) d3_20 rfl rfl ?_
  refine Go.putF X99 hx hby hZ hown (hw _ (List.mem_of_getElem? (i := 23) rfl)) e99 (Ob_S.get_start O99) (Ob_S.exa O99) (Or.inr ⟨(hw _ (List.mem_of_getElem? (i := 24) rfl)), rfl, hnm⟩) (hw _ (List.mem_of_getElem? (i := 9) rfl)) (ty := .int) (by decide) rfl rfl d3_21 rfl (fun T100 h100 X100 e100 W100 => ?_)
  have O100 := Ob_S.put_start hw W100 O99
  have F100_cc := AryI.other F99_cc W100 (Ne.symm ne_oo_cc)
  have N100 := Fr.snoc X100 N99 na_oo
  have K100 := Keep.wr K99 W100 (Or.inl (List.mem_of_getElem? (i := 0) rfl))
  refine Go.aloadN X100 hx hby (v := .ref oo) d3_24 rfl rfl rfl ?_
  refine Go.iloadN X100 hx hby (v := x2) d3_25 rfl rfl ?_
  refine Go.putF X100 hx hby hZ hown (hw _ (List.mem_of_getElem? (i := 25) rfl)) e100 (Ob_S.get_scan O100) (Ob_S.exa O100) (Or.inl (hw _ (List.mem_of_getElem? (i := 26) rfl))) (hw _ (List.mem_of_getElem? (i := 9) rfl)) (ty := .int) (by decide) rfl rfl d3_26 rfl (fun T101 h101 X101 e101 W101 => ?_)
  have O101 := Ob_S.put_scan hw W101 O100
  have F101_cc := AryI.other F100_cc W101 (Ne.symm ne_oo_cc)
  have N101 := Fr.snoc X101 N100 na_oo
  have K101 := Keep.wr K100 W101 (Or.inl (List.mem_of_getElem? (i := 0) rfl))
  refine Go.aloadN X101 hx hby (v := .ref oo) d3_29 rfl rfl rfl ?_
  refine Go.iloadN X101 hx hby (v := x2) d3_30 rfl rfl ?_
  refine Go.putF X101 hx hby hZ hown (hw _ (List.mem_of_getElem? (i := 27) rfl)) e101 (Ob_S.get_counted O101) (Ob_S.exa O101) (Or.inl (hw _ (List.mem_of_getElem? (i := 28) rfl))) (hw _ (List.mem_of_getElem? (i := 9) rfl)) (ty := .int) (by decide) rfl rfl d3_31 rfl (fun T102 h102 X102 e102 W102 => ?_)
  have O102 := Ob_S.put_counted hw W102 O101
  have F102_cc := AryI.other F101_cc W102 (Ne.symm ne_oo_cc)
  have N102 := Fr.snoc X102 N101 na_oo
  have K102 := Keep.wr K101 W102 (Or.inl (List.mem_of_getElem? (i := 0) rfl))
  exact Go.vret X102 hx hby hlk hret d3_34 (by decide) (by decide) (by obtain rfl := Option.some.inj hf; unfold QB3; exact ⟨rfl, N102, by rw [e102]; exact K102, by rw [e102]; exact O102⟩)
-- body 5
def f5_163 (k : Int32 → Int32 → Int32 → Int32 → Int32 → Int32 → Int32 → Int32 → Int32 → List Int32 → Option (Int32)) (x2 : Int32) (x3 : Int32) (x4 : Int32) (x7 : Int32) (t0 : Int32) (t1 : Int32) (G_oo_line : Int32) (G_oo_column : Int32) (G_oo_start : Int32) (G_oo_scan : Int32) (G_oo_counted : Int32) (G_cc : List Int32) : Option (Int32) := k x2 (x3 + x7) (x4 + (1 : Int32)) (t1 + t0) G_oo_line G_oo_column G_oo_start G_oo_scan G_oo_counted G_cc
def f5_148 (k : Int32 → Int32 → Int32 → Int32 → Int32 → Int32 → Int32 → Int32 → Int32 → List Int32 → Option (Int32)) (x2 : Int32) (x3 : Int32) (x4 : Int32) (x5 : Int32) (t0 : Int32) (G_oo_line : Int32) (G_oo_column : Int32) (G_oo_start : Int32) (G_oo_scan : Int32) (G_oo_counted : Int32) (G_cc : List Int32) : Option (Int32) := if t0 = (4 : Int32) then f5_163 k x2 x3 x4 t0 (2 : Int32) x5 G_oo_line G_oo_column G_oo_start G_oo_scan G_oo_counted G_cc else f5_163 k x2 x3 x4 t0 (1 : Int32) x5 G_oo_line G_oo_column G_oo_start G_oo_scan G_oo_counted G_cc
def f5_84 : Nat → Int32 → Int32 → Int32 → Int32 → Int32 → Int32 → Int32 → Int32 → Int32 → List Int32 → Option (Int32)
  | 0, _, _, _, _, _, _, _, _, _, _ => none
  | n + 1, x2, x3, x4, x5, G_oo_line, G_oo_column, G_oo_start, G_oo_scan, G_oo_counted, G_cc => if x5 < x2 then if x3 < (lenA G_cc) then if inA G_cc x3 then if ((atA G_cc x3) &&& (255 : Int32)) < (128 : Int32) then f5_148 (fun y0 y1 y2 y3 y4 y5 y6 y7 y8 y9 => f5_84 n y0 y1 y2 y3 y4 y5 y6 y7 y8 y9) x2 x3 x4 x5 (1 : Int32) G_oo_line G_oo_column G_oo_start G_oo_scan G_oo_counted G_cc else if ((atA G_cc x3) &&& (255 : Int32)) < (224 : Int32) then f5_148 (fun y0 y1 y2 y3 y4 y5 y6 y7 y8 y9 => f5_84 n y0 y1 y2 y3 y4 y5 y6 y7 y8 y9) x2 x3 x4 x5 (2 : Int32) G_oo_line G_oo_column G_oo_start G_oo_scan G_oo_counted G_cc else if ((atA G_cc x3) &&& (255 : Int32)) < (240 : Int32) then f5_148 (fun y0 y1 y2 y3 y4 y5 y6 y7 y8 y9 => f5_84 n y0 y1 y2 y3 y4 y5 y6 y7 y8 y9) x2 x3 x4 x5 (3 : Int32) G_oo_line G_oo_column G_oo_start G_oo_scan G_oo_counted G_cc else f5_148 (fun y0 y1 y2 y3 y4 y5 y6 y7 y8 y9 => f5_84 n y0 y1 y2 y3 y4 y5 y6 y7 y8 y9) x2 x3 x4 x5 (4 : Int32) G_oo_line G_oo_column G_oo_start G_oo_scan G_oo_counted G_cc else none else some x4 else some x4
def f5_78 (x2 : Int32) (x3 : Int32) (G_oo_line : Int32) (G_oo_column : Int32) (G_oo_start : Int32) (G_oo_scan : Int32) (G_oo_counted : Int32) (G_cc : List Int32) : Option (Int32) := f5_84 64 x2 x3 (1 : Int32) (1 : Int32) G_oo_line G_oo_column G_oo_start G_oo_scan G_oo_counted G_cc
def f5_72 (k : Int32 → Int32 → Int32 → Int32 → Int32 → Int32 → Int32 → Int32 → Int32 → List Int32 → Option (Int32)) (x1 : Int32) (x2 : Int32) (x3 : Int32) (x4 : Int32) (G_oo_line : Int32) (G_oo_column : Int32) (G_oo_start : Int32) (G_oo_scan : Int32) (G_oo_counted : Int32) (G_cc : List Int32) : Option (Int32) := k x1 x2 (x3 + (1 : Int32)) x4 G_oo_line G_oo_column G_oo_start G_oo_scan G_oo_counted G_cc
def f5_69 (k : Int32 → Int32 → Int32 → Int32 → Int32 → Int32 → Int32 → Int32 → Int32 → List Int32 → Option (Int32)) (x1 : Int32) (x2 : Int32) (x3 : Int32) (x4 : Int32) (G_oo_line : Int32) (G_oo_column : Int32) (G_oo_start : Int32) (G_oo_scan : Int32) (G_oo_counted : Int32) (G_cc : List Int32) : Option (Int32) := f5_72 k x1 x2 x3 (x4 + (1 : Int32)) G_oo_line G_oo_column G_oo_start G_oo_scan G_oo_counted G_cc
def f5_8 : Nat → Int32 → Int32 → Int32 → Int32 → Int32 → Int32 → Int32 → Int32 → Int32 → List Int32 → Option (Int32)
  | 0, _, _, _, _, _, _, _, _, _, _ => none
  | n + 1, x1, x2, x3, x4, G_oo_line, G_oo_column, G_oo_start, G_oo_scan, G_oo_counted, G_cc => if x4 < x1 then if x3 < (lenA G_cc) then if inA G_cc x3 then if (atA G_cc x3) = (10 : Int32) then f5_69 (fun y0 y1 y2 y3 y4 y5 y6 y7 y8 y9 => f5_8 n y0 y1 y2 y3 y4 y5 y6 y7 y8 y9) x1 x2 x3 x4 G_oo_line G_oo_column G_oo_start G_oo_scan G_oo_counted G_cc else if inA G_cc x3 then if (atA G_cc x3) = (13 : Int32) then if (x3 + (1 : Int32)) = (lenA G_cc) then f5_69 (fun y0 y1 y2 y3 y4 y5 y6 y7 y8 y9 => f5_8 n y0 y1 y2 y3 y4 y5 y6 y7 y8 y9) x1 x2 x3 x4 G_oo_line G_oo_column G_oo_start G_oo_scan G_oo_counted G_cc else if inA G_cc (x3 + (1 : Int32)) then if (atA G_cc (x3 + (1 : Int32))) = (10 : Int32) then f5_72 (fun y0 y1 y2 y3 y4 y5 y6 y7 y8 y9 => f5_8 n y0 y1 y2 y3 y4 y5 y6 y7 y8 y9) x1 x2 x3 x4 G_oo_line G_oo_column G_oo_start G_oo_scan G_oo_counted G_cc else f5_69 (fun y0 y1 y2 y3 y4 y5 y6 y7 y8 y9 => f5_8 n y0 y1 y2 y3 y4 y5 y6 y7 y8 y9) x1 x2 x3 x4 G_oo_line G_oo_column G_oo_start G_oo_scan G_oo_counted G_cc else none else f5_72 (fun y0 y1 y2 y3 y4 y5 y6 y7 y8 y9 => f5_8 n y0 y1 y2 y3 y4 y5 y6 y7 y8 y9) x1 x2 x3 x4 G_oo_line G_oo_column G_oo_start G_oo_scan G_oo_counted G_cc else none else none else f5_78 x2 x3 G_oo_line G_oo_column G_oo_start G_oo_scan G_oo_counted G_cc else f5_78 x2 x3 G_oo_line G_oo_column G_oo_start G_oo_scan G_oo_counted G_cc
def f5_0 (x1 : Int32) (x2 : Int32) (G_oo_line : Int32) (G_oo_column : Int32) (G_oo_start : Int32) (G_oo_scan : Int32) (G_oo_counted : Int32) (G_cc : List Int32) : Option (Int32) := f5_8 64 x1 x2 G_oo_start (1 : Int32) G_oo_line G_oo_column G_oo_start G_oo_scan G_oo_counted G_cc
theorem d5_0 : decode prog_31_method_5_code 0 = .ok (.aload_n 0, 1) := by decide +kernel
theorem d5_1 : decode prog_31_method_5_code 1 = .ok (.getfield 20, 3) := by decide +kernel
theorem d5_4 : decode prog_31_method_5_code 4 = .ok (.istore_n 3, 1) := by decide +kernel
theorem d5_5 : decode prog_31_method_5_code 5 = .ok (.iconst 1, 1) := by decide +kernel
theorem d5_6 : decode prog_31_method_5_code 6 = .ok (.istore 4, 2) := by decide +kernel
theorem d5_8 : decode prog_31_method_5_code 8 = .ok (.iload 4, 2) := by decide +kernel
theorem d5_10 : decode prog_31_method_5_code 10 = .ok (.iload_n 1, 1) := by decide +kernel
theorem d5_11 : decode prog_31_method_5_code 11 = .ok (.if_icmp .ge 67, 3) := by decide +kernel
theorem d5_14 : decode prog_31_method_5_code 14 = .ok (.iload_n 3, 1) := by decide +kernel
theorem d5_15 : decode prog_31_method_5_code 15 = .ok (.aload_n 0, 1) := by decide +kernel
theorem d5_16 : decode prog_31_method_5_code 16 = .ok (.getfield 16, 3) := by decide +kernel
theorem d5_19 : decode prog_31_method_5_code 19 = .ok (.arraylength, 1) := by decide +kernel
theorem d5_20 : decode prog_31_method_5_code 20 = .ok (.if_icmp .ge 58, 3) := by decide +kernel
theorem d5_23 : decode prog_31_method_5_code 23 = .ok (.aload_n 0, 1) := by decide +kernel
theorem d5_24 : decode prog_31_method_5_code 24 = .ok (.getfield 16, 3) := by decide +kernel
theorem d5_27 : decode prog_31_method_5_code 27 = .ok (.iload_n 3, 1) := by decide +kernel
theorem d5_28 : decode prog_31_method_5_code 28 = .ok (.baload, 1) := by decide +kernel
theorem d5_29 : decode prog_31_method_5_code 29 = .ok (.bipush 10, 2) := by decide +kernel
theorem d5_31 : decode prog_31_method_5_code 31 = .ok (.if_icmp .eq 38, 3) := by decide +kernel
theorem d5_34 : decode prog_31_method_5_code 34 = .ok (.aload_n 0, 1) := by decide +kernel
theorem d5_35 : decode prog_31_method_5_code 35 = .ok (.getfield 16, 3) := by decide +kernel
theorem d5_38 : decode prog_31_method_5_code 38 = .ok (.iload_n 3, 1) := by decide +kernel
theorem d5_39 : decode prog_31_method_5_code 39 = .ok (.baload, 1) := by decide +kernel
theorem d5_40 : decode prog_31_method_5_code 40 = .ok (.bipush 13, 2) := by decide +kernel
theorem d5_42 : decode prog_31_method_5_code 42 = .ok (.if_icmp .ne 30, 3) := by decide +kernel
theorem d5_45 : decode prog_31_method_5_code 45 = .ok (.iload_n 3, 1) := by decide +kernel
theorem d5_46 : decode prog_31_method_5_code 46 = .ok (.iconst 1, 1) := by decide +kernel
theorem d5_47 : decode prog_31_method_5_code 47 = .ok (.iadd, 1) := by decide +kernel
theorem d5_48 : decode prog_31_method_5_code 48 = .ok (.aload_n 0, 1) := by decide +kernel
theorem d5_49 : decode prog_31_method_5_code 49 = .ok (.getfield 16, 3) := by decide +kernel
theorem d5_52 : decode prog_31_method_5_code 52 = .ok (.arraylength, 1) := by decide +kernel
theorem d5_53 : decode prog_31_method_5_code 53 = .ok (.if_icmp .eq 16, 3) := by decide +kernel
theorem d5_56 : decode prog_31_method_5_code 56 = .ok (.aload_n 0, 1) := by decide +kernel
theorem d5_57 : decode prog_31_method_5_code 57 = .ok (.getfield 16, 3) := by decide +kernel
theorem d5_60 : decode prog_31_method_5_code 60 = .ok (.iload_n 3, 1) := by decide +kernel
theorem d5_61 : decode prog_31_method_5_code 61 = .ok (.iconst 1, 1) := by decide +kernel
theorem d5_62 : decode prog_31_method_5_code 62 = .ok (.iadd, 1) := by decide +kernel
theorem d5_63 : decode prog_31_method_5_code 63 = .ok (.baload, 1) := by decide +kernel
theorem d5_64 : decode prog_31_method_5_code 64 = .ok (.bipush 10, 2) := by decide +kernel
theorem d5_66 : decode prog_31_method_5_code 66 = .ok (.if_icmp .eq 6, 3) := by decide +kernel
theorem d5_69 : decode prog_31_method_5_code 69 = .ok (.iinc 4 1, 3) := by decide +kernel
theorem d5_72 : decode prog_31_method_5_code 72 = .ok (.iinc 3 1, 3) := by decide +kernel
theorem d5_75 : decode prog_31_method_5_code 75 = .ok (.goto (-67), 3) := by decide +kernel
theorem d5_78 : decode prog_31_method_5_code 78 = .ok (.iconst 1, 1) := by decide +kernel
theorem d5_79 : decode prog_31_method_5_code 79 = .ok (.istore 4, 2) := by decide +kernel
theorem d5_81 : decode prog_31_method_5_code 81 = .ok (.iconst 1, 1) := by decide +kernel
theorem d5_82 : decode prog_31_method_5_code 82 = .ok (.istore 5, 2) := by decide +kernel
theorem d5_84 : decode prog_31_method_5_code 84 = .ok (.iload 5, 2) := by decide +kernel
theorem d5_86 : decode prog_31_method_5_code 86 = .ok (.iload_n 2, 1) := by decide +kernel
theorem d5_87 : decode prog_31_method_5_code 87 = .ok (.if_icmp .ge 90, 3) := by decide +kernel
theorem d5_90 : decode prog_31_method_5_code 90 = .ok (.iload_n 3, 1) := by decide +kernel
theorem d5_91 : decode prog_31_method_5_code 91 = .ok (.aload_n 0, 1) := by decide +kernel
theorem d5_92 : decode prog_31_method_5_code 92 = .ok (.getfield 16, 3) := by decide +kernel
theorem d5_95 : decode prog_31_method_5_code 95 = .ok (.arraylength, 1) := by decide +kernel
theorem d5_96 : decode prog_31_method_5_code 96 = .ok (.if_icmp .ge 81, 3) := by decide +kernel
theorem d5_99 : decode prog_31_method_5_code 99 = .ok (.aload_n 0, 1) := by decide +kernel
theorem d5_100 : decode prog_31_method_5_code 100 = .ok (.getfield 16, 3) := by decide +kernel
theorem d5_103 : decode prog_31_method_5_code 103 = .ok (.iload_n 3, 1) := by decide +kernel
theorem d5_104 : decode prog_31_method_5_code 104 = .ok (.baload, 1) := by decide +kernel
theorem d5_105 : decode prog_31_method_5_code 105 = .ok (.sipush 255, 3) := by decide +kernel
theorem d5_108 : decode prog_31_method_5_code 108 = .ok (.iand, 1) := by decide +kernel
theorem d5_109 : decode prog_31_method_5_code 109 = .ok (.istore 6, 2) := by decide +kernel
theorem d5_111 : decode prog_31_method_5_code 111 = .ok (.iload 6, 2) := by decide +kernel
theorem d5_113 : decode prog_31_method_5_code 113 = .ok (.sipush 128, 3) := by decide +kernel
theorem d5_116 : decode prog_31_method_5_code 116 = .ok (.if_icmp .ge 7, 3) := by decide +kernel
theorem d5_119 : decode prog_31_method_5_code 119 = .ok (.iconst 1, 1) := by decide +kernel
theorem d5_120 : decode prog_31_method_5_code 120 = .ok (.goto 28, 3) := by decide +kernel
theorem d5_123 : decode prog_31_method_5_code 123 = .ok (.iload 6, 2) := by decide +kernel
theorem d5_125 : decode prog_31_method_5_code 125 = .ok (.sipush 224, 3) := by decide +kernel
theorem d5_128 : decode prog_31_method_5_code 128 = .ok (.if_icmp .ge 7, 3) := by decide +kernel
theorem d5_131 : decode prog_31_method_5_code 131 = .ok (.iconst 2, 1) := by decide +kernel
theorem d5_132 : decode prog_31_method_5_code 132 = .ok (.goto 16, 3) := by decide +kernel
theorem d5_135 : decode prog_31_method_5_code 135 = .ok (.iload 6, 2) := by decide +kernel
theorem d5_137 : decode prog_31_method_5_code 137 = .ok (.sipush 240, 3) := by decide +kernel
theorem d5_140 : decode prog_31_method_5_code 140 = .ok (.if_icmp .ge 7, 3) := by decide +kernel
theorem d5_143 : decode prog_31_method_5_code 143 = .ok (.iconst 3, 1) := by decide +kernel
theorem d5_144 : decode prog_31_method_5_code 144 = .ok (.goto 4, 3) := by decide +kernel
theorem d5_147 : decode prog_31_method_5_code 147 = .ok (.iconst 4, 1) := by decide +kernel
theorem d5_148 : decode prog_31_method_5_code 148 = .ok (.istore 7, 2) := by decide +kernel
theorem d5_150 : decode prog_31_method_5_code 150 = .ok (.iload 5, 2) := by decide +kernel
theorem d5_152 : decode prog_31_method_5_code 152 = .ok (.iload 7, 2) := by decide +kernel
theorem d5_154 : decode prog_31_method_5_code 154 = .ok (.iconst 4, 1) := by decide +kernel
theorem d5_155 : decode prog_31_method_5_code 155 = .ok (.if_icmp .ne 7, 3) := by decide +kernel
theorem d5_158 : decode prog_31_method_5_code 158 = .ok (.iconst 2, 1) := by decide +kernel
theorem d5_159 : decode prog_31_method_5_code 159 = .ok (.goto 4, 3) := by decide +kernel
theorem d5_162 : decode prog_31_method_5_code 162 = .ok (.iconst 1, 1) := by decide +kernel
theorem d5_163 : decode prog_31_method_5_code 163 = .ok (.iadd, 1) := by decide +kernel
theorem d5_164 : decode prog_31_method_5_code 164 = .ok (.istore 5, 2) := by decide +kernel
theorem d5_166 : decode prog_31_method_5_code 166 = .ok (.iload_n 3, 1) := by decide +kernel
theorem d5_167 : decode prog_31_method_5_code 167 = .ok (.iload 7, 2) := by decide +kernel
theorem d5_169 : decode prog_31_method_5_code 169 = .ok (.iadd, 1) := by decide +kernel
theorem d5_170 : decode prog_31_method_5_code 170 = .ok (.istore_n 3, 1) := by decide +kernel
theorem d5_171 : decode prog_31_method_5_code 171 = .ok (.iinc 4 1, 3) := by decide +kernel
theorem d5_174 : decode prog_31_method_5_code 174 = .ok (.goto (-90), 3) := by decide +kernel
theorem d5_177 : decode prog_31_method_5_code 177 = .ok (.iload 4, 2) := by decide +kernel
theorem d5_179 : decode prog_31_method_5_code 179 = .ok (.ireturn, 1) := by decide +kernel
abbrev Y5 : MethodName := ⟨"com/example/yarrow/yarrow/data/StartTags", "columnOf", "(II)I"⟩
def RM5 : Room := { frames := 0, cells := 0, slots := 0, locals := 0 }
theorem pd_5 : parseMethodDescriptor Y5.desc = some ⟨[.int, .int], some .int⟩ := by decide +kernel
theorem pn_5 : plainName "com/example/yarrow/yarrow/data/StartTags" = true := by first | (simp [plainName, overriddenIn]; done) | decide +kernel
theorem ef_5 (m : MethodId) (oo : Addr) (x1 : Int32) (x2 : Int32) : entryFrame m #[.ref oo, .int x1, .int x2] 8 = mkF m 0 #[.val (.ref oo), .val (.int x1), .val (.int x2), .unset, .unset, .unset, .unset, .unset] [] := by first | (simp [entryFrame, mkF, argsToLocals, Value.category]; done) | rfl
set_option maxRecDepth 65536 in
set_option maxHeartbeats 40000000 in
theorem rm5 (l : Launch) (Z : State) (a0 : Array Value) (hw : ∀ d ∈ tables_1, d.before a0 Z = true) (oo : Addr) (x1 : Int32) (x2 : Int32) (cc : Addr) (G_oo_line : Int32) (G_oo_column : Int32) (G_oo_start : Int32) (G_oo_scan : Int32) (G_oo_counted : Int32) (G_cc : List Int32) (h0 : Heap) (r : Int32) (hf : f5_0 x1 x2 G_oo_line G_oo_column G_oo_start G_oo_scan G_oo_counted G_cc = some r) (F_oo : Ob_S Z h0 oo (.int G_oo_line) (.int G_oo_column) (.ref cc) (.int G_oo_start) (.int G_oo_scan) (.int G_oo_counted)) (F_cc : AryI Z h0 cc .byte G_cc) :
    MetFree l Y5 (head1 ([Jvm.Cond.code Y5 prog_31_method_5_code 8 (some .int)]) RM5) (fun a U => a = #[.ref oo, .int x1, .int x2] ∧ Z.Warmed39 U.vm ∧ U.heap = h0) (fun _ _ _ _ _ => True) (fun _ U o U' => ∃ v L, o = .returned v ∧ (PQ h0 (some (.int r))) v U'.heap L ∧ FrameEnd U o U' L RM5.cells RM5.slots) := by
  refine MetFree.of_bodySF (plainFor_of_name pn_5) hisR ?_
  intro p e s m args below meth c s₁ Bd hml0 hP hK
  obtain ⟨rfl, hZ, hh⟩ := hP
  have hx := Bd.exec
  have hby := Bd.bytes
  have hlk : meth.locks = false := BodyLoose.notSynchronized Bd
  have hret := Bd.returns
  have hml : c.maxLocals = 8 := hml0
  have hown : s.vm.findClass "com/example/yarrow/yarrow/data/StartTags" = some m.cls := findClass_of_methodNamed Bd.named
  have X0 : Stand p l e RM5 s m #[.ref oo, .int x1, .int x2] below meth c s₁ [] 0 0 := Stand.of_body Bd
  have e0 : s₁.heap = h0 := by rw [← hh, Bd.state]; rfl
  suffices G : Go p e below s RM5.cells RM5.slots (PQ h0 (some (.int r))) m s₁ 0 #[.val (.ref oo), .val (.int x1), .val (.int x2), .unset, .unset, .unset, .unset, .unset] [] by
    obtain ⟨s₂, o, h1, h2⟩ := G
    exact ⟨s₂, o, castTop (ef_5 m oo x1 x2) h1, h2⟩
  have hf0 := hf
  clear hf
  have B163 : ∀ k : Int32 → Int32 → Int32 → Int32 → Int32 → Int32 → Int32 → Int32 → Int32 → List Int32 → Option (Int32), (∀ (T : State), Stand p l e RM5 s m #[.ref oo, .int x1, .int x2] below meth c T [] 0 0 → T.heap = h0 → ∀ (x1 : Int32) (x2 : Int32) (x3 : Int32) (x4 : Int32) (x5 : Int32) (u6 : Slot) (hu6 : u6 = .unset ∨ ∃ w, u6 = .val w ∧ w.category = 1) (u7 : Slot) (hu7 : u7 = .unset ∨ ∃ w, u7 = .val w ∧ w.category = 1), k x2 x3 x4 x5 G_oo_line G_oo_column G_oo_start G_oo_scan G_oo_counted G_cc = some r → Go p e below s RM5.cells RM5.slots (PQ h0 (some (.int r))) m T 84 #[.val (.ref oo), .val (.int x1), .val (.int x2), .val (.int x3), .val (.int x4), .val (.int x5), u6, u7] []) → (∀ (T : State), Stand p l e RM5 s m #[.ref oo, .int x1, .int x2] below meth c T [] 0 0 → T.heap = h0 → ∀ (x1 : Int32) (x2 : Int32) (x3 : Int32) (x4 : Int32) (x5 : Int32) (x6 : Int32) (x7 : Int32) (t0 : Int32) (t1 : Int32), f5_163 k x2 x3 x4 x7 t0 t1 G_oo_line G_oo_column G_oo_start G_oo_scan G_oo_counted G_cc = some r → Go p e below s RM5.cells RM5.slots (PQ h0 (some (.int r))) m T 163 #[.val (.ref oo), .val (.int x1), .val (.int x2), .val (.int x3), .val (.int x4), .val (.int x5), .val (.int x6), .val (.int x7)] [.int t0, .int t1]) := by
    intro k hk T127 X127 e127 x1 x2 x3 x4 x5 x6 x7 t0 t1 hf
    unfold f5_163 at hf
    refine Go.iadd X127 hx hby d5_163 rfl ?_
    refine Go.istore X127 hx hby (Ls' := #[.val (.ref oo), .val (.int x1), .val (.int x2), .val (.int x3), .val (.int x4), .val (.int (t1 + t0)), .val (.int x6), .val (.int x7)]) d5_164 rfl rfl ?_
    refine Go.iloadN X127 hx hby (v := x3) d5_166 rfl rfl ?_
    refine Go.iload X127 hx hby (v := x7) d5_167 rfl rfl ?_
    refine Go.iadd X127 hx hby d5_169 rfl ?_
    refine Go.istoreN X127 hx hby (Ls' := #[.val (.ref oo), .val (.int x1), .val (.int x2), .val (.int (x3 + x7)), .val (.int x4), .val (.int (t1 + t0)), .val (.int x6), .val (.int x7)]) d5_170 rfl rfl ?_
    refine Go.iinc X127 hx hby (x := x4) (v := (1 : Int32)) (Ls' := #[.val (.ref oo), .val (.int x1), .val (.int x2), .val (.int (x3 + x7)), .val (.int (x4 + (1 : Int32))), .val (.int (t1 + t0)), .val (.int x6), .val (.int x7)]) d5_171 rfl rfl rfl rfl ?_
    refine Go.goto X127 hx hby (pc' := 84) d5_174 (by decide) (by decide) ?_
    exact hk T127 X127 e127 x1 x2 (x3 + x7) (x4 + (1 : Int32)) (t1 + t0) (.val (.int x6)) (Or.inr ⟨_, rfl, rfl⟩) (.val (.int x7)) (Or.inr ⟨_, rfl, rfl⟩) hf
  have B148 : ∀ k : Int32 → Int32 → Int32 → Int32 → Int32 → Int32 → Int32 → Int32 → Int32 → List Int32 → Option (Int32), (∀ (T : State), Stand p l e RM5 s m #[.ref oo, .int x1, .int x2] below meth c T [] 0 0 → T.heap = h0 → ∀ (x1 : Int32) (x2 : Int32) (x3 : Int32) (x4 : Int32) (x5 : Int32) (u6 : Slot) (hu6 : u6 = .unset ∨ ∃ w, u6 = .val w ∧ w.category = 1) (u7 : Slot) (hu7 : u7 = .unset ∨ ∃ w, u7 = .val w ∧ w.category = 1), k x2 x3 x4 x5 G_oo_line G_oo_column G_oo_start G_oo_scan G_oo_counted G_cc = some r → Go p e below s RM5.cells RM5.slots (PQ h0 (some (.int r))) m T 84 #[.val (.ref oo), .val (.int x1), .val (.int x2), .val (.int x3), .val (.int x4), .val (.int x5), u6, u7] []) → (∀ (T : State), Stand p l e RM5 s m #[.ref oo, .int x1, .int x2] below meth c T [] 0 0 → T.heap = h0 → ∀ (x1 : Int32) (x2 : Int32) (x3 : Int32) (x4 : Int32) (x5 : Int32) (x6 : Int32) (u7 : Slot) (hu7 : u7 = .unset ∨ ∃ w, u7 = .val w ∧ w.category = 1) (t0 : Int32), f5_148 k x2 x3 x4 x5 t0 G_oo_line G_oo_column G_oo_start G_oo_scan G_oo_counted G_cc = some r → Go p e below s RM5.cells RM5.slots (PQ h0 (some (.int r))) m T 148 #[.val (.ref oo), .val (.int x1), .val (.int x2), .val (.int x3), .val (.int x4), .val (.int x5), .val (.int x6), u7] [.int t0]) := by
    intro k hk T128 X128 e128 x1 x2 x3 x4 x5 x6 u7 hu7 t0 hf
    unfold f5_148 at hf
    refine Go.istore X128 hx hby (Ls' := #[.val (.ref oo), .val (.int x1), .val (.int x2), .val (.int x3), .val (.int x4), .val (.int x5), .val (.int x6), .val (.int t0)]) d5_148 rfl (XS.store1 rfl hu7 rfl) ?_
    refine Go.iload X128 hx hby (v := x5) d5_150 rfl rfl ?_
    refine Go.iload X128 hx hby (v := t0) d5_152 rfl rfl ?_
    refine Go.iconst X128 hx hby (v := (4 : Int32)) d5_154 rfl rfl ?_
    refine Go.icmp_ne X128 hx hby (pc' := 162) d5_155 (by decide) (by decide) rfl (fun hc129 => ?_) (fun hc129 => ?_)
    · replace hf := (if_neg hc129).symm.trans hf
      refine Go.iconst X128 hx hby (v := (1 : Int32)) d5_162 rfl rfl ?_
      exact B163 _ hk T128 X128 e128 x1 x2 x3 x4 x5 x6 t0 (1 : Int32) x5 hf
    · replace hf := (if_pos hc129).symm.trans hf
      refine Go.iconst X128 hx hby (v := (2 : Int32)) d5_158 rfl rfl ?_
      refine Go.goto X128 hx hby (pc' := 163) d5_159 (by decide) (by decide) ?_
      exact B163 _ hk T128 X128 e128 x1 x2 x3 x4 x5 x6 t0 (2 : Int32) x5 hf
  have B84 : ∀ n : Nat, ∀ (T : State), Stand p l e RM5 s m #[.ref oo, .int x1, .int x2] below meth c T [] 0 0 → T.heap = h0 → ∀ (x1 : Int32) (x2 : Int32) (x3 : Int32) (x4 : Int32) (x5 : Int32) (u6 : Slot) (hu6 : u6 = .unset ∨ ∃ w, u6 = .val w ∧ w.category = 1) (u7 : Slot) (hu7 : u7 = .unset ∨ ∃ w, u7 = .val w ∧ w.category = 1), f5_84 n x2 x3 x4 x5 G_oo_line G_oo_column G_oo_start G_oo_scan G_oo_counted G_cc = some r → Go p e below s RM5.cells RM5.slots (PQ h0 (some (.int r))) m T 84 #[.val (.ref oo), .val (.int x1), .val (.int x2), .val (.int x3), .val (.int x4), .val (.int x5), u6, u7] [] := by
    intro n
    induction n with
    | zero => intro T130 X130 e130 x1 x2 x3 x4 x5 u6 hu6 u7 hu7 hf; exact absurd (show none = some r from hf) nofun
    | succ n ih =>
      intro T130 X130 e130 x1 x2 x3 x4 x5 u6 hu6 u7 hu7 hf
      rw [f5_84] at hf
      refine Go.iload X130 hx hby (v := x5) d5_84 rfl rfl ?_
      refine Go.iloadN X130 hx hby (v := x2) d5_86 rfl rfl ?_
      refine Go.icmp_ge X130 hx hby (pc' := 177) d5_87 (by decide) (by decide) rfl (fun hc131 => ?_) (fun hc131 => ?_)
      · replace hf := (if_neg hc131).symm.trans hf
        refine Go.iload X130 hx hby (v := x4) d5_177 rfl rfl ?_
        exact Go.iretI X130 hx hby hlk hret d5_179 (by decide) (by decide) ⟨congrArg (fun z => some (Value.int z)) (Option.some.inj hf), rfl, e130⟩
      · replace hf := (if_pos hc131).symm.trans hf
        refine Go.iloadN X130 hx hby (v := x3) d5_90 rfl rfl ?_
        refine Go.aloadN X130 hx hby (v := .ref oo) d5_91 rfl rfl rfl ?_
        refine Go.getF X130 hx hby hZ hown (hw _ (List.mem_of_getElem? (i := 21) rfl)) e130 (Ob_S.get_content F_oo) d5_92 rfl (fun T132 X132 e132 => ?_)
        refine Go.alen X132 hx hby hZ e132 F_cc d5_95 rfl ?_
        refine Go.icmp_ge X132 hx hby (pc' := 177) d5_96 (by decide) (by decide) rfl (fun hc133 => ?_) (fun hc133 => ?_)
        · replace hf := (if_neg hc133).symm.trans hf
          refine Go.iload X132 hx hby (v := x4) d5_177 rfl rfl ?_
          exact Go.iretI X132 hx hby hlk hret d5_179 (by decide) (by decide) ⟨congrArg (fun z => some (Value.int z)) (Option.some.inj hf), rfl, e132⟩
        · replace hf := (if_pos hc133).symm.trans hf
          refine Go.aloadN X132 hx hby (v := .ref oo) d5_99 rfl rfl rfl ?_
          refine Go.getF X132 hx hby hZ hown (hw _ (List.mem_of_getElem? (i := 21) rfl)) e132 (Ob_S.get_content F_oo) d5_100 rfl (fun T134 X134 e134 => ?_)
          refine Go.iloadN X134 hx hby (v := x3) d5_103 rfl rfl ?_
          rcases Decidable.em (inA G_cc x3) with hj135 | hj135
          case inr => exact absurd ((if_neg hj135).symm.trans hf) nofun
          replace hf := (if_pos hj135).symm.trans hf
          refine Go.baload X134 hx hby hZ e134 F_cc hj135 d5_104 rfl ?_
          refine Go.sipush X134 hx hby (v := (255 : Int32)) d5_105 rfl rfl ?_
          refine Go.iand X134 hx hby d5_108 rfl ?_
          refine Go.istore X134 hx hby (Ls' := #[.val (.ref oo), .val (.int x1), .val (.int x2), .val (.int x3), .val (.int x4), .val (.int x5), .val (.int ((atA G_cc x3) &&& (255 : Int32))), u7]) d5_109 rfl (XS.store1 rfl hu6 rfl) ?_
          refine Go.iload X134 hx hby (v := ((atA G_cc x3) &&& (255 : Int32))) d5_111 rfl rfl ?_
          refine Go.sipush X134 hx hby (v := (128 : Int32)) d5_113 rfl rfl ?_
          refine Go.icmp_ge X134 hx hby (pc' := 123) d5_116 (by decide) (by decide) rfl (fun hc136 => ?_) (fun hc136 => ?_)
          · replace hf := (if_neg hc136).symm.trans hf
            refine Go.iload X134 hx hby (v := ((atA G_cc x3) &&& (255 : Int32))) d5_123 rfl rfl ?_
            refine Go.sipush X134 hx hby (v := (224 : Int32)) d5_125 rfl rfl ?_
            refine Go.icmp_ge X134 hx hby (pc' := 135) d5_128 (by decide) (by decide) rfl (fun hc137 => ?_) (fun hc137 => ?_)
            · replace hf := (if_neg hc137).symm.trans hf
              refine Go.iload X134 hx hby (v := ((atA G_cc x3) &&& (255 : Int32))) d5_135 rfl rfl ?_
              refine Go.sipush X134 hx hby (v := (240 : Int32)) d5_137 rfl rfl ?_
              refine Go.icmp_ge X134 hx hby (pc' := 147) d5_140 (by decide) (by decide) rfl (fun hc138 => ?_) (fun hc138 => ?_)
              · replace hf := (if_neg hc138).symm.trans hf
                refine Go.iconst X134 hx hby (v := (4 : Int32)) d5_147 rfl rfl ?_
                exact B148 _ ih T134 X134 e134 x1 x2 x3 x4 x5 ((atA G_cc x3) &&& (255 : Int32)) u7 hu7 (4 : Int32) hf
              · replace hf := (if_pos hc138).symm.trans hf
                refine Go.iconst X134 hx hby (v := (3 : Int32)) d5_143 rfl rfl ?_
                refine Go.goto X134 hx hby (pc' := 148) d5_144 (by decide) (by decide) ?_
                exact B148 _ ih T134 X134 e134 x1 x2 x3 x4 x5 ((atA G_cc x3) &&& (255 : Int32)) u7 hu7 (3 : Int32) hf
            · replace hf := (if_pos hc137).symm.trans hf
              refine Go.iconst X134 hx hby (v := (2 : Int32)) d5_131 rfl rfl ?_
              refine Go.goto X134 hx hby (pc' := 148) d5_132 (by decide) (by decide) ?_
              exact B148 _ ih T134 X134 e134 x1 x2 x3 x4 x5 ((atA G_cc x3) &&& (255 : Int32)) u7 hu7 (2 : Int32) hf
          · replace hf := (if_pos hc136).symm.trans hf
            refine Go.iconst X134 hx hby (v := (1 : Int32)) d5_119 rfl rfl ?_
            refine Go.goto X134 hx hby (pc' := 148) d5_120 (by decide) (by decide) ?_
            exact B148 _ ih T134 X134 e134 x1 x2 x3 x4 x5 ((atA G_cc x3) &&& (255 : Int32)) u7 hu7 (1 : Int32) hf
  have B78 : ∀ (T : State), Stand p l e RM5 s m #[.ref oo, .int x1, .int x2] below meth c T [] 0 0 → T.heap = h0 → ∀ (x1 : Int32) (x2 : Int32) (x3 : Int32) (x4 : Int32), f5_78 x2 x3 G_oo_line G_oo_column G_oo_start G_oo_scan G_oo_counted G_cc = some r → Go p e below s RM5.cells RM5.slots (PQ h0 (some (.int r))) m T 78 #[.val (.ref oo), .val (.int x1), .val (.int x2), .val (.int x3), .val (.int x4), .unset, .unset, .unset] [] := by
    intro T139 X139 e139 x1 x2 x3 x4 hf
    unfold f5_78 at hf
    refine Go.iconst X139 hx hby (v := (1 : Int32)) d5_78 rfl rfl ?_
    refine Go.istore X139 hx hby (Ls' := #[.val (.ref oo), .val (.int x1), .val (.int x2), .val (.int x3), .val (.int (1 : Int32)), .unset, .unset, .unset]) d5_79 rfl rfl ?_
    refine Go.iconst X139 hx hby (v := (1 : Int32)) d5_81 rfl rfl ?_
    refine Go.istore X139 hx hby (Ls' := #[.val (.ref oo), .val (.int x1), .val (.int x2), .val (.int x3), .val (.int (1 : Int32)), .val (.int (1 : Int32)), .unset, .unset]) d5_82 rfl rfl ?_
    exact B84 _ T139 X139 e139 x1 x2 x3 (1 : Int32) (1 : Int32) .unset (Or.inl rfl) .unset (Or.inl rfl) hf
  have B72 : ∀ k : Int32 → Int32 → Int32 → Int32 → Int32 → Int32 → Int32 → Int32 → Int32 → List Int32 → Option (Int32), (∀ (T : State), Stand p l e RM5 s m #[.ref oo, .int x1, .int x2] below meth c T [] 0 0 → T.heap = h0 → ∀ (x1 : Int32) (x2 : Int32) (x3 : Int32) (x4 : Int32), k x1 x2 x3 x4 G_oo_line G_oo_column G_oo_start G_oo_scan G_oo_counted G_cc = some r → Go p e below s RM5.cells RM5.slots (PQ h0 (some (.int r))) m T 8 #[.val (.ref oo), .val (.int x1), .val (.int x2), .val (.int x3), .val (.int x4), .unset, .unset, .unset] []) → (∀ (T : State), Stand p l e RM5 s m #[.ref oo, .int x1, .int x2] below meth c T [] 0 0 → T.heap = h0 → ∀ (x1 : Int32) (x2 : Int32) (x3 : Int32) (x4 : Int32), f5_72 k x1 x2 x3 x4 G_oo_line G_oo_column G_oo_start G_oo_scan G_oo_counted G_cc = some r → Go p e below s RM5.cells RM5.slots (PQ h0 (some (.int r))) m T 72 #[.val (.ref oo), .val (.int x1), .val (.int x2), .val (.int x3), .val (.int x4), .unset, .unset, .unset] []) := by
    intro k hk T140 X140 e140 x1 x2 x3 x4 hf
    unfold f5_72 at hf
    refine Go.iinc X140 hx hby (x := x3) (v := (1 : Int32)) (Ls' := #[.val (.ref oo), .val (.int x1), .val (.int x2), .val (.int (x3 + (1 : Int32))), .val (.int x4), .unset, .unset, .unset]) d5_72 rfl rfl rfl rfl ?_
    refine Go.goto X140 hx hby (pc' := 8) d5_75 (by decide) (by decide) ?_
    exact hk T140 X140 e140 x1 x2 (x3 + (1 : Int32)) x4 hf
  have B69 : ∀ k : Int32 → Int32 → Int32 → Int32 → Int32 → Int32 → Int32 → Int32 → Int32 → List Int32 → Option (Int32), (∀ (T : State), Stand p l e RM5 s m #[.ref oo, .int x1, .int x2] below meth c T [] 0 0 → T.heap = h0 → ∀ (x1 : Int32) (x2 : Int32) (x3 : Int32) (x4 : Int32), k x1 x2 x3 x4 G_oo_line G_oo_column G_oo_start G_oo_scan G_oo_counted G_cc = some r → Go p e below s RM5.cells RM5.slots (PQ h0 (some (.int r))) m T 8 #[.val (.ref oo), .val (.int x1), .val (.int x2), .val (.int x3), .val (.int x4), .unset, .unset, .unset] []) → (∀ (T : State), Stand p l e RM5 s m #[.ref oo, .int x1, .int x2] below meth c T [] 0 0 → T.heap = h0 → ∀ (x1 : Int32) (x2 : Int32) (x3 : Int32) (x4 : Int32), f5_69 k x1 x2 x3 x4 G_oo_line G_oo_column G_oo_start G_oo_scan G_oo_counted G_cc = some r → Go p e below s RM5.cells RM5.slots (PQ h0 (some (.int r))) m T 69 #[.val (.ref oo), .val (.int x1), .val (.int x2), .val (.int x3), .val (.int x4), .unset, .unset, .unset] []) := by
    intro k hk T141 X141 e141 x1 x2 x3 x4 hf
    unfold f5_69 at hf
    refine Go.iinc X141 hx hby (x := x4) (v := (1 : Int32)) (Ls' := #[.val (.ref oo), .val (.int x1), .val (.int x2), .val (.int x3), .val (.int (x4 + (1 : Int32))), .unset, .unset, .unset]) d5_69 rfl rfl rfl rfl ?_
    exact B72 _ hk T141 X141 e141 x1 x2 x3 (x4 + (1 : Int32)) hf
  have B8 : ∀ n : Nat, ∀ (T : State), Stand p l e RM5 s m #[.ref oo, .int x1, .int x2] below meth c T [] 0 0 → T.heap = h0 → ∀ (x1 : Int32) (x2 : Int32) (x3 : Int32) (x4 : Int32), f5_8 n x1 x2 x3 x4 G_oo_line G_oo_column G_oo_start G_oo_scan G_oo_counted G_cc = some r → Go p e below s RM5.cells RM5.slots (PQ h0 (some (.int r))) m T 8 #[.val (.ref oo), .val (.int x1), .val (.int x2), .val (.int x3), .val (.int x4), .unset, .unset, .unset] [] := by
    intro n
    induction n with
    | zero => intro T142 X142 e142 x1 x2 x3 x4 hf; exact absurd (show none = some r from hf) nofun
    | succ n ih =>
      intro T142 X142 e142 x1 x2 x3 x4 hf
      rw [f5_8] at hf
      refine Go.iload X142 hx hby (v := x4) d5_8 rfl rfl ?_
      refine Go.iloadN X142 hx hby (v := x1) d5_10 rfl rfl ?_
      refine Go.icmp_ge X142 hx hby (pc' := 78) d5_11 (by decide) (by decide) rfl (fun hc143 => ?_) (fun hc143 => ?_)
      · replace hf := (if_neg hc143).symm.trans hf
        exact B78 T142 X142 e142 x1 x2 x3 x4 hf
      · replace hf := (if_pos hc143).symm.trans hf
        refine Go.iloadN X142 hx hby (v := x3) d5_14 rfl rfl ?_
        refine Go.aloadN X142 hx hby (v := .ref oo) d5_15 rfl rfl rfl ?_
        refine Go.getF X142 hx hby hZ hown (hw _ (List.mem_of_getElem? (i := 21) rfl)) e142 (Ob_S.get_content F_oo) d5_16 rfl (fun T144 X144 e144 => ?_)
        refine Go.alen X144 hx hby hZ e144 F_cc d5_19 rfl ?_
        refine Go.icmp_ge X144 hx hby (pc' := 78) d5_20 (by decide) (by decide) rfl (fun hc145 => ?_) (fun hc145 => ?_)
        · replace hf := (if_neg hc145).symm.trans hf
          exact B78 T144 X144 e144 x1 x2 x3 x4 hf
        · replace hf := (if_pos hc145).symm.trans hf
          refine Go.aloadN X144 hx hby (v := .ref oo) d5_23 rfl rfl rfl ?_
          refine Go.getF X144 hx hby hZ hown (hw _ (List.mem_of_getElem? (i := 21) rfl)) e144 (Ob_S.get_content F_oo) d5_24 rfl (fun T146 X146 e146 => ?_)
          refine Go.iloadN X146 hx hby (v := x3) d5_27 rfl rfl ?_
          rcases Decidable.em (inA G_cc x3) with hj147 | hj147
          case inr => exact absurd ((if_neg hj147).symm.trans hf) nofun
          replace hf := (if_pos hj147).symm.trans hf
          refine Go.baload X146 hx hby hZ e146 F_cc hj147 d5_28 rfl ?_
          refine Go.bipush X146 hx hby (v := (10 : Int32)) d5_29 rfl rfl ?_
          refine Go.icmp_eq X146 hx hby (pc' := 69) d5_31 (by decide) (by decide) rfl (fun hc148 => ?_) (fun hc148 => ?_)
          · replace hf := (if_pos hc148).symm.trans hf
            exact B69 _ ih T146 X146 e146 x1 x2 x3 x4 hf
          · replace hf := (if_neg hc148).symm.trans hf
            refine Go.aloadN X146 hx hby (v := .ref oo) d5_34 rfl rfl rfl ?_
            refine Go.getF X146 hx hby hZ hown (hw _ (List.mem_of_getElem? (i := 21) rfl)) e146 (Ob_S.get_content F_oo) d5_35 rfl (fun T149 X149 e149 => ?_)
            refine Go.iloadN X149 hx hby (v := x3) d5_38 rfl rfl ?_
            rcases Decidable.em (inA G_cc x3) with hj150 | hj150
            case inr => exact absurd ((if_neg hj150).symm.trans hf) nofun
            replace hf := (if_pos hj150).symm.trans hf
            refine Go.baload X149 hx hby hZ e149 F_cc hj150 d5_39 rfl ?_
            refine Go.bipush X149 hx hby (v := (13 : Int32)) d5_40 rfl rfl ?_
            refine Go.icmp_ne X149 hx hby (pc' := 72) d5_42 (by decide) (by decide) rfl (fun hc151 => ?_) (fun hc151 => ?_)
            · replace hf := (if_neg hc151).symm.trans hf
              exact B72 _ ih T149 X149 e149 x1 x2 x3 x4 hf
            · replace hf := (if_pos hc151).symm.trans hf
              refine Go.iloadN X149 hx hby (v := x3) d5_45 rfl rfl ?_
              refine Go.iconst X149 hx hby (v := (1 : Int32)) d5_46 rfl rfl ?_
              refine Go.iadd X149 hx hby d5_47 rfl ?_
              refine Go.aloadN X149 hx hby (v := .ref oo) d5_48 rfl rfl rfl ?_
              refine Go.getF X149 hx hby hZ hown (hw _ (List.mem_of_getElem? (i := 21) rfl)) e149 (Ob_S.get_content F_oo) d5_49 rfl (fun T152 X152 e152 => ?_)
              refine Go.alen X152 hx hby hZ e152 F_cc d5_52 rfl ?_
              refine Go.icmp_eq X152 hx hby (pc' := 69) d5_53 (by decide) (by decide) rfl (fun hc153 => ?_) (fun hc153 => ?_)
              · replace hf := (if_pos hc153).symm.trans hf
                exact B69 _ ih T152 X152 e152 x1 x2 x3 x4 hf
              · replace hf := (if_neg hc153).symm.trans hf
                refine Go.aloadN X152 hx hby (v := .ref oo) d5_56 rfl rfl rfl ?_
                refine Go.getF X152 hx hby hZ hown (hw _ (List.mem_of_getElem? (i := 21) rfl)) e152 (Ob_S.get_content F_oo) d5_57 rfl (fun T154 X154 e154 => ?_)
                refine Go.iloadN X154 hx hby (v := x3) d5_60 rfl rfl ?_
                refine Go.iconst X154 hx hby (v := (1 : Int32)) d5_61 rfl rfl ?_
                refine Go.iadd X154 hx hby d5_62 rfl ?_
                rcases Decidable.em (inA G_cc (x3 + (1 : Int32))) with hj155 | hj155
                case inr => exact absurd ((if_neg hj155).symm.trans hf) nofun
                replace hf := (if_pos hj155).symm.trans hf
                refine Go.baload X154 hx hby hZ e154 F_cc hj155 d5_63 rfl ?_
                refine Go.bipush X154 hx hby (v := (10 : Int32)) d5_64 rfl rfl ?_
                refine Go.icmp_eq X154 hx hby (pc' := 72) d5_66 (by decide) (by decide) rfl (fun hc156 => ?_) (fun hc156 => ?_)
                · replace hf := (if_pos hc156).symm.trans hf
                  exact B72 _ ih T154 X154 e154 x1 x2 x3 x4 hf
                · replace hf := (if_neg hc156).symm.trans hf
                  exact B69 _ ih T154 X154 e154 x1 x2 x3 x4 hf
  have hf := hf0
  unfold f5_0 at hf
  refine Go.aloadN X0 hx hby (v := .ref oo) d5_0 rfl rfl rfl ?_
  refine Go.getF X0 hx hby hZ hown (hw _ (List.mem_of_getElem? (i := 23) rfl)) e0 (Ob_S.get_start F_oo) d5_1 rfl (fun T157 X157 e157 => ?_)
  refine Go.istoreN X157 hx hby (Ls' := #[.val (.ref oo), .val (.int x1), .val (.int x2), .val (.int G_oo_start), .unset, .unset, .unset, .unset]) d5_4 rfl rfl ?_
  refine Go.iconst X157 hx hby (v := (1 : Int32)) d5_5 rfl rfl ?_
  refine Go.istore X157 hx hby (Ls' := #[.val (.ref oo), .val (.int x1), .val (.int x2), .val (.int G_oo_start), .val (.int (1 : Int32)), .unset, .unset, .unset]) d5_6 rfl rfl ?_
  exact B8 _ T157 X157 e157 x1 x2 G_oo_start (1 : Int32) hf
-- body 7
def f7_34 (x0 : Int32) (x1 : Int32) (x4 : Int32) (x5 : Int32) : Option (Int32) := if (2 : Int32) < x1 then some x5 else if 0 < x0 then some (x5 + (1 : Int32)) else some x5
def f7_18 (x0 : Int32) (x1 : Int32) (x3 : Int32) (x4 : Int32) (x5 : Int32) : Option (Int32) := if (1 : Int32) < x1 then f7_34 x0 x1 x4 x5 else if 0 < x0 then f7_34 (x0 - x3) x1 x4 (x5 + (1 : Int32)) else f7_34 x0 x1 x4 x5
def f7_0 (x0 : Int32) (x1 : Int32) (x2 : Int32) (x3 : Int32) (x4 : Int32) : Option (Int32) := if 0 < x1 then f7_18 x0 x1 x3 x4 (0 : Int32) else if 0 < x0 then f7_18 (x0 - x2) x1 x3 x4 ((0 : Int32) + (1 : Int32)) else f7_18 x0 x1 x3 x4 (0 : Int32)
theorem d7_0 : decode method_4_code 0 = .ok (.iconst 0, 1) := by decide +kernel
theorem d7_1 : decode method_4_code 1 = .ok (.istore 5, 2) := by decide +kernel
theorem d7_3 : decode method_4_code 3 = .ok (.iload_n 1, 1) := by decide +kernel
theorem d7_4 : decode method_4_code 4 = .ok (.ifCond .gt 14, 3) := by decide +kernel
theorem d7_7 : decode method_4_code 7 = .ok (.iload_n 0, 1) := by decide +kernel
theorem d7_8 : decode method_4_code 8 = .ok (.ifCond .le 10, 3) := by decide +kernel
theorem d7_11 : decode method_4_code 11 = .ok (.iinc 5 1, 3) := by decide +kernel
theorem d7_14 : decode method_4_code 14 = .ok (.iload_n 0, 1) := by decide +kernel
theorem d7_15 : decode method_4_code 15 = .ok (.iload_n 2, 1) := by decide +kernel
theorem d7_16 : decode method_4_code 16 = .ok (.isub, 1) := by decide +kernel
theorem d7_17 : decode method_4_code 17 = .ok (.istore_n 0, 1) := by decide +kernel
theorem d7_18 : decode method_4_code 18 = .ok (.iload_n 1, 1) := by decide +kernel
theorem d7_19 : decode method_4_code 19 = .ok (.iconst 1, 1) := by decide +kernel
theorem d7_20 : decode method_4_code 20 = .ok (.if_icmp .gt 14, 3) := by decide +kernel
theorem d7_23 : decode method_4_code 23 = .ok (.iload_n 0, 1) := by decide +kernel
theorem d7_24 : decode method_4_code 24 = .ok (.ifCond .le 10, 3) := by decide +kernel
theorem d7_27 : decode method_4_code 27 = .ok (.iinc 5 1, 3) := by decide +kernel
theorem d7_30 : decode method_4_code 30 = .ok (.iload_n 0, 1) := by decide +kernel
theorem d7_31 : decode method_4_code 31 = .ok (.iload_n 3, 1) := by decide +kernel
theorem d7_32 : decode method_4_code 32 = .ok (.isub, 1) := by decide +kernel
theorem d7_33 : decode method_4_code 33 = .ok (.istore_n 0, 1) := by decide +kernel
theorem d7_34 : decode method_4_code 34 = .ok (.iload_n 1, 1) := by decide +kernel
theorem d7_35 : decode method_4_code 35 = .ok (.iconst 2, 1) := by decide +kernel
theorem d7_36 : decode method_4_code 36 = .ok (.if_icmp .gt 15, 3) := by decide +kernel
theorem d7_39 : decode method_4_code 39 = .ok (.iload_n 0, 1) := by decide +kernel
theorem d7_40 : decode method_4_code 40 = .ok (.ifCond .le 11, 3) := by decide +kernel
theorem d7_43 : decode method_4_code 43 = .ok (.iinc 5 1, 3) := by decide +kernel
theorem d7_46 : decode method_4_code 46 = .ok (.iload_n 0, 1) := by decide +kernel
theorem d7_47 : decode method_4_code 47 = .ok (.iload 4, 2) := by decide +kernel
theorem d7_49 : decode method_4_code 49 = .ok (.isub, 1) := by decide +kernel
theorem d7_50 : decode method_4_code 50 = .ok (.istore_n 0, 1) := by decide +kernel
theorem d7_51 : decode method_4_code 51 = .ok (.iload 5, 2) := by decide +kernel
theorem d7_53 : decode method_4_code 53 = .ok (.ireturn, 1) := by decide +kernel
abbrev Y7 : MethodName := ⟨"com/example/yarrow/yarrow/data/StartTagsColumnOfPinLaw", "drawn", "(IIIII)I"⟩
def RM7 : Room := { frames := 0, cells := 0, slots := 0, locals := 0 }
theorem pd_7 : parseMethodDescriptor Y7.desc = some ⟨[.int, .int, .int, .int, .int], some .int⟩ := by decide +kernel
theorem pn_7 : plainName "com/example/yarrow/yarrow/data/StartTagsColumnOfPinLaw" = true := by first | (simp [plainName, overriddenIn]; done) | decide +kernel
theorem ef_7 (m : MethodId) (x0 : Int32) (x1 : Int32) (x2 : Int32) (x3 : Int32) (x4 : Int32) : entryFrame m #[.int x0, .int x1, .int x2, .int x3, .int x4] 6 = mkF m 0 #[.val (.int x0), .val (.int x1), .val (.int x2), .val (.int x3), .val (.int x4), .unset] [] := by first | (simp [entryFrame, mkF, argsToLocals, Value.category]; done) | rfl
set_option maxRecDepth 65536 in
set_option maxHeartbeats 40000000 in
theorem rm7 (l : Launch) (Z : State) (a0 : Array Value) (hw : ∀ d ∈ tables_1, d.before a0 Z = true) (x0 : Int32) (x1 : Int32) (x2 : Int32) (x3 : Int32) (x4 : Int32)  (h0 : Heap) (r : Int32) (hf : f7_0 x0 x1 x2 x3 x4 = some r)  :
    MetFree l Y7 (head1 ([Jvm.Cond.code Y7 method_4_code 6 (some .int)]) RM7) (fun a U => a = #[.int x0, .int x1, .int x2, .int x3, .int x4] ∧ Z.Warmed39 U.vm ∧ U.heap = h0) (fun _ _ _ _ _ => True) (fun _ U o U' => ∃ v L, o = .returned v ∧ (PQ h0 (some (.int r))) v U'.heap L ∧ FrameEnd U o U' L RM7.cells RM7.slots) := by
  refine MetFree.of_bodySF (plainFor_of_name pn_7) hisR ?_
  intro p e s m args below meth c s₁ Bd hml0 hP hK
  obtain ⟨rfl, hZ, hh⟩ := hP
  have hx := Bd.exec
  have hby := Bd.bytes
  have hlk : meth.locks = false := BodyLoose.notSynchronized Bd
  have hret := Bd.returns
  have hml : c.maxLocals = 6 := hml0
  have hown : s.vm.findClass "com/example/yarrow/yarrow/data/StartTagsColumnOfPinLaw" = some m.cls := findClass_of_methodNamed Bd.named
  have X0 : Stand p l e RM7 s m #[.int x0, .int x1, .int x2, .int x3, .int x4] below meth c s₁ [] 0 0 := Stand.of_body Bd
  have e0 : s₁.heap = h0 := by rw [← hh, Bd.state]; rfl
  suffices G : Go p e below s RM7.cells RM7.slots (PQ h0 (some (.int r))) m s₁ 0 #[.val (.int x0), .val (.int x1), .val (.int x2), .val (.int x3), .val (.int x4), .unset] [] by
    obtain ⟨s₂, o, h1, h2⟩ := G
    exact ⟨s₂, o, castTop (ef_7 m x0 x1 x2 x3 x4) h1, h2⟩
  have hf0 := hf
  clear hf
  have B34 : ∀ (T : State), Stand p l e RM7 s m #[.int x0, .int x1, .int x2, .int x3, .int x4] below meth c T [] 0 0 → T.heap = h0 → ∀ (x0 : Int32) (x1 : Int32) (x2 : Int32) (x3 : Int32) (x4 : Int32) (x5 : Int32), f7_34 x0 x1 x4 x5 = some r → Go p e below s RM7.cells RM7.slots (PQ h0 (some (.int r))) m T 34 #[.val (.int x0), .val (.int x1), .val (.int x2), .val (.int x3), .val (.int x4), .val (.int x5)] [] := by
    intro T164 X164 e164 x0 x1 x2 x3 x4 x5 hf
    unfold f7_34 at hf
    refine Go.iloadN X164 hx hby (v := x1) d7_34 rfl rfl ?_
    refine Go.iconst X164 hx hby (v := (2 : Int32)) d7_35 rfl rfl ?_
    refine Go.icmp_gt X164 hx hby (pc' := 51) d7_36 (by decide) (by decide) rfl (fun hc165 => ?_) (fun hc165 => ?_)
    · replace hf := (if_pos hc165).symm.trans hf
      refine Go.iload X164 hx hby (v := x5) d7_51 rfl rfl ?_
      exact Go.iretI X164 hx hby hlk hret d7_53 (by decide) (by decide) ⟨congrArg (fun z => some (Value.int z)) (Option.some.inj hf), rfl, e164⟩
    · replace hf := (if_neg hc165).symm.trans hf
      refine Go.iloadN X164 hx hby (v := x0) d7_39 rfl rfl ?_
      refine Go.if_le X164 hx hby (pc' := 51) d7_40 (by decide) (by decide) rfl (fun hc166 => ?_) (fun hc166 => ?_)
      · replace hf := (if_neg hc166).symm.trans hf
        refine Go.iload X164 hx hby (v := x5) d7_51 rfl rfl ?_
        exact Go.iretI X164 hx hby hlk hret d7_53 (by decide) (by decide) ⟨congrArg (fun z => some (Value.int z)) (Option.some.inj hf), rfl, e164⟩
      · replace hf := (if_pos hc166).symm.trans hf
        refine Go.iinc X164 hx hby (x := x5) (v := (1 : Int32)) (Ls' := #[.val (.int x0), .val (.int x1), .val (.int x2), .val (.int x3), .val (.int x4), .val (.int (x5 + (1 : Int32)))]) d7_43 rfl rfl rfl rfl ?_
        refine Go.iloadN X164 hx hby (v := x0) d7_46 rfl rfl ?_
        refine Go.iload X164 hx hby (v := x4) d7_47 rfl rfl ?_
        refine Go.isub X164 hx hby d7_49 rfl ?_
        refine Go.istoreN X164 hx hby (Ls' := #[.val (.int (x0 - x4)), .val (.int x1), .val (.int x2), .val (.int x3), .val (.int x4), .val (.int (x5 + (1 : Int32)))]) d7_50 rfl rfl ?_
        refine Go.iload X164 hx hby (v := (x5 + (1 : Int32))) d7_51 rfl rfl ?_
        exact Go.iretI X164 hx hby hlk hret d7_53 (by decide) (by decide) ⟨congrArg (fun z => some (Value.int z)) (Option.some.inj hf), rfl, e164⟩
  have B18 : ∀ (T : State), Stand p l e RM7 s m #[.int x0, .int x1, .int x2, .int x3, .int x4] below meth c T [] 0 0 → T.heap = h0 → ∀ (x0 : Int32) (x1 : Int32) (x2 : Int32) (x3 : Int32) (x4 : Int32) (x5 : Int32), f7_18 x0 x1 x3 x4 x5 = some r → Go p e below s RM7.cells RM7.slots (PQ h0 (some (.int r))) m T 18 #[.val (.int x0), .val (.int x1), .val (.int x2), .val (.int x3), .val (.int x4), .val (.int x5)] [] := by
    intro T167 X167 e167 x0 x1 x2 x3 x4 x5 hf
    unfold f7_18 at hf
    refine Go.iloadN X167 hx hby (v := x1) d7_18 rfl rfl ?_
    refine Go.iconst X167 hx hby (v := (1 : Int32)) d7_19 rfl rfl ?_
    refine Go.icmp_gt X167 hx hby (pc' := 34) d7_20 (by decide) (by decide) rfl (fun hc168 => ?_) (fun hc168 => ?_)
    · replace hf := (if_pos hc168).symm.trans hf
      exact B34 T167 X167 e167 x0 x1 x2 x3 x4 x5 hf
    · replace hf := (if_neg hc168).symm.trans hf
      refine Go.iloadN X167 hx hby (v := x0) d7_23 rfl rfl ?_
      refine Go.if_le X167 hx hby (pc' := 34) d7_24 (by decide) (by decide) rfl (fun hc169 => ?_) (fun hc169 => ?_)
      · replace hf := (if_neg hc169).symm.trans hf
        exact B34 T167 X167 e167 x0 x1 x2 x3 x4 x5 hf
      · replace hf := (if_pos hc169).symm.trans hf
        refine Go.iinc X167 hx hby (x := x5) (v := (1 : Int32)) (Ls' := #[.val (.int x0), .val (.int x1), .val (.int x2), .val (.int x3), .val (.int x4), .val (.int (x5 + (1 : Int32)))]) d7_27 rfl rfl rfl rfl ?_
        refine Go.iloadN X167 hx hby (v := x0) d7_30 rfl rfl ?_
        refine Go.iloadN X167 hx hby (v := x3) d7_31 rfl rfl ?_
        refine Go.isub X167 hx hby d7_32 rfl ?_
        refine Go.istoreN X167 hx hby (Ls' := #[.val (.int (x0 - x3)), .val (.int x1), .val (.int x2), .val (.int x3), .val (.int x4), .val (.int (x5 + (1 : Int32)))]) d7_33 rfl rfl ?_
        exact B34 T167 X167 e167 (x0 - x3) x1 x2 x3 x4 (x5 + (1 : Int32)) hf
  have hf := hf0
  unfold f7_0 at hf
  refine Go.iconst X0 hx hby (v := (0 : Int32)) d7_0 rfl rfl ?_
  refine Go.istore X0 hx hby (Ls' := #[.val (.int x0), .val (.int x1), .val (.int x2), .val (.int x3), .val (.int x4), .val (.int (0 : Int32))]) d7_1 rfl rfl ?_
  refine Go.iloadN X0 hx hby (v := x1) d7_3 rfl rfl ?_
  refine Go.if_gt X0 hx hby (pc' := 18) d7_4 (by decide) (by decide) rfl (fun hc170 => ?_) (fun hc170 => ?_)
  · replace hf := (if_pos hc170).symm.trans hf
    exact B18 s₁ X0 e0 x0 x1 x2 x3 x4 (0 : Int32) hf
  · replace hf := (if_neg hc170).symm.trans hf
    refine Go.iloadN X0 hx hby (v := x0) d7_7 rfl rfl ?_
    refine Go.if_le X0 hx hby (pc' := 18) d7_8 (by decide) (by decide) rfl (fun hc171 => ?_) (fun hc171 => ?_)
    · replace hf := (if_neg hc171).symm.trans hf
      exact B18 s₁ X0 e0 x0 x1 x2 x3 x4 (0 : Int32) hf
    · replace hf := (if_pos hc171).symm.trans hf
      refine Go.iinc X0 hx hby (x := (0 : Int32)) (v := (1 : Int32)) (Ls' := #[.val (.int x0), .val (.int x1), .val (.int x2), .val (.int x3), .val (.int x4), .val (.int ((0 : Int32) + (1 : Int32)))]) d7_11 rfl rfl rfl rfl ?_
      refine Go.iloadN X0 hx hby (v := x0) d7_14 rfl rfl ?_
      refine Go.iloadN X0 hx hby (v := x2) d7_15 rfl rfl ?_
      refine Go.isub X0 hx hby d7_16 rfl ?_
      refine Go.istoreN X0 hx hby (Ls' := #[.val (.int (x0 - x2)), .val (.int x1), .val (.int x2), .val (.int x3), .val (.int x4), .val (.int ((0 : Int32) + (1 : Int32)))]) d7_17 rfl rfl ?_
      exact B18 s₁ X0 e0 (x0 - x2) x1 x2 x3 x4 ((0 : Int32) + (1 : Int32)) hf
-- body 6
def f6_216 (x6 : Int32) (x7 : Int32) (x8 : Int32) (x9 : Int32) (x15 : Int32) : Option (Int32) := (f7_0 x6 x15 x7 x8 x9).bind fun r172 => some ((1 : Int32) + r172)
def f6_198 (x6 : Int32) (x7 : Int32) (x8 : Int32) (x9 : Int32) (x12 : Int32) (x13 : Int32) (x14 : Int32) (x15 : Int32) : Option (Int32) := if x12 = 0 then f6_216 x6 x7 x8 x9 x15 else if (x14 + (1 : Int32)) = x13 then f6_216 x6 x7 x8 x9 (3 : Int32) else f6_216 x6 x7 x8 x9 x15
def f6_180 (x6 : Int32) (x7 : Int32) (x8 : Int32) (x9 : Int32) (x11 : Int32) (x12 : Int32) (x13 : Int32) (x14 : Int32) (x15 : Int32) : Option (Int32) := if x11 = 0 then f6_198 x6 x7 x8 x9 x12 x13 x14 x15 else if (x14 + (1 : Int32)) = x13 then f6_198 x6 x7 x8 x9 x12 x13 (x14 + (1 : Int32)) (2 : Int32) else f6_198 x6 x7 x8 x9 x12 x13 (x14 + (1 : Int32)) x15
def f6_148 (x4 : Int32) (x6 : Int32) (x7 : Int32) (x8 : Int32) (x9 : Int32) (x10 : Int32) (x11 : Int32) (t0 : Int32) : Option (Int32) := if x10 = 0 then f6_180 x6 x7 x8 x9 x11 t0 (x4 - (1 : Int32)) (0 : Int32) (3 : Int32) else if ((0 : Int32) + (1 : Int32)) = (x4 - (1 : Int32)) then f6_180 x6 x7 x8 x9 x11 t0 (x4 - (1 : Int32)) ((0 : Int32) + (1 : Int32)) (1 : Int32) else f6_180 x6 x7 x8 x9 x11 t0 (x4 - (1 : Int32)) ((0 : Int32) + (1 : Int32)) (3 : Int32)
def f6_143 (x4 : Int32) (x6 : Int32) (x7 : Int32) (x8 : Int32) (x9 : Int32) (x10 : Int32) (x11 : Int32) : Option (Int32) := f6_148 x4 x6 x7 x8 x9 x10 x11 (1 : Int32)
def f6_131 (x2 : Int32) (x4 : Int32) (x6 : Int32) (x7 : Int32) (x8 : Int32) (x9 : Int32) (x10 : Int32) (t0 : Int32) : Option (Int32) := if x2 = (1 : Int32) then f6_143 x4 x6 x7 x8 x9 x10 t0 else if x2 = (2 : Int32) then f6_143 x4 x6 x7 x8 x9 x10 t0 else f6_148 x4 x6 x7 x8 x9 x10 t0 (0 : Int32)
def f6_126 (x2 : Int32) (x4 : Int32) (x6 : Int32) (x7 : Int32) (x8 : Int32) (x9 : Int32) (x10 : Int32) : Option (Int32) := f6_131 x2 x4 x6 x7 x8 x9 x10 (1 : Int32)
def f6_130 (x2 : Int32) (x4 : Int32) (x6 : Int32) (x7 : Int32) (x8 : Int32) (x9 : Int32) (x10 : Int32) : Option (Int32) := f6_131 x2 x4 x6 x7 x8 x9 x10 (0 : Int32)
def f6_109 (x1 : Int32) (x2 : Int32) (x4 : Int32) (x6 : Int32) (x7 : Int32) (x8 : Int32) (x9 : Int32) (t0 : Int32) : Option (Int32) := if x1 = (1 : Int32) then f6_126 x2 x4 x6 x7 x8 x9 t0 else if x1 = (2 : Int32) then if x2 = (1 : Int32) then f6_130 x2 x4 x6 x7 x8 x9 t0 else f6_126 x2 x4 x6 x7 x8 x9 t0 else f6_130 x2 x4 x6 x7 x8 x9 t0
def f6_104 (x1 : Int32) (x2 : Int32) (x4 : Int32) (x6 : Int32) (x7 : Int32) (x8 : Int32) (x9 : Int32) : Option (Int32) := f6_109 x1 x2 x4 x6 x7 x8 x9 (1 : Int32)
def f6_108 (x1 : Int32) (x2 : Int32) (x4 : Int32) (x6 : Int32) (x7 : Int32) (x8 : Int32) (x9 : Int32) : Option (Int32) := f6_109 x1 x2 x4 x6 x7 x8 x9 (0 : Int32)
def f6_51 (x0 : Int32) (x1 : Int32) (x2 : Int32) (x3 : Int32) (x4 : Int32) (x6 : Int32) (x7 : Int32) (x8 : Int32) (t0 : Int32) : Option (Int32) := if (1 : Int32) < x4 then if x0 = (1 : Int32) then f6_104 x1 x2 x4 x6 x7 x8 t0 else if x0 = (2 : Int32) then if x1 = (1 : Int32) then f6_108 x1 x2 x4 x6 x7 x8 t0 else f6_104 x1 x2 x4 x6 x7 x8 t0 else f6_108 x1 x2 x4 x6 x7 x8 t0 else if x3 < x6 then (f7_0 (x6 - x3) (0 : Int32) x7 x8 t0).bind fun r189 => some (((1 : Int32) + x3) + r189) else some ((1 : Int32) + x6)
def f6_38 (x0 : Int32) (x1 : Int32) (x2 : Int32) (x3 : Int32) (x4 : Int32) (x6 : Int32) (x7 : Int32) (t0 : Int32) : Option (Int32) := if x2 = (7 : Int32) then f6_51 x0 x1 x2 x3 x4 x6 x7 t0 (2 : Int32) else f6_51 x0 x1 x2 x3 x4 x6 x7 t0 (1 : Int32)
def f6_25 (x0 : Int32) (x1 : Int32) (x2 : Int32) (x3 : Int32) (x4 : Int32) (x6 : Int32) (t0 : Int32) : Option (Int32) := if x1 = (7 : Int32) then f6_38 x0 x1 x2 x3 x4 x6 t0 (2 : Int32) else f6_38 x0 x1 x2 x3 x4 x6 t0 (1 : Int32)
def f6_0 (x0 : Int32) (x1 : Int32) (x2 : Int32) (x3 : Int32) (x4 : Int32) (x5 : Int32) : Option (Int32) := if (1 : Int32) < x5 then if x0 = (7 : Int32) then f6_25 x0 x1 x2 x3 x4 (x5 - (1 : Int32)) (2 : Int32) else f6_25 x0 x1 x2 x3 x4 (x5 - (1 : Int32)) (1 : Int32) else some (1 : Int32)
theorem d6_0 : decode method_3_code 0 = .ok (.iload 5, 2) := by decide +kernel
theorem d6_2 : decode method_3_code 2 = .ok (.iconst 1, 1) := by decide +kernel
theorem d6_3 : decode method_3_code 3 = .ok (.if_icmp .gt 5, 3) := by decide +kernel
theorem d6_6 : decode method_3_code 6 = .ok (.iconst 1, 1) := by decide +kernel
theorem d6_7 : decode method_3_code 7 = .ok (.ireturn, 1) := by decide +kernel
theorem d6_8 : decode method_3_code 8 = .ok (.iload 5, 2) := by decide +kernel
theorem d6_10 : decode method_3_code 10 = .ok (.iconst 1, 1) := by decide +kernel
theorem d6_11 : decode method_3_code 11 = .ok (.isub, 1) := by decide +kernel
theorem d6_12 : decode method_3_code 12 = .ok (.istore 6, 2) := by decide +kernel
theorem d6_14 : decode method_3_code 14 = .ok (.iload_n 0, 1) := by decide +kernel
theorem d6_15 : decode method_3_code 15 = .ok (.bipush 7, 2) := by decide +kernel
theorem d6_17 : decode method_3_code 17 = .ok (.if_icmp .ne 7, 3) := by decide +kernel
theorem d6_20 : decode method_3_code 20 = .ok (.iconst 2, 1) := by decide +kernel
theorem d6_21 : decode method_3_code 21 = .ok (.goto 4, 3) := by decide +kernel
theorem d6_24 : decode method_3_code 24 = .ok (.iconst 1, 1) := by decide +kernel
theorem d6_25 : decode method_3_code 25 = .ok (.istore 7, 2) := by decide +kernel
theorem d6_27 : decode method_3_code 27 = .ok (.iload_n 1, 1) := by decide +kernel
theorem d6_28 : decode method_3_code 28 = .ok (.bipush 7, 2) := by decide +kernel
theorem d6_30 : decode method_3_code 30 = .ok (.if_icmp .ne 7, 3) := by decide +kernel
theorem d6_33 : decode method_3_code 33 = .ok (.iconst 2, 1) := by decide +kernel
theorem d6_34 : decode method_3_code 34 = .ok (.goto 4, 3) := by decide +kernel
theorem d6_37 : decode method_3_code 37 = .ok (.iconst 1, 1) := by decide +kernel
theorem d6_38 : decode method_3_code 38 = .ok (.istore 8, 2) := by decide +kernel
theorem d6_40 : decode method_3_code 40 = .ok (.iload_n 2, 1) := by decide +kernel
theorem d6_41 : decode method_3_code 41 = .ok (.bipush 7, 2) := by decide +kernel
theorem d6_43 : decode method_3_code 43 = .ok (.if_icmp .ne 7, 3) := by decide +kernel
theorem d6_46 : decode method_3_code 46 = .ok (.iconst 2, 1) := by decide +kernel
theorem d6_47 : decode method_3_code 47 = .ok (.goto 4, 3) := by decide +kernel
theorem d6_50 : decode method_3_code 50 = .ok (.iconst 1, 1) := by decide +kernel
theorem d6_51 : decode method_3_code 51 = .ok (.istore 9, 2) := by decide +kernel
theorem d6_53 : decode method_3_code 53 = .ok (.iload 4, 2) := by decide +kernel
theorem d6_55 : decode method_3_code 55 = .ok (.iconst 1, 1) := by decide +kernel
theorem d6_56 : decode method_3_code 56 = .ok (.if_icmp .gt 33, 3) := by decide +kernel
theorem d6_59 : decode method_3_code 59 = .ok (.iload 6, 2) := by decide +kernel
theorem d6_61 : decode method_3_code 61 = .ok (.iload_n 3, 1) := by decide +kernel
theorem d6_62 : decode method_3_code 62 = .ok (.if_icmp .gt 8, 3) := by decide +kernel
theorem d6_65 : decode method_3_code 65 = .ok (.iconst 1, 1) := by decide +kernel
theorem d6_66 : decode method_3_code 66 = .ok (.iload 6, 2) := by decide +kernel
theorem d6_68 : decode method_3_code 68 = .ok (.iadd, 1) := by decide +kernel
theorem d6_69 : decode method_3_code 69 = .ok (.ireturn, 1) := by decide +kernel
theorem d6_70 : decode method_3_code 70 = .ok (.iconst 1, 1) := by decide +kernel
theorem d6_71 : decode method_3_code 71 = .ok (.iload_n 3, 1) := by decide +kernel
theorem d6_72 : decode method_3_code 72 = .ok (.iadd, 1) := by decide +kernel
theorem d6_73 : decode method_3_code 73 = .ok (.iload 6, 2) := by decide +kernel
theorem d6_75 : decode method_3_code 75 = .ok (.iload_n 3, 1) := by decide +kernel
theorem d6_76 : decode method_3_code 76 = .ok (.isub, 1) := by decide +kernel
theorem d6_77 : decode method_3_code 77 = .ok (.iconst 0, 1) := by decide +kernel
theorem d6_78 : decode method_3_code 78 = .ok (.iload 7, 2) := by decide +kernel
theorem d6_80 : decode method_3_code 80 = .ok (.iload 8, 2) := by decide +kernel
theorem d6_82 : decode method_3_code 82 = .ok (.iload 9, 2) := by decide +kernel
theorem d6_84 : decode method_3_code 84 = .ok (.invokestatic 30, 3) := by decide +kernel
theorem d6_87 : decode method_3_code 87 = .ok (.iadd, 1) := by decide +kernel
theorem d6_88 : decode method_3_code 88 = .ok (.ireturn, 1) := by decide +kernel
theorem d6_89 : decode method_3_code 89 = .ok (.iload_n 0, 1) := by decide +kernel
theorem d6_90 : decode method_3_code 90 = .ok (.iconst 1, 1) := by decide +kernel
theorem d6_91 : decode method_3_code 91 = .ok (.if_icmp .eq 13, 3) := by decide +kernel
theorem d6_94 : decode method_3_code 94 = .ok (.iload_n 0, 1) := by decide +kernel
theorem d6_95 : decode method_3_code 95 = .ok (.iconst 2, 1) := by decide +kernel
theorem d6_96 : decode method_3_code 96 = .ok (.if_icmp .ne 12, 3) := by decide +kernel
theorem d6_99 : decode method_3_code 99 = .ok (.iload_n 1, 1) := by decide +kernel
theorem d6_100 : decode method_3_code 100 = .ok (.iconst 1, 1) := by decide +kernel
theorem d6_101 : decode method_3_code 101 = .ok (.if_icmp .eq 7, 3) := by decide +kernel
theorem d6_104 : decode method_3_code 104 = .ok (.iconst 1, 1) := by decide +kernel
theorem d6_105 : decode method_3_code 105 = .ok (.goto 4, 3) := by decide +kernel
theorem d6_108 : decode method_3_code 108 = .ok (.iconst 0, 1) := by decide +kernel
theorem d6_109 : decode method_3_code 109 = .ok (.istore 10, 2) := by decide +kernel
theorem d6_111 : decode method_3_code 111 = .ok (.iload_n 1, 1) := by decide +kernel
theorem d6_112 : decode method_3_code 112 = .ok (.iconst 1, 1) := by decide +kernel
theorem d6_113 : decode method_3_code 113 = .ok (.if_icmp .eq 13, 3) := by decide +kernel
theorem d6_116 : decode method_3_code 116 = .ok (.iload_n 1, 1) := by decide +kernel
theorem d6_117 : decode method_3_code 117 = .ok (.iconst 2, 1) := by decide +kernel
theorem d6_118 : decode method_3_code 118 = .ok (.if_icmp .ne 12, 3) := by decide +kernel
theorem d6_121 : decode method_3_code 121 = .ok (.iload_n 2, 1) := by decide +kernel
theorem d6_122 : decode method_3_code 122 = .ok (.iconst 1, 1) := by decide +kernel
theorem d6_123 : decode method_3_code 123 = .ok (.if_icmp .eq 7, 3) := by decide +kernel
theorem d6_126 : decode method_3_code 126 = .ok (.iconst 1, 1) := by decide +kernel
theorem d6_127 : decode method_3_code 127 = .ok (.goto 4, 3) := by decide +kernel
theorem d6_130 : decode method_3_code 130 = .ok (.iconst 0, 1) := by decide +kernel
theorem d6_131 : decode method_3_code 131 = .ok (.istore 11, 2) := by decide +kernel
theorem d6_133 : decode method_3_code 133 = .ok (.iload_n 2, 1) := by decide +kernel
theorem d6_134 : decode method_3_code 134 = .ok (.iconst 1, 1) := by decide +kernel
theorem d6_135 : decode method_3_code 135 = .ok (.if_icmp .eq 8, 3) := by decide +kernel
theorem d6_138 : decode method_3_code 138 = .ok (.iload_n 2, 1) := by decide +kernel
theorem d6_139 : decode method_3_code 139 = .ok (.iconst 2, 1) := by decide +kernel
theorem d6_140 : decode method_3_code 140 = .ok (.if_icmp .ne 7, 3) := by decide +kernel
theorem d6_143 : decode method_3_code 143 = .ok (.iconst 1, 1) := by decide +kernel
theorem d6_144 : decode method_3_code 144 = .ok (.goto 4, 3) := by decide +kernel
theorem d6_147 : decode method_3_code 147 = .ok (.iconst 0, 1) := by decide +kernel
theorem d6_148 : decode method_3_code 148 = .ok (.istore 12, 2) := by decide +kernel
theorem d6_150 : decode method_3_code 150 = .ok (.iload 4, 2) := by decide +kernel
theorem d6_152 : decode method_3_code 152 = .ok (.iconst 1, 1) := by decide +kernel
theorem d6_153 : decode method_3_code 153 = .ok (.isub, 1) := by decide +kernel
theorem d6_154 : decode method_3_code 154 = .ok (.istore 13, 2) := by decide +kernel
theorem d6_156 : decode method_3_code 156 = .ok (.iconst 0, 1) := by decide +kernel
theorem d6_157 : decode method_3_code 157 = .ok (.istore 14, 2) := by decide +kernel
theorem d6_159 : decode method_3_code 159 = .ok (.iconst 3, 1) := by decide +kernel
theorem d6_160 : decode method_3_code 160 = .ok (.istore 15, 2) := by decide +kernel
theorem d6_162 : decode method_3_code 162 = .ok (.iload 10, 2) := by decide +kernel
theorem d6_164 : decode method_3_code 164 = .ok (.ifCond .eq 16, 3) := by decide +kernel
theorem d6_167 : decode method_3_code 167 = .ok (.iinc 14 1, 3) := by decide +kernel
theorem d6_170 : decode method_3_code 170 = .ok (.iload 14, 2) := by decide +kernel
theorem d6_172 : decode method_3_code 172 = .ok (.iload 13, 2) := by decide +kernel
theorem d6_174 : decode method_3_code 174 = .ok (.if_icmp .ne 6, 3) := by decide +kernel
theorem d6_177 : decode method_3_code 177 = .ok (.iconst 1, 1) := by decide +kernel
theorem d6_178 : decode method_3_code 178 = .ok (.istore 15, 2) := by decide +kernel
theorem d6_180 : decode method_3_code 180 = .ok (.iload 11, 2) := by decide +kernel
theorem d6_182 : decode method_3_code 182 = .ok (.ifCond .eq 16, 3) := by decide +kernel
theorem d6_185 : decode method_3_code 185 = .ok (.iinc 14 1, 3) := by decide +kernel
theorem d6_188 : decode method_3_code 188 = .ok (.iload 14, 2) := by decide +kernel
theorem d6_190 : decode method_3_code 190 = .ok (.iload 13, 2) := by decide +kernel
theorem d6_192 : decode method_3_code 192 = .ok (.if_icmp .ne 6, 3) := by decide +kernel
theorem d6_195 : decode method_3_code 195 = .ok (.iconst 2, 1) := by decide +kernel
theorem d6_196 : decode method_3_code 196 = .ok (.istore 15, 2) := by decide +kernel
theorem d6_198 : decode method_3_code 198 = .ok (.iload 12, 2) := by decide +kernel
theorem d6_200 : decode method_3_code 200 = .ok (.ifCond .eq 16, 3) := by decide +kernel
theorem d6_203 : decode method_3_code 203 = .ok (.iinc 14 1, 3) := by decide +kernel
theorem d6_206 : decode method_3_code 206 = .ok (.iload 14, 2) := by decide +kernel
theorem d6_208 : decode method_3_code 208 = .ok (.iload 13, 2) := by decide +kernel
theorem d6_210 : decode method_3_code 210 = .ok (.if_icmp .ne 6, 3) := by decide +kernel
theorem d6_213 : decode method_3_code 213 = .ok (.iconst 3, 1) := by decide +kernel
theorem d6_214 : decode method_3_code 214 = .ok (.istore 15, 2) := by decide +kernel
theorem d6_216 : decode method_3_code 216 = .ok (.iconst 1, 1) := by decide +kernel
theorem d6_217 : decode method_3_code 217 = .ok (.iload 6, 2) := by decide +kernel
theorem d6_219 : decode method_3_code 219 = .ok (.iload 15, 2) := by decide +kernel
theorem d6_221 : decode method_3_code 221 = .ok (.iload 7, 2) := by decide +kernel
theorem d6_223 : decode method_3_code 223 = .ok (.iload 8, 2) := by decide +kernel
theorem d6_225 : decode method_3_code 225 = .ok (.iload 9, 2) := by decide +kernel
theorem d6_227 : decode method_3_code 227 = .ok (.invokestatic 30, 3) := by decide +kernel
theorem d6_230 : decode method_3_code 230 = .ok (.iadd, 1) := by decide +kernel
theorem d6_231 : decode method_3_code 231 = .ok (.ireturn, 1) := by decide +kernel
abbrev Y6 : MethodName := ⟨"com/example/yarrow/yarrow/data/StartTagsColumnOfPinLaw", "expected", "(IIIIII)I"⟩
def RM6 : Room := { frames := 1, cells := 0, slots := 0, locals := 18 }
theorem pd_6 : parseMethodDescriptor Y6.desc = some ⟨[.int, .int, .int, .int, .int, .int], some .int⟩ := by decide +kernel
theorem pn_6 : plainName "com/example/yarrow/yarrow/data/StartTagsColumnOfPinLaw" = true := by first | (simp [plainName, overriddenIn]; done) | decide +kernel
theorem ef_6 (m : MethodId) (x0 : Int32) (x1 : Int32) (x2 : Int32) (x3 : Int32) (x4 : Int32) (x5 : Int32) : entryFrame m #[.int x0, .int x1, .int x2, .int x3, .int x4, .int x5] 16 = mkF m 0 #[.val (.int x0), .val (.int x1), .val (.int x2), .val (.int x3), .val (.int x4), .val (.int x5), .unset, .unset, .unset, .unset, .unset, .unset, .unset, .unset, .unset, .unset] [] := by first | (simp [entryFrame, mkF, argsToLocals, Value.category]; done) | rfl
set_option maxRecDepth 65536 in
set_option maxHeartbeats 40000000 in
theorem rm6 (l : Launch) (Z : State) (a0 : Array Value) (hw : ∀ d ∈ tables_1, d.before a0 Z = true) (x0 : Int32) (x1 : Int32) (x2 : Int32) (x3 : Int32) (x4 : Int32) (x5 : Int32)  (h0 : Heap) (r : Int32) (hf : f6_0 x0 x1 x2 x3 x4 x5 = some r)  :
    MetFree l Y6 (head1 ([Jvm.Cond.code Y6 method_3_code 16 (some .int)]) RM6) (fun a U => a = #[.int x0, .int x1, .int x2, .int x3, .int x4, .int x5] ∧ Z.Warmed39 U.vm ∧ U.heap = h0) (fun _ _ _ _ _ => True) (fun _ U o U' => ∃ v L, o = .returned v ∧ (PQ h0 (some (.int r))) v U'.heap L ∧ FrameEnd U o U' L RM6.cells RM6.slots) := by
  refine MetFree.of_bodySF (plainFor_of_name pn_6) hisR ?_
  intro p e s m args below meth c s₁ Bd hml0 hP hK
  obtain ⟨rfl, hZ, hh⟩ := hP
  have hx := Bd.exec
  have hby := Bd.bytes
  have hlk : meth.locks = false := BodyLoose.notSynchronized Bd
  have hret := Bd.returns
  have hml : c.maxLocals = 16 := hml0
  have hown : s.vm.findClass "com/example/yarrow/yarrow/data/StartTagsColumnOfPinLaw" = some m.cls := findClass_of_methodNamed Bd.named
  have X0 : Stand p l e RM6 s m #[.int x0, .int x1, .int x2, .int x3, .int x4, .int x5] below meth c s₁ [] 0 0 := Stand.of_body Bd
  have e0 : s₁.heap = h0 := by rw [← hh, Bd.state]; rfl
  suffices G : Go p e below s RM6.cells RM6.slots (PQ h0 (some (.int r))) m s₁ 0 #[.val (.int x0), .val (.int x1), .val (.int x2), .val (.int x3), .val (.int x4), .val (.int x5), .unset, .unset, .unset, .unset, .unset, .unset, .unset, .unset, .unset, .unset] [] by
    obtain ⟨s₂, o, h1, h2⟩ := G
    exact ⟨s₂, o, castTop (ef_6 m x0 x1 x2 x3 x4 x5) h1, h2⟩
  have hf0 := hf
  clear hf
  have B216 : ∀ (T : State), Stand p l e RM6 s m #[.int x0, .int x1, .int x2, .int x3, .int x4, .int x5] below meth c T [] 0 0 → T.heap = h0 → ∀ (x0 : Int32) (x1 : Int32) (x2 : Int32) (x3 : Int32) (x4 : Int32) (x5 : Int32) (x6 : Int32) (x7 : Int32) (x8 : Int32) (x9 : Int32) (x10 : Int32) (x11 : Int32) (x12 : Int32) (x13 : Int32) (x14 : Int32) (x15 : Int32), f6_216 x6 x7 x8 x9 x15 = some r → Go p e below s RM6.cells RM6.slots (PQ h0 (some (.int r))) m T 216 #[.val (.int x0), .val (.int x1), .val (.int x2), .val (.int x3), .val (.int x4), .val (.int x5), .val (.int x6), .val (.int x7), .val (.int x8), .val (.int x9), .val (.int x10), .val (.int x11), .val (.int x12), .val (.int x13), .val (.int x14), .val (.int x15)] [] := by
    intro T194 X194 e194 x0 x1 x2 x3 x4 x5 x6 x7 x8 x9 x10 x11 x12 x13 x14 x15 hf
    unfold f6_216 at hf
    refine Go.iconst X194 hx hby (v := (1 : Int32)) d6_216 rfl rfl ?_
    refine Go.iload X194 hx hby (v := x6) d6_217 rfl rfl ?_
    refine Go.iload X194 hx hby (v := x15) d6_219 rfl rfl ?_
    refine Go.iload X194 hx hby (v := x7) d6_221 rfl rfl ?_
    refine Go.iload X194 hx hby (v := x8) d6_223 rfl rfl ?_
    refine Go.iload X194 hx hby (v := x9) d6_225 rfl rfl ?_
    obtain ⟨r195, g195, hf⟩ := Option.bind_eq_some_iff.mp hf
    refine Go.callSP X194 hx hby hZ (by rw [hml]; rfl) (W := 1) (argsL := [.int x6, .int x15, .int x7, .int x8, .int x9]) (rest := [.int (1 : Int32)]) hown (hw _ (List.mem_of_getElem? (i := 37) rfl)) (hw _ (List.mem_of_getElem? (i := 38) rfl)) (hw _ (List.mem_of_getElem? (i := 2) rfl)) (hw _ (List.mem_of_getElem? (i := 39) rfl)) (by decide) (rm7 l Z a0 hw x6 x15 x7 x8 x9  h0 r195 g195 ) (by decide) (by decide) e194 pd_7 rfl rfl rfl (Nat.le_of_eq rfl) rfl rfl (by decide) (by decide) d6_227 rfl (fun T195 X195 e195 => ?_)
    refine Go.iadd X195 hx hby d6_230 rfl ?_
    exact Go.iretI X195 hx hby hlk hret d6_231 (by decide) (by decide) ⟨congrArg (fun z => some (Value.int z)) (Option.some.inj hf), rfl, e195⟩
  have B198 : ∀ (T : State), Stand p l e RM6 s m #[.int x0, .int x1, .int x2, .int x3, .int x4, .int x5] below meth c T [] 0 0 → T.heap = h0 → ∀ (x0 : Int32) (x1 : Int32) (x2 : Int32) (x3 : Int32) (x4 : Int32) (x5 : Int32) (x6 : Int32) (x7 : Int32) (x8 : Int32) (x9 : Int32) (x10 : Int32) (x11 : Int32) (x12 : Int32) (x13 : Int32) (x14 : Int32) (x15 : Int32), f6_198 x6 x7 x8 x9 x12 x13 x14 x15 = some r → Go p e below s RM6.cells RM6.slots (PQ h0 (some (.int r))) m T 198 #[.val (.int x0), .val (.int x1), .val (.int x2), .val (.int x3), .val (.int x4), .val (.int x5), .val (.int x6), .val (.int x7), .val (.int x8), .val (.int x9), .val (.int x10), .val (.int x11), .val (.int x12), .val (.int x13), .val (.int x14), .val (.int x15)] [] := by
    intro T196 X196 e196 x0 x1 x2 x3 x4 x5 x6 x7 x8 x9 x10 x11 x12 x13 x14 x15 hf
    unfold f6_198 at hf
    refine Go.iload X196 hx hby (v := x12) d6_198 rfl rfl ?_
    refine Go.if_eq X196 hx hby (pc' := 216) d6_200 (by decide) (by decide) rfl (fun hc197 => ?_) (fun hc197 => ?_)
    · replace hf := (if_pos hc197).symm.trans hf
      exact B216 T196 X196 e196 x0 x1 x2 x3 x4 x5 x6 x7 x8 x9 x10 x11 x12 x13 x14 x15 hf
    · replace hf := (if_neg hc197).symm.trans hf
      refine Go.iinc X196 hx hby (x := x14) (v := (1 : Int32)) (Ls' := #[.val (.int x0), .val (.int x1), .val (.int x2), .val (.int x3), .val (.int x4), .val (.int x5), .val (.int x6), .val (.int x7), .val (.int x8), .val (.int x9), .val (.int x10), .val (.int x11), .val (.int x12), .val (.int x13), .val (.int (x14 + (1 : Int32))), .val (.int x15)]) d6_203 rfl rfl rfl rfl ?_
      refine Go.iload X196 hx hby (v := (x14 + (1 : Int32))) d6_206 rfl rfl ?_
      refine Go.iload X196 hx hby (v := x13) d6_208 rfl rfl ?_
      refine Go.icmp_ne X196 hx hby (pc' := 216) d6_210 (by decide) (by decide) rfl (fun hc198 => ?_) (fun hc198 => ?_)
      · replace hf := (if_neg hc198).symm.trans hf
        exact B216 T196 X196 e196 x0 x1 x2 x3 x4 x5 x6 x7 x8 x9 x10 x11 x12 x13 (x14 + (1 : Int32)) x15 hf
      · replace hf := (if_pos hc198).symm.trans hf
        refine Go.iconst X196 hx hby (v := (3 : Int32)) d6_213 rfl rfl ?_
        refine Go.istore X196 hx hby (Ls' := #[.val (.int x0), .val (.int x1), .val (.int x2), .val (.int x3), .val (.int x4), .val (.int x5), .val (.int x6), .val (.int x7), .val (.int x8), .val (.int x9), .val (.int x10), .val (.int x11), .val (.int x12), .val (.int x13), .val (.int (x14 + (1 : Int32))), .val (.int (3 : Int32))]) d6_214 rfl rfl ?_
        exact B216 T196 X196 e196 x0 x1 x2 x3 x4 x5 x6 x7 x8 x9 x10 x11 x12 x13 (x14 + (1 : Int32)) (3 : Int32) hf
  have B180 : ∀ (T : State), Stand p l e RM6 s m #[.int x0, .int x1, .int x2, .int x3, .int x4, .int x5] below meth c T [] 0 0 → T.heap = h0 → ∀ (x0 : Int32) (x1 : Int32) (x2 : Int32) (x3 : Int32) (x4 : Int32) (x5 : Int32) (x6 : Int32) (x7 : Int32) (x8 : Int32) (x9 : Int32) (x10 : Int32) (x11 : Int32) (x12 : Int32) (x13 : Int32) (x14 : Int32) (x15 : Int32), f6_180 x6 x7 x8 x9 x11 x12 x13 x14 x15 = some r → Go p e below s RM6.cells RM6.slots (PQ h0 (some (.int r))) m T 180 #[.val (.int x0), .val (.int x1), .val (.int x2), .val (.int x3), .val (.int x4), .val (.int x5), .val (.int x6), .val (.int x7), .val (.int x8), .val (.int x9), .val (.int x10), .val (.int x11), .val (.int x12), .val (.int x13), .val (.int x14), .val (.int x15)] [] := by
    intro T199 X199 e199 x0 x1 x2 x3 x4 x5 x6 x7 x8 x9 x10 x11 x12 x13 x14 x15 hf
    unfold f6_180 at hf
    refine Go.iload X199 hx hby (v := x11) d6_180 rfl rfl ?_
    refine Go.if_eq X199 hx hby (pc' := 198) d6_182 (by decide) (by decide) rfl (fun hc200 => ?_) (fun hc200 => ?_)
    · replace hf := (if_pos hc200).symm.trans hf
      exact B198 T199 X199 e199 x0 x1 x2 x3 x4 x5 x6 x7 x8 x9 x10 x11 x12 x13 x14 x15 hf
    · replace hf := (if_neg hc200).symm.trans hf
      refine Go.iinc X199 hx hby (x := x14) (v := (1 : Int32)) (Ls' := #[.val (.int x0), .val (.int x1), .val (.int x2), .val (.int x3), .val (.int x4), .val (.int x5), .val (.int x6), .val (.int x7), .val (.int x8), .val (.int x9), .val (.int x10), .val (.int x11), .val (.int x12), .val (.int x13), .val (.int (x14 + (1 : Int32))), .val (.int x15)]) d6_185 rfl rfl rfl rfl ?_
      refine Go.iload X199 hx hby (v := (x14 + (1 : Int32))) d6_188 rfl rfl ?_
      refine Go.iload X199 hx hby (v := x13) d6_190 rfl rfl ?_
      refine Go.icmp_ne X199 hx hby (pc' := 198) d6_192 (by decide) (by decide) rfl (fun hc201 => ?_) (fun hc201 => ?_)
      · replace hf := (if_neg hc201).symm.trans hf
        exact B198 T199 X199 e199 x0 x1 x2 x3 x4 x5 x6 x7 x8 x9 x10 x11 x12 x13 (x14 + (1 : Int32)) x15 hf
      · replace hf := (if_pos hc201).symm.trans hf
        refine Go.iconst X199 hx hby (v := (2 : Int32)) d6_195 rfl rfl ?_
        refine Go.istore X199 hx hby (Ls' := #[.val (.int x0), .val (.int x1), .val (.int x2), .val (.int x3), .val (.int x4), .val (.int x5), .val (.int x6), .val (.int x7), .val (.int x8), .val (.int x9), .val (.int x10), .val (.int x11), .val (.int x12), .val (.int x13), .val (.int (x14 + (1 : Int32))), .val (.int (2 : Int32))]) d6_196 rfl rfl ?_
        exact B198 T199 X199 e199 x0 x1 x2 x3 x4 x5 x6 x7 x8 x9 x10 x11 x12 x13 (x14 + (1 : Int32)) (2 : Int32) hf
  have B148 : ∀ (T : State), Stand p l e RM6 s m #[.int x0, .int x1, .int x2, .int x3, .int x4, .int x5] below meth c T [] 0 0 → T.heap = h0 → ∀ (x0 : Int32) (x1 : Int32) (x2 : Int32) (x3 : Int32) (x4 : Int32) (x5 : Int32) (x6 : Int32) (x7 : Int32) (x8 : Int32) (x9 : Int32) (x10 : Int32) (x11 : Int32) (t0 : Int32), f6_148 x4 x6 x7 x8 x9 x10 x11 t0 = some r → Go p e below s RM6.cells RM6.slots (PQ h0 (some (.int r))) m T 148 #[.val (.int x0), .val (.int x1), .val (.int x2), .val (.int x3), .val (.int x4), .val (.int x5), .val (.int x6), .val (.int x7), .val (.int x8), .val (.int x9), .val (.int x10), .val (.int x11), .unset, .unset, .unset, .unset] [.int t0] := by
    intro T202 X202 e202 x0 x1 x2 x3 x4 x5 x6 x7 x8 x9 x10 x11 t0 hf
    unfold f6_148 at hf
    refine Go.istore X202 hx hby (Ls' := #[.val (.int x0), .val (.int x1), .val (.int x2), .val (.int x3), .val (.int x4), .val (.int x5), .val (.int x6), .val (.int x7), .val (.int x8), .val (.int x9), .val (.int x10), .val (.int x11), .val (.int t0), .unset, .unset, .unset]) d6_148 rfl rfl ?_
    refine Go.iload X202 hx hby (v := x4) d6_150 rfl rfl ?_
    refine Go.iconst X202 hx hby (v := (1 : Int32)) d6_152 rfl rfl ?_
    refine Go.isub X202 hx hby d6_153 rfl ?_
    refine Go.istore X202 hx hby (Ls' := #[.val (.int x0), .val (.int x1), .val (.int x2), .val (.int x3), .val (.int x4), .val (.int x5), .val (.int x6), .val (.int x7), .val (.int x8), .val (.int x9), .val (.int x10), .val (.int x11), .val (.int t0), .val (.int (x4 - (1 : Int32))), .unset, .unset]) d6_154 rfl rfl ?_
    refine Go.iconst X202 hx hby (v := (0 : Int32)) d6_156 rfl rfl ?_
    refine Go.istore X202 hx hby (Ls' := #[.val (.int x0), .val (.int x1), .val (.int x2), .val (.int x3), .val (.int x4), .val (.int x5), .val (.int x6), .val (.int x7), .val (.int x8), .val (.int x9), .val (.int x10), .val (.int x11), .val (.int t0), .val (.int (x4 - (1 : Int32))), .val (.int (0 : Int32)), .unset]) d6_157 rfl rfl ?_
    refine Go.iconst X202 hx hby (v := (3 : Int32)) d6_159 rfl rfl ?_
    refine Go.istore X202 hx hby (Ls' := #[.val (.int x0), .val (.int x1), .val (.int x2), .val (.int x3), .val (.int x4), .val (.int x5), .val (.int x6), .val (.int x7), .val (.int x8), .val (.int x9), .val (.int x10), .val (.int x11), .val (.int t0), .val (.int (x4 - (1 : Int32))), .val (.int (0 : Int32)), .val (.int (3 : Int32))]) d6_160 rfl rfl ?_
    refine Go.iload X202 hx hby (v := x10) d6_162 rfl rfl ?_
    refine Go.if_eq X202 hx hby (pc' := 180) d6_164 (by decide) (by decide) rfl (fun hc203 => ?_) (fun hc203 => ?_)
    · replace hf := (if_pos hc203).symm.trans hf
      exact B180 T202 X202 e202 x0 x1 x2 x3 x4 x5 x6 x7 x8 x9 x10 x11 t0 (x4 - (1 : Int32)) (0 : Int32) (3 : Int32) hf
    · replace hf := (if_neg hc203).symm.trans hf
      refine Go.iinc X202 hx hby (x := (0 : Int32)) (v := (1 : Int32)) (Ls' := #[.val (.int x0), .val (.int x1), .val (.int x2), .val (.int x3), .val (.int x4), .val (.int x5), .val (.int x6), .val (.int x7), .val (.int x8), .val (.int x9), .val (.int x10), .val (.int x11), .val (.int t0), .val (.int (x4 - (1 : Int32))), .val (.int ((0 : Int32) + (1 : Int32))), .val (.int (3 : Int32))]) d6_167 rfl rfl rfl rfl ?_
      refine Go.iload X202 hx hby (v := ((0 : Int32) + (1 : Int32))) d6_170 rfl rfl ?_
      refine Go.iload X202 hx hby (v := (x4 - (1 : Int32))) d6_172 rfl rfl ?_
      refine Go.icmp_ne X202 hx hby (pc' := 180) d6_174 (by decide) (by decide) rfl (fun hc204 => ?_) (fun hc204 => ?_)
      · replace hf := (if_neg hc204).symm.trans hf
        exact B180 T202 X202 e202 x0 x1 x2 x3 x4 x5 x6 x7 x8 x9 x10 x11 t0 (x4 - (1 : Int32)) ((0 : Int32) + (1 : Int32)) (3 : Int32) hf
      · replace hf := (if_pos hc204).symm.trans hf
        refine Go.iconst X202 hx hby (v := (1 : Int32)) d6_177 rfl rfl ?_
        refine Go.istore X202 hx hby (Ls' := #[.val (.int x0), .val (.int x1), .val (.int x2), .val (.int x3), .val (.int x4), .val (.int x5), .val (.int x6), .val (.int x7), .val (.int x8), .val (.int x9), .val (.int x10), .val (.int x11), .val (.int t0), .val (.int (x4 - (1 : Int32))), .val (.int ((0 : Int32) + (1 : Int32))), .val (.int (1 : Int32))]) d6_178 rfl rfl ?_
        exact B180 T202 X202 e202 x0 x1 x2 x3 x4 x5 x6 x7 x8 x9 x10 x11 t0 (x4 - (1 : Int32)) ((0 : Int32) + (1 : Int32)) (1 : Int32) hf
  have B143 : ∀ (T : State), Stand p l e RM6 s m #[.int x0, .int x1, .int x2, .int x3, .int x4, .int x5] below meth c T [] 0 0 → T.heap = h0 → ∀ (x0 : Int32) (x1 : Int32) (x2 : Int32) (x3 : Int32) (x4 : Int32) (x5 : Int32) (x6 : Int32) (x7 : Int32) (x8 : Int32) (x9 : Int32) (x10 : Int32) (x11 : Int32), f6_143 x4 x6 x7 x8 x9 x10 x11 = some r → Go p e below s RM6.cells RM6.slots (PQ h0 (some (.int r))) m T 143 #[.val (.int x0), .val (.int x1), .val (.int x2), .val (.int x3), .val (.int x4), .val (.int x5), .val (.int x6), .val (.int x7), .val (.int x8), .val (.int x9), .val (.int x10), .val (.int x11), .unset, .unset, .unset, .unset] [] := by
    intro T205 X205 e205 x0 x1 x2 x3 x4 x5 x6 x7 x8 x9 x10 x11 hf
    unfold f6_143 at hf
    refine Go.iconst X205 hx hby (v := (1 : Int32)) d6_143 rfl rfl ?_
    refine Go.goto X205 hx hby (pc' := 148) d6_144 (by decide) (by decide) ?_
    exact B148 T205 X205 e205 x0 x1 x2 x3 x4 x5 x6 x7 x8 x9 x10 x11 (1 : Int32) hf
  have B131 : ∀ (T : State), Stand p l e RM6 s m #[.int x0, .int x1, .int x2, .int x3, .int x4, .int x5] below meth c T [] 0 0 → T.heap = h0 → ∀ (x0 : Int32) (x1 : Int32) (x2 : Int32) (x3 : Int32) (x4 : Int32) (x5 : Int32) (x6 : Int32) (x7 : Int32) (x8 : Int32) (x9 : Int32) (x10 : Int32) (t0 : Int32), f6_131 x2 x4 x6 x7 x8 x9 x10 t0 = some r → Go p e below s RM6.cells RM6.slots (PQ h0 (some (.int r))) m T 131 #[.val (.int x0), .val (.int x1), .val (.int x2), .val (.int x3), .val (.int x4), .val (.int x5), .val (.int x6), .val (.int x7), .val (.int x8), .val (.int x9), .val (.int x10), .unset, .unset, .unset, .unset, .unset] [.int t0] := by
    intro T206 X206 e206 x0 x1 x2 x3 x4 x5 x6 x7 x8 x9 x10 t0 hf
    unfold f6_131 at hf
    refine Go.istore X206 hx hby (Ls' := #[.val (.int x0), .val (.int x1), .val (.int x2), .val (.int x3), .val (.int x4), .val (.int x5), .val (.int x6), .val (.int x7), .val (.int x8), .val (.int x9), .val (.int x10), .val (.int t0), .unset, .unset, .unset, .unset]) d6_131 rfl rfl ?_
    refine Go.iloadN X206 hx hby (v := x2) d6_133 rfl rfl ?_
    refine Go.iconst X206 hx hby (v := (1 : Int32)) d6_134 rfl rfl ?_
    refine Go.icmp_eq X206 hx hby (pc' := 143) d6_135 (by decide) (by decide) rfl (fun hc207 => ?_) (fun hc207 => ?_)
    · replace hf := (if_pos hc207).symm.trans hf
      exact B143 T206 X206 e206 x0 x1 x2 x3 x4 x5 x6 x7 x8 x9 x10 t0 hf
    · replace hf := (if_neg hc207).symm.trans hf
      refine Go.iloadN X206 hx hby (v := x2) d6_138 rfl rfl ?_
      refine Go.iconst X206 hx hby (v := (2 : Int32)) d6_139 rfl rfl ?_
      refine Go.icmp_ne X206 hx hby (pc' := 147) d6_140 (by decide) (by decide) rfl (fun hc208 => ?_) (fun hc208 => ?_)
      · replace hf := (if_neg hc208).symm.trans hf
        refine Go.iconst X206 hx hby (v := (0 : Int32)) d6_147 rfl rfl ?_
        exact B148 T206 X206 e206 x0 x1 x2 x3 x4 x5 x6 x7 x8 x9 x10 t0 (0 : Int32) hf
      · replace hf := (if_pos hc208).symm.trans hf
        exact B143 T206 X206 e206 x0 x1 x2 x3 x4 x5 x6 x7 x8 x9 x10 t0 hf
  have B126 : ∀ (T : State), Stand p l e RM6 s m #[.int x0, .int x1, .int x2, .int x3, .int x4, .int x5] below meth c T [] 0 0 → T.heap = h0 → ∀ (x0 : Int32) (x1 : Int32) (x2 : Int32) (x3 : Int32) (x4 : Int32) (x5 : Int32) (x6 : Int32) (x7 : Int32) (x8 : Int32) (x9 : Int32) (x10 : Int32), f6_126 x2 x4 x6 x7 x8 x9 x10 = some r → Go p e below s RM6.cells RM6.slots (PQ h0 (some (.int r))) m T 126 #[.val (.int x0), .val (.int x1), .val (.int x2), .val (.int x3), .val (.int x4), .val (.int x5), .val (.int x6), .val (.int x7), .val (.int x8), .val (.int x9), .val (.int x10), .unset, .unset, .unset, .unset, .unset] [] := by
    intro T209 X209 e209 x0 x1 x2 x3 x4 x5 x6 x7 x8 x9 x10 hf
    unfold f6_126 at hf
    refine Go.iconst X209 hx hby (v := (1 : Int32)) d6_126 rfl rfl ?_
    refine Go.goto X209 hx hby (pc' := 131) d6_127 (by decide) (by decide) ?_
    exact B131 T209 X209 e209 x0 x1 x2 x3 x4 x5 x6 x7 x8 x9 x10 (1 : Int32) hf
  have B130 : ∀ (T : State), Stand p l e RM6 s m #[.int x0, .int x1, .int x2, .int x3, .int x4, .int x5] below meth c T [] 0 0 → T.heap = h0 → ∀ (x0 : Int32) (x1 : Int32) (x2 : Int32) (x3 : Int32) (x4 : Int32) (x5 : Int32) (x6 : Int32) (x7 : Int32) (x8 : Int32) (x9 : Int32) (x10 : Int32), f6_130 x2 x4 x6 x7 x8 x9 x10 = some r → Go p e below s RM6.cells RM6.slots (PQ h0 (some (.int r))) m T 130 #[.val (.int x0), .val (.int x1), .val (.int x2), .val (.int x3), .val (.int x4), .val (.int x5), .val (.int x6), .val (.int x7), .val (.int x8), .val (.int x9), .val (.int x10), .unset, .unset, .unset, .unset, .unset] [] := by
    intro T210 X210 e210 x0 x1 x2 x3 x4 x5 x6 x7 x8 x9 x10 hf
    unfold f6_130 at hf
    refine Go.iconst X210 hx hby (v := (0 : Int32)) d6_130 rfl rfl ?_
    exact B131 T210 X210 e210 x0 x1 x2 x3 x4 x5 x6 x7 x8 x9 x10 (0 : Int32) hf
  have B109 : ∀ (T : State), Stand p l e RM6 s m #[.int x0, .int x1, .int x2, .int x3, .int x4, .int x5] below meth c T [] 0 0 → T.heap = h0 → ∀ (x0 : Int32) (x1 : Int32) (x2 : Int32) (x3 : Int32) (x4 : Int32) (x5 : Int32) (x6 : Int32) (x7 : Int32) (x8 : Int32) (x9 : Int32) (t0 : Int32), f6_109 x1 x2 x4 x6 x7 x8 x9 t0 = some r → Go p e below s RM6.cells RM6.slots (PQ h0 (some (.int r))) m T 109 #[.val (.int x0), .val (.int x1), .val (.int x2), .val (.int x3), .val (.int x4), .val (.int x5), .val (.int x6), .val (.int x7), .val (.int x8), .val (.int x9), .unset, .unset, .unset, .unset, .unset, .unset] [.int t0] := by
    intro T211 X211 e211 x0 x1 x2 x3 x4 x5 x6 x7 x8 x9 t0 hf
    unfold f6_109 at hf
    refine Go.istore X211 hx hby (Ls' := #[.val (.int x0), .val (.int x1), .val (.int x2), .val (.int x3), .val (.int x4), .val (.int x5), .val (.int x6), .val (.int x7), .val (.int x8), .val (.int x9), .val (.int t0), .unset, .unset, .unset, .unset, .unset]) d6_109 rfl rfl ?_
    refine Go.iloadN X211 hx hby (v := x1) d6_111 rfl rfl ?_
    refine Go.iconst X211 hx hby (v := (1 : Int32)) d6_112 rfl rfl ?_
    refine Go.icmp_eq X211 hx hby (pc' := 126) d6_113 (by decide) (by decide) rfl (fun hc212 => ?_) (fun hc212 => ?_)
    · replace hf := (if_pos hc212).symm.trans hf
      exact B126 T211 X211 e211 x0 x1 x2 x3 x4 x5 x6 x7 x8 x9 t0 hf
    · replace hf := (if_neg hc212).symm.trans hf
      refine Go.iloadN X211 hx hby (v := x1) d6_116 rfl rfl ?_
      refine Go.iconst X211 hx hby (v := (2 : Int32)) d6_117 rfl rfl ?_
      refine Go.icmp_ne X211 hx hby (pc' := 130) d6_118 (by decide) (by decide) rfl (fun hc213 => ?_) (fun hc213 => ?_)
      · replace hf := (if_neg hc213).symm.trans hf
        exact B130 T211 X211 e211 x0 x1 x2 x3 x4 x5 x6 x7 x8 x9 t0 hf
      · replace hf := (if_pos hc213).symm.trans hf
        refine Go.iloadN X211 hx hby (v := x2) d6_121 rfl rfl ?_
        refine Go.iconst X211 hx hby (v := (1 : Int32)) d6_122 rfl rfl ?_
        refine Go.icmp_eq X211 hx hby (pc' := 130) d6_123 (by decide) (by decide) rfl (fun hc214 => ?_) (fun hc214 => ?_)
        · replace hf := (if_pos hc214).symm.trans hf
          exact B130 T211 X211 e211 x0 x1 x2 x3 x4 x5 x6 x7 x8 x9 t0 hf
        · replace hf := (if_neg hc214).symm.trans hf
          exact B126 T211 X211 e211 x0 x1 x2 x3 x4 x5 x6 x7 x8 x9 t0 hf
  have B104 : ∀ (T : State), Stand p l e RM6 s m #[.int x0, .int x1, .int x2, .int x3, .int x4, .int x5] below meth c T [] 0 0 → T.heap = h0 → ∀ (x0 : Int32) (x1 : Int32) (x2 : Int32) (x3 : Int32) (x4 : Int32) (x5 : Int32) (x6 : Int32) (x7 : Int32) (x8 : Int32) (x9 : Int32), f6_104 x1 x2 x4 x6 x7 x8 x9 = some r → Go p e below s RM6.cells RM6.slots (PQ h0 (some (.int r))) m T 104 #[.val (.int x0), .val (.int x1), .val (.int x2), .val (.int x3), .val (.int x4), .val (.int x5), .val (.int x6), .val (.int x7), .val (.int x8), .val (.int x9), .unset, .unset, .unset, .unset, .unset, .unset] [] := by
    intro T215 X215 e215 x0 x1 x2 x3 x4 x5 x6 x7 x8 x9 hf
    unfold f6_104 at hf
    refine Go.iconst X215 hx hby (v := (1 : Int32)) d6_104 rfl rfl ?_
    refine Go.goto X215 hx hby (pc' := 109) d6_105 (by decide) (by decide) ?_
    exact B109 T215 X215 e215 x0 x1 x2 x3 x4 x5 x6 x7 x8 x9 (1 : Int32) hf
  have B108 : ∀ (T : State), Stand p l e RM6 s m #[.int x0, .int x1, .int x2, .int x3, .int x4, .int x5] below meth c T [] 0 0 → T.heap = h0 → ∀ (x0 : Int32) (x1 : Int32) (x2 : Int32) (x3 : Int32) (x4 : Int32) (x5 : Int32) (x6 : Int32) (x7 : Int32) (x8 : Int32) (x9 : Int32), f6_108 x1 x2 x4 x6 x7 x8 x9 = some r → Go p e below s RM6.cells RM6.slots (PQ h0 (some (.int r))) m T 108 #[.val (.int x0), .val (.int x1), .val (.int x2), .val (.int x3), .val (.int x4), .val (.int x5), .val (.int x6), .val (.int x7), .val (.int x8), .val (.int x9), .unset, .unset, .unset, .unset, .unset, .unset] [] := by
    intro T216 X216 e216 x0 x1 x2 x3 x4 x5 x6 x7 x8 x9 hf
    unfold f6_108 at hf
    refine Go.iconst X216 hx hby (v := (0 : Int32)) d6_108 rfl rfl ?_
    exact B109 T216 X216 e216 x0 x1 x2 x3 x4 x5 x6 x7 x8 x9 (0 : Int32) hf
  have B51 : ∀ (T : State), Stand p l e RM6 s m #[.int x0, .int x1, .int x2, .int x3, .int x4, .int x5] below meth c T [] 0 0 → T.heap = h0 → ∀ (x0 : Int32) (x1 : Int32) (x2 : Int32) (x3 : Int32) (x4 : Int32) (x5 : Int32) (x6 : Int32) (x7 : Int32) (x8 : Int32) (t0 : Int32), f6_51 x0 x1 x2 x3 x4 x6 x7 x8 t0 = some r → Go p e below s RM6.cells RM6.slots (PQ h0 (some (.int r))) m T 51 #[.val (.int x0), .val (.int x1), .val (.int x2), .val (.int x3), .val (.int x4), .val (.int x5), .val (.int x6), .val (.int x7), .val (.int x8), .unset, .unset, .unset, .unset, .unset, .unset, .unset] [.int t0] := by
    intro T217 X217 e217 x0 x1 x2 x3 x4 x5 x6 x7 x8 t0 hf
    unfold f6_51 at hf
    refine Go.istore X217 hx hby (Ls' := #[.val (.int x0), .val (.int x1), .val (.int x2), .val (.int x3), .val (.int x4), .val (.int x5), .val (.int x6), .val (.int x7), .val (.int x8), .val (.int t0), .unset, .unset, .unset, .unset, .unset, .unset]) d6_51 rfl rfl ?_
    refine Go.iload X217 hx hby (v := x4) d6_53 rfl rfl ?_
    refine Go.iconst X217 hx hby (v := (1 : Int32)) d6_55 rfl rfl ?_
    refine Go.icmp_gt X217 hx hby (pc' := 89) d6_56 (by decide) (by decide) rfl (fun hc218 => ?_) (fun hc218 => ?_)
    · replace hf := (if_pos hc218).symm.trans hf
      refine Go.iloadN X217 hx hby (v := x0) d6_89 rfl rfl ?_
      refine Go.iconst X217 hx hby (v := (1 : Int32)) d6_90 rfl rfl ?_
      refine Go.icmp_eq X217 hx hby (pc' := 104) d6_91 (by decide) (by decide) rfl (fun hc219 => ?_) (fun hc219 => ?_)
      · replace hf := (if_pos hc219).symm.trans hf
        exact B104 T217 X217 e217 x0 x1 x2 x3 x4 x5 x6 x7 x8 t0 hf
      · replace hf := (if_neg hc219).symm.trans hf
        refine Go.iloadN X217 hx hby (v := x0) d6_94 rfl rfl ?_
        refine Go.iconst X217 hx hby (v := (2 : Int32)) d6_95 rfl rfl ?_
        refine Go.icmp_ne X217 hx hby (pc' := 108) d6_96 (by decide) (by decide) rfl (fun hc220 => ?_) (fun hc220 => ?_)
        · replace hf := (if_neg hc220).symm.trans hf
          exact B108 T217 X217 e217 x0 x1 x2 x3 x4 x5 x6 x7 x8 t0 hf
        · replace hf := (if_pos hc220).symm.trans hf
          refine Go.iloadN X217 hx hby (v := x1) d6_99 rfl rfl ?_
          refine Go.iconst X217 hx hby (v := (1 : Int32)) d6_100 rfl rfl ?_
          refine Go.icmp_eq X217 hx hby (pc' := 108) d6_101 (by decide) (by decide) rfl (fun hc221 => ?_) (fun hc221 => ?_)
          · replace hf := (if_pos hc221).symm.trans hf
            exact B108 T217 X217 e217 x0 x1 x2 x3 x4 x5 x6 x7 x8 t0 hf
          · replace hf := (if_neg hc221).symm.trans hf
            exact B104 T217 X217 e217 x0 x1 x2 x3 x4 x5 x6 x7 x8 t0 hf
    · replace hf := (if_neg hc218).symm.trans hf
      refine Go.iload X217 hx hby (v := x6) d6_59 rfl rfl ?_
      refine Go.iloadN X217 hx hby (v := x3) d6_61 rfl rfl ?_
      refine Go.icmp_gt X217 hx hby (pc' := 70) d6_62 (by decide) (by decide) rfl (fun hc222 => ?_) (fun hc222 => ?_)
      · replace hf := (if_pos hc222).symm.trans hf
        refine Go.iconst X217 hx hby (v := (1 : Int32)) d6_70 rfl rfl ?_
        refine Go.iloadN X217 hx hby (v := x3) d6_71 rfl rfl ?_
        refine Go.iadd X217 hx hby d6_72 rfl ?_
        refine Go.iload X217 hx hby (v := x6) d6_73 rfl rfl ?_
        refine Go.iloadN X217 hx hby (v := x3) d6_75 rfl rfl ?_
        refine Go.isub X217 hx hby d6_76 rfl ?_
        refine Go.iconst X217 hx hby (v := (0 : Int32)) d6_77 rfl rfl ?_
        refine Go.iload X217 hx hby (v := x7) d6_78 rfl rfl ?_
        refine Go.iload X217 hx hby (v := x8) d6_80 rfl rfl ?_
        refine Go.iload X217 hx hby (v := t0) d6_82 rfl rfl ?_
        obtain ⟨r223, g223, hf⟩ := Option.bind_eq_some_iff.mp hf
        refine Go.callSP X217 hx hby hZ (by rw [hml]; rfl) (W := 1) (argsL := [.int (x6 - x3), .int (0 : Int32), .int x7, .int x8, .int t0]) (rest := [.int ((1 : Int32) + x3)]) hown (hw _ (List.mem_of_getElem? (i := 37) rfl)) (hw _ (List.mem_of_getElem? (i := 38) rfl)) (hw _ (List.mem_of_getElem? (i := 2) rfl)) (hw _ (List.mem_of_getElem? (i := 39) rfl)) (by decide) (rm7 l Z a0 hw (x6 - x3) (0 : Int32) x7 x8 t0  h0 r223 g223 ) (by decide) (by decide) e217 pd_7 rfl rfl rfl (Nat.le_of_eq rfl) rfl rfl (by decide) (by decide) d6_84 rfl (fun T223 X223 e223 => ?_)
        refine Go.iadd X223 hx hby d6_87 rfl ?_
        exact Go.iretI X223 hx hby hlk hret d6_88 (by decide) (by decide) ⟨congrArg (fun z => some (Value.int z)) (Option.some.inj hf), rfl, e223⟩
      · replace hf := (if_neg hc222).symm.trans hf
        refine Go.iconst X217 hx hby (v := (1 : Int32)) d6_65 rfl rfl ?_
        refine Go.iload X217 hx hby (v := x6) d6_66 rfl rfl ?_
        refine Go.iadd X217 hx hby d6_68 rfl ?_
        exact Go.iretI X217 hx hby hlk hret d6_69 (by decide) (by decide) ⟨congrArg (fun z => some (Value.int z)) (Option.some.inj hf), rfl, e217⟩
  have B38 : ∀ (T : State), Stand p l e RM6 s m #[.int x0, .int x1, .int x2, .int x3, .int x4, .int x5] below meth c T [] 0 0 → T.heap = h0 → ∀ (x0 : Int32) (x1 : Int32) (x2 : Int32) (x3 : Int32) (x4 : Int32) (x5 : Int32) (x6 : Int32) (x7 : Int32) (t0 : Int32), f6_38 x0 x1 x2 x3 x4 x6 x7 t0 = some r → Go p e below s RM6.cells RM6.slots (PQ h0 (some (.int r))) m T 38 #[.val (.int x0), .val (.int x1), .val (.int x2), .val (.int x3), .val (.int x4), .val (.int x5), .val (.int x6), .val (.int x7), .unset, .unset, .unset, .unset, .unset, .unset, .unset, .unset] [.int t0] := by
    intro T224 X224 e224 x0 x1 x2 x3 x4 x5 x6 x7 t0 hf
    unfold f6_38 at hf
    refine Go.istore X224 hx hby (Ls' := #[.val (.int x0), .val (.int x1), .val (.int x2), .val (.int x3), .val (.int x4), .val (.int x5), .val (.int x6), .val (.int x7), .val (.int t0), .unset, .unset, .unset, .unset, .unset, .unset, .unset]) d6_38 rfl rfl ?_
    refine Go.iloadN X224 hx hby (v := x2) d6_40 rfl rfl ?_
    refine Go.bipush X224 hx hby (v := (7 : Int32)) d6_41 rfl rfl ?_
    refine Go.icmp_ne X224 hx hby (pc' := 50) d6_43 (by decide) (by decide) rfl (fun hc225 => ?_) (fun hc225 => ?_)
    · replace hf := (if_neg hc225).symm.trans hf
      refine Go.iconst X224 hx hby (v := (1 : Int32)) d6_50 rfl rfl ?_
      exact B51 T224 X224 e224 x0 x1 x2 x3 x4 x5 x6 x7 t0 (1 : Int32) hf
    · replace hf := (if_pos hc225).symm.trans hf
      refine Go.iconst X224 hx hby (v := (2 : Int32)) d6_46 rfl rfl ?_
      refine Go.goto X224 hx hby (pc' := 51) d6_47 (by decide) (by decide) ?_
      exact B51 T224 X224 e224 x0 x1 x2 x3 x4 x5 x6 x7 t0 (2 : Int32) hf
  have B25 : ∀ (T : State), Stand p l e RM6 s m #[.int x0, .int x1, .int x2, .int x3, .int x4, .int x5] below meth c T [] 0 0 → T.heap = h0 → ∀ (x0 : Int32) (x1 : Int32) (x2 : Int32) (x3 : Int32) (x4 : Int32) (x5 : Int32) (x6 : Int32) (t0 : Int32), f6_25 x0 x1 x2 x3 x4 x6 t0 = some r → Go p e below s RM6.cells RM6.slots (PQ h0 (some (.int r))) m T 25 #[.val (.int x0), .val (.int x1), .val (.int x2), .val (.int x3), .val (.int x4), .val (.int x5), .val (.int x6), .unset, .unset, .unset, .unset, .unset, .unset, .unset, .unset, .unset] [.int t0] := by
    intro T226 X226 e226 x0 x1 x2 x3 x4 x5 x6 t0 hf
    unfold f6_25 at hf
    refine Go.istore X226 hx hby (Ls' := #[.val (.int x0), .val (.int x1), .val (.int x2), .val (.int x3), .val (.int x4), .val (.int x5), .val (.int x6), .val (.int t0), .unset, .unset, .unset, .unset, .unset, .unset, .unset, .unset]) d6_25 rfl rfl ?_
    refine Go.iloadN X226 hx hby (v := x1) d6_27 rfl rfl ?_
    refine Go.bipush X226 hx hby (v := (7 : Int32)) d6_28 rfl rfl ?_
    refine Go.icmp_ne X226 hx hby (pc' := 37) d6_30 (by decide) (by decide) rfl (fun hc227 => ?_) (fun hc227 => ?_)
    · replace hf := (if_neg hc227).symm.trans hf
      refine Go.iconst X226 hx hby (v := (1 : Int32)) d6_37 rfl rfl ?_
      exact B38 T226 X226 e226 x0 x1 x2 x3 x4 x5 x6 t0 (1 : Int32) hf
    · replace hf := (if_pos hc227).symm.trans hf
      refine Go.iconst X226 hx hby (v := (2 : Int32)) d6_33 rfl rfl ?_
      refine Go.goto X226 hx hby (pc' := 38) d6_34 (by decide) (by decide) ?_
      exact B38 T226 X226 e226 x0 x1 x2 x3 x4 x5 x6 t0 (2 : Int32) hf
  have hf := hf0
  unfold f6_0 at hf
  refine Go.iload X0 hx hby (v := x5) d6_0 rfl rfl ?_
  refine Go.iconst X0 hx hby (v := (1 : Int32)) d6_2 rfl rfl ?_
  refine Go.icmp_gt X0 hx hby (pc' := 8) d6_3 (by decide) (by decide) rfl (fun hc228 => ?_) (fun hc228 => ?_)
  · replace hf := (if_pos hc228).symm.trans hf
    refine Go.iload X0 hx hby (v := x5) d6_8 rfl rfl ?_
    refine Go.iconst X0 hx hby (v := (1 : Int32)) d6_10 rfl rfl ?_
    refine Go.isub X0 hx hby d6_11 rfl ?_
    refine Go.istore X0 hx hby (Ls' := #[.val (.int x0), .val (.int x1), .val (.int x2), .val (.int x3), .val (.int x4), .val (.int x5), .val (.int (x5 - (1 : Int32))), .unset, .unset, .unset, .unset, .unset, .unset, .unset, .unset, .unset]) d6_12 rfl rfl ?_
    refine Go.iloadN X0 hx hby (v := x0) d6_14 rfl rfl ?_
    refine Go.bipush X0 hx hby (v := (7 : Int32)) d6_15 rfl rfl ?_
    refine Go.icmp_ne X0 hx hby (pc' := 24) d6_17 (by decide) (by decide) rfl (fun hc229 => ?_) (fun hc229 => ?_)
    · replace hf := (if_neg hc229).symm.trans hf
      refine Go.iconst X0 hx hby (v := (1 : Int32)) d6_24 rfl rfl ?_
      exact B25 s₁ X0 e0 x0 x1 x2 x3 x4 x5 (x5 - (1 : Int32)) (1 : Int32) hf
    · replace hf := (if_pos hc229).symm.trans hf
      refine Go.iconst X0 hx hby (v := (2 : Int32)) d6_20 rfl rfl ?_
      refine Go.goto X0 hx hby (pc' := 25) d6_21 (by decide) (by decide) ?_
      exact B25 s₁ X0 e0 x0 x1 x2 x3 x4 x5 (x5 - (1 : Int32)) (2 : Int32) hf
  · replace hf := (if_neg hc228).symm.trans hf
    refine Go.iconst X0 hx hby (v := (1 : Int32)) d6_6 rfl rfl ?_
    exact Go.iretI X0 hx hby hlk hret d6_7 (by decide) (by decide) ⟨congrArg (fun z => some (Value.int z)) (Option.some.inj hf), rfl, e0⟩
-- body 0
def f0_236 (x4 : Int32) (x5 : Int32) (x6 : Int32) (x7 : Int32) (x8 : Int32) (x10 : Int32) (x14 : Int32) (G_cc : List Int32) : Option (Int32) := (f3_0 x10 (0 : Int32) (0 : Int32) (0 : Int32) (0 : Int32) (0 : Int32) G_cc).bind fun r231 => (f5_0 x4 x5 r231.1 r231.2.1 r231.2.2.1 r231.2.2.2.1 r231.2.2.2.2 G_cc).bind fun r232 => (f6_0 x6 x7 x8 x14 x4 x5).bind fun r233 => if r232 = r233 then some (1 : Int32) else some (0 : Int32)
def f0_193 (x4 : Int32) (x5 : Int32) (x6 : Int32) (x7 : Int32) (x8 : Int32) (x10 : Int32) (x11 : Int32) (x12 : Int32) (x14 : Int32) (G_cc : List Int32) : Option (Int32) := (f2_0 (x10 + x14) x6 G_cc).bind fun r235 => (f2_0 ((x10 + x14) + x11) x7 r235).bind fun r236 => (f2_0 (((x10 + x14) + x11) + x12) x8 r236).bind fun r237 => f0_236 x4 x5 x6 x7 x8 x10 x14 r237
def f0_41 (x4 : Int32) (x5 : Int32) (x6 : Int32) (x7 : Int32) (x8 : Int32) (x9 : Int32) (t0 : Int32) : Option (Int32) := (f1_0 x6).bind fun r238 => (f1_0 x7).bind fun r239 => (f1_0 x8).bind fun r240 => if x9 = 0 then f0_193 x4 x5 x6 x7 x8 t0 r238 r239 (((((15 : Int32) - t0) - r238) - r239) - r240) ([(i2bF (97 : Int32)), (i2bF (97 : Int32)), (i2bF (97 : Int32)), (i2bF (97 : Int32)), (i2bF (97 : Int32)), (i2bF (97 : Int32)), (i2bF (97 : Int32)), (i2bF (97 : Int32)), (i2bF (97 : Int32)), (i2bF (97 : Int32)), (i2bF (97 : Int32)), (i2bF (97 : Int32)), (i2bF (97 : Int32)), (i2bF (97 : Int32)), (i2bF (97 : Int32))] : List Int32) else f0_193 x4 x5 x6 x7 x8 t0 r238 r239 (((((15 : Int32) - t0) - r238) - r239) - r240) ([(i2bF (-17 : Int32)), (i2bF (-69 : Int32)), (i2bF (-65 : Int32)), (i2bF (97 : Int32)), (i2bF (97 : Int32)), (i2bF (97 : Int32)), (i2bF (97 : Int32)), (i2bF (97 : Int32)), (i2bF (97 : Int32)), (i2bF (97 : Int32)), (i2bF (97 : Int32)), (i2bF (97 : Int32)), (i2bF (97 : Int32)), (i2bF (97 : Int32)), (i2bF (97 : Int32))] : List Int32)
def f0_29 (x4 : Int32) (x5 : Int32) (x6 : Int32) (x7 : Int32) (x8 : Int32) (t0 : Int32) : Option (Int32) := if t0 = 0 then f0_41 x4 x5 x6 x7 x8 t0 (0 : Int32) else f0_41 x4 x5 x6 x7 x8 t0 (3 : Int32)
def f0_0 (x0 : Int32) (x1 : Int32) (x2 : Int32) (x3 : Int32) (x4 : Int32) (x5 : Int32) : Option (Int32) := if (x3 &&& (1 : Int32)) = 0 then f0_29 x4 x5 (x0 &&& (7 : Int32)) (x1 &&& (7 : Int32)) (x2 &&& (7 : Int32)) (0 : Int32) else f0_29 x4 x5 (x0 &&& (7 : Int32)) (x1 &&& (7 : Int32)) (x2 &&& (7 : Int32)) (1 : Int32)
theorem pn_0 : plainName "com/example/yarrow/yarrow/data/StartTagsColumnOfPinLaw" = true := by first | (simp [plainName, overriddenIn]; done) | decide +kernel
theorem ef_0 (m : MethodId) (x0 : Int32) (x1 : Int32) (x2 : Int32) (x3 : Int32) (x4 : Int32) (x5 : Int32) : entryFrame m #[.int x0, .int x1, .int x2, .int x3, .int x4, .int x5] maxLocals = mkF m 0 #[.val (.int x0), .val (.int x1), .val (.int x2), .val (.int x3), .val (.int x4), .val (.int x5), .unset, .unset, .unset, .unset, .unset, .unset, .unset, .unset, .unset, .unset, .unset, .unset, .unset] [] := by first | (simp [entryFrame, mkF, argsToLocals, Value.category, maxLocals]; done) | rfl
set_option maxRecDepth 65536 in
set_option maxHeartbeats 40000000 in
theorem rm0 (l : Launch) (Z : State) (a0 : Array Value) (hw : ∀ d ∈ tables_1, d.before a0 Z = true) (ws : List Jvm.Cond) (x0 : Int32) (x1 : Int32) (x2 : Int32) (x3 : Int32) (x4 : Int32) (x5 : Int32)  (h0 : Heap) (n0 : Nat) (Z0 : n0 ≤ h0.size) (r : Int32) (hf : f0_0 x0 x1 x2 x3 x4 x5 = some r)  :
    MetFree l x (head1 (Jvm.Cond.code x code maxLocals ret :: ws) room_1) (fun a U => a = #[.int x0, .int x1, .int x2, .int x3, .int x4, .int x5] ∧ Z.Warmed39 U.vm ∧ U.heap = h0) (fun _ _ _ _ _ => True) (fun _ U o U' => ∃ v L, o = .returned v ∧ (fun v h L => v = some (.int r) ∧ Fr n0 L) v U'.heap L ∧ FrameEnd U o U' L room_1.cells room_1.slots) := by
  refine MetFree.of_bodySF (plainFor_of_name pn_0) hisR ?_
  intro p e s m args below meth c s₁ Bd hml0 hP hK
  obtain ⟨rfl, hZ, hh⟩ := hP
  have hx := Bd.exec
  have hby := Bd.bytes
  have hlk : meth.locks = false := BodyLoose.notSynchronized Bd
  have hret := Bd.returns
  have hml : c.maxLocals = 19 := hml0
  have hown : s.vm.findClass "com/example/yarrow/yarrow/data/StartTagsColumnOfPinLaw" = some m.cls := findClass_of_methodNamed Bd.named
  have X0 : Stand p l e room_1 s m #[.int x0, .int x1, .int x2, .int x3, .int x4, .int x5] below meth c s₁ [] 0 0 := Stand.of_body Bd
  have e0 : s₁.heap = h0 := by rw [← hh, Bd.state]; rfl
  have N0 := Fr.nil n0
  have K0 := Keep.refl h0 []
  suffices G : Go p e below s room_1.cells room_1.slots (fun v h L => v = some (.int r) ∧ Fr n0 L) m s₁ 0 #[.val (.int x0), .val (.int x1), .val (.int x2), .val (.int x3), .val (.int x4), .val (.int x5), .unset, .unset, .unset, .unset, .unset, .unset, .unset, .unset, .unset, .unset, .unset, .unset, .unset] [] by
    obtain ⟨s₂, o, h1, h2⟩ := G
    exact ⟨s₂, o, castTop (ef_0 m x0 x1 x2 x3 x4 x5) h1, h2⟩
  have hf0 := hf
  clear hf
  have B236 : ∀ (T : State) (h : Heap) (locs : List Loc), Stand p l e room_1 s m #[.int x0, .int x1, .int x2, .int x3, .int x4, .int x5] below meth c T locs 1 15 → T.heap = h → Fr n0 locs → Keep h0 h [] → ∀ (cc : Addr), h0.size ≤ cc → ∀ (G_cc : List Int32), AryI Z h cc .byte G_cc → ∀ (x0 : Int32) (x1 : Int32) (x2 : Int32) (x3 : Int32) (x4 : Int32) (x5 : Int32) (x6 : Int32) (x7 : Int32) (x8 : Int32) (x9 : Int32) (x10 : Int32) (x11 : Int32) (x12 : Int32) (x13 : Int32) (x14 : Int32) (x16 : Int32), f0_236 x4 x5 x6 x7 x8 x10 x14 G_cc = some r → Go p e below s room_1.cells room_1.slots (fun v h L => v = some (.int r) ∧ Fr n0 L) m T 236 #[.val (.int x0), .val (.int x1), .val (.int x2), .val (.int x3), .val (.int x4), .val (.int x5), .val (.int x6), .val (.int x7), .val (.int x8), .val (.int x9), .val (.int x10), .val (.int x11), .val (.int x12), .val (.int x13), .val (.int x14), .val (.ref cc), .val (.int x16), .unset, .unset] [] := by
    intro T281 h281 _ X281 e281 N281 K281 cc na_cc G_cc F281_cc x0 x1 x2 x3 x4 x5 x6 x7 x8 x9 x10 x11 x12 x13 x14 x16 hf
    unfold f0_236 at hf
    refine Go.newO X281 hx hby hZ hown (hw _ (List.mem_of_getElem? (i := 8) rfl)) (hw _ (List.mem_of_getElem? (i := 9) rfl)) (hw _ (List.mem_of_getElem? (i := 10) rfl)) e281 at_236 rfl (by decide) (by decide) (fun T282 h282 oo X282 e282 E282 z282 A282 D282 => ?_)
    have ne_cc_oo : cc ≠ oo := Nat.ne_of_lt (Nat.lt_of_lt_of_le (AryI.lt F281_cc) z282)
    have F282_cc := AryI.ext F281_cc E282
    have na_oo := Nat.le_trans K281.1 z282
    have K282 := Keep.ext K281 E282
    refine Go.dup X282 hx hby at_239 rfl rfl ?_
    refine Go.aload X282 hx hby (v := .ref cc) at_240 rfl rfl rfl ?_
    refine Go.iload X282 hx hby (v := x10) at_242 rfl rfl ?_
    obtain ⟨r283, g283, hf⟩ := Option.bind_eq_some_iff.mp hf
    refine Go.callC X282 hx hby hZ (by rw [hml]; rfl) (W := 1) (argsL := [.ref cc, .int x10]) (rest := [.ref oo]) hown (hw _ (List.mem_of_getElem? (i := 11) rfl)) (hw _ (List.mem_of_getElem? (i := 12) rfl)) (hw _ (List.mem_of_getElem? (i := 10) rfl)) (hw _ (List.mem_of_getElem? (i := 13) rfl)) (by decide) rfl (rm3 l Z a0 hw oo cc x10 (0 : Int32) (0 : Int32) (0 : Int32) (0 : Int32) (0 : Int32) G_cc h282 n0 (Nat.le_trans Z0 K282.1) r283 g283 (Ob_S.mk A282 (D282 (Or.inl (hw _ (List.mem_of_getElem? (i := 18) rfl))) (ty := .int) (by decide)) (D282 (Or.inl (hw _ (List.mem_of_getElem? (i := 20) rfl))) (ty := .int) (by decide)) (D282 (Or.inr (hw _ (List.mem_of_getElem? (i := 22) rfl))) (ty := (.array .byte)) (by decide)) (D282 (Or.inr (hw _ (List.mem_of_getElem? (i := 24) rfl))) (ty := .int) (by decide)) (D282 (Or.inl (hw _ (List.mem_of_getElem? (i := 26) rfl))) (ty := .int) (by decide)) (D282 (Or.inl (hw _ (List.mem_of_getElem? (i := 28) rfl))) (ty := .int) (by decide))) F282_cc (Nat.le_trans Z0 na_oo) (Ne.symm ne_cc_oo)) (by decide) (by decide) e282 pd_3 rfl rfl rfl (Nat.le_of_eq rfl) (by decide) (by decide) at_244 rfl (fun v283 T283 L283 X283 Q283 => ?_)
    obtain ⟨rfl, N283', K283', F283_oo⟩ := Q283
    have F283_cc := AryI.keep F282_cc K283' (ninS ne_cc_oo nin0)
    have N283 := Fr.app N281 N283'
    have K283 := Keep.trans K282 K283' (allS (P := fun x => _ ∨ _) (Or.inr na_oo) all0)
    refine Go.astore X283 hx hby (Ls' := #[.val (.int x0), .val (.int x1), .val (.int x2), .val (.int x3), .val (.int x4), .val (.int x5), .val (.int x6), .val (.int x7), .val (.int x8), .val (.int x9), .val (.int x10), .val (.int x11), .val (.int x12), .val (.int x13), .val (.int x14), .val (.ref cc), .val (.int x16), .val (.ref oo), .unset]) at_247 rfl rfl rfl ?_
    refine Go.aload X283 hx hby (v := .ref oo) at_249 rfl rfl rfl ?_
    refine Go.iload X283 hx hby (v := x4) at_251 rfl rfl ?_
    refine Go.iload X283 hx hby (v := x5) at_253 rfl rfl ?_
    obtain ⟨r284, g284, hf⟩ := Option.bind_eq_some_iff.mp hf
    refine Go.callVP X283 hx hby hZ (by rw [hml]; rfl) (W := 0) (argsL := [.int x4, .int x5]) (rest := []) hown (hw _ (List.mem_of_getElem? (i := 29) rfl)) (hw _ (List.mem_of_getElem? (i := 30) rfl)) (hw _ (List.mem_of_getElem? (i := 32) rfl)) (hw _ (List.mem_of_getElem? (i := 31) rfl)) (hw _ (List.mem_of_getElem? (i := 10) rfl)) (hw _ (List.mem_of_getElem? (i := 33) rfl))  (Ob_S.exa F283_oo) (by decide) (rm5 l Z a0 hw oo x4 x5 cc r283.1 r283.2.1 r283.2.2.1 r283.2.2.2.1 r283.2.2.2.2 G_cc T283.heap r284 g284 F283_oo F283_cc) (by decide) (by decide) rfl pd_5 rfl rfl rfl (Nat.le_of_eq rfl) rfl rfl (by decide) (by decide) at_255 rfl (fun T284 X284 e284 => ?_)
    refine Go.istore X284 hx hby (Ls' := #[.val (.int x0), .val (.int x1), .val (.int x2), .val (.int x3), .val (.int x4), .val (.int x5), .val (.int x6), .val (.int x7), .val (.int x8), .val (.int x9), .val (.int x10), .val (.int x11), .val (.int x12), .val (.int x13), .val (.int x14), .val (.ref cc), .val (.int x16), .val (.ref oo), .val (.int r284)]) at_258 rfl rfl ?_
    refine Go.iload X284 hx hby (v := r284) at_260 rfl rfl ?_
    refine Go.iload X284 hx hby (v := x6) at_262 rfl rfl ?_
    refine Go.iload X284 hx hby (v := x7) at_264 rfl rfl ?_
    refine Go.iload X284 hx hby (v := x8) at_266 rfl rfl ?_
    refine Go.iload X284 hx hby (v := x14) at_268 rfl rfl ?_
    refine Go.iload X284 hx hby (v := x4) at_270 rfl rfl ?_
    refine Go.iload X284 hx hby (v := x5) at_272 rfl rfl ?_
    obtain ⟨r285, g285, hf⟩ := Option.bind_eq_some_iff.mp hf
    refine Go.callSP X284 hx hby hZ (by rw [hml]; rfl) (W := 1) (argsL := [.int x6, .int x7, .int x8, .int x14, .int x4, .int x5]) (rest := [.int r284]) hown (hw _ (List.mem_of_getElem? (i := 34) rfl)) (hw _ (List.mem_of_getElem? (i := 35) rfl)) (hw _ (List.mem_of_getElem? (i := 2) rfl)) (hw _ (List.mem_of_getElem? (i := 36) rfl)) (by decide) (rm6 l Z a0 hw x6 x7 x8 x14 x4 x5  T283.heap r285 g285 ) (by decide) (by decide) e284 pd_6 rfl rfl rfl (Nat.le_of_eq rfl) rfl rfl (by decide) (by decide) at_274 rfl (fun T285 X285 e285 => ?_)
    refine Go.icmp_ne X285 hx hby (pc' := 284) at_277 (by decide) (by decide) rfl (fun hc286 => ?_) (fun hc286 => ?_)
    · replace hf := (if_neg hc286).symm.trans hf
      refine Go.iconst X285 hx hby (v := (0 : Int32)) at_284 rfl rfl ?_
      exact Go.iretN X285 hx hby hlk hret (Or.inl rfl) (w' := (0 : Int32)) rfl at_285 (by decide) (by decide) ⟨congrArg (fun z => some (Value.int z)) (Option.some.inj hf), N283⟩
    · replace hf := (if_pos hc286).symm.trans hf
      refine Go.iconst X285 hx hby (v := (1 : Int32)) at_280 rfl rfl ?_
      refine Go.goto X285 hx hby (pc' := 285) at_281 (by decide) (by decide) ?_
      exact Go.iretN X285 hx hby hlk hret (Or.inl rfl) (w' := (1 : Int32)) rfl at_285 (by decide) (by decide) ⟨congrArg (fun z => some (Value.int z)) (Option.some.inj hf), N283⟩
  have B193 : ∀ (T : State) (h : Heap) (locs : List Loc), Stand p l e room_1 s m #[.int x0, .int x1, .int x2, .int x3, .int x4, .int x5] below meth c T locs 1 15 → T.heap = h → Fr n0 locs → Keep h0 h [] → ∀ (cc : Addr), h0.size ≤ cc → ∀ (G_cc : List Int32), AryI Z h cc .byte G_cc → ∀ (x0 : Int32) (x1 : Int32) (x2 : Int32) (x3 : Int32) (x4 : Int32) (x5 : Int32) (x6 : Int32) (x7 : Int32) (x8 : Int32) (x9 : Int32) (x10 : Int32) (x11 : Int32) (x12 : Int32) (x13 : Int32) (x14 : Int32), f0_193 x4 x5 x6 x7 x8 x10 x11 x12 x14 G_cc = some r → Go p e below s room_1.cells room_1.slots (fun v h L => v = some (.int r) ∧ Fr n0 L) m T 193 #[.val (.int x0), .val (.int x1), .val (.int x2), .val (.int x3), .val (.int x4), .val (.int x5), .val (.int x6), .val (.int x7), .val (.int x8), .val (.int x9), .val (.int x10), .val (.int x11), .val (.int x12), .val (.int x13), .val (.int x14), .val (.ref cc), .unset, .unset, .unset] [] := by
    intro T287 h287 _ X287 e287 N287 K287 cc na_cc G_cc F287_cc x0 x1 x2 x3 x4 x5 x6 x7 x8 x9 x10 x11 x12 x13 x14 hf
    unfold f0_193 at hf
    refine Go.iload X287 hx hby (v := x10) at_193 rfl rfl ?_
    refine Go.iload X287 hx hby (v := x14) at_195 rfl rfl ?_
    refine Go.iadd X287 hx hby at_197 rfl ?_
    refine Go.istore X287 hx hby (Ls' := #[.val (.int x0), .val (.int x1), .val (.int x2), .val (.int x3), .val (.int x4), .val (.int x5), .val (.int x6), .val (.int x7), .val (.int x8), .val (.int x9), .val (.int x10), .val (.int x11), .val (.int x12), .val (.int x13), .val (.int x14), .val (.ref cc), .val (.int (x10 + x14)), .unset, .unset]) at_198 rfl rfl ?_
    refine Go.aload X287 hx hby (v := .ref cc) at_200 rfl rfl rfl ?_
    refine Go.iload X287 hx hby (v := (x10 + x14)) at_202 rfl rfl ?_
    refine Go.iload X287 hx hby (v := x6) at_204 rfl rfl ?_
    obtain ⟨r288, g288, hf⟩ := Option.bind_eq_some_iff.mp hf
    refine Go.callS X287 hx hby hZ (by rw [hml]; rfl) (W := 0) (argsL := [.ref cc, .int (x10 + x14), .int x6]) (rest := []) hown (hw _ (List.mem_of_getElem? (i := 5) rfl)) (hw _ (List.mem_of_getElem? (i := 6) rfl)) (hw _ (List.mem_of_getElem? (i := 2) rfl)) (hw _ (List.mem_of_getElem? (i := 7) rfl)) (by decide) (rm2 l Z a0 hw cc (x10 + x14) x6 G_cc h287 n0 (Nat.le_trans Z0 K287.1) r288 g288 F287_cc (Nat.le_trans Z0 na_cc)) (by decide) (by decide) e287 pd_2 rfl rfl rfl (Nat.le_of_eq rfl) (by decide) (by decide) at_206 rfl (fun v288 T288 L288 X288 Q288 => ?_)
    obtain ⟨rfl, N288', K288', F288_cc⟩ := Q288
    have N288 := Fr.app N287 N288'
    have K288 := Keep.trans K287 K288' (allS (P := fun x => _ ∨ _) (Or.inr na_cc) all0)
    refine Go.aload X288 hx hby (v := .ref cc) at_209 rfl rfl rfl ?_
    refine Go.iload X288 hx hby (v := (x10 + x14)) at_211 rfl rfl ?_
    refine Go.iload X288 hx hby (v := x11) at_213 rfl rfl ?_
    refine Go.iadd X288 hx hby at_215 rfl ?_
    refine Go.iload X288 hx hby (v := x7) at_216 rfl rfl ?_
    obtain ⟨r289, g289, hf⟩ := Option.bind_eq_some_iff.mp hf
    refine Go.callS X288 hx hby hZ (by rw [hml]; rfl) (W := 0) (argsL := [.ref cc, .int ((x10 + x14) + x11), .int x7]) (rest := []) hown (hw _ (List.mem_of_getElem? (i := 5) rfl)) (hw _ (List.mem_of_getElem? (i := 6) rfl)) (hw _ (List.mem_of_getElem? (i := 2) rfl)) (hw _ (List.mem_of_getElem? (i := 7) rfl)) (by decide) (rm2 l Z a0 hw cc ((x10 + x14) + x11) x7 r288 T288.heap n0 (Nat.le_trans Z0 K288.1) r289 g289 F288_cc (Nat.le_trans Z0 na_cc)) (by decide) (by decide) rfl pd_2 rfl rfl rfl (Nat.le_of_eq rfl) (by decide) (by decide) at_218 rfl (fun v289 T289 L289 X289 Q289 => ?_)
    obtain ⟨rfl, N289', K289', F289_cc⟩ := Q289
    have N289 := Fr.app N288 N289'
    have K289 := Keep.trans K288 K289' (allS (P := fun x => _ ∨ _) (Or.inr na_cc) all0)
    refine Go.aload X289 hx hby (v := .ref cc) at_221 rfl rfl rfl ?_
    refine Go.iload X289 hx hby (v := (x10 + x14)) at_223 rfl rfl ?_
    refine Go.iload X289 hx hby (v := x11) at_225 rfl rfl ?_
    refine Go.iadd X289 hx hby at_227 rfl ?_
    refine Go.iload X289 hx hby (v := x12) at_228 rfl rfl ?_
    refine Go.iadd X289 hx hby at_230 rfl ?_
    refine Go.iload X289 hx hby (v := x8) at_231 rfl rfl ?_
    obtain ⟨r290, g290, hf⟩ := Option.bind_eq_some_iff.mp hf
    refine Go.callS X289 hx hby hZ (by rw [hml]; rfl) (W := 0) (argsL := [.ref cc, .int (((x10 + x14) + x11) + x12), .int x8]) (rest := []) hown (hw _ (List.mem_of_getElem? (i := 5) rfl)) (hw _ (List.mem_of_getElem? (i := 6) rfl)) (hw _ (List.mem_of_getElem? (i := 2) rfl)) (hw _ (List.mem_of_getElem? (i := 7) rfl)) (by decide) (rm2 l Z a0 hw cc (((x10 + x14) + x11) + x12) x8 r289 T289.heap n0 (Nat.le_trans Z0 K289.1) r290 g290 F289_cc (Nat.le_trans Z0 na_cc)) (by decide) (by decide) rfl pd_2 rfl rfl rfl (Nat.le_of_eq rfl) (by decide) (by decide) at_233 rfl (fun v290 T290 L290 X290 Q290 => ?_)
    obtain ⟨rfl, N290', K290', F290_cc⟩ := Q290
    have N290 := Fr.app N289 N290'
    have K290 := Keep.trans K289 K290' (allS (P := fun x => _ ∨ _) (Or.inr na_cc) all0)
    exact B236 T290 T290.heap _ X290 rfl N290 K290 cc na_cc  r290 F290_cc x0 x1 x2 x3 x4 x5 x6 x7 x8 x9 x10 x11 x12 x13 x14 (x10 + x14) hf
  have B41 : ∀ (T : State) (h : Heap) (locs : List Loc), Stand p l e room_1 s m #[.int x0, .int x1, .int x2, .int x3, .int x4, .int x5] below meth c T locs 0 0 → T.heap = h → Fr n0 locs → Keep h0 h [] → ∀ (x0 : Int32) (x1 : Int32) (x2 : Int32) (x3 : Int32) (x4 : Int32) (x5 : Int32) (x6 : Int32) (x7 : Int32) (x8 : Int32) (x9 : Int32) (t0 : Int32), f0_41 x4 x5 x6 x7 x8 x9 t0 = some r → Go p e below s room_1.cells room_1.slots (fun v h L => v = some (.int r) ∧ Fr n0 L) m T 41 #[.val (.int x0), .val (.int x1), .val (.int x2), .val (.int x3), .val (.int x4), .val (.int x5), .val (.int x6), .val (.int x7), .val (.int x8), .val (.int x9), .unset, .unset, .unset, .unset, .unset, .unset, .unset, .unset, .unset] [.int t0] := by
    intro T291 h291 _ X291 e291 N291 K291 x0 x1 x2 x3 x4 x5 x6 x7 x8 x9 t0 hf
    unfold f0_41 at hf
    refine Go.istore X291 hx hby (Ls' := #[.val (.int x0), .val (.int x1), .val (.int x2), .val (.int x3), .val (.int x4), .val (.int x5), .val (.int x6), .val (.int x7), .val (.int x8), .val (.int x9), .val (.int t0), .unset, .unset, .unset, .unset, .unset, .unset, .unset, .unset]) at_41 rfl rfl ?_
    refine Go.iload X291 hx hby (v := x6) at_43 rfl rfl ?_
    obtain ⟨r292, g292, hf⟩ := Option.bind_eq_some_iff.mp hf
    refine Go.callSP X291 hx hby hZ (by rw [hml]; rfl) (W := 0) (argsL := [.int x6]) (rest := []) hown (hw _ (List.mem_of_getElem? (i := 0) rfl)) (hw _ (List.mem_of_getElem? (i := 1) rfl)) (hw _ (List.mem_of_getElem? (i := 2) rfl)) (hw _ (List.mem_of_getElem? (i := 3) rfl)) (by decide) (rm1 l Z a0 hw x6  h291 r292 g292 ) (by decide) (by decide) e291 pd_1 rfl rfl rfl (Nat.le_of_eq rfl) rfl rfl (by decide) (by decide) at_45 rfl (fun T292 X292 e292 => ?_)
    refine Go.istore X292 hx hby (Ls' := #[.val (.int x0), .val (.int x1), .val (.int x2), .val (.int x3), .val (.int x4), .val (.int x5), .val (.int x6), .val (.int x7), .val (.int x8), .val (.int x9), .val (.int t0), .val (.int r292), .unset, .unset, .unset, .unset, .unset, .unset, .unset]) at_48 rfl rfl ?_
    refine Go.iload X292 hx hby (v := x7) at_50 rfl rfl ?_
    obtain ⟨r293, g293, hf⟩ := Option.bind_eq_some_iff.mp hf
    refine Go.callSP X292 hx hby hZ (by rw [hml]; rfl) (W := 0) (argsL := [.int x7]) (rest := []) hown (hw _ (List.mem_of_getElem? (i := 0) rfl)) (hw _ (List.mem_of_getElem? (i := 1) rfl)) (hw _ (List.mem_of_getElem? (i := 2) rfl)) (hw _ (List.mem_of_getElem? (i := 3) rfl)) (by decide) (rm1 l Z a0 hw x7  h291 r293 g293 ) (by decide) (by decide) e292 pd_1 rfl rfl rfl (Nat.le_of_eq rfl) rfl rfl (by decide) (by decide) at_52 rfl (fun T293 X293 e293 => ?_)
    refine Go.istore X293 hx hby (Ls' := #[.val (.int x0), .val (.int x1), .val (.int x2), .val (.int x3), .val (.int x4), .val (.int x5), .val (.int x6), .val (.int x7), .val (.int x8), .val (.int x9), .val (.int t0), .val (.int r292), .val (.int r293), .unset, .unset, .unset, .unset, .unset, .unset]) at_55 rfl rfl ?_
    refine Go.iload X293 hx hby (v := x8) at_57 rfl rfl ?_
    obtain ⟨r294, g294, hf⟩ := Option.bind_eq_some_iff.mp hf
    refine Go.callSP X293 hx hby hZ (by rw [hml]; rfl) (W := 0) (argsL := [.int x8]) (rest := []) hown (hw _ (List.mem_of_getElem? (i := 0) rfl)) (hw _ (List.mem_of_getElem? (i := 1) rfl)) (hw _ (List.mem_of_getElem? (i := 2) rfl)) (hw _ (List.mem_of_getElem? (i := 3) rfl)) (by decide) (rm1 l Z a0 hw x8  h291 r294 g294 ) (by decide) (by decide) e293 pd_1 rfl rfl rfl (Nat.le_of_eq rfl) rfl rfl (by decide) (by decide) at_59 rfl (fun T294 X294 e294 => ?_)
    refine Go.istore X294 hx hby (Ls' := #[.val (.int x0), .val (.int x1), .val (.int x2), .val (.int x3), .val (.int x4), .val (.int x5), .val (.int x6), .val (.int x7), .val (.int x8), .val (.int x9), .val (.int t0), .val (.int r292), .val (.int r293), .val (.int r294), .unset, .unset, .unset, .unset, .unset]) at_62 rfl rfl ?_
    refine Go.bipush X294 hx hby (v := (15 : Int32)) at_64 rfl rfl ?_
    refine Go.iload X294 hx hby (v := t0) at_66 rfl rfl ?_
    refine Go.isub X294 hx hby at_68 rfl ?_
    refine Go.iload X294 hx hby (v := r292) at_69 rfl rfl ?_
    refine Go.isub X294 hx hby at_71 rfl ?_
    refine Go.iload X294 hx hby (v := r293) at_72 rfl rfl ?_
    refine Go.isub X294 hx hby at_74 rfl ?_
    refine Go.iload X294 hx hby (v := r294) at_75 rfl rfl ?_
    refine Go.isub X294 hx hby at_77 rfl ?_
    refine Go.istore X294 hx hby (Ls' := #[.val (.int x0), .val (.int x1), .val (.int x2), .val (.int x3), .val (.int x4), .val (.int x5), .val (.int x6), .val (.int x7), .val (.int x8), .val (.int x9), .val (.int t0), .val (.int r292), .val (.int r293), .val (.int r294), .val (.int (((((15 : Int32) - t0) - r292) - r293) - r294)), .unset, .unset, .unset, .unset]) at_78 rfl rfl ?_
    refine Go.bipush X294 hx hby (v := (15 : Int32)) at_80 rfl rfl ?_
    refine Go.newA X294 hx hby hZ (nn := 15) (ty := .byte) (hw _ (List.mem_of_getElem? (i := 4) rfl)) e294 at_82 rfl rfl rfl (by decide) (by decide) (by decide) (by decide) (by decide) (fun T295 h295 cc X295 e295 E295 z295 A295 => ?_)
    have na_cc := Nat.le_trans K291.1 z295
    have K295 := Keep.ext K291 E295
    have A295 : AryI Z h295 cc .byte ([0, 0, 0, 0, 0, 0, 0, 0, 0, 0, 0, 0, 0, 0, 0] : List Int32) := A295
    refine Go.dup X295 hx hby at_84 rfl rfl ?_
    refine Go.iconst X295 hx hby (v := (0 : Int32)) at_85 rfl rfl ?_
    refine Go.bipush X295 hx hby (v := (97 : Int32)) at_86 rfl rfl ?_
    refine Go.bastore X295 hx hby hZ e295 A295 (own_inK (n := 15) rfl (by decide)) at_88 rfl (fun T297 h297 X297 e297 W297 A297 => ?_)
    have N297 := Fr.snoc X297 N291 (Nat.le_trans Z0 na_cc)
    have K297 := Keep.wr K295 W297 (Or.inr na_cc)
    have A297 : AryI Z h297 cc .byte ([(i2bF (97 : Int32)), 0, 0, 0, 0, 0, 0, 0, 0, 0, 0, 0, 0, 0, 0] : List Int32) := A297
    refine Go.dup X297 hx hby at_89 rfl rfl ?_
    refine Go.iconst X297 hx hby (v := (1 : Int32)) at_90 rfl rfl ?_
    refine Go.bipush X297 hx hby (v := (97 : Int32)) at_91 rfl rfl ?_
    refine Go.bastore X297 hx hby hZ e297 A297 (own_inK (n := 15) rfl (by decide)) at_93 rfl (fun T299 h299 X299 e299 W299 A299 => ?_)
    have N299 := Fr.snoc X299 N297 (Nat.le_trans Z0 na_cc)
    have K299 := Keep.wr K297 W299 (Or.inr na_cc)
    have A299 : AryI Z h299 cc .byte ([(i2bF (97 : Int32)), (i2bF (97 : Int32)), 0, 0, 0, 0, 0, 0, 0, 0, 0, 0, 0, 0, 0] : List Int32) := A299
    refine Go.dup X299 hx hby at_94 rfl rfl ?_
    refine Go.iconst X299 hx hby (v := (2 : Int32)) at_95 rfl rfl ?_
    refine Go.bipush X299 hx hby (v := (97 : Int32)) at_96 rfl rfl ?_
    refine Go.bastore X299 hx hby hZ e299 A299 (own_inK (n := 15) rfl (by decide)) at_98 rfl (fun T301 h301 X301 e301 W301 A301 => ?_)
    have N301 := Fr.snoc X301 N299 (Nat.le_trans Z0 na_cc)
    have K301 := Keep.wr K299 W301 (Or.inr na_cc)
    have A301 : AryI Z h301 cc .byte ([(i2bF (97 : Int32)), (i2bF (97 : Int32)), (i2bF (97 : Int32)), 0, 0, 0, 0, 0, 0, 0, 0, 0, 0, 0, 0] : List Int32) := A301
    refine Go.dup X301 hx hby at_99 rfl rfl ?_
    refine Go.iconst X301 hx hby (v := (3 : Int32)) at_100 rfl rfl ?_
    refine Go.bipush X301 hx hby (v := (97 : Int32)) at_101 rfl rfl ?_
    refine Go.bastore X301 hx hby hZ e301 A301 (own_inK (n := 15) rfl (by decide)) at_103 rfl (fun T303 h303 X303 e303 W303 A303 => ?_)
    have N303 := Fr.snoc X303 N301 (Nat.le_trans Z0 na_cc)
    have K303 := Keep.wr K301 W303 (Or.inr na_cc)
    have A303 : AryI Z h303 cc .byte ([(i2bF (97 : Int32)), (i2bF (97 : Int32)), (i2bF (97 : Int32)), (i2bF (97 : Int32)), 0, 0, 0, 0, 0, 0, 0, 0, 0, 0, 0] : List Int32) := A303
    refine Go.dup X303 hx hby at_104 rfl rfl ?_
    refine Go.iconst X303 hx hby (v := (4 : Int32)) at_105 rfl rfl ?_
    refine Go.bipush X303 hx hby (v := (97 : Int32)) at_106 rfl rfl ?_
    refine Go.bastore X303 hx hby hZ e303 A303 (own_inK (n := 15) rfl (by decide)) at_108 rfl (fun T305 h305 X305 e305 W305 A305 => ?_)
    have N305 := Fr.snoc X305 N303 (Nat.le_trans Z0 na_cc)
    have K305 := Keep.wr K303 W305 (Or.inr na_cc)
    have A305 : AryI Z h305 cc .byte ([(i2bF (97 : Int32)), (i2bF (97 : Int32)), (i2bF (97 : Int32)), (i2bF (97 : Int32)), (i2bF (97 : Int32)), 0, 0, 0, 0, 0, 0, 0, 0, 0, 0] : List Int32) := A305
    refine Go.dup X305 hx hby at_109 rfl rfl ?_
    refine Go.iconst X305 hx hby (v := (5 : Int32)) at_110 rfl rfl ?_
    refine Go.bipush X305 hx hby (v := (97 : Int32)) at_111 rfl rfl ?_
    refine Go.bastore X305 hx hby hZ e305 A305 (own_inK (n := 15) rfl (by decide)) at_113 rfl (fun T307 h307 X307 e307 W307 A307 => ?_)
    have N307 := Fr.snoc X307 N305 (Nat.le_trans Z0 na_cc)
    have K307 := Keep.wr K305 W307 (Or.inr na_cc)
    have A307 : AryI Z h307 cc .byte ([(i2bF (97 : Int32)), (i2bF (97 : Int32)), (i2bF (97 : Int32)), (i2bF (97 : Int32)), (i2bF (97 : Int32)), (i2bF (97 : Int32)), 0, 0, 0, 0, 0, 0, 0, 0, 0] : List Int32) := A307
    refine Go.dup X307 hx hby at_114 rfl rfl ?_
    refine Go.bipush X307 hx hby (v := (6 : Int32)) at_115 rfl rfl ?_
    refine Go.bipush X307 hx hby (v := (97 : Int32)) at_117 rfl rfl ?_
    refine Go.bastore X307 hx hby hZ e307 A307 (own_inK (n := 15) rfl (by decide)) at_119 rfl (fun T309 h309 X309 e309 W309 A309 => ?_)
    have N309 := Fr.snoc X309 N307 (Nat.le_trans Z0 na_cc)
    have K309 := Keep.wr K307 W309 (Or.inr na_cc)
    have A309 : AryI Z h309 cc .byte ([(i2bF (97 : Int32)), (i2bF (97 : Int32)), (i2bF (97 : Int32)), (i2bF (97 : Int32)), (i2bF (97 : Int32)), (i2bF (97 : Int32)), (i2bF (97 : Int32)), 0, 0, 0, 0, 0, 0, 0, 0] : List Int32) := A309
    refine Go.dup X309 hx hby at_120 rfl rfl ?_
    refine Go.bipush X309 hx hby (v := (7 : Int32)) at_121 rfl rfl ?_
    refine Go.bipush X309 hx hby (v := (97 : Int32)) at_123 rfl rfl ?_
    refine Go.bastore X309 hx hby hZ e309 A309 (own_inK (n := 15) rfl (by decide)) at_125 rfl (fun T311 h311 X311 e311 W311 A311 => ?_)
    have N311 := Fr.snoc X311 N309 (Nat.le_trans Z0 na_cc)
    have K311 := Keep.wr K309 W311 (Or.inr na_cc)
    have A311 : AryI Z h311 cc .byte ([(i2bF (97 : Int32)), (i2bF (97 : Int32)), (i2bF (97 : Int32)), (i2bF (97 : Int32)), (i2bF (97 : Int32)), (i2bF (97 : Int32)), (i2bF (97 : Int32)), (i2bF (97 : Int32)), 0, 0, 0, 0, 0, 0, 0] : List Int32) := A311
    refine Go.dup X311 hx hby at_126 rfl rfl ?_
    refine Go.bipush X311 hx hby (v := (8 : Int32)) at_127 rfl rfl ?_
    refine Go.bipush X311 hx hby (v := (97 : Int32)) at_129 rfl rfl ?_
    refine Go.bastore X311 hx hby hZ e311 A311 (own_inK (n := 15) rfl (by decide)) at_131 rfl (fun T313 h313 X313 e313 W313 A313 => ?_)
    have N313 := Fr.snoc X313 N311 (Nat.le_trans Z0 na_cc)
    have K313 := Keep.wr K311 W313 (Or.inr na_cc)
    have A313 : AryI Z h313 cc .byte ([(i2bF (97 : Int32)), (i2bF (97 : Int32)), (i2bF (97 : Int32)), (i2bF (97 : Int32)), (i2bF (97 : Int32)), (i2bF (97 : Int32)), (i2bF (97 : Int32)), (i2bF (97 : Int32)), (i2bF (97 : Int32)), 0, 0, 0, 0, 0, 0] : List Int32) := A313
    refine Go.dup X313 hx hby at_132 rfl rfl ?_
    refine Go.bipush X313 hx hby (v := (9 : Int32)) at_133 rfl rfl ?_
    refine Go.bipush X313 hx hby (v := (97 : Int32)) at_135 rfl rfl ?_
    refine Go.bastore X313 hx hby hZ e313 A313 (own_inK (n := 15) rfl (by decide)) at_137 rfl (fun T315 h315 X315 e315 W315 A315 => ?_)
    have N315 := Fr.snoc X315 N313 (Nat.le_trans Z0 na_cc)
    have K315 := Keep.wr K313 W315 (Or.inr na_cc)
    have A315 : AryI Z h315 cc .byte ([(i2bF (97 : Int32)), (i2bF (97 : Int32)), (i2bF (97 : Int32)), (i2bF (97 : Int32)), (i2bF (97 : Int32)), (i2bF (97 : Int32)), (i2bF (97 : Int32)), (i2bF (97 : Int32)), (i2bF (97 : Int32)), (i2bF (97 : Int32)), 0, 0, 0, 0, 0] : List Int32) := A315
    refine Go.dup X315 hx hby at_138 rfl rfl ?_
    refine Go.bipush X315 hx hby (v := (10 : Int32)) at_139 rfl rfl ?_
    refine Go.bipush X315 hx hby (v := (97 : Int32)) at_141 rfl rfl ?_
    refine Go.bastore X315 hx hby hZ e315 A315 (own_inK (n := 15) rfl (by decide)) at_143 rfl (fun T317 h317 X317 e317 W317 A317 => ?_)
    have N317 := Fr.snoc X317 N315 (Nat.le_trans Z0 na_cc)
    have K317 := Keep.wr K315 W317 (Or.inr na_cc)
    have A317 : AryI Z h317 cc .byte ([(i2bF (97 : Int32)), (i2bF (97 : Int32)), (i2bF (97 : Int32)), (i2bF (97 : Int32)), (i2bF (97 : Int32)), (i2bF (97 : Int32)), (i2bF (97 : Int32)), (i2bF (97 : Int32)), (i2bF (97 : Int32)), (i2bF (97 : Int32)), (i2bF (97 : Int32)), 0, 0, 0, 0] : List Int32) := A317
    refine Go.dup X317 hx hby at_144 rfl rfl ?_
    refine Go.bipush X317 hx hby (v := (11 : Int32)) at_145 rfl rfl ?_
    refine Go.bipush X317 hx hby (v := (97 : Int32)) at_147 rfl rfl ?_
    refine Go.bastore X317 hx hby hZ e317 A317 (own_inK (n := 15) rfl (by decide)) at_149 rfl (fun T319 h319 X319 e319 W319 A319 => ?_)
    have N319 := Fr.snoc X319 N317 (Nat.le_trans Z0 na_cc)
    have K319 := Keep.wr K317 W319 (Or.inr na_cc)
    have A319 : AryI Z h319 cc .byte ([(i2bF (97 : Int32)), (i2bF (97 : Int32)), (i2bF (97 : Int32)), (i2bF (97 : Int32)), (i2bF (97 : Int32)), (i2bF (97 : Int32)), (i2bF (97 : Int32)), (i2bF (97 : Int32)), (i2bF (97 : Int32)), (i2bF (97 : Int32)), (i2bF (97 : Int32)), (i2bF (97 : Int32)), 0, 0, 0] : List Int32) := A319
    refine Go.dup X319 hx hby at_150 rfl rfl ?_
    refine Go.bipush X319 hx hby (v := (12 : Int32)) at_151 rfl rfl ?_
    refine Go.bipush X319 hx hby (v := (97 : Int32)) at_153 rfl rfl ?_
    refine Go.bastore X319 hx hby hZ e319 A319 (own_inK (n := 15) rfl (by decide)) at_155 rfl (fun T321 h321 X321 e321 W321 A321 => ?_)
    have N321 := Fr.snoc X321 N319 (Nat.le_trans Z0 na_cc)
    have K321 := Keep.wr K319 W321 (Or.inr na_cc)
    have A321 : AryI Z h321 cc .byte ([(i2bF (97 : Int32)), (i2bF (97 : Int32)), (i2bF (97 : Int32)), (i2bF (97 : Int32)), (i2bF (97 : Int32)), (i2bF (97 : Int32)), (i2bF (97 : Int32)), (i2bF (97 : Int32)), (i2bF (97 : Int32)), (i2bF (97 : Int32)), (i2bF (97 : Int32)), (i2bF (97 : Int32)), (i2bF (97 : Int32)), 0, 0] : List Int32) := A321
    refine Go.dup X321 hx hby at_156 rfl rfl ?_
    refine Go.bipush X321 hx hby (v := (13 : Int32)) at_157 rfl rfl ?_
    refine Go.bipush X321 hx hby (v := (97 : Int32)) at_159 rfl rfl ?_
    refine Go.bastore X321 hx hby hZ e321 A321 (own_inK (n := 15) rfl (by decide)) at_161 rfl (fun T323 h323 X323 e323 W323 A323 => ?_)
    have N323 := Fr.snoc X323 N321 (Nat.le_trans Z0 na_cc)
    have K323 := Keep.wr K321 W323 (Or.inr na_cc)
    have A323 : AryI Z h323 cc .byte ([(i2bF (97 : Int32)), (i2bF (97 : Int32)), (i2bF (97 : Int32)), (i2bF (97 : Int32)), (i2bF (97 : Int32)), (i2bF (97 : Int32)), (i2bF (97 : Int32)), (i2bF (97 : Int32)), (i2bF (97 : Int32)), (i2bF (97 : Int32)), (i2bF (97 : Int32)), (i2bF (97 : Int32)), (i2bF (97 : Int32)), (i2bF (97 : Int32)), 0] : List Int32) := A323
    refine Go.dup X323 hx hby at_162 rfl rfl ?_
    refine Go.bipush X323 hx hby (v := (14 : Int32)) at_163 rfl rfl ?_
    refine Go.bipush X323 hx hby (v := (97 : Int32)) at_165 rfl rfl ?_
    refine Go.bastore X323 hx hby hZ e323 A323 (own_inK (n := 15) rfl (by decide)) at_167 rfl (fun T325 h325 X325 e325 W325 A325 => ?_)
    have N325 := Fr.snoc X325 N323 (Nat.le_trans Z0 na_cc)
    have K325 := Keep.wr K323 W325 (Or.inr na_cc)
    have A325 : AryI Z h325 cc .byte ([(i2bF (97 : Int32)), (i2bF (97 : Int32)), (i2bF (97 : Int32)), (i2bF (97 : Int32)), (i2bF (97 : Int32)), (i2bF (97 : Int32)), (i2bF (97 : Int32)), (i2bF (97 : Int32)), (i2bF (97 : Int32)), (i2bF (97 : Int32)), (i2bF (97 : Int32)), (i2bF (97 : Int32)), (i2bF (97 : Int32)), (i2bF (97 : Int32)), (i2bF (97 : Int32))] : List Int32) := A325
    refine Go.astore X325 hx hby (Ls' := #[.val (.int x0), .val (.int x1), .val (.int x2), .val (.int x3), .val (.int x4), .val (.int x5), .val (.int x6), .val (.int x7), .val (.int x8), .val (.int x9), .val (.int t0), .val (.int r292), .val (.int r293), .val (.int r294), .val (.int (((((15 : Int32) - t0) - r292) - r293) - r294)), .val (.ref cc), .unset, .unset, .unset]) at_168 rfl rfl rfl ?_
    refine Go.iload X325 hx hby (v := x9) at_170 rfl rfl ?_
    refine Go.if_eq X325 hx hby (pc' := 193) at_172 (by decide) (by decide) rfl (fun hc326 => ?_) (fun hc326 => ?_)
    · replace hf := (if_pos hc326).symm.trans hf
      exact B193 T325 h325 _ X325 e325 N325 K325 cc na_cc  ([(i2bF (97 : Int32)), (i2bF (97 : Int32)), (i2bF (97 : Int32)), (i2bF (97 : Int32)), (i2bF (97 : Int32)), (i2bF (97 : Int32)), (i2bF (97 : Int32)), (i2bF (97 : Int32)), (i2bF (97 : Int32)), (i2bF (97 : Int32)), (i2bF (97 : Int32)), (i2bF (97 : Int32)), (i2bF (97 : Int32)), (i2bF (97 : Int32)), (i2bF (97 : Int32))] : List Int32) A325 x0 x1 x2 x3 x4 x5 x6 x7 x8 x9 t0 r292 r293 r294 (((((15 : Int32) - t0) - r292) - r293) - r294) hf
    · replace hf := (if_neg hc326).symm.trans hf
      refine Go.aload X325 hx hby (v := .ref cc) at_175 rfl rfl rfl ?_
      refine Go.iconst X325 hx hby (v := (0 : Int32)) at_177 rfl rfl ?_
      refine Go.bipush X325 hx hby (v := (-17 : Int32)) at_178 rfl rfl ?_
      refine Go.bastore X325 hx hby hZ e325 A325 (own_inK (n := 15) rfl (by decide)) at_180 rfl (fun T328 h328 X328 e328 W328 A328 => ?_)
      have N328 := Fr.snoc X328 N325 (Nat.le_trans Z0 na_cc)
      have K328 := Keep.wr K325 W328 (Or.inr na_cc)
      have A328 : AryI Z h328 cc .byte ([(i2bF (-17 : Int32)), (i2bF (97 : Int32)), (i2bF (97 : Int32)), (i2bF (97 : Int32)), (i2bF (97 : Int32)), (i2bF (97 : Int32)), (i2bF (97 : Int32)), (i2bF (97 : Int32)), (i2bF (97 : Int32)), (i2bF (97 : Int32)), (i2bF (97 : Int32)), (i2bF (97 : Int32)), (i2bF (97 : Int32)), (i2bF (97 : Int32)), (i2bF (97 : Int32))] : List Int32) := A328
      refine Go.aload X328 hx hby (v := .ref cc) at_181 rfl rfl rfl ?_
      refine Go.iconst X328 hx hby (v := (1 : Int32)) at_183 rfl rfl ?_
      refine Go.bipush X328 hx hby (v := (-69 : Int32)) at_184 rfl rfl ?_
      refine Go.bastore X328 hx hby hZ e328 A328 (own_inK (n := 15) rfl (by decide)) at_186 rfl (fun T330 h330 X330 e330 W330 A330 => ?_)
      have N330 := Fr.snoc X330 N328 (Nat.le_trans Z0 na_cc)
      have K330 := Keep.wr K328 W330 (Or.inr na_cc)
      have A330 : AryI Z h330 cc .byte ([(i2bF (-17 : Int32)), (i2bF (-69 : Int32)), (i2bF (97 : Int32)), (i2bF (97 : Int32)), (i2bF (97 : Int32)), (i2bF (97 : Int32)), (i2bF (97 : Int32)), (i2bF (97 : Int32)), (i2bF (97 : Int32)), (i2bF (97 : Int32)), (i2bF (97 : Int32)), (i2bF (97 : Int32)), (i2bF (97 : Int32)), (i2bF (97 : Int32)), (i2bF (97 : Int32))] : List Int32) := A330
      refine Go.aload X330 hx hby (v := .ref cc) at_187 rfl rfl rfl ?_
      refine Go.iconst X330 hx hby (v := (2 : Int32)) at_189 rfl rfl ?_
      refine Go.bipush X330 hx hby (v := (-65 : Int32)) at_190 rfl rfl ?_
      refine Go.bastore X330 hx hby hZ e330 A330 (own_inK (n := 15) rfl (by decide)) at_192 rfl (fun T332 h332 X332 e332 W332 A332 => ?_)
      have N332 := Fr.snoc X332 N330 (Nat.le_trans Z0 na_cc)
      have K332 := Keep.wr K330 W332 (Or.inr na_cc)
      have A332 : AryI Z h332 cc .byte ([(i2bF (-17 : Int32)), (i2bF (-69 : Int32)), (i2bF (-65 : Int32)), (i2bF (97 : Int32)), (i2bF (97 : Int32)), (i2bF (97 : Int32)), (i2bF (97 : Int32)), (i2bF (97 : Int32)), (i2bF (97 : Int32)), (i2bF (97 : Int32)), (i2bF (97 : Int32)), (i2bF (97 : Int32)), (i2bF (97 : Int32)), (i2bF (97 : Int32)), (i2bF (97 : Int32))] : List Int32) := A332
      exact B193 T332 h332 _ X332 e332 N332 K332 cc na_cc  ([(i2bF (-17 : Int32)), (i2bF (-69 : Int32)), (i2bF (-65 : Int32)), (i2bF (97 : Int32)), (i2bF (97 : Int32)), (i2bF (97 : Int32)), (i2bF (97 : Int32)), (i2bF (97 : Int32)), (i2bF (97 : Int32)), (i2bF (97 : Int32)), (i2bF (97 : Int32)), (i2bF (97 : Int32)), (i2bF (97 : Int32)), (i2bF (97 : Int32)), (i2bF (97 : Int32))] : List Int32) A332 x0 x1 x2 x3 x4 x5 x6 x7 x8 x9 t0 r292 r293 r294 (((((15 : Int32) - t0) - r292) - r293) - r294) hf
  have B29 : ∀ (T : State) (h : Heap) (locs : List Loc), Stand p l e room_1 s m #[.int x0, .int x1, .int x2, .int x3, .int x4, .int x5] below meth c T locs 0 0 → T.heap = h → Fr n0 locs → Keep h0 h [] → ∀ (x0 : Int32) (x1 : Int32) (x2 : Int32) (x3 : Int32) (x4 : Int32) (x5 : Int32) (x6 : Int32) (x7 : Int32) (x8 : Int32) (t0 : Int32), f0_29 x4 x5 x6 x7 x8 t0 = some r → Go p e below s room_1.cells room_1.slots (fun v h L => v = some (.int r) ∧ Fr n0 L) m T 29 #[.val (.int x0), .val (.int x1), .val (.int x2), .val (.int x3), .val (.int x4), .val (.int x5), .val (.int x6), .val (.int x7), .val (.int x8), .unset, .unset, .unset, .unset, .unset, .unset, .unset, .unset, .unset, .unset] [.int t0] := by
    intro T333 h333 _ X333 e333 N333 K333 x0 x1 x2 x3 x4 x5 x6 x7 x8 t0 hf
    unfold f0_29 at hf
    refine Go.istore X333 hx hby (Ls' := #[.val (.int x0), .val (.int x1), .val (.int x2), .val (.int x3), .val (.int x4), .val (.int x5), .val (.int x6), .val (.int x7), .val (.int x8), .val (.int t0), .unset, .unset, .unset, .unset, .unset, .unset, .unset, .unset, .unset]) at_29 rfl rfl ?_
    refine Go.iload X333 hx hby (v := t0) at_31 rfl rfl ?_
    refine Go.if_eq X333 hx hby (pc' := 40) at_33 (by decide) (by decide) rfl (fun hc334 => ?_) (fun hc334 => ?_)
    · replace hf := (if_pos hc334).symm.trans hf
      refine Go.iconst X333 hx hby (v := (0 : Int32)) at_40 rfl rfl ?_
      exact B41 T333 h333 _ X333 e333 N333 K333     x0 x1 x2 x3 x4 x5 x6 x7 x8 t0 (0 : Int32) hf
    · replace hf := (if_neg hc334).symm.trans hf
      refine Go.iconst X333 hx hby (v := (3 : Int32)) at_36 rfl rfl ?_
      refine Go.goto X333 hx hby (pc' := 41) at_37 (by decide) (by decide) ?_
      exact B41 T333 h333 _ X333 e333 N333 K333     x0 x1 x2 x3 x4 x5 x6 x7 x8 t0 (3 : Int32) hf
  have hf := hf0
  unfold f0_0 at hf
  refine Go.iloadN X0 hx hby (v := x0) at_0 rfl rfl ?_
  refine Go.bipush X0 hx hby (v := (7 : Int32)) at_1 rfl rfl ?_
  refine Go.iand X0 hx hby at_3 rfl ?_
  refine Go.istore X0 hx hby (Ls' := #[.val (.int x0), .val (.int x1), .val (.int x2), .val (.int x3), .val (.int x4), .val (.int x5), .val (.int (x0 &&& (7 : Int32))), .unset, .unset, .unset, .unset, .unset, .unset, .unset, .unset, .unset, .unset, .unset, .unset]) at_4 rfl rfl ?_
  refine Go.iloadN X0 hx hby (v := x1) at_6 rfl rfl ?_
  refine Go.bipush X0 hx hby (v := (7 : Int32)) at_7 rfl rfl ?_
  refine Go.iand X0 hx hby at_9 rfl ?_
  refine Go.istore X0 hx hby (Ls' := #[.val (.int x0), .val (.int x1), .val (.int x2), .val (.int x3), .val (.int x4), .val (.int x5), .val (.int (x0 &&& (7 : Int32))), .val (.int (x1 &&& (7 : Int32))), .unset, .unset, .unset, .unset, .unset, .unset, .unset, .unset, .unset, .unset, .unset]) at_10 rfl rfl ?_
  refine Go.iloadN X0 hx hby (v := x2) at_12 rfl rfl ?_
  refine Go.bipush X0 hx hby (v := (7 : Int32)) at_13 rfl rfl ?_
  refine Go.iand X0 hx hby at_15 rfl ?_
  refine Go.istore X0 hx hby (Ls' := #[.val (.int x0), .val (.int x1), .val (.int x2), .val (.int x3), .val (.int x4), .val (.int x5), .val (.int (x0 &&& (7 : Int32))), .val (.int (x1 &&& (7 : Int32))), .val (.int (x2 &&& (7 : Int32))), .unset, .unset, .unset, .unset, .unset, .unset, .unset, .unset, .unset, .unset]) at_16 rfl rfl ?_
  refine Go.iloadN X0 hx hby (v := x3) at_18 rfl rfl ?_
  refine Go.iconst X0 hx hby (v := (1 : Int32)) at_19 rfl rfl ?_
  refine Go.iand X0 hx hby at_20 rfl ?_
  refine Go.if_eq X0 hx hby (pc' := 28) at_21 (by decide) (by decide) rfl (fun hc335 => ?_) (fun hc335 => ?_)
  · replace hf := (if_pos hc335).symm.trans hf
    refine Go.iconst X0 hx hby (v := (0 : Int32)) at_28 rfl rfl ?_
    exact B29 s₁ h0 _ X0 e0 N0 K0     x0 x1 x2 x3 x4 x5 (x0 &&& (7 : Int32)) (x1 &&& (7 : Int32)) (x2 &&& (7 : Int32)) (0 : Int32) hf
  · replace hf := (if_neg hc335).symm.trans hf
    refine Go.iconst X0 hx hby (v := (1 : Int32)) at_24 rfl rfl ?_
    refine Go.goto X0 hx hby (pc' := 29) at_25 (by decide) (by decide) ?_
    exact B29 s₁ h0 _ X0 e0 N0 K0     x0 x1 x2 x3 x4 x5 (x0 &&& (7 : Int32)) (x1 &&& (7 : Int32)) (x2 &&& (7 : Int32)) (1 : Int32) hf
theorem own_mask (x : Int32) (k : Nat) (hk : k ≤ 31) (m : Int32) (hm : m = Int32.ofNat (2 ^ k - 1)) : (x &&& m).toInt = x.toInt % (2 ^ k : Nat) := by
  subst hm
  have h1 : (x &&& Int32.ofNat (2 ^ k - 1)).toBitVec.toNat = x.toBitVec.toNat % 2 ^ k := by
    rw [Int32.toBitVec_and, BitVec.toNat_and]
    have : (Int32.ofNat (2 ^ k - 1)).toBitVec.toNat = 2 ^ k - 1 := by
      show (BitVec.ofNat 32 (2 ^ k - 1)).toNat = _
      rw [BitVec.toNat_ofNat]
      apply Nat.mod_eq_of_lt
      have : 2 ^ k ≤ 2 ^ 31 := Nat.pow_le_pow_right (by decide) hk
      omega
    rw [this, Nat.and_two_pow_sub_one_eq_mod]
  have hp : 2 ^ k ≤ 2 ^ 31 := Nat.pow_le_pow_right (by decide) hk
  have hpos : 0 < 2 ^ k := Nat.two_pow_pos k
  have hlt := Nat.mod_lt x.toBitVec.toNat hpos
  show (x &&& Int32.ofNat (2 ^ k - 1)).toBitVec.toInt = x.toBitVec.toInt % _
  rw [BitVec.toInt_eq_toNat_cond, h1, if_pos (by omega), BitVec.toInt_eq_toNat_cond]
  split
  · simp
  · have hd : (2 ^ k : Nat) ∣ 2 ^ 32 := Nat.pow_dvd_pow 2 (by omega)
    obtain ⟨q, hq⟩ := hd
    rw [Int.sub_emod, show ((2 ^ 32 : Nat) : Int) % (2 ^ k : Nat) = 0 by rw [hq]; simp]
    simp
theorem own_fin32 (x : Int32) (N : Nat) (h0 : 0 ≤ x.toInt) (h1 : x.toInt < N) : ∃ n : Fin N, x = Int32.ofNat n.val := by
  refine ⟨⟨x.toInt.toNat, by omega⟩, Int32.toInt_inj.mp ?_⟩
  have := x.toInt_lt
  rw [Int32.toInt_ofNat_of_lt (by show x.toInt.toNat < _; omega)]
  show x.toInt = (x.toInt.toNat : Int); omega
theorem own_remI (x y : Int32) (hx : 0 ≤ x.toInt) (hy : 0 < y.toInt) : (remI x y).toInt = x.toInt % y.toInt := by
  have h1 := x.toInt_lt; have h2 := y.toInt_lt
  have hq : (x / y).toInt = x.toInt / y.toInt := by
    rw [Int32.toInt_div, Int.tdiv_eq_ediv_of_nonneg hx]
    have a1 : 0 ≤ x.toInt / y.toInt := Int.ediv_nonneg hx (by omega)
    have a2 : x.toInt / y.toInt ≤ x.toInt := Int.ediv_le_self _ hx
    exact Int.bmod_eq_of_le (by omega) (by omega)
  have e := Int.emod_add_mul_ediv x.toInt y.toInt
  have m0 := Int.emod_nonneg x.toInt (b := y.toInt) (by omega)
  have hm : (x / y * y).toInt = x.toInt / y.toInt * y.toInt := by
    rw [Int32.toInt_mul, hq]
    have : x.toInt / y.toInt * y.toInt = y.toInt * (x.toInt / y.toInt) := Int.mul_comm _ _
    have a1 : 0 ≤ y.toInt * (x.toInt / y.toInt) := Int.mul_nonneg (by omega) (Int.ediv_nonneg hx (by omega))
    exact Int.bmod_eq_of_le (by omega) (by omega)
  unfold remI
  rw [Int32.toInt_sub, hm]
  have : x.toInt / y.toInt * y.toInt = y.toInt * (x.toInt / y.toInt) := Int.mul_comm _ _
  have m1 := Int.emod_lt_of_pos x.toInt hy
  rw [show x.toInt - x.toInt / y.toInt * y.toInt = x.toInt % y.toInt by omega]
  exact Int.bmod_eq_of_le (by omega) (by omega)
theorem own_bm (x : Int) (n : Nat) (m : Int) (h : (2 * m).toNat = n) (hm : 0 < m) : x.bmod n = (x + m) % (2 * m) - m := by
  have hn : (n : Int) = 2 * m := by omega
  rw [Int.bmod_def, hn, show ((2 * m + 1) / 2 : Int) = m by omega]
  have h1 := Int.emod_nonneg x (b := 2 * m) (by omega)
  have h2 := Int.emod_lt_of_pos x (b := 2 * m) (by omega)
  have e := Int.emod_add_mul_ediv x (2 * m)
  generalize x / (2 * m) = q at *
  generalize x % (2 * m) = r at *
  subst e
  rw [show r + 2 * m * q + m = (r + m) + 2 * m * q by omega, Int.add_mul_emod_self_left]
  split
  · rw [Int.emod_eq_of_lt (by omega) (by omega)]; omega
  · rw [show r + m = (r - m) + 2 * m * 1 by omega, Int.add_mul_emod_self_left, Int.emod_eq_of_lt (by omega) (by omega)]; omega
theorem own_i2b (x : Int32) : (i2bF x).toInt = (x.toInt + 128) % 256 - 128 := by
  unfold i2bF; rw [Int8.toInt_toInt32, Int32.toInt_toInt8]; exact own_bm _ _ 128 rfl (by decide)
theorem own_i2s (x : Int32) : (i2sF x).toInt = (x.toInt + 32768) % 65536 - 32768 := by
  unfold i2sF; rw [Int16.toInt_toInt32, Int32.toInt_toInt16]; exact own_bm _ _ 32768 rfl (by decide)
theorem own_tonat (x : Int32) : (x.toBitVec.toNat : Int) = x.toInt % 4294967296 := by
  show _ = x.toBitVec.toInt % 4294967296
  rw [BitVec.toInt_eq_toNat_cond]
  have := x.toBitVec.isLt
  split <;> omega
theorem own_toint (x : Int32) (h : x.toBitVec.toNat < 2147483648) : x.toInt = x.toBitVec.toNat := by
  show x.toBitVec.toInt = _
  rw [BitVec.toInt_eq_toNat_cond, if_pos (by omega)]
theorem own_tonatJ (x : Int64) : (x.toBitVec.toNat : Int) = x.toInt % 18446744073709551616 := by
  show _ = x.toBitVec.toInt % 18446744073709551616
  rw [BitVec.toInt_eq_toNat_cond]
  have := x.toBitVec.isLt
  split <;> omega
theorem own_tointJ (x : Int64) (h : x.toBitVec.toNat < 9223372036854775808) : x.toInt = x.toBitVec.toNat := by
  show x.toBitVec.toInt = _
  rw [BitVec.toInt_eq_toNat_cond, if_pos (by omega)]
theorem own_i2c (x : Int32) : (i2cF x).toInt = x.toInt % 65536 := by
  have h : (i2cF x).toBitVec.toNat = x.toBitVec.toNat % 65536 := by
    show (BitVec.setWidth 32 (BitVec.setWidth 16 x.toBitVec)).toNat = _
    rw [BitVec.toNat_setWidth, BitVec.toNat_setWidth]; omega
  have := own_tonat x
  rw [own_toint _ (by omega), h]; omega
theorem own_amt : ∀ k : Fin 32, ((Int32.ofNat k.val &&& 31).toBitVec.smod 32).toNat = k.val := by decide +kernel
theorem own_amtU : ∀ k : Fin 32, ((Int32.ofNat k.val &&& 31).toUInt32.toBitVec.toNat) = k.val := by decide +kernel
theorem own_shr (x : Int32) (k : Nat) (hk : k < 32) : (shrI x (Int32.ofNat k)).toInt = x.toInt / (2 ^ k : Nat) := by
  show (BitVec.sshiftRight x.toBitVec ((Int32.ofNat k &&& 31).toBitVec.smod 32).toNat).toInt = x.toBitVec.toInt / _
  rw [own_amt ⟨k, hk⟩, BitVec.toInt_sshiftRight, Int.shiftRight_eq_div_pow]
theorem own_shl (x : Int32) (k : Nat) (hk : k < 32) : (shlI x (Int32.ofNat k)).toInt = (x.toInt * (2 ^ k : Nat)).bmod 4294967296 := by
  show (x.toBitVec <<< ((Int32.ofNat k &&& 31).toBitVec.smod 32)).toInt = (x.toBitVec.toInt * _).bmod _
  rw [BitVec.shiftLeft_eq', own_amt ⟨k, hk⟩, BitVec.toInt_shiftLeft, Nat.shiftLeft_eq, BitVec.toInt_eq_toNat_bmod]
  rw [Int.bmod_mul_bmod]
  congr 1
theorem own_ushr (x : Int32) (k : Nat) (hk : k < 32) (h0 : 0 < k) : (XT.ushr x (Int32.ofNat k)).toInt = (x.toInt % 4294967296) / (2 ^ k : Nat) := by
  have h : (XT.ushr x (Int32.ofNat k)).toBitVec.toNat = x.toBitVec.toNat / 2 ^ k := by
    show (x.toBitVec >>> ((Int32.ofNat k &&& 31).toUInt32.toBitVec % 32)).toNat = _
    rw [BitVec.ushiftRight_eq', BitVec.toNat_ushiftRight, BitVec.toNat_umod, own_amtU ⟨k, hk⟩, Nat.shiftRight_eq_div_pow]
    show _ / 2 ^ (k % 32) = _
    rw [Nat.mod_eq_of_lt hk]
  have h1 := x.toBitVec.isLt
  have h2 : x.toBitVec.toNat / 2 ^ k ≤ x.toBitVec.toNat / 2 ^ 1 := Nat.div_le_div_left (Nat.pow_le_pow_right (by decide) h0) (by decide)
  rw [own_toint _ (by omega), h, ← own_tonat]; rfl
theorem own_ushr0 (x : Int32) (k : Nat) (hk : k < 32) (h0 : 0 ≤ x.toInt) : (XT.ushr x (Int32.ofNat k)).toInt = x.toInt / (2 ^ k : Nat) := by
  have h1 := x.toInt_lt
  by_cases q : k = 0
  · subst q
    have : XT.ushr x (Int32.ofNat 0) = x := by
      apply Int32.toBitVec_inj.mp
      apply BitVec.eq_of_toNat_eq
      show (x.toBitVec >>> ((Int32.ofNat 0 &&& 31).toUInt32.toBitVec % 32)).toNat = _
      rw [BitVec.ushiftRight_eq', BitVec.toNat_ushiftRight, BitVec.toNat_umod, own_amtU ⟨0, hk⟩]; rfl
    rw [this]; simp
  · rw [own_ushr x k hk (by omega), Int.emod_eq_of_lt h0 (by omega)]
theorem own_if {c : Prop} [Decidable c] {α : Type} {a b r : α} (h1 : c → a = r) (h2 : ¬ c → b = r) : (if c then a else b) = r := by
  by_cases h : c
  · rw [if_pos h]; exact h1 h
  · rw [if_neg h]; exact h2 h
theorem own_maskJ (x : Int64) (k : Nat) (hk : k ≤ 63) (m : Int64) (hm : m = Int64.ofNat (2 ^ k - 1)) : (x &&& m).toInt = x.toInt % (2 ^ k : Nat) := by
  subst hm
  have h1 : (x &&& Int64.ofNat (2 ^ k - 1)).toBitVec.toNat = x.toBitVec.toNat % 2 ^ k := by
    rw [Int64.toBitVec_and, BitVec.toNat_and]
    have : (Int64.ofNat (2 ^ k - 1)).toBitVec.toNat = 2 ^ k - 1 := by
      show (BitVec.ofNat 64 (2 ^ k - 1)).toNat = _
      rw [BitVec.toNat_ofNat]
      apply Nat.mod_eq_of_lt
      have : 2 ^ k ≤ 2 ^ 63 := Nat.pow_le_pow_right (by decide) hk
      omega
    rw [this, Nat.and_two_pow_sub_one_eq_mod]
  have hp : 2 ^ k ≤ 2 ^ 63 := Nat.pow_le_pow_right (by decide) hk
  have hpos : 0 < 2 ^ k := Nat.two_pow_pos k
  have hlt := Nat.mod_lt x.toBitVec.toNat hpos
  show (x &&& Int64.ofNat (2 ^ k - 1)).toBitVec.toInt = x.toBitVec.toInt % _
  rw [BitVec.toInt_eq_toNat_cond, h1, if_pos (by omega), BitVec.toInt_eq_toNat_cond]
  split
  · simp
  · have hd : (2 ^ k : Nat) ∣ 2 ^ 64 := Nat.pow_dvd_pow 2 (by omega)
    obtain ⟨q, hq⟩ := hd
    rw [Int.sub_emod, show ((2 ^ 64 : Nat) : Int) % (2 ^ k : Nat) = 0 by rw [hq]; simp]
    simp
theorem own_amtJ : ∀ k : Fin 64, ((Int32.ofNat k.val).toInt64.toUInt64 &&& Int64.toUInt64 63).toBitVec.toNat = k.val := by decide +kernel
theorem own_ushrL (x : Int64) (k : Nat) (hk : k < 64) (h0 : 0 < k) : (XT.ushrL x (Int32.ofNat k)).toInt = (x.toInt % 18446744073709551616) / (2 ^ k : Nat) := by
  have h : (XT.ushrL x (Int32.ofNat k)).toBitVec.toNat = x.toBitVec.toNat / 2 ^ k := by
    show (x.toBitVec >>> (((Int32.ofNat k).toInt64.toUInt64 &&& Int64.toUInt64 63).toBitVec % 64)).toNat = _
    rw [BitVec.ushiftRight_eq', BitVec.toNat_ushiftRight, BitVec.toNat_umod, own_amtJ ⟨k, hk⟩, Nat.shiftRight_eq_div_pow]
    show _ / 2 ^ (k % 64) = _
    rw [Nat.mod_eq_of_lt hk]
  have h1 := x.toBitVec.isLt
  have h2 : x.toBitVec.toNat / 2 ^ k ≤ x.toBitVec.toNat / 2 ^ 1 := Nat.div_le_div_left (Nat.pow_le_pow_right (by decide) h0) (by decide)
  rw [own_tointJ _ (by omega), h, ← own_tonatJ]; rfl
theorem own_inR {α : Type} {A : List α} {j : Int32} (n : Nat) (hl : A.length = n) (h0 : 0 ≤ j.toInt) (h1 : j.toInt < n) : inA A j := by
  rintro (h | h)
  · rw [Int32.lt_iff_toInt_lt] at h; change j.toInt < 0 at h; omega
  · rw [hl] at h; simp only [Int32.toNatClampNeg] at h; omega

def own_a (A : List Int32) (i : Nat) : Int32 := A.getD i 0
theorem own_ni (i : Nat) (h : i < 1000) : (Int32.ofNat i).toInt = i := Int32.toInt_ofNat_of_lt (by omega)
theorem own_nc (i : Nat) (h : i < 1000) : (Int32.ofNat i).toNatClampNeg = i := by simp only [Int32.toNatClampNeg, own_ni i h]; omega
theorem own_lt (i j : Nat) (hi : i < 1000) (hj : j < 1000) : Int32.ofNat i < Int32.ofNat j ↔ i < j := by
  rw [Int32.lt_iff_toInt_lt, own_ni i hi, own_ni j hj]; omega
theorem own_at (A : List Int32) (i : Nat) (h : i < 1000) : atA A (Int32.ofNat i) = own_a A i := by
  unfold atA own_a; rw [own_nc i h]
theorem own_st (A : List Int32) (i : Nat) (v : Int32) (h : i < 1000) : setA A (Int32.ofNat i) v = A.set i v := by
  unfold setA; rw [own_nc i h]
theorem own_in15 (A : List Int32) (hl : A.length = 15) (i : Nat) (h : i < 15) : inA A (Int32.ofNat i) := own_inR 15 hl (by rw [own_ni i (by omega)]; omega) (by rw [own_ni i (by omega)]; omega)
theorem own_up (n : Nat) : Int32.ofNat n + 1 = Int32.ofNat (n + 1) := by rw [Int32.ofNat_add]; rfl
theorem own_up2 (n : Nat) : Int32.ofNat n + 2 = Int32.ofNat (n + 2) := by rw [Int32.ofNat_add]; rfl
theorem own_up3 (n : Nat) : Int32.ofNat n + 3 = Int32.ofNat (n + 3) := by rw [Int32.ofNat_add]; rfl
theorem own_up4 (n : Nat) : Int32.ofNat n + 4 = Int32.ofNat (n + 4) := by rw [Int32.ofNat_add]; rfl
theorem own_eqN (i j : Nat) (hi : i < 1000) (hj : j < 1000) : Int32.ofNat i = Int32.ofNat j ↔ i = j := by
  rw [← Int32.toInt_inj, own_ni i hi, own_ni j hj]; omega
def own_bytes : Nat → List Int32
  | 0 => [127]
  | 1 => [10]
  | 2 => [13]
  | 3 => [-62, -128]
  | 4 => [-33, -65]
  | 5 => [-32, -96, -128]
  | 6 => [-17, -65, -67]
  | _ => [-16, -112, -128, -128]
def own_len (k : Nat) : Nat := (own_bytes k).length
def own_wr (A : List Int32) (p : Nat) : List Int32 → List Int32
  | [] => A
  | b :: r => own_wr (A.set p b) (p + 1) r
theorem own_wr_len (bs : List Int32) : ∀ (A : List Int32) (p : Nat), (own_wr A p bs).length = A.length := by
  induction bs with
  | nil => intro A p; rfl
  | cons b r ih => intro A p; rw [own_wr, ih, List.length_set]
theorem own_wr_out (bs : List Int32) : ∀ (A : List Int32) (p i : Nat), (i < p ∨ p + bs.length ≤ i) → own_a (own_wr A p bs) i = own_a A i := by
  induction bs with
  | nil => intro A p i h; rfl
  | cons b r ih =>
    intro A p i h
    rw [List.length_cons] at h
    rw [own_wr, ih _ _ _ (by omega)]
    unfold own_a
    rw [List.getD_eq_getElem?_getD, List.getD_eq_getElem?_getD, List.getElem?_set_ne (by omega)]
theorem own_wr_in (bs : List Int32) : ∀ (A : List Int32) (p j : Nat), j < bs.length → p + bs.length ≤ A.length → own_a (own_wr A p bs) (p + j) = own_a bs j := by
  induction bs with
  | nil => intro A p j h; exact absurd h (Nat.not_lt_zero _)
  | cons b r ih =>
    intro A p j h hA
    rw [List.length_cons] at h hA
    rw [own_wr]
    cases j with
    | zero =>
      rw [own_wr_out r _ _ _ (by omega)]
      unfold own_a
      rw [List.getD_eq_getElem?_getD, Nat.add_zero, List.getElem?_set_self (by omega)]; rfl
    | succ j =>
      rw [show p + (j + 1) = p + 1 + j by omega, ih _ (p + 1) j (by omega) (by rw [List.length_set]; omega)]; rfl
theorem own_put (A : List Int32) (hl : A.length = 15) (p k : Nat) (hk : k < 8) (h : p + own_len k ≤ 15) : f2_0 (Int32.ofNat p) (Int32.ofNat k) A = some (own_wr A p (own_bytes k)) := by
  have i1 : ∀ (B : List Int32) (q : Nat), B.length = 15 → q < 15 → inA B (Int32.ofNat q) := fun B q hB hq => own_in15 B hB q hq
  unfold f2_0
  match k, hk, h with
  | 0, _, h => rw [if_pos (by decide), if_pos (i1 A p hl (by change p + 1 ≤ 15 at h; omega)), own_st A p _ (by change p + 1 ≤ 15 at h; omega)]; rfl
  | 1, _, h => rw [if_neg (by decide), if_pos (by decide), if_pos (i1 A p hl (by change p + 1 ≤ 15 at h; omega)), own_st A p _ (by change p + 1 ≤ 15 at h; omega)]; rfl
  | 2, _, h => rw [if_neg (by decide), if_neg (by decide), if_pos (by decide), if_pos (i1 A p hl (by change p + 1 ≤ 15 at h; omega)), own_st A p _ (by change p + 1 ≤ 15 at h; omega)]; rfl
  | 3, _, h =>
    change p + 2 ≤ 15 at h
    rw [if_neg (by decide), if_neg (by decide), if_neg (by decide), if_pos (by decide), if_pos (i1 A p hl (by omega)), own_st A p _ (by omega), own_up, if_pos (i1 _ (p + 1) (by rw [List.length_set]; exact hl) (by omega)), own_st _ (p + 1) _ (by omega)]; rfl
  | 4, _, h =>
    change p + 2 ≤ 15 at h
    rw [if_neg (by decide), if_neg (by decide), if_neg (by decide), if_neg (by decide), if_pos (by decide), if_pos (i1 A p hl (by omega)), own_st A p _ (by omega), own_up, if_pos (i1 _ (p + 1) (by rw [List.length_set]; exact hl) (by omega)), own_st _ (p + 1) _ (by omega)]; rfl
  | 5, _, h =>
    change p + 3 ≤ 15 at h
    rw [if_neg (by decide), if_neg (by decide), if_neg (by decide), if_neg (by decide), if_neg (by decide), if_pos (by decide), if_pos (i1 A p hl (by omega)), own_st A p _ (by omega), own_up, if_pos (i1 _ (p + 1) (by rw [List.length_set]; exact hl) (by omega)), own_st _ (p + 1) _ (by omega), own_up2, if_pos (i1 _ (p + 2) (by rw [List.length_set, List.length_set]; exact hl) (by omega)), own_st _ (p + 2) _ (by omega)]; rfl
  | 6, _, h =>
    change p + 3 ≤ 15 at h
    rw [if_neg (by decide), if_neg (by decide), if_neg (by decide), if_neg (by decide), if_neg (by decide), if_neg (by decide), if_pos (by decide), if_pos (i1 A p hl (by omega)), own_st A p _ (by omega), own_up, if_pos (i1 _ (p + 1) (by rw [List.length_set]; exact hl) (by omega)), own_st _ (p + 1) _ (by omega), own_up2, if_pos (i1 _ (p + 2) (by rw [List.length_set, List.length_set]; exact hl) (by omega)), own_st _ (p + 2) _ (by omega)]; rfl
  | 7, _, h =>
    change p + 4 ≤ 15 at h
    rw [if_neg (by decide), if_neg (by decide), if_neg (by decide), if_neg (by decide), if_neg (by decide), if_neg (by decide), if_neg (by decide), if_pos (i1 A p hl (by omega)), own_st A p _ (by omega), own_up, if_pos (i1 _ (p + 1) (by rw [List.length_set]; exact hl) (by omega)), own_st _ (p + 1) _ (by omega), own_up2, if_pos (i1 _ (p + 2) (by rw [List.length_set, List.length_set]; exact hl) (by omega)), own_st _ (p + 2) _ (by omega), own_up3, if_pos (i1 _ (p + 3) (by rw [List.length_set, List.length_set, List.length_set]; exact hl) (by omega)), own_st _ (p + 3) _ (by omega)]; rfl
  | k + 8, hk, _ => omega
theorem own_lens : ∀ k : Fin 8, f1_0 (Int32.ofNat k.val) = some (Int32.ofNat (own_len k.val)) ∧ 1 ≤ own_len k.val ∧ own_len k.val ≤ 4 := by decide +kernel
/-- the bytes of a kind stand at p -/
def own_tok (A : List Int32) (p k : Nat) : Prop := ∀ j, j < own_len k → own_a A (p + j) = own_a (own_bytes k) j
/-- does a line end at p -/
def own_br (A : List Int32) (p : Nat) : Bool := decide (own_a A p = 10) || (decide (own_a A p = 13) && (decide (p + 1 = 15) || !decide (own_a A (p + 1) = 10)))
section Walk
variable (A : List Int32) (hl : A.length = 15) (g1 g2 g3 g4 g5 : Int32)
theorem own_lenA (A : List Int32) (hl : A.length = 15) : lenA A = Int32.ofNat 15 := by unfold lenA; rw [hl]
theorem own_p1 (A : List Int32) (hl : A.length = 15) (g1 g2 g3 g4 g5 line units ln : Int32) (n p : Nat) (hp : p < 15) :
    f5_8 (n + 1) line units (Int32.ofNat p) ln g1 g2 g3 g4 g5 A = if ln < line then f5_8 n line units (Int32.ofNat (p + 1)) (if own_br A p = true then ln + 1 else ln) g1 g2 g3 g4 g5 A else f5_78 units (Int32.ofNat p) g1 g2 g3 g4 g5 A := by
  rw [f5_8]
  by_cases c : ln < line
  · rw [if_pos c, if_pos c, own_lenA A hl, if_pos ((own_lt p 15 (by omega) (by omega)).mpr hp), if_pos (own_in15 A hl p hp), own_at A p (by omega)]
    unfold own_br f5_69 f5_72
    by_cases h1 : own_a A p = 10
    · rw [if_pos h1, decide_eq_true h1, Bool.true_or, if_pos rfl, own_up]
    · rw [if_neg h1, if_pos (own_in15 A hl p hp), decide_eq_false h1, Bool.false_or]
      by_cases h2 : own_a A p = 13
      · rw [if_pos h2, decide_eq_true h2, Bool.true_and, own_up]
        by_cases h3 : p + 1 = 15
        · rw [if_pos ((own_eqN (p + 1) 15 (by omega) (by omega)).mpr h3), decide_eq_true h3, Bool.true_or, if_pos rfl]
        · rw [if_neg (fun z => h3 ((own_eqN (p + 1) 15 (by omega) (by omega)).mp z)), if_pos (own_in15 A hl (p + 1) (by omega)), own_at A (p + 1) (by omega), decide_eq_false h3, Bool.false_or]
          by_cases h4 : own_a A (p + 1) = 10
          · rw [if_pos h4, decide_eq_true h4]; rfl
          · rw [if_neg h4, decide_eq_false h4]; rfl
      · rw [if_neg h2, decide_eq_false h2, own_up]; rfl
  · rw [if_neg c, if_neg c]
theorem own_p1e (A : List Int32) (hl : A.length = 15) (g1 g2 g3 g4 g5 line units ln : Int32) (n : Nat) :
    f5_8 (n + 1) line units (Int32.ofNat 15) ln g1 g2 g3 g4 g5 A = f5_78 units (Int32.ofNat 15) g1 g2 g3 g4 g5 A := by
  rw [f5_8]
  refine own_if (fun _ => ?_) (fun _ => rfl)
  rw [own_lenA A hl, if_neg (fun z => absurd ((own_lt 15 15 (by omega) (by omega)).mp z) (Nat.lt_irrefl 15))]
theorem own_run (A : List Int32) (hl : A.length = 15) (g1 g2 g3 g4 g5 line units ln : Int32) (hln : ln < line) (n : Nat) : ∀ (q p : Nat), p + q ≤ 15 → (∀ j, j < q → own_br A (p + j) = false) →
    f5_8 (n + q) line units (Int32.ofNat p) ln g1 g2 g3 g4 g5 A = f5_8 n line units (Int32.ofNat (p + q)) ln g1 g2 g3 g4 g5 A := by
  intro q
  induction q with
  | zero => intro p _ _; rfl
  | succ q ih =>
    intro p h hb
    have b0 := hb 0 (by omega)
    rw [Nat.add_zero] at b0
    rw [← Nat.add_assoc, own_p1 A hl g1 g2 g3 g4 g5 line units ln (n + q) p (by omega), if_pos hln, b0, if_neg (by decide), ih (p + 1) (by omega) (fun j hj => by rw [show p + 1 + j = p + (j + 1) by omega]; exact hb (j + 1) (by omega)), show p + 1 + q = p + (q + 1) by omega]
theorem own_nobr (A : List Int32) (p : Nat) (h1 : ¬ own_a A p = 10) (h2 : ¬ own_a A p = 13) : own_br A p = false := by
  unfold own_br; rw [decide_eq_false h1, decide_eq_false h2]; rfl
/-- of the bytes of a kind, none is a line's end but the first of the kinds 1 and 2 -/
theorem own_plain : ∀ k : Fin 8, (2 < k.val ∨ k.val = 0) → ∀ j : Fin 4, j.val < own_len k.val → ¬ own_a (own_bytes k.val) j.val = 10 ∧ ¬ own_a (own_bytes k.val) j.val = 13 := by decide +kernel
theorem own_tk1 (A : List Int32) (hl : A.length = 15) (g1 g2 g3 g4 g5 line units ln : Int32) (hln : ln < line) (n p k : Nat) (hk : k < 8) (ht : own_tok A p k) (h : p + own_len k ≤ 15) :
    f5_8 (n + own_len k) line units (Int32.ofNat p) ln g1 g2 g3 g4 g5 A = f5_8 n line units (Int32.ofNat (p + own_len k)) (if own_br A p = true then ln + 1 else ln) g1 g2 g3 g4 g5 A := by
  by_cases c : k = 1 ∨ k = 2
  · have l1 : own_len k = 1 := by rcases c with rfl | rfl <;> rfl
    rw [l1] at h ⊢
    rw [own_p1 A hl g1 g2 g3 g4 g5 line units ln n p (by omega), if_pos hln]
  · obtain ⟨-, l1, l4⟩ := own_lens ⟨k, hk⟩
    have nb : ∀ j, j < own_len k → own_br A (p + j) = false := fun j hj => by
      obtain ⟨q1, q2⟩ := own_plain ⟨k, hk⟩ (by change 2 < k ∨ k = 0; omega) ⟨j, by change own_len k ≤ 4 at l4; omega⟩ hj
      exact own_nobr A _ (by rw [ht j hj]; exact q1) (by rw [ht j hj]; exact q2)
    have n0 := nb 0 (by change 1 ≤ own_len k at l1; omega)
    rw [Nat.add_zero] at n0
    rw [own_run A hl g1 g2 g3 g4 g5 line units ln hln n (own_len k) p h nb, n0, if_neg (by decide)]
/-- the size and the worth of a first byte -/
def own_sz (b : Int32) : Nat := if b &&& 255 < 128 then 1 else if b &&& 255 < 224 then 2 else if b &&& 255 < 240 then 3 else 4
def own_w (b : Int32) : Int32 := if own_sz b = 4 then 2 else 1
theorem own_p2 (A : List Int32) (hl : A.length = 15) (g1 g2 g3 g4 g5 units col u : Int32) (n p : Nat) (hp : p < 15) :
    f5_84 (n + 1) units (Int32.ofNat p) col u g1 g2 g3 g4 g5 A = if u < units then f5_84 n units (Int32.ofNat (p + own_sz (own_a A p))) (col + 1) (u + own_w (own_a A p)) g1 g2 g3 g4 g5 A else some col := by
  rw [f5_84]
  by_cases c : u < units
  · rw [if_pos c, if_pos c, own_lenA A hl, if_pos ((own_lt p 15 (by omega) (by omega)).mpr hp), if_pos (own_in15 A hl p hp), own_at A p (by omega)]
    unfold own_w own_sz f5_148 f5_163
    by_cases h1 : own_a A p &&& 255 < 128
    · simp only [if_pos h1]
      rw [if_neg (by decide), if_neg (by decide), own_up]
    · rw [if_neg h1]
      simp only [if_neg h1]
      by_cases h2 : own_a A p &&& 255 < 224
      · simp only [if_pos h2]
        rw [if_neg (by decide), if_neg (by decide), own_up2]
      · simp only [if_neg h2]
        by_cases h3 : own_a A p &&& 255 < 240
        · simp only [if_pos h3]
          rw [if_neg (by decide), if_neg (by decide), own_up3]
        · simp only [if_neg h3]
          rw [if_pos (by decide), if_pos (by decide), own_up4]
  · rw [if_neg c, if_neg c]
theorem own_p2e (A : List Int32) (hl : A.length = 15) (g1 g2 g3 g4 g5 units col u : Int32) (n : Nat) : f5_84 (n + 1) units (Int32.ofNat 15) col u g1 g2 g3 g4 g5 A = some col := by
  rw [f5_84]
  refine own_if (fun _ => ?_) (fun _ => rfl)
  rw [own_lenA A hl, if_neg (fun z => absurd ((own_lt 15 15 (by omega) (by omega)).mp z) (Nat.lt_irrefl 15))]
def own_W (k : Nat) : Int32 := if k = 7 then 2 else 1
theorem own_lead : ∀ k : Fin 8, own_sz (own_a (own_bytes k.val) 0) = own_len k.val ∧ own_w (own_a (own_bytes k.val) 0) = own_W k.val := by decide +kernel
theorem own_tk2 (A : List Int32) (hl : A.length = 15) (g1 g2 g3 g4 g5 units col u : Int32) (n p k : Nat) (hk : k < 8) (ht : own_tok A p k) (h : p + own_len k ≤ 15) :
    f5_84 (n + 1) units (Int32.ofNat p) col u g1 g2 g3 g4 g5 A = if u < units then f5_84 n units (Int32.ofNat (p + own_len k)) (col + 1) (u + own_W k) g1 g2 g3 g4 g5 A else some col := by
  obtain ⟨-, l1, -⟩ := own_lens ⟨k, hk⟩
  obtain ⟨e1, e2⟩ := own_lead ⟨k, hk⟩
  have h0 := ht 0 l1
  rw [Nat.add_zero] at h0
  change 1 ≤ own_len k at l1
  rw [own_p2 A hl g1 g2 g3 g4 g5 units col u n p (by omega), h0, e1, e2]
end Walk
def own_b (b : Bool) : Int32 := if b = true then 1 else 0
def own_s (k k' : Nat) : Bool := decide (k = 1) || (decide (k = 2) && !decide (k' = 1))
theorem own_first : ∀ k : Fin 8, (own_a (own_bytes k.val) 0 = 10 ↔ k.val = 1) ∧ (own_a (own_bytes k.val) 0 = 13 ↔ k.val = 2) := by decide +kernel
theorem own_brt (A : List Int32) (p k k' : Nat) (hk : k < 8) (hk' : k' < 8) (ht : own_tok A p k) (ht' : own_tok A (p + own_len k) k') (h : p + own_len k + own_len k' ≤ 15) : own_br A p = own_s k k' := by
  obtain ⟨-, l1, -⟩ := own_lens ⟨k, hk⟩
  obtain ⟨-, l1', -⟩ := own_lens ⟨k', hk'⟩
  obtain ⟨a1, a2⟩ := own_first ⟨k, hk⟩
  obtain ⟨b1, b2⟩ := own_first ⟨k', hk'⟩
  have h0 := ht 0 l1
  have h0' := ht' 0 l1'
  rw [Nat.add_zero] at h0 h0'
  change 1 ≤ own_len k' at l1'
  unfold own_br own_s
  rw [h0]
  by_cases c1 : k = 1
  · rw [decide_eq_true (a1.mpr c1), decide_eq_true c1]; rfl
  · rw [decide_eq_false (fun z => c1 (a1.mp z)), decide_eq_false c1, Bool.false_or, Bool.false_or]
    by_cases c2 : k = 2
    · subst c2
      change own_a A (p + 1) = _ at h0'
      change p + 1 + own_len k' ≤ 15 at h
      rw [decide_eq_true (a2.mpr rfl), decide_eq_true rfl, Bool.true_and, Bool.true_and, decide_eq_false (show ¬ p + 1 = 15 by omega), Bool.false_or, h0']
      by_cases c3 : k' = 1
      · rw [decide_eq_true (b1.mpr c3), decide_eq_true c3]
      · rw [decide_eq_false (fun z => c3 (b1.mp z)), decide_eq_false c3]
    · rw [decide_eq_false (fun z => c2 (a2.mp z)), decide_eq_false c2, Bool.false_and, Bool.false_and]
theorem own_brl (A : List Int32) (p k : Nat) (hk : k < 8) (ht : own_tok A p k) (h : p + own_len k = 15) : own_br A p = own_s k 0 := by
  obtain ⟨-, l1, -⟩ := own_lens ⟨k, hk⟩
  obtain ⟨a1, a2⟩ := own_first ⟨k, hk⟩
  have h0 := ht 0 l1
  rw [Nat.add_zero] at h0
  unfold own_br own_s
  rw [h0]
  by_cases c1 : k = 1
  · rw [decide_eq_true (a1.mpr c1), decide_eq_true c1]; rfl
  · rw [decide_eq_false (fun z => c1 (a1.mp z)), decide_eq_false c1, Bool.false_or, Bool.false_or]
    by_cases c2 : k = 2
    · subst c2
      change p + 1 = 15 at h
      rw [decide_eq_true (a2.mpr rfl), decide_eq_true rfl, Bool.true_and, Bool.true_and, decide_eq_true h]; rfl
    · rw [decide_eq_false (fun z => c2 (a2.mp z)), decide_eq_false c2, Bool.false_and, Bool.false_and]
/-- how the content stands: a run of 97s from p0, then the three kinds up to the end -/
def own_lay (A : List Int32) (p0 f k0 k1 k2 : Nat) : Prop := A.length = 15 ∧ k0 < 8 ∧ k1 < 8 ∧ k2 < 8 ∧ p0 + f + own_len k0 + own_len k1 + own_len k2 = 15 ∧ (∀ t, t < f → own_a A (p0 + t) = 97) ∧ own_tok A (p0 + f) k0 ∧ own_tok A (p0 + f + own_len k0) k1 ∧ own_tok A (p0 + f + own_len k0 + own_len k1) k2
theorem own_V2 {A : List Int32} {p0 f k0 k1 k2 : Nat} (H : own_lay A p0 f k0 k1 k2) (g1 g2 g3 g4 g5 units c u : Int32) (n : Nat) :
    f5_84 (n + 2) units (Int32.ofNat (p0 + f + own_len k0 + own_len k1)) c u g1 g2 g3 g4 g5 A = if u < units then some (c + 1) else some c := by
  obtain ⟨hl, h0, h1, h2, he, hf, t0, t1, t2⟩ := H
  rw [own_tk2 A hl g1 g2 g3 g4 g5 units c u (n + 1) _ k2 h2 t2 (by omega), he, own_p2e A hl]
theorem own_V1 {A : List Int32} {p0 f k0 k1 k2 : Nat} (H : own_lay A p0 f k0 k1 k2) (g1 g2 g3 g4 g5 units c u : Int32) (n : Nat) :
    f5_84 (n + 3) units (Int32.ofNat (p0 + f + own_len k0)) c u g1 g2 g3 g4 g5 A = if u < units then (if u + own_W k1 < units then some (c + 1 + 1) else some (c + 1)) else some c := by
  have H' := H
  obtain ⟨hl, h0, h1, h2, he, hf, t0, t1, t2⟩ := H
  rw [own_tk2 A hl g1 g2 g3 g4 g5 units c u (n + 2) _ k1 h1 t1 (by omega), own_V2 H']
theorem own_V0 {A : List Int32} {p0 f k0 k1 k2 : Nat} (H : own_lay A p0 f k0 k1 k2) (g1 g2 g3 g4 g5 units c u : Int32) (n : Nat) :
    f5_84 (n + 4) units (Int32.ofNat (p0 + f)) c u g1 g2 g3 g4 g5 A = if u < units then (if u + own_W k0 < units then (if u + own_W k0 + own_W k1 < units then some (c + 1 + 1 + 1) else some (c + 1 + 1)) else some (c + 1)) else some c := by
  have H' := H
  obtain ⟨hl, h0, h1, h2, he, hf, t0, t1, t2⟩ := H
  rw [own_tk2 A hl g1 g2 g3 g4 g5 units c u (n + 3) _ k0 h0 t0 (by omega), own_V1 H']
theorem own_Wb (k : Nat) : (own_W k).toInt = 1 ∨ (own_W k).toInt = 2 := by
  unfold own_W; split
  · exact Or.inr rfl
  · exact Or.inl rfl
theorem own_sm (x y : Int32) (a b : Int) (hx : x.toInt = a) (hy : y.toInt = b) (h0 : -2147483648 ≤ a + b) (h1 : a + b < 2147483648) : (x + y).toInt = a + b := by
  rw [Int32.toInt_add, hx, hy]; exact Int.bmod_eq_of_le (by omega) (by omega)
theorem own_df (x y : Int32) (a b : Int) (hx : x.toInt = a) (hy : y.toInt = b) (h0 : -2147483648 ≤ a - b) (h1 : a - b < 2147483648) : (x - y).toInt = a - b := by
  rw [Int32.toInt_sub, hx, hy]; exact Int.bmod_eq_of_le (by omega) (by omega)
theorem own_c2 (c : Int32) : c + 1 + 1 = c + (0 + 1 + 1) := by rw [Int32.add_assoc]; rfl
theorem own_c3 (c : Int32) : c + 1 + 1 + 1 = c + (0 + 1 + 1 + 1) := by rw [Int32.add_assoc, Int32.add_assoc]; rfl
theorem own_dr2 (units u c N w0 w1 w2 : Int32) (a : Int) (hu : u.toInt = a) (hN : N.toInt = units.toInt - a) (hN1 : 1 ≤ N.toInt) :
    (if u < units then some (c + 1) else some c) = (f7_0 N 2 w0 w1 w2).bind fun r => some (c + r) := by
  have q1 : u < units := by rw [Int32.lt_iff_toInt_lt]; omega
  have q2 : 0 < N := by rw [Int32.lt_iff_toInt_lt]; change (0 : Int) < _; omega
  unfold f7_0 f7_18 f7_34
  rw [if_pos q1, if_pos (by decide), if_pos (by decide), if_neg (by decide), if_pos q2, Option.bind_some]; rfl
theorem own_dr3 (c N w0 w1 w2 : Int32) : some c = (f7_0 N 3 w0 w1 w2).bind fun r => some (c + r) := by
  unfold f7_0 f7_18 f7_34
  rw [if_pos (by decide), if_pos (by decide), if_pos (by decide), Option.bind_some, Int32.add_zero]
theorem own_g1 (N w0 w1 w2 : Int32) (q2 : 0 < N) : f7_0 N 1 w0 w1 w2 = if 0 < N - w1 then some (0 + 1 + 1) else some (0 + 1) := by
  unfold f7_0 f7_18 f7_34
  rw [if_pos (show (0 : Int32) < 1 by decide), if_neg (show ¬ (1 : Int32) < 1 by decide), if_pos q2, if_neg (show ¬ (2 : Int32) < 1 by decide)]
theorem own_g0 (N w0 w1 w2 : Int32) (q2 : 0 < N) : f7_0 N 0 w0 w1 w2 = if 0 < N - w0 then (if 0 < N - w0 - w1 then some (0 + 1 + 1 + 1) else some (0 + 1 + 1)) else some (0 + 1) := by
  unfold f7_0 f7_18 f7_34
  rw [if_neg (show ¬ (0 : Int32) < 0 by decide), if_pos q2, if_neg (show ¬ (1 : Int32) < 0 by decide)]
  by_cases d : 0 < N - w0
  · rw [if_pos d, if_pos d, if_neg (show ¬ (2 : Int32) < 0 by decide)]
  · rw [if_neg d, if_neg d, if_neg (show ¬ (2 : Int32) < 0 by decide), if_neg d]
theorem own_dr1 (units u c N w0 w1 w2 : Int32) (a : Int) (hu : u.toInt = a) (a0 : 0 ≤ a) (a1 : a ≤ 100) (hN : N.toInt = units.toInt - a) (hN1 : 1 ≤ N.toInt) (hw1 : w1.toInt = 1 ∨ w1.toInt = 2) :
    (if u < units then (if u + w1 < units then some (c + 1 + 1) else some (c + 1)) else some c) = (f7_0 N 1 w0 w1 w2).bind fun r => some (c + r) := by
  have hU := units.toInt_lt
  have q1 : u < units := by rw [Int32.lt_iff_toInt_lt]; omega
  have q2 : 0 < N := by rw [Int32.lt_iff_toInt_lt]; change (0 : Int) < _; omega
  have e1 := own_sm u w1 a w1.toInt hu rfl (by omega) (by omega)
  have e2 := own_df N w1 N.toInt w1.toInt rfl rfl (by omega) (by omega)
  rw [if_pos q1, own_g1 N w0 w1 w2 q2]
  by_cases d : u + w1 < units
  · have d' : 0 < N - w1 := by rw [Int32.lt_iff_toInt_lt] at d ⊢; change (0 : Int) < _; omega
    rw [if_pos d, if_pos d', Option.bind_some, own_c2]
  · have d' : ¬ 0 < N - w1 := by rw [Int32.lt_iff_toInt_lt] at d ⊢; change ¬ (0 : Int) < _; omega
    rw [if_neg d, if_neg d', Option.bind_some]; rfl
theorem own_dr0 (units u c N w0 w1 w2 : Int32) (a : Int) (hu : u.toInt = a) (a0 : 0 ≤ a) (a1 : a ≤ 100) (hN : N.toInt = units.toInt - a) (hN1 : 1 ≤ N.toInt) (hw0 : w0.toInt = 1 ∨ w0.toInt = 2) (hw1 : w1.toInt = 1 ∨ w1.toInt = 2) :
    (if u < units then (if u + w0 < units then (if u + w0 + w1 < units then some (c + 1 + 1 + 1) else some (c + 1 + 1)) else some (c + 1)) else some c) = (f7_0 N 0 w0 w1 w2).bind fun r => some (c + r) := by
  have hU := units.toInt_lt
  have q1 : u < units := by rw [Int32.lt_iff_toInt_lt]; omega
  have q2 : 0 < N := by rw [Int32.lt_iff_toInt_lt]; change (0 : Int) < _; omega
  have e1 := own_sm u w0 a w0.toInt hu rfl (by omega) (by omega)
  have e2 := own_df N w0 N.toInt w0.toInt rfl rfl (by omega) (by omega)
  have e3 := own_sm (u + w0) w1 _ w1.toInt e1 rfl (by omega) (by omega)
  have e4 := own_df (N - w0) w1 _ w1.toInt e2 rfl (by omega) (by omega)
  rw [if_pos q1, own_g0 N w0 w1 w2 q2]
  by_cases d : u + w0 < units
  · have d' : 0 < N - w0 := by rw [Int32.lt_iff_toInt_lt] at d ⊢; change (0 : Int) < _; omega
    rw [if_pos d, if_pos d']
    by_cases b : u + w0 + w1 < units
    · have b' : 0 < N - w0 - w1 := by rw [Int32.lt_iff_toInt_lt] at b ⊢; change (0 : Int) < _; omega
      rw [if_pos b, if_pos b', Option.bind_some, own_c3]
    · have b' : ¬ 0 < N - w0 - w1 := by rw [Int32.lt_iff_toInt_lt] at b ⊢; change ¬ (0 : Int) < _; omega
      rw [if_neg b, if_neg b', Option.bind_some, own_c2]
  · have d' : ¬ 0 < N - w0 := by rw [Int32.lt_iff_toInt_lt] at d ⊢; change ¬ (0 : Int) < _; omega
    rw [if_neg d, if_neg d', Option.bind_some]; rfl
theorem own_ph1 {A : List Int32} {p0 f k0 k1 k2 : Nat} (H : own_lay A p0 f k0 k1 k2) (g1 g2 g3 g4 g5 line units : Int32) (hline : 1 < line) :
    f5_8 64 line units (Int32.ofNat p0) 1 g1 g2 g3 g4 g5 A = if 1 + own_b (own_s k0 k1) < line then (if 1 + own_b (own_s k0 k1) + own_b (own_s k1 k2) < line then f5_78 units (Int32.ofNat 15) g1 g2 g3 g4 g5 A else f5_78 units (Int32.ofNat (p0 + f + own_len k0 + own_len k1)) g1 g2 g3 g4 g5 A) else f5_78 units (Int32.ofNat (p0 + f + own_len k0)) g1 g2 g3 g4 g5 A := by
  obtain ⟨hl, h0, h1, h2, he, hf, t0, t1, t2⟩ := H
  obtain ⟨-, l0, -⟩ := own_lens ⟨k0, h0⟩
  obtain ⟨-, l1, -⟩ := own_lens ⟨k1, h1⟩
  obtain ⟨-, l2, -⟩ := own_lens ⟨k2, h2⟩
  change 1 ≤ own_len k0 at l0
  change 1 ≤ own_len k1 at l1
  change 1 ≤ own_len k2 at l2
  have B0 := own_brt A _ k0 k1 h0 h1 t0 t1 (by omega)
  have B1 := own_brt A _ k1 k2 h1 h2 t1 t2 (by omega)
  have add : ∀ (b : Bool) (x : Int32), (if b = true then x + 1 else x) = x + own_b b := fun b x => by
    cases b
    · exact (Int32.add_zero x).symm
    · rfl
  obtain ⟨n, hn⟩ : ∃ n, 64 = n + 1 + own_len k2 + own_len k1 + own_len k0 + f := ⟨63 - own_len k2 - own_len k1 - own_len k0 - f, by omega⟩
  rw [hn, own_run A hl g1 g2 g3 g4 g5 line units 1 hline _ f p0 (by omega) (fun j hj => own_nobr A _ (by rw [hf j hj]; decide) (by rw [hf j hj]; decide)), own_tk1 A hl g1 g2 g3 g4 g5 line units 1 hline _ _ k0 h0 t0 (by omega), B0, add]
  by_cases c1 : 1 + own_b (own_s k0 k1) < line
  · rw [if_pos c1, own_tk1 A hl g1 g2 g3 g4 g5 line units _ c1 _ _ k1 h1 t1 (by omega), B1, add]
    by_cases c2 : 1 + own_b (own_s k0 k1) + own_b (own_s k1 k2) < line
    · rw [if_pos c2, own_tk1 A hl g1 g2 g3 g4 g5 line units _ c2 _ _ k2 h2 t2 (by omega), he, own_p1e A hl]
    · obtain ⟨q, hq⟩ : ∃ q, n + 1 + own_len k2 = q + 1 := ⟨n + own_len k2, by omega⟩
      rw [if_neg c2, hq, own_p1 A hl g1 g2 g3 g4 g5 line units _ q _ (by omega), if_neg c2]
  · obtain ⟨q, hq⟩ : ∃ q, n + 1 + own_len k2 + own_len k1 = q + 1 := ⟨n + own_len k2 + own_len k1, by omega⟩
    rw [if_neg c1, hq, own_p1 A hl g1 g2 g3 g4 g5 line units _ q _ (by omega), if_neg c1]
theorem own_fill {A : List Int32} {p0 f k0 k1 k2 : Nat} (H : own_lay A p0 f k0 k1 k2) (g1 g2 g3 g4 g5 units : Int32) (n : Nat) : ∀ r : Nat, r ≤ f → ((1 + (f - r) : Nat) : Int) ≤ units.toInt →
    f5_84 (n + 1 + r) units (Int32.ofNat (p0 + (f - r))) (Int32.ofNat (1 + (f - r))) (Int32.ofNat (1 + (f - r))) g1 g2 g3 g4 g5 A = if ((1 + f : Nat) : Int) < units.toInt then f5_84 (n + 1) units (Int32.ofNat (p0 + f)) (Int32.ofNat (1 + f)) (Int32.ofNat (1 + f)) g1 g2 g3 g4 g5 A else some units := by
  obtain ⟨hl, h0, h1, h2, he, hf, t0, t1, t2⟩ := H
  obtain ⟨-, l0, -⟩ := own_lens ⟨k0, h0⟩
  change 1 ≤ own_len k0 at l0
  intro r
  induction r with
  | zero =>
    intro _ hu
    rw [Nat.sub_zero, Nat.add_zero] at *
    by_cases c : ((1 + f : Nat) : Int) < units.toInt
    · rw [if_pos c]
    · have e := own_ni (1 + f) (by omega)
      have : Int32.ofNat (1 + f) = units := Int32.toInt_inj.mp (by omega)
      rw [if_neg c, own_p2 A hl g1 g2 g3 g4 g5 units _ _ n _ (by omega), this, if_neg (fun z => by rw [Int32.lt_iff_toInt_lt] at z; omega)]
  | succ r ih =>
    intro hr hu
    have e := own_ni (1 + (f - (r + 1))) (by omega)
    have hb := hf (f - (r + 1)) (by omega)
    rw [show n + 1 + (r + 1) = n + 1 + r + 1 by omega, own_p2 A hl g1 g2 g3 g4 g5 units _ _ _ _ (by omega), hb]
    have s1 : own_sz 97 = 1 := by decide
    have w1 : own_w 97 = 1 := by decide
    rw [s1, w1, own_up]
    by_cases c : Int32.ofNat (1 + (f - (r + 1))) < units
    · rw [if_pos c]
      rw [Int32.lt_iff_toInt_lt] at c
      have := ih (by omega) (by omega)
      rw [show p0 + (f - (r + 1)) + 1 = p0 + (f - r) by omega, show 1 + (f - (r + 1)) + 1 = 1 + (f - r) by omega]
      exact this
    · rw [if_neg c]
      rw [Int32.lt_iff_toInt_lt] at c
      have : Int32.ofNat (1 + (f - (r + 1))) = units := Int32.toInt_inj.mp (by omega)
      rw [if_neg (by omega), this]
theorem own_from (line N w0 w1 w2 : Int32) (b0 b1 b2 : Bool) (hline : 1 < line) :
    f6_148 line N w0 w1 w2 (own_b b0) (own_b b1) (own_b b2) = if 1 + own_b b0 < line then (if 1 + own_b b0 + own_b b1 < line then f6_216 N w0 w1 w2 3 else f6_216 N w0 w1 w2 2) else f6_216 N w0 w1 w2 1 := by
  have hL := line.toInt_lt
  rw [Int32.lt_iff_toInt_lt] at hline
  change (1 : Int) < _ at hline
  have m := own_df line 1 line.toInt 1 rfl rfl (by omega) (by omega)
  have v0 : (0 : Int32).toInt = 0 := rfl
  have v1 : (1 : Int32).toInt = 1 := rfl
  have z1 : ((0 : Int32) + 1).toInt = 1 := rfl
  have z2 : ((0 : Int32) + 1 + 1).toInt = 2 := rfl
  have z3 : ((0 : Int32) + 1 + 1 + 1).toInt = 3 := rfl
  have y1 : ((1 : Int32) + 0).toInt = 1 := rfl
  have y2 : ((1 : Int32) + 1).toInt = 2 := rfl
  have y3 : ((1 : Int32) + 0 + 0).toInt = 1 := rfl
  have y4 : ((1 : Int32) + 0 + 1).toInt = 2 := rfl
  have y5 : ((1 : Int32) + 1 + 0).toInt = 2 := rfl
  have y6 : ((1 : Int32) + 1 + 1).toInt = 3 := rfl
  have o1 : ¬ (1 : Int32) = 0 := by decide
  have t : own_b true = 1 := rfl
  have fl : own_b false = 0 := rfl
  unfold f6_148 f6_180 f6_198
  generalize f6_216 N w0 w1 w2 1 = R1
  generalize f6_216 N w0 w1 w2 2 = R2
  generalize f6_216 N w0 w1 w2 3 = R3
  cases b0 <;> cases b1 <;> cases b2 <;> simp only [t, fl, ← Int32.toInt_inj, Int32.lt_iff_toInt_lt, v0, v1, m, z1, z2, z3, y1, y2, y3, y4, y5, y6]
  all_goals
    repeat' refine own_if (fun _ => ?_) (fun _ => ?_)
  all_goals refine Eq.symm ?_
  all_goals
    repeat' refine own_if (fun _ => ?_) (fun _ => ?_)
  all_goals first | rfl | (exfalso; omega) | exact absurd trivial (by assumption) | exact False.elim (by assumption)
theorem own_is (k n : Nat) (hk : k < 8) (hn : n < 8) {α : Type} (a b : α) : (if Int32.ofNat k = Int32.ofNat n then a else b) = if k = n then a else b := by
  by_cases c : k = n
  · rw [if_pos c, if_pos ((own_eqN k n (by omega) (by omega)).mpr c)]
  · rw [if_neg c, if_neg (fun z => c ((own_eqN k n (by omega) (by omega)).mp z))]
theorem own_is1 (k : Nat) (hk : k < 8) {α : Type} (a b : α) : (if Int32.ofNat k = 1 then a else b) = if k = 1 then a else b := own_is k 1 hk (by decide) a b
theorem own_is2 (k : Nat) (hk : k < 8) {α : Type} (a b : α) : (if Int32.ofNat k = 2 then a else b) = if k = 2 then a else b := own_is k 2 hk (by decide) a b
theorem own_is7 (k : Nat) (hk : k < 8) {α : Type} (a b : α) : (if Int32.ofNat k = 7 then a else b) = if k = 7 then a else b := own_is k 7 hk (by decide) a b
theorem own_131 (k2 : Nat) (h2 : k2 < 8) (x4 x6 x7 x8 x9 x10 t : Int32) : f6_131 (Int32.ofNat k2) x4 x6 x7 x8 x9 x10 t = f6_148 x4 x6 x7 x8 x9 x10 t (own_b (own_s k2 0)) := by
  unfold f6_131 f6_143
  rw [own_is1 k2 h2, own_is2 k2 h2]
  by_cases c : k2 = 1
  · subst c; rfl
  · rw [if_neg c]
    by_cases d : k2 = 2
    · subst d; rfl
    · have : own_s k2 0 = false := by unfold own_s; rw [decide_eq_false c, decide_eq_false d]; rfl
      rw [if_neg d, this]; rfl
theorem own_109 (k1 k2 : Nat) (h1 : k1 < 8) (h2 : k2 < 8) (x4 x6 x7 x8 x9 t : Int32) : f6_109 (Int32.ofNat k1) (Int32.ofNat k2) x4 x6 x7 x8 x9 t = f6_131 (Int32.ofNat k2) x4 x6 x7 x8 x9 t (own_b (own_s k1 k2)) := by
  unfold f6_109 f6_126 f6_130
  rw [own_is1 k1 h1, own_is2 k1 h1, own_is1 k2 h2]
  by_cases c : k1 = 1
  · subst c; rfl
  · rw [if_neg c]
    by_cases d : k1 = 2
    · subst d
      rw [if_pos rfl]
      by_cases b : k2 = 1
      · subst b; rfl
      · have : own_s 2 k2 = true := by unfold own_s; rw [decide_eq_false b]; rfl
        rw [if_neg b, this]; rfl
    · have : own_s k1 k2 = false := by unfold own_s; rw [decide_eq_false c, decide_eq_false d]; rfl
      rw [if_neg d, this]; rfl
theorem own_51 (k0 k1 k2 : Nat) (h0 : k0 < 8) (h1 : k1 < 8) (h2 : k2 < 8) (F line N w0 w1 w2 : Int32) :
    f6_51 (Int32.ofNat k0) (Int32.ofNat k1) (Int32.ofNat k2) F line N w0 w1 w2 = if 1 < line then f6_148 line N w0 w1 w2 (own_b (own_s k0 k1)) (own_b (own_s k1 k2)) (own_b (own_s k2 0)) else if F < N then (f7_0 (N - F) 0 w0 w1 w2).bind fun r => some (1 + F + r) else some (1 + N) := by
  unfold f6_51 f6_104 f6_108
  refine own_if (fun c => ?_) (fun c => ?_)
  · rw [if_pos c, own_is1 k0 h0, own_is2 k0 h0, own_is1 k1 h1]
    have fin : ∀ t : Int32, f6_109 (Int32.ofNat k1) (Int32.ofNat k2) line N w0 w1 w2 t = f6_148 line N w0 w1 w2 t (own_b (own_s k1 k2)) (own_b (own_s k2 0)) := fun t => by
      rw [own_109 k1 k2 h1 h2, own_131 k2 h2]
    rw [fin, fin]
    by_cases c : k0 = 1
    · subst c; rfl
    · rw [if_neg c]
      by_cases d : k0 = 2
      · subst d
        rw [if_pos rfl]
        by_cases b : k1 = 1
        · subst b; rfl
        · have : own_s 2 k1 = true := by unfold own_s; rw [decide_eq_false b]; rfl
          rw [if_neg b, this]; rfl
      · have : own_s k0 k1 = false := by unfold own_s; rw [decide_eq_false c, decide_eq_false d]; rfl
        rw [if_neg d, this]; rfl
  · rw [if_neg c]
theorem own_exp (k0 k1 k2 : Nat) (h0 : k0 < 8) (h1 : k1 < 8) (h2 : k2 < 8) (F line units : Int32) (hu : 1 < units) :
    f6_0 (Int32.ofNat k0) (Int32.ofNat k1) (Int32.ofNat k2) F line units = f6_51 (Int32.ofNat k0) (Int32.ofNat k1) (Int32.ofNat k2) F line (units - 1) (own_W k0) (own_W k1) (own_W k2) := by
  unfold f6_0 f6_25 f6_38
  rw [if_pos hu, own_is7 k0 h0, own_is7 k1 h1, own_is7 k1 h1, own_is7 k2 h2, own_is7 k2 h2, own_is7 k2 h2, own_is7 k2 h2]
  unfold own_W
  by_cases a : k0 = 7 <;> by_cases b : k1 = 7 <;> by_cases c : k2 = 7 <;> simp only [a, b, c, if_true, if_false] <;> rfl
theorem own_f7t (N x w0 w1 w2 : Int32) : ∃ v, f7_0 N x w0 w1 w2 = some v := by
  unfold f7_0 f7_18 f7_34
  repeat' split
  all_goals exact ⟨_, rfl⟩
theorem own_Vle (A : List Int32) (g1 g2 g3 g4 g5 units : Int32) (p : Int32) (hu : ¬ 1 < units) : f5_78 units p g1 g2 g3 g4 g5 A = some 1 := by
  unfold f5_78; rw [f5_84, if_neg hu]
theorem own_key {A : List Int32} {p0 f k0 k1 k2 : Nat} (H : own_lay A p0 f k0 k1 k2) (g1 g2 g3 g4 g5 line units : Int32) :
    f5_8 64 line units (Int32.ofNat p0) 1 g1 g2 g3 g4 g5 A = f6_0 (Int32.ofNat k0) (Int32.ofNat k1) (Int32.ofNat k2) (Int32.ofNat f) line units ∧ ∃ v, f6_0 (Int32.ofNat k0) (Int32.ofNat k1) (Int32.ofNat k2) (Int32.ofNat f) line units = some v := by
  have H' := H
  obtain ⟨hl, h0, h1, h2, he, hf, t0, t1, t2⟩ := H'
  obtain ⟨-, l0, -⟩ := own_lens ⟨k0, h0⟩
  change 1 ≤ own_len k0 at l0
  have first : ¬ 1 < line → f5_8 64 line units (Int32.ofNat p0) 1 g1 g2 g3 g4 g5 A = f5_78 units (Int32.ofNat p0) g1 g2 g3 g4 g5 A := fun c => by
    rw [own_p1 A hl g1 g2 g3 g4 g5 line units 1 63 p0 (by omega), if_neg c]
  by_cases hu : 1 < units
  · have hU := units.toInt_lt
    have huI := hu
    rw [Int32.lt_iff_toInt_lt] at huI
    change (1 : Int) < _ at huI
    have hN := own_df units 1 units.toInt 1 rfl rfl (by omega) (by omega)
    rw [own_exp k0 k1 k2 h0 h1 h2 _ line units hu, own_51 k0 k1 k2 h0 h1 h2]
    by_cases c : 1 < line
    · rw [if_pos c, own_ph1 H g1 g2 g3 g4 g5 line units c, own_from line _ _ _ _ _ _ _ c]
      have e1 : f5_78 units (Int32.ofNat (p0 + f + own_len k0)) g1 g2 g3 g4 g5 A = f6_216 (units - 1) (own_W k0) (own_W k1) (own_W k2) 1 := by
        unfold f5_78 f6_216
        rw [own_V1 H g1 g2 g3 g4 g5 units 1 1 61, own_dr1 units 1 1 (units - 1) (own_W k0) (own_W k1) (own_W k2) 1 rfl (by omega) (by omega) hN (by omega) (own_Wb k1)]
      have e2 : f5_78 units (Int32.ofNat (p0 + f + own_len k0 + own_len k1)) g1 g2 g3 g4 g5 A = f6_216 (units - 1) (own_W k0) (own_W k1) (own_W k2) 2 := by
        unfold f5_78 f6_216
        rw [own_V2 H g1 g2 g3 g4 g5 units 1 1 62, own_dr2 units 1 1 (units - 1) (own_W k0) (own_W k1) (own_W k2) 1 rfl hN (by omega)]
      have e3 : f5_78 units (Int32.ofNat 15) g1 g2 g3 g4 g5 A = f6_216 (units - 1) (own_W k0) (own_W k1) (own_W k2) 3 := by
        unfold f5_78 f6_216
        rw [own_p2e A hl g1 g2 g3 g4 g5 units 1 1 63, ← own_dr3]
      rw [e1, e2, e3]
      refine ⟨rfl, ?_⟩
      have tot : ∀ x : Int32, ∃ v, f6_216 (units - 1) (own_W k0) (own_W k1) (own_W k2) x = some v := fun x => by
        obtain ⟨v, hv⟩ := own_f7t (units - 1) x (own_W k0) (own_W k1) (own_W k2)
        exact ⟨1 + v, by unfold f6_216; rw [hv, Option.bind_some]⟩
      split
      · split
        · exact tot 3
        · exact tot 2
      · exact tot 1
    · rw [if_neg c, first c]
      have ef := own_ni f (by omega)
      obtain ⟨n, hn⟩ : ∃ n, 64 = n + 3 + 1 + f := ⟨60 - f, by omega⟩
      have hfill := own_fill H g1 g2 g3 g4 g5 units (n + 3) f (Nat.le_refl _) (by rw [Nat.sub_self]; omega)
      rw [Nat.sub_self, ← hn] at hfill
      have hs : f5_78 units (Int32.ofNat p0) g1 g2 g3 g4 g5 A = f5_84 64 units (Int32.ofNat (p0 + 0)) (Int32.ofNat (1 + 0)) (Int32.ofNat (1 + 0)) g1 g2 g3 g4 g5 A := rfl
      rw [hs, hfill]
      by_cases d : ((1 + f : Nat) : Int) < units.toInt
      · have d' : Int32.ofNat f < units - 1 := by rw [Int32.lt_iff_toInt_lt]; omega
        have e1f := own_ni (1 + f) (by omega)
        have hN2 := own_df (units - 1) (Int32.ofNat f) _ _ hN ef (by omega) (by omega)
        have a1 : (1 : Int32) + Int32.ofNat f = Int32.ofNat (1 + f) := by rw [Int32.ofNat_add]; rfl
        rw [if_pos d, if_pos d', a1, own_V0 H g1 g2 g3 g4 g5 units (Int32.ofNat (1 + f)) (Int32.ofNat (1 + f)) n, own_dr0 units (Int32.ofNat (1 + f)) (Int32.ofNat (1 + f)) (units - 1 - Int32.ofNat f) (own_W k0) (own_W k1) (own_W k2) _ e1f (by omega) (by omega) (by omega) (by omega) (own_Wb k0) (own_Wb k1)]
        refine ⟨rfl, ?_⟩
        obtain ⟨v, hv⟩ := own_f7t (units - 1 - Int32.ofNat f) 0 (own_W k0) (own_W k1) (own_W k2)
        exact ⟨_, by rw [hv, Option.bind_some]⟩
      · have d' : ¬ Int32.ofNat f < units - 1 := by rw [Int32.lt_iff_toInt_lt]; omega
        have back : (1 : Int32) + (units - 1) = units := by
          apply Int32.toInt_inj.mp
          rw [own_sm 1 (units - 1) 1 _ rfl hN (by omega) (by omega)]; omega
        rw [if_neg d, if_neg d', back]
        exact ⟨rfl, _, rfl⟩
  · have e : f6_0 (Int32.ofNat k0) (Int32.ofNat k1) (Int32.ofNat k2) (Int32.ofNat f) line units = some 1 := by unfold f6_0; rw [if_neg hu]
    refine ⟨?_, _, e⟩
    rw [e]
    by_cases c : 1 < line
    · rw [own_ph1 H g1 g2 g3 g4 g5 line units c, own_Vle A _ _ _ _ _ units _ hu, own_Vle A _ _ _ _ _ units _ hu, own_Vle A _ _ _ _ _ units _ hu]
      refine own_if (fun _ => own_if (fun _ => rfl) (fun _ => rfl)) (fun _ => rfl)
    · rw [first c, own_Vle A _ _ _ _ _ units _ hu]
theorem own_236 {A : List Int32} {p0 f k0 k1 k2 : Nat} (H : own_lay A p0 f k0 k1 k2) (line units : Int32) : f0_236 line units (Int32.ofNat k0) (Int32.ofNat k1) (Int32.ofNat k2) (Int32.ofNat p0) (Int32.ofNat f) A = some 1 := by
  obtain ⟨e, v, hv⟩ := own_key H 1 1 (Int32.ofNat p0) (Int32.ofNat p0) (Int32.ofNat p0) line units
  unfold f0_236 f3_0
  rw [Option.bind_some]
  unfold f5_0
  dsimp only
  rw [e, hv, Option.bind_some, Option.bind_some, if_pos rfl]
theorem own_193 (A : List Int32) (hl : A.length = 15) (p0 f k0 k1 k2 : Nat) (h0 : k0 < 8) (h1 : k1 < 8) (h2 : k2 < 8) (he : p0 + f + own_len k0 + own_len k1 + own_len k2 = 15) (hf : ∀ t, t < f → own_a A (p0 + t) = 97) (line units : Int32) :
    f0_193 line units (Int32.ofNat k0) (Int32.ofNat k1) (Int32.ofNat k2) (Int32.ofNat p0) (Int32.ofNat (own_len k0)) (Int32.ofNat (own_len k1)) (Int32.ofNat f) A = some 1 := by
  unfold f0_193
  have hl1 := (own_wr_len (own_bytes k0) A (p0 + f)).trans hl
  have hl2 := (own_wr_len (own_bytes k1) (own_wr A (p0 + f) (own_bytes k0)) (p0 + f + own_len k0)).trans hl1
  have hl3 := (own_wr_len (own_bytes k2) (own_wr (own_wr A (p0 + f) (own_bytes k0)) (p0 + f + own_len k0) (own_bytes k1)) (p0 + f + own_len k0 + own_len k1)).trans hl2
  rw [← Int32.ofNat_add, own_put A hl (p0 + f) k0 h0 (by omega), Option.bind_some, ← Int32.ofNat_add, own_put _ hl1 (p0 + f + own_len k0) k1 h1 (by omega), Option.bind_some, ← Int32.ofNat_add, own_put _ hl2 (p0 + f + own_len k0 + own_len k1) k2 h2 (by omega), Option.bind_some]
  have d0 : (own_bytes k0).length = own_len k0 := rfl
  have d1 : (own_bytes k1).length = own_len k1 := rfl
  have d2 : (own_bytes k2).length = own_len k2 := rfl
  refine own_236 ⟨hl3, h0, h1, h2, he, fun t ht => ?_, fun j hj => ?_, fun j hj => ?_, fun j hj => ?_⟩ line units
  · rw [own_wr_out _ _ _ _ (by omega), own_wr_out _ _ _ _ (by omega), own_wr_out _ _ _ _ (by omega)]; exact hf t ht
  · rw [own_wr_out _ _ _ _ (by omega), own_wr_out _ _ _ _ (by omega), own_wr_in _ _ _ _ hj (by omega)]
  · rw [own_wr_out _ _ _ _ (by omega), own_wr_in _ _ _ _ hj (by omega)]
  · rw [own_wr_in _ _ _ _ hj (by omega)]
theorem own_sub (a b : Nat) (ha : a < 1000) (hb : b ≤ a) : Int32.ofNat a - Int32.ofNat b = Int32.ofNat (a - b) := by
  apply Int32.toInt_inj.mp
  rw [own_df _ _ _ _ (own_ni a ha) (own_ni b (by omega)) (by omega) (by omega), own_ni (a - b) (by omega)]; omega
theorem own_A0 : ∀ i : Fin 15, own_a ([(i2bF (97 : Int32)), (i2bF (97 : Int32)), (i2bF (97 : Int32)), (i2bF (97 : Int32)), (i2bF (97 : Int32)), (i2bF (97 : Int32)), (i2bF (97 : Int32)), (i2bF (97 : Int32)), (i2bF (97 : Int32)), (i2bF (97 : Int32)), (i2bF (97 : Int32)), (i2bF (97 : Int32)), (i2bF (97 : Int32)), (i2bF (97 : Int32)), (i2bF (97 : Int32))] : List Int32) i.val = 97 := by decide +kernel
theorem own_A3 : ∀ i : Fin 15, 3 ≤ i.val → own_a ([(i2bF (-17 : Int32)), (i2bF (-69 : Int32)), (i2bF (-65 : Int32)), (i2bF (97 : Int32)), (i2bF (97 : Int32)), (i2bF (97 : Int32)), (i2bF (97 : Int32)), (i2bF (97 : Int32)), (i2bF (97 : Int32)), (i2bF (97 : Int32)), (i2bF (97 : Int32)), (i2bF (97 : Int32)), (i2bF (97 : Int32)), (i2bF (97 : Int32)), (i2bF (97 : Int32))] : List Int32) i.val = 97 := by decide +kernel
theorem own_41 (k0 k1 k2 : Fin 8) (line units : Int32) : f0_41 line units (Int32.ofNat k0.val) (Int32.ofNat k1.val) (Int32.ofNat k2.val) 0 0 = some 1 ∧ f0_41 line units (Int32.ofNat k0.val) (Int32.ofNat k1.val) (Int32.ofNat k2.val) 1 3 = some 1 := by
  obtain ⟨e0, a0, b0⟩ := own_lens k0
  obtain ⟨e1, a1, b1⟩ := own_lens k1
  obtain ⟨e2, a2, b2⟩ := own_lens k2
  have z0 : (15 : Int32) - 0 = Int32.ofNat (15 - 0) := rfl
  have z3 : (15 : Int32) - 3 = Int32.ofNat (15 - 3) := rfl
  constructor
  · unfold f0_41
    rw [e0, Option.bind_some, e1, Option.bind_some, e2, Option.bind_some, if_pos rfl, z0, own_sub _ _ (by omega) (by omega), own_sub _ _ (by omega) (by omega), own_sub _ _ (by omega) (by omega)]
    exact own_193 _ rfl 0 _ k0.val k1.val k2.val k0.isLt k1.isLt k2.isLt (by omega) (fun t ht => own_A0 ⟨0 + t, by omega⟩) line units
  · unfold f0_41
    rw [e0, Option.bind_some, e1, Option.bind_some, e2, Option.bind_some, if_neg (show ¬ (1 : Int32) = 0 by decide), z3, own_sub _ _ (by omega) (by omega), own_sub _ _ (by omega) (by omega), own_sub _ _ (by omega) (by omega)]
    exact own_193 _ rfl 3 _ k0.val k1.val k2.val k0.isLt k1.isLt k2.isLt (by omega) (fun t ht => own_A3 ⟨3 + t, by omega⟩ (by show 3 ≤ 3 + t; omega)) line units
theorem own_law (x0 : Int32) (x1 : Int32) (x2 : Int32) (x3 : Int32) (x4 : Int32) (x5 : Int32) : f0_0 x0 x1 x2 x3 x4 x5 = some 1 := by
  have m0 := own_mask x0 3 (by decide) 7 rfl
  have m1 := own_mask x1 3 (by decide) 7 rfl
  have m2 := own_mask x2 3 (by decide) 7 rfl
  obtain ⟨k0, h0⟩ := own_fin32 (x0 &&& 7) 8 (by omega) (by omega)
  obtain ⟨k1, h1⟩ := own_fin32 (x1 &&& 7) 8 (by omega) (by omega)
  obtain ⟨k2, h2⟩ := own_fin32 (x2 &&& 7) 8 (by omega) (by omega)
  unfold f0_0 f0_29
  rw [h0, h1, h2]
  refine own_if (fun _ => ?_) (fun _ => ?_)
  · rw [if_pos rfl]; exact (own_41 k0 k1 k2 x4 x5).1
  · rw [if_neg (show ¬ (1 : Int32) = 0 by decide)]; exact (own_41 k0 k1 k2 x4 x5).2

set_option maxRecDepth 65536 in
set_option maxHeartbeats 40000000 in
theorem comes_1 {Post : Tables → Env → Array Value → State → Outcome → State → Prop} (hpost : ∀ tb e args s v u, (limb_1_1.after args s (.returned v) u = true ∧ limb_1_2.after args s (.returned v) u = true ∧ True) → FrameEnd s (.returned v) u (Jvm.fieldLocs frame_1_writes args s ++ Jvm.arrayLocs frame_1_arrays args s ++ Jvm.staticLocs frame_1_statics s) 16 128 → Post tb e args s (.returned v) u) :
    ArmFor flags0 classFile x code maxLocals ret World_1 tables_1 room_1 Calls_1 rest_1 Pre_1 Post := by
  intro l hfl _ _ p e ha hc hk s m args below hf hA hF happ hP
  obtain ⟨hcalls, hrest, hpre⟩ := hP
  obtain ⟨-, -, -, hnamed, -, -, -, hat⟩ := (Spec.applies_iff hf).mp happ
  obtain ⟨hg, hn⟩ := and_e (Cond.before_iff.mp (show (Jvm.Cond.and given_1 narrow_1).before args s = true from hpre))
  obtain ⟨hcnt, q0⟩ := and_e hg
  obtain ⟨p0, q1⟩ := and_e q0
  obtain ⟨p1, q2⟩ := and_e q1
  obtain ⟨p2, q3⟩ := and_e q2
  obtain ⟨p3, q4⟩ := and_e q3
  obtain ⟨p4, q5⟩ := and_e q4
  obtain ⟨w0, w1, w2, w3, w4, w5, rfl⟩ : ∃ w0 w1 w2 w3 w4 w5 : Value, args = #[w0, w1, w2, w3, w4, w5] := by
    have hs : args.size = 6 := by simpa [Cond.value, given_1] using hcnt
    obtain ⟨L⟩ := args
    match L, hs with
    | [w0, w1, w2, w3, w4, w5], _ => exact ⟨w0, w1, w2, w3, w4, w5, rfl⟩
  have hw := fun d (hd : d ∈ tables_1) => atoms_spec (ws := Jvm.Cond.code x code maxLocals ret :: tables_1) hat d (List.mem_cons_of_mem _ hd)
  obtain ⟨i0, c0⟩ := is_v p0
  obtain rfl : w0 = (.int i0) := Option.some.inj c0
  obtain ⟨i1, c1⟩ := is_v p1
  obtain rfl : w1 = (.int i1) := Option.some.inj c1
  obtain ⟨i2, c2⟩ := is_v p2
  obtain rfl : w2 = (.int i2) := Option.some.inj c2
  obtain ⟨i3, c3⟩ := is_v p3
  obtain rfl : w3 = (.int i3) := Option.some.inj c3
  obtain ⟨i4, c4⟩ := is_v p4
  obtain rfl : w4 = (.int i4) := Option.some.inj c4
  obtain ⟨i5, c5⟩ := is_v q5
  obtain rfl : w5 = (.int i5) := Option.some.inj c5
  obtain ⟨n, o, h1, h2, h3, _, L, rfl, ⟨rfl, N⟩, hq⟩ := rm0 l s _ hw tables_1 i0 i1 i2 i3 i4 i5 s.heap s.heap.size (Nat.le_refl _) 1 (own_law i0 i1 i2 i3 i4 i5) p e ha hc hk s m _ below hf ((Spec.applies_iff_loose hf).mp happ).1 ⟨rfl, State.Warmed39.refl s, rfl⟩ trivial
  refine ⟨n, _, h1, h2, h3, hpost _ _ _ _ _ _ ⟨Cond.after_iff.mpr rfl, Cond.after_iff.mpr (eq_i res_at (Term.int_eval (1)) rfl), trivial⟩ ⟨hq.1, hq.2.1, (hq.2.2.sift fun y hy => Or.inr (N y hy)).mono (by decide) (by decide)⟩⟩
theorem main_1_1 : Claimed_1_1 := comes_1 fun _ _ _ _ _ _ h hF => ⟨h.1, hF⟩
theorem main_1_2 : Claimed_1_2 := comes_1 fun _ _ _ _ _ _ h hF => ⟨h.2.1, hF⟩
end Jvm.Pilot.@@N@@
namespace Jvm.Pilot.@@N@@
open Jvm Jvm.ClassFile Sem Op Lib Jvm.Free Jvm.Stand Jvm.Pilot.@@N@@.Jvm.D
/-! MADE BY PROGRAM (witnessworld.py) out of the Statement's table words and the real class files: 9 classes; the members and pool entries that the words name. The judged class is class 1, her method 1. -/
namespace start1
open Jvm.ClassFile
def u (s : String) : CpInfo := .utf8 (stringToUtf16 s)
/-- a pool by its gaps: so many unusable entries, then the entry; so many at the end -/
def gap : Nat → List CpInfo → List CpInfo
  | 0, r => r
  | n + 1, r => .unusable :: gap n r
def poolList (es : List (Nat × CpInfo)) (last : Nat) : List CpInfo := es.foldr (fun e r => gap e.1 (e.2 :: r)) (gap last [])
def pool (es : List (Nat × CpInfo)) (last : Nat) : Array CpInfo := ⟨poolList es last⟩
def fileOf (pool : Array CpInfo) (this : Nat) (attrs : Array Attribute := #[]) (ms : Array MethodInfo := #[]) (fl : Nat := 33) (sup : Nat := 0) (ifs : Array Nat := #[]) (fds : Array FieldInfo := #[]) : ClassFile where
  minorVersion := 0
  majorVersion := 65
  constantPool := pool
  accessFlags := fl
  thisClass := this
  superClass := sup
  interfaces := ifs
  fields := fds
  methods := ms
  attributes := attrs
def plain (name : String) (sup : Option ClassId) : Class where
  name := name
  kind := .ordinary
  loader := none
  accessFlags := 33
  super := sup
  interfaces := #[]
  cf := none
  fields := #[]
  methods := #[]
  instanceTypes := #[]
  staticTypes := #[]
  resolved := #[]
  callSites := []
  init := .initialized
  statics := none
  mirror := none

def pool0 : Array CpInfo := pool [(5, u "<init>"), (0, u "()V"), (1, .class_ 10), (1, u "java/lang/Object")] 113

def k0c0 : Code := { maxStack := 0, maxLocals := 1, code := object_method_1_code, exceptionTable := #[], attributes := #[] }
def k0m0 : Method := { name := "<init>", desc := "()V", sig := { parameters := [], returnType := none }, accessFlags := 1, code := some k0c0 }
/-- java/lang/Object -/
def k0 : Class := { plain "java/lang/Object" none with
  accessFlags := 33
  interfaces := #[]
  cf := some (fileOf pool0 8 #[] #[{ accessFlags := 1, nameIndex := 5, descriptorIndex := 6, attributes := #[] }] 33 0 #[] #[])
  fields := #[]
  methods := #[k0m0]
  instanceTypes := #[]
  staticTypes := #[]
  resolved := Array.replicate 124 none
  statics := none }

def pool1 : Array CpInfo := pool [(2, .class_ 4), (1, u "java/lang/Object"), (0, u "<init>"), (0, u "()V"), (0, .methodref 8 9), (0, .class_ 10), (0, .nameAndType 11 12), (0, u "com/example/yarrow/yarrow/data/StartTagsColumnOfPinLaw"), (0, u "len"), (0, u "(I)I"), (0, .methodref 8 14), (0, .nameAndType 15 16), (0, u "put"), (0, u "([BII)V"), (0, .class_ 18), (0, u "com/example/yarrow/yarrow/data/StartTags"), (0, .methodref 17 20), (0, .nameAndType 5 21), (0, u "([BI)V"), (0, .methodref 17 23), (0, .nameAndType 24 25), (0, u "columnOf"), (0, u "(II)I"), (0, .methodref 8 27), (0, .nameAndType 28 29), (0, u "expected"), (0, u "(IIIIII)I"), (0, .methodref 8 31), (0, .nameAndType 32 33), (0, u "drawn"), (0, u "(IIIII)I"), (2, u "law"), (0, u "(IIIIII)Z")] 5

def k1m0 : Method := { name := "<init>", desc := "()V", sig := { parameters := [], returnType := none }, accessFlags := 1, code := none }
def k1c1 : Code := { maxStack := 7, maxLocals := 19, code := code, exceptionTable := #[], attributes := #[] }
def k1m1 : Method := { name := "law", desc := "(IIIIII)Z", sig := { parameters := [.int, .int, .int, .int, .int, .int], returnType := some .boolean }, accessFlags := 9, code := some k1c1 }
def k1c2 : Code := { maxStack := 6, maxLocals := 16, code := method_3_code, exceptionTable := #[], attributes := #[] }
def k1m2 : Method := { name := "expected", desc := "(IIIIII)I", sig := { parameters := [.int, .int, .int, .int, .int, .int], returnType := some .int }, accessFlags := 10, code := some k1c2 }
def k1c3 : Code := { maxStack := 2, maxLocals := 6, code := method_4_code, exceptionTable := #[], attributes := #[] }
def k1m3 : Method := { name := "drawn", desc := "(IIIII)I", sig := { parameters := [.int, .int, .int, .int, .int], returnType := some .int }, accessFlags := 10, code := some k1c3 }
def k1c4 : Code := { maxStack := 2, maxLocals := 1, code := method_5_code, exceptionTable := #[], attributes := #[] }
def k1m4 : Method := { name := "len", desc := "(I)I", sig := { parameters := [.int], returnType := some .int }, accessFlags := 10, code := some k1c4 }
def k1c5 : Code := { maxStack := 3, maxLocals := 3, code := method_6_code, exceptionTable := #[], attributes := #[] }
def k1m5 : Method := { name := "put", desc := "([BII)V", sig := { parameters := [(.array .byte), .int, .int], returnType := none }, accessFlags := 10, code := some k1c5 }
/-- com/example/yarrow/yarrow/data/StartTagsColumnOfPinLaw -/
def k1 : Class := { plain "com/example/yarrow/yarrow/data/StartTagsColumnOfPinLaw" (some 0) with
  accessFlags := 49
  interfaces := #[]
  cf := some (fileOf pool1 8 #[] #[{ accessFlags := 1, nameIndex := 5, descriptorIndex := 6, attributes := #[] }, { accessFlags := 9, nameIndex := 36, descriptorIndex := 37, attributes := #[] }, { accessFlags := 10, nameIndex := 28, descriptorIndex := 29, attributes := #[] }, { accessFlags := 10, nameIndex := 32, descriptorIndex := 33, attributes := #[] }, { accessFlags := 10, nameIndex := 11, descriptorIndex := 12, attributes := #[] }, { accessFlags := 10, nameIndex := 15, descriptorIndex := 16, attributes := #[] }] 49 2 #[] #[])
  fields := #[]
  methods := #[k1m0, k1m1, k1m2, k1m3, k1m4, k1m5]
  instanceTypes := #[]
  staticTypes := #[]
  resolved := Array.replicate 43 none
  statics := none }

def pool2 : Array CpInfo := pool [(1, .methodref 2 3), (0, .class_ 4), (0, .nameAndType 5 6), (0, u "java/lang/Object"), (0, u "<init>"), (0, u "()V"), (0, .fieldref 8 9), (0, .class_ 10), (0, .nameAndType 11 12), (0, u "com/example/yarrow/yarrow/data/StartTags"), (0, u "line"), (0, u "I"), (0, .fieldref 8 14), (0, .nameAndType 15 12), (0, u "column"), (0, .fieldref 8 17), (0, .nameAndType 18 19), (0, u "content"), (0, u "[B"), (0, .fieldref 8 21), (0, .nameAndType 22 12), (0, u "start"), (0, .fieldref 8 24), (0, .nameAndType 25 12), (0, u "scan"), (0, .fieldref 8 27), (0, .nameAndType 28 12), (0, u "counted"), (2, u "COMMENT"), (6, u "COMMENT_END"), (6, u "CDATA"), (2, u "CDATA_END"), (2, u "INSTRUCTION"), (2, u "INSTRUCTION_END"), (2, u "END_TAG"), (6, u "afterCarriageReturn"), (0, u "Z"), (30, u "([BI)V"), (5, u "columnOf"), (0, u "(II)I")] 3

def k2c0 : Code := { maxStack := 2, maxLocals := 3, code := prog_31_method_1_code, exceptionTable := #[], attributes := #[] }
def k2m0 : Method := { name := "<init>", desc := "([BI)V", sig := { parameters := [(.array .byte), .int], returnType := none }, accessFlags := 0, code := some k2c0 }
def k2c1 : Code := { maxStack := 3, maxLocals := 8, code := prog_31_method_5_code, exceptionTable := #[], attributes := #[] }
def k2m1 : Method := { name := "columnOf", desc := "(II)I", sig := { parameters := [.int, .int], returnType := some .int }, accessFlags := 0, code := some k2c1 }
/-- com/example/yarrow/yarrow/data/StartTags -/
def k2 : Class := { plain "com/example/yarrow/yarrow/data/StartTags" (some 0) with
  accessFlags := 48
  interfaces := #[]
  cf := some (fileOf pool2 8 #[] #[{ accessFlags := 0, nameIndex := 5, descriptorIndex := 96, attributes := #[] }, { accessFlags := 0, nameIndex := 102, descriptorIndex := 103, attributes := #[] }] 48 2 #[] #[{ accessFlags := 26, nameIndex := 31, descriptorIndex := 19, attributes := #[] }, { accessFlags := 26, nameIndex := 38, descriptorIndex := 19, attributes := #[] }, { accessFlags := 26, nameIndex := 45, descriptorIndex := 19, attributes := #[] }, { accessFlags := 26, nameIndex := 48, descriptorIndex := 19, attributes := #[] }, { accessFlags := 26, nameIndex := 51, descriptorIndex := 19, attributes := #[] }, { accessFlags := 26, nameIndex := 54, descriptorIndex := 19, attributes := #[] }, { accessFlags := 26, nameIndex := 57, descriptorIndex := 19, attributes := #[] }, { accessFlags := 18, nameIndex := 18, descriptorIndex := 19, attributes := #[] }, { accessFlags := 18, nameIndex := 22, descriptorIndex := 12, attributes := #[] }, { accessFlags := 2, nameIndex := 25, descriptorIndex := 12, attributes := #[] }, { accessFlags := 2, nameIndex := 28, descriptorIndex := 12, attributes := #[] }, { accessFlags := 2, nameIndex := 11, descriptorIndex := 12, attributes := #[] }, { accessFlags := 2, nameIndex := 15, descriptorIndex := 12, attributes := #[] }, { accessFlags := 2, nameIndex := 64, descriptorIndex := 65, attributes := #[] }])
  fields := #[{ name := "COMMENT", type := (.array .byte), accessFlags := 26, slot := 0, constantValue := 0 }, { name := "COMMENT_END", type := (.array .byte), accessFlags := 26, slot := 1, constantValue := 0 }, { name := "CDATA", type := (.array .byte), accessFlags := 26, slot := 2, constantValue := 0 }, { name := "CDATA_END", type := (.array .byte), accessFlags := 26, slot := 3, constantValue := 0 }, { name := "INSTRUCTION", type := (.array .byte), accessFlags := 26, slot := 4, constantValue := 0 }, { name := "INSTRUCTION_END", type := (.array .byte), accessFlags := 26, slot := 5, constantValue := 0 }, { name := "END_TAG", type := (.array .byte), accessFlags := 26, slot := 6, constantValue := 0 }, { name := "content", type := (.array .byte), accessFlags := 18, slot := 0, constantValue := 0 }, { name := "start", type := .int, accessFlags := 18, slot := 1, constantValue := 0 }, { name := "scan", type := .int, accessFlags := 2, slot := 2, constantValue := 0 }, { name := "counted", type := .int, accessFlags := 2, slot := 3, constantValue := 0 }, { name := "line", type := .int, accessFlags := 2, slot := 4, constantValue := 0 }, { name := "column", type := .int, accessFlags := 2, slot := 5, constantValue := 0 }, { name := "afterCarriageReturn", type := .boolean, accessFlags := 2, slot := 6, constantValue := 0 }]
  methods := #[k2m0, k2m1]
  instanceTypes := #[(.array .byte), .int, .int, .int, .int, .int, .boolean]
  staticTypes := #[(.array .byte), (.array .byte), (.array .byte), (.array .byte), (.array .byte), (.array .byte), (.array .byte)]
  resolved := Array.replicate 107 none
  statics := none }

def pool3 : Array CpInfo := pool [(1, u "java/lang/Cloneable"), (0, .class_ 1), (0, u "java/lang/Object"), (0, .class_ 3)] 3

/-- java/lang/Cloneable -/
def k3 : Class := { plain "java/lang/Cloneable" (some 0) with
  accessFlags := 1537
  interfaces := #[]
  cf := some (fileOf pool3 2 #[] #[] 1537 4 #[] #[])
  fields := #[]
  methods := #[]
  instanceTypes := #[]
  staticTypes := #[]
  resolved := Array.replicate 8 none
  statics := none }

def pool4 : Array CpInfo := pool [(1, u "java/io/Serializable"), (0, .class_ 1), (0, u "java/lang/Object"), (0, .class_ 3)] 3

/-- java/io/Serializable -/
def k4 : Class := { plain "java/io/Serializable" (some 0) with
  accessFlags := 1537
  interfaces := #[]
  cf := some (fileOf pool4 2 #[] #[] 1537 4 #[] #[])
  fields := #[]
  methods := #[]
  instanceTypes := #[]
  staticTypes := #[]
  resolved := Array.replicate 8 none
  statics := none }

/-- the primitive byte -/
def k5 : Class := { plain "byte" none with kind := .primitive 'B', accessFlags := 0x411 }
/-- [B -/
def k6 : Class := { plain "[B" (some 0) with kind := .array 5 .byte, interfaces := #[3, 4], accessFlags := 1041 }

/-- the primitive int -/
def k7 : Class := { plain "int" none with kind := .primitive 'I', accessFlags := 0x411 }
/-- [I -/
def k8 : Class := { plain "[I" (some 0) with kind := .array 7 .int, interfaces := #[3, 4], accessFlags := 1041 }

def heap : Heap := #[]
def classes : Array Class := #[k0, k1, k2, k3, k4, k5, k6, k7, k8]
def interned : List (Array UInt16 × Addr) := []
def slotsUsed : Nat := 0
def theMethod : MethodId := ⟨1, 1⟩
def args0 : Array Value := #[.int 5, .int 5, .int 5, .int 5, .int 5, .int 5]
def aboutOver (below : List Frame) : State where
  vm := { classes := classes, interned := interned.toArray }
  heap := heap
  slotsUsed := slotsUsed
  threads := #[{ frames := .invoking theMethod args0 :: below }]
def below0 : List Frame := [.native { method := ⟨0, 0⟩, args := #[] }]
def about1 : State := aboutOver below0
def p0 : Program := .bare "" "" ""
def e0 : Env := launch0.env 0 0 0
theorem w_frames : about1.frames = Frame.invoking theMethod args0 :: below0 := rfl
set_option maxRecDepth 65536 in
theorem w_args : argsFit about1.vm theMethod args0 = true := by decide +kernel
set_option maxRecDepth 65536 in
theorem w_heap : heapFits about1 = true := by decide +kernel
set_option maxRecDepth 65536 in
theorem w_runnable : about1.curStatus? = some .runnable := by decide +kernel
set_option maxRecDepth 65536 in
theorem w_alone : about1.alone = true := by decide +kernel
set_option maxRecDepth 65536 in
theorem w_named : about1.methodNamed? x = some theMethod := by decide +kernel
set_option maxRecDepth 65536 in
theorem w_hears : about1.hears theMethod below0 = true := by decide +kernel
set_option maxRecDepth 65536 in
theorem w_ripe : about1.ripe theMethod args0 below0 = true := by decide +kernel
theorem w_running : about1.status = .running := rfl
set_option maxRecDepth 65536 in
theorem w_room : about1.hasRoom e0.platform room_1 = true :=
  launch0.hasRoom_least _ room_1 (by decide +kernel) (by decide +kernel) (by decide +kernel) (by decide +kernel) (by decide +kernel) (by decide +kernel)
theorem allAtoms_all (ts : List Jvm.Cond) (a : Array Jvm.Value) (st : Jvm.State) : (allAtoms ts).before a st = ts.all (fun c => c.before a st) := by
  induction ts with
  | nil => rfl
  | cons c t ih =>
    show (Jvm.Cond.and c (allAtoms t)).before a st = _
    rw [Jvm.Cond.before_and, ih, List.all_cons]
def words1 : List Jvm.Cond := Jvm.Cond.code x code maxLocals ret :: tables_1
/-- a 'code' word, met by the world's own term for the bytes: nothing is compared byte by byte -/
theorem code_word {y : MethodName} {bytes : ByteArray} {mx : Nat} {rt : Option FieldType} {a : Array Value} {s : State} {m : MethodId} {meth : Method} {c : Code} (h1 : s.methodNamed? y = some m) (h2 : s.vm.method? m = some meth) (h3 : meth.code = some c) (h4 : c.code = bytes)
    (h5 : (c.maxLocals == mx && c.exceptionTable.isEmpty && decide (c.maxStack ≤ mostOperands) && decide (meth.sig.returnType = rt) && !meth.locks && decide (parseMethodDescriptor y.desc = some meth.sig)) = true) : (Jvm.Cond.code y bytes mx rt).before a s = true := by
  simp only [Bool.and_eq_true, beq_iff_eq, Bool.not_eq_true', decide_eq_true_eq] at h5
  obtain ⟨⟨⟨⟨⟨g1, g2⟩, g3⟩, g4⟩, g5⟩, g6⟩ := h5
  simp [Cond.before, Cond.holds, Cond.value, h1, h2, h3, h4, g1, g2, g3, g4, g5, g6]
def isCode : Jvm.Cond → Bool
  | .code _ _ _ _ => true
  | _ => false
theorem all_split {L : List Jvm.Cond} {P : Jvm.Cond → Bool} (h1 : L.all (fun c => isCode c || P c) = true) (h2 : ∀ c ∈ L.filter isCode, P c = true) : L.all P = true := by
  refine List.all_eq_true.mpr fun c hc => ?_
  have h := List.all_eq_true.mp h1 c hc
  rcases Bool.eq_false_or_eq_true (isCode c) with hi | hi
  · exact h2 c (List.mem_filter.mpr ⟨hc, hi⟩)
  · simpa [hi] using h
set_option maxRecDepth 65536 in
theorem w_c0 : (Jvm.Cond.code x code maxLocals ret).before args0 about1 = true := code_word (m := ⟨1, 1⟩) (meth := k1m1) (c := k1c1) (by decide +kernel) rfl rfl rfl (by decide +kernel)
set_option maxRecDepth 65536 in
theorem w_c1 : (Jvm.Cond.code ({ cls := "com/example/yarrow/yarrow/data/StartTagsColumnOfPinLaw", name := "len", desc := "(I)I" } : Jvm.MethodName) method_5_code (1 : Nat) (Option.some Jvm.ClassFile.FieldType.int)).before args0 about1 = true := code_word (m := ⟨1, 4⟩) (meth := k1m4) (c := k1c4) (by decide +kernel) rfl rfl rfl (by decide +kernel)
set_option maxRecDepth 65536 in
theorem w_c2 : (Jvm.Cond.code ({ cls := "com/example/yarrow/yarrow/data/StartTagsColumnOfPinLaw", name := "put", desc := "([BII)V" } : Jvm.MethodName) method_6_code (3 : Nat) (Option.none : Option Jvm.ClassFile.FieldType)).before args0 about1 = true := code_word (m := ⟨1, 5⟩) (meth := k1m5) (c := k1c5) (by decide +kernel) rfl rfl rfl (by decide +kernel)
set_option maxRecDepth 65536 in
theorem w_c3 : (Jvm.Cond.code ({ cls := "com/example/yarrow/yarrow/data/StartTags", name := "<init>", desc := "([BI)V" } : Jvm.MethodName) prog_31_method_1_code (3 : Nat) (Option.none : Option Jvm.ClassFile.FieldType)).before args0 about1 = true := code_word (m := ⟨2, 0⟩) (meth := k2m0) (c := k2c0) (by decide +kernel) rfl rfl rfl (by decide +kernel)
set_option maxRecDepth 65536 in
theorem w_c4 : (Jvm.Cond.code ({ cls := "java/lang/Object", name := "<init>", desc := "()V" } : Jvm.MethodName) object_method_1_code (1 : Nat) (Option.none : Option Jvm.ClassFile.FieldType)).before args0 about1 = true := code_word (m := ⟨0, 0⟩) (meth := k0m0) (c := k0c0) (by decide +kernel) rfl rfl rfl (by decide +kernel)
set_option maxRecDepth 65536 in
theorem w_c5 : (Jvm.Cond.code ({ cls := "com/example/yarrow/yarrow/data/StartTags", name := "columnOf", desc := "(II)I" } : Jvm.MethodName) prog_31_method_5_code (8 : Nat) (Option.some Jvm.ClassFile.FieldType.int)).before args0 about1 = true := code_word (m := ⟨2, 1⟩) (meth := k2m1) (c := k2c1) (by decide +kernel) rfl rfl rfl (by decide +kernel)
set_option maxRecDepth 65536 in
theorem w_c6 : (Jvm.Cond.code ({ cls := "com/example/yarrow/yarrow/data/StartTagsColumnOfPinLaw", name := "expected", desc := "(IIIIII)I" } : Jvm.MethodName) method_3_code (16 : Nat) (Option.some Jvm.ClassFile.FieldType.int)).before args0 about1 = true := code_word (m := ⟨1, 2⟩) (meth := k1m2) (c := k1c2) (by decide +kernel) rfl rfl rfl (by decide +kernel)
set_option maxRecDepth 65536 in
theorem w_c7 : (Jvm.Cond.code ({ cls := "com/example/yarrow/yarrow/data/StartTagsColumnOfPinLaw", name := "drawn", desc := "(IIIII)I" } : Jvm.MethodName) method_4_code (6 : Nat) (Option.some Jvm.ClassFile.FieldType.int)).before args0 about1 = true := code_word (m := ⟨1, 3⟩) (meth := k1m3) (c := k1c3) (by decide +kernel) rfl rfl rfl (by decide +kernel)
def codes1 : List Jvm.Cond := [Jvm.Cond.code x code maxLocals ret, Jvm.Cond.code ({ cls := "com/example/yarrow/yarrow/data/StartTagsColumnOfPinLaw", name := "len", desc := "(I)I" } : Jvm.MethodName) method_5_code (1 : Nat) (Option.some Jvm.ClassFile.FieldType.int), Jvm.Cond.code ({ cls := "com/example/yarrow/yarrow/data/StartTagsColumnOfPinLaw", name := "put", desc := "([BII)V" } : Jvm.MethodName) method_6_code (3 : Nat) (Option.none : Option Jvm.ClassFile.FieldType), Jvm.Cond.code ({ cls := "com/example/yarrow/yarrow/data/StartTags", name := "<init>", desc := "([BI)V" } : Jvm.MethodName) prog_31_method_1_code (3 : Nat) (Option.none : Option Jvm.ClassFile.FieldType), Jvm.Cond.code ({ cls := "java/lang/Object", name := "<init>", desc := "()V" } : Jvm.MethodName) object_method_1_code (1 : Nat) (Option.none : Option Jvm.ClassFile.FieldType), Jvm.Cond.code ({ cls := "com/example/yarrow/yarrow/data/StartTags", name := "columnOf", desc := "(II)I" } : Jvm.MethodName) prog_31_method_5_code (8 : Nat) (Option.some Jvm.ClassFile.FieldType.int), Jvm.Cond.code ({ cls := "com/example/yarrow/yarrow/data/StartTagsColumnOfPinLaw", name := "expected", desc := "(IIIIII)I" } : Jvm.MethodName) method_3_code (16 : Nat) (Option.some Jvm.ClassFile.FieldType.int), Jvm.Cond.code ({ cls := "com/example/yarrow/yarrow/data/StartTagsColumnOfPinLaw", name := "drawn", desc := "(IIIII)I" } : Jvm.MethodName) method_4_code (6 : Nat) (Option.some Jvm.ClassFile.FieldType.int)]
set_option maxRecDepth 65536 in
theorem codes_eq : words1.filter isCode = codes1 := rfl
theorem w_codes : ∀ c ∈ words1.filter isCode, c.before args0 about1 = true := by
  rw [codes_eq]
  intro c hc
  simp only [codes1, List.mem_cons, List.not_mem_nil, or_false] at hc
  rcases hc with rfl | rfl | rfl | rfl | rfl | rfl | rfl | rfl
  · exact w_c0
  · exact w_c1
  · exact w_c2
  · exact w_c3
  · exact w_c4
  · exact w_c5
  · exact w_c6
  · exact w_c7
set_option maxRecDepth 65536 in
theorem w_t1 : (words1.take 24).all (fun c => isCode c || c.before args0 about1) = true := by decide +kernel
set_option maxRecDepth 65536 in
theorem w_t2 : (words1.drop 24).all (fun c => isCode c || c.before args0 about1) = true := by decide +kernel
theorem w_tables : (allAtoms (Jvm.Cond.code x code maxLocals ret :: tables_1)).before args0 about1 = true := by
  rw [allAtoms_all]
  show words1.all (fun c => c.before args0 about1) = true
  refine all_split ?_ w_codes
  rw [← List.take_append_drop 24 words1, List.all_append, w_t1, w_t2]
  rfl
set_option maxRecDepth 65536 in
theorem w_case : (Jvm.Cond.and given_1 narrow_1).before args0 about1 = true := by decide +kernel
theorem w_applies : (headSpec (Jvm.Cond.code x code maxLocals ret :: tables_1) room_1).applies x e0.platform about1 = true :=
  (Spec.applies_iff w_frames).mpr ⟨w_running, w_runnable, w_alone, w_named, w_hears, w_ripe, w_room, w_tables⟩
theorem atStart : AtStart classFile x code maxLocals ret World_1 tables_1 room_1 Calls_1 rest_1 Pre_1 launch0 p0 e0 about1 theMethod args0 below0 :=
  ⟨lists_1, trivial, launch0.admits_env _ _ _, launch0.least_env, fairChoices_fair.cas, fairChoices_fair.clock, w_frames, w_args, w_heap, w_applies, trivial, trivial, w_case⟩
end start1
theorem witness_1 : WitnessClaimed_1 := ⟨start1.p0, start1.e0, start1.about1, start1.theMethod, start1.args0, start1.below0, start1.atStart⟩
end Jvm.Pilot.@@N@@
