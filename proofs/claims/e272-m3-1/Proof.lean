import JvmDerived
import JvmDerived.Pilot.@@N@@Statement
import JvmDerived.Pilot.@@N@@Code
set_option linter.unusedVariables false
set_option linter.unusedSimpArgs false
namespace Jvm.Pilot.@@N@@
open Jvm Jvm.ClassFile Sem Op Lib Jvm.Free Jvm.Stand Jvm.LawKit Jvm.RoadKit Bundle Jvm.Pilot.@@N@@.Jvm.D

/-- from here the invocation ends, and what it leaves meets Q -/
def Go (p : Program) (e : Env) (below : List Frame) (s : State) (mc ms : Nat) (Q : Option Value → Heap → List Loc → Prop) (m : MethodId) (T : State) (pc : Nat) (Ls : Array Slot) (st : List Value) : Prop :=
  ∃ s₂ o, Steps p.tables e below (T.setTop (mkF m pc Ls st)) s₂ ∧ s₂.status = .running ∧ Ended s₂ below o ∧ ∃ v L, o = .returned v ∧ Q v s₂.heap L ∧ FrameEnd s o s₂ L mc ms
section Law
variable {p : Program} {l : Launch} {e : Env} {R : Room} {s : State} {m : MethodId} {args : Array Value} {below : List Frame} {meth : Method} {c : Code} {T T' : State} {locs : List Loc} {cells slots : Nat} {code : ByteArray} {Q : Option Value → Heap → List Loc → Prop} {mc ms : Nat} {pc pc' : Nat} {Ls Ls' : Array Slot} {st st' rest : List Value}
theorem Go.of (k : Go p e below s mc ms Q m T' pc' Ls' st') (h : ∀ t, Steps p.tables e below (T'.setTop (mkF m pc' Ls' st')) t → Steps p.tables e below (T.setTop (mkF m pc Ls st)) t) : Go p e below s mc ms Q m T pc Ls st := by
  obtain ⟨a, o, h1, h2⟩ := k
  exact ⟨a, o, h _ h1, h2⟩
def remI (x y : Int32) : Int32 := x - (x / y) * y
def remJ (x y : Int64) : Int64 := x - (x / y) * y
def i2bF (x : Int32) : Int32 := x.toInt8.toInt32
def i2cF (x : Int32) : Int32 := x.toUInt32.toUInt16.toUInt32.toInt32
def i2sF (x : Int32) : Int32 := x.toInt16.toInt32
def shlI (x y : Int32) : Int32 := x <<< (y &&& 31)
def shrI (x y : Int32) : Int32 := x >>> (y &&& 31)
def shlJ (x : Int64) (y : Int32) : Int64 := x <<< (y.toInt64 &&& 63)
def shrJ (x : Int64) (y : Int32) : Int64 := x >>> (y.toInt64 &&& 63)

theorem Go.iload (X : Stand p l e R s m args below meth c T locs cells slots) (hx : p.tables.exec = Jvm.exec) (hby : c.code = code) {k : Nat} {v : Int32} (hd : decode code pc = .ok (.iload k, 2)) (hpc : pc + 2 = pc') (hl : Ls[k]? = some (.val (.int v))) (h : Go p e below s mc ms Q m T pc' Ls (.int v :: st)) : Go p e below s mc ms Q m T pc Ls (st) := by
  subst hpc; exact h.of fun _ kk => XS.iload (g := mkF m pc Ls (st)) X.here hx rfl (hb hby hd) hl kk
theorem Go.iloadN (X : Stand p l e R s m args below meth c T locs cells slots) (hx : p.tables.exec = Jvm.exec) (hby : c.code = code) {k : Fin 4} {v : Int32} (hd : decode code pc = .ok (.iload_n k, 1)) (hpc : pc + 1 = pc') (hl : Ls[k.val]? = some (.val (.int v))) (h : Go p e below s mc ms Q m T pc' Ls (.int v :: st)) : Go p e below s mc ms Q m T pc Ls (st) := by
  subst hpc; exact h.of fun _ kk => XS.iloadN (g := mkF m pc Ls (st)) X.here hx rfl (hb hby hd) hl kk
theorem Go.lload (X : Stand p l e R s m args below meth c T locs cells slots) (hx : p.tables.exec = Jvm.exec) (hby : c.code = code) {k : Nat} {v : Int64} (hd : decode code pc = .ok (.lload k, 2)) (hpc : pc + 2 = pc') (hl : Ls[k]? = some (.val (.long v))) (h : Go p e below s mc ms Q m T pc' Ls (.long v :: st)) : Go p e below s mc ms Q m T pc Ls (st) := by
  subst hpc; exact h.of fun _ kk => XT.lload (g := mkF m pc Ls (st)) X.here hx rfl (hb hby hd) hl kk
theorem Go.lloadN (X : Stand p l e R s m args below meth c T locs cells slots) (hx : p.tables.exec = Jvm.exec) (hby : c.code = code) {k : Fin 4} {v : Int64} (hd : decode code pc = .ok (.lload_n k, 1)) (hpc : pc + 1 = pc') (hl : Ls[k.val]? = some (.val (.long v))) (h : Go p e below s mc ms Q m T pc' Ls (.long v :: st)) : Go p e below s mc ms Q m T pc Ls (st) := by
  subst hpc; exact h.of fun _ kk => XT.lloadN (g := mkF m pc Ls (st)) X.here hx rfl (hb hby hd) hl kk
theorem Go.aload (X : Stand p l e R s m args below meth c T locs cells slots) (hx : p.tables.exec = Jvm.exec) (hby : c.code = code) {k : Nat} {v : Value} (hd : decode code pc = .ok (.aload k, 2)) (hpc : pc + 2 = pc') (hl : Ls[k]? = some (.val v)) (hv : v.isRef = true) (h : Go p e below s mc ms Q m T pc' Ls (v :: st)) : Go p e below s mc ms Q m T pc Ls (st) := by
  subst hpc; exact h.of fun _ kk => XS.aload (g := mkF m pc Ls (st)) X.here hx rfl (hb hby hd) hl hv kk
theorem Go.aloadN (X : Stand p l e R s m args below meth c T locs cells slots) (hx : p.tables.exec = Jvm.exec) (hby : c.code = code) {k : Fin 4} {v : Value} (hd : decode code pc = .ok (.aload_n k, 1)) (hpc : pc + 1 = pc') (hl : Ls[k.val]? = some (.val v)) (hv : v.isRef = true) (h : Go p e below s mc ms Q m T pc' Ls (v :: st)) : Go p e below s mc ms Q m T pc Ls (st) := by
  subst hpc; exact h.of fun _ kk => XS.aloadN (g := mkF m pc Ls (st)) X.here hx rfl (hb hby hd) hl hv kk
theorem Go.istore (X : Stand p l e R s m args below meth c T locs cells slots) (hx : p.tables.exec = Jvm.exec) (hby : c.code = code) {k : Nat} {v : Int32} (hd : decode code pc = .ok (.istore k, 2)) (hpc : pc + 2 = pc') (hl : storeLocals Ls k (.int v) = some Ls') (h : Go p e below s mc ms Q m T pc' Ls' (st)) : Go p e below s mc ms Q m T pc Ls (.int v :: st) := by
  subst hpc; exact h.of fun _ kk => XS.istore (g := mkF m pc Ls (.int v :: st)) X.here hx rfl (hb hby hd) rfl hl kk
theorem Go.istoreN (X : Stand p l e R s m args below meth c T locs cells slots) (hx : p.tables.exec = Jvm.exec) (hby : c.code = code) {k : Fin 4} {v : Int32} (hd : decode code pc = .ok (.istore_n k, 1)) (hpc : pc + 1 = pc') (hl : storeLocals Ls k.val (.int v) = some Ls') (h : Go p e below s mc ms Q m T pc' Ls' (st)) : Go p e below s mc ms Q m T pc Ls (.int v :: st) := by
  subst hpc; exact h.of fun _ kk => XS.istoreN (g := mkF m pc Ls (.int v :: st)) X.here hx rfl (hb hby hd) rfl hl kk
theorem Go.lstore (X : Stand p l e R s m args below meth c T locs cells slots) (hx : p.tables.exec = Jvm.exec) (hby : c.code = code) {k : Nat} {v : Int64} (hd : decode code pc = .ok (.lstore k, 2)) (hpc : pc + 2 = pc') (hl : storeLocals Ls k (.long v) = some Ls') (h : Go p e below s mc ms Q m T pc' Ls' (st)) : Go p e below s mc ms Q m T pc Ls (.long v :: st) := by
  subst hpc; exact h.of fun _ kk => XT.lstore (g := mkF m pc Ls (.long v :: st)) X.here hx rfl (hb hby hd) rfl hl kk
theorem Go.lstoreN (X : Stand p l e R s m args below meth c T locs cells slots) (hx : p.tables.exec = Jvm.exec) (hby : c.code = code) {k : Fin 4} {v : Int64} (hd : decode code pc = .ok (.lstore_n k, 1)) (hpc : pc + 1 = pc') (hl : storeLocals Ls k.val (.long v) = some Ls') (h : Go p e below s mc ms Q m T pc' Ls' (st)) : Go p e below s mc ms Q m T pc Ls (.long v :: st) := by
  subst hpc; exact h.of fun _ kk => XT.lstoreN (g := mkF m pc Ls (.long v :: st)) X.here hx rfl (hb hby hd) rfl hl kk
theorem Go.astore (X : Stand p l e R s m args below meth c T locs cells slots) (hx : p.tables.exec = Jvm.exec) (hby : c.code = code) {k : Nat} {v : Value} (hd : decode code pc = .ok (.astore k, 2)) (hpc : pc + 2 = pc') (hv : v.isRef = true) (hl : storeLocals Ls k v = some Ls') (h : Go p e below s mc ms Q m T pc' Ls' (st)) : Go p e below s mc ms Q m T pc Ls (v :: st) := by
  subst hpc; exact h.of fun _ kk => XS.astore (g := mkF m pc Ls (v :: st)) X.here hx rfl (hb hby hd) rfl hv hl kk
theorem Go.astoreN (X : Stand p l e R s m args below meth c T locs cells slots) (hx : p.tables.exec = Jvm.exec) (hby : c.code = code) {k : Fin 4} {v : Value} (hd : decode code pc = .ok (.astore_n k, 1)) (hpc : pc + 1 = pc') (hv : v.isRef = true) (hl : storeLocals Ls k.val v = some Ls') (h : Go p e below s mc ms Q m T pc' Ls' (st)) : Go p e below s mc ms Q m T pc Ls (v :: st) := by
  subst hpc; exact h.of fun _ kk => XS.astoreN (g := mkF m pc Ls (v :: st)) X.here hx rfl (hb hby hd) rfl hv hl kk
theorem Go.iconst (X : Stand p l e R s m args below meth c T locs cells slots) (hx : p.tables.exec = Jvm.exec) (hby : c.code = code) {i : Int} {v : Int32} (hd : decode code pc = .ok (.iconst i, 1)) (hpc : pc + 1 = pc') (hv : Int32.ofInt i = v) (h : Go p e below s mc ms Q m T pc' Ls (.int v :: st)) : Go p e below s mc ms Q m T pc Ls (st) := by
  subst hpc; exact h.of fun _ kk => XT.iconstV (g := mkF m pc Ls (st)) X.here hx rfl v (hb hby hd) hv kk
theorem Go.bipush (X : Stand p l e R s m args below meth c T locs cells slots) (hx : p.tables.exec = Jvm.exec) (hby : c.code = code) {i : Int} {v : Int32} (hd : decode code pc = .ok (.bipush i, 2)) (hpc : pc + 2 = pc') (hv : (Int8.ofInt i).toInt32 = v) (h : Go p e below s mc ms Q m T pc' Ls (.int v :: st)) : Go p e below s mc ms Q m T pc Ls (st) := by
  subst hpc; exact h.of fun _ kk => XT.bipushV (g := mkF m pc Ls (st)) X.here hx rfl v (hb hby hd) hv kk
theorem Go.sipush (X : Stand p l e R s m args below meth c T locs cells slots) (hx : p.tables.exec = Jvm.exec) (hby : c.code = code) {i : Int} {v : Int32} (hd : decode code pc = .ok (.sipush i, 3)) (hpc : pc + 3 = pc') (hv : (Int16.ofInt i).toInt32 = v) (h : Go p e below s mc ms Q m T pc' Ls (.int v :: st)) : Go p e below s mc ms Q m T pc Ls (st) := by
  subst hpc; exact h.of fun _ kk => XT.sipushV (g := mkF m pc Ls (st)) X.here hx rfl v (hb hby hd) hv kk
theorem Go.lconst (X : Stand p l e R s m args below meth c T locs cells slots) (hx : p.tables.exec = Jvm.exec) (hby : c.code = code) {k : Fin 2} {v : Int64} (hd : decode code pc = .ok (.lconst k, 1)) (hpc : pc + 1 = pc') (hv : Int64.ofNat k = v) (h : Go p e below s mc ms Q m T pc' Ls (.long v :: st)) : Go p e below s mc ms Q m T pc Ls (st) := by
  subst hpc; exact h.of fun _ kk => XT.lconstV (g := mkF m pc Ls (st)) X.here hx rfl v (hb hby hd) hv kk
theorem Go.aconstNull (X : Stand p l e R s m args below meth c T locs cells slots) (hx : p.tables.exec = Jvm.exec) (hby : c.code = code) (hd : decode code pc = .ok (.aconst_null, 1)) (hpc : pc + 1 = pc') (h : Go p e below s mc ms Q m T pc' Ls (.null :: st)) : Go p e below s mc ms Q m T pc Ls (st) := by
  subst hpc; exact h.of fun _ kk => XS.aconstNull (g := mkF m pc Ls (st)) X.here hx rfl (hb hby hd) kk
theorem Go.ldcI (X : Stand p l e R s m args below meth c T locs cells slots) (hx : p.tables.exec = Jvm.exec) (hby : c.code = code) {Z : State} {a0 : Array Value} (hZ : Z.Warmed39 s.vm) {own : String} {k : Nat} {v : Int32} (hown : s.vm.findClass own = some m.cls) (w : (Cond.constant own k v).before a0 Z = true) (hd : decode code pc = .ok (.ldc k, 2)) (hpc : pc + 2 = pc') (h : Go p e below s mc ms Q m T pc' Ls (.int v :: st)) : Go p e below s mc ms Q m T pc Ls (st) := by
  subst hpc; exact h.of fun _ kk => Stand.ldcI (g := mkF m pc Ls (st)) X hx hown (mvT hZ w) rfl (hb hby hd) kk
theorem Go.ldcJ (X : Stand p l e R s m args below meth c T locs cells slots) (hx : p.tables.exec = Jvm.exec) (hby : c.code = code) {Z : State} {a0 : Array Value} (hZ : Z.Warmed39 s.vm) {own : String} {k : Nat} {v : Int64} (hown : s.vm.findClass own = some m.cls) (w : (Cond.constantLong own k v).before a0 Z = true) (hd : decode code pc = .ok (.ldc2_w k, 3)) (hpc : pc + 3 = pc') (h : Go p e below s mc ms Q m T pc' Ls (.long v :: st)) : Go p e below s mc ms Q m T pc Ls (st) := by
  subst hpc; exact h.of fun _ kk => Stand.ldc2J (g := mkF m pc Ls (st)) X hx hown (mvT hZ w) rfl (hb hby hd) kk
theorem Go.iadd (X : Stand p l e R s m args below meth c T locs cells slots) (hx : p.tables.exec = Jvm.exec) (hby : c.code = code) {x y : Int32} (hd : decode code pc = .ok (.iadd, 1)) (hpc : pc + 1 = pc') (h : Go p e below s mc ms Q m T pc' Ls (.int (x + y) :: st)) : Go p e below s mc ms Q m T pc Ls (.int y :: .int x :: st) := by
  subst hpc; exact h.of fun _ kk => XS.iadd (g := mkF m pc Ls (.int y :: .int x :: st)) X.here hx rfl (hb hby hd) rfl kk
theorem Go.isub (X : Stand p l e R s m args below meth c T locs cells slots) (hx : p.tables.exec = Jvm.exec) (hby : c.code = code) {x y : Int32} (hd : decode code pc = .ok (.isub, 1)) (hpc : pc + 1 = pc') (h : Go p e below s mc ms Q m T pc' Ls (.int (x - y) :: st)) : Go p e below s mc ms Q m T pc Ls (.int y :: .int x :: st) := by
  subst hpc; exact h.of fun _ kk => XS.isub (g := mkF m pc Ls (.int y :: .int x :: st)) X.here hx rfl (hb hby hd) rfl kk
theorem Go.imul (X : Stand p l e R s m args below meth c T locs cells slots) (hx : p.tables.exec = Jvm.exec) (hby : c.code = code) {x y : Int32} (hd : decode code pc = .ok (.imul, 1)) (hpc : pc + 1 = pc') (h : Go p e below s mc ms Q m T pc' Ls (.int (x * y) :: st)) : Go p e below s mc ms Q m T pc Ls (.int y :: .int x :: st) := by
  subst hpc; exact h.of fun _ kk => XS.imul (g := mkF m pc Ls (.int y :: .int x :: st)) X.here hx rfl (hb hby hd) rfl kk
theorem Go.iand (X : Stand p l e R s m args below meth c T locs cells slots) (hx : p.tables.exec = Jvm.exec) (hby : c.code = code) {x y : Int32} (hd : decode code pc = .ok (.iand, 1)) (hpc : pc + 1 = pc') (h : Go p e below s mc ms Q m T pc' Ls (.int (x &&& y) :: st)) : Go p e below s mc ms Q m T pc Ls (.int y :: .int x :: st) := by
  subst hpc; exact h.of fun _ kk => XS.iand (g := mkF m pc Ls (.int y :: .int x :: st)) X.here hx rfl (hb hby hd) rfl kk
theorem Go.ior (X : Stand p l e R s m args below meth c T locs cells slots) (hx : p.tables.exec = Jvm.exec) (hby : c.code = code) {x y : Int32} (hd : decode code pc = .ok (.ior, 1)) (hpc : pc + 1 = pc') (h : Go p e below s mc ms Q m T pc' Ls (.int (x ||| y) :: st)) : Go p e below s mc ms Q m T pc Ls (.int y :: .int x :: st) := by
  subst hpc; exact h.of fun _ kk => XT.ior (g := mkF m pc Ls (.int y :: .int x :: st)) X.here hx rfl (hb hby hd) rfl kk
theorem Go.ixor (X : Stand p l e R s m args below meth c T locs cells slots) (hx : p.tables.exec = Jvm.exec) (hby : c.code = code) {x y : Int32} (hd : decode code pc = .ok (.ixor, 1)) (hpc : pc + 1 = pc') (h : Go p e below s mc ms Q m T pc' Ls (.int (x ^^^ y) :: st)) : Go p e below s mc ms Q m T pc Ls (.int y :: .int x :: st) := by
  subst hpc; exact h.of fun _ kk => XT.ixor (g := mkF m pc Ls (.int y :: .int x :: st)) X.here hx rfl (hb hby hd) rfl kk
theorem Go.ishl (X : Stand p l e R s m args below meth c T locs cells slots) (hx : p.tables.exec = Jvm.exec) (hby : c.code = code) {x y : Int32} (hd : decode code pc = .ok (.ishl, 1)) (hpc : pc + 1 = pc') (h : Go p e below s mc ms Q m T pc' Ls (.int (shlI x y) :: st)) : Go p e below s mc ms Q m T pc Ls (.int y :: .int x :: st) := by
  subst hpc; exact h.of fun _ kk => XT.ishl (g := mkF m pc Ls (.int y :: .int x :: st)) X.here hx rfl (hb hby hd) rfl kk
theorem Go.ishr (X : Stand p l e R s m args below meth c T locs cells slots) (hx : p.tables.exec = Jvm.exec) (hby : c.code = code) {x y : Int32} (hd : decode code pc = .ok (.ishr, 1)) (hpc : pc + 1 = pc') (h : Go p e below s mc ms Q m T pc' Ls (.int (shrI x y) :: st)) : Go p e below s mc ms Q m T pc Ls (.int y :: .int x :: st) := by
  subst hpc; exact h.of fun _ kk => XT.ishr (g := mkF m pc Ls (.int y :: .int x :: st)) X.here hx rfl (hb hby hd) rfl kk
theorem Go.iushr (X : Stand p l e R s m args below meth c T locs cells slots) (hx : p.tables.exec = Jvm.exec) (hby : c.code = code) {x y : Int32} (hd : decode code pc = .ok (.iushr, 1)) (hpc : pc + 1 = pc') (h : Go p e below s mc ms Q m T pc' Ls (.int (XT.ushr x y) :: st)) : Go p e below s mc ms Q m T pc Ls (.int y :: .int x :: st) := by
  subst hpc; exact h.of fun _ kk => XT.iushr (g := mkF m pc Ls (.int y :: .int x :: st)) X.here hx rfl (hb hby hd) rfl kk
theorem Go.idiv (X : Stand p l e R s m args below meth c T locs cells slots) (hx : p.tables.exec = Jvm.exec) (hby : c.code = code) {x y : Int32} (hd : decode code pc = .ok (.idiv, 1)) (hpc : pc + 1 = pc') (hy : y ≠ 0) (h : Go p e below s mc ms Q m T pc' Ls (.int (x / y) :: st)) : Go p e below s mc ms Q m T pc Ls (.int y :: .int x :: st) := by
  subst hpc; exact h.of fun _ kk => XS.idiv (g := mkF m pc Ls (.int y :: .int x :: st)) X.here hx rfl (hb hby hd) rfl hy kk
theorem Go.irem (X : Stand p l e R s m args below meth c T locs cells slots) (hx : p.tables.exec = Jvm.exec) (hby : c.code = code) {x y : Int32} (hd : decode code pc = .ok (.irem, 1)) (hpc : pc + 1 = pc') (hy : y ≠ 0) (h : Go p e below s mc ms Q m T pc' Ls (.int (remI x y) :: st)) : Go p e below s mc ms Q m T pc Ls (.int y :: .int x :: st) := by
  subst hpc; exact h.of fun _ kk => XS.irem (g := mkF m pc Ls (.int y :: .int x :: st)) X.here hx rfl (hb hby hd) rfl hy kk
theorem Go.ladd (X : Stand p l e R s m args below meth c T locs cells slots) (hx : p.tables.exec = Jvm.exec) (hby : c.code = code) {x y : Int64} (hd : decode code pc = .ok (.ladd, 1)) (hpc : pc + 1 = pc') (h : Go p e below s mc ms Q m T pc' Ls (.long (x + y) :: st)) : Go p e below s mc ms Q m T pc Ls (.long y :: .long x :: st) := by
  subst hpc; exact h.of fun _ kk => XT.ladd (g := mkF m pc Ls (.long y :: .long x :: st)) X.here hx rfl (hb hby hd) rfl kk
theorem Go.lsub (X : Stand p l e R s m args below meth c T locs cells slots) (hx : p.tables.exec = Jvm.exec) (hby : c.code = code) {x y : Int64} (hd : decode code pc = .ok (.lsub, 1)) (hpc : pc + 1 = pc') (h : Go p e below s mc ms Q m T pc' Ls (.long (x - y) :: st)) : Go p e below s mc ms Q m T pc Ls (.long y :: .long x :: st) := by
  subst hpc; exact h.of fun _ kk => XT.lsub (g := mkF m pc Ls (.long y :: .long x :: st)) X.here hx rfl (hb hby hd) rfl kk
theorem Go.lmul (X : Stand p l e R s m args below meth c T locs cells slots) (hx : p.tables.exec = Jvm.exec) (hby : c.code = code) {x y : Int64} (hd : decode code pc = .ok (.lmul, 1)) (hpc : pc + 1 = pc') (h : Go p e below s mc ms Q m T pc' Ls (.long (x * y) :: st)) : Go p e below s mc ms Q m T pc Ls (.long y :: .long x :: st) := by
  subst hpc; exact h.of fun _ kk => XT.lmul (g := mkF m pc Ls (.long y :: .long x :: st)) X.here hx rfl (hb hby hd) rfl kk
theorem Go.land (X : Stand p l e R s m args below meth c T locs cells slots) (hx : p.tables.exec = Jvm.exec) (hby : c.code = code) {x y : Int64} (hd : decode code pc = .ok (.land, 1)) (hpc : pc + 1 = pc') (h : Go p e below s mc ms Q m T pc' Ls (.long (x &&& y) :: st)) : Go p e below s mc ms Q m T pc Ls (.long y :: .long x :: st) := by
  subst hpc; exact h.of fun _ kk => XT.land (g := mkF m pc Ls (.long y :: .long x :: st)) X.here hx rfl (hb hby hd) rfl kk
theorem Go.lor (X : Stand p l e R s m args below meth c T locs cells slots) (hx : p.tables.exec = Jvm.exec) (hby : c.code = code) {x y : Int64} (hd : decode code pc = .ok (.lor, 1)) (hpc : pc + 1 = pc') (h : Go p e below s mc ms Q m T pc' Ls (.long (x ||| y) :: st)) : Go p e below s mc ms Q m T pc Ls (.long y :: .long x :: st) := by
  subst hpc; exact h.of fun _ kk => XT.lor (g := mkF m pc Ls (.long y :: .long x :: st)) X.here hx rfl (hb hby hd) rfl kk
theorem Go.lxor (X : Stand p l e R s m args below meth c T locs cells slots) (hx : p.tables.exec = Jvm.exec) (hby : c.code = code) {x y : Int64} (hd : decode code pc = .ok (.lxor, 1)) (hpc : pc + 1 = pc') (h : Go p e below s mc ms Q m T pc' Ls (.long (x ^^^ y) :: st)) : Go p e below s mc ms Q m T pc Ls (.long y :: .long x :: st) := by
  subst hpc; exact h.of fun _ kk => XT.lxor (g := mkF m pc Ls (.long y :: .long x :: st)) X.here hx rfl (hb hby hd) rfl kk
theorem Go.ldiv (X : Stand p l e R s m args below meth c T locs cells slots) (hx : p.tables.exec = Jvm.exec) (hby : c.code = code) {x y : Int64} (hd : decode code pc = .ok (.ldiv, 1)) (hpc : pc + 1 = pc') (hy : y ≠ 0) (h : Go p e below s mc ms Q m T pc' Ls (.long (x / y) :: st)) : Go p e below s mc ms Q m T pc Ls (.long y :: .long x :: st) := by
  subst hpc; exact h.of fun _ kk => XT.ldiv (g := mkF m pc Ls (.long y :: .long x :: st)) X.here hx rfl (hb hby hd) rfl hy kk
theorem Go.lrem (X : Stand p l e R s m args below meth c T locs cells slots) (hx : p.tables.exec = Jvm.exec) (hby : c.code = code) {x y : Int64} (hd : decode code pc = .ok (.lrem, 1)) (hpc : pc + 1 = pc') (hy : y ≠ 0) (h : Go p e below s mc ms Q m T pc' Ls (.long (remJ x y) :: st)) : Go p e below s mc ms Q m T pc Ls (.long y :: .long x :: st) := by
  subst hpc; exact h.of fun _ kk => XT.lrem (g := mkF m pc Ls (.long y :: .long x :: st)) X.here hx rfl (hb hby hd) rfl hy kk
theorem Go.lushr (X : Stand p l e R s m args below meth c T locs cells slots) (hx : p.tables.exec = Jvm.exec) (hby : c.code = code) {x : Int64} {y : Int32} (hd : decode code pc = .ok (.lushr, 1)) (hpc : pc + 1 = pc') (h : Go p e below s mc ms Q m T pc' Ls (.long (XT.ushrL x y) :: st)) : Go p e below s mc ms Q m T pc Ls (.int y :: .long x :: st) := by
  subst hpc; exact h.of fun _ kk => XT.lushr (g := mkF m pc Ls (.int y :: .long x :: st)) X.here hx rfl (hb hby hd) rfl kk
theorem Go.lshl (X : Stand p l e R s m args below meth c T locs cells slots) (hx : p.tables.exec = Jvm.exec) (hby : c.code = code) {x : Int64} {y : Int32} {z : Int64} (hd : decode code pc = .ok (.lshl, 1)) (hpc : pc + 1 = pc') (hz : x <<< (y.toInt64 &&& 63) = z) (h : Go p e below s mc ms Q m T pc' Ls (.long z :: st)) : Go p e below s mc ms Q m T pc Ls (.int y :: .long x :: st) := by
  subst hpc hz; exact h.of fun _ kk => XT.lshl (g := mkF m pc Ls (.int y :: .long x :: st)) X.here hx rfl (hb hby hd) rfl kk
theorem Go.lshr (X : Stand p l e R s m args below meth c T locs cells slots) (hx : p.tables.exec = Jvm.exec) (hby : c.code = code) {x : Int64} {y : Int32} {z : Int64} (hd : decode code pc = .ok (.lshr, 1)) (hpc : pc + 1 = pc') (hz : x >>> (y.toInt64 &&& 63) = z) (h : Go p e below s mc ms Q m T pc' Ls (.long z :: st)) : Go p e below s mc ms Q m T pc Ls (.int y :: .long x :: st) := by
  subst hpc hz; exact h.of fun _ kk => XT.lshr (g := mkF m pc Ls (.int y :: .long x :: st)) X.here hx rfl (hb hby hd) rfl kk
theorem Go.lcmp (X : Stand p l e R s m args below meth c T locs cells slots) (hx : p.tables.exec = Jvm.exec) (hby : c.code = code) {x y : Int64} (hd : decode code pc = .ok (.lcmp, 1)) (hpc : pc + 1 = pc') (h : Go p e below s mc ms Q m T pc' Ls (.int (XT.cmpL x y) :: st)) : Go p e below s mc ms Q m T pc Ls (.long y :: .long x :: st) := by
  subst hpc; exact h.of fun _ kk => XT.lcmp (g := mkF m pc Ls (.long y :: .long x :: st)) X.here hx rfl (hb hby hd) rfl kk
theorem Go.ineg (X : Stand p l e R s m args below meth c T locs cells slots) (hx : p.tables.exec = Jvm.exec) (hby : c.code = code) {x : Int32} (hd : decode code pc = .ok (.ineg, 1)) (hpc : pc + 1 = pc') (h : Go p e below s mc ms Q m T pc' Ls (.int (-x) :: st)) : Go p e below s mc ms Q m T pc Ls (.int x :: st) := by
  subst hpc; exact h.of fun _ kk => XS.ineg (g := mkF m pc Ls (.int x :: st)) X.here hx rfl (hb hby hd) rfl kk
theorem Go.i2l (X : Stand p l e R s m args below meth c T locs cells slots) (hx : p.tables.exec = Jvm.exec) (hby : c.code = code) {x : Int32} (hd : decode code pc = .ok (.i2l, 1)) (hpc : pc + 1 = pc') (h : Go p e below s mc ms Q m T pc' Ls (.long (x.toInt64) :: st)) : Go p e below s mc ms Q m T pc Ls (.int x :: st) := by
  subst hpc; exact h.of fun _ kk => XT.i2l (g := mkF m pc Ls (.int x :: st)) X.here hx rfl (hb hby hd) rfl kk
theorem Go.l2i (X : Stand p l e R s m args below meth c T locs cells slots) (hx : p.tables.exec = Jvm.exec) (hby : c.code = code) {x : Int64} (hd : decode code pc = .ok (.l2i, 1)) (hpc : pc + 1 = pc') (h : Go p e below s mc ms Q m T pc' Ls (.int (x.toInt32) :: st)) : Go p e below s mc ms Q m T pc Ls (.long x :: st) := by
  subst hpc; exact h.of fun _ kk => XT.l2i (g := mkF m pc Ls (.long x :: st)) X.here hx rfl (hb hby hd) rfl kk
theorem Go.i2b (X : Stand p l e R s m args below meth c T locs cells slots) (hx : p.tables.exec = Jvm.exec) (hby : c.code = code) {x : Int32} (hd : decode code pc = .ok (.i2b, 1)) (hpc : pc + 1 = pc') (h : Go p e below s mc ms Q m T pc' Ls (.int (i2bF x) :: st)) : Go p e below s mc ms Q m T pc Ls (.int x :: st) := by
  subst hpc; exact h.of fun _ kk => XT.i2b (g := mkF m pc Ls (.int x :: st)) X.here hx rfl (hb hby hd) rfl kk
theorem Go.i2c (X : Stand p l e R s m args below meth c T locs cells slots) (hx : p.tables.exec = Jvm.exec) (hby : c.code = code) {x : Int32} (hd : decode code pc = .ok (.i2c, 1)) (hpc : pc + 1 = pc') (h : Go p e below s mc ms Q m T pc' Ls (.int (i2cF x) :: st)) : Go p e below s mc ms Q m T pc Ls (.int x :: st) := by
  subst hpc; exact h.of fun _ kk => XT.i2c (g := mkF m pc Ls (.int x :: st)) X.here hx rfl (hb hby hd) rfl kk
theorem Go.i2s (X : Stand p l e R s m args below meth c T locs cells slots) (hx : p.tables.exec = Jvm.exec) (hby : c.code = code) {x : Int32} (hd : decode code pc = .ok (.i2s, 1)) (hpc : pc + 1 = pc') (h : Go p e below s mc ms Q m T pc' Ls (.int (i2sF x) :: st)) : Go p e below s mc ms Q m T pc Ls (.int x :: st) := by
  subst hpc; exact h.of fun _ kk => XT.i2s (g := mkF m pc Ls (.int x :: st)) X.here hx rfl (hb hby hd) rfl kk
theorem Go.iinc (X : Stand p l e R s m args below meth c T locs cells slots) (hx : p.tables.exec = Jvm.exec) (hby : c.code = code) {k : Nat} {i : Int} {x v : Int32} (hd : decode code pc = .ok (.iinc k i, 3)) (hpc : pc + 3 = pc') (hv : Int32.ofInt i = v) (hl : Ls[k]? = some (.val (.int x))) (hl' : storeLocals Ls k (.int (x + v)) = some Ls') (h : Go p e below s mc ms Q m T pc' Ls' (st)) : Go p e below s mc ms Q m T pc Ls (st) := by
  subst hpc; exact h.of fun _ kk => XT.iincV (g := mkF m pc Ls (st)) X.here hx rfl v (hb hby hd) hv hl hl' kk
theorem Go.dup (X : Stand p l e R s m args below meth c T locs cells slots) (hx : p.tables.exec = Jvm.exec) (hby : c.code = code) {v : Value} (hd : decode code pc = .ok (.dup, 1)) (hpc : pc + 1 = pc') (hv : v.category = 1) (h : Go p e below s mc ms Q m T pc' Ls (v :: v :: st)) : Go p e below s mc ms Q m T pc Ls (v :: st) := by
  subst hpc; exact h.of fun _ kk => XS.dup (g := mkF m pc Ls (v :: st)) X.here hx rfl (hb hby hd) rfl hv kk
theorem Go.pop (X : Stand p l e R s m args below meth c T locs cells slots) (hx : p.tables.exec = Jvm.exec) (hby : c.code = code) {v : Value} (hd : decode code pc = .ok (.pop, 1)) (hpc : pc + 1 = pc') (hv : v.category = 1) (h : Go p e below s mc ms Q m T pc' Ls (st)) : Go p e below s mc ms Q m T pc Ls (v :: st) := by
  subst hpc; exact h.of fun _ kk => XT.pop (g := mkF m pc Ls (v :: st)) X.here hx rfl (hb hby hd) rfl hv kk
theorem Go.goto (X : Stand p l e R s m args below meth c T locs cells slots) (hx : p.tables.exec = Jvm.exec) (hby : c.code = code) {o : Int} (hd : decode code pc = .ok (.goto o, 3)) (ho : 0 ≤ (pc : Int) + o) (hp : ((pc : Int) + o).toNat = pc') (h : Go p e below s mc ms Q m T pc' Ls st) : Go p e below s mc ms Q m T pc Ls st :=
  h.of fun _ kk => XS.goto (g := mkF m pc Ls st) X.here hx rfl (pc0 := pc) rfl (hb hby hd) ho hp kk
theorem Go.icmp_eq (X : Stand p l e R s m args below meth c T locs cells slots) (hx : p.tables.exec = Jvm.exec) (hby : c.code = code) {pcN : Nat} {x y : Int32} {o : Int} (hd : decode code pc = .ok (.if_icmp .eq o, 3)) (ho : 0 ≤ (pc : Int) + o) (hp : ((pc : Int) + o).toNat = pc') (hn : pc + 3 = pcN) (yes : x = y → Go p e below s mc ms Q m T pc' Ls st) (no : ¬ x = y → Go p e below s mc ms Q m T pcN Ls st) : Go p e below s mc ms Q m T pc Ls (.int y :: .int x :: st) := by
  subst hn
  by_cases q : x = y
  · exact (yes q).of fun _ kk => XS.icmpYes (g := mkF m pc Ls (.int y :: .int x :: st)) X.here hx rfl (pc0 := pc) rfl (hb hby hd) rfl (XT.ii_eq_t q) ho hp kk
  · exact (no q).of fun _ kk => XS.icmpNo (g := mkF m pc Ls (.int y :: .int x :: st)) X.here hx rfl (hb hby hd) rfl (XT.ii_eq_f q) kk
theorem Go.icmp_ne (X : Stand p l e R s m args below meth c T locs cells slots) (hx : p.tables.exec = Jvm.exec) (hby : c.code = code) {pcN : Nat} {x y : Int32} {o : Int} (hd : decode code pc = .ok (.if_icmp .ne o, 3)) (ho : 0 ≤ (pc : Int) + o) (hp : ((pc : Int) + o).toNat = pc') (hn : pc + 3 = pcN) (yes : ¬ x = y → Go p e below s mc ms Q m T pc' Ls st) (no : x = y → Go p e below s mc ms Q m T pcN Ls st) : Go p e below s mc ms Q m T pc Ls (.int y :: .int x :: st) := by
  subst hn
  by_cases q : x = y
  · exact (no q).of fun _ kk => XS.icmpNo (g := mkF m pc Ls (.int y :: .int x :: st)) X.here hx rfl (hb hby hd) rfl (XT.ii_ne_f q) kk
  · exact (yes q).of fun _ kk => XS.icmpYes (g := mkF m pc Ls (.int y :: .int x :: st)) X.here hx rfl (pc0 := pc) rfl (hb hby hd) rfl (XT.ii_ne_t q) ho hp kk
theorem Go.icmp_lt (X : Stand p l e R s m args below meth c T locs cells slots) (hx : p.tables.exec = Jvm.exec) (hby : c.code = code) {pcN : Nat} {x y : Int32} {o : Int} (hd : decode code pc = .ok (.if_icmp .lt o, 3)) (ho : 0 ≤ (pc : Int) + o) (hp : ((pc : Int) + o).toNat = pc') (hn : pc + 3 = pcN) (yes : x < y → Go p e below s mc ms Q m T pc' Ls st) (no : ¬ x < y → Go p e below s mc ms Q m T pcN Ls st) : Go p e below s mc ms Q m T pc Ls (.int y :: .int x :: st) := by
  subst hn
  by_cases q : x < y
  · exact (yes q).of fun _ kk => XS.icmpYes (g := mkF m pc Ls (.int y :: .int x :: st)) X.here hx rfl (pc0 := pc) rfl (hb hby hd) rfl (XT.ii_lt_t q) ho hp kk
  · exact (no q).of fun _ kk => XS.icmpNo (g := mkF m pc Ls (.int y :: .int x :: st)) X.here hx rfl (hb hby hd) rfl (XT.ii_lt_f q) kk
theorem Go.icmp_ge (X : Stand p l e R s m args below meth c T locs cells slots) (hx : p.tables.exec = Jvm.exec) (hby : c.code = code) {pcN : Nat} {x y : Int32} {o : Int} (hd : decode code pc = .ok (.if_icmp .ge o, 3)) (ho : 0 ≤ (pc : Int) + o) (hp : ((pc : Int) + o).toNat = pc') (hn : pc + 3 = pcN) (yes : ¬ x < y → Go p e below s mc ms Q m T pc' Ls st) (no : x < y → Go p e below s mc ms Q m T pcN Ls st) : Go p e below s mc ms Q m T pc Ls (.int y :: .int x :: st) := by
  subst hn
  by_cases q : x < y
  · exact (no q).of fun _ kk => XS.icmpNo (g := mkF m pc Ls (.int y :: .int x :: st)) X.here hx rfl (hb hby hd) rfl (XT.ii_ge_f q) kk
  · exact (yes q).of fun _ kk => XS.icmpYes (g := mkF m pc Ls (.int y :: .int x :: st)) X.here hx rfl (pc0 := pc) rfl (hb hby hd) rfl (XT.ii_ge_t q) ho hp kk
theorem Go.icmp_gt (X : Stand p l e R s m args below meth c T locs cells slots) (hx : p.tables.exec = Jvm.exec) (hby : c.code = code) {pcN : Nat} {x y : Int32} {o : Int} (hd : decode code pc = .ok (.if_icmp .gt o, 3)) (ho : 0 ≤ (pc : Int) + o) (hp : ((pc : Int) + o).toNat = pc') (hn : pc + 3 = pcN) (yes : y < x → Go p e below s mc ms Q m T pc' Ls st) (no : ¬ y < x → Go p e below s mc ms Q m T pcN Ls st) : Go p e below s mc ms Q m T pc Ls (.int y :: .int x :: st) := by
  subst hn
  by_cases q : y < x
  · exact (yes q).of fun _ kk => XS.icmpYes (g := mkF m pc Ls (.int y :: .int x :: st)) X.here hx rfl (pc0 := pc) rfl (hb hby hd) rfl (XT.ii_gt_t q) ho hp kk
  · exact (no q).of fun _ kk => XS.icmpNo (g := mkF m pc Ls (.int y :: .int x :: st)) X.here hx rfl (hb hby hd) rfl (XT.ii_gt_f q) kk
theorem Go.icmp_le (X : Stand p l e R s m args below meth c T locs cells slots) (hx : p.tables.exec = Jvm.exec) (hby : c.code = code) {pcN : Nat} {x y : Int32} {o : Int} (hd : decode code pc = .ok (.if_icmp .le o, 3)) (ho : 0 ≤ (pc : Int) + o) (hp : ((pc : Int) + o).toNat = pc') (hn : pc + 3 = pcN) (yes : ¬ y < x → Go p e below s mc ms Q m T pc' Ls st) (no : y < x → Go p e below s mc ms Q m T pcN Ls st) : Go p e below s mc ms Q m T pc Ls (.int y :: .int x :: st) := by
  subst hn
  by_cases q : y < x
  · exact (no q).of fun _ kk => XS.icmpNo (g := mkF m pc Ls (.int y :: .int x :: st)) X.here hx rfl (hb hby hd) rfl (XT.ii_le_f q) kk
  · exact (yes q).of fun _ kk => XS.icmpYes (g := mkF m pc Ls (.int y :: .int x :: st)) X.here hx rfl (pc0 := pc) rfl (hb hby hd) rfl (XT.ii_le_t q) ho hp kk
theorem Go.if_eq (X : Stand p l e R s m args below meth c T locs cells slots) (hx : p.tables.exec = Jvm.exec) (hby : c.code = code) {pcN : Nat} {x : Int32} {o : Int} (hd : decode code pc = .ok (.ifCond .eq o, 3)) (ho : 0 ≤ (pc : Int) + o) (hp : ((pc : Int) + o).toNat = pc') (hn : pc + 3 = pcN) (yes : x = 0 → Go p e below s mc ms Q m T pc' Ls st) (no : ¬ x = 0 → Go p e below s mc ms Q m T pcN Ls st) : Go p e below s mc ms Q m T pc Ls (.int x :: st) := by
  subst hn
  by_cases q : x = 0
  · exact (yes q).of fun _ kk => XS.ifYes (g := mkF m pc Ls (.int x :: st)) X.here hx rfl (pc0 := pc) rfl (hb hby hd) rfl (XT.i0_eq_t q) ho hp kk
  · exact (no q).of fun _ kk => XS.ifNo (g := mkF m pc Ls (.int x :: st)) X.here hx rfl (hb hby hd) rfl (XT.i0_eq_f q) kk
theorem Go.if_ne (X : Stand p l e R s m args below meth c T locs cells slots) (hx : p.tables.exec = Jvm.exec) (hby : c.code = code) {pcN : Nat} {x : Int32} {o : Int} (hd : decode code pc = .ok (.ifCond .ne o, 3)) (ho : 0 ≤ (pc : Int) + o) (hp : ((pc : Int) + o).toNat = pc') (hn : pc + 3 = pcN) (yes : ¬ x = 0 → Go p e below s mc ms Q m T pc' Ls st) (no : x = 0 → Go p e below s mc ms Q m T pcN Ls st) : Go p e below s mc ms Q m T pc Ls (.int x :: st) := by
  subst hn
  by_cases q : x = 0
  · exact (no q).of fun _ kk => XS.ifNo (g := mkF m pc Ls (.int x :: st)) X.here hx rfl (hb hby hd) rfl (XT.i0_ne_f q) kk
  · exact (yes q).of fun _ kk => XS.ifYes (g := mkF m pc Ls (.int x :: st)) X.here hx rfl (pc0 := pc) rfl (hb hby hd) rfl (XT.i0_ne_t q) ho hp kk
theorem Go.if_lt (X : Stand p l e R s m args below meth c T locs cells slots) (hx : p.tables.exec = Jvm.exec) (hby : c.code = code) {pcN : Nat} {x : Int32} {o : Int} (hd : decode code pc = .ok (.ifCond .lt o, 3)) (ho : 0 ≤ (pc : Int) + o) (hp : ((pc : Int) + o).toNat = pc') (hn : pc + 3 = pcN) (yes : x < 0 → Go p e below s mc ms Q m T pc' Ls st) (no : ¬ x < 0 → Go p e below s mc ms Q m T pcN Ls st) : Go p e below s mc ms Q m T pc Ls (.int x :: st) := by
  subst hn
  by_cases q : x < 0
  · exact (yes q).of fun _ kk => XS.ifYes (g := mkF m pc Ls (.int x :: st)) X.here hx rfl (pc0 := pc) rfl (hb hby hd) rfl (XT.i0_lt_t q) ho hp kk
  · exact (no q).of fun _ kk => XS.ifNo (g := mkF m pc Ls (.int x :: st)) X.here hx rfl (hb hby hd) rfl (XT.i0_lt_f q) kk
theorem Go.if_ge (X : Stand p l e R s m args below meth c T locs cells slots) (hx : p.tables.exec = Jvm.exec) (hby : c.code = code) {pcN : Nat} {x : Int32} {o : Int} (hd : decode code pc = .ok (.ifCond .ge o, 3)) (ho : 0 ≤ (pc : Int) + o) (hp : ((pc : Int) + o).toNat = pc') (hn : pc + 3 = pcN) (yes : ¬ x < 0 → Go p e below s mc ms Q m T pc' Ls st) (no : x < 0 → Go p e below s mc ms Q m T pcN Ls st) : Go p e below s mc ms Q m T pc Ls (.int x :: st) := by
  subst hn
  by_cases q : x < 0
  · exact (no q).of fun _ kk => XS.ifNo (g := mkF m pc Ls (.int x :: st)) X.here hx rfl (hb hby hd) rfl (XT.i0_ge_f q) kk
  · exact (yes q).of fun _ kk => XS.ifYes (g := mkF m pc Ls (.int x :: st)) X.here hx rfl (pc0 := pc) rfl (hb hby hd) rfl (XT.i0_ge_t q) ho hp kk
theorem Go.if_gt (X : Stand p l e R s m args below meth c T locs cells slots) (hx : p.tables.exec = Jvm.exec) (hby : c.code = code) {pcN : Nat} {x : Int32} {o : Int} (hd : decode code pc = .ok (.ifCond .gt o, 3)) (ho : 0 ≤ (pc : Int) + o) (hp : ((pc : Int) + o).toNat = pc') (hn : pc + 3 = pcN) (yes : 0 < x → Go p e below s mc ms Q m T pc' Ls st) (no : ¬ 0 < x → Go p e below s mc ms Q m T pcN Ls st) : Go p e below s mc ms Q m T pc Ls (.int x :: st) := by
  subst hn
  by_cases q : 0 < x
  · exact (yes q).of fun _ kk => XS.ifYes (g := mkF m pc Ls (.int x :: st)) X.here hx rfl (pc0 := pc) rfl (hb hby hd) rfl (XT.i0_gt_t q) ho hp kk
  · exact (no q).of fun _ kk => XS.ifNo (g := mkF m pc Ls (.int x :: st)) X.here hx rfl (hb hby hd) rfl (XT.i0_gt_f q) kk
theorem Go.if_le (X : Stand p l e R s m args below meth c T locs cells slots) (hx : p.tables.exec = Jvm.exec) (hby : c.code = code) {pcN : Nat} {x : Int32} {o : Int} (hd : decode code pc = .ok (.ifCond .le o, 3)) (ho : 0 ≤ (pc : Int) + o) (hp : ((pc : Int) + o).toNat = pc') (hn : pc + 3 = pcN) (yes : ¬ 0 < x → Go p e below s mc ms Q m T pc' Ls st) (no : 0 < x → Go p e below s mc ms Q m T pcN Ls st) : Go p e below s mc ms Q m T pc Ls (.int x :: st) := by
  subst hn
  by_cases q : 0 < x
  · exact (no q).of fun _ kk => XS.ifNo (g := mkF m pc Ls (.int x :: st)) X.here hx rfl (hb hby hd) rfl (XT.i0_le_f q) kk
  · exact (yes q).of fun _ kk => XS.ifYes (g := mkF m pc Ls (.int x :: st)) X.here hx rfl (pc0 := pc) rfl (hb hby hd) rfl (XT.i0_le_t q) ho hp kk
theorem Go.ifL_eq (X : Stand p l e R s m args below meth c T locs cells slots) (hx : p.tables.exec = Jvm.exec) (hby : c.code = code) {pcN : Nat} {x y : Int64} {o : Int} (hd : decode code pc = .ok (.ifCond .eq o, 3)) (ho : 0 ≤ (pc : Int) + o) (hp : ((pc : Int) + o).toNat = pc') (hn : pc + 3 = pcN) (yes : x = y → Go p e below s mc ms Q m T pc' Ls st) (no : ¬ x = y → Go p e below s mc ms Q m T pcN Ls st) : Go p e below s mc ms Q m T pc Ls (.int (XT.cmpL x y) :: st) := by
  subst hn
  by_cases q : x = y
  · exact (yes q).of fun _ kk => XS.ifYes (g := mkF m pc Ls (.int (XT.cmpL x y) :: st)) X.here hx rfl (pc0 := pc) rfl (hb hby hd) rfl (XT.ll_eq_t q) ho hp kk
  · exact (no q).of fun _ kk => XS.ifNo (g := mkF m pc Ls (.int (XT.cmpL x y) :: st)) X.here hx rfl (hb hby hd) rfl (XT.ll_eq_f q) kk
theorem Go.ifL_ne (X : Stand p l e R s m args below meth c T locs cells slots) (hx : p.tables.exec = Jvm.exec) (hby : c.code = code) {pcN : Nat} {x y : Int64} {o : Int} (hd : decode code pc = .ok (.ifCond .ne o, 3)) (ho : 0 ≤ (pc : Int) + o) (hp : ((pc : Int) + o).toNat = pc') (hn : pc + 3 = pcN) (yes : ¬ x = y → Go p e below s mc ms Q m T pc' Ls st) (no : x = y → Go p e below s mc ms Q m T pcN Ls st) : Go p e below s mc ms Q m T pc Ls (.int (XT.cmpL x y) :: st) := by
  subst hn
  by_cases q : x = y
  · exact (no q).of fun _ kk => XS.ifNo (g := mkF m pc Ls (.int (XT.cmpL x y) :: st)) X.here hx rfl (hb hby hd) rfl (XT.ll_ne_f q) kk
  · exact (yes q).of fun _ kk => XS.ifYes (g := mkF m pc Ls (.int (XT.cmpL x y) :: st)) X.here hx rfl (pc0 := pc) rfl (hb hby hd) rfl (XT.ll_ne_t q) ho hp kk
theorem Go.ifL_lt (X : Stand p l e R s m args below meth c T locs cells slots) (hx : p.tables.exec = Jvm.exec) (hby : c.code = code) {pcN : Nat} {x y : Int64} {o : Int} (hd : decode code pc = .ok (.ifCond .lt o, 3)) (ho : 0 ≤ (pc : Int) + o) (hp : ((pc : Int) + o).toNat = pc') (hn : pc + 3 = pcN) (yes : x < y → Go p e below s mc ms Q m T pc' Ls st) (no : ¬ x < y → Go p e below s mc ms Q m T pcN Ls st) : Go p e below s mc ms Q m T pc Ls (.int (XT.cmpL x y) :: st) := by
  subst hn
  by_cases q : x < y
  · exact (yes q).of fun _ kk => XS.ifYes (g := mkF m pc Ls (.int (XT.cmpL x y) :: st)) X.here hx rfl (pc0 := pc) rfl (hb hby hd) rfl (XT.ll_lt_t q) ho hp kk
  · exact (no q).of fun _ kk => XS.ifNo (g := mkF m pc Ls (.int (XT.cmpL x y) :: st)) X.here hx rfl (hb hby hd) rfl (XT.ll_lt_f q) kk
theorem Go.ifL_ge (X : Stand p l e R s m args below meth c T locs cells slots) (hx : p.tables.exec = Jvm.exec) (hby : c.code = code) {pcN : Nat} {x y : Int64} {o : Int} (hd : decode code pc = .ok (.ifCond .ge o, 3)) (ho : 0 ≤ (pc : Int) + o) (hp : ((pc : Int) + o).toNat = pc') (hn : pc + 3 = pcN) (yes : ¬ x < y → Go p e below s mc ms Q m T pc' Ls st) (no : x < y → Go p e below s mc ms Q m T pcN Ls st) : Go p e below s mc ms Q m T pc Ls (.int (XT.cmpL x y) :: st) := by
  subst hn
  by_cases q : x < y
  · exact (no q).of fun _ kk => XS.ifNo (g := mkF m pc Ls (.int (XT.cmpL x y) :: st)) X.here hx rfl (hb hby hd) rfl (XT.ll_ge_f q) kk
  · exact (yes q).of fun _ kk => XS.ifYes (g := mkF m pc Ls (.int (XT.cmpL x y) :: st)) X.here hx rfl (pc0 := pc) rfl (hb hby hd) rfl (XT.ll_ge_t q) ho hp kk
theorem Go.ifL_gt (X : Stand p l e R s m args below meth c T locs cells slots) (hx : p.tables.exec = Jvm.exec) (hby : c.code = code) {pcN : Nat} {x y : Int64} {o : Int} (hd : decode code pc = .ok (.ifCond .gt o, 3)) (ho : 0 ≤ (pc : Int) + o) (hp : ((pc : Int) + o).toNat = pc') (hn : pc + 3 = pcN) (yes : y < x → Go p e below s mc ms Q m T pc' Ls st) (no : ¬ y < x → Go p e below s mc ms Q m T pcN Ls st) : Go p e below s mc ms Q m T pc Ls (.int (XT.cmpL x y) :: st) := by
  subst hn
  by_cases q : y < x
  · exact (yes q).of fun _ kk => XS.ifYes (g := mkF m pc Ls (.int (XT.cmpL x y) :: st)) X.here hx rfl (pc0 := pc) rfl (hb hby hd) rfl (XT.ll_gt_t q) ho hp kk
  · exact (no q).of fun _ kk => XS.ifNo (g := mkF m pc Ls (.int (XT.cmpL x y) :: st)) X.here hx rfl (hb hby hd) rfl (XT.ll_gt_f q) kk
theorem Go.ifL_le (X : Stand p l e R s m args below meth c T locs cells slots) (hx : p.tables.exec = Jvm.exec) (hby : c.code = code) {pcN : Nat} {x y : Int64} {o : Int} (hd : decode code pc = .ok (.ifCond .le o, 3)) (ho : 0 ≤ (pc : Int) + o) (hp : ((pc : Int) + o).toNat = pc') (hn : pc + 3 = pcN) (yes : ¬ y < x → Go p e below s mc ms Q m T pc' Ls st) (no : y < x → Go p e below s mc ms Q m T pcN Ls st) : Go p e below s mc ms Q m T pc Ls (.int (XT.cmpL x y) :: st) := by
  subst hn
  by_cases q : y < x
  · exact (no q).of fun _ kk => XS.ifNo (g := mkF m pc Ls (.int (XT.cmpL x y) :: st)) X.here hx rfl (hb hby hd) rfl (XT.ll_le_f q) kk
  · exact (yes q).of fun _ kk => XS.ifYes (g := mkF m pc Ls (.int (XT.cmpL x y) :: st)) X.here hx rfl (pc0 := pc) rfl (hb hby hd) rfl (XT.ll_le_t q) ho hp kk
theorem Go.iretI (X : Stand p l e R s m args below meth c T locs cells slots) (hx : p.tables.exec = Jvm.exec) (hby : c.code = code) (hlk : meth.locks = false) (hret : meth.sig.returnType = some .int) {w : Int32} (hd : decode code pc = .ok (.ireturn, 1)) (hc : cells ≤ mc) (hs : slots ≤ ms) (hq : Q (some (.int w)) T.heap locs) : Go p e below s mc ms Q m T pc Ls [.int w] := by
  obtain ⟨fs, hr, hrun, hended, hW, hsame⟩ := X.leave (v := some (.int w)) (fun h => by rw [hret] at h; cases h) hlk
  exact ⟨_, _, X.ireturnOut hx hret rfl (Or.inl rfl) (hb hby hd) hr, hrun, hended, _, _, rfl, hq, ⟨_, rfl⟩, hW, hsame.mono hc hs⟩
theorem Go.iretN (X : Stand p l e R s m args below meth c T locs cells slots) (hx : p.tables.exec = Jvm.exec) (hby : c.code = code) (hlk : meth.locks = false) {t : FieldType} (hret : meth.sig.returnType = some t) (ht : t = .boolean ∨ t = .byte ∨ t = .char ∨ t = .short) {w w' : Int32} (hw : nar t w = w') (hd : decode code pc = .ok (.ireturn, 1)) (hc : cells ≤ mc) (hs : slots ≤ ms) (hq : Q (some (.int w')) T.heap locs) : Go p e below s mc ms Q m T pc Ls [.int w] := by
  subst hw
  obtain ⟨fs, hr, hrun, hended, hW, hsame⟩ := X.leave (v := some (.int (nar t w))) (fun h => by rw [hret] at h; cases h) hlk
  exact ⟨_, _, retN X hx (t := t) hret ht (hb hby hd) hr, hrun, hended, _, _, rfl, hq, ⟨_, rfl⟩, hW, hsame.mono hc hs⟩
theorem Go.lret (X : Stand p l e R s m args below meth c T locs cells slots) (hx : p.tables.exec = Jvm.exec) (hby : c.code = code) (hlk : meth.locks = false) (hret : meth.sig.returnType = some .long) {w : Int64} (hd : decode code pc = .ok (.lreturn, 1)) (hc : cells ≤ mc) (hs : slots ≤ ms) (hq : Q (some (.long w)) T.heap locs) : Go p e below s mc ms Q m T pc Ls [.long w] := by
  obtain ⟨fs, hr, hrun, hended, hW, hsame⟩ := X.leave (v := some (.long w)) (fun h => by rw [hret] at h; cases h) hlk
  exact ⟨_, _, X.lreturnOut hx hret (hb hby hd) hr, hrun, hended, _, _, rfl, hq, ⟨_, rfl⟩, hW, hsame.mono hc hs⟩
theorem Go.aret (X : Stand p l e R s m args below meth c T locs cells slots) (hx : p.tables.exec = Jvm.exec) (hby : c.code = code) (hlk : meth.locks = false) {t : FieldType} (hret : meth.sig.returnType = some t) (ht : t.isReference = true) {w : Value} (hw : w.isRef = true) (hd : decode code pc = .ok (.areturn, 1)) (hc : cells ≤ mc) (hs : slots ≤ ms) (hq : Q (some w) T.heap locs) : Go p e below s mc ms Q m T pc Ls [w] := by
  obtain ⟨fs, hr, hrun, hended, hW, hsame⟩ := X.leave (v := some w) (fun h => by rw [hret] at h; cases h) hlk
  exact ⟨_, _, X.areturnOut hx hw hret ht (hb hby hd) hr, hrun, hended, _, _, rfl, hq, ⟨_, rfl⟩, hW, hsame.mono hc hs⟩
theorem Go.vret (X : Stand p l e R s m args below meth c T locs cells slots) (hx : p.tables.exec = Jvm.exec) (hby : c.code = code) (hlk : meth.locks = false) (hret : meth.sig.returnType = none) (hd : decode code pc = .ok (.return_, 1)) (hc : cells ≤ mc) (hs : slots ≤ ms) (hq : Q none T.heap locs) : Go p e below s mc ms Q m T pc Ls [] := by
  obtain ⟨fs, hr, hrun, hended, hW, hsame⟩ := X.leave (v := none) (fun _ => rfl) hlk
  exact ⟨_, _, X.returnOut hx hret (hb hby hd) hr, hrun, hended, _, _, rfl, hq, ⟨_, rfl⟩, hW, hsame.mono hc hs⟩
/-- what a body that keeps the heap leaves -/
def PQ (h0 : Heap) (r : Option Value) (v : Option Value) (h : Heap) (L : List Loc) : Prop := v = r ∧ L = [] ∧ h = h0
theorem Go.callS (X : Stand p l e R s m args below meth c T locs cells slots) (hx : p.tables.exec = Jvm.exec) (hby : c.code = code) {Z : State} {a0 : Array Value} {h : Heap} (hZ : Z.Warmed39 s.vm) (hml : Ls.size = c.maxLocals) {own : String} {k : Nat} {y : MethodName} {bytes : ByteArray} {maxL : Nat} {ret : Option FieldType} {rm : Room} {W : Nat} {as' : Array Value} {QY : Option Value → Heap → List Loc → Prop}
    (hown : s.vm.findClass own = some m.cls) (w1 : (Cond.methodLink own k y).before a0 Z = true) (w2 : (Cond.static y).before a0 Z = true) (w3 : (Cond.initialized y.cls).before a0 Z = true) (w4 : (Cond.code y bytes maxL ret).before a0 Z = true) (hy : y.cls ≠ "java/lang/invoke/MethodHandle" ∧ y.cls ≠ "java/lang/invoke/VarHandle")
    (hM : MetFree l y (head1 [Cond.code y bytes maxL ret] rm) (fun a U => a = as' ∧ Z.Warmed39 U.vm ∧ U.heap = h) (fun _ _ _ _ _ => True) (fun _ U o U' => ∃ v L, o = .returned v ∧ QY v U'.heap L ∧ FrameEnd U o U' L rm.cells rm.slots))
    (hf : rm.frames + 1 ≤ R.frames) (hl : W + (maxL + 11) + rm.locals ≤ R.locals) (eT : T.heap = h) {argsL rest : List Value} {sig : MethodDescriptor} (hsig : parseMethodDescriptor y.desc = some sig) (hlen : argsL.length = sig.parameters.length) (has : argsL.toArray = as') (hst : st = argsL.reverse ++ rest) (hW : (rest.map fun v => v.category).sum ≤ W)
    (hc : cells + rm.cells ≤ R.cells) (hsl : slots + rm.slots ≤ R.slots) (hd : decode code pc = .ok (.invokestatic k, 3)) (hpc : pc + 3 = pc')
    (K : ∀ v T' L, Stand p l e R s m args below meth c T' (locs ++ L) (cells + rm.cells) (slots + rm.slots) → QY v T'.heap L → Go p e below s mc ms Q m T' pc' Ls (v.toList ++ rest)) : Go p e below s mc ms Q m T pc Ls st := by
  subst hpc hst has
  obtain ⟨v, vm₁, B, -, X', ⟨L, hQ, l1, l2, l3⟩, st⟩ := Jvm.LawKit.callS X hx hown (mvT hZ w1) (mvT hZ w2) (mvT hZ w3) (mvT hZ w4) hy (backOf (W := W) hM hZ w4 w3 hf hl) (g := mkF m pc Ls (argsL.reverse ++ rest)) rfl hml (argsL := argsL) (rest := rest) (lenOf hsig hlen) rfl (by show 2 * 0 + _ ≤ _; omega) (hb hby hd) (fun _ _ => ⟨rfl, eT, hc, hsl⟩)
  rw [l1, l2, l3] at X'
  exact (K v B.U L X' hQ).of st
theorem Go.callSP (X : Stand p l e R s m args below meth c T locs cells slots) (hx : p.tables.exec = Jvm.exec) (hby : c.code = code) {Z : State} {a0 : Array Value} {h : Heap} (hZ : Z.Warmed39 s.vm) (hml : Ls.size = c.maxLocals) {own : String} {k : Nat} {y : MethodName} {bytes : ByteArray} {maxL : Nat} {ret : Option FieldType} {rm : Room} {W : Nat} {as' : Array Value} {r : Value}
    (hown : s.vm.findClass own = some m.cls) (w1 : (Cond.methodLink own k y).before a0 Z = true) (w2 : (Cond.static y).before a0 Z = true) (w3 : (Cond.initialized y.cls).before a0 Z = true) (w4 : (Cond.code y bytes maxL ret).before a0 Z = true) (hy : y.cls ≠ "java/lang/invoke/MethodHandle" ∧ y.cls ≠ "java/lang/invoke/VarHandle")
    (hM : MetFree l y (head1 [Cond.code y bytes maxL ret] rm) (fun a U => a = as' ∧ Z.Warmed39 U.vm ∧ U.heap = h) (fun _ _ _ _ _ => True) (fun _ U o U' => ∃ v L, o = .returned v ∧ PQ h (some r) v U'.heap L ∧ FrameEnd U o U' L rm.cells rm.slots))
    (hf : rm.frames + 1 ≤ R.frames) (hl : W + (maxL + 11) + rm.locals ≤ R.locals) (eT : T.heap = h) {argsL rest : List Value} {sig : MethodDescriptor} (hsig : parseMethodDescriptor y.desc = some sig) (hlen : argsL.length = sig.parameters.length) (has : argsL.toArray = as') (hst : st = argsL.reverse ++ rest) (hW : (rest.map fun v => v.category).sum ≤ W)
    (r1 : rm.cells = 0) (r2 : rm.slots = 0) (hc : cells ≤ R.cells) (hsl : slots ≤ R.slots) (hd : decode code pc = .ok (.invokestatic k, 3)) (hpc : pc + 3 = pc')
    (K : ∀ T', Stand p l e R s m args below meth c T' locs cells slots → T'.heap = h → Go p e below s mc ms Q m T' pc' Ls (r :: rest)) : Go p e below s mc ms Q m T pc Ls st := by
  refine Go.callS X hx hby hZ hml hown w1 w2 w3 w4 hy hM hf hl eT hsig hlen has hst hW (by rw [r1]; exact hc) (by rw [r2]; exact hsl) hd hpc (fun v T' L X' hQ => ?_)
  obtain ⟨rfl, rfl, e1⟩ := hQ
  rw [List.append_nil, r1, r2] at X'
  exact K T' X' e1
end Law

/-- the place j is in the list -/
abbrev inA {α : Type} (A : List α) (j : Int32) : Prop := ¬ (j < 0 ∨ A.length ≤ j.toNatClampNeg)
def atA {α : Type} [OfNat α 0] (A : List α) (j : Int32) : α := A.getD j.toNatClampNeg 0
def setA {α : Type} (A : List α) (j : Int32) (v : α) : List α := A.set j.toNatClampNeg v
def lenA {α : Type} (A : List α) : Int32 := A.length.toInt32
/-- an array of ints, bytes, chars that holds the list -/
def AryI (Z : State) (h : Heap) (a : Addr) (ty : FieldType) (A : List Int32) : Prop := ∃ (k : ClassId) (z : Int32), Arv Z h a k ty z (A.map Value.int) (.int 0) ∧ z.toNatClampNeg = A.length
def AryJ (Z : State) (h : Heap) (a : Addr) (A : List Int64) : Prop := ∃ (k : ClassId) (z : Int32), Arv Z h a k .long z (A.map Value.long) (.long 0) ∧ z.toNatClampNeg = A.length
theorem own_inK {α : Type} {A : List α} {j : Int32} {n : Nat} (hl : A.length = n) (hj : ¬ (j < 0 ∨ n ≤ j.toNatClampNeg)) : inA A j := by subst hl; exact hj
section Heaps
variable {p : Program} {l : Launch} {e : Env} {R : Room} {s : State} {m : MethodId} {args : Array Value} {below : List Frame} {meth : Method} {c : Code} {T T' : State} {locs : List Loc} {cells slots : Nat} {code : ByteArray} {Q : Option Value → Heap → List Loc → Prop} {mc ms : Nat} {pc pc' : Nat} {Ls Ls' : Array Slot} {st st' rest : List Value}
variable {Z : State} {h h' : Heap} {a b : Addr} {ty : FieldType} {A : List Int32} {J : List Int64} {sl : Nat} {v : Value} {ws : List Addr} {a0 : Array Value}
theorem AryI.lt (F : AryI Z h a ty A) : a < h.size := by obtain ⟨k, z, V, -⟩ := F; exact V.lt
theorem AryI.ext (F : AryI Z h a ty A) (E : Ext h h') : AryI Z h' a ty A := by obtain ⟨k, z, V, q⟩ := F; exact ⟨k, z, V.ext E, q⟩
theorem AryI.other (F : AryI Z h b ty A) (W : Wr h h' a sl v) (q : b ≠ a) : AryI Z h' b ty A := by obtain ⟨k, z, V, r⟩ := F; exact ⟨k, z, V.other W q, r⟩
theorem AryI.keep (F : AryI Z h a ty A) (K : Keep h h' ws) (q : a ∉ ws) : AryI Z h' a ty A := by obtain ⟨k, z, V, r⟩ := F; exact ⟨k, z, V.keep K q, r⟩
theorem AryJ.lt (F : AryJ Z h a J) : a < h.size := by obtain ⟨k, z, V, -⟩ := F; exact V.lt
theorem AryJ.ext (F : AryJ Z h a J) (E : Ext h h') : AryJ Z h' a J := by obtain ⟨k, z, V, q⟩ := F; exact ⟨k, z, V.ext E, q⟩
theorem AryJ.other (F : AryJ Z h b J) (W : Wr h h' a sl v) (q : b ≠ a) : AryJ Z h' b J := by obtain ⟨k, z, V, r⟩ := F; exact ⟨k, z, V.other W q, r⟩
theorem AryJ.keep (F : AryJ Z h a J) (K : Keep h h' ws) (q : a ∉ ws) : AryJ Z h' a J := by obtain ⟨k, z, V, r⟩ := F; exact ⟨k, z, V.keep K q, r⟩
theorem own_getI (A : List Int32) (n : Nat) : (A.map Value.int).getD n (.int 0) = .int (A.getD n 0) := by
  simp only [List.getD_eq_getElem?_getD, List.getElem?_map]; cases A[n]? <;> rfl
theorem own_getJ (A : List Int64) (n : Nat) : (A.map Value.long).getD n (.long 0) = .long (A.getD n 0) := by
  simp only [List.getD_eq_getElem?_getD, List.getElem?_map]; cases A[n]? <;> rfl
theorem own_fin {α : Type} {w r : α} {P : α → Prop} (e : some w = some r) (h : P w) : P r := Option.some.inj e ▸ h
theorem Go.baload (X : Stand p l e R s m args below meth c T locs cells slots) (hx : p.tables.exec = Jvm.exec) (hby : c.code = code) (hZ : Z.Warmed39 s.vm) (eT : T.heap = h) (F : AryI Z h a .byte A) {j : Int32} (hj : inA A j) (hd : decode code pc = .ok (.baload, 1)) (hpc : pc + 1 = pc') (K : Go p e below s mc ms Q m T pc' Ls (.int (atA A j) :: st)) : Go p e below s mc ms Q m T pc Ls (.int j :: .ref a :: st) := by
  subst hpc
  obtain ⟨k, z, ⟨cl, Ar, q1, S, q3, H, -⟩, r⟩ := F
  have hin : ¬ (j < 0 ∨ cl.slots.size ≤ j.toNatClampNeg) := by rw [S, r]; exact hj
  have hv : cl.slots[j.toNatClampNeg]? = some (.int (atA A j)) := by rw [H _ (Nat.lt_of_not_le fun y => hin (Or.inr y)), own_getI]; rfl
  exact K.of fun t kk => X.baloadBytes hx (by rw [eT]; exact Ar.1) (State.isArrayOf_alike hZ.alike Ar.2.1) Ar.2.2 hin hv (g := mkF m pc Ls (.int j :: .ref a :: st)) rfl rfl (hb hby hd) t kk
theorem Go.caload (X : Stand p l e R s m args below meth c T locs cells slots) (hx : p.tables.exec = Jvm.exec) (hby : c.code = code) (hZ : Z.Warmed39 s.vm) (eT : T.heap = h) (F : AryI Z h a .char A) {j : Int32} (hj : inA A j) (hd : decode code pc = .ok (.caload, 1)) (hpc : pc + 1 = pc') (K : Go p e below s mc ms Q m T pc' Ls (.int (atA A j) :: st)) : Go p e below s mc ms Q m T pc Ls (.int j :: .ref a :: st) := by
  subst hpc
  obtain ⟨k, z, ⟨cl, Ar, q1, S, q3, H, -⟩, r⟩ := F
  have hin : ¬ (j < 0 ∨ cl.slots.size ≤ j.toNatClampNeg) := by rw [S, r]; exact hj
  have hv : cl.slots[j.toNatClampNeg]? = some (.int (atA A j)) := by rw [H _ (Nat.lt_of_not_le fun y => hin (Or.inr y)), own_getI]; rfl
  exact K.of fun t kk => X.caload hx (by rw [eT]; exact Ar.1) (State.isArrayOf_alike hZ.alike Ar.2.1) Ar.2.2 hin hv (g := mkF m pc Ls (.int j :: .ref a :: st)) rfl rfl (hb hby hd) t kk
theorem Go.iaload (X : Stand p l e R s m args below meth c T locs cells slots) (hx : p.tables.exec = Jvm.exec) (hby : c.code = code) (hZ : Z.Warmed39 s.vm) (eT : T.heap = h) (F : AryI Z h a .int A) {j : Int32} (hj : inA A j) (hd : decode code pc = .ok (.iaload, 1)) (hpc : pc + 1 = pc') (K : Go p e below s mc ms Q m T pc' Ls (.int (atA A j) :: st)) : Go p e below s mc ms Q m T pc Ls (.int j :: .ref a :: st) := by
  subst hpc
  obtain ⟨k, z, ⟨cl, Ar, q1, S, q3, H, -⟩, r⟩ := F
  have hin : ¬ (j < 0 ∨ cl.slots.size ≤ j.toNatClampNeg) := by rw [S, r]; exact hj
  have hv : cl.slots[j.toNatClampNeg]? = some (.int (atA A j)) := by rw [H _ (Nat.lt_of_not_le fun y => hin (Or.inr y)), own_getI]; rfl
  exact K.of fun t kk => X.iaload hx (by rw [eT]; exact Ar.1) (State.isArrayOf_alike hZ.alike Ar.2.1) Ar.2.2 hin hv (g := mkF m pc Ls (.int j :: .ref a :: st)) rfl rfl (hb hby hd) t kk
theorem Go.laload (X : Stand p l e R s m args below meth c T locs cells slots) (hx : p.tables.exec = Jvm.exec) (hby : c.code = code) (hZ : Z.Warmed39 s.vm) (eT : T.heap = h) (F : AryJ Z h a J) {j : Int32} (hj : inA J j) (hd : decode code pc = .ok (.laload, 1)) (hpc : pc + 1 = pc') (K : Go p e below s mc ms Q m T pc' Ls (.long (atA J j) :: st)) : Go p e below s mc ms Q m T pc Ls (.int j :: .ref a :: st) := by
  subst hpc
  obtain ⟨k, z, ⟨cl, Ar, q1, S, q3, H, -⟩, r⟩ := F
  have hin : ¬ (j < 0 ∨ cl.slots.size ≤ j.toNatClampNeg) := by rw [S, r]; exact hj
  have hv : cl.slots[j.toNatClampNeg]? = some (.long (atA J j)) := by rw [H _ (Nat.lt_of_not_le fun y => hin (Or.inr y)), own_getJ]; rfl
  exact K.of fun t kk => X.laload hx (by rw [eT]; exact Ar.1) (State.isArrayOf_alike hZ.alike Ar.2.1) Ar.2.2 hin hv (g := mkF m pc Ls (.int j :: .ref a :: st)) rfl rfl (hb hby hd) t kk
theorem Go.alen (X : Stand p l e R s m args below meth c T locs cells slots) (hx : p.tables.exec = Jvm.exec) (hby : c.code = code) (hZ : Z.Warmed39 s.vm) (eT : T.heap = h) (F : AryI Z h a ty A) (hd : decode code pc = .ok (.arraylength, 1)) (hpc : pc + 1 = pc') (K : Go p e below s mc ms Q m T pc' Ls (.int (lenA A) :: st)) : Go p e below s mc ms Q m T pc Ls (.ref a :: st) := by
  subst hpc
  obtain ⟨k, z, ⟨cl, Ar, q1, S, q3, H, -⟩, r⟩ := F
  have e2 : cl.slots.size.toInt32 = lenA A := by rw [S, r]; rfl
  exact K.of fun t kk => X.arraylength hx (by rw [eT]; exact Ar.1) (State.isArrayOf_alike hZ.alike Ar.2.1) (g := mkF m pc Ls (.ref a :: st)) rfl rfl (hb hby hd) t (by rw [e2]; exact kk)
theorem Go.alenJ (X : Stand p l e R s m args below meth c T locs cells slots) (hx : p.tables.exec = Jvm.exec) (hby : c.code = code) (hZ : Z.Warmed39 s.vm) (eT : T.heap = h) (F : AryJ Z h a J) (hd : decode code pc = .ok (.arraylength, 1)) (hpc : pc + 1 = pc') (K : Go p e below s mc ms Q m T pc' Ls (.int (lenA J) :: st)) : Go p e below s mc ms Q m T pc Ls (.ref a :: st) := by
  subst hpc
  obtain ⟨k, z, ⟨cl, Ar, q1, S, q3, H, -⟩, r⟩ := F
  have e2 : cl.slots.size.toInt32 = lenA J := by rw [S, r]; rfl
  exact K.of fun t kk => X.arraylength hx (by rw [eT]; exact Ar.1) (State.isArrayOf_alike hZ.alike Ar.2.1) (g := mkF m pc Ls (.ref a :: st)) rfl rfl (hb hby hd) t (by rw [e2]; exact kk)
theorem Go.bastore (X : Stand p l e R s m args below meth c T locs cells slots) (hx : p.tables.exec = Jvm.exec) (hby : c.code = code) (hZ : Z.Warmed39 s.vm) (eT : T.heap = h) (F : AryI Z h a .byte A) {j x : Int32} (hj : inA A j) (hd : decode code pc = .ok (.bastore, 1)) (hpc : pc + 1 = pc') (K : ∀ T' h', Stand p l e R s m args below meth c T' (locs ++ [⟨a, j.toNatClampNeg⟩]) cells slots → T'.heap = h' → Wr h h' a j.toNatClampNeg (.int (i2bF x)) → AryI Z h' a .byte (setA A j (i2bF x)) → Go p e below s mc ms Q m T' pc' Ls st) : Go p e below s mc ms Q m T pc Ls (.int x :: .int j :: .ref a :: st) := by
  subst hpc
  obtain ⟨k, z, ⟨cl, Ar, q1, S, q3, H, H2⟩, r⟩ := F
  have hin : ¬ (j < 0 ∨ cl.slots.size ≤ j.toNatClampNeg) := by rw [S, r]; exact hj
  obtain ⟨T', h', X', e', W, stp⟩ := stB X hx hZ eT Ar hin (g := mkF m pc Ls (.int x :: .int j :: .ref a :: st)) rfl rfl (hb hby hd)
  have V := Arv.set (v := .int (i2bF x)) Ar q1 S q3 H H2 (fits_nar_byte x) W j.toNatClampNeg rfl (by rw [List.length_map]; exact Nat.lt_of_not_le fun y => hj (Or.inr y))
  exact (K T' h' X' e' W ⟨k, z, by rw [setA, List.map_set]; exact V, by rw [setA, List.length_set]; exact r⟩).of stp
theorem Go.castore (X : Stand p l e R s m args below meth c T locs cells slots) (hx : p.tables.exec = Jvm.exec) (hby : c.code = code) (hZ : Z.Warmed39 s.vm) (eT : T.heap = h) (F : AryI Z h a .char A) {j x : Int32} (hj : inA A j) (hd : decode code pc = .ok (.castore, 1)) (hpc : pc + 1 = pc') (K : ∀ T' h', Stand p l e R s m args below meth c T' (locs ++ [⟨a, j.toNatClampNeg⟩]) cells slots → T'.heap = h' → Wr h h' a j.toNatClampNeg (.int (i2cF x)) → AryI Z h' a .char (setA A j (i2cF x)) → Go p e below s mc ms Q m T' pc' Ls st) : Go p e below s mc ms Q m T pc Ls (.int x :: .int j :: .ref a :: st) := by
  subst hpc
  obtain ⟨k, z, ⟨cl, Ar, q1, S, q3, H, H2⟩, r⟩ := F
  have hin : ¬ (j < 0 ∨ cl.slots.size ≤ j.toNatClampNeg) := by rw [S, r]; exact hj
  obtain ⟨T', h', X', e', W, stp⟩ := stC X hx hZ eT Ar hin (g := mkF m pc Ls (.int x :: .int j :: .ref a :: st)) rfl rfl (hb hby hd)
  have V := Arv.set (v := .int (i2cF x)) Ar q1 S q3 H H2 (fits_nar_char x) W j.toNatClampNeg rfl (by rw [List.length_map]; exact Nat.lt_of_not_le fun y => hj (Or.inr y))
  exact (K T' h' X' e' W ⟨k, z, by rw [setA, List.map_set]; exact V, by rw [setA, List.length_set]; exact r⟩).of stp
theorem Go.iastore (X : Stand p l e R s m args below meth c T locs cells slots) (hx : p.tables.exec = Jvm.exec) (hby : c.code = code) (hZ : Z.Warmed39 s.vm) (eT : T.heap = h) (F : AryI Z h a .int A) {j x : Int32} (hj : inA A j) (hd : decode code pc = .ok (.iastore, 1)) (hpc : pc + 1 = pc') (K : ∀ T' h', Stand p l e R s m args below meth c T' (locs ++ [⟨a, j.toNatClampNeg⟩]) cells slots → T'.heap = h' → Wr h h' a j.toNatClampNeg (.int x) → AryI Z h' a .int (setA A j x) → Go p e below s mc ms Q m T' pc' Ls st) : Go p e below s mc ms Q m T pc Ls (.int x :: .int j :: .ref a :: st) := by
  subst hpc
  obtain ⟨k, z, ⟨cl, Ar, q1, S, q3, H, H2⟩, r⟩ := F
  have hin : ¬ (j < 0 ∨ cl.slots.size ≤ j.toNatClampNeg) := by rw [S, r]; exact hj
  obtain ⟨T', h', X', e', W, stp⟩ := stI X hx hZ eT Ar hin (g := mkF m pc Ls (.int x :: .int j :: .ref a :: st)) rfl rfl (hb hby hd)
  have V := Arv.set (v := .int x) Ar q1 S q3 H H2 rfl W j.toNatClampNeg rfl (by rw [List.length_map]; exact Nat.lt_of_not_le fun y => hj (Or.inr y))
  exact (K T' h' X' e' W ⟨k, z, by rw [setA, List.map_set]; exact V, by rw [setA, List.length_set]; exact r⟩).of stp
theorem Go.lastore (X : Stand p l e R s m args below meth c T locs cells slots) (hx : p.tables.exec = Jvm.exec) (hby : c.code = code) (hZ : Z.Warmed39 s.vm) (eT : T.heap = h) (F : AryJ Z h a J) {j : Int32} {x : Int64} (hj : inA J j) (hd : decode code pc = .ok (.lastore, 1)) (hpc : pc + 1 = pc') (K : ∀ T' h', Stand p l e R s m args below meth c T' (locs ++ [⟨a, j.toNatClampNeg⟩]) cells slots → T'.heap = h' → Wr h h' a j.toNatClampNeg (.long x) → AryJ Z h' a (setA J j x) → Go p e below s mc ms Q m T' pc' Ls st) : Go p e below s mc ms Q m T pc Ls (.long x :: .int j :: .ref a :: st) := by
  subst hpc
  obtain ⟨k, z, ⟨cl, Ar, q1, S, q3, H, H2⟩, r⟩ := F
  have hin : ¬ (j < 0 ∨ cl.slots.size ≤ j.toNatClampNeg) := by rw [S, r]; exact hj
  obtain ⟨T', h', X', e', W, stp⟩ := stJ X hx hZ eT Ar hin (g := mkF m pc Ls (.long x :: .int j :: .ref a :: st)) rfl rfl (hb hby hd)
  have V := Arv.set (v := .long x) Ar q1 S q3 H H2 rfl W j.toNatClampNeg rfl (by rw [List.length_map]; exact Nat.lt_of_not_le fun y => hj (Or.inr y))
  exact (K T' h' X' e' W ⟨k, z, by rw [setA, List.map_set]; exact V, by rw [setA, List.length_set]; exact r⟩).of stp
theorem Go.newA (X : Stand p l e R s m args below meth c T locs cells slots) (hx : p.tables.exec = Jvm.exec) (hby : c.code = code) (hZ : Z.Warmed39 s.vm) {nn : Nat} {n : Int32} {aty : ArrayType} (w : (Cond.arrayClass ty).before a0 Z = true) (eT : T.heap = h) (hd : decode code pc = .ok (.newarray aty, 2)) (hpc : pc + 2 = pc') (ht : newarray.typeOf aty = ty) (hv : defaultValue ty = .int 0) (hn : n.toNatClampNeg = nn) (hn0 : ¬ n < 0) (hcap : nn * 8 ≤ 536870912) (hc : cells + 1 ≤ R.cells) (hsl : slots + nn ≤ R.slots)
    (K : ∀ T' h' (a : Addr), Stand p l e R s m args below meth c T' locs (cells + 1) (slots + nn) → T'.heap = h' → Ext h h' → h.size ≤ a → AryI Z h' a ty (List.replicate nn 0) → Go p e below s mc ms Q m T' pc' Ls (.ref a :: st)) : Go p e below s mc ms Q m T pc Ls (.int n :: st) := by
  subst hpc ht
  obtain ⟨T', h', cA, X', e', E, Ar, stp⟩ := newP X hx hZ w eT (g := mkF m pc Ls (.int n :: st)) rfl (hb hby hd) rfl hn0 (cap := nn) (Nat.le_of_eq hn) hcap hc hsl
  have V := Arv.new Ar hn0
  rw [hv] at V
  have V2 := Arv.pad V (vs' := (List.replicate nn (0 : Int32)).map Value.int) (fun i => by rw [List.map_replicate]; exact pad_rep [] (.int 0) nn i)
  exact (K T' h' h.size X' e' E (Nat.le_refl _) ⟨cA, n, V2, by rw [hn, List.length_replicate]⟩).of stp
theorem Go.newAJ (X : Stand p l e R s m args below meth c T locs cells slots) (hx : p.tables.exec = Jvm.exec) (hby : c.code = code) (hZ : Z.Warmed39 s.vm) {nn : Nat} {n : Int32} (w : (Cond.arrayClass .long).before a0 Z = true) (eT : T.heap = h) (hd : decode code pc = .ok (.newarray .long, 2)) (hpc : pc + 2 = pc') (hn : n.toNatClampNeg = nn) (hn0 : ¬ n < 0) (hcap : nn * 8 ≤ 536870912) (hc : cells + 1 ≤ R.cells) (hsl : slots + nn ≤ R.slots)
    (K : ∀ T' h' (a : Addr), Stand p l e R s m args below meth c T' locs (cells + 1) (slots + nn) → T'.heap = h' → Ext h h' → h.size ≤ a → AryJ Z h' a (List.replicate nn 0) → Go p e below s mc ms Q m T' pc' Ls (.ref a :: st)) : Go p e below s mc ms Q m T pc Ls (.int n :: st) := by
  subst hpc
  obtain ⟨T', h', cA, X', e', E, Ar, stp⟩ := newP (aty := .long) X hx hZ w eT (g := mkF m pc Ls (.int n :: st)) rfl (hb hby hd) rfl hn0 (cap := nn) (Nat.le_of_eq hn) hcap hc hsl
  have V : Arv Z h' h.size cA .long n [] (.long 0) := Arv.new Ar hn0
  have V2 := Arv.pad V (vs' := (List.replicate nn (0 : Int64)).map Value.long) (fun i => by rw [List.map_replicate]; exact pad_rep [] (.long 0) nn i)
  exact (K T' h' h.size X' e' E (Nat.le_refl _) ⟨cA, n, V2, by rw [hn, List.length_replicate]⟩).of stp
theorem Go.ifnullNo (X : Stand p l e R s m args below meth c T locs cells slots) (hx : p.tables.exec = Jvm.exec) (hby : c.code = code) {o : Int} (hd : decode code pc = .ok (.ifnull o, 3)) (hpc : pc + 3 = pc') (K : Go p e below s mc ms Q m T pc' Ls st) : Go p e below s mc ms Q m T pc Ls (.ref a :: st) := by
  subst hpc; exact K.of fun _ kk => XS.ifnullNo (g := mkF m pc Ls (.ref a :: st)) X.here hx rfl (hb hby hd) rfl kk
theorem Go.acmpNe (X : Stand p l e R s m args below meth c T locs cells slots) (hx : p.tables.exec = Jvm.exec) (hby : c.code = code) {o : Int} (hd : decode code pc = .ok (.if_acmp .eq o, 3)) (hpc : pc + 3 = pc') (hne : a ≠ b) (K : Go p e below s mc ms Q m T pc' Ls st) : Go p e below s mc ms Q m T pc Ls (.ref b :: .ref a :: st) := by
  subst hpc; exact K.of fun _ kk => XT.acmpNo (g := mkF m pc Ls (.ref b :: .ref a :: st)) X.here hx rfl (hb hby hd) rfl rfl rfl (XT.aa_eq_f fun q => hne (Value.ref.inj q)) kk
theorem Go.getF (X : Stand p l e R s m args below meth c T locs cells slots) (hx : p.tables.exec = Jvm.exec) (hby : c.code = code) (hZ : Z.Warmed39 s.vm) {own O n d : String} {k : Nat} {v : Value} (hown : s.vm.findClass own = some m.cls) (w : (Cond.fieldLink own k O n d).before a0 Z = true) (eT : T.heap = h) (F : Fld Z h a O n d v) (hd : decode code pc = .ok (.getfield k, 3)) (hpc : pc + 3 = pc') (K : ∀ T', Stand p l e R s m args below meth c T' locs cells slots → T'.heap = h → Go p e below s mc ms Q m T' pc' Ls (v :: st)) : Go p e below s mc ms Q m T pc Ls (.ref a :: st) := by
  subst hpc
  obtain ⟨T', X', e', stp⟩ := getF X hx hZ hown (host := "") (Or.inl w) Via.refl eT F (g := mkF m pc Ls (.ref a :: st)) rfl rfl (hb hby hd)
  exact (K T' X' e').of stp
theorem Go.putF (X : Stand p l e R s m args below meth c T locs cells slots) (hx : p.tables.exec = Jvm.exec) (hby : c.code = code) (hZ : Z.Warmed39 s.vm) {own O n d C : String} {k kk : Nat} {ty : FieldType} {v old : Value} (hown : s.vm.findClass own = some m.cls) (w : (Cond.fieldLink own k O n d).before a0 Z = true) (eT : T.heap = h) (F : Fld Z h a O n d old) (E : Exa Z h a C) (L : (Cond.lays C O n d).before a0 Z = true ∨ ((Cond.laysFinal C O n d).before a0 Z = true ∧ own = O ∧ meth.name = "<init>")) (wi : (Cond.instantiable C kk).before a0 Z = true)
    (hty : parseFieldDescriptor d = some ty) (hn : narrow ty v = v) (hf : fits ty v = true) (hd : decode code pc = .ok (.putfield k, 3)) (hpc : pc + 3 = pc') (K : ∀ T' h', Stand p l e R s m args below meth c T' (locs ++ [⟨a, RoadKit.slotOf Z O n d⟩]) cells slots → T'.heap = h' → Wr h h' a (RoadKit.slotOf Z O n d) v → Go p e below s mc ms Q m T' pc' Ls st) : Go p e below s mc ms Q m T pc Ls (v :: .ref a :: st) := by
  subst hpc
  obtain ⟨T', h', X', e', W, stp⟩ := putF X hx hZ hown (host := "") (Or.inl w) Via.refl eT F E L wi hty hn hf (g := mkF m pc Ls (v :: .ref a :: st)) rfl rfl (hb hby hd)
  exact (K T' h' X' e' W).of stp
theorem Go.newO (X : Stand p l e R s m args below meth c T locs cells slots) (hx : p.tables.exec = Jvm.exec) (hby : c.code = code) (hZ : Z.Warmed39 s.vm) {own C : String} {k n : Nat} (hown : s.vm.findClass own = some m.cls) (w : (Cond.classLink own k C).before a0 Z = true) (wi : (Cond.instantiable C n).before a0 Z = true) (wz : (Cond.initialized C).before a0 Z = true) (eT : T.heap = h) (hd : decode code pc = .ok (.new k, 3)) (hpc : pc + 3 = pc') (hc : cells + 1 ≤ R.cells) (hsl : slots + n ≤ R.slots)
    (K : ∀ T' h' (a : Addr), Stand p l e R s m args below meth c T' locs (cells + 1) (slots + n) → T'.heap = h' → Ext h h' → h.size ≤ a → Exa Z h' a C → (∀ {O nm d : String} {ty : FieldType}, Laid Z a0 C O nm d → parseFieldDescriptor d = some ty → Fld Z h' a O nm d (defaultValue ty)) → Go p e below s mc ms Q m T' pc' Ls (.ref a :: st)) : Go p e below s mc ms Q m T pc Ls st := by
  subst hpc
  obtain ⟨T', h', X', e', E, A, D, -, stp⟩ := newO X hx hZ hown w wi wz eT (g := mkF m pc Ls st) rfl (hb hby hd) hc hsl
  exact (K T' h' h.size X' e' E (Nat.le_refl _) A D).of stp
theorem Go.callV (X : Stand p l e R s m args below meth c T locs cells slots) (hx : p.tables.exec = Jvm.exec) (hby : c.code = code) (hZ : Z.Warmed39 s.vm) (hml : Ls.size = c.maxLocals) {own : String} {k : Nat} {y : MethodName} {bytes : ByteArray} {maxL : Nat} {ret : Option FieldType} {rm : Room} {W : Nat} {as' : Array Value} {C : String} {QY : Option Value → Heap → List Loc → Prop} (hown : s.vm.findClass own = some m.cls) (w1 : (Cond.methodLink own k y).before a0 Z = true) (w2 : (Cond.declares y).before a0 Z = true) (w3 : (Cond.selects C y y).before a0 Z = true) (w4 : (Cond.instanceMethod y).before a0 Z = true) (w5 : (Cond.initialized y.cls).before a0 Z = true) (w6 : (Cond.code y bytes maxL ret).before a0 Z = true) (E : Exa Z h a C) (hy : y.cls ≠ "java/lang/invoke/MethodHandle" ∧ y.cls ≠ "java/lang/invoke/VarHandle") (hM : MetFree l y (head1 [Cond.code y bytes maxL ret] rm) (fun a U => a = as' ∧ Z.Warmed39 U.vm ∧ U.heap = h) (fun _ _ _ _ _ => True) (fun _ U o U' => ∃ v L, o = .returned v ∧ QY v U'.heap L ∧ FrameEnd U o U' L rm.cells rm.slots))
    (hf : rm.frames + 1 ≤ R.frames) (hl : W + (maxL + 11) + rm.locals ≤ R.locals) (eT : T.heap = h) {argsL rest : List Value} {sig : MethodDescriptor} (hsig : parseMethodDescriptor y.desc = some sig) (hlen : argsL.length = sig.parameters.length) (has : (Value.ref a :: argsL).toArray = as') (hst : st = argsL.reverse ++ .ref a :: rest) (hW : (rest.map fun v => v.category).sum ≤ W) (hc : cells + rm.cells ≤ R.cells) (hsl : slots + rm.slots ≤ R.slots) (hd : decode code pc = .ok (.invokevirtual k, 3)) (hpc : pc + 3 = pc')
    (K : ∀ v T' L, Stand p l e R s m args below meth c T' (locs ++ L) (cells + rm.cells) (slots + rm.slots) → QY v T'.heap L → Go p e below s mc ms Q m T' pc' Ls (v.toList ++ rest)) : Go p e below s mc ms Q m T pc Ls st := by
  subst hpc hst has
  obtain ⟨cq, kq, qa, qb, qc⟩ := isOf hZ eT E
  obtain ⟨v, vm₁, B, -, X', ⟨L, hQ, l1, l2, l3⟩, stp⟩ := X.virtualBack hx hown (mvT hZ w1) (mvT hZ w2) (notFace_of_selects (args := #[]) (mvT hZ w3)) (mvT hZ w3) (mvT hZ w4) hy (backOf (W := W) hM hZ w6 w5 hf hl) qa qc (g := mkF m pc Ls (argsL.reverse ++ .ref a :: rest)) rfl hml (Steps.refl _) (argsL := argsL) (rest := rest) (lenOf hsig hlen) rfl (by show 2 * 0 + _ ≤ _; omega) (hb hby hd) (fun _ _ => ⟨rfl, eT, hc, hsl⟩)
  rw [l1, l2, l3] at X'
  exact (K v B.U L X' hQ).of fun _ k => stp.trans k
theorem Go.callVP (X : Stand p l e R s m args below meth c T locs cells slots) (hx : p.tables.exec = Jvm.exec) (hby : c.code = code) (hZ : Z.Warmed39 s.vm) (hml : Ls.size = c.maxLocals) {own : String} {k : Nat} {y : MethodName} {bytes : ByteArray} {maxL : Nat} {ret : Option FieldType} {rm : Room} {W : Nat} {as' : Array Value} {C : String} {r : Value} (hown : s.vm.findClass own = some m.cls) (w1 : (Cond.methodLink own k y).before a0 Z = true) (w2 : (Cond.declares y).before a0 Z = true) (w3 : (Cond.selects C y y).before a0 Z = true) (w4 : (Cond.instanceMethod y).before a0 Z = true) (w5 : (Cond.initialized y.cls).before a0 Z = true) (w6 : (Cond.code y bytes maxL ret).before a0 Z = true) (E : Exa Z h a C) (hy : y.cls ≠ "java/lang/invoke/MethodHandle" ∧ y.cls ≠ "java/lang/invoke/VarHandle") (hM : MetFree l y (head1 [Cond.code y bytes maxL ret] rm) (fun a U => a = as' ∧ Z.Warmed39 U.vm ∧ U.heap = h) (fun _ _ _ _ _ => True) (fun _ U o U' => ∃ v L, o = .returned v ∧ PQ h (some r) v U'.heap L ∧ FrameEnd U o U' L rm.cells rm.slots))
    (hf : rm.frames + 1 ≤ R.frames) (hl : W + (maxL + 11) + rm.locals ≤ R.locals) (eT : T.heap = h) {argsL rest : List Value} {sig : MethodDescriptor} (hsig : parseMethodDescriptor y.desc = some sig) (hlen : argsL.length = sig.parameters.length) (has : (Value.ref a :: argsL).toArray = as') (hst : st = argsL.reverse ++ .ref a :: rest) (hW : (rest.map fun v => v.category).sum ≤ W) (r1 : rm.cells = 0) (r2 : rm.slots = 0) (hc : cells ≤ R.cells) (hsl : slots ≤ R.slots) (hd : decode code pc = .ok (.invokevirtual k, 3)) (hpc : pc + 3 = pc')
    (K : ∀ T', Stand p l e R s m args below meth c T' locs cells slots → T'.heap = h → Go p e below s mc ms Q m T' pc' Ls (r :: rest)) : Go p e below s mc ms Q m T pc Ls st := by
  refine Go.callV X hx hby hZ hml hown w1 w2 w3 w4 w5 w6 E hy hM hf hl eT hsig hlen has hst hW (by rw [r1]; exact hc) (by rw [r2]; exact hsl) hd hpc (fun v T' L X' hQ => ?_)
  obtain ⟨rfl, rfl, e1⟩ := hQ
  rw [List.append_nil, r1, r2] at X'
  exact K T' X' e1
theorem Go.callC (X : Stand p l e R s m args below meth c T locs cells slots) (hx : p.tables.exec = Jvm.exec) (hby : c.code = code) (hZ : Z.Warmed39 s.vm) (hml : Ls.size = c.maxLocals) {own : String} {k : Nat} {y : MethodName} {bytes : ByteArray} {maxL : Nat} {rm : Room} {W : Nat} {as' : Array Value} {QY : Option Value → Heap → List Loc → Prop} (hown : s.vm.findClass own = some m.cls) (w1 : (Cond.methodLink own k y).before a0 Z = true) (w4 : (Cond.instanceMethod y).before a0 Z = true) (w5 : (Cond.initialized y.cls).before a0 Z = true) (w6 : (Cond.code y bytes maxL none).before a0 Z = true) (hy : y.cls ≠ "java/lang/invoke/MethodHandle" ∧ y.cls ≠ "java/lang/invoke/VarHandle") (hi : y.name = "<init>") (hM : MetFree l y (head1 [Cond.code y bytes maxL none] rm) (fun a U => a = as' ∧ Z.Warmed39 U.vm ∧ U.heap = h) (fun _ _ _ _ _ => True) (fun _ U o U' => ∃ v L, o = .returned v ∧ QY v U'.heap L ∧ FrameEnd U o U' L rm.cells rm.slots))
    (hf : rm.frames + 1 ≤ R.frames) (hl : W + (maxL + 11) + rm.locals ≤ R.locals) (eT : T.heap = h) {argsL rest : List Value} {sig : MethodDescriptor} (hsig : parseMethodDescriptor y.desc = some sig) (hlen : argsL.length = sig.parameters.length) (has : (Value.ref a :: argsL).toArray = as') (hst : st = argsL.reverse ++ .ref a :: rest) (hW : (rest.map fun v => v.category).sum ≤ W) (hc : cells + rm.cells ≤ R.cells) (hsl : slots + rm.slots ≤ R.slots) (hd : decode code pc = .ok (.invokespecial k, 3)) (hpc : pc + 3 = pc')
    (K : ∀ v T' L, Stand p l e R s m args below meth c T' (locs ++ L) (cells + rm.cells) (slots + rm.slots) → QY v T'.heap L → Go p e below s mc ms Q m T' pc' Ls (v.toList ++ rest)) : Go p e below s mc ms Q m T pc Ls st := by
  subst hpc hst has
  obtain ⟨v, vm₁, B, -, X', ⟨L, hQ, l1, l2, l3⟩, stp⟩ := X.specialBack hx hi hown (mvT hZ w1) (mvT hZ w4) (mvT hZ w6) hy (backOf (W := W) hM hZ w6 w5 hf hl) (g := mkF m pc Ls (argsL.reverse ++ .ref a :: rest)) rfl hml (Steps.refl _) (argsL := argsL) (rest := rest) (lenOf hsig hlen) rfl (by show 2 * 0 + _ ≤ _; omega) (hb hby hd) (fun _ _ => ⟨rfl, eT, hc, hsl⟩)
  rw [l1, l2, l3] at X'
  exact (K v B.U L X' hQ).of fun _ k => stp.trans k
end Heaps

section Init
variable {p : Program} {l : Launch} {e : Env} {R : Room} {s : State} {m : MethodId} {args : Array Value} {below : List Frame} {meth : Method} {c : Code} {T T' : State} {locs : List Loc} {cells slots : Nat} {code : ByteArray} {Q : Option Value → Heap → List Loc → Prop} {mc ms : Nat} {pc pc' : Nat} {Ls Ls' : Array Slot} {st st' rest : List Value} {Z : State} {h h' : Heap} {a b : Addr} {a0 : Array Value}
theorem Go.initO (X : Stand p l e R s m args below meth c T locs cells slots) (hx : p.tables.exec = Jvm.exec) (hby : c.code = code) (hZ : Z.Warmed39 s.vm) (hml : Ls.size = c.maxLocals) {own : String} {k W : Nat} (hown : s.vm.findClass own = some m.cls) (w1 : (Cond.methodLink own k Lib.objectInit).before a0 Z = true) (w2 : (Cond.instanceMethod Lib.objectInit).before a0 Z = true) (w3 : (Cond.code Lib.objectInit object_method_1_code 1 none).before a0 Z = true) (eT : T.heap = h) (hd : decode code pc = .ok (.invokespecial k, 3)) (hpc : pc + 3 = pc') (hf : 1 ≤ R.frames) (hW : (st.map fun v => v.category).sum ≤ W) (hl : W + 12 ≤ R.locals)
    (K : ∀ T', Stand p l e R s m args below meth c T' locs cells slots → T'.heap = h → Go p e below s mc ms Q m T' pc' Ls st) : Go p e below s mc ms Q m T pc Ls (.ref a :: st) := by
  subst hpc
  obtain ⟨T', X', e', stp⟩ := initO X hx hZ hown w1 w2 w3 eT (g := mkF m pc Ls (.ref a :: st)) rfl hml rfl (hb hby hd) hf (W := W) (by show 2 * 0 + _ ≤ _; omega) hl
  exact (K T' X' e').of stp
end Init
def Ob_S (Z : State) (h : Heap) (o : Addr) (v0 v1 v2 v3 v4 v5 v6 : Value) : Prop := Exa Z h o "com/example/yarrow/yarrow/data/StartTags" ∧ Fld Z h o "com/example/yarrow/yarrow/data/StartTags" "line" "I" v0 ∧ Fld Z h o "com/example/yarrow/yarrow/data/StartTags" "column" "I" v1 ∧ Fld Z h o "com/example/yarrow/yarrow/data/StartTags" "content" "[B" v2 ∧ Fld Z h o "com/example/yarrow/yarrow/data/StartTags" "start" "I" v3 ∧ Fld Z h o "com/example/yarrow/yarrow/data/StartTags" "scan" "I" v4 ∧ Fld Z h o "com/example/yarrow/yarrow/data/StartTags" "counted" "I" v5 ∧ Fld Z h o "com/example/yarrow/yarrow/data/StartTags" "afterCarriageReturn" "Z" v6
section ObS
variable {Z : State} {h h' : Heap} {o a : Addr} {v0 v1 v2 v3 v4 v5 v6 : Value} {a0 : Array Value} {sl : Nat} {w : Value} {ws : List Addr}
theorem Ob_S.mk (E : Exa Z h o "com/example/yarrow/yarrow/data/StartTags") (F0 : Fld Z h o "com/example/yarrow/yarrow/data/StartTags" "line" "I" v0) (F1 : Fld Z h o "com/example/yarrow/yarrow/data/StartTags" "column" "I" v1) (F2 : Fld Z h o "com/example/yarrow/yarrow/data/StartTags" "content" "[B" v2) (F3 : Fld Z h o "com/example/yarrow/yarrow/data/StartTags" "start" "I" v3) (F4 : Fld Z h o "com/example/yarrow/yarrow/data/StartTags" "scan" "I" v4) (F5 : Fld Z h o "com/example/yarrow/yarrow/data/StartTags" "counted" "I" v5) (F6 : Fld Z h o "com/example/yarrow/yarrow/data/StartTags" "afterCarriageReturn" "Z" v6) : Ob_S Z h o v0 v1 v2 v3 v4 v5 v6 := ⟨E, F0, F1, F2, F3, F4, F5, F6⟩
theorem Ob_S.exa (O : Ob_S Z h o v0 v1 v2 v3 v4 v5 v6) : Exa Z h o "com/example/yarrow/yarrow/data/StartTags" := O.1
theorem Ob_S.lt (O : Ob_S Z h o v0 v1 v2 v3 v4 v5 v6) : o < h.size := O.1.lt
theorem Ob_S.ext (O : Ob_S Z h o v0 v1 v2 v3 v4 v5 v6) (E' : Ext h h') : Ob_S Z h' o v0 v1 v2 v3 v4 v5 v6 := by obtain ⟨E, F0, F1, F2, F3, F4, F5, F6⟩ := O; exact ⟨E.ext E', F0.ext E', F1.ext E', F2.ext E', F3.ext E', F4.ext E', F5.ext E', F6.ext E'⟩
theorem Ob_S.other (O : Ob_S Z h o v0 v1 v2 v3 v4 v5 v6) (W : Wr h h' a sl w) (q : o ≠ a) : Ob_S Z h' o v0 v1 v2 v3 v4 v5 v6 := by obtain ⟨E, F0, F1, F2, F3, F4, F5, F6⟩ := O; exact ⟨E.wr W, F0.other W (Or.inl q), F1.other W (Or.inl q), F2.other W (Or.inl q), F3.other W (Or.inl q), F4.other W (Or.inl q), F5.other W (Or.inl q), F6.other W (Or.inl q)⟩
theorem Ob_S.keep (O : Ob_S Z h o v0 v1 v2 v3 v4 v5 v6) (K : Keep h h' ws) (q : o ∉ ws) : Ob_S Z h' o v0 v1 v2 v3 v4 v5 v6 := by obtain ⟨E, F0, F1, F2, F3, F4, F5, F6⟩ := O; exact ⟨E.keep K, F0.keep K q, F1.keep K q, F2.keep K q, F3.keep K q, F4.keep K q, F5.keep K q, F6.keep K q⟩
theorem Ob_S.get_line (O : Ob_S Z h o v0 v1 v2 v3 v4 v5 v6) : Fld Z h o "com/example/yarrow/yarrow/data/StartTags" "line" "I" v0 := by obtain ⟨E, F0, F1, F2, F3, F4, F5, F6⟩ := O; exact F0
theorem Ob_S.get_column (O : Ob_S Z h o v0 v1 v2 v3 v4 v5 v6) : Fld Z h o "com/example/yarrow/yarrow/data/StartTags" "column" "I" v1 := by obtain ⟨E, F0, F1, F2, F3, F4, F5, F6⟩ := O; exact F1
theorem Ob_S.get_content (O : Ob_S Z h o v0 v1 v2 v3 v4 v5 v6) : Fld Z h o "com/example/yarrow/yarrow/data/StartTags" "content" "[B" v2 := by obtain ⟨E, F0, F1, F2, F3, F4, F5, F6⟩ := O; exact F2
theorem Ob_S.get_start (O : Ob_S Z h o v0 v1 v2 v3 v4 v5 v6) : Fld Z h o "com/example/yarrow/yarrow/data/StartTags" "start" "I" v3 := by obtain ⟨E, F0, F1, F2, F3, F4, F5, F6⟩ := O; exact F3
theorem Ob_S.get_scan (O : Ob_S Z h o v0 v1 v2 v3 v4 v5 v6) : Fld Z h o "com/example/yarrow/yarrow/data/StartTags" "scan" "I" v4 := by obtain ⟨E, F0, F1, F2, F3, F4, F5, F6⟩ := O; exact F4
theorem Ob_S.get_counted (O : Ob_S Z h o v0 v1 v2 v3 v4 v5 v6) : Fld Z h o "com/example/yarrow/yarrow/data/StartTags" "counted" "I" v5 := by obtain ⟨E, F0, F1, F2, F3, F4, F5, F6⟩ := O; exact F5
theorem Ob_S.get_afterCarriageReturn (O : Ob_S Z h o v0 v1 v2 v3 v4 v5 v6) : Fld Z h o "com/example/yarrow/yarrow/data/StartTags" "afterCarriageReturn" "Z" v6 := by obtain ⟨E, F0, F1, F2, F3, F4, F5, F6⟩ := O; exact F6
theorem Ob_S.put_line (hw : ∀ d ∈ tables_1, d.before a0 Z = true) (W : Wr h h' o (RoadKit.slotOf Z "com/example/yarrow/yarrow/data/StartTags" "line" "I") w) (O : Ob_S Z h o v0 v1 v2 v3 v4 v5 v6) : Ob_S Z h' o w v1 v2 v3 v4 v5 v6 := by obtain ⟨E, F0, F1, F2, F3, F4, F5, F6⟩ := O; exact ⟨E.wr W, F0.same W, F1.other W (Or.inr (slot_ne (Or.inl (hw _ (List.mem_of_getElem? (i := 14) rfl))) (Or.inl (hw _ (List.mem_of_getElem? (i := 12) rfl))) (by decide) rfl rfl)), F2.other W (Or.inr (slot_ne (Or.inr (hw _ (List.mem_of_getElem? (i := 16) rfl))) (Or.inl (hw _ (List.mem_of_getElem? (i := 12) rfl))) (by decide) rfl rfl)), F3.other W (Or.inr (slot_ne (Or.inr (hw _ (List.mem_of_getElem? (i := 18) rfl))) (Or.inl (hw _ (List.mem_of_getElem? (i := 12) rfl))) (by decide) rfl rfl)), F4.other W (Or.inr (slot_ne (Or.inl (hw _ (List.mem_of_getElem? (i := 20) rfl))) (Or.inl (hw _ (List.mem_of_getElem? (i := 12) rfl))) (by decide) rfl rfl)), F5.other W (Or.inr (slot_ne (Or.inl (hw _ (List.mem_of_getElem? (i := 22) rfl))) (Or.inl (hw _ (List.mem_of_getElem? (i := 12) rfl))) (by decide) rfl rfl)), F6.other W (Or.inr (slot_ne (Or.inl (hw _ (List.mem_of_getElem? (i := 29) rfl))) (Or.inl (hw _ (List.mem_of_getElem? (i := 12) rfl))) (by decide) rfl rfl))⟩
theorem Ob_S.put_column (hw : ∀ d ∈ tables_1, d.before a0 Z = true) (W : Wr h h' o (RoadKit.slotOf Z "com/example/yarrow/yarrow/data/StartTags" "column" "I") w) (O : Ob_S Z h o v0 v1 v2 v3 v4 v5 v6) : Ob_S Z h' o v0 w v2 v3 v4 v5 v6 := by obtain ⟨E, F0, F1, F2, F3, F4, F5, F6⟩ := O; exact ⟨E.wr W, F0.other W (Or.inr (slot_ne (Or.inl (hw _ (List.mem_of_getElem? (i := 12) rfl))) (Or.inl (hw _ (List.mem_of_getElem? (i := 14) rfl))) (by decide) rfl rfl)), F1.same W, F2.other W (Or.inr (slot_ne (Or.inr (hw _ (List.mem_of_getElem? (i := 16) rfl))) (Or.inl (hw _ (List.mem_of_getElem? (i := 14) rfl))) (by decide) rfl rfl)), F3.other W (Or.inr (slot_ne (Or.inr (hw _ (List.mem_of_getElem? (i := 18) rfl))) (Or.inl (hw _ (List.mem_of_getElem? (i := 14) rfl))) (by decide) rfl rfl)), F4.other W (Or.inr (slot_ne (Or.inl (hw _ (List.mem_of_getElem? (i := 20) rfl))) (Or.inl (hw _ (List.mem_of_getElem? (i := 14) rfl))) (by decide) rfl rfl)), F5.other W (Or.inr (slot_ne (Or.inl (hw _ (List.mem_of_getElem? (i := 22) rfl))) (Or.inl (hw _ (List.mem_of_getElem? (i := 14) rfl))) (by decide) rfl rfl)), F6.other W (Or.inr (slot_ne (Or.inl (hw _ (List.mem_of_getElem? (i := 29) rfl))) (Or.inl (hw _ (List.mem_of_getElem? (i := 14) rfl))) (by decide) rfl rfl))⟩
theorem Ob_S.put_content (hw : ∀ d ∈ tables_1, d.before a0 Z = true) (W : Wr h h' o (RoadKit.slotOf Z "com/example/yarrow/yarrow/data/StartTags" "content" "[B") w) (O : Ob_S Z h o v0 v1 v2 v3 v4 v5 v6) : Ob_S Z h' o v0 v1 w v3 v4 v5 v6 := by obtain ⟨E, F0, F1, F2, F3, F4, F5, F6⟩ := O; exact ⟨E.wr W, F0.other W (Or.inr (slot_ne (Or.inl (hw _ (List.mem_of_getElem? (i := 12) rfl))) (Or.inr (hw _ (List.mem_of_getElem? (i := 16) rfl))) (by decide) rfl rfl)), F1.other W (Or.inr (slot_ne (Or.inl (hw _ (List.mem_of_getElem? (i := 14) rfl))) (Or.inr (hw _ (List.mem_of_getElem? (i := 16) rfl))) (by decide) rfl rfl)), F2.same W, F3.other W (Or.inr (slot_ne (Or.inr (hw _ (List.mem_of_getElem? (i := 18) rfl))) (Or.inr (hw _ (List.mem_of_getElem? (i := 16) rfl))) (by decide) rfl rfl)), F4.other W (Or.inr (slot_ne (Or.inl (hw _ (List.mem_of_getElem? (i := 20) rfl))) (Or.inr (hw _ (List.mem_of_getElem? (i := 16) rfl))) (by decide) rfl rfl)), F5.other W (Or.inr (slot_ne (Or.inl (hw _ (List.mem_of_getElem? (i := 22) rfl))) (Or.inr (hw _ (List.mem_of_getElem? (i := 16) rfl))) (by decide) rfl rfl)), F6.other W (Or.inr (slot_ne (Or.inl (hw _ (List.mem_of_getElem? (i := 29) rfl))) (Or.inr (hw _ (List.mem_of_getElem? (i := 16) rfl))) (by decide) rfl rfl))⟩
theorem Ob_S.put_start (hw : ∀ d ∈ tables_1, d.before a0 Z = true) (W : Wr h h' o (RoadKit.slotOf Z "com/example/yarrow/yarrow/data/StartTags" "start" "I") w) (O : Ob_S Z h o v0 v1 v2 v3 v4 v5 v6) : Ob_S Z h' o v0 v1 v2 w v4 v5 v6 := by obtain ⟨E, F0, F1, F2, F3, F4, F5, F6⟩ := O; exact ⟨E.wr W, F0.other W (Or.inr (slot_ne (Or.inl (hw _ (List.mem_of_getElem? (i := 12) rfl))) (Or.inr (hw _ (List.mem_of_getElem? (i := 18) rfl))) (by decide) rfl rfl)), F1.other W (Or.inr (slot_ne (Or.inl (hw _ (List.mem_of_getElem? (i := 14) rfl))) (Or.inr (hw _ (List.mem_of_getElem? (i := 18) rfl))) (by decide) rfl rfl)), F2.other W (Or.inr (slot_ne (Or.inr (hw _ (List.mem_of_getElem? (i := 16) rfl))) (Or.inr (hw _ (List.mem_of_getElem? (i := 18) rfl))) (by decide) rfl rfl)), F3.same W, F4.other W (Or.inr (slot_ne (Or.inl (hw _ (List.mem_of_getElem? (i := 20) rfl))) (Or.inr (hw _ (List.mem_of_getElem? (i := 18) rfl))) (by decide) rfl rfl)), F5.other W (Or.inr (slot_ne (Or.inl (hw _ (List.mem_of_getElem? (i := 22) rfl))) (Or.inr (hw _ (List.mem_of_getElem? (i := 18) rfl))) (by decide) rfl rfl)), F6.other W (Or.inr (slot_ne (Or.inl (hw _ (List.mem_of_getElem? (i := 29) rfl))) (Or.inr (hw _ (List.mem_of_getElem? (i := 18) rfl))) (by decide) rfl rfl))⟩
theorem Ob_S.put_scan (hw : ∀ d ∈ tables_1, d.before a0 Z = true) (W : Wr h h' o (RoadKit.slotOf Z "com/example/yarrow/yarrow/data/StartTags" "scan" "I") w) (O : Ob_S Z h o v0 v1 v2 v3 v4 v5 v6) : Ob_S Z h' o v0 v1 v2 v3 w v5 v6 := by obtain ⟨E, F0, F1, F2, F3, F4, F5, F6⟩ := O; exact ⟨E.wr W, F0.other W (Or.inr (slot_ne (Or.inl (hw _ (List.mem_of_getElem? (i := 12) rfl))) (Or.inl (hw _ (List.mem_of_getElem? (i := 20) rfl))) (by decide) rfl rfl)), F1.other W (Or.inr (slot_ne (Or.inl (hw _ (List.mem_of_getElem? (i := 14) rfl))) (Or.inl (hw _ (List.mem_of_getElem? (i := 20) rfl))) (by decide) rfl rfl)), F2.other W (Or.inr (slot_ne (Or.inr (hw _ (List.mem_of_getElem? (i := 16) rfl))) (Or.inl (hw _ (List.mem_of_getElem? (i := 20) rfl))) (by decide) rfl rfl)), F3.other W (Or.inr (slot_ne (Or.inr (hw _ (List.mem_of_getElem? (i := 18) rfl))) (Or.inl (hw _ (List.mem_of_getElem? (i := 20) rfl))) (by decide) rfl rfl)), F4.same W, F5.other W (Or.inr (slot_ne (Or.inl (hw _ (List.mem_of_getElem? (i := 22) rfl))) (Or.inl (hw _ (List.mem_of_getElem? (i := 20) rfl))) (by decide) rfl rfl)), F6.other W (Or.inr (slot_ne (Or.inl (hw _ (List.mem_of_getElem? (i := 29) rfl))) (Or.inl (hw _ (List.mem_of_getElem? (i := 20) rfl))) (by decide) rfl rfl))⟩
theorem Ob_S.put_counted (hw : ∀ d ∈ tables_1, d.before a0 Z = true) (W : Wr h h' o (RoadKit.slotOf Z "com/example/yarrow/yarrow/data/StartTags" "counted" "I") w) (O : Ob_S Z h o v0 v1 v2 v3 v4 v5 v6) : Ob_S Z h' o v0 v1 v2 v3 v4 w v6 := by obtain ⟨E, F0, F1, F2, F3, F4, F5, F6⟩ := O; exact ⟨E.wr W, F0.other W (Or.inr (slot_ne (Or.inl (hw _ (List.mem_of_getElem? (i := 12) rfl))) (Or.inl (hw _ (List.mem_of_getElem? (i := 22) rfl))) (by decide) rfl rfl)), F1.other W (Or.inr (slot_ne (Or.inl (hw _ (List.mem_of_getElem? (i := 14) rfl))) (Or.inl (hw _ (List.mem_of_getElem? (i := 22) rfl))) (by decide) rfl rfl)), F2.other W (Or.inr (slot_ne (Or.inr (hw _ (List.mem_of_getElem? (i := 16) rfl))) (Or.inl (hw _ (List.mem_of_getElem? (i := 22) rfl))) (by decide) rfl rfl)), F3.other W (Or.inr (slot_ne (Or.inr (hw _ (List.mem_of_getElem? (i := 18) rfl))) (Or.inl (hw _ (List.mem_of_getElem? (i := 22) rfl))) (by decide) rfl rfl)), F4.other W (Or.inr (slot_ne (Or.inl (hw _ (List.mem_of_getElem? (i := 20) rfl))) (Or.inl (hw _ (List.mem_of_getElem? (i := 22) rfl))) (by decide) rfl rfl)), F5.same W, F6.other W (Or.inr (slot_ne (Or.inl (hw _ (List.mem_of_getElem? (i := 29) rfl))) (Or.inl (hw _ (List.mem_of_getElem? (i := 22) rfl))) (by decide) rfl rfl))⟩
theorem Ob_S.put_afterCarriageReturn (hw : ∀ d ∈ tables_1, d.before a0 Z = true) (W : Wr h h' o (RoadKit.slotOf Z "com/example/yarrow/yarrow/data/StartTags" "afterCarriageReturn" "Z") w) (O : Ob_S Z h o v0 v1 v2 v3 v4 v5 v6) : Ob_S Z h' o v0 v1 v2 v3 v4 v5 w := by obtain ⟨E, F0, F1, F2, F3, F4, F5, F6⟩ := O; exact ⟨E.wr W, F0.other W (Or.inr (slot_ne (Or.inl (hw _ (List.mem_of_getElem? (i := 12) rfl))) (Or.inl (hw _ (List.mem_of_getElem? (i := 29) rfl))) (by decide) rfl rfl)), F1.other W (Or.inr (slot_ne (Or.inl (hw _ (List.mem_of_getElem? (i := 14) rfl))) (Or.inl (hw _ (List.mem_of_getElem? (i := 29) rfl))) (by decide) rfl rfl)), F2.other W (Or.inr (slot_ne (Or.inr (hw _ (List.mem_of_getElem? (i := 16) rfl))) (Or.inl (hw _ (List.mem_of_getElem? (i := 29) rfl))) (by decide) rfl rfl)), F3.other W (Or.inr (slot_ne (Or.inr (hw _ (List.mem_of_getElem? (i := 18) rfl))) (Or.inl (hw _ (List.mem_of_getElem? (i := 29) rfl))) (by decide) rfl rfl)), F4.other W (Or.inr (slot_ne (Or.inl (hw _ (List.mem_of_getElem? (i := 20) rfl))) (Or.inl (hw _ (List.mem_of_getElem? (i := 29) rfl))) (by decide) rfl rfl)), F5.other W (Or.inr (slot_ne (Or.inl (hw _ (List.mem_of_getElem? (i := 22) rfl))) (Or.inl (hw _ (List.mem_of_getElem? (i := 29) rfl))) (by decide) rfl rfl)), F6.same W⟩
end ObS
-- body 1
def f1_0 (x2 : Int32) (G_oo_line : Int32) (G_oo_column : Int32) (G_oo_start : Int32) (G_oo_scan : Int32) (G_oo_counted : Int32) (G_oo_afterCarriageReturn : Int32) (G_cc : List Int32) : Option (Int32 × Int32 × Int32 × Int32 × Int32 × Int32) := some ((1 : Int32), (1 : Int32), x2, x2, x2, G_oo_afterCarriageReturn)
theorem d1_0 : decode prog_31_method_1_code 0 = .ok (.aload_n 0, 1) := by decide +kernel
theorem d1_1 : decode prog_31_method_1_code 1 = .ok (.invokespecial 1, 3) := by decide +kernel
theorem d1_4 : decode prog_31_method_1_code 4 = .ok (.aload_n 0, 1) := by decide +kernel
theorem d1_5 : decode prog_31_method_1_code 5 = .ok (.iconst 1, 1) := by decide +kernel
theorem d1_6 : decode prog_31_method_1_code 6 = .ok (.putfield 7, 3) := by decide +kernel
theorem d1_9 : decode prog_31_method_1_code 9 = .ok (.aload_n 0, 1) := by decide +kernel
theorem d1_10 : decode prog_31_method_1_code 10 = .ok (.iconst 1, 1) := by decide +kernel
theorem d1_11 : decode prog_31_method_1_code 11 = .ok (.putfield 13, 3) := by decide +kernel
theorem d1_14 : decode prog_31_method_1_code 14 = .ok (.aload_n 0, 1) := by decide +kernel
theorem d1_15 : decode prog_31_method_1_code 15 = .ok (.aload_n 1, 1) := by decide +kernel
theorem d1_16 : decode prog_31_method_1_code 16 = .ok (.putfield 16, 3) := by decide +kernel
theorem d1_19 : decode prog_31_method_1_code 19 = .ok (.aload_n 0, 1) := by decide +kernel
theorem d1_20 : decode prog_31_method_1_code 20 = .ok (.iload_n 2, 1) := by decide +kernel
theorem d1_21 : decode prog_31_method_1_code 21 = .ok (.putfield 20, 3) := by decide +kernel
theorem d1_24 : decode prog_31_method_1_code 24 = .ok (.aload_n 0, 1) := by decide +kernel
theorem d1_25 : decode prog_31_method_1_code 25 = .ok (.iload_n 2, 1) := by decide +kernel
theorem d1_26 : decode prog_31_method_1_code 26 = .ok (.putfield 23, 3) := by decide +kernel
theorem d1_29 : decode prog_31_method_1_code 29 = .ok (.aload_n 0, 1) := by decide +kernel
theorem d1_30 : decode prog_31_method_1_code 30 = .ok (.iload_n 2, 1) := by decide +kernel
theorem d1_31 : decode prog_31_method_1_code 31 = .ok (.putfield 26, 3) := by decide +kernel
theorem d1_34 : decode prog_31_method_1_code 34 = .ok (.return_, 1) := by decide +kernel
abbrev Y1 : MethodName := ⟨"com/example/yarrow/yarrow/data/StartTags", "<init>", "([BI)V"⟩
def RM1 : Room := { frames := 1, cells := 0, slots := 0, locals := 12 }
theorem pd_1 : parseMethodDescriptor Y1.desc = some ⟨[(.array .byte), .int], none⟩ := by decide +kernel
theorem pn_1 : plainName "com/example/yarrow/yarrow/data/StartTags" = true := by first | (simp [plainName, overriddenIn]; done) | decide +kernel
theorem ef_1 (m : MethodId) (oo : Addr) (cc : Addr) (x2 : Int32) : entryFrame m #[.ref oo, .ref cc, .int x2] 3 = mkF m 0 #[.val (.ref oo), .val (.ref cc), .val (.int x2)] [] := by first | (simp [entryFrame, mkF, argsToLocals, Value.category]; done) | rfl
def QB1 (Z : State) (h0 : Heap) (n0 : Nat) (oo : Addr) (cc : Addr) (r : Int32 × Int32 × Int32 × Int32 × Int32 × Int32) (v : Option Value) (h : Heap) (L : List Loc) : Prop := v = none ∧ Fr n0 L ∧ Keep h0 h [oo] ∧ Ob_S Z h oo (.int r.1) (.int r.2.1) (.ref cc) (.int r.2.2.1) (.int r.2.2.2.1) (.int r.2.2.2.2.1) (.int r.2.2.2.2.2)
set_option maxRecDepth 65536 in
set_option maxHeartbeats 40000000 in
theorem rm1 (l : Launch) (Z : State) (a0 : Array Value) (hw : ∀ d ∈ tables_1, d.before a0 Z = true) (oo : Addr) (cc : Addr) (x2 : Int32) (G_oo_line : Int32) (G_oo_column : Int32) (G_oo_start : Int32) (G_oo_scan : Int32) (G_oo_counted : Int32) (G_oo_afterCarriageReturn : Int32) (G_cc : List Int32) (h0 : Heap) (n0 : Nat) (Z0 : n0 ≤ h0.size) (r : Int32 × Int32 × Int32 × Int32 × Int32 × Int32) (hf : f1_0 x2 G_oo_line G_oo_column G_oo_start G_oo_scan G_oo_counted G_oo_afterCarriageReturn G_cc = some r) (F_oo : Ob_S Z h0 oo (.int G_oo_line) (.int G_oo_column) .null (.int G_oo_start) (.int G_oo_scan) (.int G_oo_counted) (.int G_oo_afterCarriageReturn)) (F_cc : AryI Z h0 cc .byte G_cc) (na_oo : n0 ≤ oo) (ne_oo_cc : oo ≠ cc) :
    MetFree l Y1 (head1 ([Jvm.Cond.code Y1 prog_31_method_1_code 3 (none)]) RM1) (fun a U => a = #[.ref oo, .ref cc, .int x2] ∧ Z.Warmed39 U.vm ∧ U.heap = h0) (fun _ _ _ _ _ => True) (fun _ U o U' => ∃ v L, o = .returned v ∧ (QB1 Z h0 n0 oo cc r) v U'.heap L ∧ FrameEnd U o U' L RM1.cells RM1.slots) := by
  refine MetFree.of_bodySF (plainFor_of_name pn_1) hisR ?_
  intro p e s m args below meth c s₁ Bd hml0 hP hK
  obtain ⟨rfl, hZ, hh⟩ := hP
  have hx := Bd.exec
  have hby := Bd.bytes
  have hlk : meth.locks = false := BodyLoose.notSynchronized Bd
  have hret := Bd.returns
  have hml : c.maxLocals = 3 := hml0
  have hown : s.vm.findClass "com/example/yarrow/yarrow/data/StartTags" = some m.cls := findClass_of_methodNamed Bd.named
  have hnm := (name_of_methodNamed Bd.named Bd.method).1
  have X0 : Stand p l e RM1 s m #[.ref oo, .ref cc, .int x2] below meth c s₁ [] 0 0 := Stand.of_body Bd
  have e0 : s₁.heap = h0 := by rw [← hh, Bd.state]; rfl
  have N0 := Fr.nil n0
  have K0 := Keep.refl h0 [oo]
  suffices G : Go p e below s RM1.cells RM1.slots (QB1 Z h0 n0 oo cc r) m s₁ 0 #[.val (.ref oo), .val (.ref cc), .val (.int x2)] [] by
    obtain ⟨s₂, o, h1, h2⟩ := G
    exact ⟨s₂, o, castTop (ef_1 m oo cc x2) h1, h2⟩
  have hf0 := hf
  clear hf
  have hf := hf0
  unfold f1_0 at hf
  refine Go.aloadN X0 hx hby (v := .ref oo) d1_0 rfl rfl rfl ?_
  refine Go.initO X0 hx hby hZ (by rw [hml]; rfl) hown (hw _ (List.mem_of_getElem? (i := 8) rfl)) (hw _ (List.mem_of_getElem? (i := 9) rfl)) (hw _ (List.mem_of_getElem? (i := 10) rfl)) e0 d1_1 rfl (by decide) (W := 0) (Nat.le_of_eq rfl) (by decide) (fun T8 X8 e8 => ?_)
  refine Go.aloadN X8 hx hby (v := .ref oo) d1_4 rfl rfl rfl ?_
  refine Go.iconst X8 hx hby (v := (1 : Int32)) d1_5 rfl rfl ?_
  refine Go.putF X8 hx hby hZ hown (hw _ (List.mem_of_getElem? (i := 11) rfl)) e8 (Ob_S.get_line F_oo) (Ob_S.exa F_oo) (Or.inl (hw _ (List.mem_of_getElem? (i := 12) rfl))) (hw _ (List.mem_of_getElem? (i := 3) rfl)) (ty := .int) (by decide) rfl rfl d1_6 rfl (fun T9 h9 X9 e9 W9 => ?_)
  have O9 := Ob_S.put_line hw W9 F_oo
  have F9_cc := AryI.other F_cc W9 (Ne.symm ne_oo_cc)
  have N9 := Fr.snoc X9 N0 na_oo
  have K9 := Keep.wr K0 W9 (Or.inl (List.mem_of_getElem? (i := 0) rfl))
  refine Go.aloadN X9 hx hby (v := .ref oo) d1_9 rfl rfl rfl ?_
  refine Go.iconst X9 hx hby (v := (1 : Int32)) d1_10 rfl rfl ?_
  refine Go.putF X9 hx hby hZ hown (hw _ (List.mem_of_getElem? (i := 13) rfl)) e9 (Ob_S.get_column O9) (Ob_S.exa O9) (Or.inl (hw _ (List.mem_of_getElem? (i := 14) rfl))) (hw _ (List.mem_of_getElem? (i := 3) rfl)) (ty := .int) (by decide) rfl rfl d1_11 rfl (fun T10 h10 X10 e10 W10 => ?_)
  have O10 := Ob_S.put_column hw W10 O9
  have F10_cc := AryI.other F9_cc W10 (Ne.symm ne_oo_cc)
  have N10 := Fr.snoc X10 N9 na_oo
  have K10 := Keep.wr K9 W10 (Or.inl (List.mem_of_getElem? (i := 0) rfl))
  refine Go.aloadN X10 hx hby (v := .ref oo) d1_14 rfl rfl rfl ?_
  refine Go.aloadN X10 hx hby (v := .ref cc) d1_15 rfl rfl rfl ?_
  refine Go.putF X10 hx hby hZ hown (hw _ (List.mem_of_getElem? (i := 15) rfl)) e10 (Ob_S.get_content O10) (Ob_S.exa O10) (Or.inr ⟨(hw _ (List.mem_of_getElem? (i := 16) rfl)), rfl, hnm⟩) (hw _ (List.mem_of_getElem? (i := 3) rfl)) (ty := (.array .byte)) (by decide) rfl rfl d1_16 rfl (fun T11 h11 X11 e11 W11 => ?_)
  have O11 := Ob_S.put_content hw W11 O10
  have F11_cc := AryI.other F10_cc W11 (Ne.symm ne_oo_cc)
  have N11 := Fr.snoc X11 N10 na_oo
  have K11 := Keep.wr K10 W11 (Or.inl (List.mem_of_getElem? (i := 0) rfl))
  refine Go.aloadN X11 hx hby (v := .ref oo) d1_19 rfl rfl rfl ?_
  refine Go.iloadN X11 hx hby (v := x2) d1_20 rfl rfl ?_
  refine Go.putF X11 hx hby hZ hown (hw _ (List.mem_of_getElem? (i := 17) rfl)) e11 (Ob_S.get_start O11) (Ob_S.exa O11) (Or.inr ⟨(hw _ (List.mem_of_getElem? (i := 18) rfl)), rfl, hnm⟩) (hw _ (List.mem_of_getElem? (i := 3) rfl)) (ty := .int) (by decide) rfl rfl d1_21 rfl (fun T12 h12 X12 e12 W12 => ?_)
  have O12 := Ob_S.put_start hw W12 O11
  have F12_cc := AryI.other F11_cc W12 (Ne.symm ne_oo_cc)
  have N12 := Fr.snoc X12 N11 na_oo
  have K12 := Keep.wr K11 W12 (Or.inl (List.mem_of_getElem? (i := 0) rfl))
  refine Go.aloadN X12 hx hby (v := .ref oo) d1_24 rfl rfl rfl ?_
  refine Go.iloadN X12 hx hby (v := x2) d1_25 rfl rfl ?_
  refine Go.putF X12 hx hby hZ hown (hw _ (List.mem_of_getElem? (i := 19) rfl)) e12 (Ob_S.get_scan O12) (Ob_S.exa O12) (Or.inl (hw _ (List.mem_of_getElem? (i := 20) rfl))) (hw _ (List.mem_of_getElem? (i := 3) rfl)) (ty := .int) (by decide) rfl rfl d1_26 rfl (fun T13 h13 X13 e13 W13 => ?_)
  have O13 := Ob_S.put_scan hw W13 O12
  have F13_cc := AryI.other F12_cc W13 (Ne.symm ne_oo_cc)
  have N13 := Fr.snoc X13 N12 na_oo
  have K13 := Keep.wr K12 W13 (Or.inl (List.mem_of_getElem? (i := 0) rfl))
  refine Go.aloadN X13 hx hby (v := .ref oo) d1_29 rfl rfl rfl ?_
  refine Go.iloadN X13 hx hby (v := x2) d1_30 rfl rfl ?_
  refine Go.putF X13 hx hby hZ hown (hw _ (List.mem_of_getElem? (i := 21) rfl)) e13 (Ob_S.get_counted O13) (Ob_S.exa O13) (Or.inl (hw _ (List.mem_of_getElem? (i := 22) rfl))) (hw _ (List.mem_of_getElem? (i := 3) rfl)) (ty := .int) (by decide) rfl rfl d1_31 rfl (fun T14 h14 X14 e14 W14 => ?_)
  have O14 := Ob_S.put_counted hw W14 O13
  have F14_cc := AryI.other F13_cc W14 (Ne.symm ne_oo_cc)
  have N14 := Fr.snoc X14 N13 na_oo
  have K14 := Keep.wr K13 W14 (Or.inl (List.mem_of_getElem? (i := 0) rfl))
  exact Go.vret X14 hx hby hlk hret d1_34 (by decide) (by decide) (by obtain rfl := Option.some.inj hf; unfold QB1; exact ⟨rfl, N14, by rw [e14]; exact K14, by rw [e14]; exact O14⟩)
-- body 3
def f3_82 (k : Int32 → Int32 → Int32 → Int32 → Int32 → Int32 → Int32 → List Int32 → Option (Int32 × Int32 × Int32 × Int32 × Int32 × Int32)) (x1 : Int32) (x2 : Int32) (G_oo_line : Int32) (G_oo_column : Int32) (G_oo_start : Int32) (G_oo_scan : Int32) (G_oo_counted : Int32) (G_oo_afterCarriageReturn : Int32) (G_cc : List Int32) : Option (Int32 × Int32 × Int32 × Int32 × Int32 × Int32) := if x2 = (13 : Int32) then k x1 G_oo_line G_oo_column G_oo_start G_oo_scan (G_oo_counted + (1 : Int32)) (1 : Int32) G_cc else k x1 G_oo_line G_oo_column G_oo_start G_oo_scan (G_oo_counted + (1 : Int32)) (0 : Int32) G_cc
def f3_37 (k : Int32 → Int32 → Int32 → Int32 → Int32 → Int32 → Int32 → List Int32 → Option (Int32 × Int32 × Int32 × Int32 × Int32 × Int32)) (x1 : Int32) (x2 : Int32) (G_oo_line : Int32) (G_oo_column : Int32) (G_oo_start : Int32) (G_oo_scan : Int32) (G_oo_counted : Int32) (G_oo_afterCarriageReturn : Int32) (G_cc : List Int32) : Option (Int32 × Int32 × Int32 × Int32 × Int32 × Int32) := f3_82 k x1 x2 (G_oo_line + (1 : Int32)) (1 : Int32) G_oo_start G_oo_scan G_oo_counted G_oo_afterCarriageReturn G_cc
def f3_55 (k : Int32 → Int32 → Int32 → Int32 → Int32 → Int32 → Int32 → List Int32 → Option (Int32 × Int32 × Int32 × Int32 × Int32 × Int32)) (x1 : Int32) (x2 : Int32) (G_oo_line : Int32) (G_oo_column : Int32) (G_oo_start : Int32) (G_oo_scan : Int32) (G_oo_counted : Int32) (G_oo_afterCarriageReturn : Int32) (G_cc : List Int32) : Option (Int32 × Int32 × Int32 × Int32 × Int32 × Int32) := if x2 = (10 : Int32) then f3_82 k x1 x2 G_oo_line G_oo_column G_oo_start G_oo_scan G_oo_counted G_oo_afterCarriageReturn G_cc else if (x2 &&& (192 : Int32)) = (128 : Int32) then f3_82 k x1 x2 G_oo_line G_oo_column G_oo_start G_oo_scan G_oo_counted G_oo_afterCarriageReturn G_cc else f3_82 k x1 x2 G_oo_line (G_oo_column + (1 : Int32)) G_oo_start G_oo_scan G_oo_counted G_oo_afterCarriageReturn G_cc
def f3_0L : Nat → Int32 → Int32 → Int32 → Int32 → Int32 → Int32 → Int32 → List Int32 → Option (Int32 × Int32 × Int32 × Int32 × Int32 × Int32)
  | 0, _, _, _, _, _, _, _, _ => none
  | n + 1, x1, G_oo_line, G_oo_column, G_oo_start, G_oo_scan, G_oo_counted, G_oo_afterCarriageReturn, G_cc => if G_oo_counted < x1 then if inA G_cc G_oo_counted then if (atA G_cc G_oo_counted) = (13 : Int32) then f3_37 (fun y0 y1 y2 y3 y4 y5 y6 y7 => f3_0L n y0 y1 y2 y3 y4 y5 y6 y7) x1 (atA G_cc G_oo_counted) G_oo_line G_oo_column G_oo_start G_oo_scan G_oo_counted G_oo_afterCarriageReturn G_cc else if (atA G_cc G_oo_counted) = (10 : Int32) then if G_oo_afterCarriageReturn = 0 then f3_37 (fun y0 y1 y2 y3 y4 y5 y6 y7 => f3_0L n y0 y1 y2 y3 y4 y5 y6 y7) x1 (atA G_cc G_oo_counted) G_oo_line G_oo_column G_oo_start G_oo_scan G_oo_counted G_oo_afterCarriageReturn G_cc else f3_55 (fun y0 y1 y2 y3 y4 y5 y6 y7 => f3_0L n y0 y1 y2 y3 y4 y5 y6 y7) x1 (atA G_cc G_oo_counted) G_oo_line G_oo_column G_oo_start G_oo_scan G_oo_counted G_oo_afterCarriageReturn G_cc else f3_55 (fun y0 y1 y2 y3 y4 y5 y6 y7 => f3_0L n y0 y1 y2 y3 y4 y5 y6 y7) x1 (atA G_cc G_oo_counted) G_oo_line G_oo_column G_oo_start G_oo_scan G_oo_counted G_oo_afterCarriageReturn G_cc else none else some (G_oo_line, G_oo_column, G_oo_start, G_oo_scan, G_oo_counted, G_oo_afterCarriageReturn)
def f3_0 (x1 : Int32) (G_oo_line : Int32) (G_oo_column : Int32) (G_oo_start : Int32) (G_oo_scan : Int32) (G_oo_counted : Int32) (G_oo_afterCarriageReturn : Int32) (G_cc : List Int32) : Option (Int32 × Int32 × Int32 × Int32 × Int32 × Int32) := f3_0L 64 x1 G_oo_line G_oo_column G_oo_start G_oo_scan G_oo_counted G_oo_afterCarriageReturn G_cc
theorem d3_0 : decode prog_31_method_6_code 0 = .ok (.aload_n 0, 1) := by decide +kernel
theorem d3_1 : decode prog_31_method_6_code 1 = .ok (.getfield 26, 3) := by decide +kernel
theorem d3_4 : decode prog_31_method_6_code 4 = .ok (.iload_n 1, 1) := by decide +kernel
theorem d3_5 : decode prog_31_method_6_code 5 = .ok (.if_icmp .ge 105, 3) := by decide +kernel
theorem d3_8 : decode prog_31_method_6_code 8 = .ok (.aload_n 0, 1) := by decide +kernel
theorem d3_9 : decode prog_31_method_6_code 9 = .ok (.getfield 16, 3) := by decide +kernel
theorem d3_12 : decode prog_31_method_6_code 12 = .ok (.aload_n 0, 1) := by decide +kernel
theorem d3_13 : decode prog_31_method_6_code 13 = .ok (.getfield 26, 3) := by decide +kernel
theorem d3_16 : decode prog_31_method_6_code 16 = .ok (.baload, 1) := by decide +kernel
theorem d3_17 : decode prog_31_method_6_code 17 = .ok (.istore_n 2, 1) := by decide +kernel
theorem d3_18 : decode prog_31_method_6_code 18 = .ok (.iload_n 2, 1) := by decide +kernel
theorem d3_19 : decode prog_31_method_6_code 19 = .ok (.bipush 13, 2) := by decide +kernel
theorem d3_21 : decode prog_31_method_6_code 21 = .ok (.if_icmp .eq 16, 3) := by decide +kernel
theorem d3_24 : decode prog_31_method_6_code 24 = .ok (.iload_n 2, 1) := by decide +kernel
theorem d3_25 : decode prog_31_method_6_code 25 = .ok (.bipush 10, 2) := by decide +kernel
theorem d3_27 : decode prog_31_method_6_code 27 = .ok (.if_icmp .ne 28, 3) := by decide +kernel
theorem d3_30 : decode prog_31_method_6_code 30 = .ok (.aload_n 0, 1) := by decide +kernel
theorem d3_31 : decode prog_31_method_6_code 31 = .ok (.getfield 62, 3) := by decide +kernel
theorem d3_34 : decode prog_31_method_6_code 34 = .ok (.ifCond .ne 21, 3) := by decide +kernel
theorem d3_37 : decode prog_31_method_6_code 37 = .ok (.aload_n 0, 1) := by decide +kernel
theorem d3_38 : decode prog_31_method_6_code 38 = .ok (.dup, 1) := by decide +kernel
theorem d3_39 : decode prog_31_method_6_code 39 = .ok (.getfield 7, 3) := by decide +kernel
theorem d3_42 : decode prog_31_method_6_code 42 = .ok (.iconst 1, 1) := by decide +kernel
theorem d3_43 : decode prog_31_method_6_code 43 = .ok (.iadd, 1) := by decide +kernel
theorem d3_44 : decode prog_31_method_6_code 44 = .ok (.putfield 7, 3) := by decide +kernel
theorem d3_47 : decode prog_31_method_6_code 47 = .ok (.aload_n 0, 1) := by decide +kernel
theorem d3_48 : decode prog_31_method_6_code 48 = .ok (.iconst 1, 1) := by decide +kernel
theorem d3_49 : decode prog_31_method_6_code 49 = .ok (.putfield 13, 3) := by decide +kernel
theorem d3_52 : decode prog_31_method_6_code 52 = .ok (.goto 30, 3) := by decide +kernel
theorem d3_55 : decode prog_31_method_6_code 55 = .ok (.iload_n 2, 1) := by decide +kernel
theorem d3_56 : decode prog_31_method_6_code 56 = .ok (.bipush 10, 2) := by decide +kernel
theorem d3_58 : decode prog_31_method_6_code 58 = .ok (.if_icmp .eq 24, 3) := by decide +kernel
theorem d3_61 : decode prog_31_method_6_code 61 = .ok (.iload_n 2, 1) := by decide +kernel
theorem d3_62 : decode prog_31_method_6_code 62 = .ok (.sipush 192, 3) := by decide +kernel
theorem d3_65 : decode prog_31_method_6_code 65 = .ok (.iand, 1) := by decide +kernel
theorem d3_66 : decode prog_31_method_6_code 66 = .ok (.sipush 128, 3) := by decide +kernel
theorem d3_69 : decode prog_31_method_6_code 69 = .ok (.if_icmp .eq 13, 3) := by decide +kernel
theorem d3_72 : decode prog_31_method_6_code 72 = .ok (.aload_n 0, 1) := by decide +kernel
theorem d3_73 : decode prog_31_method_6_code 73 = .ok (.dup, 1) := by decide +kernel
theorem d3_74 : decode prog_31_method_6_code 74 = .ok (.getfield 13, 3) := by decide +kernel
theorem d3_77 : decode prog_31_method_6_code 77 = .ok (.iconst 1, 1) := by decide +kernel
theorem d3_78 : decode prog_31_method_6_code 78 = .ok (.iadd, 1) := by decide +kernel
theorem d3_79 : decode prog_31_method_6_code 79 = .ok (.putfield 13, 3) := by decide +kernel
theorem d3_82 : decode prog_31_method_6_code 82 = .ok (.aload_n 0, 1) := by decide +kernel
theorem d3_83 : decode prog_31_method_6_code 83 = .ok (.iload_n 2, 1) := by decide +kernel
theorem d3_84 : decode prog_31_method_6_code 84 = .ok (.bipush 13, 2) := by decide +kernel
theorem d3_86 : decode prog_31_method_6_code 86 = .ok (.if_icmp .ne 7, 3) := by decide +kernel
theorem d3_89 : decode prog_31_method_6_code 89 = .ok (.iconst 1, 1) := by decide +kernel
theorem d3_90 : decode prog_31_method_6_code 90 = .ok (.goto 4, 3) := by decide +kernel
theorem d3_93 : decode prog_31_method_6_code 93 = .ok (.iconst 0, 1) := by decide +kernel
theorem d3_94 : decode prog_31_method_6_code 94 = .ok (.putfield 62, 3) := by decide +kernel
theorem d3_97 : decode prog_31_method_6_code 97 = .ok (.aload_n 0, 1) := by decide +kernel
theorem d3_98 : decode prog_31_method_6_code 98 = .ok (.dup, 1) := by decide +kernel
theorem d3_99 : decode prog_31_method_6_code 99 = .ok (.getfield 26, 3) := by decide +kernel
theorem d3_102 : decode prog_31_method_6_code 102 = .ok (.iconst 1, 1) := by decide +kernel
theorem d3_103 : decode prog_31_method_6_code 103 = .ok (.iadd, 1) := by decide +kernel
theorem d3_104 : decode prog_31_method_6_code 104 = .ok (.putfield 26, 3) := by decide +kernel
theorem d3_107 : decode prog_31_method_6_code 107 = .ok (.goto (-107), 3) := by decide +kernel
theorem d3_110 : decode prog_31_method_6_code 110 = .ok (.return_, 1) := by decide +kernel
abbrev Y3 : MethodName := ⟨"com/example/yarrow/yarrow/data/StartTags", "moveTo", "(I)V"⟩
def RM3 : Room := { frames := 0, cells := 0, slots := 0, locals := 0 }
theorem pd_3 : parseMethodDescriptor Y3.desc = some ⟨[.int], none⟩ := by decide +kernel
theorem pn_3 : plainName "com/example/yarrow/yarrow/data/StartTags" = true := by first | (simp [plainName, overriddenIn]; done) | decide +kernel
theorem ef_3 (m : MethodId) (oo : Addr) (x1 : Int32) : entryFrame m #[.ref oo, .int x1] 3 = mkF m 0 #[.val (.ref oo), .val (.int x1), .unset] [] := by first | (simp [entryFrame, mkF, argsToLocals, Value.category]; done) | rfl
def QB3 (Z : State) (h0 : Heap) (n0 : Nat) (oo : Addr) (cc : Addr) (r : Int32 × Int32 × Int32 × Int32 × Int32 × Int32) (v : Option Value) (h : Heap) (L : List Loc) : Prop := v = none ∧ Fr n0 L ∧ Keep h0 h [oo] ∧ Ob_S Z h oo (.int r.1) (.int r.2.1) (.ref cc) (.int r.2.2.1) (.int r.2.2.2.1) (.int r.2.2.2.2.1) (.int r.2.2.2.2.2)
set_option maxRecDepth 65536 in
set_option maxHeartbeats 40000000 in
theorem rm3 (l : Launch) (Z : State) (a0 : Array Value) (hw : ∀ d ∈ tables_1, d.before a0 Z = true) (oo : Addr) (x1 : Int32) (cc : Addr) (G_oo_line : Int32) (G_oo_column : Int32) (G_oo_start : Int32) (G_oo_scan : Int32) (G_oo_counted : Int32) (G_oo_afterCarriageReturn : Int32) (G_cc : List Int32) (h0 : Heap) (n0 : Nat) (Z0 : n0 ≤ h0.size) (r : Int32 × Int32 × Int32 × Int32 × Int32 × Int32) (hf : f3_0 x1 G_oo_line G_oo_column G_oo_start G_oo_scan G_oo_counted G_oo_afterCarriageReturn G_cc = some r) (F_oo : Ob_S Z h0 oo (.int G_oo_line) (.int G_oo_column) (.ref cc) (.int G_oo_start) (.int G_oo_scan) (.int G_oo_counted) (.int G_oo_afterCarriageReturn)) (F_cc : AryI Z h0 cc .byte G_cc) (na_oo : n0 ≤ oo) (ne_oo_cc : oo ≠ cc) :
    MetFree l Y3 (head1 ([Jvm.Cond.code Y3 prog_31_method_6_code 3 (none)]) RM3) (fun a U => a = #[.ref oo, .int x1] ∧ Z.Warmed39 U.vm ∧ U.heap = h0) (fun _ _ _ _ _ => True) (fun _ U o U' => ∃ v L, o = .returned v ∧ (QB3 Z h0 n0 oo cc r) v U'.heap L ∧ FrameEnd U o U' L RM3.cells RM3.slots) := by
  refine MetFree.of_bodySF (plainFor_of_name pn_3) hisR ?_
  intro p e s m args below meth c s₁ Bd hml0 hP hK
  obtain ⟨rfl, hZ, hh⟩ := hP
  have hx := Bd.exec
  have hby := Bd.bytes
  have hlk : meth.locks = false := BodyLoose.notSynchronized Bd
  have hret := Bd.returns
  have hml : c.maxLocals = 3 := hml0
  have hown : s.vm.findClass "com/example/yarrow/yarrow/data/StartTags" = some m.cls := findClass_of_methodNamed Bd.named
  have X0 : Stand p l e RM3 s m #[.ref oo, .int x1] below meth c s₁ [] 0 0 := Stand.of_body Bd
  have e0 : s₁.heap = h0 := by rw [← hh, Bd.state]; rfl
  have N0 := Fr.nil n0
  have K0 := Keep.refl h0 [oo]
  suffices G : Go p e below s RM3.cells RM3.slots (QB3 Z h0 n0 oo cc r) m s₁ 0 #[.val (.ref oo), .val (.int x1), .unset] [] by
    obtain ⟨s₂, o, h1, h2⟩ := G
    exact ⟨s₂, o, castTop (ef_3 m oo x1) h1, h2⟩
  have hf0 := hf
  clear hf
  have B82 : ∀ k : Int32 → Int32 → Int32 → Int32 → Int32 → Int32 → Int32 → List Int32 → Option (Int32 × Int32 × Int32 × Int32 × Int32 × Int32), (∀ (T : State) (h : Heap) (locs : List Loc), Stand p l e RM3 s m #[.ref oo, .int x1] below meth c T locs 0 0 → T.heap = h → Fr n0 locs → Keep h0 h [oo] → ∀ (G_oo_line : Int32) (G_oo_column : Int32) (G_oo_start : Int32) (G_oo_scan : Int32) (G_oo_counted : Int32) (G_oo_afterCarriageReturn : Int32) (G_cc : List Int32), Ob_S Z h oo (.int G_oo_line) (.int G_oo_column) (.ref cc) (.int G_oo_start) (.int G_oo_scan) (.int G_oo_counted) (.int G_oo_afterCarriageReturn) → AryI Z h cc .byte G_cc → ∀ (x1 : Int32) (u2 : Slot) (hu2 : u2 = .unset ∨ ∃ w, u2 = .val w ∧ w.category = 1), k x1 G_oo_line G_oo_column G_oo_start G_oo_scan G_oo_counted G_oo_afterCarriageReturn G_cc = some r → Go p e below s RM3.cells RM3.slots (QB3 Z h0 n0 oo cc r) m T 0 #[.val (.ref oo), .val (.int x1), u2] []) → (∀ (T : State) (h : Heap) (locs : List Loc), Stand p l e RM3 s m #[.ref oo, .int x1] below meth c T locs 0 0 → T.heap = h → Fr n0 locs → Keep h0 h [oo] → ∀ (G_oo_line : Int32) (G_oo_column : Int32) (G_oo_start : Int32) (G_oo_scan : Int32) (G_oo_counted : Int32) (G_oo_afterCarriageReturn : Int32) (G_cc : List Int32), Ob_S Z h oo (.int G_oo_line) (.int G_oo_column) (.ref cc) (.int G_oo_start) (.int G_oo_scan) (.int G_oo_counted) (.int G_oo_afterCarriageReturn) → AryI Z h cc .byte G_cc → ∀ (x1 : Int32) (x2 : Int32), f3_82 k x1 x2 G_oo_line G_oo_column G_oo_start G_oo_scan G_oo_counted G_oo_afterCarriageReturn G_cc = some r → Go p e below s RM3.cells RM3.slots (QB3 Z h0 n0 oo cc r) m T 82 #[.val (.ref oo), .val (.int x1), .val (.int x2)] []) := by
    intro k hk T38 h38 _ X38 e38 N38 K38 G_oo_line G_oo_column G_oo_start G_oo_scan G_oo_counted G_oo_afterCarriageReturn G_cc F38_oo F38_cc x1 x2 hf
    unfold f3_82 at hf
    refine Go.aloadN X38 hx hby (v := .ref oo) d3_82 rfl rfl rfl ?_
    refine Go.iloadN X38 hx hby (v := x2) d3_83 rfl rfl ?_
    refine Go.bipush X38 hx hby (v := (13 : Int32)) d3_84 rfl rfl ?_
    refine Go.icmp_ne X38 hx hby (pc' := 93) d3_86 (by decide) (by decide) rfl (fun hc39 => ?_) (fun hc39 => ?_)
    · replace hf := (if_neg hc39).symm.trans hf
      refine Go.iconst X38 hx hby (v := (0 : Int32)) d3_93 rfl rfl ?_
      refine Go.putF X38 hx hby hZ hown (hw _ (List.mem_of_getElem? (i := 28) rfl)) e38 (Ob_S.get_afterCarriageReturn F38_oo) (Ob_S.exa F38_oo) (Or.inl (hw _ (List.mem_of_getElem? (i := 29) rfl))) (hw _ (List.mem_of_getElem? (i := 3) rfl)) (ty := .boolean) (by decide) rfl rfl d3_94 rfl (fun T40 h40 X40 e40 W40 => ?_)
      have O40 := Ob_S.put_afterCarriageReturn hw W40 F38_oo
      have F40_cc := AryI.other F38_cc W40 (Ne.symm ne_oo_cc)
      have N40 := Fr.snoc X40 N38 na_oo
      have K40 := Keep.wr K38 W40 (Or.inl (List.mem_of_getElem? (i := 0) rfl))
      refine Go.aloadN X40 hx hby (v := .ref oo) d3_97 rfl rfl rfl ?_
      refine Go.dup X40 hx hby d3_98 rfl rfl ?_
      refine Go.getF X40 hx hby hZ hown (hw _ (List.mem_of_getElem? (i := 21) rfl)) e40 (Ob_S.get_counted O40) d3_99 rfl (fun T41 X41 e41 => ?_)
      refine Go.iconst X41 hx hby (v := (1 : Int32)) d3_102 rfl rfl ?_
      refine Go.iadd X41 hx hby d3_103 rfl ?_
      refine Go.putF X41 hx hby hZ hown (hw _ (List.mem_of_getElem? (i := 21) rfl)) e41 (Ob_S.get_counted O40) (Ob_S.exa O40) (Or.inl (hw _ (List.mem_of_getElem? (i := 22) rfl))) (hw _ (List.mem_of_getElem? (i := 3) rfl)) (ty := .int) (by decide) rfl rfl d3_104 rfl (fun T42 h42 X42 e42 W42 => ?_)
      have O42 := Ob_S.put_counted hw W42 O40
      have F42_cc := AryI.other F40_cc W42 (Ne.symm ne_oo_cc)
      have N42 := Fr.snoc X42 N40 na_oo
      have K42 := Keep.wr K40 W42 (Or.inl (List.mem_of_getElem? (i := 0) rfl))
      refine Go.goto X42 hx hby (pc' := 0) d3_107 (by decide) (by decide) ?_
      exact hk T42 h42 _ X42 e42 N42 K42    G_oo_line G_oo_column G_oo_start G_oo_scan (G_oo_counted + (1 : Int32)) (0 : Int32) G_cc O42 F42_cc x1 (.val (.int x2)) (Or.inr ⟨_, rfl, rfl⟩) hf
    · replace hf := (if_pos hc39).symm.trans hf
      refine Go.iconst X38 hx hby (v := (1 : Int32)) d3_89 rfl rfl ?_
      refine Go.goto X38 hx hby (pc' := 94) d3_90 (by decide) (by decide) ?_
      refine Go.putF X38 hx hby hZ hown (hw _ (List.mem_of_getElem? (i := 28) rfl)) e38 (Ob_S.get_afterCarriageReturn F38_oo) (Ob_S.exa F38_oo) (Or.inl (hw _ (List.mem_of_getElem? (i := 29) rfl))) (hw _ (List.mem_of_getElem? (i := 3) rfl)) (ty := .boolean) (by decide) rfl rfl d3_94 rfl (fun T43 h43 X43 e43 W43 => ?_)
      have O43 := Ob_S.put_afterCarriageReturn hw W43 F38_oo
      have F43_cc := AryI.other F38_cc W43 (Ne.symm ne_oo_cc)
      have N43 := Fr.snoc X43 N38 na_oo
      have K43 := Keep.wr K38 W43 (Or.inl (List.mem_of_getElem? (i := 0) rfl))
      refine Go.aloadN X43 hx hby (v := .ref oo) d3_97 rfl rfl rfl ?_
      refine Go.dup X43 hx hby d3_98 rfl rfl ?_
      refine Go.getF X43 hx hby hZ hown (hw _ (List.mem_of_getElem? (i := 21) rfl)) e43 (Ob_S.get_counted O43) d3_99 rfl (fun T44 X44 e44 => ?_)
      refine Go.iconst X44 hx hby (v := (1 : Int32)) d3_102 rfl rfl ?_
      refine Go.iadd X44 hx hby d3_103 rfl ?_
      refine Go.putF X44 hx hby hZ hown (hw _ (List.mem_of_getElem? (i := 21) rfl)) e44 (Ob_S.get_counted O43) (Ob_S.exa O43) (Or.inl (hw _ (List.mem_of_getElem? (i := 22) rfl))) (hw _ (List.mem_of_getElem? (i := 3) rfl)) (ty := .int) (by decide) rfl rfl d3_104 rfl (fun T45 h45 X45 e45 W45 => ?_)
      have O45 := Ob_S.put_counted hw W45 O43
      have F45_cc := AryI.other F43_cc W45 (Ne.symm ne_oo_cc)
      have N45 := Fr.snoc X45 N43 na_oo
      have K45 := Keep.wr K43 W45 (Or.inl (List.mem_of_getElem? (i := 0) rfl))
      refine Go.goto X45 hx hby (pc' := 0) d3_107 (by decide) (by decide) ?_
      exact hk T45 h45 _ X45 e45 N45 K45    G_oo_line G_oo_column G_oo_start G_oo_scan (G_oo_counted + (1 : Int32)) (1 : Int32) G_cc O45 F45_cc x1 (.val (.int x2)) (Or.inr ⟨_, rfl, rfl⟩) hf
  have B37 : ∀ k : Int32 → Int32 → Int32 → Int32 → Int32 → Int32 → Int32 → List Int32 → Option (Int32 × Int32 × Int32 × Int32 × Int32 × Int32), (∀ (T : State) (h : Heap) (locs : List Loc), Stand p l e RM3 s m #[.ref oo, .int x1] below meth c T locs 0 0 → T.heap = h → Fr n0 locs → Keep h0 h [oo] → ∀ (G_oo_line : Int32) (G_oo_column : Int32) (G_oo_start : Int32) (G_oo_scan : Int32) (G_oo_counted : Int32) (G_oo_afterCarriageReturn : Int32) (G_cc : List Int32), Ob_S Z h oo (.int G_oo_line) (.int G_oo_column) (.ref cc) (.int G_oo_start) (.int G_oo_scan) (.int G_oo_counted) (.int G_oo_afterCarriageReturn) → AryI Z h cc .byte G_cc → ∀ (x1 : Int32) (u2 : Slot) (hu2 : u2 = .unset ∨ ∃ w, u2 = .val w ∧ w.category = 1), k x1 G_oo_line G_oo_column G_oo_start G_oo_scan G_oo_counted G_oo_afterCarriageReturn G_cc = some r → Go p e below s RM3.cells RM3.slots (QB3 Z h0 n0 oo cc r) m T 0 #[.val (.ref oo), .val (.int x1), u2] []) → (∀ (T : State) (h : Heap) (locs : List Loc), Stand p l e RM3 s m #[.ref oo, .int x1] below meth c T locs 0 0 → T.heap = h → Fr n0 locs → Keep h0 h [oo] → ∀ (G_oo_line : Int32) (G_oo_column : Int32) (G_oo_start : Int32) (G_oo_scan : Int32) (G_oo_counted : Int32) (G_oo_afterCarriageReturn : Int32) (G_cc : List Int32), Ob_S Z h oo (.int G_oo_line) (.int G_oo_column) (.ref cc) (.int G_oo_start) (.int G_oo_scan) (.int G_oo_counted) (.int G_oo_afterCarriageReturn) → AryI Z h cc .byte G_cc → ∀ (x1 : Int32) (x2 : Int32), f3_37 k x1 x2 G_oo_line G_oo_column G_oo_start G_oo_scan G_oo_counted G_oo_afterCarriageReturn G_cc = some r → Go p e below s RM3.cells RM3.slots (QB3 Z h0 n0 oo cc r) m T 37 #[.val (.ref oo), .val (.int x1), .val (.int x2)] []) := by
    intro k hk T46 h46 _ X46 e46 N46 K46 G_oo_line G_oo_column G_oo_start G_oo_scan G_oo_counted G_oo_afterCarriageReturn G_cc F46_oo F46_cc x1 x2 hf
    unfold f3_37 at hf
    refine Go.aloadN X46 hx hby (v := .ref oo) d3_37 rfl rfl rfl ?_
    refine Go.dup X46 hx hby d3_38 rfl rfl ?_
    refine Go.getF X46 hx hby hZ hown (hw _ (List.mem_of_getElem? (i := 11) rfl)) e46 (Ob_S.get_line F46_oo) d3_39 rfl (fun T47 X47 e47 => ?_)
    refine Go.iconst X47 hx hby (v := (1 : Int32)) d3_42 rfl rfl ?_
    refine Go.iadd X47 hx hby d3_43 rfl ?_
    refine Go.putF X47 hx hby hZ hown (hw _ (List.mem_of_getElem? (i := 11) rfl)) e47 (Ob_S.get_line F46_oo) (Ob_S.exa F46_oo) (Or.inl (hw _ (List.mem_of_getElem? (i := 12) rfl))) (hw _ (List.mem_of_getElem? (i := 3) rfl)) (ty := .int) (by decide) rfl rfl d3_44 rfl (fun T48 h48 X48 e48 W48 => ?_)
    have O48 := Ob_S.put_line hw W48 F46_oo
    have F48_cc := AryI.other F46_cc W48 (Ne.symm ne_oo_cc)
    have N48 := Fr.snoc X48 N46 na_oo
    have K48 := Keep.wr K46 W48 (Or.inl (List.mem_of_getElem? (i := 0) rfl))
    refine Go.aloadN X48 hx hby (v := .ref oo) d3_47 rfl rfl rfl ?_
    refine Go.iconst X48 hx hby (v := (1 : Int32)) d3_48 rfl rfl ?_
    refine Go.putF X48 hx hby hZ hown (hw _ (List.mem_of_getElem? (i := 13) rfl)) e48 (Ob_S.get_column O48) (Ob_S.exa O48) (Or.inl (hw _ (List.mem_of_getElem? (i := 14) rfl))) (hw _ (List.mem_of_getElem? (i := 3) rfl)) (ty := .int) (by decide) rfl rfl d3_49 rfl (fun T49 h49 X49 e49 W49 => ?_)
    have O49 := Ob_S.put_column hw W49 O48
    have F49_cc := AryI.other F48_cc W49 (Ne.symm ne_oo_cc)
    have N49 := Fr.snoc X49 N48 na_oo
    have K49 := Keep.wr K48 W49 (Or.inl (List.mem_of_getElem? (i := 0) rfl))
    refine Go.goto X49 hx hby (pc' := 82) d3_52 (by decide) (by decide) ?_
    exact B82 _ hk T49 h49 _ X49 e49 N49 K49    (G_oo_line + (1 : Int32)) (1 : Int32) G_oo_start G_oo_scan G_oo_counted G_oo_afterCarriageReturn G_cc O49 F49_cc x1 x2 hf
  have B55 : ∀ k : Int32 → Int32 → Int32 → Int32 → Int32 → Int32 → Int32 → List Int32 → Option (Int32 × Int32 × Int32 × Int32 × Int32 × Int32), (∀ (T : State) (h : Heap) (locs : List Loc), Stand p l e RM3 s m #[.ref oo, .int x1] below meth c T locs 0 0 → T.heap = h → Fr n0 locs → Keep h0 h [oo] → ∀ (G_oo_line : Int32) (G_oo_column : Int32) (G_oo_start : Int32) (G_oo_scan : Int32) (G_oo_counted : Int32) (G_oo_afterCarriageReturn : Int32) (G_cc : List Int32), Ob_S Z h oo (.int G_oo_line) (.int G_oo_column) (.ref cc) (.int G_oo_start) (.int G_oo_scan) (.int G_oo_counted) (.int G_oo_afterCarriageReturn) → AryI Z h cc .byte G_cc → ∀ (x1 : Int32) (u2 : Slot) (hu2 : u2 = .unset ∨ ∃ w, u2 = .val w ∧ w.category = 1), k x1 G_oo_line G_oo_column G_oo_start G_oo_scan G_oo_counted G_oo_afterCarriageReturn G_cc = some r → Go p e below s RM3.cells RM3.slots (QB3 Z h0 n0 oo cc r) m T 0 #[.val (.ref oo), .val (.int x1), u2] []) → (∀ (T : State) (h : Heap) (locs : List Loc), Stand p l e RM3 s m #[.ref oo, .int x1] below meth c T locs 0 0 → T.heap = h → Fr n0 locs → Keep h0 h [oo] → ∀ (G_oo_line : Int32) (G_oo_column : Int32) (G_oo_start : Int32) (G_oo_scan : Int32) (G_oo_counted : Int32) (G_oo_afterCarriageReturn : Int32) (G_cc : List Int32), Ob_S Z h oo (.int G_oo_line) (.int G_oo_column) (.ref cc) (.int G_oo_start) (.int G_oo_scan) (.int G_oo_counted) (.int G_oo_afterCarriageReturn) → AryI Z h cc .byte G_cc → ∀ (x1 : Int32) (x2 : Int32), f3_55 k x1 x2 G_oo_line G_oo_column G_oo_start G_oo_scan G_oo_counted G_oo_afterCarriageReturn G_cc = some r → Go p e below s RM3.cells RM3.slots (QB3 Z h0 n0 oo cc r) m T 55 #[.val (.ref oo), .val (.int x1), .val (.int x2)] []) := by
    intro k hk T50 h50 _ X50 e50 N50 K50 G_oo_line G_oo_column G_oo_start G_oo_scan G_oo_counted G_oo_afterCarriageReturn G_cc F50_oo F50_cc x1 x2 hf
    unfold f3_55 at hf
    refine Go.iloadN X50 hx hby (v := x2) d3_55 rfl rfl ?_
    refine Go.bipush X50 hx hby (v := (10 : Int32)) d3_56 rfl rfl ?_
    refine Go.icmp_eq X50 hx hby (pc' := 82) d3_58 (by decide) (by decide) rfl (fun hc51 => ?_) (fun hc51 => ?_)
    · replace hf := (if_pos hc51).symm.trans hf
      exact B82 _ hk T50 h50 _ X50 e50 N50 K50    G_oo_line G_oo_column G_oo_start G_oo_scan G_oo_counted G_oo_afterCarriageReturn G_cc F50_oo F50_cc x1 x2 hf
    · replace hf := (if_neg hc51).symm.trans hf
      refine Go.iloadN X50 hx hby (v := x2) d3_61 rfl rfl ?_
      refine Go.sipush X50 hx hby (v := (192 : Int32)) d3_62 rfl rfl ?_
      refine Go.iand X50 hx hby d3_65 rfl ?_
      refine Go.sipush X50 hx hby (v := (128 : Int32)) d3_66 rfl rfl ?_
      refine Go.icmp_eq X50 hx hby (pc' := 82) d3_69 (by decide) (by decide) rfl (fun hc52 => ?_) (fun hc52 => ?_)
      · replace hf := (if_pos hc52).symm.trans hf
        exact B82 _ hk T50 h50 _ X50 e50 N50 K50    G_oo_line G_oo_column G_oo_start G_oo_scan G_oo_counted G_oo_afterCarriageReturn G_cc F50_oo F50_cc x1 x2 hf
      · replace hf := (if_neg hc52).symm.trans hf
        refine Go.aloadN X50 hx hby (v := .ref oo) d3_72 rfl rfl rfl ?_
        refine Go.dup X50 hx hby d3_73 rfl rfl ?_
        refine Go.getF X50 hx hby hZ hown (hw _ (List.mem_of_getElem? (i := 13) rfl)) e50 (Ob_S.get_column F50_oo) d3_74 rfl (fun T53 X53 e53 => ?_)
        refine Go.iconst X53 hx hby (v := (1 : Int32)) d3_77 rfl rfl ?_
        refine Go.iadd X53 hx hby d3_78 rfl ?_
        refine Go.putF X53 hx hby hZ hown (hw _ (List.mem_of_getElem? (i := 13) rfl)) e53 (Ob_S.get_column F50_oo) (Ob_S.exa F50_oo) (Or.inl (hw _ (List.mem_of_getElem? (i := 14) rfl))) (hw _ (List.mem_of_getElem? (i := 3) rfl)) (ty := .int) (by decide) rfl rfl d3_79 rfl (fun T54 h54 X54 e54 W54 => ?_)
        have O54 := Ob_S.put_column hw W54 F50_oo
        have F54_cc := AryI.other F50_cc W54 (Ne.symm ne_oo_cc)
        have N54 := Fr.snoc X54 N50 na_oo
        have K54 := Keep.wr K50 W54 (Or.inl (List.mem_of_getElem? (i := 0) rfl))
        exact B82 _ hk T54 h54 _ X54 e54 N54 K54    G_oo_line (G_oo_column + (1 : Int32)) G_oo_start G_oo_scan G_oo_counted G_oo_afterCarriageReturn G_cc O54 F54_cc x1 x2 hf
  have B0 : ∀ n : Nat, ∀ (T : State) (h : Heap) (locs : List Loc), Stand p l e RM3 s m #[.ref oo, .int x1] below meth c T locs 0 0 → T.heap = h → Fr n0 locs → Keep h0 h [oo] → ∀ (G_oo_line : Int32) (G_oo_column : Int32) (G_oo_start : Int32) (G_oo_scan : Int32) (G_oo_counted : Int32) (G_oo_afterCarriageReturn : Int32) (G_cc : List Int32), Ob_S Z h oo (.int G_oo_line) (.int G_oo_column) (.ref cc) (.int G_oo_start) (.int G_oo_scan) (.int G_oo_counted) (.int G_oo_afterCarriageReturn) → AryI Z h cc .byte G_cc → ∀ (x1 : Int32) (u2 : Slot) (hu2 : u2 = .unset ∨ ∃ w, u2 = .val w ∧ w.category = 1), f3_0L n x1 G_oo_line G_oo_column G_oo_start G_oo_scan G_oo_counted G_oo_afterCarriageReturn G_cc = some r → Go p e below s RM3.cells RM3.slots (QB3 Z h0 n0 oo cc r) m T 0 #[.val (.ref oo), .val (.int x1), u2] [] := by
    intro n
    induction n with
    | zero => intro T55 h55 _ X55 e55 N55 K55 G_oo_line G_oo_column G_oo_start G_oo_scan G_oo_counted G_oo_afterCarriageReturn G_cc F55_oo F55_cc x1 u2 hu2 hf; exact absurd (show none = some r from hf) nofun
    | succ n ih =>
      intro T55 h55 _ X55 e55 N55 K55 G_oo_line G_oo_column G_oo_start G_oo_scan G_oo_counted G_oo_afterCarriageReturn G_cc F55_oo F55_cc x1 u2 hu2 hf
      rw [f3_0L] at hf
      refine Go.aloadN X55 hx hby (v := .ref oo) d3_0 rfl rfl rfl ?_
      refine Go.getF X55 hx hby hZ hown (hw _ (List.mem_of_getElem? (i := 21) rfl)) e55 (Ob_S.get_counted F55_oo) d3_1 rfl (fun T56 X56 e56 => ?_)
      refine Go.iloadN X56 hx hby (v := x1) d3_4 rfl rfl ?_
      refine Go.icmp_ge X56 hx hby (pc' := 110) d3_5 (by decide) (by decide) rfl (fun hc57 => ?_) (fun hc57 => ?_)
      · replace hf := (if_neg hc57).symm.trans hf
        exact Go.vret X56 hx hby hlk hret d3_110 (by decide) (by decide) (by obtain rfl := Option.some.inj hf; unfold QB3; exact ⟨rfl, N55, by rw [e56]; exact K55, by rw [e56]; exact F55_oo⟩)
      · replace hf := (if_pos hc57).symm.trans hf
        refine Go.aloadN X56 hx hby (v := .ref oo) d3_8 rfl rfl rfl ?_
        refine Go.getF X56 hx hby hZ hown (hw _ (List.mem_of_getElem? (i := 15) rfl)) e56 (Ob_S.get_content F55_oo) d3_9 rfl (fun T58 X58 e58 => ?_)
        refine Go.aloadN X58 hx hby (v := .ref oo) d3_12 rfl rfl rfl ?_
        refine Go.getF X58 hx hby hZ hown (hw _ (List.mem_of_getElem? (i := 21) rfl)) e58 (Ob_S.get_counted F55_oo) d3_13 rfl (fun T59 X59 e59 => ?_)
        rcases Decidable.em (inA G_cc G_oo_counted) with hj60 | hj60
        case inr => exact absurd ((if_neg hj60).symm.trans hf) nofun
        replace hf := (if_pos hj60).symm.trans hf
        refine Go.baload X59 hx hby hZ e59 F55_cc hj60 d3_16 rfl ?_
        refine Go.istoreN X59 hx hby (Ls' := #[.val (.ref oo), .val (.int x1), .val (.int (atA G_cc G_oo_counted))]) d3_17 rfl (XS.store1 rfl hu2 rfl) ?_
        refine Go.iloadN X59 hx hby (v := (atA G_cc G_oo_counted)) d3_18 rfl rfl ?_
        refine Go.bipush X59 hx hby (v := (13 : Int32)) d3_19 rfl rfl ?_
        refine Go.icmp_eq X59 hx hby (pc' := 37) d3_21 (by decide) (by decide) rfl (fun hc61 => ?_) (fun hc61 => ?_)
        · replace hf := (if_pos hc61).symm.trans hf
          exact B37 _ ih T59 h55 _ X59 e59 N55 K55    G_oo_line G_oo_column G_oo_start G_oo_scan G_oo_counted G_oo_afterCarriageReturn G_cc F55_oo F55_cc x1 (atA G_cc G_oo_counted) hf
        · replace hf := (if_neg hc61).symm.trans hf
          refine Go.iloadN X59 hx hby (v := (atA G_cc G_oo_counted)) d3_24 rfl rfl ?_
          refine Go.bipush X59 hx hby (v := (10 : Int32)) d3_25 rfl rfl ?_
          refine Go.icmp_ne X59 hx hby (pc' := 55) d3_27 (by decide) (by decide) rfl (fun hc62 => ?_) (fun hc62 => ?_)
          · replace hf := (if_neg hc62).symm.trans hf
            exact B55 _ ih T59 h55 _ X59 e59 N55 K55    G_oo_line G_oo_column G_oo_start G_oo_scan G_oo_counted G_oo_afterCarriageReturn G_cc F55_oo F55_cc x1 (atA G_cc G_oo_counted) hf
          · replace hf := (if_pos hc62).symm.trans hf
            refine Go.aloadN X59 hx hby (v := .ref oo) d3_30 rfl rfl rfl ?_
            refine Go.getF X59 hx hby hZ hown (hw _ (List.mem_of_getElem? (i := 28) rfl)) e59 (Ob_S.get_afterCarriageReturn F55_oo) d3_31 rfl (fun T63 X63 e63 => ?_)
            refine Go.if_ne X63 hx hby (pc' := 55) d3_34 (by decide) (by decide) rfl (fun hc64 => ?_) (fun hc64 => ?_)
            · replace hf := (if_neg hc64).symm.trans hf
              exact B55 _ ih T63 h55 _ X63 e63 N55 K55    G_oo_line G_oo_column G_oo_start G_oo_scan G_oo_counted G_oo_afterCarriageReturn G_cc F55_oo F55_cc x1 (atA G_cc G_oo_counted) hf
            · replace hf := (if_pos hc64).symm.trans hf
              exact B37 _ ih T63 h55 _ X63 e63 N55 K55    G_oo_line G_oo_column G_oo_start G_oo_scan G_oo_counted G_oo_afterCarriageReturn G_cc F55_oo F55_cc x1 (atA G_cc G_oo_counted) hf
  have hf := hf0
  unfold f3_0 at hf
  exact B0 _ s₁ h0 _ X0 e0 N0 K0    G_oo_line G_oo_column G_oo_start G_oo_scan G_oo_counted G_oo_afterCarriageReturn G_cc F_oo F_cc x1 .unset (Or.inl rfl) hf
-- body 4
def f4_0 (G_oo_line : Int32) (G_oo_column : Int32) (G_oo_start : Int32) (G_oo_scan : Int32) (G_oo_counted : Int32) (G_oo_afterCarriageReturn : Int32) (G_cc : List Int32) : Option (Int32) := some G_oo_line
theorem d4_0 : decode prog_31_method_3_code 0 = .ok (.aload_n 0, 1) := by decide +kernel
theorem d4_1 : decode prog_31_method_3_code 1 = .ok (.getfield 7, 3) := by decide +kernel
theorem d4_4 : decode prog_31_method_3_code 4 = .ok (.ireturn, 1) := by decide +kernel
abbrev Y4 : MethodName := ⟨"com/example/yarrow/yarrow/data/StartTags", "line", "()I"⟩
def RM4 : Room := { frames := 0, cells := 0, slots := 0, locals := 0 }
theorem pd_4 : parseMethodDescriptor Y4.desc = some ⟨[], some .int⟩ := by decide +kernel
theorem pn_4 : plainName "com/example/yarrow/yarrow/data/StartTags" = true := by first | (simp [plainName, overriddenIn]; done) | decide +kernel
theorem ef_4 (m : MethodId) (oo : Addr) : entryFrame m #[.ref oo] 1 = mkF m 0 #[.val (.ref oo)] [] := by first | (simp [entryFrame, mkF, argsToLocals, Value.category]; done) | rfl
set_option maxRecDepth 65536 in
set_option maxHeartbeats 40000000 in
theorem rm4 (l : Launch) (Z : State) (a0 : Array Value) (hw : ∀ d ∈ tables_1, d.before a0 Z = true) (oo : Addr) (cc : Addr) (G_oo_line : Int32) (G_oo_column : Int32) (G_oo_start : Int32) (G_oo_scan : Int32) (G_oo_counted : Int32) (G_oo_afterCarriageReturn : Int32) (G_cc : List Int32) (h0 : Heap) (r : Int32) (hf : f4_0 G_oo_line G_oo_column G_oo_start G_oo_scan G_oo_counted G_oo_afterCarriageReturn G_cc = some r) (F_oo : Ob_S Z h0 oo (.int G_oo_line) (.int G_oo_column) (.ref cc) (.int G_oo_start) (.int G_oo_scan) (.int G_oo_counted) (.int G_oo_afterCarriageReturn)) (F_cc : AryI Z h0 cc .byte G_cc) :
    MetFree l Y4 (head1 ([Jvm.Cond.code Y4 prog_31_method_3_code 1 (some .int)]) RM4) (fun a U => a = #[.ref oo] ∧ Z.Warmed39 U.vm ∧ U.heap = h0) (fun _ _ _ _ _ => True) (fun _ U o U' => ∃ v L, o = .returned v ∧ (PQ h0 (some (.int r))) v U'.heap L ∧ FrameEnd U o U' L RM4.cells RM4.slots) := by
  refine MetFree.of_bodySF (plainFor_of_name pn_4) hisR ?_
  intro p e s m args below meth c s₁ Bd hml0 hP hK
  obtain ⟨rfl, hZ, hh⟩ := hP
  have hx := Bd.exec
  have hby := Bd.bytes
  have hlk : meth.locks = false := BodyLoose.notSynchronized Bd
  have hret := Bd.returns
  have hml : c.maxLocals = 1 := hml0
  have hown : s.vm.findClass "com/example/yarrow/yarrow/data/StartTags" = some m.cls := findClass_of_methodNamed Bd.named
  have X0 : Stand p l e RM4 s m #[.ref oo] below meth c s₁ [] 0 0 := Stand.of_body Bd
  have e0 : s₁.heap = h0 := by rw [← hh, Bd.state]; rfl
  suffices G : Go p e below s RM4.cells RM4.slots (PQ h0 (some (.int r))) m s₁ 0 #[.val (.ref oo)] [] by
    obtain ⟨s₂, o, h1, h2⟩ := G
    exact ⟨s₂, o, castTop (ef_4 m oo) h1, h2⟩
  have hf0 := hf
  clear hf
  have hf := hf0
  unfold f4_0 at hf
  refine Go.aloadN X0 hx hby (v := .ref oo) d4_0 rfl rfl rfl ?_
  refine Go.getF X0 hx hby hZ hown (hw _ (List.mem_of_getElem? (i := 11) rfl)) e0 (Ob_S.get_line F_oo) d4_1 rfl (fun T66 X66 e66 => ?_)
  exact Go.iretI X66 hx hby hlk hret d4_4 (by decide) (by decide) ⟨congrArg (fun z => some (Value.int z)) (Option.some.inj hf), rfl, e66⟩
-- body 8
def f8_0 (x0 : Int32) (x1 : Int32) (x2 : Int32) : Option (Int32) := if x2 < x0 then some (0 : Int32) else if x2 < x1 then some (1 : Int32) else some (0 : Int32)
theorem d8_0 : decode method_3_code 0 = .ok (.iload_n 0, 1) := by decide +kernel
theorem d8_1 : decode method_3_code 1 = .ok (.iload_n 2, 1) := by decide +kernel
theorem d8_2 : decode method_3_code 2 = .ok (.if_icmp .gt 12, 3) := by decide +kernel
theorem d8_5 : decode method_3_code 5 = .ok (.iload_n 2, 1) := by decide +kernel
theorem d8_6 : decode method_3_code 6 = .ok (.iload_n 1, 1) := by decide +kernel
theorem d8_7 : decode method_3_code 7 = .ok (.if_icmp .ge 7, 3) := by decide +kernel
theorem d8_10 : decode method_3_code 10 = .ok (.iconst 1, 1) := by decide +kernel
theorem d8_11 : decode method_3_code 11 = .ok (.goto 4, 3) := by decide +kernel
theorem d8_14 : decode method_3_code 14 = .ok (.iconst 0, 1) := by decide +kernel
theorem d8_15 : decode method_3_code 15 = .ok (.ireturn, 1) := by decide +kernel
abbrev Y8 : MethodName := ⟨"com/example/yarrow/yarrow/data/StartTagsMoveToPinLaw", "in", "(III)Z"⟩
def RM8 : Room := { frames := 0, cells := 0, slots := 0, locals := 0 }
theorem pd_8 : parseMethodDescriptor Y8.desc = some ⟨[.int, .int, .int], some .boolean⟩ := by decide +kernel
theorem pn_8 : plainName "com/example/yarrow/yarrow/data/StartTagsMoveToPinLaw" = true := by first | (simp [plainName, overriddenIn]; done) | decide +kernel
theorem ef_8 (m : MethodId) (x0 : Int32) (x1 : Int32) (x2 : Int32) : entryFrame m #[.int x0, .int x1, .int x2] 3 = mkF m 0 #[.val (.int x0), .val (.int x1), .val (.int x2)] [] := by first | (simp [entryFrame, mkF, argsToLocals, Value.category]; done) | rfl
set_option maxRecDepth 65536 in
set_option maxHeartbeats 40000000 in
theorem rm8 (l : Launch) (Z : State) (a0 : Array Value) (hw : ∀ d ∈ tables_1, d.before a0 Z = true) (x0 : Int32) (x1 : Int32) (x2 : Int32)  (h0 : Heap) (r : Int32) (hf : f8_0 x0 x1 x2 = some r)  :
    MetFree l Y8 (head1 ([Jvm.Cond.code Y8 method_3_code 3 (some .boolean)]) RM8) (fun a U => a = #[.int x0, .int x1, .int x2] ∧ Z.Warmed39 U.vm ∧ U.heap = h0) (fun _ _ _ _ _ => True) (fun _ U o U' => ∃ v L, o = .returned v ∧ (PQ h0 (some (.int r))) v U'.heap L ∧ FrameEnd U o U' L RM8.cells RM8.slots) := by
  refine MetFree.of_bodySF (plainFor_of_name pn_8) hisR ?_
  intro p e s m args below meth c s₁ Bd hml0 hP hK
  obtain ⟨rfl, hZ, hh⟩ := hP
  have hx := Bd.exec
  have hby := Bd.bytes
  have hlk : meth.locks = false := BodyLoose.notSynchronized Bd
  have hret := Bd.returns
  have hml : c.maxLocals = 3 := hml0
  have hown : s.vm.findClass "com/example/yarrow/yarrow/data/StartTagsMoveToPinLaw" = some m.cls := findClass_of_methodNamed Bd.named
  have X0 : Stand p l e RM8 s m #[.int x0, .int x1, .int x2] below meth c s₁ [] 0 0 := Stand.of_body Bd
  have e0 : s₁.heap = h0 := by rw [← hh, Bd.state]; rfl
  suffices G : Go p e below s RM8.cells RM8.slots (PQ h0 (some (.int r))) m s₁ 0 #[.val (.int x0), .val (.int x1), .val (.int x2)] [] by
    obtain ⟨s₂, o, h1, h2⟩ := G
    exact ⟨s₂, o, castTop (ef_8 m x0 x1 x2) h1, h2⟩
  have hf0 := hf
  clear hf
  have hf := hf0
  unfold f8_0 at hf
  refine Go.iloadN X0 hx hby (v := x0) d8_0 rfl rfl ?_
  refine Go.iloadN X0 hx hby (v := x2) d8_1 rfl rfl ?_
  refine Go.icmp_gt X0 hx hby (pc' := 14) d8_2 (by decide) (by decide) rfl (fun hc69 => ?_) (fun hc69 => ?_)
  · replace hf := (if_pos hc69).symm.trans hf
    refine Go.iconst X0 hx hby (v := (0 : Int32)) d8_14 rfl rfl ?_
    exact Go.iretN X0 hx hby hlk hret (Or.inl rfl) (w' := (0 : Int32)) rfl d8_15 (by decide) (by decide) ⟨congrArg (fun z => some (Value.int z)) (Option.some.inj hf), rfl, e0⟩
  · replace hf := (if_neg hc69).symm.trans hf
    refine Go.iloadN X0 hx hby (v := x2) d8_5 rfl rfl ?_
    refine Go.iloadN X0 hx hby (v := x1) d8_6 rfl rfl ?_
    refine Go.icmp_ge X0 hx hby (pc' := 14) d8_7 (by decide) (by decide) rfl (fun hc70 => ?_) (fun hc70 => ?_)
    · replace hf := (if_neg hc70).symm.trans hf
      refine Go.iconst X0 hx hby (v := (0 : Int32)) d8_14 rfl rfl ?_
      exact Go.iretN X0 hx hby hlk hret (Or.inl rfl) (w' := (0 : Int32)) rfl d8_15 (by decide) (by decide) ⟨congrArg (fun z => some (Value.int z)) (Option.some.inj hf), rfl, e0⟩
    · replace hf := (if_pos hc70).symm.trans hf
      refine Go.iconst X0 hx hby (v := (1 : Int32)) d8_10 rfl rfl ?_
      refine Go.goto X0 hx hby (pc' := 15) d8_11 (by decide) (by decide) ?_
      exact Go.iretN X0 hx hby hlk hret (Or.inl rfl) (w' := (1 : Int32)) rfl d8_15 (by decide) (by decide) ⟨congrArg (fun z => some (Value.int z)) (Option.some.inj hf), rfl, e0⟩
-- body 7
def f7_0 (x1 : Int32) (x2 : Int32) (x3 : Int32) (G_cc : List Int32) : Option (Int32) := (f8_0 x1 x2 x3).bind fun r71 => if r71 = 0 then some (0 : Int32) else if inA G_cc x3 then if (atA G_cc x3) = (13 : Int32) then some (1 : Int32) else if inA G_cc x3 then if (atA G_cc x3) = (10 : Int32) then if x1 < x3 then if inA G_cc (x3 - (1 : Int32)) then if (atA G_cc (x3 - (1 : Int32))) = (13 : Int32) then some (0 : Int32) else some (1 : Int32) else none else some (1 : Int32) else some (0 : Int32) else none else none
theorem d7_0 : decode method_4_code 0 = .ok (.iload_n 1, 1) := by decide +kernel
theorem d7_1 : decode method_4_code 1 = .ok (.iload_n 2, 1) := by decide +kernel
theorem d7_2 : decode method_4_code 2 = .ok (.iload_n 3, 1) := by decide +kernel
theorem d7_3 : decode method_4_code 3 = .ok (.invokestatic 33, 3) := by decide +kernel
theorem d7_6 : decode method_4_code 6 = .ok (.ifCond .eq 38, 3) := by decide +kernel
theorem d7_9 : decode method_4_code 9 = .ok (.aload_n 0, 1) := by decide +kernel
theorem d7_10 : decode method_4_code 10 = .ok (.iload_n 3, 1) := by decide +kernel
theorem d7_11 : decode method_4_code 11 = .ok (.baload, 1) := by decide +kernel
theorem d7_12 : decode method_4_code 12 = .ok (.bipush 13, 2) := by decide +kernel
theorem d7_14 : decode method_4_code 14 = .ok (.if_icmp .eq 26, 3) := by decide +kernel
theorem d7_17 : decode method_4_code 17 = .ok (.aload_n 0, 1) := by decide +kernel
theorem d7_18 : decode method_4_code 18 = .ok (.iload_n 3, 1) := by decide +kernel
theorem d7_19 : decode method_4_code 19 = .ok (.baload, 1) := by decide +kernel
theorem d7_20 : decode method_4_code 20 = .ok (.bipush 10, 2) := by decide +kernel
theorem d7_22 : decode method_4_code 22 = .ok (.if_icmp .ne 22, 3) := by decide +kernel
theorem d7_25 : decode method_4_code 25 = .ok (.iload_n 3, 1) := by decide +kernel
theorem d7_26 : decode method_4_code 26 = .ok (.iload_n 1, 1) := by decide +kernel
theorem d7_27 : decode method_4_code 27 = .ok (.if_icmp .le 13, 3) := by decide +kernel
theorem d7_30 : decode method_4_code 30 = .ok (.aload_n 0, 1) := by decide +kernel
theorem d7_31 : decode method_4_code 31 = .ok (.iload_n 3, 1) := by decide +kernel
theorem d7_32 : decode method_4_code 32 = .ok (.iconst 1, 1) := by decide +kernel
theorem d7_33 : decode method_4_code 33 = .ok (.isub, 1) := by decide +kernel
theorem d7_34 : decode method_4_code 34 = .ok (.baload, 1) := by decide +kernel
theorem d7_35 : decode method_4_code 35 = .ok (.bipush 13, 2) := by decide +kernel
theorem d7_37 : decode method_4_code 37 = .ok (.if_icmp .eq 7, 3) := by decide +kernel
theorem d7_40 : decode method_4_code 40 = .ok (.iconst 1, 1) := by decide +kernel
theorem d7_41 : decode method_4_code 41 = .ok (.goto 4, 3) := by decide +kernel
theorem d7_44 : decode method_4_code 44 = .ok (.iconst 0, 1) := by decide +kernel
theorem d7_45 : decode method_4_code 45 = .ok (.ireturn, 1) := by decide +kernel
abbrev Y7 : MethodName := ⟨"com/example/yarrow/yarrow/data/StartTagsMoveToPinLaw", "isBreak", "([BIII)Z"⟩
def RM7 : Room := { frames := 1, cells := 0, slots := 0, locals := 14 }
theorem pd_7 : parseMethodDescriptor Y7.desc = some ⟨[(.array .byte), .int, .int, .int], some .boolean⟩ := by decide +kernel
theorem pn_7 : plainName "com/example/yarrow/yarrow/data/StartTagsMoveToPinLaw" = true := by first | (simp [plainName, overriddenIn]; done) | decide +kernel
theorem ef_7 (m : MethodId) (cc : Addr) (x1 : Int32) (x2 : Int32) (x3 : Int32) : entryFrame m #[.ref cc, .int x1, .int x2, .int x3] 4 = mkF m 0 #[.val (.ref cc), .val (.int x1), .val (.int x2), .val (.int x3)] [] := by first | (simp [entryFrame, mkF, argsToLocals, Value.category]; done) | rfl
set_option maxRecDepth 65536 in
set_option maxHeartbeats 40000000 in
theorem rm7 (l : Launch) (Z : State) (a0 : Array Value) (hw : ∀ d ∈ tables_1, d.before a0 Z = true) (cc : Addr) (x1 : Int32) (x2 : Int32) (x3 : Int32) (G_cc : List Int32) (h0 : Heap) (r : Int32) (hf : f7_0 x1 x2 x3 G_cc = some r) (F_cc : AryI Z h0 cc .byte G_cc) :
    MetFree l Y7 (head1 ([Jvm.Cond.code Y7 method_4_code 4 (some .boolean)]) RM7) (fun a U => a = #[.ref cc, .int x1, .int x2, .int x3] ∧ Z.Warmed39 U.vm ∧ U.heap = h0) (fun _ _ _ _ _ => True) (fun _ U o U' => ∃ v L, o = .returned v ∧ (PQ h0 (some (.int r))) v U'.heap L ∧ FrameEnd U o U' L RM7.cells RM7.slots) := by
  refine MetFree.of_bodySF (plainFor_of_name pn_7) hisR ?_
  intro p e s m args below meth c s₁ Bd hml0 hP hK
  obtain ⟨rfl, hZ, hh⟩ := hP
  have hx := Bd.exec
  have hby := Bd.bytes
  have hlk : meth.locks = false := BodyLoose.notSynchronized Bd
  have hret := Bd.returns
  have hml : c.maxLocals = 4 := hml0
  have hown : s.vm.findClass "com/example/yarrow/yarrow/data/StartTagsMoveToPinLaw" = some m.cls := findClass_of_methodNamed Bd.named
  have X0 : Stand p l e RM7 s m #[.ref cc, .int x1, .int x2, .int x3] below meth c s₁ [] 0 0 := Stand.of_body Bd
  have e0 : s₁.heap = h0 := by rw [← hh, Bd.state]; rfl
  suffices G : Go p e below s RM7.cells RM7.slots (PQ h0 (some (.int r))) m s₁ 0 #[.val (.ref cc), .val (.int x1), .val (.int x2), .val (.int x3)] [] by
    obtain ⟨s₂, o, h1, h2⟩ := G
    exact ⟨s₂, o, castTop (ef_7 m cc x1 x2 x3) h1, h2⟩
  have hf0 := hf
  clear hf
  have hf := hf0
  unfold f7_0 at hf
  refine Go.iloadN X0 hx hby (v := x1) d7_0 rfl rfl ?_
  refine Go.iloadN X0 hx hby (v := x2) d7_1 rfl rfl ?_
  refine Go.iloadN X0 hx hby (v := x3) d7_2 rfl rfl ?_
  obtain ⟨r80, g80, hf⟩ := Option.bind_eq_some_iff.mp hf
  refine Go.callSP X0 hx hby hZ (by rw [hml]; rfl) (W := 0) (argsL := [.int x1, .int x2, .int x3]) (rest := []) hown (hw _ (List.mem_of_getElem? (i := 45) rfl)) (hw _ (List.mem_of_getElem? (i := 46) rfl)) (hw _ (List.mem_of_getElem? (i := 37) rfl)) (hw _ (List.mem_of_getElem? (i := 47) rfl)) (by decide) (rm8 l Z a0 hw x1 x2 x3  h0 r80 g80 ) (by decide) (by decide) e0 pd_8 rfl rfl rfl (Nat.le_of_eq rfl) rfl rfl (by decide) (by decide) d7_3 rfl (fun T80 X80 e80 => ?_)
  refine Go.if_eq X80 hx hby (pc' := 44) d7_6 (by decide) (by decide) rfl (fun hc81 => ?_) (fun hc81 => ?_)
  · replace hf := (if_pos hc81).symm.trans hf
    refine Go.iconst X80 hx hby (v := (0 : Int32)) d7_44 rfl rfl ?_
    exact Go.iretN X80 hx hby hlk hret (Or.inl rfl) (w' := (0 : Int32)) rfl d7_45 (by decide) (by decide) ⟨congrArg (fun z => some (Value.int z)) (Option.some.inj hf), rfl, e80⟩
  · replace hf := (if_neg hc81).symm.trans hf
    refine Go.aloadN X80 hx hby (v := .ref cc) d7_9 rfl rfl rfl ?_
    refine Go.iloadN X80 hx hby (v := x3) d7_10 rfl rfl ?_
    rcases Decidable.em (inA G_cc x3) with hj82 | hj82
    case inr => exact absurd ((if_neg hj82).symm.trans hf) nofun
    replace hf := (if_pos hj82).symm.trans hf
    refine Go.baload X80 hx hby hZ e80 F_cc hj82 d7_11 rfl ?_
    refine Go.bipush X80 hx hby (v := (13 : Int32)) d7_12 rfl rfl ?_
    refine Go.icmp_eq X80 hx hby (pc' := 40) d7_14 (by decide) (by decide) rfl (fun hc83 => ?_) (fun hc83 => ?_)
    · replace hf := (if_pos hc83).symm.trans hf
      refine Go.iconst X80 hx hby (v := (1 : Int32)) d7_40 rfl rfl ?_
      refine Go.goto X80 hx hby (pc' := 45) d7_41 (by decide) (by decide) ?_
      exact Go.iretN X80 hx hby hlk hret (Or.inl rfl) (w' := (1 : Int32)) rfl d7_45 (by decide) (by decide) ⟨congrArg (fun z => some (Value.int z)) (Option.some.inj hf), rfl, e80⟩
    · replace hf := (if_neg hc83).symm.trans hf
      refine Go.aloadN X80 hx hby (v := .ref cc) d7_17 rfl rfl rfl ?_
      refine Go.iloadN X80 hx hby (v := x3) d7_18 rfl rfl ?_
      rcases Decidable.em (inA G_cc x3) with hj84 | hj84
      case inr => exact absurd ((if_neg hj84).symm.trans hf) nofun
      replace hf := (if_pos hj84).symm.trans hf
      refine Go.baload X80 hx hby hZ e80 F_cc hj84 d7_19 rfl ?_
      refine Go.bipush X80 hx hby (v := (10 : Int32)) d7_20 rfl rfl ?_
      refine Go.icmp_ne X80 hx hby (pc' := 44) d7_22 (by decide) (by decide) rfl (fun hc85 => ?_) (fun hc85 => ?_)
      · replace hf := (if_neg hc85).symm.trans hf
        refine Go.iconst X80 hx hby (v := (0 : Int32)) d7_44 rfl rfl ?_
        exact Go.iretN X80 hx hby hlk hret (Or.inl rfl) (w' := (0 : Int32)) rfl d7_45 (by decide) (by decide) ⟨congrArg (fun z => some (Value.int z)) (Option.some.inj hf), rfl, e80⟩
      · replace hf := (if_pos hc85).symm.trans hf
        refine Go.iloadN X80 hx hby (v := x3) d7_25 rfl rfl ?_
        refine Go.iloadN X80 hx hby (v := x1) d7_26 rfl rfl ?_
        refine Go.icmp_le X80 hx hby (pc' := 40) d7_27 (by decide) (by decide) rfl (fun hc86 => ?_) (fun hc86 => ?_)
        · replace hf := (if_neg hc86).symm.trans hf
          refine Go.iconst X80 hx hby (v := (1 : Int32)) d7_40 rfl rfl ?_
          refine Go.goto X80 hx hby (pc' := 45) d7_41 (by decide) (by decide) ?_
          exact Go.iretN X80 hx hby hlk hret (Or.inl rfl) (w' := (1 : Int32)) rfl d7_45 (by decide) (by decide) ⟨congrArg (fun z => some (Value.int z)) (Option.some.inj hf), rfl, e80⟩
        · replace hf := (if_pos hc86).symm.trans hf
          refine Go.aloadN X80 hx hby (v := .ref cc) d7_30 rfl rfl rfl ?_
          refine Go.iloadN X80 hx hby (v := x3) d7_31 rfl rfl ?_
          refine Go.iconst X80 hx hby (v := (1 : Int32)) d7_32 rfl rfl ?_
          refine Go.isub X80 hx hby d7_33 rfl ?_
          rcases Decidable.em (inA G_cc (x3 - (1 : Int32))) with hj87 | hj87
          case inr => exact absurd ((if_neg hj87).symm.trans hf) nofun
          replace hf := (if_pos hj87).symm.trans hf
          refine Go.baload X80 hx hby hZ e80 F_cc hj87 d7_34 rfl ?_
          refine Go.bipush X80 hx hby (v := (13 : Int32)) d7_35 rfl rfl ?_
          refine Go.icmp_eq X80 hx hby (pc' := 44) d7_37 (by decide) (by decide) rfl (fun hc88 => ?_) (fun hc88 => ?_)
          · replace hf := (if_pos hc88).symm.trans hf
            refine Go.iconst X80 hx hby (v := (0 : Int32)) d7_44 rfl rfl ?_
            exact Go.iretN X80 hx hby hlk hret (Or.inl rfl) (w' := (0 : Int32)) rfl d7_45 (by decide) (by decide) ⟨congrArg (fun z => some (Value.int z)) (Option.some.inj hf), rfl, e80⟩
          · replace hf := (if_neg hc88).symm.trans hf
            refine Go.iconst X80 hx hby (v := (1 : Int32)) d7_40 rfl rfl ?_
            refine Go.goto X80 hx hby (pc' := 45) d7_41 (by decide) (by decide) ?_
            exact Go.iretN X80 hx hby hlk hret (Or.inl rfl) (w' := (1 : Int32)) rfl d7_45 (by decide) (by decide) ⟨congrArg (fun z => some (Value.int z)) (Option.some.inj hf), rfl, e80⟩
-- body 6
def f6_0 (x1 : Int32) (x2 : Int32) (x3 : Int32) (G_cc : List Int32) : Option (Int32) := (f7_0 x1 x2 x3 G_cc).bind fun r89 => if r89 = 0 then some (0 : Int32) else some (1 : Int32)
theorem d6_0 : decode method_5_code 0 = .ok (.aload_n 0, 1) := by decide +kernel
theorem d6_1 : decode method_5_code 1 = .ok (.iload_n 1, 1) := by decide +kernel
theorem d6_2 : decode method_5_code 2 = .ok (.iload_n 2, 1) := by decide +kernel
theorem d6_3 : decode method_5_code 3 = .ok (.iload_n 3, 1) := by decide +kernel
theorem d6_4 : decode method_5_code 4 = .ok (.invokestatic 37, 3) := by decide +kernel
theorem d6_7 : decode method_5_code 7 = .ok (.ifCond .eq 7, 3) := by decide +kernel
theorem d6_10 : decode method_5_code 10 = .ok (.iconst 1, 1) := by decide +kernel
theorem d6_11 : decode method_5_code 11 = .ok (.goto 4, 3) := by decide +kernel
theorem d6_14 : decode method_5_code 14 = .ok (.iconst 0, 1) := by decide +kernel
theorem d6_15 : decode method_5_code 15 = .ok (.ireturn, 1) := by decide +kernel
abbrev Y6 : MethodName := ⟨"com/example/yarrow/yarrow/data/StartTagsMoveToPinLaw", "brk", "([BIII)I"⟩
def RM6 : Room := { frames := 2, cells := 0, slots := 0, locals := 29 }
theorem pd_6 : parseMethodDescriptor Y6.desc = some ⟨[(.array .byte), .int, .int, .int], some .int⟩ := by decide +kernel
theorem pn_6 : plainName "com/example/yarrow/yarrow/data/StartTagsMoveToPinLaw" = true := by first | (simp [plainName, overriddenIn]; done) | decide +kernel
theorem ef_6 (m : MethodId) (cc : Addr) (x1 : Int32) (x2 : Int32) (x3 : Int32) : entryFrame m #[.ref cc, .int x1, .int x2, .int x3] 4 = mkF m 0 #[.val (.ref cc), .val (.int x1), .val (.int x2), .val (.int x3)] [] := by first | (simp [entryFrame, mkF, argsToLocals, Value.category]; done) | rfl
set_option maxRecDepth 65536 in
set_option maxHeartbeats 40000000 in
theorem rm6 (l : Launch) (Z : State) (a0 : Array Value) (hw : ∀ d ∈ tables_1, d.before a0 Z = true) (cc : Addr) (x1 : Int32) (x2 : Int32) (x3 : Int32) (G_cc : List Int32) (h0 : Heap) (r : Int32) (hf : f6_0 x1 x2 x3 G_cc = some r) (F_cc : AryI Z h0 cc .byte G_cc) :
    MetFree l Y6 (head1 ([Jvm.Cond.code Y6 method_5_code 4 (some .int)]) RM6) (fun a U => a = #[.ref cc, .int x1, .int x2, .int x3] ∧ Z.Warmed39 U.vm ∧ U.heap = h0) (fun _ _ _ _ _ => True) (fun _ U o U' => ∃ v L, o = .returned v ∧ (PQ h0 (some (.int r))) v U'.heap L ∧ FrameEnd U o U' L RM6.cells RM6.slots) := by
  refine MetFree.of_bodySF (plainFor_of_name pn_6) hisR ?_
  intro p e s m args below meth c s₁ Bd hml0 hP hK
  obtain ⟨rfl, hZ, hh⟩ := hP
  have hx := Bd.exec
  have hby := Bd.bytes
  have hlk : meth.locks = false := BodyLoose.notSynchronized Bd
  have hret := Bd.returns
  have hml : c.maxLocals = 4 := hml0
  have hown : s.vm.findClass "com/example/yarrow/yarrow/data/StartTagsMoveToPinLaw" = some m.cls := findClass_of_methodNamed Bd.named
  have X0 : Stand p l e RM6 s m #[.ref cc, .int x1, .int x2, .int x3] below meth c s₁ [] 0 0 := Stand.of_body Bd
  have e0 : s₁.heap = h0 := by rw [← hh, Bd.state]; rfl
  suffices G : Go p e below s RM6.cells RM6.slots (PQ h0 (some (.int r))) m s₁ 0 #[.val (.ref cc), .val (.int x1), .val (.int x2), .val (.int x3)] [] by
    obtain ⟨s₂, o, h1, h2⟩ := G
    exact ⟨s₂, o, castTop (ef_6 m cc x1 x2 x3) h1, h2⟩
  have hf0 := hf
  clear hf
  have hf := hf0
  unfold f6_0 at hf
  refine Go.aloadN X0 hx hby (v := .ref cc) d6_0 rfl rfl rfl ?_
  refine Go.iloadN X0 hx hby (v := x1) d6_1 rfl rfl ?_
  refine Go.iloadN X0 hx hby (v := x2) d6_2 rfl rfl ?_
  refine Go.iloadN X0 hx hby (v := x3) d6_3 rfl rfl ?_
  obtain ⟨r91, g91, hf⟩ := Option.bind_eq_some_iff.mp hf
  refine Go.callSP X0 hx hby hZ (by rw [hml]; rfl) (W := 0) (argsL := [.ref cc, .int x1, .int x2, .int x3]) (rest := []) hown (hw _ (List.mem_of_getElem? (i := 42) rfl)) (hw _ (List.mem_of_getElem? (i := 43) rfl)) (hw _ (List.mem_of_getElem? (i := 37) rfl)) (hw _ (List.mem_of_getElem? (i := 44) rfl)) (by decide) (rm7 l Z a0 hw cc x1 x2 x3 G_cc h0 r91 g91 F_cc) (by decide) (by decide) e0 pd_7 rfl rfl rfl (Nat.le_of_eq rfl) rfl rfl (by decide) (by decide) d6_4 rfl (fun T91 X91 e91 => ?_)
  refine Go.if_eq X91 hx hby (pc' := 14) d6_7 (by decide) (by decide) rfl (fun hc92 => ?_) (fun hc92 => ?_)
  · replace hf := (if_pos hc92).symm.trans hf
    refine Go.iconst X91 hx hby (v := (0 : Int32)) d6_14 rfl rfl ?_
    exact Go.iretI X91 hx hby hlk hret d6_15 (by decide) (by decide) ⟨congrArg (fun z => some (Value.int z)) (Option.some.inj hf), rfl, e91⟩
  · replace hf := (if_neg hc92).symm.trans hf
    refine Go.iconst X91 hx hby (v := (1 : Int32)) d6_10 rfl rfl ?_
    refine Go.goto X91 hx hby (pc' := 15) d6_11 (by decide) (by decide) ?_
    exact Go.iretI X91 hx hby hlk hret d6_15 (by decide) (by decide) ⟨congrArg (fun z => some (Value.int z)) (Option.some.inj hf), rfl, e91⟩
-- body 5
def f5_0 (x1 : Int32) (x2 : Int32) (G_cc : List Int32) : Option (Int32) := (f6_0 x1 x2 (0 : Int32) G_cc).bind fun r93 => (f6_0 x1 x2 (1 : Int32) G_cc).bind fun r94 => (f6_0 x1 x2 (2 : Int32) G_cc).bind fun r95 => (f6_0 x1 x2 (3 : Int32) G_cc).bind fun r96 => (f6_0 x1 x2 (4 : Int32) G_cc).bind fun r97 => (f6_0 x1 x2 (5 : Int32) G_cc).bind fun r98 => some (((((((1 : Int32) + r93) + r94) + r95) + r96) + r97) + r98)
theorem d5_0 : decode method_6_code 0 = .ok (.iconst 1, 1) := by decide +kernel
theorem d5_1 : decode method_6_code 1 = .ok (.aload_n 0, 1) := by decide +kernel
theorem d5_2 : decode method_6_code 2 = .ok (.iload_n 1, 1) := by decide +kernel
theorem d5_3 : decode method_6_code 3 = .ok (.iload_n 2, 1) := by decide +kernel
theorem d5_4 : decode method_6_code 4 = .ok (.iconst 0, 1) := by decide +kernel
theorem d5_5 : decode method_6_code 5 = .ok (.invokestatic 41, 3) := by decide +kernel
theorem d5_8 : decode method_6_code 8 = .ok (.iadd, 1) := by decide +kernel
theorem d5_9 : decode method_6_code 9 = .ok (.aload_n 0, 1) := by decide +kernel
theorem d5_10 : decode method_6_code 10 = .ok (.iload_n 1, 1) := by decide +kernel
theorem d5_11 : decode method_6_code 11 = .ok (.iload_n 2, 1) := by decide +kernel
theorem d5_12 : decode method_6_code 12 = .ok (.iconst 1, 1) := by decide +kernel
theorem d5_13 : decode method_6_code 13 = .ok (.invokestatic 41, 3) := by decide +kernel
theorem d5_16 : decode method_6_code 16 = .ok (.iadd, 1) := by decide +kernel
theorem d5_17 : decode method_6_code 17 = .ok (.aload_n 0, 1) := by decide +kernel
theorem d5_18 : decode method_6_code 18 = .ok (.iload_n 1, 1) := by decide +kernel
theorem d5_19 : decode method_6_code 19 = .ok (.iload_n 2, 1) := by decide +kernel
theorem d5_20 : decode method_6_code 20 = .ok (.iconst 2, 1) := by decide +kernel
theorem d5_21 : decode method_6_code 21 = .ok (.invokestatic 41, 3) := by decide +kernel
theorem d5_24 : decode method_6_code 24 = .ok (.iadd, 1) := by decide +kernel
theorem d5_25 : decode method_6_code 25 = .ok (.aload_n 0, 1) := by decide +kernel
theorem d5_26 : decode method_6_code 26 = .ok (.iload_n 1, 1) := by decide +kernel
theorem d5_27 : decode method_6_code 27 = .ok (.iload_n 2, 1) := by decide +kernel
theorem d5_28 : decode method_6_code 28 = .ok (.iconst 3, 1) := by decide +kernel
theorem d5_29 : decode method_6_code 29 = .ok (.invokestatic 41, 3) := by decide +kernel
theorem d5_32 : decode method_6_code 32 = .ok (.iadd, 1) := by decide +kernel
theorem d5_33 : decode method_6_code 33 = .ok (.aload_n 0, 1) := by decide +kernel
theorem d5_34 : decode method_6_code 34 = .ok (.iload_n 1, 1) := by decide +kernel
theorem d5_35 : decode method_6_code 35 = .ok (.iload_n 2, 1) := by decide +kernel
theorem d5_36 : decode method_6_code 36 = .ok (.iconst 4, 1) := by decide +kernel
theorem d5_37 : decode method_6_code 37 = .ok (.invokestatic 41, 3) := by decide +kernel
theorem d5_40 : decode method_6_code 40 = .ok (.iadd, 1) := by decide +kernel
theorem d5_41 : decode method_6_code 41 = .ok (.aload_n 0, 1) := by decide +kernel
theorem d5_42 : decode method_6_code 42 = .ok (.iload_n 1, 1) := by decide +kernel
theorem d5_43 : decode method_6_code 43 = .ok (.iload_n 2, 1) := by decide +kernel
theorem d5_44 : decode method_6_code 44 = .ok (.iconst 5, 1) := by decide +kernel
theorem d5_45 : decode method_6_code 45 = .ok (.invokestatic 41, 3) := by decide +kernel
theorem d5_48 : decode method_6_code 48 = .ok (.iadd, 1) := by decide +kernel
theorem d5_49 : decode method_6_code 49 = .ok (.ireturn, 1) := by decide +kernel
abbrev Y5 : MethodName := ⟨"com/example/yarrow/yarrow/data/StartTagsMoveToPinLaw", "refLine", "([BII)I"⟩
def RM5 : Room := { frames := 3, cells := 0, slots := 0, locals := 45 }
theorem pd_5 : parseMethodDescriptor Y5.desc = some ⟨[(.array .byte), .int, .int], some .int⟩ := by decide +kernel
theorem pn_5 : plainName "com/example/yarrow/yarrow/data/StartTagsMoveToPinLaw" = true := by first | (simp [plainName, overriddenIn]; done) | decide +kernel
theorem ef_5 (m : MethodId) (cc : Addr) (x1 : Int32) (x2 : Int32) : entryFrame m #[.ref cc, .int x1, .int x2] 3 = mkF m 0 #[.val (.ref cc), .val (.int x1), .val (.int x2)] [] := by first | (simp [entryFrame, mkF, argsToLocals, Value.category]; done) | rfl
set_option maxRecDepth 65536 in
set_option maxHeartbeats 40000000 in
theorem rm5 (l : Launch) (Z : State) (a0 : Array Value) (hw : ∀ d ∈ tables_1, d.before a0 Z = true) (cc : Addr) (x1 : Int32) (x2 : Int32) (G_cc : List Int32) (h0 : Heap) (r : Int32) (hf : f5_0 x1 x2 G_cc = some r) (F_cc : AryI Z h0 cc .byte G_cc) :
    MetFree l Y5 (head1 ([Jvm.Cond.code Y5 method_6_code 3 (some .int)]) RM5) (fun a U => a = #[.ref cc, .int x1, .int x2] ∧ Z.Warmed39 U.vm ∧ U.heap = h0) (fun _ _ _ _ _ => True) (fun _ U o U' => ∃ v L, o = .returned v ∧ (PQ h0 (some (.int r))) v U'.heap L ∧ FrameEnd U o U' L RM5.cells RM5.slots) := by
  refine MetFree.of_bodySF (plainFor_of_name pn_5) hisR ?_
  intro p e s m args below meth c s₁ Bd hml0 hP hK
  obtain ⟨rfl, hZ, hh⟩ := hP
  have hx := Bd.exec
  have hby := Bd.bytes
  have hlk : meth.locks = false := BodyLoose.notSynchronized Bd
  have hret := Bd.returns
  have hml : c.maxLocals = 3 := hml0
  have hown : s.vm.findClass "com/example/yarrow/yarrow/data/StartTagsMoveToPinLaw" = some m.cls := findClass_of_methodNamed Bd.named
  have X0 : Stand p l e RM5 s m #[.ref cc, .int x1, .int x2] below meth c s₁ [] 0 0 := Stand.of_body Bd
  have e0 : s₁.heap = h0 := by rw [← hh, Bd.state]; rfl
  suffices G : Go p e below s RM5.cells RM5.slots (PQ h0 (some (.int r))) m s₁ 0 #[.val (.ref cc), .val (.int x1), .val (.int x2)] [] by
    obtain ⟨s₂, o, h1, h2⟩ := G
    exact ⟨s₂, o, castTop (ef_5 m cc x1 x2) h1, h2⟩
  have hf0 := hf
  clear hf
  have hf := hf0
  unfold f5_0 at hf
  refine Go.iconst X0 hx hby (v := (1 : Int32)) d5_0 rfl rfl ?_
  refine Go.aloadN X0 hx hby (v := .ref cc) d5_1 rfl rfl rfl ?_
  refine Go.iloadN X0 hx hby (v := x1) d5_2 rfl rfl ?_
  refine Go.iloadN X0 hx hby (v := x2) d5_3 rfl rfl ?_
  refine Go.iconst X0 hx hby (v := (0 : Int32)) d5_4 rfl rfl ?_
  obtain ⟨r99, g99, hf⟩ := Option.bind_eq_some_iff.mp hf
  refine Go.callSP X0 hx hby hZ (by rw [hml]; rfl) (W := 1) (argsL := [.ref cc, .int x1, .int x2, .int (0 : Int32)]) (rest := [.int (1 : Int32)]) hown (hw _ (List.mem_of_getElem? (i := 39) rfl)) (hw _ (List.mem_of_getElem? (i := 40) rfl)) (hw _ (List.mem_of_getElem? (i := 37) rfl)) (hw _ (List.mem_of_getElem? (i := 41) rfl)) (by decide) (rm6 l Z a0 hw cc x1 x2 (0 : Int32) G_cc h0 r99 g99 F_cc) (by decide) (by decide) e0 pd_6 rfl rfl rfl (Nat.le_of_eq rfl) rfl rfl (by decide) (by decide) d5_5 rfl (fun T99 X99 e99 => ?_)
  refine Go.iadd X99 hx hby d5_8 rfl ?_
  refine Go.aloadN X99 hx hby (v := .ref cc) d5_9 rfl rfl rfl ?_
  refine Go.iloadN X99 hx hby (v := x1) d5_10 rfl rfl ?_
  refine Go.iloadN X99 hx hby (v := x2) d5_11 rfl rfl ?_
  refine Go.iconst X99 hx hby (v := (1 : Int32)) d5_12 rfl rfl ?_
  obtain ⟨r100, g100, hf⟩ := Option.bind_eq_some_iff.mp hf
  refine Go.callSP X99 hx hby hZ (by rw [hml]; rfl) (W := 1) (argsL := [.ref cc, .int x1, .int x2, .int (1 : Int32)]) (rest := [.int ((1 : Int32) + r99)]) hown (hw _ (List.mem_of_getElem? (i := 39) rfl)) (hw _ (List.mem_of_getElem? (i := 40) rfl)) (hw _ (List.mem_of_getElem? (i := 37) rfl)) (hw _ (List.mem_of_getElem? (i := 41) rfl)) (by decide) (rm6 l Z a0 hw cc x1 x2 (1 : Int32) G_cc h0 r100 g100 F_cc) (by decide) (by decide) e99 pd_6 rfl rfl rfl (Nat.le_of_eq rfl) rfl rfl (by decide) (by decide) d5_13 rfl (fun T100 X100 e100 => ?_)
  refine Go.iadd X100 hx hby d5_16 rfl ?_
  refine Go.aloadN X100 hx hby (v := .ref cc) d5_17 rfl rfl rfl ?_
  refine Go.iloadN X100 hx hby (v := x1) d5_18 rfl rfl ?_
  refine Go.iloadN X100 hx hby (v := x2) d5_19 rfl rfl ?_
  refine Go.iconst X100 hx hby (v := (2 : Int32)) d5_20 rfl rfl ?_
  obtain ⟨r101, g101, hf⟩ := Option.bind_eq_some_iff.mp hf
  refine Go.callSP X100 hx hby hZ (by rw [hml]; rfl) (W := 1) (argsL := [.ref cc, .int x1, .int x2, .int (2 : Int32)]) (rest := [.int (((1 : Int32) + r99) + r100)]) hown (hw _ (List.mem_of_getElem? (i := 39) rfl)) (hw _ (List.mem_of_getElem? (i := 40) rfl)) (hw _ (List.mem_of_getElem? (i := 37) rfl)) (hw _ (List.mem_of_getElem? (i := 41) rfl)) (by decide) (rm6 l Z a0 hw cc x1 x2 (2 : Int32) G_cc h0 r101 g101 F_cc) (by decide) (by decide) e100 pd_6 rfl rfl rfl (Nat.le_of_eq rfl) rfl rfl (by decide) (by decide) d5_21 rfl (fun T101 X101 e101 => ?_)
  refine Go.iadd X101 hx hby d5_24 rfl ?_
  refine Go.aloadN X101 hx hby (v := .ref cc) d5_25 rfl rfl rfl ?_
  refine Go.iloadN X101 hx hby (v := x1) d5_26 rfl rfl ?_
  refine Go.iloadN X101 hx hby (v := x2) d5_27 rfl rfl ?_
  refine Go.iconst X101 hx hby (v := (3 : Int32)) d5_28 rfl rfl ?_
  obtain ⟨r102, g102, hf⟩ := Option.bind_eq_some_iff.mp hf
  refine Go.callSP X101 hx hby hZ (by rw [hml]; rfl) (W := 1) (argsL := [.ref cc, .int x1, .int x2, .int (3 : Int32)]) (rest := [.int ((((1 : Int32) + r99) + r100) + r101)]) hown (hw _ (List.mem_of_getElem? (i := 39) rfl)) (hw _ (List.mem_of_getElem? (i := 40) rfl)) (hw _ (List.mem_of_getElem? (i := 37) rfl)) (hw _ (List.mem_of_getElem? (i := 41) rfl)) (by decide) (rm6 l Z a0 hw cc x1 x2 (3 : Int32) G_cc h0 r102 g102 F_cc) (by decide) (by decide) e101 pd_6 rfl rfl rfl (Nat.le_of_eq rfl) rfl rfl (by decide) (by decide) d5_29 rfl (fun T102 X102 e102 => ?_)
  refine Go.iadd X102 hx hby d5_32 rfl ?_
  refine Go.aloadN X102 hx hby (v := .ref cc) d5_33 rfl rfl rfl ?_
  refine Go.iloadN X102 hx hby (v := x1) d5_34 rfl rfl ?_
  refine Go.iloadN X102 hx hby (v := x2) d5_35 rfl rfl ?_
  refine Go.iconst X102 hx hby (v := (4 : Int32)) d5_36 rfl rfl ?_
  obtain ⟨r103, g103, hf⟩ := Option.bind_eq_some_iff.mp hf
  refine Go.callSP X102 hx hby hZ (by rw [hml]; rfl) (W := 1) (argsL := [.ref cc, .int x1, .int x2, .int (4 : Int32)]) (rest := [.int (((((1 : Int32) + r99) + r100) + r101) + r102)]) hown (hw _ (List.mem_of_getElem? (i := 39) rfl)) (hw _ (List.mem_of_getElem? (i := 40) rfl)) (hw _ (List.mem_of_getElem? (i := 37) rfl)) (hw _ (List.mem_of_getElem? (i := 41) rfl)) (by decide) (rm6 l Z a0 hw cc x1 x2 (4 : Int32) G_cc h0 r103 g103 F_cc) (by decide) (by decide) e102 pd_6 rfl rfl rfl (Nat.le_of_eq rfl) rfl rfl (by decide) (by decide) d5_37 rfl (fun T103 X103 e103 => ?_)
  refine Go.iadd X103 hx hby d5_40 rfl ?_
  refine Go.aloadN X103 hx hby (v := .ref cc) d5_41 rfl rfl rfl ?_
  refine Go.iloadN X103 hx hby (v := x1) d5_42 rfl rfl ?_
  refine Go.iloadN X103 hx hby (v := x2) d5_43 rfl rfl ?_
  refine Go.iconst X103 hx hby (v := (5 : Int32)) d5_44 rfl rfl ?_
  obtain ⟨r104, g104, hf⟩ := Option.bind_eq_some_iff.mp hf
  refine Go.callSP X103 hx hby hZ (by rw [hml]; rfl) (W := 1) (argsL := [.ref cc, .int x1, .int x2, .int (5 : Int32)]) (rest := [.int ((((((1 : Int32) + r99) + r100) + r101) + r102) + r103)]) hown (hw _ (List.mem_of_getElem? (i := 39) rfl)) (hw _ (List.mem_of_getElem? (i := 40) rfl)) (hw _ (List.mem_of_getElem? (i := 37) rfl)) (hw _ (List.mem_of_getElem? (i := 41) rfl)) (by decide) (rm6 l Z a0 hw cc x1 x2 (5 : Int32) G_cc h0 r104 g104 F_cc) (by decide) (by decide) e103 pd_6 rfl rfl rfl (Nat.le_of_eq rfl) rfl rfl (by decide) (by decide) d5_45 rfl (fun T104 X104 e104 => ?_)
  refine Go.iadd X104 hx hby d5_48 rfl ?_
  exact Go.iretI X104 hx hby hlk hret d5_49 (by decide) (by decide) ⟨congrArg (fun z => some (Value.int z)) (Option.some.inj hf), rfl, e104⟩
-- body 9
def f9_0 (G_oo_line : Int32) (G_oo_column : Int32) (G_oo_start : Int32) (G_oo_scan : Int32) (G_oo_counted : Int32) (G_oo_afterCarriageReturn : Int32) (G_cc : List Int32) : Option (Int32) := some G_oo_column
theorem d9_0 : decode prog_31_method_4_code 0 = .ok (.aload_n 0, 1) := by decide +kernel
theorem d9_1 : decode prog_31_method_4_code 1 = .ok (.getfield 13, 3) := by decide +kernel
theorem d9_4 : decode prog_31_method_4_code 4 = .ok (.ireturn, 1) := by decide +kernel
abbrev Y9 : MethodName := ⟨"com/example/yarrow/yarrow/data/StartTags", "column", "()I"⟩
def RM9 : Room := { frames := 0, cells := 0, slots := 0, locals := 0 }
theorem pd_9 : parseMethodDescriptor Y9.desc = some ⟨[], some .int⟩ := by decide +kernel
theorem pn_9 : plainName "com/example/yarrow/yarrow/data/StartTags" = true := by first | (simp [plainName, overriddenIn]; done) | decide +kernel
theorem ef_9 (m : MethodId) (oo : Addr) : entryFrame m #[.ref oo] 1 = mkF m 0 #[.val (.ref oo)] [] := by first | (simp [entryFrame, mkF, argsToLocals, Value.category]; done) | rfl
set_option maxRecDepth 65536 in
set_option maxHeartbeats 40000000 in
theorem rm9 (l : Launch) (Z : State) (a0 : Array Value) (hw : ∀ d ∈ tables_1, d.before a0 Z = true) (oo : Addr) (cc : Addr) (G_oo_line : Int32) (G_oo_column : Int32) (G_oo_start : Int32) (G_oo_scan : Int32) (G_oo_counted : Int32) (G_oo_afterCarriageReturn : Int32) (G_cc : List Int32) (h0 : Heap) (r : Int32) (hf : f9_0 G_oo_line G_oo_column G_oo_start G_oo_scan G_oo_counted G_oo_afterCarriageReturn G_cc = some r) (F_oo : Ob_S Z h0 oo (.int G_oo_line) (.int G_oo_column) (.ref cc) (.int G_oo_start) (.int G_oo_scan) (.int G_oo_counted) (.int G_oo_afterCarriageReturn)) (F_cc : AryI Z h0 cc .byte G_cc) :
    MetFree l Y9 (head1 ([Jvm.Cond.code Y9 prog_31_method_4_code 1 (some .int)]) RM9) (fun a U => a = #[.ref oo] ∧ Z.Warmed39 U.vm ∧ U.heap = h0) (fun _ _ _ _ _ => True) (fun _ U o U' => ∃ v L, o = .returned v ∧ (PQ h0 (some (.int r))) v U'.heap L ∧ FrameEnd U o U' L RM9.cells RM9.slots) := by
  refine MetFree.of_bodySF (plainFor_of_name pn_9) hisR ?_
  intro p e s m args below meth c s₁ Bd hml0 hP hK
  obtain ⟨rfl, hZ, hh⟩ := hP
  have hx := Bd.exec
  have hby := Bd.bytes
  have hlk : meth.locks = false := BodyLoose.notSynchronized Bd
  have hret := Bd.returns
  have hml : c.maxLocals = 1 := hml0
  have hown : s.vm.findClass "com/example/yarrow/yarrow/data/StartTags" = some m.cls := findClass_of_methodNamed Bd.named
  have X0 : Stand p l e RM9 s m #[.ref oo] below meth c s₁ [] 0 0 := Stand.of_body Bd
  have e0 : s₁.heap = h0 := by rw [← hh, Bd.state]; rfl
  suffices G : Go p e below s RM9.cells RM9.slots (PQ h0 (some (.int r))) m s₁ 0 #[.val (.ref oo)] [] by
    obtain ⟨s₂, o, h1, h2⟩ := G
    exact ⟨s₂, o, castTop (ef_9 m oo) h1, h2⟩
  have hf0 := hf
  clear hf
  have hf := hf0
  unfold f9_0 at hf
  refine Go.aloadN X0 hx hby (v := .ref oo) d9_0 rfl rfl rfl ?_
  refine Go.getF X0 hx hby hZ hown (hw _ (List.mem_of_getElem? (i := 13) rfl)) e0 (Ob_S.get_column F_oo) d9_1 rfl (fun T106 X106 e106 => ?_)
  exact Go.iretI X106 hx hby hlk hret d9_4 (by decide) (by decide) ⟨congrArg (fun z => some (Value.int z)) (Option.some.inj hf), rfl, e106⟩
-- body 11
def f11_0 (x1 : Int32) (x2 : Int32) (x3 : Int32) (x4 : Int32) (G_cc : List Int32) : Option (Int32) := (f8_0 x1 x2 x4).bind fun r107 => if r107 = 0 then some (0 : Int32) else if x3 < x4 then if inA G_cc x4 then if (atA G_cc x4) = (10 : Int32) then some (0 : Int32) else if inA G_cc x4 then if ((atA G_cc x4) &&& (192 : Int32)) = (128 : Int32) then some (0 : Int32) else some (1 : Int32) else none else none else some (0 : Int32)
theorem d11_0 : decode method_7_code 0 = .ok (.iload_n 1, 1) := by decide +kernel
theorem d11_1 : decode method_7_code 1 = .ok (.iload_n 2, 1) := by decide +kernel
theorem d11_2 : decode method_7_code 2 = .ok (.iload 4, 2) := by decide +kernel
theorem d11_4 : decode method_7_code 4 = .ok (.invokestatic 33, 3) := by decide +kernel
theorem d11_7 : decode method_7_code 7 = .ok (.ifCond .eq 36, 3) := by decide +kernel
theorem d11_10 : decode method_7_code 10 = .ok (.iload 4, 2) := by decide +kernel
theorem d11_12 : decode method_7_code 12 = .ok (.iload_n 3, 1) := by decide +kernel
theorem d11_13 : decode method_7_code 13 = .ok (.if_icmp .le 30, 3) := by decide +kernel
theorem d11_16 : decode method_7_code 16 = .ok (.aload_n 0, 1) := by decide +kernel
theorem d11_17 : decode method_7_code 17 = .ok (.iload 4, 2) := by decide +kernel
theorem d11_19 : decode method_7_code 19 = .ok (.baload, 1) := by decide +kernel
theorem d11_20 : decode method_7_code 20 = .ok (.bipush 10, 2) := by decide +kernel
theorem d11_22 : decode method_7_code 22 = .ok (.if_icmp .eq 21, 3) := by decide +kernel
theorem d11_25 : decode method_7_code 25 = .ok (.aload_n 0, 1) := by decide +kernel
theorem d11_26 : decode method_7_code 26 = .ok (.iload 4, 2) := by decide +kernel
theorem d11_28 : decode method_7_code 28 = .ok (.baload, 1) := by decide +kernel
theorem d11_29 : decode method_7_code 29 = .ok (.sipush 192, 3) := by decide +kernel
theorem d11_32 : decode method_7_code 32 = .ok (.iand, 1) := by decide +kernel
theorem d11_33 : decode method_7_code 33 = .ok (.sipush 128, 3) := by decide +kernel
theorem d11_36 : decode method_7_code 36 = .ok (.if_icmp .eq 7, 3) := by decide +kernel
theorem d11_39 : decode method_7_code 39 = .ok (.iconst 1, 1) := by decide +kernel
theorem d11_40 : decode method_7_code 40 = .ok (.goto 4, 3) := by decide +kernel
theorem d11_43 : decode method_7_code 43 = .ok (.iconst 0, 1) := by decide +kernel
theorem d11_44 : decode method_7_code 44 = .ok (.ireturn, 1) := by decide +kernel
abbrev Y11 : MethodName := ⟨"com/example/yarrow/yarrow/data/StartTagsMoveToPinLaw", "counts", "([BIIII)I"⟩
def RM11 : Room := { frames := 1, cells := 0, slots := 0, locals := 14 }
theorem pd_11 : parseMethodDescriptor Y11.desc = some ⟨[(.array .byte), .int, .int, .int, .int], some .int⟩ := by decide +kernel
theorem pn_11 : plainName "com/example/yarrow/yarrow/data/StartTagsMoveToPinLaw" = true := by first | (simp [plainName, overriddenIn]; done) | decide +kernel
theorem ef_11 (m : MethodId) (cc : Addr) (x1 : Int32) (x2 : Int32) (x3 : Int32) (x4 : Int32) : entryFrame m #[.ref cc, .int x1, .int x2, .int x3, .int x4] 5 = mkF m 0 #[.val (.ref cc), .val (.int x1), .val (.int x2), .val (.int x3), .val (.int x4)] [] := by first | (simp [entryFrame, mkF, argsToLocals, Value.category]; done) | rfl
set_option maxRecDepth 65536 in
set_option maxHeartbeats 40000000 in
theorem rm11 (l : Launch) (Z : State) (a0 : Array Value) (hw : ∀ d ∈ tables_1, d.before a0 Z = true) (cc : Addr) (x1 : Int32) (x2 : Int32) (x3 : Int32) (x4 : Int32) (G_cc : List Int32) (h0 : Heap) (r : Int32) (hf : f11_0 x1 x2 x3 x4 G_cc = some r) (F_cc : AryI Z h0 cc .byte G_cc) :
    MetFree l Y11 (head1 ([Jvm.Cond.code Y11 method_7_code 5 (some .int)]) RM11) (fun a U => a = #[.ref cc, .int x1, .int x2, .int x3, .int x4] ∧ Z.Warmed39 U.vm ∧ U.heap = h0) (fun _ _ _ _ _ => True) (fun _ U o U' => ∃ v L, o = .returned v ∧ (PQ h0 (some (.int r))) v U'.heap L ∧ FrameEnd U o U' L RM11.cells RM11.slots) := by
  refine MetFree.of_bodySF (plainFor_of_name pn_11) hisR ?_
  intro p e s m args below meth c s₁ Bd hml0 hP hK
  obtain ⟨rfl, hZ, hh⟩ := hP
  have hx := Bd.exec
  have hby := Bd.bytes
  have hlk : meth.locks = false := BodyLoose.notSynchronized Bd
  have hret := Bd.returns
  have hml : c.maxLocals = 5 := hml0
  have hown : s.vm.findClass "com/example/yarrow/yarrow/data/StartTagsMoveToPinLaw" = some m.cls := findClass_of_methodNamed Bd.named
  have X0 : Stand p l e RM11 s m #[.ref cc, .int x1, .int x2, .int x3, .int x4] below meth c s₁ [] 0 0 := Stand.of_body Bd
  have e0 : s₁.heap = h0 := by rw [← hh, Bd.state]; rfl
  suffices G : Go p e below s RM11.cells RM11.slots (PQ h0 (some (.int r))) m s₁ 0 #[.val (.ref cc), .val (.int x1), .val (.int x2), .val (.int x3), .val (.int x4)] [] by
    obtain ⟨s₂, o, h1, h2⟩ := G
    exact ⟨s₂, o, castTop (ef_11 m cc x1 x2 x3 x4) h1, h2⟩
  have hf0 := hf
  clear hf
  have hf := hf0
  unfold f11_0 at hf
  refine Go.iloadN X0 hx hby (v := x1) d11_0 rfl rfl ?_
  refine Go.iloadN X0 hx hby (v := x2) d11_1 rfl rfl ?_
  refine Go.iload X0 hx hby (v := x4) d11_2 rfl rfl ?_
  obtain ⟨r114, g114, hf⟩ := Option.bind_eq_some_iff.mp hf
  refine Go.callSP X0 hx hby hZ (by rw [hml]; rfl) (W := 0) (argsL := [.int x1, .int x2, .int x4]) (rest := []) hown (hw _ (List.mem_of_getElem? (i := 45) rfl)) (hw _ (List.mem_of_getElem? (i := 46) rfl)) (hw _ (List.mem_of_getElem? (i := 37) rfl)) (hw _ (List.mem_of_getElem? (i := 47) rfl)) (by decide) (rm8 l Z a0 hw x1 x2 x4  h0 r114 g114 ) (by decide) (by decide) e0 pd_8 rfl rfl rfl (Nat.le_of_eq rfl) rfl rfl (by decide) (by decide) d11_4 rfl (fun T114 X114 e114 => ?_)
  refine Go.if_eq X114 hx hby (pc' := 43) d11_7 (by decide) (by decide) rfl (fun hc115 => ?_) (fun hc115 => ?_)
  · replace hf := (if_pos hc115).symm.trans hf
    refine Go.iconst X114 hx hby (v := (0 : Int32)) d11_43 rfl rfl ?_
    exact Go.iretI X114 hx hby hlk hret d11_44 (by decide) (by decide) ⟨congrArg (fun z => some (Value.int z)) (Option.some.inj hf), rfl, e114⟩
  · replace hf := (if_neg hc115).symm.trans hf
    refine Go.iload X114 hx hby (v := x4) d11_10 rfl rfl ?_
    refine Go.iloadN X114 hx hby (v := x3) d11_12 rfl rfl ?_
    refine Go.icmp_le X114 hx hby (pc' := 43) d11_13 (by decide) (by decide) rfl (fun hc116 => ?_) (fun hc116 => ?_)
    · replace hf := (if_neg hc116).symm.trans hf
      refine Go.iconst X114 hx hby (v := (0 : Int32)) d11_43 rfl rfl ?_
      exact Go.iretI X114 hx hby hlk hret d11_44 (by decide) (by decide) ⟨congrArg (fun z => some (Value.int z)) (Option.some.inj hf), rfl, e114⟩
    · replace hf := (if_pos hc116).symm.trans hf
      refine Go.aloadN X114 hx hby (v := .ref cc) d11_16 rfl rfl rfl ?_
      refine Go.iload X114 hx hby (v := x4) d11_17 rfl rfl ?_
      rcases Decidable.em (inA G_cc x4) with hj117 | hj117
      case inr => exact absurd ((if_neg hj117).symm.trans hf) nofun
      replace hf := (if_pos hj117).symm.trans hf
      refine Go.baload X114 hx hby hZ e114 F_cc hj117 d11_19 rfl ?_
      refine Go.bipush X114 hx hby (v := (10 : Int32)) d11_20 rfl rfl ?_
      refine Go.icmp_eq X114 hx hby (pc' := 43) d11_22 (by decide) (by decide) rfl (fun hc118 => ?_) (fun hc118 => ?_)
      · replace hf := (if_pos hc118).symm.trans hf
        refine Go.iconst X114 hx hby (v := (0 : Int32)) d11_43 rfl rfl ?_
        exact Go.iretI X114 hx hby hlk hret d11_44 (by decide) (by decide) ⟨congrArg (fun z => some (Value.int z)) (Option.some.inj hf), rfl, e114⟩
      · replace hf := (if_neg hc118).symm.trans hf
        refine Go.aloadN X114 hx hby (v := .ref cc) d11_25 rfl rfl rfl ?_
        refine Go.iload X114 hx hby (v := x4) d11_26 rfl rfl ?_
        rcases Decidable.em (inA G_cc x4) with hj119 | hj119
        case inr => exact absurd ((if_neg hj119).symm.trans hf) nofun
        replace hf := (if_pos hj119).symm.trans hf
        refine Go.baload X114 hx hby hZ e114 F_cc hj119 d11_28 rfl ?_
        refine Go.sipush X114 hx hby (v := (192 : Int32)) d11_29 rfl rfl ?_
        refine Go.iand X114 hx hby d11_32 rfl ?_
        refine Go.sipush X114 hx hby (v := (128 : Int32)) d11_33 rfl rfl ?_
        refine Go.icmp_eq X114 hx hby (pc' := 43) d11_36 (by decide) (by decide) rfl (fun hc120 => ?_) (fun hc120 => ?_)
        · replace hf := (if_pos hc120).symm.trans hf
          refine Go.iconst X114 hx hby (v := (0 : Int32)) d11_43 rfl rfl ?_
          exact Go.iretI X114 hx hby hlk hret d11_44 (by decide) (by decide) ⟨congrArg (fun z => some (Value.int z)) (Option.some.inj hf), rfl, e114⟩
        · replace hf := (if_neg hc120).symm.trans hf
          refine Go.iconst X114 hx hby (v := (1 : Int32)) d11_39 rfl rfl ?_
          refine Go.goto X114 hx hby (pc' := 44) d11_40 (by decide) (by decide) ?_
          exact Go.iretI X114 hx hby hlk hret d11_44 (by decide) (by decide) ⟨congrArg (fun z => some (Value.int z)) (Option.some.inj hf), rfl, e114⟩
-- body 10
def f10_76 (x1 : Int32) (x2 : Int32) (x3 : Int32) (G_cc : List Int32) : Option (Int32) := (f11_0 x1 x2 x3 (0 : Int32) G_cc).bind fun r121 => (f11_0 x1 x2 x3 (1 : Int32) G_cc).bind fun r122 => (f11_0 x1 x2 x3 (2 : Int32) G_cc).bind fun r123 => (f11_0 x1 x2 x3 (3 : Int32) G_cc).bind fun r124 => (f11_0 x1 x2 x3 (4 : Int32) G_cc).bind fun r125 => (f11_0 x1 x2 x3 (5 : Int32) G_cc).bind fun r126 => some (((((((1 : Int32) + r121) + r122) + r123) + r124) + r125) + r126)
def f10_64 (x1 : Int32) (x2 : Int32) (x3 : Int32) (G_cc : List Int32) : Option (Int32) := (f7_0 x1 x2 (5 : Int32) G_cc).bind fun r127 => if r127 = 0 then f10_76 x1 x2 x3 G_cc else f10_76 x1 x2 (5 : Int32) G_cc
def f10_52 (x1 : Int32) (x2 : Int32) (x3 : Int32) (G_cc : List Int32) : Option (Int32) := (f7_0 x1 x2 (4 : Int32) G_cc).bind fun r129 => if r129 = 0 then f10_64 x1 x2 x3 G_cc else f10_64 x1 x2 (4 : Int32) G_cc
def f10_40 (x1 : Int32) (x2 : Int32) (x3 : Int32) (G_cc : List Int32) : Option (Int32) := (f7_0 x1 x2 (3 : Int32) G_cc).bind fun r131 => if r131 = 0 then f10_52 x1 x2 x3 G_cc else f10_52 x1 x2 (3 : Int32) G_cc
def f10_28 (x1 : Int32) (x2 : Int32) (x3 : Int32) (G_cc : List Int32) : Option (Int32) := (f7_0 x1 x2 (2 : Int32) G_cc).bind fun r133 => if r133 = 0 then f10_40 x1 x2 x3 G_cc else f10_40 x1 x2 (2 : Int32) G_cc
def f10_16 (x1 : Int32) (x2 : Int32) (x3 : Int32) (G_cc : List Int32) : Option (Int32) := (f7_0 x1 x2 (1 : Int32) G_cc).bind fun r135 => if r135 = 0 then f10_28 x1 x2 x3 G_cc else f10_28 x1 x2 (1 : Int32) G_cc
def f10_0 (x1 : Int32) (x2 : Int32) (G_cc : List Int32) : Option (Int32) := (f7_0 x1 x2 (0 : Int32) G_cc).bind fun r137 => if r137 = 0 then f10_16 x1 x2 (x1 - (1 : Int32)) G_cc else f10_16 x1 x2 (0 : Int32) G_cc
theorem d10_0 : decode method_8_code 0 = .ok (.iload_n 1, 1) := by decide +kernel
theorem d10_1 : decode method_8_code 1 = .ok (.iconst 1, 1) := by decide +kernel
theorem d10_2 : decode method_8_code 2 = .ok (.isub, 1) := by decide +kernel
theorem d10_3 : decode method_8_code 3 = .ok (.istore_n 3, 1) := by decide +kernel
theorem d10_4 : decode method_8_code 4 = .ok (.aload_n 0, 1) := by decide +kernel
theorem d10_5 : decode method_8_code 5 = .ok (.iload_n 1, 1) := by decide +kernel
theorem d10_6 : decode method_8_code 6 = .ok (.iload_n 2, 1) := by decide +kernel
theorem d10_7 : decode method_8_code 7 = .ok (.iconst 0, 1) := by decide +kernel
theorem d10_8 : decode method_8_code 8 = .ok (.invokestatic 37, 3) := by decide +kernel
theorem d10_11 : decode method_8_code 11 = .ok (.ifCond .eq 5, 3) := by decide +kernel
theorem d10_14 : decode method_8_code 14 = .ok (.iconst 0, 1) := by decide +kernel
theorem d10_15 : decode method_8_code 15 = .ok (.istore_n 3, 1) := by decide +kernel
theorem d10_16 : decode method_8_code 16 = .ok (.aload_n 0, 1) := by decide +kernel
theorem d10_17 : decode method_8_code 17 = .ok (.iload_n 1, 1) := by decide +kernel
theorem d10_18 : decode method_8_code 18 = .ok (.iload_n 2, 1) := by decide +kernel
theorem d10_19 : decode method_8_code 19 = .ok (.iconst 1, 1) := by decide +kernel
theorem d10_20 : decode method_8_code 20 = .ok (.invokestatic 37, 3) := by decide +kernel
theorem d10_23 : decode method_8_code 23 = .ok (.ifCond .eq 5, 3) := by decide +kernel
theorem d10_26 : decode method_8_code 26 = .ok (.iconst 1, 1) := by decide +kernel
theorem d10_27 : decode method_8_code 27 = .ok (.istore_n 3, 1) := by decide +kernel
theorem d10_28 : decode method_8_code 28 = .ok (.aload_n 0, 1) := by decide +kernel
theorem d10_29 : decode method_8_code 29 = .ok (.iload_n 1, 1) := by decide +kernel
theorem d10_30 : decode method_8_code 30 = .ok (.iload_n 2, 1) := by decide +kernel
theorem d10_31 : decode method_8_code 31 = .ok (.iconst 2, 1) := by decide +kernel
theorem d10_32 : decode method_8_code 32 = .ok (.invokestatic 37, 3) := by decide +kernel
theorem d10_35 : decode method_8_code 35 = .ok (.ifCond .eq 5, 3) := by decide +kernel
theorem d10_38 : decode method_8_code 38 = .ok (.iconst 2, 1) := by decide +kernel
theorem d10_39 : decode method_8_code 39 = .ok (.istore_n 3, 1) := by decide +kernel
theorem d10_40 : decode method_8_code 40 = .ok (.aload_n 0, 1) := by decide +kernel
theorem d10_41 : decode method_8_code 41 = .ok (.iload_n 1, 1) := by decide +kernel
theorem d10_42 : decode method_8_code 42 = .ok (.iload_n 2, 1) := by decide +kernel
theorem d10_43 : decode method_8_code 43 = .ok (.iconst 3, 1) := by decide +kernel
theorem d10_44 : decode method_8_code 44 = .ok (.invokestatic 37, 3) := by decide +kernel
theorem d10_47 : decode method_8_code 47 = .ok (.ifCond .eq 5, 3) := by decide +kernel
theorem d10_50 : decode method_8_code 50 = .ok (.iconst 3, 1) := by decide +kernel
theorem d10_51 : decode method_8_code 51 = .ok (.istore_n 3, 1) := by decide +kernel
theorem d10_52 : decode method_8_code 52 = .ok (.aload_n 0, 1) := by decide +kernel
theorem d10_53 : decode method_8_code 53 = .ok (.iload_n 1, 1) := by decide +kernel
theorem d10_54 : decode method_8_code 54 = .ok (.iload_n 2, 1) := by decide +kernel
theorem d10_55 : decode method_8_code 55 = .ok (.iconst 4, 1) := by decide +kernel
theorem d10_56 : decode method_8_code 56 = .ok (.invokestatic 37, 3) := by decide +kernel
theorem d10_59 : decode method_8_code 59 = .ok (.ifCond .eq 5, 3) := by decide +kernel
theorem d10_62 : decode method_8_code 62 = .ok (.iconst 4, 1) := by decide +kernel
theorem d10_63 : decode method_8_code 63 = .ok (.istore_n 3, 1) := by decide +kernel
theorem d10_64 : decode method_8_code 64 = .ok (.aload_n 0, 1) := by decide +kernel
theorem d10_65 : decode method_8_code 65 = .ok (.iload_n 1, 1) := by decide +kernel
theorem d10_66 : decode method_8_code 66 = .ok (.iload_n 2, 1) := by decide +kernel
theorem d10_67 : decode method_8_code 67 = .ok (.iconst 5, 1) := by decide +kernel
theorem d10_68 : decode method_8_code 68 = .ok (.invokestatic 37, 3) := by decide +kernel
theorem d10_71 : decode method_8_code 71 = .ok (.ifCond .eq 5, 3) := by decide +kernel
theorem d10_74 : decode method_8_code 74 = .ok (.iconst 5, 1) := by decide +kernel
theorem d10_75 : decode method_8_code 75 = .ok (.istore_n 3, 1) := by decide +kernel
theorem d10_76 : decode method_8_code 76 = .ok (.iconst 1, 1) := by decide +kernel
theorem d10_77 : decode method_8_code 77 = .ok (.aload_n 0, 1) := by decide +kernel
theorem d10_78 : decode method_8_code 78 = .ok (.iload_n 1, 1) := by decide +kernel
theorem d10_79 : decode method_8_code 79 = .ok (.iload_n 2, 1) := by decide +kernel
theorem d10_80 : decode method_8_code 80 = .ok (.iload_n 3, 1) := by decide +kernel
theorem d10_81 : decode method_8_code 81 = .ok (.iconst 0, 1) := by decide +kernel
theorem d10_82 : decode method_8_code 82 = .ok (.invokestatic 45, 3) := by decide +kernel
theorem d10_85 : decode method_8_code 85 = .ok (.iadd, 1) := by decide +kernel
theorem d10_86 : decode method_8_code 86 = .ok (.aload_n 0, 1) := by decide +kernel
theorem d10_87 : decode method_8_code 87 = .ok (.iload_n 1, 1) := by decide +kernel
theorem d10_88 : decode method_8_code 88 = .ok (.iload_n 2, 1) := by decide +kernel
theorem d10_89 : decode method_8_code 89 = .ok (.iload_n 3, 1) := by decide +kernel
theorem d10_90 : decode method_8_code 90 = .ok (.iconst 1, 1) := by decide +kernel
theorem d10_91 : decode method_8_code 91 = .ok (.invokestatic 45, 3) := by decide +kernel
theorem d10_94 : decode method_8_code 94 = .ok (.iadd, 1) := by decide +kernel
theorem d10_95 : decode method_8_code 95 = .ok (.aload_n 0, 1) := by decide +kernel
theorem d10_96 : decode method_8_code 96 = .ok (.iload_n 1, 1) := by decide +kernel
theorem d10_97 : decode method_8_code 97 = .ok (.iload_n 2, 1) := by decide +kernel
theorem d10_98 : decode method_8_code 98 = .ok (.iload_n 3, 1) := by decide +kernel
theorem d10_99 : decode method_8_code 99 = .ok (.iconst 2, 1) := by decide +kernel
theorem d10_100 : decode method_8_code 100 = .ok (.invokestatic 45, 3) := by decide +kernel
theorem d10_103 : decode method_8_code 103 = .ok (.iadd, 1) := by decide +kernel
theorem d10_104 : decode method_8_code 104 = .ok (.aload_n 0, 1) := by decide +kernel
theorem d10_105 : decode method_8_code 105 = .ok (.iload_n 1, 1) := by decide +kernel
theorem d10_106 : decode method_8_code 106 = .ok (.iload_n 2, 1) := by decide +kernel
theorem d10_107 : decode method_8_code 107 = .ok (.iload_n 3, 1) := by decide +kernel
theorem d10_108 : decode method_8_code 108 = .ok (.iconst 3, 1) := by decide +kernel
theorem d10_109 : decode method_8_code 109 = .ok (.invokestatic 45, 3) := by decide +kernel
theorem d10_112 : decode method_8_code 112 = .ok (.iadd, 1) := by decide +kernel
theorem d10_113 : decode method_8_code 113 = .ok (.aload_n 0, 1) := by decide +kernel
theorem d10_114 : decode method_8_code 114 = .ok (.iload_n 1, 1) := by decide +kernel
theorem d10_115 : decode method_8_code 115 = .ok (.iload_n 2, 1) := by decide +kernel
theorem d10_116 : decode method_8_code 116 = .ok (.iload_n 3, 1) := by decide +kernel
theorem d10_117 : decode method_8_code 117 = .ok (.iconst 4, 1) := by decide +kernel
theorem d10_118 : decode method_8_code 118 = .ok (.invokestatic 45, 3) := by decide +kernel
theorem d10_121 : decode method_8_code 121 = .ok (.iadd, 1) := by decide +kernel
theorem d10_122 : decode method_8_code 122 = .ok (.aload_n 0, 1) := by decide +kernel
theorem d10_123 : decode method_8_code 123 = .ok (.iload_n 1, 1) := by decide +kernel
theorem d10_124 : decode method_8_code 124 = .ok (.iload_n 2, 1) := by decide +kernel
theorem d10_125 : decode method_8_code 125 = .ok (.iload_n 3, 1) := by decide +kernel
theorem d10_126 : decode method_8_code 126 = .ok (.iconst 5, 1) := by decide +kernel
theorem d10_127 : decode method_8_code 127 = .ok (.invokestatic 45, 3) := by decide +kernel
theorem d10_130 : decode method_8_code 130 = .ok (.iadd, 1) := by decide +kernel
theorem d10_131 : decode method_8_code 131 = .ok (.ireturn, 1) := by decide +kernel
abbrev Y10 : MethodName := ⟨"com/example/yarrow/yarrow/data/StartTagsMoveToPinLaw", "refColumn", "([BII)I"⟩
def RM10 : Room := { frames := 2, cells := 0, slots := 0, locals := 31 }
theorem pd_10 : parseMethodDescriptor Y10.desc = some ⟨[(.array .byte), .int, .int], some .int⟩ := by decide +kernel
theorem pn_10 : plainName "com/example/yarrow/yarrow/data/StartTagsMoveToPinLaw" = true := by first | (simp [plainName, overriddenIn]; done) | decide +kernel
theorem ef_10 (m : MethodId) (cc : Addr) (x1 : Int32) (x2 : Int32) : entryFrame m #[.ref cc, .int x1, .int x2] 4 = mkF m 0 #[.val (.ref cc), .val (.int x1), .val (.int x2), .unset] [] := by first | (simp [entryFrame, mkF, argsToLocals, Value.category]; done) | rfl
set_option maxRecDepth 65536 in
set_option maxHeartbeats 40000000 in
theorem rm10 (l : Launch) (Z : State) (a0 : Array Value) (hw : ∀ d ∈ tables_1, d.before a0 Z = true) (cc : Addr) (x1 : Int32) (x2 : Int32) (G_cc : List Int32) (h0 : Heap) (r : Int32) (hf : f10_0 x1 x2 G_cc = some r) (F_cc : AryI Z h0 cc .byte G_cc) :
    MetFree l Y10 (head1 ([Jvm.Cond.code Y10 method_8_code 4 (some .int)]) RM10) (fun a U => a = #[.ref cc, .int x1, .int x2] ∧ Z.Warmed39 U.vm ∧ U.heap = h0) (fun _ _ _ _ _ => True) (fun _ U o U' => ∃ v L, o = .returned v ∧ (PQ h0 (some (.int r))) v U'.heap L ∧ FrameEnd U o U' L RM10.cells RM10.slots) := by
  refine MetFree.of_bodySF (plainFor_of_name pn_10) hisR ?_
  intro p e s m args below meth c s₁ Bd hml0 hP hK
  obtain ⟨rfl, hZ, hh⟩ := hP
  have hx := Bd.exec
  have hby := Bd.bytes
  have hlk : meth.locks = false := BodyLoose.notSynchronized Bd
  have hret := Bd.returns
  have hml : c.maxLocals = 4 := hml0
  have hown : s.vm.findClass "com/example/yarrow/yarrow/data/StartTagsMoveToPinLaw" = some m.cls := findClass_of_methodNamed Bd.named
  have X0 : Stand p l e RM10 s m #[.ref cc, .int x1, .int x2] below meth c s₁ [] 0 0 := Stand.of_body Bd
  have e0 : s₁.heap = h0 := by rw [← hh, Bd.state]; rfl
  suffices G : Go p e below s RM10.cells RM10.slots (PQ h0 (some (.int r))) m s₁ 0 #[.val (.ref cc), .val (.int x1), .val (.int x2), .unset] [] by
    obtain ⟨s₂, o, h1, h2⟩ := G
    exact ⟨s₂, o, castTop (ef_10 m cc x1 x2) h1, h2⟩
  have hf0 := hf
  clear hf
  have B76 : ∀ (T : State), Stand p l e RM10 s m #[.ref cc, .int x1, .int x2] below meth c T [] 0 0 → T.heap = h0 → ∀ (x1 : Int32) (x2 : Int32) (x3 : Int32), f10_76 x1 x2 x3 G_cc = some r → Go p e below s RM10.cells RM10.slots (PQ h0 (some (.int r))) m T 76 #[.val (.ref cc), .val (.int x1), .val (.int x2), .val (.int x3)] [] := by
    intro T139 X139 e139 x1 x2 x3 hf
    unfold f10_76 at hf
    refine Go.iconst X139 hx hby (v := (1 : Int32)) d10_76 rfl rfl ?_
    refine Go.aloadN X139 hx hby (v := .ref cc) d10_77 rfl rfl rfl ?_
    refine Go.iloadN X139 hx hby (v := x1) d10_78 rfl rfl ?_
    refine Go.iloadN X139 hx hby (v := x2) d10_79 rfl rfl ?_
    refine Go.iloadN X139 hx hby (v := x3) d10_80 rfl rfl ?_
    refine Go.iconst X139 hx hby (v := (0 : Int32)) d10_81 rfl rfl ?_
    obtain ⟨r140, g140, hf⟩ := Option.bind_eq_some_iff.mp hf
    refine Go.callSP X139 hx hby hZ (by rw [hml]; rfl) (W := 1) (argsL := [.ref cc, .int x1, .int x2, .int x3, .int (0 : Int32)]) (rest := [.int (1 : Int32)]) hown (hw _ (List.mem_of_getElem? (i := 56) rfl)) (hw _ (List.mem_of_getElem? (i := 57) rfl)) (hw _ (List.mem_of_getElem? (i := 37) rfl)) (hw _ (List.mem_of_getElem? (i := 58) rfl)) (by decide) (rm11 l Z a0 hw cc x1 x2 x3 (0 : Int32) G_cc h0 r140 g140 F_cc) (by decide) (by decide) e139 pd_11 rfl rfl rfl (Nat.le_of_eq rfl) rfl rfl (by decide) (by decide) d10_82 rfl (fun T140 X140 e140 => ?_)
    refine Go.iadd X140 hx hby d10_85 rfl ?_
    refine Go.aloadN X140 hx hby (v := .ref cc) d10_86 rfl rfl rfl ?_
    refine Go.iloadN X140 hx hby (v := x1) d10_87 rfl rfl ?_
    refine Go.iloadN X140 hx hby (v := x2) d10_88 rfl rfl ?_
    refine Go.iloadN X140 hx hby (v := x3) d10_89 rfl rfl ?_
    refine Go.iconst X140 hx hby (v := (1 : Int32)) d10_90 rfl rfl ?_
    obtain ⟨r141, g141, hf⟩ := Option.bind_eq_some_iff.mp hf
    refine Go.callSP X140 hx hby hZ (by rw [hml]; rfl) (W := 1) (argsL := [.ref cc, .int x1, .int x2, .int x3, .int (1 : Int32)]) (rest := [.int ((1 : Int32) + r140)]) hown (hw _ (List.mem_of_getElem? (i := 56) rfl)) (hw _ (List.mem_of_getElem? (i := 57) rfl)) (hw _ (List.mem_of_getElem? (i := 37) rfl)) (hw _ (List.mem_of_getElem? (i := 58) rfl)) (by decide) (rm11 l Z a0 hw cc x1 x2 x3 (1 : Int32) G_cc h0 r141 g141 F_cc) (by decide) (by decide) e140 pd_11 rfl rfl rfl (Nat.le_of_eq rfl) rfl rfl (by decide) (by decide) d10_91 rfl (fun T141 X141 e141 => ?_)
    refine Go.iadd X141 hx hby d10_94 rfl ?_
    refine Go.aloadN X141 hx hby (v := .ref cc) d10_95 rfl rfl rfl ?_
    refine Go.iloadN X141 hx hby (v := x1) d10_96 rfl rfl ?_
    refine Go.iloadN X141 hx hby (v := x2) d10_97 rfl rfl ?_
    refine Go.iloadN X141 hx hby (v := x3) d10_98 rfl rfl ?_
    refine Go.iconst X141 hx hby (v := (2 : Int32)) d10_99 rfl rfl ?_
    obtain ⟨r142, g142, hf⟩ := Option.bind_eq_some_iff.mp hf
    refine Go.callSP X141 hx hby hZ (by rw [hml]; rfl) (W := 1) (argsL := [.ref cc, .int x1, .int x2, .int x3, .int (2 : Int32)]) (rest := [.int (((1 : Int32) + r140) + r141)]) hown (hw _ (List.mem_of_getElem? (i := 56) rfl)) (hw _ (List.mem_of_getElem? (i := 57) rfl)) (hw _ (List.mem_of_getElem? (i := 37) rfl)) (hw _ (List.mem_of_getElem? (i := 58) rfl)) (by decide) (rm11 l Z a0 hw cc x1 x2 x3 (2 : Int32) G_cc h0 r142 g142 F_cc) (by decide) (by decide) e141 pd_11 rfl rfl rfl (Nat.le_of_eq rfl) rfl rfl (by decide) (by decide) d10_100 rfl (fun T142 X142 e142 => ?_)
    refine Go.iadd X142 hx hby d10_103 rfl ?_
    refine Go.aloadN X142 hx hby (v := .ref cc) d10_104 rfl rfl rfl ?_
    refine Go.iloadN X142 hx hby (v := x1) d10_105 rfl rfl ?_
    refine Go.iloadN X142 hx hby (v := x2) d10_106 rfl rfl ?_
    refine Go.iloadN X142 hx hby (v := x3) d10_107 rfl rfl ?_
    refine Go.iconst X142 hx hby (v := (3 : Int32)) d10_108 rfl rfl ?_
    obtain ⟨r143, g143, hf⟩ := Option.bind_eq_some_iff.mp hf
    refine Go.callSP X142 hx hby hZ (by rw [hml]; rfl) (W := 1) (argsL := [.ref cc, .int x1, .int x2, .int x3, .int (3 : Int32)]) (rest := [.int ((((1 : Int32) + r140) + r141) + r142)]) hown (hw _ (List.mem_of_getElem? (i := 56) rfl)) (hw _ (List.mem_of_getElem? (i := 57) rfl)) (hw _ (List.mem_of_getElem? (i := 37) rfl)) (hw _ (List.mem_of_getElem? (i := 58) rfl)) (by decide) (rm11 l Z a0 hw cc x1 x2 x3 (3 : Int32) G_cc h0 r143 g143 F_cc) (by decide) (by decide) e142 pd_11 rfl rfl rfl (Nat.le_of_eq rfl) rfl rfl (by decide) (by decide) d10_109 rfl (fun T143 X143 e143 => ?_)
    refine Go.iadd X143 hx hby d10_112 rfl ?_
    refine Go.aloadN X143 hx hby (v := .ref cc) d10_113 rfl rfl rfl ?_
    refine Go.iloadN X143 hx hby (v := x1) d10_114 rfl rfl ?_
    refine Go.iloadN X143 hx hby (v := x2) d10_115 rfl rfl ?_
    refine Go.iloadN X143 hx hby (v := x3) d10_116 rfl rfl ?_
    refine Go.iconst X143 hx hby (v := (4 : Int32)) d10_117 rfl rfl ?_
    obtain ⟨r144, g144, hf⟩ := Option.bind_eq_some_iff.mp hf
    refine Go.callSP X143 hx hby hZ (by rw [hml]; rfl) (W := 1) (argsL := [.ref cc, .int x1, .int x2, .int x3, .int (4 : Int32)]) (rest := [.int (((((1 : Int32) + r140) + r141) + r142) + r143)]) hown (hw _ (List.mem_of_getElem? (i := 56) rfl)) (hw _ (List.mem_of_getElem? (i := 57) rfl)) (hw _ (List.mem_of_getElem? (i := 37) rfl)) (hw _ (List.mem_of_getElem? (i := 58) rfl)) (by decide) (rm11 l Z a0 hw cc x1 x2 x3 (4 : Int32) G_cc h0 r144 g144 F_cc) (by decide) (by decide) e143 pd_11 rfl rfl rfl (Nat.le_of_eq rfl) rfl rfl (by decide) (by decide) d10_118 rfl (fun T144 X144 e144 => ?_)
    refine Go.iadd X144 hx hby d10_121 rfl ?_
    refine Go.aloadN X144 hx hby (v := .ref cc) d10_122 rfl rfl rfl ?_
    refine Go.iloadN X144 hx hby (v := x1) d10_123 rfl rfl ?_
    refine Go.iloadN X144 hx hby (v := x2) d10_124 rfl rfl ?_
    refine Go.iloadN X144 hx hby (v := x3) d10_125 rfl rfl ?_
    refine Go.iconst X144 hx hby (v := (5 : Int32)) d10_126 rfl rfl ?_
    obtain ⟨r145, g145, hf⟩ := Option.bind_eq_some_iff.mp hf
    refine Go.callSP X144 hx hby hZ (by rw [hml]; rfl) (W := 1) (argsL := [.ref cc, .int x1, .int x2, .int x3, .int (5 : Int32)]) (rest := [.int ((((((1 : Int32) + r140) + r141) + r142) + r143) + r144)]) hown (hw _ (List.mem_of_getElem? (i := 56) rfl)) (hw _ (List.mem_of_getElem? (i := 57) rfl)) (hw _ (List.mem_of_getElem? (i := 37) rfl)) (hw _ (List.mem_of_getElem? (i := 58) rfl)) (by decide) (rm11 l Z a0 hw cc x1 x2 x3 (5 : Int32) G_cc h0 r145 g145 F_cc) (by decide) (by decide) e144 pd_11 rfl rfl rfl (Nat.le_of_eq rfl) rfl rfl (by decide) (by decide) d10_127 rfl (fun T145 X145 e145 => ?_)
    refine Go.iadd X145 hx hby d10_130 rfl ?_
    exact Go.iretI X145 hx hby hlk hret d10_131 (by decide) (by decide) ⟨congrArg (fun z => some (Value.int z)) (Option.some.inj hf), rfl, e145⟩
  have B64 : ∀ (T : State), Stand p l e RM10 s m #[.ref cc, .int x1, .int x2] below meth c T [] 0 0 → T.heap = h0 → ∀ (x1 : Int32) (x2 : Int32) (x3 : Int32), f10_64 x1 x2 x3 G_cc = some r → Go p e below s RM10.cells RM10.slots (PQ h0 (some (.int r))) m T 64 #[.val (.ref cc), .val (.int x1), .val (.int x2), .val (.int x3)] [] := by
    intro T146 X146 e146 x1 x2 x3 hf
    unfold f10_64 at hf
    refine Go.aloadN X146 hx hby (v := .ref cc) d10_64 rfl rfl rfl ?_
    refine Go.iloadN X146 hx hby (v := x1) d10_65 rfl rfl ?_
    refine Go.iloadN X146 hx hby (v := x2) d10_66 rfl rfl ?_
    refine Go.iconst X146 hx hby (v := (5 : Int32)) d10_67 rfl rfl ?_
    obtain ⟨r147, g147, hf⟩ := Option.bind_eq_some_iff.mp hf
    refine Go.callSP X146 hx hby hZ (by rw [hml]; rfl) (W := 0) (argsL := [.ref cc, .int x1, .int x2, .int (5 : Int32)]) (rest := []) hown (hw _ (List.mem_of_getElem? (i := 42) rfl)) (hw _ (List.mem_of_getElem? (i := 43) rfl)) (hw _ (List.mem_of_getElem? (i := 37) rfl)) (hw _ (List.mem_of_getElem? (i := 44) rfl)) (by decide) (rm7 l Z a0 hw cc x1 x2 (5 : Int32) G_cc h0 r147 g147 F_cc) (by decide) (by decide) e146 pd_7 rfl rfl rfl (Nat.le_of_eq rfl) rfl rfl (by decide) (by decide) d10_68 rfl (fun T147 X147 e147 => ?_)
    refine Go.if_eq X147 hx hby (pc' := 76) d10_71 (by decide) (by decide) rfl (fun hc148 => ?_) (fun hc148 => ?_)
    · replace hf := (if_pos hc148).symm.trans hf
      exact B76 T147 X147 e147 x1 x2 x3 hf
    · replace hf := (if_neg hc148).symm.trans hf
      refine Go.iconst X147 hx hby (v := (5 : Int32)) d10_74 rfl rfl ?_
      refine Go.istoreN X147 hx hby (Ls' := #[.val (.ref cc), .val (.int x1), .val (.int x2), .val (.int (5 : Int32))]) d10_75 rfl rfl ?_
      exact B76 T147 X147 e147 x1 x2 (5 : Int32) hf
  have B52 : ∀ (T : State), Stand p l e RM10 s m #[.ref cc, .int x1, .int x2] below meth c T [] 0 0 → T.heap = h0 → ∀ (x1 : Int32) (x2 : Int32) (x3 : Int32), f10_52 x1 x2 x3 G_cc = some r → Go p e below s RM10.cells RM10.slots (PQ h0 (some (.int r))) m T 52 #[.val (.ref cc), .val (.int x1), .val (.int x2), .val (.int x3)] [] := by
    intro T149 X149 e149 x1 x2 x3 hf
    unfold f10_52 at hf
    refine Go.aloadN X149 hx hby (v := .ref cc) d10_52 rfl rfl rfl ?_
    refine Go.iloadN X149 hx hby (v := x1) d10_53 rfl rfl ?_
    refine Go.iloadN X149 hx hby (v := x2) d10_54 rfl rfl ?_
    refine Go.iconst X149 hx hby (v := (4 : Int32)) d10_55 rfl rfl ?_
    obtain ⟨r150, g150, hf⟩ := Option.bind_eq_some_iff.mp hf
    refine Go.callSP X149 hx hby hZ (by rw [hml]; rfl) (W := 0) (argsL := [.ref cc, .int x1, .int x2, .int (4 : Int32)]) (rest := []) hown (hw _ (List.mem_of_getElem? (i := 42) rfl)) (hw _ (List.mem_of_getElem? (i := 43) rfl)) (hw _ (List.mem_of_getElem? (i := 37) rfl)) (hw _ (List.mem_of_getElem? (i := 44) rfl)) (by decide) (rm7 l Z a0 hw cc x1 x2 (4 : Int32) G_cc h0 r150 g150 F_cc) (by decide) (by decide) e149 pd_7 rfl rfl rfl (Nat.le_of_eq rfl) rfl rfl (by decide) (by decide) d10_56 rfl (fun T150 X150 e150 => ?_)
    refine Go.if_eq X150 hx hby (pc' := 64) d10_59 (by decide) (by decide) rfl (fun hc151 => ?_) (fun hc151 => ?_)
    · replace hf := (if_pos hc151).symm.trans hf
      exact B64 T150 X150 e150 x1 x2 x3 hf
    · replace hf := (if_neg hc151).symm.trans hf
      refine Go.iconst X150 hx hby (v := (4 : Int32)) d10_62 rfl rfl ?_
      refine Go.istoreN X150 hx hby (Ls' := #[.val (.ref cc), .val (.int x1), .val (.int x2), .val (.int (4 : Int32))]) d10_63 rfl rfl ?_
      exact B64 T150 X150 e150 x1 x2 (4 : Int32) hf
  have B40 : ∀ (T : State), Stand p l e RM10 s m #[.ref cc, .int x1, .int x2] below meth c T [] 0 0 → T.heap = h0 → ∀ (x1 : Int32) (x2 : Int32) (x3 : Int32), f10_40 x1 x2 x3 G_cc = some r → Go p e below s RM10.cells RM10.slots (PQ h0 (some (.int r))) m T 40 #[.val (.ref cc), .val (.int x1), .val (.int x2), .val (.int x3)] [] := by
    intro T152 X152 e152 x1 x2 x3 hf
    unfold f10_40 at hf
    refine Go.aloadN X152 hx hby (v := .ref cc) d10_40 rfl rfl rfl ?_
    refine Go.iloadN X152 hx hby (v := x1) d10_41 rfl rfl ?_
    refine Go.iloadN X152 hx hby (v := x2) d10_42 rfl rfl ?_
    refine Go.iconst X152 hx hby (v := (3 : Int32)) d10_43 rfl rfl ?_
    obtain ⟨r153, g153, hf⟩ := Option.bind_eq_some_iff.mp hf
    refine Go.callSP X152 hx hby hZ (by rw [hml]; rfl) (W := 0) (argsL := [.ref cc, .int x1, .int x2, .int (3 : Int32)]) (rest := []) hown (hw _ (List.mem_of_getElem? (i := 42) rfl)) (hw _ (List.mem_of_getElem? (i := 43) rfl)) (hw _ (List.mem_of_getElem? (i := 37) rfl)) (hw _ (List.mem_of_getElem? (i := 44) rfl)) (by decide) (rm7 l Z a0 hw cc x1 x2 (3 : Int32) G_cc h0 r153 g153 F_cc) (by decide) (by decide) e152 pd_7 rfl rfl rfl (Nat.le_of_eq rfl) rfl rfl (by decide) (by decide) d10_44 rfl (fun T153 X153 e153 => ?_)
    refine Go.if_eq X153 hx hby (pc' := 52) d10_47 (by decide) (by decide) rfl (fun hc154 => ?_) (fun hc154 => ?_)
    · replace hf := (if_pos hc154).symm.trans hf
      exact B52 T153 X153 e153 x1 x2 x3 hf
    · replace hf := (if_neg hc154).symm.trans hf
      refine Go.iconst X153 hx hby (v := (3 : Int32)) d10_50 rfl rfl ?_
      refine Go.istoreN X153 hx hby (Ls' := #[.val (.ref cc), .val (.int x1), .val (.int x2), .val (.int (3 : Int32))]) d10_51 rfl rfl ?_
      exact B52 T153 X153 e153 x1 x2 (3 : Int32) hf
  have B28 : ∀ (T : State), Stand p l e RM10 s m #[.ref cc, .int x1, .int x2] below meth c T [] 0 0 → T.heap = h0 → ∀ (x1 : Int32) (x2 : Int32) (x3 : Int32), f10_28 x1 x2 x3 G_cc = some r → Go p e below s RM10.cells RM10.slots (PQ h0 (some (.int r))) m T 28 #[.val (.ref cc), .val (.int x1), .val (.int x2), .val (.int x3)] [] := by
    intro T155 X155 e155 x1 x2 x3 hf
    unfold f10_28 at hf
    refine Go.aloadN X155 hx hby (v := .ref cc) d10_28 rfl rfl rfl ?_
    refine Go.iloadN X155 hx hby (v := x1) d10_29 rfl rfl ?_
    refine Go.iloadN X155 hx hby (v := x2) d10_30 rfl rfl ?_
    refine Go.iconst X155 hx hby (v := (2 : Int32)) d10_31 rfl rfl ?_
    obtain ⟨r156, g156, hf⟩ := Option.bind_eq_some_iff.mp hf
    refine Go.callSP X155 hx hby hZ (by rw [hml]; rfl) (W := 0) (argsL := [.ref cc, .int x1, .int x2, .int (2 : Int32)]) (rest := []) hown (hw _ (List.mem_of_getElem? (i := 42) rfl)) (hw _ (List.mem_of_getElem? (i := 43) rfl)) (hw _ (List.mem_of_getElem? (i := 37) rfl)) (hw _ (List.mem_of_getElem? (i := 44) rfl)) (by decide) (rm7 l Z a0 hw cc x1 x2 (2 : Int32) G_cc h0 r156 g156 F_cc) (by decide) (by decide) e155 pd_7 rfl rfl rfl (Nat.le_of_eq rfl) rfl rfl (by decide) (by decide) d10_32 rfl (fun T156 X156 e156 => ?_)
    refine Go.if_eq X156 hx hby (pc' := 40) d10_35 (by decide) (by decide) rfl (fun hc157 => ?_) (fun hc157 => ?_)
    · replace hf := (if_pos hc157).symm.trans hf
      exact B40 T156 X156 e156 x1 x2 x3 hf
    · replace hf := (if_neg hc157).symm.trans hf
      refine Go.iconst X156 hx hby (v := (2 : Int32)) d10_38 rfl rfl ?_
      refine Go.istoreN X156 hx hby (Ls' := #[.val (.ref cc), .val (.int x1), .val (.int x2), .val (.int (2 : Int32))]) d10_39 rfl rfl ?_
      exact B40 T156 X156 e156 x1 x2 (2 : Int32) hf
  have B16 : ∀ (T : State), Stand p l e RM10 s m #[.ref cc, .int x1, .int x2] below meth c T [] 0 0 → T.heap = h0 → ∀ (x1 : Int32) (x2 : Int32) (x3 : Int32), f10_16 x1 x2 x3 G_cc = some r → Go p e below s RM10.cells RM10.slots (PQ h0 (some (.int r))) m T 16 #[.val (.ref cc), .val (.int x1), .val (.int x2), .val (.int x3)] [] := by
    intro T158 X158 e158 x1 x2 x3 hf
    unfold f10_16 at hf
    refine Go.aloadN X158 hx hby (v := .ref cc) d10_16 rfl rfl rfl ?_
    refine Go.iloadN X158 hx hby (v := x1) d10_17 rfl rfl ?_
    refine Go.iloadN X158 hx hby (v := x2) d10_18 rfl rfl ?_
    refine Go.iconst X158 hx hby (v := (1 : Int32)) d10_19 rfl rfl ?_
    obtain ⟨r159, g159, hf⟩ := Option.bind_eq_some_iff.mp hf
    refine Go.callSP X158 hx hby hZ (by rw [hml]; rfl) (W := 0) (argsL := [.ref cc, .int x1, .int x2, .int (1 : Int32)]) (rest := []) hown (hw _ (List.mem_of_getElem? (i := 42) rfl)) (hw _ (List.mem_of_getElem? (i := 43) rfl)) (hw _ (List.mem_of_getElem? (i := 37) rfl)) (hw _ (List.mem_of_getElem? (i := 44) rfl)) (by decide) (rm7 l Z a0 hw cc x1 x2 (1 : Int32) G_cc h0 r159 g159 F_cc) (by decide) (by decide) e158 pd_7 rfl rfl rfl (Nat.le_of_eq rfl) rfl rfl (by decide) (by decide) d10_20 rfl (fun T159 X159 e159 => ?_)
    refine Go.if_eq X159 hx hby (pc' := 28) d10_23 (by decide) (by decide) rfl (fun hc160 => ?_) (fun hc160 => ?_)
    · replace hf := (if_pos hc160).symm.trans hf
      exact B28 T159 X159 e159 x1 x2 x3 hf
    · replace hf := (if_neg hc160).symm.trans hf
      refine Go.iconst X159 hx hby (v := (1 : Int32)) d10_26 rfl rfl ?_
      refine Go.istoreN X159 hx hby (Ls' := #[.val (.ref cc), .val (.int x1), .val (.int x2), .val (.int (1 : Int32))]) d10_27 rfl rfl ?_
      exact B28 T159 X159 e159 x1 x2 (1 : Int32) hf
  have hf := hf0
  unfold f10_0 at hf
  refine Go.iloadN X0 hx hby (v := x1) d10_0 rfl rfl ?_
  refine Go.iconst X0 hx hby (v := (1 : Int32)) d10_1 rfl rfl ?_
  refine Go.isub X0 hx hby d10_2 rfl ?_
  refine Go.istoreN X0 hx hby (Ls' := #[.val (.ref cc), .val (.int x1), .val (.int x2), .val (.int (x1 - (1 : Int32)))]) d10_3 rfl rfl ?_
  refine Go.aloadN X0 hx hby (v := .ref cc) d10_4 rfl rfl rfl ?_
  refine Go.iloadN X0 hx hby (v := x1) d10_5 rfl rfl ?_
  refine Go.iloadN X0 hx hby (v := x2) d10_6 rfl rfl ?_
  refine Go.iconst X0 hx hby (v := (0 : Int32)) d10_7 rfl rfl ?_
  obtain ⟨r161, g161, hf⟩ := Option.bind_eq_some_iff.mp hf
  refine Go.callSP X0 hx hby hZ (by rw [hml]; rfl) (W := 0) (argsL := [.ref cc, .int x1, .int x2, .int (0 : Int32)]) (rest := []) hown (hw _ (List.mem_of_getElem? (i := 42) rfl)) (hw _ (List.mem_of_getElem? (i := 43) rfl)) (hw _ (List.mem_of_getElem? (i := 37) rfl)) (hw _ (List.mem_of_getElem? (i := 44) rfl)) (by decide) (rm7 l Z a0 hw cc x1 x2 (0 : Int32) G_cc h0 r161 g161 F_cc) (by decide) (by decide) e0 pd_7 rfl rfl rfl (Nat.le_of_eq rfl) rfl rfl (by decide) (by decide) d10_8 rfl (fun T161 X161 e161 => ?_)
  refine Go.if_eq X161 hx hby (pc' := 16) d10_11 (by decide) (by decide) rfl (fun hc162 => ?_) (fun hc162 => ?_)
  · replace hf := (if_pos hc162).symm.trans hf
    exact B16 T161 X161 e161 x1 x2 (x1 - (1 : Int32)) hf
  · replace hf := (if_neg hc162).symm.trans hf
    refine Go.iconst X161 hx hby (v := (0 : Int32)) d10_14 rfl rfl ?_
    refine Go.istoreN X161 hx hby (Ls' := #[.val (.ref cc), .val (.int x1), .val (.int x2), .val (.int (0 : Int32))]) d10_15 rfl rfl ?_
    exact B16 T161 X161 e161 x1 x2 (0 : Int32) hf
-- body 0
def f0_201 (x10 : Int32) (t0 : Int32) (G_cc : List Int32) (G_oo_line : Int32) (G_oo_column : Int32) (G_oo_start : Int32) (G_oo_scan : Int32) (G_oo_counted : Int32) (G_oo_afterCarriageReturn : Int32) : Option (Int32) := if x10 = 0 then some (0 : Int32) else if t0 = 0 then some (0 : Int32) else some (1 : Int32)
def f0_200 (x10 : Int32) (G_cc : List Int32) (G_oo_line : Int32) (G_oo_column : Int32) (G_oo_start : Int32) (G_oo_scan : Int32) (G_oo_counted : Int32) (G_oo_afterCarriageReturn : Int32) : Option (Int32) := f0_201 x10 (0 : Int32) G_cc G_oo_line G_oo_column G_oo_start G_oo_scan G_oo_counted G_oo_afterCarriageReturn
def f0_153 (x6 : Int32) (x8 : Int32) (t0 : Int32) (G_cc : List Int32) (G_oo_line : Int32) (G_oo_column : Int32) (G_oo_start : Int32) (G_oo_scan : Int32) (G_oo_counted : Int32) (G_oo_afterCarriageReturn : Int32) : Option (Int32) := (f3_0 x8 G_oo_line G_oo_column G_oo_start G_oo_scan G_oo_counted G_oo_afterCarriageReturn G_cc).bind fun r165 => (f4_0 r165.1 r165.2.1 r165.2.2.1 r165.2.2.2.1 r165.2.2.2.2.1 r165.2.2.2.2.2 G_cc).bind fun r166 => (f5_0 x6 x8 G_cc).bind fun r167 => if r166 = r167 then (f9_0 r165.1 r165.2.1 r165.2.2.1 r165.2.2.2.1 r165.2.2.2.2.1 r165.2.2.2.2.2 G_cc).bind fun r169 => (f10_0 x6 x8 G_cc).bind fun r170 => if r169 = r170 then f0_201 t0 (1 : Int32) G_cc r165.1 r165.2.1 r165.2.2.1 r165.2.2.2.1 r165.2.2.2.2.1 r165.2.2.2.2.2 else f0_200 t0 G_cc r165.1 r165.2.1 r165.2.2.1 r165.2.2.2.1 r165.2.2.2.2.1 r165.2.2.2.2.2 else f0_200 t0 G_cc r165.1 r165.2.1 r165.2.2.1 r165.2.2.2.1 r165.2.2.2.2.1 r165.2.2.2.2.2
def f0_152 (x6 : Int32) (x8 : Int32) (G_cc : List Int32) (G_oo_line : Int32) (G_oo_column : Int32) (G_oo_start : Int32) (G_oo_scan : Int32) (G_oo_counted : Int32) (G_oo_afterCarriageReturn : Int32) : Option (Int32) := f0_153 x6 x8 (0 : Int32) G_cc G_oo_line G_oo_column G_oo_start G_oo_scan G_oo_counted G_oo_afterCarriageReturn
def f0_94 (x6 : Int32) (x7 : Int32) (x8 : Int32) (G_cc : List Int32) : Option (Int32) := (f1_0 x6 (0 : Int32) (0 : Int32) (0 : Int32) (0 : Int32) (0 : Int32) (0 : Int32) G_cc).bind fun r173 => (f3_0 x7 r173.1 r173.2.1 r173.2.2.1 r173.2.2.2.1 r173.2.2.2.2.1 r173.2.2.2.2.2 G_cc).bind fun r174 => (f4_0 r174.1 r174.2.1 r174.2.2.1 r174.2.2.2.1 r174.2.2.2.2.1 r174.2.2.2.2.2 G_cc).bind fun r175 => (f5_0 x6 x7 G_cc).bind fun r176 => if r175 = r176 then (f9_0 r174.1 r174.2.1 r174.2.2.1 r174.2.2.2.1 r174.2.2.2.2.1 r174.2.2.2.2.2 G_cc).bind fun r178 => (f10_0 x6 x7 G_cc).bind fun r179 => if r178 = r179 then f0_153 x6 x8 (1 : Int32) G_cc r174.1 r174.2.1 r174.2.2.1 r174.2.2.2.1 r174.2.2.2.2.1 r174.2.2.2.2.2 else f0_152 x6 x8 G_cc r174.1 r174.2.1 r174.2.2.1 r174.2.2.2.1 r174.2.2.2.2.1 r174.2.2.2.2.2 else f0_152 x6 x8 G_cc r174.1 r174.2.1 r174.2.2.1 r174.2.2.2.1 r174.2.2.2.2.1 r174.2.2.2.2.2
def f0_0 (x0 : Int32) (x1 : Int32) (x2 : Int32) (x3 : Int32) (x4 : Int32) : Option (Int32) := if ((7 : Int32) - (remI (x2 &&& (2147483647 : Int32)) (7 : Int32))) = 0 then none else if ((7 : Int32) - ((remI (x2 &&& (2147483647 : Int32)) (7 : Int32)) + (remI (x3 &&& (2147483647 : Int32)) ((7 : Int32) - (remI (x2 &&& (2147483647 : Int32)) (7 : Int32)))))) = 0 then none else f0_94 (remI (x2 &&& (2147483647 : Int32)) (7 : Int32)) ((remI (x2 &&& (2147483647 : Int32)) (7 : Int32)) + (remI (x3 &&& (2147483647 : Int32)) ((7 : Int32) - (remI (x2 &&& (2147483647 : Int32)) (7 : Int32))))) (((remI (x2 &&& (2147483647 : Int32)) (7 : Int32)) + (remI (x3 &&& (2147483647 : Int32)) ((7 : Int32) - (remI (x2 &&& (2147483647 : Int32)) (7 : Int32))))) + (remI (x4 &&& (2147483647 : Int32)) ((7 : Int32) - ((remI (x2 &&& (2147483647 : Int32)) (7 : Int32)) + (remI (x3 &&& (2147483647 : Int32)) ((7 : Int32) - (remI (x2 &&& (2147483647 : Int32)) (7 : Int32)))))))) ([(i2bF (i2bF x0)), (i2bF (i2bF (shrI x0 (8 : Int32)))), (i2bF (i2bF (shrI x0 (16 : Int32)))), (i2bF (i2bF (shrI x0 (24 : Int32)))), (i2bF (i2bF x1)), (i2bF (i2bF (shrI x1 (8 : Int32))))] : List Int32)
theorem pn_0 : plainName "com/example/yarrow/yarrow/data/StartTagsMoveToPinLaw" = true := by first | (simp [plainName, overriddenIn]; done) | decide +kernel
theorem ef_0 (m : MethodId) (x0 : Int32) (x1 : Int32) (x2 : Int32) (x3 : Int32) (x4 : Int32) : entryFrame m #[.int x0, .int x1, .int x2, .int x3, .int x4] maxLocals = mkF m 0 #[.val (.int x0), .val (.int x1), .val (.int x2), .val (.int x3), .val (.int x4), .unset, .unset, .unset, .unset, .unset, .unset, .unset] [] := by first | (simp [entryFrame, mkF, argsToLocals, Value.category, maxLocals]; done) | rfl
set_option maxRecDepth 65536 in
set_option maxHeartbeats 40000000 in
theorem rm0 (l : Launch) (Z : State) (a0 : Array Value) (hw : ∀ d ∈ tables_1, d.before a0 Z = true) (ws : List Jvm.Cond) (x0 : Int32) (x1 : Int32) (x2 : Int32) (x3 : Int32) (x4 : Int32)  (h0 : Heap) (n0 : Nat) (Z0 : n0 ≤ h0.size) (r : Int32) (hf : f0_0 x0 x1 x2 x3 x4 = some r)  :
    MetFree l x (head1 (Jvm.Cond.code x code maxLocals ret :: ws) room_1) (fun a U => a = #[.int x0, .int x1, .int x2, .int x3, .int x4] ∧ Z.Warmed39 U.vm ∧ U.heap = h0) (fun _ _ _ _ _ => True) (fun _ U o U' => ∃ v L, o = .returned v ∧ (fun v h L => v = some (.int r) ∧ Fr n0 L) v U'.heap L ∧ FrameEnd U o U' L room_1.cells room_1.slots) := by
  refine MetFree.of_bodySF (plainFor_of_name pn_0) hisR ?_
  intro p e s m args below meth c s₁ Bd hml0 hP hK
  obtain ⟨rfl, hZ, hh⟩ := hP
  have hx := Bd.exec
  have hby := Bd.bytes
  have hlk : meth.locks = false := BodyLoose.notSynchronized Bd
  have hret := Bd.returns
  have hml : c.maxLocals = 12 := hml0
  have hown : s.vm.findClass "com/example/yarrow/yarrow/data/StartTagsMoveToPinLaw" = some m.cls := findClass_of_methodNamed Bd.named
  have X0 : Stand p l e room_1 s m #[.int x0, .int x1, .int x2, .int x3, .int x4] below meth c s₁ [] 0 0 := Stand.of_body Bd
  have e0 : s₁.heap = h0 := by rw [← hh, Bd.state]; rfl
  have N0 := Fr.nil n0
  have K0 := Keep.refl h0 []
  suffices G : Go p e below s room_1.cells room_1.slots (fun v h L => v = some (.int r) ∧ Fr n0 L) m s₁ 0 #[.val (.int x0), .val (.int x1), .val (.int x2), .val (.int x3), .val (.int x4), .unset, .unset, .unset, .unset, .unset, .unset, .unset] [] by
    obtain ⟨s₂, o, h1, h2⟩ := G
    exact ⟨s₂, o, castTop (ef_0 m x0 x1 x2 x3 x4) h1, h2⟩
  have hf0 := hf
  clear hf
  have B201 : ∀ (T : State) (h : Heap) (locs : List Loc), Stand p l e room_1 s m #[.int x0, .int x1, .int x2, .int x3, .int x4] below meth c T locs 2 13 → T.heap = h → Fr n0 locs → Keep h0 h [] → ∀ (cc : Addr) (oo : Addr), h0.size ≤ cc → h0.size ≤ oo → cc ≠ oo → ∀ (G_cc : List Int32) (G_oo_line : Int32) (G_oo_column : Int32) (G_oo_start : Int32) (G_oo_scan : Int32) (G_oo_counted : Int32) (G_oo_afterCarriageReturn : Int32), AryI Z h cc .byte G_cc → Ob_S Z h oo (.int G_oo_line) (.int G_oo_column) (.ref cc) (.int G_oo_start) (.int G_oo_scan) (.int G_oo_counted) (.int G_oo_afterCarriageReturn) → ∀ (x0 : Int32) (x1 : Int32) (x2 : Int32) (x3 : Int32) (x4 : Int32) (x6 : Int32) (x7 : Int32) (x8 : Int32) (x10 : Int32) (t0 : Int32), f0_201 x10 t0 G_cc G_oo_line G_oo_column G_oo_start G_oo_scan G_oo_counted G_oo_afterCarriageReturn = some r → Go p e below s room_1.cells room_1.slots (fun v h L => v = some (.int r) ∧ Fr n0 L) m T 201 #[.val (.int x0), .val (.int x1), .val (.int x2), .val (.int x3), .val (.int x4), .val (.ref cc), .val (.int x6), .val (.int x7), .val (.int x8), .val (.ref oo), .val (.int x10), .unset] [.int t0] := by
    intro T196 h196 _ X196 e196 N196 K196 cc oo na_cc na_oo ne_cc_oo G_cc G_oo_line G_oo_column G_oo_start G_oo_scan G_oo_counted G_oo_afterCarriageReturn F196_cc F196_oo x0 x1 x2 x3 x4 x6 x7 x8 x10 t0 hf
    unfold f0_201 at hf
    refine Go.istore X196 hx hby (Ls' := #[.val (.int x0), .val (.int x1), .val (.int x2), .val (.int x3), .val (.int x4), .val (.ref cc), .val (.int x6), .val (.int x7), .val (.int x8), .val (.ref oo), .val (.int x10), .val (.int t0)]) at_201 rfl rfl ?_
    refine Go.iload X196 hx hby (v := x10) at_203 rfl rfl ?_
    refine Go.if_eq X196 hx hby (pc' := 217) at_205 (by decide) (by decide) rfl (fun hc197 => ?_) (fun hc197 => ?_)
    · replace hf := (if_pos hc197).symm.trans hf
      refine Go.iconst X196 hx hby (v := (0 : Int32)) at_217 rfl rfl ?_
      exact Go.iretN X196 hx hby hlk hret (Or.inl rfl) (w' := (0 : Int32)) rfl at_218 (by decide) (by decide) ⟨congrArg (fun z => some (Value.int z)) (Option.some.inj hf), N196⟩
    · replace hf := (if_neg hc197).symm.trans hf
      refine Go.iload X196 hx hby (v := t0) at_208 rfl rfl ?_
      refine Go.if_eq X196 hx hby (pc' := 217) at_210 (by decide) (by decide) rfl (fun hc198 => ?_) (fun hc198 => ?_)
      · replace hf := (if_pos hc198).symm.trans hf
        refine Go.iconst X196 hx hby (v := (0 : Int32)) at_217 rfl rfl ?_
        exact Go.iretN X196 hx hby hlk hret (Or.inl rfl) (w' := (0 : Int32)) rfl at_218 (by decide) (by decide) ⟨congrArg (fun z => some (Value.int z)) (Option.some.inj hf), N196⟩
      · replace hf := (if_neg hc198).symm.trans hf
        refine Go.iconst X196 hx hby (v := (1 : Int32)) at_213 rfl rfl ?_
        refine Go.goto X196 hx hby (pc' := 218) at_214 (by decide) (by decide) ?_
        exact Go.iretN X196 hx hby hlk hret (Or.inl rfl) (w' := (1 : Int32)) rfl at_218 (by decide) (by decide) ⟨congrArg (fun z => some (Value.int z)) (Option.some.inj hf), N196⟩
  have B200 : ∀ (T : State) (h : Heap) (locs : List Loc), Stand p l e room_1 s m #[.int x0, .int x1, .int x2, .int x3, .int x4] below meth c T locs 2 13 → T.heap = h → Fr n0 locs → Keep h0 h [] → ∀ (cc : Addr) (oo : Addr), h0.size ≤ cc → h0.size ≤ oo → cc ≠ oo → ∀ (G_cc : List Int32) (G_oo_line : Int32) (G_oo_column : Int32) (G_oo_start : Int32) (G_oo_scan : Int32) (G_oo_counted : Int32) (G_oo_afterCarriageReturn : Int32), AryI Z h cc .byte G_cc → Ob_S Z h oo (.int G_oo_line) (.int G_oo_column) (.ref cc) (.int G_oo_start) (.int G_oo_scan) (.int G_oo_counted) (.int G_oo_afterCarriageReturn) → ∀ (x0 : Int32) (x1 : Int32) (x2 : Int32) (x3 : Int32) (x4 : Int32) (x6 : Int32) (x7 : Int32) (x8 : Int32) (x10 : Int32), f0_200 x10 G_cc G_oo_line G_oo_column G_oo_start G_oo_scan G_oo_counted G_oo_afterCarriageReturn = some r → Go p e below s room_1.cells room_1.slots (fun v h L => v = some (.int r) ∧ Fr n0 L) m T 200 #[.val (.int x0), .val (.int x1), .val (.int x2), .val (.int x3), .val (.int x4), .val (.ref cc), .val (.int x6), .val (.int x7), .val (.int x8), .val (.ref oo), .val (.int x10), .unset] [] := by
    intro T199 h199 _ X199 e199 N199 K199 cc oo na_cc na_oo ne_cc_oo G_cc G_oo_line G_oo_column G_oo_start G_oo_scan G_oo_counted G_oo_afterCarriageReturn F199_cc F199_oo x0 x1 x2 x3 x4 x6 x7 x8 x10 hf
    unfold f0_200 at hf
    refine Go.iconst X199 hx hby (v := (0 : Int32)) at_200 rfl rfl ?_
    exact B201 T199 h199 _ X199 e199 N199 K199 cc oo na_cc na_oo ne_cc_oo G_cc G_oo_line G_oo_column G_oo_start G_oo_scan G_oo_counted G_oo_afterCarriageReturn F199_cc F199_oo x0 x1 x2 x3 x4 x6 x7 x8 x10 (0 : Int32) hf
  have B153 : ∀ (T : State) (h : Heap) (locs : List Loc), Stand p l e room_1 s m #[.int x0, .int x1, .int x2, .int x3, .int x4] below meth c T locs 2 13 → T.heap = h → Fr n0 locs → Keep h0 h [] → ∀ (cc : Addr) (oo : Addr), h0.size ≤ cc → h0.size ≤ oo → cc ≠ oo → ∀ (G_cc : List Int32) (G_oo_line : Int32) (G_oo_column : Int32) (G_oo_start : Int32) (G_oo_scan : Int32) (G_oo_counted : Int32) (G_oo_afterCarriageReturn : Int32), AryI Z h cc .byte G_cc → Ob_S Z h oo (.int G_oo_line) (.int G_oo_column) (.ref cc) (.int G_oo_start) (.int G_oo_scan) (.int G_oo_counted) (.int G_oo_afterCarriageReturn) → ∀ (x0 : Int32) (x1 : Int32) (x2 : Int32) (x3 : Int32) (x4 : Int32) (x6 : Int32) (x7 : Int32) (x8 : Int32) (t0 : Int32), f0_153 x6 x8 t0 G_cc G_oo_line G_oo_column G_oo_start G_oo_scan G_oo_counted G_oo_afterCarriageReturn = some r → Go p e below s room_1.cells room_1.slots (fun v h L => v = some (.int r) ∧ Fr n0 L) m T 153 #[.val (.int x0), .val (.int x1), .val (.int x2), .val (.int x3), .val (.int x4), .val (.ref cc), .val (.int x6), .val (.int x7), .val (.int x8), .val (.ref oo), .unset, .unset] [.int t0] := by
    intro T200 h200 _ X200 e200 N200 K200 cc oo na_cc na_oo ne_cc_oo G_cc G_oo_line G_oo_column G_oo_start G_oo_scan G_oo_counted G_oo_afterCarriageReturn F200_cc F200_oo x0 x1 x2 x3 x4 x6 x7 x8 t0 hf
    unfold f0_153 at hf
    refine Go.istore X200 hx hby (Ls' := #[.val (.int x0), .val (.int x1), .val (.int x2), .val (.int x3), .val (.int x4), .val (.ref cc), .val (.int x6), .val (.int x7), .val (.int x8), .val (.ref oo), .val (.int t0), .unset]) at_153 rfl rfl ?_
    refine Go.aload X200 hx hby (v := .ref oo) at_155 rfl rfl rfl ?_
    refine Go.iload X200 hx hby (v := x8) at_157 rfl rfl ?_
    obtain ⟨r201, g201, hf⟩ := Option.bind_eq_some_iff.mp hf
    refine Go.callV X200 hx hby hZ (by rw [hml]; rfl) (W := 0) (argsL := [.int x8]) (rest := []) hown (hw _ (List.mem_of_getElem? (i := 23) rfl)) (hw _ (List.mem_of_getElem? (i := 24) rfl)) (hw _ (List.mem_of_getElem? (i := 26) rfl)) (hw _ (List.mem_of_getElem? (i := 25) rfl)) (hw _ (List.mem_of_getElem? (i := 4) rfl)) (hw _ (List.mem_of_getElem? (i := 27) rfl))  (Ob_S.exa F200_oo) (by decide) (rm3 l Z a0 hw oo x8 cc G_oo_line G_oo_column G_oo_start G_oo_scan G_oo_counted G_oo_afterCarriageReturn G_cc h200 n0 (Nat.le_trans Z0 K200.1) r201 g201 F200_oo F200_cc (Nat.le_trans Z0 na_oo) (Ne.symm ne_cc_oo)) (by decide) (by decide) e200 pd_3 rfl rfl rfl (Nat.le_of_eq rfl) (by decide) (by decide) at_159 rfl (fun v201 T201 L201 X201 Q201 => ?_)
    obtain ⟨rfl, N201', K201', F201_oo⟩ := Q201
    have F201_cc := AryI.keep F200_cc K201' (ninS ne_cc_oo nin0)
    have N201 := Fr.app N200 N201'
    have K201 := Keep.trans K200 K201' (allS (P := fun x => _ ∨ _) (Or.inr na_oo) all0)
    refine Go.aload X201 hx hby (v := .ref oo) at_162 rfl rfl rfl ?_
    obtain ⟨r202, g202, hf⟩ := Option.bind_eq_some_iff.mp hf
    refine Go.callVP X201 hx hby hZ (by rw [hml]; rfl) (W := 0) (argsL := []) (rest := []) hown (hw _ (List.mem_of_getElem? (i := 30) rfl)) (hw _ (List.mem_of_getElem? (i := 31) rfl)) (hw _ (List.mem_of_getElem? (i := 33) rfl)) (hw _ (List.mem_of_getElem? (i := 32) rfl)) (hw _ (List.mem_of_getElem? (i := 4) rfl)) (hw _ (List.mem_of_getElem? (i := 34) rfl))  (Ob_S.exa F201_oo) (by decide) (rm4 l Z a0 hw oo cc r201.1 r201.2.1 r201.2.2.1 r201.2.2.2.1 r201.2.2.2.2.1 r201.2.2.2.2.2 G_cc T201.heap r202 g202 F201_oo F201_cc) (by decide) (by decide) rfl pd_4 rfl rfl rfl (Nat.le_of_eq rfl) rfl rfl (by decide) (by decide) at_164 rfl (fun T202 X202 e202 => ?_)
    refine Go.aload X202 hx hby (v := .ref cc) at_167 rfl rfl rfl ?_
    refine Go.iload X202 hx hby (v := x6) at_169 rfl rfl ?_
    refine Go.iload X202 hx hby (v := x8) at_171 rfl rfl ?_
    obtain ⟨r203, g203, hf⟩ := Option.bind_eq_some_iff.mp hf
    refine Go.callSP X202 hx hby hZ (by rw [hml]; rfl) (W := 1) (argsL := [.ref cc, .int x6, .int x8]) (rest := [.int r202]) hown (hw _ (List.mem_of_getElem? (i := 35) rfl)) (hw _ (List.mem_of_getElem? (i := 36) rfl)) (hw _ (List.mem_of_getElem? (i := 37) rfl)) (hw _ (List.mem_of_getElem? (i := 38) rfl)) (by decide) (rm5 l Z a0 hw cc x6 x8 G_cc T201.heap r203 g203 F201_cc) (by decide) (by decide) e202 pd_5 rfl rfl rfl (Nat.le_of_eq rfl) rfl rfl (by decide) (by decide) at_173 rfl (fun T203 X203 e203 => ?_)
    refine Go.icmp_ne X203 hx hby (pc' := 200) at_176 (by decide) (by decide) rfl (fun hc204 => ?_) (fun hc204 => ?_)
    · replace hf := (if_neg hc204).symm.trans hf
      exact B200 T203 T201.heap _ X203 e203 N201 K201 cc oo na_cc na_oo ne_cc_oo G_cc r201.1 r201.2.1 r201.2.2.1 r201.2.2.2.1 r201.2.2.2.2.1 r201.2.2.2.2.2 F201_cc F201_oo x0 x1 x2 x3 x4 x6 x7 x8 t0 hf
    · replace hf := (if_pos hc204).symm.trans hf
      refine Go.aload X203 hx hby (v := .ref oo) at_179 rfl rfl rfl ?_
      obtain ⟨r205, g205, hf⟩ := Option.bind_eq_some_iff.mp hf
      refine Go.callVP X203 hx hby hZ (by rw [hml]; rfl) (W := 0) (argsL := []) (rest := []) hown (hw _ (List.mem_of_getElem? (i := 48) rfl)) (hw _ (List.mem_of_getElem? (i := 49) rfl)) (hw _ (List.mem_of_getElem? (i := 51) rfl)) (hw _ (List.mem_of_getElem? (i := 50) rfl)) (hw _ (List.mem_of_getElem? (i := 4) rfl)) (hw _ (List.mem_of_getElem? (i := 52) rfl))  (Ob_S.exa F201_oo) (by decide) (rm9 l Z a0 hw oo cc r201.1 r201.2.1 r201.2.2.1 r201.2.2.2.1 r201.2.2.2.2.1 r201.2.2.2.2.2 G_cc T201.heap r205 g205 F201_oo F201_cc) (by decide) (by decide) e203 pd_9 rfl rfl rfl (Nat.le_of_eq rfl) rfl rfl (by decide) (by decide) at_181 rfl (fun T205 X205 e205 => ?_)
      refine Go.aload X205 hx hby (v := .ref cc) at_184 rfl rfl rfl ?_
      refine Go.iload X205 hx hby (v := x6) at_186 rfl rfl ?_
      refine Go.iload X205 hx hby (v := x8) at_188 rfl rfl ?_
      obtain ⟨r206, g206, hf⟩ := Option.bind_eq_some_iff.mp hf
      refine Go.callSP X205 hx hby hZ (by rw [hml]; rfl) (W := 1) (argsL := [.ref cc, .int x6, .int x8]) (rest := [.int r205]) hown (hw _ (List.mem_of_getElem? (i := 53) rfl)) (hw _ (List.mem_of_getElem? (i := 54) rfl)) (hw _ (List.mem_of_getElem? (i := 37) rfl)) (hw _ (List.mem_of_getElem? (i := 55) rfl)) (by decide) (rm10 l Z a0 hw cc x6 x8 G_cc T201.heap r206 g206 F201_cc) (by decide) (by decide) e205 pd_10 rfl rfl rfl (Nat.le_of_eq rfl) rfl rfl (by decide) (by decide) at_190 rfl (fun T206 X206 e206 => ?_)
      refine Go.icmp_ne X206 hx hby (pc' := 200) at_193 (by decide) (by decide) rfl (fun hc207 => ?_) (fun hc207 => ?_)
      · replace hf := (if_neg hc207).symm.trans hf
        exact B200 T206 T201.heap _ X206 e206 N201 K201 cc oo na_cc na_oo ne_cc_oo G_cc r201.1 r201.2.1 r201.2.2.1 r201.2.2.2.1 r201.2.2.2.2.1 r201.2.2.2.2.2 F201_cc F201_oo x0 x1 x2 x3 x4 x6 x7 x8 t0 hf
      · replace hf := (if_pos hc207).symm.trans hf
        refine Go.iconst X206 hx hby (v := (1 : Int32)) at_196 rfl rfl ?_
        refine Go.goto X206 hx hby (pc' := 201) at_197 (by decide) (by decide) ?_
        exact B201 T206 T201.heap _ X206 e206 N201 K201 cc oo na_cc na_oo ne_cc_oo G_cc r201.1 r201.2.1 r201.2.2.1 r201.2.2.2.1 r201.2.2.2.2.1 r201.2.2.2.2.2 F201_cc F201_oo x0 x1 x2 x3 x4 x6 x7 x8 t0 (1 : Int32) hf
  have B152 : ∀ (T : State) (h : Heap) (locs : List Loc), Stand p l e room_1 s m #[.int x0, .int x1, .int x2, .int x3, .int x4] below meth c T locs 2 13 → T.heap = h → Fr n0 locs → Keep h0 h [] → ∀ (cc : Addr) (oo : Addr), h0.size ≤ cc → h0.size ≤ oo → cc ≠ oo → ∀ (G_cc : List Int32) (G_oo_line : Int32) (G_oo_column : Int32) (G_oo_start : Int32) (G_oo_scan : Int32) (G_oo_counted : Int32) (G_oo_afterCarriageReturn : Int32), AryI Z h cc .byte G_cc → Ob_S Z h oo (.int G_oo_line) (.int G_oo_column) (.ref cc) (.int G_oo_start) (.int G_oo_scan) (.int G_oo_counted) (.int G_oo_afterCarriageReturn) → ∀ (x0 : Int32) (x1 : Int32) (x2 : Int32) (x3 : Int32) (x4 : Int32) (x6 : Int32) (x7 : Int32) (x8 : Int32), f0_152 x6 x8 G_cc G_oo_line G_oo_column G_oo_start G_oo_scan G_oo_counted G_oo_afterCarriageReturn = some r → Go p e below s room_1.cells room_1.slots (fun v h L => v = some (.int r) ∧ Fr n0 L) m T 152 #[.val (.int x0), .val (.int x1), .val (.int x2), .val (.int x3), .val (.int x4), .val (.ref cc), .val (.int x6), .val (.int x7), .val (.int x8), .val (.ref oo), .unset, .unset] [] := by
    intro T208 h208 _ X208 e208 N208 K208 cc oo na_cc na_oo ne_cc_oo G_cc G_oo_line G_oo_column G_oo_start G_oo_scan G_oo_counted G_oo_afterCarriageReturn F208_cc F208_oo x0 x1 x2 x3 x4 x6 x7 x8 hf
    unfold f0_152 at hf
    refine Go.iconst X208 hx hby (v := (0 : Int32)) at_152 rfl rfl ?_
    exact B153 T208 h208 _ X208 e208 N208 K208 cc oo na_cc na_oo ne_cc_oo G_cc G_oo_line G_oo_column G_oo_start G_oo_scan G_oo_counted G_oo_afterCarriageReturn F208_cc F208_oo x0 x1 x2 x3 x4 x6 x7 x8 (0 : Int32) hf
  have B94 : ∀ (T : State) (h : Heap) (locs : List Loc), Stand p l e room_1 s m #[.int x0, .int x1, .int x2, .int x3, .int x4] below meth c T locs 1 6 → T.heap = h → Fr n0 locs → Keep h0 h [] → ∀ (cc : Addr), h0.size ≤ cc → ∀ (G_cc : List Int32), AryI Z h cc .byte G_cc → ∀ (x0 : Int32) (x1 : Int32) (x2 : Int32) (x3 : Int32) (x4 : Int32) (x6 : Int32) (x7 : Int32) (x8 : Int32), f0_94 x6 x7 x8 G_cc = some r → Go p e below s room_1.cells room_1.slots (fun v h L => v = some (.int r) ∧ Fr n0 L) m T 94 #[.val (.int x0), .val (.int x1), .val (.int x2), .val (.int x3), .val (.int x4), .val (.ref cc), .val (.int x6), .val (.int x7), .val (.int x8), .unset, .unset, .unset] [] := by
    intro T209 h209 _ X209 e209 N209 K209 cc na_cc G_cc F209_cc x0 x1 x2 x3 x4 x6 x7 x8 hf
    unfold f0_94 at hf
    refine Go.newO X209 hx hby hZ hown (hw _ (List.mem_of_getElem? (i := 2) rfl)) (hw _ (List.mem_of_getElem? (i := 3) rfl)) (hw _ (List.mem_of_getElem? (i := 4) rfl)) e209 at_94 rfl (by decide) (by decide) (fun T210 h210 oo X210 e210 E210 z210 A210 D210 => ?_)
    have ne_cc_oo : cc ≠ oo := Nat.ne_of_lt (Nat.lt_of_lt_of_le (AryI.lt F209_cc) z210)
    have F210_cc := AryI.ext F209_cc E210
    have na_oo := Nat.le_trans K209.1 z210
    have K210 := Keep.ext K209 E210
    refine Go.dup X210 hx hby at_97 rfl rfl ?_
    refine Go.aload X210 hx hby (v := .ref cc) at_98 rfl rfl rfl ?_
    refine Go.iload X210 hx hby (v := x6) at_100 rfl rfl ?_
    obtain ⟨r211, g211, hf⟩ := Option.bind_eq_some_iff.mp hf
    refine Go.callC X210 hx hby hZ (by rw [hml]; rfl) (W := 1) (argsL := [.ref cc, .int x6]) (rest := [.ref oo]) hown (hw _ (List.mem_of_getElem? (i := 5) rfl)) (hw _ (List.mem_of_getElem? (i := 6) rfl)) (hw _ (List.mem_of_getElem? (i := 4) rfl)) (hw _ (List.mem_of_getElem? (i := 7) rfl)) (by decide) rfl (rm1 l Z a0 hw oo cc x6 (0 : Int32) (0 : Int32) (0 : Int32) (0 : Int32) (0 : Int32) (0 : Int32) G_cc h210 n0 (Nat.le_trans Z0 K210.1) r211 g211 (Ob_S.mk A210 (D210 (Or.inl (hw _ (List.mem_of_getElem? (i := 12) rfl))) (ty := .int) (by decide)) (D210 (Or.inl (hw _ (List.mem_of_getElem? (i := 14) rfl))) (ty := .int) (by decide)) (D210 (Or.inr (hw _ (List.mem_of_getElem? (i := 16) rfl))) (ty := (.array .byte)) (by decide)) (D210 (Or.inr (hw _ (List.mem_of_getElem? (i := 18) rfl))) (ty := .int) (by decide)) (D210 (Or.inl (hw _ (List.mem_of_getElem? (i := 20) rfl))) (ty := .int) (by decide)) (D210 (Or.inl (hw _ (List.mem_of_getElem? (i := 22) rfl))) (ty := .int) (by decide)) (D210 (Or.inl (hw _ (List.mem_of_getElem? (i := 29) rfl))) (ty := .boolean) (by decide))) F210_cc (Nat.le_trans Z0 na_oo) (Ne.symm ne_cc_oo)) (by decide) (by decide) e210 pd_1 rfl rfl rfl (Nat.le_of_eq rfl) (by decide) (by decide) at_102 rfl (fun v211 T211 L211 X211 Q211 => ?_)
    obtain ⟨rfl, N211', K211', F211_oo⟩ := Q211
    have F211_cc := AryI.keep F210_cc K211' (ninS ne_cc_oo nin0)
    have N211 := Fr.app N209 N211'
    have K211 := Keep.trans K210 K211' (allS (P := fun x => _ ∨ _) (Or.inr na_oo) all0)
    refine Go.astore X211 hx hby (Ls' := #[.val (.int x0), .val (.int x1), .val (.int x2), .val (.int x3), .val (.int x4), .val (.ref cc), .val (.int x6), .val (.int x7), .val (.int x8), .val (.ref oo), .unset, .unset]) at_105 rfl rfl rfl ?_
    refine Go.aload X211 hx hby (v := .ref oo) at_107 rfl rfl rfl ?_
    refine Go.iload X211 hx hby (v := x7) at_109 rfl rfl ?_
    obtain ⟨r212, g212, hf⟩ := Option.bind_eq_some_iff.mp hf
    refine Go.callV X211 hx hby hZ (by rw [hml]; rfl) (W := 0) (argsL := [.int x7]) (rest := []) hown (hw _ (List.mem_of_getElem? (i := 23) rfl)) (hw _ (List.mem_of_getElem? (i := 24) rfl)) (hw _ (List.mem_of_getElem? (i := 26) rfl)) (hw _ (List.mem_of_getElem? (i := 25) rfl)) (hw _ (List.mem_of_getElem? (i := 4) rfl)) (hw _ (List.mem_of_getElem? (i := 27) rfl))  (Ob_S.exa F211_oo) (by decide) (rm3 l Z a0 hw oo x7 cc r211.1 r211.2.1 r211.2.2.1 r211.2.2.2.1 r211.2.2.2.2.1 r211.2.2.2.2.2 G_cc T211.heap n0 (Nat.le_trans Z0 K211.1) r212 g212 F211_oo F211_cc (Nat.le_trans Z0 na_oo) (Ne.symm ne_cc_oo)) (by decide) (by decide) rfl pd_3 rfl rfl rfl (Nat.le_of_eq rfl) (by decide) (by decide) at_111 rfl (fun v212 T212 L212 X212 Q212 => ?_)
    obtain ⟨rfl, N212', K212', F212_oo⟩ := Q212
    have F212_cc := AryI.keep F211_cc K212' (ninS ne_cc_oo nin0)
    have N212 := Fr.app N211 N212'
    have K212 := Keep.trans K211 K212' (allS (P := fun x => _ ∨ _) (Or.inr na_oo) all0)
    refine Go.aload X212 hx hby (v := .ref oo) at_114 rfl rfl rfl ?_
    obtain ⟨r213, g213, hf⟩ := Option.bind_eq_some_iff.mp hf
    refine Go.callVP X212 hx hby hZ (by rw [hml]; rfl) (W := 0) (argsL := []) (rest := []) hown (hw _ (List.mem_of_getElem? (i := 30) rfl)) (hw _ (List.mem_of_getElem? (i := 31) rfl)) (hw _ (List.mem_of_getElem? (i := 33) rfl)) (hw _ (List.mem_of_getElem? (i := 32) rfl)) (hw _ (List.mem_of_getElem? (i := 4) rfl)) (hw _ (List.mem_of_getElem? (i := 34) rfl))  (Ob_S.exa F212_oo) (by decide) (rm4 l Z a0 hw oo cc r212.1 r212.2.1 r212.2.2.1 r212.2.2.2.1 r212.2.2.2.2.1 r212.2.2.2.2.2 G_cc T212.heap r213 g213 F212_oo F212_cc) (by decide) (by decide) rfl pd_4 rfl rfl rfl (Nat.le_of_eq rfl) rfl rfl (by decide) (by decide) at_116 rfl (fun T213 X213 e213 => ?_)
    refine Go.aload X213 hx hby (v := .ref cc) at_119 rfl rfl rfl ?_
    refine Go.iload X213 hx hby (v := x6) at_121 rfl rfl ?_
    refine Go.iload X213 hx hby (v := x7) at_123 rfl rfl ?_
    obtain ⟨r214, g214, hf⟩ := Option.bind_eq_some_iff.mp hf
    refine Go.callSP X213 hx hby hZ (by rw [hml]; rfl) (W := 1) (argsL := [.ref cc, .int x6, .int x7]) (rest := [.int r213]) hown (hw _ (List.mem_of_getElem? (i := 35) rfl)) (hw _ (List.mem_of_getElem? (i := 36) rfl)) (hw _ (List.mem_of_getElem? (i := 37) rfl)) (hw _ (List.mem_of_getElem? (i := 38) rfl)) (by decide) (rm5 l Z a0 hw cc x6 x7 G_cc T212.heap r214 g214 F212_cc) (by decide) (by decide) e213 pd_5 rfl rfl rfl (Nat.le_of_eq rfl) rfl rfl (by decide) (by decide) at_125 rfl (fun T214 X214 e214 => ?_)
    refine Go.icmp_ne X214 hx hby (pc' := 152) at_128 (by decide) (by decide) rfl (fun hc215 => ?_) (fun hc215 => ?_)
    · replace hf := (if_neg hc215).symm.trans hf
      exact B152 T214 T212.heap _ X214 e214 N212 K212 cc oo na_cc na_oo ne_cc_oo G_cc r212.1 r212.2.1 r212.2.2.1 r212.2.2.2.1 r212.2.2.2.2.1 r212.2.2.2.2.2 F212_cc F212_oo x0 x1 x2 x3 x4 x6 x7 x8 hf
    · replace hf := (if_pos hc215).symm.trans hf
      refine Go.aload X214 hx hby (v := .ref oo) at_131 rfl rfl rfl ?_
      obtain ⟨r216, g216, hf⟩ := Option.bind_eq_some_iff.mp hf
      refine Go.callVP X214 hx hby hZ (by rw [hml]; rfl) (W := 0) (argsL := []) (rest := []) hown (hw _ (List.mem_of_getElem? (i := 48) rfl)) (hw _ (List.mem_of_getElem? (i := 49) rfl)) (hw _ (List.mem_of_getElem? (i := 51) rfl)) (hw _ (List.mem_of_getElem? (i := 50) rfl)) (hw _ (List.mem_of_getElem? (i := 4) rfl)) (hw _ (List.mem_of_getElem? (i := 52) rfl))  (Ob_S.exa F212_oo) (by decide) (rm9 l Z a0 hw oo cc r212.1 r212.2.1 r212.2.2.1 r212.2.2.2.1 r212.2.2.2.2.1 r212.2.2.2.2.2 G_cc T212.heap r216 g216 F212_oo F212_cc) (by decide) (by decide) e214 pd_9 rfl rfl rfl (Nat.le_of_eq rfl) rfl rfl (by decide) (by decide) at_133 rfl (fun T216 X216 e216 => ?_)
      refine Go.aload X216 hx hby (v := .ref cc) at_136 rfl rfl rfl ?_
      refine Go.iload X216 hx hby (v := x6) at_138 rfl rfl ?_
      refine Go.iload X216 hx hby (v := x7) at_140 rfl rfl ?_
      obtain ⟨r217, g217, hf⟩ := Option.bind_eq_some_iff.mp hf
      refine Go.callSP X216 hx hby hZ (by rw [hml]; rfl) (W := 1) (argsL := [.ref cc, .int x6, .int x7]) (rest := [.int r216]) hown (hw _ (List.mem_of_getElem? (i := 53) rfl)) (hw _ (List.mem_of_getElem? (i := 54) rfl)) (hw _ (List.mem_of_getElem? (i := 37) rfl)) (hw _ (List.mem_of_getElem? (i := 55) rfl)) (by decide) (rm10 l Z a0 hw cc x6 x7 G_cc T212.heap r217 g217 F212_cc) (by decide) (by decide) e216 pd_10 rfl rfl rfl (Nat.le_of_eq rfl) rfl rfl (by decide) (by decide) at_142 rfl (fun T217 X217 e217 => ?_)
      refine Go.icmp_ne X217 hx hby (pc' := 152) at_145 (by decide) (by decide) rfl (fun hc218 => ?_) (fun hc218 => ?_)
      · replace hf := (if_neg hc218).symm.trans hf
        exact B152 T217 T212.heap _ X217 e217 N212 K212 cc oo na_cc na_oo ne_cc_oo G_cc r212.1 r212.2.1 r212.2.2.1 r212.2.2.2.1 r212.2.2.2.2.1 r212.2.2.2.2.2 F212_cc F212_oo x0 x1 x2 x3 x4 x6 x7 x8 hf
      · replace hf := (if_pos hc218).symm.trans hf
        refine Go.iconst X217 hx hby (v := (1 : Int32)) at_148 rfl rfl ?_
        refine Go.goto X217 hx hby (pc' := 153) at_149 (by decide) (by decide) ?_
        exact B153 T217 T212.heap _ X217 e217 N212 K212 cc oo na_cc na_oo ne_cc_oo G_cc r212.1 r212.2.1 r212.2.2.1 r212.2.2.2.1 r212.2.2.2.2.1 r212.2.2.2.2.2 F212_cc F212_oo x0 x1 x2 x3 x4 x6 x7 x8 (1 : Int32) hf
  have hf := hf0
  unfold f0_0 at hf
  refine Go.bipush X0 hx hby (v := (6 : Int32)) at_0 rfl rfl ?_
  refine Go.newA X0 hx hby hZ (nn := 6) (ty := .byte) (hw _ (List.mem_of_getElem? (i := 0) rfl)) e0 at_2 rfl rfl rfl (by decide) (by decide) (by decide) (by decide) (by decide) (fun T219 h219 cc X219 e219 E219 z219 A219 => ?_)
  have na_cc := Nat.le_trans K0.1 z219
  have K219 := Keep.ext K0 E219
  have A219 : AryI Z h219 cc .byte ([0, 0, 0, 0, 0, 0] : List Int32) := A219
  refine Go.astore X219 hx hby (Ls' := #[.val (.int x0), .val (.int x1), .val (.int x2), .val (.int x3), .val (.int x4), .val (.ref cc), .unset, .unset, .unset, .unset, .unset, .unset]) at_4 rfl rfl rfl ?_
  refine Go.aload X219 hx hby (v := .ref cc) at_6 rfl rfl rfl ?_
  refine Go.iconst X219 hx hby (v := (0 : Int32)) at_8 rfl rfl ?_
  refine Go.iloadN X219 hx hby (v := x0) at_9 rfl rfl ?_
  refine Go.i2b X219 hx hby at_10 rfl ?_
  refine Go.bastore X219 hx hby hZ e219 A219 (own_inK (n := 6) rfl (by decide)) at_11 rfl (fun T221 h221 X221 e221 W221 A221 => ?_)
  have N221 := Fr.snoc X221 N0 (Nat.le_trans Z0 na_cc)
  have K221 := Keep.wr K219 W221 (Or.inr na_cc)
  have A221 : AryI Z h221 cc .byte ([(i2bF (i2bF x0)), 0, 0, 0, 0, 0] : List Int32) := A221
  refine Go.aload X221 hx hby (v := .ref cc) at_12 rfl rfl rfl ?_
  refine Go.iconst X221 hx hby (v := (1 : Int32)) at_14 rfl rfl ?_
  refine Go.iloadN X221 hx hby (v := x0) at_15 rfl rfl ?_
  refine Go.bipush X221 hx hby (v := (8 : Int32)) at_16 rfl rfl ?_
  refine Go.ishr X221 hx hby at_18 rfl ?_
  refine Go.i2b X221 hx hby at_19 rfl ?_
  refine Go.bastore X221 hx hby hZ e221 A221 (own_inK (n := 6) rfl (by decide)) at_20 rfl (fun T223 h223 X223 e223 W223 A223 => ?_)
  have N223 := Fr.snoc X223 N221 (Nat.le_trans Z0 na_cc)
  have K223 := Keep.wr K221 W223 (Or.inr na_cc)
  have A223 : AryI Z h223 cc .byte ([(i2bF (i2bF x0)), (i2bF (i2bF (shrI x0 (8 : Int32)))), 0, 0, 0, 0] : List Int32) := A223
  refine Go.aload X223 hx hby (v := .ref cc) at_21 rfl rfl rfl ?_
  refine Go.iconst X223 hx hby (v := (2 : Int32)) at_23 rfl rfl ?_
  refine Go.iloadN X223 hx hby (v := x0) at_24 rfl rfl ?_
  refine Go.bipush X223 hx hby (v := (16 : Int32)) at_25 rfl rfl ?_
  refine Go.ishr X223 hx hby at_27 rfl ?_
  refine Go.i2b X223 hx hby at_28 rfl ?_
  refine Go.bastore X223 hx hby hZ e223 A223 (own_inK (n := 6) rfl (by decide)) at_29 rfl (fun T225 h225 X225 e225 W225 A225 => ?_)
  have N225 := Fr.snoc X225 N223 (Nat.le_trans Z0 na_cc)
  have K225 := Keep.wr K223 W225 (Or.inr na_cc)
  have A225 : AryI Z h225 cc .byte ([(i2bF (i2bF x0)), (i2bF (i2bF (shrI x0 (8 : Int32)))), (i2bF (i2bF (shrI x0 (16 : Int32)))), 0, 0, 0] : List Int32) := A225
  refine Go.aload X225 hx hby (v := .ref cc) at_30 rfl rfl rfl ?_
  refine Go.iconst X225 hx hby (v := (3 : Int32)) at_32 rfl rfl ?_
  refine Go.iloadN X225 hx hby (v := x0) at_33 rfl rfl ?_
  refine Go.bipush X225 hx hby (v := (24 : Int32)) at_34 rfl rfl ?_
  refine Go.ishr X225 hx hby at_36 rfl ?_
  refine Go.i2b X225 hx hby at_37 rfl ?_
  refine Go.bastore X225 hx hby hZ e225 A225 (own_inK (n := 6) rfl (by decide)) at_38 rfl (fun T227 h227 X227 e227 W227 A227 => ?_)
  have N227 := Fr.snoc X227 N225 (Nat.le_trans Z0 na_cc)
  have K227 := Keep.wr K225 W227 (Or.inr na_cc)
  have A227 : AryI Z h227 cc .byte ([(i2bF (i2bF x0)), (i2bF (i2bF (shrI x0 (8 : Int32)))), (i2bF (i2bF (shrI x0 (16 : Int32)))), (i2bF (i2bF (shrI x0 (24 : Int32)))), 0, 0] : List Int32) := A227
  refine Go.aload X227 hx hby (v := .ref cc) at_39 rfl rfl rfl ?_
  refine Go.iconst X227 hx hby (v := (4 : Int32)) at_41 rfl rfl ?_
  refine Go.iloadN X227 hx hby (v := x1) at_42 rfl rfl ?_
  refine Go.i2b X227 hx hby at_43 rfl ?_
  refine Go.bastore X227 hx hby hZ e227 A227 (own_inK (n := 6) rfl (by decide)) at_44 rfl (fun T229 h229 X229 e229 W229 A229 => ?_)
  have N229 := Fr.snoc X229 N227 (Nat.le_trans Z0 na_cc)
  have K229 := Keep.wr K227 W229 (Or.inr na_cc)
  have A229 : AryI Z h229 cc .byte ([(i2bF (i2bF x0)), (i2bF (i2bF (shrI x0 (8 : Int32)))), (i2bF (i2bF (shrI x0 (16 : Int32)))), (i2bF (i2bF (shrI x0 (24 : Int32)))), (i2bF (i2bF x1)), 0] : List Int32) := A229
  refine Go.aload X229 hx hby (v := .ref cc) at_45 rfl rfl rfl ?_
  refine Go.iconst X229 hx hby (v := (5 : Int32)) at_47 rfl rfl ?_
  refine Go.iloadN X229 hx hby (v := x1) at_48 rfl rfl ?_
  refine Go.bipush X229 hx hby (v := (8 : Int32)) at_49 rfl rfl ?_
  refine Go.ishr X229 hx hby at_51 rfl ?_
  refine Go.i2b X229 hx hby at_52 rfl ?_
  refine Go.bastore X229 hx hby hZ e229 A229 (own_inK (n := 6) rfl (by decide)) at_53 rfl (fun T231 h231 X231 e231 W231 A231 => ?_)
  have N231 := Fr.snoc X231 N229 (Nat.le_trans Z0 na_cc)
  have K231 := Keep.wr K229 W231 (Or.inr na_cc)
  have A231 : AryI Z h231 cc .byte ([(i2bF (i2bF x0)), (i2bF (i2bF (shrI x0 (8 : Int32)))), (i2bF (i2bF (shrI x0 (16 : Int32)))), (i2bF (i2bF (shrI x0 (24 : Int32)))), (i2bF (i2bF x1)), (i2bF (i2bF (shrI x1 (8 : Int32))))] : List Int32) := A231
  refine Go.iloadN X231 hx hby (v := x2) at_54 rfl rfl ?_
  refine Go.ldcI X231 hx hby hZ (v := (2147483647 : Int32)) hown (hw _ (List.mem_of_getElem? (i := 1) rfl)) at_55 rfl ?_
  refine Go.iand X231 hx hby at_57 rfl ?_
  refine Go.bipush X231 hx hby (v := (7 : Int32)) at_58 rfl rfl ?_
  refine Go.irem X231 hx hby at_60 rfl (by decide) ?_
  refine Go.istore X231 hx hby (Ls' := #[.val (.int x0), .val (.int x1), .val (.int x2), .val (.int x3), .val (.int x4), .val (.ref cc), .val (.int (remI (x2 &&& (2147483647 : Int32)) (7 : Int32))), .unset, .unset, .unset, .unset, .unset]) at_61 rfl rfl ?_
  refine Go.iload X231 hx hby (v := (remI (x2 &&& (2147483647 : Int32)) (7 : Int32))) at_63 rfl rfl ?_
  refine Go.iloadN X231 hx hby (v := x3) at_65 rfl rfl ?_
  refine Go.ldcI X231 hx hby hZ (v := (2147483647 : Int32)) hown (hw _ (List.mem_of_getElem? (i := 1) rfl)) at_66 rfl ?_
  refine Go.iand X231 hx hby at_68 rfl ?_
  refine Go.bipush X231 hx hby (v := (7 : Int32)) at_69 rfl rfl ?_
  refine Go.iload X231 hx hby (v := (remI (x2 &&& (2147483647 : Int32)) (7 : Int32))) at_71 rfl rfl ?_
  refine Go.isub X231 hx hby at_73 rfl ?_
  rcases Decidable.em (((7 : Int32) - (remI (x2 &&& (2147483647 : Int32)) (7 : Int32))) = 0) with hy232 | hy232
  · exact absurd ((if_pos hy232).symm.trans hf) nofun
  replace hf := (if_neg hy232).symm.trans hf
  refine Go.irem X231 hx hby at_74 rfl hy232 ?_
  refine Go.iadd X231 hx hby at_75 rfl ?_
  refine Go.istore X231 hx hby (Ls' := #[.val (.int x0), .val (.int x1), .val (.int x2), .val (.int x3), .val (.int x4), .val (.ref cc), .val (.int (remI (x2 &&& (2147483647 : Int32)) (7 : Int32))), .val (.int ((remI (x2 &&& (2147483647 : Int32)) (7 : Int32)) + (remI (x3 &&& (2147483647 : Int32)) ((7 : Int32) - (remI (x2 &&& (2147483647 : Int32)) (7 : Int32)))))), .unset, .unset, .unset, .unset]) at_76 rfl rfl ?_
  refine Go.iload X231 hx hby (v := ((remI (x2 &&& (2147483647 : Int32)) (7 : Int32)) + (remI (x3 &&& (2147483647 : Int32)) ((7 : Int32) - (remI (x2 &&& (2147483647 : Int32)) (7 : Int32)))))) at_78 rfl rfl ?_
  refine Go.iload X231 hx hby (v := x4) at_80 rfl rfl ?_
  refine Go.ldcI X231 hx hby hZ (v := (2147483647 : Int32)) hown (hw _ (List.mem_of_getElem? (i := 1) rfl)) at_82 rfl ?_
  refine Go.iand X231 hx hby at_84 rfl ?_
  refine Go.bipush X231 hx hby (v := (7 : Int32)) at_85 rfl rfl ?_
  refine Go.iload X231 hx hby (v := ((remI (x2 &&& (2147483647 : Int32)) (7 : Int32)) + (remI (x3 &&& (2147483647 : Int32)) ((7 : Int32) - (remI (x2 &&& (2147483647 : Int32)) (7 : Int32)))))) at_87 rfl rfl ?_
  refine Go.isub X231 hx hby at_89 rfl ?_
  rcases Decidable.em (((7 : Int32) - ((remI (x2 &&& (2147483647 : Int32)) (7 : Int32)) + (remI (x3 &&& (2147483647 : Int32)) ((7 : Int32) - (remI (x2 &&& (2147483647 : Int32)) (7 : Int32)))))) = 0) with hy233 | hy233
  · exact absurd ((if_pos hy233).symm.trans hf) nofun
  replace hf := (if_neg hy233).symm.trans hf
  refine Go.irem X231 hx hby at_90 rfl hy233 ?_
  refine Go.iadd X231 hx hby at_91 rfl ?_
  refine Go.istore X231 hx hby (Ls' := #[.val (.int x0), .val (.int x1), .val (.int x2), .val (.int x3), .val (.int x4), .val (.ref cc), .val (.int (remI (x2 &&& (2147483647 : Int32)) (7 : Int32))), .val (.int ((remI (x2 &&& (2147483647 : Int32)) (7 : Int32)) + (remI (x3 &&& (2147483647 : Int32)) ((7 : Int32) - (remI (x2 &&& (2147483647 : Int32)) (7 : Int32)))))), .val (.int (((remI (x2 &&& (2147483647 : Int32)) (7 : Int32)) + (remI (x3 &&& (2147483647 : Int32)) ((7 : Int32) - (remI (x2 &&& (2147483647 : Int32)) (7 : Int32))))) + (remI (x4 &&& (2147483647 : Int32)) ((7 : Int32) - ((remI (x2 &&& (2147483647 : Int32)) (7 : Int32)) + (remI (x3 &&& (2147483647 : Int32)) ((7 : Int32) - (remI (x2 &&& (2147483647 : Int32)) (7 : Int32))))))))), .unset, .unset, .unset]) at_92 rfl rfl ?_
  exact B94 T231 h231 _ X231 e231 N231 K231 cc na_cc  ([(i2bF (i2bF x0)), (i2bF (i2bF (shrI x0 (8 : Int32)))), (i2bF (i2bF (shrI x0 (16 : Int32)))), (i2bF (i2bF (shrI x0 (24 : Int32)))), (i2bF (i2bF x1)), (i2bF (i2bF (shrI x1 (8 : Int32))))] : List Int32) A231 x0 x1 x2 x3 x4 (remI (x2 &&& (2147483647 : Int32)) (7 : Int32)) ((remI (x2 &&& (2147483647 : Int32)) (7 : Int32)) + (remI (x3 &&& (2147483647 : Int32)) ((7 : Int32) - (remI (x2 &&& (2147483647 : Int32)) (7 : Int32))))) (((remI (x2 &&& (2147483647 : Int32)) (7 : Int32)) + (remI (x3 &&& (2147483647 : Int32)) ((7 : Int32) - (remI (x2 &&& (2147483647 : Int32)) (7 : Int32))))) + (remI (x4 &&& (2147483647 : Int32)) ((7 : Int32) - ((remI (x2 &&& (2147483647 : Int32)) (7 : Int32)) + (remI (x3 &&& (2147483647 : Int32)) ((7 : Int32) - (remI (x2 &&& (2147483647 : Int32)) (7 : Int32)))))))) hf
theorem own_mask (x : Int32) (k : Nat) (hk : k ≤ 31) (m : Int32) (hm : m = Int32.ofNat (2 ^ k - 1)) : (x &&& m).toInt = x.toInt % (2 ^ k : Nat) := by
  subst hm
  have h1 : (x &&& Int32.ofNat (2 ^ k - 1)).toBitVec.toNat = x.toBitVec.toNat % 2 ^ k := by
    rw [Int32.toBitVec_and, BitVec.toNat_and]
    have : (Int32.ofNat (2 ^ k - 1)).toBitVec.toNat = 2 ^ k - 1 := by
      show (BitVec.ofNat 32 (2 ^ k - 1)).toNat = _
      rw [BitVec.toNat_ofNat]
      apply Nat.mod_eq_of_lt
      have : 2 ^ k ≤ 2 ^ 31 := Nat.pow_le_pow_right (by decide) hk
      omega
    rw [this, Nat.and_two_pow_sub_one_eq_mod]
  have hp : 2 ^ k ≤ 2 ^ 31 := Nat.pow_le_pow_right (by decide) hk
  have hpos : 0 < 2 ^ k := Nat.two_pow_pos k
  have hlt := Nat.mod_lt x.toBitVec.toNat hpos
  show (x &&& Int32.ofNat (2 ^ k - 1)).toBitVec.toInt = x.toBitVec.toInt % _
  rw [BitVec.toInt_eq_toNat_cond, h1, if_pos (by omega), BitVec.toInt_eq_toNat_cond]
  split
  · simp
  · have hd : (2 ^ k : Nat) ∣ 2 ^ 32 := Nat.pow_dvd_pow 2 (by omega)
    obtain ⟨q, hq⟩ := hd
    rw [Int.sub_emod, show ((2 ^ 32 : Nat) : Int) % (2 ^ k : Nat) = 0 by rw [hq]; simp]
    simp
theorem own_fin32 (x : Int32) (N : Nat) (h0 : 0 ≤ x.toInt) (h1 : x.toInt < N) : ∃ n : Fin N, x = Int32.ofNat n.val := by
  refine ⟨⟨x.toInt.toNat, by omega⟩, Int32.toInt_inj.mp ?_⟩
  have := x.toInt_lt
  rw [Int32.toInt_ofNat_of_lt (by show x.toInt.toNat < _; omega)]
  show x.toInt = (x.toInt.toNat : Int); omega
theorem own_remI (x y : Int32) (hx : 0 ≤ x.toInt) (hy : 0 < y.toInt) : (remI x y).toInt = x.toInt % y.toInt := by
  have h1 := x.toInt_lt; have h2 := y.toInt_lt
  have hq : (x / y).toInt = x.toInt / y.toInt := by
    rw [Int32.toInt_div, Int.tdiv_eq_ediv_of_nonneg hx]
    have a1 : 0 ≤ x.toInt / y.toInt := Int.ediv_nonneg hx (by omega)
    have a2 : x.toInt / y.toInt ≤ x.toInt := Int.ediv_le_self _ hx
    exact Int.bmod_eq_of_le (by omega) (by omega)
  have e := Int.emod_add_mul_ediv x.toInt y.toInt
  have m0 := Int.emod_nonneg x.toInt (b := y.toInt) (by omega)
  have hm : (x / y * y).toInt = x.toInt / y.toInt * y.toInt := by
    rw [Int32.toInt_mul, hq]
    have : x.toInt / y.toInt * y.toInt = y.toInt * (x.toInt / y.toInt) := Int.mul_comm _ _
    have a1 : 0 ≤ y.toInt * (x.toInt / y.toInt) := Int.mul_nonneg (by omega) (Int.ediv_nonneg hx (by omega))
    exact Int.bmod_eq_of_le (by omega) (by omega)
  unfold remI
  rw [Int32.toInt_sub, hm]
  have : x.toInt / y.toInt * y.toInt = y.toInt * (x.toInt / y.toInt) := Int.mul_comm _ _
  have m1 := Int.emod_lt_of_pos x.toInt hy
  rw [show x.toInt - x.toInt / y.toInt * y.toInt = x.toInt % y.toInt by omega]
  exact Int.bmod_eq_of_le (by omega) (by omega)
theorem own_bm (x : Int) (n : Nat) (m : Int) (h : (2 * m).toNat = n) (hm : 0 < m) : x.bmod n = (x + m) % (2 * m) - m := by
  have hn : (n : Int) = 2 * m := by omega
  rw [Int.bmod_def, hn, show ((2 * m + 1) / 2 : Int) = m by omega]
  have h1 := Int.emod_nonneg x (b := 2 * m) (by omega)
  have h2 := Int.emod_lt_of_pos x (b := 2 * m) (by omega)
  have e := Int.emod_add_mul_ediv x (2 * m)
  generalize x / (2 * m) = q at *
  generalize x % (2 * m) = r at *
  subst e
  rw [show r + 2 * m * q + m = (r + m) + 2 * m * q by omega, Int.add_mul_emod_self_left]
  split
  · rw [Int.emod_eq_of_lt (by omega) (by omega)]; omega
  · rw [show r + m = (r - m) + 2 * m * 1 by omega, Int.add_mul_emod_self_left, Int.emod_eq_of_lt (by omega) (by omega)]; omega
theorem own_i2b (x : Int32) : (i2bF x).toInt = (x.toInt + 128) % 256 - 128 := by
  unfold i2bF; rw [Int8.toInt_toInt32, Int32.toInt_toInt8]; exact own_bm _ _ 128 rfl (by decide)
theorem own_i2s (x : Int32) : (i2sF x).toInt = (x.toInt + 32768) % 65536 - 32768 := by
  unfold i2sF; rw [Int16.toInt_toInt32, Int32.toInt_toInt16]; exact own_bm _ _ 32768 rfl (by decide)
theorem own_tonat (x : Int32) : (x.toBitVec.toNat : Int) = x.toInt % 4294967296 := by
  show _ = x.toBitVec.toInt % 4294967296
  rw [BitVec.toInt_eq_toNat_cond]
  have := x.toBitVec.isLt
  split <;> omega
theorem own_toint (x : Int32) (h : x.toBitVec.toNat < 2147483648) : x.toInt = x.toBitVec.toNat := by
  show x.toBitVec.toInt = _
  rw [BitVec.toInt_eq_toNat_cond, if_pos (by omega)]
theorem own_tonatJ (x : Int64) : (x.toBitVec.toNat : Int) = x.toInt % 18446744073709551616 := by
  show _ = x.toBitVec.toInt % 18446744073709551616
  rw [BitVec.toInt_eq_toNat_cond]
  have := x.toBitVec.isLt
  split <;> omega
theorem own_tointJ (x : Int64) (h : x.toBitVec.toNat < 9223372036854775808) : x.toInt = x.toBitVec.toNat := by
  show x.toBitVec.toInt = _
  rw [BitVec.toInt_eq_toNat_cond, if_pos (by omega)]
theorem own_i2c (x : Int32) : (i2cF x).toInt = x.toInt % 65536 := by
  have h : (i2cF x).toBitVec.toNat = x.toBitVec.toNat % 65536 := by
    show (BitVec.setWidth 32 (BitVec.setWidth 16 x.toBitVec)).toNat = _
    rw [BitVec.toNat_setWidth, BitVec.toNat_setWidth]; omega
  have := own_tonat x
  rw [own_toint _ (by omega), h]; omega
theorem own_amt : ∀ k : Fin 32, ((Int32.ofNat k.val &&& 31).toBitVec.smod 32).toNat = k.val := by decide +kernel
theorem own_amtU : ∀ k : Fin 32, ((Int32.ofNat k.val &&& 31).toUInt32.toBitVec.toNat) = k.val := by decide +kernel
theorem own_shr (x : Int32) (k : Nat) (hk : k < 32) : (shrI x (Int32.ofNat k)).toInt = x.toInt / (2 ^ k : Nat) := by
  show (BitVec.sshiftRight x.toBitVec ((Int32.ofNat k &&& 31).toBitVec.smod 32).toNat).toInt = x.toBitVec.toInt / _
  rw [own_amt ⟨k, hk⟩, BitVec.toInt_sshiftRight, Int.shiftRight_eq_div_pow]
theorem own_shl (x : Int32) (k : Nat) (hk : k < 32) : (shlI x (Int32.ofNat k)).toInt = (x.toInt * (2 ^ k : Nat)).bmod 4294967296 := by
  show (x.toBitVec <<< ((Int32.ofNat k &&& 31).toBitVec.smod 32)).toInt = (x.toBitVec.toInt * _).bmod _
  rw [BitVec.shiftLeft_eq', own_amt ⟨k, hk⟩, BitVec.toInt_shiftLeft, Nat.shiftLeft_eq, BitVec.toInt_eq_toNat_bmod]
  rw [Int.bmod_mul_bmod]
  congr 1
theorem own_ushr (x : Int32) (k : Nat) (hk : k < 32) (h0 : 0 < k) : (XT.ushr x (Int32.ofNat k)).toInt = (x.toInt % 4294967296) / (2 ^ k : Nat) := by
  have h : (XT.ushr x (Int32.ofNat k)).toBitVec.toNat = x.toBitVec.toNat / 2 ^ k := by
    show (x.toBitVec >>> ((Int32.ofNat k &&& 31).toUInt32.toBitVec % 32)).toNat = _
    rw [BitVec.ushiftRight_eq', BitVec.toNat_ushiftRight, BitVec.toNat_umod, own_amtU ⟨k, hk⟩, Nat.shiftRight_eq_div_pow]
    show _ / 2 ^ (k % 32) = _
    rw [Nat.mod_eq_of_lt hk]
  have h1 := x.toBitVec.isLt
  have h2 : x.toBitVec.toNat / 2 ^ k ≤ x.toBitVec.toNat / 2 ^ 1 := Nat.div_le_div_left (Nat.pow_le_pow_right (by decide) h0) (by decide)
  rw [own_toint _ (by omega), h, ← own_tonat]; rfl
theorem own_ushr0 (x : Int32) (k : Nat) (hk : k < 32) (h0 : 0 ≤ x.toInt) : (XT.ushr x (Int32.ofNat k)).toInt = x.toInt / (2 ^ k : Nat) := by
  have h1 := x.toInt_lt
  by_cases q : k = 0
  · subst q
    have : XT.ushr x (Int32.ofNat 0) = x := by
      apply Int32.toBitVec_inj.mp
      apply BitVec.eq_of_toNat_eq
      show (x.toBitVec >>> ((Int32.ofNat 0 &&& 31).toUInt32.toBitVec % 32)).toNat = _
      rw [BitVec.ushiftRight_eq', BitVec.toNat_ushiftRight, BitVec.toNat_umod, own_amtU ⟨0, hk⟩]; rfl
    rw [this]; simp
  · rw [own_ushr x k hk (by omega), Int.emod_eq_of_lt h0 (by omega)]
theorem own_if {c : Prop} [Decidable c] {α : Type} {a b r : α} (h1 : c → a = r) (h2 : ¬ c → b = r) : (if c then a else b) = r := by
  by_cases h : c
  · rw [if_pos h]; exact h1 h
  · rw [if_neg h]; exact h2 h
theorem own_maskJ (x : Int64) (k : Nat) (hk : k ≤ 63) (m : Int64) (hm : m = Int64.ofNat (2 ^ k - 1)) : (x &&& m).toInt = x.toInt % (2 ^ k : Nat) := by
  subst hm
  have h1 : (x &&& Int64.ofNat (2 ^ k - 1)).toBitVec.toNat = x.toBitVec.toNat % 2 ^ k := by
    rw [Int64.toBitVec_and, BitVec.toNat_and]
    have : (Int64.ofNat (2 ^ k - 1)).toBitVec.toNat = 2 ^ k - 1 := by
      show (BitVec.ofNat 64 (2 ^ k - 1)).toNat = _
      rw [BitVec.toNat_ofNat]
      apply Nat.mod_eq_of_lt
      have : 2 ^ k ≤ 2 ^ 63 := Nat.pow_le_pow_right (by decide) hk
      omega
    rw [this, Nat.and_two_pow_sub_one_eq_mod]
  have hp : 2 ^ k ≤ 2 ^ 63 := Nat.pow_le_pow_right (by decide) hk
  have hpos : 0 < 2 ^ k := Nat.two_pow_pos k
  have hlt := Nat.mod_lt x.toBitVec.toNat hpos
  show (x &&& Int64.ofNat (2 ^ k - 1)).toBitVec.toInt = x.toBitVec.toInt % _
  rw [BitVec.toInt_eq_toNat_cond, h1, if_pos (by omega), BitVec.toInt_eq_toNat_cond]
  split
  · simp
  · have hd : (2 ^ k : Nat) ∣ 2 ^ 64 := Nat.pow_dvd_pow 2 (by omega)
    obtain ⟨q, hq⟩ := hd
    rw [Int.sub_emod, show ((2 ^ 64 : Nat) : Int) % (2 ^ k : Nat) = 0 by rw [hq]; simp]
    simp
theorem own_amtJ : ∀ k : Fin 64, ((Int32.ofNat k.val).toInt64.toUInt64 &&& Int64.toUInt64 63).toBitVec.toNat = k.val := by decide +kernel
theorem own_ushrL (x : Int64) (k : Nat) (hk : k < 64) (h0 : 0 < k) : (XT.ushrL x (Int32.ofNat k)).toInt = (x.toInt % 18446744073709551616) / (2 ^ k : Nat) := by
  have h : (XT.ushrL x (Int32.ofNat k)).toBitVec.toNat = x.toBitVec.toNat / 2 ^ k := by
    show (x.toBitVec >>> (((Int32.ofNat k).toInt64.toUInt64 &&& Int64.toUInt64 63).toBitVec % 64)).toNat = _
    rw [BitVec.ushiftRight_eq', BitVec.toNat_ushiftRight, BitVec.toNat_umod, own_amtJ ⟨k, hk⟩, Nat.shiftRight_eq_div_pow]
    show _ / 2 ^ (k % 64) = _
    rw [Nat.mod_eq_of_lt hk]
  have h1 := x.toBitVec.isLt
  have h2 : x.toBitVec.toNat / 2 ^ k ≤ x.toBitVec.toNat / 2 ^ 1 := Nat.div_le_div_left (Nat.pow_le_pow_right (by decide) h0) (by decide)
  rw [own_tointJ _ (by omega), h, ← own_tonatJ]; rfl
theorem own_inR {α : Type} {A : List α} {j : Int32} (n : Nat) (hl : A.length = n) (h0 : 0 ≤ j.toInt) (h1 : j.toInt < n) : inA A j := by
  rintro (h | h)
  · rw [Int32.lt_iff_toInt_lt] at h; change j.toInt < 0 at h; omega
  · rw [hl] at h; simp only [Int32.toNatClampNeg] at h; omega

def own_a (A : List Int32) (i : Nat) : Int32 := A.getD i 0
def own_X (A : List Int32) (s i : Nat) : Bool := decide (own_a A i = 13) || (decide (own_a A i = 10) && !(decide (s < i) && decide (own_a A (i - 1) = 13)))
def own_D (A : List Int32) (i : Nat) : Bool := !decide (own_a A i = 10) && !decide (own_a A i &&& 192 = 128)
def own_bk (A : List Int32) (s e i : Nat) : Bool := decide (s ≤ i) && decide (i < e) && own_X A s i
def own_S (f : Nat → Bool) : Nat → Nat
  | 0 => 0
  | n + 1 => own_S f n + (f n).toNat
def own_LB (A : List Int32) (s e : Nat) : Nat → Int
  | 0 => (s : Int) - 1
  | n + 1 => if own_bk A s e n = true then (n : Int) else own_LB A s e n
def own_ct (A : List Int32) (s e : Nat) (lb : Int) (i : Nat) : Bool := decide (s ≤ i) && decide (i < e) && decide (lb < i) && own_D A i
def own_line (A : List Int32) (s e : Nat) : Nat := 1 + own_S (own_bk A s e) 6
def own_col (A : List Int32) (s e : Nat) : Nat := 1 + own_S (own_ct A s e (own_LB A s e 6)) 6
theorem own_S_same (f g : Nat → Bool) (n : Nat) (h : ∀ i, i < n → f i = g i) : own_S f n = own_S g n := by
  induction n with
  | zero => rfl
  | succ n ih => rw [own_S, own_S, ih fun i hi => h i (by omega), h n (by omega)]
theorem own_S_one (f g : Nat → Bool) (e n : Nat) (he : e < n) (h : ∀ i, i ≠ e → f i = g i) (hg : g e = false) : own_S f n = own_S g n + (f e).toNat := by
  induction n with
  | zero => omega
  | succ n ih =>
    by_cases q : e = n
    · subst q
      rw [own_S, own_S, own_S_same f g e fun i hi => h i (by omega), hg]; rfl
    · rw [own_S, own_S, ih (by omega), h n (by omega)]; omega
theorem own_bk_ne (A : List Int32) (s e i : Nat) (h : i ≠ e) : own_bk A s (e + 1) i = own_bk A s e i := by
  unfold own_bk
  have : decide (i < e + 1) = decide (i < e) := by
    by_cases q : i < e
    · rw [decide_eq_true q, decide_eq_true (by omega)]
    · rw [decide_eq_false q, decide_eq_false (by omega)]
  rw [this]
theorem own_bk_at (A : List Int32) (s e : Nat) : own_bk A s e e = false := by
  unfold own_bk; rw [decide_eq_false (Nat.lt_irrefl e), Bool.and_false, Bool.false_and]
theorem own_bk_up (A : List Int32) (s e : Nat) (h : s ≤ e) : own_bk A s (e + 1) e = own_X A s e := by
  unfold own_bk; rw [decide_eq_true h, decide_eq_true (Nat.lt_succ_self e), Bool.true_and, Bool.true_and]
theorem own_line_step (A : List Int32) (s e : Nat) (h : s ≤ e) (h6 : e < 6) : own_line A s (e + 1) = own_line A s e + (own_X A s e).toNat := by
  unfold own_line
  rw [own_S_one (own_bk A s (e + 1)) (own_bk A s e) e 6 h6 (fun i hi => own_bk_ne A s e i hi) (own_bk_at A s e), own_bk_up A s e h]; omega
theorem own_LB_lt (A : List Int32) (s e n : Nat) (h : s ≤ e) : own_LB A s e n < e := by
  induction n with
  | zero => unfold own_LB; omega
  | succ n ih =>
    unfold own_LB
    split
    · rename_i q
      unfold own_bk at q
      simp only [Bool.and_eq_true, decide_eq_true_eq] at q
      omega
    · exact ih
theorem own_LB_ge (A : List Int32) (s e n : Nat) : -1 ≤ own_LB A s e n := by
  induction n with
  | zero => unfold own_LB; omega
  | succ n ih => unfold own_LB; split <;> omega
theorem own_LB_same (A : List Int32) (s e n : Nat) (h : s ≤ e) (hX : own_X A s e = false) : own_LB A s (e + 1) n = own_LB A s e n := by
  induction n with
  | zero => rfl
  | succ n ih =>
    unfold own_LB
    have : own_bk A s (e + 1) n = own_bk A s e n := by
      by_cases q : n = e
      · subst q; rw [own_bk_up A s n h, own_bk_at, hX]
      · exact own_bk_ne A s e n q
    rw [this, ih]
theorem own_LB_hit (A : List Int32) (s e n : Nat) (h : s ≤ e) (hX : own_X A s e = true) (hn : e < n) : own_LB A s (e + 1) n = e := by
  induction n with
  | zero => omega
  | succ n ih =>
    unfold own_LB
    by_cases q : n = e
    · subst q; rw [own_bk_up A s n h, hX, if_pos rfl]
    · have : own_bk A s (e + 1) n = false := by
        unfold own_bk; rw [decide_eq_false (show ¬ n < e + 1 by omega), Bool.and_false, Bool.false_and]
      rw [this, if_neg (by decide)]; exact ih (by omega)
theorem own_S_zero (f : Nat → Bool) (n : Nat) (h : ∀ i, f i = false) : own_S f n = 0 := by
  induction n with
  | zero => rfl
  | succ n ih => rw [own_S, ih, h]; rfl
theorem own_col_step (A : List Int32) (s e : Nat) (h : s ≤ e) (h6 : e < 6) : own_col A s (e + 1) = if own_X A s e = true then 1 else own_col A s e + (own_D A e).toNat := by
  unfold own_col
  by_cases hX : own_X A s e = true
  · rw [if_pos hX, own_LB_hit A s e 6 h hX h6, own_S_zero]
    intro i
    unfold own_ct
    by_cases q : i < e + 1
    · rw [decide_eq_false (show ¬ (e : Int) < i by omega), Bool.and_false, Bool.false_and]
    · rw [decide_eq_false q, Bool.and_false, Bool.false_and, Bool.false_and]
  · have hX' : own_X A s e = false := by simpa using hX
    rw [if_neg hX, own_LB_same A s e 6 h hX']
    have hlt := own_LB_lt A s e 6 h
    generalize own_LB A s e 6 = lb at *
    rw [own_S_one (own_ct A s (e + 1) lb) (own_ct A s e lb) e 6 h6 (fun i hi => ?_) ?_]
    · have : own_ct A s (e + 1) lb e = own_D A e := by
        unfold own_ct; rw [decide_eq_true h, decide_eq_true (Nat.lt_succ_self e), decide_eq_true hlt, Bool.true_and, Bool.true_and, Bool.true_and]
      rw [this]; omega
    · unfold own_ct; rw [decide_eq_false (Nat.lt_irrefl e), Bool.and_false, Bool.false_and, Bool.false_and]
    · unfold own_ct
      have : decide (i < e + 1) = decide (i < e) := by
        by_cases q : i < e
        · rw [decide_eq_true q, decide_eq_true (by omega)]
        · rw [decide_eq_false q, decide_eq_false (by omega)]
      rw [this]
theorem own_ni (i : Nat) (h : i < 1000) : (Int32.ofNat i).toInt = i := Int32.toInt_ofNat_of_lt (by omega)
theorem own_lt (i j : Nat) (hi : i < 1000) (hj : j < 1000) : Int32.ofNat i < Int32.ofNat j ↔ i < j := by
  rw [Int32.lt_iff_toInt_lt, own_ni i hi, own_ni j hj]; omega
theorem own_at (A : List Int32) (i : Nat) (h : i < 1000) : atA A (Int32.ofNat i) = own_a A i := by
  unfold atA own_a
  have : (Int32.ofNat i).toNatClampNeg = i := by simp only [Int32.toNatClampNeg, own_ni i h]; omega
  rw [this]
theorem own_in6 (A : List Int32) (hl : A.length = 6) (i : Nat) (h : i < 6) : inA A (Int32.ofNat i) := own_inR 6 hl (by rw [own_ni i (by omega)]; omega) (by rw [own_ni i (by omega)]; omega)
theorem own_pred (i : Nat) (h : 0 < i) : Int32.ofNat i - 1 = Int32.ofNat (i - 1) := by
  obtain ⟨j, rfl⟩ : ∃ j, i = j + 1 := ⟨i - 1, by omega⟩
  rw [Int32.ofNat_add, Nat.add_sub_cancel]
  show Int32.ofNat j + 1 - 1 = _
  rw [Int32.add_sub_cancel]
theorem own_f8 (s e i : Nat) (hs : s < 1000) (he : e < 1000) (hi : i < 1000) : f8_0 (Int32.ofNat s) (Int32.ofNat e) (Int32.ofNat i) = some (if (decide (s ≤ i) && decide (i < e)) = true then 1 else 0) := by
  unfold f8_0
  by_cases q : i < s
  · rw [if_pos ((own_lt i s hi hs).mpr q), decide_eq_false (show ¬ s ≤ i by omega), Bool.false_and, if_neg (by decide)]
  · rw [if_neg (fun z => q ((own_lt i s hi hs).mp z)), decide_eq_true (show s ≤ i by omega), Bool.true_and]
    by_cases r : i < e
    · rw [if_pos ((own_lt i e hi he).mpr r), decide_eq_true r, if_pos rfl]
    · rw [if_neg (fun z => r ((own_lt i e hi he).mp z)), decide_eq_false r, if_neg (by decide)]
theorem own_f7 (A : List Int32) (hl : A.length = 6) (s e i : Nat) (hs : s ≤ 6) (he : e ≤ 6) (hi : i < 6) : f7_0 (Int32.ofNat s) (Int32.ofNat e) (Int32.ofNat i) A = some (if own_bk A s e i = true then 1 else 0) := by
  unfold f7_0
  rw [own_f8 s e i (by omega) (by omega) (by omega), Option.bind_some]
  unfold own_bk
  by_cases c : (decide (s ≤ i) && decide (i < e)) = true
  · rw [c, if_pos rfl, if_neg (by decide), if_pos (own_in6 A hl i hi), Bool.true_and, own_at A i (by omega)]
    unfold own_X
    by_cases h1 : own_a A i = 13
    · rw [if_pos h1, decide_eq_true h1, Bool.true_or, if_pos rfl]
    · rw [if_neg h1, if_pos (own_in6 A hl i hi), decide_eq_false h1, Bool.false_or]
      by_cases h2 : own_a A i = 10
      · rw [if_pos h2, decide_eq_true h2, Bool.true_and]
        by_cases h3 : s < i
        · rw [if_pos ((own_lt s i (by omega) (by omega)).mpr h3), own_pred i (by omega), if_pos (own_in6 A hl (i - 1) (by omega)), own_at A (i - 1) (by omega), decide_eq_true h3, Bool.true_and]
          by_cases h4 : own_a A (i - 1) = 13
          · rw [if_pos h4, decide_eq_true h4]; rfl
          · rw [if_neg h4, decide_eq_false h4]; rfl
        · rw [if_neg (fun z => h3 ((own_lt s i (by omega) (by omega)).mp z)), decide_eq_false h3]; rfl
      · rw [if_neg h2, decide_eq_false h2]; rfl
  · have c' : (decide (s ≤ i) && decide (i < e)) = false := by simpa using c
    rw [c', if_pos (by decide), Bool.false_and, if_neg (by decide)]
theorem own_f6 (A : List Int32) (hl : A.length = 6) (s e i : Nat) (hs : s ≤ 6) (he : e ≤ 6) (hi : i < 6) : f6_0 (Int32.ofNat s) (Int32.ofNat e) (Int32.ofNat i) A = some (Int32.ofNat (own_bk A s e i).toNat) := by
  unfold f6_0
  rw [own_f7 A hl s e i hs he hi, Option.bind_some]
  cases own_bk A s e i <;> rfl
theorem own_f5 (A : List Int32) (hl : A.length = 6) (s e : Nat) (hs : s ≤ 6) (he : e ≤ 6) : f5_0 (Int32.ofNat s) (Int32.ofNat e) A = some (Int32.ofNat (own_line A s e)) := by
  have h0 : f6_0 (Int32.ofNat s) (Int32.ofNat e) 0 A = _ := own_f6 A hl s e 0 hs he (by omega)
  have h1 : f6_0 (Int32.ofNat s) (Int32.ofNat e) 1 A = _ := own_f6 A hl s e 1 hs he (by omega)
  have h2 : f6_0 (Int32.ofNat s) (Int32.ofNat e) 2 A = _ := own_f6 A hl s e 2 hs he (by omega)
  have h3 : f6_0 (Int32.ofNat s) (Int32.ofNat e) 3 A = _ := own_f6 A hl s e 3 hs he (by omega)
  have h4 : f6_0 (Int32.ofNat s) (Int32.ofNat e) 4 A = _ := own_f6 A hl s e 4 hs he (by omega)
  have h5 : f6_0 (Int32.ofNat s) (Int32.ofNat e) 5 A = _ := own_f6 A hl s e 5 hs he (by omega)
  unfold f5_0
  rw [h0, Option.bind_some, h1, Option.bind_some, h2, Option.bind_some, h3, Option.bind_some, h4, Option.bind_some, h5, Option.bind_some]
  unfold own_line
  simp only [own_S]
  generalize (own_bk A s e 0).toNat = b0
  generalize (own_bk A s e 1).toNat = b1
  generalize (own_bk A s e 2).toNat = b2
  generalize (own_bk A s e 3).toNat = b3
  generalize (own_bk A s e 4).toNat = b4
  generalize (own_bk A s e 5).toNat = b5
  rw [show 1 + (0 + b0 + b1 + b2 + b3 + b4 + b5) = ((((((1 + b0) + b1) + b2) + b3) + b4) + b5) by omega]
  simp only [Int32.ofNat_add]
  rfl
theorem own_oi (lb : Int) (h0 : -1 ≤ lb) (h1 : lb ≤ 6) : (Int32.ofInt lb).toInt = lb := by
  rw [Int32.toInt_ofInt]; change Int.bmod lb 4294967296 = lb; exact Int.bmod_eq_of_le (by omega) (by omega)
theorem own_f11 (A : List Int32) (hl : A.length = 6) (s e i : Nat) (lb : Int) (hs : s ≤ 6) (he : e ≤ 6) (hi : i < 6) (h0 : -1 ≤ lb) (h1 : lb ≤ 6) : f11_0 (Int32.ofNat s) (Int32.ofNat e) (Int32.ofInt lb) (Int32.ofNat i) A = some (Int32.ofNat (own_ct A s e lb i).toNat) := by
  have hlt : Int32.ofInt lb < Int32.ofNat i ↔ lb < i := by rw [Int32.lt_iff_toInt_lt, own_oi lb h0 h1, own_ni i (by omega)]
  unfold f11_0
  rw [own_f8 s e i (by omega) (by omega) (by omega), Option.bind_some]
  unfold own_ct
  by_cases c : (decide (s ≤ i) && decide (i < e)) = true
  · rw [c, if_pos rfl, if_neg (by decide), Bool.true_and]
    by_cases q : lb < i
    · rw [if_pos (hlt.mpr q), if_pos (own_in6 A hl i hi), own_at A i (by omega), decide_eq_true q, Bool.true_and]
      unfold own_D
      by_cases h1 : own_a A i = 10
      · rw [if_pos h1, decide_eq_true h1]; rfl
      · rw [if_neg h1, if_pos (own_in6 A hl i hi), decide_eq_false h1]
        by_cases h2 : own_a A i &&& 192 = 128
        · rw [if_pos h2, decide_eq_true h2]; rfl
        · rw [if_neg h2, decide_eq_false h2]; rfl
    · rw [if_neg (fun z => q (hlt.mp z)), decide_eq_false q]; rfl
  · have c' : (decide (s ≤ i) && decide (i < e)) = false := by simpa using c
    rw [c', if_pos (by decide)]; rfl
theorem own_pick (A : List Int32) (hl : A.length = 6) (s e n : Nat) (hs : s ≤ 6) (he : e ≤ 6) (hn : n < 6) (F : Int32 → Option Int32) :
    ((f7_0 (Int32.ofNat s) (Int32.ofNat e) (Int32.ofNat n) A).bind fun r => if r = 0 then F (Int32.ofInt (own_LB A s e n)) else F (Int32.ofInt (n : Int))) = F (Int32.ofInt (own_LB A s e (n + 1))) := by
  rw [own_f7 A hl s e n hs he hn, Option.bind_some]
  by_cases c : own_bk A s e n = true
  · rw [if_pos c, if_neg (by decide), own_LB, if_pos c]
  · rw [if_neg c, if_pos rfl, own_LB, if_neg c]
theorem own_f10 (A : List Int32) (hl : A.length = 6) (s e : Nat) (hs : s ≤ 6) (he : e ≤ 6) : f10_0 (Int32.ofNat s) (Int32.ofNat e) A = some (Int32.ofNat (own_col A s e)) := by
  have hz : Int32.ofNat s - 1 = Int32.ofInt (own_LB A s e 0) := by
    apply Int32.toInt_inj.mp
    have : own_LB A s e 0 = (s : Int) - 1 := rfl
    rw [this, own_oi _ (by omega) (by omega), Int32.toInt_sub, own_ni s (by omega)]
    exact Int.bmod_eq_of_le (by change -_ ≤ _ - (1 : Int); omega) (by change _ - (1 : Int) < _; omega)
  have e0 : f10_0 (Int32.ofNat s) (Int32.ofNat e) A = f10_16 (Int32.ofNat s) (Int32.ofNat e) (Int32.ofInt (own_LB A s e 1)) A := by
    unfold f10_0; rw [hz]; exact own_pick A hl s e 0 hs he (by omega) fun z => f10_16 (Int32.ofNat s) (Int32.ofNat e) z A
  have e1 : f10_16 (Int32.ofNat s) (Int32.ofNat e) (Int32.ofInt (own_LB A s e 1)) A = f10_28 (Int32.ofNat s) (Int32.ofNat e) (Int32.ofInt (own_LB A s e 2)) A := by
    unfold f10_16; exact own_pick A hl s e 1 hs he (by omega) fun z => f10_28 (Int32.ofNat s) (Int32.ofNat e) z A
  have e2 : f10_28 (Int32.ofNat s) (Int32.ofNat e) (Int32.ofInt (own_LB A s e 2)) A = f10_40 (Int32.ofNat s) (Int32.ofNat e) (Int32.ofInt (own_LB A s e 3)) A := by
    unfold f10_28; exact own_pick A hl s e 2 hs he (by omega) fun z => f10_40 (Int32.ofNat s) (Int32.ofNat e) z A
  have e3 : f10_40 (Int32.ofNat s) (Int32.ofNat e) (Int32.ofInt (own_LB A s e 3)) A = f10_52 (Int32.ofNat s) (Int32.ofNat e) (Int32.ofInt (own_LB A s e 4)) A := by
    unfold f10_40; exact own_pick A hl s e 3 hs he (by omega) fun z => f10_52 (Int32.ofNat s) (Int32.ofNat e) z A
  have e4 : f10_52 (Int32.ofNat s) (Int32.ofNat e) (Int32.ofInt (own_LB A s e 4)) A = f10_64 (Int32.ofNat s) (Int32.ofNat e) (Int32.ofInt (own_LB A s e 5)) A := by
    unfold f10_52; exact own_pick A hl s e 4 hs he (by omega) fun z => f10_64 (Int32.ofNat s) (Int32.ofNat e) z A
  have e5 : f10_64 (Int32.ofNat s) (Int32.ofNat e) (Int32.ofInt (own_LB A s e 5)) A = f10_76 (Int32.ofNat s) (Int32.ofNat e) (Int32.ofInt (own_LB A s e 6)) A := by
    unfold f10_64; exact own_pick A hl s e 5 hs he (by omega) fun z => f10_76 (Int32.ofNat s) (Int32.ofNat e) z A
  rw [e0, e1, e2, e3, e4, e5]
  unfold own_col
  have g0 := own_LB_ge A s e 6
  have g1 : own_LB A s e 6 ≤ 6 := by
    have : ∀ n, n ≤ 6 → own_LB A s e n ≤ 6 := by
      intro n
      induction n with
      | zero => intro _; unfold own_LB; omega
      | succ n ih => intro hn; have := ih (by omega); unfold own_LB; split <;> omega
    exact this 6 (Nat.le_refl _)
  generalize own_LB A s e 6 = lb at *
  have h0 : f11_0 (Int32.ofNat s) (Int32.ofNat e) (Int32.ofInt lb) 0 A = _ := own_f11 A hl s e 0 lb hs he (by omega) g0 g1
  have h1 : f11_0 (Int32.ofNat s) (Int32.ofNat e) (Int32.ofInt lb) 1 A = _ := own_f11 A hl s e 1 lb hs he (by omega) g0 g1
  have h2 : f11_0 (Int32.ofNat s) (Int32.ofNat e) (Int32.ofInt lb) 2 A = _ := own_f11 A hl s e 2 lb hs he (by omega) g0 g1
  have h3 : f11_0 (Int32.ofNat s) (Int32.ofNat e) (Int32.ofInt lb) 3 A = _ := own_f11 A hl s e 3 lb hs he (by omega) g0 g1
  have h4 : f11_0 (Int32.ofNat s) (Int32.ofNat e) (Int32.ofInt lb) 4 A = _ := own_f11 A hl s e 4 lb hs he (by omega) g0 g1
  have h5 : f11_0 (Int32.ofNat s) (Int32.ofNat e) (Int32.ofInt lb) 5 A = _ := own_f11 A hl s e 5 lb hs he (by omega) g0 g1
  unfold f10_76
  rw [h0, Option.bind_some, h1, Option.bind_some, h2, Option.bind_some, h3, Option.bind_some, h4, Option.bind_some, h5, Option.bind_some]
  simp only [own_S]
  generalize (own_ct A s e lb 0).toNat = b0
  generalize (own_ct A s e lb 1).toNat = b1
  generalize (own_ct A s e lb 2).toNat = b2
  generalize (own_ct A s e lb 3).toNat = b3
  generalize (own_ct A s e lb 4).toNat = b4
  generalize (own_ct A s e lb 5).toNat = b5
  rw [show 1 + (0 + b0 + b1 + b2 + b3 + b4 + b5) = ((((((1 + b0) + b1) + b2) + b3) + b4) + b5) by omega]
  simp only [Int32.ofNat_add]
  rfl
def own_cr (A : List Int32) (s e : Nat) : Int32 := if s < e ∧ own_a A (e - 1) = 13 then 1 else 0
theorem own_up (n : Nat) : Int32.ofNat n + 1 = Int32.ofNat (n + 1) := by rw [Int32.ofNat_add]; rfl
theorem own_mv (A : List Int32) (hl : A.length = 6) (s : Nat) (st sc : Int32) : ∀ (k e n : Nat), s ≤ e → e + k ≤ 6 → k < n →
    f3_0L n (Int32.ofNat (e + k)) (Int32.ofNat (own_line A s e)) (Int32.ofNat (own_col A s e)) st sc (Int32.ofNat e) (own_cr A s e) A = some (Int32.ofNat (own_line A s (e + k)), Int32.ofNat (own_col A s (e + k)), st, sc, Int32.ofNat (e + k), own_cr A s (e + k)) := by
  intro k
  induction k with
  | zero =>
    intro e n hs h6 hn
    obtain ⟨n, rfl⟩ : ∃ q, n = q + 1 := ⟨n - 1, by omega⟩
    rw [f3_0L, if_neg (fun z => by rw [own_lt e (e + 0) (by omega) (by omega)] at z; omega)]; rfl
  | succ k ih =>
    intro e n hs h6 hn
    obtain ⟨n, rfl⟩ : ∃ q, n = q + 1 := ⟨n - 1, by omega⟩
    have ih' := ih (e + 1) n (by omega) (by omega) (by omega)
    rw [show e + 1 + k = e + (k + 1) by omega] at ih'
    rw [f3_0L, if_pos ((own_lt e (e + (k + 1)) (by omega) (by omega)).mpr (by omega)), if_pos (own_in6 A hl e (by omega)), own_at A e (by omega)]
    have hL := own_line_step A s e hs (by omega)
    have hC := own_col_step A s e hs (by omega)
    have hR : own_cr A s (e + 1) = if own_a A e = 13 then 1 else 0 := by
      unfold own_cr
      rw [Nat.add_sub_cancel]
      by_cases q : own_a A e = 13
      · rw [if_pos q, if_pos ⟨by omega, q⟩]
      · rw [if_neg q, if_neg (fun z => q z.2)]
    by_cases h1 : own_a A e = 13
    · have hX : own_X A s e = true := by unfold own_X; rw [decide_eq_true h1, Bool.true_or]
      rw [hX] at hL hC
      rw [if_pos rfl] at hC
      rw [if_pos h1] at hR
      rw [if_pos h1]
      unfold f3_37 f3_82
      rw [if_pos h1]
      show f3_0L n (Int32.ofNat (e + (k + 1))) (Int32.ofNat (own_line A s e) + 1) 1 st sc (Int32.ofNat e + 1) 1 A = _
      rw [own_up, own_up]
      rw [hL, hC, hR] at ih'
      exact ih'
    · rw [if_neg h1] at hR
      rw [if_neg h1]
      have h82 : ∀ (K : Int32 → Int32 → Int32 → Int32 → Int32 → Int32 → Int32 → List Int32 → Option (Int32 × Int32 × Int32 × Int32 × Int32 × Int32)) (m li co c : Int32), f3_82 K m (own_a A e) li co st sc (Int32.ofNat e) c A = K m li co st sc (Int32.ofNat e + 1) 0 A := by
        intro K m li co c; unfold f3_82; rw [if_neg h1]
      by_cases h2 : own_a A e = 10
      · rw [if_pos h2]
        by_cases h3 : s < e ∧ own_a A (e - 1) = 13
        · have hX : own_X A s e = false := by unfold own_X; rw [decide_eq_false h1, decide_eq_true h2, decide_eq_true h3.1, decide_eq_true h3.2]; rfl
          have hD : own_D A e = false := by unfold own_D; rw [decide_eq_true h2]; rfl
          rw [hX] at hL hC
          rw [if_neg (by decide), hD] at hC
          have hc : own_cr A s e = 1 := by unfold own_cr; rw [if_pos h3]
          rw [hc, if_neg (by decide)]
          unfold f3_55
          rw [if_pos h2, h82]
          show f3_0L n (Int32.ofNat (e + (k + 1))) (Int32.ofNat (own_line A s e)) (Int32.ofNat (own_col A s e)) st sc (Int32.ofNat e + 1) 0 A = _
          rw [own_up]
          rw [hL, hC, hR] at ih'
          exact ih'
        · have hX : own_X A s e = true := by
            unfold own_X; rw [decide_eq_false h1, decide_eq_true h2]
            have : (decide (s < e) && decide (own_a A (e - 1) = 13)) = false := by
              by_cases q : s < e
              · rw [decide_eq_false (show ¬ own_a A (e - 1) = 13 from fun z => h3 ⟨q, z⟩), Bool.and_false]
              · rw [decide_eq_false q, Bool.false_and]
            rw [this]; rfl
          rw [hX] at hL hC
          rw [if_pos rfl] at hC
          have hc : own_cr A s e = 0 := by unfold own_cr; rw [if_neg h3]
          rw [hc, if_pos rfl]
          unfold f3_37
          rw [h82]
          show f3_0L n (Int32.ofNat (e + (k + 1))) (Int32.ofNat (own_line A s e) + 1) 1 st sc (Int32.ofNat e + 1) 0 A = _
          rw [own_up, own_up]
          rw [hL, hC, hR] at ih'
          exact ih'
      · have hX : own_X A s e = false := by unfold own_X; rw [decide_eq_false h1, decide_eq_false h2]; rfl
        rw [hX] at hL hC
        rw [if_neg (by decide)] at hC
        rw [if_neg h2]
        unfold f3_55
        rw [if_neg h2]
        by_cases h4 : own_a A e &&& 192 = 128
        · have hD : own_D A e = false := by unfold own_D; rw [decide_eq_true h4]; simp
          rw [hD] at hC
          rw [if_pos h4, h82]
          show f3_0L n (Int32.ofNat (e + (k + 1))) (Int32.ofNat (own_line A s e)) (Int32.ofNat (own_col A s e)) st sc (Int32.ofNat e + 1) 0 A = _
          rw [own_up]
          rw [hL, hC, hR] at ih'
          exact ih'
        · have hD : own_D A e = true := by unfold own_D; rw [decide_eq_false h2, decide_eq_false h4]; rfl
          rw [hD] at hC
          rw [if_neg h4, h82]
          show f3_0L n (Int32.ofNat (e + (k + 1))) (Int32.ofNat (own_line A s e)) (Int32.ofNat (own_col A s e) + 1) st sc (Int32.ofNat e + 1) 0 A = _
          rw [own_up, own_up]
          rw [hL, hC, hR] at ih'
          exact ih'
theorem own_start (A : List Int32) (s : Nat) : own_line A s s = 1 ∧ own_col A s s = 1 ∧ own_cr A s s = 0 := by
  refine ⟨?_, ?_, ?_⟩
  · unfold own_line; rw [own_S_zero]; intro i; unfold own_bk
    by_cases q : i < s
    · rw [decide_eq_false (show ¬ s ≤ i by omega), Bool.false_and, Bool.false_and]
    · rw [decide_eq_false q, Bool.and_false, Bool.false_and]
  · unfold own_col; rw [own_S_zero]; intro i; unfold own_ct
    by_cases q : i < s
    · rw [decide_eq_false (show ¬ s ≤ i by omega), Bool.false_and, Bool.false_and, Bool.false_and]
    · rw [decide_eq_false q, Bool.and_false, Bool.false_and, Bool.false_and]
  · unfold own_cr; rw [if_neg (fun z => absurd z.1 (Nat.lt_irrefl s))]
theorem own_94 (A : List Int32) (hl : A.length = 6) (s j k : Nat) (h : s + j + k ≤ 6) : f0_94 (Int32.ofNat s) (Int32.ofNat (s + j)) (Int32.ofNat (s + j + k)) A = some 1 := by
  obtain ⟨a1, a2, a3⟩ := own_start A s
  have m1 := own_mv A hl s (Int32.ofNat s) (Int32.ofNat s) j s 64 (Nat.le_refl _) (by omega) (by omega)
  rw [a1, a2, a3] at m1
  have m2 := own_mv A hl s (Int32.ofNat s) (Int32.ofNat s) k (s + j) 64 (by omega) h (by omega)
  unfold f0_94 f1_0
  rw [Option.bind_some]
  unfold f3_0
  change (f3_0L 64 (Int32.ofNat (s + j)) (Int32.ofNat 1) (Int32.ofNat 1) (Int32.ofNat s) (Int32.ofNat s) (Int32.ofNat s) 0 A).bind _ = _
  rw [m1, Option.bind_some]
  unfold f4_0 f9_0
  rw [Option.bind_some, own_f5 A hl s (s + j) (by omega) (by omega), Option.bind_some, if_pos rfl, Option.bind_some, own_f10 A hl s (s + j) (by omega) (by omega), Option.bind_some, if_pos rfl]
  unfold f0_153 f3_0
  rw [m2, Option.bind_some]
  unfold f4_0 f9_0
  rw [Option.bind_some, own_f5 A hl s (s + j + k) (by omega) (by omega), Option.bind_some, if_pos rfl, Option.bind_some, own_f10 A hl s (s + j + k) (by omega) (by omega), Option.bind_some, if_pos rfl]
  rfl
theorem own_remN (x : Int32) (n : Nat) (hn : 0 < n) (h : n < 1000) : ∃ j : Nat, j < n ∧ remI (x &&& 2147483647) (Int32.ofNat n) = Int32.ofNat j := by
  have m := own_mask x 31 (by decide) 2147483647 rfl
  have r := own_remI (x &&& 2147483647) (Int32.ofNat n) (by omega) (by rw [own_ni n h]; omega)
  rw [own_ni n h] at r
  have b0 := Int.emod_nonneg (x &&& 2147483647).toInt (b := (n : Int)) (by omega)
  have b1 := Int.emod_lt_of_pos (x &&& 2147483647).toInt (b := (n : Int)) (by omega)
  refine ⟨(remI (x &&& 2147483647) (Int32.ofNat n)).toInt.toNat, by omega, Int32.toInt_inj.mp ?_⟩
  rw [own_ni _ (by omega)]; omega
theorem own_sub7 (n : Nat) (h : n ≤ 7) : (7 : Int32) - Int32.ofNat n = Int32.ofNat (7 - n) := by
  apply Int32.toInt_inj.mp
  rw [Int32.toInt_sub, own_ni n (by omega), own_ni (7 - n) (by omega)]
  rw [show (7 : Int32).toInt = 7 from rfl]
  rw [Int.bmod_eq_of_le (by omega) (by omega)]; omega
theorem own_law (x0 : Int32) (x1 : Int32) (x2 : Int32) (x3 : Int32) (x4 : Int32) : f0_0 x0 x1 x2 x3 x4 = some 1 := by
  obtain ⟨s, hs, es⟩ := own_remN x2 7 (by omega) (by omega)
  change remI (x2 &&& 2147483647) 7 = _ at es
  obtain ⟨j, hj, ej⟩ := own_remN x3 (7 - s) (by omega) (by omega)
  obtain ⟨k, hk, ek⟩ := own_remN x4 (7 - (s + j)) (by omega) (by omega)
  have nz : ∀ n : Nat, 0 < n → n < 1000 → ¬ Int32.ofNat n = 0 := fun n h0 h1 q => by
    have := own_ni n h1; rw [q] at this; change (0 : Int) = _ at this; omega
  unfold f0_0
  rw [es, own_sub7 s (by omega), if_neg (nz _ (by omega) (by omega)), ej, ← Int32.ofNat_add, own_sub7 (s + j) (by omega), if_neg (nz _ (by omega) (by omega)), ek, ← Int32.ofNat_add]
  exact own_94 _ rfl s j k (by omega)

set_option maxRecDepth 65536 in
set_option maxHeartbeats 40000000 in
theorem comes_1 {Post : Tables → Env → Array Value → State → Outcome → State → Prop} (hpost : ∀ tb e args s v u, (limb_1_1.after args s (.returned v) u = true ∧ limb_1_2.after args s (.returned v) u = true ∧ True) → FrameEnd s (.returned v) u (Jvm.fieldLocs frame_1_writes args s ++ Jvm.arrayLocs frame_1_arrays args s ++ Jvm.staticLocs frame_1_statics s) 16 128 → Post tb e args s (.returned v) u) :
    ArmFor flags0 classFile x code maxLocals ret World_1 tables_1 room_1 Calls_1 rest_1 Pre_1 Post := by
  intro l hfl _ _ p e ha hc hk s m args below hf hA hF happ hP
  obtain ⟨hcalls, hrest, hpre⟩ := hP
  obtain ⟨-, -, -, hnamed, -, -, -, hat⟩ := (Spec.applies_iff hf).mp happ
  obtain ⟨hg, hn⟩ := and_e (Cond.before_iff.mp (show (Jvm.Cond.and given_1 narrow_1).before args s = true from hpre))
  obtain ⟨hcnt, q0⟩ := and_e hg
  obtain ⟨p0, q1⟩ := and_e q0
  obtain ⟨p1, q2⟩ := and_e q1
  obtain ⟨p2, q3⟩ := and_e q2
  obtain ⟨p3, q4⟩ := and_e q3
  obtain ⟨w0, w1, w2, w3, w4, rfl⟩ : ∃ w0 w1 w2 w3 w4 : Value, args = #[w0, w1, w2, w3, w4] := by
    have hs : args.size = 5 := by simpa [Cond.value, given_1] using hcnt
    obtain ⟨L⟩ := args
    match L, hs with
    | [w0, w1, w2, w3, w4], _ => exact ⟨w0, w1, w2, w3, w4, rfl⟩
  have hw := fun d (hd : d ∈ tables_1) => atoms_spec (ws := Jvm.Cond.code x code maxLocals ret :: tables_1) hat d (List.mem_cons_of_mem _ hd)
  obtain ⟨i0, c0⟩ := is_v p0
  obtain rfl : w0 = (.int i0) := Option.some.inj c0
  obtain ⟨i1, c1⟩ := is_v p1
  obtain rfl : w1 = (.int i1) := Option.some.inj c1
  obtain ⟨i2, c2⟩ := is_v p2
  obtain rfl : w2 = (.int i2) := Option.some.inj c2
  obtain ⟨i3, c3⟩ := is_v p3
  obtain rfl : w3 = (.int i3) := Option.some.inj c3
  obtain ⟨i4, c4⟩ := is_v q4
  obtain rfl : w4 = (.int i4) := Option.some.inj c4
  obtain ⟨n, o, h1, h2, h3, _, L, rfl, ⟨rfl, N⟩, hq⟩ := rm0 l s _ hw tables_1 i0 i1 i2 i3 i4 s.heap s.heap.size (Nat.le_refl _) 1 (own_law i0 i1 i2 i3 i4) p e ha hc hk s m _ below hf ((Spec.applies_iff_loose hf).mp happ).1 ⟨rfl, State.Warmed39.refl s, rfl⟩ trivial
  refine ⟨n, _, h1, h2, h3, hpost _ _ _ _ _ _ ⟨Cond.after_iff.mpr rfl, Cond.after_iff.mpr (eq_i res_at (Term.int_eval (1)) rfl), trivial⟩ ⟨hq.1, hq.2.1, (hq.2.2.sift fun y hy => Or.inr (N y hy)).mono (by decide) (by decide)⟩⟩
theorem main_1_1 : Claimed_1_1 := comes_1 fun _ _ _ _ _ _ h hF => ⟨h.1, hF⟩
theorem main_1_2 : Claimed_1_2 := comes_1 fun _ _ _ _ _ _ h hF => ⟨h.2.1, hF⟩
end Jvm.Pilot.@@N@@
namespace Jvm.Pilot.@@N@@
open Jvm Jvm.ClassFile Sem Op Lib Jvm.Free Jvm.Stand Jvm.Pilot.@@N@@.Jvm.D
/-! MADE BY PROGRAM (witnessworld.py) out of the Statement's table words and the real class files: 9 classes; the members and pool entries that the words name. The judged class is class 1, her method 1. -/
namespace start1
open Jvm.ClassFile
def u (s : String) : CpInfo := .utf8 (stringToUtf16 s)
/-- a pool by its gaps: so many unusable entries, then the entry; so many at the end -/
def gap : Nat → List CpInfo → List CpInfo
  | 0, r => r
  | n + 1, r => .unusable :: gap n r
def poolList (es : List (Nat × CpInfo)) (last : Nat) : List CpInfo := es.foldr (fun e r => gap e.1 (e.2 :: r)) (gap last [])
def pool (es : List (Nat × CpInfo)) (last : Nat) : Array CpInfo := ⟨poolList es last⟩
def fileOf (pool : Array CpInfo) (this : Nat) (attrs : Array Attribute := #[]) (ms : Array MethodInfo := #[]) (fl : Nat := 33) (sup : Nat := 0) (ifs : Array Nat := #[]) (fds : Array FieldInfo := #[]) : ClassFile where
  minorVersion := 0
  majorVersion := 65
  constantPool := pool
  accessFlags := fl
  thisClass := this
  superClass := sup
  interfaces := ifs
  fields := fds
  methods := ms
  attributes := attrs
def plain (name : String) (sup : Option ClassId) : Class where
  name := name
  kind := .ordinary
  loader := none
  accessFlags := 33
  super := sup
  interfaces := #[]
  cf := none
  fields := #[]
  methods := #[]
  instanceTypes := #[]
  staticTypes := #[]
  resolved := #[]
  callSites := []
  init := .initialized
  statics := none
  mirror := none

def pool0 : Array CpInfo := pool [(5, u "<init>"), (0, u "()V"), (1, .class_ 10), (1, u "java/lang/Object")] 113

def k0c0 : Code := { maxStack := 0, maxLocals := 1, code := object_method_1_code, exceptionTable := #[], attributes := #[] }
def k0m0 : Method := { name := "<init>", desc := "()V", sig := { parameters := [], returnType := none }, accessFlags := 1, code := some k0c0 }
/-- java/lang/Object -/
def k0 : Class := { plain "java/lang/Object" none with
  accessFlags := 33
  interfaces := #[]
  cf := some (fileOf pool0 8 #[] #[{ accessFlags := 1, nameIndex := 5, descriptorIndex := 6, attributes := #[] }] 33 0 #[] #[])
  fields := #[]
  methods := #[k0m0]
  instanceTypes := #[]
  staticTypes := #[]
  resolved := Array.replicate 124 none
  statics := none }

def pool1 : Array CpInfo := pool [(2, .class_ 4), (1, u "java/lang/Object"), (0, u "<init>"), (0, u "()V"), (0, .integer 2147483647), (0, .class_ 9), (0, u "com/example/yarrow/yarrow/data/StartTags"), (0, .methodref 8 11), (0, .nameAndType 5 12), (0, u "([BI)V"), (0, .methodref 8 14), (0, .nameAndType 15 16), (0, u "moveTo"), (0, u "(I)V"), (0, .methodref 8 18), (0, .nameAndType 19 20), (0, u "line"), (0, u "()I"), (0, .methodref 22 23), (0, .class_ 24), (0, .nameAndType 25 26), (0, u "com/example/yarrow/yarrow/data/StartTagsMoveToPinLaw"), (0, u "refLine"), (0, u "([BII)I"), (0, .methodref 8 28), (0, .nameAndType 29 20), (0, u "column"), (0, .methodref 22 31), (0, .nameAndType 32 26), (0, u "refColumn"), (0, .methodref 22 34), (0, .nameAndType 35 36), (0, u "in"), (0, u "(III)Z"), (0, .methodref 22 38), (0, .nameAndType 39 40), (0, u "isBreak"), (0, u "([BIII)Z"), (0, .methodref 22 42), (0, .nameAndType 43 44), (0, u "brk"), (0, u "([BIII)I"), (0, .methodref 22 46), (0, .nameAndType 47 48), (0, u "counts"), (0, u "([BIIII)I"), (2, u "law"), (0, u "(IIIII)Z")] 5

def k1m0 : Method := { name := "<init>", desc := "()V", sig := { parameters := [], returnType := none }, accessFlags := 1, code := none }
def k1c1 : Code := { maxStack := 4, maxLocals := 12, code := code, exceptionTable := #[], attributes := #[] }
def k1m1 : Method := { name := "law", desc := "(IIIII)Z", sig := { parameters := [.int, .int, .int, .int, .int], returnType := some .boolean }, accessFlags := 9, code := some k1c1 }
def k1c2 : Code := { maxStack := 2, maxLocals := 3, code := method_3_code, exceptionTable := #[], attributes := #[] }
def k1m2 : Method := { name := "in", desc := "(III)Z", sig := { parameters := [.int, .int, .int], returnType := some .boolean }, accessFlags := 10, code := some k1c2 }
def k1c3 : Code := { maxStack := 3, maxLocals := 4, code := method_4_code, exceptionTable := #[], attributes := #[] }
def k1m3 : Method := { name := "isBreak", desc := "([BIII)Z", sig := { parameters := [(.array .byte), .int, .int, .int], returnType := some .boolean }, accessFlags := 10, code := some k1c3 }
def k1c4 : Code := { maxStack := 4, maxLocals := 4, code := method_5_code, exceptionTable := #[], attributes := #[] }
def k1m4 : Method := { name := "brk", desc := "([BIII)I", sig := { parameters := [(.array .byte), .int, .int, .int], returnType := some .int }, accessFlags := 10, code := some k1c4 }
def k1c5 : Code := { maxStack := 5, maxLocals := 3, code := method_6_code, exceptionTable := #[], attributes := #[] }
def k1m5 : Method := { name := "refLine", desc := "([BII)I", sig := { parameters := [(.array .byte), .int, .int], returnType := some .int }, accessFlags := 10, code := some k1c5 }
def k1c6 : Code := { maxStack := 3, maxLocals := 5, code := method_7_code, exceptionTable := #[], attributes := #[] }
def k1m6 : Method := { name := "counts", desc := "([BIIII)I", sig := { parameters := [(.array .byte), .int, .int, .int, .int], returnType := some .int }, accessFlags := 10, code := some k1c6 }
def k1c7 : Code := { maxStack := 6, maxLocals := 4, code := method_8_code, exceptionTable := #[], attributes := #[] }
def k1m7 : Method := { name := "refColumn", desc := "([BII)I", sig := { parameters := [(.array .byte), .int, .int], returnType := some .int }, accessFlags := 10, code := some k1c7 }
/-- com/example/yarrow/yarrow/data/StartTagsMoveToPinLaw -/
def k1 : Class := { plain "com/example/yarrow/yarrow/data/StartTagsMoveToPinLaw" (some 0) with
  accessFlags := 49
  interfaces := #[]
  cf := some (fileOf pool1 22 #[] #[{ accessFlags := 1, nameIndex := 5, descriptorIndex := 6, attributes := #[] }, { accessFlags := 9, nameIndex := 51, descriptorIndex := 52, attributes := #[] }, { accessFlags := 10, nameIndex := 35, descriptorIndex := 36, attributes := #[] }, { accessFlags := 10, nameIndex := 39, descriptorIndex := 40, attributes := #[] }, { accessFlags := 10, nameIndex := 43, descriptorIndex := 44, attributes := #[] }, { accessFlags := 10, nameIndex := 25, descriptorIndex := 26, attributes := #[] }, { accessFlags := 10, nameIndex := 47, descriptorIndex := 48, attributes := #[] }, { accessFlags := 10, nameIndex := 32, descriptorIndex := 26, attributes := #[] }] 49 2 #[] #[])
  fields := #[]
  methods := #[k1m0, k1m1, k1m2, k1m3, k1m4, k1m5, k1m6, k1m7]
  instanceTypes := #[]
  staticTypes := #[]
  resolved := Array.replicate 58 none
  statics := none }

def pool2 : Array CpInfo := pool [(1, .methodref 2 3), (0, .class_ 4), (0, .nameAndType 5 6), (0, u "java/lang/Object"), (0, u "<init>"), (0, u "()V"), (0, .fieldref 8 9), (0, .class_ 10), (0, .nameAndType 11 12), (0, u "com/example/yarrow/yarrow/data/StartTags"), (0, u "line"), (0, u "I"), (0, .fieldref 8 14), (0, .nameAndType 15 12), (0, u "column"), (0, .fieldref 8 17), (0, .nameAndType 18 19), (0, u "content"), (0, u "[B"), (0, .fieldref 8 21), (0, .nameAndType 22 12), (0, u "start"), (0, .fieldref 8 24), (0, .nameAndType 25 12), (0, u "scan"), (0, .fieldref 8 27), (0, .nameAndType 28 12), (0, u "counted"), (2, u "COMMENT"), (6, u "COMMENT_END"), (6, u "CDATA"), (2, u "CDATA_END"), (2, u "INSTRUCTION"), (2, u "INSTRUCTION_END"), (2, u "END_TAG"), (2, u "moveTo"), (0, u "(I)V"), (0, .fieldref 8 63), (0, .nameAndType 64 65), (0, u "afterCarriageReturn"), (0, u "Z"), (30, u "([BI)V"), (4, u "()I")] 5

def k2c0 : Code := { maxStack := 2, maxLocals := 3, code := prog_31_method_1_code, exceptionTable := #[], attributes := #[] }
def k2m0 : Method := { name := "<init>", desc := "([BI)V", sig := { parameters := [(.array .byte), .int], returnType := none }, accessFlags := 0, code := some k2c0 }
def k2c1 : Code := { maxStack := 1, maxLocals := 1, code := prog_31_method_3_code, exceptionTable := #[], attributes := #[] }
def k2m1 : Method := { name := "line", desc := "()I", sig := { parameters := [], returnType := some .int }, accessFlags := 0, code := some k2c1 }
def k2c2 : Code := { maxStack := 1, maxLocals := 1, code := prog_31_method_4_code, exceptionTable := #[], attributes := #[] }
def k2m2 : Method := { name := "column", desc := "()I", sig := { parameters := [], returnType := some .int }, accessFlags := 0, code := some k2c2 }
def k2c3 : Code := { maxStack := 3, maxLocals := 3, code := prog_31_method_6_code, exceptionTable := #[], attributes := #[] }
def k2m3 : Method := { name := "moveTo", desc := "(I)V", sig := { parameters := [.int], returnType := none }, accessFlags := 0, code := some k2c3 }
/-- com/example/yarrow/yarrow/data/StartTags -/
def k2 : Class := { plain "com/example/yarrow/yarrow/data/StartTags" (some 0) with
  accessFlags := 48
  interfaces := #[]
  cf := some (fileOf pool2 8 #[] #[{ accessFlags := 0, nameIndex := 5, descriptorIndex := 96, attributes := #[] }, { accessFlags := 0, nameIndex := 11, descriptorIndex := 101, attributes := #[] }, { accessFlags := 0, nameIndex := 15, descriptorIndex := 101, attributes := #[] }, { accessFlags := 0, nameIndex := 60, descriptorIndex := 61, attributes := #[] }] 48 2 #[] #[{ accessFlags := 26, nameIndex := 31, descriptorIndex := 19, attributes := #[] }, { accessFlags := 26, nameIndex := 38, descriptorIndex := 19, attributes := #[] }, { accessFlags := 26, nameIndex := 45, descriptorIndex := 19, attributes := #[] }, { accessFlags := 26, nameIndex := 48, descriptorIndex := 19, attributes := #[] }, { accessFlags := 26, nameIndex := 51, descriptorIndex := 19, attributes := #[] }, { accessFlags := 26, nameIndex := 54, descriptorIndex := 19, attributes := #[] }, { accessFlags := 26, nameIndex := 57, descriptorIndex := 19, attributes := #[] }, { accessFlags := 18, nameIndex := 18, descriptorIndex := 19, attributes := #[] }, { accessFlags := 18, nameIndex := 22, descriptorIndex := 12, attributes := #[] }, { accessFlags := 2, nameIndex := 25, descriptorIndex := 12, attributes := #[] }, { accessFlags := 2, nameIndex := 28, descriptorIndex := 12, attributes := #[] }, { accessFlags := 2, nameIndex := 11, descriptorIndex := 12, attributes := #[] }, { accessFlags := 2, nameIndex := 15, descriptorIndex := 12, attributes := #[] }, { accessFlags := 2, nameIndex := 64, descriptorIndex := 65, attributes := #[] }])
  fields := #[{ name := "COMMENT", type := (.array .byte), accessFlags := 26, slot := 0, constantValue := 0 }, { name := "COMMENT_END", type := (.array .byte), accessFlags := 26, slot := 1, constantValue := 0 }, { name := "CDATA", type := (.array .byte), accessFlags := 26, slot := 2, constantValue := 0 }, { name := "CDATA_END", type := (.array .byte), accessFlags := 26, slot := 3, constantValue := 0 }, { name := "INSTRUCTION", type := (.array .byte), accessFlags := 26, slot := 4, constantValue := 0 }, { name := "INSTRUCTION_END", type := (.array .byte), accessFlags := 26, slot := 5, constantValue := 0 }, { name := "END_TAG", type := (.array .byte), accessFlags := 26, slot := 6, constantValue := 0 }, { name := "content", type := (.array .byte), accessFlags := 18, slot := 0, constantValue := 0 }, { name := "start", type := .int, accessFlags := 18, slot := 1, constantValue := 0 }, { name := "scan", type := .int, accessFlags := 2, slot := 2, constantValue := 0 }, { name := "counted", type := .int, accessFlags := 2, slot := 3, constantValue := 0 }, { name := "line", type := .int, accessFlags := 2, slot := 4, constantValue := 0 }, { name := "column", type := .int, accessFlags := 2, slot := 5, constantValue := 0 }, { name := "afterCarriageReturn", type := .boolean, accessFlags := 2, slot := 6, constantValue := 0 }]
  methods := #[k2m0, k2m1, k2m2, k2m3]
  instanceTypes := #[(.array .byte), .int, .int, .int, .int, .int, .boolean]
  staticTypes := #[(.array .byte), (.array .byte), (.array .byte), (.array .byte), (.array .byte), (.array .byte), (.array .byte)]
  resolved := Array.replicate 107 none
  statics := none }

def pool3 : Array CpInfo := pool [(1, u "java/lang/Cloneable"), (0, .class_ 1), (0, u "java/lang/Object"), (0, .class_ 3)] 3

/-- java/lang/Cloneable -/
def k3 : Class := { plain "java/lang/Cloneable" (some 0) with
  accessFlags := 1537
  interfaces := #[]
  cf := some (fileOf pool3 2 #[] #[] 1537 4 #[] #[])
  fields := #[]
  methods := #[]
  instanceTypes := #[]
  staticTypes := #[]
  resolved := Array.replicate 8 none
  statics := none }

def pool4 : Array CpInfo := pool [(1, u "java/io/Serializable"), (0, .class_ 1), (0, u "java/lang/Object"), (0, .class_ 3)] 3

/-- java/io/Serializable -/
def k4 : Class := { plain "java/io/Serializable" (some 0) with
  accessFlags := 1537
  interfaces := #[]
  cf := some (fileOf pool4 2 #[] #[] 1537 4 #[] #[])
  fields := #[]
  methods := #[]
  instanceTypes := #[]
  staticTypes := #[]
  resolved := Array.replicate 8 none
  statics := none }

/-- the primitive byte -/
def k5 : Class := { plain "byte" none with kind := .primitive 'B', accessFlags := 0x411 }
/-- [B -/
def k6 : Class := { plain "[B" (some 0) with kind := .array 5 .byte, interfaces := #[3, 4], accessFlags := 1041 }

/-- the primitive int -/
def k7 : Class := { plain "int" none with kind := .primitive 'I', accessFlags := 0x411 }
/-- [I -/
def k8 : Class := { plain "[I" (some 0) with kind := .array 7 .int, interfaces := #[3, 4], accessFlags := 1041 }

def heap : Heap := #[]
def classes : Array Class := #[k0, k1, k2, k3, k4, k5, k6, k7, k8]
def interned : List (Array UInt16 × Addr) := []
def slotsUsed : Nat := 0
def theMethod : MethodId := ⟨1, 1⟩
def args0 : Array Value := #[.int 5, .int 5, .int 5, .int 5, .int 5]
def aboutOver (below : List Frame) : State where
  vm := { classes := classes, interned := interned.toArray }
  heap := heap
  slotsUsed := slotsUsed
  threads := #[{ frames := .invoking theMethod args0 :: below }]
def below0 : List Frame := [.native { method := ⟨0, 0⟩, args := #[] }]
def about1 : State := aboutOver below0
def p0 : Program := .bare "" "" ""
def e0 : Env := launch0.env 0 0 0
theorem w_frames : about1.frames = Frame.invoking theMethod args0 :: below0 := rfl
set_option maxRecDepth 65536 in
theorem w_args : argsFit about1.vm theMethod args0 = true := by decide +kernel
set_option maxRecDepth 65536 in
theorem w_heap : heapFits about1 = true := by decide +kernel
set_option maxRecDepth 65536 in
theorem w_runnable : about1.curStatus? = some .runnable := by decide +kernel
set_option maxRecDepth 65536 in
theorem w_alone : about1.alone = true := by decide +kernel
set_option maxRecDepth 65536 in
theorem w_named : about1.methodNamed? x = some theMethod := by decide +kernel
set_option maxRecDepth 65536 in
theorem w_hears : about1.hears theMethod below0 = true := by decide +kernel
set_option maxRecDepth 65536 in
theorem w_ripe : about1.ripe theMethod args0 below0 = true := by decide +kernel
theorem w_running : about1.status = .running := rfl
set_option maxRecDepth 65536 in
theorem w_room : about1.hasRoom e0.platform room_1 = true :=
  launch0.hasRoom_least _ room_1 (by decide +kernel) (by decide +kernel) (by decide +kernel) (by decide +kernel) (by decide +kernel) (by decide +kernel)
theorem allAtoms_all (ts : List Jvm.Cond) (a : Array Jvm.Value) (st : Jvm.State) : (allAtoms ts).before a st = ts.all (fun c => c.before a st) := by
  induction ts with
  | nil => rfl
  | cons c t ih =>
    show (Jvm.Cond.and c (allAtoms t)).before a st = _
    rw [Jvm.Cond.before_and, ih, List.all_cons]
def words1 : List Jvm.Cond := Jvm.Cond.code x code maxLocals ret :: tables_1
/-- a 'code' word, met by the world's own term for the bytes: nothing is compared byte by byte -/
theorem code_word {y : MethodName} {bytes : ByteArray} {mx : Nat} {rt : Option FieldType} {a : Array Value} {s : State} {m : MethodId} {meth : Method} {c : Code} (h1 : s.methodNamed? y = some m) (h2 : s.vm.method? m = some meth) (h3 : meth.code = some c) (h4 : c.code = bytes)
    (h5 : (c.maxLocals == mx && c.exceptionTable.isEmpty && decide (c.maxStack ≤ mostOperands) && decide (meth.sig.returnType = rt) && !meth.locks && decide (parseMethodDescriptor y.desc = some meth.sig)) = true) : (Jvm.Cond.code y bytes mx rt).before a s = true := by
  simp only [Bool.and_eq_true, beq_iff_eq, Bool.not_eq_true', decide_eq_true_eq] at h5
  obtain ⟨⟨⟨⟨⟨g1, g2⟩, g3⟩, g4⟩, g5⟩, g6⟩ := h5
  simp [Cond.before, Cond.holds, Cond.value, h1, h2, h3, h4, g1, g2, g3, g4, g5, g6]
def isCode : Jvm.Cond → Bool
  | .code _ _ _ _ => true
  | _ => false
theorem all_split {L : List Jvm.Cond} {P : Jvm.Cond → Bool} (h1 : L.all (fun c => isCode c || P c) = true) (h2 : ∀ c ∈ L.filter isCode, P c = true) : L.all P = true := by
  refine List.all_eq_true.mpr fun c hc => ?_
  have h := List.all_eq_true.mp h1 c hc
  rcases Bool.eq_false_or_eq_true (isCode c) with hi | hi
  · exact h2 c (List.mem_filter.mpr ⟨hc, hi⟩)
  · simpa [hi] using h
set_option maxRecDepth 65536 in
theorem w_c0 : (Jvm.Cond.code x code maxLocals ret).before args0 about1 = true := code_word (m := ⟨1, 1⟩) (meth := k1m1) (c := k1c1) (by decide +kernel) rfl rfl rfl (by decide +kernel)
set_option maxRecDepth 65536 in
theorem w_c1 : (Jvm.Cond.code ({ cls := "com/example/yarrow/yarrow/data/StartTags", name := "<init>", desc := "([BI)V" } : Jvm.MethodName) prog_31_method_1_code (3 : Nat) (Option.none : Option Jvm.ClassFile.FieldType)).before args0 about1 = true := code_word (m := ⟨2, 0⟩) (meth := k2m0) (c := k2c0) (by decide +kernel) rfl rfl rfl (by decide +kernel)
set_option maxRecDepth 65536 in
theorem w_c2 : (Jvm.Cond.code ({ cls := "java/lang/Object", name := "<init>", desc := "()V" } : Jvm.MethodName) object_method_1_code (1 : Nat) (Option.none : Option Jvm.ClassFile.FieldType)).before args0 about1 = true := code_word (m := ⟨0, 0⟩) (meth := k0m0) (c := k0c0) (by decide +kernel) rfl rfl rfl (by decide +kernel)
set_option maxRecDepth 65536 in
theorem w_c3 : (Jvm.Cond.code ({ cls := "com/example/yarrow/yarrow/data/StartTags", name := "moveTo", desc := "(I)V" } : Jvm.MethodName) prog_31_method_6_code (3 : Nat) (Option.none : Option Jvm.ClassFile.FieldType)).before args0 about1 = true := code_word (m := ⟨2, 3⟩) (meth := k2m3) (c := k2c3) (by decide +kernel) rfl rfl rfl (by decide +kernel)
set_option maxRecDepth 65536 in
theorem w_c4 : (Jvm.Cond.code ({ cls := "com/example/yarrow/yarrow/data/StartTags", name := "line", desc := "()I" } : Jvm.MethodName) prog_31_method_3_code (1 : Nat) (Option.some Jvm.ClassFile.FieldType.int)).before args0 about1 = true := code_word (m := ⟨2, 1⟩) (meth := k2m1) (c := k2c1) (by decide +kernel) rfl rfl rfl (by decide +kernel)
set_option maxRecDepth 65536 in
theorem w_c5 : (Jvm.Cond.code ({ cls := "com/example/yarrow/yarrow/data/StartTagsMoveToPinLaw", name := "refLine", desc := "([BII)I" } : Jvm.MethodName) method_6_code (3 : Nat) (Option.some Jvm.ClassFile.FieldType.int)).before args0 about1 = true := code_word (m := ⟨1, 5⟩) (meth := k1m5) (c := k1c5) (by decide +kernel) rfl rfl rfl (by decide +kernel)
set_option maxRecDepth 65536 in
theorem w_c6 : (Jvm.Cond.code ({ cls := "com/example/yarrow/yarrow/data/StartTagsMoveToPinLaw", name := "brk", desc := "([BIII)I" } : Jvm.MethodName) method_5_code (4 : Nat) (Option.some Jvm.ClassFile.FieldType.int)).before args0 about1 = true := code_word (m := ⟨1, 4⟩) (meth := k1m4) (c := k1c4) (by decide +kernel) rfl rfl rfl (by decide +kernel)
set_option maxRecDepth 65536 in
theorem w_c7 : (Jvm.Cond.code ({ cls := "com/example/yarrow/yarrow/data/StartTagsMoveToPinLaw", name := "isBreak", desc := "([BIII)Z" } : Jvm.MethodName) method_4_code (4 : Nat) (Option.some Jvm.ClassFile.FieldType.boolean)).before args0 about1 = true := code_word (m := ⟨1, 3⟩) (meth := k1m3) (c := k1c3) (by decide +kernel) rfl rfl rfl (by decide +kernel)
set_option maxRecDepth 65536 in
theorem w_c8 : (Jvm.Cond.code ({ cls := "com/example/yarrow/yarrow/data/StartTagsMoveToPinLaw", name := "in", desc := "(III)Z" } : Jvm.MethodName) method_3_code (3 : Nat) (Option.some Jvm.ClassFile.FieldType.boolean)).before args0 about1 = true := code_word (m := ⟨1, 2⟩) (meth := k1m2) (c := k1c2) (by decide +kernel) rfl rfl rfl (by decide +kernel)
set_option maxRecDepth 65536 in
theorem w_c9 : (Jvm.Cond.code ({ cls := "com/example/yarrow/yarrow/data/StartTags", name := "column", desc := "()I" } : Jvm.MethodName) prog_31_method_4_code (1 : Nat) (Option.some Jvm.ClassFile.FieldType.int)).before args0 about1 = true := code_word (m := ⟨2, 2⟩) (meth := k2m2) (c := k2c2) (by decide +kernel) rfl rfl rfl (by decide +kernel)
set_option maxRecDepth 65536 in
theorem w_c10 : (Jvm.Cond.code ({ cls := "com/example/yarrow/yarrow/data/StartTagsMoveToPinLaw", name := "refColumn", desc := "([BII)I" } : Jvm.MethodName) method_8_code (4 : Nat) (Option.some Jvm.ClassFile.FieldType.int)).before args0 about1 = true := code_word (m := ⟨1, 7⟩) (meth := k1m7) (c := k1c7) (by decide +kernel) rfl rfl rfl (by decide +kernel)
set_option maxRecDepth 65536 in
theorem w_c11 : (Jvm.Cond.code ({ cls := "com/example/yarrow/yarrow/data/StartTagsMoveToPinLaw", name := "counts", desc := "([BIIII)I" } : Jvm.MethodName) method_7_code (5 : Nat) (Option.some Jvm.ClassFile.FieldType.int)).before args0 about1 = true := code_word (m := ⟨1, 6⟩) (meth := k1m6) (c := k1c6) (by decide +kernel) rfl rfl rfl (by decide +kernel)
def codes1 : List Jvm.Cond := [Jvm.Cond.code x code maxLocals ret, Jvm.Cond.code ({ cls := "com/example/yarrow/yarrow/data/StartTags", name := "<init>", desc := "([BI)V" } : Jvm.MethodName) prog_31_method_1_code (3 : Nat) (Option.none : Option Jvm.ClassFile.FieldType), Jvm.Cond.code ({ cls := "java/lang/Object", name := "<init>", desc := "()V" } : Jvm.MethodName) object_method_1_code (1 : Nat) (Option.none : Option Jvm.ClassFile.FieldType), Jvm.Cond.code ({ cls := "com/example/yarrow/yarrow/data/StartTags", name := "moveTo", desc := "(I)V" } : Jvm.MethodName) prog_31_method_6_code (3 : Nat) (Option.none : Option Jvm.ClassFile.FieldType), Jvm.Cond.code ({ cls := "com/example/yarrow/yarrow/data/StartTags", name := "line", desc := "()I" } : Jvm.MethodName) prog_31_method_3_code (1 : Nat) (Option.some Jvm.ClassFile.FieldType.int), Jvm.Cond.code ({ cls := "com/example/yarrow/yarrow/data/StartTagsMoveToPinLaw", name := "refLine", desc := "([BII)I" } : Jvm.MethodName) method_6_code (3 : Nat) (Option.some Jvm.ClassFile.FieldType.int), Jvm.Cond.code ({ cls := "com/example/yarrow/yarrow/data/StartTagsMoveToPinLaw", name := "brk", desc := "([BIII)I" } : Jvm.MethodName) method_5_code (4 : Nat) (Option.some Jvm.ClassFile.FieldType.int), Jvm.Cond.code ({ cls := "com/example/yarrow/yarrow/data/StartTagsMoveToPinLaw", name := "isBreak", desc := "([BIII)Z" } : Jvm.MethodName) method_4_code (4 : Nat) (Option.some Jvm.ClassFile.FieldType.boolean), Jvm.Cond.code ({ cls := "com/example/yarrow/yarrow/data/StartTagsMoveToPinLaw", name := "in", desc := "(III)Z" } : Jvm.MethodName) method_3_code (3 : Nat) (Option.some Jvm.ClassFile.FieldType.boolean), Jvm.Cond.code ({ cls := "com/example/yarrow/yarrow/data/StartTags", name := "column", desc := "()I" } : Jvm.MethodName) prog_31_method_4_code (1 : Nat) (Option.some Jvm.ClassFile.FieldType.int), Jvm.Cond.code ({ cls := "com/example/yarrow/yarrow/data/StartTagsMoveToPinLaw", name := "refColumn", desc := "([BII)I" } : Jvm.MethodName) method_8_code (4 : Nat) (Option.some Jvm.ClassFile.FieldType.int), Jvm.Cond.code ({ cls := "com/example/yarrow/yarrow/data/StartTagsMoveToPinLaw", name := "counts", desc := "([BIIII)I" } : Jvm.MethodName) method_7_code (5 : Nat) (Option.some Jvm.ClassFile.FieldType.int)]
set_option maxRecDepth 65536 in
theorem codes_eq : words1.filter isCode = codes1 := rfl
theorem w_codes : ∀ c ∈ words1.filter isCode, c.before args0 about1 = true := by
  rw [codes_eq]
  intro c hc
  simp only [codes1, List.mem_cons, List.not_mem_nil, or_false] at hc
  rcases hc with rfl | rfl | rfl | rfl | rfl | rfl | rfl | rfl | rfl | rfl | rfl | rfl
  · exact w_c0
  · exact w_c1
  · exact w_c2
  · exact w_c3
  · exact w_c4
  · exact w_c5
  · exact w_c6
  · exact w_c7
  · exact w_c8
  · exact w_c9
  · exact w_c10
  · exact w_c11
set_option maxRecDepth 65536 in
theorem w_t1 : (words1.take 24).all (fun c => isCode c || c.before args0 about1) = true := by decide +kernel
set_option maxRecDepth 65536 in
theorem w_t2 : ((words1.drop 24).take 24).all (fun c => isCode c || c.before args0 about1) = true := by decide +kernel
set_option maxRecDepth 65536 in
theorem w_t3 : ((words1.drop 24).drop 24).all (fun c => isCode c || c.before args0 about1) = true := by decide +kernel
theorem w_tables : (allAtoms (Jvm.Cond.code x code maxLocals ret :: tables_1)).before args0 about1 = true := by
  rw [allAtoms_all]
  show words1.all (fun c => c.before args0 about1) = true
  refine all_split ?_ w_codes
  rw [← List.take_append_drop 24 words1, List.all_append, w_t1, ← List.take_append_drop 24 (words1.drop 24), List.all_append, w_t2, w_t3]
  rfl
set_option maxRecDepth 65536 in
theorem w_case : (Jvm.Cond.and given_1 narrow_1).before args0 about1 = true := by decide +kernel
theorem w_applies : (headSpec (Jvm.Cond.code x code maxLocals ret :: tables_1) room_1).applies x e0.platform about1 = true :=
  (Spec.applies_iff w_frames).mpr ⟨w_running, w_runnable, w_alone, w_named, w_hears, w_ripe, w_room, w_tables⟩
theorem atStart : AtStart classFile x code maxLocals ret World_1 tables_1 room_1 Calls_1 rest_1 Pre_1 launch0 p0 e0 about1 theMethod args0 below0 :=
  ⟨lists_1, trivial, launch0.admits_env _ _ _, launch0.least_env, fairChoices_fair.cas, fairChoices_fair.clock, w_frames, w_args, w_heap, w_applies, trivial, trivial, w_case⟩
end start1
theorem witness_1 : WitnessClaimed_1 := ⟨start1.p0, start1.e0, start1.about1, start1.theMethod, start1.args0, start1.below0, start1.atStart⟩
end Jvm.Pilot.@@N@@
