import JvmDerived
import JvmDerived.Pilot.@@N@@Statement
import JvmDerived.Pilot.@@N@@Code
set_option linter.unusedVariables false
set_option linter.unusedSimpArgs false
namespace Jvm.Pilot.@@N@@
open Jvm Jvm.ClassFile Sem Op Lib Jvm.Free Jvm.Stand Jvm.LawKit Jvm.RoadKit Bundle Jvm.Pilot.@@N@@.Jvm.D

/-- from here the invocation ends, and what it leaves meets Q -/
def Go (p : Program) (e : Env) (below : List Frame) (s : State) (mc ms : Nat) (Q : Option Value → Heap → List Loc → Prop) (m : MethodId) (T : State) (pc : Nat) (Ls : Array Slot) (st : List Value) : Prop :=
  ∃ s₂ o, Steps p.tables e below (T.setTop (mkF m pc Ls st)) s₂ ∧ s₂.status = .running ∧ Ended s₂ below o ∧ ∃ v L, o = .returned v ∧ Q v s₂.heap L ∧ FrameEnd s o s₂ L mc ms
section Law
variable {p : Program} {l : Launch} {e : Env} {R : Room} {s : State} {m : MethodId} {args : Array Value} {below : List Frame} {meth : Method} {c : Code} {T T' : State} {locs : List Loc} {cells slots : Nat} {code : ByteArray} {Q : Option Value → Heap → List Loc → Prop} {mc ms : Nat} {pc pc' : Nat} {Ls Ls' : Array Slot} {st st' rest : List Value}
theorem Go.of (k : Go p e below s mc ms Q m T' pc' Ls' st') (h : ∀ t, Steps p.tables e below (T'.setTop (mkF m pc' Ls' st')) t → Steps p.tables e below (T.setTop (mkF m pc Ls st)) t) : Go p e below s mc ms Q m T pc Ls st := by
  obtain ⟨a, o, h1, h2⟩ := k
  exact ⟨a, o, h _ h1, h2⟩
def remI (x y : Int32) : Int32 := x - (x / y) * y
def remJ (x y : Int64) : Int64 := x - (x / y) * y
def i2bF (x : Int32) : Int32 := x.toInt8.toInt32
def i2cF (x : Int32) : Int32 := x.toUInt32.toUInt16.toUInt32.toInt32
def i2sF (x : Int32) : Int32 := x.toInt16.toInt32
def shlI (x y : Int32) : Int32 := x <<< (y &&& 31)
def shrI (x y : Int32) : Int32 := x >>> (y &&& 31)
def shlJ (x : Int64) (y : Int32) : Int64 := x <<< (y.toInt64 &&& 63)
def shrJ (x : Int64) (y : Int32) : Int64 := x >>> (y.toInt64 &&& 63)

theorem Go.iload (X : Stand p l e R s m args below meth c T locs cells slots) (hx : p.tables.exec = Jvm.exec) (hby : c.code = code) {k : Nat} {v : Int32} (hd : decode code pc = .ok (.iload k, 2)) (hpc : pc + 2 = pc') (hl : Ls[k]? = some (.val (.int v))) (h : Go p e below s mc ms Q m T pc' Ls (.int v :: st)) : Go p e below s mc ms Q m T pc Ls (st) := by
  subst hpc; exact h.of fun _ kk => XS.iload (g := mkF m pc Ls (st)) X.here hx rfl (hb hby hd) hl kk
theorem Go.iloadN (X : Stand p l e R s m args below meth c T locs cells slots) (hx : p.tables.exec = Jvm.exec) (hby : c.code = code) {k : Fin 4} {v : Int32} (hd : decode code pc = .ok (.iload_n k, 1)) (hpc : pc + 1 = pc') (hl : Ls[k.val]? = some (.val (.int v))) (h : Go p e below s mc ms Q m T pc' Ls (.int v :: st)) : Go p e below s mc ms Q m T pc Ls (st) := by
  subst hpc; exact h.of fun _ kk => XS.iloadN (g := mkF m pc Ls (st)) X.here hx rfl (hb hby hd) hl kk
theorem Go.lload (X : Stand p l e R s m args below meth c T locs cells slots) (hx : p.tables.exec = Jvm.exec) (hby : c.code = code) {k : Nat} {v : Int64} (hd : decode code pc = .ok (.lload k, 2)) (hpc : pc + 2 = pc') (hl : Ls[k]? = some (.val (.long v))) (h : Go p e below s mc ms Q m T pc' Ls (.long v :: st)) : Go p e below s mc ms Q m T pc Ls (st) := by
  subst hpc; exact h.of fun _ kk => XT.lload (g := mkF m pc Ls (st)) X.here hx rfl (hb hby hd) hl kk
theorem Go.lloadN (X : Stand p l e R s m args below meth c T locs cells slots) (hx : p.tables.exec = Jvm.exec) (hby : c.code = code) {k : Fin 4} {v : Int64} (hd : decode code pc = .ok (.lload_n k, 1)) (hpc : pc + 1 = pc') (hl : Ls[k.val]? = some (.val (.long v))) (h : Go p e below s mc ms Q m T pc' Ls (.long v :: st)) : Go p e below s mc ms Q m T pc Ls (st) := by
  subst hpc; exact h.of fun _ kk => XT.lloadN (g := mkF m pc Ls (st)) X.here hx rfl (hb hby hd) hl kk
theorem Go.aload (X : Stand p l e R s m args below meth c T locs cells slots) (hx : p.tables.exec = Jvm.exec) (hby : c.code = code) {k : Nat} {v : Value} (hd : decode code pc = .ok (.aload k, 2)) (hpc : pc + 2 = pc') (hl : Ls[k]? = some (.val v)) (hv : v.isRef = true) (h : Go p e below s mc ms Q m T pc' Ls (v :: st)) : Go p e below s mc ms Q m T pc Ls (st) := by
  subst hpc; exact h.of fun _ kk => XS.aload (g := mkF m pc Ls (st)) X.here hx rfl (hb hby hd) hl hv kk
theorem Go.aloadN (X : Stand p l e R s m args below meth c T locs cells slots) (hx : p.tables.exec = Jvm.exec) (hby : c.code = code) {k : Fin 4} {v : Value} (hd : decode code pc = .ok (.aload_n k, 1)) (hpc : pc + 1 = pc') (hl : Ls[k.val]? = some (.val v)) (hv : v.isRef = true) (h : Go p e below s mc ms Q m T pc' Ls (v :: st)) : Go p e below s mc ms Q m T pc Ls (st) := by
  subst hpc; exact h.of fun _ kk => XS.aloadN (g := mkF m pc Ls (st)) X.here hx rfl (hb hby hd) hl hv kk
theorem Go.istore (X : Stand p l e R s m args below meth c T locs cells slots) (hx : p.tables.exec = Jvm.exec) (hby : c.code = code) {k : Nat} {v : Int32} (hd : decode code pc = .ok (.istore k, 2)) (hpc : pc + 2 = pc') (hl : storeLocals Ls k (.int v) = some Ls') (h : Go p e below s mc ms Q m T pc' Ls' (st)) : Go p e below s mc ms Q m T pc Ls (.int v :: st) := by
  subst hpc; exact h.of fun _ kk => XS.istore (g := mkF m pc Ls (.int v :: st)) X.here hx rfl (hb hby hd) rfl hl kk
theorem Go.istoreN (X : Stand p l e R s m args below meth c T locs cells slots) (hx : p.tables.exec = Jvm.exec) (hby : c.code = code) {k : Fin 4} {v : Int32} (hd : decode code pc = .ok (.istore_n k, 1)) (hpc : pc + 1 = pc') (hl : storeLocals Ls k.val (.int v) = some Ls') (h : Go p e below s mc ms Q m T pc' Ls' (st)) : Go p e below s mc ms Q m T pc Ls (.int v :: st) := by
  subst hpc; exact h.of fun _ kk => XS.istoreN (g := mkF m pc Ls (.int v :: st)) X.here hx rfl (hb hby hd) rfl hl kk
theorem Go.lstore (X : Stand p l e R s m args below meth c T locs cells slots) (hx : p.tables.exec = Jvm.exec) (hby : c.code = code) {k : Nat} {v : Int64} (hd : decode code pc = .ok (.lstore k, 2)) (hpc : pc + 2 = pc') (hl : storeLocals Ls k (.long v) = some Ls') (h : Go p e below s mc ms Q m T pc' Ls' (st)) : Go p e below s mc ms Q m T pc Ls (.long v :: st) := by
  subst hpc; exact h.of fun _ kk => XT.lstore (g := mkF m pc Ls (.long v :: st)) X.here hx rfl (hb hby hd) rfl hl kk
theorem Go.lstoreN (X : Stand p l e R s m args below meth c T locs cells slots) (hx : p.tables.exec = Jvm.exec) (hby : c.code = code) {k : Fin 4} {v : Int64} (hd : decode code pc = .ok (.lstore_n k, 1)) (hpc : pc + 1 = pc') (hl : storeLocals Ls k.val (.long v) = some Ls') (h : Go p e below s mc ms Q m T pc' Ls' (st)) : Go p e below s mc ms Q m T pc Ls (.long v :: st) := by
  subst hpc; exact h.of fun _ kk => XT.lstoreN (g := mkF m pc Ls (.long v :: st)) X.here hx rfl (hb hby hd) rfl hl kk
theorem Go.astore (X : Stand p l e R s m args below meth c T locs cells slots) (hx : p.tables.exec = Jvm.exec) (hby : c.code = code) {k : Nat} {v : Value} (hd : decode code pc = .ok (.astore k, 2)) (hpc : pc + 2 = pc') (hv : v.isRef = true) (hl : storeLocals Ls k v = some Ls') (h : Go p e below s mc ms Q m T pc' Ls' (st)) : Go p e below s mc ms Q m T pc Ls (v :: st) := by
  subst hpc; exact h.of fun _ kk => XS.astore (g := mkF m pc Ls (v :: st)) X.here hx rfl (hb hby hd) rfl hv hl kk
theorem Go.astoreN (X : Stand p l e R s m args below meth c T locs cells slots) (hx : p.tables.exec = Jvm.exec) (hby : c.code = code) {k : Fin 4} {v : Value} (hd : decode code pc = .ok (.astore_n k, 1)) (hpc : pc + 1 = pc') (hv : v.isRef = true) (hl : storeLocals Ls k.val v = some Ls') (h : Go p e below s mc ms Q m T pc' Ls' (st)) : Go p e below s mc ms Q m T pc Ls (v :: st) := by
  subst hpc; exact h.of fun _ kk => XS.astoreN (g := mkF m pc Ls (v :: st)) X.here hx rfl (hb hby hd) rfl hv hl kk
theorem Go.iconst (X : Stand p l e R s m args below meth c T locs cells slots) (hx : p.tables.exec = Jvm.exec) (hby : c.code = code) {i : Int} {v : Int32} (hd : decode code pc = .ok (.iconst i, 1)) (hpc : pc + 1 = pc') (hv : Int32.ofInt i = v) (h : Go p e below s mc ms Q m T pc' Ls (.int v :: st)) : Go p e below s mc ms Q m T pc Ls (st) := by
  subst hpc; exact h.of fun _ kk => XT.iconstV (g := mkF m pc Ls (st)) X.here hx rfl v (hb hby hd) hv kk
theorem Go.bipush (X : Stand p l e R s m args below meth c T locs cells slots) (hx : p.tables.exec = Jvm.exec) (hby : c.code = code) {i : Int} {v : Int32} (hd : decode code pc = .ok (.bipush i, 2)) (hpc : pc + 2 = pc') (hv : (Int8.ofInt i).toInt32 = v) (h : Go p e below s mc ms Q m T pc' Ls (.int v :: st)) : Go p e below s mc ms Q m T pc Ls (st) := by
  subst hpc; exact h.of fun _ kk => XT.bipushV (g := mkF m pc Ls (st)) X.here hx rfl v (hb hby hd) hv kk
theorem Go.sipush (X : Stand p l e R s m args below meth c T locs cells slots) (hx : p.tables.exec = Jvm.exec) (hby : c.code = code) {i : Int} {v : Int32} (hd : decode code pc = .ok (.sipush i, 3)) (hpc : pc + 3 = pc') (hv : (Int16.ofInt i).toInt32 = v) (h : Go p e below s mc ms Q m T pc' Ls (.int v :: st)) : Go p e below s mc ms Q m T pc Ls (st) := by
  subst hpc; exact h.of fun _ kk => XT.sipushV (g := mkF m pc Ls (st)) X.here hx rfl v (hb hby hd) hv kk
theorem Go.lconst (X : Stand p l e R s m args below meth c T locs cells slots) (hx : p.tables.exec = Jvm.exec) (hby : c.code = code) {k : Fin 2} {v : Int64} (hd : decode code pc = .ok (.lconst k, 1)) (hpc : pc + 1 = pc') (hv : Int64.ofNat k = v) (h : Go p e below s mc ms Q m T pc' Ls (.long v :: st)) : Go p e below s mc ms Q m T pc Ls (st) := by
  subst hpc; exact h.of fun _ kk => XT.lconstV (g := mkF m pc Ls (st)) X.here hx rfl v (hb hby hd) hv kk
theorem Go.aconstNull (X : Stand p l e R s m args below meth c T locs cells slots) (hx : p.tables.exec = Jvm.exec) (hby : c.code = code) (hd : decode code pc = .ok (.aconst_null, 1)) (hpc : pc + 1 = pc') (h : Go p e below s mc ms Q m T pc' Ls (.null :: st)) : Go p e below s mc ms Q m T pc Ls (st) := by
  subst hpc; exact h.of fun _ kk => XS.aconstNull (g := mkF m pc Ls (st)) X.here hx rfl (hb hby hd) kk
theorem Go.ldcI (X : Stand p l e R s m args below meth c T locs cells slots) (hx : p.tables.exec = Jvm.exec) (hby : c.code = code) {Z : State} {a0 : Array Value} (hZ : Z.Warmed39 s.vm) {own : String} {k : Nat} {v : Int32} (hown : s.vm.findClass own = some m.cls) (w : (Cond.constant own k v).before a0 Z = true) (hd : decode code pc = .ok (.ldc k, 2)) (hpc : pc + 2 = pc') (h : Go p e below s mc ms Q m T pc' Ls (.int v :: st)) : Go p e below s mc ms Q m T pc Ls (st) := by
  subst hpc; exact h.of fun _ kk => Stand.ldcI (g := mkF m pc Ls (st)) X hx hown (mvT hZ w) rfl (hb hby hd) kk
theorem Go.ldcJ (X : Stand p l e R s m args below meth c T locs cells slots) (hx : p.tables.exec = Jvm.exec) (hby : c.code = code) {Z : State} {a0 : Array Value} (hZ : Z.Warmed39 s.vm) {own : String} {k : Nat} {v : Int64} (hown : s.vm.findClass own = some m.cls) (w : (Cond.constantLong own k v).before a0 Z = true) (hd : decode code pc = .ok (.ldc2_w k, 3)) (hpc : pc + 3 = pc') (h : Go p e below s mc ms Q m T pc' Ls (.long v :: st)) : Go p e below s mc ms Q m T pc Ls (st) := by
  subst hpc; exact h.of fun _ kk => Stand.ldc2J (g := mkF m pc Ls (st)) X hx hown (mvT hZ w) rfl (hb hby hd) kk
theorem Go.iadd (X : Stand p l e R s m args below meth c T locs cells slots) (hx : p.tables.exec = Jvm.exec) (hby : c.code = code) {x y : Int32} (hd : decode code pc = .ok (.iadd, 1)) (hpc : pc + 1 = pc') (h : Go p e below s mc ms Q m T pc' Ls (.int (x + y) :: st)) : Go p e below s mc ms Q m T pc Ls (.int y :: .int x :: st) := by
  subst hpc; exact h.of fun _ kk => XS.iadd (g := mkF m pc Ls (.int y :: .int x :: st)) X.here hx rfl (hb hby hd) rfl kk
theorem Go.isub (X : Stand p l e R s m args below meth c T locs cells slots) (hx : p.tables.exec = Jvm.exec) (hby : c.code = code) {x y : Int32} (hd : decode code pc = .ok (.isub, 1)) (hpc : pc + 1 = pc') (h : Go p e below s mc ms Q m T pc' Ls (.int (x - y) :: st)) : Go p e below s mc ms Q m T pc Ls (.int y :: .int x :: st) := by
  subst hpc; exact h.of fun _ kk => XS.isub (g := mkF m pc Ls (.int y :: .int x :: st)) X.here hx rfl (hb hby hd) rfl kk
theorem Go.imul (X : Stand p l e R s m args below meth c T locs cells slots) (hx : p.tables.exec = Jvm.exec) (hby : c.code = code) {x y : Int32} (hd : decode code pc = .ok (.imul, 1)) (hpc : pc + 1 = pc') (h : Go p e below s mc ms Q m T pc' Ls (.int (x * y) :: st)) : Go p e below s mc ms Q m T pc Ls (.int y :: .int x :: st) := by
  subst hpc; exact h.of fun _ kk => XS.imul (g := mkF m pc Ls (.int y :: .int x :: st)) X.here hx rfl (hb hby hd) rfl kk
theorem Go.iand (X : Stand p l e R s m args below meth c T locs cells slots) (hx : p.tables.exec = Jvm.exec) (hby : c.code = code) {x y : Int32} (hd : decode code pc = .ok (.iand, 1)) (hpc : pc + 1 = pc') (h : Go p e below s mc ms Q m T pc' Ls (.int (x &&& y) :: st)) : Go p e below s mc ms Q m T pc Ls (.int y :: .int x :: st) := by
  subst hpc; exact h.of fun _ kk => XS.iand (g := mkF m pc Ls (.int y :: .int x :: st)) X.here hx rfl (hb hby hd) rfl kk
theorem Go.ior (X : Stand p l e R s m args below meth c T locs cells slots) (hx : p.tables.exec = Jvm.exec) (hby : c.code = code) {x y : Int32} (hd : decode code pc = .ok (.ior, 1)) (hpc : pc + 1 = pc') (h : Go p e below s mc ms Q m T pc' Ls (.int (x ||| y) :: st)) : Go p e below s mc ms Q m T pc Ls (.int y :: .int x :: st) := by
  subst hpc; exact h.of fun _ kk => XT.ior (g := mkF m pc Ls (.int y :: .int x :: st)) X.here hx rfl (hb hby hd) rfl kk
theorem Go.ixor (X : Stand p l e R s m args below meth c T locs cells slots) (hx : p.tables.exec = Jvm.exec) (hby : c.code = code) {x y : Int32} (hd : decode code pc = .ok (.ixor, 1)) (hpc : pc + 1 = pc') (h : Go p e below s mc ms Q m T pc' Ls (.int (x ^^^ y) :: st)) : Go p e below s mc ms Q m T pc Ls (.int y :: .int x :: st) := by
  subst hpc; exact h.of fun _ kk => XT.ixor (g := mkF m pc Ls (.int y :: .int x :: st)) X.here hx rfl (hb hby hd) rfl kk
theorem Go.ishl (X : Stand p l e R s m args below meth c T locs cells slots) (hx : p.tables.exec = Jvm.exec) (hby : c.code = code) {x y : Int32} (hd : decode code pc = .ok (.ishl, 1)) (hpc : pc + 1 = pc') (h : Go p e below s mc ms Q m T pc' Ls (.int (shlI x y) :: st)) : Go p e below s mc ms Q m T pc Ls (.int y :: .int x :: st) := by
  subst hpc; exact h.of fun _ kk => XT.ishl (g := mkF m pc Ls (.int y :: .int x :: st)) X.here hx rfl (hb hby hd) rfl kk
theorem Go.ishr (X : Stand p l e R s m args below meth c T locs cells slots) (hx : p.tables.exec = Jvm.exec) (hby : c.code = code) {x y : Int32} (hd : decode code pc = .ok (.ishr, 1)) (hpc : pc + 1 = pc') (h : Go p e below s mc ms Q m T pc' Ls (.int (shrI x y) :: st)) : Go p e below s mc ms Q m T pc Ls (.int y :: .int x :: st) := by
  subst hpc; exact h.of fun _ kk => XT.ishr (g := mkF m pc Ls (.int y :: .int x :: st)) X.here hx rfl (hb hby hd) rfl kk
theorem Go.iushr (X : Stand p l e R s m args below meth c T locs cells slots) (hx : p.tables.exec = Jvm.exec) (hby : c.code = code) {x y : Int32} (hd : decode code pc = .ok (.iushr, 1)) (hpc : pc + 1 = pc') (h : Go p e below s mc ms Q m T pc' Ls (.int (XT.ushr x y) :: st)) : Go p e below s mc ms Q m T pc Ls (.int y :: .int x :: st) := by
  subst hpc; exact h.of fun _ kk => XT.iushr (g := mkF m pc Ls (.int y :: .int x :: st)) X.here hx rfl (hb hby hd) rfl kk
theorem Go.idiv (X : Stand p l e R s m args below meth c T locs cells slots) (hx : p.tables.exec = Jvm.exec) (hby : c.code = code) {x y : Int32} (hd : decode code pc = .ok (.idiv, 1)) (hpc : pc + 1 = pc') (hy : y ≠ 0) (h : Go p e below s mc ms Q m T pc' Ls (.int (x / y) :: st)) : Go p e below s mc ms Q m T pc Ls (.int y :: .int x :: st) := by
  subst hpc; exact h.of fun _ kk => XS.idiv (g := mkF m pc Ls (.int y :: .int x :: st)) X.here hx rfl (hb hby hd) rfl hy kk
theorem Go.irem (X : Stand p l e R s m args below meth c T locs cells slots) (hx : p.tables.exec = Jvm.exec) (hby : c.code = code) {x y : Int32} (hd : decode code pc = .ok (.irem, 1)) (hpc : pc + 1 = pc') (hy : y ≠ 0) (h : Go p e below s mc ms Q m T pc' Ls (.int (remI x y) :: st)) : Go p e below s mc ms Q m T pc Ls (.int y :: .int x :: st) := by
  subst hpc; exact h.of fun _ kk => XS.irem (g := mkF m pc Ls (.int y :: .int x :: st)) X.here hx rfl (hb hby hd) rfl hy kk
theorem Go.ladd (X : Stand p l e R s m args below meth c T locs cells slots) (hx : p.tables.exec = Jvm.exec) (hby : c.code = code) {x y : Int64} (hd : decode code pc = .ok (.ladd, 1)) (hpc : pc + 1 = pc') (h : Go p e below s mc ms Q m T pc' Ls (.long (x + y) :: st)) : Go p e below s mc ms Q m T pc Ls (.long y :: .long x :: st) := by
  subst hpc; exact h.of fun _ kk => XT.ladd (g := mkF m pc Ls (.long y :: .long x :: st)) X.here hx rfl (hb hby hd) rfl kk
theorem Go.lsub (X : Stand p l e R s m args below meth c T locs cells slots) (hx : p.tables.exec = Jvm.exec) (hby : c.code = code) {x y : Int64} (hd : decode code pc = .ok (.lsub, 1)) (hpc : pc + 1 = pc') (h : Go p e below s mc ms Q m T pc' Ls (.long (x - y) :: st)) : Go p e below s mc ms Q m T pc Ls (.long y :: .long x :: st) := by
  subst hpc; exact h.of fun _ kk => XT.lsub (g := mkF m pc Ls (.long y :: .long x :: st)) X.here hx rfl (hb hby hd) rfl kk
theorem Go.lmul (X : Stand p l e R s m args below meth c T locs cells slots) (hx : p.tables.exec = Jvm.exec) (hby : c.code = code) {x y : Int64} (hd : decode code pc = .ok (.lmul, 1)) (hpc : pc + 1 = pc') (h : Go p e below s mc ms Q m T pc' Ls (.long (x * y) :: st)) : Go p e below s mc ms Q m T pc Ls (.long y :: .long x :: st) := by
  subst hpc; exact h.of fun _ kk => XT.lmul (g := mkF m pc Ls (.long y :: .long x :: st)) X.here hx rfl (hb hby hd) rfl kk
theorem Go.land (X : Stand p l e R s m args below meth c T locs cells slots) (hx : p.tables.exec = Jvm.exec) (hby : c.code = code) {x y : Int64} (hd : decode code pc = .ok (.land, 1)) (hpc : pc + 1 = pc') (h : Go p e below s mc ms Q m T pc' Ls (.long (x &&& y) :: st)) : Go p e below s mc ms Q m T pc Ls (.long y :: .long x :: st) := by
  subst hpc; exact h.of fun _ kk => XT.land (g := mkF m pc Ls (.long y :: .long x :: st)) X.here hx rfl (hb hby hd) rfl kk
theorem Go.lor (X : Stand p l e R s m args below meth c T locs cells slots) (hx : p.tables.exec = Jvm.exec) (hby : c.code = code) {x y : Int64} (hd : decode code pc = .ok (.lor, 1)) (hpc : pc + 1 = pc') (h : Go p e below s mc ms Q m T pc' Ls (.long (x ||| y) :: st)) : Go p e below s mc ms Q m T pc Ls (.long y :: .long x :: st) := by
  subst hpc; exact h.of fun _ kk => XT.lor (g := mkF m pc Ls (.long y :: .long x :: st)) X.here hx rfl (hb hby hd) rfl kk
theorem Go.lxor (X : Stand p l e R s m args below meth c T locs cells slots) (hx : p.tables.exec = Jvm.exec) (hby : c.code = code) {x y : Int64} (hd : decode code pc = .ok (.lxor, 1)) (hpc : pc + 1 = pc') (h : Go p e below s mc ms Q m T pc' Ls (.long (x ^^^ y) :: st)) : Go p e below s mc ms Q m T pc Ls (.long y :: .long x :: st) := by
  subst hpc; exact h.of fun _ kk => XT.lxor (g := mkF m pc Ls (.long y :: .long x :: st)) X.here hx rfl (hb hby hd) rfl kk
theorem Go.ldiv (X : Stand p l e R s m args below meth c T locs cells slots) (hx : p.tables.exec = Jvm.exec) (hby : c.code = code) {x y : Int64} (hd : decode code pc = .ok (.ldiv, 1)) (hpc : pc + 1 = pc') (hy : y ≠ 0) (h : Go p e below s mc ms Q m T pc' Ls (.long (x / y) :: st)) : Go p e below s mc ms Q m T pc Ls (.long y :: .long x :: st) := by
  subst hpc; exact h.of fun _ kk => XT.ldiv (g := mkF m pc Ls (.long y :: .long x :: st)) X.here hx rfl (hb hby hd) rfl hy kk
theorem Go.lrem (X : Stand p l e R s m args below meth c T locs cells slots) (hx : p.tables.exec = Jvm.exec) (hby : c.code = code) {x y : Int64} (hd : decode code pc = .ok (.lrem, 1)) (hpc : pc + 1 = pc') (hy : y ≠ 0) (h : Go p e below s mc ms Q m T pc' Ls (.long (remJ x y) :: st)) : Go p e below s mc ms Q m T pc Ls (.long y :: .long x :: st) := by
  subst hpc; exact h.of fun _ kk => XT.lrem (g := mkF m pc Ls (.long y :: .long x :: st)) X.here hx rfl (hb hby hd) rfl hy kk
theorem Go.lushr (X : Stand p l e R s m args below meth c T locs cells slots) (hx : p.tables.exec = Jvm.exec) (hby : c.code = code) {x : Int64} {y : Int32} (hd : decode code pc = .ok (.lushr, 1)) (hpc : pc + 1 = pc') (h : Go p e below s mc ms Q m T pc' Ls (.long (XT.ushrL x y) :: st)) : Go p e below s mc ms Q m T pc Ls (.int y :: .long x :: st) := by
  subst hpc; exact h.of fun _ kk => XT.lushr (g := mkF m pc Ls (.int y :: .long x :: st)) X.here hx rfl (hb hby hd) rfl kk
theorem Go.lshl (X : Stand p l e R s m args below meth c T locs cells slots) (hx : p.tables.exec = Jvm.exec) (hby : c.code = code) {x : Int64} {y : Int32} {z : Int64} (hd : decode code pc = .ok (.lshl, 1)) (hpc : pc + 1 = pc') (hz : x <<< (y.toInt64 &&& 63) = z) (h : Go p e below s mc ms Q m T pc' Ls (.long z :: st)) : Go p e below s mc ms Q m T pc Ls (.int y :: .long x :: st) := by
  subst hpc hz; exact h.of fun _ kk => XT.lshl (g := mkF m pc Ls (.int y :: .long x :: st)) X.here hx rfl (hb hby hd) rfl kk
theorem Go.lshr (X : Stand p l e R s m args below meth c T locs cells slots) (hx : p.tables.exec = Jvm.exec) (hby : c.code = code) {x : Int64} {y : Int32} {z : Int64} (hd : decode code pc = .ok (.lshr, 1)) (hpc : pc + 1 = pc') (hz : x >>> (y.toInt64 &&& 63) = z) (h : Go p e below s mc ms Q m T pc' Ls (.long z :: st)) : Go p e below s mc ms Q m T pc Ls (.int y :: .long x :: st) := by
  subst hpc hz; exact h.of fun _ kk => XT.lshr (g := mkF m pc Ls (.int y :: .long x :: st)) X.here hx rfl (hb hby hd) rfl kk
theorem Go.lcmp (X : Stand p l e R s m args below meth c T locs cells slots) (hx : p.tables.exec = Jvm.exec) (hby : c.code = code) {x y : Int64} (hd : decode code pc = .ok (.lcmp, 1)) (hpc : pc + 1 = pc') (h : Go p e below s mc ms Q m T pc' Ls (.int (XT.cmpL x y) :: st)) : Go p e below s mc ms Q m T pc Ls (.long y :: .long x :: st) := by
  subst hpc; exact h.of fun _ kk => XT.lcmp (g := mkF m pc Ls (.long y :: .long x :: st)) X.here hx rfl (hb hby hd) rfl kk
theorem Go.ineg (X : Stand p l e R s m args below meth c T locs cells slots) (hx : p.tables.exec = Jvm.exec) (hby : c.code = code) {x : Int32} (hd : decode code pc = .ok (.ineg, 1)) (hpc : pc + 1 = pc') (h : Go p e below s mc ms Q m T pc' Ls (.int (-x) :: st)) : Go p e below s mc ms Q m T pc Ls (.int x :: st) := by
  subst hpc; exact h.of fun _ kk => XS.ineg (g := mkF m pc Ls (.int x :: st)) X.here hx rfl (hb hby hd) rfl kk
theorem Go.i2l (X : Stand p l e R s m args below meth c T locs cells slots) (hx : p.tables.exec = Jvm.exec) (hby : c.code = code) {x : Int32} (hd : decode code pc = .ok (.i2l, 1)) (hpc : pc + 1 = pc') (h : Go p e below s mc ms Q m T pc' Ls (.long (x.toInt64) :: st)) : Go p e below s mc ms Q m T pc Ls (.int x :: st) := by
  subst hpc; exact h.of fun _ kk => XT.i2l (g := mkF m pc Ls (.int x :: st)) X.here hx rfl (hb hby hd) rfl kk
theorem Go.l2i (X : Stand p l e R s m args below meth c T locs cells slots) (hx : p.tables.exec = Jvm.exec) (hby : c.code = code) {x : Int64} (hd : decode code pc = .ok (.l2i, 1)) (hpc : pc + 1 = pc') (h : Go p e below s mc ms Q m T pc' Ls (.int (x.toInt32) :: st)) : Go p e below s mc ms Q m T pc Ls (.long x :: st) := by
  subst hpc; exact h.of fun _ kk => XT.l2i (g := mkF m pc Ls (.long x :: st)) X.here hx rfl (hb hby hd) rfl kk
theorem Go.i2b (X : Stand p l e R s m args below meth c T locs cells slots) (hx : p.tables.exec = Jvm.exec) (hby : c.code = code) {x : Int32} (hd : decode code pc = .ok (.i2b, 1)) (hpc : pc + 1 = pc') (h : Go p e below s mc ms Q m T pc' Ls (.int (i2bF x) :: st)) : Go p e below s mc ms Q m T pc Ls (.int x :: st) := by
  subst hpc; exact h.of fun _ kk => XT.i2b (g := mkF m pc Ls (.int x :: st)) X.here hx rfl (hb hby hd) rfl kk
theorem Go.i2c (X : Stand p l e R s m args below meth c T locs cells slots) (hx : p.tables.exec = Jvm.exec) (hby : c.code = code) {x : Int32} (hd : decode code pc = .ok (.i2c, 1)) (hpc : pc + 1 = pc') (h : Go p e below s mc ms Q m T pc' Ls (.int (i2cF x) :: st)) : Go p e below s mc ms Q m T pc Ls (.int x :: st) := by
  subst hpc; exact h.of fun _ kk => XT.i2c (g := mkF m pc Ls (.int x :: st)) X.here hx rfl (hb hby hd) rfl kk
theorem Go.i2s (X : Stand p l e R s m args below meth c T locs cells slots) (hx : p.tables.exec = Jvm.exec) (hby : c.code = code) {x : Int32} (hd : decode code pc = .ok (.i2s, 1)) (hpc : pc + 1 = pc') (h : Go p e below s mc ms Q m T pc' Ls (.int (i2sF x) :: st)) : Go p e below s mc ms Q m T pc Ls (.int x :: st) := by
  subst hpc; exact h.of fun _ kk => XT.i2s (g := mkF m pc Ls (.int x :: st)) X.here hx rfl (hb hby hd) rfl kk
theorem Go.iinc (X : Stand p l e R s m args below meth c T locs cells slots) (hx : p.tables.exec = Jvm.exec) (hby : c.code = code) {k : Nat} {i : Int} {x v : Int32} (hd : decode code pc = .ok (.iinc k i, 3)) (hpc : pc + 3 = pc') (hv : Int32.ofInt i = v) (hl : Ls[k]? = some (.val (.int x))) (hl' : storeLocals Ls k (.int (x + v)) = some Ls') (h : Go p e below s mc ms Q m T pc' Ls' (st)) : Go p e below s mc ms Q m T pc Ls (st) := by
  subst hpc; exact h.of fun _ kk => XT.iincV (g := mkF m pc Ls (st)) X.here hx rfl v (hb hby hd) hv hl hl' kk
theorem Go.dup (X : Stand p l e R s m args below meth c T locs cells slots) (hx : p.tables.exec = Jvm.exec) (hby : c.code = code) {v : Value} (hd : decode code pc = .ok (.dup, 1)) (hpc : pc + 1 = pc') (hv : v.category = 1) (h : Go p e below s mc ms Q m T pc' Ls (v :: v :: st)) : Go p e below s mc ms Q m T pc Ls (v :: st) := by
  subst hpc; exact h.of fun _ kk => XS.dup (g := mkF m pc Ls (v :: st)) X.here hx rfl (hb hby hd) rfl hv kk
theorem Go.pop (X : Stand p l e R s m args below meth c T locs cells slots) (hx : p.tables.exec = Jvm.exec) (hby : c.code = code) {v : Value} (hd : decode code pc = .ok (.pop, 1)) (hpc : pc + 1 = pc') (hv : v.category = 1) (h : Go p e below s mc ms Q m T pc' Ls (st)) : Go p e below s mc ms Q m T pc Ls (v :: st) := by
  subst hpc; exact h.of fun _ kk => XT.pop (g := mkF m pc Ls (v :: st)) X.here hx rfl (hb hby hd) rfl hv kk
theorem Go.goto (X : Stand p l e R s m args below meth c T locs cells slots) (hx : p.tables.exec = Jvm.exec) (hby : c.code = code) {o : Int} (hd : decode code pc = .ok (.goto o, 3)) (ho : 0 ≤ (pc : Int) + o) (hp : ((pc : Int) + o).toNat = pc') (h : Go p e below s mc ms Q m T pc' Ls st) : Go p e below s mc ms Q m T pc Ls st :=
  h.of fun _ kk => XS.goto (g := mkF m pc Ls st) X.here hx rfl (pc0 := pc) rfl (hb hby hd) ho hp kk
theorem Go.icmp_eq (X : Stand p l e R s m args below meth c T locs cells slots) (hx : p.tables.exec = Jvm.exec) (hby : c.code = code) {pcN : Nat} {x y : Int32} {o : Int} (hd : decode code pc = .ok (.if_icmp .eq o, 3)) (ho : 0 ≤ (pc : Int) + o) (hp : ((pc : Int) + o).toNat = pc') (hn : pc + 3 = pcN) (yes : x = y → Go p e below s mc ms Q m T pc' Ls st) (no : ¬ x = y → Go p e below s mc ms Q m T pcN Ls st) : Go p e below s mc ms Q m T pc Ls (.int y :: .int x :: st) := by
  subst hn
  by_cases q : x = y
  · exact (yes q).of fun _ kk => XS.icmpYes (g := mkF m pc Ls (.int y :: .int x :: st)) X.here hx rfl (pc0 := pc) rfl (hb hby hd) rfl (XT.ii_eq_t q) ho hp kk
  · exact (no q).of fun _ kk => XS.icmpNo (g := mkF m pc Ls (.int y :: .int x :: st)) X.here hx rfl (hb hby hd) rfl (XT.ii_eq_f q) kk
theorem Go.icmp_ne (X : Stand p l e R s m args below meth c T locs cells slots) (hx : p.tables.exec = Jvm.exec) (hby : c.code = code) {pcN : Nat} {x y : Int32} {o : Int} (hd : decode code pc = .ok (.if_icmp .ne o, 3)) (ho : 0 ≤ (pc : Int) + o) (hp : ((pc : Int) + o).toNat = pc') (hn : pc + 3 = pcN) (yes : ¬ x = y → Go p e below s mc ms Q m T pc' Ls st) (no : x = y → Go p e below s mc ms Q m T pcN Ls st) : Go p e below s mc ms Q m T pc Ls (.int y :: .int x :: st) := by
  subst hn
  by_cases q : x = y
  · exact (no q).of fun _ kk => XS.icmpNo (g := mkF m pc Ls (.int y :: .int x :: st)) X.here hx rfl (hb hby hd) rfl (XT.ii_ne_f q) kk
  · exact (yes q).of fun _ kk => XS.icmpYes (g := mkF m pc Ls (.int y :: .int x :: st)) X.here hx rfl (pc0 := pc) rfl (hb hby hd) rfl (XT.ii_ne_t q) ho hp kk
theorem Go.icmp_lt (X : Stand p l e R s m args below meth c T locs cells slots) (hx : p.tables.exec = Jvm.exec) (hby : c.code = code) {pcN : Nat} {x y : Int32} {o : Int} (hd : decode code pc = .ok (.if_icmp .lt o, 3)) (ho : 0 ≤ (pc : Int) + o) (hp : ((pc : Int) + o).toNat = pc') (hn : pc + 3 = pcN) (yes : x < y → Go p e below s mc ms Q m T pc' Ls st) (no : ¬ x < y → Go p e below s mc ms Q m T pcN Ls st) : Go p e below s mc ms Q m T pc Ls (.int y :: .int x :: st) := by
  subst hn
  by_cases q : x < y
  · exact (yes q).of fun _ kk => XS.icmpYes (g := mkF m pc Ls (.int y :: .int x :: st)) X.here hx rfl (pc0 := pc) rfl (hb hby hd) rfl (XT.ii_lt_t q) ho hp kk
  · exact (no q).of fun _ kk => XS.icmpNo (g := mkF m pc Ls (.int y :: .int x :: st)) X.here hx rfl (hb hby hd) rfl (XT.ii_lt_f q) kk
theorem Go.icmp_ge (X : Stand p l e R s m args below meth c T locs cells slots) (hx : p.tables.exec = Jvm.exec) (hby : c.code = code) {pcN : Nat} {x y : Int32} {o : Int} (hd : decode code pc = .ok (.if_icmp .ge o, 3)) (ho : 0 ≤ (pc : Int) + o) (hp : ((pc : Int) + o).toNat = pc') (hn : pc + 3 = pcN) (yes : ¬ x < y → Go p e below s mc ms Q m T pc' Ls st) (no : x < y → Go p e below s mc ms Q m T pcN Ls st) : Go p e below s mc ms Q m T pc Ls (.int y :: .int x :: st) := by
  subst hn
  by_cases q : x < y
  · exact (no q).of fun _ kk => XS.icmpNo (g := mkF m pc Ls (.int y :: .int x :: st)) X.here hx rfl (hb hby hd) rfl (XT.ii_ge_f q) kk
  · exact (yes q).of fun _ kk => XS.icmpYes (g := mkF m pc Ls (.int y :: .int x :: st)) X.here hx rfl (pc0 := pc) rfl (hb hby hd) rfl (XT.ii_ge_t q) ho hp kk
theorem Go.icmp_gt (X : Stand p l e R s m args below meth c T locs cells slots) (hx : p.tables.exec = Jvm.exec) (hby : c.code = code) {pcN : Nat} {x y : Int32} {o : Int} (hd : decode code pc = .ok (.if_icmp .gt o, 3)) (ho : 0 ≤ (pc : Int) + o) (hp : ((pc : Int) + o).toNat = pc') (hn : pc + 3 = pcN) (yes : y < x → Go p e below s mc ms Q m T pc' Ls st) (no : ¬ y < x → Go p e below s mc ms Q m T pcN Ls st) : Go p e below s mc ms Q m T pc Ls (.int y :: .int x :: st) := by
  subst hn
  by_cases q : y < x
  · exact (yes q).of fun _ kk => XS.icmpYes (g := mkF m pc Ls (.int y :: .int x :: st)) X.here hx rfl (pc0 := pc) rfl (hb hby hd) rfl (XT.ii_gt_t q) ho hp kk
  · exact (no q).of fun _ kk => XS.icmpNo (g := mkF m pc Ls (.int y :: .int x :: st)) X.here hx rfl (hb hby hd) rfl (XT.ii_gt_f q) kk
theorem Go.icmp_le (X : Stand p l e R s m args below meth c T locs cells slots) (hx : p.tables.exec = Jvm.exec) (hby : c.code = code) {pcN : Nat} {x y : Int32} {o : Int} (hd : decode code pc = .ok (.if_icmp .le o, 3)) (ho : 0 ≤ (pc : Int) + o) (hp : ((pc : Int) + o).toNat = pc') (hn : pc + 3 = pcN) (yes : ¬ y < x → Go p e below s mc ms Q m T pc' Ls st) (no : y < x → Go p e below s mc ms Q m T pcN Ls st) : Go p e below s mc ms Q m T pc Ls (.int y :: .int x :: st) := by
  subst hn
  by_cases q : y < x
  · exact (no q).of fun _ kk => XS.icmpNo (g := mkF m pc Ls (.int y :: .int x :: st)) X.here hx rfl (hb hby hd) rfl (XT.ii_le_f q) kk
  · exact (yes q).of fun _ kk => XS.icmpYes (g := mkF m pc Ls (.int y :: .int x :: st)) X.here hx rfl (pc0 := pc) rfl (hb hby hd) rfl (XT.ii_le_t q) ho hp kk
theorem Go.if_eq (X : Stand p l e R s m args below meth c T locs cells slots) (hx : p.tables.exec = Jvm.exec) (hby : c.code = code) {pcN : Nat} {x : Int32} {o : Int} (hd : decode code pc = .ok (.ifCond .eq o, 3)) (ho : 0 ≤ (pc : Int) + o) (hp : ((pc : Int) + o).toNat = pc') (hn : pc + 3 = pcN) (yes : x = 0 → Go p e below s mc ms Q m T pc' Ls st) (no : ¬ x = 0 → Go p e below s mc ms Q m T pcN Ls st) : Go p e below s mc ms Q m T pc Ls (.int x :: st) := by
  subst hn
  by_cases q : x = 0
  · exact (yes q).of fun _ kk => XS.ifYes (g := mkF m pc Ls (.int x :: st)) X.here hx rfl (pc0 := pc) rfl (hb hby hd) rfl (XT.i0_eq_t q) ho hp kk
  · exact (no q).of fun _ kk => XS.ifNo (g := mkF m pc Ls (.int x :: st)) X.here hx rfl (hb hby hd) rfl (XT.i0_eq_f q) kk
theorem Go.if_ne (X : Stand p l e R s m args below meth c T locs cells slots) (hx : p.tables.exec = Jvm.exec) (hby : c.code = code) {pcN : Nat} {x : Int32} {o : Int} (hd : decode code pc = .ok (.ifCond .ne o, 3)) (ho : 0 ≤ (pc : Int) + o) (hp : ((pc : Int) + o).toNat = pc') (hn : pc + 3 = pcN) (yes : ¬ x = 0 → Go p e below s mc ms Q m T pc' Ls st) (no : x = 0 → Go p e below s mc ms Q m T pcN Ls st) : Go p e below s mc ms Q m T pc Ls (.int x :: st) := by
  subst hn
  by_cases q : x = 0
  · exact (no q).of fun _ kk => XS.ifNo (g := mkF m pc Ls (.int x :: st)) X.here hx rfl (hb hby hd) rfl (XT.i0_ne_f q) kk
  · exact (yes q).of fun _ kk => XS.ifYes (g := mkF m pc Ls (.int x :: st)) X.here hx rfl (pc0 := pc) rfl (hb hby hd) rfl (XT.i0_ne_t q) ho hp kk
theorem Go.if_lt (X : Stand p l e R s m args below meth c T locs cells slots) (hx : p.tables.exec = Jvm.exec) (hby : c.code = code) {pcN : Nat} {x : Int32} {o : Int} (hd : decode code pc = .ok (.ifCond .lt o, 3)) (ho : 0 ≤ (pc : Int) + o) (hp : ((pc : Int) + o).toNat = pc') (hn : pc + 3 = pcN) (yes : x < 0 → Go p e below s mc ms Q m T pc' Ls st) (no : ¬ x < 0 → Go p e below s mc ms Q m T pcN Ls st) : Go p e below s mc ms Q m T pc Ls (.int x :: st) := by
  subst hn
  by_cases q : x < 0
  · exact (yes q).of fun _ kk => XS.ifYes (g := mkF m pc Ls (.int x :: st)) X.here hx rfl (pc0 := pc) rfl (hb hby hd) rfl (XT.i0_lt_t q) ho hp kk
  · exact (no q).of fun _ kk => XS.ifNo (g := mkF m pc Ls (.int x :: st)) X.here hx rfl (hb hby hd) rfl (XT.i0_lt_f q) kk
theorem Go.if_ge (X : Stand p l e R s m args below meth c T locs cells slots) (hx : p.tables.exec = Jvm.exec) (hby : c.code = code) {pcN : Nat} {x : Int32} {o : Int} (hd : decode code pc = .ok (.ifCond .ge o, 3)) (ho : 0 ≤ (pc : Int) + o) (hp : ((pc : Int) + o).toNat = pc') (hn : pc + 3 = pcN) (yes : ¬ x < 0 → Go p e below s mc ms Q m T pc' Ls st) (no : x < 0 → Go p e below s mc ms Q m T pcN Ls st) : Go p e below s mc ms Q m T pc Ls (.int x :: st) := by
  subst hn
  by_cases q : x < 0
  · exact (no q).of fun _ kk => XS.ifNo (g := mkF m pc Ls (.int x :: st)) X.here hx rfl (hb hby hd) rfl (XT.i0_ge_f q) kk
  · exact (yes q).of fun _ kk => XS.ifYes (g := mkF m pc Ls (.int x :: st)) X.here hx rfl (pc0 := pc) rfl (hb hby hd) rfl (XT.i0_ge_t q) ho hp kk
theorem Go.if_gt (X : Stand p l e R s m args below meth c T locs cells slots) (hx : p.tables.exec = Jvm.exec) (hby : c.code = code) {pcN : Nat} {x : Int32} {o : Int} (hd : decode code pc = .ok (.ifCond .gt o, 3)) (ho : 0 ≤ (pc : Int) + o) (hp : ((pc : Int) + o).toNat = pc') (hn : pc + 3 = pcN) (yes : 0 < x → Go p e below s mc ms Q m T pc' Ls st) (no : ¬ 0 < x → Go p e below s mc ms Q m T pcN Ls st) : Go p e below s mc ms Q m T pc Ls (.int x :: st) := by
  subst hn
  by_cases q : 0 < x
  · exact (yes q).of fun _ kk => XS.ifYes (g := mkF m pc Ls (.int x :: st)) X.here hx rfl (pc0 := pc) rfl (hb hby hd) rfl (XT.i0_gt_t q) ho hp kk
  · exact (no q).of fun _ kk => XS.ifNo (g := mkF m pc Ls (.int x :: st)) X.here hx rfl (hb hby hd) rfl (XT.i0_gt_f q) kk
theorem Go.if_le (X : Stand p l e R s m args below meth c T locs cells slots) (hx : p.tables.exec = Jvm.exec) (hby : c.code = code) {pcN : Nat} {x : Int32} {o : Int} (hd : decode code pc = .ok (.ifCond .le o, 3)) (ho : 0 ≤ (pc : Int) + o) (hp : ((pc : Int) + o).toNat = pc') (hn : pc + 3 = pcN) (yes : ¬ 0 < x → Go p e below s mc ms Q m T pc' Ls st) (no : 0 < x → Go p e below s mc ms Q m T pcN Ls st) : Go p e below s mc ms Q m T pc Ls (.int x :: st) := by
  subst hn
  by_cases q : 0 < x
  · exact (no q).of fun _ kk => XS.ifNo (g := mkF m pc Ls (.int x :: st)) X.here hx rfl (hb hby hd) rfl (XT.i0_le_f q) kk
  · exact (yes q).of fun _ kk => XS.ifYes (g := mkF m pc Ls (.int x :: st)) X.here hx rfl (pc0 := pc) rfl (hb hby hd) rfl (XT.i0_le_t q) ho hp kk
theorem Go.ifL_eq (X : Stand p l e R s m args below meth c T locs cells slots) (hx : p.tables.exec = Jvm.exec) (hby : c.code = code) {pcN : Nat} {x y : Int64} {o : Int} (hd : decode code pc = .ok (.ifCond .eq o, 3)) (ho : 0 ≤ (pc : Int) + o) (hp : ((pc : Int) + o).toNat = pc') (hn : pc + 3 = pcN) (yes : x = y → Go p e below s mc ms Q m T pc' Ls st) (no : ¬ x = y → Go p e below s mc ms Q m T pcN Ls st) : Go p e below s mc ms Q m T pc Ls (.int (XT.cmpL x y) :: st) := by
  subst hn
  by_cases q : x = y
  · exact (yes q).of fun _ kk => XS.ifYes (g := mkF m pc Ls (.int (XT.cmpL x y) :: st)) X.here hx rfl (pc0 := pc) rfl (hb hby hd) rfl (XT.ll_eq_t q) ho hp kk
  · exact (no q).of fun _ kk => XS.ifNo (g := mkF m pc Ls (.int (XT.cmpL x y) :: st)) X.here hx rfl (hb hby hd) rfl (XT.ll_eq_f q) kk
theorem Go.ifL_ne (X : Stand p l e R s m args below meth c T locs cells slots) (hx : p.tables.exec = Jvm.exec) (hby : c.code = code) {pcN : Nat} {x y : Int64} {o : Int} (hd : decode code pc = .ok (.ifCond .ne o, 3)) (ho : 0 ≤ (pc : Int) + o) (hp : ((pc : Int) + o).toNat = pc') (hn : pc + 3 = pcN) (yes : ¬ x = y → Go p e below s mc ms Q m T pc' Ls st) (no : x = y → Go p e below s mc ms Q m T pcN Ls st) : Go p e below s mc ms Q m T pc Ls (.int (XT.cmpL x y) :: st) := by
  subst hn
  by_cases q : x = y
  · exact (no q).of fun _ kk => XS.ifNo (g := mkF m pc Ls (.int (XT.cmpL x y) :: st)) X.here hx rfl (hb hby hd) rfl (XT.ll_ne_f q) kk
  · exact (yes q).of fun _ kk => XS.ifYes (g := mkF m pc Ls (.int (XT.cmpL x y) :: st)) X.here hx rfl (pc0 := pc) rfl (hb hby hd) rfl (XT.ll_ne_t q) ho hp kk
theorem Go.ifL_lt (X : Stand p l e R s m args below meth c T locs cells slots) (hx : p.tables.exec = Jvm.exec) (hby : c.code = code) {pcN : Nat} {x y : Int64} {o : Int} (hd : decode code pc = .ok (.ifCond .lt o, 3)) (ho : 0 ≤ (pc : Int) + o) (hp : ((pc : Int) + o).toNat = pc') (hn : pc + 3 = pcN) (yes : x < y → Go p e below s mc ms Q m T pc' Ls st) (no : ¬ x < y → Go p e below s mc ms Q m T pcN Ls st) : Go p e below s mc ms Q m T pc Ls (.int (XT.cmpL x y) :: st) := by
  subst hn
  by_cases q : x < y
  · exact (yes q).of fun _ kk => XS.ifYes (g := mkF m pc Ls (.int (XT.cmpL x y) :: st)) X.here hx rfl (pc0 := pc) rfl (hb hby hd) rfl (XT.ll_lt_t q) ho hp kk
  · exact (no q).of fun _ kk => XS.ifNo (g := mkF m pc Ls (.int (XT.cmpL x y) :: st)) X.here hx rfl (hb hby hd) rfl (XT.ll_lt_f q) kk
theorem Go.ifL_ge (X : Stand p l e R s m args below meth c T locs cells slots) (hx : p.tables.exec = Jvm.exec) (hby : c.code = code) {pcN : Nat} {x y : Int64} {o : Int} (hd : decode code pc = .ok (.ifCond .ge o, 3)) (ho : 0 ≤ (pc : Int) + o) (hp : ((pc : Int) + o).toNat = pc') (hn : pc + 3 = pcN) (yes : ¬ x < y → Go p e below s mc ms Q m T pc' Ls st) (no : x < y → Go p e below s mc ms Q m T pcN Ls st) : Go p e below s mc ms Q m T pc Ls (.int (XT.cmpL x y) :: st) := by
  subst hn
  by_cases q : x < y
  · exact (no q).of fun _ kk => XS.ifNo (g := mkF m pc Ls (.int (XT.cmpL x y) :: st)) X.here hx rfl (hb hby hd) rfl (XT.ll_ge_f q) kk
  · exact (yes q).of fun _ kk => XS.ifYes (g := mkF m pc Ls (.int (XT.cmpL x y) :: st)) X.here hx rfl (pc0 := pc) rfl (hb hby hd) rfl (XT.ll_ge_t q) ho hp kk
theorem Go.ifL_gt (X : Stand p l e R s m args below meth c T locs cells slots) (hx : p.tables.exec = Jvm.exec) (hby : c.code = code) {pcN : Nat} {x y : Int64} {o : Int} (hd : decode code pc = .ok (.ifCond .gt o, 3)) (ho : 0 ≤ (pc : Int) + o) (hp : ((pc : Int) + o).toNat = pc') (hn : pc + 3 = pcN) (yes : y < x → Go p e below s mc ms Q m T pc' Ls st) (no : ¬ y < x → Go p e below s mc ms Q m T pcN Ls st) : Go p e below s mc ms Q m T pc Ls (.int (XT.cmpL x y) :: st) := by
  subst hn
  by_cases q : y < x
  · exact (yes q).of fun _ kk => XS.ifYes (g := mkF m pc Ls (.int (XT.cmpL x y) :: st)) X.here hx rfl (pc0 := pc) rfl (hb hby hd) rfl (XT.ll_gt_t q) ho hp kk
  · exact (no q).of fun _ kk => XS.ifNo (g := mkF m pc Ls (.int (XT.cmpL x y) :: st)) X.here hx rfl (hb hby hd) rfl (XT.ll_gt_f q) kk
theorem Go.ifL_le (X : Stand p l e R s m args below meth c T locs cells slots) (hx : p.tables.exec = Jvm.exec) (hby : c.code = code) {pcN : Nat} {x y : Int64} {o : Int} (hd : decode code pc = .ok (.ifCond .le o, 3)) (ho : 0 ≤ (pc : Int) + o) (hp : ((pc : Int) + o).toNat = pc') (hn : pc + 3 = pcN) (yes : ¬ y < x → Go p e below s mc ms Q m T pc' Ls st) (no : y < x → Go p e below s mc ms Q m T pcN Ls st) : Go p e below s mc ms Q m T pc Ls (.int (XT.cmpL x y) :: st) := by
  subst hn
  by_cases q : y < x
  · exact (no q).of fun _ kk => XS.ifNo (g := mkF m pc Ls (.int (XT.cmpL x y) :: st)) X.here hx rfl (hb hby hd) rfl (XT.ll_le_f q) kk
  · exact (yes q).of fun _ kk => XS.ifYes (g := mkF m pc Ls (.int (XT.cmpL x y) :: st)) X.here hx rfl (pc0 := pc) rfl (hb hby hd) rfl (XT.ll_le_t q) ho hp kk
theorem Go.iretI (X : Stand p l e R s m args below meth c T locs cells slots) (hx : p.tables.exec = Jvm.exec) (hby : c.code = code) (hlk : meth.locks = false) (hret : meth.sig.returnType = some .int) {w : Int32} (hd : decode code pc = .ok (.ireturn, 1)) (hc : cells ≤ mc) (hs : slots ≤ ms) (hq : Q (some (.int w)) T.heap locs) : Go p e below s mc ms Q m T pc Ls [.int w] := by
  obtain ⟨fs, hr, hrun, hended, hW, hsame⟩ := X.leave (v := some (.int w)) (fun h => by rw [hret] at h; cases h) hlk
  exact ⟨_, _, X.ireturnOut hx hret rfl (Or.inl rfl) (hb hby hd) hr, hrun, hended, _, _, rfl, hq, ⟨_, rfl⟩, hW, hsame.mono hc hs⟩
theorem Go.iretN (X : Stand p l e R s m args below meth c T locs cells slots) (hx : p.tables.exec = Jvm.exec) (hby : c.code = code) (hlk : meth.locks = false) {t : FieldType} (hret : meth.sig.returnType = some t) (ht : t = .boolean ∨ t = .byte ∨ t = .char ∨ t = .short) {w w' : Int32} (hw : nar t w = w') (hd : decode code pc = .ok (.ireturn, 1)) (hc : cells ≤ mc) (hs : slots ≤ ms) (hq : Q (some (.int w')) T.heap locs) : Go p e below s mc ms Q m T pc Ls [.int w] := by
  subst hw
  obtain ⟨fs, hr, hrun, hended, hW, hsame⟩ := X.leave (v := some (.int (nar t w))) (fun h => by rw [hret] at h; cases h) hlk
  exact ⟨_, _, retN X hx (t := t) hret ht (hb hby hd) hr, hrun, hended, _, _, rfl, hq, ⟨_, rfl⟩, hW, hsame.mono hc hs⟩
theorem Go.lret (X : Stand p l e R s m args below meth c T locs cells slots) (hx : p.tables.exec = Jvm.exec) (hby : c.code = code) (hlk : meth.locks = false) (hret : meth.sig.returnType = some .long) {w : Int64} (hd : decode code pc = .ok (.lreturn, 1)) (hc : cells ≤ mc) (hs : slots ≤ ms) (hq : Q (some (.long w)) T.heap locs) : Go p e below s mc ms Q m T pc Ls [.long w] := by
  obtain ⟨fs, hr, hrun, hended, hW, hsame⟩ := X.leave (v := some (.long w)) (fun h => by rw [hret] at h; cases h) hlk
  exact ⟨_, _, X.lreturnOut hx hret (hb hby hd) hr, hrun, hended, _, _, rfl, hq, ⟨_, rfl⟩, hW, hsame.mono hc hs⟩
theorem Go.aret (X : Stand p l e R s m args below meth c T locs cells slots) (hx : p.tables.exec = Jvm.exec) (hby : c.code = code) (hlk : meth.locks = false) {t : FieldType} (hret : meth.sig.returnType = some t) (ht : t.isReference = true) {w : Value} (hw : w.isRef = true) (hd : decode code pc = .ok (.areturn, 1)) (hc : cells ≤ mc) (hs : slots ≤ ms) (hq : Q (some w) T.heap locs) : Go p e below s mc ms Q m T pc Ls [w] := by
  obtain ⟨fs, hr, hrun, hended, hW, hsame⟩ := X.leave (v := some w) (fun h => by rw [hret] at h; cases h) hlk
  exact ⟨_, _, X.areturnOut hx hw hret ht (hb hby hd) hr, hrun, hended, _, _, rfl, hq, ⟨_, rfl⟩, hW, hsame.mono hc hs⟩
theorem Go.vret (X : Stand p l e R s m args below meth c T locs cells slots) (hx : p.tables.exec = Jvm.exec) (hby : c.code = code) (hlk : meth.locks = false) (hret : meth.sig.returnType = none) (hd : decode code pc = .ok (.return_, 1)) (hc : cells ≤ mc) (hs : slots ≤ ms) (hq : Q none T.heap locs) : Go p e below s mc ms Q m T pc Ls [] := by
  obtain ⟨fs, hr, hrun, hended, hW, hsame⟩ := X.leave (v := none) (fun _ => rfl) hlk
  exact ⟨_, _, X.returnOut hx hret (hb hby hd) hr, hrun, hended, _, _, rfl, hq, ⟨_, rfl⟩, hW, hsame.mono hc hs⟩
/-- what a body that keeps the heap leaves -/
def PQ (h0 : Heap) (r : Option Value) (v : Option Value) (h : Heap) (L : List Loc) : Prop := v = r ∧ L = [] ∧ h = h0
theorem Go.callS (X : Stand p l e R s m args below meth c T locs cells slots) (hx : p.tables.exec = Jvm.exec) (hby : c.code = code) {Z : State} {a0 : Array Value} {h : Heap} (hZ : Z.Warmed39 s.vm) (hml : Ls.size = c.maxLocals) {own : String} {k : Nat} {y : MethodName} {bytes : ByteArray} {maxL : Nat} {ret : Option FieldType} {rm : Room} {W : Nat} {as' : Array Value} {QY : Option Value → Heap → List Loc → Prop}
    (hown : s.vm.findClass own = some m.cls) (w1 : (Cond.methodLink own k y).before a0 Z = true) (w2 : (Cond.static y).before a0 Z = true) (w3 : (Cond.initialized y.cls).before a0 Z = true) (w4 : (Cond.code y bytes maxL ret).before a0 Z = true) (hy : y.cls ≠ "java/lang/invoke/MethodHandle" ∧ y.cls ≠ "java/lang/invoke/VarHandle")
    (hM : MetFree l y (head1 [Cond.code y bytes maxL ret] rm) (fun a U => a = as' ∧ Z.Warmed39 U.vm ∧ U.heap = h) (fun _ _ _ _ _ => True) (fun _ U o U' => ∃ v L, o = .returned v ∧ QY v U'.heap L ∧ FrameEnd U o U' L rm.cells rm.slots))
    (hf : rm.frames + 1 ≤ R.frames) (hl : W + (maxL + 11) + rm.locals ≤ R.locals) (eT : T.heap = h) {argsL rest : List Value} {sig : MethodDescriptor} (hsig : parseMethodDescriptor y.desc = some sig) (hlen : argsL.length = sig.parameters.length) (has : argsL.toArray = as') (hst : st = argsL.reverse ++ rest) (hW : (rest.map fun v => v.category).sum ≤ W)
    (hc : cells + rm.cells ≤ R.cells) (hsl : slots + rm.slots ≤ R.slots) (hd : decode code pc = .ok (.invokestatic k, 3)) (hpc : pc + 3 = pc')
    (K : ∀ v T' L, Stand p l e R s m args below meth c T' (locs ++ L) (cells + rm.cells) (slots + rm.slots) → QY v T'.heap L → Go p e below s mc ms Q m T' pc' Ls (v.toList ++ rest)) : Go p e below s mc ms Q m T pc Ls st := by
  subst hpc hst has
  obtain ⟨v, vm₁, B, -, X', ⟨L, hQ, l1, l2, l3⟩, st⟩ := Jvm.LawKit.callS X hx hown (mvT hZ w1) (mvT hZ w2) (mvT hZ w3) (mvT hZ w4) hy (backOf (W := W) hM hZ w4 w3 hf hl) (g := mkF m pc Ls (argsL.reverse ++ rest)) rfl hml (argsL := argsL) (rest := rest) (lenOf hsig hlen) rfl (by show 2 * 0 + _ ≤ _; omega) (hb hby hd) (fun _ _ => ⟨rfl, eT, hc, hsl⟩)
  rw [l1, l2, l3] at X'
  exact (K v B.U L X' hQ).of st
theorem Go.callSP (X : Stand p l e R s m args below meth c T locs cells slots) (hx : p.tables.exec = Jvm.exec) (hby : c.code = code) {Z : State} {a0 : Array Value} {h : Heap} (hZ : Z.Warmed39 s.vm) (hml : Ls.size = c.maxLocals) {own : String} {k : Nat} {y : MethodName} {bytes : ByteArray} {maxL : Nat} {ret : Option FieldType} {rm : Room} {W : Nat} {as' : Array Value} {r : Value}
    (hown : s.vm.findClass own = some m.cls) (w1 : (Cond.methodLink own k y).before a0 Z = true) (w2 : (Cond.static y).before a0 Z = true) (w3 : (Cond.initialized y.cls).before a0 Z = true) (w4 : (Cond.code y bytes maxL ret).before a0 Z = true) (hy : y.cls ≠ "java/lang/invoke/MethodHandle" ∧ y.cls ≠ "java/lang/invoke/VarHandle")
    (hM : MetFree l y (head1 [Cond.code y bytes maxL ret] rm) (fun a U => a = as' ∧ Z.Warmed39 U.vm ∧ U.heap = h) (fun _ _ _ _ _ => True) (fun _ U o U' => ∃ v L, o = .returned v ∧ PQ h (some r) v U'.heap L ∧ FrameEnd U o U' L rm.cells rm.slots))
    (hf : rm.frames + 1 ≤ R.frames) (hl : W + (maxL + 11) + rm.locals ≤ R.locals) (eT : T.heap = h) {argsL rest : List Value} {sig : MethodDescriptor} (hsig : parseMethodDescriptor y.desc = some sig) (hlen : argsL.length = sig.parameters.length) (has : argsL.toArray = as') (hst : st = argsL.reverse ++ rest) (hW : (rest.map fun v => v.category).sum ≤ W)
    (r1 : rm.cells = 0) (r2 : rm.slots = 0) (hc : cells ≤ R.cells) (hsl : slots ≤ R.slots) (hd : decode code pc = .ok (.invokestatic k, 3)) (hpc : pc + 3 = pc')
    (K : ∀ T', Stand p l e R s m args below meth c T' locs cells slots → T'.heap = h → Go p e below s mc ms Q m T' pc' Ls (r :: rest)) : Go p e below s mc ms Q m T pc Ls st := by
  refine Go.callS X hx hby hZ hml hown w1 w2 w3 w4 hy hM hf hl eT hsig hlen has hst hW (by rw [r1]; exact hc) (by rw [r2]; exact hsl) hd hpc (fun v T' L X' hQ => ?_)
  obtain ⟨rfl, rfl, e1⟩ := hQ
  rw [List.append_nil, r1, r2] at X'
  exact K T' X' e1
end Law

/-- the place j is in the list -/
abbrev inA {α : Type} (A : List α) (j : Int32) : Prop := ¬ (j < 0 ∨ A.length ≤ j.toNatClampNeg)
def atA {α : Type} [OfNat α 0] (A : List α) (j : Int32) : α := A.getD j.toNatClampNeg 0
def setA {α : Type} (A : List α) (j : Int32) (v : α) : List α := A.set j.toNatClampNeg v
def lenA {α : Type} (A : List α) : Int32 := A.length.toInt32
/-- an array of ints, bytes, chars that holds the list -/
def AryI (Z : State) (h : Heap) (a : Addr) (ty : FieldType) (A : List Int32) : Prop := ∃ (k : ClassId) (z : Int32), Arv Z h a k ty z (A.map Value.int) (.int 0) ∧ z.toNatClampNeg = A.length
def AryJ (Z : State) (h : Heap) (a : Addr) (A : List Int64) : Prop := ∃ (k : ClassId) (z : Int32), Arv Z h a k .long z (A.map Value.long) (.long 0) ∧ z.toNatClampNeg = A.length
theorem own_inK {α : Type} {A : List α} {j : Int32} {n : Nat} (hl : A.length = n) (hj : ¬ (j < 0 ∨ n ≤ j.toNatClampNeg)) : inA A j := by subst hl; exact hj
section Heaps
variable {p : Program} {l : Launch} {e : Env} {R : Room} {s : State} {m : MethodId} {args : Array Value} {below : List Frame} {meth : Method} {c : Code} {T T' : State} {locs : List Loc} {cells slots : Nat} {code : ByteArray} {Q : Option Value → Heap → List Loc → Prop} {mc ms : Nat} {pc pc' : Nat} {Ls Ls' : Array Slot} {st st' rest : List Value}
variable {Z : State} {h h' : Heap} {a b : Addr} {ty : FieldType} {A : List Int32} {J : List Int64} {sl : Nat} {v : Value} {ws : List Addr} {a0 : Array Value}
theorem AryI.lt (F : AryI Z h a ty A) : a < h.size := by obtain ⟨k, z, V, -⟩ := F; exact V.lt
theorem AryI.ext (F : AryI Z h a ty A) (E : Ext h h') : AryI Z h' a ty A := by obtain ⟨k, z, V, q⟩ := F; exact ⟨k, z, V.ext E, q⟩
theorem AryI.other (F : AryI Z h b ty A) (W : Wr h h' a sl v) (q : b ≠ a) : AryI Z h' b ty A := by obtain ⟨k, z, V, r⟩ := F; exact ⟨k, z, V.other W q, r⟩
theorem AryI.keep (F : AryI Z h a ty A) (K : Keep h h' ws) (q : a ∉ ws) : AryI Z h' a ty A := by obtain ⟨k, z, V, r⟩ := F; exact ⟨k, z, V.keep K q, r⟩
theorem AryJ.lt (F : AryJ Z h a J) : a < h.size := by obtain ⟨k, z, V, -⟩ := F; exact V.lt
theorem AryJ.ext (F : AryJ Z h a J) (E : Ext h h') : AryJ Z h' a J := by obtain ⟨k, z, V, q⟩ := F; exact ⟨k, z, V.ext E, q⟩
theorem AryJ.other (F : AryJ Z h b J) (W : Wr h h' a sl v) (q : b ≠ a) : AryJ Z h' b J := by obtain ⟨k, z, V, r⟩ := F; exact ⟨k, z, V.other W q, r⟩
theorem AryJ.keep (F : AryJ Z h a J) (K : Keep h h' ws) (q : a ∉ ws) : AryJ Z h' a J := by obtain ⟨k, z, V, r⟩ := F; exact ⟨k, z, V.keep K q, r⟩
theorem own_getI (A : List Int32) (n : Nat) : (A.map Value.int).getD n (.int 0) = .int (A.getD n 0) := by
  simp only [List.getD_eq_getElem?_getD, List.getElem?_map]; cases A[n]? <;> rfl
theorem own_getJ (A : List Int64) (n : Nat) : (A.map Value.long).getD n (.long 0) = .long (A.getD n 0) := by
  simp only [List.getD_eq_getElem?_getD, List.getElem?_map]; cases A[n]? <;> rfl
theorem own_fin {α : Type} {w r : α} {P : α → Prop} (e : some w = some r) (h : P w) : P r := Option.some.inj e ▸ h
theorem Go.baload (X : Stand p l e R s m args below meth c T locs cells slots) (hx : p.tables.exec = Jvm.exec) (hby : c.code = code) (hZ : Z.Warmed39 s.vm) (eT : T.heap = h) (F : AryI Z h a .byte A) {j : Int32} (hj : inA A j) (hd : decode code pc = .ok (.baload, 1)) (hpc : pc + 1 = pc') (K : Go p e below s mc ms Q m T pc' Ls (.int (atA A j) :: st)) : Go p e below s mc ms Q m T pc Ls (.int j :: .ref a :: st) := by
  subst hpc
  obtain ⟨k, z, ⟨cl, Ar, q1, S, q3, H, -⟩, r⟩ := F
  have hin : ¬ (j < 0 ∨ cl.slots.size ≤ j.toNatClampNeg) := by rw [S, r]; exact hj
  have hv : cl.slots[j.toNatClampNeg]? = some (.int (atA A j)) := by rw [H _ (Nat.lt_of_not_le fun y => hin (Or.inr y)), own_getI]; rfl
  exact K.of fun t kk => X.baloadBytes hx (by rw [eT]; exact Ar.1) (State.isArrayOf_alike hZ.alike Ar.2.1) Ar.2.2 hin hv (g := mkF m pc Ls (.int j :: .ref a :: st)) rfl rfl (hb hby hd) t kk
theorem Go.caload (X : Stand p l e R s m args below meth c T locs cells slots) (hx : p.tables.exec = Jvm.exec) (hby : c.code = code) (hZ : Z.Warmed39 s.vm) (eT : T.heap = h) (F : AryI Z h a .char A) {j : Int32} (hj : inA A j) (hd : decode code pc = .ok (.caload, 1)) (hpc : pc + 1 = pc') (K : Go p e below s mc ms Q m T pc' Ls (.int (atA A j) :: st)) : Go p e below s mc ms Q m T pc Ls (.int j :: .ref a :: st) := by
  subst hpc
  obtain ⟨k, z, ⟨cl, Ar, q1, S, q3, H, -⟩, r⟩ := F
  have hin : ¬ (j < 0 ∨ cl.slots.size ≤ j.toNatClampNeg) := by rw [S, r]; exact hj
  have hv : cl.slots[j.toNatClampNeg]? = some (.int (atA A j)) := by rw [H _ (Nat.lt_of_not_le fun y => hin (Or.inr y)), own_getI]; rfl
  exact K.of fun t kk => X.caload hx (by rw [eT]; exact Ar.1) (State.isArrayOf_alike hZ.alike Ar.2.1) Ar.2.2 hin hv (g := mkF m pc Ls (.int j :: .ref a :: st)) rfl rfl (hb hby hd) t kk
theorem Go.iaload (X : Stand p l e R s m args below meth c T locs cells slots) (hx : p.tables.exec = Jvm.exec) (hby : c.code = code) (hZ : Z.Warmed39 s.vm) (eT : T.heap = h) (F : AryI Z h a .int A) {j : Int32} (hj : inA A j) (hd : decode code pc = .ok (.iaload, 1)) (hpc : pc + 1 = pc') (K : Go p e below s mc ms Q m T pc' Ls (.int (atA A j) :: st)) : Go p e below s mc ms Q m T pc Ls (.int j :: .ref a :: st) := by
  subst hpc
  obtain ⟨k, z, ⟨cl, Ar, q1, S, q3, H, -⟩, r⟩ := F
  have hin : ¬ (j < 0 ∨ cl.slots.size ≤ j.toNatClampNeg) := by rw [S, r]; exact hj
  have hv : cl.slots[j.toNatClampNeg]? = some (.int (atA A j)) := by rw [H _ (Nat.lt_of_not_le fun y => hin (Or.inr y)), own_getI]; rfl
  exact K.of fun t kk => X.iaload hx (by rw [eT]; exact Ar.1) (State.isArrayOf_alike hZ.alike Ar.2.1) Ar.2.2 hin hv (g := mkF m pc Ls (.int j :: .ref a :: st)) rfl rfl (hb hby hd) t kk
theorem Go.laload (X : Stand p l e R s m args below meth c T locs cells slots) (hx : p.tables.exec = Jvm.exec) (hby : c.code = code) (hZ : Z.Warmed39 s.vm) (eT : T.heap = h) (F : AryJ Z h a J) {j : Int32} (hj : inA J j) (hd : decode code pc = .ok (.laload, 1)) (hpc : pc + 1 = pc') (K : Go p e below s mc ms Q m T pc' Ls (.long (atA J j) :: st)) : Go p e below s mc ms Q m T pc Ls (.int j :: .ref a :: st) := by
  subst hpc
  obtain ⟨k, z, ⟨cl, Ar, q1, S, q3, H, -⟩, r⟩ := F
  have hin : ¬ (j < 0 ∨ cl.slots.size ≤ j.toNatClampNeg) := by rw [S, r]; exact hj
  have hv : cl.slots[j.toNatClampNeg]? = some (.long (atA J j)) := by rw [H _ (Nat.lt_of_not_le fun y => hin (Or.inr y)), own_getJ]; rfl
  exact K.of fun t kk => X.laload hx (by rw [eT]; exact Ar.1) (State.isArrayOf_alike hZ.alike Ar.2.1) Ar.2.2 hin hv (g := mkF m pc Ls (.int j :: .ref a :: st)) rfl rfl (hb hby hd) t kk
theorem Go.alen (X : Stand p l e R s m args below meth c T locs cells slots) (hx : p.tables.exec = Jvm.exec) (hby : c.code = code) (hZ : Z.Warmed39 s.vm) (eT : T.heap = h) (F : AryI Z h a ty A) (hd : decode code pc = .ok (.arraylength, 1)) (hpc : pc + 1 = pc') (K : Go p e below s mc ms Q m T pc' Ls (.int (lenA A) :: st)) : Go p e below s mc ms Q m T pc Ls (.ref a :: st) := by
  subst hpc
  obtain ⟨k, z, ⟨cl, Ar, q1, S, q3, H, -⟩, r⟩ := F
  have e2 : cl.slots.size.toInt32 = lenA A := by rw [S, r]; rfl
  exact K.of fun t kk => X.arraylength hx (by rw [eT]; exact Ar.1) (State.isArrayOf_alike hZ.alike Ar.2.1) (g := mkF m pc Ls (.ref a :: st)) rfl rfl (hb hby hd) t (by rw [e2]; exact kk)
theorem Go.alenJ (X : Stand p l e R s m args below meth c T locs cells slots) (hx : p.tables.exec = Jvm.exec) (hby : c.code = code) (hZ : Z.Warmed39 s.vm) (eT : T.heap = h) (F : AryJ Z h a J) (hd : decode code pc = .ok (.arraylength, 1)) (hpc : pc + 1 = pc') (K : Go p e below s mc ms Q m T pc' Ls (.int (lenA J) :: st)) : Go p e below s mc ms Q m T pc Ls (.ref a :: st) := by
  subst hpc
  obtain ⟨k, z, ⟨cl, Ar, q1, S, q3, H, -⟩, r⟩ := F
  have e2 : cl.slots.size.toInt32 = lenA J := by rw [S, r]; rfl
  exact K.of fun t kk => X.arraylength hx (by rw [eT]; exact Ar.1) (State.isArrayOf_alike hZ.alike Ar.2.1) (g := mkF m pc Ls (.ref a :: st)) rfl rfl (hb hby hd) t (by rw [e2]; exact kk)
theorem Go.bastore (X : Stand p l e R s m args below meth c T locs cells slots) (hx : p.tables.exec = Jvm.exec) (hby : c.code = code) (hZ : Z.Warmed39 s.vm) (eT : T.heap = h) (F : AryI Z h a .byte A) {j x : Int32} (hj : inA A j) (hd : decode code pc = .ok (.bastore, 1)) (hpc : pc + 1 = pc') (K : ∀ T' h', Stand p l e R s m args below meth c T' (locs ++ [⟨a, j.toNatClampNeg⟩]) cells slots → T'.heap = h' → Wr h h' a j.toNatClampNeg (.int (i2bF x)) → AryI Z h' a .byte (setA A j (i2bF x)) → Go p e below s mc ms Q m T' pc' Ls st) : Go p e below s mc ms Q m T pc Ls (.int x :: .int j :: .ref a :: st) := by
  subst hpc
  obtain ⟨k, z, ⟨cl, Ar, q1, S, q3, H, H2⟩, r⟩ := F
  have hin : ¬ (j < 0 ∨ cl.slots.size ≤ j.toNatClampNeg) := by rw [S, r]; exact hj
  obtain ⟨T', h', X', e', W, stp⟩ := stB X hx hZ eT Ar hin (g := mkF m pc Ls (.int x :: .int j :: .ref a :: st)) rfl rfl (hb hby hd)
  have V := Arv.set (v := .int (i2bF x)) Ar q1 S q3 H H2 (fits_nar_byte x) W j.toNatClampNeg rfl (by rw [List.length_map]; exact Nat.lt_of_not_le fun y => hj (Or.inr y))
  exact (K T' h' X' e' W ⟨k, z, by rw [setA, List.map_set]; exact V, by rw [setA, List.length_set]; exact r⟩).of stp
theorem Go.castore (X : Stand p l e R s m args below meth c T locs cells slots) (hx : p.tables.exec = Jvm.exec) (hby : c.code = code) (hZ : Z.Warmed39 s.vm) (eT : T.heap = h) (F : AryI Z h a .char A) {j x : Int32} (hj : inA A j) (hd : decode code pc = .ok (.castore, 1)) (hpc : pc + 1 = pc') (K : ∀ T' h', Stand p l e R s m args below meth c T' (locs ++ [⟨a, j.toNatClampNeg⟩]) cells slots → T'.heap = h' → Wr h h' a j.toNatClampNeg (.int (i2cF x)) → AryI Z h' a .char (setA A j (i2cF x)) → Go p e below s mc ms Q m T' pc' Ls st) : Go p e below s mc ms Q m T pc Ls (.int x :: .int j :: .ref a :: st) := by
  subst hpc
  obtain ⟨k, z, ⟨cl, Ar, q1, S, q3, H, H2⟩, r⟩ := F
  have hin : ¬ (j < 0 ∨ cl.slots.size ≤ j.toNatClampNeg) := by rw [S, r]; exact hj
  obtain ⟨T', h', X', e', W, stp⟩ := stC X hx hZ eT Ar hin (g := mkF m pc Ls (.int x :: .int j :: .ref a :: st)) rfl rfl (hb hby hd)
  have V := Arv.set (v := .int (i2cF x)) Ar q1 S q3 H H2 (fits_nar_char x) W j.toNatClampNeg rfl (by rw [List.length_map]; exact Nat.lt_of_not_le fun y => hj (Or.inr y))
  exact (K T' h' X' e' W ⟨k, z, by rw [setA, List.map_set]; exact V, by rw [setA, List.length_set]; exact r⟩).of stp
theorem Go.iastore (X : Stand p l e R s m args below meth c T locs cells slots) (hx : p.tables.exec = Jvm.exec) (hby : c.code = code) (hZ : Z.Warmed39 s.vm) (eT : T.heap = h) (F : AryI Z h a .int A) {j x : Int32} (hj : inA A j) (hd : decode code pc = .ok (.iastore, 1)) (hpc : pc + 1 = pc') (K : ∀ T' h', Stand p l e R s m args below meth c T' (locs ++ [⟨a, j.toNatClampNeg⟩]) cells slots → T'.heap = h' → Wr h h' a j.toNatClampNeg (.int x) → AryI Z h' a .int (setA A j x) → Go p e below s mc ms Q m T' pc' Ls st) : Go p e below s mc ms Q m T pc Ls (.int x :: .int j :: .ref a :: st) := by
  subst hpc
  obtain ⟨k, z, ⟨cl, Ar, q1, S, q3, H, H2⟩, r⟩ := F
  have hin : ¬ (j < 0 ∨ cl.slots.size ≤ j.toNatClampNeg) := by rw [S, r]; exact hj
  obtain ⟨T', h', X', e', W, stp⟩ := stI X hx hZ eT Ar hin (g := mkF m pc Ls (.int x :: .int j :: .ref a :: st)) rfl rfl (hb hby hd)
  have V := Arv.set (v := .int x) Ar q1 S q3 H H2 rfl W j.toNatClampNeg rfl (by rw [List.length_map]; exact Nat.lt_of_not_le fun y => hj (Or.inr y))
  exact (K T' h' X' e' W ⟨k, z, by rw [setA, List.map_set]; exact V, by rw [setA, List.length_set]; exact r⟩).of stp
theorem Go.lastore (X : Stand p l e R s m args below meth c T locs cells slots) (hx : p.tables.exec = Jvm.exec) (hby : c.code = code) (hZ : Z.Warmed39 s.vm) (eT : T.heap = h) (F : AryJ Z h a J) {j : Int32} {x : Int64} (hj : inA J j) (hd : decode code pc = .ok (.lastore, 1)) (hpc : pc + 1 = pc') (K : ∀ T' h', Stand p l e R s m args below meth c T' (locs ++ [⟨a, j.toNatClampNeg⟩]) cells slots → T'.heap = h' → Wr h h' a j.toNatClampNeg (.long x) → AryJ Z h' a (setA J j x) → Go p e below s mc ms Q m T' pc' Ls st) : Go p e below s mc ms Q m T pc Ls (.long x :: .int j :: .ref a :: st) := by
  subst hpc
  obtain ⟨k, z, ⟨cl, Ar, q1, S, q3, H, H2⟩, r⟩ := F
  have hin : ¬ (j < 0 ∨ cl.slots.size ≤ j.toNatClampNeg) := by rw [S, r]; exact hj
  obtain ⟨T', h', X', e', W, stp⟩ := stJ X hx hZ eT Ar hin (g := mkF m pc Ls (.long x :: .int j :: .ref a :: st)) rfl rfl (hb hby hd)
  have V := Arv.set (v := .long x) Ar q1 S q3 H H2 rfl W j.toNatClampNeg rfl (by rw [List.length_map]; exact Nat.lt_of_not_le fun y => hj (Or.inr y))
  exact (K T' h' X' e' W ⟨k, z, by rw [setA, List.map_set]; exact V, by rw [setA, List.length_set]; exact r⟩).of stp
theorem Go.newA (X : Stand p l e R s m args below meth c T locs cells slots) (hx : p.tables.exec = Jvm.exec) (hby : c.code = code) (hZ : Z.Warmed39 s.vm) {nn : Nat} {n : Int32} {aty : ArrayType} (w : (Cond.arrayClass ty).before a0 Z = true) (eT : T.heap = h) (hd : decode code pc = .ok (.newarray aty, 2)) (hpc : pc + 2 = pc') (ht : newarray.typeOf aty = ty) (hv : defaultValue ty = .int 0) (hn : n.toNatClampNeg = nn) (hn0 : ¬ n < 0) (hcap : nn * 8 ≤ 536870912) (hc : cells + 1 ≤ R.cells) (hsl : slots + nn ≤ R.slots)
    (K : ∀ T' h' (a : Addr), Stand p l e R s m args below meth c T' locs (cells + 1) (slots + nn) → T'.heap = h' → Ext h h' → h.size ≤ a → AryI Z h' a ty (List.replicate nn 0) → Go p e below s mc ms Q m T' pc' Ls (.ref a :: st)) : Go p e below s mc ms Q m T pc Ls (.int n :: st) := by
  subst hpc ht
  obtain ⟨T', h', cA, X', e', E, Ar, stp⟩ := newP X hx hZ w eT (g := mkF m pc Ls (.int n :: st)) rfl (hb hby hd) rfl hn0 (cap := nn) (Nat.le_of_eq hn) hcap hc hsl
  have V := Arv.new Ar hn0
  rw [hv] at V
  have V2 := Arv.pad V (vs' := (List.replicate nn (0 : Int32)).map Value.int) (fun i => by rw [List.map_replicate]; exact pad_rep [] (.int 0) nn i)
  exact (K T' h' h.size X' e' E (Nat.le_refl _) ⟨cA, n, V2, by rw [hn, List.length_replicate]⟩).of stp
theorem Go.newAJ (X : Stand p l e R s m args below meth c T locs cells slots) (hx : p.tables.exec = Jvm.exec) (hby : c.code = code) (hZ : Z.Warmed39 s.vm) {nn : Nat} {n : Int32} (w : (Cond.arrayClass .long).before a0 Z = true) (eT : T.heap = h) (hd : decode code pc = .ok (.newarray .long, 2)) (hpc : pc + 2 = pc') (hn : n.toNatClampNeg = nn) (hn0 : ¬ n < 0) (hcap : nn * 8 ≤ 536870912) (hc : cells + 1 ≤ R.cells) (hsl : slots + nn ≤ R.slots)
    (K : ∀ T' h' (a : Addr), Stand p l e R s m args below meth c T' locs (cells + 1) (slots + nn) → T'.heap = h' → Ext h h' → h.size ≤ a → AryJ Z h' a (List.replicate nn 0) → Go p e below s mc ms Q m T' pc' Ls (.ref a :: st)) : Go p e below s mc ms Q m T pc Ls (.int n :: st) := by
  subst hpc
  obtain ⟨T', h', cA, X', e', E, Ar, stp⟩ := newP (aty := .long) X hx hZ w eT (g := mkF m pc Ls (.int n :: st)) rfl (hb hby hd) rfl hn0 (cap := nn) (Nat.le_of_eq hn) hcap hc hsl
  have V : Arv Z h' h.size cA .long n [] (.long 0) := Arv.new Ar hn0
  have V2 := Arv.pad V (vs' := (List.replicate nn (0 : Int64)).map Value.long) (fun i => by rw [List.map_replicate]; exact pad_rep [] (.long 0) nn i)
  exact (K T' h' h.size X' e' E (Nat.le_refl _) ⟨cA, n, V2, by rw [hn, List.length_replicate]⟩).of stp
theorem Go.ifnullNo (X : Stand p l e R s m args below meth c T locs cells slots) (hx : p.tables.exec = Jvm.exec) (hby : c.code = code) {o : Int} (hd : decode code pc = .ok (.ifnull o, 3)) (hpc : pc + 3 = pc') (K : Go p e below s mc ms Q m T pc' Ls st) : Go p e below s mc ms Q m T pc Ls (.ref a :: st) := by
  subst hpc; exact K.of fun _ kk => XS.ifnullNo (g := mkF m pc Ls (.ref a :: st)) X.here hx rfl (hb hby hd) rfl kk
theorem Go.acmpNe (X : Stand p l e R s m args below meth c T locs cells slots) (hx : p.tables.exec = Jvm.exec) (hby : c.code = code) {o : Int} (hd : decode code pc = .ok (.if_acmp .eq o, 3)) (hpc : pc + 3 = pc') (hne : a ≠ b) (K : Go p e below s mc ms Q m T pc' Ls st) : Go p e below s mc ms Q m T pc Ls (.ref b :: .ref a :: st) := by
  subst hpc; exact K.of fun _ kk => XT.acmpNo (g := mkF m pc Ls (.ref b :: .ref a :: st)) X.here hx rfl (hb hby hd) rfl rfl rfl (XT.aa_eq_f fun q => hne (Value.ref.inj q)) kk
theorem Go.getF (X : Stand p l e R s m args below meth c T locs cells slots) (hx : p.tables.exec = Jvm.exec) (hby : c.code = code) (hZ : Z.Warmed39 s.vm) {own O n d : String} {k : Nat} {v : Value} (hown : s.vm.findClass own = some m.cls) (w : (Cond.fieldLink own k O n d).before a0 Z = true) (eT : T.heap = h) (F : Fld Z h a O n d v) (hd : decode code pc = .ok (.getfield k, 3)) (hpc : pc + 3 = pc') (K : ∀ T', Stand p l e R s m args below meth c T' locs cells slots → T'.heap = h → Go p e below s mc ms Q m T' pc' Ls (v :: st)) : Go p e below s mc ms Q m T pc Ls (.ref a :: st) := by
  subst hpc
  obtain ⟨T', X', e', stp⟩ := getF X hx hZ hown (host := "") (Or.inl w) Via.refl eT F (g := mkF m pc Ls (.ref a :: st)) rfl rfl (hb hby hd)
  exact (K T' X' e').of stp
theorem Go.putF (X : Stand p l e R s m args below meth c T locs cells slots) (hx : p.tables.exec = Jvm.exec) (hby : c.code = code) (hZ : Z.Warmed39 s.vm) {own O n d C : String} {k kk : Nat} {ty : FieldType} {v old : Value} (hown : s.vm.findClass own = some m.cls) (w : (Cond.fieldLink own k O n d).before a0 Z = true) (eT : T.heap = h) (F : Fld Z h a O n d old) (E : Exa Z h a C) (L : (Cond.lays C O n d).before a0 Z = true ∨ ((Cond.laysFinal C O n d).before a0 Z = true ∧ own = O ∧ meth.name = "<init>")) (wi : (Cond.instantiable C kk).before a0 Z = true)
    (hty : parseFieldDescriptor d = some ty) (hn : narrow ty v = v) (hf : fits ty v = true) (hd : decode code pc = .ok (.putfield k, 3)) (hpc : pc + 3 = pc') (K : ∀ T' h', Stand p l e R s m args below meth c T' (locs ++ [⟨a, RoadKit.slotOf Z O n d⟩]) cells slots → T'.heap = h' → Wr h h' a (RoadKit.slotOf Z O n d) v → Go p e below s mc ms Q m T' pc' Ls st) : Go p e below s mc ms Q m T pc Ls (v :: .ref a :: st) := by
  subst hpc
  obtain ⟨T', h', X', e', W, stp⟩ := putF X hx hZ hown (host := "") (Or.inl w) Via.refl eT F E L wi hty hn hf (g := mkF m pc Ls (v :: .ref a :: st)) rfl rfl (hb hby hd)
  exact (K T' h' X' e' W).of stp
theorem Go.newO (X : Stand p l e R s m args below meth c T locs cells slots) (hx : p.tables.exec = Jvm.exec) (hby : c.code = code) (hZ : Z.Warmed39 s.vm) {own C : String} {k n : Nat} (hown : s.vm.findClass own = some m.cls) (w : (Cond.classLink own k C).before a0 Z = true) (wi : (Cond.instantiable C n).before a0 Z = true) (wz : (Cond.initialized C).before a0 Z = true) (eT : T.heap = h) (hd : decode code pc = .ok (.new k, 3)) (hpc : pc + 3 = pc') (hc : cells + 1 ≤ R.cells) (hsl : slots + n ≤ R.slots)
    (K : ∀ T' h' (a : Addr), Stand p l e R s m args below meth c T' locs (cells + 1) (slots + n) → T'.heap = h' → Ext h h' → h.size ≤ a → Exa Z h' a C → (∀ {O nm d : String} {ty : FieldType}, Laid Z a0 C O nm d → parseFieldDescriptor d = some ty → Fld Z h' a O nm d (defaultValue ty)) → Go p e below s mc ms Q m T' pc' Ls (.ref a :: st)) : Go p e below s mc ms Q m T pc Ls st := by
  subst hpc
  obtain ⟨T', h', X', e', E, A, D, -, stp⟩ := newO X hx hZ hown w wi wz eT (g := mkF m pc Ls st) rfl (hb hby hd) hc hsl
  exact (K T' h' h.size X' e' E (Nat.le_refl _) A D).of stp
theorem Go.callV (X : Stand p l e R s m args below meth c T locs cells slots) (hx : p.tables.exec = Jvm.exec) (hby : c.code = code) (hZ : Z.Warmed39 s.vm) (hml : Ls.size = c.maxLocals) {own : String} {k : Nat} {y : MethodName} {bytes : ByteArray} {maxL : Nat} {ret : Option FieldType} {rm : Room} {W : Nat} {as' : Array Value} {C : String} {QY : Option Value → Heap → List Loc → Prop} (hown : s.vm.findClass own = some m.cls) (w1 : (Cond.methodLink own k y).before a0 Z = true) (w2 : (Cond.declares y).before a0 Z = true) (w3 : (Cond.selects C y y).before a0 Z = true) (w4 : (Cond.instanceMethod y).before a0 Z = true) (w5 : (Cond.initialized y.cls).before a0 Z = true) (w6 : (Cond.code y bytes maxL ret).before a0 Z = true) (E : Exa Z h a C) (hy : y.cls ≠ "java/lang/invoke/MethodHandle" ∧ y.cls ≠ "java/lang/invoke/VarHandle") (hM : MetFree l y (head1 [Cond.code y bytes maxL ret] rm) (fun a U => a = as' ∧ Z.Warmed39 U.vm ∧ U.heap = h) (fun _ _ _ _ _ => True) (fun _ U o U' => ∃ v L, o = .returned v ∧ QY v U'.heap L ∧ FrameEnd U o U' L rm.cells rm.slots))
    (hf : rm.frames + 1 ≤ R.frames) (hl : W + (maxL + 11) + rm.locals ≤ R.locals) (eT : T.heap = h) {argsL rest : List Value} {sig : MethodDescriptor} (hsig : parseMethodDescriptor y.desc = some sig) (hlen : argsL.length = sig.parameters.length) (has : (Value.ref a :: argsL).toArray = as') (hst : st = argsL.reverse ++ .ref a :: rest) (hW : (rest.map fun v => v.category).sum ≤ W) (hc : cells + rm.cells ≤ R.cells) (hsl : slots + rm.slots ≤ R.slots) (hd : decode code pc = .ok (.invokevirtual k, 3)) (hpc : pc + 3 = pc')
    (K : ∀ v T' L, Stand p l e R s m args below meth c T' (locs ++ L) (cells + rm.cells) (slots + rm.slots) → QY v T'.heap L → Go p e below s mc ms Q m T' pc' Ls (v.toList ++ rest)) : Go p e below s mc ms Q m T pc Ls st := by
  subst hpc hst has
  obtain ⟨cq, kq, qa, qb, qc⟩ := isOf hZ eT E
  obtain ⟨v, vm₁, B, -, X', ⟨L, hQ, l1, l2, l3⟩, stp⟩ := X.virtualBack hx hown (mvT hZ w1) (mvT hZ w2) (notFace_of_selects (args := #[]) (mvT hZ w3)) (mvT hZ w3) (mvT hZ w4) hy (backOf (W := W) hM hZ w6 w5 hf hl) qa qc (g := mkF m pc Ls (argsL.reverse ++ .ref a :: rest)) rfl hml (Steps.refl _) (argsL := argsL) (rest := rest) (lenOf hsig hlen) rfl (by show 2 * 0 + _ ≤ _; omega) (hb hby hd) (fun _ _ => ⟨rfl, eT, hc, hsl⟩)
  rw [l1, l2, l3] at X'
  exact (K v B.U L X' hQ).of fun _ k => stp.trans k
theorem Go.callVP (X : Stand p l e R s m args below meth c T locs cells slots) (hx : p.tables.exec = Jvm.exec) (hby : c.code = code) (hZ : Z.Warmed39 s.vm) (hml : Ls.size = c.maxLocals) {own : String} {k : Nat} {y : MethodName} {bytes : ByteArray} {maxL : Nat} {ret : Option FieldType} {rm : Room} {W : Nat} {as' : Array Value} {C : String} {r : Value} (hown : s.vm.findClass own = some m.cls) (w1 : (Cond.methodLink own k y).before a0 Z = true) (w2 : (Cond.declares y).before a0 Z = true) (w3 : (Cond.selects C y y).before a0 Z = true) (w4 : (Cond.instanceMethod y).before a0 Z = true) (w5 : (Cond.initialized y.cls).before a0 Z = true) (w6 : (Cond.code y bytes maxL ret).before a0 Z = true) (E : Exa Z h a C) (hy : y.cls ≠ "java/lang/invoke/MethodHandle" ∧ y.cls ≠ "java/lang/invoke/VarHandle") (hM : MetFree l y (head1 [Cond.code y bytes maxL ret] rm) (fun a U => a = as' ∧ Z.Warmed39 U.vm ∧ U.heap = h) (fun _ _ _ _ _ => True) (fun _ U o U' => ∃ v L, o = .returned v ∧ PQ h (some r) v U'.heap L ∧ FrameEnd U o U' L rm.cells rm.slots))
    (hf : rm.frames + 1 ≤ R.frames) (hl : W + (maxL + 11) + rm.locals ≤ R.locals) (eT : T.heap = h) {argsL rest : List Value} {sig : MethodDescriptor} (hsig : parseMethodDescriptor y.desc = some sig) (hlen : argsL.length = sig.parameters.length) (has : (Value.ref a :: argsL).toArray = as') (hst : st = argsL.reverse ++ .ref a :: rest) (hW : (rest.map fun v => v.category).sum ≤ W) (r1 : rm.cells = 0) (r2 : rm.slots = 0) (hc : cells ≤ R.cells) (hsl : slots ≤ R.slots) (hd : decode code pc = .ok (.invokevirtual k, 3)) (hpc : pc + 3 = pc')
    (K : ∀ T', Stand p l e R s m args below meth c T' locs cells slots → T'.heap = h → Go p e below s mc ms Q m T' pc' Ls (r :: rest)) : Go p e below s mc ms Q m T pc Ls st := by
  refine Go.callV X hx hby hZ hml hown w1 w2 w3 w4 w5 w6 E hy hM hf hl eT hsig hlen has hst hW (by rw [r1]; exact hc) (by rw [r2]; exact hsl) hd hpc (fun v T' L X' hQ => ?_)
  obtain ⟨rfl, rfl, e1⟩ := hQ
  rw [List.append_nil, r1, r2] at X'
  exact K T' X' e1
theorem Go.callC (X : Stand p l e R s m args below meth c T locs cells slots) (hx : p.tables.exec = Jvm.exec) (hby : c.code = code) (hZ : Z.Warmed39 s.vm) (hml : Ls.size = c.maxLocals) {own : String} {k : Nat} {y : MethodName} {bytes : ByteArray} {maxL : Nat} {rm : Room} {W : Nat} {as' : Array Value} {QY : Option Value → Heap → List Loc → Prop} (hown : s.vm.findClass own = some m.cls) (w1 : (Cond.methodLink own k y).before a0 Z = true) (w4 : (Cond.instanceMethod y).before a0 Z = true) (w5 : (Cond.initialized y.cls).before a0 Z = true) (w6 : (Cond.code y bytes maxL none).before a0 Z = true) (hy : y.cls ≠ "java/lang/invoke/MethodHandle" ∧ y.cls ≠ "java/lang/invoke/VarHandle") (hi : y.name = "<init>") (hM : MetFree l y (head1 [Cond.code y bytes maxL none] rm) (fun a U => a = as' ∧ Z.Warmed39 U.vm ∧ U.heap = h) (fun _ _ _ _ _ => True) (fun _ U o U' => ∃ v L, o = .returned v ∧ QY v U'.heap L ∧ FrameEnd U o U' L rm.cells rm.slots))
    (hf : rm.frames + 1 ≤ R.frames) (hl : W + (maxL + 11) + rm.locals ≤ R.locals) (eT : T.heap = h) {argsL rest : List Value} {sig : MethodDescriptor} (hsig : parseMethodDescriptor y.desc = some sig) (hlen : argsL.length = sig.parameters.length) (has : (Value.ref a :: argsL).toArray = as') (hst : st = argsL.reverse ++ .ref a :: rest) (hW : (rest.map fun v => v.category).sum ≤ W) (hc : cells + rm.cells ≤ R.cells) (hsl : slots + rm.slots ≤ R.slots) (hd : decode code pc = .ok (.invokespecial k, 3)) (hpc : pc + 3 = pc')
    (K : ∀ v T' L, Stand p l e R s m args below meth c T' (locs ++ L) (cells + rm.cells) (slots + rm.slots) → QY v T'.heap L → Go p e below s mc ms Q m T' pc' Ls (v.toList ++ rest)) : Go p e below s mc ms Q m T pc Ls st := by
  subst hpc hst has
  obtain ⟨v, vm₁, B, -, X', ⟨L, hQ, l1, l2, l3⟩, stp⟩ := X.specialBack hx hi hown (mvT hZ w1) (mvT hZ w4) (mvT hZ w6) hy (backOf (W := W) hM hZ w6 w5 hf hl) (g := mkF m pc Ls (argsL.reverse ++ .ref a :: rest)) rfl hml (Steps.refl _) (argsL := argsL) (rest := rest) (lenOf hsig hlen) rfl (by show 2 * 0 + _ ≤ _; omega) (hb hby hd) (fun _ _ => ⟨rfl, eT, hc, hsl⟩)
  rw [l1, l2, l3] at X'
  exact (K v B.U L X' hQ).of fun _ k => stp.trans k
end Heaps

-- body 1
def f1_0 (x0 : Int32) : Option (Int32) := if (x0 &&& (65536 : Int32)) = 0 then some (i2cF (i2cF (x0 &&& (65535 : Int32)))) else if (x0 &&& (3 : Int32)) = 0 then some (i2cF (32 : Int32)) else if (x0 &&& (3 : Int32)) = (1 : Int32) then some (i2cF (9 : Int32)) else if (x0 &&& (3 : Int32)) = (2 : Int32) then some (i2cF (10 : Int32)) else some (i2cF (13 : Int32))
theorem d1_0 : decode method_2_code 0 = .ok (.iload_n 0, 1) := by decide +kernel
theorem d1_1 : decode method_2_code 1 = .ok (.ldc 7, 2) := by decide +kernel
theorem d1_3 : decode method_2_code 3 = .ok (.iand, 1) := by decide +kernel
theorem d1_4 : decode method_2_code 4 = .ok (.ifCond .eq 33, 3) := by decide +kernel
theorem d1_7 : decode method_2_code 7 = .ok (.iload_n 0, 1) := by decide +kernel
theorem d1_8 : decode method_2_code 8 = .ok (.iconst 3, 1) := by decide +kernel
theorem d1_9 : decode method_2_code 9 = .ok (.iand, 1) := by decide +kernel
theorem d1_10 : decode method_2_code 10 = .ok (.istore_n 1, 1) := by decide +kernel
theorem d1_11 : decode method_2_code 11 = .ok (.iload_n 1, 1) := by decide +kernel
theorem d1_12 : decode method_2_code 12 = .ok (.ifCond .ne 6, 3) := by decide +kernel
theorem d1_15 : decode method_2_code 15 = .ok (.bipush 32, 2) := by decide +kernel
theorem d1_17 : decode method_2_code 17 = .ok (.ireturn, 1) := by decide +kernel
theorem d1_18 : decode method_2_code 18 = .ok (.iload_n 1, 1) := by decide +kernel
theorem d1_19 : decode method_2_code 19 = .ok (.iconst 1, 1) := by decide +kernel
theorem d1_20 : decode method_2_code 20 = .ok (.if_icmp .ne 6, 3) := by decide +kernel
theorem d1_23 : decode method_2_code 23 = .ok (.bipush 9, 2) := by decide +kernel
theorem d1_25 : decode method_2_code 25 = .ok (.ireturn, 1) := by decide +kernel
theorem d1_26 : decode method_2_code 26 = .ok (.iload_n 1, 1) := by decide +kernel
theorem d1_27 : decode method_2_code 27 = .ok (.iconst 2, 1) := by decide +kernel
theorem d1_28 : decode method_2_code 28 = .ok (.if_icmp .ne 6, 3) := by decide +kernel
theorem d1_31 : decode method_2_code 31 = .ok (.bipush 10, 2) := by decide +kernel
theorem d1_33 : decode method_2_code 33 = .ok (.ireturn, 1) := by decide +kernel
theorem d1_34 : decode method_2_code 34 = .ok (.bipush 13, 2) := by decide +kernel
theorem d1_36 : decode method_2_code 36 = .ok (.ireturn, 1) := by decide +kernel
theorem d1_37 : decode method_2_code 37 = .ok (.iload_n 0, 1) := by decide +kernel
theorem d1_38 : decode method_2_code 38 = .ok (.ldc 8, 2) := by decide +kernel
theorem d1_40 : decode method_2_code 40 = .ok (.iand, 1) := by decide +kernel
theorem d1_41 : decode method_2_code 41 = .ok (.i2c, 1) := by decide +kernel
theorem d1_42 : decode method_2_code 42 = .ok (.ireturn, 1) := by decide +kernel
abbrev Y1 : MethodName := ⟨"com/example/sleyreed/sleyreed/serialize/SerializerIsWhitespacePinLaw", "draw", "(I)C"⟩
def RM1 : Room := { frames := 0, cells := 0, slots := 0, locals := 0 }
theorem pd_1 : parseMethodDescriptor Y1.desc = some ⟨[.int], some .char⟩ := by decide +kernel
theorem pn_1 : plainName "com/example/sleyreed/sleyreed/serialize/SerializerIsWhitespacePinLaw" = true := by first | (simp [plainName, overriddenIn]; done) | decide +kernel
theorem ef_1 (m : MethodId) (x0 : Int32) : entryFrame m #[.int x0] 2 = mkF m 0 #[.val (.int x0), .unset] [] := by first | (simp [entryFrame, mkF, argsToLocals, Value.category]; done) | rfl
set_option maxRecDepth 65536 in
set_option maxHeartbeats 40000000 in
theorem rm1 (l : Launch) (Z : State) (a0 : Array Value) (hw : ∀ d ∈ tables_1, d.before a0 Z = true) (x0 : Int32)  (h0 : Heap) (r : Int32) (hf : f1_0 x0 = some r)  :
    MetFree l Y1 (head1 ([Jvm.Cond.code Y1 method_2_code 2 (some .char)]) RM1) (fun a U => a = #[.int x0] ∧ Z.Warmed39 U.vm ∧ U.heap = h0) (fun _ _ _ _ _ => True) (fun _ U o U' => ∃ v L, o = .returned v ∧ (PQ h0 (some (.int r))) v U'.heap L ∧ FrameEnd U o U' L RM1.cells RM1.slots) := by
  refine MetFree.of_bodySF (plainFor_of_name pn_1) hisR ?_
  intro p e s m args below meth c s₁ Bd hml0 hP hK
  obtain ⟨rfl, hZ, hh⟩ := hP
  have hx := Bd.exec
  have hby := Bd.bytes
  have hlk : meth.locks = false := BodyLoose.notSynchronized Bd
  have hret := Bd.returns
  have hml : c.maxLocals = 2 := hml0
  have hown : s.vm.findClass "com/example/sleyreed/sleyreed/serialize/SerializerIsWhitespacePinLaw" = some m.cls := findClass_of_methodNamed Bd.named
  have X0 : Stand p l e RM1 s m #[.int x0] below meth c s₁ [] 0 0 := Stand.of_body Bd
  have e0 : s₁.heap = h0 := by rw [← hh, Bd.state]; rfl
  suffices G : Go p e below s RM1.cells RM1.slots (PQ h0 (some (.int r))) m s₁ 0 #[.val (.int x0), .unset] [] by
    obtain ⟨s₂, o, h1, h2⟩ := G
    exact ⟨s₂, o, castTop (ef_1 m x0) h1, h2⟩
  have hf0 := hf
  clear hf
  have hf := hf0
  unfold f1_0 at hf
  refine Go.iloadN X0 hx hby (v := x0) d1_0 rfl rfl ?_
  refine Go.ldcI X0 hx hby hZ (v := (65536 : Int32)) hown (hw _ (List.mem_of_getElem? (i := 5) rfl)) d1_1 rfl ?_
  refine Go.iand X0 hx hby d1_3 rfl ?_
  refine Go.if_eq X0 hx hby (pc' := 37) d1_4 (by decide) (by decide) rfl (fun hc5 => ?_) (fun hc5 => ?_)
  · replace hf := (if_pos hc5).symm.trans hf
    refine Go.iloadN X0 hx hby (v := x0) d1_37 rfl rfl ?_
    refine Go.ldcI X0 hx hby hZ (v := (65535 : Int32)) hown (hw _ (List.mem_of_getElem? (i := 6) rfl)) d1_38 rfl ?_
    refine Go.iand X0 hx hby d1_40 rfl ?_
    refine Go.i2c X0 hx hby d1_41 rfl ?_
    exact Go.iretN X0 hx hby hlk hret (Or.inr (Or.inr (Or.inl rfl))) (w' := (i2cF (i2cF (x0 &&& (65535 : Int32))))) rfl d1_42 (by decide) (by decide) ⟨congrArg (fun z => some (Value.int z)) (Option.some.inj hf), rfl, e0⟩
  · replace hf := (if_neg hc5).symm.trans hf
    refine Go.iloadN X0 hx hby (v := x0) d1_7 rfl rfl ?_
    refine Go.iconst X0 hx hby (v := (3 : Int32)) d1_8 rfl rfl ?_
    refine Go.iand X0 hx hby d1_9 rfl ?_
    refine Go.istoreN X0 hx hby (Ls' := #[.val (.int x0), .val (.int (x0 &&& (3 : Int32)))]) d1_10 rfl rfl ?_
    refine Go.iloadN X0 hx hby (v := (x0 &&& (3 : Int32))) d1_11 rfl rfl ?_
    refine Go.if_ne X0 hx hby (pc' := 18) d1_12 (by decide) (by decide) rfl (fun hc6 => ?_) (fun hc6 => ?_)
    · replace hf := (if_neg hc6).symm.trans hf
      refine Go.iloadN X0 hx hby (v := (x0 &&& (3 : Int32))) d1_18 rfl rfl ?_
      refine Go.iconst X0 hx hby (v := (1 : Int32)) d1_19 rfl rfl ?_
      refine Go.icmp_ne X0 hx hby (pc' := 26) d1_20 (by decide) (by decide) rfl (fun hc7 => ?_) (fun hc7 => ?_)
      · replace hf := (if_neg hc7).symm.trans hf
        refine Go.iloadN X0 hx hby (v := (x0 &&& (3 : Int32))) d1_26 rfl rfl ?_
        refine Go.iconst X0 hx hby (v := (2 : Int32)) d1_27 rfl rfl ?_
        refine Go.icmp_ne X0 hx hby (pc' := 34) d1_28 (by decide) (by decide) rfl (fun hc8 => ?_) (fun hc8 => ?_)
        · replace hf := (if_neg hc8).symm.trans hf
          refine Go.bipush X0 hx hby (v := (13 : Int32)) d1_34 rfl rfl ?_
          exact Go.iretN X0 hx hby hlk hret (Or.inr (Or.inr (Or.inl rfl))) (w' := (i2cF (13 : Int32))) rfl d1_36 (by decide) (by decide) ⟨congrArg (fun z => some (Value.int z)) (Option.some.inj hf), rfl, e0⟩
        · replace hf := (if_pos hc8).symm.trans hf
          refine Go.bipush X0 hx hby (v := (10 : Int32)) d1_31 rfl rfl ?_
          exact Go.iretN X0 hx hby hlk hret (Or.inr (Or.inr (Or.inl rfl))) (w' := (i2cF (10 : Int32))) rfl d1_33 (by decide) (by decide) ⟨congrArg (fun z => some (Value.int z)) (Option.some.inj hf), rfl, e0⟩
      · replace hf := (if_pos hc7).symm.trans hf
        refine Go.bipush X0 hx hby (v := (9 : Int32)) d1_23 rfl rfl ?_
        exact Go.iretN X0 hx hby hlk hret (Or.inr (Or.inr (Or.inl rfl))) (w' := (i2cF (9 : Int32))) rfl d1_25 (by decide) (by decide) ⟨congrArg (fun z => some (Value.int z)) (Option.some.inj hf), rfl, e0⟩
    · replace hf := (if_pos hc6).symm.trans hf
      refine Go.bipush X0 hx hby (v := (32 : Int32)) d1_15 rfl rfl ?_
      exact Go.iretN X0 hx hby hlk hret (Or.inr (Or.inr (Or.inl rfl))) (w' := (i2cF (32 : Int32))) rfl d1_17 (by decide) (by decide) ⟨congrArg (fun z => some (Value.int z)) (Option.some.inj hf), rfl, e0⟩
-- body 2
def f2_0 (x0 : Int32) (x1 : Int32) (x2 : Int32) : Option (Int32) := if x0 < x1 then some (0 : Int32) else if x0 < (x1 + x2) then some (1 : Int32) else some (0 : Int32)
theorem d2_0 : decode method_4_code 0 = .ok (.iload_n 1, 1) := by decide +kernel
theorem d2_1 : decode method_4_code 1 = .ok (.iload_n 0, 1) := by decide +kernel
theorem d2_2 : decode method_4_code 2 = .ok (.if_icmp .gt 14, 3) := by decide +kernel
theorem d2_5 : decode method_4_code 5 = .ok (.iload_n 0, 1) := by decide +kernel
theorem d2_6 : decode method_4_code 6 = .ok (.iload_n 1, 1) := by decide +kernel
theorem d2_7 : decode method_4_code 7 = .ok (.iload_n 2, 1) := by decide +kernel
theorem d2_8 : decode method_4_code 8 = .ok (.iadd, 1) := by decide +kernel
theorem d2_9 : decode method_4_code 9 = .ok (.if_icmp .ge 7, 3) := by decide +kernel
theorem d2_12 : decode method_4_code 12 = .ok (.iconst 1, 1) := by decide +kernel
theorem d2_13 : decode method_4_code 13 = .ok (.goto 4, 3) := by decide +kernel
theorem d2_16 : decode method_4_code 16 = .ok (.iconst 0, 1) := by decide +kernel
theorem d2_17 : decode method_4_code 17 = .ok (.ireturn, 1) := by decide +kernel
abbrev Y2 : MethodName := ⟨"com/example/sleyreed/sleyreed/serialize/SerializerIsWhitespacePinLaw", "inside", "(III)Z"⟩
def RM2 : Room := { frames := 0, cells := 0, slots := 0, locals := 0 }
theorem pd_2 : parseMethodDescriptor Y2.desc = some ⟨[.int, .int, .int], some .boolean⟩ := by decide +kernel
theorem pn_2 : plainName "com/example/sleyreed/sleyreed/serialize/SerializerIsWhitespacePinLaw" = true := by first | (simp [plainName, overriddenIn]; done) | decide +kernel
theorem ef_2 (m : MethodId) (x0 : Int32) (x1 : Int32) (x2 : Int32) : entryFrame m #[.int x0, .int x1, .int x2] 3 = mkF m 0 #[.val (.int x0), .val (.int x1), .val (.int x2)] [] := by first | (simp [entryFrame, mkF, argsToLocals, Value.category]; done) | rfl
set_option maxRecDepth 65536 in
set_option maxHeartbeats 40000000 in
theorem rm2 (l : Launch) (Z : State) (a0 : Array Value) (hw : ∀ d ∈ tables_1, d.before a0 Z = true) (x0 : Int32) (x1 : Int32) (x2 : Int32)  (h0 : Heap) (r : Int32) (hf : f2_0 x0 x1 x2 = some r)  :
    MetFree l Y2 (head1 ([Jvm.Cond.code Y2 method_4_code 3 (some .boolean)]) RM2) (fun a U => a = #[.int x0, .int x1, .int x2] ∧ Z.Warmed39 U.vm ∧ U.heap = h0) (fun _ _ _ _ _ => True) (fun _ U o U' => ∃ v L, o = .returned v ∧ (PQ h0 (some (.int r))) v U'.heap L ∧ FrameEnd U o U' L RM2.cells RM2.slots) := by
  refine MetFree.of_bodySF (plainFor_of_name pn_2) hisR ?_
  intro p e s m args below meth c s₁ Bd hml0 hP hK
  obtain ⟨rfl, hZ, hh⟩ := hP
  have hx := Bd.exec
  have hby := Bd.bytes
  have hlk : meth.locks = false := BodyLoose.notSynchronized Bd
  have hret := Bd.returns
  have hml : c.maxLocals = 3 := hml0
  have hown : s.vm.findClass "com/example/sleyreed/sleyreed/serialize/SerializerIsWhitespacePinLaw" = some m.cls := findClass_of_methodNamed Bd.named
  have X0 : Stand p l e RM2 s m #[.int x0, .int x1, .int x2] below meth c s₁ [] 0 0 := Stand.of_body Bd
  have e0 : s₁.heap = h0 := by rw [← hh, Bd.state]; rfl
  suffices G : Go p e below s RM2.cells RM2.slots (PQ h0 (some (.int r))) m s₁ 0 #[.val (.int x0), .val (.int x1), .val (.int x2)] [] by
    obtain ⟨s₂, o, h1, h2⟩ := G
    exact ⟨s₂, o, castTop (ef_2 m x0 x1 x2) h1, h2⟩
  have hf0 := hf
  clear hf
  have hf := hf0
  unfold f2_0 at hf
  refine Go.iloadN X0 hx hby (v := x1) d2_0 rfl rfl ?_
  refine Go.iloadN X0 hx hby (v := x0) d2_1 rfl rfl ?_
  refine Go.icmp_gt X0 hx hby (pc' := 16) d2_2 (by decide) (by decide) rfl (fun hc11 => ?_) (fun hc11 => ?_)
  · replace hf := (if_pos hc11).symm.trans hf
    refine Go.iconst X0 hx hby (v := (0 : Int32)) d2_16 rfl rfl ?_
    exact Go.iretN X0 hx hby hlk hret (Or.inl rfl) (w' := (0 : Int32)) rfl d2_17 (by decide) (by decide) ⟨congrArg (fun z => some (Value.int z)) (Option.some.inj hf), rfl, e0⟩
  · replace hf := (if_neg hc11).symm.trans hf
    refine Go.iloadN X0 hx hby (v := x0) d2_5 rfl rfl ?_
    refine Go.iloadN X0 hx hby (v := x1) d2_6 rfl rfl ?_
    refine Go.iloadN X0 hx hby (v := x2) d2_7 rfl rfl ?_
    refine Go.iadd X0 hx hby d2_8 rfl ?_
    refine Go.icmp_ge X0 hx hby (pc' := 16) d2_9 (by decide) (by decide) rfl (fun hc12 => ?_) (fun hc12 => ?_)
    · replace hf := (if_neg hc12).symm.trans hf
      refine Go.iconst X0 hx hby (v := (0 : Int32)) d2_16 rfl rfl ?_
      exact Go.iretN X0 hx hby hlk hret (Or.inl rfl) (w' := (0 : Int32)) rfl d2_17 (by decide) (by decide) ⟨congrArg (fun z => some (Value.int z)) (Option.some.inj hf), rfl, e0⟩
    · replace hf := (if_pos hc12).symm.trans hf
      refine Go.iconst X0 hx hby (v := (1 : Int32)) d2_12 rfl rfl ?_
      refine Go.goto X0 hx hby (pc' := 17) d2_13 (by decide) (by decide) ?_
      exact Go.iretN X0 hx hby hlk hret (Or.inl rfl) (w' := (1 : Int32)) rfl d2_17 (by decide) (by decide) ⟨congrArg (fun z => some (Value.int z)) (Option.some.inj hf), rfl, e0⟩
-- body 4
def f4_0 (x0 : Int32) : Option (Int32) := if x0 = (32 : Int32) then some (1 : Int32) else if x0 = (9 : Int32) then some (1 : Int32) else if x0 = (10 : Int32) then some (1 : Int32) else if x0 = (13 : Int32) then some (1 : Int32) else some (0 : Int32)
theorem d4_0 : decode method_3_code 0 = .ok (.iload_n 0, 1) := by decide +kernel
theorem d4_1 : decode method_3_code 1 = .ok (.bipush 32, 2) := by decide +kernel
theorem d4_3 : decode method_3_code 3 = .ok (.if_icmp .eq 21, 3) := by decide +kernel
theorem d4_6 : decode method_3_code 6 = .ok (.iload_n 0, 1) := by decide +kernel
theorem d4_7 : decode method_3_code 7 = .ok (.bipush 9, 2) := by decide +kernel
theorem d4_9 : decode method_3_code 9 = .ok (.if_icmp .eq 15, 3) := by decide +kernel
theorem d4_12 : decode method_3_code 12 = .ok (.iload_n 0, 1) := by decide +kernel
theorem d4_13 : decode method_3_code 13 = .ok (.bipush 10, 2) := by decide +kernel
theorem d4_15 : decode method_3_code 15 = .ok (.if_icmp .eq 9, 3) := by decide +kernel
theorem d4_18 : decode method_3_code 18 = .ok (.iload_n 0, 1) := by decide +kernel
theorem d4_19 : decode method_3_code 19 = .ok (.bipush 13, 2) := by decide +kernel
theorem d4_21 : decode method_3_code 21 = .ok (.if_icmp .ne 7, 3) := by decide +kernel
theorem d4_24 : decode method_3_code 24 = .ok (.iconst 1, 1) := by decide +kernel
theorem d4_25 : decode method_3_code 25 = .ok (.goto 4, 3) := by decide +kernel
theorem d4_28 : decode method_3_code 28 = .ok (.iconst 0, 1) := by decide +kernel
theorem d4_29 : decode method_3_code 29 = .ok (.ireturn, 1) := by decide +kernel
abbrev Y4 : MethodName := ⟨"com/example/sleyreed/sleyreed/serialize/SerializerIsWhitespacePinLaw", "ws", "(C)Z"⟩
def RM4 : Room := { frames := 0, cells := 0, slots := 0, locals := 0 }
theorem pd_4 : parseMethodDescriptor Y4.desc = some ⟨[.char], some .boolean⟩ := by decide +kernel
theorem pn_4 : plainName "com/example/sleyreed/sleyreed/serialize/SerializerIsWhitespacePinLaw" = true := by first | (simp [plainName, overriddenIn]; done) | decide +kernel
theorem ef_4 (m : MethodId) (x0 : Int32) : entryFrame m #[.int x0] 1 = mkF m 0 #[.val (.int x0)] [] := by first | (simp [entryFrame, mkF, argsToLocals, Value.category]; done) | rfl
set_option maxRecDepth 65536 in
set_option maxHeartbeats 40000000 in
theorem rm4 (l : Launch) (Z : State) (a0 : Array Value) (hw : ∀ d ∈ tables_1, d.before a0 Z = true) (x0 : Int32)  (h0 : Heap) (r : Int32) (hf : f4_0 x0 = some r)  :
    MetFree l Y4 (head1 ([Jvm.Cond.code Y4 method_3_code 1 (some .boolean)]) RM4) (fun a U => a = #[.int x0] ∧ Z.Warmed39 U.vm ∧ U.heap = h0) (fun _ _ _ _ _ => True) (fun _ U o U' => ∃ v L, o = .returned v ∧ (PQ h0 (some (.int r))) v U'.heap L ∧ FrameEnd U o U' L RM4.cells RM4.slots) := by
  refine MetFree.of_bodySF (plainFor_of_name pn_4) hisR ?_
  intro p e s m args below meth c s₁ Bd hml0 hP hK
  obtain ⟨rfl, hZ, hh⟩ := hP
  have hx := Bd.exec
  have hby := Bd.bytes
  have hlk : meth.locks = false := BodyLoose.notSynchronized Bd
  have hret := Bd.returns
  have hml : c.maxLocals = 1 := hml0
  have hown : s.vm.findClass "com/example/sleyreed/sleyreed/serialize/SerializerIsWhitespacePinLaw" = some m.cls := findClass_of_methodNamed Bd.named
  have X0 : Stand p l e RM4 s m #[.int x0] below meth c s₁ [] 0 0 := Stand.of_body Bd
  have e0 : s₁.heap = h0 := by rw [← hh, Bd.state]; rfl
  suffices G : Go p e below s RM4.cells RM4.slots (PQ h0 (some (.int r))) m s₁ 0 #[.val (.int x0)] [] by
    obtain ⟨s₂, o, h1, h2⟩ := G
    exact ⟨s₂, o, castTop (ef_4 m x0) h1, h2⟩
  have hf0 := hf
  clear hf
  have hf := hf0
  unfold f4_0 at hf
  refine Go.iloadN X0 hx hby (v := x0) d4_0 rfl rfl ?_
  refine Go.bipush X0 hx hby (v := (32 : Int32)) d4_1 rfl rfl ?_
  refine Go.icmp_eq X0 hx hby (pc' := 24) d4_3 (by decide) (by decide) rfl (fun hc17 => ?_) (fun hc17 => ?_)
  · replace hf := (if_pos hc17).symm.trans hf
    refine Go.iconst X0 hx hby (v := (1 : Int32)) d4_24 rfl rfl ?_
    refine Go.goto X0 hx hby (pc' := 29) d4_25 (by decide) (by decide) ?_
    exact Go.iretN X0 hx hby hlk hret (Or.inl rfl) (w' := (1 : Int32)) rfl d4_29 (by decide) (by decide) ⟨congrArg (fun z => some (Value.int z)) (Option.some.inj hf), rfl, e0⟩
  · replace hf := (if_neg hc17).symm.trans hf
    refine Go.iloadN X0 hx hby (v := x0) d4_6 rfl rfl ?_
    refine Go.bipush X0 hx hby (v := (9 : Int32)) d4_7 rfl rfl ?_
    refine Go.icmp_eq X0 hx hby (pc' := 24) d4_9 (by decide) (by decide) rfl (fun hc18 => ?_) (fun hc18 => ?_)
    · replace hf := (if_pos hc18).symm.trans hf
      refine Go.iconst X0 hx hby (v := (1 : Int32)) d4_24 rfl rfl ?_
      refine Go.goto X0 hx hby (pc' := 29) d4_25 (by decide) (by decide) ?_
      exact Go.iretN X0 hx hby hlk hret (Or.inl rfl) (w' := (1 : Int32)) rfl d4_29 (by decide) (by decide) ⟨congrArg (fun z => some (Value.int z)) (Option.some.inj hf), rfl, e0⟩
    · replace hf := (if_neg hc18).symm.trans hf
      refine Go.iloadN X0 hx hby (v := x0) d4_12 rfl rfl ?_
      refine Go.bipush X0 hx hby (v := (10 : Int32)) d4_13 rfl rfl ?_
      refine Go.icmp_eq X0 hx hby (pc' := 24) d4_15 (by decide) (by decide) rfl (fun hc19 => ?_) (fun hc19 => ?_)
      · replace hf := (if_pos hc19).symm.trans hf
        refine Go.iconst X0 hx hby (v := (1 : Int32)) d4_24 rfl rfl ?_
        refine Go.goto X0 hx hby (pc' := 29) d4_25 (by decide) (by decide) ?_
        exact Go.iretN X0 hx hby hlk hret (Or.inl rfl) (w' := (1 : Int32)) rfl d4_29 (by decide) (by decide) ⟨congrArg (fun z => some (Value.int z)) (Option.some.inj hf), rfl, e0⟩
      · replace hf := (if_neg hc19).symm.trans hf
        refine Go.iloadN X0 hx hby (v := x0) d4_18 rfl rfl ?_
        refine Go.bipush X0 hx hby (v := (13 : Int32)) d4_19 rfl rfl ?_
        refine Go.icmp_ne X0 hx hby (pc' := 28) d4_21 (by decide) (by decide) rfl (fun hc20 => ?_) (fun hc20 => ?_)
        · replace hf := (if_neg hc20).symm.trans hf
          refine Go.iconst X0 hx hby (v := (0 : Int32)) d4_28 rfl rfl ?_
          exact Go.iretN X0 hx hby hlk hret (Or.inl rfl) (w' := (0 : Int32)) rfl d4_29 (by decide) (by decide) ⟨congrArg (fun z => some (Value.int z)) (Option.some.inj hf), rfl, e0⟩
        · replace hf := (if_pos hc20).symm.trans hf
          refine Go.iconst X0 hx hby (v := (1 : Int32)) d4_24 rfl rfl ?_
          refine Go.goto X0 hx hby (pc' := 29) d4_25 (by decide) (by decide) ?_
          exact Go.iretN X0 hx hby hlk hret (Or.inl rfl) (w' := (1 : Int32)) rfl d4_29 (by decide) (by decide) ⟨congrArg (fun z => some (Value.int z)) (Option.some.inj hf), rfl, e0⟩
-- body 3
def f3_44 (k : Int32 → Int32 → Int32 → List Int32 → Option (Int32)) (x1 : Int32) (x2 : Int32) (x3 : Int32) (G_bb : List Int32) : Option (Int32) := k x1 x2 (x3 + (1 : Int32)) G_bb
def f3_2 : Nat → Int32 → Int32 → Int32 → List Int32 → Option (Int32)
  | 0, _, _, _, _ => none
  | n + 1, x1, x2, x3, G_bb => if x3 < (x1 + x2) then if inA G_bb x3 then if (atA G_bb x3) = (32 : Int32) then f3_44 (fun y0 y1 y2 y3 => f3_2 n y0 y1 y2 y3) x1 x2 x3 G_bb else if (atA G_bb x3) = (9 : Int32) then f3_44 (fun y0 y1 y2 y3 => f3_2 n y0 y1 y2 y3) x1 x2 x3 G_bb else if (atA G_bb x3) = (10 : Int32) then f3_44 (fun y0 y1 y2 y3 => f3_2 n y0 y1 y2 y3) x1 x2 x3 G_bb else if (atA G_bb x3) = (13 : Int32) then f3_44 (fun y0 y1 y2 y3 => f3_2 n y0 y1 y2 y3) x1 x2 x3 G_bb else some (0 : Int32) else none else some (1 : Int32)
def f3_0 (x1 : Int32) (x2 : Int32) (G_bb : List Int32) : Option (Int32) := f3_2 64 x1 x2 x1 G_bb
theorem d3_0 : decode prog_65_method_4_code 0 = .ok (.iload_n 1, 1) := by decide +kernel
theorem d3_1 : decode prog_65_method_4_code 1 = .ok (.istore_n 3, 1) := by decide +kernel
theorem d3_2 : decode prog_65_method_4_code 2 = .ok (.iload_n 3, 1) := by decide +kernel
theorem d3_3 : decode prog_65_method_4_code 3 = .ok (.iload_n 1, 1) := by decide +kernel
theorem d3_4 : decode prog_65_method_4_code 4 = .ok (.iload_n 2, 1) := by decide +kernel
theorem d3_5 : decode prog_65_method_4_code 5 = .ok (.iadd, 1) := by decide +kernel
theorem d3_6 : decode prog_65_method_4_code 6 = .ok (.if_icmp .ge 44, 3) := by decide +kernel
theorem d3_9 : decode prog_65_method_4_code 9 = .ok (.aload_n 0, 1) := by decide +kernel
theorem d3_10 : decode prog_65_method_4_code 10 = .ok (.iload_n 3, 1) := by decide +kernel
theorem d3_11 : decode prog_65_method_4_code 11 = .ok (.caload, 1) := by decide +kernel
theorem d3_12 : decode prog_65_method_4_code 12 = .ok (.istore 4, 2) := by decide +kernel
theorem d3_14 : decode prog_65_method_4_code 14 = .ok (.iload 4, 2) := by decide +kernel
theorem d3_16 : decode prog_65_method_4_code 16 = .ok (.bipush 32, 2) := by decide +kernel
theorem d3_18 : decode prog_65_method_4_code 18 = .ok (.if_icmp .eq 26, 3) := by decide +kernel
theorem d3_21 : decode prog_65_method_4_code 21 = .ok (.iload 4, 2) := by decide +kernel
theorem d3_23 : decode prog_65_method_4_code 23 = .ok (.bipush 9, 2) := by decide +kernel
theorem d3_25 : decode prog_65_method_4_code 25 = .ok (.if_icmp .eq 19, 3) := by decide +kernel
theorem d3_28 : decode prog_65_method_4_code 28 = .ok (.iload 4, 2) := by decide +kernel
theorem d3_30 : decode prog_65_method_4_code 30 = .ok (.bipush 10, 2) := by decide +kernel
theorem d3_32 : decode prog_65_method_4_code 32 = .ok (.if_icmp .eq 12, 3) := by decide +kernel
theorem d3_35 : decode prog_65_method_4_code 35 = .ok (.iload 4, 2) := by decide +kernel
theorem d3_37 : decode prog_65_method_4_code 37 = .ok (.bipush 13, 2) := by decide +kernel
theorem d3_39 : decode prog_65_method_4_code 39 = .ok (.if_icmp .eq 5, 3) := by decide +kernel
theorem d3_42 : decode prog_65_method_4_code 42 = .ok (.iconst 0, 1) := by decide +kernel
theorem d3_43 : decode prog_65_method_4_code 43 = .ok (.ireturn, 1) := by decide +kernel
theorem d3_44 : decode prog_65_method_4_code 44 = .ok (.iinc 3 1, 3) := by decide +kernel
theorem d3_47 : decode prog_65_method_4_code 47 = .ok (.goto (-45), 3) := by decide +kernel
theorem d3_50 : decode prog_65_method_4_code 50 = .ok (.iconst 1, 1) := by decide +kernel
theorem d3_51 : decode prog_65_method_4_code 51 = .ok (.ireturn, 1) := by decide +kernel
abbrev Y3 : MethodName := ⟨"com/example/sleyreed/sleyreed/serialize/Serializer", "isWhitespace", "([CII)Z"⟩
def RM3 : Room := { frames := 0, cells := 0, slots := 0, locals := 0 }
theorem pd_3 : parseMethodDescriptor Y3.desc = some ⟨[(.array .char), .int, .int], some .boolean⟩ := by decide +kernel
theorem pn_3 : plainName "com/example/sleyreed/sleyreed/serialize/Serializer" = true := by first | (simp [plainName, overriddenIn]; done) | decide +kernel
theorem ef_3 (m : MethodId) (bb : Addr) (x1 : Int32) (x2 : Int32) : entryFrame m #[.ref bb, .int x1, .int x2] 5 = mkF m 0 #[.val (.ref bb), .val (.int x1), .val (.int x2), .unset, .unset] [] := by first | (simp [entryFrame, mkF, argsToLocals, Value.category]; done) | rfl
set_option maxRecDepth 65536 in
set_option maxHeartbeats 40000000 in
theorem rm3 (l : Launch) (Z : State) (a0 : Array Value) (hw : ∀ d ∈ tables_1, d.before a0 Z = true) (bb : Addr) (x1 : Int32) (x2 : Int32) (G_bb : List Int32) (h0 : Heap) (r : Int32) (hf : f3_0 x1 x2 G_bb = some r) (F_bb : AryI Z h0 bb .char G_bb) :
    MetFree l Y3 (head1 ([Jvm.Cond.code Y3 prog_65_method_4_code 5 (some .boolean)]) RM3) (fun a U => a = #[.ref bb, .int x1, .int x2] ∧ Z.Warmed39 U.vm ∧ U.heap = h0) (fun _ _ _ _ _ => True) (fun _ U o U' => ∃ v L, o = .returned v ∧ (PQ h0 (some (.int r))) v U'.heap L ∧ FrameEnd U o U' L RM3.cells RM3.slots) := by
  refine MetFree.of_bodySF (plainFor_of_name pn_3) hisR ?_
  intro p e s m args below meth c s₁ Bd hml0 hP hK
  obtain ⟨rfl, hZ, hh⟩ := hP
  have hx := Bd.exec
  have hby := Bd.bytes
  have hlk : meth.locks = false := BodyLoose.notSynchronized Bd
  have hret := Bd.returns
  have hml : c.maxLocals = 5 := hml0
  have hown : s.vm.findClass "com/example/sleyreed/sleyreed/serialize/Serializer" = some m.cls := findClass_of_methodNamed Bd.named
  have X0 : Stand p l e RM3 s m #[.ref bb, .int x1, .int x2] below meth c s₁ [] 0 0 := Stand.of_body Bd
  have e0 : s₁.heap = h0 := by rw [← hh, Bd.state]; rfl
  suffices G : Go p e below s RM3.cells RM3.slots (PQ h0 (some (.int r))) m s₁ 0 #[.val (.ref bb), .val (.int x1), .val (.int x2), .unset, .unset] [] by
    obtain ⟨s₂, o, h1, h2⟩ := G
    exact ⟨s₂, o, castTop (ef_3 m bb x1 x2) h1, h2⟩
  have hf0 := hf
  clear hf
  have B44 : ∀ k : Int32 → Int32 → Int32 → List Int32 → Option (Int32), (∀ (T : State), Stand p l e RM3 s m #[.ref bb, .int x1, .int x2] below meth c T [] 0 0 → T.heap = h0 → ∀ (x1 : Int32) (x2 : Int32) (x3 : Int32) (u4 : Slot) (hu4 : u4 = .unset ∨ ∃ w, u4 = .val w ∧ w.category = 1), k x1 x2 x3 G_bb = some r → Go p e below s RM3.cells RM3.slots (PQ h0 (some (.int r))) m T 2 #[.val (.ref bb), .val (.int x1), .val (.int x2), .val (.int x3), u4] []) → (∀ (T : State), Stand p l e RM3 s m #[.ref bb, .int x1, .int x2] below meth c T [] 0 0 → T.heap = h0 → ∀ (x1 : Int32) (x2 : Int32) (x3 : Int32) (x4 : Int32), f3_44 k x1 x2 x3 G_bb = some r → Go p e below s RM3.cells RM3.slots (PQ h0 (some (.int r))) m T 44 #[.val (.ref bb), .val (.int x1), .val (.int x2), .val (.int x3), .val (.int x4)] []) := by
    intro k hk T27 X27 e27 x1 x2 x3 x4 hf
    unfold f3_44 at hf
    refine Go.iinc X27 hx hby (x := x3) (v := (1 : Int32)) (Ls' := #[.val (.ref bb), .val (.int x1), .val (.int x2), .val (.int (x3 + (1 : Int32))), .val (.int x4)]) d3_44 rfl rfl rfl rfl ?_
    refine Go.goto X27 hx hby (pc' := 2) d3_47 (by decide) (by decide) ?_
    exact hk T27 X27 e27 x1 x2 (x3 + (1 : Int32)) (.val (.int x4)) (Or.inr ⟨_, rfl, rfl⟩) hf
  have B2 : ∀ n : Nat, ∀ (T : State), Stand p l e RM3 s m #[.ref bb, .int x1, .int x2] below meth c T [] 0 0 → T.heap = h0 → ∀ (x1 : Int32) (x2 : Int32) (x3 : Int32) (u4 : Slot) (hu4 : u4 = .unset ∨ ∃ w, u4 = .val w ∧ w.category = 1), f3_2 n x1 x2 x3 G_bb = some r → Go p e below s RM3.cells RM3.slots (PQ h0 (some (.int r))) m T 2 #[.val (.ref bb), .val (.int x1), .val (.int x2), .val (.int x3), u4] [] := by
    intro n
    induction n with
    | zero => intro T28 X28 e28 x1 x2 x3 u4 hu4 hf; exact absurd (show none = some r from hf) nofun
    | succ n ih =>
      intro T28 X28 e28 x1 x2 x3 u4 hu4 hf
      rw [f3_2] at hf
      refine Go.iloadN X28 hx hby (v := x3) d3_2 rfl rfl ?_
      refine Go.iloadN X28 hx hby (v := x1) d3_3 rfl rfl ?_
      refine Go.iloadN X28 hx hby (v := x2) d3_4 rfl rfl ?_
      refine Go.iadd X28 hx hby d3_5 rfl ?_
      refine Go.icmp_ge X28 hx hby (pc' := 50) d3_6 (by decide) (by decide) rfl (fun hc29 => ?_) (fun hc29 => ?_)
      · replace hf := (if_neg hc29).symm.trans hf
        refine Go.iconst X28 hx hby (v := (1 : Int32)) d3_50 rfl rfl ?_
        exact Go.iretN X28 hx hby hlk hret (Or.inl rfl) (w' := (1 : Int32)) rfl d3_51 (by decide) (by decide) ⟨congrArg (fun z => some (Value.int z)) (Option.some.inj hf), rfl, e28⟩
      · replace hf := (if_pos hc29).symm.trans hf
        refine Go.aloadN X28 hx hby (v := .ref bb) d3_9 rfl rfl rfl ?_
        refine Go.iloadN X28 hx hby (v := x3) d3_10 rfl rfl ?_
        rcases Decidable.em (inA G_bb x3) with hj30 | hj30
        case inr => exact absurd ((if_neg hj30).symm.trans hf) nofun
        replace hf := (if_pos hj30).symm.trans hf
        refine Go.caload X28 hx hby hZ e28 F_bb hj30 d3_11 rfl ?_
        refine Go.istore X28 hx hby (Ls' := #[.val (.ref bb), .val (.int x1), .val (.int x2), .val (.int x3), .val (.int (atA G_bb x3))]) d3_12 rfl (XS.store1 rfl hu4 rfl) ?_
        refine Go.iload X28 hx hby (v := (atA G_bb x3)) d3_14 rfl rfl ?_
        refine Go.bipush X28 hx hby (v := (32 : Int32)) d3_16 rfl rfl ?_
        refine Go.icmp_eq X28 hx hby (pc' := 44) d3_18 (by decide) (by decide) rfl (fun hc31 => ?_) (fun hc31 => ?_)
        · replace hf := (if_pos hc31).symm.trans hf
          exact B44 _ ih T28 X28 e28 x1 x2 x3 (atA G_bb x3) hf
        · replace hf := (if_neg hc31).symm.trans hf
          refine Go.iload X28 hx hby (v := (atA G_bb x3)) d3_21 rfl rfl ?_
          refine Go.bipush X28 hx hby (v := (9 : Int32)) d3_23 rfl rfl ?_
          refine Go.icmp_eq X28 hx hby (pc' := 44) d3_25 (by decide) (by decide) rfl (fun hc32 => ?_) (fun hc32 => ?_)
          · replace hf := (if_pos hc32).symm.trans hf
            exact B44 _ ih T28 X28 e28 x1 x2 x3 (atA G_bb x3) hf
          · replace hf := (if_neg hc32).symm.trans hf
            refine Go.iload X28 hx hby (v := (atA G_bb x3)) d3_28 rfl rfl ?_
            refine Go.bipush X28 hx hby (v := (10 : Int32)) d3_30 rfl rfl ?_
            refine Go.icmp_eq X28 hx hby (pc' := 44) d3_32 (by decide) (by decide) rfl (fun hc33 => ?_) (fun hc33 => ?_)
            · replace hf := (if_pos hc33).symm.trans hf
              exact B44 _ ih T28 X28 e28 x1 x2 x3 (atA G_bb x3) hf
            · replace hf := (if_neg hc33).symm.trans hf
              refine Go.iload X28 hx hby (v := (atA G_bb x3)) d3_35 rfl rfl ?_
              refine Go.bipush X28 hx hby (v := (13 : Int32)) d3_37 rfl rfl ?_
              refine Go.icmp_eq X28 hx hby (pc' := 44) d3_39 (by decide) (by decide) rfl (fun hc34 => ?_) (fun hc34 => ?_)
              · replace hf := (if_pos hc34).symm.trans hf
                exact B44 _ ih T28 X28 e28 x1 x2 x3 (atA G_bb x3) hf
              · replace hf := (if_neg hc34).symm.trans hf
                refine Go.iconst X28 hx hby (v := (0 : Int32)) d3_42 rfl rfl ?_
                exact Go.iretN X28 hx hby hlk hret (Or.inl rfl) (w' := (0 : Int32)) rfl d3_43 (by decide) (by decide) ⟨congrArg (fun z => some (Value.int z)) (Option.some.inj hf), rfl, e28⟩
  have hf := hf0
  unfold f3_0 at hf
  refine Go.iloadN X0 hx hby (v := x1) d3_0 rfl rfl ?_
  refine Go.istoreN X0 hx hby (Ls' := #[.val (.ref bb), .val (.int x1), .val (.int x2), .val (.int x1), .unset]) d3_1 rfl rfl ?_
  exact B2 _ s₁ X0 e0 x1 x2 x1 .unset (Or.inl rfl) hf
-- body 0
def f0_149 (x6 : Int32) (x7 : Int32) (t0 : Int32) (G_bb : List Int32) : Option (Int32) := (f3_0 x6 x7 G_bb).bind fun r35 => if r35 = t0 then some (1 : Int32) else some (0 : Int32)
def f0_144 (x6 : Int32) (x7 : Int32) (G_bb : List Int32) : Option (Int32) := f0_149 x6 x7 (1 : Int32) G_bb
def f0_148 (x6 : Int32) (x7 : Int32) (G_bb : List Int32) : Option (Int32) := f0_149 x6 x7 (0 : Int32) G_bb
def f0_123 (x6 : Int32) (x7 : Int32) (G_bb : List Int32) : Option (Int32) := (f2_0 (3 : Int32) x6 x7).bind fun r37 => if r37 = 0 then f0_144 x6 x7 G_bb else if inA G_bb (3 : Int32) then (f4_0 (atA G_bb (3 : Int32))).bind fun r40 => if r40 = 0 then f0_148 x6 x7 G_bb else f0_144 x6 x7 G_bb else none
def f0_102 (x6 : Int32) (x7 : Int32) (G_bb : List Int32) : Option (Int32) := (f2_0 (2 : Int32) x6 x7).bind fun r42 => if r42 = 0 then f0_123 x6 x7 G_bb else if inA G_bb (2 : Int32) then (f4_0 (atA G_bb (2 : Int32))).bind fun r45 => if r45 = 0 then f0_148 x6 x7 G_bb else f0_123 x6 x7 G_bb else none
def f0_81 (x6 : Int32) (x7 : Int32) (G_bb : List Int32) : Option (Int32) := (f2_0 (1 : Int32) x6 x7).bind fun r47 => if r47 = 0 then f0_102 x6 x7 G_bb else if inA G_bb (1 : Int32) then (f4_0 (atA G_bb (1 : Int32))).bind fun r50 => if r50 = 0 then f0_148 x6 x7 G_bb else f0_102 x6 x7 G_bb else none
def f0_0 (x0 : Int32) (x1 : Int32) (x2 : Int32) (x3 : Int32) (x4 : Int32) : Option (Int32) := (f1_0 x0).bind fun r53 => (f1_0 x1).bind fun r56 => (f1_0 x2).bind fun r59 => (f1_0 x3).bind fun r62 => if ((5 : Int32) - (remI (x4 &&& (7 : Int32)) (5 : Int32))) = 0 then none else (f2_0 (0 : Int32) (remI (x4 &&& (7 : Int32)) (5 : Int32)) (remI ((XT.ushr x4 (3 : Int32)) &&& (7 : Int32)) ((5 : Int32) - (remI (x4 &&& (7 : Int32)) (5 : Int32))))).bind fun r66 => if r66 = 0 then f0_81 (remI (x4 &&& (7 : Int32)) (5 : Int32)) (remI ((XT.ushr x4 (3 : Int32)) &&& (7 : Int32)) ((5 : Int32) - (remI (x4 &&& (7 : Int32)) (5 : Int32)))) ([(i2cF r53), (i2cF r56), (i2cF r59), (i2cF r62)] : List Int32) else (f4_0 (atA ([(i2cF r53), (i2cF r56), (i2cF r59), (i2cF r62)] : List Int32) (0 : Int32))).bind fun r69 => if r69 = 0 then f0_148 (remI (x4 &&& (7 : Int32)) (5 : Int32)) (remI ((XT.ushr x4 (3 : Int32)) &&& (7 : Int32)) ((5 : Int32) - (remI (x4 &&& (7 : Int32)) (5 : Int32)))) ([(i2cF r53), (i2cF r56), (i2cF r59), (i2cF r62)] : List Int32) else f0_81 (remI (x4 &&& (7 : Int32)) (5 : Int32)) (remI ((XT.ushr x4 (3 : Int32)) &&& (7 : Int32)) ((5 : Int32) - (remI (x4 &&& (7 : Int32)) (5 : Int32)))) ([(i2cF r53), (i2cF r56), (i2cF r59), (i2cF r62)] : List Int32)
theorem pn_0 : plainName "com/example/sleyreed/sleyreed/serialize/SerializerIsWhitespacePinLaw" = true := by first | (simp [plainName, overriddenIn]; done) | decide +kernel
theorem ef_0 (m : MethodId) (x0 : Int32) (x1 : Int32) (x2 : Int32) (x3 : Int32) (x4 : Int32) : entryFrame m #[.int x0, .int x1, .int x2, .int x3, .int x4] maxLocals = mkF m 0 #[.val (.int x0), .val (.int x1), .val (.int x2), .val (.int x3), .val (.int x4), .unset, .unset, .unset, .unset] [] := by first | (simp [entryFrame, mkF, argsToLocals, Value.category, maxLocals]; done) | rfl
set_option maxRecDepth 65536 in
set_option maxHeartbeats 40000000 in
theorem rm0 (l : Launch) (Z : State) (a0 : Array Value) (hw : ∀ d ∈ tables_1, d.before a0 Z = true) (ws : List Jvm.Cond) (x0 : Int32) (x1 : Int32) (x2 : Int32) (x3 : Int32) (x4 : Int32)  (h0 : Heap) (n0 : Nat) (Z0 : n0 ≤ h0.size) (r : Int32) (hf : f0_0 x0 x1 x2 x3 x4 = some r)  :
    MetFree l x (head1 (Jvm.Cond.code x code maxLocals ret :: ws) room_1) (fun a U => a = #[.int x0, .int x1, .int x2, .int x3, .int x4] ∧ Z.Warmed39 U.vm ∧ U.heap = h0) (fun _ _ _ _ _ => True) (fun _ U o U' => ∃ v L, o = .returned v ∧ (fun v h L => v = some (.int r) ∧ Fr n0 L) v U'.heap L ∧ FrameEnd U o U' L room_1.cells room_1.slots) := by
  refine MetFree.of_bodySF (plainFor_of_name pn_0) hisR ?_
  intro p e s m args below meth c s₁ Bd hml0 hP hK
  obtain ⟨rfl, hZ, hh⟩ := hP
  have hx := Bd.exec
  have hby := Bd.bytes
  have hlk : meth.locks = false := BodyLoose.notSynchronized Bd
  have hret := Bd.returns
  have hml : c.maxLocals = 9 := hml0
  have hown : s.vm.findClass "com/example/sleyreed/sleyreed/serialize/SerializerIsWhitespacePinLaw" = some m.cls := findClass_of_methodNamed Bd.named
  have X0 : Stand p l e room_1 s m #[.int x0, .int x1, .int x2, .int x3, .int x4] below meth c s₁ [] 0 0 := Stand.of_body Bd
  have e0 : s₁.heap = h0 := by rw [← hh, Bd.state]; rfl
  have N0 := Fr.nil n0
  have K0 := Keep.refl h0 []
  suffices G : Go p e below s room_1.cells room_1.slots (fun v h L => v = some (.int r) ∧ Fr n0 L) m s₁ 0 #[.val (.int x0), .val (.int x1), .val (.int x2), .val (.int x3), .val (.int x4), .unset, .unset, .unset, .unset] [] by
    obtain ⟨s₂, o, h1, h2⟩ := G
    exact ⟨s₂, o, castTop (ef_0 m x0 x1 x2 x3 x4) h1, h2⟩
  have hf0 := hf
  clear hf
  have B149 : ∀ (T : State) (h : Heap) (locs : List Loc), Stand p l e room_1 s m #[.int x0, .int x1, .int x2, .int x3, .int x4] below meth c T locs 1 4 → T.heap = h → Fr n0 locs → Keep h0 h [] → ∀ (bb : Addr), h0.size ≤ bb → ∀ (G_bb : List Int32), AryI Z h bb .char G_bb → ∀ (x0 : Int32) (x1 : Int32) (x2 : Int32) (x3 : Int32) (x4 : Int32) (x6 : Int32) (x7 : Int32) (t0 : Int32), f0_149 x6 x7 t0 G_bb = some r → Go p e below s room_1.cells room_1.slots (fun v h L => v = some (.int r) ∧ Fr n0 L) m T 149 #[.val (.int x0), .val (.int x1), .val (.int x2), .val (.int x3), .val (.int x4), .val (.ref bb), .val (.int x6), .val (.int x7), .unset] [.int t0] := by
    intro T71 h71 _ X71 e71 N71 K71 bb na_bb G_bb F71_bb x0 x1 x2 x3 x4 x6 x7 t0 hf
    unfold f0_149 at hf
    refine Go.istore X71 hx hby (Ls' := #[.val (.int x0), .val (.int x1), .val (.int x2), .val (.int x3), .val (.int x4), .val (.ref bb), .val (.int x6), .val (.int x7), .val (.int t0)]) at_149 rfl rfl ?_
    refine Go.aload X71 hx hby (v := .ref bb) at_151 rfl rfl rfl ?_
    refine Go.iload X71 hx hby (v := x6) at_153 rfl rfl ?_
    refine Go.iload X71 hx hby (v := x7) at_155 rfl rfl ?_
    obtain ⟨r72, g72, hf⟩ := Option.bind_eq_some_iff.mp hf
    refine Go.callSP X71 hx hby hZ (by rw [hml]; rfl) (W := 0) (argsL := [.ref bb, .int x6, .int x7]) (rest := []) hown (hw _ (List.mem_of_getElem? (i := 10) rfl)) (hw _ (List.mem_of_getElem? (i := 11) rfl)) (hw _ (List.mem_of_getElem? (i := 12) rfl)) (hw _ (List.mem_of_getElem? (i := 13) rfl)) (by decide) (rm3 l Z a0 hw bb x6 x7 G_bb h71 r72 g72 F71_bb) (by decide) (by decide) e71 pd_3 rfl rfl rfl (Nat.le_of_eq rfl) rfl rfl (by decide) (by decide) at_157 rfl (fun T72 X72 e72 => ?_)
    refine Go.iload X72 hx hby (v := t0) at_160 rfl rfl ?_
    refine Go.icmp_ne X72 hx hby (pc' := 169) at_162 (by decide) (by decide) rfl (fun hc73 => ?_) (fun hc73 => ?_)
    · replace hf := (if_neg hc73).symm.trans hf
      refine Go.iconst X72 hx hby (v := (0 : Int32)) at_169 rfl rfl ?_
      exact Go.iretN X72 hx hby hlk hret (Or.inl rfl) (w' := (0 : Int32)) rfl at_170 (by decide) (by decide) ⟨congrArg (fun z => some (Value.int z)) (Option.some.inj hf), N71⟩
    · replace hf := (if_pos hc73).symm.trans hf
      refine Go.iconst X72 hx hby (v := (1 : Int32)) at_165 rfl rfl ?_
      refine Go.goto X72 hx hby (pc' := 170) at_166 (by decide) (by decide) ?_
      exact Go.iretN X72 hx hby hlk hret (Or.inl rfl) (w' := (1 : Int32)) rfl at_170 (by decide) (by decide) ⟨congrArg (fun z => some (Value.int z)) (Option.some.inj hf), N71⟩
  have B144 : ∀ (T : State) (h : Heap) (locs : List Loc), Stand p l e room_1 s m #[.int x0, .int x1, .int x2, .int x3, .int x4] below meth c T locs 1 4 → T.heap = h → Fr n0 locs → Keep h0 h [] → ∀ (bb : Addr), h0.size ≤ bb → ∀ (G_bb : List Int32), AryI Z h bb .char G_bb → ∀ (x0 : Int32) (x1 : Int32) (x2 : Int32) (x3 : Int32) (x4 : Int32) (x6 : Int32) (x7 : Int32), f0_144 x6 x7 G_bb = some r → Go p e below s room_1.cells room_1.slots (fun v h L => v = some (.int r) ∧ Fr n0 L) m T 144 #[.val (.int x0), .val (.int x1), .val (.int x2), .val (.int x3), .val (.int x4), .val (.ref bb), .val (.int x6), .val (.int x7), .unset] [] := by
    intro T74 h74 _ X74 e74 N74 K74 bb na_bb G_bb F74_bb x0 x1 x2 x3 x4 x6 x7 hf
    unfold f0_144 at hf
    refine Go.iconst X74 hx hby (v := (1 : Int32)) at_144 rfl rfl ?_
    refine Go.goto X74 hx hby (pc' := 149) at_145 (by decide) (by decide) ?_
    exact B149 T74 h74 _ X74 e74 N74 K74 bb na_bb  G_bb F74_bb x0 x1 x2 x3 x4 x6 x7 (1 : Int32) hf
  have B148 : ∀ (T : State) (h : Heap) (locs : List Loc), Stand p l e room_1 s m #[.int x0, .int x1, .int x2, .int x3, .int x4] below meth c T locs 1 4 → T.heap = h → Fr n0 locs → Keep h0 h [] → ∀ (bb : Addr), h0.size ≤ bb → ∀ (G_bb : List Int32), AryI Z h bb .char G_bb → ∀ (x0 : Int32) (x1 : Int32) (x2 : Int32) (x3 : Int32) (x4 : Int32) (x6 : Int32) (x7 : Int32), f0_148 x6 x7 G_bb = some r → Go p e below s room_1.cells room_1.slots (fun v h L => v = some (.int r) ∧ Fr n0 L) m T 148 #[.val (.int x0), .val (.int x1), .val (.int x2), .val (.int x3), .val (.int x4), .val (.ref bb), .val (.int x6), .val (.int x7), .unset] [] := by
    intro T75 h75 _ X75 e75 N75 K75 bb na_bb G_bb F75_bb x0 x1 x2 x3 x4 x6 x7 hf
    unfold f0_148 at hf
    refine Go.iconst X75 hx hby (v := (0 : Int32)) at_148 rfl rfl ?_
    exact B149 T75 h75 _ X75 e75 N75 K75 bb na_bb  G_bb F75_bb x0 x1 x2 x3 x4 x6 x7 (0 : Int32) hf
  have B123 : ∀ (T : State) (h : Heap) (locs : List Loc), Stand p l e room_1 s m #[.int x0, .int x1, .int x2, .int x3, .int x4] below meth c T locs 1 4 → T.heap = h → Fr n0 locs → Keep h0 h [] → ∀ (bb : Addr), h0.size ≤ bb → ∀ (G_bb : List Int32), AryI Z h bb .char G_bb → ∀ (x0 : Int32) (x1 : Int32) (x2 : Int32) (x3 : Int32) (x4 : Int32) (x6 : Int32) (x7 : Int32), f0_123 x6 x7 G_bb = some r → Go p e below s room_1.cells room_1.slots (fun v h L => v = some (.int r) ∧ Fr n0 L) m T 123 #[.val (.int x0), .val (.int x1), .val (.int x2), .val (.int x3), .val (.int x4), .val (.ref bb), .val (.int x6), .val (.int x7), .unset] [] := by
    intro T76 h76 _ X76 e76 N76 K76 bb na_bb G_bb F76_bb x0 x1 x2 x3 x4 x6 x7 hf
    unfold f0_123 at hf
    refine Go.iconst X76 hx hby (v := (3 : Int32)) at_123 rfl rfl ?_
    refine Go.iload X76 hx hby (v := x6) at_124 rfl rfl ?_
    refine Go.iload X76 hx hby (v := x7) at_126 rfl rfl ?_
    obtain ⟨r77, g77, hf⟩ := Option.bind_eq_some_iff.mp hf
    refine Go.callSP X76 hx hby hZ (by rw [hml]; rfl) (W := 0) (argsL := [.int (3 : Int32), .int x6, .int x7]) (rest := []) hown (hw _ (List.mem_of_getElem? (i := 7) rfl)) (hw _ (List.mem_of_getElem? (i := 8) rfl)) (hw _ (List.mem_of_getElem? (i := 3) rfl)) (hw _ (List.mem_of_getElem? (i := 9) rfl)) (by decide) (rm2 l Z a0 hw (3 : Int32) x6 x7  h76 r77 g77 ) (by decide) (by decide) e76 pd_2 rfl rfl rfl (Nat.le_of_eq rfl) rfl rfl (by decide) (by decide) at_128 rfl (fun T77 X77 e77 => ?_)
    refine Go.if_eq X77 hx hby (pc' := 144) at_131 (by decide) (by decide) rfl (fun hc78 => ?_) (fun hc78 => ?_)
    · replace hf := (if_pos hc78).symm.trans hf
      exact B144 T77 h76 _ X77 e77 N76 K76 bb na_bb  G_bb F76_bb x0 x1 x2 x3 x4 x6 x7 hf
    · replace hf := (if_neg hc78).symm.trans hf
      refine Go.aload X77 hx hby (v := .ref bb) at_134 rfl rfl rfl ?_
      refine Go.iconst X77 hx hby (v := (3 : Int32)) at_136 rfl rfl ?_
      rcases Decidable.em (inA G_bb (3 : Int32)) with hj79 | hj79
      case inr => exact absurd ((if_neg hj79).symm.trans hf) nofun
      replace hf := (if_pos hj79).symm.trans hf
      refine Go.caload X77 hx hby hZ e77 F76_bb hj79 at_137 rfl ?_
      obtain ⟨r80, g80, hf⟩ := Option.bind_eq_some_iff.mp hf
      refine Go.callSP X77 hx hby hZ (by rw [hml]; rfl) (W := 0) (argsL := [.int (atA G_bb (3 : Int32))]) (rest := []) hown (hw _ (List.mem_of_getElem? (i := 14) rfl)) (hw _ (List.mem_of_getElem? (i := 15) rfl)) (hw _ (List.mem_of_getElem? (i := 3) rfl)) (hw _ (List.mem_of_getElem? (i := 16) rfl)) (by decide) (rm4 l Z a0 hw (atA G_bb (3 : Int32))  h76 r80 g80 ) (by decide) (by decide) e77 pd_4 rfl rfl rfl (Nat.le_of_eq rfl) rfl rfl (by decide) (by decide) at_138 rfl (fun T80 X80 e80 => ?_)
      refine Go.if_eq X80 hx hby (pc' := 148) at_141 (by decide) (by decide) rfl (fun hc81 => ?_) (fun hc81 => ?_)
      · replace hf := (if_pos hc81).symm.trans hf
        exact B148 T80 h76 _ X80 e80 N76 K76 bb na_bb  G_bb F76_bb x0 x1 x2 x3 x4 x6 x7 hf
      · replace hf := (if_neg hc81).symm.trans hf
        exact B144 T80 h76 _ X80 e80 N76 K76 bb na_bb  G_bb F76_bb x0 x1 x2 x3 x4 x6 x7 hf
  have B102 : ∀ (T : State) (h : Heap) (locs : List Loc), Stand p l e room_1 s m #[.int x0, .int x1, .int x2, .int x3, .int x4] below meth c T locs 1 4 → T.heap = h → Fr n0 locs → Keep h0 h [] → ∀ (bb : Addr), h0.size ≤ bb → ∀ (G_bb : List Int32), AryI Z h bb .char G_bb → ∀ (x0 : Int32) (x1 : Int32) (x2 : Int32) (x3 : Int32) (x4 : Int32) (x6 : Int32) (x7 : Int32), f0_102 x6 x7 G_bb = some r → Go p e below s room_1.cells room_1.slots (fun v h L => v = some (.int r) ∧ Fr n0 L) m T 102 #[.val (.int x0), .val (.int x1), .val (.int x2), .val (.int x3), .val (.int x4), .val (.ref bb), .val (.int x6), .val (.int x7), .unset] [] := by
    intro T82 h82 _ X82 e82 N82 K82 bb na_bb G_bb F82_bb x0 x1 x2 x3 x4 x6 x7 hf
    unfold f0_102 at hf
    refine Go.iconst X82 hx hby (v := (2 : Int32)) at_102 rfl rfl ?_
    refine Go.iload X82 hx hby (v := x6) at_103 rfl rfl ?_
    refine Go.iload X82 hx hby (v := x7) at_105 rfl rfl ?_
    obtain ⟨r83, g83, hf⟩ := Option.bind_eq_some_iff.mp hf
    refine Go.callSP X82 hx hby hZ (by rw [hml]; rfl) (W := 0) (argsL := [.int (2 : Int32), .int x6, .int x7]) (rest := []) hown (hw _ (List.mem_of_getElem? (i := 7) rfl)) (hw _ (List.mem_of_getElem? (i := 8) rfl)) (hw _ (List.mem_of_getElem? (i := 3) rfl)) (hw _ (List.mem_of_getElem? (i := 9) rfl)) (by decide) (rm2 l Z a0 hw (2 : Int32) x6 x7  h82 r83 g83 ) (by decide) (by decide) e82 pd_2 rfl rfl rfl (Nat.le_of_eq rfl) rfl rfl (by decide) (by decide) at_107 rfl (fun T83 X83 e83 => ?_)
    refine Go.if_eq X83 hx hby (pc' := 123) at_110 (by decide) (by decide) rfl (fun hc84 => ?_) (fun hc84 => ?_)
    · replace hf := (if_pos hc84).symm.trans hf
      exact B123 T83 h82 _ X83 e83 N82 K82 bb na_bb  G_bb F82_bb x0 x1 x2 x3 x4 x6 x7 hf
    · replace hf := (if_neg hc84).symm.trans hf
      refine Go.aload X83 hx hby (v := .ref bb) at_113 rfl rfl rfl ?_
      refine Go.iconst X83 hx hby (v := (2 : Int32)) at_115 rfl rfl ?_
      rcases Decidable.em (inA G_bb (2 : Int32)) with hj85 | hj85
      case inr => exact absurd ((if_neg hj85).symm.trans hf) nofun
      replace hf := (if_pos hj85).symm.trans hf
      refine Go.caload X83 hx hby hZ e83 F82_bb hj85 at_116 rfl ?_
      obtain ⟨r86, g86, hf⟩ := Option.bind_eq_some_iff.mp hf
      refine Go.callSP X83 hx hby hZ (by rw [hml]; rfl) (W := 0) (argsL := [.int (atA G_bb (2 : Int32))]) (rest := []) hown (hw _ (List.mem_of_getElem? (i := 14) rfl)) (hw _ (List.mem_of_getElem? (i := 15) rfl)) (hw _ (List.mem_of_getElem? (i := 3) rfl)) (hw _ (List.mem_of_getElem? (i := 16) rfl)) (by decide) (rm4 l Z a0 hw (atA G_bb (2 : Int32))  h82 r86 g86 ) (by decide) (by decide) e83 pd_4 rfl rfl rfl (Nat.le_of_eq rfl) rfl rfl (by decide) (by decide) at_117 rfl (fun T86 X86 e86 => ?_)
      refine Go.if_eq X86 hx hby (pc' := 148) at_120 (by decide) (by decide) rfl (fun hc87 => ?_) (fun hc87 => ?_)
      · replace hf := (if_pos hc87).symm.trans hf
        exact B148 T86 h82 _ X86 e86 N82 K82 bb na_bb  G_bb F82_bb x0 x1 x2 x3 x4 x6 x7 hf
      · replace hf := (if_neg hc87).symm.trans hf
        exact B123 T86 h82 _ X86 e86 N82 K82 bb na_bb  G_bb F82_bb x0 x1 x2 x3 x4 x6 x7 hf
  have B81 : ∀ (T : State) (h : Heap) (locs : List Loc), Stand p l e room_1 s m #[.int x0, .int x1, .int x2, .int x3, .int x4] below meth c T locs 1 4 → T.heap = h → Fr n0 locs → Keep h0 h [] → ∀ (bb : Addr), h0.size ≤ bb → ∀ (G_bb : List Int32), AryI Z h bb .char G_bb → ∀ (x0 : Int32) (x1 : Int32) (x2 : Int32) (x3 : Int32) (x4 : Int32) (x6 : Int32) (x7 : Int32), f0_81 x6 x7 G_bb = some r → Go p e below s room_1.cells room_1.slots (fun v h L => v = some (.int r) ∧ Fr n0 L) m T 81 #[.val (.int x0), .val (.int x1), .val (.int x2), .val (.int x3), .val (.int x4), .val (.ref bb), .val (.int x6), .val (.int x7), .unset] [] := by
    intro T88 h88 _ X88 e88 N88 K88 bb na_bb G_bb F88_bb x0 x1 x2 x3 x4 x6 x7 hf
    unfold f0_81 at hf
    refine Go.iconst X88 hx hby (v := (1 : Int32)) at_81 rfl rfl ?_
    refine Go.iload X88 hx hby (v := x6) at_82 rfl rfl ?_
    refine Go.iload X88 hx hby (v := x7) at_84 rfl rfl ?_
    obtain ⟨r89, g89, hf⟩ := Option.bind_eq_some_iff.mp hf
    refine Go.callSP X88 hx hby hZ (by rw [hml]; rfl) (W := 0) (argsL := [.int (1 : Int32), .int x6, .int x7]) (rest := []) hown (hw _ (List.mem_of_getElem? (i := 7) rfl)) (hw _ (List.mem_of_getElem? (i := 8) rfl)) (hw _ (List.mem_of_getElem? (i := 3) rfl)) (hw _ (List.mem_of_getElem? (i := 9) rfl)) (by decide) (rm2 l Z a0 hw (1 : Int32) x6 x7  h88 r89 g89 ) (by decide) (by decide) e88 pd_2 rfl rfl rfl (Nat.le_of_eq rfl) rfl rfl (by decide) (by decide) at_86 rfl (fun T89 X89 e89 => ?_)
    refine Go.if_eq X89 hx hby (pc' := 102) at_89 (by decide) (by decide) rfl (fun hc90 => ?_) (fun hc90 => ?_)
    · replace hf := (if_pos hc90).symm.trans hf
      exact B102 T89 h88 _ X89 e89 N88 K88 bb na_bb  G_bb F88_bb x0 x1 x2 x3 x4 x6 x7 hf
    · replace hf := (if_neg hc90).symm.trans hf
      refine Go.aload X89 hx hby (v := .ref bb) at_92 rfl rfl rfl ?_
      refine Go.iconst X89 hx hby (v := (1 : Int32)) at_94 rfl rfl ?_
      rcases Decidable.em (inA G_bb (1 : Int32)) with hj91 | hj91
      case inr => exact absurd ((if_neg hj91).symm.trans hf) nofun
      replace hf := (if_pos hj91).symm.trans hf
      refine Go.caload X89 hx hby hZ e89 F88_bb hj91 at_95 rfl ?_
      obtain ⟨r92, g92, hf⟩ := Option.bind_eq_some_iff.mp hf
      refine Go.callSP X89 hx hby hZ (by rw [hml]; rfl) (W := 0) (argsL := [.int (atA G_bb (1 : Int32))]) (rest := []) hown (hw _ (List.mem_of_getElem? (i := 14) rfl)) (hw _ (List.mem_of_getElem? (i := 15) rfl)) (hw _ (List.mem_of_getElem? (i := 3) rfl)) (hw _ (List.mem_of_getElem? (i := 16) rfl)) (by decide) (rm4 l Z a0 hw (atA G_bb (1 : Int32))  h88 r92 g92 ) (by decide) (by decide) e89 pd_4 rfl rfl rfl (Nat.le_of_eq rfl) rfl rfl (by decide) (by decide) at_96 rfl (fun T92 X92 e92 => ?_)
      refine Go.if_eq X92 hx hby (pc' := 148) at_99 (by decide) (by decide) rfl (fun hc93 => ?_) (fun hc93 => ?_)
      · replace hf := (if_pos hc93).symm.trans hf
        exact B148 T92 h88 _ X92 e92 N88 K88 bb na_bb  G_bb F88_bb x0 x1 x2 x3 x4 x6 x7 hf
      · replace hf := (if_neg hc93).symm.trans hf
        exact B102 T92 h88 _ X92 e92 N88 K88 bb na_bb  G_bb F88_bb x0 x1 x2 x3 x4 x6 x7 hf
  have hf := hf0
  unfold f0_0 at hf
  refine Go.iconst X0 hx hby (v := (4 : Int32)) at_0 rfl rfl ?_
  refine Go.newA X0 hx hby hZ (nn := 4) (ty := .char) (hw _ (List.mem_of_getElem? (i := 0) rfl)) e0 at_1 rfl rfl rfl (by decide) (by decide) (by decide) (by decide) (by decide) (fun T94 h94 bb X94 e94 E94 z94 A94 => ?_)
  have na_bb := Nat.le_trans K0.1 z94
  have K94 := Keep.ext K0 E94
  have A94 : AryI Z h94 bb .char ([0, 0, 0, 0] : List Int32) := A94
  refine Go.astore X94 hx hby (Ls' := #[.val (.int x0), .val (.int x1), .val (.int x2), .val (.int x3), .val (.int x4), .val (.ref bb), .unset, .unset, .unset]) at_3 rfl rfl rfl ?_
  refine Go.aload X94 hx hby (v := .ref bb) at_5 rfl rfl rfl ?_
  refine Go.iconst X94 hx hby (v := (0 : Int32)) at_7 rfl rfl ?_
  refine Go.iloadN X94 hx hby (v := x0) at_8 rfl rfl ?_
  obtain ⟨r95, g95, hf⟩ := Option.bind_eq_some_iff.mp hf
  refine Go.callSP X94 hx hby hZ (by rw [hml]; rfl) (W := 2) (argsL := [.int x0]) (rest := [.int (0 : Int32), .ref bb]) hown (hw _ (List.mem_of_getElem? (i := 1) rfl)) (hw _ (List.mem_of_getElem? (i := 2) rfl)) (hw _ (List.mem_of_getElem? (i := 3) rfl)) (hw _ (List.mem_of_getElem? (i := 4) rfl)) (by decide) (rm1 l Z a0 hw x0  h94 r95 g95 ) (by decide) (by decide) e94 pd_1 rfl rfl rfl (Nat.le_of_eq rfl) rfl rfl (by decide) (by decide) at_9 rfl (fun T95 X95 e95 => ?_)
  refine Go.castore X95 hx hby hZ e95 A94 (own_inK (n := 4) rfl (by decide)) at_12 rfl (fun T97 h97 X97 e97 W97 A97 => ?_)
  have N97 := Fr.snoc X97 N0 (Nat.le_trans Z0 na_bb)
  have K97 := Keep.wr K94 W97 (Or.inr na_bb)
  have A97 : AryI Z h97 bb .char ([(i2cF r95), 0, 0, 0] : List Int32) := A97
  refine Go.aload X97 hx hby (v := .ref bb) at_13 rfl rfl rfl ?_
  refine Go.iconst X97 hx hby (v := (1 : Int32)) at_15 rfl rfl ?_
  refine Go.iloadN X97 hx hby (v := x1) at_16 rfl rfl ?_
  obtain ⟨r98, g98, hf⟩ := Option.bind_eq_some_iff.mp hf
  refine Go.callSP X97 hx hby hZ (by rw [hml]; rfl) (W := 2) (argsL := [.int x1]) (rest := [.int (1 : Int32), .ref bb]) hown (hw _ (List.mem_of_getElem? (i := 1) rfl)) (hw _ (List.mem_of_getElem? (i := 2) rfl)) (hw _ (List.mem_of_getElem? (i := 3) rfl)) (hw _ (List.mem_of_getElem? (i := 4) rfl)) (by decide) (rm1 l Z a0 hw x1  h97 r98 g98 ) (by decide) (by decide) e97 pd_1 rfl rfl rfl (Nat.le_of_eq rfl) rfl rfl (by decide) (by decide) at_17 rfl (fun T98 X98 e98 => ?_)
  refine Go.castore X98 hx hby hZ e98 A97 (own_inK (n := 4) rfl (by decide)) at_20 rfl (fun T100 h100 X100 e100 W100 A100 => ?_)
  have N100 := Fr.snoc X100 N97 (Nat.le_trans Z0 na_bb)
  have K100 := Keep.wr K97 W100 (Or.inr na_bb)
  have A100 : AryI Z h100 bb .char ([(i2cF r95), (i2cF r98), 0, 0] : List Int32) := A100
  refine Go.aload X100 hx hby (v := .ref bb) at_21 rfl rfl rfl ?_
  refine Go.iconst X100 hx hby (v := (2 : Int32)) at_23 rfl rfl ?_
  refine Go.iloadN X100 hx hby (v := x2) at_24 rfl rfl ?_
  obtain ⟨r101, g101, hf⟩ := Option.bind_eq_some_iff.mp hf
  refine Go.callSP X100 hx hby hZ (by rw [hml]; rfl) (W := 2) (argsL := [.int x2]) (rest := [.int (2 : Int32), .ref bb]) hown (hw _ (List.mem_of_getElem? (i := 1) rfl)) (hw _ (List.mem_of_getElem? (i := 2) rfl)) (hw _ (List.mem_of_getElem? (i := 3) rfl)) (hw _ (List.mem_of_getElem? (i := 4) rfl)) (by decide) (rm1 l Z a0 hw x2  h100 r101 g101 ) (by decide) (by decide) e100 pd_1 rfl rfl rfl (Nat.le_of_eq rfl) rfl rfl (by decide) (by decide) at_25 rfl (fun T101 X101 e101 => ?_)
  refine Go.castore X101 hx hby hZ e101 A100 (own_inK (n := 4) rfl (by decide)) at_28 rfl (fun T103 h103 X103 e103 W103 A103 => ?_)
  have N103 := Fr.snoc X103 N100 (Nat.le_trans Z0 na_bb)
  have K103 := Keep.wr K100 W103 (Or.inr na_bb)
  have A103 : AryI Z h103 bb .char ([(i2cF r95), (i2cF r98), (i2cF r101), 0] : List Int32) := A103
  refine Go.aload X103 hx hby (v := .ref bb) at_29 rfl rfl rfl ?_
  refine Go.iconst X103 hx hby (v := (3 : Int32)) at_31 rfl rfl ?_
  refine Go.iloadN X103 hx hby (v := x3) at_32 rfl rfl ?_
  obtain ⟨r104, g104, hf⟩ := Option.bind_eq_some_iff.mp hf
  refine Go.callSP X103 hx hby hZ (by rw [hml]; rfl) (W := 2) (argsL := [.int x3]) (rest := [.int (3 : Int32), .ref bb]) hown (hw _ (List.mem_of_getElem? (i := 1) rfl)) (hw _ (List.mem_of_getElem? (i := 2) rfl)) (hw _ (List.mem_of_getElem? (i := 3) rfl)) (hw _ (List.mem_of_getElem? (i := 4) rfl)) (by decide) (rm1 l Z a0 hw x3  h103 r104 g104 ) (by decide) (by decide) e103 pd_1 rfl rfl rfl (Nat.le_of_eq rfl) rfl rfl (by decide) (by decide) at_33 rfl (fun T104 X104 e104 => ?_)
  refine Go.castore X104 hx hby hZ e104 A103 (own_inK (n := 4) rfl (by decide)) at_36 rfl (fun T106 h106 X106 e106 W106 A106 => ?_)
  have N106 := Fr.snoc X106 N103 (Nat.le_trans Z0 na_bb)
  have K106 := Keep.wr K103 W106 (Or.inr na_bb)
  have A106 : AryI Z h106 bb .char ([(i2cF r95), (i2cF r98), (i2cF r101), (i2cF r104)] : List Int32) := A106
  refine Go.iload X106 hx hby (v := x4) at_37 rfl rfl ?_
  refine Go.bipush X106 hx hby (v := (7 : Int32)) at_39 rfl rfl ?_
  refine Go.iand X106 hx hby at_41 rfl ?_
  refine Go.iconst X106 hx hby (v := (5 : Int32)) at_42 rfl rfl ?_
  refine Go.irem X106 hx hby at_43 rfl (by decide) ?_
  refine Go.istore X106 hx hby (Ls' := #[.val (.int x0), .val (.int x1), .val (.int x2), .val (.int x3), .val (.int x4), .val (.ref bb), .val (.int (remI (x4 &&& (7 : Int32)) (5 : Int32))), .unset, .unset]) at_44 rfl rfl ?_
  refine Go.iload X106 hx hby (v := x4) at_46 rfl rfl ?_
  refine Go.iconst X106 hx hby (v := (3 : Int32)) at_48 rfl rfl ?_
  refine Go.iushr X106 hx hby at_49 rfl ?_
  refine Go.bipush X106 hx hby (v := (7 : Int32)) at_50 rfl rfl ?_
  refine Go.iand X106 hx hby at_52 rfl ?_
  refine Go.iconst X106 hx hby (v := (5 : Int32)) at_53 rfl rfl ?_
  refine Go.iload X106 hx hby (v := (remI (x4 &&& (7 : Int32)) (5 : Int32))) at_54 rfl rfl ?_
  refine Go.isub X106 hx hby at_56 rfl ?_
  rcases Decidable.em (((5 : Int32) - (remI (x4 &&& (7 : Int32)) (5 : Int32))) = 0) with hy107 | hy107
  · exact absurd ((if_pos hy107).symm.trans hf) nofun
  replace hf := (if_neg hy107).symm.trans hf
  refine Go.irem X106 hx hby at_57 rfl hy107 ?_
  refine Go.istore X106 hx hby (Ls' := #[.val (.int x0), .val (.int x1), .val (.int x2), .val (.int x3), .val (.int x4), .val (.ref bb), .val (.int (remI (x4 &&& (7 : Int32)) (5 : Int32))), .val (.int (remI ((XT.ushr x4 (3 : Int32)) &&& (7 : Int32)) ((5 : Int32) - (remI (x4 &&& (7 : Int32)) (5 : Int32))))), .unset]) at_58 rfl rfl ?_
  refine Go.iconst X106 hx hby (v := (0 : Int32)) at_60 rfl rfl ?_
  refine Go.iload X106 hx hby (v := (remI (x4 &&& (7 : Int32)) (5 : Int32))) at_61 rfl rfl ?_
  refine Go.iload X106 hx hby (v := (remI ((XT.ushr x4 (3 : Int32)) &&& (7 : Int32)) ((5 : Int32) - (remI (x4 &&& (7 : Int32)) (5 : Int32))))) at_63 rfl rfl ?_
  obtain ⟨r108, g108, hf⟩ := Option.bind_eq_some_iff.mp hf
  refine Go.callSP X106 hx hby hZ (by rw [hml]; rfl) (W := 0) (argsL := [.int (0 : Int32), .int (remI (x4 &&& (7 : Int32)) (5 : Int32)), .int (remI ((XT.ushr x4 (3 : Int32)) &&& (7 : Int32)) ((5 : Int32) - (remI (x4 &&& (7 : Int32)) (5 : Int32))))]) (rest := []) hown (hw _ (List.mem_of_getElem? (i := 7) rfl)) (hw _ (List.mem_of_getElem? (i := 8) rfl)) (hw _ (List.mem_of_getElem? (i := 3) rfl)) (hw _ (List.mem_of_getElem? (i := 9) rfl)) (by decide) (rm2 l Z a0 hw (0 : Int32) (remI (x4 &&& (7 : Int32)) (5 : Int32)) (remI ((XT.ushr x4 (3 : Int32)) &&& (7 : Int32)) ((5 : Int32) - (remI (x4 &&& (7 : Int32)) (5 : Int32))))  h106 r108 g108 ) (by decide) (by decide) e106 pd_2 rfl rfl rfl (Nat.le_of_eq rfl) rfl rfl (by decide) (by decide) at_65 rfl (fun T108 X108 e108 => ?_)
  refine Go.if_eq X108 hx hby (pc' := 81) at_68 (by decide) (by decide) rfl (fun hc109 => ?_) (fun hc109 => ?_)
  · replace hf := (if_pos hc109).symm.trans hf
    exact B81 T108 h106 _ X108 e108 N106 K106 bb na_bb  ([(i2cF r95), (i2cF r98), (i2cF r101), (i2cF r104)] : List Int32) A106 x0 x1 x2 x3 x4 (remI (x4 &&& (7 : Int32)) (5 : Int32)) (remI ((XT.ushr x4 (3 : Int32)) &&& (7 : Int32)) ((5 : Int32) - (remI (x4 &&& (7 : Int32)) (5 : Int32)))) hf
  · replace hf := (if_neg hc109).symm.trans hf
    refine Go.aload X108 hx hby (v := .ref bb) at_71 rfl rfl rfl ?_
    refine Go.iconst X108 hx hby (v := (0 : Int32)) at_73 rfl rfl ?_
    refine Go.caload X108 hx hby hZ e108 A106 (own_inK (n := 4) rfl (by decide)) at_74 rfl ?_
    obtain ⟨r111, g111, hf⟩ := Option.bind_eq_some_iff.mp hf
    refine Go.callSP X108 hx hby hZ (by rw [hml]; rfl) (W := 0) (argsL := [.int (atA ([(i2cF r95), (i2cF r98), (i2cF r101), (i2cF r104)] : List Int32) (0 : Int32))]) (rest := []) hown (hw _ (List.mem_of_getElem? (i := 14) rfl)) (hw _ (List.mem_of_getElem? (i := 15) rfl)) (hw _ (List.mem_of_getElem? (i := 3) rfl)) (hw _ (List.mem_of_getElem? (i := 16) rfl)) (by decide) (rm4 l Z a0 hw (atA ([(i2cF r95), (i2cF r98), (i2cF r101), (i2cF r104)] : List Int32) (0 : Int32))  h106 r111 g111 ) (by decide) (by decide) e108 pd_4 rfl rfl rfl (Nat.le_of_eq rfl) rfl rfl (by decide) (by decide) at_75 rfl (fun T111 X111 e111 => ?_)
    refine Go.if_eq X111 hx hby (pc' := 148) at_78 (by decide) (by decide) rfl (fun hc112 => ?_) (fun hc112 => ?_)
    · replace hf := (if_pos hc112).symm.trans hf
      exact B148 T111 h106 _ X111 e111 N106 K106 bb na_bb  ([(i2cF r95), (i2cF r98), (i2cF r101), (i2cF r104)] : List Int32) A106 x0 x1 x2 x3 x4 (remI (x4 &&& (7 : Int32)) (5 : Int32)) (remI ((XT.ushr x4 (3 : Int32)) &&& (7 : Int32)) ((5 : Int32) - (remI (x4 &&& (7 : Int32)) (5 : Int32)))) hf
    · replace hf := (if_neg hc112).symm.trans hf
      exact B81 T111 h106 _ X111 e111 N106 K106 bb na_bb  ([(i2cF r95), (i2cF r98), (i2cF r101), (i2cF r104)] : List Int32) A106 x0 x1 x2 x3 x4 (remI (x4 &&& (7 : Int32)) (5 : Int32)) (remI ((XT.ushr x4 (3 : Int32)) &&& (7 : Int32)) ((5 : Int32) - (remI (x4 &&& (7 : Int32)) (5 : Int32)))) hf
theorem own_mask (x : Int32) (k : Nat) (hk : k ≤ 31) (m : Int32) (hm : m = Int32.ofNat (2 ^ k - 1)) : (x &&& m).toInt = x.toInt % (2 ^ k : Nat) := by
  subst hm
  have h1 : (x &&& Int32.ofNat (2 ^ k - 1)).toBitVec.toNat = x.toBitVec.toNat % 2 ^ k := by
    rw [Int32.toBitVec_and, BitVec.toNat_and]
    have : (Int32.ofNat (2 ^ k - 1)).toBitVec.toNat = 2 ^ k - 1 := by
      show (BitVec.ofNat 32 (2 ^ k - 1)).toNat = _
      rw [BitVec.toNat_ofNat]
      apply Nat.mod_eq_of_lt
      have : 2 ^ k ≤ 2 ^ 31 := Nat.pow_le_pow_right (by decide) hk
      omega
    rw [this, Nat.and_two_pow_sub_one_eq_mod]
  have hp : 2 ^ k ≤ 2 ^ 31 := Nat.pow_le_pow_right (by decide) hk
  have hpos : 0 < 2 ^ k := Nat.two_pow_pos k
  have hlt := Nat.mod_lt x.toBitVec.toNat hpos
  show (x &&& Int32.ofNat (2 ^ k - 1)).toBitVec.toInt = x.toBitVec.toInt % _
  rw [BitVec.toInt_eq_toNat_cond, h1, if_pos (by omega), BitVec.toInt_eq_toNat_cond]
  split
  · simp
  · have hd : (2 ^ k : Nat) ∣ 2 ^ 32 := Nat.pow_dvd_pow 2 (by omega)
    obtain ⟨q, hq⟩ := hd
    rw [Int.sub_emod, show ((2 ^ 32 : Nat) : Int) % (2 ^ k : Nat) = 0 by rw [hq]; simp]
    simp
theorem own_fin32 (x : Int32) (N : Nat) (h0 : 0 ≤ x.toInt) (h1 : x.toInt < N) : ∃ n : Fin N, x = Int32.ofNat n.val := by
  refine ⟨⟨x.toInt.toNat, by omega⟩, Int32.toInt_inj.mp ?_⟩
  have := x.toInt_lt
  rw [Int32.toInt_ofNat_of_lt (by show x.toInt.toNat < _; omega)]
  show x.toInt = (x.toInt.toNat : Int); omega
theorem own_remI (x y : Int32) (hx : 0 ≤ x.toInt) (hy : 0 < y.toInt) : (remI x y).toInt = x.toInt % y.toInt := by
  have h1 := x.toInt_lt; have h2 := y.toInt_lt
  have hq : (x / y).toInt = x.toInt / y.toInt := by
    rw [Int32.toInt_div, Int.tdiv_eq_ediv_of_nonneg hx]
    have a1 : 0 ≤ x.toInt / y.toInt := Int.ediv_nonneg hx (by omega)
    have a2 : x.toInt / y.toInt ≤ x.toInt := Int.ediv_le_self _ hx
    exact Int.bmod_eq_of_le (by omega) (by omega)
  have e := Int.emod_add_mul_ediv x.toInt y.toInt
  have m0 := Int.emod_nonneg x.toInt (b := y.toInt) (by omega)
  have hm : (x / y * y).toInt = x.toInt / y.toInt * y.toInt := by
    rw [Int32.toInt_mul, hq]
    have : x.toInt / y.toInt * y.toInt = y.toInt * (x.toInt / y.toInt) := Int.mul_comm _ _
    have a1 : 0 ≤ y.toInt * (x.toInt / y.toInt) := Int.mul_nonneg (by omega) (Int.ediv_nonneg hx (by omega))
    exact Int.bmod_eq_of_le (by omega) (by omega)
  unfold remI
  rw [Int32.toInt_sub, hm]
  have : x.toInt / y.toInt * y.toInt = y.toInt * (x.toInt / y.toInt) := Int.mul_comm _ _
  have m1 := Int.emod_lt_of_pos x.toInt hy
  rw [show x.toInt - x.toInt / y.toInt * y.toInt = x.toInt % y.toInt by omega]
  exact Int.bmod_eq_of_le (by omega) (by omega)
theorem own_bm (x : Int) (n : Nat) (m : Int) (h : (2 * m).toNat = n) (hm : 0 < m) : x.bmod n = (x + m) % (2 * m) - m := by
  have hn : (n : Int) = 2 * m := by omega
  rw [Int.bmod_def, hn, show ((2 * m + 1) / 2 : Int) = m by omega]
  have h1 := Int.emod_nonneg x (b := 2 * m) (by omega)
  have h2 := Int.emod_lt_of_pos x (b := 2 * m) (by omega)
  have e := Int.emod_add_mul_ediv x (2 * m)
  generalize x / (2 * m) = q at *
  generalize x % (2 * m) = r at *
  subst e
  rw [show r + 2 * m * q + m = (r + m) + 2 * m * q by omega, Int.add_mul_emod_self_left]
  split
  · rw [Int.emod_eq_of_lt (by omega) (by omega)]; omega
  · rw [show r + m = (r - m) + 2 * m * 1 by omega, Int.add_mul_emod_self_left, Int.emod_eq_of_lt (by omega) (by omega)]; omega
theorem own_i2b (x : Int32) : (i2bF x).toInt = (x.toInt + 128) % 256 - 128 := by
  unfold i2bF; rw [Int8.toInt_toInt32, Int32.toInt_toInt8]; exact own_bm _ _ 128 rfl (by decide)
theorem own_i2s (x : Int32) : (i2sF x).toInt = (x.toInt + 32768) % 65536 - 32768 := by
  unfold i2sF; rw [Int16.toInt_toInt32, Int32.toInt_toInt16]; exact own_bm _ _ 32768 rfl (by decide)
theorem own_tonat (x : Int32) : (x.toBitVec.toNat : Int) = x.toInt % 4294967296 := by
  show _ = x.toBitVec.toInt % 4294967296
  rw [BitVec.toInt_eq_toNat_cond]
  have := x.toBitVec.isLt
  split <;> omega
theorem own_toint (x : Int32) (h : x.toBitVec.toNat < 2147483648) : x.toInt = x.toBitVec.toNat := by
  show x.toBitVec.toInt = _
  rw [BitVec.toInt_eq_toNat_cond, if_pos (by omega)]
theorem own_tonatJ (x : Int64) : (x.toBitVec.toNat : Int) = x.toInt % 18446744073709551616 := by
  show _ = x.toBitVec.toInt % 18446744073709551616
  rw [BitVec.toInt_eq_toNat_cond]
  have := x.toBitVec.isLt
  split <;> omega
theorem own_tointJ (x : Int64) (h : x.toBitVec.toNat < 9223372036854775808) : x.toInt = x.toBitVec.toNat := by
  show x.toBitVec.toInt = _
  rw [BitVec.toInt_eq_toNat_cond, if_pos (by omega)]
theorem own_i2c (x : Int32) : (i2cF x).toInt = x.toInt % 65536 := by
  have h : (i2cF x).toBitVec.toNat = x.toBitVec.toNat % 65536 := by
    show (BitVec.setWidth 32 (BitVec.setWidth 16 x.toBitVec)).toNat = _
    rw [BitVec.toNat_setWidth, BitVec.toNat_setWidth]; omega
  have := own_tonat x
  rw [own_toint _ (by omega), h]; omega
theorem own_amt : ∀ k : Fin 32, ((Int32.ofNat k.val &&& 31).toBitVec.smod 32).toNat = k.val := by decide +kernel
theorem own_amtU : ∀ k : Fin 32, ((Int32.ofNat k.val &&& 31).toUInt32.toBitVec.toNat) = k.val := by decide +kernel
theorem own_shr (x : Int32) (k : Nat) (hk : k < 32) : (shrI x (Int32.ofNat k)).toInt = x.toInt / (2 ^ k : Nat) := by
  show (BitVec.sshiftRight x.toBitVec ((Int32.ofNat k &&& 31).toBitVec.smod 32).toNat).toInt = x.toBitVec.toInt / _
  rw [own_amt ⟨k, hk⟩, BitVec.toInt_sshiftRight, Int.shiftRight_eq_div_pow]
theorem own_shl (x : Int32) (k : Nat) (hk : k < 32) : (shlI x (Int32.ofNat k)).toInt = (x.toInt * (2 ^ k : Nat)).bmod 4294967296 := by
  show (x.toBitVec <<< ((Int32.ofNat k &&& 31).toBitVec.smod 32)).toInt = (x.toBitVec.toInt * _).bmod _
  rw [BitVec.shiftLeft_eq', own_amt ⟨k, hk⟩, BitVec.toInt_shiftLeft, Nat.shiftLeft_eq, BitVec.toInt_eq_toNat_bmod]
  rw [Int.bmod_mul_bmod]
  congr 1
theorem own_ushr (x : Int32) (k : Nat) (hk : k < 32) (h0 : 0 < k) : (XT.ushr x (Int32.ofNat k)).toInt = (x.toInt % 4294967296) / (2 ^ k : Nat) := by
  have h : (XT.ushr x (Int32.ofNat k)).toBitVec.toNat = x.toBitVec.toNat / 2 ^ k := by
    show (x.toBitVec >>> ((Int32.ofNat k &&& 31).toUInt32.toBitVec % 32)).toNat = _
    rw [BitVec.ushiftRight_eq', BitVec.toNat_ushiftRight, BitVec.toNat_umod, own_amtU ⟨k, hk⟩, Nat.shiftRight_eq_div_pow]
    show _ / 2 ^ (k % 32) = _
    rw [Nat.mod_eq_of_lt hk]
  have h1 := x.toBitVec.isLt
  have h2 : x.toBitVec.toNat / 2 ^ k ≤ x.toBitVec.toNat / 2 ^ 1 := Nat.div_le_div_left (Nat.pow_le_pow_right (by decide) h0) (by decide)
  rw [own_toint _ (by omega), h, ← own_tonat]; rfl
theorem own_ushr0 (x : Int32) (k : Nat) (hk : k < 32) (h0 : 0 ≤ x.toInt) : (XT.ushr x (Int32.ofNat k)).toInt = x.toInt / (2 ^ k : Nat) := by
  have h1 := x.toInt_lt
  by_cases q : k = 0
  · subst q
    have : XT.ushr x (Int32.ofNat 0) = x := by
      apply Int32.toBitVec_inj.mp
      apply BitVec.eq_of_toNat_eq
      show (x.toBitVec >>> ((Int32.ofNat 0 &&& 31).toUInt32.toBitVec % 32)).toNat = _
      rw [BitVec.ushiftRight_eq', BitVec.toNat_ushiftRight, BitVec.toNat_umod, own_amtU ⟨0, hk⟩]; rfl
    rw [this]; simp
  · rw [own_ushr x k hk (by omega), Int.emod_eq_of_lt h0 (by omega)]
theorem own_if {c : Prop} [Decidable c] {α : Type} {a b r : α} (h1 : c → a = r) (h2 : ¬ c → b = r) : (if c then a else b) = r := by
  by_cases h : c
  · rw [if_pos h]; exact h1 h
  · rw [if_neg h]; exact h2 h
theorem own_maskJ (x : Int64) (k : Nat) (hk : k ≤ 63) (m : Int64) (hm : m = Int64.ofNat (2 ^ k - 1)) : (x &&& m).toInt = x.toInt % (2 ^ k : Nat) := by
  subst hm
  have h1 : (x &&& Int64.ofNat (2 ^ k - 1)).toBitVec.toNat = x.toBitVec.toNat % 2 ^ k := by
    rw [Int64.toBitVec_and, BitVec.toNat_and]
    have : (Int64.ofNat (2 ^ k - 1)).toBitVec.toNat = 2 ^ k - 1 := by
      show (BitVec.ofNat 64 (2 ^ k - 1)).toNat = _
      rw [BitVec.toNat_ofNat]
      apply Nat.mod_eq_of_lt
      have : 2 ^ k ≤ 2 ^ 63 := Nat.pow_le_pow_right (by decide) hk
      omega
    rw [this, Nat.and_two_pow_sub_one_eq_mod]
  have hp : 2 ^ k ≤ 2 ^ 63 := Nat.pow_le_pow_right (by decide) hk
  have hpos : 0 < 2 ^ k := Nat.two_pow_pos k
  have hlt := Nat.mod_lt x.toBitVec.toNat hpos
  show (x &&& Int64.ofNat (2 ^ k - 1)).toBitVec.toInt = x.toBitVec.toInt % _
  rw [BitVec.toInt_eq_toNat_cond, h1, if_pos (by omega), BitVec.toInt_eq_toNat_cond]
  split
  · simp
  · have hd : (2 ^ k : Nat) ∣ 2 ^ 64 := Nat.pow_dvd_pow 2 (by omega)
    obtain ⟨q, hq⟩ := hd
    rw [Int.sub_emod, show ((2 ^ 64 : Nat) : Int) % (2 ^ k : Nat) = 0 by rw [hq]; simp]
    simp
theorem own_amtJ : ∀ k : Fin 64, ((Int32.ofNat k.val).toInt64.toUInt64 &&& Int64.toUInt64 63).toBitVec.toNat = k.val := by decide +kernel
theorem own_ushrL (x : Int64) (k : Nat) (hk : k < 64) (h0 : 0 < k) : (XT.ushrL x (Int32.ofNat k)).toInt = (x.toInt % 18446744073709551616) / (2 ^ k : Nat) := by
  have h : (XT.ushrL x (Int32.ofNat k)).toBitVec.toNat = x.toBitVec.toNat / 2 ^ k := by
    show (x.toBitVec >>> (((Int32.ofNat k).toInt64.toUInt64 &&& Int64.toUInt64 63).toBitVec % 64)).toNat = _
    rw [BitVec.ushiftRight_eq', BitVec.toNat_ushiftRight, BitVec.toNat_umod, own_amtJ ⟨k, hk⟩, Nat.shiftRight_eq_div_pow]
    show _ / 2 ^ (k % 64) = _
    rw [Nat.mod_eq_of_lt hk]
  have h1 := x.toBitVec.isLt
  have h2 : x.toBitVec.toNat / 2 ^ k ≤ x.toBitVec.toNat / 2 ^ 1 := Nat.div_le_div_left (Nat.pow_le_pow_right (by decide) h0) (by decide)
  rw [own_tointJ _ (by omega), h, ← own_tonatJ]; rfl
theorem own_inR {α : Type} {A : List α} {j : Int32} (n : Nat) (hl : A.length = n) (h0 : 0 ≤ j.toInt) (h1 : j.toInt < n) : inA A j := by
  rintro (h | h)
  · rw [Int32.lt_iff_toInt_lt] at h; change j.toInt < 0 at h; omega
  · rw [hl] at h; simp only [Int32.toNatClampNeg] at h; omega

def own_W (v : Int32) : Bool := decide (v = 32) || decide (v = 9) || decide (v = 10) || decide (v = 13)
theorem own_f4 (v : Int32) : f4_0 v = some (if own_W v = true then 1 else 0) := by
  unfold f4_0 own_W
  by_cases h1 : v = 32
  · simp [h1]
  · by_cases h2 : v = 9
    · simp [h2]
    · by_cases h3 : v = 10
      · simp [h3]
      · by_cases h4 : v = 13
        · simp [h4]
        · simp [h1, h2, h3, h4]
theorem own_go (n : Nat) (x1 x2 x3 : Int32) (A : List Int32) (h : x3 < x1 + x2) (hi : inA A x3) : f3_2 (n + 1) x1 x2 x3 A = if own_W (atA A x3) = true then f3_2 n x1 x2 (x3 + 1) A else some 0 := by
  rw [f3_2, if_pos h, if_pos hi]
  unfold f3_44 own_W
  generalize atA A x3 = v
  by_cases h1 : v = 32
  · simp [h1]
  · by_cases h2 : v = 9
    · simp [h2]
    · by_cases h3 : v = 10
      · simp [h3]
      · by_cases h4 : v = 13
        · simp [h4]
        · simp [h1, h2, h3, h4]
theorem own_end (n : Nat) (x1 x2 x3 : Int32) (A : List Int32) (h : ¬ x3 < x1 + x2) : f3_2 (n + 1) x1 x2 x3 A = some 1 := by rw [f3_2, if_neg h]
def own_tail (s n : Int32) (A : List Int32) : Option Int32 := (f2_0 0 s n).bind fun r => if r = 0 then f0_81 s n A else (f4_0 (atA A 0)).bind fun q => if q = 0 then f0_148 s n A else f0_81 s n A
theorem own_in4 (a b c d j : Int32) (h0 : 0 ≤ j.toInt) (h1 : j.toInt < 4) : inA [a, b, c, d] j := own_inR 4 rfl h0 h1
theorem own_p_0_0 (a b c d : Int32) : own_tail 0 0 [a, b, c, d] = some 1 := by
  have w : f3_0 0 0 [a, b, c, d] = (some 1 : Option Int32) := by
    unfold f3_0
    rw [own_end _ _ _ _ _ (by decide)]
  simp only [own_tail, f0_81, f0_102, f0_123, f0_144, f0_148, f0_149, own_f4, w, Option.bind_some, show f2_0 0 0 0 = some 0 from rfl, show f2_0 1 0 0 = some 0 from rfl, show f2_0 2 0 0 = some 0 from rfl, show f2_0 3 0 0 = some 0 from rfl, show atA [a, b, c, d] 0 = a from rfl, show atA [a, b, c, d] 1 = b from rfl, show atA [a, b, c, d] 2 = c from rfl, show atA [a, b, c, d] 3 = d from rfl, if_pos (own_in4 a b c d 1 (by decide) (by decide)), if_pos (own_in4 a b c d 2 (by decide) (by decide)), if_pos (own_in4 a b c d 3 (by decide) (by decide))]
  generalize own_W a = p
  generalize own_W b = q
  generalize own_W c = r
  generalize own_W d = s
  cases p <;> cases q <;> cases r <;> cases s <;> rfl
theorem own_p_0_1 (a b c d : Int32) : own_tail 0 1 [a, b, c, d] = some 1 := by
  have w : f3_0 0 1 [a, b, c, d] = (if own_W a = true then some 1 else some 0 : Option Int32) := by
    unfold f3_0
    rw [own_go _ _ _ _ _ (by decide) (own_in4 a b c d _ (by decide) (by decide))]
    rw [own_end _ _ _ _ _ (by decide)]
    rfl
  simp only [own_tail, f0_81, f0_102, f0_123, f0_144, f0_148, f0_149, own_f4, w, Option.bind_some, show f2_0 0 0 1 = some 1 from rfl, show f2_0 1 0 1 = some 0 from rfl, show f2_0 2 0 1 = some 0 from rfl, show f2_0 3 0 1 = some 0 from rfl, show atA [a, b, c, d] 0 = a from rfl, show atA [a, b, c, d] 1 = b from rfl, show atA [a, b, c, d] 2 = c from rfl, show atA [a, b, c, d] 3 = d from rfl, if_pos (own_in4 a b c d 1 (by decide) (by decide)), if_pos (own_in4 a b c d 2 (by decide) (by decide)), if_pos (own_in4 a b c d 3 (by decide) (by decide))]
  generalize own_W a = p
  generalize own_W b = q
  generalize own_W c = r
  generalize own_W d = s
  cases p <;> cases q <;> cases r <;> cases s <;> rfl
theorem own_p_0_2 (a b c d : Int32) : own_tail 0 2 [a, b, c, d] = some 1 := by
  have w : f3_0 0 2 [a, b, c, d] = (if own_W a = true then if own_W b = true then some 1 else some 0 else some 0 : Option Int32) := by
    unfold f3_0
    rw [own_go _ _ _ _ _ (by decide) (own_in4 a b c d _ (by decide) (by decide))]
    rw [own_go _ _ _ _ _ (by decide) (own_in4 a b c d _ (by decide) (by decide))]
    rw [own_end _ _ _ _ _ (by decide)]
    rfl
  simp only [own_tail, f0_81, f0_102, f0_123, f0_144, f0_148, f0_149, own_f4, w, Option.bind_some, show f2_0 0 0 2 = some 1 from rfl, show f2_0 1 0 2 = some 1 from rfl, show f2_0 2 0 2 = some 0 from rfl, show f2_0 3 0 2 = some 0 from rfl, show atA [a, b, c, d] 0 = a from rfl, show atA [a, b, c, d] 1 = b from rfl, show atA [a, b, c, d] 2 = c from rfl, show atA [a, b, c, d] 3 = d from rfl, if_pos (own_in4 a b c d 1 (by decide) (by decide)), if_pos (own_in4 a b c d 2 (by decide) (by decide)), if_pos (own_in4 a b c d 3 (by decide) (by decide))]
  generalize own_W a = p
  generalize own_W b = q
  generalize own_W c = r
  generalize own_W d = s
  cases p <;> cases q <;> cases r <;> cases s <;> rfl
theorem own_p_0_3 (a b c d : Int32) : own_tail 0 3 [a, b, c, d] = some 1 := by
  have w : f3_0 0 3 [a, b, c, d] = (if own_W a = true then if own_W b = true then if own_W c = true then some 1 else some 0 else some 0 else some 0 : Option Int32) := by
    unfold f3_0
    rw [own_go _ _ _ _ _ (by decide) (own_in4 a b c d _ (by decide) (by decide))]
    rw [own_go _ _ _ _ _ (by decide) (own_in4 a b c d _ (by decide) (by decide))]
    rw [own_go _ _ _ _ _ (by decide) (own_in4 a b c d _ (by decide) (by decide))]
    rw [own_end _ _ _ _ _ (by decide)]
    rfl
  simp only [own_tail, f0_81, f0_102, f0_123, f0_144, f0_148, f0_149, own_f4, w, Option.bind_some, show f2_0 0 0 3 = some 1 from rfl, show f2_0 1 0 3 = some 1 from rfl, show f2_0 2 0 3 = some 1 from rfl, show f2_0 3 0 3 = some 0 from rfl, show atA [a, b, c, d] 0 = a from rfl, show atA [a, b, c, d] 1 = b from rfl, show atA [a, b, c, d] 2 = c from rfl, show atA [a, b, c, d] 3 = d from rfl, if_pos (own_in4 a b c d 1 (by decide) (by decide)), if_pos (own_in4 a b c d 2 (by decide) (by decide)), if_pos (own_in4 a b c d 3 (by decide) (by decide))]
  generalize own_W a = p
  generalize own_W b = q
  generalize own_W c = r
  generalize own_W d = s
  cases p <;> cases q <;> cases r <;> cases s <;> rfl
theorem own_p_0_4 (a b c d : Int32) : own_tail 0 4 [a, b, c, d] = some 1 := by
  have w : f3_0 0 4 [a, b, c, d] = (if own_W a = true then if own_W b = true then if own_W c = true then if own_W d = true then some 1 else some 0 else some 0 else some 0 else some 0 : Option Int32) := by
    unfold f3_0
    rw [own_go _ _ _ _ _ (by decide) (own_in4 a b c d _ (by decide) (by decide))]
    rw [own_go _ _ _ _ _ (by decide) (own_in4 a b c d _ (by decide) (by decide))]
    rw [own_go _ _ _ _ _ (by decide) (own_in4 a b c d _ (by decide) (by decide))]
    rw [own_go _ _ _ _ _ (by decide) (own_in4 a b c d _ (by decide) (by decide))]
    rw [own_end _ _ _ _ _ (by decide)]
    rfl
  simp only [own_tail, f0_81, f0_102, f0_123, f0_144, f0_148, f0_149, own_f4, w, Option.bind_some, show f2_0 0 0 4 = some 1 from rfl, show f2_0 1 0 4 = some 1 from rfl, show f2_0 2 0 4 = some 1 from rfl, show f2_0 3 0 4 = some 1 from rfl, show atA [a, b, c, d] 0 = a from rfl, show atA [a, b, c, d] 1 = b from rfl, show atA [a, b, c, d] 2 = c from rfl, show atA [a, b, c, d] 3 = d from rfl, if_pos (own_in4 a b c d 1 (by decide) (by decide)), if_pos (own_in4 a b c d 2 (by decide) (by decide)), if_pos (own_in4 a b c d 3 (by decide) (by decide))]
  generalize own_W a = p
  generalize own_W b = q
  generalize own_W c = r
  generalize own_W d = s
  cases p <;> cases q <;> cases r <;> cases s <;> rfl
theorem own_p_1_0 (a b c d : Int32) : own_tail 1 0 [a, b, c, d] = some 1 := by
  have w : f3_0 1 0 [a, b, c, d] = (some 1 : Option Int32) := by
    unfold f3_0
    rw [own_end _ _ _ _ _ (by decide)]
  simp only [own_tail, f0_81, f0_102, f0_123, f0_144, f0_148, f0_149, own_f4, w, Option.bind_some, show f2_0 0 1 0 = some 0 from rfl, show f2_0 1 1 0 = some 0 from rfl, show f2_0 2 1 0 = some 0 from rfl, show f2_0 3 1 0 = some 0 from rfl, show atA [a, b, c, d] 0 = a from rfl, show atA [a, b, c, d] 1 = b from rfl, show atA [a, b, c, d] 2 = c from rfl, show atA [a, b, c, d] 3 = d from rfl, if_pos (own_in4 a b c d 1 (by decide) (by decide)), if_pos (own_in4 a b c d 2 (by decide) (by decide)), if_pos (own_in4 a b c d 3 (by decide) (by decide))]
  generalize own_W a = p
  generalize own_W b = q
  generalize own_W c = r
  generalize own_W d = s
  cases p <;> cases q <;> cases r <;> cases s <;> rfl
theorem own_p_1_1 (a b c d : Int32) : own_tail 1 1 [a, b, c, d] = some 1 := by
  have w : f3_0 1 1 [a, b, c, d] = (if own_W b = true then some 1 else some 0 : Option Int32) := by
    unfold f3_0
    rw [own_go _ _ _ _ _ (by decide) (own_in4 a b c d _ (by decide) (by decide))]
    rw [own_end _ _ _ _ _ (by decide)]
    rfl
  simp only [own_tail, f0_81, f0_102, f0_123, f0_144, f0_148, f0_149, own_f4, w, Option.bind_some, show f2_0 0 1 1 = some 0 from rfl, show f2_0 1 1 1 = some 1 from rfl, show f2_0 2 1 1 = some 0 from rfl, show f2_0 3 1 1 = some 0 from rfl, show atA [a, b, c, d] 0 = a from rfl, show atA [a, b, c, d] 1 = b from rfl, show atA [a, b, c, d] 2 = c from rfl, show atA [a, b, c, d] 3 = d from rfl, if_pos (own_in4 a b c d 1 (by decide) (by decide)), if_pos (own_in4 a b c d 2 (by decide) (by decide)), if_pos (own_in4 a b c d 3 (by decide) (by decide))]
  generalize own_W a = p
  generalize own_W b = q
  generalize own_W c = r
  generalize own_W d = s
  cases p <;> cases q <;> cases r <;> cases s <;> rfl
theorem own_p_1_2 (a b c d : Int32) : own_tail 1 2 [a, b, c, d] = some 1 := by
  have w : f3_0 1 2 [a, b, c, d] = (if own_W b = true then if own_W c = true then some 1 else some 0 else some 0 : Option Int32) := by
    unfold f3_0
    rw [own_go _ _ _ _ _ (by decide) (own_in4 a b c d _ (by decide) (by decide))]
    rw [own_go _ _ _ _ _ (by decide) (own_in4 a b c d _ (by decide) (by decide))]
    rw [own_end _ _ _ _ _ (by decide)]
    rfl
  simp only [own_tail, f0_81, f0_102, f0_123, f0_144, f0_148, f0_149, own_f4, w, Option.bind_some, show f2_0 0 1 2 = some 0 from rfl, show f2_0 1 1 2 = some 1 from rfl, show f2_0 2 1 2 = some 1 from rfl, show f2_0 3 1 2 = some 0 from rfl, show atA [a, b, c, d] 0 = a from rfl, show atA [a, b, c, d] 1 = b from rfl, show atA [a, b, c, d] 2 = c from rfl, show atA [a, b, c, d] 3 = d from rfl, if_pos (own_in4 a b c d 1 (by decide) (by decide)), if_pos (own_in4 a b c d 2 (by decide) (by decide)), if_pos (own_in4 a b c d 3 (by decide) (by decide))]
  generalize own_W a = p
  generalize own_W b = q
  generalize own_W c = r
  generalize own_W d = s
  cases p <;> cases q <;> cases r <;> cases s <;> rfl
theorem own_p_1_3 (a b c d : Int32) : own_tail 1 3 [a, b, c, d] = some 1 := by
  have w : f3_0 1 3 [a, b, c, d] = (if own_W b = true then if own_W c = true then if own_W d = true then some 1 else some 0 else some 0 else some 0 : Option Int32) := by
    unfold f3_0
    rw [own_go _ _ _ _ _ (by decide) (own_in4 a b c d _ (by decide) (by decide))]
    rw [own_go _ _ _ _ _ (by decide) (own_in4 a b c d _ (by decide) (by decide))]
    rw [own_go _ _ _ _ _ (by decide) (own_in4 a b c d _ (by decide) (by decide))]
    rw [own_end _ _ _ _ _ (by decide)]
    rfl
  simp only [own_tail, f0_81, f0_102, f0_123, f0_144, f0_148, f0_149, own_f4, w, Option.bind_some, show f2_0 0 1 3 = some 0 from rfl, show f2_0 1 1 3 = some 1 from rfl, show f2_0 2 1 3 = some 1 from rfl, show f2_0 3 1 3 = some 1 from rfl, show atA [a, b, c, d] 0 = a from rfl, show atA [a, b, c, d] 1 = b from rfl, show atA [a, b, c, d] 2 = c from rfl, show atA [a, b, c, d] 3 = d from rfl, if_pos (own_in4 a b c d 1 (by decide) (by decide)), if_pos (own_in4 a b c d 2 (by decide) (by decide)), if_pos (own_in4 a b c d 3 (by decide) (by decide))]
  generalize own_W a = p
  generalize own_W b = q
  generalize own_W c = r
  generalize own_W d = s
  cases p <;> cases q <;> cases r <;> cases s <;> rfl
theorem own_p_2_0 (a b c d : Int32) : own_tail 2 0 [a, b, c, d] = some 1 := by
  have w : f3_0 2 0 [a, b, c, d] = (some 1 : Option Int32) := by
    unfold f3_0
    rw [own_end _ _ _ _ _ (by decide)]
  simp only [own_tail, f0_81, f0_102, f0_123, f0_144, f0_148, f0_149, own_f4, w, Option.bind_some, show f2_0 0 2 0 = some 0 from rfl, show f2_0 1 2 0 = some 0 from rfl, show f2_0 2 2 0 = some 0 from rfl, show f2_0 3 2 0 = some 0 from rfl, show atA [a, b, c, d] 0 = a from rfl, show atA [a, b, c, d] 1 = b from rfl, show atA [a, b, c, d] 2 = c from rfl, show atA [a, b, c, d] 3 = d from rfl, if_pos (own_in4 a b c d 1 (by decide) (by decide)), if_pos (own_in4 a b c d 2 (by decide) (by decide)), if_pos (own_in4 a b c d 3 (by decide) (by decide))]
  generalize own_W a = p
  generalize own_W b = q
  generalize own_W c = r
  generalize own_W d = s
  cases p <;> cases q <;> cases r <;> cases s <;> rfl
theorem own_p_2_1 (a b c d : Int32) : own_tail 2 1 [a, b, c, d] = some 1 := by
  have w : f3_0 2 1 [a, b, c, d] = (if own_W c = true then some 1 else some 0 : Option Int32) := by
    unfold f3_0
    rw [own_go _ _ _ _ _ (by decide) (own_in4 a b c d _ (by decide) (by decide))]
    rw [own_end _ _ _ _ _ (by decide)]
    rfl
  simp only [own_tail, f0_81, f0_102, f0_123, f0_144, f0_148, f0_149, own_f4, w, Option.bind_some, show f2_0 0 2 1 = some 0 from rfl, show f2_0 1 2 1 = some 0 from rfl, show f2_0 2 2 1 = some 1 from rfl, show f2_0 3 2 1 = some 0 from rfl, show atA [a, b, c, d] 0 = a from rfl, show atA [a, b, c, d] 1 = b from rfl, show atA [a, b, c, d] 2 = c from rfl, show atA [a, b, c, d] 3 = d from rfl, if_pos (own_in4 a b c d 1 (by decide) (by decide)), if_pos (own_in4 a b c d 2 (by decide) (by decide)), if_pos (own_in4 a b c d 3 (by decide) (by decide))]
  generalize own_W a = p
  generalize own_W b = q
  generalize own_W c = r
  generalize own_W d = s
  cases p <;> cases q <;> cases r <;> cases s <;> rfl
theorem own_p_2_2 (a b c d : Int32) : own_tail 2 2 [a, b, c, d] = some 1 := by
  have w : f3_0 2 2 [a, b, c, d] = (if own_W c = true then if own_W d = true then some 1 else some 0 else some 0 : Option Int32) := by
    unfold f3_0
    rw [own_go _ _ _ _ _ (by decide) (own_in4 a b c d _ (by decide) (by decide))]
    rw [own_go _ _ _ _ _ (by decide) (own_in4 a b c d _ (by decide) (by decide))]
    rw [own_end _ _ _ _ _ (by decide)]
    rfl
  simp only [own_tail, f0_81, f0_102, f0_123, f0_144, f0_148, f0_149, own_f4, w, Option.bind_some, show f2_0 0 2 2 = some 0 from rfl, show f2_0 1 2 2 = some 0 from rfl, show f2_0 2 2 2 = some 1 from rfl, show f2_0 3 2 2 = some 1 from rfl, show atA [a, b, c, d] 0 = a from rfl, show atA [a, b, c, d] 1 = b from rfl, show atA [a, b, c, d] 2 = c from rfl, show atA [a, b, c, d] 3 = d from rfl, if_pos (own_in4 a b c d 1 (by decide) (by decide)), if_pos (own_in4 a b c d 2 (by decide) (by decide)), if_pos (own_in4 a b c d 3 (by decide) (by decide))]
  generalize own_W a = p
  generalize own_W b = q
  generalize own_W c = r
  generalize own_W d = s
  cases p <;> cases q <;> cases r <;> cases s <;> rfl
theorem own_p_3_0 (a b c d : Int32) : own_tail 3 0 [a, b, c, d] = some 1 := by
  have w : f3_0 3 0 [a, b, c, d] = (some 1 : Option Int32) := by
    unfold f3_0
    rw [own_end _ _ _ _ _ (by decide)]
  simp only [own_tail, f0_81, f0_102, f0_123, f0_144, f0_148, f0_149, own_f4, w, Option.bind_some, show f2_0 0 3 0 = some 0 from rfl, show f2_0 1 3 0 = some 0 from rfl, show f2_0 2 3 0 = some 0 from rfl, show f2_0 3 3 0 = some 0 from rfl, show atA [a, b, c, d] 0 = a from rfl, show atA [a, b, c, d] 1 = b from rfl, show atA [a, b, c, d] 2 = c from rfl, show atA [a, b, c, d] 3 = d from rfl, if_pos (own_in4 a b c d 1 (by decide) (by decide)), if_pos (own_in4 a b c d 2 (by decide) (by decide)), if_pos (own_in4 a b c d 3 (by decide) (by decide))]
  generalize own_W a = p
  generalize own_W b = q
  generalize own_W c = r
  generalize own_W d = s
  cases p <;> cases q <;> cases r <;> cases s <;> rfl
theorem own_p_3_1 (a b c d : Int32) : own_tail 3 1 [a, b, c, d] = some 1 := by
  have w : f3_0 3 1 [a, b, c, d] = (if own_W d = true then some 1 else some 0 : Option Int32) := by
    unfold f3_0
    rw [own_go _ _ _ _ _ (by decide) (own_in4 a b c d _ (by decide) (by decide))]
    rw [own_end _ _ _ _ _ (by decide)]
    rfl
  simp only [own_tail, f0_81, f0_102, f0_123, f0_144, f0_148, f0_149, own_f4, w, Option.bind_some, show f2_0 0 3 1 = some 0 from rfl, show f2_0 1 3 1 = some 0 from rfl, show f2_0 2 3 1 = some 0 from rfl, show f2_0 3 3 1 = some 1 from rfl, show atA [a, b, c, d] 0 = a from rfl, show atA [a, b, c, d] 1 = b from rfl, show atA [a, b, c, d] 2 = c from rfl, show atA [a, b, c, d] 3 = d from rfl, if_pos (own_in4 a b c d 1 (by decide) (by decide)), if_pos (own_in4 a b c d 2 (by decide) (by decide)), if_pos (own_in4 a b c d 3 (by decide) (by decide))]
  generalize own_W a = p
  generalize own_W b = q
  generalize own_W c = r
  generalize own_W d = s
  cases p <;> cases q <;> cases r <;> cases s <;> rfl
theorem own_p_4_0 (a b c d : Int32) : own_tail 4 0 [a, b, c, d] = some 1 := by
  have w : f3_0 4 0 [a, b, c, d] = (some 1 : Option Int32) := by
    unfold f3_0
    rw [own_end _ _ _ _ _ (by decide)]
  simp only [own_tail, f0_81, f0_102, f0_123, f0_144, f0_148, f0_149, own_f4, w, Option.bind_some, show f2_0 0 4 0 = some 0 from rfl, show f2_0 1 4 0 = some 0 from rfl, show f2_0 2 4 0 = some 0 from rfl, show f2_0 3 4 0 = some 0 from rfl, show atA [a, b, c, d] 0 = a from rfl, show atA [a, b, c, d] 1 = b from rfl, show atA [a, b, c, d] 2 = c from rfl, show atA [a, b, c, d] 3 = d from rfl, if_pos (own_in4 a b c d 1 (by decide) (by decide)), if_pos (own_in4 a b c d 2 (by decide) (by decide)), if_pos (own_in4 a b c d 3 (by decide) (by decide))]
  generalize own_W a = p
  generalize own_W b = q
  generalize own_W c = r
  generalize own_W d = s
  cases p <;> cases q <;> cases r <;> cases s <;> rfl
theorem own_tot (x : Int32) : ∃ v, f1_0 x = some v := by
  unfold f1_0
  repeat' split
  all_goals exact ⟨_, rfl⟩
theorem own_all (a b c d : Int32) : ∀ (i : Fin 5) (j : Fin 5), i.val + j.val < 5 → own_tail (Int32.ofNat i.val) (Int32.ofNat j.val) [a, b, c, d] = some 1 := by
  intro i j h
  match i, j, h with
  | ⟨0, _⟩, ⟨0, _⟩, _ => exact own_p_0_0 a b c d
  | ⟨0, _⟩, ⟨1, _⟩, _ => exact own_p_0_1 a b c d
  | ⟨0, _⟩, ⟨2, _⟩, _ => exact own_p_0_2 a b c d
  | ⟨0, _⟩, ⟨3, _⟩, _ => exact own_p_0_3 a b c d
  | ⟨0, _⟩, ⟨4, _⟩, _ => exact own_p_0_4 a b c d
  | ⟨1, _⟩, ⟨0, _⟩, _ => exact own_p_1_0 a b c d
  | ⟨1, _⟩, ⟨1, _⟩, _ => exact own_p_1_1 a b c d
  | ⟨1, _⟩, ⟨2, _⟩, _ => exact own_p_1_2 a b c d
  | ⟨1, _⟩, ⟨3, _⟩, _ => exact own_p_1_3 a b c d
  | ⟨1, _⟩, ⟨4, _⟩, h => exact absurd h (by show ¬ 1 + 4 < 5; decide)
  | ⟨2, _⟩, ⟨0, _⟩, _ => exact own_p_2_0 a b c d
  | ⟨2, _⟩, ⟨1, _⟩, _ => exact own_p_2_1 a b c d
  | ⟨2, _⟩, ⟨2, _⟩, _ => exact own_p_2_2 a b c d
  | ⟨2, _⟩, ⟨3, _⟩, h => exact absurd h (by show ¬ 2 + 3 < 5; decide)
  | ⟨2, _⟩, ⟨4, _⟩, h => exact absurd h (by show ¬ 2 + 4 < 5; decide)
  | ⟨3, _⟩, ⟨0, _⟩, _ => exact own_p_3_0 a b c d
  | ⟨3, _⟩, ⟨1, _⟩, _ => exact own_p_3_1 a b c d
  | ⟨3, _⟩, ⟨2, _⟩, h => exact absurd h (by show ¬ 3 + 2 < 5; decide)
  | ⟨3, _⟩, ⟨3, _⟩, h => exact absurd h (by show ¬ 3 + 3 < 5; decide)
  | ⟨3, _⟩, ⟨4, _⟩, h => exact absurd h (by show ¬ 3 + 4 < 5; decide)
  | ⟨4, _⟩, ⟨0, _⟩, _ => exact own_p_4_0 a b c d
  | ⟨4, _⟩, ⟨1, _⟩, h => exact absurd h (by show ¬ 4 + 1 < 5; decide)
  | ⟨4, _⟩, ⟨2, _⟩, h => exact absurd h (by show ¬ 4 + 2 < 5; decide)
  | ⟨4, _⟩, ⟨3, _⟩, h => exact absurd h (by show ¬ 4 + 3 < 5; decide)
  | ⟨4, _⟩, ⟨4, _⟩, h => exact absurd h (by show ¬ 4 + 4 < 5; decide)
theorem own_law (x0 : Int32) (x1 : Int32) (x2 : Int32) (x3 : Int32) (x4 : Int32) : f0_0 x0 x1 x2 x3 x4 = some 1 := by
  obtain ⟨a, ha⟩ := own_tot x0
  obtain ⟨b, hb⟩ := own_tot x1
  obtain ⟨c, hc⟩ := own_tot x2
  obtain ⟨d, hd⟩ := own_tot x3
  have m1 := own_mask x4 3 (by decide) 7 rfl
  have m2 := own_mask (XT.ushr x4 3) 3 (by decide) 7 rfl
  have r1 := own_remI (x4 &&& 7) 5 (by omega) (by decide)
  rw [show (5 : Int32).toInt = 5 from rfl] at r1
  have s5 : (5 - remI (x4 &&& 7) 5).toInt = 5 - (remI (x4 &&& 7) 5).toInt := by
    rw [Int32.toInt_sub]; exact Int.bmod_eq_of_le (by change -_ ≤ (5 : Int) - _; omega) (by change (5 : Int) - _ < _; omega)
  have r2 := own_remI (XT.ushr x4 3 &&& 7) (5 - remI (x4 &&& 7) 5) (by omega) (by omega)
  have n2 := Int.emod_nonneg (XT.ushr x4 3 &&& 7).toInt (b := (5 - remI (x4 &&& 7) 5).toInt) (by omega)
  have l2 := Int.emod_lt_of_pos (XT.ushr x4 3 &&& 7).toInt (b := (5 - remI (x4 &&& 7) 5).toInt) (by omega)
  obtain ⟨i, hi⟩ := own_fin32 (remI (x4 &&& 7) 5) 5 (by omega) (by omega)
  obtain ⟨j, hj⟩ := own_fin32 (remI (XT.ushr x4 3 &&& 7) (5 - remI (x4 &&& 7) 5)) 5 (by omega) (by omega)
  have e1 : (Int32.ofNat i.val).toInt = i.val := Int32.toInt_ofNat_of_lt (by omega)
  have e2 : (Int32.ofNat j.val).toInt = j.val := Int32.toInt_ofNat_of_lt (by omega)
  rw [hj] at r2
  rw [hi] at r1 s5
  rw [hi] at r2 l2
  unfold f0_0
  rw [ha, hb, hc, hd, Option.bind_some, Option.bind_some, Option.bind_some, Option.bind_some, if_neg (fun q => by rw [hi] at q; rw [q] at s5; change (0 : Int) = _ at s5; omega), hj, hi]
  exact own_all (i2cF a) (i2cF b) (i2cF c) (i2cF d) i j (by omega)


set_option maxRecDepth 65536 in
set_option maxHeartbeats 40000000 in
theorem comes_1 {Post : Tables → Env → Array Value → State → Outcome → State → Prop} (hpost : ∀ tb e args s v u, (limb_1_1.after args s (.returned v) u = true ∧ limb_1_2.after args s (.returned v) u = true ∧ True) → FrameEnd s (.returned v) u (Jvm.fieldLocs frame_1_writes args s ++ Jvm.arrayLocs frame_1_arrays args s ++ Jvm.staticLocs frame_1_statics s) 16 128 → Post tb e args s (.returned v) u) :
    ArmFor flags0 classFile x code maxLocals ret World_1 tables_1 room_1 Calls_1 rest_1 Pre_1 Post := by
  intro l hfl _ _ p e ha hc hk s m args below hf hA hF happ hP
  obtain ⟨hcalls, hrest, hpre⟩ := hP
  obtain ⟨-, -, -, hnamed, -, -, -, hat⟩ := (Spec.applies_iff hf).mp happ
  obtain ⟨hg, hn⟩ := and_e (Cond.before_iff.mp (show (Jvm.Cond.and given_1 narrow_1).before args s = true from hpre))
  obtain ⟨hcnt, q0⟩ := and_e hg
  obtain ⟨p0, q1⟩ := and_e q0
  obtain ⟨p1, q2⟩ := and_e q1
  obtain ⟨p2, q3⟩ := and_e q2
  obtain ⟨p3, q4⟩ := and_e q3
  obtain ⟨w0, w1, w2, w3, w4, rfl⟩ : ∃ w0 w1 w2 w3 w4 : Value, args = #[w0, w1, w2, w3, w4] := by
    have hs : args.size = 5 := by simpa [Cond.value, given_1] using hcnt
    obtain ⟨L⟩ := args
    match L, hs with
    | [w0, w1, w2, w3, w4], _ => exact ⟨w0, w1, w2, w3, w4, rfl⟩
  have hw := fun d (hd : d ∈ tables_1) => atoms_spec (ws := Jvm.Cond.code x code maxLocals ret :: tables_1) hat d (List.mem_cons_of_mem _ hd)
  obtain ⟨i0, c0⟩ := is_v p0
  obtain rfl : w0 = (.int i0) := Option.some.inj c0
  obtain ⟨i1, c1⟩ := is_v p1
  obtain rfl : w1 = (.int i1) := Option.some.inj c1
  obtain ⟨i2, c2⟩ := is_v p2
  obtain rfl : w2 = (.int i2) := Option.some.inj c2
  obtain ⟨i3, c3⟩ := is_v p3
  obtain rfl : w3 = (.int i3) := Option.some.inj c3
  obtain ⟨i4, c4⟩ := is_v q4
  obtain rfl : w4 = (.int i4) := Option.some.inj c4
  obtain ⟨n, o, h1, h2, h3, _, L, rfl, ⟨rfl, N⟩, hq⟩ := rm0 l s _ hw tables_1 i0 i1 i2 i3 i4 s.heap s.heap.size (Nat.le_refl _) 1 (own_law i0 i1 i2 i3 i4) p e ha hc hk s m _ below hf ((Spec.applies_iff_loose hf).mp happ).1 ⟨rfl, State.Warmed39.refl s, rfl⟩ trivial
  refine ⟨n, _, h1, h2, h3, hpost _ _ _ _ _ _ ⟨Cond.after_iff.mpr rfl, Cond.after_iff.mpr (eq_i res_at (Term.int_eval (1)) rfl), trivial⟩ ⟨hq.1, hq.2.1, (hq.2.2.sift fun y hy => Or.inr (N y hy)).mono (by decide) (by decide)⟩⟩
theorem main_1_1 : Claimed_1_1 := comes_1 fun _ _ _ _ _ _ h hF => ⟨h.1, hF⟩
theorem main_1_2 : Claimed_1_2 := comes_1 fun _ _ _ _ _ _ h hF => ⟨h.2.1, hF⟩
end Jvm.Pilot.@@N@@
namespace Jvm.Pilot.@@N@@
open Jvm Jvm.ClassFile Sem Op Lib Jvm.Free Jvm.Stand Jvm.Pilot.@@N@@.Jvm.D
/-! MADE BY PROGRAM (witnessworld.py) out of the Statement's table words and the real class files: 14 classes; the members and pool entries that the words name. The judged class is class 1, her method 4. -/
namespace start1
open Jvm.ClassFile
def u (s : String) : CpInfo := .utf8 (stringToUtf16 s)
/-- a pool by its gaps: so many unusable entries, then the entry; so many at the end -/
def gap : Nat → List CpInfo → List CpInfo
  | 0, r => r
  | n + 1, r => .unusable :: gap n r
def poolList (es : List (Nat × CpInfo)) (last : Nat) : List CpInfo := es.foldr (fun e r => gap e.1 (e.2 :: r)) (gap last [])
def pool (es : List (Nat × CpInfo)) (last : Nat) : Array CpInfo := ⟨poolList es last⟩
def fileOf (pool : Array CpInfo) (this : Nat) (attrs : Array Attribute := #[]) (ms : Array MethodInfo := #[]) (fl : Nat := 33) (sup : Nat := 0) (ifs : Array Nat := #[]) (fds : Array FieldInfo := #[]) : ClassFile where
  minorVersion := 0
  majorVersion := 65
  constantPool := pool
  accessFlags := fl
  thisClass := this
  superClass := sup
  interfaces := ifs
  fields := fds
  methods := ms
  attributes := attrs
def plain (name : String) (sup : Option ClassId) : Class where
  name := name
  kind := .ordinary
  loader := none
  accessFlags := 33
  super := sup
  interfaces := #[]
  cf := none
  fields := #[]
  methods := #[]
  instanceTypes := #[]
  staticTypes := #[]
  resolved := #[]
  callSites := []
  init := .initialized
  statics := none
  mirror := none

def pool0 : Array CpInfo := pool [(5, u "<init>"), (0, u "()V"), (1, .class_ 10), (1, u "java/lang/Object")] 113

def k0m0 : Method := { name := "<init>", desc := "()V", sig := { parameters := [], returnType := none }, accessFlags := 1, code := none }
/-- java/lang/Object -/
def k0 : Class := { plain "java/lang/Object" none with
  accessFlags := 33
  interfaces := #[]
  cf := some (fileOf pool0 8 #[] #[{ accessFlags := 1, nameIndex := 5, descriptorIndex := 6, attributes := #[] }] 33 0 #[] #[])
  fields := #[]
  methods := #[k0m0]
  instanceTypes := #[]
  staticTypes := #[]
  resolved := Array.replicate 124 none
  statics := none }

def pool1 : Array CpInfo := pool [(2, .class_ 4), (1, u "java/lang/Object"), (0, u "<init>"), (0, u "()V"), (0, .integer 65536), (0, .integer 65535), (0, .methodref 10 11), (0, .class_ 12), (0, .nameAndType 13 14), (0, u "com/example/sleyreed/sleyreed/serialize/SerializerIsWhitespacePinLaw"), (0, u "draw"), (0, u "(I)C"), (0, .methodref 10 16), (0, .nameAndType 17 18), (0, u "inside"), (0, u "(III)Z"), (0, .methodref 10 20), (0, .nameAndType 21 22), (0, u "ws"), (0, u "(C)Z"), (0, .methodref 24 25), (0, .class_ 26), (0, .nameAndType 27 28), (0, u "com/example/sleyreed/sleyreed/serialize/Serializer"), (0, u "isWhitespace"), (0, u "([CII)Z"), (3, u "law"), (0, u "(IIIII)Z")] 4

def k1m0 : Method := { name := "<init>", desc := "()V", sig := { parameters := [], returnType := none }, accessFlags := 2, code := none }
def k1c1 : Code := { maxStack := 2, maxLocals := 2, code := method_2_code, exceptionTable := #[], attributes := #[] }
def k1m1 : Method := { name := "draw", desc := "(I)C", sig := { parameters := [.int], returnType := some .char }, accessFlags := 10, code := some k1c1 }
def k1c2 : Code := { maxStack := 2, maxLocals := 1, code := method_3_code, exceptionTable := #[], attributes := #[] }
def k1m2 : Method := { name := "ws", desc := "(C)Z", sig := { parameters := [.char], returnType := some .boolean }, accessFlags := 10, code := some k1c2 }
def k1c3 : Code := { maxStack := 3, maxLocals := 3, code := method_4_code, exceptionTable := #[], attributes := #[] }
def k1m3 : Method := { name := "inside", desc := "(III)Z", sig := { parameters := [.int, .int, .int], returnType := some .boolean }, accessFlags := 10, code := some k1c3 }
def k1c4 : Code := { maxStack := 3, maxLocals := 9, code := code, exceptionTable := #[], attributes := #[] }
def k1m4 : Method := { name := "law", desc := "(IIIII)Z", sig := { parameters := [.int, .int, .int, .int, .int], returnType := some .boolean }, accessFlags := 9, code := some k1c4 }
/-- com/example/sleyreed/sleyreed/serialize/SerializerIsWhitespacePinLaw -/
def k1 : Class := { plain "com/example/sleyreed/sleyreed/serialize/SerializerIsWhitespacePinLaw" (some 0) with
  accessFlags := 49
  interfaces := #[]
  cf := some (fileOf pool1 10 #[] #[{ accessFlags := 2, nameIndex := 5, descriptorIndex := 6, attributes := #[] }, { accessFlags := 10, nameIndex := 13, descriptorIndex := 14, attributes := #[] }, { accessFlags := 10, nameIndex := 21, descriptorIndex := 22, attributes := #[] }, { accessFlags := 10, nameIndex := 17, descriptorIndex := 18, attributes := #[] }, { accessFlags := 9, nameIndex := 32, descriptorIndex := 33, attributes := #[] }] 49 2 #[] #[])
  fields := #[]
  methods := #[k1m0, k1m1, k1m2, k1m3, k1m4]
  instanceTypes := #[]
  staticTypes := #[]
  resolved := Array.replicate 38 none
  statics := none }

def pool2 : Array CpInfo := pool [(1, u "org/xml/sax/ContentHandler"), (0, .class_ 1), (0, u "java/lang/Object"), (0, .class_ 3)] 0

/-- org/xml/sax/ContentHandler -/
def k2 : Class := { plain "org/xml/sax/ContentHandler" (some 0) with
  accessFlags := 1537
  interfaces := #[]
  cf := some (fileOf pool2 2 #[] #[] 1537 4 #[] #[])
  fields := #[]
  methods := #[]
  instanceTypes := #[]
  staticTypes := #[]
  resolved := Array.replicate 5 none
  statics := none }

def pool3 : Array CpInfo := pool [(1, u "org/xml/sax/ext/LexicalHandler"), (0, .class_ 1), (0, u "java/lang/Object"), (0, .class_ 3)] 0

/-- org/xml/sax/ext/LexicalHandler -/
def k3 : Class := { plain "org/xml/sax/ext/LexicalHandler" (some 0) with
  accessFlags := 1537
  interfaces := #[]
  cf := some (fileOf pool3 2 #[] #[] 1537 4 #[] #[])
  fields := #[]
  methods := #[]
  instanceTypes := #[]
  staticTypes := #[]
  resolved := Array.replicate 5 none
  statics := none }

def pool4 : Array CpInfo := pool [(2, .class_ 4), (1, u "com/example/sleyreed/sleyreed/serialize/ResultHandler"), (2, .class_ 8), (0, u "java/lang/Object"), (0, .class_ 10), (0, u "org/xml/sax/ContentHandler"), (0, .class_ 12), (0, u "org/xml/sax/ext/LexicalHandler")] 19

/-- com/example/sleyreed/sleyreed/serialize/ResultHandler -/
def k4 : Class := { plain "com/example/sleyreed/sleyreed/serialize/ResultHandler" (some 0) with
  accessFlags := 1537
  interfaces := #[2, 3]
  cf := some (fileOf pool4 2 #[] #[] 1537 7 #[9, 11] #[])
  fields := #[]
  methods := #[]
  instanceTypes := #[]
  staticTypes := #[]
  resolved := Array.replicate 32 none
  statics := none }

def pool5 : Array CpInfo := pool [(2, .class_ 4), (1, u "java/lang/Object"), (0, u "<init>"), (0, u "()V"), (43, .class_ 51), (0, u "com/example/sleyreed/sleyreed/serialize/Serializer"), (0, .class_ 53), (0, u "com/example/sleyreed/sleyreed/serialize/ResultHandler"), (7, u "isWhitespace"), (0, u "([CII)Z")] 11

def k5m0 : Method := { name := "<init>", desc := "()V", sig := { parameters := [], returnType := none }, accessFlags := 0, code := none }
def k5c1 : Code := { maxStack := 3, maxLocals := 5, code := prog_65_method_4_code, exceptionTable := #[], attributes := #[] }
def k5m1 : Method := { name := "isWhitespace", desc := "([CII)Z", sig := { parameters := [(.array .char), .int, .int], returnType := some .boolean }, accessFlags := 8, code := some k5c1 }
/-- com/example/sleyreed/sleyreed/serialize/Serializer -/
def k5 : Class := { plain "com/example/sleyreed/sleyreed/serialize/Serializer" (some 0) with
  accessFlags := 1057
  interfaces := #[4]
  cf := some (fileOf pool5 50 #[] #[{ accessFlags := 0, nameIndex := 5, descriptorIndex := 6, attributes := #[] }, { accessFlags := 8, nameIndex := 61, descriptorIndex := 62, attributes := #[] }] 1057 2 #[52] #[])
  fields := #[]
  methods := #[k5m0, k5m1]
  instanceTypes := #[]
  staticTypes := #[]
  resolved := Array.replicate 74 none
  statics := none }

def pool6 : Array CpInfo := pool [(1, u "java/lang/Cloneable"), (0, .class_ 1), (0, u "java/lang/Object"), (0, .class_ 3)] 3

/-- java/lang/Cloneable -/
def k6 : Class := { plain "java/lang/Cloneable" (some 0) with
  accessFlags := 1537
  interfaces := #[]
  cf := some (fileOf pool6 2 #[] #[] 1537 4 #[] #[])
  fields := #[]
  methods := #[]
  instanceTypes := #[]
  staticTypes := #[]
  resolved := Array.replicate 8 none
  statics := none }

def pool7 : Array CpInfo := pool [(1, u "java/io/Serializable"), (0, .class_ 1), (0, u "java/lang/Object"), (0, .class_ 3)] 3

/-- java/io/Serializable -/
def k7 : Class := { plain "java/io/Serializable" (some 0) with
  accessFlags := 1537
  interfaces := #[]
  cf := some (fileOf pool7 2 #[] #[] 1537 4 #[] #[])
  fields := #[]
  methods := #[]
  instanceTypes := #[]
  staticTypes := #[]
  resolved := Array.replicate 8 none
  statics := none }

/-- the primitive byte -/
def k8 : Class := { plain "byte" none with kind := .primitive 'B', accessFlags := 0x411 }
/-- [B -/
def k9 : Class := { plain "[B" (some 0) with kind := .array 8 .byte, interfaces := #[6, 7], accessFlags := 1041 }

/-- the primitive char -/
def k10 : Class := { plain "char" none with kind := .primitive 'C', accessFlags := 0x411 }
/-- [C -/
def k11 : Class := { plain "[C" (some 0) with kind := .array 10 .char, interfaces := #[6, 7], accessFlags := 1041 }

/-- the primitive int -/
def k12 : Class := { plain "int" none with kind := .primitive 'I', accessFlags := 0x411 }
/-- [I -/
def k13 : Class := { plain "[I" (some 0) with kind := .array 12 .int, interfaces := #[6, 7], accessFlags := 1041 }

def heap : Heap := #[]
def classes : Array Class := #[k0, k1, k2, k3, k4, k5, k6, k7, k8, k9, k10, k11, k12, k13]
def interned : List (Array UInt16 × Addr) := []
def slotsUsed : Nat := 0
def theMethod : MethodId := ⟨1, 4⟩
def args0 : Array Value := #[.int 5, .int 5, .int 5, .int 5, .int 5]
def aboutOver (below : List Frame) : State where
  vm := { classes := classes, interned := interned.toArray }
  heap := heap
  slotsUsed := slotsUsed
  threads := #[{ frames := .invoking theMethod args0 :: below }]
def below0 : List Frame := [.native { method := ⟨0, 0⟩, args := #[] }]
def about1 : State := aboutOver below0
def p0 : Program := .bare "" "" ""
def e0 : Env := launch0.env 0 0 0
theorem w_frames : about1.frames = Frame.invoking theMethod args0 :: below0 := rfl
set_option maxRecDepth 65536 in
theorem w_args : argsFit about1.vm theMethod args0 = true := by decide +kernel
set_option maxRecDepth 65536 in
theorem w_heap : heapFits about1 = true := by decide +kernel
set_option maxRecDepth 65536 in
theorem w_runnable : about1.curStatus? = some .runnable := by decide +kernel
set_option maxRecDepth 65536 in
theorem w_alone : about1.alone = true := by decide +kernel
set_option maxRecDepth 65536 in
theorem w_named : about1.methodNamed? x = some theMethod := by decide +kernel
set_option maxRecDepth 65536 in
theorem w_hears : about1.hears theMethod below0 = true := by decide +kernel
set_option maxRecDepth 65536 in
theorem w_ripe : about1.ripe theMethod args0 below0 = true := by decide +kernel
theorem w_running : about1.status = .running := rfl
set_option maxRecDepth 65536 in
theorem w_room : about1.hasRoom e0.platform room_1 = true :=
  launch0.hasRoom_least _ room_1 (by decide +kernel) (by decide +kernel) (by decide +kernel) (by decide +kernel) (by decide +kernel) (by decide +kernel)
theorem allAtoms_all (ts : List Jvm.Cond) (a : Array Jvm.Value) (st : Jvm.State) : (allAtoms ts).before a st = ts.all (fun c => c.before a st) := by
  induction ts with
  | nil => rfl
  | cons c t ih =>
    show (Jvm.Cond.and c (allAtoms t)).before a st = _
    rw [Jvm.Cond.before_and, ih, List.all_cons]
def words1 : List Jvm.Cond := Jvm.Cond.code x code maxLocals ret :: tables_1
/-- a 'code' word, met by the world's own term for the bytes: nothing is compared byte by byte -/
theorem code_word {y : MethodName} {bytes : ByteArray} {mx : Nat} {rt : Option FieldType} {a : Array Value} {s : State} {m : MethodId} {meth : Method} {c : Code} (h1 : s.methodNamed? y = some m) (h2 : s.vm.method? m = some meth) (h3 : meth.code = some c) (h4 : c.code = bytes)
    (h5 : (c.maxLocals == mx && c.exceptionTable.isEmpty && decide (c.maxStack ≤ mostOperands) && decide (meth.sig.returnType = rt) && !meth.locks && decide (parseMethodDescriptor y.desc = some meth.sig)) = true) : (Jvm.Cond.code y bytes mx rt).before a s = true := by
  simp only [Bool.and_eq_true, beq_iff_eq, Bool.not_eq_true', decide_eq_true_eq] at h5
  obtain ⟨⟨⟨⟨⟨g1, g2⟩, g3⟩, g4⟩, g5⟩, g6⟩ := h5
  simp [Cond.before, Cond.holds, Cond.value, h1, h2, h3, h4, g1, g2, g3, g4, g5, g6]
def isCode : Jvm.Cond → Bool
  | .code _ _ _ _ => true
  | _ => false
theorem all_split {L : List Jvm.Cond} {P : Jvm.Cond → Bool} (h1 : L.all (fun c => isCode c || P c) = true) (h2 : ∀ c ∈ L.filter isCode, P c = true) : L.all P = true := by
  refine List.all_eq_true.mpr fun c hc => ?_
  have h := List.all_eq_true.mp h1 c hc
  rcases Bool.eq_false_or_eq_true (isCode c) with hi | hi
  · exact h2 c (List.mem_filter.mpr ⟨hc, hi⟩)
  · simpa [hi] using h
set_option maxRecDepth 65536 in
theorem w_c0 : (Jvm.Cond.code x code maxLocals ret).before args0 about1 = true := code_word (m := ⟨1, 4⟩) (meth := k1m4) (c := k1c4) (by decide +kernel) rfl rfl rfl (by decide +kernel)
set_option maxRecDepth 65536 in
theorem w_c1 : (Jvm.Cond.code ({ cls := "com/example/sleyreed/sleyreed/serialize/SerializerIsWhitespacePinLaw", name := "draw", desc := "(I)C" } : Jvm.MethodName) method_2_code (2 : Nat) (Option.some Jvm.ClassFile.FieldType.char)).before args0 about1 = true := code_word (m := ⟨1, 1⟩) (meth := k1m1) (c := k1c1) (by decide +kernel) rfl rfl rfl (by decide +kernel)
set_option maxRecDepth 65536 in
theorem w_c2 : (Jvm.Cond.code ({ cls := "com/example/sleyreed/sleyreed/serialize/SerializerIsWhitespacePinLaw", name := "inside", desc := "(III)Z" } : Jvm.MethodName) method_4_code (3 : Nat) (Option.some Jvm.ClassFile.FieldType.boolean)).before args0 about1 = true := code_word (m := ⟨1, 3⟩) (meth := k1m3) (c := k1c3) (by decide +kernel) rfl rfl rfl (by decide +kernel)
set_option maxRecDepth 65536 in
theorem w_c3 : (Jvm.Cond.code ({ cls := "com/example/sleyreed/sleyreed/serialize/Serializer", name := "isWhitespace", desc := "([CII)Z" } : Jvm.MethodName) prog_65_method_4_code (5 : Nat) (Option.some Jvm.ClassFile.FieldType.boolean)).before args0 about1 = true := code_word (m := ⟨5, 1⟩) (meth := k5m1) (c := k5c1) (by decide +kernel) rfl rfl rfl (by decide +kernel)
set_option maxRecDepth 65536 in
theorem w_c4 : (Jvm.Cond.code ({ cls := "com/example/sleyreed/sleyreed/serialize/SerializerIsWhitespacePinLaw", name := "ws", desc := "(C)Z" } : Jvm.MethodName) method_3_code (1 : Nat) (Option.some Jvm.ClassFile.FieldType.boolean)).before args0 about1 = true := code_word (m := ⟨1, 2⟩) (meth := k1m2) (c := k1c2) (by decide +kernel) rfl rfl rfl (by decide +kernel)
def codes1 : List Jvm.Cond := [Jvm.Cond.code x code maxLocals ret, Jvm.Cond.code ({ cls := "com/example/sleyreed/sleyreed/serialize/SerializerIsWhitespacePinLaw", name := "draw", desc := "(I)C" } : Jvm.MethodName) method_2_code (2 : Nat) (Option.some Jvm.ClassFile.FieldType.char), Jvm.Cond.code ({ cls := "com/example/sleyreed/sleyreed/serialize/SerializerIsWhitespacePinLaw", name := "inside", desc := "(III)Z" } : Jvm.MethodName) method_4_code (3 : Nat) (Option.some Jvm.ClassFile.FieldType.boolean), Jvm.Cond.code ({ cls := "com/example/sleyreed/sleyreed/serialize/Serializer", name := "isWhitespace", desc := "([CII)Z" } : Jvm.MethodName) prog_65_method_4_code (5 : Nat) (Option.some Jvm.ClassFile.FieldType.boolean), Jvm.Cond.code ({ cls := "com/example/sleyreed/sleyreed/serialize/SerializerIsWhitespacePinLaw", name := "ws", desc := "(C)Z" } : Jvm.MethodName) method_3_code (1 : Nat) (Option.some Jvm.ClassFile.FieldType.boolean)]
set_option maxRecDepth 65536 in
theorem codes_eq : words1.filter isCode = codes1 := rfl
theorem w_codes : ∀ c ∈ words1.filter isCode, c.before args0 about1 = true := by
  rw [codes_eq]
  intro c hc
  simp only [codes1, List.mem_cons, List.not_mem_nil, or_false] at hc
  rcases hc with rfl | rfl | rfl | rfl | rfl
  · exact w_c0
  · exact w_c1
  · exact w_c2
  · exact w_c3
  · exact w_c4
set_option maxRecDepth 65536 in
theorem w_t1 : words1.all (fun c => isCode c || c.before args0 about1) = true := by decide +kernel
theorem w_tables : (allAtoms (Jvm.Cond.code x code maxLocals ret :: tables_1)).before args0 about1 = true := by
  rw [allAtoms_all]
  show words1.all (fun c => c.before args0 about1) = true
  refine all_split ?_ w_codes
  rw [w_t1]
set_option maxRecDepth 65536 in
theorem w_case : (Jvm.Cond.and given_1 narrow_1).before args0 about1 = true := by decide +kernel
theorem w_applies : (headSpec (Jvm.Cond.code x code maxLocals ret :: tables_1) room_1).applies x e0.platform about1 = true :=
  (Spec.applies_iff w_frames).mpr ⟨w_running, w_runnable, w_alone, w_named, w_hears, w_ripe, w_room, w_tables⟩
theorem atStart : AtStart classFile x code maxLocals ret World_1 tables_1 room_1 Calls_1 rest_1 Pre_1 launch0 p0 e0 about1 theMethod args0 below0 :=
  ⟨lists_1, trivial, launch0.admits_env _ _ _, launch0.least_env, fairChoices_fair.cas, fairChoices_fair.clock, w_frames, w_args, w_heap, w_applies, trivial, trivial, w_case⟩
end start1
theorem witness_1 : WitnessClaimed_1 := ⟨start1.p0, start1.e0, start1.about1, start1.theMethod, start1.args0, start1.below0, start1.atStart⟩
end Jvm.Pilot.@@N@@
