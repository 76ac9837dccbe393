import JvmDerived
import JvmDerived.Pilot.@@N@@Statement
import JvmDerived.Pilot.@@N@@Code
set_option linter.unusedVariables false
set_option linter.unusedSimpArgs false
namespace Jvm.Pilot.@@N@@
open Jvm Jvm.ClassFile Sem Op Lib Jvm.Free Jvm.Stand Jvm.LawKit Jvm.RoadKit Bundle Jvm.Pilot.@@N@@.Jvm.D

/-- from here the invocation ends, and what it leaves meets Q -/
def Go (p : Program) (e : Env) (below : List Frame) (s : State) (mc ms : Nat) (Q : Option Value → Heap → List Loc → Prop) (m : MethodId) (T : State) (pc : Nat) (Ls : Array Slot) (st : List Value) : Prop :=
  ∃ s₂ o, Steps p.tables e below (T.setTop (mkF m pc Ls st)) s₂ ∧ s₂.status = .running ∧ Ended s₂ below o ∧ ∃ v L, o = .returned v ∧ Q v s₂.heap L ∧ FrameEnd s o s₂ L mc ms
section Law
variable {p : Program} {l : Launch} {e : Env} {R : Room} {s : State} {m : MethodId} {args : Array Value} {below : List Frame} {meth : Method} {c : Code} {T T' : State} {locs : List Loc} {cells slots : Nat} {code : ByteArray} {Q : Option Value → Heap → List Loc → Prop} {mc ms : Nat} {pc pc' : Nat} {Ls Ls' : Array Slot} {st st' rest : List Value}
theorem Go.of (k : Go p e below s mc ms Q m T' pc' Ls' st') (h : ∀ t, Steps p.tables e below (T'.setTop (mkF m pc' Ls' st')) t → Steps p.tables e below (T.setTop (mkF m pc Ls st)) t) : Go p e below s mc ms Q m T pc Ls st := by
  obtain ⟨a, o, h1, h2⟩ := k
  exact ⟨a, o, h _ h1, h2⟩
def remI (x y : Int32) : Int32 := x - (x / y) * y
def remJ (x y : Int64) : Int64 := x - (x / y) * y
def i2bF (x : Int32) : Int32 := x.toInt8.toInt32
def i2cF (x : Int32) : Int32 := x.toUInt32.toUInt16.toUInt32.toInt32
def i2sF (x : Int32) : Int32 := x.toInt16.toInt32
def shlI (x y : Int32) : Int32 := x <<< (y &&& 31)
def shrI (x y : Int32) : Int32 := x >>> (y &&& 31)
def shlJ (x : Int64) (y : Int32) : Int64 := x <<< (y.toInt64 &&& 63)
def shrJ (x : Int64) (y : Int32) : Int64 := x >>> (y.toInt64 &&& 63)

theorem Go.iload (X : Stand p l e R s m args below meth c T locs cells slots) (hx : p.tables.exec = Jvm.exec) (hby : c.code = code) {k : Nat} {v : Int32} (hd : decode code pc = .ok (.iload k, 2)) (hpc : pc + 2 = pc') (hl : Ls[k]? = some (.val (.int v))) (h : Go p e below s mc ms Q m T pc' Ls (.int v :: st)) : Go p e below s mc ms Q m T pc Ls (st) := by
  subst hpc; exact h.of fun _ kk => XS.iload (g := mkF m pc Ls (st)) X.here hx rfl (hb hby hd) hl kk
theorem Go.iloadN (X : Stand p l e R s m args below meth c T locs cells slots) (hx : p.tables.exec = Jvm.exec) (hby : c.code = code) {k : Fin 4} {v : Int32} (hd : decode code pc = .ok (.iload_n k, 1)) (hpc : pc + 1 = pc') (hl : Ls[k.val]? = some (.val (.int v))) (h : Go p e below s mc ms Q m T pc' Ls (.int v :: st)) : Go p e below s mc ms Q m T pc Ls (st) := by
  subst hpc; exact h.of fun _ kk => XS.iloadN (g := mkF m pc Ls (st)) X.here hx rfl (hb hby hd) hl kk
theorem Go.lload (X : Stand p l e R s m args below meth c T locs cells slots) (hx : p.tables.exec = Jvm.exec) (hby : c.code = code) {k : Nat} {v : Int64} (hd : decode code pc = .ok (.lload k, 2)) (hpc : pc + 2 = pc') (hl : Ls[k]? = some (.val (.long v))) (h : Go p e below s mc ms Q m T pc' Ls (.long v :: st)) : Go p e below s mc ms Q m T pc Ls (st) := by
  subst hpc; exact h.of fun _ kk => XT.lload (g := mkF m pc Ls (st)) X.here hx rfl (hb hby hd) hl kk
theorem Go.lloadN (X : Stand p l e R s m args below meth c T locs cells slots) (hx : p.tables.exec = Jvm.exec) (hby : c.code = code) {k : Fin 4} {v : Int64} (hd : decode code pc = .ok (.lload_n k, 1)) (hpc : pc + 1 = pc') (hl : Ls[k.val]? = some (.val (.long v))) (h : Go p e below s mc ms Q m T pc' Ls (.long v :: st)) : Go p e below s mc ms Q m T pc Ls (st) := by
  subst hpc; exact h.of fun _ kk => XT.lloadN (g := mkF m pc Ls (st)) X.here hx rfl (hb hby hd) hl kk
theorem Go.aload (X : Stand p l e R s m args below meth c T locs cells slots) (hx : p.tables.exec = Jvm.exec) (hby : c.code = code) {k : Nat} {v : Value} (hd : decode code pc = .ok (.aload k, 2)) (hpc : pc + 2 = pc') (hl : Ls[k]? = some (.val v)) (hv : v.isRef = true) (h : Go p e below s mc ms Q m T pc' Ls (v :: st)) : Go p e below s mc ms Q m T pc Ls (st) := by
  subst hpc; exact h.of fun _ kk => XS.aload (g := mkF m pc Ls (st)) X.here hx rfl (hb hby hd) hl hv kk
theorem Go.aloadN (X : Stand p l e R s m args below meth c T locs cells slots) (hx : p.tables.exec = Jvm.exec) (hby : c.code = code) {k : Fin 4} {v : Value} (hd : decode code pc = .ok (.aload_n k, 1)) (hpc : pc + 1 = pc') (hl : Ls[k.val]? = some (.val v)) (hv : v.isRef = true) (h : Go p e below s mc ms Q m T pc' Ls (v :: st)) : Go p e below s mc ms Q m T pc Ls (st) := by
  subst hpc; exact h.of fun _ kk => XS.aloadN (g := mkF m pc Ls (st)) X.here hx rfl (hb hby hd) hl hv kk
theorem Go.istore (X : Stand p l e R s m args below meth c T locs cells slots) (hx : p.tables.exec = Jvm.exec) (hby : c.code = code) {k : Nat} {v : Int32} (hd : decode code pc = .ok (.istore k, 2)) (hpc : pc + 2 = pc') (hl : storeLocals Ls k (.int v) = some Ls') (h : Go p e below s mc ms Q m T pc' Ls' (st)) : Go p e below s mc ms Q m T pc Ls (.int v :: st) := by
  subst hpc; exact h.of fun _ kk => XS.istore (g := mkF m pc Ls (.int v :: st)) X.here hx rfl (hb hby hd) rfl hl kk
theorem Go.istoreN (X : Stand p l e R s m args below meth c T locs cells slots) (hx : p.tables.exec = Jvm.exec) (hby : c.code = code) {k : Fin 4} {v : Int32} (hd : decode code pc = .ok (.istore_n k, 1)) (hpc : pc + 1 = pc') (hl : storeLocals Ls k.val (.int v) = some Ls') (h : Go p e below s mc ms Q m T pc' Ls' (st)) : Go p e below s mc ms Q m T pc Ls (.int v :: st) := by
  subst hpc; exact h.of fun _ kk => XS.istoreN (g := mkF m pc Ls (.int v :: st)) X.here hx rfl (hb hby hd) rfl hl kk
theorem Go.lstore (X : Stand p l e R s m args below meth c T locs cells slots) (hx : p.tables.exec = Jvm.exec) (hby : c.code = code) {k : Nat} {v : Int64} (hd : decode code pc = .ok (.lstore k, 2)) (hpc : pc + 2 = pc') (hl : storeLocals Ls k (.long v) = some Ls') (h : Go p e below s mc ms Q m T pc' Ls' (st)) : Go p e below s mc ms Q m T pc Ls (.long v :: st) := by
  subst hpc; exact h.of fun _ kk => XT.lstore (g := mkF m pc Ls (.long v :: st)) X.here hx rfl (hb hby hd) rfl hl kk
theorem Go.lstoreN (X : Stand p l e R s m args below meth c T locs cells slots) (hx : p.tables.exec = Jvm.exec) (hby : c.code = code) {k : Fin 4} {v : Int64} (hd : decode code pc = .ok (.lstore_n k, 1)) (hpc : pc + 1 = pc') (hl : storeLocals Ls k.val (.long v) = some Ls') (h : Go p e below s mc ms Q m T pc' Ls' (st)) : Go p e below s mc ms Q m T pc Ls (.long v :: st) := by
  subst hpc; exact h.of fun _ kk => XT.lstoreN (g := mkF m pc Ls (.long v :: st)) X.here hx rfl (hb hby hd) rfl hl kk
theorem Go.astore (X : Stand p l e R s m args below meth c T locs cells slots) (hx : p.tables.exec = Jvm.exec) (hby : c.code = code) {k : Nat} {v : Value} (hd : decode code pc = .ok (.astore k, 2)) (hpc : pc + 2 = pc') (hv : v.isRef = true) (hl : storeLocals Ls k v = some Ls') (h : Go p e below s mc ms Q m T pc' Ls' (st)) : Go p e below s mc ms Q m T pc Ls (v :: st) := by
  subst hpc; exact h.of fun _ kk => XS.astore (g := mkF m pc Ls (v :: st)) X.here hx rfl (hb hby hd) rfl hv hl kk
theorem Go.astoreN (X : Stand p l e R s m args below meth c T locs cells slots) (hx : p.tables.exec = Jvm.exec) (hby : c.code = code) {k : Fin 4} {v : Value} (hd : decode code pc = .ok (.astore_n k, 1)) (hpc : pc + 1 = pc') (hv : v.isRef = true) (hl : storeLocals Ls k.val v = some Ls') (h : Go p e below s mc ms Q m T pc' Ls' (st)) : Go p e below s mc ms Q m T pc Ls (v :: st) := by
  subst hpc; exact h.of fun _ kk => XS.astoreN (g := mkF m pc Ls (v :: st)) X.here hx rfl (hb hby hd) rfl hv hl kk
theorem Go.iconst (X : Stand p l e R s m args below meth c T locs cells slots) (hx : p.tables.exec = Jvm.exec) (hby : c.code = code) {i : Int} {v : Int32} (hd : decode code pc = .ok (.iconst i, 1)) (hpc : pc + 1 = pc') (hv : Int32.ofInt i = v) (h : Go p e below s mc ms Q m T pc' Ls (.int v :: st)) : Go p e below s mc ms Q m T pc Ls (st) := by
  subst hpc; exact h.of fun _ kk => XT.iconstV (g := mkF m pc Ls (st)) X.here hx rfl v (hb hby hd) hv kk
theorem Go.bipush (X : Stand p l e R s m args below meth c T locs cells slots) (hx : p.tables.exec = Jvm.exec) (hby : c.code = code) {i : Int} {v : Int32} (hd : decode code pc = .ok (.bipush i, 2)) (hpc : pc + 2 = pc') (hv : (Int8.ofInt i).toInt32 = v) (h : Go p e below s mc ms Q m T pc' Ls (.int v :: st)) : Go p e below s mc ms Q m T pc Ls (st) := by
  subst hpc; exact h.of fun _ kk => XT.bipushV (g := mkF m pc Ls (st)) X.here hx rfl v (hb hby hd) hv kk
theorem Go.sipush (X : Stand p l e R s m args below meth c T locs cells slots) (hx : p.tables.exec = Jvm.exec) (hby : c.code = code) {i : Int} {v : Int32} (hd : decode code pc = .ok (.sipush i, 3)) (hpc : pc + 3 = pc') (hv : (Int16.ofInt i).toInt32 = v) (h : Go p e below s mc ms Q m T pc' Ls (.int v :: st)) : Go p e below s mc ms Q m T pc Ls (st) := by
  subst hpc; exact h.of fun _ kk => XT.sipushV (g := mkF m pc Ls (st)) X.here hx rfl v (hb hby hd) hv kk
theorem Go.lconst (X : Stand p l e R s m args below meth c T locs cells slots) (hx : p.tables.exec = Jvm.exec) (hby : c.code = code) {k : Fin 2} {v : Int64} (hd : decode code pc = .ok (.lconst k, 1)) (hpc : pc + 1 = pc') (hv : Int64.ofNat k = v) (h : Go p e below s mc ms Q m T pc' Ls (.long v :: st)) : Go p e below s mc ms Q m T pc Ls (st) := by
  subst hpc; exact h.of fun _ kk => XT.lconstV (g := mkF m pc Ls (st)) X.here hx rfl v (hb hby hd) hv kk
theorem Go.aconstNull (X : Stand p l e R s m args below meth c T locs cells slots) (hx : p.tables.exec = Jvm.exec) (hby : c.code = code) (hd : decode code pc = .ok (.aconst_null, 1)) (hpc : pc + 1 = pc') (h : Go p e below s mc ms Q m T pc' Ls (.null :: st)) : Go p e below s mc ms Q m T pc Ls (st) := by
  subst hpc; exact h.of fun _ kk => XS.aconstNull (g := mkF m pc Ls (st)) X.here hx rfl (hb hby hd) kk
theorem Go.ldcI (X : Stand p l e R s m args below meth c T locs cells slots) (hx : p.tables.exec = Jvm.exec) (hby : c.code = code) {Z : State} {a0 : Array Value} (hZ : Z.Warmed39 s.vm) {own : String} {k : Nat} {v : Int32} (hown : s.vm.findClass own = some m.cls) (w : (Cond.constant own k v).before a0 Z = true) (hd : decode code pc = .ok (.ldc k, 2)) (hpc : pc + 2 = pc') (h : Go p e below s mc ms Q m T pc' Ls (.int v :: st)) : Go p e below s mc ms Q m T pc Ls (st) := by
  subst hpc; exact h.of fun _ kk => Stand.ldcI (g := mkF m pc Ls (st)) X hx hown (mvT hZ w) rfl (hb hby hd) kk
theorem Go.ldcJ (X : Stand p l e R s m args below meth c T locs cells slots) (hx : p.tables.exec = Jvm.exec) (hby : c.code = code) {Z : State} {a0 : Array Value} (hZ : Z.Warmed39 s.vm) {own : String} {k : Nat} {v : Int64} (hown : s.vm.findClass own = some m.cls) (w : (Cond.constantLong own k v).before a0 Z = true) (hd : decode code pc = .ok (.ldc2_w k, 3)) (hpc : pc + 3 = pc') (h : Go p e below s mc ms Q m T pc' Ls (.long v :: st)) : Go p e below s mc ms Q m T pc Ls (st) := by
  subst hpc; exact h.of fun _ kk => Stand.ldc2J (g := mkF m pc Ls (st)) X hx hown (mvT hZ w) rfl (hb hby hd) kk
theorem Go.iadd (X : Stand p l e R s m args below meth c T locs cells slots) (hx : p.tables.exec = Jvm.exec) (hby : c.code = code) {x y : Int32} (hd : decode code pc = .ok (.iadd, 1)) (hpc : pc + 1 = pc') (h : Go p e below s mc ms Q m T pc' Ls (.int (x + y) :: st)) : Go p e below s mc ms Q m T pc Ls (.int y :: .int x :: st) := by
  subst hpc; exact h.of fun _ kk => XS.iadd (g := mkF m pc Ls (.int y :: .int x :: st)) X.here hx rfl (hb hby hd) rfl kk
theorem Go.isub (X : Stand p l e R s m args below meth c T locs cells slots) (hx : p.tables.exec = Jvm.exec) (hby : c.code = code) {x y : Int32} (hd : decode code pc = .ok (.isub, 1)) (hpc : pc + 1 = pc') (h : Go p e below s mc ms Q m T pc' Ls (.int (x - y) :: st)) : Go p e below s mc ms Q m T pc Ls (.int y :: .int x :: st) := by
  subst hpc; exact h.of fun _ kk => XS.isub (g := mkF m pc Ls (.int y :: .int x :: st)) X.here hx rfl (hb hby hd) rfl kk
theorem Go.imul (X : Stand p l e R s m args below meth c T locs cells slots) (hx : p.tables.exec = Jvm.exec) (hby : c.code = code) {x y : Int32} (hd : decode code pc = .ok (.imul, 1)) (hpc : pc + 1 = pc') (h : Go p e below s mc ms Q m T pc' Ls (.int (x * y) :: st)) : Go p e below s mc ms Q m T pc Ls (.int y :: .int x :: st) := by
  subst hpc; exact h.of fun _ kk => XS.imul (g := mkF m pc Ls (.int y :: .int x :: st)) X.here hx rfl (hb hby hd) rfl kk
theorem Go.iand (X : Stand p l e R s m args below meth c T locs cells slots) (hx : p.tables.exec = Jvm.exec) (hby : c.code = code) {x y : Int32} (hd : decode code pc = .ok (.iand, 1)) (hpc : pc + 1 = pc') (h : Go p e below s mc ms Q m T pc' Ls (.int (x &&& y) :: st)) : Go p e below s mc ms Q m T pc Ls (.int y :: .int x :: st) := by
  subst hpc; exact h.of fun _ kk => XS.iand (g := mkF m pc Ls (.int y :: .int x :: st)) X.here hx rfl (hb hby hd) rfl kk
theorem Go.ior (X : Stand p l e R s m args below meth c T locs cells slots) (hx : p.tables.exec = Jvm.exec) (hby : c.code = code) {x y : Int32} (hd : decode code pc = .ok (.ior, 1)) (hpc : pc + 1 = pc') (h : Go p e below s mc ms Q m T pc' Ls (.int (x ||| y) :: st)) : Go p e below s mc ms Q m T pc Ls (.int y :: .int x :: st) := by
  subst hpc; exact h.of fun _ kk => XT.ior (g := mkF m pc Ls (.int y :: .int x :: st)) X.here hx rfl (hb hby hd) rfl kk
theorem Go.ixor (X : Stand p l e R s m args below meth c T locs cells slots) (hx : p.tables.exec = Jvm.exec) (hby : c.code = code) {x y : Int32} (hd : decode code pc = .ok (.ixor, 1)) (hpc : pc + 1 = pc') (h : Go p e below s mc ms Q m T pc' Ls (.int (x ^^^ y) :: st)) : Go p e below s mc ms Q m T pc Ls (.int y :: .int x :: st) := by
  subst hpc; exact h.of fun _ kk => XT.ixor (g := mkF m pc Ls (.int y :: .int x :: st)) X.here hx rfl (hb hby hd) rfl kk
theorem Go.ishl (X : Stand p l e R s m args below meth c T locs cells slots) (hx : p.tables.exec = Jvm.exec) (hby : c.code = code) {x y : Int32} (hd : decode code pc = .ok (.ishl, 1)) (hpc : pc + 1 = pc') (h : Go p e below s mc ms Q m T pc' Ls (.int (shlI x y) :: st)) : Go p e below s mc ms Q m T pc Ls (.int y :: .int x :: st) := by
  subst hpc; exact h.of fun _ kk => XT.ishl (g := mkF m pc Ls (.int y :: .int x :: st)) X.here hx rfl (hb hby hd) rfl kk
theorem Go.ishr (X : Stand p l e R s m args below meth c T locs cells slots) (hx : p.tables.exec = Jvm.exec) (hby : c.code = code) {x y : Int32} (hd : decode code pc = .ok (.ishr, 1)) (hpc : pc + 1 = pc') (h : Go p e below s mc ms Q m T pc' Ls (.int (shrI x y) :: st)) : Go p e below s mc ms Q m T pc Ls (.int y :: .int x :: st) := by
  subst hpc; exact h.of fun _ kk => XT.ishr (g := mkF m pc Ls (.int y :: .int x :: st)) X.here hx rfl (hb hby hd) rfl kk
theorem Go.iushr (X : Stand p l e R s m args below meth c T locs cells slots) (hx : p.tables.exec = Jvm.exec) (hby : c.code = code) {x y : Int32} (hd : decode code pc = .ok (.iushr, 1)) (hpc : pc + 1 = pc') (h : Go p e below s mc ms Q m T pc' Ls (.int (XT.ushr x y) :: st)) : Go p e below s mc ms Q m T pc Ls (.int y :: .int x :: st) := by
  subst hpc; exact h.of fun _ kk => XT.iushr (g := mkF m pc Ls (.int y :: .int x :: st)) X.here hx rfl (hb hby hd) rfl kk
theorem Go.idiv (X : Stand p l e R s m args below meth c T locs cells slots) (hx : p.tables.exec = Jvm.exec) (hby : c.code = code) {x y : Int32} (hd : decode code pc = .ok (.idiv, 1)) (hpc : pc + 1 = pc') (hy : y ≠ 0) (h : Go p e below s mc ms Q m T pc' Ls (.int (x / y) :: st)) : Go p e below s mc ms Q m T pc Ls (.int y :: .int x :: st) := by
  subst hpc; exact h.of fun _ kk => XS.idiv (g := mkF m pc Ls (.int y :: .int x :: st)) X.here hx rfl (hb hby hd) rfl hy kk
theorem Go.irem (X : Stand p l e R s m args below meth c T locs cells slots) (hx : p.tables.exec = Jvm.exec) (hby : c.code = code) {x y : Int32} (hd : decode code pc = .ok (.irem, 1)) (hpc : pc + 1 = pc') (hy : y ≠ 0) (h : Go p e below s mc ms Q m T pc' Ls (.int (remI x y) :: st)) : Go p e below s mc ms Q m T pc Ls (.int y :: .int x :: st) := by
  subst hpc; exact h.of fun _ kk => XS.irem (g := mkF m pc Ls (.int y :: .int x :: st)) X.here hx rfl (hb hby hd) rfl hy kk
theorem Go.ladd (X : Stand p l e R s m args below meth c T locs cells slots) (hx : p.tables.exec = Jvm.exec) (hby : c.code = code) {x y : Int64} (hd : decode code pc = .ok (.ladd, 1)) (hpc : pc + 1 = pc') (h : Go p e below s mc ms Q m T pc' Ls (.long (x + y) :: st)) : Go p e below s mc ms Q m T pc Ls (.long y :: .long x :: st) := by
  subst hpc; exact h.of fun _ kk => XT.ladd (g := mkF m pc Ls (.long y :: .long x :: st)) X.here hx rfl (hb hby hd) rfl kk
theorem Go.lsub (X : Stand p l e R s m args below meth c T locs cells slots) (hx : p.tables.exec = Jvm.exec) (hby : c.code = code) {x y : Int64} (hd : decode code pc = .ok (.lsub, 1)) (hpc : pc + 1 = pc') (h : Go p e below s mc ms Q m T pc' Ls (.long (x - y) :: st)) : Go p e below s mc ms Q m T pc Ls (.long y :: .long x :: st) := by
  subst hpc; exact h.of fun _ kk => XT.lsub (g := mkF m pc Ls (.long y :: .long x :: st)) X.here hx rfl (hb hby hd) rfl kk
theorem Go.lmul (X : Stand p l e R s m args below meth c T locs cells slots) (hx : p.tables.exec = Jvm.exec) (hby : c.code = code) {x y : Int64} (hd : decode code pc = .ok (.lmul, 1)) (hpc : pc + 1 = pc') (h : Go p e below s mc ms Q m T pc' Ls (.long (x * y) :: st)) : Go p e below s mc ms Q m T pc Ls (.long y :: .long x :: st) := by
  subst hpc; exact h.of fun _ kk => XT.lmul (g := mkF m pc Ls (.long y :: .long x :: st)) X.here hx rfl (hb hby hd) rfl kk
theorem Go.land (X : Stand p l e R s m args below meth c T locs cells slots) (hx : p.tables.exec = Jvm.exec) (hby : c.code = code) {x y : Int64} (hd : decode code pc = .ok (.land, 1)) (hpc : pc + 1 = pc') (h : Go p e below s mc ms Q m T pc' Ls (.long (x &&& y) :: st)) : Go p e below s mc ms Q m T pc Ls (.long y :: .long x :: st) := by
  subst hpc; exact h.of fun _ kk => XT.land (g := mkF m pc Ls (.long y :: .long x :: st)) X.here hx rfl (hb hby hd) rfl kk
theorem Go.lor (X : Stand p l e R s m args below meth c T locs cells slots) (hx : p.tables.exec = Jvm.exec) (hby : c.code = code) {x y : Int64} (hd : decode code pc = .ok (.lor, 1)) (hpc : pc + 1 = pc') (h : Go p e below s mc ms Q m T pc' Ls (.long (x ||| y) :: st)) : Go p e below s mc ms Q m T pc Ls (.long y :: .long x :: st) := by
  subst hpc; exact h.of fun _ kk => XT.lor (g := mkF m pc Ls (.long y :: .long x :: st)) X.here hx rfl (hb hby hd) rfl kk
theorem Go.lxor (X : Stand p l e R s m args below meth c T locs cells slots) (hx : p.tables.exec = Jvm.exec) (hby : c.code = code) {x y : Int64} (hd : decode code pc = .ok (.lxor, 1)) (hpc : pc + 1 = pc') (h : Go p e below s mc ms Q m T pc' Ls (.long (x ^^^ y) :: st)) : Go p e below s mc ms Q m T pc Ls (.long y :: .long x :: st) := by
  subst hpc; exact h.of fun _ kk => XT.lxor (g := mkF m pc Ls (.long y :: .long x :: st)) X.here hx rfl (hb hby hd) rfl kk
theorem Go.ldiv (X : Stand p l e R s m args below meth c T locs cells slots) (hx : p.tables.exec = Jvm.exec) (hby : c.code = code) {x y : Int64} (hd : decode code pc = .ok (.ldiv, 1)) (hpc : pc + 1 = pc') (hy : y ≠ 0) (h : Go p e below s mc ms Q m T pc' Ls (.long (x / y) :: st)) : Go p e below s mc ms Q m T pc Ls (.long y :: .long x :: st) := by
  subst hpc; exact h.of fun _ kk => XT.ldiv (g := mkF m pc Ls (.long y :: .long x :: st)) X.here hx rfl (hb hby hd) rfl hy kk
theorem Go.lrem (X : Stand p l e R s m args below meth c T locs cells slots) (hx : p.tables.exec = Jvm.exec) (hby : c.code = code) {x y : Int64} (hd : decode code pc = .ok (.lrem, 1)) (hpc : pc + 1 = pc') (hy : y ≠ 0) (h : Go p e below s mc ms Q m T pc' Ls (.long (remJ x y) :: st)) : Go p e below s mc ms Q m T pc Ls (.long y :: .long x :: st) := by
  subst hpc; exact h.of fun _ kk => XT.lrem (g := mkF m pc Ls (.long y :: .long x :: st)) X.here hx rfl (hb hby hd) rfl hy kk
theorem Go.lushr (X : Stand p l e R s m args below meth c T locs cells slots) (hx : p.tables.exec = Jvm.exec) (hby : c.code = code) {x : Int64} {y : Int32} (hd : decode code pc = .ok (.lushr, 1)) (hpc : pc + 1 = pc') (h : Go p e below s mc ms Q m T pc' Ls (.long (XT.ushrL x y) :: st)) : Go p e below s mc ms Q m T pc Ls (.int y :: .long x :: st) := by
  subst hpc; exact h.of fun _ kk => XT.lushr (g := mkF m pc Ls (.int y :: .long x :: st)) X.here hx rfl (hb hby hd) rfl kk
theorem Go.lshl (X : Stand p l e R s m args below meth c T locs cells slots) (hx : p.tables.exec = Jvm.exec) (hby : c.code = code) {x : Int64} {y : Int32} {z : Int64} (hd : decode code pc = .ok (.lshl, 1)) (hpc : pc + 1 = pc') (hz : x <<< (y.toInt64 &&& 63) = z) (h : Go p e below s mc ms Q m T pc' Ls (.long z :: st)) : Go p e below s mc ms Q m T pc Ls (.int y :: .long x :: st) := by
  subst hpc hz; exact h.of fun _ kk => XT.lshl (g := mkF m pc Ls (.int y :: .long x :: st)) X.here hx rfl (hb hby hd) rfl kk
theorem Go.lshr (X : Stand p l e R s m args below meth c T locs cells slots) (hx : p.tables.exec = Jvm.exec) (hby : c.code = code) {x : Int64} {y : Int32} {z : Int64} (hd : decode code pc = .ok (.lshr, 1)) (hpc : pc + 1 = pc') (hz : x >>> (y.toInt64 &&& 63) = z) (h : Go p e below s mc ms Q m T pc' Ls (.long z :: st)) : Go p e below s mc ms Q m T pc Ls (.int y :: .long x :: st) := by
  subst hpc hz; exact h.of fun _ kk => XT.lshr (g := mkF m pc Ls (.int y :: .long x :: st)) X.here hx rfl (hb hby hd) rfl kk
theorem Go.lcmp (X : Stand p l e R s m args below meth c T locs cells slots) (hx : p.tables.exec = Jvm.exec) (hby : c.code = code) {x y : Int64} (hd : decode code pc = .ok (.lcmp, 1)) (hpc : pc + 1 = pc') (h : Go p e below s mc ms Q m T pc' Ls (.int (XT.cmpL x y) :: st)) : Go p e below s mc ms Q m T pc Ls (.long y :: .long x :: st) := by
  subst hpc; exact h.of fun _ kk => XT.lcmp (g := mkF m pc Ls (.long y :: .long x :: st)) X.here hx rfl (hb hby hd) rfl kk
theorem Go.ineg (X : Stand p l e R s m args below meth c T locs cells slots) (hx : p.tables.exec = Jvm.exec) (hby : c.code = code) {x : Int32} (hd : decode code pc = .ok (.ineg, 1)) (hpc : pc + 1 = pc') (h : Go p e below s mc ms Q m T pc' Ls (.int (-x) :: st)) : Go p e below s mc ms Q m T pc Ls (.int x :: st) := by
  subst hpc; exact h.of fun _ kk => XS.ineg (g := mkF m pc Ls (.int x :: st)) X.here hx rfl (hb hby hd) rfl kk
theorem Go.i2l (X : Stand p l e R s m args below meth c T locs cells slots) (hx : p.tables.exec = Jvm.exec) (hby : c.code = code) {x : Int32} (hd : decode code pc = .ok (.i2l, 1)) (hpc : pc + 1 = pc') (h : Go p e below s mc ms Q m T pc' Ls (.long (x.toInt64) :: st)) : Go p e below s mc ms Q m T pc Ls (.int x :: st) := by
  subst hpc; exact h.of fun _ kk => XT.i2l (g := mkF m pc Ls (.int x :: st)) X.here hx rfl (hb hby hd) rfl kk
theorem Go.l2i (X : Stand p l e R s m args below meth c T locs cells slots) (hx : p.tables.exec = Jvm.exec) (hby : c.code = code) {x : Int64} (hd : decode code pc = .ok (.l2i, 1)) (hpc : pc + 1 = pc') (h : Go p e below s mc ms Q m T pc' Ls (.int (x.toInt32) :: st)) : Go p e below s mc ms Q m T pc Ls (.long x :: st) := by
  subst hpc; exact h.of fun _ kk => XT.l2i (g := mkF m pc Ls (.long x :: st)) X.here hx rfl (hb hby hd) rfl kk
theorem Go.i2b (X : Stand p l e R s m args below meth c T locs cells slots) (hx : p.tables.exec = Jvm.exec) (hby : c.code = code) {x : Int32} (hd : decode code pc = .ok (.i2b, 1)) (hpc : pc + 1 = pc') (h : Go p e below s mc ms Q m T pc' Ls (.int (i2bF x) :: st)) : Go p e below s mc ms Q m T pc Ls (.int x :: st) := by
  subst hpc; exact h.of fun _ kk => XT.i2b (g := mkF m pc Ls (.int x :: st)) X.here hx rfl (hb hby hd) rfl kk
theorem Go.i2c (X : Stand p l e R s m args below meth c T locs cells slots) (hx : p.tables.exec = Jvm.exec) (hby : c.code = code) {x : Int32} (hd : decode code pc = .ok (.i2c, 1)) (hpc : pc + 1 = pc') (h : Go p e below s mc ms Q m T pc' Ls (.int (i2cF x) :: st)) : Go p e below s mc ms Q m T pc Ls (.int x :: st) := by
  subst hpc; exact h.of fun _ kk => XT.i2c (g := mkF m pc Ls (.int x :: st)) X.here hx rfl (hb hby hd) rfl kk
theorem Go.i2s (X : Stand p l e R s m args below meth c T locs cells slots) (hx : p.tables.exec = Jvm.exec) (hby : c.code = code) {x : Int32} (hd : decode code pc = .ok (.i2s, 1)) (hpc : pc + 1 = pc') (h : Go p e below s mc ms Q m T pc' Ls (.int (i2sF x) :: st)) : Go p e below s mc ms Q m T pc Ls (.int x :: st) := by
  subst hpc; exact h.of fun _ kk => XT.i2s (g := mkF m pc Ls (.int x :: st)) X.here hx rfl (hb hby hd) rfl kk
theorem Go.iinc (X : Stand p l e R s m args below meth c T locs cells slots) (hx : p.tables.exec = Jvm.exec) (hby : c.code = code) {k : Nat} {i : Int} {x v : Int32} (hd : decode code pc = .ok (.iinc k i, 3)) (hpc : pc + 3 = pc') (hv : Int32.ofInt i = v) (hl : Ls[k]? = some (.val (.int x))) (hl' : storeLocals Ls k (.int (x + v)) = some Ls') (h : Go p e below s mc ms Q m T pc' Ls' (st)) : Go p e below s mc ms Q m T pc Ls (st) := by
  subst hpc; exact h.of fun _ kk => XT.iincV (g := mkF m pc Ls (st)) X.here hx rfl v (hb hby hd) hv hl hl' kk
theorem Go.dup (X : Stand p l e R s m args below meth c T locs cells slots) (hx : p.tables.exec = Jvm.exec) (hby : c.code = code) {v : Value} (hd : decode code pc = .ok (.dup, 1)) (hpc : pc + 1 = pc') (hv : v.category = 1) (h : Go p e below s mc ms Q m T pc' Ls (v :: v :: st)) : Go p e below s mc ms Q m T pc Ls (v :: st) := by
  subst hpc; exact h.of fun _ kk => XS.dup (g := mkF m pc Ls (v :: st)) X.here hx rfl (hb hby hd) rfl hv kk
theorem Go.pop (X : Stand p l e R s m args below meth c T locs cells slots) (hx : p.tables.exec = Jvm.exec) (hby : c.code = code) {v : Value} (hd : decode code pc = .ok (.pop, 1)) (hpc : pc + 1 = pc') (hv : v.category = 1) (h : Go p e below s mc ms Q m T pc' Ls (st)) : Go p e below s mc ms Q m T pc Ls (v :: st) := by
  subst hpc; exact h.of fun _ kk => XT.pop (g := mkF m pc Ls (v :: st)) X.here hx rfl (hb hby hd) rfl hv kk
theorem Go.goto (X : Stand p l e R s m args below meth c T locs cells slots) (hx : p.tables.exec = Jvm.exec) (hby : c.code = code) {o : Int} (hd : decode code pc = .ok (.goto o, 3)) (ho : 0 ≤ (pc : Int) + o) (hp : ((pc : Int) + o).toNat = pc') (h : Go p e below s mc ms Q m T pc' Ls st) : Go p e below s mc ms Q m T pc Ls st :=
  h.of fun _ kk => XS.goto (g := mkF m pc Ls st) X.here hx rfl (pc0 := pc) rfl (hb hby hd) ho hp kk
theorem Go.icmp_eq (X : Stand p l e R s m args below meth c T locs cells slots) (hx : p.tables.exec = Jvm.exec) (hby : c.code = code) {pcN : Nat} {x y : Int32} {o : Int} (hd : decode code pc = .ok (.if_icmp .eq o, 3)) (ho : 0 ≤ (pc : Int) + o) (hp : ((pc : Int) + o).toNat = pc') (hn : pc + 3 = pcN) (yes : x = y → Go p e below s mc ms Q m T pc' Ls st) (no : ¬ x = y → Go p e below s mc ms Q m T pcN Ls st) : Go p e below s mc ms Q m T pc Ls (.int y :: .int x :: st) := by
  subst hn
  by_cases q : x = y
  · exact (yes q).of fun _ kk => XS.icmpYes (g := mkF m pc Ls (.int y :: .int x :: st)) X.here hx rfl (pc0 := pc) rfl (hb hby hd) rfl (XT.ii_eq_t q) ho hp kk
  · exact (no q).of fun _ kk => XS.icmpNo (g := mkF m pc Ls (.int y :: .int x :: st)) X.here hx rfl (hb hby hd) rfl (XT.ii_eq_f q) kk
theorem Go.icmp_ne (X : Stand p l e R s m args below meth c T locs cells slots) (hx : p.tables.exec = Jvm.exec) (hby : c.code = code) {pcN : Nat} {x y : Int32} {o : Int} (hd : decode code pc = .ok (.if_icmp .ne o, 3)) (ho : 0 ≤ (pc : Int) + o) (hp : ((pc : Int) + o).toNat = pc') (hn : pc + 3 = pcN) (yes : ¬ x = y → Go p e below s mc ms Q m T pc' Ls st) (no : x = y → Go p e below s mc ms Q m T pcN Ls st) : Go p e below s mc ms Q m T pc Ls (.int y :: .int x :: st) := by
  subst hn
  by_cases q : x = y
  · exact (no q).of fun _ kk => XS.icmpNo (g := mkF m pc Ls (.int y :: .int x :: st)) X.here hx rfl (hb hby hd) rfl (XT.ii_ne_f q) kk
  · exact (yes q).of fun _ kk => XS.icmpYes (g := mkF m pc Ls (.int y :: .int x :: st)) X.here hx rfl (pc0 := pc) rfl (hb hby hd) rfl (XT.ii_ne_t q) ho hp kk
theorem Go.icmp_lt (X : Stand p l e R s m args below meth c T locs cells slots) (hx : p.tables.exec = Jvm.exec) (hby : c.code = code) {pcN : Nat} {x y : Int32} {o : Int} (hd : decode code pc = .ok (.if_icmp .lt o, 3)) (ho : 0 ≤ (pc : Int) + o) (hp : ((pc : Int) + o).toNat = pc') (hn : pc + 3 = pcN) (yes : x < y → Go p e below s mc ms Q m T pc' Ls st) (no : ¬ x < y → Go p e below s mc ms Q m T pcN Ls st) : Go p e below s mc ms Q m T pc Ls (.int y :: .int x :: st) := by
  subst hn
  by_cases q : x < y
  · exact (yes q).of fun _ kk => XS.icmpYes (g := mkF m pc Ls (.int y :: .int x :: st)) X.here hx rfl (pc0 := pc) rfl (hb hby hd) rfl (XT.ii_lt_t q) ho hp kk
  · exact (no q).of fun _ kk => XS.icmpNo (g := mkF m pc Ls (.int y :: .int x :: st)) X.here hx rfl (hb hby hd) rfl (XT.ii_lt_f q) kk
theorem Go.icmp_ge (X : Stand p l e R s m args below meth c T locs cells slots) (hx : p.tables.exec = Jvm.exec) (hby : c.code = code) {pcN : Nat} {x y : Int32} {o : Int} (hd : decode code pc = .ok (.if_icmp .ge o, 3)) (ho : 0 ≤ (pc : Int) + o) (hp : ((pc : Int) + o).toNat = pc') (hn : pc + 3 = pcN) (yes : ¬ x < y → Go p e below s mc ms Q m T pc' Ls st) (no : x < y → Go p e below s mc ms Q m T pcN Ls st) : Go p e below s mc ms Q m T pc Ls (.int y :: .int x :: st) := by
  subst hn
  by_cases q : x < y
  · exact (no q).of fun _ kk => XS.icmpNo (g := mkF m pc Ls (.int y :: .int x :: st)) X.here hx rfl (hb hby hd) rfl (XT.ii_ge_f q) kk
  · exact (yes q).of fun _ kk => XS.icmpYes (g := mkF m pc Ls (.int y :: .int x :: st)) X.here hx rfl (pc0 := pc) rfl (hb hby hd) rfl (XT.ii_ge_t q) ho hp kk
theorem Go.icmp_gt (X : Stand p l e R s m args below meth c T locs cells slots) (hx : p.tables.exec = Jvm.exec) (hby : c.code = code) {pcN : Nat} {x y : Int32} {o : Int} (hd : decode code pc = .ok (.if_icmp .gt o, 3)) (ho : 0 ≤ (pc : Int) + o) (hp : ((pc : Int) + o).toNat = pc') (hn : pc + 3 = pcN) (yes : y < x → Go p e below s mc ms Q m T pc' Ls st) (no : ¬ y < x → Go p e below s mc ms Q m T pcN Ls st) : Go p e below s mc ms Q m T pc Ls (.int y :: .int x :: st) := by
  subst hn
  by_cases q : y < x
  · exact (yes q).of fun _ kk => XS.icmpYes (g := mkF m pc Ls (.int y :: .int x :: st)) X.here hx rfl (pc0 := pc) rfl (hb hby hd) rfl (XT.ii_gt_t q) ho hp kk
  · exact (no q).of fun _ kk => XS.icmpNo (g := mkF m pc Ls (.int y :: .int x :: st)) X.here hx rfl (hb hby hd) rfl (XT.ii_gt_f q) kk
theorem Go.icmp_le (X : Stand p l e R s m args below meth c T locs cells slots) (hx : p.tables.exec = Jvm.exec) (hby : c.code = code) {pcN : Nat} {x y : Int32} {o : Int} (hd : decode code pc = .ok (.if_icmp .le o, 3)) (ho : 0 ≤ (pc : Int) + o) (hp : ((pc : Int) + o).toNat = pc') (hn : pc + 3 = pcN) (yes : ¬ y < x → Go p e below s mc ms Q m T pc' Ls st) (no : y < x → Go p e below s mc ms Q m T pcN Ls st) : Go p e below s mc ms Q m T pc Ls (.int y :: .int x :: st) := by
  subst hn
  by_cases q : y < x
  · exact (no q).of fun _ kk => XS.icmpNo (g := mkF m pc Ls (.int y :: .int x :: st)) X.here hx rfl (hb hby hd) rfl (XT.ii_le_f q) kk
  · exact (yes q).of fun _ kk => XS.icmpYes (g := mkF m pc Ls (.int y :: .int x :: st)) X.here hx rfl (pc0 := pc) rfl (hb hby hd) rfl (XT.ii_le_t q) ho hp kk
theorem Go.if_eq (X : Stand p l e R s m args below meth c T locs cells slots) (hx : p.tables.exec = Jvm.exec) (hby : c.code = code) {pcN : Nat} {x : Int32} {o : Int} (hd : decode code pc = .ok (.ifCond .eq o, 3)) (ho : 0 ≤ (pc : Int) + o) (hp : ((pc : Int) + o).toNat = pc') (hn : pc + 3 = pcN) (yes : x = 0 → Go p e below s mc ms Q m T pc' Ls st) (no : ¬ x = 0 → Go p e below s mc ms Q m T pcN Ls st) : Go p e below s mc ms Q m T pc Ls (.int x :: st) := by
  subst hn
  by_cases q : x = 0
  · exact (yes q).of fun _ kk => XS.ifYes (g := mkF m pc Ls (.int x :: st)) X.here hx rfl (pc0 := pc) rfl (hb hby hd) rfl (XT.i0_eq_t q) ho hp kk
  · exact (no q).of fun _ kk => XS.ifNo (g := mkF m pc Ls (.int x :: st)) X.here hx rfl (hb hby hd) rfl (XT.i0_eq_f q) kk
theorem Go.if_ne (X : Stand p l e R s m args below meth c T locs cells slots) (hx : p.tables.exec = Jvm.exec) (hby : c.code = code) {pcN : Nat} {x : Int32} {o : Int} (hd : decode code pc = .ok (.ifCond .ne o, 3)) (ho : 0 ≤ (pc : Int) + o) (hp : ((pc : Int) + o).toNat = pc') (hn : pc + 3 = pcN) (yes : ¬ x = 0 → Go p e below s mc ms Q m T pc' Ls st) (no : x = 0 → Go p e below s mc ms Q m T pcN Ls st) : Go p e below s mc ms Q m T pc Ls (.int x :: st) := by
  subst hn
  by_cases q : x = 0
  · exact (no q).of fun _ kk => XS.ifNo (g := mkF m pc Ls (.int x :: st)) X.here hx rfl (hb hby hd) rfl (XT.i0_ne_f q) kk
  · exact (yes q).of fun _ kk => XS.ifYes (g := mkF m pc Ls (.int x :: st)) X.here hx rfl (pc0 := pc) rfl (hb hby hd) rfl (XT.i0_ne_t q) ho hp kk
theorem Go.if_lt (X : Stand p l e R s m args below meth c T locs cells slots) (hx : p.tables.exec = Jvm.exec) (hby : c.code = code) {pcN : Nat} {x : Int32} {o : Int} (hd : decode code pc = .ok (.ifCond .lt o, 3)) (ho : 0 ≤ (pc : Int) + o) (hp : ((pc : Int) + o).toNat = pc') (hn : pc + 3 = pcN) (yes : x < 0 → Go p e below s mc ms Q m T pc' Ls st) (no : ¬ x < 0 → Go p e below s mc ms Q m T pcN Ls st) : Go p e below s mc ms Q m T pc Ls (.int x :: st) := by
  subst hn
  by_cases q : x < 0
  · exact (yes q).of fun _ kk => XS.ifYes (g := mkF m pc Ls (.int x :: st)) X.here hx rfl (pc0 := pc) rfl (hb hby hd) rfl (XT.i0_lt_t q) ho hp kk
  · exact (no q).of fun _ kk => XS.ifNo (g := mkF m pc Ls (.int x :: st)) X.here hx rfl (hb hby hd) rfl (XT.i0_lt_f q) kk
theorem Go.if_ge (X : Stand p l e R s m args below meth c T locs cells slots) (hx : p.tables.exec = Jvm.exec) (hby : c.code = code) {pcN : Nat} {x : Int32} {o : Int} (hd : decode code pc = .ok (.ifCond .ge o, 3)) (ho : 0 ≤ (pc : Int) + o) (hp : ((pc : Int) + o).toNat = pc') (hn : pc + 3 = pcN) (yes : ¬ x < 0 → Go p e below s mc ms Q m T pc' Ls st) (no : x < 0 → Go p e below s mc ms Q m T pcN Ls st) : Go p e below s mc ms Q m T pc Ls (.int x :: st) := by
  subst hn
  by_cases q : x < 0
  · exact (no q).of fun _ kk => XS.ifNo (g := mkF m pc Ls (.int x :: st)) X.here hx rfl (hb hby hd) rfl (XT.i0_ge_f q) kk
  · exact (yes q).of fun _ kk => XS.ifYes (g := mkF m pc Ls (.int x :: st)) X.here hx rfl (pc0 := pc) rfl (hb hby hd) rfl (XT.i0_ge_t q) ho hp kk
theorem Go.if_gt (X : Stand p l e R s m args below meth c T locs cells slots) (hx : p.tables.exec = Jvm.exec) (hby : c.code = code) {pcN : Nat} {x : Int32} {o : Int} (hd : decode code pc = .ok (.ifCond .gt o, 3)) (ho : 0 ≤ (pc : Int) + o) (hp : ((pc : Int) + o).toNat = pc') (hn : pc + 3 = pcN) (yes : 0 < x → Go p e below s mc ms Q m T pc' Ls st) (no : ¬ 0 < x → Go p e below s mc ms Q m T pcN Ls st) : Go p e below s mc ms Q m T pc Ls (.int x :: st) := by
  subst hn
  by_cases q : 0 < x
  · exact (yes q).of fun _ kk => XS.ifYes (g := mkF m pc Ls (.int x :: st)) X.here hx rfl (pc0 := pc) rfl (hb hby hd) rfl (XT.i0_gt_t q) ho hp kk
  · exact (no q).of fun _ kk => XS.ifNo (g := mkF m pc Ls (.int x :: st)) X.here hx rfl (hb hby hd) rfl (XT.i0_gt_f q) kk
theorem Go.if_le (X : Stand p l e R s m args below meth c T locs cells slots) (hx : p.tables.exec = Jvm.exec) (hby : c.code = code) {pcN : Nat} {x : Int32} {o : Int} (hd : decode code pc = .ok (.ifCond .le o, 3)) (ho : 0 ≤ (pc : Int) + o) (hp : ((pc : Int) + o).toNat = pc') (hn : pc + 3 = pcN) (yes : ¬ 0 < x → Go p e below s mc ms Q m T pc' Ls st) (no : 0 < x → Go p e below s mc ms Q m T pcN Ls st) : Go p e below s mc ms Q m T pc Ls (.int x :: st) := by
  subst hn
  by_cases q : 0 < x
  · exact (no q).of fun _ kk => XS.ifNo (g := mkF m pc Ls (.int x :: st)) X.here hx rfl (hb hby hd) rfl (XT.i0_le_f q) kk
  · exact (yes q).of fun _ kk => XS.ifYes (g := mkF m pc Ls (.int x :: st)) X.here hx rfl (pc0 := pc) rfl (hb hby hd) rfl (XT.i0_le_t q) ho hp kk
theorem Go.ifL_eq (X : Stand p l e R s m args below meth c T locs cells slots) (hx : p.tables.exec = Jvm.exec) (hby : c.code = code) {pcN : Nat} {x y : Int64} {o : Int} (hd : decode code pc = .ok (.ifCond .eq o, 3)) (ho : 0 ≤ (pc : Int) + o) (hp : ((pc : Int) + o).toNat = pc') (hn : pc + 3 = pcN) (yes : x = y → Go p e below s mc ms Q m T pc' Ls st) (no : ¬ x = y → Go p e below s mc ms Q m T pcN Ls st) : Go p e below s mc ms Q m T pc Ls (.int (XT.cmpL x y) :: st) := by
  subst hn
  by_cases q : x = y
  · exact (yes q).of fun _ kk => XS.ifYes (g := mkF m pc Ls (.int (XT.cmpL x y) :: st)) X.here hx rfl (pc0 := pc) rfl (hb hby hd) rfl (XT.ll_eq_t q) ho hp kk
  · exact (no q).of fun _ kk => XS.ifNo (g := mkF m pc Ls (.int (XT.cmpL x y) :: st)) X.here hx rfl (hb hby hd) rfl (XT.ll_eq_f q) kk
theorem Go.ifL_ne (X : Stand p l e R s m args below meth c T locs cells slots) (hx : p.tables.exec = Jvm.exec) (hby : c.code = code) {pcN : Nat} {x y : Int64} {o : Int} (hd : decode code pc = .ok (.ifCond .ne o, 3)) (ho : 0 ≤ (pc : Int) + o) (hp : ((pc : Int) + o).toNat = pc') (hn : pc + 3 = pcN) (yes : ¬ x = y → Go p e below s mc ms Q m T pc' Ls st) (no : x = y → Go p e below s mc ms Q m T pcN Ls st) : Go p e below s mc ms Q m T pc Ls (.int (XT.cmpL x y) :: st) := by
  subst hn
  by_cases q : x = y
  · exact (no q).of fun _ kk => XS.ifNo (g := mkF m pc Ls (.int (XT.cmpL x y) :: st)) X.here hx rfl (hb hby hd) rfl (XT.ll_ne_f q) kk
  · exact (yes q).of fun _ kk => XS.ifYes (g := mkF m pc Ls (.int (XT.cmpL x y) :: st)) X.here hx rfl (pc0 := pc) rfl (hb hby hd) rfl (XT.ll_ne_t q) ho hp kk
theorem Go.ifL_lt (X : Stand p l e R s m args below meth c T locs cells slots) (hx : p.tables.exec = Jvm.exec) (hby : c.code = code) {pcN : Nat} {x y : Int64} {o : Int} (hd : decode code pc = .ok (.ifCond .lt o, 3)) (ho : 0 ≤ (pc : Int) + o) (hp : ((pc : Int) + o).toNat = pc') (hn : pc + 3 = pcN) (yes : x < y → Go p e below s mc ms Q m T pc' Ls st) (no : ¬ x < y → Go p e below s mc ms Q m T pcN Ls st) : Go p e below s mc ms Q m T pc Ls (.int (XT.cmpL x y) :: st) := by
  subst hn
  by_cases q : x < y
  · exact (yes q).of fun _ kk => XS.ifYes (g := mkF m pc Ls (.int (XT.cmpL x y) :: st)) X.here hx rfl (pc0 := pc) rfl (hb hby hd) rfl (XT.ll_lt_t q) ho hp kk
  · exact (no q).of fun _ kk => XS.ifNo (g := mkF m pc Ls (.int (XT.cmpL x y) :: st)) X.here hx rfl (hb hby hd) rfl (XT.ll_lt_f q) kk
theorem Go.ifL_ge (X : Stand p l e R s m args below meth c T locs cells slots) (hx : p.tables.exec = Jvm.exec) (hby : c.code = code) {pcN : Nat} {x y : Int64} {o : Int} (hd : decode code pc = .ok (.ifCond .ge o, 3)) (ho : 0 ≤ (pc : Int) + o) (hp : ((pc : Int) + o).toNat = pc') (hn : pc + 3 = pcN) (yes : ¬ x < y → Go p e below s mc ms Q m T pc' Ls st) (no : x < y → Go p e below s mc ms Q m T pcN Ls st) : Go p e below s mc ms Q m T pc Ls (.int (XT.cmpL x y) :: st) := by
  subst hn
  by_cases q : x < y
  · exact (no q).of fun _ kk => XS.ifNo (g := mkF m pc Ls (.int (XT.cmpL x y) :: st)) X.here hx rfl (hb hby hd) rfl (XT.ll_ge_f q) kk
  · exact (yes q).of fun _ kk => XS.ifYes (g := mkF m pc Ls (.int (XT.cmpL x y) :: st)) X.here hx rfl (pc0 := pc) rfl (hb hby hd) rfl (XT.ll_ge_t q) ho hp kk
theorem Go.ifL_gt (X : Stand p l e R s m args below meth c T locs cells slots) (hx : p.tables.exec = Jvm.exec) (hby : c.code = code) {pcN : Nat} {x y : Int64} {o : Int} (hd : decode code pc = .ok (.ifCond .gt o, 3)) (ho : 0 ≤ (pc : Int) + o) (hp : ((pc : Int) + o).toNat = pc') (hn : pc + 3 = pcN) (yes : y < x → Go p e below s mc ms Q m T pc' Ls st) (no : ¬ y < x → Go p e below s mc ms Q m T pcN Ls st) : Go p e below s mc ms Q m T pc Ls (.int (XT.cmpL x y) :: st) := by
  subst hn
  by_cases q : y < x
  · exact (yes q).of fun _ kk => XS.ifYes (g := mkF m pc Ls (.int (XT.cmpL x y) :: st)) X.here hx rfl (pc0 := pc) rfl (hb hby hd) rfl (XT.ll_gt_t q) ho hp kk
  · exact (no q).of fun _ kk => XS.ifNo (g := mkF m pc Ls (.int (XT.cmpL x y) :: st)) X.here hx rfl (hb hby hd) rfl (XT.ll_gt_f q) kk
theorem Go.ifL_le (X : Stand p l e R s m args below meth c T locs cells slots) (hx : p.tables.exec = Jvm.exec) (hby : c.code = code) {pcN : Nat} {x y : Int64} {o : Int} (hd : decode code pc = .ok (.ifCond .le o, 3)) (ho : 0 ≤ (pc : Int) + o) (hp : ((pc : Int) + o).toNat = pc') (hn : pc + 3 = pcN) (yes : ¬ y < x → Go p e below s mc ms Q m T pc' Ls st) (no : y < x → Go p e below s mc ms Q m T pcN Ls st) : Go p e below s mc ms Q m T pc Ls (.int (XT.cmpL x y) :: st) := by
  subst hn
  by_cases q : y < x
  · exact (no q).of fun _ kk => XS.ifNo (g := mkF m pc Ls (.int (XT.cmpL x y) :: st)) X.here hx rfl (hb hby hd) rfl (XT.ll_le_f q) kk
  · exact (yes q).of fun _ kk => XS.ifYes (g := mkF m pc Ls (.int (XT.cmpL x y) :: st)) X.here hx rfl (pc0 := pc) rfl (hb hby hd) rfl (XT.ll_le_t q) ho hp kk
theorem Go.iretI (X : Stand p l e R s m args below meth c T locs cells slots) (hx : p.tables.exec = Jvm.exec) (hby : c.code = code) (hlk : meth.locks = false) (hret : meth.sig.returnType = some .int) {w : Int32} (hd : decode code pc = .ok (.ireturn, 1)) (hc : cells ≤ mc) (hs : slots ≤ ms) (hq : Q (some (.int w)) T.heap locs) : Go p e below s mc ms Q m T pc Ls [.int w] := by
  obtain ⟨fs, hr, hrun, hended, hW, hsame⟩ := X.leave (v := some (.int w)) (fun h => by rw [hret] at h; cases h) hlk
  exact ⟨_, _, X.ireturnOut hx hret rfl (Or.inl rfl) (hb hby hd) hr, hrun, hended, _, _, rfl, hq, ⟨_, rfl⟩, hW, hsame.mono hc hs⟩
theorem Go.iretN (X : Stand p l e R s m args below meth c T locs cells slots) (hx : p.tables.exec = Jvm.exec) (hby : c.code = code) (hlk : meth.locks = false) {t : FieldType} (hret : meth.sig.returnType = some t) (ht : t = .boolean ∨ t = .byte ∨ t = .char ∨ t = .short) {w w' : Int32} (hw : nar t w = w') (hd : decode code pc = .ok (.ireturn, 1)) (hc : cells ≤ mc) (hs : slots ≤ ms) (hq : Q (some (.int w')) T.heap locs) : Go p e below s mc ms Q m T pc Ls [.int w] := by
  subst hw
  obtain ⟨fs, hr, hrun, hended, hW, hsame⟩ := X.leave (v := some (.int (nar t w))) (fun h => by rw [hret] at h; cases h) hlk
  exact ⟨_, _, retN X hx (t := t) hret ht (hb hby hd) hr, hrun, hended, _, _, rfl, hq, ⟨_, rfl⟩, hW, hsame.mono hc hs⟩
theorem Go.lret (X : Stand p l e R s m args below meth c T locs cells slots) (hx : p.tables.exec = Jvm.exec) (hby : c.code = code) (hlk : meth.locks = false) (hret : meth.sig.returnType = some .long) {w : Int64} (hd : decode code pc = .ok (.lreturn, 1)) (hc : cells ≤ mc) (hs : slots ≤ ms) (hq : Q (some (.long w)) T.heap locs) : Go p e below s mc ms Q m T pc Ls [.long w] := by
  obtain ⟨fs, hr, hrun, hended, hW, hsame⟩ := X.leave (v := some (.long w)) (fun h => by rw [hret] at h; cases h) hlk
  exact ⟨_, _, X.lreturnOut hx hret (hb hby hd) hr, hrun, hended, _, _, rfl, hq, ⟨_, rfl⟩, hW, hsame.mono hc hs⟩
theorem Go.aret (X : Stand p l e R s m args below meth c T locs cells slots) (hx : p.tables.exec = Jvm.exec) (hby : c.code = code) (hlk : meth.locks = false) {t : FieldType} (hret : meth.sig.returnType = some t) (ht : t.isReference = true) {w : Value} (hw : w.isRef = true) (hd : decode code pc = .ok (.areturn, 1)) (hc : cells ≤ mc) (hs : slots ≤ ms) (hq : Q (some w) T.heap locs) : Go p e below s mc ms Q m T pc Ls [w] := by
  obtain ⟨fs, hr, hrun, hended, hW, hsame⟩ := X.leave (v := some w) (fun h => by rw [hret] at h; cases h) hlk
  exact ⟨_, _, X.areturnOut hx hw hret ht (hb hby hd) hr, hrun, hended, _, _, rfl, hq, ⟨_, rfl⟩, hW, hsame.mono hc hs⟩
theorem Go.vret (X : Stand p l e R s m args below meth c T locs cells slots) (hx : p.tables.exec = Jvm.exec) (hby : c.code = code) (hlk : meth.locks = false) (hret : meth.sig.returnType = none) (hd : decode code pc = .ok (.return_, 1)) (hc : cells ≤ mc) (hs : slots ≤ ms) (hq : Q none T.heap locs) : Go p e below s mc ms Q m T pc Ls [] := by
  obtain ⟨fs, hr, hrun, hended, hW, hsame⟩ := X.leave (v := none) (fun _ => rfl) hlk
  exact ⟨_, _, X.returnOut hx hret (hb hby hd) hr, hrun, hended, _, _, rfl, hq, ⟨_, rfl⟩, hW, hsame.mono hc hs⟩
/-- what a body that keeps the heap leaves -/
def PQ (h0 : Heap) (r : Option Value) (v : Option Value) (h : Heap) (L : List Loc) : Prop := v = r ∧ L = [] ∧ h = h0
theorem Go.callS (X : Stand p l e R s m args below meth c T locs cells slots) (hx : p.tables.exec = Jvm.exec) (hby : c.code = code) {Z : State} {a0 : Array Value} {h : Heap} (hZ : Z.Warmed39 s.vm) (hml : Ls.size = c.maxLocals) {own : String} {k : Nat} {y : MethodName} {bytes : ByteArray} {maxL : Nat} {ret : Option FieldType} {rm : Room} {W : Nat} {as' : Array Value} {QY : Option Value → Heap → List Loc → Prop}
    (hown : s.vm.findClass own = some m.cls) (w1 : (Cond.methodLink own k y).before a0 Z = true) (w2 : (Cond.static y).before a0 Z = true) (w3 : (Cond.initialized y.cls).before a0 Z = true) (w4 : (Cond.code y bytes maxL ret).before a0 Z = true) (hy : y.cls ≠ "java/lang/invoke/MethodHandle" ∧ y.cls ≠ "java/lang/invoke/VarHandle")
    (hM : MetFree l y (head1 [Cond.code y bytes maxL ret] rm) (fun a U => a = as' ∧ Z.Warmed39 U.vm ∧ U.heap = h) (fun _ _ _ _ _ => True) (fun _ U o U' => ∃ v L, o = .returned v ∧ QY v U'.heap L ∧ FrameEnd U o U' L rm.cells rm.slots))
    (hf : rm.frames + 1 ≤ R.frames) (hl : W + (maxL + 11) + rm.locals ≤ R.locals) (eT : T.heap = h) {argsL rest : List Value} {sig : MethodDescriptor} (hsig : parseMethodDescriptor y.desc = some sig) (hlen : argsL.length = sig.parameters.length) (has : argsL.toArray = as') (hst : st = argsL.reverse ++ rest) (hW : (rest.map fun v => v.category).sum ≤ W)
    (hc : cells + rm.cells ≤ R.cells) (hsl : slots + rm.slots ≤ R.slots) (hd : decode code pc = .ok (.invokestatic k, 3)) (hpc : pc + 3 = pc')
    (K : ∀ v T' L, Stand p l e R s m args below meth c T' (locs ++ L) (cells + rm.cells) (slots + rm.slots) → QY v T'.heap L → Go p e below s mc ms Q m T' pc' Ls (v.toList ++ rest)) : Go p e below s mc ms Q m T pc Ls st := by
  subst hpc hst has
  obtain ⟨v, vm₁, B, -, X', ⟨L, hQ, l1, l2, l3⟩, st⟩ := Jvm.LawKit.callS X hx hown (mvT hZ w1) (mvT hZ w2) (mvT hZ w3) (mvT hZ w4) hy (backOf (W := W) hM hZ w4 w3 hf hl) (g := mkF m pc Ls (argsL.reverse ++ rest)) rfl hml (argsL := argsL) (rest := rest) (lenOf hsig hlen) rfl (by show 2 * 0 + _ ≤ _; omega) (hb hby hd) (fun _ _ => ⟨rfl, eT, hc, hsl⟩)
  rw [l1, l2, l3] at X'
  exact (K v B.U L X' hQ).of st
theorem Go.callSP (X : Stand p l e R s m args below meth c T locs cells slots) (hx : p.tables.exec = Jvm.exec) (hby : c.code = code) {Z : State} {a0 : Array Value} {h : Heap} (hZ : Z.Warmed39 s.vm) (hml : Ls.size = c.maxLocals) {own : String} {k : Nat} {y : MethodName} {bytes : ByteArray} {maxL : Nat} {ret : Option FieldType} {rm : Room} {W : Nat} {as' : Array Value} {r : Value}
    (hown : s.vm.findClass own = some m.cls) (w1 : (Cond.methodLink own k y).before a0 Z = true) (w2 : (Cond.static y).before a0 Z = true) (w3 : (Cond.initialized y.cls).before a0 Z = true) (w4 : (Cond.code y bytes maxL ret).before a0 Z = true) (hy : y.cls ≠ "java/lang/invoke/MethodHandle" ∧ y.cls ≠ "java/lang/invoke/VarHandle")
    (hM : MetFree l y (head1 [Cond.code y bytes maxL ret] rm) (fun a U => a = as' ∧ Z.Warmed39 U.vm ∧ U.heap = h) (fun _ _ _ _ _ => True) (fun _ U o U' => ∃ v L, o = .returned v ∧ PQ h (some r) v U'.heap L ∧ FrameEnd U o U' L rm.cells rm.slots))
    (hf : rm.frames + 1 ≤ R.frames) (hl : W + (maxL + 11) + rm.locals ≤ R.locals) (eT : T.heap = h) {argsL rest : List Value} {sig : MethodDescriptor} (hsig : parseMethodDescriptor y.desc = some sig) (hlen : argsL.length = sig.parameters.length) (has : argsL.toArray = as') (hst : st = argsL.reverse ++ rest) (hW : (rest.map fun v => v.category).sum ≤ W)
    (r1 : rm.cells = 0) (r2 : rm.slots = 0) (hc : cells ≤ R.cells) (hsl : slots ≤ R.slots) (hd : decode code pc = .ok (.invokestatic k, 3)) (hpc : pc + 3 = pc')
    (K : ∀ T', Stand p l e R s m args below meth c T' locs cells slots → T'.heap = h → Go p e below s mc ms Q m T' pc' Ls (r :: rest)) : Go p e below s mc ms Q m T pc Ls st := by
  refine Go.callS X hx hby hZ hml hown w1 w2 w3 w4 hy hM hf hl eT hsig hlen has hst hW (by rw [r1]; exact hc) (by rw [r2]; exact hsl) hd hpc (fun v T' L X' hQ => ?_)
  obtain ⟨rfl, rfl, e1⟩ := hQ
  rw [List.append_nil, r1, r2] at X'
  exact K T' X' e1
end Law

/-- the place j is in the list -/
abbrev inA {α : Type} (A : List α) (j : Int32) : Prop := ¬ (j < 0 ∨ A.length ≤ j.toNatClampNeg)
def atA {α : Type} [OfNat α 0] (A : List α) (j : Int32) : α := A.getD j.toNatClampNeg 0
def setA {α : Type} (A : List α) (j : Int32) (v : α) : List α := A.set j.toNatClampNeg v
def lenA {α : Type} (A : List α) : Int32 := A.length.toInt32
/-- an array of ints, bytes, chars that holds the list -/
def AryI (Z : State) (h : Heap) (a : Addr) (ty : FieldType) (A : List Int32) : Prop := ∃ (k : ClassId) (z : Int32), Arv Z h a k ty z (A.map Value.int) (.int 0) ∧ z.toNatClampNeg = A.length
def AryJ (Z : State) (h : Heap) (a : Addr) (A : List Int64) : Prop := ∃ (k : ClassId) (z : Int32), Arv Z h a k .long z (A.map Value.long) (.long 0) ∧ z.toNatClampNeg = A.length
theorem own_inK {α : Type} {A : List α} {j : Int32} {n : Nat} (hl : A.length = n) (hj : ¬ (j < 0 ∨ n ≤ j.toNatClampNeg)) : inA A j := by subst hl; exact hj
section Heaps
variable {p : Program} {l : Launch} {e : Env} {R : Room} {s : State} {m : MethodId} {args : Array Value} {below : List Frame} {meth : Method} {c : Code} {T T' : State} {locs : List Loc} {cells slots : Nat} {code : ByteArray} {Q : Option Value → Heap → List Loc → Prop} {mc ms : Nat} {pc pc' : Nat} {Ls Ls' : Array Slot} {st st' rest : List Value}
variable {Z : State} {h h' : Heap} {a b : Addr} {ty : FieldType} {A : List Int32} {J : List Int64} {sl : Nat} {v : Value} {ws : List Addr} {a0 : Array Value}
theorem AryI.lt (F : AryI Z h a ty A) : a < h.size := by obtain ⟨k, z, V, -⟩ := F; exact V.lt
theorem AryI.ext (F : AryI Z h a ty A) (E : Ext h h') : AryI Z h' a ty A := by obtain ⟨k, z, V, q⟩ := F; exact ⟨k, z, V.ext E, q⟩
theorem AryI.other (F : AryI Z h b ty A) (W : Wr h h' a sl v) (q : b ≠ a) : AryI Z h' b ty A := by obtain ⟨k, z, V, r⟩ := F; exact ⟨k, z, V.other W q, r⟩
theorem AryI.keep (F : AryI Z h a ty A) (K : Keep h h' ws) (q : a ∉ ws) : AryI Z h' a ty A := by obtain ⟨k, z, V, r⟩ := F; exact ⟨k, z, V.keep K q, r⟩
theorem AryJ.lt (F : AryJ Z h a J) : a < h.size := by obtain ⟨k, z, V, -⟩ := F; exact V.lt
theorem AryJ.ext (F : AryJ Z h a J) (E : Ext h h') : AryJ Z h' a J := by obtain ⟨k, z, V, q⟩ := F; exact ⟨k, z, V.ext E, q⟩
theorem AryJ.other (F : AryJ Z h b J) (W : Wr h h' a sl v) (q : b ≠ a) : AryJ Z h' b J := by obtain ⟨k, z, V, r⟩ := F; exact ⟨k, z, V.other W q, r⟩
theorem AryJ.keep (F : AryJ Z h a J) (K : Keep h h' ws) (q : a ∉ ws) : AryJ Z h' a J := by obtain ⟨k, z, V, r⟩ := F; exact ⟨k, z, V.keep K q, r⟩
theorem own_getI (A : List Int32) (n : Nat) : (A.map Value.int).getD n (.int 0) = .int (A.getD n 0) := by
  simp only [List.getD_eq_getElem?_getD, List.getElem?_map]; cases A[n]? <;> rfl
theorem own_getJ (A : List Int64) (n : Nat) : (A.map Value.long).getD n (.long 0) = .long (A.getD n 0) := by
  simp only [List.getD_eq_getElem?_getD, List.getElem?_map]; cases A[n]? <;> rfl
theorem own_fin {α : Type} {w r : α} {P : α → Prop} (e : some w = some r) (h : P w) : P r := Option.some.inj e ▸ h
theorem Go.baload (X : Stand p l e R s m args below meth c T locs cells slots) (hx : p.tables.exec = Jvm.exec) (hby : c.code = code) (hZ : Z.Warmed39 s.vm) (eT : T.heap = h) (F : AryI Z h a .byte A) {j : Int32} (hj : inA A j) (hd : decode code pc = .ok (.baload, 1)) (hpc : pc + 1 = pc') (K : Go p e below s mc ms Q m T pc' Ls (.int (atA A j) :: st)) : Go p e below s mc ms Q m T pc Ls (.int j :: .ref a :: st) := by
  subst hpc
  obtain ⟨k, z, ⟨cl, Ar, q1, S, q3, H, -⟩, r⟩ := F
  have hin : ¬ (j < 0 ∨ cl.slots.size ≤ j.toNatClampNeg) := by rw [S, r]; exact hj
  have hv : cl.slots[j.toNatClampNeg]? = some (.int (atA A j)) := by rw [H _ (Nat.lt_of_not_le fun y => hin (Or.inr y)), own_getI]; rfl
  exact K.of fun t kk => X.baloadBytes hx (by rw [eT]; exact Ar.1) (State.isArrayOf_alike hZ.alike Ar.2.1) Ar.2.2 hin hv (g := mkF m pc Ls (.int j :: .ref a :: st)) rfl rfl (hb hby hd) t kk
theorem Go.caload (X : Stand p l e R s m args below meth c T locs cells slots) (hx : p.tables.exec = Jvm.exec) (hby : c.code = code) (hZ : Z.Warmed39 s.vm) (eT : T.heap = h) (F : AryI Z h a .char A) {j : Int32} (hj : inA A j) (hd : decode code pc = .ok (.caload, 1)) (hpc : pc + 1 = pc') (K : Go p e below s mc ms Q m T pc' Ls (.int (atA A j) :: st)) : Go p e below s mc ms Q m T pc Ls (.int j :: .ref a :: st) := by
  subst hpc
  obtain ⟨k, z, ⟨cl, Ar, q1, S, q3, H, -⟩, r⟩ := F
  have hin : ¬ (j < 0 ∨ cl.slots.size ≤ j.toNatClampNeg) := by rw [S, r]; exact hj
  have hv : cl.slots[j.toNatClampNeg]? = some (.int (atA A j)) := by rw [H _ (Nat.lt_of_not_le fun y => hin (Or.inr y)), own_getI]; rfl
  exact K.of fun t kk => X.caload hx (by rw [eT]; exact Ar.1) (State.isArrayOf_alike hZ.alike Ar.2.1) Ar.2.2 hin hv (g := mkF m pc Ls (.int j :: .ref a :: st)) rfl rfl (hb hby hd) t kk
theorem Go.iaload (X : Stand p l e R s m args below meth c T locs cells slots) (hx : p.tables.exec = Jvm.exec) (hby : c.code = code) (hZ : Z.Warmed39 s.vm) (eT : T.heap = h) (F : AryI Z h a .int A) {j : Int32} (hj : inA A j) (hd : decode code pc = .ok (.iaload, 1)) (hpc : pc + 1 = pc') (K : Go p e below s mc ms Q m T pc' Ls (.int (atA A j) :: st)) : Go p e below s mc ms Q m T pc Ls (.int j :: .ref a :: st) := by
  subst hpc
  obtain ⟨k, z, ⟨cl, Ar, q1, S, q3, H, -⟩, r⟩ := F
  have hin : ¬ (j < 0 ∨ cl.slots.size ≤ j.toNatClampNeg) := by rw [S, r]; exact hj
  have hv : cl.slots[j.toNatClampNeg]? = some (.int (atA A j)) := by rw [H _ (Nat.lt_of_not_le fun y => hin (Or.inr y)), own_getI]; rfl
  exact K.of fun t kk => X.iaload hx (by rw [eT]; exact Ar.1) (State.isArrayOf_alike hZ.alike Ar.2.1) Ar.2.2 hin hv (g := mkF m pc Ls (.int j :: .ref a :: st)) rfl rfl (hb hby hd) t kk
theorem Go.laload (X : Stand p l e R s m args below meth c T locs cells slots) (hx : p.tables.exec = Jvm.exec) (hby : c.code = code) (hZ : Z.Warmed39 s.vm) (eT : T.heap = h) (F : AryJ Z h a J) {j : Int32} (hj : inA J j) (hd : decode code pc = .ok (.laload, 1)) (hpc : pc + 1 = pc') (K : Go p e below s mc ms Q m T pc' Ls (.long (atA J j) :: st)) : Go p e below s mc ms Q m T pc Ls (.int j :: .ref a :: st) := by
  subst hpc
  obtain ⟨k, z, ⟨cl, Ar, q1, S, q3, H, -⟩, r⟩ := F
  have hin : ¬ (j < 0 ∨ cl.slots.size ≤ j.toNatClampNeg) := by rw [S, r]; exact hj
  have hv : cl.slots[j.toNatClampNeg]? = some (.long (atA J j)) := by rw [H _ (Nat.lt_of_not_le fun y => hin (Or.inr y)), own_getJ]; rfl
  exact K.of fun t kk => X.laload hx (by rw [eT]; exact Ar.1) (State.isArrayOf_alike hZ.alike Ar.2.1) Ar.2.2 hin hv (g := mkF m pc Ls (.int j :: .ref a :: st)) rfl rfl (hb hby hd) t kk
theorem Go.alen (X : Stand p l e R s m args below meth c T locs cells slots) (hx : p.tables.exec = Jvm.exec) (hby : c.code = code) (hZ : Z.Warmed39 s.vm) (eT : T.heap = h) (F : AryI Z h a ty A) (hd : decode code pc = .ok (.arraylength, 1)) (hpc : pc + 1 = pc') (K : Go p e below s mc ms Q m T pc' Ls (.int (lenA A) :: st)) : Go p e below s mc ms Q m T pc Ls (.ref a :: st) := by
  subst hpc
  obtain ⟨k, z, ⟨cl, Ar, q1, S, q3, H, -⟩, r⟩ := F
  have e2 : cl.slots.size.toInt32 = lenA A := by rw [S, r]; rfl
  exact K.of fun t kk => X.arraylength hx (by rw [eT]; exact Ar.1) (State.isArrayOf_alike hZ.alike Ar.2.1) (g := mkF m pc Ls (.ref a :: st)) rfl rfl (hb hby hd) t (by rw [e2]; exact kk)
theorem Go.alenJ (X : Stand p l e R s m args below meth c T locs cells slots) (hx : p.tables.exec = Jvm.exec) (hby : c.code = code) (hZ : Z.Warmed39 s.vm) (eT : T.heap = h) (F : AryJ Z h a J) (hd : decode code pc = .ok (.arraylength, 1)) (hpc : pc + 1 = pc') (K : Go p e below s mc ms Q m T pc' Ls (.int (lenA J) :: st)) : Go p e below s mc ms Q m T pc Ls (.ref a :: st) := by
  subst hpc
  obtain ⟨k, z, ⟨cl, Ar, q1, S, q3, H, -⟩, r⟩ := F
  have e2 : cl.slots.size.toInt32 = lenA J := by rw [S, r]; rfl
  exact K.of fun t kk => X.arraylength hx (by rw [eT]; exact Ar.1) (State.isArrayOf_alike hZ.alike Ar.2.1) (g := mkF m pc Ls (.ref a :: st)) rfl rfl (hb hby hd) t (by rw [e2]; exact kk)
theorem Go.bastore (X : Stand p l e R s m args below meth c T locs cells slots) (hx : p.tables.exec = Jvm.exec) (hby : c.code = code) (hZ : Z.Warmed39 s.vm) (eT : T.heap = h) (F : AryI Z h a .byte A) {j x : Int32} (hj : inA A j) (hd : decode code pc = .ok (.bastore, 1)) (hpc : pc + 1 = pc') (K : ∀ T' h', Stand p l e R s m args below meth c T' (locs ++ [⟨a, j.toNatClampNeg⟩]) cells slots → T'.heap = h' → Wr h h' a j.toNatClampNeg (.int (i2bF x)) → AryI Z h' a .byte (setA A j (i2bF x)) → Go p e below s mc ms Q m T' pc' Ls st) : Go p e below s mc ms Q m T pc Ls (.int x :: .int j :: .ref a :: st) := by
  subst hpc
  obtain ⟨k, z, ⟨cl, Ar, q1, S, q3, H, H2⟩, r⟩ := F
  have hin : ¬ (j < 0 ∨ cl.slots.size ≤ j.toNatClampNeg) := by rw [S, r]; exact hj
  obtain ⟨T', h', X', e', W, stp⟩ := stB X hx hZ eT Ar hin (g := mkF m pc Ls (.int x :: .int j :: .ref a :: st)) rfl rfl (hb hby hd)
  have V := Arv.set (v := .int (i2bF x)) Ar q1 S q3 H H2 (fits_nar_byte x) W j.toNatClampNeg rfl (by rw [List.length_map]; exact Nat.lt_of_not_le fun y => hj (Or.inr y))
  exact (K T' h' X' e' W ⟨k, z, by rw [setA, List.map_set]; exact V, by rw [setA, List.length_set]; exact r⟩).of stp
theorem Go.castore (X : Stand p l e R s m args below meth c T locs cells slots) (hx : p.tables.exec = Jvm.exec) (hby : c.code = code) (hZ : Z.Warmed39 s.vm) (eT : T.heap = h) (F : AryI Z h a .char A) {j x : Int32} (hj : inA A j) (hd : decode code pc = .ok (.castore, 1)) (hpc : pc + 1 = pc') (K : ∀ T' h', Stand p l e R s m args below meth c T' (locs ++ [⟨a, j.toNatClampNeg⟩]) cells slots → T'.heap = h' → Wr h h' a j.toNatClampNeg (.int (i2cF x)) → AryI Z h' a .char (setA A j (i2cF x)) → Go p e below s mc ms Q m T' pc' Ls st) : Go p e below s mc ms Q m T pc Ls (.int x :: .int j :: .ref a :: st) := by
  subst hpc
  obtain ⟨k, z, ⟨cl, Ar, q1, S, q3, H, H2⟩, r⟩ := F
  have hin : ¬ (j < 0 ∨ cl.slots.size ≤ j.toNatClampNeg) := by rw [S, r]; exact hj
  obtain ⟨T', h', X', e', W, stp⟩ := stC X hx hZ eT Ar hin (g := mkF m pc Ls (.int x :: .int j :: .ref a :: st)) rfl rfl (hb hby hd)
  have V := Arv.set (v := .int (i2cF x)) Ar q1 S q3 H H2 (fits_nar_char x) W j.toNatClampNeg rfl (by rw [List.length_map]; exact Nat.lt_of_not_le fun y => hj (Or.inr y))
  exact (K T' h' X' e' W ⟨k, z, by rw [setA, List.map_set]; exact V, by rw [setA, List.length_set]; exact r⟩).of stp
theorem Go.iastore (X : Stand p l e R s m args below meth c T locs cells slots) (hx : p.tables.exec = Jvm.exec) (hby : c.code = code) (hZ : Z.Warmed39 s.vm) (eT : T.heap = h) (F : AryI Z h a .int A) {j x : Int32} (hj : inA A j) (hd : decode code pc = .ok (.iastore, 1)) (hpc : pc + 1 = pc') (K : ∀ T' h', Stand p l e R s m args below meth c T' (locs ++ [⟨a, j.toNatClampNeg⟩]) cells slots → T'.heap = h' → Wr h h' a j.toNatClampNeg (.int x) → AryI Z h' a .int (setA A j x) → Go p e below s mc ms Q m T' pc' Ls st) : Go p e below s mc ms Q m T pc Ls (.int x :: .int j :: .ref a :: st) := by
  subst hpc
  obtain ⟨k, z, ⟨cl, Ar, q1, S, q3, H, H2⟩, r⟩ := F
  have hin : ¬ (j < 0 ∨ cl.slots.size ≤ j.toNatClampNeg) := by rw [S, r]; exact hj
  obtain ⟨T', h', X', e', W, stp⟩ := stI X hx hZ eT Ar hin (g := mkF m pc Ls (.int x :: .int j :: .ref a :: st)) rfl rfl (hb hby hd)
  have V := Arv.set (v := .int x) Ar q1 S q3 H H2 rfl W j.toNatClampNeg rfl (by rw [List.length_map]; exact Nat.lt_of_not_le fun y => hj (Or.inr y))
  exact (K T' h' X' e' W ⟨k, z, by rw [setA, List.map_set]; exact V, by rw [setA, List.length_set]; exact r⟩).of stp
theorem Go.lastore (X : Stand p l e R s m args below meth c T locs cells slots) (hx : p.tables.exec = Jvm.exec) (hby : c.code = code) (hZ : Z.Warmed39 s.vm) (eT : T.heap = h) (F : AryJ Z h a J) {j : Int32} {x : Int64} (hj : inA J j) (hd : decode code pc = .ok (.lastore, 1)) (hpc : pc + 1 = pc') (K : ∀ T' h', Stand p l e R s m args below meth c T' (locs ++ [⟨a, j.toNatClampNeg⟩]) cells slots → T'.heap = h' → Wr h h' a j.toNatClampNeg (.long x) → AryJ Z h' a (setA J j x) → Go p e below s mc ms Q m T' pc' Ls st) : Go p e below s mc ms Q m T pc Ls (.long x :: .int j :: .ref a :: st) := by
  subst hpc
  obtain ⟨k, z, ⟨cl, Ar, q1, S, q3, H, H2⟩, r⟩ := F
  have hin : ¬ (j < 0 ∨ cl.slots.size ≤ j.toNatClampNeg) := by rw [S, r]; exact hj
  obtain ⟨T', h', X', e', W, stp⟩ := stJ X hx hZ eT Ar hin (g := mkF m pc Ls (.long x :: .int j :: .ref a :: st)) rfl rfl (hb hby hd)
  have V := Arv.set (v := .long x) Ar q1 S q3 H H2 rfl W j.toNatClampNeg rfl (by rw [List.length_map]; exact Nat.lt_of_not_le fun y => hj (Or.inr y))
  exact (K T' h' X' e' W ⟨k, z, by rw [setA, List.map_set]; exact V, by rw [setA, List.length_set]; exact r⟩).of stp
theorem Go.newA (X : Stand p l e R s m args below meth c T locs cells slots) (hx : p.tables.exec = Jvm.exec) (hby : c.code = code) (hZ : Z.Warmed39 s.vm) {nn : Nat} {n : Int32} {aty : ArrayType} (w : (Cond.arrayClass ty).before a0 Z = true) (eT : T.heap = h) (hd : decode code pc = .ok (.newarray aty, 2)) (hpc : pc + 2 = pc') (ht : newarray.typeOf aty = ty) (hv : defaultValue ty = .int 0) (hn : n.toNatClampNeg = nn) (hn0 : ¬ n < 0) (hcap : nn * 8 ≤ 536870912) (hc : cells + 1 ≤ R.cells) (hsl : slots + nn ≤ R.slots)
    (K : ∀ T' h' (a : Addr), Stand p l e R s m args below meth c T' locs (cells + 1) (slots + nn) → T'.heap = h' → Ext h h' → h.size ≤ a → AryI Z h' a ty (List.replicate nn 0) → Go p e below s mc ms Q m T' pc' Ls (.ref a :: st)) : Go p e below s mc ms Q m T pc Ls (.int n :: st) := by
  subst hpc ht
  obtain ⟨T', h', cA, X', e', E, Ar, stp⟩ := newP X hx hZ w eT (g := mkF m pc Ls (.int n :: st)) rfl (hb hby hd) rfl hn0 (cap := nn) (Nat.le_of_eq hn) hcap hc hsl
  have V := Arv.new Ar hn0
  rw [hv] at V
  have V2 := Arv.pad V (vs' := (List.replicate nn (0 : Int32)).map Value.int) (fun i => by rw [List.map_replicate]; exact pad_rep [] (.int 0) nn i)
  exact (K T' h' h.size X' e' E (Nat.le_refl _) ⟨cA, n, V2, by rw [hn, List.length_replicate]⟩).of stp
theorem Go.newAJ (X : Stand p l e R s m args below meth c T locs cells slots) (hx : p.tables.exec = Jvm.exec) (hby : c.code = code) (hZ : Z.Warmed39 s.vm) {nn : Nat} {n : Int32} (w : (Cond.arrayClass .long).before a0 Z = true) (eT : T.heap = h) (hd : decode code pc = .ok (.newarray .long, 2)) (hpc : pc + 2 = pc') (hn : n.toNatClampNeg = nn) (hn0 : ¬ n < 0) (hcap : nn * 8 ≤ 536870912) (hc : cells + 1 ≤ R.cells) (hsl : slots + nn ≤ R.slots)
    (K : ∀ T' h' (a : Addr), Stand p l e R s m args below meth c T' locs (cells + 1) (slots + nn) → T'.heap = h' → Ext h h' → h.size ≤ a → AryJ Z h' a (List.replicate nn 0) → Go p e below s mc ms Q m T' pc' Ls (.ref a :: st)) : Go p e below s mc ms Q m T pc Ls (.int n :: st) := by
  subst hpc
  obtain ⟨T', h', cA, X', e', E, Ar, stp⟩ := newP (aty := .long) X hx hZ w eT (g := mkF m pc Ls (.int n :: st)) rfl (hb hby hd) rfl hn0 (cap := nn) (Nat.le_of_eq hn) hcap hc hsl
  have V : Arv Z h' h.size cA .long n [] (.long 0) := Arv.new Ar hn0
  have V2 := Arv.pad V (vs' := (List.replicate nn (0 : Int64)).map Value.long) (fun i => by rw [List.map_replicate]; exact pad_rep [] (.long 0) nn i)
  exact (K T' h' h.size X' e' E (Nat.le_refl _) ⟨cA, n, V2, by rw [hn, List.length_replicate]⟩).of stp
theorem Go.ifnullNo (X : Stand p l e R s m args below meth c T locs cells slots) (hx : p.tables.exec = Jvm.exec) (hby : c.code = code) {o : Int} (hd : decode code pc = .ok (.ifnull o, 3)) (hpc : pc + 3 = pc') (K : Go p e below s mc ms Q m T pc' Ls st) : Go p e below s mc ms Q m T pc Ls (.ref a :: st) := by
  subst hpc; exact K.of fun _ kk => XS.ifnullNo (g := mkF m pc Ls (.ref a :: st)) X.here hx rfl (hb hby hd) rfl kk
theorem Go.acmpNe (X : Stand p l e R s m args below meth c T locs cells slots) (hx : p.tables.exec = Jvm.exec) (hby : c.code = code) {o : Int} (hd : decode code pc = .ok (.if_acmp .eq o, 3)) (hpc : pc + 3 = pc') (hne : a ≠ b) (K : Go p e below s mc ms Q m T pc' Ls st) : Go p e below s mc ms Q m T pc Ls (.ref b :: .ref a :: st) := by
  subst hpc; exact K.of fun _ kk => XT.acmpNo (g := mkF m pc Ls (.ref b :: .ref a :: st)) X.here hx rfl (hb hby hd) rfl rfl rfl (XT.aa_eq_f fun q => hne (Value.ref.inj q)) kk
theorem Go.getF (X : Stand p l e R s m args below meth c T locs cells slots) (hx : p.tables.exec = Jvm.exec) (hby : c.code = code) (hZ : Z.Warmed39 s.vm) {own O n d : String} {k : Nat} {v : Value} (hown : s.vm.findClass own = some m.cls) (w : (Cond.fieldLink own k O n d).before a0 Z = true) (eT : T.heap = h) (F : Fld Z h a O n d v) (hd : decode code pc = .ok (.getfield k, 3)) (hpc : pc + 3 = pc') (K : ∀ T', Stand p l e R s m args below meth c T' locs cells slots → T'.heap = h → Go p e below s mc ms Q m T' pc' Ls (v :: st)) : Go p e below s mc ms Q m T pc Ls (.ref a :: st) := by
  subst hpc
  obtain ⟨T', X', e', stp⟩ := getF X hx hZ hown (host := "") (Or.inl w) Via.refl eT F (g := mkF m pc Ls (.ref a :: st)) rfl rfl (hb hby hd)
  exact (K T' X' e').of stp
theorem Go.putF (X : Stand p l e R s m args below meth c T locs cells slots) (hx : p.tables.exec = Jvm.exec) (hby : c.code = code) (hZ : Z.Warmed39 s.vm) {own O n d C : String} {k kk : Nat} {ty : FieldType} {v old : Value} (hown : s.vm.findClass own = some m.cls) (w : (Cond.fieldLink own k O n d).before a0 Z = true) (eT : T.heap = h) (F : Fld Z h a O n d old) (E : Exa Z h a C) (L : (Cond.lays C O n d).before a0 Z = true ∨ ((Cond.laysFinal C O n d).before a0 Z = true ∧ own = O ∧ meth.name = "<init>")) (wi : (Cond.instantiable C kk).before a0 Z = true)
    (hty : parseFieldDescriptor d = some ty) (hn : narrow ty v = v) (hf : fits ty v = true) (hd : decode code pc = .ok (.putfield k, 3)) (hpc : pc + 3 = pc') (K : ∀ T' h', Stand p l e R s m args below meth c T' (locs ++ [⟨a, RoadKit.slotOf Z O n d⟩]) cells slots → T'.heap = h' → Wr h h' a (RoadKit.slotOf Z O n d) v → Go p e below s mc ms Q m T' pc' Ls st) : Go p e below s mc ms Q m T pc Ls (v :: .ref a :: st) := by
  subst hpc
  obtain ⟨T', h', X', e', W, stp⟩ := putF X hx hZ hown (host := "") (Or.inl w) Via.refl eT F E L wi hty hn hf (g := mkF m pc Ls (v :: .ref a :: st)) rfl rfl (hb hby hd)
  exact (K T' h' X' e' W).of stp
theorem Go.newO (X : Stand p l e R s m args below meth c T locs cells slots) (hx : p.tables.exec = Jvm.exec) (hby : c.code = code) (hZ : Z.Warmed39 s.vm) {own C : String} {k n : Nat} (hown : s.vm.findClass own = some m.cls) (w : (Cond.classLink own k C).before a0 Z = true) (wi : (Cond.instantiable C n).before a0 Z = true) (wz : (Cond.initialized C).before a0 Z = true) (eT : T.heap = h) (hd : decode code pc = .ok (.new k, 3)) (hpc : pc + 3 = pc') (hc : cells + 1 ≤ R.cells) (hsl : slots + n ≤ R.slots)
    (K : ∀ T' h' (a : Addr), Stand p l e R s m args below meth c T' locs (cells + 1) (slots + n) → T'.heap = h' → Ext h h' → h.size ≤ a → Exa Z h' a C → (∀ {O nm d : String} {ty : FieldType}, Laid Z a0 C O nm d → parseFieldDescriptor d = some ty → Fld Z h' a O nm d (defaultValue ty)) → Go p e below s mc ms Q m T' pc' Ls (.ref a :: st)) : Go p e below s mc ms Q m T pc Ls st := by
  subst hpc
  obtain ⟨T', h', X', e', E, A, D, -, stp⟩ := newO X hx hZ hown w wi wz eT (g := mkF m pc Ls st) rfl (hb hby hd) hc hsl
  exact (K T' h' h.size X' e' E (Nat.le_refl _) A D).of stp
theorem Go.callV (X : Stand p l e R s m args below meth c T locs cells slots) (hx : p.tables.exec = Jvm.exec) (hby : c.code = code) (hZ : Z.Warmed39 s.vm) (hml : Ls.size = c.maxLocals) {own : String} {k : Nat} {y : MethodName} {bytes : ByteArray} {maxL : Nat} {ret : Option FieldType} {rm : Room} {W : Nat} {as' : Array Value} {C : String} {QY : Option Value → Heap → List Loc → Prop} (hown : s.vm.findClass own = some m.cls) (w1 : (Cond.methodLink own k y).before a0 Z = true) (w2 : (Cond.declares y).before a0 Z = true) (w3 : (Cond.selects C y y).before a0 Z = true) (w4 : (Cond.instanceMethod y).before a0 Z = true) (w5 : (Cond.initialized y.cls).before a0 Z = true) (w6 : (Cond.code y bytes maxL ret).before a0 Z = true) (E : Exa Z h a C) (hy : y.cls ≠ "java/lang/invoke/MethodHandle" ∧ y.cls ≠ "java/lang/invoke/VarHandle") (hM : MetFree l y (head1 [Cond.code y bytes maxL ret] rm) (fun a U => a = as' ∧ Z.Warmed39 U.vm ∧ U.heap = h) (fun _ _ _ _ _ => True) (fun _ U o U' => ∃ v L, o = .returned v ∧ QY v U'.heap L ∧ FrameEnd U o U' L rm.cells rm.slots))
    (hf : rm.frames + 1 ≤ R.frames) (hl : W + (maxL + 11) + rm.locals ≤ R.locals) (eT : T.heap = h) {argsL rest : List Value} {sig : MethodDescriptor} (hsig : parseMethodDescriptor y.desc = some sig) (hlen : argsL.length = sig.parameters.length) (has : (Value.ref a :: argsL).toArray = as') (hst : st = argsL.reverse ++ .ref a :: rest) (hW : (rest.map fun v => v.category).sum ≤ W) (hc : cells + rm.cells ≤ R.cells) (hsl : slots + rm.slots ≤ R.slots) (hd : decode code pc = .ok (.invokevirtual k, 3)) (hpc : pc + 3 = pc')
    (K : ∀ v T' L, Stand p l e R s m args below meth c T' (locs ++ L) (cells + rm.cells) (slots + rm.slots) → QY v T'.heap L → Go p e below s mc ms Q m T' pc' Ls (v.toList ++ rest)) : Go p e below s mc ms Q m T pc Ls st := by
  subst hpc hst has
  obtain ⟨cq, kq, qa, qb, qc⟩ := isOf hZ eT E
  obtain ⟨v, vm₁, B, -, X', ⟨L, hQ, l1, l2, l3⟩, stp⟩ := X.virtualBack hx hown (mvT hZ w1) (mvT hZ w2) (notFace_of_selects (args := #[]) (mvT hZ w3)) (mvT hZ w3) (mvT hZ w4) hy (backOf (W := W) hM hZ w6 w5 hf hl) qa qc (g := mkF m pc Ls (argsL.reverse ++ .ref a :: rest)) rfl hml (Steps.refl _) (argsL := argsL) (rest := rest) (lenOf hsig hlen) rfl (by show 2 * 0 + _ ≤ _; omega) (hb hby hd) (fun _ _ => ⟨rfl, eT, hc, hsl⟩)
  rw [l1, l2, l3] at X'
  exact (K v B.U L X' hQ).of fun _ k => stp.trans k
theorem Go.callVP (X : Stand p l e R s m args below meth c T locs cells slots) (hx : p.tables.exec = Jvm.exec) (hby : c.code = code) (hZ : Z.Warmed39 s.vm) (hml : Ls.size = c.maxLocals) {own : String} {k : Nat} {y : MethodName} {bytes : ByteArray} {maxL : Nat} {ret : Option FieldType} {rm : Room} {W : Nat} {as' : Array Value} {C : String} {r : Value} (hown : s.vm.findClass own = some m.cls) (w1 : (Cond.methodLink own k y).before a0 Z = true) (w2 : (Cond.declares y).before a0 Z = true) (w3 : (Cond.selects C y y).before a0 Z = true) (w4 : (Cond.instanceMethod y).before a0 Z = true) (w5 : (Cond.initialized y.cls).before a0 Z = true) (w6 : (Cond.code y bytes maxL ret).before a0 Z = true) (E : Exa Z h a C) (hy : y.cls ≠ "java/lang/invoke/MethodHandle" ∧ y.cls ≠ "java/lang/invoke/VarHandle") (hM : MetFree l y (head1 [Cond.code y bytes maxL ret] rm) (fun a U => a = as' ∧ Z.Warmed39 U.vm ∧ U.heap = h) (fun _ _ _ _ _ => True) (fun _ U o U' => ∃ v L, o = .returned v ∧ PQ h (some r) v U'.heap L ∧ FrameEnd U o U' L rm.cells rm.slots))
    (hf : rm.frames + 1 ≤ R.frames) (hl : W + (maxL + 11) + rm.locals ≤ R.locals) (eT : T.heap = h) {argsL rest : List Value} {sig : MethodDescriptor} (hsig : parseMethodDescriptor y.desc = some sig) (hlen : argsL.length = sig.parameters.length) (has : (Value.ref a :: argsL).toArray = as') (hst : st = argsL.reverse ++ .ref a :: rest) (hW : (rest.map fun v => v.category).sum ≤ W) (r1 : rm.cells = 0) (r2 : rm.slots = 0) (hc : cells ≤ R.cells) (hsl : slots ≤ R.slots) (hd : decode code pc = .ok (.invokevirtual k, 3)) (hpc : pc + 3 = pc')
    (K : ∀ T', Stand p l e R s m args below meth c T' locs cells slots → T'.heap = h → Go p e below s mc ms Q m T' pc' Ls (r :: rest)) : Go p e below s mc ms Q m T pc Ls st := by
  refine Go.callV X hx hby hZ hml hown w1 w2 w3 w4 w5 w6 E hy hM hf hl eT hsig hlen has hst hW (by rw [r1]; exact hc) (by rw [r2]; exact hsl) hd hpc (fun v T' L X' hQ => ?_)
  obtain ⟨rfl, rfl, e1⟩ := hQ
  rw [List.append_nil, r1, r2] at X'
  exact K T' X' e1
theorem Go.callC (X : Stand p l e R s m args below meth c T locs cells slots) (hx : p.tables.exec = Jvm.exec) (hby : c.code = code) (hZ : Z.Warmed39 s.vm) (hml : Ls.size = c.maxLocals) {own : String} {k : Nat} {y : MethodName} {bytes : ByteArray} {maxL : Nat} {rm : Room} {W : Nat} {as' : Array Value} {QY : Option Value → Heap → List Loc → Prop} (hown : s.vm.findClass own = some m.cls) (w1 : (Cond.methodLink own k y).before a0 Z = true) (w4 : (Cond.instanceMethod y).before a0 Z = true) (w5 : (Cond.initialized y.cls).before a0 Z = true) (w6 : (Cond.code y bytes maxL none).before a0 Z = true) (hy : y.cls ≠ "java/lang/invoke/MethodHandle" ∧ y.cls ≠ "java/lang/invoke/VarHandle") (hi : y.name = "<init>") (hM : MetFree l y (head1 [Cond.code y bytes maxL none] rm) (fun a U => a = as' ∧ Z.Warmed39 U.vm ∧ U.heap = h) (fun _ _ _ _ _ => True) (fun _ U o U' => ∃ v L, o = .returned v ∧ QY v U'.heap L ∧ FrameEnd U o U' L rm.cells rm.slots))
    (hf : rm.frames + 1 ≤ R.frames) (hl : W + (maxL + 11) + rm.locals ≤ R.locals) (eT : T.heap = h) {argsL rest : List Value} {sig : MethodDescriptor} (hsig : parseMethodDescriptor y.desc = some sig) (hlen : argsL.length = sig.parameters.length) (has : (Value.ref a :: argsL).toArray = as') (hst : st = argsL.reverse ++ .ref a :: rest) (hW : (rest.map fun v => v.category).sum ≤ W) (hc : cells + rm.cells ≤ R.cells) (hsl : slots + rm.slots ≤ R.slots) (hd : decode code pc = .ok (.invokespecial k, 3)) (hpc : pc + 3 = pc')
    (K : ∀ v T' L, Stand p l e R s m args below meth c T' (locs ++ L) (cells + rm.cells) (slots + rm.slots) → QY v T'.heap L → Go p e below s mc ms Q m T' pc' Ls (v.toList ++ rest)) : Go p e below s mc ms Q m T pc Ls st := by
  subst hpc hst has
  obtain ⟨v, vm₁, B, -, X', ⟨L, hQ, l1, l2, l3⟩, stp⟩ := X.specialBack hx hi hown (mvT hZ w1) (mvT hZ w4) (mvT hZ w6) hy (backOf (W := W) hM hZ w6 w5 hf hl) (g := mkF m pc Ls (argsL.reverse ++ .ref a :: rest)) rfl hml (Steps.refl _) (argsL := argsL) (rest := rest) (lenOf hsig hlen) rfl (by show 2 * 0 + _ ≤ _; omega) (hb hby hd) (fun _ _ => ⟨rfl, eT, hc, hsl⟩)
  rw [l1, l2, l3] at X'
  exact (K v B.U L X' hQ).of fun _ k => stp.trans k
end Heaps

section Init
variable {p : Program} {l : Launch} {e : Env} {R : Room} {s : State} {m : MethodId} {args : Array Value} {below : List Frame} {meth : Method} {c : Code} {T T' : State} {locs : List Loc} {cells slots : Nat} {code : ByteArray} {Q : Option Value → Heap → List Loc → Prop} {mc ms : Nat} {pc pc' : Nat} {Ls Ls' : Array Slot} {st st' rest : List Value} {Z : State} {h h' : Heap} {a b : Addr} {a0 : Array Value}
theorem Go.initO (X : Stand p l e R s m args below meth c T locs cells slots) (hx : p.tables.exec = Jvm.exec) (hby : c.code = code) (hZ : Z.Warmed39 s.vm) (hml : Ls.size = c.maxLocals) {own : String} {k W : Nat} (hown : s.vm.findClass own = some m.cls) (w1 : (Cond.methodLink own k Lib.objectInit).before a0 Z = true) (w2 : (Cond.instanceMethod Lib.objectInit).before a0 Z = true) (w3 : (Cond.code Lib.objectInit object_method_1_code 1 none).before a0 Z = true) (eT : T.heap = h) (hd : decode code pc = .ok (.invokespecial k, 3)) (hpc : pc + 3 = pc') (hf : 1 ≤ R.frames) (hW : (st.map fun v => v.category).sum ≤ W) (hl : W + 12 ≤ R.locals)
    (K : ∀ T', Stand p l e R s m args below meth c T' locs cells slots → T'.heap = h → Go p e below s mc ms Q m T' pc' Ls st) : Go p e below s mc ms Q m T pc Ls (.ref a :: st) := by
  subst hpc
  obtain ⟨T', X', e', stp⟩ := initO X hx hZ hown w1 w2 w3 eT (g := mkF m pc Ls (.ref a :: st)) rfl hml rfl (hb hby hd) hf (W := W) (by show 2 * 0 + _ ≤ _; omega) hl
  exact (K T' X' e').of stp
end Init
def Ob_B (Z : State) (h : Heap) (o : Addr) (v0 v1 v2 v3 : Value) : Prop := Exa Z h o "com/example/stripewright/stripewright/NestedValueBudget" ∧ Fld Z h o "com/example/stripewright/stripewright/NestedValueBudget" "limit" "J" v0 ∧ Fld Z h o "com/example/stripewright/stripewright/NestedValueBudget" "wholeBatch" "Z" v1 ∧ Fld Z h o "com/example/stripewright/stripewright/NestedValueBudget" "held" "J" v2 ∧ Fld Z h o "com/example/stripewright/stripewright/NestedValueBudget" "heldBeforeRow" "J" v3
section ObB
variable {Z : State} {h h' : Heap} {o a : Addr} {v0 v1 v2 v3 : Value} {a0 : Array Value} {sl : Nat} {w : Value} {ws : List Addr}
theorem Ob_B.mk (E : Exa Z h o "com/example/stripewright/stripewright/NestedValueBudget") (F0 : Fld Z h o "com/example/stripewright/stripewright/NestedValueBudget" "limit" "J" v0) (F1 : Fld Z h o "com/example/stripewright/stripewright/NestedValueBudget" "wholeBatch" "Z" v1) (F2 : Fld Z h o "com/example/stripewright/stripewright/NestedValueBudget" "held" "J" v2) (F3 : Fld Z h o "com/example/stripewright/stripewright/NestedValueBudget" "heldBeforeRow" "J" v3) : Ob_B Z h o v0 v1 v2 v3 := ⟨E, F0, F1, F2, F3⟩
theorem Ob_B.exa (O : Ob_B Z h o v0 v1 v2 v3) : Exa Z h o "com/example/stripewright/stripewright/NestedValueBudget" := O.1
theorem Ob_B.lt (O : Ob_B Z h o v0 v1 v2 v3) : o < h.size := O.1.lt
theorem Ob_B.ext (O : Ob_B Z h o v0 v1 v2 v3) (E' : Ext h h') : Ob_B Z h' o v0 v1 v2 v3 := by obtain ⟨E, F0, F1, F2, F3⟩ := O; exact ⟨E.ext E', F0.ext E', F1.ext E', F2.ext E', F3.ext E'⟩
theorem Ob_B.other (O : Ob_B Z h o v0 v1 v2 v3) (W : Wr h h' a sl w) (q : o ≠ a) : Ob_B Z h' o v0 v1 v2 v3 := by obtain ⟨E, F0, F1, F2, F3⟩ := O; exact ⟨E.wr W, F0.other W (Or.inl q), F1.other W (Or.inl q), F2.other W (Or.inl q), F3.other W (Or.inl q)⟩
theorem Ob_B.keep (O : Ob_B Z h o v0 v1 v2 v3) (K : Keep h h' ws) (q : o ∉ ws) : Ob_B Z h' o v0 v1 v2 v3 := by obtain ⟨E, F0, F1, F2, F3⟩ := O; exact ⟨E.keep K, F0.keep K q, F1.keep K q, F2.keep K q, F3.keep K q⟩
theorem Ob_B.get_limit (O : Ob_B Z h o v0 v1 v2 v3) : Fld Z h o "com/example/stripewright/stripewright/NestedValueBudget" "limit" "J" v0 := by obtain ⟨E, F0, F1, F2, F3⟩ := O; exact F0
theorem Ob_B.get_wholeBatch (O : Ob_B Z h o v0 v1 v2 v3) : Fld Z h o "com/example/stripewright/stripewright/NestedValueBudget" "wholeBatch" "Z" v1 := by obtain ⟨E, F0, F1, F2, F3⟩ := O; exact F1
theorem Ob_B.get_held (O : Ob_B Z h o v0 v1 v2 v3) : Fld Z h o "com/example/stripewright/stripewright/NestedValueBudget" "held" "J" v2 := by obtain ⟨E, F0, F1, F2, F3⟩ := O; exact F2
theorem Ob_B.get_heldBeforeRow (O : Ob_B Z h o v0 v1 v2 v3) : Fld Z h o "com/example/stripewright/stripewright/NestedValueBudget" "heldBeforeRow" "J" v3 := by obtain ⟨E, F0, F1, F2, F3⟩ := O; exact F3
theorem Ob_B.put_limit (hw : ∀ d ∈ tables_1, d.before a0 Z = true) (W : Wr h h' o (RoadKit.slotOf Z "com/example/stripewright/stripewright/NestedValueBudget" "limit" "J") w) (O : Ob_B Z h o v0 v1 v2 v3) : Ob_B Z h' o w v1 v2 v3 := by obtain ⟨E, F0, F1, F2, F3⟩ := O; exact ⟨E.wr W, F0.same W, F1.other W (Or.inr (slot_ne (Or.inl (hw _ (List.mem_of_getElem? (i := 23) rfl))) (Or.inr (hw _ (List.mem_of_getElem? (i := 11) rfl))) (by decide) rfl rfl)), F2.other W (Or.inr (slot_ne (Or.inl (hw _ (List.mem_of_getElem? (i := 25) rfl))) (Or.inr (hw _ (List.mem_of_getElem? (i := 11) rfl))) (by decide) rfl rfl)), F3.other W (Or.inr (slot_ne (Or.inl (hw _ (List.mem_of_getElem? (i := 27) rfl))) (Or.inr (hw _ (List.mem_of_getElem? (i := 11) rfl))) (by decide) rfl rfl))⟩
theorem Ob_B.put_wholeBatch (hw : ∀ d ∈ tables_1, d.before a0 Z = true) (W : Wr h h' o (RoadKit.slotOf Z "com/example/stripewright/stripewright/NestedValueBudget" "wholeBatch" "Z") w) (O : Ob_B Z h o v0 v1 v2 v3) : Ob_B Z h' o v0 w v2 v3 := by obtain ⟨E, F0, F1, F2, F3⟩ := O; exact ⟨E.wr W, F0.other W (Or.inr (slot_ne (Or.inr (hw _ (List.mem_of_getElem? (i := 11) rfl))) (Or.inl (hw _ (List.mem_of_getElem? (i := 23) rfl))) (by decide) rfl rfl)), F1.same W, F2.other W (Or.inr (slot_ne (Or.inl (hw _ (List.mem_of_getElem? (i := 25) rfl))) (Or.inl (hw _ (List.mem_of_getElem? (i := 23) rfl))) (by decide) rfl rfl)), F3.other W (Or.inr (slot_ne (Or.inl (hw _ (List.mem_of_getElem? (i := 27) rfl))) (Or.inl (hw _ (List.mem_of_getElem? (i := 23) rfl))) (by decide) rfl rfl))⟩
theorem Ob_B.put_held (hw : ∀ d ∈ tables_1, d.before a0 Z = true) (W : Wr h h' o (RoadKit.slotOf Z "com/example/stripewright/stripewright/NestedValueBudget" "held" "J") w) (O : Ob_B Z h o v0 v1 v2 v3) : Ob_B Z h' o v0 v1 w v3 := by obtain ⟨E, F0, F1, F2, F3⟩ := O; exact ⟨E.wr W, F0.other W (Or.inr (slot_ne (Or.inr (hw _ (List.mem_of_getElem? (i := 11) rfl))) (Or.inl (hw _ (List.mem_of_getElem? (i := 25) rfl))) (by decide) rfl rfl)), F1.other W (Or.inr (slot_ne (Or.inl (hw _ (List.mem_of_getElem? (i := 23) rfl))) (Or.inl (hw _ (List.mem_of_getElem? (i := 25) rfl))) (by decide) rfl rfl)), F2.same W, F3.other W (Or.inr (slot_ne (Or.inl (hw _ (List.mem_of_getElem? (i := 27) rfl))) (Or.inl (hw _ (List.mem_of_getElem? (i := 25) rfl))) (by decide) rfl rfl))⟩
theorem Ob_B.put_heldBeforeRow (hw : ∀ d ∈ tables_1, d.before a0 Z = true) (W : Wr h h' o (RoadKit.slotOf Z "com/example/stripewright/stripewright/NestedValueBudget" "heldBeforeRow" "J") w) (O : Ob_B Z h o v0 v1 v2 v3) : Ob_B Z h' o v0 v1 v2 w := by obtain ⟨E, F0, F1, F2, F3⟩ := O; exact ⟨E.wr W, F0.other W (Or.inr (slot_ne (Or.inr (hw _ (List.mem_of_getElem? (i := 11) rfl))) (Or.inl (hw _ (List.mem_of_getElem? (i := 27) rfl))) (by decide) rfl rfl)), F1.other W (Or.inr (slot_ne (Or.inl (hw _ (List.mem_of_getElem? (i := 23) rfl))) (Or.inl (hw _ (List.mem_of_getElem? (i := 27) rfl))) (by decide) rfl rfl)), F2.other W (Or.inr (slot_ne (Or.inl (hw _ (List.mem_of_getElem? (i := 25) rfl))) (Or.inl (hw _ (List.mem_of_getElem? (i := 27) rfl))) (by decide) rfl rfl)), F3.same W⟩
end ObB
-- body 1
def f1_0 (x1 : Int64) (G_oo_limit : Int64) (G_oo_wholeBatch : Int32) (G_oo_held : Int64) (G_oo_heldBeforeRow : Int64) : Option (Int64 × Int32 × Int64 × Int64) := some (x1, G_oo_wholeBatch, G_oo_held, G_oo_heldBeforeRow)
theorem d1_0 : decode prog_27_method_1_code 0 = .ok (.aload_n 0, 1) := by decide +kernel
theorem d1_1 : decode prog_27_method_1_code 1 = .ok (.invokespecial 1, 3) := by decide +kernel
theorem d1_4 : decode prog_27_method_1_code 4 = .ok (.aload_n 0, 1) := by decide +kernel
theorem d1_5 : decode prog_27_method_1_code 5 = .ok (.lload_n 1, 1) := by decide +kernel
theorem d1_6 : decode prog_27_method_1_code 6 = .ok (.putfield 7, 3) := by decide +kernel
theorem d1_9 : decode prog_27_method_1_code 9 = .ok (.return_, 1) := by decide +kernel
abbrev Y1 : MethodName := ⟨"com/example/stripewright/stripewright/NestedValueBudget", "<init>", "(J)V"⟩
def RM1 : Room := { frames := 1, cells := 0, slots := 0, locals := 12 }
theorem pd_1 : parseMethodDescriptor Y1.desc = some ⟨[.long], none⟩ := by decide +kernel
theorem pn_1 : plainName "com/example/stripewright/stripewright/NestedValueBudget" = true := by first | (simp [plainName, overriddenIn]; done) | decide +kernel
theorem ef_1 (m : MethodId) (oo : Addr) (x1 : Int64) : entryFrame m #[.ref oo, .long x1] 3 = mkF m 0 #[.val (.ref oo), .val (.long x1), .second] [] := by first | (simp [entryFrame, mkF, argsToLocals, Value.category]; done) | rfl
def QB1 (Z : State) (h0 : Heap) (n0 : Nat) (oo : Addr) (r : Int64 × Int32 × Int64 × Int64) (v : Option Value) (h : Heap) (L : List Loc) : Prop := v = none ∧ Fr n0 L ∧ Keep h0 h [oo] ∧ Ob_B Z h oo (.long r.1) (.int r.2.1) (.long r.2.2.1) (.long r.2.2.2)
set_option maxRecDepth 65536 in
set_option maxHeartbeats 40000000 in
theorem rm1 (l : Launch) (Z : State) (a0 : Array Value) (hw : ∀ d ∈ tables_1, d.before a0 Z = true) (oo : Addr) (x1 : Int64) (G_oo_limit : Int64) (G_oo_wholeBatch : Int32) (G_oo_held : Int64) (G_oo_heldBeforeRow : Int64) (h0 : Heap) (n0 : Nat) (Z0 : n0 ≤ h0.size) (r : Int64 × Int32 × Int64 × Int64) (hf : f1_0 x1 G_oo_limit G_oo_wholeBatch G_oo_held G_oo_heldBeforeRow = some r) (F_oo : Ob_B Z h0 oo (.long G_oo_limit) (.int G_oo_wholeBatch) (.long G_oo_held) (.long G_oo_heldBeforeRow)) (na_oo : n0 ≤ oo) :
    MetFree l Y1 (head1 ([Jvm.Cond.code Y1 prog_27_method_1_code 3 (none)]) RM1) (fun a U => a = #[.ref oo, .long x1] ∧ Z.Warmed39 U.vm ∧ U.heap = h0) (fun _ _ _ _ _ => True) (fun _ U o U' => ∃ v L, o = .returned v ∧ (QB1 Z h0 n0 oo r) v U'.heap L ∧ FrameEnd U o U' L RM1.cells RM1.slots) := by
  refine MetFree.of_bodySF (plainFor_of_name pn_1) hisR ?_
  intro p e s m args below meth c s₁ Bd hml0 hP hK
  obtain ⟨rfl, hZ, hh⟩ := hP
  have hx := Bd.exec
  have hby := Bd.bytes
  have hlk : meth.locks = false := BodyLoose.notSynchronized Bd
  have hret := Bd.returns
  have hml : c.maxLocals = 3 := hml0
  have hown : s.vm.findClass "com/example/stripewright/stripewright/NestedValueBudget" = some m.cls := findClass_of_methodNamed Bd.named
  have hnm := (name_of_methodNamed Bd.named Bd.method).1
  have X0 : Stand p l e RM1 s m #[.ref oo, .long x1] below meth c s₁ [] 0 0 := Stand.of_body Bd
  have e0 : s₁.heap = h0 := by rw [← hh, Bd.state]; rfl
  have N0 := Fr.nil n0
  have K0 := Keep.refl h0 [oo]
  suffices G : Go p e below s RM1.cells RM1.slots (QB1 Z h0 n0 oo r) m s₁ 0 #[.val (.ref oo), .val (.long x1), .second] [] by
    obtain ⟨s₂, o, h1, h2⟩ := G
    exact ⟨s₂, o, castTop (ef_1 m oo x1) h1, h2⟩
  have hf0 := hf
  clear hf
  have hf := hf0
  unfold f1_0 at hf
  refine Go.aloadN X0 hx hby (v := .ref oo) d1_0 rfl rfl rfl ?_
  refine Go.initO X0 hx hby hZ (by rw [hml]; rfl) hown (hw _ (List.mem_of_getElem? (i := 7) rfl)) (hw _ (List.mem_of_getElem? (i := 8) rfl)) (hw _ (List.mem_of_getElem? (i := 9) rfl)) e0 d1_1 rfl (by decide) (W := 0) (Nat.le_of_eq rfl) (by decide) (fun T3 X3 e3 => ?_)
  refine Go.aloadN X3 hx hby (v := .ref oo) d1_4 rfl rfl rfl ?_
  refine Go.lloadN X3 hx hby (v := x1) d1_5 rfl rfl ?_
  refine Go.putF X3 hx hby hZ hown (hw _ (List.mem_of_getElem? (i := 10) rfl)) e3 (Ob_B.get_limit F_oo) (Ob_B.exa F_oo) (Or.inr ⟨(hw _ (List.mem_of_getElem? (i := 11) rfl)), rfl, hnm⟩) (hw _ (List.mem_of_getElem? (i := 2) rfl)) (ty := .long) (by decide) rfl rfl d1_6 rfl (fun T4 h4 X4 e4 W4 => ?_)
  have O4 := Ob_B.put_limit hw W4 F_oo
  have N4 := Fr.snoc X4 N0 na_oo
  have K4 := Keep.wr K0 W4 (Or.inl (List.mem_of_getElem? (i := 0) rfl))
  exact Go.vret X4 hx hby hlk hret d1_9 (by decide) (by decide) (by obtain rfl := Option.some.inj hf; unfold QB1; exact ⟨rfl, N4, by rw [e4]; exact K4, by rw [e4]; exact O4⟩)
-- body 3
def f3_0 (G_oo_limit : Int64) (G_oo_wholeBatch : Int32) (G_oo_held : Int64) (G_oo_heldBeforeRow : Int64) : Option (Int64) := some G_oo_limit
theorem d3_0 : decode prog_27_method_2_code 0 = .ok (.aload_n 0, 1) := by decide +kernel
theorem d3_1 : decode prog_27_method_2_code 1 = .ok (.getfield 7, 3) := by decide +kernel
theorem d3_4 : decode prog_27_method_2_code 4 = .ok (.lreturn, 1) := by decide +kernel
abbrev Y3 : MethodName := ⟨"com/example/stripewright/stripewright/NestedValueBudget", "limit", "()J"⟩
def RM3 : Room := { frames := 0, cells := 0, slots := 0, locals := 0 }
theorem pd_3 : parseMethodDescriptor Y3.desc = some ⟨[], some .long⟩ := by decide +kernel
theorem pn_3 : plainName "com/example/stripewright/stripewright/NestedValueBudget" = true := by first | (simp [plainName, overriddenIn]; done) | decide +kernel
theorem ef_3 (m : MethodId) (oo : Addr) : entryFrame m #[.ref oo] 1 = mkF m 0 #[.val (.ref oo)] [] := by first | (simp [entryFrame, mkF, argsToLocals, Value.category]; done) | rfl
set_option maxRecDepth 65536 in
set_option maxHeartbeats 40000000 in
theorem rm3 (l : Launch) (Z : State) (a0 : Array Value) (hw : ∀ d ∈ tables_1, d.before a0 Z = true) (oo : Addr) (G_oo_limit : Int64) (G_oo_wholeBatch : Int32) (G_oo_held : Int64) (G_oo_heldBeforeRow : Int64) (h0 : Heap) (r : Int64) (hf : f3_0 G_oo_limit G_oo_wholeBatch G_oo_held G_oo_heldBeforeRow = some r) (F_oo : Ob_B Z h0 oo (.long G_oo_limit) (.int G_oo_wholeBatch) (.long G_oo_held) (.long G_oo_heldBeforeRow)) :
    MetFree l Y3 (head1 ([Jvm.Cond.code Y3 prog_27_method_2_code 1 (some .long)]) RM3) (fun a U => a = #[.ref oo] ∧ Z.Warmed39 U.vm ∧ U.heap = h0) (fun _ _ _ _ _ => True) (fun _ U o U' => ∃ v L, o = .returned v ∧ (PQ h0 (some (.long r))) v U'.heap L ∧ FrameEnd U o U' L RM3.cells RM3.slots) := by
  refine MetFree.of_bodySF (plainFor_of_name pn_3) hisR ?_
  intro p e s m args below meth c s₁ Bd hml0 hP hK
  obtain ⟨rfl, hZ, hh⟩ := hP
  have hx := Bd.exec
  have hby := Bd.bytes
  have hlk : meth.locks = false := BodyLoose.notSynchronized Bd
  have hret := Bd.returns
  have hml : c.maxLocals = 1 := hml0
  have hown : s.vm.findClass "com/example/stripewright/stripewright/NestedValueBudget" = some m.cls := findClass_of_methodNamed Bd.named
  have X0 : Stand p l e RM3 s m #[.ref oo] below meth c s₁ [] 0 0 := Stand.of_body Bd
  have e0 : s₁.heap = h0 := by rw [← hh, Bd.state]; rfl
  suffices G : Go p e below s RM3.cells RM3.slots (PQ h0 (some (.long r))) m s₁ 0 #[.val (.ref oo)] [] by
    obtain ⟨s₂, o, h1, h2⟩ := G
    exact ⟨s₂, o, castTop (ef_3 m oo) h1, h2⟩
  have hf0 := hf
  clear hf
  have hf := hf0
  unfold f3_0 at hf
  refine Go.aloadN X0 hx hby (v := .ref oo) d3_0 rfl rfl rfl ?_
  refine Go.getF X0 hx hby hZ hown (hw _ (List.mem_of_getElem? (i := 10) rfl)) e0 (Ob_B.get_limit F_oo) d3_1 rfl (fun T6 X6 e6 => ?_)
  exact Go.lret X6 hx hby hlk hret d3_4 (by decide) (by decide) ⟨congrArg (fun z => some (Value.long z)) (Option.some.inj hf), rfl, e6⟩
-- body 8
def f8_0 (G_oo_limit : Int64) (G_oo_wholeBatch : Int32) (G_oo_held : Int64) (G_oo_heldBeforeRow : Int64) : Option (Int64 × Int32 × Int64 × Int64) := some (G_oo_limit, (0 : Int32), (0 : Int64), (0 : Int64))
theorem d8_0 : decode prog_27_method_4_code 0 = .ok (.aload_n 0, 1) := by decide +kernel
theorem d8_1 : decode prog_27_method_4_code 1 = .ok (.iconst 0, 1) := by decide +kernel
theorem d8_2 : decode prog_27_method_4_code 2 = .ok (.putfield 13, 3) := by decide +kernel
theorem d8_5 : decode prog_27_method_4_code 5 = .ok (.aload_n 0, 1) := by decide +kernel
theorem d8_6 : decode prog_27_method_4_code 6 = .ok (.lconst 0, 1) := by decide +kernel
theorem d8_7 : decode prog_27_method_4_code 7 = .ok (.putfield 17, 3) := by decide +kernel
theorem d8_10 : decode prog_27_method_4_code 10 = .ok (.aload_n 0, 1) := by decide +kernel
theorem d8_11 : decode prog_27_method_4_code 11 = .ok (.lconst 0, 1) := by decide +kernel
theorem d8_12 : decode prog_27_method_4_code 12 = .ok (.putfield 20, 3) := by decide +kernel
theorem d8_15 : decode prog_27_method_4_code 15 = .ok (.return_, 1) := by decide +kernel
abbrev Y8 : MethodName := ⟨"com/example/stripewright/stripewright/NestedValueBudget", "startBatchByRow", "()V"⟩
def RM8 : Room := { frames := 0, cells := 0, slots := 0, locals := 0 }
theorem pd_8 : parseMethodDescriptor Y8.desc = some ⟨[], none⟩ := by decide +kernel
theorem pn_8 : plainName "com/example/stripewright/stripewright/NestedValueBudget" = true := by first | (simp [plainName, overriddenIn]; done) | decide +kernel
theorem ef_8 (m : MethodId) (oo : Addr) : entryFrame m #[.ref oo] 1 = mkF m 0 #[.val (.ref oo)] [] := by first | (simp [entryFrame, mkF, argsToLocals, Value.category]; done) | rfl
def QB8 (Z : State) (h0 : Heap) (n0 : Nat) (oo : Addr) (r : Int64 × Int32 × Int64 × Int64) (v : Option Value) (h : Heap) (L : List Loc) : Prop := v = none ∧ Fr n0 L ∧ Keep h0 h [oo] ∧ Ob_B Z h oo (.long r.1) (.int r.2.1) (.long r.2.2.1) (.long r.2.2.2)
set_option maxRecDepth 65536 in
set_option maxHeartbeats 40000000 in
theorem rm8 (l : Launch) (Z : State) (a0 : Array Value) (hw : ∀ d ∈ tables_1, d.before a0 Z = true) (oo : Addr) (G_oo_limit : Int64) (G_oo_wholeBatch : Int32) (G_oo_held : Int64) (G_oo_heldBeforeRow : Int64) (h0 : Heap) (n0 : Nat) (Z0 : n0 ≤ h0.size) (r : Int64 × Int32 × Int64 × Int64) (hf : f8_0 G_oo_limit G_oo_wholeBatch G_oo_held G_oo_heldBeforeRow = some r) (F_oo : Ob_B Z h0 oo (.long G_oo_limit) (.int G_oo_wholeBatch) (.long G_oo_held) (.long G_oo_heldBeforeRow)) (na_oo : n0 ≤ oo) :
    MetFree l Y8 (head1 ([Jvm.Cond.code Y8 prog_27_method_4_code 1 (none)]) RM8) (fun a U => a = #[.ref oo] ∧ Z.Warmed39 U.vm ∧ U.heap = h0) (fun _ _ _ _ _ => True) (fun _ U o U' => ∃ v L, o = .returned v ∧ (QB8 Z h0 n0 oo r) v U'.heap L ∧ FrameEnd U o U' L RM8.cells RM8.slots) := by
  refine MetFree.of_bodySF (plainFor_of_name pn_8) hisR ?_
  intro p e s m args below meth c s₁ Bd hml0 hP hK
  obtain ⟨rfl, hZ, hh⟩ := hP
  have hx := Bd.exec
  have hby := Bd.bytes
  have hlk : meth.locks = false := BodyLoose.notSynchronized Bd
  have hret := Bd.returns
  have hml : c.maxLocals = 1 := hml0
  have hown : s.vm.findClass "com/example/stripewright/stripewright/NestedValueBudget" = some m.cls := findClass_of_methodNamed Bd.named
  have X0 : Stand p l e RM8 s m #[.ref oo] below meth c s₁ [] 0 0 := Stand.of_body Bd
  have e0 : s₁.heap = h0 := by rw [← hh, Bd.state]; rfl
  have N0 := Fr.nil n0
  have K0 := Keep.refl h0 [oo]
  suffices G : Go p e below s RM8.cells RM8.slots (QB8 Z h0 n0 oo r) m s₁ 0 #[.val (.ref oo)] [] by
    obtain ⟨s₂, o, h1, h2⟩ := G
    exact ⟨s₂, o, castTop (ef_8 m oo) h1, h2⟩
  have hf0 := hf
  clear hf
  have hf := hf0
  unfold f8_0 at hf
  refine Go.aloadN X0 hx hby (v := .ref oo) d8_0 rfl rfl rfl ?_
  refine Go.iconst X0 hx hby (v := (0 : Int32)) d8_1 rfl rfl ?_
  refine Go.putF X0 hx hby hZ hown (hw _ (List.mem_of_getElem? (i := 22) rfl)) e0 (Ob_B.get_wholeBatch F_oo) (Ob_B.exa F_oo) (Or.inl (hw _ (List.mem_of_getElem? (i := 23) rfl))) (hw _ (List.mem_of_getElem? (i := 2) rfl)) (ty := .boolean) (by decide) rfl rfl d8_2 rfl (fun T10 h10 X10 e10 W10 => ?_)
  have O10 := Ob_B.put_wholeBatch hw W10 F_oo
  have N10 := Fr.snoc X10 N0 na_oo
  have K10 := Keep.wr K0 W10 (Or.inl (List.mem_of_getElem? (i := 0) rfl))
  refine Go.aloadN X10 hx hby (v := .ref oo) d8_5 rfl rfl rfl ?_
  refine Go.lconst X10 hx hby (v := (0 : Int64)) d8_6 rfl rfl ?_
  refine Go.putF X10 hx hby hZ hown (hw _ (List.mem_of_getElem? (i := 24) rfl)) e10 (Ob_B.get_held O10) (Ob_B.exa O10) (Or.inl (hw _ (List.mem_of_getElem? (i := 25) rfl))) (hw _ (List.mem_of_getElem? (i := 2) rfl)) (ty := .long) (by decide) rfl rfl d8_7 rfl (fun T11 h11 X11 e11 W11 => ?_)
  have O11 := Ob_B.put_held hw W11 O10
  have N11 := Fr.snoc X11 N10 na_oo
  have K11 := Keep.wr K10 W11 (Or.inl (List.mem_of_getElem? (i := 0) rfl))
  refine Go.aloadN X11 hx hby (v := .ref oo) d8_10 rfl rfl rfl ?_
  refine Go.lconst X11 hx hby (v := (0 : Int64)) d8_11 rfl rfl ?_
  refine Go.putF X11 hx hby hZ hown (hw _ (List.mem_of_getElem? (i := 26) rfl)) e11 (Ob_B.get_heldBeforeRow O11) (Ob_B.exa O11) (Or.inl (hw _ (List.mem_of_getElem? (i := 27) rfl))) (hw _ (List.mem_of_getElem? (i := 2) rfl)) (ty := .long) (by decide) rfl rfl d8_12 rfl (fun T12 h12 X12 e12 W12 => ?_)
  have O12 := Ob_B.put_heldBeforeRow hw W12 O11
  have N12 := Fr.snoc X12 N11 na_oo
  have K12 := Keep.wr K11 W12 (Or.inl (List.mem_of_getElem? (i := 0) rfl))
  exact Go.vret X12 hx hby hlk hret d8_15 (by decide) (by decide) (by obtain rfl := Option.some.inj hf; unfold QB8; exact ⟨rfl, N12, by rw [e12]; exact K12, by rw [e12]; exact O12⟩)
-- body 9
def f9_0 (G_oo_limit : Int64) (G_oo_wholeBatch : Int32) (G_oo_held : Int64) (G_oo_heldBeforeRow : Int64) : Option (Int64 × Int32 × Int64 × Int64) := some (G_oo_limit, G_oo_wholeBatch, G_oo_held, G_oo_held)
theorem d9_0 : decode prog_27_method_5_code 0 = .ok (.aload_n 0, 1) := by decide +kernel
theorem d9_1 : decode prog_27_method_5_code 1 = .ok (.aload_n 0, 1) := by decide +kernel
theorem d9_2 : decode prog_27_method_5_code 2 = .ok (.getfield 17, 3) := by decide +kernel
theorem d9_5 : decode prog_27_method_5_code 5 = .ok (.putfield 20, 3) := by decide +kernel
theorem d9_8 : decode prog_27_method_5_code 8 = .ok (.return_, 1) := by decide +kernel
abbrev Y9 : MethodName := ⟨"com/example/stripewright/stripewright/NestedValueBudget", "startRow", "()V"⟩
def RM9 : Room := { frames := 0, cells := 0, slots := 0, locals := 0 }
theorem pd_9 : parseMethodDescriptor Y9.desc = some ⟨[], none⟩ := by decide +kernel
theorem pn_9 : plainName "com/example/stripewright/stripewright/NestedValueBudget" = true := by first | (simp [plainName, overriddenIn]; done) | decide +kernel
theorem ef_9 (m : MethodId) (oo : Addr) : entryFrame m #[.ref oo] 1 = mkF m 0 #[.val (.ref oo)] [] := by first | (simp [entryFrame, mkF, argsToLocals, Value.category]; done) | rfl
def QB9 (Z : State) (h0 : Heap) (n0 : Nat) (oo : Addr) (r : Int64 × Int32 × Int64 × Int64) (v : Option Value) (h : Heap) (L : List Loc) : Prop := v = none ∧ Fr n0 L ∧ Keep h0 h [oo] ∧ Ob_B Z h oo (.long r.1) (.int r.2.1) (.long r.2.2.1) (.long r.2.2.2)
set_option maxRecDepth 65536 in
set_option maxHeartbeats 40000000 in
theorem rm9 (l : Launch) (Z : State) (a0 : Array Value) (hw : ∀ d ∈ tables_1, d.before a0 Z = true) (oo : Addr) (G_oo_limit : Int64) (G_oo_wholeBatch : Int32) (G_oo_held : Int64) (G_oo_heldBeforeRow : Int64) (h0 : Heap) (n0 : Nat) (Z0 : n0 ≤ h0.size) (r : Int64 × Int32 × Int64 × Int64) (hf : f9_0 G_oo_limit G_oo_wholeBatch G_oo_held G_oo_heldBeforeRow = some r) (F_oo : Ob_B Z h0 oo (.long G_oo_limit) (.int G_oo_wholeBatch) (.long G_oo_held) (.long G_oo_heldBeforeRow)) (na_oo : n0 ≤ oo) :
    MetFree l Y9 (head1 ([Jvm.Cond.code Y9 prog_27_method_5_code 1 (none)]) RM9) (fun a U => a = #[.ref oo] ∧ Z.Warmed39 U.vm ∧ U.heap = h0) (fun _ _ _ _ _ => True) (fun _ U o U' => ∃ v L, o = .returned v ∧ (QB9 Z h0 n0 oo r) v U'.heap L ∧ FrameEnd U o U' L RM9.cells RM9.slots) := by
  refine MetFree.of_bodySF (plainFor_of_name pn_9) hisR ?_
  intro p e s m args below meth c s₁ Bd hml0 hP hK
  obtain ⟨rfl, hZ, hh⟩ := hP
  have hx := Bd.exec
  have hby := Bd.bytes
  have hlk : meth.locks = false := BodyLoose.notSynchronized Bd
  have hret := Bd.returns
  have hml : c.maxLocals = 1 := hml0
  have hown : s.vm.findClass "com/example/stripewright/stripewright/NestedValueBudget" = some m.cls := findClass_of_methodNamed Bd.named
  have X0 : Stand p l e RM9 s m #[.ref oo] below meth c s₁ [] 0 0 := Stand.of_body Bd
  have e0 : s₁.heap = h0 := by rw [← hh, Bd.state]; rfl
  have N0 := Fr.nil n0
  have K0 := Keep.refl h0 [oo]
  suffices G : Go p e below s RM9.cells RM9.slots (QB9 Z h0 n0 oo r) m s₁ 0 #[.val (.ref oo)] [] by
    obtain ⟨s₂, o, h1, h2⟩ := G
    exact ⟨s₂, o, castTop (ef_9 m oo) h1, h2⟩
  have hf0 := hf
  clear hf
  have hf := hf0
  unfold f9_0 at hf
  refine Go.aloadN X0 hx hby (v := .ref oo) d9_0 rfl rfl rfl ?_
  refine Go.aloadN X0 hx hby (v := .ref oo) d9_1 rfl rfl rfl ?_
  refine Go.getF X0 hx hby hZ hown (hw _ (List.mem_of_getElem? (i := 24) rfl)) e0 (Ob_B.get_held F_oo) d9_2 rfl (fun T15 X15 e15 => ?_)
  refine Go.putF X15 hx hby hZ hown (hw _ (List.mem_of_getElem? (i := 26) rfl)) e15 (Ob_B.get_heldBeforeRow F_oo) (Ob_B.exa F_oo) (Or.inl (hw _ (List.mem_of_getElem? (i := 27) rfl))) (hw _ (List.mem_of_getElem? (i := 2) rfl)) (ty := .long) (by decide) rfl rfl d9_5 rfl (fun T16 h16 X16 e16 W16 => ?_)
  have O16 := Ob_B.put_heldBeforeRow hw W16 F_oo
  have N16 := Fr.snoc X16 N0 na_oo
  have K16 := Keep.wr K0 W16 (Or.inl (List.mem_of_getElem? (i := 0) rfl))
  exact Go.vret X16 hx hby hlk hret d9_8 (by decide) (by decide) (by obtain rfl := Option.some.inj hf; unfold QB9; exact ⟨rfl, N16, by rw [e16]; exact K16, by rw [e16]; exact O16⟩)
-- body 5
def f5_0 (x0 : Int64) (x2 : Int64) : Option (Int64) := if (x0 &&& (1 : Int64)) = (0 : Int64) then some ((XT.ushrL x0 (1 : Int32)) &&& (2305843009213693951 : Int64)) else if ((x2 + ((XT.ushrL x0 (1 : Int32)) &&& (3 : Int64))) - (2 : Int64)) < (0 : Int64) then some (0 : Int64) else some ((x2 + ((XT.ushrL x0 (1 : Int32)) &&& (3 : Int64))) - (2 : Int64))
theorem d5_0 : decode method_2_code 0 = .ok (.lload_n 0, 1) := by decide +kernel
theorem d5_1 : decode method_2_code 1 = .ok (.lconst 1, 1) := by decide +kernel
theorem d5_2 : decode method_2_code 2 = .ok (.land, 1) := by decide +kernel
theorem d5_3 : decode method_2_code 3 = .ok (.lconst 0, 1) := by decide +kernel
theorem d5_4 : decode method_2_code 4 = .ok (.lcmp, 1) := by decide +kernel
theorem d5_5 : decode method_2_code 5 = .ok (.ifCond .ne 11, 3) := by decide +kernel
theorem d5_8 : decode method_2_code 8 = .ok (.lload_n 0, 1) := by decide +kernel
theorem d5_9 : decode method_2_code 9 = .ok (.iconst 1, 1) := by decide +kernel
theorem d5_10 : decode method_2_code 10 = .ok (.lushr, 1) := by decide +kernel
theorem d5_11 : decode method_2_code 11 = .ok (.ldc2_w 9, 3) := by decide +kernel
theorem d5_14 : decode method_2_code 14 = .ok (.land, 1) := by decide +kernel
theorem d5_15 : decode method_2_code 15 = .ok (.lreturn, 1) := by decide +kernel
theorem d5_16 : decode method_2_code 16 = .ok (.lload_n 2, 1) := by decide +kernel
theorem d5_17 : decode method_2_code 17 = .ok (.lload_n 0, 1) := by decide +kernel
theorem d5_18 : decode method_2_code 18 = .ok (.iconst 1, 1) := by decide +kernel
theorem d5_19 : decode method_2_code 19 = .ok (.lushr, 1) := by decide +kernel
theorem d5_20 : decode method_2_code 20 = .ok (.ldc2_w 11, 3) := by decide +kernel
theorem d5_23 : decode method_2_code 23 = .ok (.land, 1) := by decide +kernel
theorem d5_24 : decode method_2_code 24 = .ok (.ladd, 1) := by decide +kernel
theorem d5_25 : decode method_2_code 25 = .ok (.ldc2_w 13, 3) := by decide +kernel
theorem d5_28 : decode method_2_code 28 = .ok (.lsub, 1) := by decide +kernel
theorem d5_29 : decode method_2_code 29 = .ok (.lstore 4, 2) := by decide +kernel
theorem d5_31 : decode method_2_code 31 = .ok (.lload 4, 2) := by decide +kernel
theorem d5_33 : decode method_2_code 33 = .ok (.lconst 0, 1) := by decide +kernel
theorem d5_34 : decode method_2_code 34 = .ok (.lcmp, 1) := by decide +kernel
theorem d5_35 : decode method_2_code 35 = .ok (.ifCond .ge 7, 3) := by decide +kernel
theorem d5_38 : decode method_2_code 38 = .ok (.lconst 0, 1) := by decide +kernel
theorem d5_39 : decode method_2_code 39 = .ok (.goto 5, 3) := by decide +kernel
theorem d5_42 : decode method_2_code 42 = .ok (.lload 4, 2) := by decide +kernel
theorem d5_44 : decode method_2_code 44 = .ok (.lreturn, 1) := by decide +kernel
abbrev Y5 : MethodName := ⟨"com/example/stripewright/stripewright/NestedValueBudgetTakePinLaw", "draw", "(JJ)J"⟩
def RM5 : Room := { frames := 0, cells := 0, slots := 0, locals := 0 }
theorem pd_5 : parseMethodDescriptor Y5.desc = some ⟨[.long, .long], some .long⟩ := by decide +kernel
theorem pn_5 : plainName "com/example/stripewright/stripewright/NestedValueBudgetTakePinLaw" = true := by first | (simp [plainName, overriddenIn]; done) | decide +kernel
theorem ef_5 (m : MethodId) (x0 : Int64) (x2 : Int64) : entryFrame m #[.long x0, .long x2] 6 = mkF m 0 #[.val (.long x0), .second, .val (.long x2), .second, .unset, .unset] [] := by first | (simp [entryFrame, mkF, argsToLocals, Value.category]; done) | rfl
set_option maxRecDepth 65536 in
set_option maxHeartbeats 40000000 in
theorem rm5 (l : Launch) (Z : State) (a0 : Array Value) (hw : ∀ d ∈ tables_1, d.before a0 Z = true) (x0 : Int64) (x2 : Int64)  (h0 : Heap) (r : Int64) (hf : f5_0 x0 x2 = some r)  :
    MetFree l Y5 (head1 ([Jvm.Cond.code Y5 method_2_code 6 (some .long)]) RM5) (fun a U => a = #[.long x0, .long x2] ∧ Z.Warmed39 U.vm ∧ U.heap = h0) (fun _ _ _ _ _ => True) (fun _ U o U' => ∃ v L, o = .returned v ∧ (PQ h0 (some (.long r))) v U'.heap L ∧ FrameEnd U o U' L RM5.cells RM5.slots) := by
  refine MetFree.of_bodySF (plainFor_of_name pn_5) hisR ?_
  intro p e s m args below meth c s₁ Bd hml0 hP hK
  obtain ⟨rfl, hZ, hh⟩ := hP
  have hx := Bd.exec
  have hby := Bd.bytes
  have hlk : meth.locks = false := BodyLoose.notSynchronized Bd
  have hret := Bd.returns
  have hml : c.maxLocals = 6 := hml0
  have hown : s.vm.findClass "com/example/stripewright/stripewright/NestedValueBudgetTakePinLaw" = some m.cls := findClass_of_methodNamed Bd.named
  have X0 : Stand p l e RM5 s m #[.long x0, .long x2] below meth c s₁ [] 0 0 := Stand.of_body Bd
  have e0 : s₁.heap = h0 := by rw [← hh, Bd.state]; rfl
  suffices G : Go p e below s RM5.cells RM5.slots (PQ h0 (some (.long r))) m s₁ 0 #[.val (.long x0), .second, .val (.long x2), .second, .unset, .unset] [] by
    obtain ⟨s₂, o, h1, h2⟩ := G
    exact ⟨s₂, o, castTop (ef_5 m x0 x2) h1, h2⟩
  have hf0 := hf
  clear hf
  have hf := hf0
  unfold f5_0 at hf
  refine Go.lloadN X0 hx hby (v := x0) d5_0 rfl rfl ?_
  refine Go.lconst X0 hx hby (v := (1 : Int64)) d5_1 rfl rfl ?_
  refine Go.land X0 hx hby d5_2 rfl ?_
  refine Go.lconst X0 hx hby (v := (0 : Int64)) d5_3 rfl rfl ?_
  refine Go.lcmp X0 hx hby d5_4 rfl ?_
  refine Go.ifL_ne X0 hx hby (pc' := 16) d5_5 (by decide) (by decide) rfl (fun hc19 => ?_) (fun hc19 => ?_)
  · replace hf := (if_neg hc19).symm.trans hf
    refine Go.lloadN X0 hx hby (v := x2) d5_16 rfl rfl ?_
    refine Go.lloadN X0 hx hby (v := x0) d5_17 rfl rfl ?_
    refine Go.iconst X0 hx hby (v := (1 : Int32)) d5_18 rfl rfl ?_
    refine Go.lushr X0 hx hby d5_19 rfl ?_
    refine Go.ldcJ X0 hx hby hZ (v := (3 : Int64)) hown (hw _ (List.mem_of_getElem? (i := 32) rfl)) d5_20 rfl ?_
    refine Go.land X0 hx hby d5_23 rfl ?_
    refine Go.ladd X0 hx hby d5_24 rfl ?_
    refine Go.ldcJ X0 hx hby hZ (v := (2 : Int64)) hown (hw _ (List.mem_of_getElem? (i := 33) rfl)) d5_25 rfl ?_
    refine Go.lsub X0 hx hby d5_28 rfl ?_
    refine Go.lstore X0 hx hby (Ls' := #[.val (.long x0), .second, .val (.long x2), .second, .val (.long ((x2 + ((XT.ushrL x0 (1 : Int32)) &&& (3 : Int64))) - (2 : Int64))), .second]) d5_29 rfl rfl ?_
    refine Go.lload X0 hx hby (v := ((x2 + ((XT.ushrL x0 (1 : Int32)) &&& (3 : Int64))) - (2 : Int64))) d5_31 rfl rfl ?_
    refine Go.lconst X0 hx hby (v := (0 : Int64)) d5_33 rfl rfl ?_
    refine Go.lcmp X0 hx hby d5_34 rfl ?_
    refine Go.ifL_ge X0 hx hby (pc' := 42) d5_35 (by decide) (by decide) rfl (fun hc20 => ?_) (fun hc20 => ?_)
    · replace hf := (if_neg hc20).symm.trans hf
      refine Go.lload X0 hx hby (v := ((x2 + ((XT.ushrL x0 (1 : Int32)) &&& (3 : Int64))) - (2 : Int64))) d5_42 rfl rfl ?_
      exact Go.lret X0 hx hby hlk hret d5_44 (by decide) (by decide) ⟨congrArg (fun z => some (Value.long z)) (Option.some.inj hf), rfl, e0⟩
    · replace hf := (if_pos hc20).symm.trans hf
      refine Go.lconst X0 hx hby (v := (0 : Int64)) d5_38 rfl rfl ?_
      refine Go.goto X0 hx hby (pc' := 44) d5_39 (by decide) (by decide) ?_
      exact Go.lret X0 hx hby hlk hret d5_44 (by decide) (by decide) ⟨congrArg (fun z => some (Value.long z)) (Option.some.inj hf), rfl, e0⟩
  · replace hf := (if_pos hc19).symm.trans hf
    refine Go.lloadN X0 hx hby (v := x0) d5_8 rfl rfl ?_
    refine Go.iconst X0 hx hby (v := (1 : Int32)) d5_9 rfl rfl ?_
    refine Go.lushr X0 hx hby d5_10 rfl ?_
    refine Go.ldcJ X0 hx hby hZ (v := (2305843009213693951 : Int64)) hown (hw _ (List.mem_of_getElem? (i := 0) rfl)) d5_11 rfl ?_
    refine Go.land X0 hx hby d5_14 rfl ?_
    exact Go.lret X0 hx hby hlk hret d5_15 (by decide) (by decide) ⟨congrArg (fun z => some (Value.long z)) (Option.some.inj hf), rfl, e0⟩
-- body 6
def f6_46 (x1 : Int64) (G_oo_limit : Int64) (G_oo_wholeBatch : Int32) (G_oo_held : Int64) (G_oo_heldBeforeRow : Int64) : Option (Int32 × Int64 × Int32 × Int64 × Int64) := some ((1 : Int32), G_oo_limit, G_oo_wholeBatch, (G_oo_held + x1), G_oo_heldBeforeRow)
def f6_0 (x1 : Int64) (G_oo_limit : Int64) (G_oo_wholeBatch : Int32) (G_oo_held : Int64) (G_oo_heldBeforeRow : Int64) : Option (Int32 × Int64 × Int32 × Int64 × Int64) := if G_oo_wholeBatch = 0 then if (G_oo_limit - (G_oo_held - G_oo_heldBeforeRow)) < x1 then some ((0 : Int32), G_oo_limit, G_oo_wholeBatch, G_oo_held, G_oo_heldBeforeRow) else f6_46 x1 G_oo_limit G_oo_wholeBatch G_oo_held G_oo_heldBeforeRow else if x1 < (G_oo_limit - G_oo_held) then f6_46 x1 G_oo_limit G_oo_wholeBatch G_oo_held G_oo_heldBeforeRow else none
theorem d6_0 : decode prog_27_method_7_code 0 = .ok (.aload_n 0, 1) := by decide +kernel
theorem d6_1 : decode prog_27_method_7_code 1 = .ok (.getfield 13, 3) := by decide +kernel
theorem d6_4 : decode prog_27_method_7_code 4 = .ok (.ifCond .eq 21, 3) := by decide +kernel
theorem d6_7 : decode prog_27_method_7_code 7 = .ok (.lload_n 1, 1) := by decide +kernel
theorem d6_8 : decode prog_27_method_7_code 8 = .ok (.aload_n 0, 1) := by decide +kernel
theorem d6_9 : decode prog_27_method_7_code 9 = .ok (.getfield 7, 3) := by decide +kernel
theorem d6_12 : decode prog_27_method_7_code 12 = .ok (.aload_n 0, 1) := by decide +kernel
theorem d6_13 : decode prog_27_method_7_code 13 = .ok (.getfield 17, 3) := by decide +kernel
theorem d6_16 : decode prog_27_method_7_code 16 = .ok (.lsub, 1) := by decide +kernel
theorem d6_17 : decode prog_27_method_7_code 17 = .ok (.lcmp, 1) := by decide +kernel
theorem d6_18 : decode prog_27_method_7_code 18 = .ok (.ifCond .lt 28, 3) := by decide +kernel
theorem d6_21 : decode prog_27_method_7_code 21 = .ok (.getstatic 23, 3) := by decide +kernel
theorem d6_25 : decode prog_27_method_7_code 25 = .ok (.lload_n 1, 1) := by decide +kernel
theorem d6_26 : decode prog_27_method_7_code 26 = .ok (.aload_n 0, 1) := by decide +kernel
theorem d6_27 : decode prog_27_method_7_code 27 = .ok (.getfield 7, 3) := by decide +kernel
theorem d6_30 : decode prog_27_method_7_code 30 = .ok (.aload_n 0, 1) := by decide +kernel
theorem d6_31 : decode prog_27_method_7_code 31 = .ok (.getfield 17, 3) := by decide +kernel
theorem d6_34 : decode prog_27_method_7_code 34 = .ok (.aload_n 0, 1) := by decide +kernel
theorem d6_35 : decode prog_27_method_7_code 35 = .ok (.getfield 20, 3) := by decide +kernel
theorem d6_38 : decode prog_27_method_7_code 38 = .ok (.lsub, 1) := by decide +kernel
theorem d6_39 : decode prog_27_method_7_code 39 = .ok (.lsub, 1) := by decide +kernel
theorem d6_40 : decode prog_27_method_7_code 40 = .ok (.lcmp, 1) := by decide +kernel
theorem d6_41 : decode prog_27_method_7_code 41 = .ok (.ifCond .le 5, 3) := by decide +kernel
theorem d6_44 : decode prog_27_method_7_code 44 = .ok (.iconst 0, 1) := by decide +kernel
theorem d6_45 : decode prog_27_method_7_code 45 = .ok (.ireturn, 1) := by decide +kernel
theorem d6_46 : decode prog_27_method_7_code 46 = .ok (.aload_n 0, 1) := by decide +kernel
theorem d6_47 : decode prog_27_method_7_code 47 = .ok (.dup, 1) := by decide +kernel
theorem d6_48 : decode prog_27_method_7_code 48 = .ok (.getfield 17, 3) := by decide +kernel
theorem d6_51 : decode prog_27_method_7_code 51 = .ok (.lload_n 1, 1) := by decide +kernel
theorem d6_52 : decode prog_27_method_7_code 52 = .ok (.ladd, 1) := by decide +kernel
theorem d6_53 : decode prog_27_method_7_code 53 = .ok (.putfield 17, 3) := by decide +kernel
theorem d6_56 : decode prog_27_method_7_code 56 = .ok (.iconst 1, 1) := by decide +kernel
theorem d6_57 : decode prog_27_method_7_code 57 = .ok (.ireturn, 1) := by decide +kernel
abbrev Y6 : MethodName := ⟨"com/example/stripewright/stripewright/NestedValueBudget", "take", "(J)Z"⟩
def RM6 : Room := { frames := 0, cells := 0, slots := 0, locals := 0 }
theorem pd_6 : parseMethodDescriptor Y6.desc = some ⟨[.long], some .boolean⟩ := by decide +kernel
theorem pn_6 : plainName "com/example/stripewright/stripewright/NestedValueBudget" = true := by first | (simp [plainName, overriddenIn]; done) | decide +kernel
theorem ef_6 (m : MethodId) (oo : Addr) (x1 : Int64) : entryFrame m #[.ref oo, .long x1] 3 = mkF m 0 #[.val (.ref oo), .val (.long x1), .second] [] := by first | (simp [entryFrame, mkF, argsToLocals, Value.category]; done) | rfl
def QB6 (Z : State) (h0 : Heap) (n0 : Nat) (oo : Addr) (r : Int32 × Int64 × Int32 × Int64 × Int64) (v : Option Value) (h : Heap) (L : List Loc) : Prop := v = some (.int r.1) ∧ Fr n0 L ∧ Keep h0 h [oo] ∧ Ob_B Z h oo (.long r.2.1) (.int r.2.2.1) (.long r.2.2.2.1) (.long r.2.2.2.2)
set_option maxRecDepth 65536 in
set_option maxHeartbeats 40000000 in
theorem rm6 (l : Launch) (Z : State) (a0 : Array Value) (hw : ∀ d ∈ tables_1, d.before a0 Z = true) (oo : Addr) (x1 : Int64) (G_oo_limit : Int64) (G_oo_wholeBatch : Int32) (G_oo_held : Int64) (G_oo_heldBeforeRow : Int64) (h0 : Heap) (n0 : Nat) (Z0 : n0 ≤ h0.size) (r : Int32 × Int64 × Int32 × Int64 × Int64) (hf : f6_0 x1 G_oo_limit G_oo_wholeBatch G_oo_held G_oo_heldBeforeRow = some r) (F_oo : Ob_B Z h0 oo (.long G_oo_limit) (.int G_oo_wholeBatch) (.long G_oo_held) (.long G_oo_heldBeforeRow)) (na_oo : n0 ≤ oo) :
    MetFree l Y6 (head1 ([Jvm.Cond.code Y6 prog_27_method_7_code 3 (some .boolean)]) RM6) (fun a U => a = #[.ref oo, .long x1] ∧ Z.Warmed39 U.vm ∧ U.heap = h0) (fun _ _ _ _ _ => True) (fun _ U o U' => ∃ v L, o = .returned v ∧ (QB6 Z h0 n0 oo r) v U'.heap L ∧ FrameEnd U o U' L RM6.cells RM6.slots) := by
  refine MetFree.of_bodySF (plainFor_of_name pn_6) hisR ?_
  intro p e s m args below meth c s₁ Bd hml0 hP hK
  obtain ⟨rfl, hZ, hh⟩ := hP
  have hx := Bd.exec
  have hby := Bd.bytes
  have hlk : meth.locks = false := BodyLoose.notSynchronized Bd
  have hret := Bd.returns
  have hml : c.maxLocals = 3 := hml0
  have hown : s.vm.findClass "com/example/stripewright/stripewright/NestedValueBudget" = some m.cls := findClass_of_methodNamed Bd.named
  have X0 : Stand p l e RM6 s m #[.ref oo, .long x1] below meth c s₁ [] 0 0 := Stand.of_body Bd
  have e0 : s₁.heap = h0 := by rw [← hh, Bd.state]; rfl
  have N0 := Fr.nil n0
  have K0 := Keep.refl h0 [oo]
  suffices G : Go p e below s RM6.cells RM6.slots (QB6 Z h0 n0 oo r) m s₁ 0 #[.val (.ref oo), .val (.long x1), .second] [] by
    obtain ⟨s₂, o, h1, h2⟩ := G
    exact ⟨s₂, o, castTop (ef_6 m oo x1) h1, h2⟩
  have hf0 := hf
  clear hf
  have B46 : ∀ (T : State) (h : Heap) (locs : List Loc), Stand p l e RM6 s m #[.ref oo, .long x1] below meth c T locs 0 0 → T.heap = h → Fr n0 locs → Keep h0 h [oo] → ∀ (G_oo_limit : Int64) (G_oo_wholeBatch : Int32) (G_oo_held : Int64) (G_oo_heldBeforeRow : Int64), Ob_B Z h oo (.long G_oo_limit) (.int G_oo_wholeBatch) (.long G_oo_held) (.long G_oo_heldBeforeRow) → ∀ (x1 : Int64), f6_46 x1 G_oo_limit G_oo_wholeBatch G_oo_held G_oo_heldBeforeRow = some r → Go p e below s RM6.cells RM6.slots (QB6 Z h0 n0 oo r) m T 46 #[.val (.ref oo), .val (.long x1), .second] [] := by
    intro T32 h32 _ X32 e32 N32 K32 G_oo_limit G_oo_wholeBatch G_oo_held G_oo_heldBeforeRow F32_oo x1 hf
    unfold f6_46 at hf
    refine Go.aloadN X32 hx hby (v := .ref oo) d6_46 rfl rfl rfl ?_
    refine Go.dup X32 hx hby d6_47 rfl rfl ?_
    refine Go.getF X32 hx hby hZ hown (hw _ (List.mem_of_getElem? (i := 24) rfl)) e32 (Ob_B.get_held F32_oo) d6_48 rfl (fun T33 X33 e33 => ?_)
    refine Go.lloadN X33 hx hby (v := x1) d6_51 rfl rfl ?_
    refine Go.ladd X33 hx hby d6_52 rfl ?_
    refine Go.putF X33 hx hby hZ hown (hw _ (List.mem_of_getElem? (i := 24) rfl)) e33 (Ob_B.get_held F32_oo) (Ob_B.exa F32_oo) (Or.inl (hw _ (List.mem_of_getElem? (i := 25) rfl))) (hw _ (List.mem_of_getElem? (i := 2) rfl)) (ty := .long) (by decide) rfl rfl d6_53 rfl (fun T34 h34 X34 e34 W34 => ?_)
    have O34 := Ob_B.put_held hw W34 F32_oo
    have N34 := Fr.snoc X34 N32 na_oo
    have K34 := Keep.wr K32 W34 (Or.inl (List.mem_of_getElem? (i := 0) rfl))
    refine Go.iconst X34 hx hby (v := (1 : Int32)) d6_56 rfl rfl ?_
    exact Go.iretN X34 hx hby hlk hret (Or.inl rfl) (w' := (1 : Int32)) rfl d6_57 (by decide) (by decide) (by obtain rfl := Option.some.inj hf; unfold QB6; exact ⟨rfl, N34, by rw [e34]; exact K34, by rw [e34]; exact O34⟩)
  have hf := hf0
  unfold f6_0 at hf
  refine Go.aloadN X0 hx hby (v := .ref oo) d6_0 rfl rfl rfl ?_
  refine Go.getF X0 hx hby hZ hown (hw _ (List.mem_of_getElem? (i := 22) rfl)) e0 (Ob_B.get_wholeBatch F_oo) d6_1 rfl (fun T35 X35 e35 => ?_)
  refine Go.if_eq X35 hx hby (pc' := 25) d6_4 (by decide) (by decide) rfl (fun hc36 => ?_) (fun hc36 => ?_)
  · replace hf := (if_pos hc36).symm.trans hf
    refine Go.lloadN X35 hx hby (v := x1) d6_25 rfl rfl ?_
    refine Go.aloadN X35 hx hby (v := .ref oo) d6_26 rfl rfl rfl ?_
    refine Go.getF X35 hx hby hZ hown (hw _ (List.mem_of_getElem? (i := 10) rfl)) e35 (Ob_B.get_limit F_oo) d6_27 rfl (fun T37 X37 e37 => ?_)
    refine Go.aloadN X37 hx hby (v := .ref oo) d6_30 rfl rfl rfl ?_
    refine Go.getF X37 hx hby hZ hown (hw _ (List.mem_of_getElem? (i := 24) rfl)) e37 (Ob_B.get_held F_oo) d6_31 rfl (fun T38 X38 e38 => ?_)
    refine Go.aloadN X38 hx hby (v := .ref oo) d6_34 rfl rfl rfl ?_
    refine Go.getF X38 hx hby hZ hown (hw _ (List.mem_of_getElem? (i := 26) rfl)) e38 (Ob_B.get_heldBeforeRow F_oo) d6_35 rfl (fun T39 X39 e39 => ?_)
    refine Go.lsub X39 hx hby d6_38 rfl ?_
    refine Go.lsub X39 hx hby d6_39 rfl ?_
    refine Go.lcmp X39 hx hby d6_40 rfl ?_
    refine Go.ifL_le X39 hx hby (pc' := 46) d6_41 (by decide) (by decide) rfl (fun hc40 => ?_) (fun hc40 => ?_)
    · replace hf := (if_neg hc40).symm.trans hf
      exact B46 T39 h0 _ X39 e39 N0 K0    G_oo_limit G_oo_wholeBatch G_oo_held G_oo_heldBeforeRow F_oo x1 hf
    · replace hf := (if_pos hc40).symm.trans hf
      refine Go.iconst X39 hx hby (v := (0 : Int32)) d6_44 rfl rfl ?_
      exact Go.iretN X39 hx hby hlk hret (Or.inl rfl) (w' := (0 : Int32)) rfl d6_45 (by decide) (by decide) (by obtain rfl := Option.some.inj hf; unfold QB6; exact ⟨rfl, N0, by rw [e39]; exact K0, by rw [e39]; exact F_oo⟩)
  · replace hf := (if_neg hc36).symm.trans hf
    refine Go.lloadN X35 hx hby (v := x1) d6_7 rfl rfl ?_
    refine Go.aloadN X35 hx hby (v := .ref oo) d6_8 rfl rfl rfl ?_
    refine Go.getF X35 hx hby hZ hown (hw _ (List.mem_of_getElem? (i := 10) rfl)) e35 (Ob_B.get_limit F_oo) d6_9 rfl (fun T41 X41 e41 => ?_)
    refine Go.aloadN X41 hx hby (v := .ref oo) d6_12 rfl rfl rfl ?_
    refine Go.getF X41 hx hby hZ hown (hw _ (List.mem_of_getElem? (i := 24) rfl)) e41 (Ob_B.get_held F_oo) d6_13 rfl (fun T42 X42 e42 => ?_)
    refine Go.lsub X42 hx hby d6_16 rfl ?_
    refine Go.lcmp X42 hx hby d6_17 rfl ?_
    refine Go.ifL_lt X42 hx hby (pc' := 46) d6_18 (by decide) (by decide) rfl (fun hc43 => ?_) (fun hc43 => ?_)
    · replace hf := (if_pos hc43).symm.trans hf
      exact B46 T42 h0 _ X42 e42 N0 K0    G_oo_limit G_oo_wholeBatch G_oo_held G_oo_heldBeforeRow F_oo x1 hf
    · replace hf := (if_neg hc43).symm.trans hf
      exact nomatch hf
-- body 7
def f7_0 (G_oo_limit : Int64) (G_oo_wholeBatch : Int32) (G_oo_held : Int64) (G_oo_heldBeforeRow : Int64) : Option (Int32) := if G_oo_held < G_oo_limit then some (0 : Int32) else some (1 : Int32)
theorem d7_0 : decode prog_27_method_6_code 0 = .ok (.aload_n 0, 1) := by decide +kernel
theorem d7_1 : decode prog_27_method_6_code 1 = .ok (.getfield 17, 3) := by decide +kernel
theorem d7_4 : decode prog_27_method_6_code 4 = .ok (.aload_n 0, 1) := by decide +kernel
theorem d7_5 : decode prog_27_method_6_code 5 = .ok (.getfield 7, 3) := by decide +kernel
theorem d7_8 : decode prog_27_method_6_code 8 = .ok (.lcmp, 1) := by decide +kernel
theorem d7_9 : decode prog_27_method_6_code 9 = .ok (.ifCond .lt 7, 3) := by decide +kernel
theorem d7_12 : decode prog_27_method_6_code 12 = .ok (.iconst 1, 1) := by decide +kernel
theorem d7_13 : decode prog_27_method_6_code 13 = .ok (.goto 4, 3) := by decide +kernel
theorem d7_16 : decode prog_27_method_6_code 16 = .ok (.iconst 0, 1) := by decide +kernel
theorem d7_17 : decode prog_27_method_6_code 17 = .ok (.ireturn, 1) := by decide +kernel
abbrev Y7 : MethodName := ⟨"com/example/stripewright/stripewright/NestedValueBudget", "isSpent", "()Z"⟩
def RM7 : Room := { frames := 0, cells := 0, slots := 0, locals := 0 }
theorem pd_7 : parseMethodDescriptor Y7.desc = some ⟨[], some .boolean⟩ := by decide +kernel
theorem pn_7 : plainName "com/example/stripewright/stripewright/NestedValueBudget" = true := by first | (simp [plainName, overriddenIn]; done) | decide +kernel
theorem ef_7 (m : MethodId) (oo : Addr) : entryFrame m #[.ref oo] 1 = mkF m 0 #[.val (.ref oo)] [] := by first | (simp [entryFrame, mkF, argsToLocals, Value.category]; done) | rfl
set_option maxRecDepth 65536 in
set_option maxHeartbeats 40000000 in
theorem rm7 (l : Launch) (Z : State) (a0 : Array Value) (hw : ∀ d ∈ tables_1, d.before a0 Z = true) (oo : Addr) (G_oo_limit : Int64) (G_oo_wholeBatch : Int32) (G_oo_held : Int64) (G_oo_heldBeforeRow : Int64) (h0 : Heap) (r : Int32) (hf : f7_0 G_oo_limit G_oo_wholeBatch G_oo_held G_oo_heldBeforeRow = some r) (F_oo : Ob_B Z h0 oo (.long G_oo_limit) (.int G_oo_wholeBatch) (.long G_oo_held) (.long G_oo_heldBeforeRow)) :
    MetFree l Y7 (head1 ([Jvm.Cond.code Y7 prog_27_method_6_code 1 (some .boolean)]) RM7) (fun a U => a = #[.ref oo] ∧ Z.Warmed39 U.vm ∧ U.heap = h0) (fun _ _ _ _ _ => True) (fun _ U o U' => ∃ v L, o = .returned v ∧ (PQ h0 (some (.int r))) v U'.heap L ∧ FrameEnd U o U' L RM7.cells RM7.slots) := by
  refine MetFree.of_bodySF (plainFor_of_name pn_7) hisR ?_
  intro p e s m args below meth c s₁ Bd hml0 hP hK
  obtain ⟨rfl, hZ, hh⟩ := hP
  have hx := Bd.exec
  have hby := Bd.bytes
  have hlk : meth.locks = false := BodyLoose.notSynchronized Bd
  have hret := Bd.returns
  have hml : c.maxLocals = 1 := hml0
  have hown : s.vm.findClass "com/example/stripewright/stripewright/NestedValueBudget" = some m.cls := findClass_of_methodNamed Bd.named
  have X0 : Stand p l e RM7 s m #[.ref oo] below meth c s₁ [] 0 0 := Stand.of_body Bd
  have e0 : s₁.heap = h0 := by rw [← hh, Bd.state]; rfl
  suffices G : Go p e below s RM7.cells RM7.slots (PQ h0 (some (.int r))) m s₁ 0 #[.val (.ref oo)] [] by
    obtain ⟨s₂, o, h1, h2⟩ := G
    exact ⟨s₂, o, castTop (ef_7 m oo) h1, h2⟩
  have hf0 := hf
  clear hf
  have hf := hf0
  unfold f7_0 at hf
  refine Go.aloadN X0 hx hby (v := .ref oo) d7_0 rfl rfl rfl ?_
  refine Go.getF X0 hx hby hZ hown (hw _ (List.mem_of_getElem? (i := 24) rfl)) e0 (Ob_B.get_held F_oo) d7_1 rfl (fun T47 X47 e47 => ?_)
  refine Go.aloadN X47 hx hby (v := .ref oo) d7_4 rfl rfl rfl ?_
  refine Go.getF X47 hx hby hZ hown (hw _ (List.mem_of_getElem? (i := 10) rfl)) e47 (Ob_B.get_limit F_oo) d7_5 rfl (fun T48 X48 e48 => ?_)
  refine Go.lcmp X48 hx hby d7_8 rfl ?_
  refine Go.ifL_lt X48 hx hby (pc' := 16) d7_9 (by decide) (by decide) rfl (fun hc49 => ?_) (fun hc49 => ?_)
  · replace hf := (if_pos hc49).symm.trans hf
    refine Go.iconst X48 hx hby (v := (0 : Int32)) d7_16 rfl rfl ?_
    exact Go.iretN X48 hx hby hlk hret (Or.inl rfl) (w' := (0 : Int32)) rfl d7_17 (by decide) (by decide) ⟨congrArg (fun z => some (Value.int z)) (Option.some.inj hf), rfl, e48⟩
  · replace hf := (if_neg hc49).symm.trans hf
    refine Go.iconst X48 hx hby (v := (1 : Int32)) d7_12 rfl rfl ?_
    refine Go.goto X48 hx hby (pc' := 17) d7_13 (by decide) (by decide) ?_
    exact Go.iretN X48 hx hby hlk hret (Or.inl rfl) (w' := (1 : Int32)) rfl d7_17 (by decide) (by decide) ⟨congrArg (fun z => some (Value.int z)) (Option.some.inj hf), rfl, e48⟩
-- body 4
def f4_0 (G_oo_limit : Int64) (G_oo_wholeBatch : Int32) (G_oo_held : Int64) (G_oo_heldBeforeRow : Int64) : Option (Int64 × Int32 × Int64 × Int64) := some (G_oo_limit, (1 : Int32), (0 : Int64), (0 : Int64))
theorem d4_0 : decode prog_27_method_3_code 0 = .ok (.aload_n 0, 1) := by decide +kernel
theorem d4_1 : decode prog_27_method_3_code 1 = .ok (.iconst 1, 1) := by decide +kernel
theorem d4_2 : decode prog_27_method_3_code 2 = .ok (.putfield 13, 3) := by decide +kernel
theorem d4_5 : decode prog_27_method_3_code 5 = .ok (.aload_n 0, 1) := by decide +kernel
theorem d4_6 : decode prog_27_method_3_code 6 = .ok (.lconst 0, 1) := by decide +kernel
theorem d4_7 : decode prog_27_method_3_code 7 = .ok (.putfield 17, 3) := by decide +kernel
theorem d4_10 : decode prog_27_method_3_code 10 = .ok (.aload_n 0, 1) := by decide +kernel
theorem d4_11 : decode prog_27_method_3_code 11 = .ok (.lconst 0, 1) := by decide +kernel
theorem d4_12 : decode prog_27_method_3_code 12 = .ok (.putfield 20, 3) := by decide +kernel
theorem d4_15 : decode prog_27_method_3_code 15 = .ok (.return_, 1) := by decide +kernel
abbrev Y4 : MethodName := ⟨"com/example/stripewright/stripewright/NestedValueBudget", "startWholeBatch", "()V"⟩
def RM4 : Room := { frames := 0, cells := 0, slots := 0, locals := 0 }
theorem pd_4 : parseMethodDescriptor Y4.desc = some ⟨[], none⟩ := by decide +kernel
theorem pn_4 : plainName "com/example/stripewright/stripewright/NestedValueBudget" = true := by first | (simp [plainName, overriddenIn]; done) | decide +kernel
theorem ef_4 (m : MethodId) (oo : Addr) : entryFrame m #[.ref oo] 1 = mkF m 0 #[.val (.ref oo)] [] := by first | (simp [entryFrame, mkF, argsToLocals, Value.category]; done) | rfl
def QB4 (Z : State) (h0 : Heap) (n0 : Nat) (oo : Addr) (r : Int64 × Int32 × Int64 × Int64) (v : Option Value) (h : Heap) (L : List Loc) : Prop := v = none ∧ Fr n0 L ∧ Keep h0 h [oo] ∧ Ob_B Z h oo (.long r.1) (.int r.2.1) (.long r.2.2.1) (.long r.2.2.2)
set_option maxRecDepth 65536 in
set_option maxHeartbeats 40000000 in
theorem rm4 (l : Launch) (Z : State) (a0 : Array Value) (hw : ∀ d ∈ tables_1, d.before a0 Z = true) (oo : Addr) (G_oo_limit : Int64) (G_oo_wholeBatch : Int32) (G_oo_held : Int64) (G_oo_heldBeforeRow : Int64) (h0 : Heap) (n0 : Nat) (Z0 : n0 ≤ h0.size) (r : Int64 × Int32 × Int64 × Int64) (hf : f4_0 G_oo_limit G_oo_wholeBatch G_oo_held G_oo_heldBeforeRow = some r) (F_oo : Ob_B Z h0 oo (.long G_oo_limit) (.int G_oo_wholeBatch) (.long G_oo_held) (.long G_oo_heldBeforeRow)) (na_oo : n0 ≤ oo) :
    MetFree l Y4 (head1 ([Jvm.Cond.code Y4 prog_27_method_3_code 1 (none)]) RM4) (fun a U => a = #[.ref oo] ∧ Z.Warmed39 U.vm ∧ U.heap = h0) (fun _ _ _ _ _ => True) (fun _ U o U' => ∃ v L, o = .returned v ∧ (QB4 Z h0 n0 oo r) v U'.heap L ∧ FrameEnd U o U' L RM4.cells RM4.slots) := by
  refine MetFree.of_bodySF (plainFor_of_name pn_4) hisR ?_
  intro p e s m args below meth c s₁ Bd hml0 hP hK
  obtain ⟨rfl, hZ, hh⟩ := hP
  have hx := Bd.exec
  have hby := Bd.bytes
  have hlk : meth.locks = false := BodyLoose.notSynchronized Bd
  have hret := Bd.returns
  have hml : c.maxLocals = 1 := hml0
  have hown : s.vm.findClass "com/example/stripewright/stripewright/NestedValueBudget" = some m.cls := findClass_of_methodNamed Bd.named
  have X0 : Stand p l e RM4 s m #[.ref oo] below meth c s₁ [] 0 0 := Stand.of_body Bd
  have e0 : s₁.heap = h0 := by rw [← hh, Bd.state]; rfl
  have N0 := Fr.nil n0
  have K0 := Keep.refl h0 [oo]
  suffices G : Go p e below s RM4.cells RM4.slots (QB4 Z h0 n0 oo r) m s₁ 0 #[.val (.ref oo)] [] by
    obtain ⟨s₂, o, h1, h2⟩ := G
    exact ⟨s₂, o, castTop (ef_4 m oo) h1, h2⟩
  have hf0 := hf
  clear hf
  have hf := hf0
  unfold f4_0 at hf
  refine Go.aloadN X0 hx hby (v := .ref oo) d4_0 rfl rfl rfl ?_
  refine Go.iconst X0 hx hby (v := (1 : Int32)) d4_1 rfl rfl ?_
  refine Go.putF X0 hx hby hZ hown (hw _ (List.mem_of_getElem? (i := 22) rfl)) e0 (Ob_B.get_wholeBatch F_oo) (Ob_B.exa F_oo) (Or.inl (hw _ (List.mem_of_getElem? (i := 23) rfl))) (hw _ (List.mem_of_getElem? (i := 2) rfl)) (ty := .boolean) (by decide) rfl rfl d4_2 rfl (fun T53 h53 X53 e53 W53 => ?_)
  have O53 := Ob_B.put_wholeBatch hw W53 F_oo
  have N53 := Fr.snoc X53 N0 na_oo
  have K53 := Keep.wr K0 W53 (Or.inl (List.mem_of_getElem? (i := 0) rfl))
  refine Go.aloadN X53 hx hby (v := .ref oo) d4_5 rfl rfl rfl ?_
  refine Go.lconst X53 hx hby (v := (0 : Int64)) d4_6 rfl rfl ?_
  refine Go.putF X53 hx hby hZ hown (hw _ (List.mem_of_getElem? (i := 24) rfl)) e53 (Ob_B.get_held O53) (Ob_B.exa O53) (Or.inl (hw _ (List.mem_of_getElem? (i := 25) rfl))) (hw _ (List.mem_of_getElem? (i := 2) rfl)) (ty := .long) (by decide) rfl rfl d4_7 rfl (fun T54 h54 X54 e54 W54 => ?_)
  have O54 := Ob_B.put_held hw W54 O53
  have N54 := Fr.snoc X54 N53 na_oo
  have K54 := Keep.wr K53 W54 (Or.inl (List.mem_of_getElem? (i := 0) rfl))
  refine Go.aloadN X54 hx hby (v := .ref oo) d4_10 rfl rfl rfl ?_
  refine Go.lconst X54 hx hby (v := (0 : Int64)) d4_11 rfl rfl ?_
  refine Go.putF X54 hx hby hZ hown (hw _ (List.mem_of_getElem? (i := 26) rfl)) e54 (Ob_B.get_heldBeforeRow O54) (Ob_B.exa O54) (Or.inl (hw _ (List.mem_of_getElem? (i := 27) rfl))) (hw _ (List.mem_of_getElem? (i := 2) rfl)) (ty := .long) (by decide) rfl rfl d4_12 rfl (fun T55 h55 X55 e55 W55 => ?_)
  have O55 := Ob_B.put_heldBeforeRow hw W55 O54
  have N55 := Fr.snoc X55 N54 na_oo
  have K55 := Keep.wr K54 W55 (Or.inl (List.mem_of_getElem? (i := 0) rfl))
  exact Go.vret X55 hx hby hlk hret d4_15 (by decide) (by decide) (by obtain rfl := Option.some.inj hf; unfold QB4; exact ⟨rfl, N55, by rw [e55]; exact K55, by rw [e55]; exact O55⟩)
-- body 0
def f0_286 (x15 : Int32) (x21 : Int32) (x22 : Int32) (x26 : Int32) (t0 : Int32) (G_oo_limit : Int64) (G_oo_wholeBatch : Int32) (G_oo_held : Int64) (G_oo_heldBeforeRow : Int64) : Option (Int32) := if x15 = 0 then some (0 : Int32) else if x21 = 0 then some (0 : Int32) else if x22 = 0 then some (0 : Int32) else if x26 = 0 then some (0 : Int32) else if t0 = 0 then some (0 : Int32) else some (1 : Int32)
def f0_278 (x15 : Int32) (x21 : Int32) (x22 : Int32) (x26 : Int32) (t0 : Int32) (t1 : Int32) (G_oo_limit : Int64) (G_oo_wholeBatch : Int32) (G_oo_held : Int64) (G_oo_heldBeforeRow : Int64) : Option (Int32) := if t1 = t0 then f0_286 x15 x21 x22 x26 (1 : Int32) G_oo_limit G_oo_wholeBatch G_oo_held G_oo_heldBeforeRow else f0_286 x15 x21 x22 x26 (0 : Int32) G_oo_limit G_oo_wholeBatch G_oo_held G_oo_heldBeforeRow
def f0_257 (x9 : Int64) (x15 : Int32) (x21 : Int32) (x22 : Int32) (x26 : Int32) (t0 : Int64) (t1 : Int64) (G_oo_limit : Int64) (G_oo_wholeBatch : Int32) (G_oo_held : Int64) (G_oo_heldBeforeRow : Int64) : Option (Int32) := (f7_0 G_oo_limit G_oo_wholeBatch G_oo_held G_oo_heldBeforeRow).bind fun r62 => if (t1 + t0) < x9 then f0_278 x15 x21 x22 x26 (0 : Int32) r62 G_oo_limit G_oo_wholeBatch G_oo_held G_oo_heldBeforeRow else f0_278 x15 x21 x22 x26 (1 : Int32) r62 G_oo_limit G_oo_wholeBatch G_oo_held G_oo_heldBeforeRow
def f0_242 (x9 : Int64) (x15 : Int32) (x16 : Int64) (x21 : Int32) (x22 : Int32) (x23 : Int64) (x25 : Int32) (t0 : Int32) (G_oo_limit : Int64) (G_oo_wholeBatch : Int32) (G_oo_held : Int64) (G_oo_heldBeforeRow : Int64) : Option (Int32) := if x25 = 0 then f0_257 x9 x15 x21 x22 t0 (0 : Int64) x16 G_oo_limit G_oo_wholeBatch G_oo_held G_oo_heldBeforeRow else f0_257 x9 x15 x21 x22 t0 x23 x16 G_oo_limit G_oo_wholeBatch G_oo_held G_oo_heldBeforeRow
def f0_234 (x9 : Int64) (x15 : Int32) (x16 : Int64) (x21 : Int32) (x22 : Int32) (x23 : Int64) (x25 : Int32) (t0 : Int32) (t1 : Int32) (G_oo_limit : Int64) (G_oo_wholeBatch : Int32) (G_oo_held : Int64) (G_oo_heldBeforeRow : Int64) : Option (Int32) := if t1 = t0 then f0_242 x9 x15 x16 x21 x22 x23 x25 (1 : Int32) G_oo_limit G_oo_wholeBatch G_oo_held G_oo_heldBeforeRow else f0_242 x9 x15 x16 x21 x22 x23 x25 (0 : Int32) G_oo_limit G_oo_wholeBatch G_oo_held G_oo_heldBeforeRow
def f0_194 (x6 : Int64) (x9 : Int64) (x15 : Int32) (x16 : Int64) (x21 : Int32) (t0 : Int32) (G_oo_limit : Int64) (G_oo_wholeBatch : Int32) (G_oo_held : Int64) (G_oo_heldBeforeRow : Int64) : Option (Int32) := (f9_0 G_oo_limit G_oo_wholeBatch G_oo_held G_oo_heldBeforeRow).bind fun r66 => (f5_0 x6 x9).bind fun r67 => (f6_0 r67 r66.1 r66.2.1 r66.2.2.1 r66.2.2.2).bind fun r68 => if x9 < r67 then f0_234 x9 x15 x16 x21 t0 r67 r68.1 (0 : Int32) r68.1 r68.2.1 r68.2.2.1 r68.2.2.2.1 r68.2.2.2.2 else f0_234 x9 x15 x16 x21 t0 r67 r68.1 (1 : Int32) r68.1 r68.2.1 r68.2.2.1 r68.2.2.2.1 r68.2.2.2.2
def f0_186 (x6 : Int64) (x9 : Int64) (x15 : Int32) (x16 : Int64) (x21 : Int32) (t0 : Int32) (t1 : Int32) (G_oo_limit : Int64) (G_oo_wholeBatch : Int32) (G_oo_held : Int64) (G_oo_heldBeforeRow : Int64) : Option (Int32) := if t1 = t0 then f0_194 x6 x9 x15 x16 x21 (1 : Int32) G_oo_limit G_oo_wholeBatch G_oo_held G_oo_heldBeforeRow else f0_194 x6 x9 x15 x16 x21 (0 : Int32) G_oo_limit G_oo_wholeBatch G_oo_held G_oo_heldBeforeRow
def f0_165 (x6 : Int64) (x9 : Int64) (x15 : Int32) (x21 : Int32) (t0 : Int64) (t1 : Int64) (G_oo_limit : Int64) (G_oo_wholeBatch : Int32) (G_oo_held : Int64) (G_oo_heldBeforeRow : Int64) : Option (Int32) := (f7_0 G_oo_limit G_oo_wholeBatch G_oo_held G_oo_heldBeforeRow).bind fun r71 => if (t1 + t0) < x9 then f0_186 x6 x9 x15 (t1 + t0) x21 (0 : Int32) r71 G_oo_limit G_oo_wholeBatch G_oo_held G_oo_heldBeforeRow else f0_186 x6 x9 x15 (t1 + t0) x21 (1 : Int32) r71 G_oo_limit G_oo_wholeBatch G_oo_held G_oo_heldBeforeRow
def f0_150 (x6 : Int64) (x9 : Int64) (x15 : Int32) (x16 : Int64) (x18 : Int64) (x20 : Int32) (t0 : Int32) (G_oo_limit : Int64) (G_oo_wholeBatch : Int32) (G_oo_held : Int64) (G_oo_heldBeforeRow : Int64) : Option (Int32) := if x20 = 0 then f0_165 x6 x9 x15 t0 (0 : Int64) x16 G_oo_limit G_oo_wholeBatch G_oo_held G_oo_heldBeforeRow else f0_165 x6 x9 x15 t0 x18 x16 G_oo_limit G_oo_wholeBatch G_oo_held G_oo_heldBeforeRow
def f0_142 (x6 : Int64) (x9 : Int64) (x15 : Int32) (x16 : Int64) (x18 : Int64) (x20 : Int32) (t0 : Int32) (t1 : Int32) (G_oo_limit : Int64) (G_oo_wholeBatch : Int32) (G_oo_held : Int64) (G_oo_heldBeforeRow : Int64) : Option (Int32) := if t1 = t0 then f0_150 x6 x9 x15 x16 x18 x20 (1 : Int32) G_oo_limit G_oo_wholeBatch G_oo_held G_oo_heldBeforeRow else f0_150 x6 x9 x15 x16 x18 x20 (0 : Int32) G_oo_limit G_oo_wholeBatch G_oo_held G_oo_heldBeforeRow
def f0_101 (x4 : Int64) (x6 : Int64) (x9 : Int64) (x15 : Int32) (t0 : Int64) (G_oo_limit : Int64) (G_oo_wholeBatch : Int32) (G_oo_held : Int64) (G_oo_heldBeforeRow : Int64) : Option (Int32) := (f5_0 x4 (x9 - t0)).bind fun r75 => (f6_0 r75 G_oo_limit G_oo_wholeBatch G_oo_held G_oo_heldBeforeRow).bind fun r76 => if x9 < (t0 + r75) then f0_142 x6 x9 x15 t0 r75 r76.1 (0 : Int32) r76.1 r76.2.1 r76.2.2.1 r76.2.2.2.1 r76.2.2.2.2 else f0_142 x6 x9 x15 t0 r75 r76.1 (1 : Int32) r76.1 r76.2.1 r76.2.2.1 r76.2.2.2.1 r76.2.2.2.2
def f0_88 (x4 : Int64) (x6 : Int64) (x9 : Int64) (x12 : Int64) (x14 : Int32) (t0 : Int32) (G_oo_limit : Int64) (G_oo_wholeBatch : Int32) (G_oo_held : Int64) (G_oo_heldBeforeRow : Int64) : Option (Int32) := if x14 = 0 then f0_101 x4 x6 x9 t0 (0 : Int64) G_oo_limit G_oo_wholeBatch G_oo_held G_oo_heldBeforeRow else f0_101 x4 x6 x9 t0 x12 G_oo_limit G_oo_wholeBatch G_oo_held G_oo_heldBeforeRow
def f0_80 (x4 : Int64) (x6 : Int64) (x9 : Int64) (x12 : Int64) (x14 : Int32) (t0 : Int32) (t1 : Int32) (G_oo_limit : Int64) (G_oo_wholeBatch : Int32) (G_oo_held : Int64) (G_oo_heldBeforeRow : Int64) : Option (Int32) := if t1 = t0 then f0_88 x4 x6 x9 x12 x14 (1 : Int32) G_oo_limit G_oo_wholeBatch G_oo_held G_oo_heldBeforeRow else f0_88 x4 x6 x9 x12 x14 (0 : Int32) G_oo_limit G_oo_wholeBatch G_oo_held G_oo_heldBeforeRow
def f0_0 (x0 : Int64) (x2 : Int64) (x4 : Int64) (x6 : Int64) (x8 : Int32) : Option (Int32) := (f1_0 (x0 &&& (2305843009213693951 : Int64)) (0 : Int64) (0 : Int32) (0 : Int64) (0 : Int64)).bind fun r81 => (f3_0 r81.1 r81.2.1 r81.2.2.1 r81.2.2.2).bind fun r82 => if r82 = (x0 &&& (2305843009213693951 : Int64)) then if (x8 &&& (1 : Int32)) = 0 then (f8_0 r81.1 r81.2.1 r81.2.2.1 r81.2.2.2).bind fun r100 => (f9_0 r100.1 r100.2.1 r100.2.2.1 r100.2.2.2).bind fun r101 => (f5_0 x2 (x0 &&& (2305843009213693951 : Int64))).bind fun r102 => (f6_0 r102 r101.1 r101.2.1 r101.2.2.1 r101.2.2.2).bind fun r103 => if (x0 &&& (2305843009213693951 : Int64)) < r102 then f0_80 x4 x6 (x0 &&& (2305843009213693951 : Int64)) r102 r103.1 (0 : Int32) r103.1 r103.2.1 r103.2.2.1 r103.2.2.2.1 r103.2.2.2.2 else f0_80 x4 x6 (x0 &&& (2305843009213693951 : Int64)) r102 r103.1 (1 : Int32) r103.1 r103.2.1 r103.2.2.1 r103.2.2.2.1 r103.2.2.2.2 else (f4_0 r81.1 r81.2.1 r81.2.2.1 r81.2.2.2).bind fun r85 => (f5_0 x2 ((x0 &&& (2305843009213693951 : Int64)) - (1 : Int64))).bind fun r86 => if r86 < (x0 &&& (2305843009213693951 : Int64)) then (f6_0 r86 r85.1 r85.2.1 r85.2.2.1 r85.2.2.2).bind fun r88 => (f7_0 r88.2.1 r88.2.2.1 r88.2.2.2.1 r88.2.2.2.2).bind fun r89 => (f5_0 x4 (((x0 &&& (2305843009213693951 : Int64)) - (1 : Int64)) - r86)).bind fun r90 => if (r86 + r90) < (x0 &&& (2305843009213693951 : Int64)) then (f6_0 r90 r88.2.1 r88.2.2.1 r88.2.2.2.1 r88.2.2.2.2).bind fun r92 => (f7_0 r92.2.1 r92.2.2.1 r92.2.2.2.1 r92.2.2.2.2).bind fun r93 => if r88.1 = 0 then some (0 : Int32) else if r89 = 0 then if r92.1 = 0 then some (0 : Int32) else if r93 = 0 then some (1 : Int32) else some (0 : Int32) else some (0 : Int32) else if r88.1 = 0 then some (0 : Int32) else if r89 = 0 then some (1 : Int32) else some (0 : Int32) else some (1 : Int32) else some (0 : Int32)
theorem pn_0 : plainName "com/example/stripewright/stripewright/NestedValueBudgetTakePinLaw" = true := by first | (simp [plainName, overriddenIn]; done) | decide +kernel
theorem ef_0 (m : MethodId) (x0 : Int64) (x2 : Int64) (x4 : Int64) (x6 : Int64) (x8 : Int32) : entryFrame m #[.long x0, .long x2, .long x4, .long x6, .int x8] maxLocals = mkF m 0 #[.val (.long x0), .second, .val (.long x2), .second, .val (.long x4), .second, .val (.long x6), .second, .val (.int x8), .unset, .unset, .unset, .unset, .unset, .unset, .unset, .unset, .unset, .unset, .unset, .unset, .unset, .unset, .unset, .unset, .unset, .unset, .unset] [] := by first | (simp [entryFrame, mkF, argsToLocals, Value.category, maxLocals]; done) | rfl
set_option maxRecDepth 65536 in
set_option maxHeartbeats 40000000 in
theorem rm0 (l : Launch) (Z : State) (a0 : Array Value) (hw : ∀ d ∈ tables_1, d.before a0 Z = true) (ws : List Jvm.Cond) (x0 : Int64) (x2 : Int64) (x4 : Int64) (x6 : Int64) (x8 : Int32)  (h0 : Heap) (n0 : Nat) (Z0 : n0 ≤ h0.size) (r : Int32) (hf : f0_0 x0 x2 x4 x6 x8 = some r)  :
    MetFree l x (head1 (Jvm.Cond.code x code maxLocals ret :: ws) room_1) (fun a U => a = #[.long x0, .long x2, .long x4, .long x6, .int x8] ∧ Z.Warmed39 U.vm ∧ U.heap = h0) (fun _ _ _ _ _ => True) (fun _ U o U' => ∃ v L, o = .returned v ∧ (fun v h L => v = some (.int r) ∧ Fr n0 L) v U'.heap L ∧ FrameEnd U o U' L room_1.cells room_1.slots) := by
  refine MetFree.of_bodySF (plainFor_of_name pn_0) hisR ?_
  intro p e s m args below meth c s₁ Bd hml0 hP hK
  obtain ⟨rfl, hZ, hh⟩ := hP
  have hx := Bd.exec
  have hby := Bd.bytes
  have hlk : meth.locks = false := BodyLoose.notSynchronized Bd
  have hret := Bd.returns
  have hml : c.maxLocals = 28 := hml0
  have hown : s.vm.findClass "com/example/stripewright/stripewright/NestedValueBudgetTakePinLaw" = some m.cls := findClass_of_methodNamed Bd.named
  have X0 : Stand p l e room_1 s m #[.long x0, .long x2, .long x4, .long x6, .int x8] below meth c s₁ [] 0 0 := Stand.of_body Bd
  have e0 : s₁.heap = h0 := by rw [← hh, Bd.state]; rfl
  have N0 := Fr.nil n0
  have K0 := Keep.refl h0 []
  suffices G : Go p e below s room_1.cells room_1.slots (fun v h L => v = some (.int r) ∧ Fr n0 L) m s₁ 0 #[.val (.long x0), .second, .val (.long x2), .second, .val (.long x4), .second, .val (.long x6), .second, .val (.int x8), .unset, .unset, .unset, .unset, .unset, .unset, .unset, .unset, .unset, .unset, .unset, .unset, .unset, .unset, .unset, .unset, .unset, .unset, .unset] [] by
    obtain ⟨s₂, o, h1, h2⟩ := G
    exact ⟨s₂, o, castTop (ef_0 m x0 x2 x4 x6 x8) h1, h2⟩
  have hf0 := hf
  clear hf
  have B286 : ∀ (T : State) (h : Heap) (locs : List Loc), Stand p l e room_1 s m #[.long x0, .long x2, .long x4, .long x6, .int x8] below meth c T locs 1 4 → T.heap = h → Fr n0 locs → Keep h0 h [] → ∀ (oo : Addr), h0.size ≤ oo → ∀ (G_oo_limit : Int64) (G_oo_wholeBatch : Int32) (G_oo_held : Int64) (G_oo_heldBeforeRow : Int64), Ob_B Z h oo (.long G_oo_limit) (.int G_oo_wholeBatch) (.long G_oo_held) (.long G_oo_heldBeforeRow) → ∀ (x0 : Int64) (x2 : Int64) (x4 : Int64) (x6 : Int64) (x8 : Int32) (x9 : Int64) (x12 : Int64) (x14 : Int32) (x15 : Int32) (x16 : Int64) (x18 : Int64) (x20 : Int32) (x21 : Int32) (x22 : Int32) (x23 : Int64) (x25 : Int32) (x26 : Int32) (t0 : Int32), f0_286 x15 x21 x22 x26 t0 G_oo_limit G_oo_wholeBatch G_oo_held G_oo_heldBeforeRow = some r → Go p e below s room_1.cells room_1.slots (fun v h L => v = some (.int r) ∧ Fr n0 L) m T 286 #[.val (.long x0), .second, .val (.long x2), .second, .val (.long x4), .second, .val (.long x6), .second, .val (.int x8), .val (.long x9), .second, .val (.ref oo), .val (.long x12), .second, .val (.int x14), .val (.int x15), .val (.long x16), .second, .val (.long x18), .second, .val (.int x20), .val (.int x21), .val (.int x22), .val (.long x23), .second, .val (.int x25), .val (.int x26), .unset] [.int t0] := by
    intro T105 h105 _ X105 e105 N105 K105 oo na_oo G_oo_limit G_oo_wholeBatch G_oo_held G_oo_heldBeforeRow F105_oo x0 x2 x4 x6 x8 x9 x12 x14 x15 x16 x18 x20 x21 x22 x23 x25 x26 t0 hf
    unfold f0_286 at hf
    refine Go.istore X105 hx hby (Ls' := #[.val (.long x0), .second, .val (.long x2), .second, .val (.long x4), .second, .val (.long x6), .second, .val (.int x8), .val (.long x9), .second, .val (.ref oo), .val (.long x12), .second, .val (.int x14), .val (.int x15), .val (.long x16), .second, .val (.long x18), .second, .val (.int x20), .val (.int x21), .val (.int x22), .val (.long x23), .second, .val (.int x25), .val (.int x26), .val (.int t0)]) at_286 rfl rfl ?_
    refine Go.iload X105 hx hby (v := x15) at_288 rfl rfl ?_
    refine Go.if_eq X105 hx hby (pc' := 317) at_290 (by decide) (by decide) rfl (fun hc106 => ?_) (fun hc106 => ?_)
    · replace hf := (if_pos hc106).symm.trans hf
      refine Go.iconst X105 hx hby (v := (0 : Int32)) at_317 rfl rfl ?_
      exact Go.iretN X105 hx hby hlk hret (Or.inl rfl) (w' := (0 : Int32)) rfl at_318 (by decide) (by decide) ⟨congrArg (fun z => some (Value.int z)) (Option.some.inj hf), N105⟩
    · replace hf := (if_neg hc106).symm.trans hf
      refine Go.iload X105 hx hby (v := x21) at_293 rfl rfl ?_
      refine Go.if_eq X105 hx hby (pc' := 317) at_295 (by decide) (by decide) rfl (fun hc107 => ?_) (fun hc107 => ?_)
      · replace hf := (if_pos hc107).symm.trans hf
        refine Go.iconst X105 hx hby (v := (0 : Int32)) at_317 rfl rfl ?_
        exact Go.iretN X105 hx hby hlk hret (Or.inl rfl) (w' := (0 : Int32)) rfl at_318 (by decide) (by decide) ⟨congrArg (fun z => some (Value.int z)) (Option.some.inj hf), N105⟩
      · replace hf := (if_neg hc107).symm.trans hf
        refine Go.iload X105 hx hby (v := x22) at_298 rfl rfl ?_
        refine Go.if_eq X105 hx hby (pc' := 317) at_300 (by decide) (by decide) rfl (fun hc108 => ?_) (fun hc108 => ?_)
        · replace hf := (if_pos hc108).symm.trans hf
          refine Go.iconst X105 hx hby (v := (0 : Int32)) at_317 rfl rfl ?_
          exact Go.iretN X105 hx hby hlk hret (Or.inl rfl) (w' := (0 : Int32)) rfl at_318 (by decide) (by decide) ⟨congrArg (fun z => some (Value.int z)) (Option.some.inj hf), N105⟩
        · replace hf := (if_neg hc108).symm.trans hf
          refine Go.iload X105 hx hby (v := x26) at_303 rfl rfl ?_
          refine Go.if_eq X105 hx hby (pc' := 317) at_305 (by decide) (by decide) rfl (fun hc109 => ?_) (fun hc109 => ?_)
          · replace hf := (if_pos hc109).symm.trans hf
            refine Go.iconst X105 hx hby (v := (0 : Int32)) at_317 rfl rfl ?_
            exact Go.iretN X105 hx hby hlk hret (Or.inl rfl) (w' := (0 : Int32)) rfl at_318 (by decide) (by decide) ⟨congrArg (fun z => some (Value.int z)) (Option.some.inj hf), N105⟩
          · replace hf := (if_neg hc109).symm.trans hf
            refine Go.iload X105 hx hby (v := t0) at_308 rfl rfl ?_
            refine Go.if_eq X105 hx hby (pc' := 317) at_310 (by decide) (by decide) rfl (fun hc110 => ?_) (fun hc110 => ?_)
            · replace hf := (if_pos hc110).symm.trans hf
              refine Go.iconst X105 hx hby (v := (0 : Int32)) at_317 rfl rfl ?_
              exact Go.iretN X105 hx hby hlk hret (Or.inl rfl) (w' := (0 : Int32)) rfl at_318 (by decide) (by decide) ⟨congrArg (fun z => some (Value.int z)) (Option.some.inj hf), N105⟩
            · replace hf := (if_neg hc110).symm.trans hf
              refine Go.iconst X105 hx hby (v := (1 : Int32)) at_313 rfl rfl ?_
              refine Go.goto X105 hx hby (pc' := 318) at_314 (by decide) (by decide) ?_
              exact Go.iretN X105 hx hby hlk hret (Or.inl rfl) (w' := (1 : Int32)) rfl at_318 (by decide) (by decide) ⟨congrArg (fun z => some (Value.int z)) (Option.some.inj hf), N105⟩
  have B278 : ∀ (T : State) (h : Heap) (locs : List Loc), Stand p l e room_1 s m #[.long x0, .long x2, .long x4, .long x6, .int x8] below meth c T locs 1 4 → T.heap = h → Fr n0 locs → Keep h0 h [] → ∀ (oo : Addr), h0.size ≤ oo → ∀ (G_oo_limit : Int64) (G_oo_wholeBatch : Int32) (G_oo_held : Int64) (G_oo_heldBeforeRow : Int64), Ob_B Z h oo (.long G_oo_limit) (.int G_oo_wholeBatch) (.long G_oo_held) (.long G_oo_heldBeforeRow) → ∀ (x0 : Int64) (x2 : Int64) (x4 : Int64) (x6 : Int64) (x8 : Int32) (x9 : Int64) (x12 : Int64) (x14 : Int32) (x15 : Int32) (x16 : Int64) (x18 : Int64) (x20 : Int32) (x21 : Int32) (x22 : Int32) (x23 : Int64) (x25 : Int32) (x26 : Int32) (t0 : Int32) (t1 : Int32), f0_278 x15 x21 x22 x26 t0 t1 G_oo_limit G_oo_wholeBatch G_oo_held G_oo_heldBeforeRow = some r → Go p e below s room_1.cells room_1.slots (fun v h L => v = some (.int r) ∧ Fr n0 L) m T 278 #[.val (.long x0), .second, .val (.long x2), .second, .val (.long x4), .second, .val (.long x6), .second, .val (.int x8), .val (.long x9), .second, .val (.ref oo), .val (.long x12), .second, .val (.int x14), .val (.int x15), .val (.long x16), .second, .val (.long x18), .second, .val (.int x20), .val (.int x21), .val (.int x22), .val (.long x23), .second, .val (.int x25), .val (.int x26), .unset] [.int t0, .int t1] := by
    intro T111 h111 _ X111 e111 N111 K111 oo na_oo G_oo_limit G_oo_wholeBatch G_oo_held G_oo_heldBeforeRow F111_oo x0 x2 x4 x6 x8 x9 x12 x14 x15 x16 x18 x20 x21 x22 x23 x25 x26 t0 t1 hf
    unfold f0_278 at hf
    refine Go.icmp_ne X111 hx hby (pc' := 285) at_278 (by decide) (by decide) rfl (fun hc112 => ?_) (fun hc112 => ?_)
    · replace hf := (if_neg hc112).symm.trans hf
      refine Go.iconst X111 hx hby (v := (0 : Int32)) at_285 rfl rfl ?_
      exact B286 T111 h111 _ X111 e111 N111 K111 oo na_oo  G_oo_limit G_oo_wholeBatch G_oo_held G_oo_heldBeforeRow F111_oo x0 x2 x4 x6 x8 x9 x12 x14 x15 x16 x18 x20 x21 x22 x23 x25 x26 (0 : Int32) hf
    · replace hf := (if_pos hc112).symm.trans hf
      refine Go.iconst X111 hx hby (v := (1 : Int32)) at_281 rfl rfl ?_
      refine Go.goto X111 hx hby (pc' := 286) at_282 (by decide) (by decide) ?_
      exact B286 T111 h111 _ X111 e111 N111 K111 oo na_oo  G_oo_limit G_oo_wholeBatch G_oo_held G_oo_heldBeforeRow F111_oo x0 x2 x4 x6 x8 x9 x12 x14 x15 x16 x18 x20 x21 x22 x23 x25 x26 (1 : Int32) hf
  have B257 : ∀ (T : State) (h : Heap) (locs : List Loc), Stand p l e room_1 s m #[.long x0, .long x2, .long x4, .long x6, .int x8] below meth c T locs 1 4 → T.heap = h → Fr n0 locs → Keep h0 h [] → ∀ (oo : Addr), h0.size ≤ oo → ∀ (G_oo_limit : Int64) (G_oo_wholeBatch : Int32) (G_oo_held : Int64) (G_oo_heldBeforeRow : Int64), Ob_B Z h oo (.long G_oo_limit) (.int G_oo_wholeBatch) (.long G_oo_held) (.long G_oo_heldBeforeRow) → ∀ (x0 : Int64) (x2 : Int64) (x4 : Int64) (x6 : Int64) (x8 : Int32) (x9 : Int64) (x12 : Int64) (x14 : Int32) (x15 : Int32) (x16 : Int64) (x18 : Int64) (x20 : Int32) (x21 : Int32) (x22 : Int32) (x23 : Int64) (x25 : Int32) (x26 : Int32) (t0 : Int64) (t1 : Int64), f0_257 x9 x15 x21 x22 x26 t0 t1 G_oo_limit G_oo_wholeBatch G_oo_held G_oo_heldBeforeRow = some r → Go p e below s room_1.cells room_1.slots (fun v h L => v = some (.int r) ∧ Fr n0 L) m T 257 #[.val (.long x0), .second, .val (.long x2), .second, .val (.long x4), .second, .val (.long x6), .second, .val (.int x8), .val (.long x9), .second, .val (.ref oo), .val (.long x12), .second, .val (.int x14), .val (.int x15), .val (.long x16), .second, .val (.long x18), .second, .val (.int x20), .val (.int x21), .val (.int x22), .val (.long x23), .second, .val (.int x25), .val (.int x26), .unset] [.long t0, .long t1] := by
    intro T113 h113 _ X113 e113 N113 K113 oo na_oo G_oo_limit G_oo_wholeBatch G_oo_held G_oo_heldBeforeRow F113_oo x0 x2 x4 x6 x8 x9 x12 x14 x15 x16 x18 x20 x21 x22 x23 x25 x26 t0 t1 hf
    unfold f0_257 at hf
    refine Go.ladd X113 hx hby at_257 rfl ?_
    refine Go.lstore X113 hx hby (Ls' := #[.val (.long x0), .second, .val (.long x2), .second, .val (.long x4), .second, .val (.long x6), .second, .val (.int x8), .val (.long x9), .second, .val (.ref oo), .val (.long x12), .second, .val (.int x14), .val (.int x15), .val (.long (t1 + t0)), .second, .val (.long x18), .second, .val (.int x20), .val (.int x21), .val (.int x22), .val (.long x23), .second, .val (.int x25), .val (.int x26), .unset]) at_258 rfl rfl ?_
    refine Go.aload X113 hx hby (v := .ref oo) at_260 rfl rfl rfl ?_
    obtain ⟨r114, g114, hf⟩ := Option.bind_eq_some_iff.mp hf
    refine Go.callVP X113 hx hby hZ (by rw [hml]; rfl) (W := 0) (argsL := []) (rest := []) hown (hw _ (List.mem_of_getElem? (i := 39) rfl)) (hw _ (List.mem_of_getElem? (i := 40) rfl)) (hw _ (List.mem_of_getElem? (i := 42) rfl)) (hw _ (List.mem_of_getElem? (i := 41) rfl)) (hw _ (List.mem_of_getElem? (i := 3) rfl)) (hw _ (List.mem_of_getElem? (i := 43) rfl))  (Ob_B.exa F113_oo) (by decide) (rm7 l Z a0 hw oo G_oo_limit G_oo_wholeBatch G_oo_held G_oo_heldBeforeRow h113 r114 g114 F113_oo) (by decide) (by decide) e113 pd_7 rfl rfl rfl (Nat.le_of_eq rfl) rfl rfl (by decide) (by decide) at_262 rfl (fun T114 X114 e114 => ?_)
    refine Go.lload X114 hx hby (v := (t1 + t0)) at_265 rfl rfl ?_
    refine Go.lload X114 hx hby (v := x9) at_267 rfl rfl ?_
    refine Go.lcmp X114 hx hby at_269 rfl ?_
    refine Go.ifL_lt X114 hx hby (pc' := 277) at_270 (by decide) (by decide) rfl (fun hc115 => ?_) (fun hc115 => ?_)
    · replace hf := (if_pos hc115).symm.trans hf
      refine Go.iconst X114 hx hby (v := (0 : Int32)) at_277 rfl rfl ?_
      exact B278 T114 h113 _ X114 e114 N113 K113 oo na_oo  G_oo_limit G_oo_wholeBatch G_oo_held G_oo_heldBeforeRow F113_oo x0 x2 x4 x6 x8 x9 x12 x14 x15 (t1 + t0) x18 x20 x21 x22 x23 x25 x26 (0 : Int32) r114 hf
    · replace hf := (if_neg hc115).symm.trans hf
      refine Go.iconst X114 hx hby (v := (1 : Int32)) at_273 rfl rfl ?_
      refine Go.goto X114 hx hby (pc' := 278) at_274 (by decide) (by decide) ?_
      exact B278 T114 h113 _ X114 e114 N113 K113 oo na_oo  G_oo_limit G_oo_wholeBatch G_oo_held G_oo_heldBeforeRow F113_oo x0 x2 x4 x6 x8 x9 x12 x14 x15 (t1 + t0) x18 x20 x21 x22 x23 x25 x26 (1 : Int32) r114 hf
  have B242 : ∀ (T : State) (h : Heap) (locs : List Loc), Stand p l e room_1 s m #[.long x0, .long x2, .long x4, .long x6, .int x8] below meth c T locs 1 4 → T.heap = h → Fr n0 locs → Keep h0 h [] → ∀ (oo : Addr), h0.size ≤ oo → ∀ (G_oo_limit : Int64) (G_oo_wholeBatch : Int32) (G_oo_held : Int64) (G_oo_heldBeforeRow : Int64), Ob_B Z h oo (.long G_oo_limit) (.int G_oo_wholeBatch) (.long G_oo_held) (.long G_oo_heldBeforeRow) → ∀ (x0 : Int64) (x2 : Int64) (x4 : Int64) (x6 : Int64) (x8 : Int32) (x9 : Int64) (x12 : Int64) (x14 : Int32) (x15 : Int32) (x16 : Int64) (x18 : Int64) (x20 : Int32) (x21 : Int32) (x22 : Int32) (x23 : Int64) (x25 : Int32) (t0 : Int32), f0_242 x9 x15 x16 x21 x22 x23 x25 t0 G_oo_limit G_oo_wholeBatch G_oo_held G_oo_heldBeforeRow = some r → Go p e below s room_1.cells room_1.slots (fun v h L => v = some (.int r) ∧ Fr n0 L) m T 242 #[.val (.long x0), .second, .val (.long x2), .second, .val (.long x4), .second, .val (.long x6), .second, .val (.int x8), .val (.long x9), .second, .val (.ref oo), .val (.long x12), .second, .val (.int x14), .val (.int x15), .val (.long x16), .second, .val (.long x18), .second, .val (.int x20), .val (.int x21), .val (.int x22), .val (.long x23), .second, .val (.int x25), .unset, .unset] [.int t0] := by
    intro T116 h116 _ X116 e116 N116 K116 oo na_oo G_oo_limit G_oo_wholeBatch G_oo_held G_oo_heldBeforeRow F116_oo x0 x2 x4 x6 x8 x9 x12 x14 x15 x16 x18 x20 x21 x22 x23 x25 t0 hf
    unfold f0_242 at hf
    refine Go.istore X116 hx hby (Ls' := #[.val (.long x0), .second, .val (.long x2), .second, .val (.long x4), .second, .val (.long x6), .second, .val (.int x8), .val (.long x9), .second, .val (.ref oo), .val (.long x12), .second, .val (.int x14), .val (.int x15), .val (.long x16), .second, .val (.long x18), .second, .val (.int x20), .val (.int x21), .val (.int x22), .val (.long x23), .second, .val (.int x25), .val (.int t0), .unset]) at_242 rfl rfl ?_
    refine Go.lload X116 hx hby (v := x16) at_244 rfl rfl ?_
    refine Go.iload X116 hx hby (v := x25) at_246 rfl rfl ?_
    refine Go.if_eq X116 hx hby (pc' := 256) at_248 (by decide) (by decide) rfl (fun hc117 => ?_) (fun hc117 => ?_)
    · replace hf := (if_pos hc117).symm.trans hf
      refine Go.lconst X116 hx hby (v := (0 : Int64)) at_256 rfl rfl ?_
      exact B257 T116 h116 _ X116 e116 N116 K116 oo na_oo  G_oo_limit G_oo_wholeBatch G_oo_held G_oo_heldBeforeRow F116_oo x0 x2 x4 x6 x8 x9 x12 x14 x15 x16 x18 x20 x21 x22 x23 x25 t0 (0 : Int64) x16 hf
    · replace hf := (if_neg hc117).symm.trans hf
      refine Go.lload X116 hx hby (v := x23) at_251 rfl rfl ?_
      refine Go.goto X116 hx hby (pc' := 257) at_253 (by decide) (by decide) ?_
      exact B257 T116 h116 _ X116 e116 N116 K116 oo na_oo  G_oo_limit G_oo_wholeBatch G_oo_held G_oo_heldBeforeRow F116_oo x0 x2 x4 x6 x8 x9 x12 x14 x15 x16 x18 x20 x21 x22 x23 x25 t0 x23 x16 hf
  have B234 : ∀ (T : State) (h : Heap) (locs : List Loc), Stand p l e room_1 s m #[.long x0, .long x2, .long x4, .long x6, .int x8] below meth c T locs 1 4 → T.heap = h → Fr n0 locs → Keep h0 h [] → ∀ (oo : Addr), h0.size ≤ oo → ∀ (G_oo_limit : Int64) (G_oo_wholeBatch : Int32) (G_oo_held : Int64) (G_oo_heldBeforeRow : Int64), Ob_B Z h oo (.long G_oo_limit) (.int G_oo_wholeBatch) (.long G_oo_held) (.long G_oo_heldBeforeRow) → ∀ (x0 : Int64) (x2 : Int64) (x4 : Int64) (x6 : Int64) (x8 : Int32) (x9 : Int64) (x12 : Int64) (x14 : Int32) (x15 : Int32) (x16 : Int64) (x18 : Int64) (x20 : Int32) (x21 : Int32) (x22 : Int32) (x23 : Int64) (x25 : Int32) (t0 : Int32) (t1 : Int32), f0_234 x9 x15 x16 x21 x22 x23 x25 t0 t1 G_oo_limit G_oo_wholeBatch G_oo_held G_oo_heldBeforeRow = some r → Go p e below s room_1.cells room_1.slots (fun v h L => v = some (.int r) ∧ Fr n0 L) m T 234 #[.val (.long x0), .second, .val (.long x2), .second, .val (.long x4), .second, .val (.long x6), .second, .val (.int x8), .val (.long x9), .second, .val (.ref oo), .val (.long x12), .second, .val (.int x14), .val (.int x15), .val (.long x16), .second, .val (.long x18), .second, .val (.int x20), .val (.int x21), .val (.int x22), .val (.long x23), .second, .val (.int x25), .unset, .unset] [.int t0, .int t1] := by
    intro T118 h118 _ X118 e118 N118 K118 oo na_oo G_oo_limit G_oo_wholeBatch G_oo_held G_oo_heldBeforeRow F118_oo x0 x2 x4 x6 x8 x9 x12 x14 x15 x16 x18 x20 x21 x22 x23 x25 t0 t1 hf
    unfold f0_234 at hf
    refine Go.icmp_ne X118 hx hby (pc' := 241) at_234 (by decide) (by decide) rfl (fun hc119 => ?_) (fun hc119 => ?_)
    · replace hf := (if_neg hc119).symm.trans hf
      refine Go.iconst X118 hx hby (v := (0 : Int32)) at_241 rfl rfl ?_
      exact B242 T118 h118 _ X118 e118 N118 K118 oo na_oo  G_oo_limit G_oo_wholeBatch G_oo_held G_oo_heldBeforeRow F118_oo x0 x2 x4 x6 x8 x9 x12 x14 x15 x16 x18 x20 x21 x22 x23 x25 (0 : Int32) hf
    · replace hf := (if_pos hc119).symm.trans hf
      refine Go.iconst X118 hx hby (v := (1 : Int32)) at_237 rfl rfl ?_
      refine Go.goto X118 hx hby (pc' := 242) at_238 (by decide) (by decide) ?_
      exact B242 T118 h118 _ X118 e118 N118 K118 oo na_oo  G_oo_limit G_oo_wholeBatch G_oo_held G_oo_heldBeforeRow F118_oo x0 x2 x4 x6 x8 x9 x12 x14 x15 x16 x18 x20 x21 x22 x23 x25 (1 : Int32) hf
  have B194 : ∀ (T : State) (h : Heap) (locs : List Loc), Stand p l e room_1 s m #[.long x0, .long x2, .long x4, .long x6, .int x8] below meth c T locs 1 4 → T.heap = h → Fr n0 locs → Keep h0 h [] → ∀ (oo : Addr), h0.size ≤ oo → ∀ (G_oo_limit : Int64) (G_oo_wholeBatch : Int32) (G_oo_held : Int64) (G_oo_heldBeforeRow : Int64), Ob_B Z h oo (.long G_oo_limit) (.int G_oo_wholeBatch) (.long G_oo_held) (.long G_oo_heldBeforeRow) → ∀ (x0 : Int64) (x2 : Int64) (x4 : Int64) (x6 : Int64) (x8 : Int32) (x9 : Int64) (x12 : Int64) (x14 : Int32) (x15 : Int32) (x16 : Int64) (x18 : Int64) (x20 : Int32) (x21 : Int32) (t0 : Int32), f0_194 x6 x9 x15 x16 x21 t0 G_oo_limit G_oo_wholeBatch G_oo_held G_oo_heldBeforeRow = some r → Go p e below s room_1.cells room_1.slots (fun v h L => v = some (.int r) ∧ Fr n0 L) m T 194 #[.val (.long x0), .second, .val (.long x2), .second, .val (.long x4), .second, .val (.long x6), .second, .val (.int x8), .val (.long x9), .second, .val (.ref oo), .val (.long x12), .second, .val (.int x14), .val (.int x15), .val (.long x16), .second, .val (.long x18), .second, .val (.int x20), .val (.int x21), .unset, .unset, .unset, .unset, .unset, .unset] [.int t0] := by
    intro T120 h120 _ X120 e120 N120 K120 oo na_oo G_oo_limit G_oo_wholeBatch G_oo_held G_oo_heldBeforeRow F120_oo x0 x2 x4 x6 x8 x9 x12 x14 x15 x16 x18 x20 x21 t0 hf
    unfold f0_194 at hf
    refine Go.istore X120 hx hby (Ls' := #[.val (.long x0), .second, .val (.long x2), .second, .val (.long x4), .second, .val (.long x6), .second, .val (.int x8), .val (.long x9), .second, .val (.ref oo), .val (.long x12), .second, .val (.int x14), .val (.int x15), .val (.long x16), .second, .val (.long x18), .second, .val (.int x20), .val (.int x21), .val (.int t0), .unset, .unset, .unset, .unset, .unset]) at_194 rfl rfl ?_
    refine Go.aload X120 hx hby (v := .ref oo) at_196 rfl rfl rfl ?_
    obtain ⟨r121, g121, hf⟩ := Option.bind_eq_some_iff.mp hf
    refine Go.callV X120 hx hby hZ (by rw [hml]; rfl) (W := 0) (argsL := []) (rest := []) hown (hw _ (List.mem_of_getElem? (i := 49) rfl)) (hw _ (List.mem_of_getElem? (i := 50) rfl)) (hw _ (List.mem_of_getElem? (i := 52) rfl)) (hw _ (List.mem_of_getElem? (i := 51) rfl)) (hw _ (List.mem_of_getElem? (i := 3) rfl)) (hw _ (List.mem_of_getElem? (i := 53) rfl))  (Ob_B.exa F120_oo) (by decide) (rm9 l Z a0 hw oo G_oo_limit G_oo_wholeBatch G_oo_held G_oo_heldBeforeRow h120 n0 (Nat.le_trans Z0 K120.1) r121 g121 F120_oo (Nat.le_trans Z0 na_oo)) (by decide) (by decide) e120 pd_9 rfl rfl rfl (Nat.le_of_eq rfl) (by decide) (by decide) at_198 rfl (fun v121 T121 L121 X121 Q121 => ?_)
    obtain ⟨rfl, N121', K121', F121_oo⟩ := Q121
    have N121 := Fr.app N120 N121'
    have K121 := Keep.trans K120 K121' (allS (P := fun x => _ ∨ _) (Or.inr na_oo) all0)
    refine Go.lload X121 hx hby (v := x6) at_201 rfl rfl ?_
    refine Go.lload X121 hx hby (v := x9) at_203 rfl rfl ?_
    obtain ⟨r122, g122, hf⟩ := Option.bind_eq_some_iff.mp hf
    refine Go.callSP X121 hx hby hZ (by rw [hml]; rfl) (W := 0) (argsL := [.long x6, .long x9]) (rest := []) hown (hw _ (List.mem_of_getElem? (i := 28) rfl)) (hw _ (List.mem_of_getElem? (i := 29) rfl)) (hw _ (List.mem_of_getElem? (i := 30) rfl)) (hw _ (List.mem_of_getElem? (i := 31) rfl)) (by decide) (rm5 l Z a0 hw x6 x9  T121.heap r122 g122 ) (by decide) (by decide) rfl pd_5 rfl rfl rfl (Nat.le_of_eq rfl) rfl rfl (by decide) (by decide) at_205 rfl (fun T122 X122 e122 => ?_)
    refine Go.lstore X122 hx hby (Ls' := #[.val (.long x0), .second, .val (.long x2), .second, .val (.long x4), .second, .val (.long x6), .second, .val (.int x8), .val (.long x9), .second, .val (.ref oo), .val (.long x12), .second, .val (.int x14), .val (.int x15), .val (.long x16), .second, .val (.long x18), .second, .val (.int x20), .val (.int x21), .val (.int t0), .val (.long r122), .second, .unset, .unset, .unset]) at_208 rfl rfl ?_
    refine Go.aload X122 hx hby (v := .ref oo) at_210 rfl rfl rfl ?_
    refine Go.lload X122 hx hby (v := r122) at_212 rfl rfl ?_
    obtain ⟨r123, g123, hf⟩ := Option.bind_eq_some_iff.mp hf
    refine Go.callV X122 hx hby hZ (by rw [hml]; rfl) (W := 0) (argsL := [.long r122]) (rest := []) hown (hw _ (List.mem_of_getElem? (i := 34) rfl)) (hw _ (List.mem_of_getElem? (i := 35) rfl)) (hw _ (List.mem_of_getElem? (i := 37) rfl)) (hw _ (List.mem_of_getElem? (i := 36) rfl)) (hw _ (List.mem_of_getElem? (i := 3) rfl)) (hw _ (List.mem_of_getElem? (i := 38) rfl))  (Ob_B.exa F121_oo) (by decide) (rm6 l Z a0 hw oo r122 r121.1 r121.2.1 r121.2.2.1 r121.2.2.2 T121.heap n0 (Nat.le_trans Z0 K121.1) r123 g123 F121_oo (Nat.le_trans Z0 na_oo)) (by decide) (by decide) e122 pd_6 rfl rfl rfl (Nat.le_of_eq rfl) (by decide) (by decide) at_214 rfl (fun v123 T123 L123 X123 Q123 => ?_)
    obtain ⟨rfl, N123', K123', F123_oo⟩ := Q123
    have N123 := Fr.app N121 N123'
    have K123 := Keep.trans K121 K123' (allS (P := fun x => _ ∨ _) (Or.inr na_oo) all0)
    refine Go.istore X123 hx hby (Ls' := #[.val (.long x0), .second, .val (.long x2), .second, .val (.long x4), .second, .val (.long x6), .second, .val (.int x8), .val (.long x9), .second, .val (.ref oo), .val (.long x12), .second, .val (.int x14), .val (.int x15), .val (.long x16), .second, .val (.long x18), .second, .val (.int x20), .val (.int x21), .val (.int t0), .val (.long r122), .second, .val (.int r123.1), .unset, .unset]) at_217 rfl rfl ?_
    refine Go.iload X123 hx hby (v := r123.1) at_219 rfl rfl ?_
    refine Go.lload X123 hx hby (v := r122) at_221 rfl rfl ?_
    refine Go.lload X123 hx hby (v := x9) at_223 rfl rfl ?_
    refine Go.lcmp X123 hx hby at_225 rfl ?_
    refine Go.ifL_gt X123 hx hby (pc' := 233) at_226 (by decide) (by decide) rfl (fun hc124 => ?_) (fun hc124 => ?_)
    · replace hf := (if_pos hc124).symm.trans hf
      refine Go.iconst X123 hx hby (v := (0 : Int32)) at_233 rfl rfl ?_
      exact B234 T123 T123.heap _ X123 rfl N123 K123 oo na_oo  r123.2.1 r123.2.2.1 r123.2.2.2.1 r123.2.2.2.2 F123_oo x0 x2 x4 x6 x8 x9 x12 x14 x15 x16 x18 x20 x21 t0 r122 r123.1 (0 : Int32) r123.1 hf
    · replace hf := (if_neg hc124).symm.trans hf
      refine Go.iconst X123 hx hby (v := (1 : Int32)) at_229 rfl rfl ?_
      refine Go.goto X123 hx hby (pc' := 234) at_230 (by decide) (by decide) ?_
      exact B234 T123 T123.heap _ X123 rfl N123 K123 oo na_oo  r123.2.1 r123.2.2.1 r123.2.2.2.1 r123.2.2.2.2 F123_oo x0 x2 x4 x6 x8 x9 x12 x14 x15 x16 x18 x20 x21 t0 r122 r123.1 (1 : Int32) r123.1 hf
  have B186 : ∀ (T : State) (h : Heap) (locs : List Loc), Stand p l e room_1 s m #[.long x0, .long x2, .long x4, .long x6, .int x8] below meth c T locs 1 4 → T.heap = h → Fr n0 locs → Keep h0 h [] → ∀ (oo : Addr), h0.size ≤ oo → ∀ (G_oo_limit : Int64) (G_oo_wholeBatch : Int32) (G_oo_held : Int64) (G_oo_heldBeforeRow : Int64), Ob_B Z h oo (.long G_oo_limit) (.int G_oo_wholeBatch) (.long G_oo_held) (.long G_oo_heldBeforeRow) → ∀ (x0 : Int64) (x2 : Int64) (x4 : Int64) (x6 : Int64) (x8 : Int32) (x9 : Int64) (x12 : Int64) (x14 : Int32) (x15 : Int32) (x16 : Int64) (x18 : Int64) (x20 : Int32) (x21 : Int32) (t0 : Int32) (t1 : Int32), f0_186 x6 x9 x15 x16 x21 t0 t1 G_oo_limit G_oo_wholeBatch G_oo_held G_oo_heldBeforeRow = some r → Go p e below s room_1.cells room_1.slots (fun v h L => v = some (.int r) ∧ Fr n0 L) m T 186 #[.val (.long x0), .second, .val (.long x2), .second, .val (.long x4), .second, .val (.long x6), .second, .val (.int x8), .val (.long x9), .second, .val (.ref oo), .val (.long x12), .second, .val (.int x14), .val (.int x15), .val (.long x16), .second, .val (.long x18), .second, .val (.int x20), .val (.int x21), .unset, .unset, .unset, .unset, .unset, .unset] [.int t0, .int t1] := by
    intro T125 h125 _ X125 e125 N125 K125 oo na_oo G_oo_limit G_oo_wholeBatch G_oo_held G_oo_heldBeforeRow F125_oo x0 x2 x4 x6 x8 x9 x12 x14 x15 x16 x18 x20 x21 t0 t1 hf
    unfold f0_186 at hf
    refine Go.icmp_ne X125 hx hby (pc' := 193) at_186 (by decide) (by decide) rfl (fun hc126 => ?_) (fun hc126 => ?_)
    · replace hf := (if_neg hc126).symm.trans hf
      refine Go.iconst X125 hx hby (v := (0 : Int32)) at_193 rfl rfl ?_
      exact B194 T125 h125 _ X125 e125 N125 K125 oo na_oo  G_oo_limit G_oo_wholeBatch G_oo_held G_oo_heldBeforeRow F125_oo x0 x2 x4 x6 x8 x9 x12 x14 x15 x16 x18 x20 x21 (0 : Int32) hf
    · replace hf := (if_pos hc126).symm.trans hf
      refine Go.iconst X125 hx hby (v := (1 : Int32)) at_189 rfl rfl ?_
      refine Go.goto X125 hx hby (pc' := 194) at_190 (by decide) (by decide) ?_
      exact B194 T125 h125 _ X125 e125 N125 K125 oo na_oo  G_oo_limit G_oo_wholeBatch G_oo_held G_oo_heldBeforeRow F125_oo x0 x2 x4 x6 x8 x9 x12 x14 x15 x16 x18 x20 x21 (1 : Int32) hf
  have B165 : ∀ (T : State) (h : Heap) (locs : List Loc), Stand p l e room_1 s m #[.long x0, .long x2, .long x4, .long x6, .int x8] below meth c T locs 1 4 → T.heap = h → Fr n0 locs → Keep h0 h [] → ∀ (oo : Addr), h0.size ≤ oo → ∀ (G_oo_limit : Int64) (G_oo_wholeBatch : Int32) (G_oo_held : Int64) (G_oo_heldBeforeRow : Int64), Ob_B Z h oo (.long G_oo_limit) (.int G_oo_wholeBatch) (.long G_oo_held) (.long G_oo_heldBeforeRow) → ∀ (x0 : Int64) (x2 : Int64) (x4 : Int64) (x6 : Int64) (x8 : Int32) (x9 : Int64) (x12 : Int64) (x14 : Int32) (x15 : Int32) (x16 : Int64) (x18 : Int64) (x20 : Int32) (x21 : Int32) (t0 : Int64) (t1 : Int64), f0_165 x6 x9 x15 x21 t0 t1 G_oo_limit G_oo_wholeBatch G_oo_held G_oo_heldBeforeRow = some r → Go p e below s room_1.cells room_1.slots (fun v h L => v = some (.int r) ∧ Fr n0 L) m T 165 #[.val (.long x0), .second, .val (.long x2), .second, .val (.long x4), .second, .val (.long x6), .second, .val (.int x8), .val (.long x9), .second, .val (.ref oo), .val (.long x12), .second, .val (.int x14), .val (.int x15), .val (.long x16), .second, .val (.long x18), .second, .val (.int x20), .val (.int x21), .unset, .unset, .unset, .unset, .unset, .unset] [.long t0, .long t1] := by
    intro T127 h127 _ X127 e127 N127 K127 oo na_oo G_oo_limit G_oo_wholeBatch G_oo_held G_oo_heldBeforeRow F127_oo x0 x2 x4 x6 x8 x9 x12 x14 x15 x16 x18 x20 x21 t0 t1 hf
    unfold f0_165 at hf
    refine Go.ladd X127 hx hby at_165 rfl ?_
    refine Go.lstore X127 hx hby (Ls' := #[.val (.long x0), .second, .val (.long x2), .second, .val (.long x4), .second, .val (.long x6), .second, .val (.int x8), .val (.long x9), .second, .val (.ref oo), .val (.long x12), .second, .val (.int x14), .val (.int x15), .val (.long (t1 + t0)), .second, .val (.long x18), .second, .val (.int x20), .val (.int x21), .unset, .unset, .unset, .unset, .unset, .unset]) at_166 rfl rfl ?_
    refine Go.aload X127 hx hby (v := .ref oo) at_168 rfl rfl rfl ?_
    obtain ⟨r128, g128, hf⟩ := Option.bind_eq_some_iff.mp hf
    refine Go.callVP X127 hx hby hZ (by rw [hml]; rfl) (W := 0) (argsL := []) (rest := []) hown (hw _ (List.mem_of_getElem? (i := 39) rfl)) (hw _ (List.mem_of_getElem? (i := 40) rfl)) (hw _ (List.mem_of_getElem? (i := 42) rfl)) (hw _ (List.mem_of_getElem? (i := 41) rfl)) (hw _ (List.mem_of_getElem? (i := 3) rfl)) (hw _ (List.mem_of_getElem? (i := 43) rfl))  (Ob_B.exa F127_oo) (by decide) (rm7 l Z a0 hw oo G_oo_limit G_oo_wholeBatch G_oo_held G_oo_heldBeforeRow h127 r128 g128 F127_oo) (by decide) (by decide) e127 pd_7 rfl rfl rfl (Nat.le_of_eq rfl) rfl rfl (by decide) (by decide) at_170 rfl (fun T128 X128 e128 => ?_)
    refine Go.lload X128 hx hby (v := (t1 + t0)) at_173 rfl rfl ?_
    refine Go.lload X128 hx hby (v := x9) at_175 rfl rfl ?_
    refine Go.lcmp X128 hx hby at_177 rfl ?_
    refine Go.ifL_lt X128 hx hby (pc' := 185) at_178 (by decide) (by decide) rfl (fun hc129 => ?_) (fun hc129 => ?_)
    · replace hf := (if_pos hc129).symm.trans hf
      refine Go.iconst X128 hx hby (v := (0 : Int32)) at_185 rfl rfl ?_
      exact B186 T128 h127 _ X128 e128 N127 K127 oo na_oo  G_oo_limit G_oo_wholeBatch G_oo_held G_oo_heldBeforeRow F127_oo x0 x2 x4 x6 x8 x9 x12 x14 x15 (t1 + t0) x18 x20 x21 (0 : Int32) r128 hf
    · replace hf := (if_neg hc129).symm.trans hf
      refine Go.iconst X128 hx hby (v := (1 : Int32)) at_181 rfl rfl ?_
      refine Go.goto X128 hx hby (pc' := 186) at_182 (by decide) (by decide) ?_
      exact B186 T128 h127 _ X128 e128 N127 K127 oo na_oo  G_oo_limit G_oo_wholeBatch G_oo_held G_oo_heldBeforeRow F127_oo x0 x2 x4 x6 x8 x9 x12 x14 x15 (t1 + t0) x18 x20 x21 (1 : Int32) r128 hf
  have B150 : ∀ (T : State) (h : Heap) (locs : List Loc), Stand p l e room_1 s m #[.long x0, .long x2, .long x4, .long x6, .int x8] below meth c T locs 1 4 → T.heap = h → Fr n0 locs → Keep h0 h [] → ∀ (oo : Addr), h0.size ≤ oo → ∀ (G_oo_limit : Int64) (G_oo_wholeBatch : Int32) (G_oo_held : Int64) (G_oo_heldBeforeRow : Int64), Ob_B Z h oo (.long G_oo_limit) (.int G_oo_wholeBatch) (.long G_oo_held) (.long G_oo_heldBeforeRow) → ∀ (x0 : Int64) (x2 : Int64) (x4 : Int64) (x6 : Int64) (x8 : Int32) (x9 : Int64) (x12 : Int64) (x14 : Int32) (x15 : Int32) (x16 : Int64) (x18 : Int64) (x20 : Int32) (t0 : Int32), f0_150 x6 x9 x15 x16 x18 x20 t0 G_oo_limit G_oo_wholeBatch G_oo_held G_oo_heldBeforeRow = some r → Go p e below s room_1.cells room_1.slots (fun v h L => v = some (.int r) ∧ Fr n0 L) m T 150 #[.val (.long x0), .second, .val (.long x2), .second, .val (.long x4), .second, .val (.long x6), .second, .val (.int x8), .val (.long x9), .second, .val (.ref oo), .val (.long x12), .second, .val (.int x14), .val (.int x15), .val (.long x16), .second, .val (.long x18), .second, .val (.int x20), .unset, .unset, .unset, .unset, .unset, .unset, .unset] [.int t0] := by
    intro T130 h130 _ X130 e130 N130 K130 oo na_oo G_oo_limit G_oo_wholeBatch G_oo_held G_oo_heldBeforeRow F130_oo x0 x2 x4 x6 x8 x9 x12 x14 x15 x16 x18 x20 t0 hf
    unfold f0_150 at hf
    refine Go.istore X130 hx hby (Ls' := #[.val (.long x0), .second, .val (.long x2), .second, .val (.long x4), .second, .val (.long x6), .second, .val (.int x8), .val (.long x9), .second, .val (.ref oo), .val (.long x12), .second, .val (.int x14), .val (.int x15), .val (.long x16), .second, .val (.long x18), .second, .val (.int x20), .val (.int t0), .unset, .unset, .unset, .unset, .unset, .unset]) at_150 rfl rfl ?_
    refine Go.lload X130 hx hby (v := x16) at_152 rfl rfl ?_
    refine Go.iload X130 hx hby (v := x20) at_154 rfl rfl ?_
    refine Go.if_eq X130 hx hby (pc' := 164) at_156 (by decide) (by decide) rfl (fun hc131 => ?_) (fun hc131 => ?_)
    · replace hf := (if_pos hc131).symm.trans hf
      refine Go.lconst X130 hx hby (v := (0 : Int64)) at_164 rfl rfl ?_
      exact B165 T130 h130 _ X130 e130 N130 K130 oo na_oo  G_oo_limit G_oo_wholeBatch G_oo_held G_oo_heldBeforeRow F130_oo x0 x2 x4 x6 x8 x9 x12 x14 x15 x16 x18 x20 t0 (0 : Int64) x16 hf
    · replace hf := (if_neg hc131).symm.trans hf
      refine Go.lload X130 hx hby (v := x18) at_159 rfl rfl ?_
      refine Go.goto X130 hx hby (pc' := 165) at_161 (by decide) (by decide) ?_
      exact B165 T130 h130 _ X130 e130 N130 K130 oo na_oo  G_oo_limit G_oo_wholeBatch G_oo_held G_oo_heldBeforeRow F130_oo x0 x2 x4 x6 x8 x9 x12 x14 x15 x16 x18 x20 t0 x18 x16 hf
  have B142 : ∀ (T : State) (h : Heap) (locs : List Loc), Stand p l e room_1 s m #[.long x0, .long x2, .long x4, .long x6, .int x8] below meth c T locs 1 4 → T.heap = h → Fr n0 locs → Keep h0 h [] → ∀ (oo : Addr), h0.size ≤ oo → ∀ (G_oo_limit : Int64) (G_oo_wholeBatch : Int32) (G_oo_held : Int64) (G_oo_heldBeforeRow : Int64), Ob_B Z h oo (.long G_oo_limit) (.int G_oo_wholeBatch) (.long G_oo_held) (.long G_oo_heldBeforeRow) → ∀ (x0 : Int64) (x2 : Int64) (x4 : Int64) (x6 : Int64) (x8 : Int32) (x9 : Int64) (x12 : Int64) (x14 : Int32) (x15 : Int32) (x16 : Int64) (x18 : Int64) (x20 : Int32) (t0 : Int32) (t1 : Int32), f0_142 x6 x9 x15 x16 x18 x20 t0 t1 G_oo_limit G_oo_wholeBatch G_oo_held G_oo_heldBeforeRow = some r → Go p e below s room_1.cells room_1.slots (fun v h L => v = some (.int r) ∧ Fr n0 L) m T 142 #[.val (.long x0), .second, .val (.long x2), .second, .val (.long x4), .second, .val (.long x6), .second, .val (.int x8), .val (.long x9), .second, .val (.ref oo), .val (.long x12), .second, .val (.int x14), .val (.int x15), .val (.long x16), .second, .val (.long x18), .second, .val (.int x20), .unset, .unset, .unset, .unset, .unset, .unset, .unset] [.int t0, .int t1] := by
    intro T132 h132 _ X132 e132 N132 K132 oo na_oo G_oo_limit G_oo_wholeBatch G_oo_held G_oo_heldBeforeRow F132_oo x0 x2 x4 x6 x8 x9 x12 x14 x15 x16 x18 x20 t0 t1 hf
    unfold f0_142 at hf
    refine Go.icmp_ne X132 hx hby (pc' := 149) at_142 (by decide) (by decide) rfl (fun hc133 => ?_) (fun hc133 => ?_)
    · replace hf := (if_neg hc133).symm.trans hf
      refine Go.iconst X132 hx hby (v := (0 : Int32)) at_149 rfl rfl ?_
      exact B150 T132 h132 _ X132 e132 N132 K132 oo na_oo  G_oo_limit G_oo_wholeBatch G_oo_held G_oo_heldBeforeRow F132_oo x0 x2 x4 x6 x8 x9 x12 x14 x15 x16 x18 x20 (0 : Int32) hf
    · replace hf := (if_pos hc133).symm.trans hf
      refine Go.iconst X132 hx hby (v := (1 : Int32)) at_145 rfl rfl ?_
      refine Go.goto X132 hx hby (pc' := 150) at_146 (by decide) (by decide) ?_
      exact B150 T132 h132 _ X132 e132 N132 K132 oo na_oo  G_oo_limit G_oo_wholeBatch G_oo_held G_oo_heldBeforeRow F132_oo x0 x2 x4 x6 x8 x9 x12 x14 x15 x16 x18 x20 (1 : Int32) hf
  have B101 : ∀ (T : State) (h : Heap) (locs : List Loc), Stand p l e room_1 s m #[.long x0, .long x2, .long x4, .long x6, .int x8] below meth c T locs 1 4 → T.heap = h → Fr n0 locs → Keep h0 h [] → ∀ (oo : Addr), h0.size ≤ oo → ∀ (G_oo_limit : Int64) (G_oo_wholeBatch : Int32) (G_oo_held : Int64) (G_oo_heldBeforeRow : Int64), Ob_B Z h oo (.long G_oo_limit) (.int G_oo_wholeBatch) (.long G_oo_held) (.long G_oo_heldBeforeRow) → ∀ (x0 : Int64) (x2 : Int64) (x4 : Int64) (x6 : Int64) (x8 : Int32) (x9 : Int64) (x12 : Int64) (x14 : Int32) (x15 : Int32) (t0 : Int64), f0_101 x4 x6 x9 x15 t0 G_oo_limit G_oo_wholeBatch G_oo_held G_oo_heldBeforeRow = some r → Go p e below s room_1.cells room_1.slots (fun v h L => v = some (.int r) ∧ Fr n0 L) m T 101 #[.val (.long x0), .second, .val (.long x2), .second, .val (.long x4), .second, .val (.long x6), .second, .val (.int x8), .val (.long x9), .second, .val (.ref oo), .val (.long x12), .second, .val (.int x14), .val (.int x15), .unset, .unset, .unset, .unset, .unset, .unset, .unset, .unset, .unset, .unset, .unset, .unset] [.long t0] := by
    intro T134 h134 _ X134 e134 N134 K134 oo na_oo G_oo_limit G_oo_wholeBatch G_oo_held G_oo_heldBeforeRow F134_oo x0 x2 x4 x6 x8 x9 x12 x14 x15 t0 hf
    unfold f0_101 at hf
    refine Go.lstore X134 hx hby (Ls' := #[.val (.long x0), .second, .val (.long x2), .second, .val (.long x4), .second, .val (.long x6), .second, .val (.int x8), .val (.long x9), .second, .val (.ref oo), .val (.long x12), .second, .val (.int x14), .val (.int x15), .val (.long t0), .second, .unset, .unset, .unset, .unset, .unset, .unset, .unset, .unset, .unset, .unset]) at_101 rfl rfl ?_
    refine Go.lload X134 hx hby (v := x4) at_103 rfl rfl ?_
    refine Go.lload X134 hx hby (v := x9) at_105 rfl rfl ?_
    refine Go.lload X134 hx hby (v := t0) at_107 rfl rfl ?_
    refine Go.lsub X134 hx hby at_109 rfl ?_
    obtain ⟨r135, g135, hf⟩ := Option.bind_eq_some_iff.mp hf
    refine Go.callSP X134 hx hby hZ (by rw [hml]; rfl) (W := 0) (argsL := [.long x4, .long (x9 - t0)]) (rest := []) hown (hw _ (List.mem_of_getElem? (i := 28) rfl)) (hw _ (List.mem_of_getElem? (i := 29) rfl)) (hw _ (List.mem_of_getElem? (i := 30) rfl)) (hw _ (List.mem_of_getElem? (i := 31) rfl)) (by decide) (rm5 l Z a0 hw x4 (x9 - t0)  h134 r135 g135 ) (by decide) (by decide) e134 pd_5 rfl rfl rfl (Nat.le_of_eq rfl) rfl rfl (by decide) (by decide) at_110 rfl (fun T135 X135 e135 => ?_)
    refine Go.lstore X135 hx hby (Ls' := #[.val (.long x0), .second, .val (.long x2), .second, .val (.long x4), .second, .val (.long x6), .second, .val (.int x8), .val (.long x9), .second, .val (.ref oo), .val (.long x12), .second, .val (.int x14), .val (.int x15), .val (.long t0), .second, .val (.long r135), .second, .unset, .unset, .unset, .unset, .unset, .unset, .unset, .unset]) at_113 rfl rfl ?_
    refine Go.aload X135 hx hby (v := .ref oo) at_115 rfl rfl rfl ?_
    refine Go.lload X135 hx hby (v := r135) at_117 rfl rfl ?_
    obtain ⟨r136, g136, hf⟩ := Option.bind_eq_some_iff.mp hf
    refine Go.callV X135 hx hby hZ (by rw [hml]; rfl) (W := 0) (argsL := [.long r135]) (rest := []) hown (hw _ (List.mem_of_getElem? (i := 34) rfl)) (hw _ (List.mem_of_getElem? (i := 35) rfl)) (hw _ (List.mem_of_getElem? (i := 37) rfl)) (hw _ (List.mem_of_getElem? (i := 36) rfl)) (hw _ (List.mem_of_getElem? (i := 3) rfl)) (hw _ (List.mem_of_getElem? (i := 38) rfl))  (Ob_B.exa F134_oo) (by decide) (rm6 l Z a0 hw oo r135 G_oo_limit G_oo_wholeBatch G_oo_held G_oo_heldBeforeRow h134 n0 (Nat.le_trans Z0 K134.1) r136 g136 F134_oo (Nat.le_trans Z0 na_oo)) (by decide) (by decide) e135 pd_6 rfl rfl rfl (Nat.le_of_eq rfl) (by decide) (by decide) at_119 rfl (fun v136 T136 L136 X136 Q136 => ?_)
    obtain ⟨rfl, N136', K136', F136_oo⟩ := Q136
    have N136 := Fr.app N134 N136'
    have K136 := Keep.trans K134 K136' (allS (P := fun x => _ ∨ _) (Or.inr na_oo) all0)
    refine Go.istore X136 hx hby (Ls' := #[.val (.long x0), .second, .val (.long x2), .second, .val (.long x4), .second, .val (.long x6), .second, .val (.int x8), .val (.long x9), .second, .val (.ref oo), .val (.long x12), .second, .val (.int x14), .val (.int x15), .val (.long t0), .second, .val (.long r135), .second, .val (.int r136.1), .unset, .unset, .unset, .unset, .unset, .unset, .unset]) at_122 rfl rfl ?_
    refine Go.iload X136 hx hby (v := r136.1) at_124 rfl rfl ?_
    refine Go.lload X136 hx hby (v := t0) at_126 rfl rfl ?_
    refine Go.lload X136 hx hby (v := r135) at_128 rfl rfl ?_
    refine Go.ladd X136 hx hby at_130 rfl ?_
    refine Go.lload X136 hx hby (v := x9) at_131 rfl rfl ?_
    refine Go.lcmp X136 hx hby at_133 rfl ?_
    refine Go.ifL_gt X136 hx hby (pc' := 141) at_134 (by decide) (by decide) rfl (fun hc137 => ?_) (fun hc137 => ?_)
    · replace hf := (if_pos hc137).symm.trans hf
      refine Go.iconst X136 hx hby (v := (0 : Int32)) at_141 rfl rfl ?_
      exact B142 T136 T136.heap _ X136 rfl N136 K136 oo na_oo  r136.2.1 r136.2.2.1 r136.2.2.2.1 r136.2.2.2.2 F136_oo x0 x2 x4 x6 x8 x9 x12 x14 x15 t0 r135 r136.1 (0 : Int32) r136.1 hf
    · replace hf := (if_neg hc137).symm.trans hf
      refine Go.iconst X136 hx hby (v := (1 : Int32)) at_137 rfl rfl ?_
      refine Go.goto X136 hx hby (pc' := 142) at_138 (by decide) (by decide) ?_
      exact B142 T136 T136.heap _ X136 rfl N136 K136 oo na_oo  r136.2.1 r136.2.2.1 r136.2.2.2.1 r136.2.2.2.2 F136_oo x0 x2 x4 x6 x8 x9 x12 x14 x15 t0 r135 r136.1 (1 : Int32) r136.1 hf
  have B88 : ∀ (T : State) (h : Heap) (locs : List Loc), Stand p l e room_1 s m #[.long x0, .long x2, .long x4, .long x6, .int x8] below meth c T locs 1 4 → T.heap = h → Fr n0 locs → Keep h0 h [] → ∀ (oo : Addr), h0.size ≤ oo → ∀ (G_oo_limit : Int64) (G_oo_wholeBatch : Int32) (G_oo_held : Int64) (G_oo_heldBeforeRow : Int64), Ob_B Z h oo (.long G_oo_limit) (.int G_oo_wholeBatch) (.long G_oo_held) (.long G_oo_heldBeforeRow) → ∀ (x0 : Int64) (x2 : Int64) (x4 : Int64) (x6 : Int64) (x8 : Int32) (x9 : Int64) (x12 : Int64) (x14 : Int32) (t0 : Int32), f0_88 x4 x6 x9 x12 x14 t0 G_oo_limit G_oo_wholeBatch G_oo_held G_oo_heldBeforeRow = some r → Go p e below s room_1.cells room_1.slots (fun v h L => v = some (.int r) ∧ Fr n0 L) m T 88 #[.val (.long x0), .second, .val (.long x2), .second, .val (.long x4), .second, .val (.long x6), .second, .val (.int x8), .val (.long x9), .second, .val (.ref oo), .val (.long x12), .second, .val (.int x14), .unset, .unset, .unset, .unset, .unset, .unset, .unset, .unset, .unset, .unset, .unset, .unset, .unset] [.int t0] := by
    intro T138 h138 _ X138 e138 N138 K138 oo na_oo G_oo_limit G_oo_wholeBatch G_oo_held G_oo_heldBeforeRow F138_oo x0 x2 x4 x6 x8 x9 x12 x14 t0 hf
    unfold f0_88 at hf
    refine Go.istore X138 hx hby (Ls' := #[.val (.long x0), .second, .val (.long x2), .second, .val (.long x4), .second, .val (.long x6), .second, .val (.int x8), .val (.long x9), .second, .val (.ref oo), .val (.long x12), .second, .val (.int x14), .val (.int t0), .unset, .unset, .unset, .unset, .unset, .unset, .unset, .unset, .unset, .unset, .unset, .unset]) at_88 rfl rfl ?_
    refine Go.iload X138 hx hby (v := x14) at_90 rfl rfl ?_
    refine Go.if_eq X138 hx hby (pc' := 100) at_92 (by decide) (by decide) rfl (fun hc139 => ?_) (fun hc139 => ?_)
    · replace hf := (if_pos hc139).symm.trans hf
      refine Go.lconst X138 hx hby (v := (0 : Int64)) at_100 rfl rfl ?_
      exact B101 T138 h138 _ X138 e138 N138 K138 oo na_oo  G_oo_limit G_oo_wholeBatch G_oo_held G_oo_heldBeforeRow F138_oo x0 x2 x4 x6 x8 x9 x12 x14 t0 (0 : Int64) hf
    · replace hf := (if_neg hc139).symm.trans hf
      refine Go.lload X138 hx hby (v := x12) at_95 rfl rfl ?_
      refine Go.goto X138 hx hby (pc' := 101) at_97 (by decide) (by decide) ?_
      exact B101 T138 h138 _ X138 e138 N138 K138 oo na_oo  G_oo_limit G_oo_wholeBatch G_oo_held G_oo_heldBeforeRow F138_oo x0 x2 x4 x6 x8 x9 x12 x14 t0 x12 hf
  have B80 : ∀ (T : State) (h : Heap) (locs : List Loc), Stand p l e room_1 s m #[.long x0, .long x2, .long x4, .long x6, .int x8] below meth c T locs 1 4 → T.heap = h → Fr n0 locs → Keep h0 h [] → ∀ (oo : Addr), h0.size ≤ oo → ∀ (G_oo_limit : Int64) (G_oo_wholeBatch : Int32) (G_oo_held : Int64) (G_oo_heldBeforeRow : Int64), Ob_B Z h oo (.long G_oo_limit) (.int G_oo_wholeBatch) (.long G_oo_held) (.long G_oo_heldBeforeRow) → ∀ (x0 : Int64) (x2 : Int64) (x4 : Int64) (x6 : Int64) (x8 : Int32) (x9 : Int64) (x12 : Int64) (x14 : Int32) (t0 : Int32) (t1 : Int32), f0_80 x4 x6 x9 x12 x14 t0 t1 G_oo_limit G_oo_wholeBatch G_oo_held G_oo_heldBeforeRow = some r → Go p e below s room_1.cells room_1.slots (fun v h L => v = some (.int r) ∧ Fr n0 L) m T 80 #[.val (.long x0), .second, .val (.long x2), .second, .val (.long x4), .second, .val (.long x6), .second, .val (.int x8), .val (.long x9), .second, .val (.ref oo), .val (.long x12), .second, .val (.int x14), .unset, .unset, .unset, .unset, .unset, .unset, .unset, .unset, .unset, .unset, .unset, .unset, .unset] [.int t0, .int t1] := by
    intro T140 h140 _ X140 e140 N140 K140 oo na_oo G_oo_limit G_oo_wholeBatch G_oo_held G_oo_heldBeforeRow F140_oo x0 x2 x4 x6 x8 x9 x12 x14 t0 t1 hf
    unfold f0_80 at hf
    refine Go.icmp_ne X140 hx hby (pc' := 87) at_80 (by decide) (by decide) rfl (fun hc141 => ?_) (fun hc141 => ?_)
    · replace hf := (if_neg hc141).symm.trans hf
      refine Go.iconst X140 hx hby (v := (0 : Int32)) at_87 rfl rfl ?_
      exact B88 T140 h140 _ X140 e140 N140 K140 oo na_oo  G_oo_limit G_oo_wholeBatch G_oo_held G_oo_heldBeforeRow F140_oo x0 x2 x4 x6 x8 x9 x12 x14 (0 : Int32) hf
    · replace hf := (if_pos hc141).symm.trans hf
      refine Go.iconst X140 hx hby (v := (1 : Int32)) at_83 rfl rfl ?_
      refine Go.goto X140 hx hby (pc' := 88) at_84 (by decide) (by decide) ?_
      exact B88 T140 h140 _ X140 e140 N140 K140 oo na_oo  G_oo_limit G_oo_wholeBatch G_oo_held G_oo_heldBeforeRow F140_oo x0 x2 x4 x6 x8 x9 x12 x14 (1 : Int32) hf
  have hf := hf0
  unfold f0_0 at hf
  refine Go.lloadN X0 hx hby (v := x0) at_0 rfl rfl ?_
  refine Go.ldcJ X0 hx hby hZ (v := (2305843009213693951 : Int64)) hown (hw _ (List.mem_of_getElem? (i := 0) rfl)) at_1 rfl ?_
  refine Go.land X0 hx hby at_4 rfl ?_
  refine Go.lstore X0 hx hby (Ls' := #[.val (.long x0), .second, .val (.long x2), .second, .val (.long x4), .second, .val (.long x6), .second, .val (.int x8), .val (.long (x0 &&& (2305843009213693951 : Int64))), .second, .unset, .unset, .unset, .unset, .unset, .unset, .unset, .unset, .unset, .unset, .unset, .unset, .unset, .unset, .unset, .unset, .unset]) at_5 rfl rfl ?_
  refine Go.newO X0 hx hby hZ hown (hw _ (List.mem_of_getElem? (i := 1) rfl)) (hw _ (List.mem_of_getElem? (i := 2) rfl)) (hw _ (List.mem_of_getElem? (i := 3) rfl)) e0 at_7 rfl (by decide) (by decide) (fun T142 h142 oo X142 e142 E142 z142 A142 D142 => ?_)
  have na_oo := Nat.le_trans K0.1 z142
  have K142 := Keep.ext K0 E142
  refine Go.dup X142 hx hby at_10 rfl rfl ?_
  refine Go.lload X142 hx hby (v := (x0 &&& (2305843009213693951 : Int64))) at_11 rfl rfl ?_
  obtain ⟨r143, g143, hf⟩ := Option.bind_eq_some_iff.mp hf
  refine Go.callC X142 hx hby hZ (by rw [hml]; rfl) (W := 1) (argsL := [.long (x0 &&& (2305843009213693951 : Int64))]) (rest := [.ref oo]) hown (hw _ (List.mem_of_getElem? (i := 4) rfl)) (hw _ (List.mem_of_getElem? (i := 5) rfl)) (hw _ (List.mem_of_getElem? (i := 3) rfl)) (hw _ (List.mem_of_getElem? (i := 6) rfl)) (by decide) rfl (rm1 l Z a0 hw oo (x0 &&& (2305843009213693951 : Int64)) (0 : Int64) (0 : Int32) (0 : Int64) (0 : Int64) h142 n0 (Nat.le_trans Z0 K142.1) r143 g143 (Ob_B.mk A142 (D142 (Or.inr (hw _ (List.mem_of_getElem? (i := 11) rfl))) (ty := .long) (by decide)) (D142 (Or.inl (hw _ (List.mem_of_getElem? (i := 23) rfl))) (ty := .boolean) (by decide)) (D142 (Or.inl (hw _ (List.mem_of_getElem? (i := 25) rfl))) (ty := .long) (by decide)) (D142 (Or.inl (hw _ (List.mem_of_getElem? (i := 27) rfl))) (ty := .long) (by decide))) (Nat.le_trans Z0 na_oo)) (by decide) (by decide) e142 pd_1 rfl rfl rfl (Nat.le_of_eq rfl) (by decide) (by decide) at_13 rfl (fun v143 T143 L143 X143 Q143 => ?_)
  obtain ⟨rfl, N143', K143', F143_oo⟩ := Q143
  have N143 := Fr.app N0 N143'
  have K143 := Keep.trans K142 K143' (allS (P := fun x => _ ∨ _) (Or.inr na_oo) all0)
  refine Go.astore X143 hx hby (Ls' := #[.val (.long x0), .second, .val (.long x2), .second, .val (.long x4), .second, .val (.long x6), .second, .val (.int x8), .val (.long (x0 &&& (2305843009213693951 : Int64))), .second, .val (.ref oo), .unset, .unset, .unset, .unset, .unset, .unset, .unset, .unset, .unset, .unset, .unset, .unset, .unset, .unset, .unset, .unset]) at_16 rfl rfl rfl ?_
  refine Go.aload X143 hx hby (v := .ref oo) at_18 rfl rfl rfl ?_
  obtain ⟨r144, g144, hf⟩ := Option.bind_eq_some_iff.mp hf
  refine Go.callVP X143 hx hby hZ (by rw [hml]; rfl) (W := 0) (argsL := []) (rest := []) hown (hw _ (List.mem_of_getElem? (i := 12) rfl)) (hw _ (List.mem_of_getElem? (i := 13) rfl)) (hw _ (List.mem_of_getElem? (i := 15) rfl)) (hw _ (List.mem_of_getElem? (i := 14) rfl)) (hw _ (List.mem_of_getElem? (i := 3) rfl)) (hw _ (List.mem_of_getElem? (i := 16) rfl))  (Ob_B.exa F143_oo) (by decide) (rm3 l Z a0 hw oo r143.1 r143.2.1 r143.2.2.1 r143.2.2.2 T143.heap r144 g144 F143_oo) (by decide) (by decide) rfl pd_3 rfl rfl rfl (Nat.le_of_eq rfl) rfl rfl (by decide) (by decide) at_20 rfl (fun T144 X144 e144 => ?_)
  refine Go.lload X144 hx hby (v := (x0 &&& (2305843009213693951 : Int64))) at_23 rfl rfl ?_
  refine Go.lcmp X144 hx hby at_25 rfl ?_
  refine Go.ifL_eq X144 hx hby (pc' := 31) at_26 (by decide) (by decide) rfl (fun hc145 => ?_) (fun hc145 => ?_)
  · replace hf := (if_pos hc145).symm.trans hf
    refine Go.iload X144 hx hby (v := x8) at_31 rfl rfl ?_
    refine Go.iconst X144 hx hby (v := (1 : Int32)) at_33 rfl rfl ?_
    refine Go.iand X144 hx hby at_34 rfl ?_
    refine Go.if_ne X144 hx hby (pc' := 319) at_35 (by decide) (by decide) rfl (fun hc146 => ?_) (fun hc146 => ?_)
    · replace hf := (if_neg hc146).symm.trans hf
      refine Go.aload X144 hx hby (v := .ref oo) at_319 rfl rfl rfl ?_
      obtain ⟨r147, g147, hf⟩ := Option.bind_eq_some_iff.mp hf
      refine Go.callV X144 hx hby hZ (by rw [hml]; rfl) (W := 0) (argsL := []) (rest := []) hown (hw _ (List.mem_of_getElem? (i := 17) rfl)) (hw _ (List.mem_of_getElem? (i := 18) rfl)) (hw _ (List.mem_of_getElem? (i := 20) rfl)) (hw _ (List.mem_of_getElem? (i := 19) rfl)) (hw _ (List.mem_of_getElem? (i := 3) rfl)) (hw _ (List.mem_of_getElem? (i := 21) rfl))  (Ob_B.exa F143_oo) (by decide) (rm4 l Z a0 hw oo r143.1 r143.2.1 r143.2.2.1 r143.2.2.2 T143.heap n0 (Nat.le_trans Z0 K143.1) r147 g147 F143_oo (Nat.le_trans Z0 na_oo)) (by decide) (by decide) e144 pd_4 rfl rfl rfl (Nat.le_of_eq rfl) (by decide) (by decide) at_321 rfl (fun v147 T147 L147 X147 Q147 => ?_)
      obtain ⟨rfl, N147', K147', F147_oo⟩ := Q147
      have N147 := Fr.app N143 N147'
      have K147 := Keep.trans K143 K147' (allS (P := fun x => _ ∨ _) (Or.inr na_oo) all0)
      refine Go.lloadN X147 hx hby (v := x2) at_324 rfl rfl ?_
      refine Go.lload X147 hx hby (v := (x0 &&& (2305843009213693951 : Int64))) at_325 rfl rfl ?_
      refine Go.lconst X147 hx hby (v := (1 : Int64)) at_327 rfl rfl ?_
      refine Go.lsub X147 hx hby at_328 rfl ?_
      obtain ⟨r148, g148, hf⟩ := Option.bind_eq_some_iff.mp hf
      refine Go.callSP X147 hx hby hZ (by rw [hml]; rfl) (W := 0) (argsL := [.long x2, .long ((x0 &&& (2305843009213693951 : Int64)) - (1 : Int64))]) (rest := []) hown (hw _ (List.mem_of_getElem? (i := 28) rfl)) (hw _ (List.mem_of_getElem? (i := 29) rfl)) (hw _ (List.mem_of_getElem? (i := 30) rfl)) (hw _ (List.mem_of_getElem? (i := 31) rfl)) (by decide) (rm5 l Z a0 hw x2 ((x0 &&& (2305843009213693951 : Int64)) - (1 : Int64))  T147.heap r148 g148 ) (by decide) (by decide) rfl pd_5 rfl rfl rfl (Nat.le_of_eq rfl) rfl rfl (by decide) (by decide) at_329 rfl (fun T148 X148 e148 => ?_)
      refine Go.lstore X148 hx hby (Ls' := #[.val (.long x0), .second, .val (.long x2), .second, .val (.long x4), .second, .val (.long x6), .second, .val (.int x8), .val (.long (x0 &&& (2305843009213693951 : Int64))), .second, .val (.ref oo), .val (.long r148), .second, .unset, .unset, .unset, .unset, .unset, .unset, .unset, .unset, .unset, .unset, .unset, .unset, .unset, .unset]) at_332 rfl rfl ?_
      refine Go.lload X148 hx hby (v := r148) at_334 rfl rfl ?_
      refine Go.lload X148 hx hby (v := (x0 &&& (2305843009213693951 : Int64))) at_336 rfl rfl ?_
      refine Go.lcmp X148 hx hby at_338 rfl ?_
      refine Go.ifL_lt X148 hx hby (pc' := 344) at_339 (by decide) (by decide) rfl (fun hc149 => ?_) (fun hc149 => ?_)
      · replace hf := (if_pos hc149).symm.trans hf
        refine Go.aload X148 hx hby (v := .ref oo) at_344 rfl rfl rfl ?_
        refine Go.lload X148 hx hby (v := r148) at_346 rfl rfl ?_
        obtain ⟨r150, g150, hf⟩ := Option.bind_eq_some_iff.mp hf
        refine Go.callV X148 hx hby hZ (by rw [hml]; rfl) (W := 0) (argsL := [.long r148]) (rest := []) hown (hw _ (List.mem_of_getElem? (i := 34) rfl)) (hw _ (List.mem_of_getElem? (i := 35) rfl)) (hw _ (List.mem_of_getElem? (i := 37) rfl)) (hw _ (List.mem_of_getElem? (i := 36) rfl)) (hw _ (List.mem_of_getElem? (i := 3) rfl)) (hw _ (List.mem_of_getElem? (i := 38) rfl))  (Ob_B.exa F147_oo) (by decide) (rm6 l Z a0 hw oo r148 r147.1 r147.2.1 r147.2.2.1 r147.2.2.2 T147.heap n0 (Nat.le_trans Z0 K147.1) r150 g150 F147_oo (Nat.le_trans Z0 na_oo)) (by decide) (by decide) e148 pd_6 rfl rfl rfl (Nat.le_of_eq rfl) (by decide) (by decide) at_348 rfl (fun v150 T150 L150 X150 Q150 => ?_)
        obtain ⟨rfl, N150', K150', F150_oo⟩ := Q150
        have N150 := Fr.app N147 N150'
        have K150 := Keep.trans K147 K150' (allS (P := fun x => _ ∨ _) (Or.inr na_oo) all0)
        refine Go.istore X150 hx hby (Ls' := #[.val (.long x0), .second, .val (.long x2), .second, .val (.long x4), .second, .val (.long x6), .second, .val (.int x8), .val (.long (x0 &&& (2305843009213693951 : Int64))), .second, .val (.ref oo), .val (.long r148), .second, .val (.int r150.1), .unset, .unset, .unset, .unset, .unset, .unset, .unset, .unset, .unset, .unset, .unset, .unset, .unset]) at_351 rfl rfl ?_
        refine Go.aload X150 hx hby (v := .ref oo) at_353 rfl rfl rfl ?_
        obtain ⟨r151, g151, hf⟩ := Option.bind_eq_some_iff.mp hf
        refine Go.callVP X150 hx hby hZ (by rw [hml]; rfl) (W := 0) (argsL := []) (rest := []) hown (hw _ (List.mem_of_getElem? (i := 39) rfl)) (hw _ (List.mem_of_getElem? (i := 40) rfl)) (hw _ (List.mem_of_getElem? (i := 42) rfl)) (hw _ (List.mem_of_getElem? (i := 41) rfl)) (hw _ (List.mem_of_getElem? (i := 3) rfl)) (hw _ (List.mem_of_getElem? (i := 43) rfl))  (Ob_B.exa F150_oo) (by decide) (rm7 l Z a0 hw oo r150.2.1 r150.2.2.1 r150.2.2.2.1 r150.2.2.2.2 T150.heap r151 g151 F150_oo) (by decide) (by decide) rfl pd_7 rfl rfl rfl (Nat.le_of_eq rfl) rfl rfl (by decide) (by decide) at_355 rfl (fun T151 X151 e151 => ?_)
        refine Go.istore X151 hx hby (Ls' := #[.val (.long x0), .second, .val (.long x2), .second, .val (.long x4), .second, .val (.long x6), .second, .val (.int x8), .val (.long (x0 &&& (2305843009213693951 : Int64))), .second, .val (.ref oo), .val (.long r148), .second, .val (.int r150.1), .val (.int r151), .unset, .unset, .unset, .unset, .unset, .unset, .unset, .unset, .unset, .unset, .unset, .unset]) at_358 rfl rfl ?_
        refine Go.lload X151 hx hby (v := x4) at_360 rfl rfl ?_
        refine Go.lload X151 hx hby (v := (x0 &&& (2305843009213693951 : Int64))) at_362 rfl rfl ?_
        refine Go.lconst X151 hx hby (v := (1 : Int64)) at_364 rfl rfl ?_
        refine Go.lsub X151 hx hby at_365 rfl ?_
        refine Go.lload X151 hx hby (v := r148) at_366 rfl rfl ?_
        refine Go.lsub X151 hx hby at_368 rfl ?_
        obtain ⟨r152, g152, hf⟩ := Option.bind_eq_some_iff.mp hf
        refine Go.callSP X151 hx hby hZ (by rw [hml]; rfl) (W := 0) (argsL := [.long x4, .long (((x0 &&& (2305843009213693951 : Int64)) - (1 : Int64)) - r148)]) (rest := []) hown (hw _ (List.mem_of_getElem? (i := 28) rfl)) (hw _ (List.mem_of_getElem? (i := 29) rfl)) (hw _ (List.mem_of_getElem? (i := 30) rfl)) (hw _ (List.mem_of_getElem? (i := 31) rfl)) (by decide) (rm5 l Z a0 hw x4 (((x0 &&& (2305843009213693951 : Int64)) - (1 : Int64)) - r148)  T150.heap r152 g152 ) (by decide) (by decide) e151 pd_5 rfl rfl rfl (Nat.le_of_eq rfl) rfl rfl (by decide) (by decide) at_369 rfl (fun T152 X152 e152 => ?_)
        refine Go.lstore X152 hx hby (Ls' := #[.val (.long x0), .second, .val (.long x2), .second, .val (.long x4), .second, .val (.long x6), .second, .val (.int x8), .val (.long (x0 &&& (2305843009213693951 : Int64))), .second, .val (.ref oo), .val (.long r148), .second, .val (.int r150.1), .val (.int r151), .val (.long r152), .second, .unset, .unset, .unset, .unset, .unset, .unset, .unset, .unset, .unset, .unset]) at_372 rfl rfl ?_
        refine Go.lload X152 hx hby (v := r148) at_374 rfl rfl ?_
        refine Go.lload X152 hx hby (v := r152) at_376 rfl rfl ?_
        refine Go.ladd X152 hx hby at_378 rfl ?_
        refine Go.lload X152 hx hby (v := (x0 &&& (2305843009213693951 : Int64))) at_379 rfl rfl ?_
        refine Go.lcmp X152 hx hby at_381 rfl ?_
        refine Go.ifL_lt X152 hx hby (pc' := 401) at_382 (by decide) (by decide) rfl (fun hc153 => ?_) (fun hc153 => ?_)
        · replace hf := (if_pos hc153).symm.trans hf
          refine Go.aload X152 hx hby (v := .ref oo) at_401 rfl rfl rfl ?_
          refine Go.lload X152 hx hby (v := r152) at_403 rfl rfl ?_
          obtain ⟨r154, g154, hf⟩ := Option.bind_eq_some_iff.mp hf
          refine Go.callV X152 hx hby hZ (by rw [hml]; rfl) (W := 0) (argsL := [.long r152]) (rest := []) hown (hw _ (List.mem_of_getElem? (i := 34) rfl)) (hw _ (List.mem_of_getElem? (i := 35) rfl)) (hw _ (List.mem_of_getElem? (i := 37) rfl)) (hw _ (List.mem_of_getElem? (i := 36) rfl)) (hw _ (List.mem_of_getElem? (i := 3) rfl)) (hw _ (List.mem_of_getElem? (i := 38) rfl))  (Ob_B.exa F150_oo) (by decide) (rm6 l Z a0 hw oo r152 r150.2.1 r150.2.2.1 r150.2.2.2.1 r150.2.2.2.2 T150.heap n0 (Nat.le_trans Z0 K150.1) r154 g154 F150_oo (Nat.le_trans Z0 na_oo)) (by decide) (by decide) e152 pd_6 rfl rfl rfl (Nat.le_of_eq rfl) (by decide) (by decide) at_405 rfl (fun v154 T154 L154 X154 Q154 => ?_)
          obtain ⟨rfl, N154', K154', F154_oo⟩ := Q154
          have N154 := Fr.app N150 N154'
          have K154 := Keep.trans K150 K154' (allS (P := fun x => _ ∨ _) (Or.inr na_oo) all0)
          refine Go.istore X154 hx hby (Ls' := #[.val (.long x0), .second, .val (.long x2), .second, .val (.long x4), .second, .val (.long x6), .second, .val (.int x8), .val (.long (x0 &&& (2305843009213693951 : Int64))), .second, .val (.ref oo), .val (.long r148), .second, .val (.int r150.1), .val (.int r151), .val (.long r152), .second, .val (.int r154.1), .unset, .unset, .unset, .unset, .unset, .unset, .unset, .unset, .unset]) at_408 rfl rfl ?_
          refine Go.aload X154 hx hby (v := .ref oo) at_410 rfl rfl rfl ?_
          obtain ⟨r155, g155, hf⟩ := Option.bind_eq_some_iff.mp hf
          refine Go.callVP X154 hx hby hZ (by rw [hml]; rfl) (W := 0) (argsL := []) (rest := []) hown (hw _ (List.mem_of_getElem? (i := 39) rfl)) (hw _ (List.mem_of_getElem? (i := 40) rfl)) (hw _ (List.mem_of_getElem? (i := 42) rfl)) (hw _ (List.mem_of_getElem? (i := 41) rfl)) (hw _ (List.mem_of_getElem? (i := 3) rfl)) (hw _ (List.mem_of_getElem? (i := 43) rfl))  (Ob_B.exa F154_oo) (by decide) (rm7 l Z a0 hw oo r154.2.1 r154.2.2.1 r154.2.2.2.1 r154.2.2.2.2 T154.heap r155 g155 F154_oo) (by decide) (by decide) rfl pd_7 rfl rfl rfl (Nat.le_of_eq rfl) rfl rfl (by decide) (by decide) at_412 rfl (fun T155 X155 e155 => ?_)
          refine Go.istore X155 hx hby (Ls' := #[.val (.long x0), .second, .val (.long x2), .second, .val (.long x4), .second, .val (.long x6), .second, .val (.int x8), .val (.long (x0 &&& (2305843009213693951 : Int64))), .second, .val (.ref oo), .val (.long r148), .second, .val (.int r150.1), .val (.int r151), .val (.long r152), .second, .val (.int r154.1), .val (.int r155), .unset, .unset, .unset, .unset, .unset, .unset, .unset, .unset]) at_415 rfl rfl ?_
          refine Go.iload X155 hx hby (v := r150.1) at_417 rfl rfl ?_
          refine Go.if_eq X155 hx hby (pc' := 441) at_419 (by decide) (by decide) rfl (fun hc156 => ?_) (fun hc156 => ?_)
          · replace hf := (if_pos hc156).symm.trans hf
            refine Go.iconst X155 hx hby (v := (0 : Int32)) at_441 rfl rfl ?_
            exact Go.iretN X155 hx hby hlk hret (Or.inl rfl) (w' := (0 : Int32)) rfl at_442 (by decide) (by decide) ⟨congrArg (fun z => some (Value.int z)) (Option.some.inj hf), N154⟩
          · replace hf := (if_neg hc156).symm.trans hf
            refine Go.iload X155 hx hby (v := r151) at_422 rfl rfl ?_
            refine Go.if_ne X155 hx hby (pc' := 441) at_424 (by decide) (by decide) rfl (fun hc157 => ?_) (fun hc157 => ?_)
            · replace hf := (if_neg hc157).symm.trans hf
              refine Go.iconst X155 hx hby (v := (0 : Int32)) at_441 rfl rfl ?_
              exact Go.iretN X155 hx hby hlk hret (Or.inl rfl) (w' := (0 : Int32)) rfl at_442 (by decide) (by decide) ⟨congrArg (fun z => some (Value.int z)) (Option.some.inj hf), N154⟩
            · replace hf := (if_pos hc157).symm.trans hf
              refine Go.iload X155 hx hby (v := r154.1) at_427 rfl rfl ?_
              refine Go.if_eq X155 hx hby (pc' := 441) at_429 (by decide) (by decide) rfl (fun hc158 => ?_) (fun hc158 => ?_)
              · replace hf := (if_pos hc158).symm.trans hf
                refine Go.iconst X155 hx hby (v := (0 : Int32)) at_441 rfl rfl ?_
                exact Go.iretN X155 hx hby hlk hret (Or.inl rfl) (w' := (0 : Int32)) rfl at_442 (by decide) (by decide) ⟨congrArg (fun z => some (Value.int z)) (Option.some.inj hf), N154⟩
              · replace hf := (if_neg hc158).symm.trans hf
                refine Go.iload X155 hx hby (v := r155) at_432 rfl rfl ?_
                refine Go.if_ne X155 hx hby (pc' := 441) at_434 (by decide) (by decide) rfl (fun hc159 => ?_) (fun hc159 => ?_)
                · replace hf := (if_neg hc159).symm.trans hf
                  refine Go.iconst X155 hx hby (v := (0 : Int32)) at_441 rfl rfl ?_
                  exact Go.iretN X155 hx hby hlk hret (Or.inl rfl) (w' := (0 : Int32)) rfl at_442 (by decide) (by decide) ⟨congrArg (fun z => some (Value.int z)) (Option.some.inj hf), N154⟩
                · replace hf := (if_pos hc159).symm.trans hf
                  refine Go.iconst X155 hx hby (v := (1 : Int32)) at_437 rfl rfl ?_
                  refine Go.goto X155 hx hby (pc' := 442) at_438 (by decide) (by decide) ?_
                  exact Go.iretN X155 hx hby hlk hret (Or.inl rfl) (w' := (1 : Int32)) rfl at_442 (by decide) (by decide) ⟨congrArg (fun z => some (Value.int z)) (Option.some.inj hf), N154⟩
        · replace hf := (if_neg hc153).symm.trans hf
          refine Go.iload X152 hx hby (v := r150.1) at_385 rfl rfl ?_
          refine Go.if_eq X152 hx hby (pc' := 399) at_387 (by decide) (by decide) rfl (fun hc160 => ?_) (fun hc160 => ?_)
          · replace hf := (if_pos hc160).symm.trans hf
            refine Go.iconst X152 hx hby (v := (0 : Int32)) at_399 rfl rfl ?_
            exact Go.iretN X152 hx hby hlk hret (Or.inl rfl) (w' := (0 : Int32)) rfl at_400 (by decide) (by decide) ⟨congrArg (fun z => some (Value.int z)) (Option.some.inj hf), N150⟩
          · replace hf := (if_neg hc160).symm.trans hf
            refine Go.iload X152 hx hby (v := r151) at_390 rfl rfl ?_
            refine Go.if_ne X152 hx hby (pc' := 399) at_392 (by decide) (by decide) rfl (fun hc161 => ?_) (fun hc161 => ?_)
            · replace hf := (if_neg hc161).symm.trans hf
              refine Go.iconst X152 hx hby (v := (0 : Int32)) at_399 rfl rfl ?_
              exact Go.iretN X152 hx hby hlk hret (Or.inl rfl) (w' := (0 : Int32)) rfl at_400 (by decide) (by decide) ⟨congrArg (fun z => some (Value.int z)) (Option.some.inj hf), N150⟩
            · replace hf := (if_pos hc161).symm.trans hf
              refine Go.iconst X152 hx hby (v := (1 : Int32)) at_395 rfl rfl ?_
              refine Go.goto X152 hx hby (pc' := 400) at_396 (by decide) (by decide) ?_
              exact Go.iretN X152 hx hby hlk hret (Or.inl rfl) (w' := (1 : Int32)) rfl at_400 (by decide) (by decide) ⟨congrArg (fun z => some (Value.int z)) (Option.some.inj hf), N150⟩
      · replace hf := (if_neg hc149).symm.trans hf
        refine Go.iconst X148 hx hby (v := (1 : Int32)) at_342 rfl rfl ?_
        exact Go.iretN X148 hx hby hlk hret (Or.inl rfl) (w' := (1 : Int32)) rfl at_343 (by decide) (by decide) ⟨congrArg (fun z => some (Value.int z)) (Option.some.inj hf), N147⟩
    · replace hf := (if_pos hc146).symm.trans hf
      refine Go.aload X144 hx hby (v := .ref oo) at_38 rfl rfl rfl ?_
      obtain ⟨r162, g162, hf⟩ := Option.bind_eq_some_iff.mp hf
      refine Go.callV X144 hx hby hZ (by rw [hml]; rfl) (W := 0) (argsL := []) (rest := []) hown (hw _ (List.mem_of_getElem? (i := 44) rfl)) (hw _ (List.mem_of_getElem? (i := 45) rfl)) (hw _ (List.mem_of_getElem? (i := 47) rfl)) (hw _ (List.mem_of_getElem? (i := 46) rfl)) (hw _ (List.mem_of_getElem? (i := 3) rfl)) (hw _ (List.mem_of_getElem? (i := 48) rfl))  (Ob_B.exa F143_oo) (by decide) (rm8 l Z a0 hw oo r143.1 r143.2.1 r143.2.2.1 r143.2.2.2 T143.heap n0 (Nat.le_trans Z0 K143.1) r162 g162 F143_oo (Nat.le_trans Z0 na_oo)) (by decide) (by decide) e144 pd_8 rfl rfl rfl (Nat.le_of_eq rfl) (by decide) (by decide) at_40 rfl (fun v162 T162 L162 X162 Q162 => ?_)
      obtain ⟨rfl, N162', K162', F162_oo⟩ := Q162
      have N162 := Fr.app N143 N162'
      have K162 := Keep.trans K143 K162' (allS (P := fun x => _ ∨ _) (Or.inr na_oo) all0)
      refine Go.aload X162 hx hby (v := .ref oo) at_43 rfl rfl rfl ?_
      obtain ⟨r163, g163, hf⟩ := Option.bind_eq_some_iff.mp hf
      refine Go.callV X162 hx hby hZ (by rw [hml]; rfl) (W := 0) (argsL := []) (rest := []) hown (hw _ (List.mem_of_getElem? (i := 49) rfl)) (hw _ (List.mem_of_getElem? (i := 50) rfl)) (hw _ (List.mem_of_getElem? (i := 52) rfl)) (hw _ (List.mem_of_getElem? (i := 51) rfl)) (hw _ (List.mem_of_getElem? (i := 3) rfl)) (hw _ (List.mem_of_getElem? (i := 53) rfl))  (Ob_B.exa F162_oo) (by decide) (rm9 l Z a0 hw oo r162.1 r162.2.1 r162.2.2.1 r162.2.2.2 T162.heap n0 (Nat.le_trans Z0 K162.1) r163 g163 F162_oo (Nat.le_trans Z0 na_oo)) (by decide) (by decide) rfl pd_9 rfl rfl rfl (Nat.le_of_eq rfl) (by decide) (by decide) at_45 rfl (fun v163 T163 L163 X163 Q163 => ?_)
      obtain ⟨rfl, N163', K163', F163_oo⟩ := Q163
      have N163 := Fr.app N162 N163'
      have K163 := Keep.trans K162 K163' (allS (P := fun x => _ ∨ _) (Or.inr na_oo) all0)
      refine Go.lloadN X163 hx hby (v := x2) at_48 rfl rfl ?_
      refine Go.lload X163 hx hby (v := (x0 &&& (2305843009213693951 : Int64))) at_49 rfl rfl ?_
      obtain ⟨r164, g164, hf⟩ := Option.bind_eq_some_iff.mp hf
      refine Go.callSP X163 hx hby hZ (by rw [hml]; rfl) (W := 0) (argsL := [.long x2, .long (x0 &&& (2305843009213693951 : Int64))]) (rest := []) hown (hw _ (List.mem_of_getElem? (i := 28) rfl)) (hw _ (List.mem_of_getElem? (i := 29) rfl)) (hw _ (List.mem_of_getElem? (i := 30) rfl)) (hw _ (List.mem_of_getElem? (i := 31) rfl)) (by decide) (rm5 l Z a0 hw x2 (x0 &&& (2305843009213693951 : Int64))  T163.heap r164 g164 ) (by decide) (by decide) rfl pd_5 rfl rfl rfl (Nat.le_of_eq rfl) rfl rfl (by decide) (by decide) at_51 rfl (fun T164 X164 e164 => ?_)
      refine Go.lstore X164 hx hby (Ls' := #[.val (.long x0), .second, .val (.long x2), .second, .val (.long x4), .second, .val (.long x6), .second, .val (.int x8), .val (.long (x0 &&& (2305843009213693951 : Int64))), .second, .val (.ref oo), .val (.long r164), .second, .unset, .unset, .unset, .unset, .unset, .unset, .unset, .unset, .unset, .unset, .unset, .unset, .unset, .unset]) at_54 rfl rfl ?_
      refine Go.aload X164 hx hby (v := .ref oo) at_56 rfl rfl rfl ?_
      refine Go.lload X164 hx hby (v := r164) at_58 rfl rfl ?_
      obtain ⟨r165, g165, hf⟩ := Option.bind_eq_some_iff.mp hf
      refine Go.callV X164 hx hby hZ (by rw [hml]; rfl) (W := 0) (argsL := [.long r164]) (rest := []) hown (hw _ (List.mem_of_getElem? (i := 34) rfl)) (hw _ (List.mem_of_getElem? (i := 35) rfl)) (hw _ (List.mem_of_getElem? (i := 37) rfl)) (hw _ (List.mem_of_getElem? (i := 36) rfl)) (hw _ (List.mem_of_getElem? (i := 3) rfl)) (hw _ (List.mem_of_getElem? (i := 38) rfl))  (Ob_B.exa F163_oo) (by decide) (rm6 l Z a0 hw oo r164 r163.1 r163.2.1 r163.2.2.1 r163.2.2.2 T163.heap n0 (Nat.le_trans Z0 K163.1) r165 g165 F163_oo (Nat.le_trans Z0 na_oo)) (by decide) (by decide) e164 pd_6 rfl rfl rfl (Nat.le_of_eq rfl) (by decide) (by decide) at_60 rfl (fun v165 T165 L165 X165 Q165 => ?_)
      obtain ⟨rfl, N165', K165', F165_oo⟩ := Q165
      have N165 := Fr.app N163 N165'
      have K165 := Keep.trans K163 K165' (allS (P := fun x => _ ∨ _) (Or.inr na_oo) all0)
      refine Go.istore X165 hx hby (Ls' := #[.val (.long x0), .second, .val (.long x2), .second, .val (.long x4), .second, .val (.long x6), .second, .val (.int x8), .val (.long (x0 &&& (2305843009213693951 : Int64))), .second, .val (.ref oo), .val (.long r164), .second, .val (.int r165.1), .unset, .unset, .unset, .unset, .unset, .unset, .unset, .unset, .unset, .unset, .unset, .unset, .unset]) at_63 rfl rfl ?_
      refine Go.iload X165 hx hby (v := r165.1) at_65 rfl rfl ?_
      refine Go.lload X165 hx hby (v := r164) at_67 rfl rfl ?_
      refine Go.lload X165 hx hby (v := (x0 &&& (2305843009213693951 : Int64))) at_69 rfl rfl ?_
      refine Go.lcmp X165 hx hby at_71 rfl ?_
      refine Go.ifL_gt X165 hx hby (pc' := 79) at_72 (by decide) (by decide) rfl (fun hc166 => ?_) (fun hc166 => ?_)
      · replace hf := (if_pos hc166).symm.trans hf
        refine Go.iconst X165 hx hby (v := (0 : Int32)) at_79 rfl rfl ?_
        exact B80 T165 T165.heap _ X165 rfl N165 K165 oo na_oo  r165.2.1 r165.2.2.1 r165.2.2.2.1 r165.2.2.2.2 F165_oo x0 x2 x4 x6 x8 (x0 &&& (2305843009213693951 : Int64)) r164 r165.1 (0 : Int32) r165.1 hf
      · replace hf := (if_neg hc166).symm.trans hf
        refine Go.iconst X165 hx hby (v := (1 : Int32)) at_75 rfl rfl ?_
        refine Go.goto X165 hx hby (pc' := 80) at_76 (by decide) (by decide) ?_
        exact B80 T165 T165.heap _ X165 rfl N165 K165 oo na_oo  r165.2.1 r165.2.2.1 r165.2.2.2.1 r165.2.2.2.2 F165_oo x0 x2 x4 x6 x8 (x0 &&& (2305843009213693951 : Int64)) r164 r165.1 (1 : Int32) r165.1 hf
  · replace hf := (if_neg hc145).symm.trans hf
    refine Go.iconst X144 hx hby (v := (0 : Int32)) at_29 rfl rfl ?_
    exact Go.iretN X144 hx hby hlk hret (Or.inl rfl) (w' := (0 : Int32)) rfl at_30 (by decide) (by decide) ⟨congrArg (fun z => some (Value.int z)) (Option.some.inj hf), N143⟩
theorem own_mask (x : Int32) (k : Nat) (hk : k ≤ 31) (m : Int32) (hm : m = Int32.ofNat (2 ^ k - 1)) : (x &&& m).toInt = x.toInt % (2 ^ k : Nat) := by
  subst hm
  have h1 : (x &&& Int32.ofNat (2 ^ k - 1)).toBitVec.toNat = x.toBitVec.toNat % 2 ^ k := by
    rw [Int32.toBitVec_and, BitVec.toNat_and]
    have : (Int32.ofNat (2 ^ k - 1)).toBitVec.toNat = 2 ^ k - 1 := by
      show (BitVec.ofNat 32 (2 ^ k - 1)).toNat = _
      rw [BitVec.toNat_ofNat]
      apply Nat.mod_eq_of_lt
      have : 2 ^ k ≤ 2 ^ 31 := Nat.pow_le_pow_right (by decide) hk
      omega
    rw [this, Nat.and_two_pow_sub_one_eq_mod]
  have hp : 2 ^ k ≤ 2 ^ 31 := Nat.pow_le_pow_right (by decide) hk
  have hpos : 0 < 2 ^ k := Nat.two_pow_pos k
  have hlt := Nat.mod_lt x.toBitVec.toNat hpos
  show (x &&& Int32.ofNat (2 ^ k - 1)).toBitVec.toInt = x.toBitVec.toInt % _
  rw [BitVec.toInt_eq_toNat_cond, h1, if_pos (by omega), BitVec.toInt_eq_toNat_cond]
  split
  · simp
  · have hd : (2 ^ k : Nat) ∣ 2 ^ 32 := Nat.pow_dvd_pow 2 (by omega)
    obtain ⟨q, hq⟩ := hd
    rw [Int.sub_emod, show ((2 ^ 32 : Nat) : Int) % (2 ^ k : Nat) = 0 by rw [hq]; simp]
    simp
theorem own_fin32 (x : Int32) (N : Nat) (h0 : 0 ≤ x.toInt) (h1 : x.toInt < N) : ∃ n : Fin N, x = Int32.ofNat n.val := by
  refine ⟨⟨x.toInt.toNat, by omega⟩, Int32.toInt_inj.mp ?_⟩
  have := x.toInt_lt
  rw [Int32.toInt_ofNat_of_lt (by show x.toInt.toNat < _; omega)]
  show x.toInt = (x.toInt.toNat : Int); omega
theorem own_remI (x y : Int32) (hx : 0 ≤ x.toInt) (hy : 0 < y.toInt) : (remI x y).toInt = x.toInt % y.toInt := by
  have h1 := x.toInt_lt; have h2 := y.toInt_lt
  have hq : (x / y).toInt = x.toInt / y.toInt := by
    rw [Int32.toInt_div, Int.tdiv_eq_ediv_of_nonneg hx]
    have a1 : 0 ≤ x.toInt / y.toInt := Int.ediv_nonneg hx (by omega)
    have a2 : x.toInt / y.toInt ≤ x.toInt := Int.ediv_le_self _ hx
    exact Int.bmod_eq_of_le (by omega) (by omega)
  have e := Int.emod_add_mul_ediv x.toInt y.toInt
  have m0 := Int.emod_nonneg x.toInt (b := y.toInt) (by omega)
  have hm : (x / y * y).toInt = x.toInt / y.toInt * y.toInt := by
    rw [Int32.toInt_mul, hq]
    have : x.toInt / y.toInt * y.toInt = y.toInt * (x.toInt / y.toInt) := Int.mul_comm _ _
    have a1 : 0 ≤ y.toInt * (x.toInt / y.toInt) := Int.mul_nonneg (by omega) (Int.ediv_nonneg hx (by omega))
    exact Int.bmod_eq_of_le (by omega) (by omega)
  unfold remI
  rw [Int32.toInt_sub, hm]
  have : x.toInt / y.toInt * y.toInt = y.toInt * (x.toInt / y.toInt) := Int.mul_comm _ _
  have m1 := Int.emod_lt_of_pos x.toInt hy
  rw [show x.toInt - x.toInt / y.toInt * y.toInt = x.toInt % y.toInt by omega]
  exact Int.bmod_eq_of_le (by omega) (by omega)
theorem own_bm (x : Int) (n : Nat) (m : Int) (h : (2 * m).toNat = n) (hm : 0 < m) : x.bmod n = (x + m) % (2 * m) - m := by
  have hn : (n : Int) = 2 * m := by omega
  rw [Int.bmod_def, hn, show ((2 * m + 1) / 2 : Int) = m by omega]
  have h1 := Int.emod_nonneg x (b := 2 * m) (by omega)
  have h2 := Int.emod_lt_of_pos x (b := 2 * m) (by omega)
  have e := Int.emod_add_mul_ediv x (2 * m)
  generalize x / (2 * m) = q at *
  generalize x % (2 * m) = r at *
  subst e
  rw [show r + 2 * m * q + m = (r + m) + 2 * m * q by omega, Int.add_mul_emod_self_left]
  split
  · rw [Int.emod_eq_of_lt (by omega) (by omega)]; omega
  · rw [show r + m = (r - m) + 2 * m * 1 by omega, Int.add_mul_emod_self_left, Int.emod_eq_of_lt (by omega) (by omega)]; omega
theorem own_i2b (x : Int32) : (i2bF x).toInt = (x.toInt + 128) % 256 - 128 := by
  unfold i2bF; rw [Int8.toInt_toInt32, Int32.toInt_toInt8]; exact own_bm _ _ 128 rfl (by decide)
theorem own_i2s (x : Int32) : (i2sF x).toInt = (x.toInt + 32768) % 65536 - 32768 := by
  unfold i2sF; rw [Int16.toInt_toInt32, Int32.toInt_toInt16]; exact own_bm _ _ 32768 rfl (by decide)
theorem own_tonat (x : Int32) : (x.toBitVec.toNat : Int) = x.toInt % 4294967296 := by
  show _ = x.toBitVec.toInt % 4294967296
  rw [BitVec.toInt_eq_toNat_cond]
  have := x.toBitVec.isLt
  split <;> omega
theorem own_toint (x : Int32) (h : x.toBitVec.toNat < 2147483648) : x.toInt = x.toBitVec.toNat := by
  show x.toBitVec.toInt = _
  rw [BitVec.toInt_eq_toNat_cond, if_pos (by omega)]
theorem own_tonatJ (x : Int64) : (x.toBitVec.toNat : Int) = x.toInt % 18446744073709551616 := by
  show _ = x.toBitVec.toInt % 18446744073709551616
  rw [BitVec.toInt_eq_toNat_cond]
  have := x.toBitVec.isLt
  split <;> omega
theorem own_tointJ (x : Int64) (h : x.toBitVec.toNat < 9223372036854775808) : x.toInt = x.toBitVec.toNat := by
  show x.toBitVec.toInt = _
  rw [BitVec.toInt_eq_toNat_cond, if_pos (by omega)]
theorem own_i2c (x : Int32) : (i2cF x).toInt = x.toInt % 65536 := by
  have h : (i2cF x).toBitVec.toNat = x.toBitVec.toNat % 65536 := by
    show (BitVec.setWidth 32 (BitVec.setWidth 16 x.toBitVec)).toNat = _
    rw [BitVec.toNat_setWidth, BitVec.toNat_setWidth]; omega
  have := own_tonat x
  rw [own_toint _ (by omega), h]; omega
theorem own_amt : ∀ k : Fin 32, ((Int32.ofNat k.val &&& 31).toBitVec.smod 32).toNat = k.val := by decide +kernel
theorem own_amtU : ∀ k : Fin 32, ((Int32.ofNat k.val &&& 31).toUInt32.toBitVec.toNat) = k.val := by decide +kernel
theorem own_shr (x : Int32) (k : Nat) (hk : k < 32) : (shrI x (Int32.ofNat k)).toInt = x.toInt / (2 ^ k : Nat) := by
  show (BitVec.sshiftRight x.toBitVec ((Int32.ofNat k &&& 31).toBitVec.smod 32).toNat).toInt = x.toBitVec.toInt / _
  rw [own_amt ⟨k, hk⟩, BitVec.toInt_sshiftRight, Int.shiftRight_eq_div_pow]
theorem own_shl (x : Int32) (k : Nat) (hk : k < 32) : (shlI x (Int32.ofNat k)).toInt = (x.toInt * (2 ^ k : Nat)).bmod 4294967296 := by
  show (x.toBitVec <<< ((Int32.ofNat k &&& 31).toBitVec.smod 32)).toInt = (x.toBitVec.toInt * _).bmod _
  rw [BitVec.shiftLeft_eq', own_amt ⟨k, hk⟩, BitVec.toInt_shiftLeft, Nat.shiftLeft_eq, BitVec.toInt_eq_toNat_bmod]
  rw [Int.bmod_mul_bmod]
  congr 1
theorem own_ushr (x : Int32) (k : Nat) (hk : k < 32) (h0 : 0 < k) : (XT.ushr x (Int32.ofNat k)).toInt = (x.toInt % 4294967296) / (2 ^ k : Nat) := by
  have h : (XT.ushr x (Int32.ofNat k)).toBitVec.toNat = x.toBitVec.toNat / 2 ^ k := by
    show (x.toBitVec >>> ((Int32.ofNat k &&& 31).toUInt32.toBitVec % 32)).toNat = _
    rw [BitVec.ushiftRight_eq', BitVec.toNat_ushiftRight, BitVec.toNat_umod, own_amtU ⟨k, hk⟩, Nat.shiftRight_eq_div_pow]
    show _ / 2 ^ (k % 32) = _
    rw [Nat.mod_eq_of_lt hk]
  have h1 := x.toBitVec.isLt
  have h2 : x.toBitVec.toNat / 2 ^ k ≤ x.toBitVec.toNat / 2 ^ 1 := Nat.div_le_div_left (Nat.pow_le_pow_right (by decide) h0) (by decide)
  rw [own_toint _ (by omega), h, ← own_tonat]; rfl
theorem own_ushr0 (x : Int32) (k : Nat) (hk : k < 32) (h0 : 0 ≤ x.toInt) : (XT.ushr x (Int32.ofNat k)).toInt = x.toInt / (2 ^ k : Nat) := by
  have h1 := x.toInt_lt
  by_cases q : k = 0
  · subst q
    have : XT.ushr x (Int32.ofNat 0) = x := by
      apply Int32.toBitVec_inj.mp
      apply BitVec.eq_of_toNat_eq
      show (x.toBitVec >>> ((Int32.ofNat 0 &&& 31).toUInt32.toBitVec % 32)).toNat = _
      rw [BitVec.ushiftRight_eq', BitVec.toNat_ushiftRight, BitVec.toNat_umod, own_amtU ⟨0, hk⟩]; rfl
    rw [this]; simp
  · rw [own_ushr x k hk (by omega), Int.emod_eq_of_lt h0 (by omega)]
theorem own_if {c : Prop} [Decidable c] {α : Type} {a b r : α} (h1 : c → a = r) (h2 : ¬ c → b = r) : (if c then a else b) = r := by
  by_cases h : c
  · rw [if_pos h]; exact h1 h
  · rw [if_neg h]; exact h2 h
theorem own_maskJ (x : Int64) (k : Nat) (hk : k ≤ 63) (m : Int64) (hm : m = Int64.ofNat (2 ^ k - 1)) : (x &&& m).toInt = x.toInt % (2 ^ k : Nat) := by
  subst hm
  have h1 : (x &&& Int64.ofNat (2 ^ k - 1)).toBitVec.toNat = x.toBitVec.toNat % 2 ^ k := by
    rw [Int64.toBitVec_and, BitVec.toNat_and]
    have : (Int64.ofNat (2 ^ k - 1)).toBitVec.toNat = 2 ^ k - 1 := by
      show (BitVec.ofNat 64 (2 ^ k - 1)).toNat = _
      rw [BitVec.toNat_ofNat]
      apply Nat.mod_eq_of_lt
      have : 2 ^ k ≤ 2 ^ 63 := Nat.pow_le_pow_right (by decide) hk
      omega
    rw [this, Nat.and_two_pow_sub_one_eq_mod]
  have hp : 2 ^ k ≤ 2 ^ 63 := Nat.pow_le_pow_right (by decide) hk
  have hpos : 0 < 2 ^ k := Nat.two_pow_pos k
  have hlt := Nat.mod_lt x.toBitVec.toNat hpos
  show (x &&& Int64.ofNat (2 ^ k - 1)).toBitVec.toInt = x.toBitVec.toInt % _
  rw [BitVec.toInt_eq_toNat_cond, h1, if_pos (by omega), BitVec.toInt_eq_toNat_cond]
  split
  · simp
  · have hd : (2 ^ k : Nat) ∣ 2 ^ 64 := Nat.pow_dvd_pow 2 (by omega)
    obtain ⟨q, hq⟩ := hd
    rw [Int.sub_emod, show ((2 ^ 64 : Nat) : Int) % (2 ^ k : Nat) = 0 by rw [hq]; simp]
    simp
theorem own_amtJ : ∀ k : Fin 64, ((Int32.ofNat k.val).toInt64.toUInt64 &&& Int64.toUInt64 63).toBitVec.toNat = k.val := by decide +kernel
theorem own_ushrL (x : Int64) (k : Nat) (hk : k < 64) (h0 : 0 < k) : (XT.ushrL x (Int32.ofNat k)).toInt = (x.toInt % 18446744073709551616) / (2 ^ k : Nat) := by
  have h : (XT.ushrL x (Int32.ofNat k)).toBitVec.toNat = x.toBitVec.toNat / 2 ^ k := by
    show (x.toBitVec >>> (((Int32.ofNat k).toInt64.toUInt64 &&& Int64.toUInt64 63).toBitVec % 64)).toNat = _
    rw [BitVec.ushiftRight_eq', BitVec.toNat_ushiftRight, BitVec.toNat_umod, own_amtJ ⟨k, hk⟩, Nat.shiftRight_eq_div_pow]
    show _ / 2 ^ (k % 64) = _
    rw [Nat.mod_eq_of_lt hk]
  have h1 := x.toBitVec.isLt
  have h2 : x.toBitVec.toNat / 2 ^ k ≤ x.toBitVec.toNat / 2 ^ 1 := Nat.div_le_div_left (Nat.pow_le_pow_right (by decide) h0) (by decide)
  rw [own_tointJ _ (by omega), h, ← own_tonatJ]; rfl
theorem own_inR {α : Type} {A : List α} {j : Int32} (n : Nat) (hl : A.length = n) (h0 : 0 ≤ j.toInt) (h1 : j.toInt < n) : inA A j := by
  rintro (h | h)
  · rw [Int32.lt_iff_toInt_lt] at h; change j.toInt < 0 at h; omega
  · rw [hl] at h; simp only [Int32.toNatClampNeg] at h; omega

theorem own_draw (x room : Int64) (h0 : -1 ≤ room.toInt) (h1 : room.toInt ≤ 2305843009213693951) : ∃ v, f5_0 x room = some v ∧ 0 ≤ v.toInt ∧ v.toInt ≤ 2305843009213693952 := by
  have m1 := own_maskJ (XT.ushrL x 1) 61 (by decide) 2305843009213693951 rfl
  have m2 := own_maskJ (XT.ushrL x 1) 2 (by decide) 3 rfl
  unfold f5_0
  by_cases c : x &&& 1 = 0
  · rw [if_pos c]; exact ⟨_, rfl, by omega, by omega⟩
  · rw [if_neg c]
    have a1 : (room + (XT.ushrL x 1 &&& 3)).toInt = room.toInt + (XT.ushrL x 1 &&& 3).toInt := by
      rw [Int64.toInt_add]; exact Int.bmod_eq_of_le (by omega) (by omega)
    have a2 : (room + (XT.ushrL x 1 &&& 3) - 2).toInt = room.toInt + (XT.ushrL x 1 &&& 3).toInt - 2 := by
      rw [Int64.toInt_sub, a1]; exact Int.bmod_eq_of_le (by change -_ ≤ _ - (2 : Int); omega) (by change _ - (2 : Int) < _; omega)
    by_cases d : (room + (XT.ushrL x 1 &&& 3) - 2) < 0
    · rw [if_pos d]; exact ⟨_, rfl, by decide, by decide⟩
    · rw [if_neg d]
      rw [Int64.lt_iff_toInt_lt] at d
      change ¬ _ < (0 : Int) at d
      exact ⟨_, rfl, by omega, by omega⟩
theorem own_257 (L p q hb : Int64) : f0_257 L 1 1 1 1 p q L 0 (q + p) hb = some 1 := by
  unfold f0_257 f7_0
  by_cases c : q + p < L
  · rw [if_pos c, Option.bind_some, if_pos c]; rfl
  · rw [if_neg c, Option.bind_some, if_neg c]; rfl
theorem own_194 (x6 L held hb : Int64) (h0 : 0 ≤ L.toInt) (h1 : L.toInt ≤ 2305843009213693951) : f0_194 x6 L 1 held 1 1 L 0 held hb = some 1 := by
  obtain ⟨c, hc, -, -⟩ := own_draw x6 L (by omega) h1
  unfold f0_194 f9_0
  rw [Option.bind_some, hc, Option.bind_some]
  unfold f6_0
  dsimp only
  rw [if_pos rfl, Int64.sub_self, Int64.sub_zero]
  by_cases d : L < c
  · rw [if_pos d, Option.bind_some, if_pos d]
    have := own_257 L 0 held held
    rw [Int64.add_zero] at this
    exact this
  · rw [if_neg d]
    unfold f6_46
    rw [Option.bind_some, if_neg d]
    exact own_257 L c held held
theorem own_165 (x6 L p q hb : Int64) (h0 : 0 ≤ L.toInt) (h1 : L.toInt ≤ 2305843009213693951) : f0_165 x6 L 1 1 p q L 0 (q + p) hb = some 1 := by
  unfold f0_165 f7_0
  by_cases c : q + p < L
  · rw [if_pos c, Option.bind_some, if_pos c]; exact own_194 x6 L (q + p) hb h0 h1
  · rw [if_neg c, Option.bind_some, if_neg c]; exact own_194 x6 L (q + p) hb h0 h1
theorem own_101 (x4 x6 L held : Int64) (h0 : 0 ≤ L.toInt) (h1 : L.toInt ≤ 2305843009213693951) (h2 : 0 ≤ held.toInt) (h3 : held.toInt ≤ L.toInt) : f0_101 x4 x6 L 1 held L 0 held 0 = some 1 := by
  have s1 : (L - held).toInt = L.toInt - held.toInt := by
    rw [Int64.toInt_sub]; exact Int.bmod_eq_of_le (by omega) (by omega)
  obtain ⟨b, hb, b0, b1⟩ := own_draw x4 (L - held) (by omega) (by omega)
  have s2 : (held + b).toInt = held.toInt + b.toInt := by
    rw [Int64.toInt_add]; exact Int.bmod_eq_of_le (by omega) (by omega)
  unfold f0_101
  rw [hb, Option.bind_some]
  unfold f6_0
  rw [if_pos rfl, Int64.sub_zero]
  by_cases d : L - held < b
  · have d' : L < held + b := by rw [Int64.lt_iff_toInt_lt] at d ⊢; omega
    rw [if_pos d, Option.bind_some, if_pos d']
    have := own_165 x6 L 0 held 0 h0 h1
    rw [Int64.add_zero] at this
    exact this
  · have d' : ¬ L < held + b := by rw [Int64.lt_iff_toInt_lt] at d ⊢; omega
    rw [if_neg d]
    unfold f6_46
    rw [Option.bind_some, if_neg d']
    exact own_165 x6 L b held 0 h0 h1
theorem own_law (x0 : Int64) (x2 : Int64) (x4 : Int64) (x6 : Int64) (x8 : Int32) : f0_0 x0 x2 x4 x6 x8 = some 1 := by
  have m := own_maskJ x0 61 (by decide) 2305843009213693951 rfl
  unfold f0_0 f1_0 f3_0 f8_0 f4_0 f9_0
  simp only [Option.bind_some]
  rw [if_pos trivial]
  have h0 : 0 ≤ (x0 &&& 2305843009213693951).toInt := by omega
  have h1 : (x0 &&& 2305843009213693951).toInt ≤ 2305843009213693951 := by omega
  clear m
  generalize x0 &&& 2305843009213693951 = L at *
  refine own_if (fun _ => ?_) (fun _ => ?_)
  · obtain ⟨a, ha, a0, a1⟩ := own_draw x2 L (by omega) h1
    rw [ha, Option.bind_some]
    unfold f6_0
    rw [if_pos rfl, Int64.sub_self, Int64.sub_zero]
    by_cases d : L < a
    · rw [if_pos d, Option.bind_some, if_pos d]
      exact own_101 x4 x6 L 0 h0 h1 (by decide) (by change (0 : Int) ≤ _; omega)
    · rw [if_neg d]
      unfold f6_46
      rw [Option.bind_some, if_neg d, Int64.zero_add]
      rw [Int64.lt_iff_toInt_lt] at d
      exact own_101 x4 x6 L a h0 h1 a0 (by omega)
  · have s1 : (L - 1).toInt = L.toInt - 1 := by
      rw [Int64.toInt_sub]; exact Int.bmod_eq_of_le (by change -_ ≤ _ - (1 : Int); omega) (by change _ - (1 : Int) < _; omega)
    obtain ⟨a, ha, a0, a1⟩ := own_draw x2 (L - 1) (by omega) (by omega)
    rw [ha, Option.bind_some]
    refine own_if (fun d => ?_) (fun _ => rfl)
    have dI := d
    rw [Int64.lt_iff_toInt_lt] at dI
    have s2 : (L - 1 - a).toInt = L.toInt - 1 - a.toInt := by
      rw [Int64.toInt_sub, s1]; exact Int.bmod_eq_of_le (by omega) (by omega)
    obtain ⟨b, hb, b0, b1⟩ := own_draw x4 (L - 1 - a) (by omega) (by omega)
    unfold f6_0 f7_0
    simp only [Int64.sub_zero]
    rw [if_neg (by decide), if_pos d]
    unfold f6_46
    simp only [Option.bind_some, Int64.zero_add]
    rw [if_pos d, Option.bind_some, hb, Option.bind_some]
    have s3 : (a + b).toInt = a.toInt + b.toInt := by
      rw [Int64.toInt_add]; exact Int.bmod_eq_of_le (by omega) (by omega)
    have s4 : (L - a).toInt = L.toInt - a.toInt := by
      rw [Int64.toInt_sub]; exact Int.bmod_eq_of_le (by omega) (by omega)
    refine own_if (fun q => ?_) (fun _ => rfl)
    have q' : b < L - a := by rw [Int64.lt_iff_toInt_lt] at q ⊢; omega
    rw [if_neg (by decide), if_pos q', Option.bind_some, if_pos q]
    rfl

set_option maxRecDepth 65536 in
set_option maxHeartbeats 40000000 in
theorem comes_1 {Post : Tables → Env → Array Value → State → Outcome → State → Prop} (hpost : ∀ tb e args s v u, (limb_1_1.after args s (.returned v) u = true ∧ limb_1_2.after args s (.returned v) u = true ∧ True) → FrameEnd s (.returned v) u (Jvm.fieldLocs frame_1_writes args s ++ Jvm.arrayLocs frame_1_arrays args s ++ Jvm.staticLocs frame_1_statics s) 16 128 → Post tb e args s (.returned v) u) :
    ArmFor flags0 classFile x code maxLocals ret World_1 tables_1 room_1 Calls_1 rest_1 Pre_1 Post := by
  intro l hfl _ _ p e ha hc hk s m args below hf hA hF happ hP
  obtain ⟨hcalls, hrest, hpre⟩ := hP
  obtain ⟨-, -, -, hnamed, -, -, -, hat⟩ := (Spec.applies_iff hf).mp happ
  obtain ⟨hg, hn⟩ := and_e (Cond.before_iff.mp (show (Jvm.Cond.and given_1 narrow_1).before args s = true from hpre))
  obtain ⟨hcnt, q0⟩ := and_e hg
  obtain ⟨p0, q1⟩ := and_e q0
  obtain ⟨p1, q2⟩ := and_e q1
  obtain ⟨p2, q3⟩ := and_e q2
  obtain ⟨p3, q4⟩ := and_e q3
  obtain ⟨w0, w1, w2, w3, w4, rfl⟩ : ∃ w0 w1 w2 w3 w4 : Value, args = #[w0, w1, w2, w3, w4] := by
    have hs : args.size = 5 := by simpa [Cond.value, given_1] using hcnt
    obtain ⟨L⟩ := args
    match L, hs with
    | [w0, w1, w2, w3, w4], _ => exact ⟨w0, w1, w2, w3, w4, rfl⟩
  have hw := fun d (hd : d ∈ tables_1) => atoms_spec (ws := Jvm.Cond.code x code maxLocals ret :: tables_1) hat d (List.mem_cons_of_mem _ hd)
  obtain ⟨i0, c0⟩ := isL_v p0
  obtain rfl : w0 = (.long i0) := Option.some.inj c0
  obtain ⟨i1, c1⟩ := isL_v p1
  obtain rfl : w1 = (.long i1) := Option.some.inj c1
  obtain ⟨i2, c2⟩ := isL_v p2
  obtain rfl : w2 = (.long i2) := Option.some.inj c2
  obtain ⟨i3, c3⟩ := isL_v p3
  obtain rfl : w3 = (.long i3) := Option.some.inj c3
  obtain ⟨i4, c4⟩ := is_v q4
  obtain rfl : w4 = (.int i4) := Option.some.inj c4
  obtain ⟨n, o, h1, h2, h3, _, L, rfl, ⟨rfl, N⟩, hq⟩ := rm0 l s _ hw tables_1 i0 i1 i2 i3 i4 s.heap s.heap.size (Nat.le_refl _) 1 (own_law i0 i1 i2 i3 i4) p e ha hc hk s m _ below hf ((Spec.applies_iff_loose hf).mp happ).1 ⟨rfl, State.Warmed39.refl s, rfl⟩ trivial
  refine ⟨n, _, h1, h2, h3, hpost _ _ _ _ _ _ ⟨Cond.after_iff.mpr rfl, Cond.after_iff.mpr (eq_i res_at (Term.int_eval (1)) rfl), trivial⟩ ⟨hq.1, hq.2.1, (hq.2.2.sift fun y hy => Or.inr (N y hy)).mono (by decide) (by decide)⟩⟩
theorem main_1_1 : Claimed_1_1 := comes_1 fun _ _ _ _ _ _ h hF => ⟨h.1, hF⟩
theorem main_1_2 : Claimed_1_2 := comes_1 fun _ _ _ _ _ _ h hF => ⟨h.2.1, hF⟩
end Jvm.Pilot.@@N@@
namespace Jvm.Pilot.@@N@@
open Jvm Jvm.ClassFile Sem Op Lib Jvm.Free Jvm.Stand Jvm.Pilot.@@N@@.Jvm.D
/-! MADE BY PROGRAM (witnessworld.py) out of the Statement's table words and the real class files: 9 classes; the members and pool entries that the words name. The judged class is class 1, her method 2. -/
namespace start1
open Jvm.ClassFile
def u (s : String) : CpInfo := .utf8 (stringToUtf16 s)
/-- a pool by its gaps: so many unusable entries, then the entry; so many at the end -/
def gap : Nat → List CpInfo → List CpInfo
  | 0, r => r
  | n + 1, r => .unusable :: gap n r
def poolList (es : List (Nat × CpInfo)) (last : Nat) : List CpInfo := es.foldr (fun e r => gap e.1 (e.2 :: r)) (gap last [])
def pool (es : List (Nat × CpInfo)) (last : Nat) : Array CpInfo := ⟨poolList es last⟩
def fileOf (pool : Array CpInfo) (this : Nat) (attrs : Array Attribute := #[]) (ms : Array MethodInfo := #[]) (fl : Nat := 33) (sup : Nat := 0) (ifs : Array Nat := #[]) (fds : Array FieldInfo := #[]) : ClassFile where
  minorVersion := 0
  majorVersion := 65
  constantPool := pool
  accessFlags := fl
  thisClass := this
  superClass := sup
  interfaces := ifs
  fields := fds
  methods := ms
  attributes := attrs
def plain (name : String) (sup : Option ClassId) : Class where
  name := name
  kind := .ordinary
  loader := none
  accessFlags := 33
  super := sup
  interfaces := #[]
  cf := none
  fields := #[]
  methods := #[]
  instanceTypes := #[]
  staticTypes := #[]
  resolved := #[]
  callSites := []
  init := .initialized
  statics := none
  mirror := none

def pool0 : Array CpInfo := pool [(5, u "<init>"), (0, u "()V"), (1, .class_ 10), (1, u "java/lang/Object")] 113

def k0c0 : Code := { maxStack := 0, maxLocals := 1, code := object_method_1_code, exceptionTable := #[], attributes := #[] }
def k0m0 : Method := { name := "<init>", desc := "()V", sig := { parameters := [], returnType := none }, accessFlags := 1, code := some k0c0 }
/-- java/lang/Object -/
def k0 : Class := { plain "java/lang/Object" none with
  accessFlags := 33
  interfaces := #[]
  cf := some (fileOf pool0 8 #[] #[{ accessFlags := 1, nameIndex := 5, descriptorIndex := 6, attributes := #[] }] 33 0 #[] #[])
  fields := #[]
  methods := #[k0m0]
  instanceTypes := #[]
  staticTypes := #[]
  resolved := Array.replicate 124 none
  statics := none }

def pool1 : Array CpInfo := pool [(2, .class_ 4), (1, u "java/lang/Object"), (0, u "<init>"), (0, u "()V"), (0, .class_ 8), (0, u "com/example/stripewright/stripewright/NestedValueBudgetTakePinLaw"), (0, .long 2305843009213693951), (1, .long 3), (1, .long 2), (1, .class_ 16), (0, u "com/example/stripewright/stripewright/NestedValueBudget"), (0, .methodref 15 18), (0, .nameAndType 5 19), (0, u "(J)V"), (0, .methodref 15 21), (0, .nameAndType 22 23), (0, u "limit"), (0, u "()J"), (0, .methodref 15 25), (0, .nameAndType 26 6), (0, u "startBatchByRow"), (0, .methodref 15 28), (0, .nameAndType 29 6), (0, u "startRow"), (0, .methodref 7 31), (0, .nameAndType 32 33), (0, u "draw"), (0, u "(JJ)J"), (0, .methodref 15 35), (0, .nameAndType 36 37), (0, u "take"), (0, u "(J)Z"), (0, .methodref 15 39), (0, .nameAndType 40 41), (0, u "isSpent"), (0, u "()Z"), (0, .methodref 15 43), (0, .nameAndType 44 6), (0, u "startWholeBatch"), (0, u "M"), (0, u "J"), (4, u "law"), (0, u "(JJJJI)Z")] 2

def k1m0 : Method := { name := "<init>", desc := "()V", sig := { parameters := [], returnType := none }, accessFlags := 1, code := none }
def k1c1 : Code := { maxStack := 6, maxLocals := 6, code := method_2_code, exceptionTable := #[], attributes := #[] }
def k1m1 : Method := { name := "draw", desc := "(JJ)J", sig := { parameters := [.long, .long], returnType := some .long }, accessFlags := 10, code := some k1c1 }
def k1c2 : Code := { maxStack := 6, maxLocals := 28, code := code, exceptionTable := #[], attributes := #[] }
def k1m2 : Method := { name := "law", desc := "(JJJJI)Z", sig := { parameters := [.long, .long, .long, .long, .int], returnType := some .boolean }, accessFlags := 9, code := some k1c2 }
/-- com/example/stripewright/stripewright/NestedValueBudgetTakePinLaw -/
def k1 : Class := { plain "com/example/stripewright/stripewright/NestedValueBudgetTakePinLaw" (some 0) with
  accessFlags := 49
  interfaces := #[]
  cf := some (fileOf pool1 7 #[] #[{ accessFlags := 1, nameIndex := 5, descriptorIndex := 6, attributes := #[] }, { accessFlags := 10, nameIndex := 32, descriptorIndex := 33, attributes := #[] }, { accessFlags := 9, nameIndex := 51, descriptorIndex := 52, attributes := #[] }] 49 2 #[] #[{ accessFlags := 26, nameIndex := 45, descriptorIndex := 46, attributes := #[] }])
  fields := #[{ name := "M", type := .long, accessFlags := 26, slot := 0, constantValue := 0 }]
  methods := #[k1m0, k1m1, k1m2]
  instanceTypes := #[]
  staticTypes := #[.long]
  resolved := Array.replicate 55 none
  statics := none }

def pool2 : Array CpInfo := pool [(1, .methodref 2 3), (0, .class_ 4), (0, .nameAndType 5 6), (0, u "java/lang/Object"), (0, u "<init>"), (0, u "()V"), (0, .fieldref 8 9), (0, .class_ 10), (0, .nameAndType 11 12), (0, u "com/example/stripewright/stripewright/NestedValueBudget"), (0, u "limit"), (0, u "J"), (0, .fieldref 8 14), (0, .nameAndType 15 16), (0, u "wholeBatch"), (0, u "Z"), (0, .fieldref 8 18), (0, .nameAndType 19 12), (0, u "held"), (0, .fieldref 8 21), (0, .nameAndType 22 12), (0, u "heldBeforeRow"), (2, u "OVERDRAWN"), (0, u "Lcom/example/stripewright/stripewright/NestedValueBudget$Overdrawn;"), (0, .class_ 28), (0, u "com/example/stripewright/stripewright/NestedValueBudget$Overdrawn"), (1, u "(J)V"), (2, u "()J"), (0, u "startWholeBatch"), (0, u "startBatchByRow"), (0, u "startRow"), (0, u "isSpent"), (0, u "()Z"), (1, u "take"), (0, u "(J)Z")] 6

def k2c0 : Code := { maxStack := 3, maxLocals := 3, code := prog_27_method_1_code, exceptionTable := #[], attributes := #[] }
def k2m0 : Method := { name := "<init>", desc := "(J)V", sig := { parameters := [.long], returnType := none }, accessFlags := 0, code := some k2c0 }
def k2c1 : Code := { maxStack := 2, maxLocals := 1, code := prog_27_method_2_code, exceptionTable := #[], attributes := #[] }
def k2m1 : Method := { name := "limit", desc := "()J", sig := { parameters := [], returnType := some .long }, accessFlags := 0, code := some k2c1 }
def k2c2 : Code := { maxStack := 3, maxLocals := 1, code := prog_27_method_3_code, exceptionTable := #[], attributes := #[] }
def k2m2 : Method := { name := "startWholeBatch", desc := "()V", sig := { parameters := [], returnType := none }, accessFlags := 0, code := some k2c2 }
def k2c3 : Code := { maxStack := 3, maxLocals := 1, code := prog_27_method_4_code, exceptionTable := #[], attributes := #[] }
def k2m3 : Method := { name := "startBatchByRow", desc := "()V", sig := { parameters := [], returnType := none }, accessFlags := 0, code := some k2c3 }
def k2c4 : Code := { maxStack := 3, maxLocals := 1, code := prog_27_method_5_code, exceptionTable := #[], attributes := #[] }
def k2m4 : Method := { name := "startRow", desc := "()V", sig := { parameters := [], returnType := none }, accessFlags := 0, code := some k2c4 }
def k2c5 : Code := { maxStack := 4, maxLocals := 1, code := prog_27_method_6_code, exceptionTable := #[], attributes := #[] }
def k2m5 : Method := { name := "isSpent", desc := "()Z", sig := { parameters := [], returnType := some .boolean }, accessFlags := 0, code := some k2c5 }
def k2c6 : Code := { maxStack := 8, maxLocals := 3, code := prog_27_method_7_code, exceptionTable := #[], attributes := #[] }
def k2m6 : Method := { name := "take", desc := "(J)Z", sig := { parameters := [.long], returnType := some .boolean }, accessFlags := 0, code := some k2c6 }
/-- com/example/stripewright/stripewright/NestedValueBudget -/
def k2 : Class := { plain "com/example/stripewright/stripewright/NestedValueBudget" (some 0) with
  accessFlags := 48
  interfaces := #[]
  cf := some (fileOf pool2 8 #[.nestMembers #[27]] #[{ accessFlags := 0, nameIndex := 5, descriptorIndex := 30, attributes := #[] }, { accessFlags := 0, nameIndex := 11, descriptorIndex := 33, attributes := #[] }, { accessFlags := 0, nameIndex := 34, descriptorIndex := 6, attributes := #[] }, { accessFlags := 0, nameIndex := 35, descriptorIndex := 6, attributes := #[] }, { accessFlags := 0, nameIndex := 36, descriptorIndex := 6, attributes := #[] }, { accessFlags := 0, nameIndex := 37, descriptorIndex := 38, attributes := #[] }, { accessFlags := 0, nameIndex := 40, descriptorIndex := 41, attributes := #[] }] 48 2 #[] #[{ accessFlags := 26, nameIndex := 25, descriptorIndex := 26, attributes := #[] }, { accessFlags := 18, nameIndex := 11, descriptorIndex := 12, attributes := #[] }, { accessFlags := 2, nameIndex := 15, descriptorIndex := 16, attributes := #[] }, { accessFlags := 2, nameIndex := 19, descriptorIndex := 12, attributes := #[] }, { accessFlags := 2, nameIndex := 22, descriptorIndex := 12, attributes := #[] }])
  fields := #[{ name := "OVERDRAWN", type := (.object "com/example/stripewright/stripewright/NestedValueBudget$Overdrawn"), accessFlags := 26, slot := 0, constantValue := 0 }, { name := "limit", type := .long, accessFlags := 18, slot := 0, constantValue := 0 }, { name := "wholeBatch", type := .boolean, accessFlags := 2, slot := 1, constantValue := 0 }, { name := "held", type := .long, accessFlags := 2, slot := 2, constantValue := 0 }, { name := "heldBeforeRow", type := .long, accessFlags := 2, slot := 3, constantValue := 0 }]
  methods := #[k2m0, k2m1, k2m2, k2m3, k2m4, k2m5, k2m6]
  instanceTypes := #[.long, .boolean, .long, .long]
  staticTypes := #[(.object "com/example/stripewright/stripewright/NestedValueBudget$Overdrawn")]
  resolved := Array.replicate 48 none
  statics := none }

def pool3 : Array CpInfo := pool [(1, u "java/lang/Cloneable"), (0, .class_ 1), (0, u "java/lang/Object"), (0, .class_ 3)] 3

/-- java/lang/Cloneable -/
def k3 : Class := { plain "java/lang/Cloneable" (some 0) with
  accessFlags := 1537
  interfaces := #[]
  cf := some (fileOf pool3 2 #[] #[] 1537 4 #[] #[])
  fields := #[]
  methods := #[]
  instanceTypes := #[]
  staticTypes := #[]
  resolved := Array.replicate 8 none
  statics := none }

def pool4 : Array CpInfo := pool [(1, u "java/io/Serializable"), (0, .class_ 1), (0, u "java/lang/Object"), (0, .class_ 3)] 3

/-- java/io/Serializable -/
def k4 : Class := { plain "java/io/Serializable" (some 0) with
  accessFlags := 1537
  interfaces := #[]
  cf := some (fileOf pool4 2 #[] #[] 1537 4 #[] #[])
  fields := #[]
  methods := #[]
  instanceTypes := #[]
  staticTypes := #[]
  resolved := Array.replicate 8 none
  statics := none }

/-- the primitive byte -/
def k5 : Class := { plain "byte" none with kind := .primitive 'B', accessFlags := 0x411 }
/-- [B -/
def k6 : Class := { plain "[B" (some 0) with kind := .array 5 .byte, interfaces := #[3, 4], accessFlags := 1041 }

/-- the primitive int -/
def k7 : Class := { plain "int" none with kind := .primitive 'I', accessFlags := 0x411 }
/-- [I -/
def k8 : Class := { plain "[I" (some 0) with kind := .array 7 .int, interfaces := #[3, 4], accessFlags := 1041 }

def heap : Heap := #[]
def classes : Array Class := #[k0, k1, k2, k3, k4, k5, k6, k7, k8]
def interned : List (Array UInt16 × Addr) := []
def slotsUsed : Nat := 0
def theMethod : MethodId := ⟨1, 2⟩
def args0 : Array Value := #[.long 5, .long 5, .long 5, .long 5, .int 5]
def aboutOver (below : List Frame) : State where
  vm := { classes := classes, interned := interned.toArray }
  heap := heap
  slotsUsed := slotsUsed
  threads := #[{ frames := .invoking theMethod args0 :: below }]
def below0 : List Frame := [.native { method := ⟨0, 0⟩, args := #[] }]
def about1 : State := aboutOver below0
def p0 : Program := .bare "" "" ""
def e0 : Env := launch0.env 0 0 0
theorem w_frames : about1.frames = Frame.invoking theMethod args0 :: below0 := rfl
set_option maxRecDepth 65536 in
theorem w_args : argsFit about1.vm theMethod args0 = true := by decide +kernel
set_option maxRecDepth 65536 in
theorem w_heap : heapFits about1 = true := by decide +kernel
set_option maxRecDepth 65536 in
theorem w_runnable : about1.curStatus? = some .runnable := by decide +kernel
set_option maxRecDepth 65536 in
theorem w_alone : about1.alone = true := by decide +kernel
set_option maxRecDepth 65536 in
theorem w_named : about1.methodNamed? x = some theMethod := by decide +kernel
set_option maxRecDepth 65536 in
theorem w_hears : about1.hears theMethod below0 = true := by decide +kernel
set_option maxRecDepth 65536 in
theorem w_ripe : about1.ripe theMethod args0 below0 = true := by decide +kernel
theorem w_running : about1.status = .running := rfl
set_option maxRecDepth 65536 in
theorem w_room : about1.hasRoom e0.platform room_1 = true :=
  launch0.hasRoom_least _ room_1 (by decide +kernel) (by decide +kernel) (by decide +kernel) (by decide +kernel) (by decide +kernel) (by decide +kernel)
theorem allAtoms_all (ts : List Jvm.Cond) (a : Array Jvm.Value) (st : Jvm.State) : (allAtoms ts).before a st = ts.all (fun c => c.before a st) := by
  induction ts with
  | nil => rfl
  | cons c t ih =>
    show (Jvm.Cond.and c (allAtoms t)).before a st = _
    rw [Jvm.Cond.before_and, ih, List.all_cons]
def words1 : List Jvm.Cond := Jvm.Cond.code x code maxLocals ret :: tables_1
/-- a 'code' word, met by the world's own term for the bytes: nothing is compared byte by byte -/
theorem code_word {y : MethodName} {bytes : ByteArray} {mx : Nat} {rt : Option FieldType} {a : Array Value} {s : State} {m : MethodId} {meth : Method} {c : Code} (h1 : s.methodNamed? y = some m) (h2 : s.vm.method? m = some meth) (h3 : meth.code = some c) (h4 : c.code = bytes)
    (h5 : (c.maxLocals == mx && c.exceptionTable.isEmpty && decide (c.maxStack ≤ mostOperands) && decide (meth.sig.returnType = rt) && !meth.locks && decide (parseMethodDescriptor y.desc = some meth.sig)) = true) : (Jvm.Cond.code y bytes mx rt).before a s = true := by
  simp only [Bool.and_eq_true, beq_iff_eq, Bool.not_eq_true', decide_eq_true_eq] at h5
  obtain ⟨⟨⟨⟨⟨g1, g2⟩, g3⟩, g4⟩, g5⟩, g6⟩ := h5
  simp [Cond.before, Cond.holds, Cond.value, h1, h2, h3, h4, g1, g2, g3, g4, g5, g6]
def isCode : Jvm.Cond → Bool
  | .code _ _ _ _ => true
  | _ => false
theorem all_split {L : List Jvm.Cond} {P : Jvm.Cond → Bool} (h1 : L.all (fun c => isCode c || P c) = true) (h2 : ∀ c ∈ L.filter isCode, P c = true) : L.all P = true := by
  refine List.all_eq_true.mpr fun c hc => ?_
  have h := List.all_eq_true.mp h1 c hc
  rcases Bool.eq_false_or_eq_true (isCode c) with hi | hi
  · exact h2 c (List.mem_filter.mpr ⟨hc, hi⟩)
  · simpa [hi] using h
set_option maxRecDepth 65536 in
theorem w_c0 : (Jvm.Cond.code x code maxLocals ret).before args0 about1 = true := code_word (m := ⟨1, 2⟩) (meth := k1m2) (c := k1c2) (by decide +kernel) rfl rfl rfl (by decide +kernel)
set_option maxRecDepth 65536 in
theorem w_c1 : (Jvm.Cond.code ({ cls := "com/example/stripewright/stripewright/NestedValueBudget", name := "<init>", desc := "(J)V" } : Jvm.MethodName) prog_27_method_1_code (3 : Nat) (Option.none : Option Jvm.ClassFile.FieldType)).before args0 about1 = true := code_word (m := ⟨2, 0⟩) (meth := k2m0) (c := k2c0) (by decide +kernel) rfl rfl rfl (by decide +kernel)
set_option maxRecDepth 65536 in
theorem w_c2 : (Jvm.Cond.code ({ cls := "java/lang/Object", name := "<init>", desc := "()V" } : Jvm.MethodName) object_method_1_code (1 : Nat) (Option.none : Option Jvm.ClassFile.FieldType)).before args0 about1 = true := code_word (m := ⟨0, 0⟩) (meth := k0m0) (c := k0c0) (by decide +kernel) rfl rfl rfl (by decide +kernel)
set_option maxRecDepth 65536 in
theorem w_c3 : (Jvm.Cond.code ({ cls := "com/example/stripewright/stripewright/NestedValueBudget", name := "limit", desc := "()J" } : Jvm.MethodName) prog_27_method_2_code (1 : Nat) (Option.some Jvm.ClassFile.FieldType.long)).before args0 about1 = true := code_word (m := ⟨2, 1⟩) (meth := k2m1) (c := k2c1) (by decide +kernel) rfl rfl rfl (by decide +kernel)
set_option maxRecDepth 65536 in
theorem w_c4 : (Jvm.Cond.code ({ cls := "com/example/stripewright/stripewright/NestedValueBudget", name := "startWholeBatch", desc := "()V" } : Jvm.MethodName) prog_27_method_3_code (1 : Nat) (Option.none : Option Jvm.ClassFile.FieldType)).before args0 about1 = true := code_word (m := ⟨2, 2⟩) (meth := k2m2) (c := k2c2) (by decide +kernel) rfl rfl rfl (by decide +kernel)
set_option maxRecDepth 65536 in
theorem w_c5 : (Jvm.Cond.code ({ cls := "com/example/stripewright/stripewright/NestedValueBudgetTakePinLaw", name := "draw", desc := "(JJ)J" } : Jvm.MethodName) method_2_code (6 : Nat) (Option.some Jvm.ClassFile.FieldType.long)).before args0 about1 = true := code_word (m := ⟨1, 1⟩) (meth := k1m1) (c := k1c1) (by decide +kernel) rfl rfl rfl (by decide +kernel)
set_option maxRecDepth 65536 in
theorem w_c6 : (Jvm.Cond.code ({ cls := "com/example/stripewright/stripewright/NestedValueBudget", name := "take", desc := "(J)Z" } : Jvm.MethodName) prog_27_method_7_code (3 : Nat) (Option.some Jvm.ClassFile.FieldType.boolean)).before args0 about1 = true := code_word (m := ⟨2, 6⟩) (meth := k2m6) (c := k2c6) (by decide +kernel) rfl rfl rfl (by decide +kernel)
set_option maxRecDepth 65536 in
theorem w_c7 : (Jvm.Cond.code ({ cls := "com/example/stripewright/stripewright/NestedValueBudget", name := "isSpent", desc := "()Z" } : Jvm.MethodName) prog_27_method_6_code (1 : Nat) (Option.some Jvm.ClassFile.FieldType.boolean)).before args0 about1 = true := code_word (m := ⟨2, 5⟩) (meth := k2m5) (c := k2c5) (by decide +kernel) rfl rfl rfl (by decide +kernel)
set_option maxRecDepth 65536 in
theorem w_c8 : (Jvm.Cond.code ({ cls := "com/example/stripewright/stripewright/NestedValueBudget", name := "startBatchByRow", desc := "()V" } : Jvm.MethodName) prog_27_method_4_code (1 : Nat) (Option.none : Option Jvm.ClassFile.FieldType)).before args0 about1 = true := code_word (m := ⟨2, 3⟩) (meth := k2m3) (c := k2c3) (by decide +kernel) rfl rfl rfl (by decide +kernel)
set_option maxRecDepth 65536 in
theorem w_c9 : (Jvm.Cond.code ({ cls := "com/example/stripewright/stripewright/NestedValueBudget", name := "startRow", desc := "()V" } : Jvm.MethodName) prog_27_method_5_code (1 : Nat) (Option.none : Option Jvm.ClassFile.FieldType)).before args0 about1 = true := code_word (m := ⟨2, 4⟩) (meth := k2m4) (c := k2c4) (by decide +kernel) rfl rfl rfl (by decide +kernel)
def codes1 : List Jvm.Cond := [Jvm.Cond.code x code maxLocals ret, Jvm.Cond.code ({ cls := "com/example/stripewright/stripewright/NestedValueBudget", name := "<init>", desc := "(J)V" } : Jvm.MethodName) prog_27_method_1_code (3 : Nat) (Option.none : Option Jvm.ClassFile.FieldType), Jvm.Cond.code ({ cls := "java/lang/Object", name := "<init>", desc := "()V" } : Jvm.MethodName) object_method_1_code (1 : Nat) (Option.none : Option Jvm.ClassFile.FieldType), Jvm.Cond.code ({ cls := "com/example/stripewright/stripewright/NestedValueBudget", name := "limit", desc := "()J" } : Jvm.MethodName) prog_27_method_2_code (1 : Nat) (Option.some Jvm.ClassFile.FieldType.long), Jvm.Cond.code ({ cls := "com/example/stripewright/stripewright/NestedValueBudget", name := "startWholeBatch", desc := "()V" } : Jvm.MethodName) prog_27_method_3_code (1 : Nat) (Option.none : Option Jvm.ClassFile.FieldType), Jvm.Cond.code ({ cls := "com/example/stripewright/stripewright/NestedValueBudgetTakePinLaw", name := "draw", desc := "(JJ)J" } : Jvm.MethodName) method_2_code (6 : Nat) (Option.some Jvm.ClassFile.FieldType.long), Jvm.Cond.code ({ cls := "com/example/stripewright/stripewright/NestedValueBudget", name := "take", desc := "(J)Z" } : Jvm.MethodName) prog_27_method_7_code (3 : Nat) (Option.some Jvm.ClassFile.FieldType.boolean), Jvm.Cond.code ({ cls := "com/example/stripewright/stripewright/NestedValueBudget", name := "isSpent", desc := "()Z" } : Jvm.MethodName) prog_27_method_6_code (1 : Nat) (Option.some Jvm.ClassFile.FieldType.boolean), Jvm.Cond.code ({ cls := "com/example/stripewright/stripewright/NestedValueBudget", name := "startBatchByRow", desc := "()V" } : Jvm.MethodName) prog_27_method_4_code (1 : Nat) (Option.none : Option Jvm.ClassFile.FieldType), Jvm.Cond.code ({ cls := "com/example/stripewright/stripewright/NestedValueBudget", name := "startRow", desc := "()V" } : Jvm.MethodName) prog_27_method_5_code (1 : Nat) (Option.none : Option Jvm.ClassFile.FieldType)]
set_option maxRecDepth 65536 in
theorem codes_eq : words1.filter isCode = codes1 := rfl
theorem w_codes : ∀ c ∈ words1.filter isCode, c.before args0 about1 = true := by
  rw [codes_eq]
  intro c hc
  simp only [codes1, List.mem_cons, List.not_mem_nil, or_false] at hc
  rcases hc with rfl | rfl | rfl | rfl | rfl | rfl | rfl | rfl | rfl | rfl
  · exact w_c0
  · exact w_c1
  · exact w_c2
  · exact w_c3
  · exact w_c4
  · exact w_c5
  · exact w_c6
  · exact w_c7
  · exact w_c8
  · exact w_c9
set_option maxRecDepth 65536 in
theorem w_t1 : (words1.take 24).all (fun c => isCode c || c.before args0 about1) = true := by decide +kernel
set_option maxRecDepth 65536 in
theorem w_t2 : ((words1.drop 24).take 24).all (fun c => isCode c || c.before args0 about1) = true := by decide +kernel
set_option maxRecDepth 65536 in
theorem w_t3 : ((words1.drop 24).drop 24).all (fun c => isCode c || c.before args0 about1) = true := by decide +kernel
theorem w_tables : (allAtoms (Jvm.Cond.code x code maxLocals ret :: tables_1)).before args0 about1 = true := by
  rw [allAtoms_all]
  show words1.all (fun c => c.before args0 about1) = true
  refine all_split ?_ w_codes
  rw [← List.take_append_drop 24 words1, List.all_append, w_t1, ← List.take_append_drop 24 (words1.drop 24), List.all_append, w_t2, w_t3]
  rfl
set_option maxRecDepth 65536 in
theorem w_case : (Jvm.Cond.and given_1 narrow_1).before args0 about1 = true := by decide +kernel
theorem w_applies : (headSpec (Jvm.Cond.code x code maxLocals ret :: tables_1) room_1).applies x e0.platform about1 = true :=
  (Spec.applies_iff w_frames).mpr ⟨w_running, w_runnable, w_alone, w_named, w_hears, w_ripe, w_room, w_tables⟩
theorem atStart : AtStart classFile x code maxLocals ret World_1 tables_1 room_1 Calls_1 rest_1 Pre_1 launch0 p0 e0 about1 theMethod args0 below0 :=
  ⟨lists_1, trivial, launch0.admits_env _ _ _, launch0.least_env, fairChoices_fair.cas, fairChoices_fair.clock, w_frames, w_args, w_heap, w_applies, trivial, trivial, w_case⟩
end start1
theorem witness_1 : WitnessClaimed_1 := ⟨start1.p0, start1.e0, start1.about1, start1.theMethod, start1.args0, start1.below0, start1.atStart⟩
end Jvm.Pilot.@@N@@
