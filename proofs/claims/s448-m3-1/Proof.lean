import JvmDerived
import JvmDerived.Pilot.@@N@@Statement
import JvmDerived.Pilot.@@N@@Code
set_option linter.unusedVariables false
set_option linter.unusedSimpArgs false
namespace Jvm.Pilot.@@N@@
open Jvm Jvm.ClassFile Sem Op Lib Jvm.Free Jvm.Stand Jvm.LawKit Jvm.RoadKit Bundle Jvm.Pilot.@@N@@.Jvm.D
section OwnKit
variable {p : Program} {l : Launch} {e : Env} {R : Room} {s : State} {m : MethodId} {args : Array Value} {below : List Frame} {meth : Method} {c : Code} {T : State} {locs : List Loc} {cells slots : Nat} {Z : State} {a0 : Array Value} {h : Heap} {K N : Nat} {Q : Option Value → Heap → List Loc → Prop} {pc nx tg : Nat} {Ls : Array Slot} {st : List Value} {bs : ByteArray} {o : Int}
/-- from the frame g at T the run ends, returning, as Q says -/
def Wp (p : Program) (e : Env) (below : List Frame) (s : State) (K N : Nat) (Q : Option Value → Heap → List Loc → Prop) (T : State) (g : JFrame) : Prop :=
  ∃ s₂ o, Steps p.tables e below (T.setTop g) s₂ ∧ s₂.status = .running ∧ Ended s₂ below o ∧ ∃ v L, o = .returned v ∧ Q v s₂.heap L ∧ FrameEnd s o s₂ L K N
theorem Wp.go {T' : State} {g g' : JFrame} (st : ∀ target, Steps p.tables e below (T'.setTop g') target → Steps p.tables e below (T.setTop g) target) (k : Wp p e below s K N Q T' g') : Wp p e below s K N Q T g := by
  obtain ⟨s₂, o, h1, h2⟩ := k; exact ⟨s₂, o, st _ h1, h2⟩
theorem Wp.tr {T' : State} {g g' : JFrame} (st : Steps p.tables e below (T.setTop g) (T'.setTop g')) (k : Wp p e below s K N Q T' g') : Wp p e below s K N Q T g := by
  obtain ⟨s₂, o, h1, h2⟩ := k; exact ⟨s₂, o, st.trans h1, h2⟩
/-- the instruction i, len bytes long, stands at pc; the next one at nx -/
def In (bs : ByteArray) (pc : Nat) (i : Instr) (len nx : Nat) : Prop := decode bs pc = .ok (i, len) ∧ pc + len = nx
/-- a jump by o: the next one at nx, the target at tg -/
def Jm (bs : ByteArray) (pc : Nat) (i : Instr) (o : Int) (nx tg : Nat) : Prop := decode bs pc = .ok (i, 3) ∧ pc + 3 = nx ∧ 0 ≤ (pc : Int) + o ∧ ((pc : Int) + o).toNat = tg

theorem w_iadd (X : Stand p l e R s m args below meth c T locs cells slots) (hx : p.tables.exec = Jvm.exec) (hby : c.code = bs) {x y : Int32} (hd : In bs pc (.iadd) 1 nx) (k : Wp p e below s K N Q T (mkF m nx Ls (.int (x + y) :: st))) : Wp p e below s K N Q T (mkF m pc Ls (.int y :: .int x :: st)) := by
  obtain ⟨d, rfl⟩ := hd; exact Wp.go (fun t kk => XS.iadd X.here hx rfl (hb hby d) rfl kk) k
theorem w_isub (X : Stand p l e R s m args below meth c T locs cells slots) (hx : p.tables.exec = Jvm.exec) (hby : c.code = bs) {x y : Int32} (hd : In bs pc (.isub) 1 nx) (k : Wp p e below s K N Q T (mkF m nx Ls (.int (x - y) :: st))) : Wp p e below s K N Q T (mkF m pc Ls (.int y :: .int x :: st)) := by
  obtain ⟨d, rfl⟩ := hd; exact Wp.go (fun t kk => XS.isub X.here hx rfl (hb hby d) rfl kk) k
theorem w_iand (X : Stand p l e R s m args below meth c T locs cells slots) (hx : p.tables.exec = Jvm.exec) (hby : c.code = bs) {x y : Int32} (hd : In bs pc (.iand) 1 nx) (k : Wp p e below s K N Q T (mkF m nx Ls (.int (x &&& y) :: st))) : Wp p e below s K N Q T (mkF m pc Ls (.int y :: .int x :: st)) := by
  obtain ⟨d, rfl⟩ := hd; exact Wp.go (fun t kk => XS.iand X.here hx rfl (hb hby d) rfl kk) k
theorem w_imul (X : Stand p l e R s m args below meth c T locs cells slots) (hx : p.tables.exec = Jvm.exec) (hby : c.code = bs) {x y : Int32} (hd : In bs pc (.imul) 1 nx) (k : Wp p e below s K N Q T (mkF m nx Ls (.int (x * y) :: st))) : Wp p e below s K N Q T (mkF m pc Ls (.int y :: .int x :: st)) := by
  obtain ⟨d, rfl⟩ := hd; exact Wp.go (fun t kk => XS.imul X.here hx rfl (hb hby d) rfl kk) k
theorem w_ior (X : Stand p l e R s m args below meth c T locs cells slots) (hx : p.tables.exec = Jvm.exec) (hby : c.code = bs) {x y : Int32} (hd : In bs pc (.ior) 1 nx) (k : Wp p e below s K N Q T (mkF m nx Ls (.int (x ||| y) :: st))) : Wp p e below s K N Q T (mkF m pc Ls (.int y :: .int x :: st)) := by
  obtain ⟨d, rfl⟩ := hd; exact Wp.go (fun t kk => XS.ior X.here hx rfl (hb hby d) rfl kk) k
theorem w_ixor (X : Stand p l e R s m args below meth c T locs cells slots) (hx : p.tables.exec = Jvm.exec) (hby : c.code = bs) {x y : Int32} (hd : In bs pc (.ixor) 1 nx) (k : Wp p e below s K N Q T (mkF m nx Ls (.int (x ^^^ y) :: st))) : Wp p e below s K N Q T (mkF m pc Ls (.int y :: .int x :: st)) := by
  obtain ⟨d, rfl⟩ := hd; exact Wp.go (fun t kk => XS.ixor X.here hx rfl (hb hby d) rfl kk) k
theorem w_ishl (X : Stand p l e R s m args below meth c T locs cells slots) (hx : p.tables.exec = Jvm.exec) (hby : c.code = bs) {x y : Int32} (hd : In bs pc (.ishl) 1 nx) (k : Wp p e below s K N Q T (mkF m nx Ls (.int (x <<< (y &&& 31)) :: st))) : Wp p e below s K N Q T (mkF m pc Ls (.int y :: .int x :: st)) := by
  obtain ⟨d, rfl⟩ := hd; exact Wp.go (fun t kk => XS.ishl X.here hx rfl (hb hby d) rfl kk) k
theorem w_ishr (X : Stand p l e R s m args below meth c T locs cells slots) (hx : p.tables.exec = Jvm.exec) (hby : c.code = bs) {x y : Int32} (hd : In bs pc (.ishr) 1 nx) (k : Wp p e below s K N Q T (mkF m nx Ls (.int (x >>> (y &&& 31)) :: st))) : Wp p e below s K N Q T (mkF m pc Ls (.int y :: .int x :: st)) := by
  obtain ⟨d, rfl⟩ := hd; exact Wp.go (fun t kk => XS.ishr X.here hx rfl (hb hby d) rfl kk) k
theorem w_iushr (X : Stand p l e R s m args below meth c T locs cells slots) (hx : p.tables.exec = Jvm.exec) (hby : c.code = bs) {x y : Int32} (hd : In bs pc (.iushr) 1 nx) (k : Wp p e below s K N Q T (mkF m nx Ls (.int ((x.toUInt32 >>> (y &&& 31).toUInt32).toInt32) :: st))) : Wp p e below s K N Q T (mkF m pc Ls (.int y :: .int x :: st)) := by
  obtain ⟨d, rfl⟩ := hd; exact Wp.go (fun t kk => XS.iushr X.here hx rfl (hb hby d) rfl kk) k
theorem w_ladd (X : Stand p l e R s m args below meth c T locs cells slots) (hx : p.tables.exec = Jvm.exec) (hby : c.code = bs) {x y : Int64} (hd : In bs pc (.ladd) 1 nx) (k : Wp p e below s K N Q T (mkF m nx Ls (.long (x + y) :: st))) : Wp p e below s K N Q T (mkF m pc Ls (.long y :: .long x :: st)) := by
  obtain ⟨d, rfl⟩ := hd; exact Wp.go (fun t kk => XS.ladd X.here hx rfl (hb hby d) rfl kk) k
theorem w_lsub (X : Stand p l e R s m args below meth c T locs cells slots) (hx : p.tables.exec = Jvm.exec) (hby : c.code = bs) {x y : Int64} (hd : In bs pc (.lsub) 1 nx) (k : Wp p e below s K N Q T (mkF m nx Ls (.long (x - y) :: st))) : Wp p e below s K N Q T (mkF m pc Ls (.long y :: .long x :: st)) := by
  obtain ⟨d, rfl⟩ := hd; exact Wp.go (fun t kk => XS.lsub X.here hx rfl (hb hby d) rfl kk) k
theorem w_land (X : Stand p l e R s m args below meth c T locs cells slots) (hx : p.tables.exec = Jvm.exec) (hby : c.code = bs) {x y : Int64} (hd : In bs pc (.land) 1 nx) (k : Wp p e below s K N Q T (mkF m nx Ls (.long (x &&& y) :: st))) : Wp p e below s K N Q T (mkF m pc Ls (.long y :: .long x :: st)) := by
  obtain ⟨d, rfl⟩ := hd; exact Wp.go (fun t kk => XS.land X.here hx rfl (hb hby d) rfl kk) k
theorem w_lmul (X : Stand p l e R s m args below meth c T locs cells slots) (hx : p.tables.exec = Jvm.exec) (hby : c.code = bs) {x y : Int64} (hd : In bs pc (.lmul) 1 nx) (k : Wp p e below s K N Q T (mkF m nx Ls (.long (x * y) :: st))) : Wp p e below s K N Q T (mkF m pc Ls (.long y :: .long x :: st)) := by
  obtain ⟨d, rfl⟩ := hd; exact Wp.go (fun t kk => XS.lmul X.here hx rfl (hb hby d) rfl kk) k
theorem w_lor (X : Stand p l e R s m args below meth c T locs cells slots) (hx : p.tables.exec = Jvm.exec) (hby : c.code = bs) {x y : Int64} (hd : In bs pc (.lor) 1 nx) (k : Wp p e below s K N Q T (mkF m nx Ls (.long (x ||| y) :: st))) : Wp p e below s K N Q T (mkF m pc Ls (.long y :: .long x :: st)) := by
  obtain ⟨d, rfl⟩ := hd; exact Wp.go (fun t kk => XS.lor X.here hx rfl (hb hby d) rfl kk) k
theorem w_lxor (X : Stand p l e R s m args below meth c T locs cells slots) (hx : p.tables.exec = Jvm.exec) (hby : c.code = bs) {x y : Int64} (hd : In bs pc (.lxor) 1 nx) (k : Wp p e below s K N Q T (mkF m nx Ls (.long (x ^^^ y) :: st))) : Wp p e below s K N Q T (mkF m pc Ls (.long y :: .long x :: st)) := by
  obtain ⟨d, rfl⟩ := hd; exact Wp.go (fun t kk => XS.lxor X.here hx rfl (hb hby d) rfl kk) k
theorem w_lshl (X : Stand p l e R s m args below meth c T locs cells slots) (hx : p.tables.exec = Jvm.exec) (hby : c.code = bs) {x : Int64} {y : Int32} (hd : In bs pc (.lshl) 1 nx) (k : Wp p e below s K N Q T (mkF m nx Ls (.long (x <<< (y &&& 0x3f).toInt64) :: st))) : Wp p e below s K N Q T (mkF m pc Ls (.int y :: .long x :: st)) := by
  obtain ⟨d, rfl⟩ := hd; exact Wp.go (fun t kk => XS.lshl X.here hx rfl (hb hby d) rfl kk) k
theorem w_lshr (X : Stand p l e R s m args below meth c T locs cells slots) (hx : p.tables.exec = Jvm.exec) (hby : c.code = bs) {x : Int64} {y : Int32} (hd : In bs pc (.lshr) 1 nx) (k : Wp p e below s K N Q T (mkF m nx Ls (.long (x >>> (y &&& 0x3f).toInt64) :: st))) : Wp p e below s K N Q T (mkF m pc Ls (.int y :: .long x :: st)) := by
  obtain ⟨d, rfl⟩ := hd; exact Wp.go (fun t kk => XS.lshr X.here hx rfl (hb hby d) rfl kk) k
theorem w_lushr (X : Stand p l e R s m args below meth c T locs cells slots) (hx : p.tables.exec = Jvm.exec) (hby : c.code = bs) {x : Int64} {y : Int32} (hd : In bs pc (.lushr) 1 nx) (k : Wp p e below s K N Q T (mkF m nx Ls (.long ((x.toUInt64 >>> (y &&& 0x3f).toInt64.toUInt64).toInt64) :: st))) : Wp p e below s K N Q T (mkF m pc Ls (.int y :: .long x :: st)) := by
  obtain ⟨d, rfl⟩ := hd; exact Wp.go (fun t kk => XS.lushr X.here hx rfl (hb hby d) rfl kk) k
theorem w_i2b (X : Stand p l e R s m args below meth c T locs cells slots) (hx : p.tables.exec = Jvm.exec) (hby : c.code = bs) {x : Int32} (hd : In bs pc (.i2b) 1 nx) (k : Wp p e below s K N Q T (mkF m nx Ls (.int (x.toInt8.toInt32) :: st))) : Wp p e below s K N Q T (mkF m pc Ls (.int x :: st)) := by
  obtain ⟨d, rfl⟩ := hd; exact Wp.go (fun t kk => XS.i2b X.here hx rfl (hb hby d) rfl kk) k
theorem w_i2c (X : Stand p l e R s m args below meth c T locs cells slots) (hx : p.tables.exec = Jvm.exec) (hby : c.code = bs) {x : Int32} (hd : In bs pc (.i2c) 1 nx) (k : Wp p e below s K N Q T (mkF m nx Ls (.int (x.toUInt32.toUInt16.toUInt32.toInt32) :: st))) : Wp p e below s K N Q T (mkF m pc Ls (.int x :: st)) := by
  obtain ⟨d, rfl⟩ := hd; exact Wp.go (fun t kk => XS.i2c X.here hx rfl (hb hby d) rfl kk) k
theorem w_i2s (X : Stand p l e R s m args below meth c T locs cells slots) (hx : p.tables.exec = Jvm.exec) (hby : c.code = bs) {x : Int32} (hd : In bs pc (.i2s) 1 nx) (k : Wp p e below s K N Q T (mkF m nx Ls (.int (x.toInt16.toInt32) :: st))) : Wp p e below s K N Q T (mkF m pc Ls (.int x :: st)) := by
  obtain ⟨d, rfl⟩ := hd; exact Wp.go (fun t kk => XS.i2s X.here hx rfl (hb hby d) rfl kk) k
theorem w_ineg (X : Stand p l e R s m args below meth c T locs cells slots) (hx : p.tables.exec = Jvm.exec) (hby : c.code = bs) {x : Int32} (hd : In bs pc (.ineg) 1 nx) (k : Wp p e below s K N Q T (mkF m nx Ls (.int (-x) :: st))) : Wp p e below s K N Q T (mkF m pc Ls (.int x :: st)) := by
  obtain ⟨d, rfl⟩ := hd; exact Wp.go (fun t kk => XS.ineg X.here hx rfl (hb hby d) rfl kk) k
theorem w_i2l (X : Stand p l e R s m args below meth c T locs cells slots) (hx : p.tables.exec = Jvm.exec) (hby : c.code = bs) {x : Int32} (hd : In bs pc (.i2l) 1 nx) (k : Wp p e below s K N Q T (mkF m nx Ls (.long x.toInt64 :: st))) : Wp p e below s K N Q T (mkF m pc Ls (.int x :: st)) := by
  obtain ⟨d, rfl⟩ := hd; exact Wp.go (fun t kk => XS.i2l X.here hx rfl (hb hby d) rfl kk) k
theorem w_l2i (X : Stand p l e R s m args below meth c T locs cells slots) (hx : p.tables.exec = Jvm.exec) (hby : c.code = bs) {x : Int64} (hd : In bs pc (.l2i) 1 nx) (k : Wp p e below s K N Q T (mkF m nx Ls (.int x.toInt32 :: st))) : Wp p e below s K N Q T (mkF m pc Ls (.long x :: st)) := by
  obtain ⟨d, rfl⟩ := hd; exact Wp.go (fun t kk => XS.l2i X.here hx rfl (hb hby d) rfl kk) k
theorem w_lneg (X : Stand p l e R s m args below meth c T locs cells slots) (hx : p.tables.exec = Jvm.exec) (hby : c.code = bs) {x : Int64} (hd : In bs pc (.lneg) 1 nx) (k : Wp p e below s K N Q T (mkF m nx Ls (.long (-x) :: st))) : Wp p e below s K N Q T (mkF m pc Ls (.long x :: st)) := by
  obtain ⟨d, rfl⟩ := hd; exact Wp.go (fun t kk => XS.lneg X.here hx rfl (hb hby d) rfl kk) k
theorem w_idiv (X : Stand p l e R s m args below meth c T locs cells slots) (hx : p.tables.exec = Jvm.exec) (hby : c.code = bs) {x y : Int32} (hd : In bs pc (.idiv) 1 nx) (hy : y ≠ 0) (k : Wp p e below s K N Q T (mkF m nx Ls (.int (x / y) :: st))) : Wp p e below s K N Q T (mkF m pc Ls (.int y :: .int x :: st)) := by
  obtain ⟨d, rfl⟩ := hd; exact Wp.go (fun t kk => XS.idiv X.here hx rfl (hb hby d) rfl hy kk) k
theorem w_irem (X : Stand p l e R s m args below meth c T locs cells slots) (hx : p.tables.exec = Jvm.exec) (hby : c.code = bs) {x y : Int32} (hd : In bs pc .irem 1 nx) (hy : y ≠ 0) (k : Wp p e below s K N Q T (mkF m nx Ls (.int (x % y) :: st))) : Wp p e below s K N Q T (mkF m pc Ls (.int y :: .int x :: st)) := by
  obtain ⟨d, rfl⟩ := hd; exact Wp.go (fun t kk => iremM X hx rfl (hb hby d) rfl hy kk) k
theorem w_ldiv (X : Stand p l e R s m args below meth c T locs cells slots) (hx : p.tables.exec = Jvm.exec) (hby : c.code = bs) {x y : Int64} (hd : In bs pc (.ldiv) 1 nx) (hy : y ≠ 0) (k : Wp p e below s K N Q T (mkF m nx Ls (.long (x / y) :: st))) : Wp p e below s K N Q T (mkF m pc Ls (.long y :: .long x :: st)) := by
  obtain ⟨d, rfl⟩ := hd; exact Wp.go (fun t kk => XS.ldiv X.here hx rfl (hb hby d) rfl hy kk) k
theorem w_lrem (X : Stand p l e R s m args below meth c T locs cells slots) (hx : p.tables.exec = Jvm.exec) (hby : c.code = bs) {x y : Int64} (hd : In bs pc .lrem 1 nx) (hy : y ≠ 0) (k : Wp p e below s K N Q T (mkF m nx Ls (.long (x % y) :: st))) : Wp p e below s K N Q T (mkF m pc Ls (.long y :: .long x :: st)) := by
  obtain ⟨d, rfl⟩ := hd; refine Wp.go (fun t kk => XS.lrem X.here hx rfl (hb hby d) rfl hy kk) ?_; rw [lrem_mod]; exact k
theorem w_aconst_null (X : Stand p l e R s m args below meth c T locs cells slots) (hx : p.tables.exec = Jvm.exec) (hby : c.code = bs)  (hd : In bs pc (.aconst_null) 1 nx) (k : Wp p e below s K N Q T (mkF m nx Ls (.null :: st))) : Wp p e below s K N Q T (mkF m pc Ls (st)) := by
  obtain ⟨d, rfl⟩ := hd; exact Wp.go (fun t kk => XS.aconstNull X.here hx rfl (hb hby d) kk) k
theorem w_dup (X : Stand p l e R s m args below meth c T locs cells slots) (hx : p.tables.exec = Jvm.exec) (hby : c.code = bs) {x : Value} (hd : In bs pc (.dup) 1 nx) (hc : x.category = 1) (k : Wp p e below s K N Q T (mkF m nx Ls (x :: x :: st))) : Wp p e below s K N Q T (mkF m pc Ls (x :: st)) := by
  obtain ⟨d, rfl⟩ := hd; exact Wp.go (fun t kk => XS.dup X.here hx rfl (hb hby d) rfl hc kk) k
theorem w_dup_x1 (X : Stand p l e R s m args below meth c T locs cells slots) (hx : p.tables.exec = Jvm.exec) (hby : c.code = bs) {x y : Value} (hd : In bs pc (.dup_x1) 1 nx) (hc : x.category = 1) (hc2 : y.category = 1) (k : Wp p e below s K N Q T (mkF m nx Ls (x :: y :: x :: st))) : Wp p e below s K N Q T (mkF m pc Ls (x :: y :: st)) := by
  obtain ⟨d, rfl⟩ := hd; exact Wp.go (fun t kk => XS.dupX1 X.here hx rfl (hb hby d) rfl hc hc2 kk) k
theorem w_dup2 (X : Stand p l e R s m args below meth c T locs cells slots) (hx : p.tables.exec = Jvm.exec) (hby : c.code = bs) {x y : Value} (hd : In bs pc (.dup2) 1 nx) (hc : x.category = 1) (hc2 : y.category = 1) (k : Wp p e below s K N Q T (mkF m nx Ls (x :: y :: x :: y :: st))) : Wp p e below s K N Q T (mkF m pc Ls (x :: y :: st)) := by
  obtain ⟨d, rfl⟩ := hd; exact Wp.go (fun t kk => XT.dup2 X.here hx rfl (hb hby d) rfl hc hc2 kk) k
theorem w_dup2L (X : Stand p l e R s m args below meth c T locs cells slots) (hx : p.tables.exec = Jvm.exec) (hby : c.code = bs) {x : Int64} (hd : In bs pc (.dup2) 1 nx) (k : Wp p e below s K N Q T (mkF m nx Ls (.long x :: .long x :: st))) : Wp p e below s K N Q T (mkF m pc Ls (.long x :: st)) := by
  obtain ⟨d, rfl⟩ := hd; exact Wp.go (fun t kk => XT.dup2L X.here hx rfl (hb hby d) rfl kk) k
theorem w_pop (X : Stand p l e R s m args below meth c T locs cells slots) (hx : p.tables.exec = Jvm.exec) (hby : c.code = bs) {x : Value} (hd : In bs pc (.pop) 1 nx) (hc : x.category = 1) (k : Wp p e below s K N Q T (mkF m nx Ls (st))) : Wp p e below s K N Q T (mkF m pc Ls (x :: st)) := by
  obtain ⟨d, rfl⟩ := hd; exact Wp.go (fun t kk => XS.pop X.here hx rfl (hb hby d) rfl hc kk) k
theorem w_iconst (X : Stand p l e R s m args below meth c T locs cells slots) (hx : p.tables.exec = Jvm.exec) (hby : c.code = bs) {i : Int} (v : Int32) (hd : In bs pc (.iconst i) 1 nx) (hv : Int32.ofInt i = v) (k : Wp p e below s K N Q T (mkF m nx Ls (.int v :: st))) : Wp p e below s K N Q T (mkF m pc Ls (st)) := by
  obtain ⟨d, rfl⟩ := hd; exact Wp.go (fun t kk => XT.iconstV X.here hx rfl v (hb hby d) hv kk) k
theorem w_bipush (X : Stand p l e R s m args below meth c T locs cells slots) (hx : p.tables.exec = Jvm.exec) (hby : c.code = bs) {i : Int} (v : Int32) (hd : In bs pc (.bipush i) 2 nx) (hv : (Int8.ofInt i).toInt32 = v) (k : Wp p e below s K N Q T (mkF m nx Ls (.int v :: st))) : Wp p e below s K N Q T (mkF m pc Ls (st)) := by
  obtain ⟨d, rfl⟩ := hd; exact Wp.go (fun t kk => XT.bipushV X.here hx rfl v (hb hby d) hv kk) k
theorem w_sipush (X : Stand p l e R s m args below meth c T locs cells slots) (hx : p.tables.exec = Jvm.exec) (hby : c.code = bs) {i : Int} (v : Int32) (hd : In bs pc (.sipush i) 3 nx) (hv : (Int16.ofInt i).toInt32 = v) (k : Wp p e below s K N Q T (mkF m nx Ls (.int v :: st))) : Wp p e below s K N Q T (mkF m pc Ls (st)) := by
  obtain ⟨d, rfl⟩ := hd; exact Wp.go (fun t kk => XT.sipushV X.here hx rfl v (hb hby d) hv kk) k
theorem w_lconst (X : Stand p l e R s m args below meth c T locs cells slots) (hx : p.tables.exec = Jvm.exec) (hby : c.code = bs) {i : Fin 2} (v : Int64) (hd : In bs pc (.lconst i) 1 nx) (hv : Int64.ofNat i = v) (k : Wp p e below s K N Q T (mkF m nx Ls (.long v :: st))) : Wp p e below s K N Q T (mkF m pc Ls (st)) := by
  obtain ⟨d, rfl⟩ := hd; exact Wp.go (fun t kk => XT.lconstV X.here hx rfl v (hb hby d) hv kk) k
theorem w_iloadN (X : Stand p l e R s m args below meth c T locs cells slots) (hx : p.tables.exec = Jvm.exec) (hby : c.code = bs) {i : Fin 4} {v : Int32} (hd : In bs pc (.iload_n i) 1 nx) (hl : Ls[i.val]? = some (.val (.int v))) (k : Wp p e below s K N Q T (mkF m nx Ls (.int v :: st))) : Wp p e below s K N Q T (mkF m pc Ls (st)) := by
  obtain ⟨d, rfl⟩ := hd; exact Wp.go (fun t kk => XS.iloadN X.here hx rfl (hb hby d) hl kk) k
theorem w_lloadN (X : Stand p l e R s m args below meth c T locs cells slots) (hx : p.tables.exec = Jvm.exec) (hby : c.code = bs) {i : Fin 4} {v : Int64} (hd : In bs pc (.lload_n i) 1 nx) (hl : Ls[i.val]? = some (.val (.long v))) (k : Wp p e below s K N Q T (mkF m nx Ls (.long v :: st))) : Wp p e below s K N Q T (mkF m pc Ls (st)) := by
  obtain ⟨d, rfl⟩ := hd; exact Wp.go (fun t kk => XS.lloadN X.here hx rfl (hb hby d) hl kk) k
theorem w_aloadN (X : Stand p l e R s m args below meth c T locs cells slots) (hx : p.tables.exec = Jvm.exec) (hby : c.code = bs) {i : Fin 4} {v : Value} (hd : In bs pc (.aload_n i) 1 nx) (hl : Ls[i.val]? = some (.val v)) (hv : v.isRef = true) (k : Wp p e below s K N Q T (mkF m nx Ls (v :: st))) : Wp p e below s K N Q T (mkF m pc Ls (st)) := by
  obtain ⟨d, rfl⟩ := hd; exact Wp.go (fun t kk => XS.aloadN X.here hx rfl (hb hby d) hl hv kk) k
theorem w_istoreN (X : Stand p l e R s m args below meth c T locs cells slots) (hx : p.tables.exec = Jvm.exec) (hby : c.code = bs) {i : Fin 4} {v : Int32} (l' : Array Slot) (hd : In bs pc (.istore_n i) 1 nx) (hl : storeLocals Ls i.val (.int v) = some l') (k : Wp p e below s K N Q T (mkF m nx l' (st))) : Wp p e below s K N Q T (mkF m pc Ls (.int v :: st)) := by
  obtain ⟨d, rfl⟩ := hd; exact Wp.go (fun t kk => XS.istoreN X.here hx rfl (hb hby d) rfl hl kk) k
theorem w_lstoreN (X : Stand p l e R s m args below meth c T locs cells slots) (hx : p.tables.exec = Jvm.exec) (hby : c.code = bs) {i : Fin 4} {v : Int64} (l' : Array Slot) (hd : In bs pc (.lstore_n i) 1 nx) (hl : storeLocals Ls i.val (.long v) = some l') (k : Wp p e below s K N Q T (mkF m nx l' (st))) : Wp p e below s K N Q T (mkF m pc Ls (.long v :: st)) := by
  obtain ⟨d, rfl⟩ := hd; exact Wp.go (fun t kk => XS.lstoreN X.here hx rfl (hb hby d) rfl hl kk) k
theorem w_astoreN (X : Stand p l e R s m args below meth c T locs cells slots) (hx : p.tables.exec = Jvm.exec) (hby : c.code = bs) {i : Fin 4} {v : Value} (l' : Array Slot) (hd : In bs pc (.astore_n i) 1 nx) (hv : v.isRef = true) (hl : storeLocals Ls i.val v = some l') (k : Wp p e below s K N Q T (mkF m nx l' (st))) : Wp p e below s K N Q T (mkF m pc Ls (v :: st)) := by
  obtain ⟨d, rfl⟩ := hd; exact Wp.go (fun t kk => XS.astoreN X.here hx rfl (hb hby d) rfl hv hl kk) k
theorem w_iload (X : Stand p l e R s m args below meth c T locs cells slots) (hx : p.tables.exec = Jvm.exec) (hby : c.code = bs) {i : Nat} {v : Int32} (hd : In bs pc (.iload i) 2 nx) (hl : Ls[i]? = some (.val (.int v))) (k : Wp p e below s K N Q T (mkF m nx Ls (.int v :: st))) : Wp p e below s K N Q T (mkF m pc Ls (st)) := by
  obtain ⟨d, rfl⟩ := hd; exact Wp.go (fun t kk => XS.iload X.here hx rfl (hb hby d) hl kk) k
theorem w_lload (X : Stand p l e R s m args below meth c T locs cells slots) (hx : p.tables.exec = Jvm.exec) (hby : c.code = bs) {i : Nat} {v : Int64} (hd : In bs pc (.lload i) 2 nx) (hl : Ls[i]? = some (.val (.long v))) (k : Wp p e below s K N Q T (mkF m nx Ls (.long v :: st))) : Wp p e below s K N Q T (mkF m pc Ls (st)) := by
  obtain ⟨d, rfl⟩ := hd; exact Wp.go (fun t kk => XS.lload X.here hx rfl (hb hby d) hl kk) k
theorem w_aload (X : Stand p l e R s m args below meth c T locs cells slots) (hx : p.tables.exec = Jvm.exec) (hby : c.code = bs) {i : Nat} {v : Value} (hd : In bs pc (.aload i) 2 nx) (hl : Ls[i]? = some (.val v)) (hv : v.isRef = true) (k : Wp p e below s K N Q T (mkF m nx Ls (v :: st))) : Wp p e below s K N Q T (mkF m pc Ls (st)) := by
  obtain ⟨d, rfl⟩ := hd; exact Wp.go (fun t kk => XS.aload X.here hx rfl (hb hby d) hl hv kk) k
theorem w_istore (X : Stand p l e R s m args below meth c T locs cells slots) (hx : p.tables.exec = Jvm.exec) (hby : c.code = bs) {i : Nat} {v : Int32} (l' : Array Slot) (hd : In bs pc (.istore i) 2 nx) (hl : storeLocals Ls i (.int v) = some l') (k : Wp p e below s K N Q T (mkF m nx l' (st))) : Wp p e below s K N Q T (mkF m pc Ls (.int v :: st)) := by
  obtain ⟨d, rfl⟩ := hd; exact Wp.go (fun t kk => XS.istore X.here hx rfl (hb hby d) rfl hl kk) k
theorem w_lstore (X : Stand p l e R s m args below meth c T locs cells slots) (hx : p.tables.exec = Jvm.exec) (hby : c.code = bs) {i : Nat} {v : Int64} (l' : Array Slot) (hd : In bs pc (.lstore i) 2 nx) (hl : storeLocals Ls i (.long v) = some l') (k : Wp p e below s K N Q T (mkF m nx l' (st))) : Wp p e below s K N Q T (mkF m pc Ls (.long v :: st)) := by
  obtain ⟨d, rfl⟩ := hd; exact Wp.go (fun t kk => XS.lstore X.here hx rfl (hb hby d) rfl hl kk) k
theorem w_astore (X : Stand p l e R s m args below meth c T locs cells slots) (hx : p.tables.exec = Jvm.exec) (hby : c.code = bs) {i : Nat} {v : Value} (l' : Array Slot) (hd : In bs pc (.astore i) 2 nx) (hv : v.isRef = true) (hl : storeLocals Ls i v = some l') (k : Wp p e below s K N Q T (mkF m nx l' (st))) : Wp p e below s K N Q T (mkF m pc Ls (v :: st)) := by
  obtain ⟨d, rfl⟩ := hd; exact Wp.go (fun t kk => XS.astore X.here hx rfl (hb hby d) rfl hv hl kk) k
theorem w_iinc (X : Stand p l e R s m args below meth c T locs cells slots) (hx : p.tables.exec = Jvm.exec) (hby : c.code = bs) {i : Nat} {cst : Int} {x : Int32} (v : Int32) (l' : Array Slot) (hd : In bs pc (.iinc i cst) 3 nx) (hv : Int32.ofInt cst = v) (hl : Ls[i]? = some (.val (.int x))) (hl' : storeLocals Ls i (.int (x + v)) = some l') (k : Wp p e below s K N Q T (mkF m nx l' st)) : Wp p e below s K N Q T (mkF m pc Ls st) := by
  obtain ⟨d, rfl⟩ := hd; exact Wp.go (fun t kk => XT.iincV X.here hx rfl v (hb hby d) hv hl hl' kk) k
theorem w_goto (X : Stand p l e R s m args below meth c T locs cells slots) (hx : p.tables.exec = Jvm.exec) (hby : c.code = bs) (hd : Jm bs pc (.goto o) o nx tg) (k : Wp p e below s K N Q T (mkF m tg Ls st)) : Wp p e below s K N Q T (mkF m pc Ls st) := by
  obtain ⟨d, -, q1, q2⟩ := hd; exact Wp.go (fun t kk => XS.goto X.here hx rfl rfl (hb hby d) q1 q2 kk) k
theorem f_icmp_eq (X : Stand p l e R s m args below meth c T locs cells slots) (hx : p.tables.exec = Jvm.exec) (hby : c.code = bs) {x y : Int32} (hd : Jm bs pc (.if_icmp .eq o) o nx tg) (kt : x = y → Wp p e below s K N Q T (mkF m tg Ls st)) (kf : ¬ x = y → Wp p e below s K N Q T (mkF m nx Ls st)) : Wp p e below s K N Q T (mkF m pc Ls (.int y :: .int x :: st)) := by
  obtain ⟨d, rfl, q1, q2⟩ := hd
  by_cases q : x = y
  · exact Wp.go (fun t kk => XS.icmpYes X.here hx rfl rfl (hb hby d) rfl (XT.ii_eq_t q) q1 q2 kk) (kt q)
  · exact Wp.go (fun t kk => XS.icmpNo X.here hx rfl (hb hby d) rfl (XT.ii_eq_f q) kk) (kf q)
theorem f_if_eq (X : Stand p l e R s m args below meth c T locs cells slots) (hx : p.tables.exec = Jvm.exec) (hby : c.code = bs) {x : Int32} (hd : Jm bs pc (.ifCond .eq o) o nx tg) (kt : x = 0 → Wp p e below s K N Q T (mkF m tg Ls st)) (kf : ¬ x = 0 → Wp p e below s K N Q T (mkF m nx Ls st)) : Wp p e below s K N Q T (mkF m pc Ls (.int x :: st)) := by
  obtain ⟨d, rfl, q1, q2⟩ := hd
  by_cases q : x = 0
  · exact Wp.go (fun t kk => XS.ifYes X.here hx rfl rfl (hb hby d) rfl (XT.i0_eq_t q) q1 q2 kk) (kt q)
  · exact Wp.go (fun t kk => XS.ifNo X.here hx rfl (hb hby d) rfl (XT.i0_eq_f q) kk) (kf q)
theorem f_lcmp_eq (X : Stand p l e R s m args below meth c T locs cells slots) (hx : p.tables.exec = Jvm.exec) (hby : c.code = bs) {x y : Int64} {n1 : Nat} (hc : In bs pc .lcmp 1 n1) (hd : Jm bs n1 (.ifCond .eq o) o nx tg) (kt : x = y → Wp p e below s K N Q T (mkF m tg Ls st)) (kf : ¬ x = y → Wp p e below s K N Q T (mkF m nx Ls st)) : Wp p e below s K N Q T (mkF m pc Ls (.long y :: .long x :: st)) := by
  obtain ⟨d1, rfl⟩ := hc; obtain ⟨d, rfl, q1, q2⟩ := hd
  refine Wp.go (fun t kk => XT.lcmp X.here hx rfl (hb hby d1) rfl kk) ?_
  by_cases q : x = y
  · exact Wp.go (fun t kk => XS.ifYes X.here hx rfl rfl (hb hby d) rfl (XT.ll_eq_t q) q1 q2 kk) (kt q)
  · exact Wp.go (fun t kk => XS.ifNo X.here hx rfl (hb hby d) rfl (XT.ll_eq_f q) kk) (kf q)
theorem f_icmp_ne (X : Stand p l e R s m args below meth c T locs cells slots) (hx : p.tables.exec = Jvm.exec) (hby : c.code = bs) {x y : Int32} (hd : Jm bs pc (.if_icmp .ne o) o nx tg) (kt : ¬ x = y → Wp p e below s K N Q T (mkF m tg Ls st)) (kf : x = y → Wp p e below s K N Q T (mkF m nx Ls st)) : Wp p e below s K N Q T (mkF m pc Ls (.int y :: .int x :: st)) := by
  obtain ⟨d, rfl, q1, q2⟩ := hd
  by_cases q : x = y
  · exact Wp.go (fun t kk => XS.icmpNo X.here hx rfl (hb hby d) rfl (XT.ii_ne_f q) kk) (kf q)
  · exact Wp.go (fun t kk => XS.icmpYes X.here hx rfl rfl (hb hby d) rfl (XT.ii_ne_t q) q1 q2 kk) (kt q)
theorem f_if_ne (X : Stand p l e R s m args below meth c T locs cells slots) (hx : p.tables.exec = Jvm.exec) (hby : c.code = bs) {x : Int32} (hd : Jm bs pc (.ifCond .ne o) o nx tg) (kt : ¬ x = 0 → Wp p e below s K N Q T (mkF m tg Ls st)) (kf : x = 0 → Wp p e below s K N Q T (mkF m nx Ls st)) : Wp p e below s K N Q T (mkF m pc Ls (.int x :: st)) := by
  obtain ⟨d, rfl, q1, q2⟩ := hd
  by_cases q : x = 0
  · exact Wp.go (fun t kk => XS.ifNo X.here hx rfl (hb hby d) rfl (XT.i0_ne_f q) kk) (kf q)
  · exact Wp.go (fun t kk => XS.ifYes X.here hx rfl rfl (hb hby d) rfl (XT.i0_ne_t q) q1 q2 kk) (kt q)
theorem f_lcmp_ne (X : Stand p l e R s m args below meth c T locs cells slots) (hx : p.tables.exec = Jvm.exec) (hby : c.code = bs) {x y : Int64} {n1 : Nat} (hc : In bs pc .lcmp 1 n1) (hd : Jm bs n1 (.ifCond .ne o) o nx tg) (kt : ¬ x = y → Wp p e below s K N Q T (mkF m tg Ls st)) (kf : x = y → Wp p e below s K N Q T (mkF m nx Ls st)) : Wp p e below s K N Q T (mkF m pc Ls (.long y :: .long x :: st)) := by
  obtain ⟨d1, rfl⟩ := hc; obtain ⟨d, rfl, q1, q2⟩ := hd
  refine Wp.go (fun t kk => XT.lcmp X.here hx rfl (hb hby d1) rfl kk) ?_
  by_cases q : x = y
  · exact Wp.go (fun t kk => XS.ifNo X.here hx rfl (hb hby d) rfl (XT.ll_ne_f q) kk) (kf q)
  · exact Wp.go (fun t kk => XS.ifYes X.here hx rfl rfl (hb hby d) rfl (XT.ll_ne_t q) q1 q2 kk) (kt q)
theorem f_icmp_lt (X : Stand p l e R s m args below meth c T locs cells slots) (hx : p.tables.exec = Jvm.exec) (hby : c.code = bs) {x y : Int32} (hd : Jm bs pc (.if_icmp .lt o) o nx tg) (kt : x < y → Wp p e below s K N Q T (mkF m tg Ls st)) (kf : ¬ x < y → Wp p e below s K N Q T (mkF m nx Ls st)) : Wp p e below s K N Q T (mkF m pc Ls (.int y :: .int x :: st)) := by
  obtain ⟨d, rfl, q1, q2⟩ := hd
  by_cases q : x < y
  · exact Wp.go (fun t kk => XS.icmpYes X.here hx rfl rfl (hb hby d) rfl (XT.ii_lt_t q) q1 q2 kk) (kt q)
  · exact Wp.go (fun t kk => XS.icmpNo X.here hx rfl (hb hby d) rfl (XT.ii_lt_f q) kk) (kf q)
theorem f_if_lt (X : Stand p l e R s m args below meth c T locs cells slots) (hx : p.tables.exec = Jvm.exec) (hby : c.code = bs) {x : Int32} (hd : Jm bs pc (.ifCond .lt o) o nx tg) (kt : x < 0 → Wp p e below s K N Q T (mkF m tg Ls st)) (kf : ¬ x < 0 → Wp p e below s K N Q T (mkF m nx Ls st)) : Wp p e below s K N Q T (mkF m pc Ls (.int x :: st)) := by
  obtain ⟨d, rfl, q1, q2⟩ := hd
  by_cases q : x < 0
  · exact Wp.go (fun t kk => XS.ifYes X.here hx rfl rfl (hb hby d) rfl (XT.i0_lt_t q) q1 q2 kk) (kt q)
  · exact Wp.go (fun t kk => XS.ifNo X.here hx rfl (hb hby d) rfl (XT.i0_lt_f q) kk) (kf q)
theorem f_lcmp_lt (X : Stand p l e R s m args below meth c T locs cells slots) (hx : p.tables.exec = Jvm.exec) (hby : c.code = bs) {x y : Int64} {n1 : Nat} (hc : In bs pc .lcmp 1 n1) (hd : Jm bs n1 (.ifCond .lt o) o nx tg) (kt : x < y → Wp p e below s K N Q T (mkF m tg Ls st)) (kf : ¬ x < y → Wp p e below s K N Q T (mkF m nx Ls st)) : Wp p e below s K N Q T (mkF m pc Ls (.long y :: .long x :: st)) := by
  obtain ⟨d1, rfl⟩ := hc; obtain ⟨d, rfl, q1, q2⟩ := hd
  refine Wp.go (fun t kk => XT.lcmp X.here hx rfl (hb hby d1) rfl kk) ?_
  by_cases q : x < y
  · exact Wp.go (fun t kk => XS.ifYes X.here hx rfl rfl (hb hby d) rfl (XT.ll_lt_t q) q1 q2 kk) (kt q)
  · exact Wp.go (fun t kk => XS.ifNo X.here hx rfl (hb hby d) rfl (XT.ll_lt_f q) kk) (kf q)
theorem f_icmp_ge (X : Stand p l e R s m args below meth c T locs cells slots) (hx : p.tables.exec = Jvm.exec) (hby : c.code = bs) {x y : Int32} (hd : Jm bs pc (.if_icmp .ge o) o nx tg) (kt : ¬ x < y → Wp p e below s K N Q T (mkF m tg Ls st)) (kf : x < y → Wp p e below s K N Q T (mkF m nx Ls st)) : Wp p e below s K N Q T (mkF m pc Ls (.int y :: .int x :: st)) := by
  obtain ⟨d, rfl, q1, q2⟩ := hd
  by_cases q : x < y
  · exact Wp.go (fun t kk => XS.icmpNo X.here hx rfl (hb hby d) rfl (XT.ii_ge_f q) kk) (kf q)
  · exact Wp.go (fun t kk => XS.icmpYes X.here hx rfl rfl (hb hby d) rfl (XT.ii_ge_t q) q1 q2 kk) (kt q)
theorem f_if_ge (X : Stand p l e R s m args below meth c T locs cells slots) (hx : p.tables.exec = Jvm.exec) (hby : c.code = bs) {x : Int32} (hd : Jm bs pc (.ifCond .ge o) o nx tg) (kt : ¬ x < 0 → Wp p e below s K N Q T (mkF m tg Ls st)) (kf : x < 0 → Wp p e below s K N Q T (mkF m nx Ls st)) : Wp p e below s K N Q T (mkF m pc Ls (.int x :: st)) := by
  obtain ⟨d, rfl, q1, q2⟩ := hd
  by_cases q : x < 0
  · exact Wp.go (fun t kk => XS.ifNo X.here hx rfl (hb hby d) rfl (XT.i0_ge_f q) kk) (kf q)
  · exact Wp.go (fun t kk => XS.ifYes X.here hx rfl rfl (hb hby d) rfl (XT.i0_ge_t q) q1 q2 kk) (kt q)
theorem f_lcmp_ge (X : Stand p l e R s m args below meth c T locs cells slots) (hx : p.tables.exec = Jvm.exec) (hby : c.code = bs) {x y : Int64} {n1 : Nat} (hc : In bs pc .lcmp 1 n1) (hd : Jm bs n1 (.ifCond .ge o) o nx tg) (kt : ¬ x < y → Wp p e below s K N Q T (mkF m tg Ls st)) (kf : x < y → Wp p e below s K N Q T (mkF m nx Ls st)) : Wp p e below s K N Q T (mkF m pc Ls (.long y :: .long x :: st)) := by
  obtain ⟨d1, rfl⟩ := hc; obtain ⟨d, rfl, q1, q2⟩ := hd
  refine Wp.go (fun t kk => XT.lcmp X.here hx rfl (hb hby d1) rfl kk) ?_
  by_cases q : x < y
  · exact Wp.go (fun t kk => XS.ifNo X.here hx rfl (hb hby d) rfl (XT.ll_ge_f q) kk) (kf q)
  · exact Wp.go (fun t kk => XS.ifYes X.here hx rfl rfl (hb hby d) rfl (XT.ll_ge_t q) q1 q2 kk) (kt q)
theorem f_icmp_gt (X : Stand p l e R s m args below meth c T locs cells slots) (hx : p.tables.exec = Jvm.exec) (hby : c.code = bs) {x y : Int32} (hd : Jm bs pc (.if_icmp .gt o) o nx tg) (kt : y < x → Wp p e below s K N Q T (mkF m tg Ls st)) (kf : ¬ y < x → Wp p e below s K N Q T (mkF m nx Ls st)) : Wp p e below s K N Q T (mkF m pc Ls (.int y :: .int x :: st)) := by
  obtain ⟨d, rfl, q1, q2⟩ := hd
  by_cases q : y < x
  · exact Wp.go (fun t kk => XS.icmpYes X.here hx rfl rfl (hb hby d) rfl (XT.ii_gt_t q) q1 q2 kk) (kt q)
  · exact Wp.go (fun t kk => XS.icmpNo X.here hx rfl (hb hby d) rfl (XT.ii_gt_f q) kk) (kf q)
theorem f_if_gt (X : Stand p l e R s m args below meth c T locs cells slots) (hx : p.tables.exec = Jvm.exec) (hby : c.code = bs) {x : Int32} (hd : Jm bs pc (.ifCond .gt o) o nx tg) (kt : 0 < x → Wp p e below s K N Q T (mkF m tg Ls st)) (kf : ¬ 0 < x → Wp p e below s K N Q T (mkF m nx Ls st)) : Wp p e below s K N Q T (mkF m pc Ls (.int x :: st)) := by
  obtain ⟨d, rfl, q1, q2⟩ := hd
  by_cases q : 0 < x
  · exact Wp.go (fun t kk => XS.ifYes X.here hx rfl rfl (hb hby d) rfl (XT.i0_gt_t q) q1 q2 kk) (kt q)
  · exact Wp.go (fun t kk => XS.ifNo X.here hx rfl (hb hby d) rfl (XT.i0_gt_f q) kk) (kf q)
theorem f_lcmp_gt (X : Stand p l e R s m args below meth c T locs cells slots) (hx : p.tables.exec = Jvm.exec) (hby : c.code = bs) {x y : Int64} {n1 : Nat} (hc : In bs pc .lcmp 1 n1) (hd : Jm bs n1 (.ifCond .gt o) o nx tg) (kt : y < x → Wp p e below s K N Q T (mkF m tg Ls st)) (kf : ¬ y < x → Wp p e below s K N Q T (mkF m nx Ls st)) : Wp p e below s K N Q T (mkF m pc Ls (.long y :: .long x :: st)) := by
  obtain ⟨d1, rfl⟩ := hc; obtain ⟨d, rfl, q1, q2⟩ := hd
  refine Wp.go (fun t kk => XT.lcmp X.here hx rfl (hb hby d1) rfl kk) ?_
  by_cases q : y < x
  · exact Wp.go (fun t kk => XS.ifYes X.here hx rfl rfl (hb hby d) rfl (XT.ll_gt_t q) q1 q2 kk) (kt q)
  · exact Wp.go (fun t kk => XS.ifNo X.here hx rfl (hb hby d) rfl (XT.ll_gt_f q) kk) (kf q)
theorem f_icmp_le (X : Stand p l e R s m args below meth c T locs cells slots) (hx : p.tables.exec = Jvm.exec) (hby : c.code = bs) {x y : Int32} (hd : Jm bs pc (.if_icmp .le o) o nx tg) (kt : ¬ y < x → Wp p e below s K N Q T (mkF m tg Ls st)) (kf : y < x → Wp p e below s K N Q T (mkF m nx Ls st)) : Wp p e below s K N Q T (mkF m pc Ls (.int y :: .int x :: st)) := by
  obtain ⟨d, rfl, q1, q2⟩ := hd
  by_cases q : y < x
  · exact Wp.go (fun t kk => XS.icmpNo X.here hx rfl (hb hby d) rfl (XT.ii_le_f q) kk) (kf q)
  · exact Wp.go (fun t kk => XS.icmpYes X.here hx rfl rfl (hb hby d) rfl (XT.ii_le_t q) q1 q2 kk) (kt q)
theorem f_if_le (X : Stand p l e R s m args below meth c T locs cells slots) (hx : p.tables.exec = Jvm.exec) (hby : c.code = bs) {x : Int32} (hd : Jm bs pc (.ifCond .le o) o nx tg) (kt : ¬ 0 < x → Wp p e below s K N Q T (mkF m tg Ls st)) (kf : 0 < x → Wp p e below s K N Q T (mkF m nx Ls st)) : Wp p e below s K N Q T (mkF m pc Ls (.int x :: st)) := by
  obtain ⟨d, rfl, q1, q2⟩ := hd
  by_cases q : 0 < x
  · exact Wp.go (fun t kk => XS.ifNo X.here hx rfl (hb hby d) rfl (XT.i0_le_f q) kk) (kf q)
  · exact Wp.go (fun t kk => XS.ifYes X.here hx rfl rfl (hb hby d) rfl (XT.i0_le_t q) q1 q2 kk) (kt q)
theorem f_lcmp_le (X : Stand p l e R s m args below meth c T locs cells slots) (hx : p.tables.exec = Jvm.exec) (hby : c.code = bs) {x y : Int64} {n1 : Nat} (hc : In bs pc .lcmp 1 n1) (hd : Jm bs n1 (.ifCond .le o) o nx tg) (kt : ¬ y < x → Wp p e below s K N Q T (mkF m tg Ls st)) (kf : y < x → Wp p e below s K N Q T (mkF m nx Ls st)) : Wp p e below s K N Q T (mkF m pc Ls (.long y :: .long x :: st)) := by
  obtain ⟨d1, rfl⟩ := hc; obtain ⟨d, rfl, q1, q2⟩ := hd
  refine Wp.go (fun t kk => XT.lcmp X.here hx rfl (hb hby d1) rfl kk) ?_
  by_cases q : y < x
  · exact Wp.go (fun t kk => XS.ifNo X.here hx rfl (hb hby d) rfl (XT.ll_le_f q) kk) (kf q)
  · exact Wp.go (fun t kk => XS.ifYes X.here hx rfl rfl (hb hby d) rfl (XT.ll_le_t q) q1 q2 kk) (kt q)
theorem f_acmp_eq (X : Stand p l e R s m args below meth c T locs cells slots) (hx : p.tables.exec = Jvm.exec) (hby : c.code = bs) {x y : Addr} (hd : Jm bs pc (.if_acmp .eq o) o nx tg) (kt : x = y → Wp p e below s K N Q T (mkF m tg Ls st)) (kf : ¬ x = y → Wp p e below s K N Q T (mkF m nx Ls st)) : Wp p e below s K N Q T (mkF m pc Ls (.ref y :: .ref x :: st)) := by
  obtain ⟨d, rfl, q1, q2⟩ := hd
  by_cases q : x = y
  · exact Wp.go (fun t kk => XT.acmpYes X.here hx rfl rfl (hb hby d) rfl rfl rfl (XT.aa_eq_t (congrArg Value.ref q)) q1 q2 kk) (kt q)
  · exact Wp.go (fun t kk => XT.acmpNo X.here hx rfl (hb hby d) rfl rfl rfl (XT.aa_eq_f (fun r => q (Value.ref.inj r))) kk) (kf q)
theorem f_acmpV_eq (X : Stand p l e R s m args below meth c T locs cells slots) (hx : p.tables.exec = Jvm.exec) (hby : c.code = bs) {x y : Value} (hx' : x.isRef = true) (hy' : y.isRef = true) (hd : Jm bs pc (.if_acmp .eq o) o nx tg) (kt : x = y → Wp p e below s K N Q T (mkF m tg Ls st)) (kf : ¬ x = y → Wp p e below s K N Q T (mkF m nx Ls st)) : Wp p e below s K N Q T (mkF m pc Ls (y :: x :: st)) := by
  obtain ⟨d, rfl, q1, q2⟩ := hd
  by_cases q : x = y
  · exact Wp.go (fun t kk => XT.acmpYes X.here hx rfl rfl (hb hby d) rfl hx' hy' (XT.aa_eq_t q) q1 q2 kk) (kt q)
  · exact Wp.go (fun t kk => XT.acmpNo X.here hx rfl (hb hby d) rfl hx' hy' (XT.aa_eq_f q) kk) (kf q)
theorem f_acmp_ne (X : Stand p l e R s m args below meth c T locs cells slots) (hx : p.tables.exec = Jvm.exec) (hby : c.code = bs) {x y : Addr} (hd : Jm bs pc (.if_acmp .ne o) o nx tg) (kt : ¬ x = y → Wp p e below s K N Q T (mkF m tg Ls st)) (kf : x = y → Wp p e below s K N Q T (mkF m nx Ls st)) : Wp p e below s K N Q T (mkF m pc Ls (.ref y :: .ref x :: st)) := by
  obtain ⟨d, rfl, q1, q2⟩ := hd
  by_cases q : x = y
  · exact Wp.go (fun t kk => XT.acmpNo X.here hx rfl (hb hby d) rfl rfl rfl (XT.aa_ne_f (congrArg Value.ref q)) kk) (kf q)
  · exact Wp.go (fun t kk => XT.acmpYes X.here hx rfl rfl (hb hby d) rfl rfl rfl (XT.aa_ne_t (fun r => q (Value.ref.inj r))) q1 q2 kk) (kt q)
theorem f_acmpV_ne (X : Stand p l e R s m args below meth c T locs cells slots) (hx : p.tables.exec = Jvm.exec) (hby : c.code = bs) {x y : Value} (hx' : x.isRef = true) (hy' : y.isRef = true) (hd : Jm bs pc (.if_acmp .ne o) o nx tg) (kt : ¬ x = y → Wp p e below s K N Q T (mkF m tg Ls st)) (kf : x = y → Wp p e below s K N Q T (mkF m nx Ls st)) : Wp p e below s K N Q T (mkF m pc Ls (y :: x :: st)) := by
  obtain ⟨d, rfl, q1, q2⟩ := hd
  by_cases q : x = y
  · exact Wp.go (fun t kk => XT.acmpNo X.here hx rfl (hb hby d) rfl hx' hy' (XT.aa_ne_f q) kk) (kf q)
  · exact Wp.go (fun t kk => XT.acmpYes X.here hx rfl rfl (hb hby d) rfl hx' hy' (XT.aa_ne_t q) q1 q2 kk) (kt q)
theorem w_lswHit (X : Stand p l e R s m args below meth c T locs cells slots) (hx : p.tables.exec = Jvm.exec) (hby : c.code = bs) {x : Int32} {df : Int} {ps : Array (Int × Int)} {len : Nat} {a off : Int} (hd : In bs pc (.lookupswitch df ps) len nx) (hs : (ps.toList.zip (ps.toList.drop 1)).all (fun (a, next) => a.1 < next.1) = true) (hf : ps.find? (·.1 == x.toInt) = some (a, off)) (ho : 0 ≤ (pc : Int) + off) (ht : ((pc : Int) + off).toNat = tg) (k : Wp p e below s K N Q T (mkF m tg Ls st)) : Wp p e below s K N Q T (mkF m pc Ls (.int x :: st)) := by
  obtain ⟨d, -⟩ := hd; subst ht; exact Wp.go (fun t kk => X.lookupswitchHit hx (g := mkF m pc Ls (.int x :: st)) rfl rfl (hb hby d) hs hf ho t kk) k
theorem w_lswMiss (X : Stand p l e R s m args below meth c T locs cells slots) (hx : p.tables.exec = Jvm.exec) (hby : c.code = bs) {x : Int32} {df : Int} {ps : Array (Int × Int)} {len : Nat} (hd : In bs pc (.lookupswitch df ps) len nx) (hs : (ps.toList.zip (ps.toList.drop 1)).all (fun (a, next) => a.1 < next.1) = true) (hf : ps.find? (·.1 == x.toInt) = none) (ho : 0 ≤ (pc : Int) + df) (ht : ((pc : Int) + df).toNat = tg) (k : Wp p e below s K N Q T (mkF m tg Ls st)) : Wp p e below s K N Q T (mkF m pc Ls (.int x :: st)) := by
  obtain ⟨d, -⟩ := hd; subst ht; exact Wp.go (fun t kk => X.lookupswitchMiss hx (g := mkF m pc Ls (.int x :: st)) rfl rfl (hb hby d) hs hf ho t kk) k
theorem w_tswIn (X : Stand p l e R s m args below meth c T locs cells slots) (hx : p.tables.exec = Jvm.exec) (hby : c.code = bs) {x : Int32} {df lo hi : Int} {os : Array Int} {len : Nat} {off : Int} (hd : In bs pc (.tableswitch df lo hi os) len nx) (hin : ¬ (x.toInt < lo ∨ x.toInt > hi)) (hoff : os[(x.toInt - lo).toNat]? = some off) (ho : 0 ≤ (pc : Int) + off) (ht : ((pc : Int) + off).toNat = tg) (k : Wp p e below s K N Q T (mkF m tg Ls st)) : Wp p e below s K N Q T (mkF m pc Ls (.int x :: st)) := by
  obtain ⟨d, -⟩ := hd; exact Wp.go (fun t kk => XS.tswIn X.here hx rfl rfl (hb hby d) rfl hin hoff ho ht kk) k
theorem w_tswOut (X : Stand p l e R s m args below meth c T locs cells slots) (hx : p.tables.exec = Jvm.exec) (hby : c.code = bs) {x : Int32} {df lo hi : Int} {os : Array Int} {len : Nat} (hd : In bs pc (.tableswitch df lo hi os) len nx) (hout : x.toInt < lo ∨ x.toInt > hi) (ho : 0 ≤ (pc : Int) + df) (ht : ((pc : Int) + df).toNat = tg) (k : Wp p e below s K N Q T (mkF m tg Ls st)) : Wp p e below s K N Q T (mkF m pc Ls (.int x :: st)) := by
  obtain ⟨d, -⟩ := hd; exact Wp.go (fun t kk => XS.tswOut X.here hx rfl rfl (hb hby d) rfl hout ho ht kk) k
theorem own_ne32 {x z : Int32} {i : Int} (h : ¬ x = z) (hz : z.toInt = i) : i ≠ x.toInt := fun q => h (Int32.toInt_inj.mp (by rw [hz, q]))
theorem w_ifnonnullRef (X : Stand p l e R s m args below meth c T locs cells slots) (hx : p.tables.exec = Jvm.exec) (hby : c.code = bs) {a : Addr} (hd : Jm bs pc (.ifnonnull o) o nx tg) (k : Wp p e below s K N Q T (mkF m tg Ls st)) : Wp p e below s K N Q T (mkF m pc Ls (.ref a :: st)) := by
  obtain ⟨d, -, q1, q2⟩ := hd; exact Wp.go (fun t kk => XS.ifnonnullYes X.here hx rfl rfl (hb hby d) rfl q1 q2 kk) k
theorem w_ifnonnullNull (X : Stand p l e R s m args below meth c T locs cells slots) (hx : p.tables.exec = Jvm.exec) (hby : c.code = bs) (hd : Jm bs pc (.ifnonnull o) o nx tg) (k : Wp p e below s K N Q T (mkF m nx Ls st)) : Wp p e below s K N Q T (mkF m pc Ls (.null :: st)) := by
  obtain ⟨d, rfl, q1, q2⟩ := hd; exact Wp.go (fun t kk => XS.ifnonnullNo X.here hx rfl (hb hby d) rfl kk) k
theorem w_ifnullRef (X : Stand p l e R s m args below meth c T locs cells slots) (hx : p.tables.exec = Jvm.exec) (hby : c.code = bs) {a : Addr} (hd : Jm bs pc (.ifnull o) o nx tg) (k : Wp p e below s K N Q T (mkF m nx Ls st)) : Wp p e below s K N Q T (mkF m pc Ls (.ref a :: st)) := by
  obtain ⟨d, rfl, q1, q2⟩ := hd; exact Wp.go (fun t kk => XS.ifnullNo X.here hx rfl (hb hby d) rfl kk) k
theorem w_ifnullNull (X : Stand p l e R s m args below meth c T locs cells slots) (hx : p.tables.exec = Jvm.exec) (hby : c.code = bs) (hd : Jm bs pc (.ifnull o) o nx tg) (k : Wp p e below s K N Q T (mkF m tg Ls st)) : Wp p e below s K N Q T (mkF m pc Ls (.null :: st)) := by
  obtain ⟨d, -, q1, q2⟩ := hd; exact Wp.go (fun t kk => XS.ifnullYes X.here hx rfl rfl (hb hby d) rfl q1 q2 kk) k
theorem w_ldcI (X : Stand p l e R s m args below meth c T locs cells slots) (hx : p.tables.exec = Jvm.exec) (hby : c.code = bs) (hZ : Z.Warmed39 s.vm) {own : String} (hown : s.vm.findClass own = some m.cls) {index : Nat} {v : Int32} (w : (Cond.constant own index v).before a0 Z = true) (hd : In bs pc (.ldc index) 2 nx) (k : Wp p e below s K N Q T (mkF m nx Ls (.int v :: st))) : Wp p e below s K N Q T (mkF m pc Ls st) := by
  obtain ⟨d, rfl⟩ := hd; exact Wp.go (fun t kk => X.ldcInt hx hown (mvT hZ w) (g := mkF m pc Ls st) rfl (hb hby d) t kk) k
theorem w_ldcwI (X : Stand p l e R s m args below meth c T locs cells slots) (hx : p.tables.exec = Jvm.exec) (hby : c.code = bs) (hZ : Z.Warmed39 s.vm) {own : String} (hown : s.vm.findClass own = some m.cls) {index : Nat} {v : Int32} (w : (Cond.constant own index v).before a0 Z = true) (hd : In bs pc (.ldc_w index) 3 nx) (k : Wp p e below s K N Q T (mkF m nx Ls (.int v :: st))) : Wp p e below s K N Q T (mkF m pc Ls st) := by
  obtain ⟨d, rfl⟩ := hd; exact Wp.go (fun t kk => X.ldcWI hx hown (mvT hZ w) (g := mkF m pc Ls st) rfl (hb hby d) kk) k
theorem w_ldc2J (X : Stand p l e R s m args below meth c T locs cells slots) (hx : p.tables.exec = Jvm.exec) (hby : c.code = bs) (hZ : Z.Warmed39 s.vm) {own : String} (hown : s.vm.findClass own = some m.cls) {index : Nat} {v : Int64} (w : (Cond.constantLong own index v).before a0 Z = true) (hd : In bs pc (.ldc2_w index) 3 nx) (k : Wp p e below s K N Q T (mkF m nx Ls (.long v :: st))) : Wp p e below s K N Q T (mkF m pc Ls st) := by
  obtain ⟨d, rfl⟩ := hd; exact Wp.go (fun t kk => X.ldc2Long hx hown (mvT hZ w) (g := mkF m pc Ls st) rfl (hb hby d) t kk) k
theorem w_getS (X : Stand p l e R s m args below meth c T locs cells slots) (hx : p.tables.exec = Jvm.exec) (hby : c.code = bs) (hZ : Z.Warmed39 s.vm) {own : String} (hown : s.vm.findClass own = some m.cls) {R0 C n d host : String} {index : Nat} (w : (Cond.fieldLink own index R0 n d).before a0 Z = true ∨ (Cond.fieldLinkNest own index R0 n d host).before a0 Z = true) (via : Via Z R0 C n d) (eT : T.heap = h) {v : Value} (F : Sta Z h C n d v) (hd : In bs pc (.getstatic index) 3 nx) (k : ∀ T', Stand p l e R s m args below meth c T' locs cells slots → T'.heap = h → Wp p e below s K N Q T' (mkF m nx Ls (v :: st))) : Wp p e below s K N Q T (mkF m pc Ls st) := by
  obtain ⟨d, rfl⟩ := hd; obtain ⟨T', X', e', st'⟩ := getS2 X hx hZ hown w via eT F (g := mkF m pc Ls st) rfl (hb hby d); exact Wp.go st' (k T' X' e')
theorem w_getF (X : Stand p l e R s m args below meth c T locs cells slots) (hx : p.tables.exec = Jvm.exec) (hby : c.code = bs) (hZ : Z.Warmed39 s.vm) {own : String} (hown : s.vm.findClass own = some m.cls) {R0 C n d host : String} {index : Nat} (w : (Cond.fieldLink own index R0 n d).before a0 Z = true ∨ (Cond.fieldLinkNest own index R0 n d host).before a0 Z = true) (via : Via Z R0 C n d) (eT : T.heap = h) {a : Addr} {v : Value} (F : Fld Z h a C n d v) (hd : In bs pc (.getfield index) 3 nx) (k : ∀ T', Stand p l e R s m args below meth c T' locs cells slots → T'.heap = h → Wp p e below s K N Q T' (mkF m nx Ls (v :: st))) : Wp p e below s K N Q T (mkF m pc Ls (.ref a :: st)) := by
  obtain ⟨d, rfl⟩ := hd; obtain ⟨T', X', e', st'⟩ := getF X hx hZ hown w via eT F (g := mkF m pc Ls (.ref a :: st)) rfl rfl (hb hby d); exact Wp.go st' (k T' X' e')
theorem w_putF (X : Stand p l e R s m args below meth c T locs cells slots) (hx : p.tables.exec = Jvm.exec) (hby : c.code = bs) (hZ : Z.Warmed39 s.vm) {own : String} (hown : s.vm.findClass own = some m.cls) {R0 C n d host D : String} {index kk : Nat} {ty : FieldType} (w : (Cond.fieldLink own index R0 n d).before a0 Z = true ∨ (Cond.fieldLinkNest own index R0 n d host).before a0 Z = true) (via : Via Z R0 C n d) (eT : T.heap = h) {a : Addr} {v old : Value} (F : Fld Z h a C n d old) (E : Exa Z h a D) (Lw : (Cond.lays D C n d).before a0 Z = true ∨ ((Cond.laysFinal D C n d).before a0 Z = true ∧ own = C ∧ meth.name = "<init>")) (wi : (Cond.instantiable D kk).before a0 Z = true) (hty : parseFieldDescriptor d = some ty) (hn : narrow ty v = v) (hf : fits ty v = true) (hd : In bs pc (.putfield index) 3 nx) (k : ∀ T' h', Stand p l e R s m args below meth c T' (locs ++ [⟨a, Jvm.RoadKit.slotOf Z C n d⟩]) cells slots → T'.heap = h' → Wr h h' a (Jvm.RoadKit.slotOf Z C n d) v → Wp p e below s K N Q T' (mkF m nx Ls st)) : Wp p e below s K N Q T (mkF m pc Ls (v :: .ref a :: st)) := by
  obtain ⟨d, rfl⟩ := hd; obtain ⟨T', h', X', e', W', st'⟩ := putF X hx hZ hown w via eT F E Lw wi hty hn hf (g := mkF m pc Ls (v :: .ref a :: st)) rfl rfl (hb hby d); exact Wp.go st' (k T' h' X' e' W')
theorem w_putFN (X : Stand p l e R s m args below meth c T locs cells slots) (hx : p.tables.exec = Jvm.exec) (hby : c.code = bs) (hZ : Z.Warmed39 s.vm) {own : String} (hown : s.vm.findClass own = some m.cls) {R0 C n d D : String} {index kk : Nat} {ty : FieldType} (w : (Cond.fieldLink own index R0 n d).before a0 Z = true) (via : Via Z R0 C n d) (eT : T.heap = h) {a : Addr} {v v' old : Value} (F : Fld Z h a C n d old) (E : Exa Z h a D) (Lw : (Cond.lays D C n d).before a0 Z = true ∨ ((Cond.laysFinal D C n d).before a0 Z = true ∧ own = C ∧ meth.name = "<init>")) (wi : (Cond.instantiable D kk).before a0 Z = true) (hty : parseFieldDescriptor d = some ty) (hn : narrow ty v = v') (hf : fits ty v' = true) (hd : In bs pc (.putfield index) 3 nx) (k : ∀ T' h', Stand p l e R s m args below meth c T' (locs ++ [⟨a, Jvm.RoadKit.slotOf Z C n d⟩]) cells slots → T'.heap = h' → Wr h h' a (Jvm.RoadKit.slotOf Z C n d) v' → Wp p e below s K N Q T' (mkF m nx Ls st)) : Wp p e below s K N Q T (mkF m pc Ls (v :: .ref a :: st)) := by
  obtain ⟨d, rfl⟩ := hd; obtain ⟨T', h', X', e', W', st'⟩ := putFN X hx hZ hown w via eT F E Lw wi hty hn hf (g := mkF m pc Ls (v :: .ref a :: st)) rfl rfl (hb hby d); exact Wp.go st' (k T' h' X' e' W')
theorem w_newO (X : Stand p l e R s m args below meth c T locs cells slots) (hx : p.tables.exec = Jvm.exec) (hby : c.code = bs) (hZ : Z.Warmed39 s.vm) {own : String} (hown : s.vm.findClass own = some m.cls) {C : String} {index n : Nat} (w : (Cond.classLink own index C).before a0 Z = true) (wi : (Cond.instantiable C n).before a0 Z = true) (wz : (Cond.initialized C).before a0 Z = true) (eT : T.heap = h) (hd : In bs pc (.new index) 3 nx) (hc : cells + 1 ≤ R.cells) (hl : slots + n ≤ R.slots) (k : ∀ T' h' a, a = h.size → Stand p l e R s m args below meth c T' locs (cells + 1) (slots + n) → T'.heap = h' → Ext h h' → Exa Z h' a C → (∀ {D nm d : String} {ty : FieldType}, Laid Z a0 C D nm d → parseFieldDescriptor d = some ty → Fld Z h' a D nm d (defaultValue ty)) → Wp p e below s K N Q T' (mkF m nx Ls (.ref a :: st))) : Wp p e below s K N Q T (mkF m pc Ls st) := by
  obtain ⟨d, rfl⟩ := hd; obtain ⟨T', h', X', e', E', A', D', -, st'⟩ := newO X hx hZ hown w wi wz eT (g := mkF m pc Ls st) rfl (hb hby d) hc hl; exact Wp.go st' (k T' h' _ rfl X' e' E' A' D')
theorem w_newP (X : Stand p l e R s m args below meth c T locs cells slots) (hx : p.tables.exec = Jvm.exec) (hby : c.code = bs) (hZ : Z.Warmed39 s.vm) {aty : ArrayType} (w : (Cond.arrayClass (newarray.typeOf aty)).before a0 Z = true) (eT : T.heap = h) {n : Int32} (hd : In bs pc (.newarray aty) 2 nx) (hn : ¬ n < 0) (cap : Nat) (hcap : n.toNatClampNeg ≤ cap) (hbig : cap * 8 ≤ 536870912) (hc : cells + 1 ≤ R.cells) (hl : slots + cap ≤ R.slots) (k : ∀ T' h' a kA, a = h.size → Stand p l e R s m args below meth c T' locs (cells + 1) (slots + cap) → T'.heap = h' → Ext h h' → Arr Z h' a (newA kA (newarray.typeOf aty) n) (newarray.typeOf aty) → Wp p e below s K N Q T' (mkF m nx Ls (.ref a :: st))) : Wp p e below s K N Q T (mkF m pc Ls (.int n :: st)) := by
  obtain ⟨d, rfl⟩ := hd; obtain ⟨T', h', kA, X', e', E', A', st'⟩ := newP X hx hZ w eT (g := mkF m pc Ls (.int n :: st)) rfl (hb hby d) rfl hn hcap hbig hc hl; exact Wp.go st' (k T' h' _ kA rfl X' e' E' A')
theorem w_newPE (X : Stand p l e R s m args below meth c T locs cells slots) (hx : p.tables.exec = Jvm.exec) (hby : c.code = bs) (hZ : Z.Warmed39 s.vm) {aty : ArrayType} (w : (Cond.arrayClass (newarray.typeOf aty)).before a0 Z = true) (eT : T.heap = h) {n : Int32} (hd : In bs pc (.newarray aty) 2 nx) (hn : ¬ n < 0) (cap : Nat) (hcap : n.toNatClampNeg ≤ cap) (hbig : cap * 8 ≤ 536870912) (hc : cells + 1 ≤ R.cells) (hl : slots + cap ≤ R.slots) (ad : String) (had : "[" ++ (newarray.typeOf aty).toString = ad) (k : ∀ T' h' a kA, a = h.size → Stand p l e R s m args below meth c T' locs (cells + 1) (slots + cap) → T'.heap = h' → Ext h h' → Arr Z h' a (newA kA (newarray.typeOf aty) n) (newarray.typeOf aty) → Exa Z h' a ad → Wp p e below s K N Q T' (mkF m nx Ls (.ref a :: st))) : Wp p e below s K N Q T (mkF m pc Ls (.int n :: st)) := by
  obtain ⟨d, rfl⟩ := hd; obtain ⟨T', h', kA, X', e', E', A', I', st'⟩ := newPE X hx hZ w eT (g := mkF m pc Ls (.int n :: st)) rfl (hb hby d) rfl hn hcap hbig hc hl had; exact Wp.go st' (k T' h' _ kA rfl X' e' E' A' I')
theorem w_newRA (X : Stand p l e R s m args below meth c T locs cells slots) (hx : p.tables.exec = Jvm.exec) (hby : c.code = bs) (hZ : Z.Warmed39 s.vm) {own : String} (hown : s.vm.findClass own = some m.cls) {C : String} {ty : FieldType} {index : Nat} (hC : (FieldType.array ty).toString = C) (w1 : (Cond.classLink own index C).before a0 Z = true) (w2 : (Cond.arrayOver (.array ty)).before a0 Z = true) (eT : T.heap = h) {n : Int32} (hd : In bs pc (.anewarray index) 3 nx) (hn : ¬ n < 0) (cap : Nat) (hcap : n.toNatClampNeg ≤ cap) (hbig : cap * 8 ≤ 536870912) (hc : cells + 1 ≤ R.cells) (hl : slots + cap ≤ R.slots) (k : ∀ T' h' a kA, a = h.size → Stand p l e R s m args below meth c T' locs (cells + 1) (slots + cap) → T'.heap = h' → Ext h h' → Arr Z h' a (newA kA (.array ty) n) (.array ty) → OvrA Z kA ty C → Wp p e below s K N Q T' (mkF m nx Ls (.ref a :: st))) : Wp p e below s K N Q T (mkF m pc Ls (.int n :: st)) := by
  obtain ⟨d, rfl⟩ := hd; obtain ⟨T', h', kA, X', e', E', A', -, O', st'⟩ := newRA X hx hZ hown hC w1 w2 eT (g := mkF m pc Ls (.int n :: st)) rfl (hb hby d) rfl hn hcap hbig hc hl rfl; exact Wp.go st' (k T' h' _ kA rfl X' e' E' A' O')
theorem w_newR (X : Stand p l e R s m args below meth c T locs cells slots) (hx : p.tables.exec = Jvm.exec) (hby : c.code = bs) (hZ : Z.Warmed39 s.vm) {own : String} (hown : s.vm.findClass own = some m.cls) {C : String} {index : Nat} (w1 : (Cond.classLink own index C).before a0 Z = true) (w2 : (Cond.arrayOver (.object C)).before a0 Z = true) (eT : T.heap = h) {n : Int32} (hd : In bs pc (.anewarray index) 3 nx) (hn : ¬ n < 0) (cap : Nat) (hcap : n.toNatClampNeg ≤ cap) (hbig : cap * 8 ≤ 536870912) (hc : cells + 1 ≤ R.cells) (hl : slots + cap ≤ R.slots) (k : ∀ T' h' a kA, a = h.size → Stand p l e R s m args below meth c T' locs (cells + 1) (slots + cap) → T'.heap = h' → Ext h h' → Arr Z h' a (newA kA (.object C) n) (.object C) → Ovr Z kA C → Wp p e below s K N Q T' (mkF m nx Ls (.ref a :: st))) : Wp p e below s K N Q T (mkF m pc Ls (.int n :: st)) := by
  obtain ⟨d, rfl⟩ := hd; obtain ⟨T', h', kA, X', e', E', A', O', st'⟩ := newR X hx hZ hown w1 w2 eT (g := mkF m pc Ls (.int n :: st)) rfl (hb hby d) rfl hn hcap hbig hc hl; exact Wp.go st' (k T' h' _ kA rfl X' e' E' A' O')
theorem w_stI (X : Stand p l e R s m args below meth c T locs cells slots) (hx : p.tables.exec = Jvm.exec) (hby : c.code = bs) (hZ : Z.Warmed39 s.vm) (eT : T.heap = h) {a : Addr} {cl : Cell} (A : Arr Z h a cl .int) {j : Int32} {x : Int32} (hj : ¬ (j < 0 ∨ cl.slots.size ≤ j.toNatClampNeg)) (hd : In bs pc .iastore 1 nx) (k : ∀ T' h', Stand p l e R s m args below meth c T' (locs ++ [⟨a, j.toNatClampNeg⟩]) cells slots → T'.heap = h' → Wr h h' a j.toNatClampNeg (.int x) → Wp p e below s K N Q T' (mkF m nx Ls st)) : Wp p e below s K N Q T (mkF m pc Ls (.int x :: .int j :: .ref a :: st)) := by
  obtain ⟨d, rfl⟩ := hd; obtain ⟨T', h', X', e', W', st'⟩ := stI X hx hZ eT A hj (g := mkF m pc Ls (.int x :: .int j :: .ref a :: st)) rfl rfl (hb hby d); exact Wp.go st' (k T' h' X' e' W')
theorem w_stJ (X : Stand p l e R s m args below meth c T locs cells slots) (hx : p.tables.exec = Jvm.exec) (hby : c.code = bs) (hZ : Z.Warmed39 s.vm) (eT : T.heap = h) {a : Addr} {cl : Cell} (A : Arr Z h a cl .long) {j : Int32} {x : Int64} (hj : ¬ (j < 0 ∨ cl.slots.size ≤ j.toNatClampNeg)) (hd : In bs pc .lastore 1 nx) (k : ∀ T' h', Stand p l e R s m args below meth c T' (locs ++ [⟨a, j.toNatClampNeg⟩]) cells slots → T'.heap = h' → Wr h h' a j.toNatClampNeg (.long x) → Wp p e below s K N Q T' (mkF m nx Ls st)) : Wp p e below s K N Q T (mkF m pc Ls (.long x :: .int j :: .ref a :: st)) := by
  obtain ⟨d, rfl⟩ := hd; obtain ⟨T', h', X', e', W', st'⟩ := stJ X hx hZ eT A hj (g := mkF m pc Ls (.long x :: .int j :: .ref a :: st)) rfl rfl (hb hby d); exact Wp.go st' (k T' h' X' e' W')
theorem w_stC (X : Stand p l e R s m args below meth c T locs cells slots) (hx : p.tables.exec = Jvm.exec) (hby : c.code = bs) (hZ : Z.Warmed39 s.vm) (eT : T.heap = h) {a : Addr} {cl : Cell} (A : Arr Z h a cl .char) {j : Int32} {x : Int32} (hj : ¬ (j < 0 ∨ cl.slots.size ≤ j.toNatClampNeg)) (hd : In bs pc .castore 1 nx) (k : ∀ T' h', Stand p l e R s m args below meth c T' (locs ++ [⟨a, j.toNatClampNeg⟩]) cells slots → T'.heap = h' → Wr h h' a j.toNatClampNeg (.int (nar .char x)) → Wp p e below s K N Q T' (mkF m nx Ls st)) : Wp p e below s K N Q T (mkF m pc Ls (.int x :: .int j :: .ref a :: st)) := by
  obtain ⟨d, rfl⟩ := hd; obtain ⟨T', h', X', e', W', st'⟩ := stC X hx hZ eT A hj (g := mkF m pc Ls (.int x :: .int j :: .ref a :: st)) rfl rfl (hb hby d); exact Wp.go st' (k T' h' X' e' W')
theorem w_stB (X : Stand p l e R s m args below meth c T locs cells slots) (hx : p.tables.exec = Jvm.exec) (hby : c.code = bs) (hZ : Z.Warmed39 s.vm) (eT : T.heap = h) {a : Addr} {cl : Cell} (A : Arr Z h a cl .byte) {j : Int32} {x : Int32} (hj : ¬ (j < 0 ∨ cl.slots.size ≤ j.toNatClampNeg)) (hd : In bs pc .bastore 1 nx) (k : ∀ T' h', Stand p l e R s m args below meth c T' (locs ++ [⟨a, j.toNatClampNeg⟩]) cells slots → T'.heap = h' → Wr h h' a j.toNatClampNeg (.int (nar .byte x)) → Wp p e below s K N Q T' (mkF m nx Ls st)) : Wp p e below s K N Q T (mkF m pc Ls (.int x :: .int j :: .ref a :: st)) := by
  obtain ⟨d, rfl⟩ := hd; obtain ⟨T', h', X', e', W', st'⟩ := stB X hx hZ eT A hj (g := mkF m pc Ls (.int x :: .int j :: .ref a :: st)) rfl rfl (hb hby d); exact Wp.go st' (k T' h' X' e' W')
theorem w_stZ (X : Stand p l e R s m args below meth c T locs cells slots) (hx : p.tables.exec = Jvm.exec) (hby : c.code = bs) (hZ : Z.Warmed39 s.vm) (eT : T.heap = h) {a : Addr} {cl : Cell} (A : Arr Z h a cl .boolean) {j : Int32} {x : Int32} (hj : ¬ (j < 0 ∨ cl.slots.size ≤ j.toNatClampNeg)) (hd : In bs pc .bastore 1 nx) (k : ∀ T' h', Stand p l e R s m args below meth c T' (locs ++ [⟨a, j.toNatClampNeg⟩]) cells slots → T'.heap = h' → Wr h h' a j.toNatClampNeg (.int (nar .boolean x)) → Wp p e below s K N Q T' (mkF m nx Ls st)) : Wp p e below s K N Q T (mkF m pc Ls (.int x :: .int j :: .ref a :: st)) := by
  obtain ⟨d, rfl⟩ := hd; obtain ⟨T', h', X', e', W', st'⟩ := stZ X hx hZ eT A hj (g := mkF m pc Ls (.int x :: .int j :: .ref a :: st)) rfl rfl (hb hby d); exact Wp.go st' (k T' h' X' e' W')
theorem w_stR (X : Stand p l e R s m args below meth c T locs cells slots) (hx : p.tables.exec = Jvm.exec) (hby : c.code = bs) (hZ : Z.Warmed39 s.vm) (eT : T.heap = h) {a : Addr} {cl : Cell} {ty : FieldType} (A : Arr Z h a cl ty) {j : Int32} {v : Value} (hj : ¬ (j < 0 ∨ cl.slots.size ≤ j.toNatClampNeg)) (hty : ty.isReference = true) (F : Sto Z h a v) (hd : In bs pc .aastore 1 nx) (k : ∀ T' h', Stand p l e R s m args below meth c T' (locs ++ [⟨a, j.toNatClampNeg⟩]) cells slots → T'.heap = h' → Wr h h' a j.toNatClampNeg v → Wp p e below s K N Q T' (mkF m nx Ls st)) : Wp p e below s K N Q T (mkF m pc Ls (v :: .int j :: .ref a :: st)) := by
  obtain ⟨d, rfl⟩ := hd; obtain ⟨T', h', X', e', W', st'⟩ := stR X hx hZ eT A hj hty F (g := mkF m pc Ls (v :: .int j :: .ref a :: st)) rfl rfl (hb hby d); exact Wp.go st' (k T' h' X' e' W')
theorem w_iaload (X : Stand p l e R s m args below meth c T locs cells slots) (hx : p.tables.exec = Jvm.exec) (hby : c.code = bs) (hZ : Z.Warmed39 s.vm) (eT : T.heap = h) {a : Addr} {cl : Cell} (A : Arr Z h a cl .int) {j : Int32} {v : Value} (hj : ¬ (j < 0 ∨ cl.slots.size ≤ j.toNatClampNeg)) (hv : cl.slots[j.toNatClampNeg]? = some v) (hd : In bs pc .iaload 1 nx) (k : Wp p e below s K N Q T (mkF m nx Ls (v :: st))) : Wp p e below s K N Q T (mkF m pc Ls (.int j :: .ref a :: st)) := by
  obtain ⟨d, rfl⟩ := hd; exact Wp.go (fun t kk => X.iaload hx (by rw [eT]; exact A.1) (State.isArrayOf_alike hZ.alike A.2.1) A.2.2 hj hv (g := mkF m pc Ls (.int j :: .ref a :: st)) rfl rfl (hb hby d) t kk) k
theorem w_laload (X : Stand p l e R s m args below meth c T locs cells slots) (hx : p.tables.exec = Jvm.exec) (hby : c.code = bs) (hZ : Z.Warmed39 s.vm) (eT : T.heap = h) {a : Addr} {cl : Cell} (A : Arr Z h a cl .long) {j : Int32} {v : Value} (hj : ¬ (j < 0 ∨ cl.slots.size ≤ j.toNatClampNeg)) (hv : cl.slots[j.toNatClampNeg]? = some v) (hd : In bs pc .laload 1 nx) (k : Wp p e below s K N Q T (mkF m nx Ls (v :: st))) : Wp p e below s K N Q T (mkF m pc Ls (.int j :: .ref a :: st)) := by
  obtain ⟨d, rfl⟩ := hd; exact Wp.go (fun t kk => X.laload hx (by rw [eT]; exact A.1) (State.isArrayOf_alike hZ.alike A.2.1) A.2.2 hj hv (g := mkF m pc Ls (.int j :: .ref a :: st)) rfl rfl (hb hby d) t kk) k
theorem w_caload (X : Stand p l e R s m args below meth c T locs cells slots) (hx : p.tables.exec = Jvm.exec) (hby : c.code = bs) (hZ : Z.Warmed39 s.vm) (eT : T.heap = h) {a : Addr} {cl : Cell} (A : Arr Z h a cl .char) {j : Int32} {v : Value} (hj : ¬ (j < 0 ∨ cl.slots.size ≤ j.toNatClampNeg)) (hv : cl.slots[j.toNatClampNeg]? = some v) (hd : In bs pc .caload 1 nx) (k : Wp p e below s K N Q T (mkF m nx Ls (v :: st))) : Wp p e below s K N Q T (mkF m pc Ls (.int j :: .ref a :: st)) := by
  obtain ⟨d, rfl⟩ := hd; exact Wp.go (fun t kk => X.caload hx (by rw [eT]; exact A.1) (State.isArrayOf_alike hZ.alike A.2.1) A.2.2 hj hv (g := mkF m pc Ls (.int j :: .ref a :: st)) rfl rfl (hb hby d) t kk) k
theorem w_baload (X : Stand p l e R s m args below meth c T locs cells slots) (hx : p.tables.exec = Jvm.exec) (hby : c.code = bs) (hZ : Z.Warmed39 s.vm) (eT : T.heap = h) {a : Addr} {cl : Cell} (A : Arr Z h a cl .byte) {j : Int32} {v : Value} (hj : ¬ (j < 0 ∨ cl.slots.size ≤ j.toNatClampNeg)) (hv : cl.slots[j.toNatClampNeg]? = some v) (hd : In bs pc .baload 1 nx) (k : Wp p e below s K N Q T (mkF m nx Ls (v :: st))) : Wp p e below s K N Q T (mkF m pc Ls (.int j :: .ref a :: st)) := by
  obtain ⟨d, rfl⟩ := hd; exact Wp.go (fun t kk => X.baloadBytes hx (by rw [eT]; exact A.1) (State.isArrayOf_alike hZ.alike A.2.1) A.2.2 hj hv (g := mkF m pc Ls (.int j :: .ref a :: st)) rfl rfl (hb hby d) t kk) k
theorem w_aaload (X : Stand p l e R s m args below meth c T locs cells slots) (hx : p.tables.exec = Jvm.exec) (hby : c.code = bs) (hZ : Z.Warmed39 s.vm) (eT : T.heap = h) {a : Addr} {cl : Cell} {ty : FieldType} (A : Arr Z h a cl ty) (hty : ty.isReference = true) {j : Int32} {v : Value} (hj : ¬ (j < 0 ∨ cl.slots.size ≤ j.toNatClampNeg)) (hv : cl.slots[j.toNatClampNeg]? = some v) (hd : In bs pc .aaload 1 nx) (k : Wp p e below s K N Q T (mkF m nx Ls (v :: st))) : Wp p e below s K N Q T (mkF m pc Ls (.int j :: .ref a :: st)) := by
  obtain ⟨d, rfl⟩ := hd; exact Wp.go (fun t kk => X.aaload hx (by rw [eT]; exact A.1) (State.isArrayOf_alike hZ.alike A.2.1) hty A.2.2 hj hv (g := mkF m pc Ls (.int j :: .ref a :: st)) rfl rfl (hb hby d) t kk) k
theorem w_arraylength (X : Stand p l e R s m args below meth c T locs cells slots) (hx : p.tables.exec = Jvm.exec) (hby : c.code = bs) (hZ : Z.Warmed39 s.vm) (eT : T.heap = h) {a : Addr} {cl : Cell} {ty : FieldType} (A : Arr Z h a cl ty) {z : Int32} (hz : cl.slots.size.toInt32 = z) (hd : In bs pc .arraylength 1 nx) (k : Wp p e below s K N Q T (mkF m nx Ls (.int z :: st))) : Wp p e below s K N Q T (mkF m pc Ls (.ref a :: st)) := by
  obtain ⟨d, rfl⟩ := hd; subst hz; exact Wp.go (fun t kk => X.arraylength hx (by rw [eT]; exact A.1) (State.isArrayOf_alike hZ.alike A.2.1) (g := mkF m pc Ls (.ref a :: st)) rfl rfl (hb hby d) t kk) k
theorem w_initO (X : Stand p l e R s m args below meth c T locs cells slots) (hx : p.tables.exec = Jvm.exec) (hby : c.code = bs) (hZ : Z.Warmed39 s.vm) {own : String} (hown : s.vm.findClass own = some m.cls) (hml : Ls.size = c.maxLocals) {idx : Nat} (w1 : (Cond.methodLink own idx Lib.objectInit).before a0 Z = true) (w2 : (Cond.instanceMethod Lib.objectInit).before a0 Z = true) (w3 : (Cond.code Lib.objectInit ⟨#[0xb1]⟩ 1 none).before a0 Z = true) (eT : T.heap = h) {a : Addr} (hd : In bs pc (.invokespecial idx) 3 nx) (hf : 1 ≤ R.frames) {Wd : Nat} (hW : (st.map fun v => v.category).sum = Wd) (hl : Wd + 12 ≤ R.locals) (k : ∀ T', Stand p l e R s m args below meth c T' locs cells slots → T'.heap = h → Wp p e below s K N Q T' (mkF m nx Ls st)) : Wp p e below s K N Q T (mkF m pc Ls (.ref a :: st)) := by
  obtain ⟨d, rfl⟩ := hd; obtain ⟨T', X', e', st'⟩ := initO X hx hZ hown w1 w2 w3 eT (g := mkF m pc Ls (.ref a :: st)) rfl hml rfl (hb hby d) hf (W := Wd) (by show 2 * 0 + _ ≤ _; omega) hl; exact Wp.go st' (k T' X' e')
/-- a body's contract: called on as' at the heap h it returns as Q says, within the room rm -/
def Con (l : Launch) (Z : State) (y : MethodName) (bs : ByteArray) (ml : Nat) (rt : Option FieldType) (rm : Room) (as' : Array Value) (h : Heap) (Q : Option Value → Heap → List Loc → Prop) : Prop :=
  ∀ ws : List Jvm.Cond, MetFree l y (head1 (Jvm.Cond.code y bs ml rt :: ws) rm) (fun a U => a = as' ∧ Z.Warmed39 U.vm ∧ U.heap = h) (fun _ _ _ _ _ => True) (fun _ U o U' => ∃ v L, o = .returned v ∧ Q v U'.heap L ∧ FrameEnd U o U' L rm.cells rm.slots)
theorem w_body {y : MethodName} {ml : Nat} {rt : Option FieldType} {rm : Room} {as' : Array Value} (hy : plainFor y = true) (hf : ∀ m, entryFrame m as' ml = mkF m 0 Ls [])
    (k : ∀ (p : Program) (e : Env) (s : State) (m : MethodId) (below : List Frame) (meth : Method) (c : Code) (T : State), Stand p l e rm s m as' below meth c T [] 0 0 → p.tables.exec = Jvm.exec → c.code = bs → c.maxLocals = ml → s.vm.findClass y.cls = some m.cls → meth.name = y.name → meth.sig.returnType = rt → meth.locks = false → Z.Warmed39 s.vm → T.heap = h → Wp p e below s rm.cells rm.slots Q T (mkF m 0 Ls [])) : Con l Z y bs ml rt rm as' h Q := by
  intro ws
  refine MetFree.of_bodySF hy hisR ?_
  intro p e s m args below meth c s₁ Bd hml0 hP hK
  obtain ⟨rfl, hZ, hh⟩ := hP
  have e0 : s₁.heap = h := by rw [← hh, Bd.state]; rfl
  rw [hf m]
  exact k p e s m below meth c s₁ (Stand.of_body Bd) Bd.exec Bd.bytes hml0 (findClass_of_methodNamed Bd.named) (name_of_methodNamed Bd.named Bd.method).1 Bd.returns (BodyLoose.notSynchronized Bd) hZ e0
/-- what a call leaves -/
def Called (p : Program) (l : Launch) (e : Env) (R : Room) (s : State) (m : MethodId) (args : Array Value) (below : List Frame) (meth : Method) (c : Code) (T : State) (locs : List Loc) (cells slots : Nat) (rm : Room) (Qc : Option Value → Heap → List Loc → Prop) (pc nx : Nat) (Ls : Array Slot) (stk rest : List Value) : Prop :=
  ∃ v T' L, Stand p l e R s m args below meth c T' (locs ++ L) (cells + rm.cells) (slots + rm.slots) ∧ Qc v T'.heap L ∧ Steps p.tables e below (T.setTop (mkF m pc Ls stk)) (T'.setTop (mkF m nx Ls (v.toList ++ rest)))
theorem call_S (X : Stand p l e R s m args below meth c T locs cells slots) (hx : p.tables.exec = Jvm.exec) (hby : c.code = bs) (hZ : Z.Warmed39 s.vm) {own : String} (hown : s.vm.findClass own = some m.cls) {y : MethodName} {ml : Nat} {rt : Option FieldType} {rm : Room} {as' : Array Value} {Qc : Option Value → Heap → List Loc → Prop} {index : Nat} {argsL rest : List Value} {Wd : Nat} {bs' : ByteArray} (w1 : (Cond.methodLink own index y).before a0 Z = true) (w2 : (Cond.static y).before a0 Z = true) (wz : (Cond.initialized y.cls).before a0 Z = true) (wc : (Cond.code y bs' ml rt).before a0 Z = true) (hy : y.cls ≠ "java/lang/invoke/MethodHandle" ∧ y.cls ≠ "java/lang/invoke/VarHandle") (con : Con l Z y bs' ml rt rm as' h Qc) (ha : argsL.toArray = as') (hd : In bs pc (.invokestatic index) 3 nx) (hsz : Ls.size = c.maxLocals) (hlen : ∀ sig, parseMethodDescriptor y.desc = some sig → argsL.length = sig.parameters.length) (hW : (rest.map fun v => v.category).sum = Wd) (hfr : rm.frames + 1 ≤ R.frames) (hlo : Wd + (ml + 11) + rm.locals ≤ R.locals) (hce : cells + rm.cells ≤ R.cells) (hso : slots + rm.slots ≤ R.slots) (eT : T.heap = h) : Called p l e R s m args below meth c T locs cells slots rm Qc pc nx Ls (argsL.reverse ++ rest) rest := by
  obtain ⟨d, rfl⟩ := hd
  obtain ⟨v, vm, ⟨T', L', k', n'⟩, -, X', ⟨L, q, l', y', z'⟩, st'⟩ := Jvm.LawKit.callS X hx (y := y) hown (mvT hZ w1) (mvT hZ w2) (mvT hZ wz) (mvT hZ wc) hy (backOf (W := Wd) (con []) hZ wc wz hfr hlo) (g := mkF m pc Ls (argsL.reverse ++ rest)) rfl hsz (argsL := argsL) (rest := rest) hlen rfl (by show 2 * 0 + _ ≤ _; omega) (hb hby d) (fun _ _ => ⟨ha, eT, hce, hso⟩)
  dsimp only [Pt.U, Pt.locs, Pt.cells, Pt.slots] at X' l' y' z' st' q
  subst l' y' z'
  exact ⟨v, T', L, X', q, st' _ (Steps.refl _)⟩
theorem call_N (X : Stand p l e R s m args below meth c T locs cells slots) (hx : p.tables.exec = Jvm.exec) (hby : c.code = bs) (hZ : Z.Warmed39 s.vm) {own : String} (hown : s.vm.findClass own = some m.cls) {y : MethodName} {ml : Nat} {rm : Room} {as' : Array Value} {Qc : Option Value → Heap → List Loc → Prop} {index : Nat} {argsL rest : List Value} {Wd : Nat} {bs' : ByteArray} {a : Addr} (hn : y.name = "<init>") (w1 : (Cond.methodLink own index y).before a0 Z = true) (w2 : (Cond.instanceMethod y).before a0 Z = true) (wz : (Cond.initialized y.cls).before a0 Z = true) (wc : (Cond.code y bs' ml none).before a0 Z = true) (hy : y.cls ≠ "java/lang/invoke/MethodHandle" ∧ y.cls ≠ "java/lang/invoke/VarHandle") (con : Con l Z y bs' ml none rm as' h Qc) (ha : (.ref a :: argsL).toArray = as') (hd : In bs pc (.invokespecial index) 3 nx) (hsz : Ls.size = c.maxLocals) (hlen : ∀ sig, parseMethodDescriptor y.desc = some sig → argsL.length = sig.parameters.length) (hW : (rest.map fun v => v.category).sum = Wd) (hfr : rm.frames + 1 ≤ R.frames) (hlo : Wd + (ml + 11) + rm.locals ≤ R.locals) (hce : cells + rm.cells ≤ R.cells) (hso : slots + rm.slots ≤ R.slots) (eT : T.heap = h) : Called p l e R s m args below meth c T locs cells slots rm Qc pc nx Ls (argsL.reverse ++ .ref a :: rest) rest := by
  obtain ⟨d, rfl⟩ := hd
  obtain ⟨v, vm, ⟨T', L', k', n'⟩, -, X', ⟨L, q, l', y', z'⟩, st'⟩ := X.specialBack hx (y := y) hn hown (mvT hZ w1) (mvT hZ w2) (mvT hZ wc) hy (backOf (W := Wd) (con []) hZ wc wz hfr hlo) (g := mkF m pc Ls (argsL.reverse ++ .ref a :: rest)) rfl hsz (Steps.refl _) (a := a) (argsL := argsL) (rest := rest) hlen rfl (by show 2 * 0 + _ ≤ _; omega) (hb hby d) (fun _ _ => ⟨ha, eT, hce, hso⟩)
  dsimp only [Pt.U, Pt.locs, Pt.cells, Pt.slots] at X' l' y' z' st' q
  subst l' y' z'
  exact ⟨v, T', L, X', q, st'⟩
theorem call_V (X : Stand p l e R s m args below meth c T locs cells slots) (hx : p.tables.exec = Jvm.exec) (hby : c.code = bs) (hZ : Z.Warmed39 s.vm) {own : String} (hown : s.vm.findClass own = some m.cls) {y : MethodName} {ml : Nat} {rt : Option FieldType} {rm : Room} {as' : Array Value} {Qc : Option Value → Heap → List Loc → Prop} {index : Nat} {argsL rest : List Value} {Wd : Nat} {bs' : ByteArray} {a : Addr} {C : String} (w1 : (Cond.methodLink own index y).before a0 Z = true) (w2 : (Cond.declares y).before a0 Z = true) (w3 : (Cond.selects C y y).before a0 Z = true) (w4 : (Cond.instanceMethod y).before a0 Z = true) (wz : (Cond.initialized y.cls).before a0 Z = true) (wc : (Cond.code y bs' ml rt).before a0 Z = true) (hy : y.cls ≠ "java/lang/invoke/MethodHandle" ∧ y.cls ≠ "java/lang/invoke/VarHandle") (E : Exa Z h a C) (con : Con l Z y bs' ml rt rm as' h Qc) (ha : (.ref a :: argsL).toArray = as') (hd : In bs pc (.invokevirtual index) 3 nx) (hsz : Ls.size = c.maxLocals) (hlen : ∀ sig, parseMethodDescriptor y.desc = some sig → argsL.length = sig.parameters.length) (hW : (rest.map fun v => v.category).sum = Wd) (hfr : rm.frames + 1 ≤ R.frames) (hlo : Wd + (ml + 11) + rm.locals ≤ R.locals) (hce : cells + rm.cells ≤ R.cells) (hso : slots + rm.slots ≤ R.slots) (eT : T.heap = h) : Called p l e R s m args below meth c T locs cells slots rm Qc pc nx Ls (argsL.reverse ++ .ref a :: rest) rest := by
  obtain ⟨d, rfl⟩ := hd
  obtain ⟨cq, kq, qa, qb, qc⟩ := isOf hZ eT E
  obtain ⟨v, vm, ⟨T', L', k', n'⟩, -, X', ⟨L, q, l', y', z'⟩, st'⟩ := X.virtualBack hx (y := y) (z := y) hown (mvT hZ w1) (mvT hZ w2) (notFace_of_selects (args := #[]) (mvT hZ w3)) (mvT hZ w3) (mvT hZ w4) hy (backOf (W := Wd) (con []) hZ wc wz hfr hlo) qa qc (g := mkF m pc Ls (argsL.reverse ++ .ref a :: rest)) rfl hsz (Steps.refl _) (argsL := argsL) (rest := rest) hlen rfl (by show 2 * 0 + _ ≤ _; omega) (hb hby d) (fun _ _ => ⟨ha, eT, hce, hso⟩)
  dsimp only [Pt.U, Pt.locs, Pt.cells, Pt.slots] at X' l' y' z' st' q
  subst l' y' z'
  exact ⟨v, T', L, X', q, st'⟩
theorem call_U (X : Stand p l e R s m args below meth c T locs cells slots) (hx : p.tables.exec = Jvm.exec) (hby : c.code = bs) (hZ : Z.Warmed39 s.vm) {own : String} (hown : s.vm.findClass own = some m.cls) {y : MethodName} {ml : Nat} {rt : Option FieldType} {rm : Room} {as' : Array Value} {Qc : Option Value → Heap → List Loc → Prop} {index : Nat} {argsL rest : List Value} {Wd : Nat} {bs' : ByteArray} {x : MethodName} {a : Addr} {C owner : String} (w1 : (Cond.methodLink own index x).before a0 Z = true) (w2 : (Cond.sameMethod x.cls owner x.name x.desc).before a0 Z = true) (w5 : (Cond.declares ⟨owner, x.name, x.desc⟩).before a0 Z = true) (ho : owner ≠ "java/lang/invoke/MethodHandle" ∧ owner ≠ "java/lang/invoke/VarHandle") (w3 : (Cond.selects C x y).before a0 Z = true) (w4 : (Cond.instanceMethod y).before a0 Z = true) (wz : (Cond.initialized y.cls).before a0 Z = true) (wc : (Cond.code y bs' ml rt).before a0 Z = true) (E : Exa Z h a C) (con : Con l Z y bs' ml rt rm as' h Qc) (ha : (.ref a :: argsL).toArray = as') (hd : In bs pc (.invokevirtual index) 3 nx) (hsz : Ls.size = c.maxLocals) (hlen : ∀ sig, parseMethodDescriptor x.desc = some sig → argsL.length = sig.parameters.length) (hW : (rest.map fun v => v.category).sum = Wd) (hfr : rm.frames + 1 ≤ R.frames) (hlo : Wd + (ml + 11) + rm.locals ≤ R.locals) (hce : cells + rm.cells ≤ R.cells) (hso : slots + rm.slots ≤ R.slots) (eT : T.heap = h) : Called p l e R s m args below meth c T locs cells slots rm Qc pc nx Ls (argsL.reverse ++ .ref a :: rest) rest := by
  obtain ⟨d, rfl⟩ := hd
  obtain ⟨cq, kq, qa, qb, qc⟩ := isOf hZ eT E
  obtain ⟨v, vm, ⟨T', L', k', n'⟩, -, X', ⟨L, q, l', y', z'⟩, st'⟩ := X.virtualBackUp hx (x := x) (y := y) hown (mvT hZ w1) (mvT hZ w2) (mvT hZ w5) ho (mvT hZ w3) (mvT hZ w4) (backOf (W := Wd) (con []) hZ wc wz hfr hlo) qa qc (g := mkF m pc Ls (argsL.reverse ++ .ref a :: rest)) rfl hsz (Steps.refl _) (argsL := argsL) (rest := rest) hlen rfl (by show 2 * 0 + _ ≤ _; omega) (hb hby d) (fun _ _ => ⟨ha, eT, hce, hso⟩)
  dsimp only [Pt.U, Pt.locs, Pt.cells, Pt.slots] at X' l' y' z' st' q
  subst l' y' z'
  exact ⟨v, T', L, X', q, st'⟩
theorem call_P (X : Stand p l e R s m args below meth c T locs cells slots) (hx : p.tables.exec = Jvm.exec) (hby : c.code = bs) (hZ : Z.Warmed39 s.vm) {own : String} (hown : s.vm.findClass own = some m.cls) {y : MethodName} {ml : Nat} {rt : Option FieldType} {rm : Room} {as' : Array Value} {Qc : Option Value → Heap → List Loc → Prop} {index : Nat} {argsL rest : List Value} {Wd : Nat} {bs' : ByteArray} {a : Addr} {C : String} {kI : Nat} (w1 : (Cond.methodLink own index y).before a0 Z = true) (w2 : (Cond.instanceMethod y).before a0 Z = true) (wp : (Cond.privateMethod y).before a0 Z = true) (wi : (Cond.instantiable y.cls kI).before a0 Z = true) (wz : (Cond.initialized y.cls).before a0 Z = true) (wc : (Cond.code y bs' ml rt).before a0 Z = true) (hy : y.cls ≠ "java/lang/invoke/MethodHandle" ∧ y.cls ≠ "java/lang/invoke/VarHandle") (E : Exa Z h a C) (con : Con l Z y bs' ml rt rm as' h Qc) (ha : (.ref a :: argsL).toArray = as') (hd : In bs pc (.invokevirtual index) 3 nx) (hsz : Ls.size = c.maxLocals) (hlen : ∀ sig, parseMethodDescriptor y.desc = some sig → argsL.length = sig.parameters.length) (hW : (rest.map fun v => v.category).sum = Wd) (hfr : rm.frames + 1 ≤ R.frames) (hlo : Wd + (ml + 11) + rm.locals ≤ R.locals) (hce : cells + rm.cells ≤ R.cells) (hso : slots + rm.slots ≤ R.slots) (eT : T.heap = h) : Called p l e R s m args below meth c T locs cells slots rm Qc pc nx Ls (argsL.reverse ++ .ref a :: rest) rest := by
  obtain ⟨d, rfl⟩ := hd
  obtain ⟨cq, qa, qb⟩ := E.cell
  have hpv := Cond.privateMethod_at (mvP hZ wp (args := args))
  have hin : (Cond.instanceMethod y).before args s = true := mvT hZ w2
  obtain ⟨ci, ki, hi1, hi2, -, hi4, -, -⟩ := Cond.instantiable_spec (show (Cond.instantiable y.cls kI).before args s = true from mvT hZ wi)
  have hsel : (Cond.selects y.cls y y).before args s = true := Jvm.Stand.selects_self_of_private hi1 hi2 (by rw [Bool.or_eq_false_iff] at hi4; exact hi4.1) hpv hin hy
  obtain ⟨v, vm, ⟨T', L', k', n'⟩, -, X', ⟨L, q, l', y', z'⟩, st'⟩ := X.privateBack hx (y := y) hown (mvT hZ w1) hin hsel hpv (mvT hZ wc) hy (backOf (W := Wd) (con []) hZ wc wz hfr hlo) (g := mkF m pc Ls (argsL.reverse ++ .ref a :: rest)) rfl hsz (Steps.refl _) (a := a) (by rw [eT]; exact qa) qb (argsL := argsL) (rest := rest) hlen rfl (by show 2 * 0 + _ ≤ _; omega) (hb hby d) (fun _ _ => ⟨ha, eT, hce, hso⟩)
  dsimp only [Pt.U, Pt.locs, Pt.cells, Pt.slots] at X' l' y' z' st' q
  subst l' y' z'
  exact ⟨v, T', L, X', q, st'⟩
theorem call_NK (X : Stand p l e R s m args below meth c T locs cells slots) (hx : p.tables.exec = Jvm.exec) (hby : c.code = bs) (hZ : Z.Warmed39 s.vm) {own : String} (hown : s.vm.findClass own = some m.cls) {y : MethodName} {ml ck cs : Nat} {bs' : ByteArray} {as' : Array Value} {Qc : Option Value → Heap → List Loc → Prop} {index : Nat} {argsL rest : List Value} {Wd : Nat} {a : Addr} (hn : y.name = "<init>") (w1 : (Cond.methodLink own index y).before a0 Z = true) (w2 : (Cond.instanceMethod y).before a0 Z = true) (wc : (Cond.code y bs' ml none).before a0 Z = true) (hy : y.cls ≠ "java/lang/invoke/MethodHandle" ∧ y.cls ≠ "java/lang/invoke/VarHandle") (hK : Back l R p e below s args y 3 Wd (fun P a => a = as' ∧ P.U.heap = h ∧ P.cells + ck ≤ R.cells ∧ P.slots + cs ≤ R.slots) (fun P _ v B => ∃ L, Qc v B.U.heap L ∧ B.locs = P.locs ++ L ∧ B.cells = P.cells + ck ∧ B.slots = P.slots + cs)) (ha : (.ref a :: argsL).toArray = as') (hd : In bs pc (.invokespecial index) 3 nx) (hsz : Ls.size = c.maxLocals) (hlen : ∀ sig, parseMethodDescriptor y.desc = some sig → argsL.length = sig.parameters.length) (hW : (rest.map fun v => v.category).sum = Wd) (hce : cells + ck ≤ R.cells) (hso : slots + cs ≤ R.slots) (eT : T.heap = h) : Called p l e R s m args below meth c T locs cells slots ({ frames := 0, cells := ck, slots := cs, locals := 0 } : Room) Qc pc nx Ls (argsL.reverse ++ .ref a :: rest) rest := by
  obtain ⟨d, rfl⟩ := hd
  obtain ⟨v, vm, ⟨T', L', k', n'⟩, -, X', ⟨L, q, l', y', z'⟩, st'⟩ := X.specialBack hx (y := y) hn hown (mvT hZ w1) (mvT hZ w2) (mvT hZ wc) hy hK (g := mkF m pc Ls (argsL.reverse ++ .ref a :: rest)) rfl hsz (Steps.refl _) (a := a) (argsL := argsL) (rest := rest) hlen rfl (by show 2 * 0 + _ ≤ _; omega) (hb hby d) (fun _ _ => ⟨ha, eT, hce, hso⟩)
  dsimp only [Pt.U, Pt.locs, Pt.cells, Pt.slots] at X' l' y' z' st' q
  subst l' y' z'
  exact ⟨v, T', L, X', q, st'⟩
/-- behind a call -/
theorem w_called {rm : Room} {Qc : Option Value → Heap → List Loc → Prop} {stk rest : List Value} (hc : Called p l e R s m args below meth c T locs cells slots rm Qc pc nx Ls stk rest)
    (k : ∀ v T' L, Stand p l e R s m args below meth c T' (locs ++ L) (cells + rm.cells) (slots + rm.slots) → Qc v T'.heap L → Wp p e below s K N Q T' (mkF m nx Ls (v.toList ++ rest))) : Wp p e below s K N Q T (mkF m pc Ls stk) := by
  obtain ⟨v, T', L, X', q, st'⟩ := hc; exact Wp.tr st' (k v T' L X' q)
/-- behind a call that writes nothing and makes nothing -/
theorem w_calledp {rm : Room} {w : Value} {stk rest : List Value} (hc : Called p l e R s m args below meth c T locs cells slots rm (fun v h' L => v = some w ∧ h' = h ∧ L = []) pc nx Ls stk rest) (h1 : rm.cells = 0) (h2 : rm.slots = 0)
    (k : ∀ T', Stand p l e R s m args below meth c T' locs cells slots → T'.heap = h → Wp p e below s K N Q T' (mkF m nx Ls (w :: rest))) : Wp p e below s K N Q T (mkF m pc Ls stk) := by
  obtain ⟨v, T', L, X', ⟨rfl, q, rfl⟩, st'⟩ := hc
  rw [h1, h2, List.append_nil] at X'
  exact Wp.tr st' (k T' X' q)
theorem w_retI (X : Stand p l e R s m args below meth c T locs cells slots) (hx : p.tables.exec = Jvm.exec) (hby : c.code = bs) (eT : T.heap = h) (hlk : meth.locks = false) {z : Int32} (hret : meth.sig.returnType = some .int) (hd : In bs pc .ireturn 1 nx) (hK : cells ≤ K) (hN : slots ≤ N) (q : Q (some (.int z)) h locs) : Wp p e below s K N Q T (mkF m pc Ls (.int z :: st)) := by
  obtain ⟨fs, hr, hrun, hended, hW, hsame⟩ := X.leave (v := some (.int z)) (fun h => by rw [hret] at h; cases h) hlk
  subst eT
  refine ⟨_, _, ?_, hrun, hended, _, _, rfl, q, ⟨_, rfl⟩, hW, hsame.mono hK hN⟩
  exact retOut X hx hret rfl (Or.inl ⟨rfl, Or.inl rfl, z, rfl⟩) (hb hby hd.1) hr
theorem w_retN (X : Stand p l e R s m args below meth c T locs cells slots) (hx : p.tables.exec = Jvm.exec) (hby : c.code = bs) (eT : T.heap = h) (hlk : meth.locks = false) {z : Int32} {t : FieldType} (hret : meth.sig.returnType = some t) (ht : t = .boolean ∨ t = .byte ∨ t = .char ∨ t = .short) (hd : In bs pc .ireturn 1 nx) (hK : cells ≤ K) (hN : slots ≤ N) (q : Q (some (.int (nar t z))) h locs) : Wp p e below s K N Q T (mkF m pc Ls (.int z :: st)) := by
  obtain ⟨fs, hr, hrun, hended, hW, hsame⟩ := X.leave (v := some (.int (nar t z))) (fun h => by rw [hret] at h; cases h) hlk
  subst eT
  refine ⟨_, _, ?_, hrun, hended, _, _, rfl, q, ⟨_, rfl⟩, hW, hsame.mono hK hN⟩
  exact retN X hx hret ht (hb hby hd.1) hr
theorem w_retJ (X : Stand p l e R s m args below meth c T locs cells slots) (hx : p.tables.exec = Jvm.exec) (hby : c.code = bs) (eT : T.heap = h) (hlk : meth.locks = false) {z : Int64} (hret : meth.sig.returnType = some .long) (hd : In bs pc .lreturn 1 nx) (hK : cells ≤ K) (hN : slots ≤ N) (q : Q (some (.long z)) h locs) : Wp p e below s K N Q T (mkF m pc Ls (.long z :: st)) := by
  obtain ⟨fs, hr, hrun, hended, hW, hsame⟩ := X.leave (v := some (.long z)) (fun h => by rw [hret] at h; cases h) hlk
  subst eT
  refine ⟨_, _, ?_, hrun, hended, _, _, rfl, q, ⟨_, rfl⟩, hW, hsame.mono hK hN⟩
  exact retOut X hx hret rfl (Or.inr (Or.inl ⟨rfl, rfl, z, rfl⟩)) (hb hby hd.1) hr
theorem w_retA (X : Stand p l e R s m args below meth c T locs cells slots) (hx : p.tables.exec = Jvm.exec) (hby : c.code = bs) (eT : T.heap = h) (hlk : meth.locks = false) {w : Value} {t : FieldType} (hret : meth.sig.returnType = some t) (ht : t.isReference = true) (hw : w.isRef = true) (hn : narrow t w = w) (hd : In bs pc .areturn 1 nx) (hK : cells ≤ K) (hN : slots ≤ N) (q : Q (some w) h locs) : Wp p e below s K N Q T (mkF m pc Ls (w :: st)) := by
  obtain ⟨fs, hr, hrun, hended, hW, hsame⟩ := X.leave (v := some w) (fun h => by rw [hret] at h; cases h) hlk
  subst eT
  refine ⟨_, _, ?_, hrun, hended, _, _, rfl, q, ⟨_, rfl⟩, hW, hsame.mono hK hN⟩
  exact retOut X hx hret hn (Or.inr (Or.inr (Or.inr (Or.inr ⟨rfl, ht, hw⟩)))) (hb hby hd.1) hr
theorem w_retV (X : Stand p l e R s m args below meth c T locs cells slots) (hx : p.tables.exec = Jvm.exec) (hby : c.code = bs) (eT : T.heap = h) (hlk : meth.locks = false) (hret : meth.sig.returnType = none) (hd : In bs pc .return_ 1 nx) (hK : cells ≤ K) (hN : slots ≤ N) (q : Q none h locs) : Wp p e below s K N Q T (mkF m pc Ls []) := by
  obtain ⟨fs, hr, hrun, hended, hW, hsame⟩ := X.leave (v := none) (fun _ => rfl) hlk
  subst eT
  refine ⟨_, _, ?_, hrun, hended, _, _, rfl, q, ⟨_, rfl⟩, hW, hsame.mono hK hN⟩
  exact X.returnOut hx hret (hb hby hd.1) hr
theorem own_ns {Z : State} {h : Heap} {a : Addr} {K : String} (E : Exa Z h a K) : ∃ c : Cell, h[a]? = some c ∧ c.vm.isStatics = false := by
  obtain ⟨c, _, h1, -, -, h4, -⟩ := E; exact ⟨c, h1, h4⟩
theorem own_nsV {Z : State} {h : Heap} {a : Addr} {k : ClassId} {ty : FieldType} {n : Int32} {vs : List Value} {dv : Value} (E : Arv Z h a k ty n vs dv) : ∃ c : Cell, h[a]? = some c ∧ c.vm.isStatics = false := by
  obtain ⟨c, A, -⟩ := E; exact ⟨c, A.1, A.plain⟩
theorem own_sta_keep {Z : State} {h h' : Heap} {C n d : String} {v : Value} {ws : List Addr} (F : Sta Z h C n d v) (K : Keep h h' ws) (q : ∀ x ∈ ws, ∃ c : Cell, h[x]? = some c ∧ c.vm.isStatics = false) : Sta Z h' C n d v := by
  obtain ⟨cf, i, k, f, st, cell, h1, h2, h3, h4, h5, h6, h7⟩ := F
  refine ⟨cf, i, k, f, st, cell, h1, h2, h3, h4, K.2.1 _ _ h5 (fun hm => ?_), h6, h7⟩
  obtain ⟨c, e1, e2⟩ := q st hm
  cases h5.symm.trans e1
  rw [h6] at e2; cases e2
theorem own_arr_keep {Z : State} {h h' : Heap} {a : Addr} {c : Cell} {ty : FieldType} {ws : List Addr} (F : Arr Z h a c ty) (K : Keep h h' ws) (q : a ∉ ws) : Arr Z h' a c ty := ⟨K.2.1 a c F.1 q, F.2⟩
theorem own_ext_keep {h h' : Heap} (E : Ext h h') : Keep h h' [] := (Keep.refl h []).ext E
theorem own_keep_ext {h h' : Heap} (K : Keep h h' []) : Ext h h' := ⟨K.1, fun a c q => K.2.1 a c q nin0⟩
end OwnKit
theorem t_0 : (Jvm.Cond.classLink "com/example/strict_xquery/strictxquery/xml/EntryTableSetEndPinLaw" (7 : Nat) "com/example/strict_xquery/strictxquery/xml/EntryTable") ∈ tables_1 := List.mem_of_getElem? (i := 0) rfl
theorem t_1 : (Jvm.Cond.instantiable "com/example/strict_xquery/strictxquery/xml/EntryTable" (2 : Nat)) ∈ tables_1 := List.mem_of_getElem? (i := 1) rfl
theorem t_2 : (Jvm.Cond.initialized "com/example/strict_xquery/strictxquery/xml/EntryTable") ∈ tables_1 := List.mem_of_getElem? (i := 2) rfl
theorem t_3 : (Jvm.Cond.methodLink "com/example/strict_xquery/strictxquery/xml/EntryTableSetEndPinLaw" (9 : Nat) ({ cls := "com/example/strict_xquery/strictxquery/xml/EntryTable", name := "<init>", desc := "()V" } : Jvm.MethodName)) ∈ tables_1 := List.mem_of_getElem? (i := 3) rfl
theorem t_4 : (Jvm.Cond.instanceMethod ({ cls := "com/example/strict_xquery/strictxquery/xml/EntryTable", name := "<init>", desc := "()V" } : Jvm.MethodName)) ∈ tables_1 := List.mem_of_getElem? (i := 4) rfl
theorem t_5 : (Jvm.Cond.code ({ cls := "com/example/strict_xquery/strictxquery/xml/EntryTable", name := "<init>", desc := "()V" } : Jvm.MethodName) prog_200_method_1_code (1 : Nat) (Option.none : Option Jvm.ClassFile.FieldType)) ∈ tables_1 := List.mem_of_getElem? (i := 5) rfl
theorem t_6 : (Jvm.Cond.methodLink "com/example/strict_xquery/strictxquery/xml/EntryTable" (3 : Nat) ({ cls := "java/lang/Object", name := "<init>", desc := "()V" } : Jvm.MethodName)) ∈ tables_1 := List.mem_of_getElem? (i := 6) rfl
theorem t_7 : (Jvm.Cond.instanceMethod ({ cls := "java/lang/Object", name := "<init>", desc := "()V" } : Jvm.MethodName)) ∈ tables_1 := List.mem_of_getElem? (i := 7) rfl
theorem t_8 : (Jvm.Cond.code ({ cls := "java/lang/Object", name := "<init>", desc := "()V" } : Jvm.MethodName) object_method_1_code (1 : Nat) (Option.none : Option Jvm.ClassFile.FieldType)) ∈ tables_1 := List.mem_of_getElem? (i := 8) rfl
theorem t_9 : (Jvm.Cond.classLink "com/example/strict_xquery/strictxquery/xml/EntryTable" (9 : Nat) "[I") ∈ tables_1 := List.mem_of_getElem? (i := 9) rfl
theorem t_10 : (Jvm.Cond.arrayOver (Jvm.ClassFile.FieldType.array Jvm.ClassFile.FieldType.int)) ∈ tables_1 := List.mem_of_getElem? (i := 10) rfl
theorem t_11 : (Jvm.Cond.arrayClass Jvm.ClassFile.FieldType.int) ∈ tables_1 := List.mem_of_getElem? (i := 11) rfl
theorem t_13 : (Jvm.Cond.fieldLink "com/example/strict_xquery/strictxquery/xml/EntryTable" (11 : Nat) "com/example/strict_xquery/strictxquery/xml/EntryTable" "blocks" "[[I") ∈ tables_1 := List.mem_of_getElem? (i := 13) rfl
theorem t_14 : (Jvm.Cond.lays "com/example/strict_xquery/strictxquery/xml/EntryTable" "com/example/strict_xquery/strictxquery/xml/EntryTable" "blocks" "[[I") ∈ tables_1 := List.mem_of_getElem? (i := 14) rfl
theorem t_15 : (Jvm.Cond.methodLink "com/example/strict_xquery/strictxquery/xml/EntryTableSetEndPinLaw" (10 : Nat) ({ cls := "com/example/strict_xquery/strictxquery/xml/EntryTable", name := "add", desc := "(IIII)I" } : Jvm.MethodName)) ∈ tables_1 := List.mem_of_getElem? (i := 15) rfl
theorem t_16 : (Jvm.Cond.declares ({ cls := "com/example/strict_xquery/strictxquery/xml/EntryTable", name := "add", desc := "(IIII)I" } : Jvm.MethodName)) ∈ tables_1 := List.mem_of_getElem? (i := 16) rfl
theorem t_17 : (Jvm.Cond.instanceMethod ({ cls := "com/example/strict_xquery/strictxquery/xml/EntryTable", name := "add", desc := "(IIII)I" } : Jvm.MethodName)) ∈ tables_1 := List.mem_of_getElem? (i := 17) rfl
theorem t_18 : (Jvm.Cond.selects "com/example/strict_xquery/strictxquery/xml/EntryTable" ({ cls := "com/example/strict_xquery/strictxquery/xml/EntryTable", name := "add", desc := "(IIII)I" } : Jvm.MethodName) ({ cls := "com/example/strict_xquery/strictxquery/xml/EntryTable", name := "add", desc := "(IIII)I" } : Jvm.MethodName)) ∈ tables_1 := List.mem_of_getElem? (i := 18) rfl
theorem t_19 : (Jvm.Cond.code ({ cls := "com/example/strict_xquery/strictxquery/xml/EntryTable", name := "add", desc := "(IIII)I" } : Jvm.MethodName) prog_200_method_2_code (8 : Nat) (Option.some Jvm.ClassFile.FieldType.int)) ∈ tables_1 := List.mem_of_getElem? (i := 19) rfl
theorem t_20 : (Jvm.Cond.fieldLink "com/example/strict_xquery/strictxquery/xml/EntryTable" (15 : Nat) "com/example/strict_xquery/strictxquery/xml/EntryTable" "size" "I") ∈ tables_1 := List.mem_of_getElem? (i := 20) rfl
theorem t_21 : (Jvm.Cond.lays "com/example/strict_xquery/strictxquery/xml/EntryTable" "com/example/strict_xquery/strictxquery/xml/EntryTable" "size" "I") ∈ tables_1 := List.mem_of_getElem? (i := 21) rfl
theorem t_22 : (Jvm.Cond.constant "com/example/strict_xquery/strictxquery/xml/EntryTableSetEndPinLaw" (14 : Nat) (2147483647 : Int32)) ∈ tables_1 := List.mem_of_getElem? (i := 22) rfl
theorem t_23 : (Jvm.Cond.methodLink "com/example/strict_xquery/strictxquery/xml/EntryTableSetEndPinLaw" (15 : Nat) ({ cls := "com/example/strict_xquery/strictxquery/xml/EntryTable", name := "setEnd", desc := "(II)V" } : Jvm.MethodName)) ∈ tables_1 := List.mem_of_getElem? (i := 23) rfl
theorem t_24 : (Jvm.Cond.declares ({ cls := "com/example/strict_xquery/strictxquery/xml/EntryTable", name := "setEnd", desc := "(II)V" } : Jvm.MethodName)) ∈ tables_1 := List.mem_of_getElem? (i := 24) rfl
theorem t_25 : (Jvm.Cond.instanceMethod ({ cls := "com/example/strict_xquery/strictxquery/xml/EntryTable", name := "setEnd", desc := "(II)V" } : Jvm.MethodName)) ∈ tables_1 := List.mem_of_getElem? (i := 25) rfl
theorem t_26 : (Jvm.Cond.selects "com/example/strict_xquery/strictxquery/xml/EntryTable" ({ cls := "com/example/strict_xquery/strictxquery/xml/EntryTable", name := "setEnd", desc := "(II)V" } : Jvm.MethodName) ({ cls := "com/example/strict_xquery/strictxquery/xml/EntryTable", name := "setEnd", desc := "(II)V" } : Jvm.MethodName)) ∈ tables_1 := List.mem_of_getElem? (i := 26) rfl
theorem t_27 : (Jvm.Cond.code ({ cls := "com/example/strict_xquery/strictxquery/xml/EntryTable", name := "setEnd", desc := "(II)V" } : Jvm.MethodName) prog_200_method_3_code (3 : Nat) (Option.none : Option Jvm.ClassFile.FieldType)) ∈ tables_1 := List.mem_of_getElem? (i := 27) rfl
theorem t_28 : (Jvm.Cond.methodLink "com/example/strict_xquery/strictxquery/xml/EntryTableSetEndPinLaw" (19 : Nat) ({ cls := "com/example/strict_xquery/strictxquery/xml/EntryTable", name := "end", desc := "(I)I" } : Jvm.MethodName)) ∈ tables_1 := List.mem_of_getElem? (i := 28) rfl
theorem t_29 : (Jvm.Cond.declares ({ cls := "com/example/strict_xquery/strictxquery/xml/EntryTable", name := "end", desc := "(I)I" } : Jvm.MethodName)) ∈ tables_1 := List.mem_of_getElem? (i := 29) rfl
theorem t_30 : (Jvm.Cond.instanceMethod ({ cls := "com/example/strict_xquery/strictxquery/xml/EntryTable", name := "end", desc := "(I)I" } : Jvm.MethodName)) ∈ tables_1 := List.mem_of_getElem? (i := 30) rfl
theorem t_31 : (Jvm.Cond.selects "com/example/strict_xquery/strictxquery/xml/EntryTable" ({ cls := "com/example/strict_xquery/strictxquery/xml/EntryTable", name := "end", desc := "(I)I" } : Jvm.MethodName) ({ cls := "com/example/strict_xquery/strictxquery/xml/EntryTable", name := "end", desc := "(I)I" } : Jvm.MethodName)) ∈ tables_1 := List.mem_of_getElem? (i := 31) rfl
theorem t_32 : (Jvm.Cond.code ({ cls := "com/example/strict_xquery/strictxquery/xml/EntryTable", name := "end", desc := "(I)I" } : Jvm.MethodName) prog_200_method_8_code (2 : Nat) (Option.some Jvm.ClassFile.FieldType.int)) ∈ tables_1 := List.mem_of_getElem? (i := 32) rfl
theorem t_33 : (Jvm.Cond.methodLink "com/example/strict_xquery/strictxquery/xml/EntryTable" (29 : Nat) ({ cls := "com/example/strict_xquery/strictxquery/xml/EntryTable", name := "field", desc := "(II)I" } : Jvm.MethodName)) ∈ tables_1 := List.mem_of_getElem? (i := 33) rfl
theorem t_34 : (Jvm.Cond.instanceMethod ({ cls := "com/example/strict_xquery/strictxquery/xml/EntryTable", name := "field", desc := "(II)I" } : Jvm.MethodName)) ∈ tables_1 := List.mem_of_getElem? (i := 34) rfl
theorem t_35 : (Jvm.Cond.privateMethod ({ cls := "com/example/strict_xquery/strictxquery/xml/EntryTable", name := "field", desc := "(II)I" } : Jvm.MethodName)) ∈ tables_1 := List.mem_of_getElem? (i := 35) rfl
theorem t_36 : (Jvm.Cond.code ({ cls := "com/example/strict_xquery/strictxquery/xml/EntryTable", name := "field", desc := "(II)I" } : Jvm.MethodName) prog_200_method_10_code (3 : Nat) (Option.some Jvm.ClassFile.FieldType.int)) ∈ tables_1 := List.mem_of_getElem? (i := 36) rfl
theorem t_37 : (Jvm.Cond.methodLink "com/example/strict_xquery/strictxquery/xml/EntryTableSetEndPinLaw" (23 : Nat) ({ cls := "com/example/strict_xquery/strictxquery/xml/EntryTable", name := "parent", desc := "(I)I" } : Jvm.MethodName)) ∈ tables_1 := List.mem_of_getElem? (i := 37) rfl
theorem t_38 : (Jvm.Cond.declares ({ cls := "com/example/strict_xquery/strictxquery/xml/EntryTable", name := "parent", desc := "(I)I" } : Jvm.MethodName)) ∈ tables_1 := List.mem_of_getElem? (i := 38) rfl
theorem t_39 : (Jvm.Cond.instanceMethod ({ cls := "com/example/strict_xquery/strictxquery/xml/EntryTable", name := "parent", desc := "(I)I" } : Jvm.MethodName)) ∈ tables_1 := List.mem_of_getElem? (i := 39) rfl
theorem t_40 : (Jvm.Cond.selects "com/example/strict_xquery/strictxquery/xml/EntryTable" ({ cls := "com/example/strict_xquery/strictxquery/xml/EntryTable", name := "parent", desc := "(I)I" } : Jvm.MethodName) ({ cls := "com/example/strict_xquery/strictxquery/xml/EntryTable", name := "parent", desc := "(I)I" } : Jvm.MethodName)) ∈ tables_1 := List.mem_of_getElem? (i := 40) rfl
theorem t_41 : (Jvm.Cond.code ({ cls := "com/example/strict_xquery/strictxquery/xml/EntryTable", name := "parent", desc := "(I)I" } : Jvm.MethodName) prog_200_method_7_code (2 : Nat) (Option.some Jvm.ClassFile.FieldType.int)) ∈ tables_1 := List.mem_of_getElem? (i := 41) rfl
theorem t_42 : (Jvm.Cond.methodLink "com/example/strict_xquery/strictxquery/xml/EntryTableSetEndPinLaw" (26 : Nat) ({ cls := "com/example/strict_xquery/strictxquery/xml/EntryTable", name := "valueStart", desc := "(I)I" } : Jvm.MethodName)) ∈ tables_1 := List.mem_of_getElem? (i := 42) rfl
theorem t_43 : (Jvm.Cond.declares ({ cls := "com/example/strict_xquery/strictxquery/xml/EntryTable", name := "valueStart", desc := "(I)I" } : Jvm.MethodName)) ∈ tables_1 := List.mem_of_getElem? (i := 43) rfl
theorem t_44 : (Jvm.Cond.instanceMethod ({ cls := "com/example/strict_xquery/strictxquery/xml/EntryTable", name := "valueStart", desc := "(I)I" } : Jvm.MethodName)) ∈ tables_1 := List.mem_of_getElem? (i := 44) rfl
theorem t_45 : (Jvm.Cond.selects "com/example/strict_xquery/strictxquery/xml/EntryTable" ({ cls := "com/example/strict_xquery/strictxquery/xml/EntryTable", name := "valueStart", desc := "(I)I" } : Jvm.MethodName) ({ cls := "com/example/strict_xquery/strictxquery/xml/EntryTable", name := "valueStart", desc := "(I)I" } : Jvm.MethodName)) ∈ tables_1 := List.mem_of_getElem? (i := 45) rfl
theorem t_46 : (Jvm.Cond.code ({ cls := "com/example/strict_xquery/strictxquery/xml/EntryTable", name := "valueStart", desc := "(I)I" } : Jvm.MethodName) prog_200_method_9_code (2 : Nat) (Option.some Jvm.ClassFile.FieldType.int)) ∈ tables_1 := List.mem_of_getElem? (i := 46) rfl
theorem n1_0 : In prog_200_method_1_code 0 (.aload_n 0) 1 1 := ⟨by decide +kernel, rfl⟩
theorem n1_1 : In prog_200_method_1_code 1 (.invokespecial 3) 3 4 := ⟨by decide +kernel, rfl⟩
theorem n1_4 : In prog_200_method_1_code 4 (.aload_n 0) 1 5 := ⟨by decide +kernel, rfl⟩
theorem n1_5 : In prog_200_method_1_code 5 (.iconst 1) 1 6 := ⟨by decide +kernel, rfl⟩
theorem n1_6 : In prog_200_method_1_code 6 (.anewarray 9) 3 9 := ⟨by decide +kernel, rfl⟩
theorem n1_9 : In prog_200_method_1_code 9 (.dup) 1 10 := ⟨by decide +kernel, rfl⟩
theorem n1_10 : In prog_200_method_1_code 10 (.iconst 0) 1 11 := ⟨by decide +kernel, rfl⟩
theorem n1_11 : In prog_200_method_1_code 11 (.bipush 64) 2 13 := ⟨by decide +kernel, rfl⟩
theorem n1_13 : In prog_200_method_1_code 13 (.newarray .int) 2 15 := ⟨by decide +kernel, rfl⟩
theorem n1_15 : In prog_200_method_1_code 15 (.aastore) 1 16 := ⟨by decide +kernel, rfl⟩
theorem n1_16 : In prog_200_method_1_code 16 (.putfield 11) 3 19 := ⟨by decide +kernel, rfl⟩
theorem n1_19 : In prog_200_method_1_code 19 (.return_) 1 20 := ⟨by decide +kernel, rfl⟩
theorem pn_1 : plainFor (⟨"com/example/strict_xquery/strictxquery/xml/EntryTable", "<init>", "()V"⟩ : MethodName) = true := plainFor_of_name (by first | (simp [plainName, overriddenIn]; done) | decide +kernel)
theorem n3_0 : In prog_200_method_2_code 0 (.aload_n 0) 1 1 := ⟨by decide +kernel, rfl⟩
theorem n3_1 : In prog_200_method_2_code 1 (.getfield 15) 3 4 := ⟨by decide +kernel, rfl⟩
theorem n3_4 : In prog_200_method_2_code 4 (.bipush 12) 2 6 := ⟨by decide +kernel, rfl⟩
theorem n3_6 : In prog_200_method_2_code 6 (.iushr) 1 7 := ⟨by decide +kernel, rfl⟩
theorem n3_7 : In prog_200_method_2_code 7 (.istore 5) 2 9 := ⟨by decide +kernel, rfl⟩
theorem n3_9 : In prog_200_method_2_code 9 (.aload_n 0) 1 10 := ⟨by decide +kernel, rfl⟩
theorem n3_10 : In prog_200_method_2_code 10 (.getfield 15) 3 13 := ⟨by decide +kernel, rfl⟩
theorem n3_13 : In prog_200_method_2_code 13 (.sipush 4095) 3 16 := ⟨by decide +kernel, rfl⟩
theorem n3_16 : In prog_200_method_2_code 16 (.iand) 1 17 := ⟨by decide +kernel, rfl⟩
theorem n3_17 : In prog_200_method_2_code 17 (.iconst 4) 1 18 := ⟨by decide +kernel, rfl⟩
theorem n3_18 : In prog_200_method_2_code 18 (.imul) 1 19 := ⟨by decide +kernel, rfl⟩
theorem n3_19 : In prog_200_method_2_code 19 (.istore 6) 2 21 := ⟨by decide +kernel, rfl⟩
theorem n3_21 : In prog_200_method_2_code 21 (.iload 5) 2 23 := ⟨by decide +kernel, rfl⟩
theorem n3_23 : In prog_200_method_2_code 23 (.aload_n 0) 1 24 := ⟨by decide +kernel, rfl⟩
theorem n3_24 : In prog_200_method_2_code 24 (.getfield 11) 3 27 := ⟨by decide +kernel, rfl⟩
theorem n3_27 : In prog_200_method_2_code 27 (.arraylength) 1 28 := ⟨by decide +kernel, rfl⟩
theorem n3_28 : Jm prog_200_method_2_code 28 (.if_icmp .ne 21) 21 31 49 := ⟨by decide +kernel, rfl, by decide, by decide⟩
theorem n3_49 : In prog_200_method_2_code 49 (.aload_n 0) 1 50 := ⟨by decide +kernel, rfl⟩
theorem n3_50 : In prog_200_method_2_code 50 (.getfield 11) 3 53 := ⟨by decide +kernel, rfl⟩
theorem n3_53 : In prog_200_method_2_code 53 (.iload 5) 2 55 := ⟨by decide +kernel, rfl⟩
theorem n3_55 : In prog_200_method_2_code 55 (.aaload) 1 56 := ⟨by decide +kernel, rfl⟩
theorem n3_56 : Jm prog_200_method_2_code 56 (.ifnonnull 18) 18 59 74 := ⟨by decide +kernel, rfl, by decide, by decide⟩
theorem n3_74 : In prog_200_method_2_code 74 (.iload 6) 2 76 := ⟨by decide +kernel, rfl⟩
theorem n3_76 : In prog_200_method_2_code 76 (.aload_n 0) 1 77 := ⟨by decide +kernel, rfl⟩
theorem n3_77 : In prog_200_method_2_code 77 (.getfield 11) 3 80 := ⟨by decide +kernel, rfl⟩
theorem n3_80 : In prog_200_method_2_code 80 (.iload 5) 2 82 := ⟨by decide +kernel, rfl⟩
theorem n3_82 : In prog_200_method_2_code 82 (.aaload) 1 83 := ⟨by decide +kernel, rfl⟩
theorem n3_83 : In prog_200_method_2_code 83 (.arraylength) 1 84 := ⟨by decide +kernel, rfl⟩
theorem n3_84 : Jm prog_200_method_2_code 84 (.if_icmp .ne 24) 24 87 108 := ⟨by decide +kernel, rfl, by decide, by decide⟩
theorem n3_108 : In prog_200_method_2_code 108 (.aload_n 0) 1 109 := ⟨by decide +kernel, rfl⟩
theorem n3_109 : In prog_200_method_2_code 109 (.getfield 11) 3 112 := ⟨by decide +kernel, rfl⟩
theorem n3_112 : In prog_200_method_2_code 112 (.iload 5) 2 114 := ⟨by decide +kernel, rfl⟩
theorem n3_114 : In prog_200_method_2_code 114 (.aaload) 1 115 := ⟨by decide +kernel, rfl⟩
theorem n3_115 : In prog_200_method_2_code 115 (.astore 7) 2 117 := ⟨by decide +kernel, rfl⟩
theorem n3_117 : In prog_200_method_2_code 117 (.aload 7) 2 119 := ⟨by decide +kernel, rfl⟩
theorem n3_119 : In prog_200_method_2_code 119 (.iload 6) 2 121 := ⟨by decide +kernel, rfl⟩
theorem n3_121 : In prog_200_method_2_code 121 (.iconst 0) 1 122 := ⟨by decide +kernel, rfl⟩
theorem n3_122 : In prog_200_method_2_code 122 (.iadd) 1 123 := ⟨by decide +kernel, rfl⟩
theorem n3_123 : In prog_200_method_2_code 123 (.iload_n 2) 1 124 := ⟨by decide +kernel, rfl⟩
theorem n3_124 : In prog_200_method_2_code 124 (.iconst 1) 1 125 := ⟨by decide +kernel, rfl⟩
theorem n3_125 : In prog_200_method_2_code 125 (.iadd) 1 126 := ⟨by decide +kernel, rfl⟩
theorem n3_126 : In prog_200_method_2_code 126 (.iconst 3) 1 127 := ⟨by decide +kernel, rfl⟩
theorem n3_127 : In prog_200_method_2_code 127 (.ishl) 1 128 := ⟨by decide +kernel, rfl⟩
theorem n3_128 : In prog_200_method_2_code 128 (.iload_n 1) 1 129 := ⟨by decide +kernel, rfl⟩
theorem n3_129 : In prog_200_method_2_code 129 (.ior) 1 130 := ⟨by decide +kernel, rfl⟩
theorem n3_130 : In prog_200_method_2_code 130 (.iastore) 1 131 := ⟨by decide +kernel, rfl⟩
theorem n3_131 : In prog_200_method_2_code 131 (.aload 7) 2 133 := ⟨by decide +kernel, rfl⟩
theorem n3_133 : In prog_200_method_2_code 133 (.iload 6) 2 135 := ⟨by decide +kernel, rfl⟩
theorem n3_135 : In prog_200_method_2_code 135 (.iconst 1) 1 136 := ⟨by decide +kernel, rfl⟩
theorem n3_136 : In prog_200_method_2_code 136 (.iadd) 1 137 := ⟨by decide +kernel, rfl⟩
theorem n3_137 : In prog_200_method_2_code 137 (.iload_n 3) 1 138 := ⟨by decide +kernel, rfl⟩
theorem n3_138 : In prog_200_method_2_code 138 (.iastore) 1 139 := ⟨by decide +kernel, rfl⟩
theorem n3_139 : In prog_200_method_2_code 139 (.aload 7) 2 141 := ⟨by decide +kernel, rfl⟩
theorem n3_141 : In prog_200_method_2_code 141 (.iload 6) 2 143 := ⟨by decide +kernel, rfl⟩
theorem n3_143 : In prog_200_method_2_code 143 (.iconst 2) 1 144 := ⟨by decide +kernel, rfl⟩
theorem n3_144 : In prog_200_method_2_code 144 (.iadd) 1 145 := ⟨by decide +kernel, rfl⟩
theorem n3_145 : In prog_200_method_2_code 145 (.aload_n 0) 1 146 := ⟨by decide +kernel, rfl⟩
theorem n3_146 : In prog_200_method_2_code 146 (.getfield 15) 3 149 := ⟨by decide +kernel, rfl⟩
theorem n3_149 : In prog_200_method_2_code 149 (.iconst 1) 1 150 := ⟨by decide +kernel, rfl⟩
theorem n3_150 : In prog_200_method_2_code 150 (.iadd) 1 151 := ⟨by decide +kernel, rfl⟩
theorem n3_151 : In prog_200_method_2_code 151 (.iastore) 1 152 := ⟨by decide +kernel, rfl⟩
theorem n3_152 : In prog_200_method_2_code 152 (.aload 7) 2 154 := ⟨by decide +kernel, rfl⟩
theorem n3_154 : In prog_200_method_2_code 154 (.iload 6) 2 156 := ⟨by decide +kernel, rfl⟩
theorem n3_156 : In prog_200_method_2_code 156 (.iconst 3) 1 157 := ⟨by decide +kernel, rfl⟩
theorem n3_157 : In prog_200_method_2_code 157 (.iadd) 1 158 := ⟨by decide +kernel, rfl⟩
theorem n3_158 : In prog_200_method_2_code 158 (.iload 4) 2 160 := ⟨by decide +kernel, rfl⟩
theorem n3_160 : In prog_200_method_2_code 160 (.iastore) 1 161 := ⟨by decide +kernel, rfl⟩
theorem n3_161 : In prog_200_method_2_code 161 (.aload_n 0) 1 162 := ⟨by decide +kernel, rfl⟩
theorem n3_162 : In prog_200_method_2_code 162 (.dup) 1 163 := ⟨by decide +kernel, rfl⟩
theorem n3_163 : In prog_200_method_2_code 163 (.getfield 15) 3 166 := ⟨by decide +kernel, rfl⟩
theorem n3_166 : In prog_200_method_2_code 166 (.dup_x1) 1 167 := ⟨by decide +kernel, rfl⟩
theorem n3_167 : In prog_200_method_2_code 167 (.iconst 1) 1 168 := ⟨by decide +kernel, rfl⟩
theorem n3_168 : In prog_200_method_2_code 168 (.iadd) 1 169 := ⟨by decide +kernel, rfl⟩
theorem n3_169 : In prog_200_method_2_code 169 (.putfield 15) 3 172 := ⟨by decide +kernel, rfl⟩
theorem n3_172 : In prog_200_method_2_code 172 (.ireturn) 1 173 := ⟨by decide +kernel, rfl⟩
theorem pn_3 : plainFor (⟨"com/example/strict_xquery/strictxquery/xml/EntryTable", "add", "(IIII)I"⟩ : MethodName) = true := plainFor_of_name (by first | (simp [plainName, overriddenIn]; done) | decide +kernel)
theorem n4_0 : In prog_200_method_3_code 0 (.aload_n 0) 1 1 := ⟨by decide +kernel, rfl⟩
theorem n4_1 : In prog_200_method_3_code 1 (.getfield 11) 3 4 := ⟨by decide +kernel, rfl⟩
theorem n4_4 : In prog_200_method_3_code 4 (.iload_n 1) 1 5 := ⟨by decide +kernel, rfl⟩
theorem n4_5 : In prog_200_method_3_code 5 (.bipush 12) 2 7 := ⟨by decide +kernel, rfl⟩
theorem n4_7 : In prog_200_method_3_code 7 (.iushr) 1 8 := ⟨by decide +kernel, rfl⟩
theorem n4_8 : In prog_200_method_3_code 8 (.aaload) 1 9 := ⟨by decide +kernel, rfl⟩
theorem n4_9 : In prog_200_method_3_code 9 (.iload_n 1) 1 10 := ⟨by decide +kernel, rfl⟩
theorem n4_10 : In prog_200_method_3_code 10 (.sipush 4095) 3 13 := ⟨by decide +kernel, rfl⟩
theorem n4_13 : In prog_200_method_3_code 13 (.iand) 1 14 := ⟨by decide +kernel, rfl⟩
theorem n4_14 : In prog_200_method_3_code 14 (.iconst 4) 1 15 := ⟨by decide +kernel, rfl⟩
theorem n4_15 : In prog_200_method_3_code 15 (.imul) 1 16 := ⟨by decide +kernel, rfl⟩
theorem n4_16 : In prog_200_method_3_code 16 (.iconst 2) 1 17 := ⟨by decide +kernel, rfl⟩
theorem n4_17 : In prog_200_method_3_code 17 (.iadd) 1 18 := ⟨by decide +kernel, rfl⟩
theorem n4_18 : In prog_200_method_3_code 18 (.iload_n 2) 1 19 := ⟨by decide +kernel, rfl⟩
theorem n4_19 : In prog_200_method_3_code 19 (.iastore) 1 20 := ⟨by decide +kernel, rfl⟩
theorem n4_20 : In prog_200_method_3_code 20 (.return_) 1 21 := ⟨by decide +kernel, rfl⟩
theorem pn_4 : plainFor (⟨"com/example/strict_xquery/strictxquery/xml/EntryTable", "setEnd", "(II)V"⟩ : MethodName) = true := plainFor_of_name (by first | (simp [plainName, overriddenIn]; done) | decide +kernel)
theorem n6_0 : In prog_200_method_10_code 0 (.aload_n 0) 1 1 := ⟨by decide +kernel, rfl⟩
theorem n6_1 : In prog_200_method_10_code 1 (.getfield 11) 3 4 := ⟨by decide +kernel, rfl⟩
theorem n6_4 : In prog_200_method_10_code 4 (.iload_n 1) 1 5 := ⟨by decide +kernel, rfl⟩
theorem n6_5 : In prog_200_method_10_code 5 (.bipush 12) 2 7 := ⟨by decide +kernel, rfl⟩
theorem n6_7 : In prog_200_method_10_code 7 (.iushr) 1 8 := ⟨by decide +kernel, rfl⟩
theorem n6_8 : In prog_200_method_10_code 8 (.aaload) 1 9 := ⟨by decide +kernel, rfl⟩
theorem n6_9 : In prog_200_method_10_code 9 (.iload_n 1) 1 10 := ⟨by decide +kernel, rfl⟩
theorem n6_10 : In prog_200_method_10_code 10 (.sipush 4095) 3 13 := ⟨by decide +kernel, rfl⟩
theorem n6_13 : In prog_200_method_10_code 13 (.iand) 1 14 := ⟨by decide +kernel, rfl⟩
theorem n6_14 : In prog_200_method_10_code 14 (.iconst 4) 1 15 := ⟨by decide +kernel, rfl⟩
theorem n6_15 : In prog_200_method_10_code 15 (.imul) 1 16 := ⟨by decide +kernel, rfl⟩
theorem n6_16 : In prog_200_method_10_code 16 (.iload_n 2) 1 17 := ⟨by decide +kernel, rfl⟩
theorem n6_17 : In prog_200_method_10_code 17 (.iadd) 1 18 := ⟨by decide +kernel, rfl⟩
theorem n6_18 : In prog_200_method_10_code 18 (.iaload) 1 19 := ⟨by decide +kernel, rfl⟩
theorem n6_19 : In prog_200_method_10_code 19 (.ireturn) 1 20 := ⟨by decide +kernel, rfl⟩
theorem pn_6 : plainFor (⟨"com/example/strict_xquery/strictxquery/xml/EntryTable", "field", "(II)I"⟩ : MethodName) = true := plainFor_of_name (by first | (simp [plainName, overriddenIn]; done) | decide +kernel)
theorem n5_0 : In prog_200_method_8_code 0 (.aload_n 0) 1 1 := ⟨by decide +kernel, rfl⟩
theorem n5_1 : In prog_200_method_8_code 1 (.iload_n 1) 1 2 := ⟨by decide +kernel, rfl⟩
theorem n5_2 : In prog_200_method_8_code 2 (.iconst 2) 1 3 := ⟨by decide +kernel, rfl⟩
theorem n5_3 : In prog_200_method_8_code 3 (.invokevirtual 29) 3 6 := ⟨by decide +kernel, rfl⟩
theorem pd_2734 : parseMethodDescriptor "(II)I" = some ⟨[.int, .int], some .int⟩ := by decide +kernel
theorem n5_6 : In prog_200_method_8_code 6 (.ireturn) 1 7 := ⟨by decide +kernel, rfl⟩
theorem pn_5 : plainFor (⟨"com/example/strict_xquery/strictxquery/xml/EntryTable", "end", "(I)I"⟩ : MethodName) = true := plainFor_of_name (by first | (simp [plainName, overriddenIn]; done) | decide +kernel)
theorem n7_0 : In prog_200_method_7_code 0 (.aload_n 0) 1 1 := ⟨by decide +kernel, rfl⟩
theorem n7_1 : In prog_200_method_7_code 1 (.iload_n 1) 1 2 := ⟨by decide +kernel, rfl⟩
theorem n7_2 : In prog_200_method_7_code 2 (.iconst 1) 1 3 := ⟨by decide +kernel, rfl⟩
theorem n7_3 : In prog_200_method_7_code 3 (.invokevirtual 29) 3 6 := ⟨by decide +kernel, rfl⟩
theorem n7_6 : In prog_200_method_7_code 6 (.ireturn) 1 7 := ⟨by decide +kernel, rfl⟩
theorem pn_7 : plainFor (⟨"com/example/strict_xquery/strictxquery/xml/EntryTable", "parent", "(I)I"⟩ : MethodName) = true := plainFor_of_name (by first | (simp [plainName, overriddenIn]; done) | decide +kernel)
theorem n8_0 : In prog_200_method_9_code 0 (.aload_n 0) 1 1 := ⟨by decide +kernel, rfl⟩
theorem n8_1 : In prog_200_method_9_code 1 (.iload_n 1) 1 2 := ⟨by decide +kernel, rfl⟩
theorem n8_2 : In prog_200_method_9_code 2 (.iconst 3) 1 3 := ⟨by decide +kernel, rfl⟩
theorem n8_3 : In prog_200_method_9_code 3 (.invokevirtual 29) 3 6 := ⟨by decide +kernel, rfl⟩
theorem n8_6 : In prog_200_method_9_code 6 (.ireturn) 1 7 := ⟨by decide +kernel, rfl⟩
theorem pn_8 : plainFor (⟨"com/example/strict_xquery/strictxquery/xml/EntryTable", "valueStart", "(I)I"⟩ : MethodName) = true := plainFor_of_name (by first | (simp [plainName, overriddenIn]; done) | decide +kernel)
theorem n0_0 : In code 0 (.new 7) 3 3 := ⟨at_0, rfl⟩
theorem n0_3 : In code 3 (.dup) 1 4 := ⟨at_3, rfl⟩
theorem n0_4 : In code 4 (.invokespecial 9) 3 7 := ⟨at_4, rfl⟩
theorem pd_1382 : parseMethodDescriptor "()V" = some ⟨[], none⟩ := by decide +kernel
theorem n0_7 : In code 7 (.astore_n 3) 1 8 := ⟨at_7, rfl⟩
theorem n0_8 : In code 8 (.aload_n 3) 1 9 := ⟨at_8, rfl⟩
theorem n0_9 : In code 9 (.iconst 1) 1 10 := ⟨at_9, rfl⟩
theorem n0_10 : In code 10 (.iconst (-1)) 1 11 := ⟨at_10, rfl⟩
theorem n0_11 : In code 11 (.iconst (-1)) 1 12 := ⟨at_11, rfl⟩
theorem n0_12 : In code 12 (.iload_n 2) 1 13 := ⟨at_12, rfl⟩
theorem n0_13 : In code 13 (.invokevirtual 10) 3 16 := ⟨at_13, rfl⟩
theorem pd_4495 : parseMethodDescriptor "(IIII)I" = some ⟨[.int, .int, .int, .int], some .int⟩ := by decide +kernel
theorem n0_16 : In code 16 (.pop) 1 17 := ⟨at_16, rfl⟩
theorem n0_17 : In code 17 (.aload_n 3) 1 18 := ⟨at_17, rfl⟩
theorem n0_18 : In code 18 (.iconst 2) 1 19 := ⟨at_18, rfl⟩
theorem n0_19 : In code 19 (.iconst 5) 1 20 := ⟨at_19, rfl⟩
theorem n0_20 : In code 20 (.iconst 0) 1 21 := ⟨at_20, rfl⟩
theorem n0_21 : In code 21 (.iload_n 2) 1 22 := ⟨at_21, rfl⟩
theorem n0_22 : In code 22 (.iconst 1) 1 23 := ⟨at_22, rfl⟩
theorem n0_23 : In code 23 (.iadd) 1 24 := ⟨at_23, rfl⟩
theorem n0_24 : In code 24 (.invokevirtual 10) 3 27 := ⟨at_24, rfl⟩
theorem n0_27 : In code 27 (.pop) 1 28 := ⟨at_27, rfl⟩
theorem n0_28 : In code 28 (.aload_n 3) 1 29 := ⟨at_28, rfl⟩
theorem n0_29 : In code 29 (.iconst 3) 1 30 := ⟨at_29, rfl⟩
theorem n0_30 : In code 30 (.bipush 7) 2 32 := ⟨at_30, rfl⟩
theorem n0_32 : In code 32 (.iconst 1) 1 33 := ⟨at_32, rfl⟩
theorem n0_33 : In code 33 (.iload_n 2) 1 34 := ⟨at_33, rfl⟩
theorem n0_34 : In code 34 (.iconst 2) 1 35 := ⟨at_34, rfl⟩
theorem n0_35 : In code 35 (.iadd) 1 36 := ⟨at_35, rfl⟩
theorem n0_36 : In code 36 (.invokevirtual 10) 3 39 := ⟨at_36, rfl⟩
theorem n0_39 : In code 39 (.pop) 1 40 := ⟨at_39, rfl⟩
theorem n0_40 : In code 40 (.iload_n 0) 1 41 := ⟨at_40, rfl⟩
theorem n0_41 : In code 41 (.ldc 14) 2 43 := ⟨at_41, rfl⟩
theorem n0_43 : In code 43 (.iand) 1 44 := ⟨at_43, rfl⟩
theorem n0_44 : In code 44 (.iconst 3) 1 45 := ⟨at_44, rfl⟩
theorem n0_45 : In code 45 (.irem) 1 46 := ⟨at_45, rfl⟩
theorem n0_46 : In code 46 (.istore 4) 2 48 := ⟨at_46, rfl⟩
theorem n0_48 : In code 48 (.aload_n 3) 1 49 := ⟨at_48, rfl⟩
theorem n0_49 : In code 49 (.iload 4) 2 51 := ⟨at_49, rfl⟩
theorem n0_51 : In code 51 (.iload_n 1) 1 52 := ⟨at_51, rfl⟩
theorem n0_52 : In code 52 (.invokevirtual 15) 3 55 := ⟨at_52, rfl⟩
theorem pd_2877 : parseMethodDescriptor "(II)V" = some ⟨[.int, .int], none⟩ := by decide +kernel
theorem n0_55 : In code 55 (.iload 4) 2 57 := ⟨at_55, rfl⟩
theorem n0_57 : Jm code 57 (.ifCond .ne 7) 7 60 64 := ⟨at_57, rfl, by decide, by decide⟩
theorem n0_60 : In code 60 (.iload_n 1) 1 61 := ⟨at_60, rfl⟩
theorem n0_61 : Jm code 61 (.goto 4) 4 64 65 := ⟨at_61, rfl, by decide, by decide⟩
theorem n0_65 : In code 65 (.istore 5) 2 67 := ⟨at_65, rfl⟩
theorem n0_67 : In code 67 (.iload 4) 2 69 := ⟨at_67, rfl⟩
theorem n0_69 : In code 69 (.iconst 1) 1 70 := ⟨at_69, rfl⟩
theorem n0_70 : Jm code 70 (.if_icmp .ne 7) 7 73 77 := ⟨at_70, rfl, by decide, by decide⟩
theorem n0_77 : In code 77 (.iconst 2) 1 78 := ⟨at_77, rfl⟩
theorem n0_78 : In code 78 (.istore 6) 2 80 := ⟨at_78, rfl⟩
theorem n0_80 : In code 80 (.iload 4) 2 82 := ⟨at_80, rfl⟩
theorem n0_82 : In code 82 (.iconst 2) 1 83 := ⟨at_82, rfl⟩
theorem n0_83 : Jm code 83 (.if_icmp .ne 7) 7 86 90 := ⟨at_83, rfl, by decide, by decide⟩
theorem n0_90 : In code 90 (.iconst 3) 1 91 := ⟨at_90, rfl⟩
theorem n0_91 : In code 91 (.istore 7) 2 93 := ⟨at_91, rfl⟩
theorem n0_93 : In code 93 (.aload_n 3) 1 94 := ⟨at_93, rfl⟩
theorem n0_94 : In code 94 (.iconst 0) 1 95 := ⟨at_94, rfl⟩
theorem n0_95 : In code 95 (.invokevirtual 19) 3 98 := ⟨at_95, rfl⟩
theorem pd_1963 : parseMethodDescriptor "(I)I" = some ⟨[.int], some .int⟩ := by decide +kernel
theorem n0_98 : In code 98 (.iload 5) 2 100 := ⟨at_98, rfl⟩
theorem n0_100 : Jm code 100 (.if_icmp .ne 53) 53 103 153 := ⟨at_100, rfl, by decide, by decide⟩
theorem n0_103 : In code 103 (.aload_n 3) 1 104 := ⟨at_103, rfl⟩
theorem n0_104 : In code 104 (.iconst 1) 1 105 := ⟨at_104, rfl⟩
theorem n0_105 : In code 105 (.invokevirtual 19) 3 108 := ⟨at_105, rfl⟩
theorem n0_108 : In code 108 (.iload 6) 2 110 := ⟨at_108, rfl⟩
theorem n0_110 : Jm code 110 (.if_icmp .ne 43) 43 113 153 := ⟨at_110, rfl, by decide, by decide⟩
theorem n0_113 : In code 113 (.aload_n 3) 1 114 := ⟨at_113, rfl⟩
theorem n0_114 : In code 114 (.iconst 2) 1 115 := ⟨at_114, rfl⟩
theorem n0_115 : In code 115 (.invokevirtual 19) 3 118 := ⟨at_115, rfl⟩
theorem n0_118 : In code 118 (.iload 7) 2 120 := ⟨at_118, rfl⟩
theorem n0_120 : Jm code 120 (.if_icmp .ne 33) 33 123 153 := ⟨at_120, rfl, by decide, by decide⟩
theorem n0_123 : In code 123 (.aload_n 3) 1 124 := ⟨at_123, rfl⟩
theorem n0_124 : In code 124 (.iload 4) 2 126 := ⟨at_124, rfl⟩
theorem n0_126 : In code 126 (.invokevirtual 23) 3 129 := ⟨at_126, rfl⟩
theorem n0_129 : In code 129 (.iload 4) 2 131 := ⟨at_129, rfl⟩
theorem n0_131 : In code 131 (.iconst 1) 1 132 := ⟨at_131, rfl⟩
theorem n0_132 : In code 132 (.isub) 1 133 := ⟨at_132, rfl⟩
theorem n0_133 : Jm code 133 (.if_icmp .ne 20) 20 136 153 := ⟨at_133, rfl, by decide, by decide⟩
theorem n0_136 : In code 136 (.aload_n 3) 1 137 := ⟨at_136, rfl⟩
theorem n0_137 : In code 137 (.iload 4) 2 139 := ⟨at_137, rfl⟩
theorem n0_139 : In code 139 (.invokevirtual 26) 3 142 := ⟨at_139, rfl⟩
theorem n0_142 : In code 142 (.iload_n 2) 1 143 := ⟨at_142, rfl⟩
theorem n0_143 : In code 143 (.iload 4) 2 145 := ⟨at_143, rfl⟩
theorem n0_145 : In code 145 (.iadd) 1 146 := ⟨at_145, rfl⟩
theorem n0_146 : Jm code 146 (.if_icmp .ne 7) 7 149 153 := ⟨at_146, rfl, by decide, by decide⟩
theorem n0_149 : In code 149 (.iconst 1) 1 150 := ⟨at_149, rfl⟩
theorem n0_150 : Jm code 150 (.goto 4) 4 153 154 := ⟨at_150, rfl, by decide, by decide⟩
theorem n0_154 : In code 154 (.ireturn) 1 155 := ⟨at_154, rfl⟩
theorem n0_64 : In code 64 (.iconst 1) 1 65 := ⟨at_64, rfl⟩
theorem n0_73 : In code 73 (.iload_n 1) 1 74 := ⟨at_73, rfl⟩
theorem n0_74 : Jm code 74 (.goto 4) 4 77 78 := ⟨at_74, rfl, by decide, by decide⟩
theorem n0_86 : In code 86 (.iload_n 1) 1 87 := ⟨at_86, rfl⟩
theorem n0_87 : Jm code 87 (.goto 4) 4 90 91 := ⟨at_87, rfl, by decide, by decide⟩
theorem pn_0 : plainFor (⟨"com/example/strict_xquery/strictxquery/xml/EntryTableSetEndPinLaw", "law", "(III)Z"⟩ : MethodName) = true := plainFor_of_name (by first | (simp [plainName, overriddenIn]; done) | decide +kernel)
theorem own_eqI {t : Term} {k : Int32} {args : Array Value} {s : State} (h : (Cond.eq t (.int k)).value args s none s [] = some true) : t.eval args s none [] s = some (.int k) := by
  obtain ⟨x, y, h1, h2, h3, -⟩ := cmp_v (Or.inl h)
  cases (Option.some.inj h2 : (Value.int k) = y)
  cases x <;> first | (have := gotT (Cond.eq_ints h1 h2) h; rw [h1, this]; done) | (simp [Kin, Value.isRef] at h3; done)
theorem own_eqL {t : Term} {k : Int64} {args : Array Value} {s : State} (h : (Cond.eq t (.long k)).value args s none s [] = some true) : t.eval args s none [] s = some (.long k) := by
  obtain ⟨x, y, h1, h2, h3, -⟩ := cmp_v (Or.inl h)
  cases (Option.some.inj h2 : (Value.long k) = y)
  cases x <;> first | (have := gotT (eq_L h1 h2) h; rw [h1, this]; done) | (simp [Kin, Value.isRef] at h3; done)
theorem own_eqR {a b : Term} {y : Addr} {args : Array Value} {s : State} (h : (Cond.eq a b).value args s none s [] = some true) (hb : b.eval args s none [] s = some (.ref y)) : a.eval args s none [] s = some (.ref y) := by
  obtain ⟨x, y', h1, h2, h3, h4⟩ := cmp_v (Or.inl h)
  cases h2.symm.trans hb
  have hx : x.isRef = true := h4.2
  have := gotT (eq_R h1 h2 hx rfl) h
  rw [h1, this]
theorem own_nar1 : nar .boolean 1 = 1 := rfl
theorem own_nar0 : nar .boolean 0 = 0 := rfl
theorem own_three (x : Int32) : (x &&& 2147483647) % 3 = 0 ∨ (x &&& 2147483647) % 3 = 1 ∨ (x &&& 2147483647) % 3 = 2 := by
  have h1 := c_mask x 2147483647 31 (by decide) (by decide)
  have h2 := (c_irem (x &&& 2147483647) 3 3 (by decide)).1 (by rw [h1]; omega)
  rw [← Int32.toInt_inj, ← Int32.toInt_inj, ← Int32.toInt_inj, h2]
  have k0 : (0 : Int32).toInt = 0 := by decide
  have k1 : (1 : Int32).toInt = 1 := by decide
  have k2 : (2 : Int32).toInt = 2 := by decide
  omega

set_option maxRecDepth 65536 in
set_option maxHeartbeats 4000000 in
theorem ef_rm0i (m : MethodId) (x0 : Addr) : entryFrame m #[(.ref x0)] 1 = mkF m 0 #[.val (.ref x0)] [] := by first | (simp [entryFrame, mkF, argsToLocals, Value.category]; done) | rfl
set_option maxRecDepth 65536 in
set_option maxHeartbeats 40000000 in
theorem rm0i (l : Launch) (Z : State) (a0 : Array Value) (hw : ∀ d ∈ tables_1, d.before a0 Z = true) (a1 : Addr) (h0 : Heap) (n0 : Nat) (Z0 : n0 ≤ h0.size) (g1 : n0 ≤ a1) (E1 : Exa Z h0 a1 "com/example/strict_xquery/strictxquery/xml/EntryTable") (F_b : Fld Z h0 a1 "com/example/strict_xquery/strictxquery/xml/EntryTable" "blocks" "[[I" .null) (F_s : Fld Z h0 a1 "com/example/strict_xquery/strictxquery/xml/EntryTable" "size" "I" (.int (0 : Int32))) : Con l Z (⟨"com/example/strict_xquery/strictxquery/xml/EntryTable", "<init>", "()V"⟩ : MethodName) prog_200_method_1_code 1 none ({ frames := 1, cells := 2, slots := 65, locals := 12 } : Room) #[(.ref a1)] h0 (fun v h L => v = none ∧ Fr n0 L ∧ Keep h0 h [a1] ∧ Exa Z h a1 "com/example/strict_xquery/strictxquery/xml/EntryTable" ∧ ∃ (bl ar : Addr) (kb ka : ClassId), h0.size ≤ bl ∧ h0.size ≤ ar ∧ bl ≠ ar ∧ Fld Z h a1 "com/example/strict_xquery/strictxquery/xml/EntryTable" "blocks" "[[I" (.ref bl) ∧ Fld Z h a1 "com/example/strict_xquery/strictxquery/xml/EntryTable" "size" "I" (.int (0 : Int32)) ∧ Arv Z h bl kb (.array .int) (1 : Int32) [(.ref ar)] .null ∧ Arv Z h ar ka .int (64 : Int32) [(.int (0 : Int32)), (.int (0 : Int32)), (.int (0 : Int32)), (.int (0 : Int32)), (.int (0 : Int32)), (.int (0 : Int32)), (.int (0 : Int32)), (.int (0 : Int32)), (.int (0 : Int32)), (.int (0 : Int32)), (.int (0 : Int32)), (.int (0 : Int32))] (.int (0 : Int32))) := by
  refine w_body (Ls := #[.val (.ref a1)]) pn_1 (fun m => ef_rm0i m a1) ?_
  intro p e s m below meth c T0 X0 hx hby hml hown hnm hret hlk hZ e0
  refine w_aloadN X0 hx hby n1_0 rfl rfl ?_
  refine w_initO X0 hx hby hZ hown (by rw [hml]; rfl) (Wd := 0) (hw _ t_6) (hw _ t_7) (hw _ t_8) e0 n1_1 (by decide) rfl (by decide) fun T1 X1 e1 => ?_
  refine w_aloadN X1 hx hby n1_4 rfl rfl ?_
  refine w_iconst X1 hx hby (1 : Int32) n1_5 rfl ?_
  refine w_newRA X1 hx hby hZ hown (ty := .int) rfl (hw _ t_9) (hw _ t_10) e1 n1_6 (by decide) 1 (by decide) (by decide) (by decide) (by decide) fun T2 h2 b2 k2 g2 X2 e2 E2 A2 O2 => ?_
  have ne_a1_b2 : a1 ≠ b2 := Nat.ne_of_lt (Nat.lt_of_lt_of_eq E1.lt g2.symm)
  have old_b2 : h0.size ≤ b2 := Nat.le_trans (Nat.le_refl h0.size) (Nat.le_of_eq g2.symm)
  have z3 : h0.size ≤ h2.size := Nat.le_trans (Nat.le_refl h0.size) E2.1
  have k3 : Keep h0 h2 [a1] := (Keep.refl h0 [a1]).ext E2
  have V2 : Arv Z h2 b2 k2 (.array .int) (1 : Int32) [.null] .null := (Arv.new A2 (by decide)).pad (pad_rep [] .null 1)
  refine w_dup X2 hx hby n1_9 rfl ?_
  refine w_iconst X2 hx hby (0 : Int32) n1_10 rfl ?_
  refine w_bipush X2 hx hby (64 : Int32) n1_11 rfl ?_
  refine w_newPE X2 hx hby hZ (aty := .int) (hw _ t_11) e2 n1_13 (by decide) 64 (by decide) (by decide) (by decide) (by decide) "[I" rfl fun T4 h4 b4 k4 g4 X4 e4 E4 A4 I4 => ?_
  have f5 := (E1.ext E2)
  have ne_a1_b4 : a1 ≠ b4 := Nat.ne_of_lt (Nat.lt_of_lt_of_eq f5.lt g4.symm)
  have ne_b2_b4 : b2 ≠ b4 := Nat.ne_of_lt (Nat.lt_of_lt_of_eq V2.lt g4.symm)
  have old_b4 : h0.size ≤ b4 := Nat.le_trans z3 (Nat.le_of_eq g4.symm)
  have z6 : h0.size ≤ h4.size := Nat.le_trans z3 E4.1
  have k6 : Keep h0 h4 [a1] := k3.ext E4
  have V4 : Arv Z h4 b4 k4 .int (64 : Int32) [(.int (0 : Int32)), (.int (0 : Int32)), (.int (0 : Int32)), (.int (0 : Int32)), (.int (0 : Int32)), (.int (0 : Int32)), (.int (0 : Int32)), (.int (0 : Int32)), (.int (0 : Int32)), (.int (0 : Int32)), (.int (0 : Int32)), (.int (0 : Int32))] (.int (0 : Int32)) := (Arv.new A4 (by decide)).pad (pad_rep [] (.int (0 : Int32)) 12)
  have f7 := (V2.ext E4)
  obtain ⟨cl8, Ar8, qk8, Sz8, Nn8, Ha8, Gf8⟩ := id f7
  refine w_stR X4 hx hby hZ e4 Ar8 (j := (0 : Int32)) (inb_of Sz8 ⟨by decide, by decide⟩) rfl (Sto.ofVA Ar8 qk8 O2 (Ins.self I4)) n1_15 fun T8 h8 X8 e8 W8 => ?_
  have V8 : Arv Z h8 b2 k2 (.array .int) (1 : Int32) [(.ref b4)] .null := Arv.set Ar8 qk8 Sz8 Nn8 Ha8 Gf8 rfl W8 0 rfl (Nat.le_of_ble_eq_true rfl)
  have N8 := Fr.snoc X8 (Fr.nil n0) (Nat.le_trans Z0 old_b2)
  have z9 : h0.size ≤ h8.size := Nat.le_trans z6 (Keep.of_wr W8).1
  have k9 : Keep h0 h8 [a1] := k6.wr W8 (Or.inr old_b2)
  have f10 := (((F_b.ext E2).ext E4).other W8 (Or.inl ne_a1_b2))
  have f11 := ((f5.ext E4).wr W8)
  refine w_putFN X8 hx hby hZ hown (hw _ t_13) Via.refl e8 f10 f11 (Or.inl (hw _ t_14)) (hw _ t_1) (ty := (.array (.array .int))) (by decide) rfl rfl n1_16 fun T12 h12 X12 e12 W12 => ?_
  have P12 := f10.same W12
  have N12 := Fr.snoc X12 N8 g1
  have z13 : h0.size ≤ h12.size := Nat.le_trans z9 (Keep.of_wr W12).1
  have k13 : Keep h0 h12 [a1] := k9.wr W12 (Or.inl (List.mem_of_getElem? (i := 0) rfl))
  refine w_retV X12 hx hby e12 hlk hret n1_19 (by decide) (by decide) ?_
  have f14 := (V8.other W12 (Ne.symm ne_a1_b2))
  have f15 := ((V4.other W8 (Ne.symm ne_b2_b4)).other W12 (Ne.symm ne_a1_b4))
  have f16 := (f11.wr W12)
  have f17 := ((((F_s.ext E2).ext E4).other W8 (Or.inl ne_a1_b2)).other W12 (Or.inr (slot_ne (Or.inl (hw _ t_21)) (Or.inl (hw _ t_14)) (by decide) (t := .int) (t' := (.array (.array .int))) (by decide) (by decide))))
  exact ⟨rfl, N12, k13, f16, b2, b4, _, _, old_b2, old_b4, ne_b2_b4, P12, f17, f14, f15⟩
set_option maxRecDepth 65536 in
set_option maxHeartbeats 4000000 in
theorem ef_rma0 (m : MethodId) (x0 : Addr) (x1 : Int32) (x2 : Int32) (x3 : Int32) (x4 : Int32) : entryFrame m #[(.ref x0), (.int x1), (.int x2), (.int x3), (.int x4)] 8 = mkF m 0 #[.val (.ref x0), .val (.int x1), .val (.int x2), .val (.int x3), .val (.int x4), .unset, .unset, .unset] [] := by first | (simp [entryFrame, mkF, argsToLocals, Value.category]; done) | rfl
set_option maxRecDepth 65536 in
set_option maxHeartbeats 40000000 in
theorem rma0 (l : Launch) (Z : State) (a0 : Array Value) (hw : ∀ d ∈ tables_1, d.before a0 Z = true) (a1 bl ar : Addr) (kb ka : ClassId) (x1 x2 x3 x4 w0 w1 w2 w3 w4 w5 w6 w7 w8 w9 w10 w11 : Int32) (h0 : Heap) (n0 : Nat) (Z0 : n0 ≤ h0.size) (g1 : n0 ≤ a1) (g2 : n0 ≤ ar) (E1 : Exa Z h0 a1 "com/example/strict_xquery/strictxquery/xml/EntryTable") (F_b : Fld Z h0 a1 "com/example/strict_xquery/strictxquery/xml/EntryTable" "blocks" "[[I" (.ref bl)) (F_s : Fld Z h0 a1 "com/example/strict_xquery/strictxquery/xml/EntryTable" "size" "I" (.int (0 : Int32))) (V_b : Arv Z h0 bl kb (.array .int) (1 : Int32) [(.ref ar)] .null) (V_a : Arv Z h0 ar ka .int (64 : Int32) [(.int w0), (.int w1), (.int w2), (.int w3), (.int w4), (.int w5), (.int w6), (.int w7), (.int w8), (.int w9), (.int w10), (.int w11)] (.int (0 : Int32))) (nb1 : bl ≠ a1) (na1 : ar ≠ a1) (nba : bl ≠ ar) : Con l Z (⟨"com/example/strict_xquery/strictxquery/xml/EntryTable", "add", "(IIII)I"⟩ : MethodName) prog_200_method_2_code 8 (some .int) ({ frames := 0, cells := 0, slots := 0, locals := 0 } : Room) #[(.ref a1), (.int x1), (.int x2), (.int x3), (.int x4)] h0 (fun v h L => v = some (.int (0 : Int32)) ∧ Fr n0 L ∧ Keep h0 h [a1, ar] ∧ Exa Z h a1 "com/example/strict_xquery/strictxquery/xml/EntryTable" ∧ Fld Z h a1 "com/example/strict_xquery/strictxquery/xml/EntryTable" "blocks" "[[I" (.ref bl) ∧ Fld Z h a1 "com/example/strict_xquery/strictxquery/xml/EntryTable" "size" "I" (.int (1 : Int32)) ∧ Arv Z h bl kb (.array .int) (1 : Int32) [(.ref ar)] .null ∧ Arv Z h ar ka .int (64 : Int32) [(.int (((x2 + (1 : Int32)) <<< ((3 : Int32) &&& 31)) ||| x1)), (.int x3), (.int ((0 : Int32) + (1 : Int32))), (.int x4), (.int w4), (.int w5), (.int w6), (.int w7), (.int w8), (.int w9), (.int w10), (.int w11)] (.int (0 : Int32))) := by
  refine w_body (Ls := #[.val (.ref a1), .val (.int x1), .val (.int x2), .val (.int x3), .val (.int x4), .unset, .unset, .unset]) pn_3 (fun m => ef_rma0 m a1 x1 x2 x3 x4) ?_
  intro p e s m below meth c T0 X0 hx hby hml hown hnm hret hlk hZ e0
  refine w_aloadN X0 hx hby n3_0 rfl rfl ?_
  refine w_getF X0 hx hby hZ hown (host := "") (Or.inl (hw _ t_20)) Via.refl e0 F_s n3_1 fun T1 X1 e1 => ?_
  refine w_bipush X1 hx hby (12 : Int32) n3_4 rfl ?_
  refine w_iushr X1 hx hby n3_6 ?_
  refine w_istore X1 hx hby #[.val (.ref a1), .val (.int x1), .val (.int x2), .val (.int x3), .val (.int x4), .val (.int (((0 : Int32).toUInt32 >>> ((12 : Int32) &&& 31).toUInt32).toInt32)), .unset, .unset] n3_7 rfl ?_
  refine w_aloadN X1 hx hby n3_9 rfl rfl ?_
  refine w_getF X1 hx hby hZ hown (host := "") (Or.inl (hw _ t_20)) Via.refl e1 F_s n3_10 fun T2 X2 e2 => ?_
  refine w_sipush X2 hx hby (4095 : Int32) n3_13 rfl ?_
  refine w_iand X2 hx hby n3_16 ?_
  refine w_iconst X2 hx hby (4 : Int32) n3_17 rfl ?_
  refine w_imul X2 hx hby n3_18 ?_
  refine w_istore X2 hx hby #[.val (.ref a1), .val (.int x1), .val (.int x2), .val (.int x3), .val (.int x4), .val (.int (((0 : Int32).toUInt32 >>> ((12 : Int32) &&& 31).toUInt32).toInt32)), .val (.int (((0 : Int32) &&& (4095 : Int32)) * (4 : Int32))), .unset] n3_19 rfl ?_
  refine w_iload X2 hx hby n3_21 rfl ?_
  refine w_aloadN X2 hx hby n3_23 rfl rfl ?_
  refine w_getF X2 hx hby hZ hown (host := "") (Or.inl (hw _ t_13)) Via.refl e2 F_b n3_24 fun T3 X3 e3 => ?_
  obtain ⟨cl4, Ar4, qk4, Sz4, Nn4, Ha4, Gf4⟩ := id V_b
  refine w_arraylength X3 hx hby hZ e3 Ar4 (len_of Sz4 Nn4) n3_27 ?_
  refine f_icmp_ne X3 hx hby n3_28 (fun q28 => ?_) (fun q28 => by exact absurd q28 (by decide))
  refine w_aloadN X3 hx hby n3_49 rfl rfl ?_
  refine w_getF X3 hx hby hZ hown (host := "") (Or.inl (hw _ t_13)) Via.refl e3 F_b n3_50 fun T5 X5 e5 => ?_
  refine w_iload X5 hx hby n3_53 rfl ?_
  obtain ⟨cl6, Ar6, qk6, Sz6, Nn6, Ha6, Gf6⟩ := id V_b
  refine w_aaload X5 hx hby hZ e5 Ar6 rfl (j := (((0 : Int32).toUInt32 >>> ((12 : Int32) &&& 31).toUInt32).toInt32)) (v := (.ref ar)) (inb_of Sz6 ⟨by decide, by decide⟩) (Ha6.at (inb_of Sz6 ⟨by decide, by decide⟩) rfl) n3_55 ?_
  refine w_ifnonnullRef X5 hx hby n3_56 ?_
  refine w_iload X5 hx hby n3_74 rfl ?_
  refine w_aloadN X5 hx hby n3_76 rfl rfl ?_
  refine w_getF X5 hx hby hZ hown (host := "") (Or.inl (hw _ t_13)) Via.refl e5 F_b n3_77 fun T7 X7 e7 => ?_
  refine w_iload X7 hx hby n3_80 rfl ?_
  obtain ⟨cl8, Ar8, qk8, Sz8, Nn8, Ha8, Gf8⟩ := id V_b
  refine w_aaload X7 hx hby hZ e7 Ar8 rfl (j := (((0 : Int32).toUInt32 >>> ((12 : Int32) &&& 31).toUInt32).toInt32)) (v := (.ref ar)) (inb_of Sz8 ⟨by decide, by decide⟩) (Ha8.at (inb_of Sz8 ⟨by decide, by decide⟩) rfl) n3_82 ?_
  obtain ⟨cl9, Ar9, qk9, Sz9, Nn9, Ha9, Gf9⟩ := id V_a
  refine w_arraylength X7 hx hby hZ e7 Ar9 (len_of Sz9 Nn9) n3_83 ?_
  refine f_icmp_ne X7 hx hby n3_84 (fun q84 => ?_) (fun q84 => by exact absurd q84 (by decide))
  refine w_aloadN X7 hx hby n3_108 rfl rfl ?_
  refine w_getF X7 hx hby hZ hown (host := "") (Or.inl (hw _ t_13)) Via.refl e7 F_b n3_109 fun T10 X10 e10 => ?_
  refine w_iload X10 hx hby n3_112 rfl ?_
  obtain ⟨cl11, Ar11, qk11, Sz11, Nn11, Ha11, Gf11⟩ := id V_b
  refine w_aaload X10 hx hby hZ e10 Ar11 rfl (j := (((0 : Int32).toUInt32 >>> ((12 : Int32) &&& 31).toUInt32).toInt32)) (v := (.ref ar)) (inb_of Sz11 ⟨by decide, by decide⟩) (Ha11.at (inb_of Sz11 ⟨by decide, by decide⟩) rfl) n3_114 ?_
  refine w_astore X10 hx hby #[.val (.ref a1), .val (.int x1), .val (.int x2), .val (.int x3), .val (.int x4), .val (.int (((0 : Int32).toUInt32 >>> ((12 : Int32) &&& 31).toUInt32).toInt32)), .val (.int (((0 : Int32) &&& (4095 : Int32)) * (4 : Int32))), .val (.ref ar)] n3_115 rfl rfl ?_
  refine w_aload X10 hx hby n3_117 rfl rfl ?_
  refine w_iload X10 hx hby n3_119 rfl ?_
  refine w_iconst X10 hx hby (0 : Int32) n3_121 rfl ?_
  refine w_iadd X10 hx hby n3_122 ?_
  refine w_iloadN X10 hx hby n3_123 rfl ?_
  refine w_iconst X10 hx hby (1 : Int32) n3_124 rfl ?_
  refine w_iadd X10 hx hby n3_125 ?_
  refine w_iconst X10 hx hby (3 : Int32) n3_126 rfl ?_
  refine w_ishl X10 hx hby n3_127 ?_
  refine w_iloadN X10 hx hby n3_128 rfl ?_
  refine w_ior X10 hx hby n3_129 ?_
  obtain ⟨cl12, Ar12, qk12, Sz12, Nn12, Ha12, Gf12⟩ := id V_a
  refine w_stI X10 hx hby hZ e10 Ar12 (j := ((((0 : Int32) &&& (4095 : Int32)) * (4 : Int32)) + (0 : Int32))) (inb_of Sz12 ⟨by decide, by decide⟩) n3_130 fun T12 h12 X12 e12 W12 => ?_
  have V12 : Arv Z h12 ar ka .int (64 : Int32) [(.int (((x2 + (1 : Int32)) <<< ((3 : Int32) &&& 31)) ||| x1)), (.int w1), (.int w2), (.int w3), (.int w4), (.int w5), (.int w6), (.int w7), (.int w8), (.int w9), (.int w10), (.int w11)] (.int (0 : Int32)) := Arv.set Ar12 qk12 Sz12 Nn12 Ha12 Gf12 rfl W12 0 (by decide) (Nat.le_of_ble_eq_true rfl)
  have N12 := Fr.snoc X12 (Fr.nil n0) g2
  have z13 : h0.size ≤ h12.size := Nat.le_trans (Nat.le_refl h0.size) (Keep.of_wr W12).1
  have k13 : Keep h0 h12 [a1, ar] := (Keep.refl h0 [a1, ar]).wr W12 (Or.inl (List.mem_of_getElem? (i := 1) rfl))
  refine w_aload X12 hx hby n3_131 rfl rfl ?_
  refine w_iload X12 hx hby n3_133 rfl ?_
  refine w_iconst X12 hx hby (1 : Int32) n3_135 rfl ?_
  refine w_iadd X12 hx hby n3_136 ?_
  refine w_iloadN X12 hx hby n3_137 rfl ?_
  obtain ⟨cl14, Ar14, qk14, Sz14, Nn14, Ha14, Gf14⟩ := id V12
  refine w_stI X12 hx hby hZ e12 Ar14 (j := ((((0 : Int32) &&& (4095 : Int32)) * (4 : Int32)) + (1 : Int32))) (inb_of Sz14 ⟨by decide, by decide⟩) n3_138 fun T14 h14 X14 e14 W14 => ?_
  have V14 : Arv Z h14 ar ka .int (64 : Int32) [(.int (((x2 + (1 : Int32)) <<< ((3 : Int32) &&& 31)) ||| x1)), (.int x3), (.int w2), (.int w3), (.int w4), (.int w5), (.int w6), (.int w7), (.int w8), (.int w9), (.int w10), (.int w11)] (.int (0 : Int32)) := Arv.set Ar14 qk14 Sz14 Nn14 Ha14 Gf14 rfl W14 1 (by decide) (Nat.le_of_ble_eq_true rfl)
  have N14 := Fr.snoc X14 N12 g2
  have z15 : h0.size ≤ h14.size := Nat.le_trans z13 (Keep.of_wr W14).1
  have k15 : Keep h0 h14 [a1, ar] := k13.wr W14 (Or.inl (List.mem_of_getElem? (i := 1) rfl))
  refine w_aload X14 hx hby n3_139 rfl rfl ?_
  refine w_iload X14 hx hby n3_141 rfl ?_
  refine w_iconst X14 hx hby (2 : Int32) n3_143 rfl ?_
  refine w_iadd X14 hx hby n3_144 ?_
  refine w_aloadN X14 hx hby n3_145 rfl rfl ?_
  have f16 := ((F_s.other W12 (Or.inl (Ne.symm na1))).other W14 (Or.inl (Ne.symm na1)))
  refine w_getF X14 hx hby hZ hown (host := "") (Or.inl (hw _ t_20)) Via.refl e14 f16 n3_146 fun T17 X17 e17 => ?_
  refine w_iconst X17 hx hby (1 : Int32) n3_149 rfl ?_
  refine w_iadd X17 hx hby n3_150 ?_
  obtain ⟨cl18, Ar18, qk18, Sz18, Nn18, Ha18, Gf18⟩ := id V14
  refine w_stI X17 hx hby hZ e17 Ar18 (j := ((((0 : Int32) &&& (4095 : Int32)) * (4 : Int32)) + (2 : Int32))) (inb_of Sz18 ⟨by decide, by decide⟩) n3_151 fun T18 h18 X18 e18 W18 => ?_
  have V18 : Arv Z h18 ar ka .int (64 : Int32) [(.int (((x2 + (1 : Int32)) <<< ((3 : Int32) &&& 31)) ||| x1)), (.int x3), (.int ((0 : Int32) + (1 : Int32))), (.int w3), (.int w4), (.int w5), (.int w6), (.int w7), (.int w8), (.int w9), (.int w10), (.int w11)] (.int (0 : Int32)) := Arv.set Ar18 qk18 Sz18 Nn18 Ha18 Gf18 rfl W18 2 (by decide) (Nat.le_of_ble_eq_true rfl)
  have N18 := Fr.snoc X18 N14 g2
  have z19 : h0.size ≤ h18.size := Nat.le_trans z15 (Keep.of_wr W18).1
  have k19 : Keep h0 h18 [a1, ar] := k15.wr W18 (Or.inl (List.mem_of_getElem? (i := 1) rfl))
  refine w_aload X18 hx hby n3_152 rfl rfl ?_
  refine w_iload X18 hx hby n3_154 rfl ?_
  refine w_iconst X18 hx hby (3 : Int32) n3_156 rfl ?_
  refine w_iadd X18 hx hby n3_157 ?_
  refine w_iload X18 hx hby n3_158 rfl ?_
  obtain ⟨cl20, Ar20, qk20, Sz20, Nn20, Ha20, Gf20⟩ := id V18
  refine w_stI X18 hx hby hZ e18 Ar20 (j := ((((0 : Int32) &&& (4095 : Int32)) * (4 : Int32)) + (3 : Int32))) (inb_of Sz20 ⟨by decide, by decide⟩) n3_160 fun T20 h20 X20 e20 W20 => ?_
  have V20 : Arv Z h20 ar ka .int (64 : Int32) [(.int (((x2 + (1 : Int32)) <<< ((3 : Int32) &&& 31)) ||| x1)), (.int x3), (.int ((0 : Int32) + (1 : Int32))), (.int x4), (.int w4), (.int w5), (.int w6), (.int w7), (.int w8), (.int w9), (.int w10), (.int w11)] (.int (0 : Int32)) := Arv.set Ar20 qk20 Sz20 Nn20 Ha20 Gf20 rfl W20 3 (by decide) (Nat.le_of_ble_eq_true rfl)
  have N20 := Fr.snoc X20 N18 g2
  have z21 : h0.size ≤ h20.size := Nat.le_trans z19 (Keep.of_wr W20).1
  have k21 : Keep h0 h20 [a1, ar] := k19.wr W20 (Or.inl (List.mem_of_getElem? (i := 1) rfl))
  refine w_aloadN X20 hx hby n3_161 rfl rfl ?_
  refine w_dup X20 hx hby n3_162 rfl ?_
  have f22 := ((f16.other W18 (Or.inl (Ne.symm na1))).other W20 (Or.inl (Ne.symm na1)))
  refine w_getF X20 hx hby hZ hown (host := "") (Or.inl (hw _ t_20)) Via.refl e20 f22 n3_163 fun T23 X23 e23 => ?_
  refine w_dup_x1 X23 hx hby n3_166 rfl rfl ?_
  refine w_iconst X23 hx hby (1 : Int32) n3_167 rfl ?_
  refine w_iadd X23 hx hby n3_168 ?_
  have f24 := ((((E1.wr W12).wr W14).wr W18).wr W20)
  refine w_putFN X23 hx hby hZ hown (hw _ t_20) Via.refl e23 f22 f24 (Or.inl (hw _ t_21)) (hw _ t_1) (ty := .int) (by decide) rfl rfl n3_169 fun T25 h25 X25 e25 W25 => ?_
  have P25 := f22.same W25
  have N25 := Fr.snoc X25 N20 g1
  have z26 : h0.size ≤ h25.size := Nat.le_trans z21 (Keep.of_wr W25).1
  have k26 : Keep h0 h25 [a1, ar] := k21.wr W25 (Or.inl (List.mem_of_getElem? (i := 0) rfl))
  refine w_retI X25 hx hby e25 hlk hret n3_172 (by decide) (by decide) ?_
  have f27 := (((((V_b.other W12 nba).other W14 nba).other W18 nba).other W20 nba).other W25 nb1)
  have f28 := (V20.other W25 na1)
  have f29 := (f24.wr W25)
  have f30 := (((((F_b.other W12 (Or.inl (Ne.symm na1))).other W14 (Or.inl (Ne.symm na1))).other W18 (Or.inl (Ne.symm na1))).other W20 (Or.inl (Ne.symm na1))).other W25 (Or.inr (slot_ne (Or.inl (hw _ t_14)) (Or.inl (hw _ t_21)) (by decide) (t := (.array (.array .int))) (t' := .int) (by decide) (by decide))))
  have fz : Fld Z h25 a1 "com/example/strict_xquery/strictxquery/xml/EntryTable" "size" "I" (.int (1 : Int32)) := by have q := P25; rw [show ((0 : Int32) + (1 : Int32)) = (1 : Int32) from by decide] at q; exact q
  exact ⟨rfl, N25, k26, f29, f30, fz, f27, f28⟩
set_option maxRecDepth 65536 in
set_option maxHeartbeats 4000000 in
theorem ef_rma1 (m : MethodId) (x0 : Addr) (x1 : Int32) (x2 : Int32) (x3 : Int32) (x4 : Int32) : entryFrame m #[(.ref x0), (.int x1), (.int x2), (.int x3), (.int x4)] 8 = mkF m 0 #[.val (.ref x0), .val (.int x1), .val (.int x2), .val (.int x3), .val (.int x4), .unset, .unset, .unset] [] := by first | (simp [entryFrame, mkF, argsToLocals, Value.category]; done) | rfl
set_option maxRecDepth 65536 in
set_option maxHeartbeats 40000000 in
theorem rma1 (l : Launch) (Z : State) (a0 : Array Value) (hw : ∀ d ∈ tables_1, d.before a0 Z = true) (a1 bl ar : Addr) (kb ka : ClassId) (x1 x2 x3 x4 w0 w1 w2 w3 w4 w5 w6 w7 w8 w9 w10 w11 : Int32) (h0 : Heap) (n0 : Nat) (Z0 : n0 ≤ h0.size) (g1 : n0 ≤ a1) (g2 : n0 ≤ ar) (E1 : Exa Z h0 a1 "com/example/strict_xquery/strictxquery/xml/EntryTable") (F_b : Fld Z h0 a1 "com/example/strict_xquery/strictxquery/xml/EntryTable" "blocks" "[[I" (.ref bl)) (F_s : Fld Z h0 a1 "com/example/strict_xquery/strictxquery/xml/EntryTable" "size" "I" (.int (1 : Int32))) (V_b : Arv Z h0 bl kb (.array .int) (1 : Int32) [(.ref ar)] .null) (V_a : Arv Z h0 ar ka .int (64 : Int32) [(.int w0), (.int w1), (.int w2), (.int w3), (.int w4), (.int w5), (.int w6), (.int w7), (.int w8), (.int w9), (.int w10), (.int w11)] (.int (0 : Int32))) (nb1 : bl ≠ a1) (na1 : ar ≠ a1) (nba : bl ≠ ar) : Con l Z (⟨"com/example/strict_xquery/strictxquery/xml/EntryTable", "add", "(IIII)I"⟩ : MethodName) prog_200_method_2_code 8 (some .int) ({ frames := 0, cells := 0, slots := 0, locals := 0 } : Room) #[(.ref a1), (.int x1), (.int x2), (.int x3), (.int x4)] h0 (fun v h L => v = some (.int (1 : Int32)) ∧ Fr n0 L ∧ Keep h0 h [a1, ar] ∧ Exa Z h a1 "com/example/strict_xquery/strictxquery/xml/EntryTable" ∧ Fld Z h a1 "com/example/strict_xquery/strictxquery/xml/EntryTable" "blocks" "[[I" (.ref bl) ∧ Fld Z h a1 "com/example/strict_xquery/strictxquery/xml/EntryTable" "size" "I" (.int (2 : Int32)) ∧ Arv Z h bl kb (.array .int) (1 : Int32) [(.ref ar)] .null ∧ Arv Z h ar ka .int (64 : Int32) [(.int w0), (.int w1), (.int w2), (.int w3), (.int (((x2 + (1 : Int32)) <<< ((3 : Int32) &&& 31)) ||| x1)), (.int x3), (.int ((1 : Int32) + (1 : Int32))), (.int x4), (.int w8), (.int w9), (.int w10), (.int w11)] (.int (0 : Int32))) := by
  refine w_body (Ls := #[.val (.ref a1), .val (.int x1), .val (.int x2), .val (.int x3), .val (.int x4), .unset, .unset, .unset]) pn_3 (fun m => ef_rma1 m a1 x1 x2 x3 x4) ?_
  intro p e s m below meth c T0 X0 hx hby hml hown hnm hret hlk hZ e0
  refine w_aloadN X0 hx hby n3_0 rfl rfl ?_
  refine w_getF X0 hx hby hZ hown (host := "") (Or.inl (hw _ t_20)) Via.refl e0 F_s n3_1 fun T1 X1 e1 => ?_
  refine w_bipush X1 hx hby (12 : Int32) n3_4 rfl ?_
  refine w_iushr X1 hx hby n3_6 ?_
  refine w_istore X1 hx hby #[.val (.ref a1), .val (.int x1), .val (.int x2), .val (.int x3), .val (.int x4), .val (.int (((1 : Int32).toUInt32 >>> ((12 : Int32) &&& 31).toUInt32).toInt32)), .unset, .unset] n3_7 rfl ?_
  refine w_aloadN X1 hx hby n3_9 rfl rfl ?_
  refine w_getF X1 hx hby hZ hown (host := "") (Or.inl (hw _ t_20)) Via.refl e1 F_s n3_10 fun T2 X2 e2 => ?_
  refine w_sipush X2 hx hby (4095 : Int32) n3_13 rfl ?_
  refine w_iand X2 hx hby n3_16 ?_
  refine w_iconst X2 hx hby (4 : Int32) n3_17 rfl ?_
  refine w_imul X2 hx hby n3_18 ?_
  refine w_istore X2 hx hby #[.val (.ref a1), .val (.int x1), .val (.int x2), .val (.int x3), .val (.int x4), .val (.int (((1 : Int32).toUInt32 >>> ((12 : Int32) &&& 31).toUInt32).toInt32)), .val (.int (((1 : Int32) &&& (4095 : Int32)) * (4 : Int32))), .unset] n3_19 rfl ?_
  refine w_iload X2 hx hby n3_21 rfl ?_
  refine w_aloadN X2 hx hby n3_23 rfl rfl ?_
  refine w_getF X2 hx hby hZ hown (host := "") (Or.inl (hw _ t_13)) Via.refl e2 F_b n3_24 fun T3 X3 e3 => ?_
  obtain ⟨cl4, Ar4, qk4, Sz4, Nn4, Ha4, Gf4⟩ := id V_b
  refine w_arraylength X3 hx hby hZ e3 Ar4 (len_of Sz4 Nn4) n3_27 ?_
  refine f_icmp_ne X3 hx hby n3_28 (fun q28 => ?_) (fun q28 => by exact absurd q28 (by decide))
  refine w_aloadN X3 hx hby n3_49 rfl rfl ?_
  refine w_getF X3 hx hby hZ hown (host := "") (Or.inl (hw _ t_13)) Via.refl e3 F_b n3_50 fun T5 X5 e5 => ?_
  refine w_iload X5 hx hby n3_53 rfl ?_
  obtain ⟨cl6, Ar6, qk6, Sz6, Nn6, Ha6, Gf6⟩ := id V_b
  refine w_aaload X5 hx hby hZ e5 Ar6 rfl (j := (((1 : Int32).toUInt32 >>> ((12 : Int32) &&& 31).toUInt32).toInt32)) (v := (.ref ar)) (inb_of Sz6 ⟨by decide, by decide⟩) (Ha6.at (inb_of Sz6 ⟨by decide, by decide⟩) rfl) n3_55 ?_
  refine w_ifnonnullRef X5 hx hby n3_56 ?_
  refine w_iload X5 hx hby n3_74 rfl ?_
  refine w_aloadN X5 hx hby n3_76 rfl rfl ?_
  refine w_getF X5 hx hby hZ hown (host := "") (Or.inl (hw _ t_13)) Via.refl e5 F_b n3_77 fun T7 X7 e7 => ?_
  refine w_iload X7 hx hby n3_80 rfl ?_
  obtain ⟨cl8, Ar8, qk8, Sz8, Nn8, Ha8, Gf8⟩ := id V_b
  refine w_aaload X7 hx hby hZ e7 Ar8 rfl (j := (((1 : Int32).toUInt32 >>> ((12 : Int32) &&& 31).toUInt32).toInt32)) (v := (.ref ar)) (inb_of Sz8 ⟨by decide, by decide⟩) (Ha8.at (inb_of Sz8 ⟨by decide, by decide⟩) rfl) n3_82 ?_
  obtain ⟨cl9, Ar9, qk9, Sz9, Nn9, Ha9, Gf9⟩ := id V_a
  refine w_arraylength X7 hx hby hZ e7 Ar9 (len_of Sz9 Nn9) n3_83 ?_
  refine f_icmp_ne X7 hx hby n3_84 (fun q84 => ?_) (fun q84 => by exact absurd q84 (by decide))
  refine w_aloadN X7 hx hby n3_108 rfl rfl ?_
  refine w_getF X7 hx hby hZ hown (host := "") (Or.inl (hw _ t_13)) Via.refl e7 F_b n3_109 fun T10 X10 e10 => ?_
  refine w_iload X10 hx hby n3_112 rfl ?_
  obtain ⟨cl11, Ar11, qk11, Sz11, Nn11, Ha11, Gf11⟩ := id V_b
  refine w_aaload X10 hx hby hZ e10 Ar11 rfl (j := (((1 : Int32).toUInt32 >>> ((12 : Int32) &&& 31).toUInt32).toInt32)) (v := (.ref ar)) (inb_of Sz11 ⟨by decide, by decide⟩) (Ha11.at (inb_of Sz11 ⟨by decide, by decide⟩) rfl) n3_114 ?_
  refine w_astore X10 hx hby #[.val (.ref a1), .val (.int x1), .val (.int x2), .val (.int x3), .val (.int x4), .val (.int (((1 : Int32).toUInt32 >>> ((12 : Int32) &&& 31).toUInt32).toInt32)), .val (.int (((1 : Int32) &&& (4095 : Int32)) * (4 : Int32))), .val (.ref ar)] n3_115 rfl rfl ?_
  refine w_aload X10 hx hby n3_117 rfl rfl ?_
  refine w_iload X10 hx hby n3_119 rfl ?_
  refine w_iconst X10 hx hby (0 : Int32) n3_121 rfl ?_
  refine w_iadd X10 hx hby n3_122 ?_
  refine w_iloadN X10 hx hby n3_123 rfl ?_
  refine w_iconst X10 hx hby (1 : Int32) n3_124 rfl ?_
  refine w_iadd X10 hx hby n3_125 ?_
  refine w_iconst X10 hx hby (3 : Int32) n3_126 rfl ?_
  refine w_ishl X10 hx hby n3_127 ?_
  refine w_iloadN X10 hx hby n3_128 rfl ?_
  refine w_ior X10 hx hby n3_129 ?_
  obtain ⟨cl12, Ar12, qk12, Sz12, Nn12, Ha12, Gf12⟩ := id V_a
  refine w_stI X10 hx hby hZ e10 Ar12 (j := ((((1 : Int32) &&& (4095 : Int32)) * (4 : Int32)) + (0 : Int32))) (inb_of Sz12 ⟨by decide, by decide⟩) n3_130 fun T12 h12 X12 e12 W12 => ?_
  have V12 : Arv Z h12 ar ka .int (64 : Int32) [(.int w0), (.int w1), (.int w2), (.int w3), (.int (((x2 + (1 : Int32)) <<< ((3 : Int32) &&& 31)) ||| x1)), (.int w5), (.int w6), (.int w7), (.int w8), (.int w9), (.int w10), (.int w11)] (.int (0 : Int32)) := Arv.set Ar12 qk12 Sz12 Nn12 Ha12 Gf12 rfl W12 4 (by decide) (Nat.le_of_ble_eq_true rfl)
  have N12 := Fr.snoc X12 (Fr.nil n0) g2
  have z13 : h0.size ≤ h12.size := Nat.le_trans (Nat.le_refl h0.size) (Keep.of_wr W12).1
  have k13 : Keep h0 h12 [a1, ar] := (Keep.refl h0 [a1, ar]).wr W12 (Or.inl (List.mem_of_getElem? (i := 1) rfl))
  refine w_aload X12 hx hby n3_131 rfl rfl ?_
  refine w_iload X12 hx hby n3_133 rfl ?_
  refine w_iconst X12 hx hby (1 : Int32) n3_135 rfl ?_
  refine w_iadd X12 hx hby n3_136 ?_
  refine w_iloadN X12 hx hby n3_137 rfl ?_
  obtain ⟨cl14, Ar14, qk14, Sz14, Nn14, Ha14, Gf14⟩ := id V12
  refine w_stI X12 hx hby hZ e12 Ar14 (j := ((((1 : Int32) &&& (4095 : Int32)) * (4 : Int32)) + (1 : Int32))) (inb_of Sz14 ⟨by decide, by decide⟩) n3_138 fun T14 h14 X14 e14 W14 => ?_
  have V14 : Arv Z h14 ar ka .int (64 : Int32) [(.int w0), (.int w1), (.int w2), (.int w3), (.int (((x2 + (1 : Int32)) <<< ((3 : Int32) &&& 31)) ||| x1)), (.int x3), (.int w6), (.int w7), (.int w8), (.int w9), (.int w10), (.int w11)] (.int (0 : Int32)) := Arv.set Ar14 qk14 Sz14 Nn14 Ha14 Gf14 rfl W14 5 (by decide) (Nat.le_of_ble_eq_true rfl)
  have N14 := Fr.snoc X14 N12 g2
  have z15 : h0.size ≤ h14.size := Nat.le_trans z13 (Keep.of_wr W14).1
  have k15 : Keep h0 h14 [a1, ar] := k13.wr W14 (Or.inl (List.mem_of_getElem? (i := 1) rfl))
  refine w_aload X14 hx hby n3_139 rfl rfl ?_
  refine w_iload X14 hx hby n3_141 rfl ?_
  refine w_iconst X14 hx hby (2 : Int32) n3_143 rfl ?_
  refine w_iadd X14 hx hby n3_144 ?_
  refine w_aloadN X14 hx hby n3_145 rfl rfl ?_
  have f16 := ((F_s.other W12 (Or.inl (Ne.symm na1))).other W14 (Or.inl (Ne.symm na1)))
  refine w_getF X14 hx hby hZ hown (host := "") (Or.inl (hw _ t_20)) Via.refl e14 f16 n3_146 fun T17 X17 e17 => ?_
  refine w_iconst X17 hx hby (1 : Int32) n3_149 rfl ?_
  refine w_iadd X17 hx hby n3_150 ?_
  obtain ⟨cl18, Ar18, qk18, Sz18, Nn18, Ha18, Gf18⟩ := id V14
  refine w_stI X17 hx hby hZ e17 Ar18 (j := ((((1 : Int32) &&& (4095 : Int32)) * (4 : Int32)) + (2 : Int32))) (inb_of Sz18 ⟨by decide, by decide⟩) n3_151 fun T18 h18 X18 e18 W18 => ?_
  have V18 : Arv Z h18 ar ka .int (64 : Int32) [(.int w0), (.int w1), (.int w2), (.int w3), (.int (((x2 + (1 : Int32)) <<< ((3 : Int32) &&& 31)) ||| x1)), (.int x3), (.int ((1 : Int32) + (1 : Int32))), (.int w7), (.int w8), (.int w9), (.int w10), (.int w11)] (.int (0 : Int32)) := Arv.set Ar18 qk18 Sz18 Nn18 Ha18 Gf18 rfl W18 6 (by decide) (Nat.le_of_ble_eq_true rfl)
  have N18 := Fr.snoc X18 N14 g2
  have z19 : h0.size ≤ h18.size := Nat.le_trans z15 (Keep.of_wr W18).1
  have k19 : Keep h0 h18 [a1, ar] := k15.wr W18 (Or.inl (List.mem_of_getElem? (i := 1) rfl))
  refine w_aload X18 hx hby n3_152 rfl rfl ?_
  refine w_iload X18 hx hby n3_154 rfl ?_
  refine w_iconst X18 hx hby (3 : Int32) n3_156 rfl ?_
  refine w_iadd X18 hx hby n3_157 ?_
  refine w_iload X18 hx hby n3_158 rfl ?_
  obtain ⟨cl20, Ar20, qk20, Sz20, Nn20, Ha20, Gf20⟩ := id V18
  refine w_stI X18 hx hby hZ e18 Ar20 (j := ((((1 : Int32) &&& (4095 : Int32)) * (4 : Int32)) + (3 : Int32))) (inb_of Sz20 ⟨by decide, by decide⟩) n3_160 fun T20 h20 X20 e20 W20 => ?_
  have V20 : Arv Z h20 ar ka .int (64 : Int32) [(.int w0), (.int w1), (.int w2), (.int w3), (.int (((x2 + (1 : Int32)) <<< ((3 : Int32) &&& 31)) ||| x1)), (.int x3), (.int ((1 : Int32) + (1 : Int32))), (.int x4), (.int w8), (.int w9), (.int w10), (.int w11)] (.int (0 : Int32)) := Arv.set Ar20 qk20 Sz20 Nn20 Ha20 Gf20 rfl W20 7 (by decide) (Nat.le_of_ble_eq_true rfl)
  have N20 := Fr.snoc X20 N18 g2
  have z21 : h0.size ≤ h20.size := Nat.le_trans z19 (Keep.of_wr W20).1
  have k21 : Keep h0 h20 [a1, ar] := k19.wr W20 (Or.inl (List.mem_of_getElem? (i := 1) rfl))
  refine w_aloadN X20 hx hby n3_161 rfl rfl ?_
  refine w_dup X20 hx hby n3_162 rfl ?_
  have f22 := ((f16.other W18 (Or.inl (Ne.symm na1))).other W20 (Or.inl (Ne.symm na1)))
  refine w_getF X20 hx hby hZ hown (host := "") (Or.inl (hw _ t_20)) Via.refl e20 f22 n3_163 fun T23 X23 e23 => ?_
  refine w_dup_x1 X23 hx hby n3_166 rfl rfl ?_
  refine w_iconst X23 hx hby (1 : Int32) n3_167 rfl ?_
  refine w_iadd X23 hx hby n3_168 ?_
  have f24 := ((((E1.wr W12).wr W14).wr W18).wr W20)
  refine w_putFN X23 hx hby hZ hown (hw _ t_20) Via.refl e23 f22 f24 (Or.inl (hw _ t_21)) (hw _ t_1) (ty := .int) (by decide) rfl rfl n3_169 fun T25 h25 X25 e25 W25 => ?_
  have P25 := f22.same W25
  have N25 := Fr.snoc X25 N20 g1
  have z26 : h0.size ≤ h25.size := Nat.le_trans z21 (Keep.of_wr W25).1
  have k26 : Keep h0 h25 [a1, ar] := k21.wr W25 (Or.inl (List.mem_of_getElem? (i := 0) rfl))
  refine w_retI X25 hx hby e25 hlk hret n3_172 (by decide) (by decide) ?_
  have f27 := (((((V_b.other W12 nba).other W14 nba).other W18 nba).other W20 nba).other W25 nb1)
  have f28 := (V20.other W25 na1)
  have f29 := (f24.wr W25)
  have f30 := (((((F_b.other W12 (Or.inl (Ne.symm na1))).other W14 (Or.inl (Ne.symm na1))).other W18 (Or.inl (Ne.symm na1))).other W20 (Or.inl (Ne.symm na1))).other W25 (Or.inr (slot_ne (Or.inl (hw _ t_14)) (Or.inl (hw _ t_21)) (by decide) (t := (.array (.array .int))) (t' := .int) (by decide) (by decide))))
  have fz : Fld Z h25 a1 "com/example/strict_xquery/strictxquery/xml/EntryTable" "size" "I" (.int (2 : Int32)) := by have q := P25; rw [show ((1 : Int32) + (1 : Int32)) = (2 : Int32) from by decide] at q; exact q
  exact ⟨rfl, N25, k26, f29, f30, fz, f27, f28⟩
set_option maxRecDepth 65536 in
set_option maxHeartbeats 4000000 in
theorem ef_rma2 (m : MethodId) (x0 : Addr) (x1 : Int32) (x2 : Int32) (x3 : Int32) (x4 : Int32) : entryFrame m #[(.ref x0), (.int x1), (.int x2), (.int x3), (.int x4)] 8 = mkF m 0 #[.val (.ref x0), .val (.int x1), .val (.int x2), .val (.int x3), .val (.int x4), .unset, .unset, .unset] [] := by first | (simp [entryFrame, mkF, argsToLocals, Value.category]; done) | rfl
set_option maxRecDepth 65536 in
set_option maxHeartbeats 40000000 in
theorem rma2 (l : Launch) (Z : State) (a0 : Array Value) (hw : ∀ d ∈ tables_1, d.before a0 Z = true) (a1 bl ar : Addr) (kb ka : ClassId) (x1 x2 x3 x4 w0 w1 w2 w3 w4 w5 w6 w7 w8 w9 w10 w11 : Int32) (h0 : Heap) (n0 : Nat) (Z0 : n0 ≤ h0.size) (g1 : n0 ≤ a1) (g2 : n0 ≤ ar) (E1 : Exa Z h0 a1 "com/example/strict_xquery/strictxquery/xml/EntryTable") (F_b : Fld Z h0 a1 "com/example/strict_xquery/strictxquery/xml/EntryTable" "blocks" "[[I" (.ref bl)) (F_s : Fld Z h0 a1 "com/example/strict_xquery/strictxquery/xml/EntryTable" "size" "I" (.int (2 : Int32))) (V_b : Arv Z h0 bl kb (.array .int) (1 : Int32) [(.ref ar)] .null) (V_a : Arv Z h0 ar ka .int (64 : Int32) [(.int w0), (.int w1), (.int w2), (.int w3), (.int w4), (.int w5), (.int w6), (.int w7), (.int w8), (.int w9), (.int w10), (.int w11)] (.int (0 : Int32))) (nb1 : bl ≠ a1) (na1 : ar ≠ a1) (nba : bl ≠ ar) : Con l Z (⟨"com/example/strict_xquery/strictxquery/xml/EntryTable", "add", "(IIII)I"⟩ : MethodName) prog_200_method_2_code 8 (some .int) ({ frames := 0, cells := 0, slots := 0, locals := 0 } : Room) #[(.ref a1), (.int x1), (.int x2), (.int x3), (.int x4)] h0 (fun v h L => v = some (.int (2 : Int32)) ∧ Fr n0 L ∧ Keep h0 h [a1, ar] ∧ Exa Z h a1 "com/example/strict_xquery/strictxquery/xml/EntryTable" ∧ Fld Z h a1 "com/example/strict_xquery/strictxquery/xml/EntryTable" "blocks" "[[I" (.ref bl) ∧ Fld Z h a1 "com/example/strict_xquery/strictxquery/xml/EntryTable" "size" "I" (.int (3 : Int32)) ∧ Arv Z h bl kb (.array .int) (1 : Int32) [(.ref ar)] .null ∧ Arv Z h ar ka .int (64 : Int32) [(.int w0), (.int w1), (.int w2), (.int w3), (.int w4), (.int w5), (.int w6), (.int w7), (.int (((x2 + (1 : Int32)) <<< ((3 : Int32) &&& 31)) ||| x1)), (.int x3), (.int ((2 : Int32) + (1 : Int32))), (.int x4)] (.int (0 : Int32))) := by
  refine w_body (Ls := #[.val (.ref a1), .val (.int x1), .val (.int x2), .val (.int x3), .val (.int x4), .unset, .unset, .unset]) pn_3 (fun m => ef_rma2 m a1 x1 x2 x3 x4) ?_
  intro p e s m below meth c T0 X0 hx hby hml hown hnm hret hlk hZ e0
  refine w_aloadN X0 hx hby n3_0 rfl rfl ?_
  refine w_getF X0 hx hby hZ hown (host := "") (Or.inl (hw _ t_20)) Via.refl e0 F_s n3_1 fun T1 X1 e1 => ?_
  refine w_bipush X1 hx hby (12 : Int32) n3_4 rfl ?_
  refine w_iushr X1 hx hby n3_6 ?_
  refine w_istore X1 hx hby #[.val (.ref a1), .val (.int x1), .val (.int x2), .val (.int x3), .val (.int x4), .val (.int (((2 : Int32).toUInt32 >>> ((12 : Int32) &&& 31).toUInt32).toInt32)), .unset, .unset] n3_7 rfl ?_
  refine w_aloadN X1 hx hby n3_9 rfl rfl ?_
  refine w_getF X1 hx hby hZ hown (host := "") (Or.inl (hw _ t_20)) Via.refl e1 F_s n3_10 fun T2 X2 e2 => ?_
  refine w_sipush X2 hx hby (4095 : Int32) n3_13 rfl ?_
  refine w_iand X2 hx hby n3_16 ?_
  refine w_iconst X2 hx hby (4 : Int32) n3_17 rfl ?_
  refine w_imul X2 hx hby n3_18 ?_
  refine w_istore X2 hx hby #[.val (.ref a1), .val (.int x1), .val (.int x2), .val (.int x3), .val (.int x4), .val (.int (((2 : Int32).toUInt32 >>> ((12 : Int32) &&& 31).toUInt32).toInt32)), .val (.int (((2 : Int32) &&& (4095 : Int32)) * (4 : Int32))), .unset] n3_19 rfl ?_
  refine w_iload X2 hx hby n3_21 rfl ?_
  refine w_aloadN X2 hx hby n3_23 rfl rfl ?_
  refine w_getF X2 hx hby hZ hown (host := "") (Or.inl (hw _ t_13)) Via.refl e2 F_b n3_24 fun T3 X3 e3 => ?_
  obtain ⟨cl4, Ar4, qk4, Sz4, Nn4, Ha4, Gf4⟩ := id V_b
  refine w_arraylength X3 hx hby hZ e3 Ar4 (len_of Sz4 Nn4) n3_27 ?_
  refine f_icmp_ne X3 hx hby n3_28 (fun q28 => ?_) (fun q28 => by exact absurd q28 (by decide))
  refine w_aloadN X3 hx hby n3_49 rfl rfl ?_
  refine w_getF X3 hx hby hZ hown (host := "") (Or.inl (hw _ t_13)) Via.refl e3 F_b n3_50 fun T5 X5 e5 => ?_
  refine w_iload X5 hx hby n3_53 rfl ?_
  obtain ⟨cl6, Ar6, qk6, Sz6, Nn6, Ha6, Gf6⟩ := id V_b
  refine w_aaload X5 hx hby hZ e5 Ar6 rfl (j := (((2 : Int32).toUInt32 >>> ((12 : Int32) &&& 31).toUInt32).toInt32)) (v := (.ref ar)) (inb_of Sz6 ⟨by decide, by decide⟩) (Ha6.at (inb_of Sz6 ⟨by decide, by decide⟩) rfl) n3_55 ?_
  refine w_ifnonnullRef X5 hx hby n3_56 ?_
  refine w_iload X5 hx hby n3_74 rfl ?_
  refine w_aloadN X5 hx hby n3_76 rfl rfl ?_
  refine w_getF X5 hx hby hZ hown (host := "") (Or.inl (hw _ t_13)) Via.refl e5 F_b n3_77 fun T7 X7 e7 => ?_
  refine w_iload X7 hx hby n3_80 rfl ?_
  obtain ⟨cl8, Ar8, qk8, Sz8, Nn8, Ha8, Gf8⟩ := id V_b
  refine w_aaload X7 hx hby hZ e7 Ar8 rfl (j := (((2 : Int32).toUInt32 >>> ((12 : Int32) &&& 31).toUInt32).toInt32)) (v := (.ref ar)) (inb_of Sz8 ⟨by decide, by decide⟩) (Ha8.at (inb_of Sz8 ⟨by decide, by decide⟩) rfl) n3_82 ?_
  obtain ⟨cl9, Ar9, qk9, Sz9, Nn9, Ha9, Gf9⟩ := id V_a
  refine w_arraylength X7 hx hby hZ e7 Ar9 (len_of Sz9 Nn9) n3_83 ?_
  refine f_icmp_ne X7 hx hby n3_84 (fun q84 => ?_) (fun q84 => by exact absurd q84 (by decide))
  refine w_aloadN X7 hx hby n3_108 rfl rfl ?_
  refine w_getF X7 hx hby hZ hown (host := "") (Or.inl (hw _ t_13)) Via.refl e7 F_b n3_109 fun T10 X10 e10 => ?_
  refine w_iload X10 hx hby n3_112 rfl ?_
  obtain ⟨cl11, Ar11, qk11, Sz11, Nn11, Ha11, Gf11⟩ := id V_b
  refine w_aaload X10 hx hby hZ e10 Ar11 rfl (j := (((2 : Int32).toUInt32 >>> ((12 : Int32) &&& 31).toUInt32).toInt32)) (v := (.ref ar)) (inb_of Sz11 ⟨by decide, by decide⟩) (Ha11.at (inb_of Sz11 ⟨by decide, by decide⟩) rfl) n3_114 ?_
  refine w_astore X10 hx hby #[.val (.ref a1), .val (.int x1), .val (.int x2), .val (.int x3), .val (.int x4), .val (.int (((2 : Int32).toUInt32 >>> ((12 : Int32) &&& 31).toUInt32).toInt32)), .val (.int (((2 : Int32) &&& (4095 : Int32)) * (4 : Int32))), .val (.ref ar)] n3_115 rfl rfl ?_
  refine w_aload X10 hx hby n3_117 rfl rfl ?_
  refine w_iload X10 hx hby n3_119 rfl ?_
  refine w_iconst X10 hx hby (0 : Int32) n3_121 rfl ?_
  refine w_iadd X10 hx hby n3_122 ?_
  refine w_iloadN X10 hx hby n3_123 rfl ?_
  refine w_iconst X10 hx hby (1 : Int32) n3_124 rfl ?_
  refine w_iadd X10 hx hby n3_125 ?_
  refine w_iconst X10 hx hby (3 : Int32) n3_126 rfl ?_
  refine w_ishl X10 hx hby n3_127 ?_
  refine w_iloadN X10 hx hby n3_128 rfl ?_
  refine w_ior X10 hx hby n3_129 ?_
  obtain ⟨cl12, Ar12, qk12, Sz12, Nn12, Ha12, Gf12⟩ := id V_a
  refine w_stI X10 hx hby hZ e10 Ar12 (j := ((((2 : Int32) &&& (4095 : Int32)) * (4 : Int32)) + (0 : Int32))) (inb_of Sz12 ⟨by decide, by decide⟩) n3_130 fun T12 h12 X12 e12 W12 => ?_
  have V12 : Arv Z h12 ar ka .int (64 : Int32) [(.int w0), (.int w1), (.int w2), (.int w3), (.int w4), (.int w5), (.int w6), (.int w7), (.int (((x2 + (1 : Int32)) <<< ((3 : Int32) &&& 31)) ||| x1)), (.int w9), (.int w10), (.int w11)] (.int (0 : Int32)) := Arv.set Ar12 qk12 Sz12 Nn12 Ha12 Gf12 rfl W12 8 (by decide) (Nat.le_of_ble_eq_true rfl)
  have N12 := Fr.snoc X12 (Fr.nil n0) g2
  have z13 : h0.size ≤ h12.size := Nat.le_trans (Nat.le_refl h0.size) (Keep.of_wr W12).1
  have k13 : Keep h0 h12 [a1, ar] := (Keep.refl h0 [a1, ar]).wr W12 (Or.inl (List.mem_of_getElem? (i := 1) rfl))
  refine w_aload X12 hx hby n3_131 rfl rfl ?_
  refine w_iload X12 hx hby n3_133 rfl ?_
  refine w_iconst X12 hx hby (1 : Int32) n3_135 rfl ?_
  refine w_iadd X12 hx hby n3_136 ?_
  refine w_iloadN X12 hx hby n3_137 rfl ?_
  obtain ⟨cl14, Ar14, qk14, Sz14, Nn14, Ha14, Gf14⟩ := id V12
  refine w_stI X12 hx hby hZ e12 Ar14 (j := ((((2 : Int32) &&& (4095 : Int32)) * (4 : Int32)) + (1 : Int32))) (inb_of Sz14 ⟨by decide, by decide⟩) n3_138 fun T14 h14 X14 e14 W14 => ?_
  have V14 : Arv Z h14 ar ka .int (64 : Int32) [(.int w0), (.int w1), (.int w2), (.int w3), (.int w4), (.int w5), (.int w6), (.int w7), (.int (((x2 + (1 : Int32)) <<< ((3 : Int32) &&& 31)) ||| x1)), (.int x3), (.int w10), (.int w11)] (.int (0 : Int32)) := Arv.set Ar14 qk14 Sz14 Nn14 Ha14 Gf14 rfl W14 9 (by decide) (Nat.le_of_ble_eq_true rfl)
  have N14 := Fr.snoc X14 N12 g2
  have z15 : h0.size ≤ h14.size := Nat.le_trans z13 (Keep.of_wr W14).1
  have k15 : Keep h0 h14 [a1, ar] := k13.wr W14 (Or.inl (List.mem_of_getElem? (i := 1) rfl))
  refine w_aload X14 hx hby n3_139 rfl rfl ?_
  refine w_iload X14 hx hby n3_141 rfl ?_
  refine w_iconst X14 hx hby (2 : Int32) n3_143 rfl ?_
  refine w_iadd X14 hx hby n3_144 ?_
  refine w_aloadN X14 hx hby n3_145 rfl rfl ?_
  have f16 := ((F_s.other W12 (Or.inl (Ne.symm na1))).other W14 (Or.inl (Ne.symm na1)))
  refine w_getF X14 hx hby hZ hown (host := "") (Or.inl (hw _ t_20)) Via.refl e14 f16 n3_146 fun T17 X17 e17 => ?_
  refine w_iconst X17 hx hby (1 : Int32) n3_149 rfl ?_
  refine w_iadd X17 hx hby n3_150 ?_
  obtain ⟨cl18, Ar18, qk18, Sz18, Nn18, Ha18, Gf18⟩ := id V14
  refine w_stI X17 hx hby hZ e17 Ar18 (j := ((((2 : Int32) &&& (4095 : Int32)) * (4 : Int32)) + (2 : Int32))) (inb_of Sz18 ⟨by decide, by decide⟩) n3_151 fun T18 h18 X18 e18 W18 => ?_
  have V18 : Arv Z h18 ar ka .int (64 : Int32) [(.int w0), (.int w1), (.int w2), (.int w3), (.int w4), (.int w5), (.int w6), (.int w7), (.int (((x2 + (1 : Int32)) <<< ((3 : Int32) &&& 31)) ||| x1)), (.int x3), (.int ((2 : Int32) + (1 : Int32))), (.int w11)] (.int (0 : Int32)) := Arv.set Ar18 qk18 Sz18 Nn18 Ha18 Gf18 rfl W18 10 (by decide) (Nat.le_of_ble_eq_true rfl)
  have N18 := Fr.snoc X18 N14 g2
  have z19 : h0.size ≤ h18.size := Nat.le_trans z15 (Keep.of_wr W18).1
  have k19 : Keep h0 h18 [a1, ar] := k15.wr W18 (Or.inl (List.mem_of_getElem? (i := 1) rfl))
  refine w_aload X18 hx hby n3_152 rfl rfl ?_
  refine w_iload X18 hx hby n3_154 rfl ?_
  refine w_iconst X18 hx hby (3 : Int32) n3_156 rfl ?_
  refine w_iadd X18 hx hby n3_157 ?_
  refine w_iload X18 hx hby n3_158 rfl ?_
  obtain ⟨cl20, Ar20, qk20, Sz20, Nn20, Ha20, Gf20⟩ := id V18
  refine w_stI X18 hx hby hZ e18 Ar20 (j := ((((2 : Int32) &&& (4095 : Int32)) * (4 : Int32)) + (3 : Int32))) (inb_of Sz20 ⟨by decide, by decide⟩) n3_160 fun T20 h20 X20 e20 W20 => ?_
  have V20 : Arv Z h20 ar ka .int (64 : Int32) [(.int w0), (.int w1), (.int w2), (.int w3), (.int w4), (.int w5), (.int w6), (.int w7), (.int (((x2 + (1 : Int32)) <<< ((3 : Int32) &&& 31)) ||| x1)), (.int x3), (.int ((2 : Int32) + (1 : Int32))), (.int x4)] (.int (0 : Int32)) := Arv.set Ar20 qk20 Sz20 Nn20 Ha20 Gf20 rfl W20 11 (by decide) (Nat.le_of_ble_eq_true rfl)
  have N20 := Fr.snoc X20 N18 g2
  have z21 : h0.size ≤ h20.size := Nat.le_trans z19 (Keep.of_wr W20).1
  have k21 : Keep h0 h20 [a1, ar] := k19.wr W20 (Or.inl (List.mem_of_getElem? (i := 1) rfl))
  refine w_aloadN X20 hx hby n3_161 rfl rfl ?_
  refine w_dup X20 hx hby n3_162 rfl ?_
  have f22 := ((f16.other W18 (Or.inl (Ne.symm na1))).other W20 (Or.inl (Ne.symm na1)))
  refine w_getF X20 hx hby hZ hown (host := "") (Or.inl (hw _ t_20)) Via.refl e20 f22 n3_163 fun T23 X23 e23 => ?_
  refine w_dup_x1 X23 hx hby n3_166 rfl rfl ?_
  refine w_iconst X23 hx hby (1 : Int32) n3_167 rfl ?_
  refine w_iadd X23 hx hby n3_168 ?_
  have f24 := ((((E1.wr W12).wr W14).wr W18).wr W20)
  refine w_putFN X23 hx hby hZ hown (hw _ t_20) Via.refl e23 f22 f24 (Or.inl (hw _ t_21)) (hw _ t_1) (ty := .int) (by decide) rfl rfl n3_169 fun T25 h25 X25 e25 W25 => ?_
  have P25 := f22.same W25
  have N25 := Fr.snoc X25 N20 g1
  have z26 : h0.size ≤ h25.size := Nat.le_trans z21 (Keep.of_wr W25).1
  have k26 : Keep h0 h25 [a1, ar] := k21.wr W25 (Or.inl (List.mem_of_getElem? (i := 0) rfl))
  refine w_retI X25 hx hby e25 hlk hret n3_172 (by decide) (by decide) ?_
  have f27 := (((((V_b.other W12 nba).other W14 nba).other W18 nba).other W20 nba).other W25 nb1)
  have f28 := (V20.other W25 na1)
  have f29 := (f24.wr W25)
  have f30 := (((((F_b.other W12 (Or.inl (Ne.symm na1))).other W14 (Or.inl (Ne.symm na1))).other W18 (Or.inl (Ne.symm na1))).other W20 (Or.inl (Ne.symm na1))).other W25 (Or.inr (slot_ne (Or.inl (hw _ t_14)) (Or.inl (hw _ t_21)) (by decide) (t := (.array (.array .int))) (t' := .int) (by decide) (by decide))))
  have fz : Fld Z h25 a1 "com/example/strict_xquery/strictxquery/xml/EntryTable" "size" "I" (.int (3 : Int32)) := by have q := P25; rw [show ((2 : Int32) + (1 : Int32)) = (3 : Int32) from by decide] at q; exact q
  exact ⟨rfl, N25, k26, f29, f30, fz, f27, f28⟩
set_option maxRecDepth 65536 in
set_option maxHeartbeats 4000000 in
theorem ef_rms (m : MethodId) (x0 : Addr) (x1 : Int32) (x2 : Int32) : entryFrame m #[(.ref x0), (.int x1), (.int x2)] 3 = mkF m 0 #[.val (.ref x0), .val (.int x1), .val (.int x2)] [] := by first | (simp [entryFrame, mkF, argsToLocals, Value.category]; done) | rfl
set_option maxRecDepth 65536 in
set_option maxHeartbeats 40000000 in
theorem rms (l : Launch) (Z : State) (a0 : Array Value) (hw : ∀ d ∈ tables_1, d.before a0 Z = true) (a1 bl ar : Addr) (clb cla : Cell) (i1 x2 : Int32) (h0 : Heap) (F_b : Fld Z h0 a1 "com/example/strict_xquery/strictxquery/xml/EntryTable" "blocks" "[[I" (.ref bl)) (Ab : Arr Z h0 bl clb (.array .int)) (hb1 : ¬ (((i1.toUInt32 >>> ((12 : Int32) &&& 31).toUInt32).toInt32) < 0 ∨ clb.slots.size ≤ ((i1.toUInt32 >>> ((12 : Int32) &&& 31).toUInt32).toInt32).toNatClampNeg) ∧ clb.slots[((i1.toUInt32 >>> ((12 : Int32) &&& 31).toUInt32).toInt32).toNatClampNeg]? = some (.ref ar)) (Aa : Arr Z h0 ar cla .int) (ha1 : ¬ ((((i1 &&& (4095 : Int32)) * (4 : Int32)) + (2 : Int32)) < 0 ∨ cla.slots.size ≤ (((i1 &&& (4095 : Int32)) * (4 : Int32)) + (2 : Int32)).toNatClampNeg)) (n0 : Nat) (g2 : n0 ≤ ar) : Con l Z (⟨"com/example/strict_xquery/strictxquery/xml/EntryTable", "setEnd", "(II)V"⟩ : MethodName) prog_200_method_3_code 3 none ({ frames := 0, cells := 0, slots := 0, locals := 0 } : Room) #[(.ref a1), (.int i1), (.int x2)] h0 (fun v h L => v = none ∧ Fr n0 L ∧ Wr h0 h ar (((i1 &&& (4095 : Int32)) * (4 : Int32)) + (2 : Int32)).toNatClampNeg (.int x2)) := by
  refine w_body (Ls := #[.val (.ref a1), .val (.int i1), .val (.int x2)]) pn_4 (fun m => ef_rms m a1 i1 x2) ?_
  intro p e s m below meth c T0 X0 hx hby hml hown hnm hret hlk hZ e0
  refine w_aloadN X0 hx hby n4_0 rfl rfl ?_
  refine w_getF X0 hx hby hZ hown (host := "") (Or.inl (hw _ t_13)) Via.refl e0 F_b n4_1 fun T1 X1 e1 => ?_
  refine w_iloadN X1 hx hby n4_4 rfl ?_
  refine w_bipush X1 hx hby (12 : Int32) n4_5 rfl ?_
  refine w_iushr X1 hx hby n4_7 ?_
  refine w_aaload X1 hx hby hZ e1 Ab rfl hb1.1 hb1.2 n4_8 ?_
  refine w_iloadN X1 hx hby n4_9 rfl ?_
  refine w_sipush X1 hx hby (4095 : Int32) n4_10 rfl ?_
  refine w_iand X1 hx hby n4_13 ?_
  refine w_iconst X1 hx hby (4 : Int32) n4_14 rfl ?_
  refine w_imul X1 hx hby n4_15 ?_
  refine w_iconst X1 hx hby (2 : Int32) n4_16 rfl ?_
  refine w_iadd X1 hx hby n4_17 ?_
  refine w_iloadN X1 hx hby n4_18 rfl ?_
  refine w_stI X1 hx hby hZ e1 Aa (j := (((i1 &&& (4095 : Int32)) * (4 : Int32)) + (2 : Int32))) ha1 n4_19 fun T2 h2 X2 e2 W2 => ?_
  have N2 := Fr.snoc X2 (Fr.nil n0) g2
  refine w_retV X2 hx hby e2 hlk hret n4_20 (by decide) (by decide) ?_
  exact ⟨rfl, N2, W2⟩
set_option maxRecDepth 65536 in
set_option maxHeartbeats 4000000 in
theorem ef_rmf (m : MethodId) (x0 : Addr) (x1 : Int32) (x2 : Int32) : entryFrame m #[(.ref x0), (.int x1), (.int x2)] 3 = mkF m 0 #[.val (.ref x0), .val (.int x1), .val (.int x2)] [] := by first | (simp [entryFrame, mkF, argsToLocals, Value.category]; done) | rfl
set_option maxRecDepth 65536 in
set_option maxHeartbeats 40000000 in
theorem rmf (l : Launch) (Z : State) (a0 : Array Value) (hw : ∀ d ∈ tables_1, d.before a0 Z = true) (a1 bl ar : Addr) (clb cla : Cell) (i1 j1 y : Int32) (h0 : Heap) (F_b : Fld Z h0 a1 "com/example/strict_xquery/strictxquery/xml/EntryTable" "blocks" "[[I" (.ref bl)) (Ab : Arr Z h0 bl clb (.array .int)) (hb1 : ¬ (((i1.toUInt32 >>> ((12 : Int32) &&& 31).toUInt32).toInt32) < 0 ∨ clb.slots.size ≤ ((i1.toUInt32 >>> ((12 : Int32) &&& 31).toUInt32).toInt32).toNatClampNeg) ∧ clb.slots[((i1.toUInt32 >>> ((12 : Int32) &&& 31).toUInt32).toInt32).toNatClampNeg]? = some (.ref ar)) (Aa : Arr Z h0 ar cla .int) (ha1 : ¬ ((((i1 &&& (4095 : Int32)) * (4 : Int32)) + j1) < 0 ∨ cla.slots.size ≤ (((i1 &&& (4095 : Int32)) * (4 : Int32)) + j1).toNatClampNeg) ∧ cla.slots[(((i1 &&& (4095 : Int32)) * (4 : Int32)) + j1).toNatClampNeg]? = some (.int y)) : Con l Z (⟨"com/example/strict_xquery/strictxquery/xml/EntryTable", "field", "(II)I"⟩ : MethodName) prog_200_method_10_code 3 (some .int) ({ frames := 0, cells := 0, slots := 0, locals := 0 } : Room) #[(.ref a1), (.int i1), (.int j1)] h0 (fun v h L => v = some (.int y) ∧ h = h0 ∧ L = []) := by
  refine w_body (Ls := #[.val (.ref a1), .val (.int i1), .val (.int j1)]) pn_6 (fun m => ef_rmf m a1 i1 j1) ?_
  intro p e s m below meth c T0 X0 hx hby hml hown hnm hret hlk hZ e0
  refine w_aloadN X0 hx hby n6_0 rfl rfl ?_
  refine w_getF X0 hx hby hZ hown (host := "") (Or.inl (hw _ t_13)) Via.refl e0 F_b n6_1 fun T1 X1 e1 => ?_
  refine w_iloadN X1 hx hby n6_4 rfl ?_
  refine w_bipush X1 hx hby (12 : Int32) n6_5 rfl ?_
  refine w_iushr X1 hx hby n6_7 ?_
  refine w_aaload X1 hx hby hZ e1 Ab rfl hb1.1 hb1.2 n6_8 ?_
  refine w_iloadN X1 hx hby n6_9 rfl ?_
  refine w_sipush X1 hx hby (4095 : Int32) n6_10 rfl ?_
  refine w_iand X1 hx hby n6_13 ?_
  refine w_iconst X1 hx hby (4 : Int32) n6_14 rfl ?_
  refine w_imul X1 hx hby n6_15 ?_
  refine w_iloadN X1 hx hby n6_16 rfl ?_
  refine w_iadd X1 hx hby n6_17 ?_
  refine w_iaload X1 hx hby hZ e1 Aa ha1.1 ha1.2 n6_18 ?_
  refine w_retI X1 hx hby e1 hlk hret n6_19 (by decide) (by decide) ?_
  exact ⟨rfl, rfl, rfl⟩
set_option maxRecDepth 65536 in
set_option maxHeartbeats 4000000 in
theorem ef_rme (m : MethodId) (x0 : Addr) (x1 : Int32) : entryFrame m #[(.ref x0), (.int x1)] 2 = mkF m 0 #[.val (.ref x0), .val (.int x1)] [] := by first | (simp [entryFrame, mkF, argsToLocals, Value.category]; done) | rfl
set_option maxRecDepth 65536 in
set_option maxHeartbeats 40000000 in
theorem rme (l : Launch) (Z : State) (a0 : Array Value) (hw : ∀ d ∈ tables_1, d.before a0 Z = true) (a1 bl ar : Addr) (clb cla : Cell) (i1 y : Int32) (h0 : Heap) (F_b : Fld Z h0 a1 "com/example/strict_xquery/strictxquery/xml/EntryTable" "blocks" "[[I" (.ref bl)) (Ab : Arr Z h0 bl clb (.array .int)) (hb1 : ¬ (((i1.toUInt32 >>> ((12 : Int32) &&& 31).toUInt32).toInt32) < 0 ∨ clb.slots.size ≤ ((i1.toUInt32 >>> ((12 : Int32) &&& 31).toUInt32).toInt32).toNatClampNeg) ∧ clb.slots[((i1.toUInt32 >>> ((12 : Int32) &&& 31).toUInt32).toInt32).toNatClampNeg]? = some (.ref ar)) (Aa : Arr Z h0 ar cla .int) (ha1 : ¬ ((((i1 &&& (4095 : Int32)) * (4 : Int32)) + (2 : Int32)) < 0 ∨ cla.slots.size ≤ (((i1 &&& (4095 : Int32)) * (4 : Int32)) + (2 : Int32)).toNatClampNeg) ∧ cla.slots[(((i1 &&& (4095 : Int32)) * (4 : Int32)) + (2 : Int32)).toNatClampNeg]? = some (.int y)) (E1 : Exa Z h0 a1 "com/example/strict_xquery/strictxquery/xml/EntryTable") : Con l Z (⟨"com/example/strict_xquery/strictxquery/xml/EntryTable", "end", "(I)I"⟩ : MethodName) prog_200_method_8_code 2 (some .int) ({ frames := 1, cells := 0, slots := 0, locals := 14 } : Room) #[(.ref a1), (.int i1)] h0 (fun v h L => v = some (.int y) ∧ h = h0 ∧ L = []) := by
  refine w_body (Ls := #[.val (.ref a1), .val (.int i1)]) pn_5 (fun m => ef_rme m a1 i1) ?_
  intro p e s m below meth c T0 X0 hx hby hml hown hnm hret hlk hZ e0
  refine w_aloadN X0 hx hby n5_0 rfl rfl ?_
  refine w_iloadN X0 hx hby n5_1 rfl ?_
  refine w_iconst X0 hx hby (2 : Int32) n5_2 rfl ?_
  refine w_calledp (call_P X0 hx hby hZ hown (argsL := [(.int i1), (.int (2 : Int32))]) (rest := []) (Wd := 0) (a := a1) (hw _ t_33) (hw _ t_34) (hw _ t_35) (hw _ t_1) (hw _ t_2) (hw _ t_36) (by decide) E1 (rmf l Z a0 hw a1 bl ar clb cla i1 (2 : Int32) y h0 F_b Ab hb1 Aa ha1) rfl n5_3 (by rw [hml]; rfl) (lenOf pd_2734 rfl) rfl (by decide) (by decide) (by decide) (by decide) e0) rfl rfl fun T1 X1 e1 => ?_
  refine w_retI X1 hx hby e1 hlk hret n5_6 (by decide) (by decide) ?_
  exact ⟨rfl, rfl, rfl⟩
set_option maxRecDepth 65536 in
set_option maxHeartbeats 4000000 in
theorem ef_rmp (m : MethodId) (x0 : Addr) (x1 : Int32) : entryFrame m #[(.ref x0), (.int x1)] 2 = mkF m 0 #[.val (.ref x0), .val (.int x1)] [] := by first | (simp [entryFrame, mkF, argsToLocals, Value.category]; done) | rfl
set_option maxRecDepth 65536 in
set_option maxHeartbeats 40000000 in
theorem rmp (l : Launch) (Z : State) (a0 : Array Value) (hw : ∀ d ∈ tables_1, d.before a0 Z = true) (a1 bl ar : Addr) (clb cla : Cell) (i1 y : Int32) (h0 : Heap) (F_b : Fld Z h0 a1 "com/example/strict_xquery/strictxquery/xml/EntryTable" "blocks" "[[I" (.ref bl)) (Ab : Arr Z h0 bl clb (.array .int)) (hb1 : ¬ (((i1.toUInt32 >>> ((12 : Int32) &&& 31).toUInt32).toInt32) < 0 ∨ clb.slots.size ≤ ((i1.toUInt32 >>> ((12 : Int32) &&& 31).toUInt32).toInt32).toNatClampNeg) ∧ clb.slots[((i1.toUInt32 >>> ((12 : Int32) &&& 31).toUInt32).toInt32).toNatClampNeg]? = some (.ref ar)) (Aa : Arr Z h0 ar cla .int) (ha1 : ¬ ((((i1 &&& (4095 : Int32)) * (4 : Int32)) + (1 : Int32)) < 0 ∨ cla.slots.size ≤ (((i1 &&& (4095 : Int32)) * (4 : Int32)) + (1 : Int32)).toNatClampNeg) ∧ cla.slots[(((i1 &&& (4095 : Int32)) * (4 : Int32)) + (1 : Int32)).toNatClampNeg]? = some (.int y)) (E1 : Exa Z h0 a1 "com/example/strict_xquery/strictxquery/xml/EntryTable") : Con l Z (⟨"com/example/strict_xquery/strictxquery/xml/EntryTable", "parent", "(I)I"⟩ : MethodName) prog_200_method_7_code 2 (some .int) ({ frames := 1, cells := 0, slots := 0, locals := 14 } : Room) #[(.ref a1), (.int i1)] h0 (fun v h L => v = some (.int y) ∧ h = h0 ∧ L = []) := by
  refine w_body (Ls := #[.val (.ref a1), .val (.int i1)]) pn_7 (fun m => ef_rmp m a1 i1) ?_
  intro p e s m below meth c T0 X0 hx hby hml hown hnm hret hlk hZ e0
  refine w_aloadN X0 hx hby n7_0 rfl rfl ?_
  refine w_iloadN X0 hx hby n7_1 rfl ?_
  refine w_iconst X0 hx hby (1 : Int32) n7_2 rfl ?_
  refine w_calledp (call_P X0 hx hby hZ hown (argsL := [(.int i1), (.int (1 : Int32))]) (rest := []) (Wd := 0) (a := a1) (hw _ t_33) (hw _ t_34) (hw _ t_35) (hw _ t_1) (hw _ t_2) (hw _ t_36) (by decide) E1 (rmf l Z a0 hw a1 bl ar clb cla i1 (1 : Int32) y h0 F_b Ab hb1 Aa ha1) rfl n7_3 (by rw [hml]; rfl) (lenOf pd_2734 rfl) rfl (by decide) (by decide) (by decide) (by decide) e0) rfl rfl fun T1 X1 e1 => ?_
  refine w_retI X1 hx hby e1 hlk hret n7_6 (by decide) (by decide) ?_
  exact ⟨rfl, rfl, rfl⟩
set_option maxRecDepth 65536 in
set_option maxHeartbeats 4000000 in
theorem ef_rmv (m : MethodId) (x0 : Addr) (x1 : Int32) : entryFrame m #[(.ref x0), (.int x1)] 2 = mkF m 0 #[.val (.ref x0), .val (.int x1)] [] := by first | (simp [entryFrame, mkF, argsToLocals, Value.category]; done) | rfl
set_option maxRecDepth 65536 in
set_option maxHeartbeats 40000000 in
theorem rmv (l : Launch) (Z : State) (a0 : Array Value) (hw : ∀ d ∈ tables_1, d.before a0 Z = true) (a1 bl ar : Addr) (clb cla : Cell) (i1 y : Int32) (h0 : Heap) (F_b : Fld Z h0 a1 "com/example/strict_xquery/strictxquery/xml/EntryTable" "blocks" "[[I" (.ref bl)) (Ab : Arr Z h0 bl clb (.array .int)) (hb1 : ¬ (((i1.toUInt32 >>> ((12 : Int32) &&& 31).toUInt32).toInt32) < 0 ∨ clb.slots.size ≤ ((i1.toUInt32 >>> ((12 : Int32) &&& 31).toUInt32).toInt32).toNatClampNeg) ∧ clb.slots[((i1.toUInt32 >>> ((12 : Int32) &&& 31).toUInt32).toInt32).toNatClampNeg]? = some (.ref ar)) (Aa : Arr Z h0 ar cla .int) (ha1 : ¬ ((((i1 &&& (4095 : Int32)) * (4 : Int32)) + (3 : Int32)) < 0 ∨ cla.slots.size ≤ (((i1 &&& (4095 : Int32)) * (4 : Int32)) + (3 : Int32)).toNatClampNeg) ∧ cla.slots[(((i1 &&& (4095 : Int32)) * (4 : Int32)) + (3 : Int32)).toNatClampNeg]? = some (.int y)) (E1 : Exa Z h0 a1 "com/example/strict_xquery/strictxquery/xml/EntryTable") : Con l Z (⟨"com/example/strict_xquery/strictxquery/xml/EntryTable", "valueStart", "(I)I"⟩ : MethodName) prog_200_method_9_code 2 (some .int) ({ frames := 1, cells := 0, slots := 0, locals := 14 } : Room) #[(.ref a1), (.int i1)] h0 (fun v h L => v = some (.int y) ∧ h = h0 ∧ L = []) := by
  refine w_body (Ls := #[.val (.ref a1), .val (.int i1)]) pn_8 (fun m => ef_rmv m a1 i1) ?_
  intro p e s m below meth c T0 X0 hx hby hml hown hnm hret hlk hZ e0
  refine w_aloadN X0 hx hby n8_0 rfl rfl ?_
  refine w_iloadN X0 hx hby n8_1 rfl ?_
  refine w_iconst X0 hx hby (3 : Int32) n8_2 rfl ?_
  refine w_calledp (call_P X0 hx hby hZ hown (argsL := [(.int i1), (.int (3 : Int32))]) (rest := []) (Wd := 0) (a := a1) (hw _ t_33) (hw _ t_34) (hw _ t_35) (hw _ t_1) (hw _ t_2) (hw _ t_36) (by decide) E1 (rmf l Z a0 hw a1 bl ar clb cla i1 (3 : Int32) y h0 F_b Ab hb1 Aa ha1) rfl n8_3 (by rw [hml]; rfl) (lenOf pd_2734 rfl) rfl (by decide) (by decide) (by decide) (by decide) e0) rfl rfl fun T1 X1 e1 => ?_
  refine w_retI X1 hx hby e1 hlk hret n8_6 (by decide) (by decide) ?_
  exact ⟨rfl, rfl, rfl⟩
set_option maxRecDepth 65536 in
set_option maxHeartbeats 4000000 in
theorem ef_law0 (m : MethodId) (x0 : Int32) (x1 : Int32) (x2 : Int32) : entryFrame m #[(.int x0), (.int x1), (.int x2)] maxLocals = mkF m 0 #[.val (.int x0), .val (.int x1), .val (.int x2), .unset, .unset, .unset, .unset, .unset] [] := by first | (simp [entryFrame, mkF, argsToLocals, Value.category, maxLocals]; done) | rfl
set_option maxRecDepth 65536 in
set_option maxHeartbeats 40000000 in
theorem law0 (l : Launch) (Z : State) (a0 : Array Value) (hw : ∀ d ∈ tables_1, d.before a0 Z = true) (y1 y2 y3 : Int32) (h0 : Heap) : Con l Z x code maxLocals ret room_1 #[(.int y1), (.int y2), (.int y3)] h0 (fun v h L => v = some (.int 1) ∧ Fr h0.size L) := by
  refine w_body (Ls := #[.val (.int y1), .val (.int y2), .val (.int y3), .unset, .unset, .unset, .unset, .unset]) pn_0 (fun m => ef_law0 m y1 y2 y3) ?_
  intro p e s m below meth c T0 X0 hx hby hml hown hnm hret hlk hZ e0
  have hml : c.maxLocals = 8 := hml
  refine w_newO X0 hx hby hZ hown (hw _ t_0) (hw _ t_1) (hw _ t_2) e0 n0_0 (by decide) (by decide) fun T1 h1 b1 g1 X1 e1 E1 A1 D1 => ?_
  have old_b1 : h0.size ≤ b1 := Nat.le_trans (Nat.le_refl h0.size) (Nat.le_of_eq g1.symm)
  have z2 : h0.size ≤ h1.size := Nat.le_trans (Nat.le_refl h0.size) E1.1
  have F1_blocks : Fld Z h1 b1 "com/example/strict_xquery/strictxquery/xml/EntryTable" "blocks" "[[I" .null := D1 (Or.inl (hw _ t_14)) (ty := (.array (.array .int))) (by decide)
  have F1_size : Fld Z h1 b1 "com/example/strict_xquery/strictxquery/xml/EntryTable" "size" "I" (.int (0 : Int32)) := D1 (Or.inl (hw _ t_21)) (ty := .int) (by decide)
  refine w_dup X1 hx hby n0_3 rfl ?_
  refine w_called (call_N X1 hx hby hZ hown (argsL := []) (rest := [(.ref b1)]) (Wd := 1) (a := b1) rfl (hw _ t_3) (hw _ t_4) (hw _ t_2) (hw _ t_5) (by decide) (rm0i l Z a0 hw b1 h1 h0.size z2 old_b1 A1 F1_blocks F1_size) rfl n0_4 (by rw [hml]; rfl) (lenOf pd_1382 rfl) rfl (by decide) (by decide) (by decide) (by decide) e1) fun v3 T3 L3 X3 Q3 => ?_
  obtain ⟨rfl, n3, k3, ea3, bl, ar, kb, ka, gb, ga, nba, fb3, fs3, vb3, va3⟩ := Q3
  have N3 := Fr.app (Fr.nil h0.size) n3
  have nb1 : bl ≠ b1 := Nat.ne_of_gt (Nat.lt_of_lt_of_le A1.lt gb)
  have na1 : ar ≠ b1 := Nat.ne_of_gt (Nat.lt_of_lt_of_le A1.lt ga)
  have g2 : h0.size ≤ ar := Nat.le_trans z2 ga
  have z4 : h0.size ≤ T3.heap.size := Nat.le_trans z2 k3.1
  show Wp p e below s _ _ _ T3 (mkF m 7 #[.val (.int y1), .val (.int y2), .val (.int y3), .unset, .unset, .unset, .unset, .unset] [(.ref b1)])
  refine w_astoreN X3 hx hby #[.val (.int y1), .val (.int y2), .val (.int y3), .val (.ref b1), .unset, .unset, .unset, .unset] n0_7 rfl rfl ?_
  refine w_aloadN X3 hx hby n0_8 rfl rfl ?_
  refine w_iconst X3 hx hby (1 : Int32) n0_9 rfl ?_
  refine w_iconst X3 hx hby (-1 : Int32) n0_10 rfl ?_
  refine w_iconst X3 hx hby (-1 : Int32) n0_11 rfl ?_
  refine w_iloadN X3 hx hby n0_12 rfl ?_
  refine w_called (call_V X3 hx hby hZ hown (argsL := [(.int (1 : Int32)), (.int (-1 : Int32)), (.int (-1 : Int32)), (.int y3)]) (rest := []) (Wd := 0) (a := b1) (hw _ t_15) (hw _ t_16) (hw _ t_18) (hw _ t_17) (hw _ t_2) (hw _ t_19) (by decide) ea3 (rma0 l Z a0 hw b1 bl ar kb ka (1 : Int32) (-1 : Int32) (-1 : Int32) y3 (0 : Int32) (0 : Int32) (0 : Int32) (0 : Int32) (0 : Int32) (0 : Int32) (0 : Int32) (0 : Int32) (0 : Int32) (0 : Int32) (0 : Int32) (0 : Int32) T3.heap h0.size z4 old_b1 g2 ea3 fb3 fs3 vb3 va3 nb1 na1 nba) rfl n0_13 (by rw [hml]; rfl) (lenOf pd_4495 rfl) rfl (by decide) (by decide) (by decide) (by decide) rfl) fun v5 T5 L5 X5 Q5 => ?_
  obtain ⟨rfl, n5, k5, ea5, fb5, fs5, vb5, va5⟩ := Q5
  have N5 := Fr.app N3 n5
  have z6 : h0.size ≤ T5.heap.size := Nat.le_trans z4 k5.1
  show Wp p e below s _ _ _ T5 (mkF m 16 #[.val (.int y1), .val (.int y2), .val (.int y3), .val (.ref b1), .unset, .unset, .unset, .unset] [(.int (0 : Int32))])
  refine w_pop X5 hx hby n0_16 rfl ?_
  refine w_aloadN X5 hx hby n0_17 rfl rfl ?_
  refine w_iconst X5 hx hby (2 : Int32) n0_18 rfl ?_
  refine w_iconst X5 hx hby (5 : Int32) n0_19 rfl ?_
  refine w_iconst X5 hx hby (0 : Int32) n0_20 rfl ?_
  refine w_iloadN X5 hx hby n0_21 rfl ?_
  refine w_iconst X5 hx hby (1 : Int32) n0_22 rfl ?_
  refine w_iadd X5 hx hby n0_23 ?_
  refine w_called (call_V X5 hx hby hZ hown (argsL := [(.int (2 : Int32)), (.int (5 : Int32)), (.int (0 : Int32)), (.int (y3 + (1 : Int32)))]) (rest := []) (Wd := 0) (a := b1) (hw _ t_15) (hw _ t_16) (hw _ t_18) (hw _ t_17) (hw _ t_2) (hw _ t_19) (by decide) ea5 (rma1 l Z a0 hw b1 bl ar kb ka (2 : Int32) (5 : Int32) (0 : Int32) (y3 + (1 : Int32)) ((((-1 : Int32) + (1 : Int32)) <<< ((3 : Int32) &&& 31)) ||| (1 : Int32)) (-1 : Int32) ((0 : Int32) + (1 : Int32)) y3 (0 : Int32) (0 : Int32) (0 : Int32) (0 : Int32) (0 : Int32) (0 : Int32) (0 : Int32) (0 : Int32) T5.heap h0.size z6 old_b1 g2 ea5 fb5 fs5 vb5 va5 nb1 na1 nba) rfl n0_24 (by rw [hml]; rfl) (lenOf pd_4495 rfl) rfl (by decide) (by decide) (by decide) (by decide) rfl) fun v7 T7 L7 X7 Q7 => ?_
  obtain ⟨rfl, n7, k7, ea7, fb7, fs7, vb7, va7⟩ := Q7
  have N7 := Fr.app N5 n7
  have z8 : h0.size ≤ T7.heap.size := Nat.le_trans z6 k7.1
  show Wp p e below s _ _ _ T7 (mkF m 27 #[.val (.int y1), .val (.int y2), .val (.int y3), .val (.ref b1), .unset, .unset, .unset, .unset] [(.int (1 : Int32))])
  refine w_pop X7 hx hby n0_27 rfl ?_
  refine w_aloadN X7 hx hby n0_28 rfl rfl ?_
  refine w_iconst X7 hx hby (3 : Int32) n0_29 rfl ?_
  refine w_bipush X7 hx hby (7 : Int32) n0_30 rfl ?_
  refine w_iconst X7 hx hby (1 : Int32) n0_32 rfl ?_
  refine w_iloadN X7 hx hby n0_33 rfl ?_
  refine w_iconst X7 hx hby (2 : Int32) n0_34 rfl ?_
  refine w_iadd X7 hx hby n0_35 ?_
  refine w_called (call_V X7 hx hby hZ hown (argsL := [(.int (3 : Int32)), (.int (7 : Int32)), (.int (1 : Int32)), (.int (y3 + (2 : Int32)))]) (rest := []) (Wd := 0) (a := b1) (hw _ t_15) (hw _ t_16) (hw _ t_18) (hw _ t_17) (hw _ t_2) (hw _ t_19) (by decide) ea7 (rma2 l Z a0 hw b1 bl ar kb ka (3 : Int32) (7 : Int32) (1 : Int32) (y3 + (2 : Int32)) ((((-1 : Int32) + (1 : Int32)) <<< ((3 : Int32) &&& 31)) ||| (1 : Int32)) (-1 : Int32) ((0 : Int32) + (1 : Int32)) y3 ((((5 : Int32) + (1 : Int32)) <<< ((3 : Int32) &&& 31)) ||| (2 : Int32)) (0 : Int32) ((1 : Int32) + (1 : Int32)) (y3 + (1 : Int32)) (0 : Int32) (0 : Int32) (0 : Int32) (0 : Int32) T7.heap h0.size z8 old_b1 g2 ea7 fb7 fs7 vb7 va7 nb1 na1 nba) rfl n0_36 (by rw [hml]; rfl) (lenOf pd_4495 rfl) rfl (by decide) (by decide) (by decide) (by decide) rfl) fun v9 T9 L9 X9 Q9 => ?_
  obtain ⟨rfl, n9, k9, ea9, fb9, fs9, vb9, va9⟩ := Q9
  have N9 := Fr.app N7 n9
  have z10 : h0.size ≤ T9.heap.size := Nat.le_trans z8 k9.1
  show Wp p e below s _ _ _ T9 (mkF m 39 #[.val (.int y1), .val (.int y2), .val (.int y3), .val (.ref b1), .unset, .unset, .unset, .unset] [(.int (2 : Int32))])
  refine w_pop X9 hx hby n0_39 rfl ?_
  refine w_iloadN X9 hx hby n0_40 rfl ?_
  refine w_ldcI X9 hx hby hZ hown (hw _ t_22) n0_41 ?_
  refine w_iand X9 hx hby n0_43 ?_
  refine w_iconst X9 hx hby (3 : Int32) n0_44 rfl ?_
  refine w_irem X9 hx hby n0_45 (by decide) ?_
  rcases own_three y1 with hq | hq | hq
  · rw [hq]
    refine w_istore X9 hx hby #[.val (.int y1), .val (.int y2), .val (.int y3), .val (.ref b1), .val (.int (0 : Int32)), .unset, .unset, .unset] n0_46 rfl ?_
    refine w_aloadN X9 hx hby n0_48 rfl rfl ?_
    refine w_iload X9 hx hby n0_49 rfl ?_
    refine w_iloadN X9 hx hby n0_51 rfl ?_
    obtain ⟨clb11, Ab11, qb11, Sb11, Nb11, Hb11, Gb11⟩ := id vb9
    obtain ⟨cla11, Aa11, qa11, Sa11, Na11, Ha11, Ga11⟩ := id va9
    refine w_called (call_V X9 hx hby hZ hown (argsL := [(.int (0 : Int32)), (.int y2)]) (rest := []) (Wd := 0) (a := b1) (hw _ t_23) (hw _ t_24) (hw _ t_26) (hw _ t_25) (hw _ t_2) (hw _ t_27) (by decide) ea9 (rms l Z a0 hw b1 bl ar clb11 cla11 (0 : Int32) y2 T9.heap fb9 Ab11 ⟨inb_of Sb11 ⟨by decide, by decide⟩, Hb11.at (inb_of Sb11 ⟨by decide, by decide⟩) rfl⟩ Aa11 (inb_of Sa11 ⟨by decide, by decide⟩) h0.size g2) rfl n0_52 (by rw [hml]; rfl) (lenOf pd_2877 rfl) rfl (by decide) (by decide) (by decide) (by decide) rfl) fun v12 T12 L12 X12 Q12 => ?_
    obtain ⟨rfl, n12, W12⟩ := Q12
    have N12 := Fr.app N9 n12
    have va12 : Arv Z T12.heap ar ka .int (64 : Int32) [(.int ((((-1 : Int32) + (1 : Int32)) <<< ((3 : Int32) &&& 31)) ||| (1 : Int32))), (.int (-1 : Int32)), (.int y2), (.int y3), (.int ((((5 : Int32) + (1 : Int32)) <<< ((3 : Int32) &&& 31)) ||| (2 : Int32))), (.int (0 : Int32)), (.int ((1 : Int32) + (1 : Int32))), (.int (y3 + (1 : Int32))), (.int ((((7 : Int32) + (1 : Int32)) <<< ((3 : Int32) &&& 31)) ||| (3 : Int32))), (.int (1 : Int32)), (.int ((2 : Int32) + (1 : Int32))), (.int (y3 + (2 : Int32)))] (.int (0 : Int32)) := Arv.set Aa11 qa11 Sa11 Na11 Ha11 Ga11 rfl W12 2 (by decide) (Nat.le_of_ble_eq_true rfl)
    have z13 : h0.size ≤ T12.heap.size := Nat.le_trans z10 (Keep.of_wr W12).1
    show Wp p e below s _ _ _ T12 (mkF m 55 #[.val (.int y1), .val (.int y2), .val (.int y3), .val (.ref b1), .val (.int (0 : Int32)), .unset, .unset, .unset] [])
    refine w_iload X12 hx hby n0_55 rfl ?_
    refine f_if_ne X12 hx hby n0_57 (fun q57 => by exact absurd q57 (by decide)) (fun q57 => ?_)
    refine w_iloadN X12 hx hby n0_60 rfl ?_
    refine w_goto X12 hx hby n0_61 ?_
    refine w_istore X12 hx hby #[.val (.int y1), .val (.int y2), .val (.int y3), .val (.ref b1), .val (.int (0 : Int32)), .val (.int y2), .unset, .unset] n0_65 rfl ?_
    refine w_iload X12 hx hby n0_67 rfl ?_
    refine w_iconst X12 hx hby (1 : Int32) n0_69 rfl ?_
    refine f_icmp_ne X12 hx hby n0_70 (fun q70 => ?_) (fun q70 => by exact absurd q70 (by decide))
    refine w_iconst X12 hx hby (2 : Int32) n0_77 rfl ?_
    refine w_istore X12 hx hby #[.val (.int y1), .val (.int y2), .val (.int y3), .val (.ref b1), .val (.int (0 : Int32)), .val (.int y2), .val (.int (2 : Int32)), .unset] n0_78 rfl ?_
    refine w_iload X12 hx hby n0_80 rfl ?_
    refine w_iconst X12 hx hby (2 : Int32) n0_82 rfl ?_
    refine f_icmp_ne X12 hx hby n0_83 (fun q83 => ?_) (fun q83 => by exact absurd q83 (by decide))
    refine w_iconst X12 hx hby (3 : Int32) n0_90 rfl ?_
    refine w_istore X12 hx hby #[.val (.int y1), .val (.int y2), .val (.int y3), .val (.ref b1), .val (.int (0 : Int32)), .val (.int y2), .val (.int (2 : Int32)), .val (.int (3 : Int32))] n0_91 rfl ?_
    refine w_aloadN X12 hx hby n0_93 rfl rfl ?_
    refine w_iconst X12 hx hby (0 : Int32) n0_94 rfl ?_
    have f14 := (ea9.wr W12)
    have f15 := (fb9.other W12 (Or.inl (Ne.symm na1)))
    have f16 := (vb9.other W12 nba)
    obtain ⟨clb17, Ab17, qb17, Sb17, Nb17, Hb17, Gb17⟩ := id f16
    obtain ⟨cla17, Aa17, qa17, Sa17, Na17, Ha17, Ga17⟩ := id va12
    refine w_calledp (call_V X12 hx hby hZ hown (argsL := [(.int (0 : Int32))]) (rest := []) (Wd := 0) (a := b1) (hw _ t_28) (hw _ t_29) (hw _ t_31) (hw _ t_30) (hw _ t_2) (hw _ t_32) (by decide) f14 (rme l Z a0 hw b1 bl ar clb17 cla17 (0 : Int32) y2 T12.heap f15 Ab17 ⟨inb_of Sb17 ⟨by decide, by decide⟩, Hb17.at (inb_of Sb17 ⟨by decide, by decide⟩) rfl⟩ Aa17 ⟨inb_of Sa17 ⟨by decide, by decide⟩, Ha17.at (inb_of Sa17 ⟨by decide, by decide⟩) rfl⟩ f14) rfl n0_95 (by rw [hml]; rfl) (lenOf pd_1963 rfl) rfl (by decide) (by decide) (by decide) (by decide) rfl) rfl rfl fun T18 X18 e18 => ?_
    refine w_iload X18 hx hby n0_98 rfl ?_
    refine f_icmp_ne X18 hx hby n0_100 (fun q100 => by exact absurd rfl q100) (fun q100 => ?_)
    refine w_aloadN X18 hx hby n0_103 rfl rfl ?_
    refine w_iconst X18 hx hby (1 : Int32) n0_104 rfl ?_
    obtain ⟨clb19, Ab19, qb19, Sb19, Nb19, Hb19, Gb19⟩ := id f16
    obtain ⟨cla19, Aa19, qa19, Sa19, Na19, Ha19, Ga19⟩ := id va12
    refine w_calledp (call_V X18 hx hby hZ hown (argsL := [(.int (1 : Int32))]) (rest := []) (Wd := 0) (a := b1) (hw _ t_28) (hw _ t_29) (hw _ t_31) (hw _ t_30) (hw _ t_2) (hw _ t_32) (by decide) f14 (rme l Z a0 hw b1 bl ar clb19 cla19 (1 : Int32) ((1 : Int32) + (1 : Int32)) T12.heap f15 Ab19 ⟨inb_of Sb19 ⟨by decide, by decide⟩, Hb19.at (inb_of Sb19 ⟨by decide, by decide⟩) rfl⟩ Aa19 ⟨inb_of Sa19 ⟨by decide, by decide⟩, Ha19.at (inb_of Sa19 ⟨by decide, by decide⟩) rfl⟩ f14) rfl n0_105 (by rw [hml]; rfl) (lenOf pd_1963 rfl) rfl (by decide) (by decide) (by decide) (by decide) e18) rfl rfl fun T20 X20 e20 => ?_
    refine w_iload X20 hx hby n0_108 rfl ?_
    refine f_icmp_ne X20 hx hby n0_110 (fun q110 => by exact absurd q110 (by decide)) (fun q110 => ?_)
    refine w_aloadN X20 hx hby n0_113 rfl rfl ?_
    refine w_iconst X20 hx hby (2 : Int32) n0_114 rfl ?_
    obtain ⟨clb21, Ab21, qb21, Sb21, Nb21, Hb21, Gb21⟩ := id f16
    obtain ⟨cla21, Aa21, qa21, Sa21, Na21, Ha21, Ga21⟩ := id va12
    refine w_calledp (call_V X20 hx hby hZ hown (argsL := [(.int (2 : Int32))]) (rest := []) (Wd := 0) (a := b1) (hw _ t_28) (hw _ t_29) (hw _ t_31) (hw _ t_30) (hw _ t_2) (hw _ t_32) (by decide) f14 (rme l Z a0 hw b1 bl ar clb21 cla21 (2 : Int32) ((2 : Int32) + (1 : Int32)) T12.heap f15 Ab21 ⟨inb_of Sb21 ⟨by decide, by decide⟩, Hb21.at (inb_of Sb21 ⟨by decide, by decide⟩) rfl⟩ Aa21 ⟨inb_of Sa21 ⟨by decide, by decide⟩, Ha21.at (inb_of Sa21 ⟨by decide, by decide⟩) rfl⟩ f14) rfl n0_115 (by rw [hml]; rfl) (lenOf pd_1963 rfl) rfl (by decide) (by decide) (by decide) (by decide) e20) rfl rfl fun T22 X22 e22 => ?_
    refine w_iload X22 hx hby n0_118 rfl ?_
    refine f_icmp_ne X22 hx hby n0_120 (fun q120 => by exact absurd q120 (by decide)) (fun q120 => ?_)
    refine w_aloadN X22 hx hby n0_123 rfl rfl ?_
    refine w_iload X22 hx hby n0_124 rfl ?_
    obtain ⟨clb23, Ab23, qb23, Sb23, Nb23, Hb23, Gb23⟩ := id f16
    obtain ⟨cla23, Aa23, qa23, Sa23, Na23, Ha23, Ga23⟩ := id va12
    refine w_calledp (call_V X22 hx hby hZ hown (argsL := [(.int (0 : Int32))]) (rest := []) (Wd := 0) (a := b1) (hw _ t_37) (hw _ t_38) (hw _ t_40) (hw _ t_39) (hw _ t_2) (hw _ t_41) (by decide) f14 (rmp l Z a0 hw b1 bl ar clb23 cla23 (0 : Int32) (-1 : Int32) T12.heap f15 Ab23 ⟨inb_of Sb23 ⟨by decide, by decide⟩, Hb23.at (inb_of Sb23 ⟨by decide, by decide⟩) rfl⟩ Aa23 ⟨inb_of Sa23 ⟨by decide, by decide⟩, Ha23.at (inb_of Sa23 ⟨by decide, by decide⟩) rfl⟩ f14) rfl n0_126 (by rw [hml]; rfl) (lenOf pd_1963 rfl) rfl (by decide) (by decide) (by decide) (by decide) e22) rfl rfl fun T24 X24 e24 => ?_
    refine w_iload X24 hx hby n0_129 rfl ?_
    refine w_iconst X24 hx hby (1 : Int32) n0_131 rfl ?_
    refine w_isub X24 hx hby n0_132 ?_
    refine f_icmp_ne X24 hx hby n0_133 (fun q133 => by exact absurd q133 (by decide)) (fun q133 => ?_)
    refine w_aloadN X24 hx hby n0_136 rfl rfl ?_
    refine w_iload X24 hx hby n0_137 rfl ?_
    obtain ⟨clb25, Ab25, qb25, Sb25, Nb25, Hb25, Gb25⟩ := id f16
    obtain ⟨cla25, Aa25, qa25, Sa25, Na25, Ha25, Ga25⟩ := id va12
    refine w_calledp (call_V X24 hx hby hZ hown (argsL := [(.int (0 : Int32))]) (rest := []) (Wd := 0) (a := b1) (hw _ t_42) (hw _ t_43) (hw _ t_45) (hw _ t_44) (hw _ t_2) (hw _ t_46) (by decide) f14 (rmv l Z a0 hw b1 bl ar clb25 cla25 (0 : Int32) y3 T12.heap f15 Ab25 ⟨inb_of Sb25 ⟨by decide, by decide⟩, Hb25.at (inb_of Sb25 ⟨by decide, by decide⟩) rfl⟩ Aa25 ⟨inb_of Sa25 ⟨by decide, by decide⟩, Ha25.at (inb_of Sa25 ⟨by decide, by decide⟩) rfl⟩ f14) rfl n0_139 (by rw [hml]; rfl) (lenOf pd_1963 rfl) rfl (by decide) (by decide) (by decide) (by decide) e24) rfl rfl fun T26 X26 e26 => ?_
    refine w_iloadN X26 hx hby n0_142 rfl ?_
    refine w_iload X26 hx hby n0_143 rfl ?_
    refine w_iadd X26 hx hby n0_145 ?_
    refine f_icmp_ne X26 hx hby n0_146 (fun q146 => by exact absurd (by first | rfl | rw [Int32.add_zero]) q146) (fun q146 => ?_)
    refine w_iconst X26 hx hby (1 : Int32) n0_149 rfl ?_
    refine w_goto X26 hx hby n0_150 ?_
    refine w_retN X26 hx hby e26 hlk hret (by simp) n0_154 (by decide) (by decide) ?_
    exact ⟨rfl, N12⟩
  · rw [hq]
    refine w_istore X9 hx hby #[.val (.int y1), .val (.int y2), .val (.int y3), .val (.ref b1), .val (.int (1 : Int32)), .unset, .unset, .unset] n0_46 rfl ?_
    refine w_aloadN X9 hx hby n0_48 rfl rfl ?_
    refine w_iload X9 hx hby n0_49 rfl ?_
    refine w_iloadN X9 hx hby n0_51 rfl ?_
    obtain ⟨clb27, Ab27, qb27, Sb27, Nb27, Hb27, Gb27⟩ := id vb9
    obtain ⟨cla27, Aa27, qa27, Sa27, Na27, Ha27, Ga27⟩ := id va9
    refine w_called (call_V X9 hx hby hZ hown (argsL := [(.int (1 : Int32)), (.int y2)]) (rest := []) (Wd := 0) (a := b1) (hw _ t_23) (hw _ t_24) (hw _ t_26) (hw _ t_25) (hw _ t_2) (hw _ t_27) (by decide) ea9 (rms l Z a0 hw b1 bl ar clb27 cla27 (1 : Int32) y2 T9.heap fb9 Ab27 ⟨inb_of Sb27 ⟨by decide, by decide⟩, Hb27.at (inb_of Sb27 ⟨by decide, by decide⟩) rfl⟩ Aa27 (inb_of Sa27 ⟨by decide, by decide⟩) h0.size g2) rfl n0_52 (by rw [hml]; rfl) (lenOf pd_2877 rfl) rfl (by decide) (by decide) (by decide) (by decide) rfl) fun v28 T28 L28 X28 Q28 => ?_
    obtain ⟨rfl, n28, W28⟩ := Q28
    have N28 := Fr.app N9 n28
    have va28 : Arv Z T28.heap ar ka .int (64 : Int32) [(.int ((((-1 : Int32) + (1 : Int32)) <<< ((3 : Int32) &&& 31)) ||| (1 : Int32))), (.int (-1 : Int32)), (.int ((0 : Int32) + (1 : Int32))), (.int y3), (.int ((((5 : Int32) + (1 : Int32)) <<< ((3 : Int32) &&& 31)) ||| (2 : Int32))), (.int (0 : Int32)), (.int y2), (.int (y3 + (1 : Int32))), (.int ((((7 : Int32) + (1 : Int32)) <<< ((3 : Int32) &&& 31)) ||| (3 : Int32))), (.int (1 : Int32)), (.int ((2 : Int32) + (1 : Int32))), (.int (y3 + (2 : Int32)))] (.int (0 : Int32)) := Arv.set Aa27 qa27 Sa27 Na27 Ha27 Ga27 rfl W28 6 (by decide) (Nat.le_of_ble_eq_true rfl)
    have z29 : h0.size ≤ T28.heap.size := Nat.le_trans z10 (Keep.of_wr W28).1
    show Wp p e below s _ _ _ T28 (mkF m 55 #[.val (.int y1), .val (.int y2), .val (.int y3), .val (.ref b1), .val (.int (1 : Int32)), .unset, .unset, .unset] [])
    refine w_iload X28 hx hby n0_55 rfl ?_
    refine f_if_ne X28 hx hby n0_57 (fun q57 => ?_) (fun q57 => by exact absurd q57 (by decide))
    refine w_iconst X28 hx hby (1 : Int32) n0_64 rfl ?_
    refine w_istore X28 hx hby #[.val (.int y1), .val (.int y2), .val (.int y3), .val (.ref b1), .val (.int (1 : Int32)), .val (.int (1 : Int32)), .unset, .unset] n0_65 rfl ?_
    refine w_iload X28 hx hby n0_67 rfl ?_
    refine w_iconst X28 hx hby (1 : Int32) n0_69 rfl ?_
    refine f_icmp_ne X28 hx hby n0_70 (fun q70 => by exact absurd q70 (by decide)) (fun q70 => ?_)
    refine w_iloadN X28 hx hby n0_73 rfl ?_
    refine w_goto X28 hx hby n0_74 ?_
    refine w_istore X28 hx hby #[.val (.int y1), .val (.int y2), .val (.int y3), .val (.ref b1), .val (.int (1 : Int32)), .val (.int (1 : Int32)), .val (.int y2), .unset] n0_78 rfl ?_
    refine w_iload X28 hx hby n0_80 rfl ?_
    refine w_iconst X28 hx hby (2 : Int32) n0_82 rfl ?_
    refine f_icmp_ne X28 hx hby n0_83 (fun q83 => ?_) (fun q83 => by exact absurd q83 (by decide))
    refine w_iconst X28 hx hby (3 : Int32) n0_90 rfl ?_
    refine w_istore X28 hx hby #[.val (.int y1), .val (.int y2), .val (.int y3), .val (.ref b1), .val (.int (1 : Int32)), .val (.int (1 : Int32)), .val (.int y2), .val (.int (3 : Int32))] n0_91 rfl ?_
    refine w_aloadN X28 hx hby n0_93 rfl rfl ?_
    refine w_iconst X28 hx hby (0 : Int32) n0_94 rfl ?_
    have f30 := (ea9.wr W28)
    have f31 := (fb9.other W28 (Or.inl (Ne.symm na1)))
    have f32 := (vb9.other W28 nba)
    obtain ⟨clb33, Ab33, qb33, Sb33, Nb33, Hb33, Gb33⟩ := id f32
    obtain ⟨cla33, Aa33, qa33, Sa33, Na33, Ha33, Ga33⟩ := id va28
    refine w_calledp (call_V X28 hx hby hZ hown (argsL := [(.int (0 : Int32))]) (rest := []) (Wd := 0) (a := b1) (hw _ t_28) (hw _ t_29) (hw _ t_31) (hw _ t_30) (hw _ t_2) (hw _ t_32) (by decide) f30 (rme l Z a0 hw b1 bl ar clb33 cla33 (0 : Int32) ((0 : Int32) + (1 : Int32)) T28.heap f31 Ab33 ⟨inb_of Sb33 ⟨by decide, by decide⟩, Hb33.at (inb_of Sb33 ⟨by decide, by decide⟩) rfl⟩ Aa33 ⟨inb_of Sa33 ⟨by decide, by decide⟩, Ha33.at (inb_of Sa33 ⟨by decide, by decide⟩) rfl⟩ f30) rfl n0_95 (by rw [hml]; rfl) (lenOf pd_1963 rfl) rfl (by decide) (by decide) (by decide) (by decide) rfl) rfl rfl fun T34 X34 e34 => ?_
    refine w_iload X34 hx hby n0_98 rfl ?_
    refine f_icmp_ne X34 hx hby n0_100 (fun q100 => by exact absurd q100 (by decide)) (fun q100 => ?_)
    refine w_aloadN X34 hx hby n0_103 rfl rfl ?_
    refine w_iconst X34 hx hby (1 : Int32) n0_104 rfl ?_
    obtain ⟨clb35, Ab35, qb35, Sb35, Nb35, Hb35, Gb35⟩ := id f32
    obtain ⟨cla35, Aa35, qa35, Sa35, Na35, Ha35, Ga35⟩ := id va28
    refine w_calledp (call_V X34 hx hby hZ hown (argsL := [(.int (1 : Int32))]) (rest := []) (Wd := 0) (a := b1) (hw _ t_28) (hw _ t_29) (hw _ t_31) (hw _ t_30) (hw _ t_2) (hw _ t_32) (by decide) f30 (rme l Z a0 hw b1 bl ar clb35 cla35 (1 : Int32) y2 T28.heap f31 Ab35 ⟨inb_of Sb35 ⟨by decide, by decide⟩, Hb35.at (inb_of Sb35 ⟨by decide, by decide⟩) rfl⟩ Aa35 ⟨inb_of Sa35 ⟨by decide, by decide⟩, Ha35.at (inb_of Sa35 ⟨by decide, by decide⟩) rfl⟩ f30) rfl n0_105 (by rw [hml]; rfl) (lenOf pd_1963 rfl) rfl (by decide) (by decide) (by decide) (by decide) e34) rfl rfl fun T36 X36 e36 => ?_
    refine w_iload X36 hx hby n0_108 rfl ?_
    refine f_icmp_ne X36 hx hby n0_110 (fun q110 => by exact absurd rfl q110) (fun q110 => ?_)
    refine w_aloadN X36 hx hby n0_113 rfl rfl ?_
    refine w_iconst X36 hx hby (2 : Int32) n0_114 rfl ?_
    obtain ⟨clb37, Ab37, qb37, Sb37, Nb37, Hb37, Gb37⟩ := id f32
    obtain ⟨cla37, Aa37, qa37, Sa37, Na37, Ha37, Ga37⟩ := id va28
    refine w_calledp (call_V X36 hx hby hZ hown (argsL := [(.int (2 : Int32))]) (rest := []) (Wd := 0) (a := b1) (hw _ t_28) (hw _ t_29) (hw _ t_31) (hw _ t_30) (hw _ t_2) (hw _ t_32) (by decide) f30 (rme l Z a0 hw b1 bl ar clb37 cla37 (2 : Int32) ((2 : Int32) + (1 : Int32)) T28.heap f31 Ab37 ⟨inb_of Sb37 ⟨by decide, by decide⟩, Hb37.at (inb_of Sb37 ⟨by decide, by decide⟩) rfl⟩ Aa37 ⟨inb_of Sa37 ⟨by decide, by decide⟩, Ha37.at (inb_of Sa37 ⟨by decide, by decide⟩) rfl⟩ f30) rfl n0_115 (by rw [hml]; rfl) (lenOf pd_1963 rfl) rfl (by decide) (by decide) (by decide) (by decide) e36) rfl rfl fun T38 X38 e38 => ?_
    refine w_iload X38 hx hby n0_118 rfl ?_
    refine f_icmp_ne X38 hx hby n0_120 (fun q120 => by exact absurd q120 (by decide)) (fun q120 => ?_)
    refine w_aloadN X38 hx hby n0_123 rfl rfl ?_
    refine w_iload X38 hx hby n0_124 rfl ?_
    obtain ⟨clb39, Ab39, qb39, Sb39, Nb39, Hb39, Gb39⟩ := id f32
    obtain ⟨cla39, Aa39, qa39, Sa39, Na39, Ha39, Ga39⟩ := id va28
    refine w_calledp (call_V X38 hx hby hZ hown (argsL := [(.int (1 : Int32))]) (rest := []) (Wd := 0) (a := b1) (hw _ t_37) (hw _ t_38) (hw _ t_40) (hw _ t_39) (hw _ t_2) (hw _ t_41) (by decide) f30 (rmp l Z a0 hw b1 bl ar clb39 cla39 (1 : Int32) (0 : Int32) T28.heap f31 Ab39 ⟨inb_of Sb39 ⟨by decide, by decide⟩, Hb39.at (inb_of Sb39 ⟨by decide, by decide⟩) rfl⟩ Aa39 ⟨inb_of Sa39 ⟨by decide, by decide⟩, Ha39.at (inb_of Sa39 ⟨by decide, by decide⟩) rfl⟩ f30) rfl n0_126 (by rw [hml]; rfl) (lenOf pd_1963 rfl) rfl (by decide) (by decide) (by decide) (by decide) e38) rfl rfl fun T40 X40 e40 => ?_
    refine w_iload X40 hx hby n0_129 rfl ?_
    refine w_iconst X40 hx hby (1 : Int32) n0_131 rfl ?_
    refine w_isub X40 hx hby n0_132 ?_
    refine f_icmp_ne X40 hx hby n0_133 (fun q133 => by exact absurd q133 (by decide)) (fun q133 => ?_)
    refine w_aloadN X40 hx hby n0_136 rfl rfl ?_
    refine w_iload X40 hx hby n0_137 rfl ?_
    obtain ⟨clb41, Ab41, qb41, Sb41, Nb41, Hb41, Gb41⟩ := id f32
    obtain ⟨cla41, Aa41, qa41, Sa41, Na41, Ha41, Ga41⟩ := id va28
    refine w_calledp (call_V X40 hx hby hZ hown (argsL := [(.int (1 : Int32))]) (rest := []) (Wd := 0) (a := b1) (hw _ t_42) (hw _ t_43) (hw _ t_45) (hw _ t_44) (hw _ t_2) (hw _ t_46) (by decide) f30 (rmv l Z a0 hw b1 bl ar clb41 cla41 (1 : Int32) (y3 + (1 : Int32)) T28.heap f31 Ab41 ⟨inb_of Sb41 ⟨by decide, by decide⟩, Hb41.at (inb_of Sb41 ⟨by decide, by decide⟩) rfl⟩ Aa41 ⟨inb_of Sa41 ⟨by decide, by decide⟩, Ha41.at (inb_of Sa41 ⟨by decide, by decide⟩) rfl⟩ f30) rfl n0_139 (by rw [hml]; rfl) (lenOf pd_1963 rfl) rfl (by decide) (by decide) (by decide) (by decide) e40) rfl rfl fun T42 X42 e42 => ?_
    refine w_iloadN X42 hx hby n0_142 rfl ?_
    refine w_iload X42 hx hby n0_143 rfl ?_
    refine w_iadd X42 hx hby n0_145 ?_
    refine f_icmp_ne X42 hx hby n0_146 (fun q146 => by exact absurd rfl q146) (fun q146 => ?_)
    refine w_iconst X42 hx hby (1 : Int32) n0_149 rfl ?_
    refine w_goto X42 hx hby n0_150 ?_
    refine w_retN X42 hx hby e42 hlk hret (by simp) n0_154 (by decide) (by decide) ?_
    exact ⟨rfl, N28⟩
  · rw [hq]
    refine w_istore X9 hx hby #[.val (.int y1), .val (.int y2), .val (.int y3), .val (.ref b1), .val (.int (2 : Int32)), .unset, .unset, .unset] n0_46 rfl ?_
    refine w_aloadN X9 hx hby n0_48 rfl rfl ?_
    refine w_iload X9 hx hby n0_49 rfl ?_
    refine w_iloadN X9 hx hby n0_51 rfl ?_
    obtain ⟨clb43, Ab43, qb43, Sb43, Nb43, Hb43, Gb43⟩ := id vb9
    obtain ⟨cla43, Aa43, qa43, Sa43, Na43, Ha43, Ga43⟩ := id va9
    refine w_called (call_V X9 hx hby hZ hown (argsL := [(.int (2 : Int32)), (.int y2)]) (rest := []) (Wd := 0) (a := b1) (hw _ t_23) (hw _ t_24) (hw _ t_26) (hw _ t_25) (hw _ t_2) (hw _ t_27) (by decide) ea9 (rms l Z a0 hw b1 bl ar clb43 cla43 (2 : Int32) y2 T9.heap fb9 Ab43 ⟨inb_of Sb43 ⟨by decide, by decide⟩, Hb43.at (inb_of Sb43 ⟨by decide, by decide⟩) rfl⟩ Aa43 (inb_of Sa43 ⟨by decide, by decide⟩) h0.size g2) rfl n0_52 (by rw [hml]; rfl) (lenOf pd_2877 rfl) rfl (by decide) (by decide) (by decide) (by decide) rfl) fun v44 T44 L44 X44 Q44 => ?_
    obtain ⟨rfl, n44, W44⟩ := Q44
    have N44 := Fr.app N9 n44
    have va44 : Arv Z T44.heap ar ka .int (64 : Int32) [(.int ((((-1 : Int32) + (1 : Int32)) <<< ((3 : Int32) &&& 31)) ||| (1 : Int32))), (.int (-1 : Int32)), (.int ((0 : Int32) + (1 : Int32))), (.int y3), (.int ((((5 : Int32) + (1 : Int32)) <<< ((3 : Int32) &&& 31)) ||| (2 : Int32))), (.int (0 : Int32)), (.int ((1 : Int32) + (1 : Int32))), (.int (y3 + (1 : Int32))), (.int ((((7 : Int32) + (1 : Int32)) <<< ((3 : Int32) &&& 31)) ||| (3 : Int32))), (.int (1 : Int32)), (.int y2), (.int (y3 + (2 : Int32)))] (.int (0 : Int32)) := Arv.set Aa43 qa43 Sa43 Na43 Ha43 Ga43 rfl W44 10 (by decide) (Nat.le_of_ble_eq_true rfl)
    have z45 : h0.size ≤ T44.heap.size := Nat.le_trans z10 (Keep.of_wr W44).1
    show Wp p e below s _ _ _ T44 (mkF m 55 #[.val (.int y1), .val (.int y2), .val (.int y3), .val (.ref b1), .val (.int (2 : Int32)), .unset, .unset, .unset] [])
    refine w_iload X44 hx hby n0_55 rfl ?_
    refine f_if_ne X44 hx hby n0_57 (fun q57 => ?_) (fun q57 => by exact absurd q57 (by decide))
    refine w_iconst X44 hx hby (1 : Int32) n0_64 rfl ?_
    refine w_istore X44 hx hby #[.val (.int y1), .val (.int y2), .val (.int y3), .val (.ref b1), .val (.int (2 : Int32)), .val (.int (1 : Int32)), .unset, .unset] n0_65 rfl ?_
    refine w_iload X44 hx hby n0_67 rfl ?_
    refine w_iconst X44 hx hby (1 : Int32) n0_69 rfl ?_
    refine f_icmp_ne X44 hx hby n0_70 (fun q70 => ?_) (fun q70 => by exact absurd q70 (by decide))
    refine w_iconst X44 hx hby (2 : Int32) n0_77 rfl ?_
    refine w_istore X44 hx hby #[.val (.int y1), .val (.int y2), .val (.int y3), .val (.ref b1), .val (.int (2 : Int32)), .val (.int (1 : Int32)), .val (.int (2 : Int32)), .unset] n0_78 rfl ?_
    refine w_iload X44 hx hby n0_80 rfl ?_
    refine w_iconst X44 hx hby (2 : Int32) n0_82 rfl ?_
    refine f_icmp_ne X44 hx hby n0_83 (fun q83 => by exact absurd q83 (by decide)) (fun q83 => ?_)
    refine w_iloadN X44 hx hby n0_86 rfl ?_
    refine w_goto X44 hx hby n0_87 ?_
    refine w_istore X44 hx hby #[.val (.int y1), .val (.int y2), .val (.int y3), .val (.ref b1), .val (.int (2 : Int32)), .val (.int (1 : Int32)), .val (.int (2 : Int32)), .val (.int y2)] n0_91 rfl ?_
    refine w_aloadN X44 hx hby n0_93 rfl rfl ?_
    refine w_iconst X44 hx hby (0 : Int32) n0_94 rfl ?_
    have f46 := (ea9.wr W44)
    have f47 := (fb9.other W44 (Or.inl (Ne.symm na1)))
    have f48 := (vb9.other W44 nba)
    obtain ⟨clb49, Ab49, qb49, Sb49, Nb49, Hb49, Gb49⟩ := id f48
    obtain ⟨cla49, Aa49, qa49, Sa49, Na49, Ha49, Ga49⟩ := id va44
    refine w_calledp (call_V X44 hx hby hZ hown (argsL := [(.int (0 : Int32))]) (rest := []) (Wd := 0) (a := b1) (hw _ t_28) (hw _ t_29) (hw _ t_31) (hw _ t_30) (hw _ t_2) (hw _ t_32) (by decide) f46 (rme l Z a0 hw b1 bl ar clb49 cla49 (0 : Int32) ((0 : Int32) + (1 : Int32)) T44.heap f47 Ab49 ⟨inb_of Sb49 ⟨by decide, by decide⟩, Hb49.at (inb_of Sb49 ⟨by decide, by decide⟩) rfl⟩ Aa49 ⟨inb_of Sa49 ⟨by decide, by decide⟩, Ha49.at (inb_of Sa49 ⟨by decide, by decide⟩) rfl⟩ f46) rfl n0_95 (by rw [hml]; rfl) (lenOf pd_1963 rfl) rfl (by decide) (by decide) (by decide) (by decide) rfl) rfl rfl fun T50 X50 e50 => ?_
    refine w_iload X50 hx hby n0_98 rfl ?_
    refine f_icmp_ne X50 hx hby n0_100 (fun q100 => by exact absurd q100 (by decide)) (fun q100 => ?_)
    refine w_aloadN X50 hx hby n0_103 rfl rfl ?_
    refine w_iconst X50 hx hby (1 : Int32) n0_104 rfl ?_
    obtain ⟨clb51, Ab51, qb51, Sb51, Nb51, Hb51, Gb51⟩ := id f48
    obtain ⟨cla51, Aa51, qa51, Sa51, Na51, Ha51, Ga51⟩ := id va44
    refine w_calledp (call_V X50 hx hby hZ hown (argsL := [(.int (1 : Int32))]) (rest := []) (Wd := 0) (a := b1) (hw _ t_28) (hw _ t_29) (hw _ t_31) (hw _ t_30) (hw _ t_2) (hw _ t_32) (by decide) f46 (rme l Z a0 hw b1 bl ar clb51 cla51 (1 : Int32) ((1 : Int32) + (1 : Int32)) T44.heap f47 Ab51 ⟨inb_of Sb51 ⟨by decide, by decide⟩, Hb51.at (inb_of Sb51 ⟨by decide, by decide⟩) rfl⟩ Aa51 ⟨inb_of Sa51 ⟨by decide, by decide⟩, Ha51.at (inb_of Sa51 ⟨by decide, by decide⟩) rfl⟩ f46) rfl n0_105 (by rw [hml]; rfl) (lenOf pd_1963 rfl) rfl (by decide) (by decide) (by decide) (by decide) e50) rfl rfl fun T52 X52 e52 => ?_
    refine w_iload X52 hx hby n0_108 rfl ?_
    refine f_icmp_ne X52 hx hby n0_110 (fun q110 => by exact absurd q110 (by decide)) (fun q110 => ?_)
    refine w_aloadN X52 hx hby n0_113 rfl rfl ?_
    refine w_iconst X52 hx hby (2 : Int32) n0_114 rfl ?_
    obtain ⟨clb53, Ab53, qb53, Sb53, Nb53, Hb53, Gb53⟩ := id f48
    obtain ⟨cla53, Aa53, qa53, Sa53, Na53, Ha53, Ga53⟩ := id va44
    refine w_calledp (call_V X52 hx hby hZ hown (argsL := [(.int (2 : Int32))]) (rest := []) (Wd := 0) (a := b1) (hw _ t_28) (hw _ t_29) (hw _ t_31) (hw _ t_30) (hw _ t_2) (hw _ t_32) (by decide) f46 (rme l Z a0 hw b1 bl ar clb53 cla53 (2 : Int32) y2 T44.heap f47 Ab53 ⟨inb_of Sb53 ⟨by decide, by decide⟩, Hb53.at (inb_of Sb53 ⟨by decide, by decide⟩) rfl⟩ Aa53 ⟨inb_of Sa53 ⟨by decide, by decide⟩, Ha53.at (inb_of Sa53 ⟨by decide, by decide⟩) rfl⟩ f46) rfl n0_115 (by rw [hml]; rfl) (lenOf pd_1963 rfl) rfl (by decide) (by decide) (by decide) (by decide) e52) rfl rfl fun T54 X54 e54 => ?_
    refine w_iload X54 hx hby n0_118 rfl ?_
    refine f_icmp_ne X54 hx hby n0_120 (fun q120 => by exact absurd rfl q120) (fun q120 => ?_)
    refine w_aloadN X54 hx hby n0_123 rfl rfl ?_
    refine w_iload X54 hx hby n0_124 rfl ?_
    obtain ⟨clb55, Ab55, qb55, Sb55, Nb55, Hb55, Gb55⟩ := id f48
    obtain ⟨cla55, Aa55, qa55, Sa55, Na55, Ha55, Ga55⟩ := id va44
    refine w_calledp (call_V X54 hx hby hZ hown (argsL := [(.int (2 : Int32))]) (rest := []) (Wd := 0) (a := b1) (hw _ t_37) (hw _ t_38) (hw _ t_40) (hw _ t_39) (hw _ t_2) (hw _ t_41) (by decide) f46 (rmp l Z a0 hw b1 bl ar clb55 cla55 (2 : Int32) (1 : Int32) T44.heap f47 Ab55 ⟨inb_of Sb55 ⟨by decide, by decide⟩, Hb55.at (inb_of Sb55 ⟨by decide, by decide⟩) rfl⟩ Aa55 ⟨inb_of Sa55 ⟨by decide, by decide⟩, Ha55.at (inb_of Sa55 ⟨by decide, by decide⟩) rfl⟩ f46) rfl n0_126 (by rw [hml]; rfl) (lenOf pd_1963 rfl) rfl (by decide) (by decide) (by decide) (by decide) e54) rfl rfl fun T56 X56 e56 => ?_
    refine w_iload X56 hx hby n0_129 rfl ?_
    refine w_iconst X56 hx hby (1 : Int32) n0_131 rfl ?_
    refine w_isub X56 hx hby n0_132 ?_
    refine f_icmp_ne X56 hx hby n0_133 (fun q133 => by exact absurd q133 (by decide)) (fun q133 => ?_)
    refine w_aloadN X56 hx hby n0_136 rfl rfl ?_
    refine w_iload X56 hx hby n0_137 rfl ?_
    obtain ⟨clb57, Ab57, qb57, Sb57, Nb57, Hb57, Gb57⟩ := id f48
    obtain ⟨cla57, Aa57, qa57, Sa57, Na57, Ha57, Ga57⟩ := id va44
    refine w_calledp (call_V X56 hx hby hZ hown (argsL := [(.int (2 : Int32))]) (rest := []) (Wd := 0) (a := b1) (hw _ t_42) (hw _ t_43) (hw _ t_45) (hw _ t_44) (hw _ t_2) (hw _ t_46) (by decide) f46 (rmv l Z a0 hw b1 bl ar clb57 cla57 (2 : Int32) (y3 + (2 : Int32)) T44.heap f47 Ab57 ⟨inb_of Sb57 ⟨by decide, by decide⟩, Hb57.at (inb_of Sb57 ⟨by decide, by decide⟩) rfl⟩ Aa57 ⟨inb_of Sa57 ⟨by decide, by decide⟩, Ha57.at (inb_of Sa57 ⟨by decide, by decide⟩) rfl⟩ f46) rfl n0_139 (by rw [hml]; rfl) (lenOf pd_1963 rfl) rfl (by decide) (by decide) (by decide) (by decide) e56) rfl rfl fun T58 X58 e58 => ?_
    refine w_iloadN X58 hx hby n0_142 rfl ?_
    refine w_iload X58 hx hby n0_143 rfl ?_
    refine w_iadd X58 hx hby n0_145 ?_
    refine f_icmp_ne X58 hx hby n0_146 (fun q146 => by exact absurd rfl q146) (fun q146 => ?_)
    refine w_iconst X58 hx hby (1 : Int32) n0_149 rfl ?_
    refine w_goto X58 hx hby n0_150 ?_
    refine w_retN X58 hx hby e58 hlk hret (by simp) n0_154 (by decide) (by decide) ?_
    exact ⟨rfl, N44⟩
set_option maxRecDepth 65536 in
set_option maxHeartbeats 40000000 in
theorem comes_1 {Post : Tables → Env → Array Value → State → Outcome → State → Prop} (hpost : ∀ tb e args s v u, (limb_1_1.after args s (.returned v) u = true ∧ limb_1_2.after args s (.returned v) u = true) → FrameEnd s (.returned v) u (Jvm.fieldLocs frame_1_writes args s ++ Jvm.arrayLocs frame_1_arrays args s ++ Jvm.staticLocs frame_1_statics s) 16 256 → Post tb e args s (.returned v) u) :
    ArmFor flags0 classFile x code maxLocals ret World_1 tables_1 room_1 Calls_1 rest_1 Pre_1 Post := by
  intro l hfl _ _ p e ha hc hk s m args below hf hA hF happ hP
  obtain ⟨hcalls, hrest, hpre⟩ := hP
  obtain ⟨-, -, -, hnamed, -, -, -, hat⟩ := (Spec.applies_iff hf).mp happ
  obtain ⟨hg, hn⟩ := and_e (Cond.before_iff.mp (show (Jvm.Cond.and given_1 narrow_1).before args s = true from hpre))
  obtain ⟨hcnt, hg⟩ := and_e hg
  obtain ⟨hg0, hg⟩ := and_e hg
  obtain ⟨hg1, hg⟩ := and_e hg
  have hg2 := hg
  obtain ⟨w0, w1, w2, rfl⟩ : ∃ w0 w1 w2 : Value, args = #[w0, w1, w2] := by
    have hs : args.size = 3 := by simpa [Cond.value, given_1] using hcnt
    obtain ⟨L⟩ := args
    match L, hs with
    | [w0, w1, w2], _ => exact ⟨w0, w1, w2, rfl⟩
  have hw := fun d (hd : d ∈ tables_1) => atoms_spec (ws := Jvm.Cond.code x code maxLocals ret :: tables_1) hat d (List.mem_cons_of_mem _ hd)
  have hfit : Fit s := fun {y c} hc i hi => by
    obtain ⟨ha, rfl⟩ := Array.getElem?_eq_some_iff.mp hc
    have q := List.all_eq_true.mp ((Array.all_eq_true_iff_forall_mem.mp hF) _ (Array.getElem_mem ha)) i (List.mem_range.mpr hi)
    simpa [Array.getElem?_eq_getElem hi] using q
  obtain ⟨i0, ei0⟩ := is_v hg0
  obtain rfl : w0 = (.int i0) := Option.some.inj ei0
  obtain ⟨i1, ei1⟩ := is_v hg1
  obtain rfl : w1 = (.int i1) := Option.some.inj ei1
  obtain ⟨i2, ei2⟩ := is_v hg2
  obtain rfl : w2 = (.int i2) := Option.some.inj ei2
  obtain ⟨n, o, h1, h2, h3, _, L, rfl, ⟨rfl, N⟩, hq⟩ := law0 l s _ hw i0 i1 i2 s.heap tables_1 p e ha hc hk s m _ below hf ((Spec.applies_iff_loose hf).mp happ).1 ⟨rfl, State.Warmed39.refl s, rfl⟩ trivial
  exact ⟨n, _, h1, h2, h3, hpost _ _ _ _ _ _ ⟨Cond.after_iff.mpr rfl, Cond.after_iff.mpr (eq_i res_at (Term.int_eval (1)) rfl)⟩ ⟨hq.1, hq.2.1, (hq.2.2.sift fun y hy => Or.inr (N y hy)).mono (by decide) (by decide)⟩⟩
theorem main_1_1 : Claimed_1_1 := comes_1 fun _ _ _ _ _ _ h hF => ⟨h.1, hF⟩
theorem main_1_2 : Claimed_1_2 := comes_1 fun _ _ _ _ _ _ h hF => ⟨h.2, hF⟩
end Jvm.Pilot.@@N@@
namespace Jvm.Pilot.@@N@@
open Jvm Jvm.ClassFile Sem Op Lib Jvm.Free Jvm.Stand Jvm.Pilot.@@N@@.Jvm.D
/-! MADE BY PROGRAM (witnessworld.py) out of the Statement's table words and the real class files: 9 classes; the members and pool entries that the words name. The judged class is class 1, her method 1. -/
namespace start1
open Jvm.ClassFile
def u (s : String) : CpInfo := .utf8 (stringToUtf16 s)
/-- a pool by its gaps: so many unusable entries, then the entry; so many at the end -/
def gap : Nat → List CpInfo → List CpInfo
  | 0, r => r
  | n + 1, r => .unusable :: gap n r
def poolList (es : List (Nat × CpInfo)) (last : Nat) : List CpInfo := es.foldr (fun e r => gap e.1 (e.2 :: r)) (gap last [])
def pool (es : List (Nat × CpInfo)) (last : Nat) : Array CpInfo := ⟨poolList es last⟩
def fileOf (pool : Array CpInfo) (this : Nat) (attrs : Array Attribute := #[]) (ms : Array MethodInfo := #[]) (fl : Nat := 33) (sup : Nat := 0) (ifs : Array Nat := #[]) (fds : Array FieldInfo := #[]) : ClassFile where
  minorVersion := 0
  majorVersion := 65
  constantPool := pool
  accessFlags := fl
  thisClass := this
  superClass := sup
  interfaces := ifs
  fields := fds
  methods := ms
  attributes := attrs
def plain (name : String) (sup : Option ClassId) : Class where
  name := name
  kind := .ordinary
  loader := none
  accessFlags := 33
  super := sup
  interfaces := #[]
  cf := none
  fields := #[]
  methods := #[]
  instanceTypes := #[]
  staticTypes := #[]
  resolved := #[]
  callSites := []
  init := .initialized
  statics := none
  mirror := none

def pool0 : Array CpInfo := pool [(5, u "<init>"), (0, u "()V"), (1, .class_ 10), (1, u "java/lang/Object")] 113

def k0c0 : Code := { maxStack := 0, maxLocals := 1, code := object_method_1_code, exceptionTable := #[], attributes := #[] }
def k0m0 : Method := { name := "<init>", desc := "()V", sig := { parameters := [], returnType := none }, accessFlags := 1, code := some k0c0 }
/-- java/lang/Object -/
def k0 : Class := { plain "java/lang/Object" none with
  accessFlags := 33
  interfaces := #[]
  cf := some (fileOf pool0 8 #[] #[{ accessFlags := 1, nameIndex := 5, descriptorIndex := 6, attributes := #[] }] 33 0 #[] #[])
  fields := #[]
  methods := #[k0m0]
  instanceTypes := #[]
  staticTypes := #[]
  resolved := Array.replicate 124 none
  statics := none }

def pool1 : Array CpInfo := pool [(2, .class_ 4), (0, .nameAndType 5 6), (0, u "java/lang/Object"), (0, u "<init>"), (0, u "()V"), (0, .class_ 8), (0, u "com/example/strict_xquery/strictxquery/xml/EntryTable"), (0, .methodref 7 3), (0, .methodref 7 11), (0, .nameAndType 12 13), (0, u "add"), (0, u "(IIII)I"), (0, .integer 2147483647), (0, .methodref 7 16), (0, .nameAndType 17 18), (0, u "setEnd"), (0, u "(II)V"), (0, .methodref 7 20), (0, .nameAndType 21 22), (0, u "end"), (0, u "(I)I"), (0, .methodref 7 24), (0, .nameAndType 25 22), (0, u "parent"), (0, .methodref 7 27), (0, .nameAndType 28 22), (0, u "valueStart"), (0, .class_ 30), (0, u "com/example/strict_xquery/strictxquery/xml/EntryTableSetEndPinLaw"), (2, u "law"), (0, u "(III)Z")] 3

def k1m0 : Method := { name := "<init>", desc := "()V", sig := { parameters := [], returnType := none }, accessFlags := 1, code := none }
def k1c1 : Code := { maxStack := 6, maxLocals := 8, code := code, exceptionTable := #[], attributes := #[] }
def k1m1 : Method := { name := "law", desc := "(III)Z", sig := { parameters := [.int, .int, .int], returnType := some .boolean }, accessFlags := 9, code := some k1c1 }
/-- com/example/strict_xquery/strictxquery/xml/EntryTableSetEndPinLaw -/
def k1 : Class := { plain "com/example/strict_xquery/strictxquery/xml/EntryTableSetEndPinLaw" (some 0) with
  accessFlags := 49
  interfaces := #[]
  cf := some (fileOf pool1 29 #[] #[{ accessFlags := 1, nameIndex := 5, descriptorIndex := 6, attributes := #[] }, { accessFlags := 9, nameIndex := 33, descriptorIndex := 34, attributes := #[] }] 49 2 #[] #[])
  fields := #[]
  methods := #[k1m0, k1m1]
  instanceTypes := #[]
  staticTypes := #[]
  resolved := Array.replicate 38 none
  statics := none }

def pool2 : Array CpInfo := pool [(1, .class_ 2), (0, u "com/example/strict_xquery/strictxquery/xml/EntryTable"), (0, .methodref 4 5), (0, .class_ 6), (0, .nameAndType 7 8), (0, u "java/lang/Object"), (0, u "<init>"), (0, u "()V"), (0, .class_ 10), (0, u "[I"), (0, .fieldref 1 12), (0, .nameAndType 13 14), (0, u "blocks"), (0, u "[[I"), (0, .fieldref 1 16), (0, .nameAndType 17 18), (0, u "size"), (0, u "I"), (10, .methodref 1 30), (0, .nameAndType 31 32), (0, u "field"), (0, u "(II)I"), (0, u "KINDS"), (2, u "KIND_BITS"), (1, u "BLOCK_BITS"), (1, u "BLOCK_MASK"), (1, u "FIRST_BLOCK_START"), (1, u "WIDTH"), (1, u "KIND_AND_NAME"), (1, u "PARENT"), (1, u "END"), (1, u "VALUE_START"), (2, u "add"), (0, u "(IIII)I"), (1, u "setEnd"), (0, u "(II)V"), (2, u "(I)I"), (1, u "parent"), (0, u "end"), (0, u "valueStart")] 2

def k2c0 : Code := { maxStack := 5, maxLocals := 1, code := prog_200_method_1_code, exceptionTable := #[], attributes := #[] }
def k2m0 : Method := { name := "<init>", desc := "()V", sig := { parameters := [], returnType := none }, accessFlags := 0, code := some k2c0 }
def k2c1 : Code := { maxStack := 5, maxLocals := 8, code := prog_200_method_2_code, exceptionTable := #[], attributes := #[] }
def k2m1 : Method := { name := "add", desc := "(IIII)I", sig := { parameters := [.int, .int, .int, .int], returnType := some .int }, accessFlags := 0, code := some k2c1 }
def k2c2 : Code := { maxStack := 3, maxLocals := 3, code := prog_200_method_3_code, exceptionTable := #[], attributes := #[] }
def k2m2 : Method := { name := "setEnd", desc := "(II)V", sig := { parameters := [.int, .int], returnType := none }, accessFlags := 0, code := some k2c2 }
def k2c3 : Code := { maxStack := 3, maxLocals := 2, code := prog_200_method_7_code, exceptionTable := #[], attributes := #[] }
def k2m3 : Method := { name := "parent", desc := "(I)I", sig := { parameters := [.int], returnType := some .int }, accessFlags := 0, code := some k2c3 }
def k2c4 : Code := { maxStack := 3, maxLocals := 2, code := prog_200_method_8_code, exceptionTable := #[], attributes := #[] }
def k2m4 : Method := { name := "end", desc := "(I)I", sig := { parameters := [.int], returnType := some .int }, accessFlags := 0, code := some k2c4 }
def k2c5 : Code := { maxStack := 3, maxLocals := 2, code := prog_200_method_9_code, exceptionTable := #[], attributes := #[] }
def k2m5 : Method := { name := "valueStart", desc := "(I)I", sig := { parameters := [.int], returnType := some .int }, accessFlags := 0, code := some k2c5 }
def k2c6 : Code := { maxStack := 3, maxLocals := 3, code := prog_200_method_10_code, exceptionTable := #[], attributes := #[] }
def k2m6 : Method := { name := "field", desc := "(II)I", sig := { parameters := [.int, .int], returnType := some .int }, accessFlags := 2, code := some k2c6 }
/-- com/example/strict_xquery/strictxquery/xml/EntryTable -/
def k2 : Class := { plain "com/example/strict_xquery/strictxquery/xml/EntryTable" (some 0) with
  accessFlags := 32
  interfaces := #[]
  cf := some (fileOf pool2 1 #[] #[{ accessFlags := 0, nameIndex := 7, descriptorIndex := 8, attributes := #[] }, { accessFlags := 0, nameIndex := 55, descriptorIndex := 56, attributes := #[] }, { accessFlags := 0, nameIndex := 58, descriptorIndex := 59, attributes := #[] }, { accessFlags := 0, nameIndex := 64, descriptorIndex := 62, attributes := #[] }, { accessFlags := 0, nameIndex := 65, descriptorIndex := 62, attributes := #[] }, { accessFlags := 0, nameIndex := 66, descriptorIndex := 62, attributes := #[] }, { accessFlags := 2, nameIndex := 31, descriptorIndex := 32, attributes := #[] }] 32 4 #[] #[{ accessFlags := 24, nameIndex := 33, descriptorIndex := 18, attributes := #[] }, { accessFlags := 26, nameIndex := 36, descriptorIndex := 18, attributes := #[] }, { accessFlags := 26, nameIndex := 38, descriptorIndex := 18, attributes := #[] }, { accessFlags := 26, nameIndex := 40, descriptorIndex := 18, attributes := #[] }, { accessFlags := 26, nameIndex := 42, descriptorIndex := 18, attributes := #[] }, { accessFlags := 26, nameIndex := 44, descriptorIndex := 18, attributes := #[] }, { accessFlags := 26, nameIndex := 46, descriptorIndex := 18, attributes := #[] }, { accessFlags := 26, nameIndex := 48, descriptorIndex := 18, attributes := #[] }, { accessFlags := 26, nameIndex := 50, descriptorIndex := 18, attributes := #[] }, { accessFlags := 26, nameIndex := 52, descriptorIndex := 18, attributes := #[] }, { accessFlags := 2, nameIndex := 13, descriptorIndex := 14, attributes := #[] }, { accessFlags := 2, nameIndex := 17, descriptorIndex := 18, attributes := #[] }])
  fields := #[{ name := "KINDS", type := .int, accessFlags := 24, slot := 0, constantValue := 0 }, { name := "KIND_BITS", type := .int, accessFlags := 26, slot := 1, constantValue := 0 }, { name := "BLOCK_BITS", type := .int, accessFlags := 26, slot := 2, constantValue := 0 }, { name := "BLOCK_MASK", type := .int, accessFlags := 26, slot := 3, constantValue := 0 }, { name := "FIRST_BLOCK_START", type := .int, accessFlags := 26, slot := 4, constantValue := 0 }, { name := "WIDTH", type := .int, accessFlags := 26, slot := 5, constantValue := 0 }, { name := "KIND_AND_NAME", type := .int, accessFlags := 26, slot := 6, constantValue := 0 }, { name := "PARENT", type := .int, accessFlags := 26, slot := 7, constantValue := 0 }, { name := "END", type := .int, accessFlags := 26, slot := 8, constantValue := 0 }, { name := "VALUE_START", type := .int, accessFlags := 26, slot := 9, constantValue := 0 }, { name := "blocks", type := (.array (.array .int)), accessFlags := 2, slot := 0, constantValue := 0 }, { name := "size", type := .int, accessFlags := 2, slot := 1, constantValue := 0 }]
  methods := #[k2m0, k2m1, k2m2, k2m3, k2m4, k2m5, k2m6]
  instanceTypes := #[(.array (.array .int)), .int]
  staticTypes := #[.int, .int, .int, .int, .int, .int, .int, .int, .int, .int]
  resolved := Array.replicate 69 none
  statics := none }

def pool3 : Array CpInfo := pool [(1, u "java/lang/Cloneable"), (0, .class_ 1), (0, u "java/lang/Object"), (0, .class_ 3)] 3

/-- java/lang/Cloneable -/
def k3 : Class := { plain "java/lang/Cloneable" (some 0) with
  accessFlags := 1537
  interfaces := #[]
  cf := some (fileOf pool3 2 #[] #[] 1537 4 #[] #[])
  fields := #[]
  methods := #[]
  instanceTypes := #[]
  staticTypes := #[]
  resolved := Array.replicate 8 none
  statics := none }

def pool4 : Array CpInfo := pool [(1, u "java/io/Serializable"), (0, .class_ 1), (0, u "java/lang/Object"), (0, .class_ 3)] 3

/-- java/io/Serializable -/
def k4 : Class := { plain "java/io/Serializable" (some 0) with
  accessFlags := 1537
  interfaces := #[]
  cf := some (fileOf pool4 2 #[] #[] 1537 4 #[] #[])
  fields := #[]
  methods := #[]
  instanceTypes := #[]
  staticTypes := #[]
  resolved := Array.replicate 8 none
  statics := none }

/-- the primitive byte -/
def k5 : Class := { plain "byte" none with kind := .primitive 'B', accessFlags := 0x411 }
/-- [B -/
def k6 : Class := { plain "[B" (some 0) with kind := .array 5 .byte, interfaces := #[3, 4], accessFlags := 1041 }

/-- the primitive int -/
def k7 : Class := { plain "int" none with kind := .primitive 'I', accessFlags := 0x411 }
/-- [I -/
def k8 : Class := { plain "[I" (some 0) with kind := .array 7 .int, interfaces := #[3, 4], accessFlags := 1041 }
/-- [[I -/
def k9 : Class := { plain "[[I" (some 0) with kind := .array 8 (.array .int), interfaces := #[3, 4], accessFlags := 1041 }

def heap : Heap := #[]
def classes : Array Class := #[k0, k1, k2, k3, k4, k5, k6, k7, k8, k9]
def interned : List (Array UInt16 × Addr) := []
def slotsUsed : Nat := 0
def theMethod : MethodId := ⟨1, 1⟩
def args0 : Array Value := #[.int 1, .int 1, .int 1]
def aboutOver (below : List Frame) : State where
  vm := { classes := classes, interned := interned.toArray }
  heap := heap
  slotsUsed := slotsUsed
  threads := #[{ frames := .invoking theMethod args0 :: below }]
def below0 : List Frame := [.native { method := ⟨0, 0⟩, args := #[] }]
def about1 : State := aboutOver below0
def p0 : Program := .bare "" "" ""
def e0 : Env := launch0.env 0 0 0
theorem w_frames : about1.frames = Frame.invoking theMethod args0 :: below0 := rfl
set_option maxRecDepth 65536 in
theorem w_args : argsFit about1.vm theMethod args0 = true := by decide +kernel
set_option maxRecDepth 65536 in
theorem w_heap : heapFits about1 = true := by decide +kernel
set_option maxRecDepth 65536 in
theorem w_runnable : about1.curStatus? = some .runnable := by decide +kernel
set_option maxRecDepth 65536 in
theorem w_alone : about1.alone = true := by decide +kernel
set_option maxRecDepth 65536 in
theorem w_named : about1.methodNamed? x = some theMethod := by decide +kernel
set_option maxRecDepth 65536 in
theorem w_hears : about1.hears theMethod below0 = true := by decide +kernel
set_option maxRecDepth 65536 in
theorem w_ripe : about1.ripe theMethod args0 below0 = true := by decide +kernel
theorem w_running : about1.status = .running := rfl
set_option maxRecDepth 65536 in
theorem w_room : about1.hasRoom e0.platform room_1 = true :=
  launch0.hasRoom_least _ room_1 (by decide +kernel) (by decide +kernel) (by decide +kernel) (by decide +kernel) (by decide +kernel) (by decide +kernel)
theorem allAtoms_all (ts : List Jvm.Cond) (a : Array Jvm.Value) (st : Jvm.State) : (allAtoms ts).before a st = ts.all (fun c => c.before a st) := by
  induction ts with
  | nil => rfl
  | cons c t ih =>
    show (Jvm.Cond.and c (allAtoms t)).before a st = _
    rw [Jvm.Cond.before_and, ih, List.all_cons]
def words1 : List Jvm.Cond := Jvm.Cond.code x code maxLocals ret :: tables_1
/-- a 'code' word, met by the world's own term for the bytes: nothing is compared byte by byte -/
theorem code_word {y : MethodName} {bytes : ByteArray} {mx : Nat} {rt : Option FieldType} {a : Array Value} {s : State} {m : MethodId} {meth : Method} {c : Code} (h1 : s.methodNamed? y = some m) (h2 : s.vm.method? m = some meth) (h3 : meth.code = some c) (h4 : c.code = bytes)
    (h5 : (c.maxLocals == mx && c.exceptionTable.isEmpty && decide (c.maxStack ≤ mostOperands) && decide (meth.sig.returnType = rt) && !meth.locks && decide (parseMethodDescriptor y.desc = some meth.sig)) = true) : (Jvm.Cond.code y bytes mx rt).before a s = true := by
  simp only [Bool.and_eq_true, beq_iff_eq, Bool.not_eq_true', decide_eq_true_eq] at h5
  obtain ⟨⟨⟨⟨⟨g1, g2⟩, g3⟩, g4⟩, g5⟩, g6⟩ := h5
  simp [Cond.before, Cond.holds, Cond.value, h1, h2, h3, h4, g1, g2, g3, g4, g5, g6]
def isCode : Jvm.Cond → Bool
  | .code _ _ _ _ => true
  | _ => false
theorem all_split {L : List Jvm.Cond} {P : Jvm.Cond → Bool} (h1 : L.all (fun c => isCode c || P c) = true) (h2 : ∀ c ∈ L.filter isCode, P c = true) : L.all P = true := by
  refine List.all_eq_true.mpr fun c hc => ?_
  have h := List.all_eq_true.mp h1 c hc
  rcases Bool.eq_false_or_eq_true (isCode c) with hi | hi
  · exact h2 c (List.mem_filter.mpr ⟨hc, hi⟩)
  · simpa [hi] using h
set_option maxRecDepth 65536 in
theorem w_c0 : (Jvm.Cond.code x code maxLocals ret).before args0 about1 = true := code_word (m := ⟨1, 1⟩) (meth := k1m1) (c := k1c1) (by decide +kernel) rfl rfl rfl (by decide +kernel)
set_option maxRecDepth 65536 in
theorem w_c1 : (Jvm.Cond.code ({ cls := "com/example/strict_xquery/strictxquery/xml/EntryTable", name := "<init>", desc := "()V" } : Jvm.MethodName) prog_200_method_1_code (1 : Nat) (Option.none : Option Jvm.ClassFile.FieldType)).before args0 about1 = true := code_word (m := ⟨2, 0⟩) (meth := k2m0) (c := k2c0) (by decide +kernel) rfl rfl rfl (by decide +kernel)
set_option maxRecDepth 65536 in
theorem w_c2 : (Jvm.Cond.code ({ cls := "java/lang/Object", name := "<init>", desc := "()V" } : Jvm.MethodName) object_method_1_code (1 : Nat) (Option.none : Option Jvm.ClassFile.FieldType)).before args0 about1 = true := code_word (m := ⟨0, 0⟩) (meth := k0m0) (c := k0c0) (by decide +kernel) rfl rfl rfl (by decide +kernel)
set_option maxRecDepth 65536 in
theorem w_c3 : (Jvm.Cond.code ({ cls := "com/example/strict_xquery/strictxquery/xml/EntryTable", name := "add", desc := "(IIII)I" } : Jvm.MethodName) prog_200_method_2_code (8 : Nat) (Option.some Jvm.ClassFile.FieldType.int)).before args0 about1 = true := code_word (m := ⟨2, 1⟩) (meth := k2m1) (c := k2c1) (by decide +kernel) rfl rfl rfl (by decide +kernel)
set_option maxRecDepth 65536 in
theorem w_c4 : (Jvm.Cond.code ({ cls := "com/example/strict_xquery/strictxquery/xml/EntryTable", name := "setEnd", desc := "(II)V" } : Jvm.MethodName) prog_200_method_3_code (3 : Nat) (Option.none : Option Jvm.ClassFile.FieldType)).before args0 about1 = true := code_word (m := ⟨2, 2⟩) (meth := k2m2) (c := k2c2) (by decide +kernel) rfl rfl rfl (by decide +kernel)
set_option maxRecDepth 65536 in
theorem w_c5 : (Jvm.Cond.code ({ cls := "com/example/strict_xquery/strictxquery/xml/EntryTable", name := "end", desc := "(I)I" } : Jvm.MethodName) prog_200_method_8_code (2 : Nat) (Option.some Jvm.ClassFile.FieldType.int)).before args0 about1 = true := code_word (m := ⟨2, 4⟩) (meth := k2m4) (c := k2c4) (by decide +kernel) rfl rfl rfl (by decide +kernel)
set_option maxRecDepth 65536 in
theorem w_c6 : (Jvm.Cond.code ({ cls := "com/example/strict_xquery/strictxquery/xml/EntryTable", name := "field", desc := "(II)I" } : Jvm.MethodName) prog_200_method_10_code (3 : Nat) (Option.some Jvm.ClassFile.FieldType.int)).before args0 about1 = true := code_word (m := ⟨2, 6⟩) (meth := k2m6) (c := k2c6) (by decide +kernel) rfl rfl rfl (by decide +kernel)
set_option maxRecDepth 65536 in
theorem w_c7 : (Jvm.Cond.code ({ cls := "com/example/strict_xquery/strictxquery/xml/EntryTable", name := "parent", desc := "(I)I" } : Jvm.MethodName) prog_200_method_7_code (2 : Nat) (Option.some Jvm.ClassFile.FieldType.int)).before args0 about1 = true := code_word (m := ⟨2, 3⟩) (meth := k2m3) (c := k2c3) (by decide +kernel) rfl rfl rfl (by decide +kernel)
set_option maxRecDepth 65536 in
theorem w_c8 : (Jvm.Cond.code ({ cls := "com/example/strict_xquery/strictxquery/xml/EntryTable", name := "valueStart", desc := "(I)I" } : Jvm.MethodName) prog_200_method_9_code (2 : Nat) (Option.some Jvm.ClassFile.FieldType.int)).before args0 about1 = true := code_word (m := ⟨2, 5⟩) (meth := k2m5) (c := k2c5) (by decide +kernel) rfl rfl rfl (by decide +kernel)
def codes1 : List Jvm.Cond := [Jvm.Cond.code x code maxLocals ret, Jvm.Cond.code ({ cls := "com/example/strict_xquery/strictxquery/xml/EntryTable", name := "<init>", desc := "()V" } : Jvm.MethodName) prog_200_method_1_code (1 : Nat) (Option.none : Option Jvm.ClassFile.FieldType), Jvm.Cond.code ({ cls := "java/lang/Object", name := "<init>", desc := "()V" } : Jvm.MethodName) object_method_1_code (1 : Nat) (Option.none : Option Jvm.ClassFile.FieldType), Jvm.Cond.code ({ cls := "com/example/strict_xquery/strictxquery/xml/EntryTable", name := "add", desc := "(IIII)I" } : Jvm.MethodName) prog_200_method_2_code (8 : Nat) (Option.some Jvm.ClassFile.FieldType.int), Jvm.Cond.code ({ cls := "com/example/strict_xquery/strictxquery/xml/EntryTable", name := "setEnd", desc := "(II)V" } : Jvm.MethodName) prog_200_method_3_code (3 : Nat) (Option.none : Option Jvm.ClassFile.FieldType), Jvm.Cond.code ({ cls := "com/example/strict_xquery/strictxquery/xml/EntryTable", name := "end", desc := "(I)I" } : Jvm.MethodName) prog_200_method_8_code (2 : Nat) (Option.some Jvm.ClassFile.FieldType.int), Jvm.Cond.code ({ cls := "com/example/strict_xquery/strictxquery/xml/EntryTable", name := "field", desc := "(II)I" } : Jvm.MethodName) prog_200_method_10_code (3 : Nat) (Option.some Jvm.ClassFile.FieldType.int), Jvm.Cond.code ({ cls := "com/example/strict_xquery/strictxquery/xml/EntryTable", name := "parent", desc := "(I)I" } : Jvm.MethodName) prog_200_method_7_code (2 : Nat) (Option.some Jvm.ClassFile.FieldType.int), Jvm.Cond.code ({ cls := "com/example/strict_xquery/strictxquery/xml/EntryTable", name := "valueStart", desc := "(I)I" } : Jvm.MethodName) prog_200_method_9_code (2 : Nat) (Option.some Jvm.ClassFile.FieldType.int)]
set_option maxRecDepth 65536 in
theorem codes_eq : words1.filter isCode = codes1 := rfl
theorem w_codes : ∀ c ∈ words1.filter isCode, c.before args0 about1 = true := by
  rw [codes_eq]
  intro c hc
  simp only [codes1, List.mem_cons, List.not_mem_nil, or_false] at hc
  rcases hc with rfl | rfl | rfl | rfl | rfl | rfl | rfl | rfl | rfl
  · exact w_c0
  · exact w_c1
  · exact w_c2
  · exact w_c3
  · exact w_c4
  · exact w_c5
  · exact w_c6
  · exact w_c7
  · exact w_c8
set_option maxRecDepth 65536 in
theorem w_t1 : (words1.take 24).all (fun c => isCode c || c.before args0 about1) = true := by decide +kernel
set_option maxRecDepth 65536 in
theorem w_t2 : (words1.drop 24).all (fun c => isCode c || c.before args0 about1) = true := by decide +kernel
theorem w_tables : (allAtoms (Jvm.Cond.code x code maxLocals ret :: tables_1)).before args0 about1 = true := by
  rw [allAtoms_all]
  show words1.all (fun c => c.before args0 about1) = true
  refine all_split ?_ w_codes
  rw [← List.take_append_drop 24 words1, List.all_append, w_t1, w_t2]
  rfl
set_option maxRecDepth 65536 in
theorem w_case : (Jvm.Cond.and given_1 narrow_1).before args0 about1 = true := by decide +kernel
theorem w_applies : (headSpec (Jvm.Cond.code x code maxLocals ret :: tables_1) room_1).applies x e0.platform about1 = true :=
  (Spec.applies_iff w_frames).mpr ⟨w_running, w_runnable, w_alone, w_named, w_hears, w_ripe, w_room, w_tables⟩
theorem atStart : AtStart classFile x code maxLocals ret World_1 tables_1 room_1 Calls_1 rest_1 Pre_1 launch0 p0 e0 about1 theMethod args0 below0 :=
  ⟨lists_1, trivial, launch0.admits_env _ _ _, launch0.least_env, fairChoices_fair.cas, fairChoices_fair.clock, w_frames, w_args, w_heap, w_applies, trivial, trivial, w_case⟩
end start1
theorem witness_1 : WitnessClaimed_1 := ⟨start1.p0, start1.e0, start1.about1, start1.theMethod, start1.args0, start1.below0, start1.atStart⟩
end Jvm.Pilot.@@N@@
