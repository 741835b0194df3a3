import JvmDerived
import JvmDerived.Pilot.@@N@@Statement
import JvmDerived.Pilot.@@N@@Code
set_option linter.unusedVariables false
set_option linter.unusedSimpArgs false
namespace Jvm.Pilot.@@N@@
open Jvm Jvm.ClassFile Sem Op Lib Jvm.Free Jvm.Stand Jvm.LawKit Jvm.RoadKit Bundle Jvm.Pilot.@@N@@.Jvm.D
section OwnKit
variable {p : Program} {l : Launch} {e : Env} {R : Room} {s : State} {m : MethodId} {args : Array Value} {below : List Frame} {meth : Method} {c : Code} {T : State} {locs : List Loc} {cells slots : Nat} {Z : State} {a0 : Array Value} {h : Heap} {K N : Nat} {Q : Option Value → Heap → List Loc → Prop} {pc nx tg : Nat} {Ls : Array Slot} {st : List Value} {bs : ByteArray} {o : Int}
/-- from the frame g at T the run ends, returning, as Q says -/
def Wp (p : Program) (e : Env) (below : List Frame) (s : State) (K N : Nat) (Q : Option Value → Heap → List Loc → Prop) (T : State) (g : JFrame) : Prop :=
  ∃ s₂ o, Steps p.tables e below (T.setTop g) s₂ ∧ s₂.status = .running ∧ Ended s₂ below o ∧ ∃ v L, o = .returned v ∧ Q v s₂.heap L ∧ FrameEnd s o s₂ L K N
theorem Wp.go {T' : State} {g g' : JFrame} (st : ∀ target, Steps p.tables e below (T'.setTop g') target → Steps p.tables e below (T.setTop g) target) (k : Wp p e below s K N Q T' g') : Wp p e below s K N Q T g := by
  obtain ⟨s₂, o, h1, h2⟩ := k; exact ⟨s₂, o, st _ h1, h2⟩
theorem Wp.tr {T' : State} {g g' : JFrame} (st : Steps p.tables e below (T.setTop g) (T'.setTop g')) (k : Wp p e below s K N Q T' g') : Wp p e below s K N Q T g := by
  obtain ⟨s₂, o, h1, h2⟩ := k; exact ⟨s₂, o, st.trans h1, h2⟩
/-- the instruction i, len bytes long, stands at pc; the next one at nx -/
def In (bs : ByteArray) (pc : Nat) (i : Instr) (len nx : Nat) : Prop := decode bs pc = .ok (i, len) ∧ pc + len = nx
/-- a jump by o: the next one at nx, the target at tg -/
def Jm (bs : ByteArray) (pc : Nat) (i : Instr) (o : Int) (nx tg : Nat) : Prop := decode bs pc = .ok (i, 3) ∧ pc + 3 = nx ∧ 0 ≤ (pc : Int) + o ∧ ((pc : Int) + o).toNat = tg

theorem w_iadd (X : Stand p l e R s m args below meth c T locs cells slots) (hx : p.tables.exec = Jvm.exec) (hby : c.code = bs) {x y : Int32} (hd : In bs pc (.iadd) 1 nx) (k : Wp p e below s K N Q T (mkF m nx Ls (.int (x + y) :: st))) : Wp p e below s K N Q T (mkF m pc Ls (.int y :: .int x :: st)) := by
  obtain ⟨d, rfl⟩ := hd; exact Wp.go (fun t kk => XS.iadd X.here hx rfl (hb hby d) rfl kk) k
theorem w_isub (X : Stand p l e R s m args below meth c T locs cells slots) (hx : p.tables.exec = Jvm.exec) (hby : c.code = bs) {x y : Int32} (hd : In bs pc (.isub) 1 nx) (k : Wp p e below s K N Q T (mkF m nx Ls (.int (x - y) :: st))) : Wp p e below s K N Q T (mkF m pc Ls (.int y :: .int x :: st)) := by
  obtain ⟨d, rfl⟩ := hd; exact Wp.go (fun t kk => XS.isub X.here hx rfl (hb hby d) rfl kk) k
theorem w_iand (X : Stand p l e R s m args below meth c T locs cells slots) (hx : p.tables.exec = Jvm.exec) (hby : c.code = bs) {x y : Int32} (hd : In bs pc (.iand) 1 nx) (k : Wp p e below s K N Q T (mkF m nx Ls (.int (x &&& y) :: st))) : Wp p e below s K N Q T (mkF m pc Ls (.int y :: .int x :: st)) := by
  obtain ⟨d, rfl⟩ := hd; exact Wp.go (fun t kk => XS.iand X.here hx rfl (hb hby d) rfl kk) k
theorem w_imul (X : Stand p l e R s m args below meth c T locs cells slots) (hx : p.tables.exec = Jvm.exec) (hby : c.code = bs) {x y : Int32} (hd : In bs pc (.imul) 1 nx) (k : Wp p e below s K N Q T (mkF m nx Ls (.int (x * y) :: st))) : Wp p e below s K N Q T (mkF m pc Ls (.int y :: .int x :: st)) := by
  obtain ⟨d, rfl⟩ := hd; exact Wp.go (fun t kk => XS.imul X.here hx rfl (hb hby d) rfl kk) k
theorem w_ior (X : Stand p l e R s m args below meth c T locs cells slots) (hx : p.tables.exec = Jvm.exec) (hby : c.code = bs) {x y : Int32} (hd : In bs pc (.ior) 1 nx) (k : Wp p e below s K N Q T (mkF m nx Ls (.int (x ||| y) :: st))) : Wp p e below s K N Q T (mkF m pc Ls (.int y :: .int x :: st)) := by
  obtain ⟨d, rfl⟩ := hd; exact Wp.go (fun t kk => XS.ior X.here hx rfl (hb hby d) rfl kk) k
theorem w_ixor (X : Stand p l e R s m args below meth c T locs cells slots) (hx : p.tables.exec = Jvm.exec) (hby : c.code = bs) {x y : Int32} (hd : In bs pc (.ixor) 1 nx) (k : Wp p e below s K N Q T (mkF m nx Ls (.int (x ^^^ y) :: st))) : Wp p e below s K N Q T (mkF m pc Ls (.int y :: .int x :: st)) := by
  obtain ⟨d, rfl⟩ := hd; exact Wp.go (fun t kk => XS.ixor X.here hx rfl (hb hby d) rfl kk) k
theorem w_ishl (X : Stand p l e R s m args below meth c T locs cells slots) (hx : p.tables.exec = Jvm.exec) (hby : c.code = bs) {x y : Int32} (hd : In bs pc (.ishl) 1 nx) (k : Wp p e below s K N Q T (mkF m nx Ls (.int (x <<< (y &&& 31)) :: st))) : Wp p e below s K N Q T (mkF m pc Ls (.int y :: .int x :: st)) := by
  obtain ⟨d, rfl⟩ := hd; exact Wp.go (fun t kk => XS.ishl X.here hx rfl (hb hby d) rfl kk) k
theorem w_ishr (X : Stand p l e R s m args below meth c T locs cells slots) (hx : p.tables.exec = Jvm.exec) (hby : c.code = bs) {x y : Int32} (hd : In bs pc (.ishr) 1 nx) (k : Wp p e below s K N Q T (mkF m nx Ls (.int (x >>> (y &&& 31)) :: st))) : Wp p e below s K N Q T (mkF m pc Ls (.int y :: .int x :: st)) := by
  obtain ⟨d, rfl⟩ := hd; exact Wp.go (fun t kk => XS.ishr X.here hx rfl (hb hby d) rfl kk) k
theorem w_iushr (X : Stand p l e R s m args below meth c T locs cells slots) (hx : p.tables.exec = Jvm.exec) (hby : c.code = bs) {x y : Int32} (hd : In bs pc (.iushr) 1 nx) (k : Wp p e below s K N Q T (mkF m nx Ls (.int ((x.toUInt32 >>> (y &&& 31).toUInt32).toInt32) :: st))) : Wp p e below s K N Q T (mkF m pc Ls (.int y :: .int x :: st)) := by
  obtain ⟨d, rfl⟩ := hd; exact Wp.go (fun t kk => XS.iushr X.here hx rfl (hb hby d) rfl kk) k
theorem w_ladd (X : Stand p l e R s m args below meth c T locs cells slots) (hx : p.tables.exec = Jvm.exec) (hby : c.code = bs) {x y : Int64} (hd : In bs pc (.ladd) 1 nx) (k : Wp p e below s K N Q T (mkF m nx Ls (.long (x + y) :: st))) : Wp p e below s K N Q T (mkF m pc Ls (.long y :: .long x :: st)) := by
  obtain ⟨d, rfl⟩ := hd; exact Wp.go (fun t kk => XS.ladd X.here hx rfl (hb hby d) rfl kk) k
theorem w_lsub (X : Stand p l e R s m args below meth c T locs cells slots) (hx : p.tables.exec = Jvm.exec) (hby : c.code = bs) {x y : Int64} (hd : In bs pc (.lsub) 1 nx) (k : Wp p e below s K N Q T (mkF m nx Ls (.long (x - y) :: st))) : Wp p e below s K N Q T (mkF m pc Ls (.long y :: .long x :: st)) := by
  obtain ⟨d, rfl⟩ := hd; exact Wp.go (fun t kk => XS.lsub X.here hx rfl (hb hby d) rfl kk) k
theorem w_land (X : Stand p l e R s m args below meth c T locs cells slots) (hx : p.tables.exec = Jvm.exec) (hby : c.code = bs) {x y : Int64} (hd : In bs pc (.land) 1 nx) (k : Wp p e below s K N Q T (mkF m nx Ls (.long (x &&& y) :: st))) : Wp p e below s K N Q T (mkF m pc Ls (.long y :: .long x :: st)) := by
  obtain ⟨d, rfl⟩ := hd; exact Wp.go (fun t kk => XS.land X.here hx rfl (hb hby d) rfl kk) k
theorem w_lmul (X : Stand p l e R s m args below meth c T locs cells slots) (hx : p.tables.exec = Jvm.exec) (hby : c.code = bs) {x y : Int64} (hd : In bs pc (.lmul) 1 nx) (k : Wp p e below s K N Q T (mkF m nx Ls (.long (x * y) :: st))) : Wp p e below s K N Q T (mkF m pc Ls (.long y :: .long x :: st)) := by
  obtain ⟨d, rfl⟩ := hd; exact Wp.go (fun t kk => XS.lmul X.here hx rfl (hb hby d) rfl kk) k
theorem w_lor (X : Stand p l e R s m args below meth c T locs cells slots) (hx : p.tables.exec = Jvm.exec) (hby : c.code = bs) {x y : Int64} (hd : In bs pc (.lor) 1 nx) (k : Wp p e below s K N Q T (mkF m nx Ls (.long (x ||| y) :: st))) : Wp p e below s K N Q T (mkF m pc Ls (.long y :: .long x :: st)) := by
  obtain ⟨d, rfl⟩ := hd; exact Wp.go (fun t kk => XS.lor X.here hx rfl (hb hby d) rfl kk) k
theorem w_lxor (X : Stand p l e R s m args below meth c T locs cells slots) (hx : p.tables.exec = Jvm.exec) (hby : c.code = bs) {x y : Int64} (hd : In bs pc (.lxor) 1 nx) (k : Wp p e below s K N Q T (mkF m nx Ls (.long (x ^^^ y) :: st))) : Wp p e below s K N Q T (mkF m pc Ls (.long y :: .long x :: st)) := by
  obtain ⟨d, rfl⟩ := hd; exact Wp.go (fun t kk => XS.lxor X.here hx rfl (hb hby d) rfl kk) k
theorem w_lshl (X : Stand p l e R s m args below meth c T locs cells slots) (hx : p.tables.exec = Jvm.exec) (hby : c.code = bs) {x : Int64} {y : Int32} (hd : In bs pc (.lshl) 1 nx) (k : Wp p e below s K N Q T (mkF m nx Ls (.long (x <<< (y &&& 0x3f).toInt64) :: st))) : Wp p e below s K N Q T (mkF m pc Ls (.int y :: .long x :: st)) := by
  obtain ⟨d, rfl⟩ := hd; exact Wp.go (fun t kk => XS.lshl X.here hx rfl (hb hby d) rfl kk) k
theorem w_lshr (X : Stand p l e R s m args below meth c T locs cells slots) (hx : p.tables.exec = Jvm.exec) (hby : c.code = bs) {x : Int64} {y : Int32} (hd : In bs pc (.lshr) 1 nx) (k : Wp p e below s K N Q T (mkF m nx Ls (.long (x >>> (y &&& 0x3f).toInt64) :: st))) : Wp p e below s K N Q T (mkF m pc Ls (.int y :: .long x :: st)) := by
  obtain ⟨d, rfl⟩ := hd; exact Wp.go (fun t kk => XS.lshr X.here hx rfl (hb hby d) rfl kk) k
theorem w_lushr (X : Stand p l e R s m args below meth c T locs cells slots) (hx : p.tables.exec = Jvm.exec) (hby : c.code = bs) {x : Int64} {y : Int32} (hd : In bs pc (.lushr) 1 nx) (k : Wp p e below s K N Q T (mkF m nx Ls (.long ((x.toUInt64 >>> (y &&& 0x3f).toInt64.toUInt64).toInt64) :: st))) : Wp p e below s K N Q T (mkF m pc Ls (.int y :: .long x :: st)) := by
  obtain ⟨d, rfl⟩ := hd; exact Wp.go (fun t kk => XS.lushr X.here hx rfl (hb hby d) rfl kk) k
theorem w_i2b (X : Stand p l e R s m args below meth c T locs cells slots) (hx : p.tables.exec = Jvm.exec) (hby : c.code = bs) {x : Int32} (hd : In bs pc (.i2b) 1 nx) (k : Wp p e below s K N Q T (mkF m nx Ls (.int (x.toInt8.toInt32) :: st))) : Wp p e below s K N Q T (mkF m pc Ls (.int x :: st)) := by
  obtain ⟨d, rfl⟩ := hd; exact Wp.go (fun t kk => XS.i2b X.here hx rfl (hb hby d) rfl kk) k
theorem w_i2c (X : Stand p l e R s m args below meth c T locs cells slots) (hx : p.tables.exec = Jvm.exec) (hby : c.code = bs) {x : Int32} (hd : In bs pc (.i2c) 1 nx) (k : Wp p e below s K N Q T (mkF m nx Ls (.int (x.toUInt32.toUInt16.toUInt32.toInt32) :: st))) : Wp p e below s K N Q T (mkF m pc Ls (.int x :: st)) := by
  obtain ⟨d, rfl⟩ := hd; exact Wp.go (fun t kk => XS.i2c X.here hx rfl (hb hby d) rfl kk) k
theorem w_i2s (X : Stand p l e R s m args below meth c T locs cells slots) (hx : p.tables.exec = Jvm.exec) (hby : c.code = bs) {x : Int32} (hd : In bs pc (.i2s) 1 nx) (k : Wp p e below s K N Q T (mkF m nx Ls (.int (x.toInt16.toInt32) :: st))) : Wp p e below s K N Q T (mkF m pc Ls (.int x :: st)) := by
  obtain ⟨d, rfl⟩ := hd; exact Wp.go (fun t kk => XS.i2s X.here hx rfl (hb hby d) rfl kk) k
theorem w_ineg (X : Stand p l e R s m args below meth c T locs cells slots) (hx : p.tables.exec = Jvm.exec) (hby : c.code = bs) {x : Int32} (hd : In bs pc (.ineg) 1 nx) (k : Wp p e below s K N Q T (mkF m nx Ls (.int (-x) :: st))) : Wp p e below s K N Q T (mkF m pc Ls (.int x :: st)) := by
  obtain ⟨d, rfl⟩ := hd; exact Wp.go (fun t kk => XS.ineg X.here hx rfl (hb hby d) rfl kk) k
theorem w_i2l (X : Stand p l e R s m args below meth c T locs cells slots) (hx : p.tables.exec = Jvm.exec) (hby : c.code = bs) {x : Int32} (hd : In bs pc (.i2l) 1 nx) (k : Wp p e below s K N Q T (mkF m nx Ls (.long x.toInt64 :: st))) : Wp p e below s K N Q T (mkF m pc Ls (.int x :: st)) := by
  obtain ⟨d, rfl⟩ := hd; exact Wp.go (fun t kk => XS.i2l X.here hx rfl (hb hby d) rfl kk) k
theorem w_l2i (X : Stand p l e R s m args below meth c T locs cells slots) (hx : p.tables.exec = Jvm.exec) (hby : c.code = bs) {x : Int64} (hd : In bs pc (.l2i) 1 nx) (k : Wp p e below s K N Q T (mkF m nx Ls (.int x.toInt32 :: st))) : Wp p e below s K N Q T (mkF m pc Ls (.long x :: st)) := by
  obtain ⟨d, rfl⟩ := hd; exact Wp.go (fun t kk => XS.l2i X.here hx rfl (hb hby d) rfl kk) k
theorem w_lneg (X : Stand p l e R s m args below meth c T locs cells slots) (hx : p.tables.exec = Jvm.exec) (hby : c.code = bs) {x : Int64} (hd : In bs pc (.lneg) 1 nx) (k : Wp p e below s K N Q T (mkF m nx Ls (.long (-x) :: st))) : Wp p e below s K N Q T (mkF m pc Ls (.long x :: st)) := by
  obtain ⟨d, rfl⟩ := hd; exact Wp.go (fun t kk => XS.lneg X.here hx rfl (hb hby d) rfl kk) k
theorem w_idiv (X : Stand p l e R s m args below meth c T locs cells slots) (hx : p.tables.exec = Jvm.exec) (hby : c.code = bs) {x y : Int32} (hd : In bs pc (.idiv) 1 nx) (hy : y ≠ 0) (k : Wp p e below s K N Q T (mkF m nx Ls (.int (x / y) :: st))) : Wp p e below s K N Q T (mkF m pc Ls (.int y :: .int x :: st)) := by
  obtain ⟨d, rfl⟩ := hd; exact Wp.go (fun t kk => XS.idiv X.here hx rfl (hb hby d) rfl hy kk) k
theorem w_irem (X : Stand p l e R s m args below meth c T locs cells slots) (hx : p.tables.exec = Jvm.exec) (hby : c.code = bs) {x y : Int32} (hd : In bs pc .irem 1 nx) (hy : y ≠ 0) (k : Wp p e below s K N Q T (mkF m nx Ls (.int (x % y) :: st))) : Wp p e below s K N Q T (mkF m pc Ls (.int y :: .int x :: st)) := by
  obtain ⟨d, rfl⟩ := hd; exact Wp.go (fun t kk => iremM X hx rfl (hb hby d) rfl hy kk) k
theorem w_ldiv (X : Stand p l e R s m args below meth c T locs cells slots) (hx : p.tables.exec = Jvm.exec) (hby : c.code = bs) {x y : Int64} (hd : In bs pc (.ldiv) 1 nx) (hy : y ≠ 0) (k : Wp p e below s K N Q T (mkF m nx Ls (.long (x / y) :: st))) : Wp p e below s K N Q T (mkF m pc Ls (.long y :: .long x :: st)) := by
  obtain ⟨d, rfl⟩ := hd; exact Wp.go (fun t kk => XS.ldiv X.here hx rfl (hb hby d) rfl hy kk) k
theorem w_lrem (X : Stand p l e R s m args below meth c T locs cells slots) (hx : p.tables.exec = Jvm.exec) (hby : c.code = bs) {x y : Int64} (hd : In bs pc .lrem 1 nx) (hy : y ≠ 0) (k : Wp p e below s K N Q T (mkF m nx Ls (.long (x % y) :: st))) : Wp p e below s K N Q T (mkF m pc Ls (.long y :: .long x :: st)) := by
  obtain ⟨d, rfl⟩ := hd; refine Wp.go (fun t kk => XS.lrem X.here hx rfl (hb hby d) rfl hy kk) ?_; rw [lrem_mod]; exact k
theorem w_aconst_null (X : Stand p l e R s m args below meth c T locs cells slots) (hx : p.tables.exec = Jvm.exec) (hby : c.code = bs)  (hd : In bs pc (.aconst_null) 1 nx) (k : Wp p e below s K N Q T (mkF m nx Ls (.null :: st))) : Wp p e below s K N Q T (mkF m pc Ls (st)) := by
  obtain ⟨d, rfl⟩ := hd; exact Wp.go (fun t kk => XS.aconstNull X.here hx rfl (hb hby d) kk) k
theorem w_dup (X : Stand p l e R s m args below meth c T locs cells slots) (hx : p.tables.exec = Jvm.exec) (hby : c.code = bs) {x : Value} (hd : In bs pc (.dup) 1 nx) (hc : x.category = 1) (k : Wp p e below s K N Q T (mkF m nx Ls (x :: x :: st))) : Wp p e below s K N Q T (mkF m pc Ls (x :: st)) := by
  obtain ⟨d, rfl⟩ := hd; exact Wp.go (fun t kk => XS.dup X.here hx rfl (hb hby d) rfl hc kk) k
theorem w_dup_x1 (X : Stand p l e R s m args below meth c T locs cells slots) (hx : p.tables.exec = Jvm.exec) (hby : c.code = bs) {x y : Value} (hd : In bs pc (.dup_x1) 1 nx) (hc : x.category = 1) (hc2 : y.category = 1) (k : Wp p e below s K N Q T (mkF m nx Ls (x :: y :: x :: st))) : Wp p e below s K N Q T (mkF m pc Ls (x :: y :: st)) := by
  obtain ⟨d, rfl⟩ := hd; exact Wp.go (fun t kk => XS.dupX1 X.here hx rfl (hb hby d) rfl hc hc2 kk) k
theorem w_dup2 (X : Stand p l e R s m args below meth c T locs cells slots) (hx : p.tables.exec = Jvm.exec) (hby : c.code = bs) {x y : Value} (hd : In bs pc (.dup2) 1 nx) (hc : x.category = 1) (hc2 : y.category = 1) (k : Wp p e below s K N Q T (mkF m nx Ls (x :: y :: x :: y :: st))) : Wp p e below s K N Q T (mkF m pc Ls (x :: y :: st)) := by
  obtain ⟨d, rfl⟩ := hd; exact Wp.go (fun t kk => XT.dup2 X.here hx rfl (hb hby d) rfl hc hc2 kk) k
theorem w_dup2L (X : Stand p l e R s m args below meth c T locs cells slots) (hx : p.tables.exec = Jvm.exec) (hby : c.code = bs) {x : Int64} (hd : In bs pc (.dup2) 1 nx) (k : Wp p e below s K N Q T (mkF m nx Ls (.long x :: .long x :: st))) : Wp p e below s K N Q T (mkF m pc Ls (.long x :: st)) := by
  obtain ⟨d, rfl⟩ := hd; exact Wp.go (fun t kk => XT.dup2L X.here hx rfl (hb hby d) rfl kk) k
theorem w_pop (X : Stand p l e R s m args below meth c T locs cells slots) (hx : p.tables.exec = Jvm.exec) (hby : c.code = bs) {x : Value} (hd : In bs pc (.pop) 1 nx) (hc : x.category = 1) (k : Wp p e below s K N Q T (mkF m nx Ls (st))) : Wp p e below s K N Q T (mkF m pc Ls (x :: st)) := by
  obtain ⟨d, rfl⟩ := hd; exact Wp.go (fun t kk => XS.pop X.here hx rfl (hb hby d) rfl hc kk) k
theorem w_iconst (X : Stand p l e R s m args below meth c T locs cells slots) (hx : p.tables.exec = Jvm.exec) (hby : c.code = bs) {i : Int} (v : Int32) (hd : In bs pc (.iconst i) 1 nx) (hv : Int32.ofInt i = v) (k : Wp p e below s K N Q T (mkF m nx Ls (.int v :: st))) : Wp p e below s K N Q T (mkF m pc Ls (st)) := by
  obtain ⟨d, rfl⟩ := hd; exact Wp.go (fun t kk => XT.iconstV X.here hx rfl v (hb hby d) hv kk) k
theorem w_bipush (X : Stand p l e R s m args below meth c T locs cells slots) (hx : p.tables.exec = Jvm.exec) (hby : c.code = bs) {i : Int} (v : Int32) (hd : In bs pc (.bipush i) 2 nx) (hv : (Int8.ofInt i).toInt32 = v) (k : Wp p e below s K N Q T (mkF m nx Ls (.int v :: st))) : Wp p e below s K N Q T (mkF m pc Ls (st)) := by
  obtain ⟨d, rfl⟩ := hd; exact Wp.go (fun t kk => XT.bipushV X.here hx rfl v (hb hby d) hv kk) k
theorem w_sipush (X : Stand p l e R s m args below meth c T locs cells slots) (hx : p.tables.exec = Jvm.exec) (hby : c.code = bs) {i : Int} (v : Int32) (hd : In bs pc (.sipush i) 3 nx) (hv : (Int16.ofInt i).toInt32 = v) (k : Wp p e below s K N Q T (mkF m nx Ls (.int v :: st))) : Wp p e below s K N Q T (mkF m pc Ls (st)) := by
  obtain ⟨d, rfl⟩ := hd; exact Wp.go (fun t kk => XT.sipushV X.here hx rfl v (hb hby d) hv kk) k
theorem w_lconst (X : Stand p l e R s m args below meth c T locs cells slots) (hx : p.tables.exec = Jvm.exec) (hby : c.code = bs) {i : Fin 2} (v : Int64) (hd : In bs pc (.lconst i) 1 nx) (hv : Int64.ofNat i = v) (k : Wp p e below s K N Q T (mkF m nx Ls (.long v :: st))) : Wp p e below s K N Q T (mkF m pc Ls (st)) := by
  obtain ⟨d, rfl⟩ := hd; exact Wp.go (fun t kk => XT.lconstV X.here hx rfl v (hb hby d) hv kk) k
theorem w_iloadN (X : Stand p l e R s m args below meth c T locs cells slots) (hx : p.tables.exec = Jvm.exec) (hby : c.code = bs) {i : Fin 4} {v : Int32} (hd : In bs pc (.iload_n i) 1 nx) (hl : Ls[i.val]? = some (.val (.int v))) (k : Wp p e below s K N Q T (mkF m nx Ls (.int v :: st))) : Wp p e below s K N Q T (mkF m pc Ls (st)) := by
  obtain ⟨d, rfl⟩ := hd; exact Wp.go (fun t kk => XS.iloadN X.here hx rfl (hb hby d) hl kk) k
theorem w_lloadN (X : Stand p l e R s m args below meth c T locs cells slots) (hx : p.tables.exec = Jvm.exec) (hby : c.code = bs) {i : Fin 4} {v : Int64} (hd : In bs pc (.lload_n i) 1 nx) (hl : Ls[i.val]? = some (.val (.long v))) (k : Wp p e below s K N Q T (mkF m nx Ls (.long v :: st))) : Wp p e below s K N Q T (mkF m pc Ls (st)) := by
  obtain ⟨d, rfl⟩ := hd; exact Wp.go (fun t kk => XS.lloadN X.here hx rfl (hb hby d) hl kk) k
theorem w_aloadN (X : Stand p l e R s m args below meth c T locs cells slots) (hx : p.tables.exec = Jvm.exec) (hby : c.code = bs) {i : Fin 4} {v : Value} (hd : In bs pc (.aload_n i) 1 nx) (hl : Ls[i.val]? = some (.val v)) (hv : v.isRef = true) (k : Wp p e below s K N Q T (mkF m nx Ls (v :: st))) : Wp p e below s K N Q T (mkF m pc Ls (st)) := by
  obtain ⟨d, rfl⟩ := hd; exact Wp.go (fun t kk => XS.aloadN X.here hx rfl (hb hby d) hl hv kk) k
theorem w_istoreN (X : Stand p l e R s m args below meth c T locs cells slots) (hx : p.tables.exec = Jvm.exec) (hby : c.code = bs) {i : Fin 4} {v : Int32} (l' : Array Slot) (hd : In bs pc (.istore_n i) 1 nx) (hl : storeLocals Ls i.val (.int v) = some l') (k : Wp p e below s K N Q T (mkF m nx l' (st))) : Wp p e below s K N Q T (mkF m pc Ls (.int v :: st)) := by
  obtain ⟨d, rfl⟩ := hd; exact Wp.go (fun t kk => XS.istoreN X.here hx rfl (hb hby d) rfl hl kk) k
theorem w_lstoreN (X : Stand p l e R s m args below meth c T locs cells slots) (hx : p.tables.exec = Jvm.exec) (hby : c.code = bs) {i : Fin 4} {v : Int64} (l' : Array Slot) (hd : In bs pc (.lstore_n i) 1 nx) (hl : storeLocals Ls i.val (.long v) = some l') (k : Wp p e below s K N Q T (mkF m nx l' (st))) : Wp p e below s K N Q T (mkF m pc Ls (.long v :: st)) := by
  obtain ⟨d, rfl⟩ := hd; exact Wp.go (fun t kk => XS.lstoreN X.here hx rfl (hb hby d) rfl hl kk) k
theorem w_astoreN (X : Stand p l e R s m args below meth c T locs cells slots) (hx : p.tables.exec = Jvm.exec) (hby : c.code = bs) {i : Fin 4} {v : Value} (l' : Array Slot) (hd : In bs pc (.astore_n i) 1 nx) (hv : v.isRef = true) (hl : storeLocals Ls i.val v = some l') (k : Wp p e below s K N Q T (mkF m nx l' (st))) : Wp p e below s K N Q T (mkF m pc Ls (v :: st)) := by
  obtain ⟨d, rfl⟩ := hd; exact Wp.go (fun t kk => XS.astoreN X.here hx rfl (hb hby d) rfl hv hl kk) k
theorem w_iload (X : Stand p l e R s m args below meth c T locs cells slots) (hx : p.tables.exec = Jvm.exec) (hby : c.code = bs) {i : Nat} {v : Int32} (hd : In bs pc (.iload i) 2 nx) (hl : Ls[i]? = some (.val (.int v))) (k : Wp p e below s K N Q T (mkF m nx Ls (.int v :: st))) : Wp p e below s K N Q T (mkF m pc Ls (st)) := by
  obtain ⟨d, rfl⟩ := hd; exact Wp.go (fun t kk => XS.iload X.here hx rfl (hb hby d) hl kk) k
theorem w_lload (X : Stand p l e R s m args below meth c T locs cells slots) (hx : p.tables.exec = Jvm.exec) (hby : c.code = bs) {i : Nat} {v : Int64} (hd : In bs pc (.lload i) 2 nx) (hl : Ls[i]? = some (.val (.long v))) (k : Wp p e below s K N Q T (mkF m nx Ls (.long v :: st))) : Wp p e below s K N Q T (mkF m pc Ls (st)) := by
  obtain ⟨d, rfl⟩ := hd; exact Wp.go (fun t kk => XS.lload X.here hx rfl (hb hby d) hl kk) k
theorem w_aload (X : Stand p l e R s m args below meth c T locs cells slots) (hx : p.tables.exec = Jvm.exec) (hby : c.code = bs) {i : Nat} {v : Value} (hd : In bs pc (.aload i) 2 nx) (hl : Ls[i]? = some (.val v)) (hv : v.isRef = true) (k : Wp p e below s K N Q T (mkF m nx Ls (v :: st))) : Wp p e below s K N Q T (mkF m pc Ls (st)) := by
  obtain ⟨d, rfl⟩ := hd; exact Wp.go (fun t kk => XS.aload X.here hx rfl (hb hby d) hl hv kk) k
theorem w_istore (X : Stand p l e R s m args below meth c T locs cells slots) (hx : p.tables.exec = Jvm.exec) (hby : c.code = bs) {i : Nat} {v : Int32} (l' : Array Slot) (hd : In bs pc (.istore i) 2 nx) (hl : storeLocals Ls i (.int v) = some l') (k : Wp p e below s K N Q T (mkF m nx l' (st))) : Wp p e below s K N Q T (mkF m pc Ls (.int v :: st)) := by
  obtain ⟨d, rfl⟩ := hd; exact Wp.go (fun t kk => XS.istore X.here hx rfl (hb hby d) rfl hl kk) k
theorem w_lstore (X : Stand p l e R s m args below meth c T locs cells slots) (hx : p.tables.exec = Jvm.exec) (hby : c.code = bs) {i : Nat} {v : Int64} (l' : Array Slot) (hd : In bs pc (.lstore i) 2 nx) (hl : storeLocals Ls i (.long v) = some l') (k : Wp p e below s K N Q T (mkF m nx l' (st))) : Wp p e below s K N Q T (mkF m pc Ls (.long v :: st)) := by
  obtain ⟨d, rfl⟩ := hd; exact Wp.go (fun t kk => XS.lstore X.here hx rfl (hb hby d) rfl hl kk) k
theorem w_astore (X : Stand p l e R s m args below meth c T locs cells slots) (hx : p.tables.exec = Jvm.exec) (hby : c.code = bs) {i : Nat} {v : Value} (l' : Array Slot) (hd : In bs pc (.astore i) 2 nx) (hv : v.isRef = true) (hl : storeLocals Ls i v = some l') (k : Wp p e below s K N Q T (mkF m nx l' (st))) : Wp p e below s K N Q T (mkF m pc Ls (v :: st)) := by
  obtain ⟨d, rfl⟩ := hd; exact Wp.go (fun t kk => XS.astore X.here hx rfl (hb hby d) rfl hv hl kk) k
theorem w_iinc (X : Stand p l e R s m args below meth c T locs cells slots) (hx : p.tables.exec = Jvm.exec) (hby : c.code = bs) {i : Nat} {cst : Int} {x : Int32} (v : Int32) (l' : Array Slot) (hd : In bs pc (.iinc i cst) 3 nx) (hv : Int32.ofInt cst = v) (hl : Ls[i]? = some (.val (.int x))) (hl' : storeLocals Ls i (.int (x + v)) = some l') (k : Wp p e below s K N Q T (mkF m nx l' st)) : Wp p e below s K N Q T (mkF m pc Ls st) := by
  obtain ⟨d, rfl⟩ := hd; exact Wp.go (fun t kk => XT.iincV X.here hx rfl v (hb hby d) hv hl hl' kk) k
theorem w_goto (X : Stand p l e R s m args below meth c T locs cells slots) (hx : p.tables.exec = Jvm.exec) (hby : c.code = bs) (hd : Jm bs pc (.goto o) o nx tg) (k : Wp p e below s K N Q T (mkF m tg Ls st)) : Wp p e below s K N Q T (mkF m pc Ls st) := by
  obtain ⟨d, -, q1, q2⟩ := hd; exact Wp.go (fun t kk => XS.goto X.here hx rfl rfl (hb hby d) q1 q2 kk) k
theorem f_icmp_eq (X : Stand p l e R s m args below meth c T locs cells slots) (hx : p.tables.exec = Jvm.exec) (hby : c.code = bs) {x y : Int32} (hd : Jm bs pc (.if_icmp .eq o) o nx tg) (kt : x = y → Wp p e below s K N Q T (mkF m tg Ls st)) (kf : ¬ x = y → Wp p e below s K N Q T (mkF m nx Ls st)) : Wp p e below s K N Q T (mkF m pc Ls (.int y :: .int x :: st)) := by
  obtain ⟨d, rfl, q1, q2⟩ := hd
  by_cases q : x = y
  · exact Wp.go (fun t kk => XS.icmpYes X.here hx rfl rfl (hb hby d) rfl (XT.ii_eq_t q) q1 q2 kk) (kt q)
  · exact Wp.go (fun t kk => XS.icmpNo X.here hx rfl (hb hby d) rfl (XT.ii_eq_f q) kk) (kf q)
theorem f_if_eq (X : Stand p l e R s m args below meth c T locs cells slots) (hx : p.tables.exec = Jvm.exec) (hby : c.code = bs) {x : Int32} (hd : Jm bs pc (.ifCond .eq o) o nx tg) (kt : x = 0 → Wp p e below s K N Q T (mkF m tg Ls st)) (kf : ¬ x = 0 → Wp p e below s K N Q T (mkF m nx Ls st)) : Wp p e below s K N Q T (mkF m pc Ls (.int x :: st)) := by
  obtain ⟨d, rfl, q1, q2⟩ := hd
  by_cases q : x = 0
  · exact Wp.go (fun t kk => XS.ifYes X.here hx rfl rfl (hb hby d) rfl (XT.i0_eq_t q) q1 q2 kk) (kt q)
  · exact Wp.go (fun t kk => XS.ifNo X.here hx rfl (hb hby d) rfl (XT.i0_eq_f q) kk) (kf q)
theorem f_lcmp_eq (X : Stand p l e R s m args below meth c T locs cells slots) (hx : p.tables.exec = Jvm.exec) (hby : c.code = bs) {x y : Int64} {n1 : Nat} (hc : In bs pc .lcmp 1 n1) (hd : Jm bs n1 (.ifCond .eq o) o nx tg) (kt : x = y → Wp p e below s K N Q T (mkF m tg Ls st)) (kf : ¬ x = y → Wp p e below s K N Q T (mkF m nx Ls st)) : Wp p e below s K N Q T (mkF m pc Ls (.long y :: .long x :: st)) := by
  obtain ⟨d1, rfl⟩ := hc; obtain ⟨d, rfl, q1, q2⟩ := hd
  refine Wp.go (fun t kk => XT.lcmp X.here hx rfl (hb hby d1) rfl kk) ?_
  by_cases q : x = y
  · exact Wp.go (fun t kk => XS.ifYes X.here hx rfl rfl (hb hby d) rfl (XT.ll_eq_t q) q1 q2 kk) (kt q)
  · exact Wp.go (fun t kk => XS.ifNo X.here hx rfl (hb hby d) rfl (XT.ll_eq_f q) kk) (kf q)
theorem f_icmp_ne (X : Stand p l e R s m args below meth c T locs cells slots) (hx : p.tables.exec = Jvm.exec) (hby : c.code = bs) {x y : Int32} (hd : Jm bs pc (.if_icmp .ne o) o nx tg) (kt : ¬ x = y → Wp p e below s K N Q T (mkF m tg Ls st)) (kf : x = y → Wp p e below s K N Q T (mkF m nx Ls st)) : Wp p e below s K N Q T (mkF m pc Ls (.int y :: .int x :: st)) := by
  obtain ⟨d, rfl, q1, q2⟩ := hd
  by_cases q : x = y
  · exact Wp.go (fun t kk => XS.icmpNo X.here hx rfl (hb hby d) rfl (XT.ii_ne_f q) kk) (kf q)
  · exact Wp.go (fun t kk => XS.icmpYes X.here hx rfl rfl (hb hby d) rfl (XT.ii_ne_t q) q1 q2 kk) (kt q)
theorem f_if_ne (X : Stand p l e R s m args below meth c T locs cells slots) (hx : p.tables.exec = Jvm.exec) (hby : c.code = bs) {x : Int32} (hd : Jm bs pc (.ifCond .ne o) o nx tg) (kt : ¬ x = 0 → Wp p e below s K N Q T (mkF m tg Ls st)) (kf : x = 0 → Wp p e below s K N Q T (mkF m nx Ls st)) : Wp p e below s K N Q T (mkF m pc Ls (.int x :: st)) := by
  obtain ⟨d, rfl, q1, q2⟩ := hd
  by_cases q : x = 0
  · exact Wp.go (fun t kk => XS.ifNo X.here hx rfl (hb hby d) rfl (XT.i0_ne_f q) kk) (kf q)
  · exact Wp.go (fun t kk => XS.ifYes X.here hx rfl rfl (hb hby d) rfl (XT.i0_ne_t q) q1 q2 kk) (kt q)
theorem f_lcmp_ne (X : Stand p l e R s m args below meth c T locs cells slots) (hx : p.tables.exec = Jvm.exec) (hby : c.code = bs) {x y : Int64} {n1 : Nat} (hc : In bs pc .lcmp 1 n1) (hd : Jm bs n1 (.ifCond .ne o) o nx tg) (kt : ¬ x = y → Wp p e below s K N Q T (mkF m tg Ls st)) (kf : x = y → Wp p e below s K N Q T (mkF m nx Ls st)) : Wp p e below s K N Q T (mkF m pc Ls (.long y :: .long x :: st)) := by
  obtain ⟨d1, rfl⟩ := hc; obtain ⟨d, rfl, q1, q2⟩ := hd
  refine Wp.go (fun t kk => XT.lcmp X.here hx rfl (hb hby d1) rfl kk) ?_
  by_cases q : x = y
  · exact Wp.go (fun t kk => XS.ifNo X.here hx rfl (hb hby d) rfl (XT.ll_ne_f q) kk) (kf q)
  · exact Wp.go (fun t kk => XS.ifYes X.here hx rfl rfl (hb hby d) rfl (XT.ll_ne_t q) q1 q2 kk) (kt q)
theorem f_icmp_lt (X : Stand p l e R s m args below meth c T locs cells slots) (hx : p.tables.exec = Jvm.exec) (hby : c.code = bs) {x y : Int32} (hd : Jm bs pc (.if_icmp .lt o) o nx tg) (kt : x < y → Wp p e below s K N Q T (mkF m tg Ls st)) (kf : ¬ x < y → Wp p e below s K N Q T (mkF m nx Ls st)) : Wp p e below s K N Q T (mkF m pc Ls (.int y :: .int x :: st)) := by
  obtain ⟨d, rfl, q1, q2⟩ := hd
  by_cases q : x < y
  · exact Wp.go (fun t kk => XS.icmpYes X.here hx rfl rfl (hb hby d) rfl (XT.ii_lt_t q) q1 q2 kk) (kt q)
  · exact Wp.go (fun t kk => XS.icmpNo X.here hx rfl (hb hby d) rfl (XT.ii_lt_f q) kk) (kf q)
theorem f_if_lt (X : Stand p l e R s m args below meth c T locs cells slots) (hx : p.tables.exec = Jvm.exec) (hby : c.code = bs) {x : Int32} (hd : Jm bs pc (.ifCond .lt o) o nx tg) (kt : x < 0 → Wp p e below s K N Q T (mkF m tg Ls st)) (kf : ¬ x < 0 → Wp p e below s K N Q T (mkF m nx Ls st)) : Wp p e below s K N Q T (mkF m pc Ls (.int x :: st)) := by
  obtain ⟨d, rfl, q1, q2⟩ := hd
  by_cases q : x < 0
  · exact Wp.go (fun t kk => XS.ifYes X.here hx rfl rfl (hb hby d) rfl (XT.i0_lt_t q) q1 q2 kk) (kt q)
  · exact Wp.go (fun t kk => XS.ifNo X.here hx rfl (hb hby d) rfl (XT.i0_lt_f q) kk) (kf q)
theorem f_lcmp_lt (X : Stand p l e R s m args below meth c T locs cells slots) (hx : p.tables.exec = Jvm.exec) (hby : c.code = bs) {x y : Int64} {n1 : Nat} (hc : In bs pc .lcmp 1 n1) (hd : Jm bs n1 (.ifCond .lt o) o nx tg) (kt : x < y → Wp p e below s K N Q T (mkF m tg Ls st)) (kf : ¬ x < y → Wp p e below s K N Q T (mkF m nx Ls st)) : Wp p e below s K N Q T (mkF m pc Ls (.long y :: .long x :: st)) := by
  obtain ⟨d1, rfl⟩ := hc; obtain ⟨d, rfl, q1, q2⟩ := hd
  refine Wp.go (fun t kk => XT.lcmp X.here hx rfl (hb hby d1) rfl kk) ?_
  by_cases q : x < y
  · exact Wp.go (fun t kk => XS.ifYes X.here hx rfl rfl (hb hby d) rfl (XT.ll_lt_t q) q1 q2 kk) (kt q)
  · exact Wp.go (fun t kk => XS.ifNo X.here hx rfl (hb hby d) rfl (XT.ll_lt_f q) kk) (kf q)
theorem f_icmp_ge (X : Stand p l e R s m args below meth c T locs cells slots) (hx : p.tables.exec = Jvm.exec) (hby : c.code = bs) {x y : Int32} (hd : Jm bs pc (.if_icmp .ge o) o nx tg) (kt : ¬ x < y → Wp p e below s K N Q T (mkF m tg Ls st)) (kf : x < y → Wp p e below s K N Q T (mkF m nx Ls st)) : Wp p e below s K N Q T (mkF m pc Ls (.int y :: .int x :: st)) := by
  obtain ⟨d, rfl, q1, q2⟩ := hd
  by_cases q : x < y
  · exact Wp.go (fun t kk => XS.icmpNo X.here hx rfl (hb hby d) rfl (XT.ii_ge_f q) kk) (kf q)
  · exact Wp.go (fun t kk => XS.icmpYes X.here hx rfl rfl (hb hby d) rfl (XT.ii_ge_t q) q1 q2 kk) (kt q)
theorem f_if_ge (X : Stand p l e R s m args below meth c T locs cells slots) (hx : p.tables.exec = Jvm.exec) (hby : c.code = bs) {x : Int32} (hd : Jm bs pc (.ifCond .ge o) o nx tg) (kt : ¬ x < 0 → Wp p e below s K N Q T (mkF m tg Ls st)) (kf : x < 0 → Wp p e below s K N Q T (mkF m nx Ls st)) : Wp p e below s K N Q T (mkF m pc Ls (.int x :: st)) := by
  obtain ⟨d, rfl, q1, q2⟩ := hd
  by_cases q : x < 0
  · exact Wp.go (fun t kk => XS.ifNo X.here hx rfl (hb hby d) rfl (XT.i0_ge_f q) kk) (kf q)
  · exact Wp.go (fun t kk => XS.ifYes X.here hx rfl rfl (hb hby d) rfl (XT.i0_ge_t q) q1 q2 kk) (kt q)
theorem f_lcmp_ge (X : Stand p l e R s m args below meth c T locs cells slots) (hx : p.tables.exec = Jvm.exec) (hby : c.code = bs) {x y : Int64} {n1 : Nat} (hc : In bs pc .lcmp 1 n1) (hd : Jm bs n1 (.ifCond .ge o) o nx tg) (kt : ¬ x < y → Wp p e below s K N Q T (mkF m tg Ls st)) (kf : x < y → Wp p e below s K N Q T (mkF m nx Ls st)) : Wp p e below s K N Q T (mkF m pc Ls (.long y :: .long x :: st)) := by
  obtain ⟨d1, rfl⟩ := hc; obtain ⟨d, rfl, q1, q2⟩ := hd
  refine Wp.go (fun t kk => XT.lcmp X.here hx rfl (hb hby d1) rfl kk) ?_
  by_cases q : x < y
  · exact Wp.go (fun t kk => XS.ifNo X.here hx rfl (hb hby d) rfl (XT.ll_ge_f q) kk) (kf q)
  · exact Wp.go (fun t kk => XS.ifYes X.here hx rfl rfl (hb hby d) rfl (XT.ll_ge_t q) q1 q2 kk) (kt q)
theorem f_icmp_gt (X : Stand p l e R s m args below meth c T locs cells slots) (hx : p.tables.exec = Jvm.exec) (hby : c.code = bs) {x y : Int32} (hd : Jm bs pc (.if_icmp .gt o) o nx tg) (kt : y < x → Wp p e below s K N Q T (mkF m tg Ls st)) (kf : ¬ y < x → Wp p e below s K N Q T (mkF m nx Ls st)) : Wp p e below s K N Q T (mkF m pc Ls (.int y :: .int x :: st)) := by
  obtain ⟨d, rfl, q1, q2⟩ := hd
  by_cases q : y < x
  · exact Wp.go (fun t kk => XS.icmpYes X.here hx rfl rfl (hb hby d) rfl (XT.ii_gt_t q) q1 q2 kk) (kt q)
  · exact Wp.go (fun t kk => XS.icmpNo X.here hx rfl (hb hby d) rfl (XT.ii_gt_f q) kk) (kf q)
theorem f_if_gt (X : Stand p l e R s m args below meth c T locs cells slots) (hx : p.tables.exec = Jvm.exec) (hby : c.code = bs) {x : Int32} (hd : Jm bs pc (.ifCond .gt o) o nx tg) (kt : 0 < x → Wp p e below s K N Q T (mkF m tg Ls st)) (kf : ¬ 0 < x → Wp p e below s K N Q T (mkF m nx Ls st)) : Wp p e below s K N Q T (mkF m pc Ls (.int x :: st)) := by
  obtain ⟨d, rfl, q1, q2⟩ := hd
  by_cases q : 0 < x
  · exact Wp.go (fun t kk => XS.ifYes X.here hx rfl rfl (hb hby d) rfl (XT.i0_gt_t q) q1 q2 kk) (kt q)
  · exact Wp.go (fun t kk => XS.ifNo X.here hx rfl (hb hby d) rfl (XT.i0_gt_f q) kk) (kf q)
theorem f_lcmp_gt (X : Stand p l e R s m args below meth c T locs cells slots) (hx : p.tables.exec = Jvm.exec) (hby : c.code = bs) {x y : Int64} {n1 : Nat} (hc : In bs pc .lcmp 1 n1) (hd : Jm bs n1 (.ifCond .gt o) o nx tg) (kt : y < x → Wp p e below s K N Q T (mkF m tg Ls st)) (kf : ¬ y < x → Wp p e below s K N Q T (mkF m nx Ls st)) : Wp p e below s K N Q T (mkF m pc Ls (.long y :: .long x :: st)) := by
  obtain ⟨d1, rfl⟩ := hc; obtain ⟨d, rfl, q1, q2⟩ := hd
  refine Wp.go (fun t kk => XT.lcmp X.here hx rfl (hb hby d1) rfl kk) ?_
  by_cases q : y < x
  · exact Wp.go (fun t kk => XS.ifYes X.here hx rfl rfl (hb hby d) rfl (XT.ll_gt_t q) q1 q2 kk) (kt q)
  · exact Wp.go (fun t kk => XS.ifNo X.here hx rfl (hb hby d) rfl (XT.ll_gt_f q) kk) (kf q)
theorem f_icmp_le (X : Stand p l e R s m args below meth c T locs cells slots) (hx : p.tables.exec = Jvm.exec) (hby : c.code = bs) {x y : Int32} (hd : Jm bs pc (.if_icmp .le o) o nx tg) (kt : ¬ y < x → Wp p e below s K N Q T (mkF m tg Ls st)) (kf : y < x → Wp p e below s K N Q T (mkF m nx Ls st)) : Wp p e below s K N Q T (mkF m pc Ls (.int y :: .int x :: st)) := by
  obtain ⟨d, rfl, q1, q2⟩ := hd
  by_cases q : y < x
  · exact Wp.go (fun t kk => XS.icmpNo X.here hx rfl (hb hby d) rfl (XT.ii_le_f q) kk) (kf q)
  · exact Wp.go (fun t kk => XS.icmpYes X.here hx rfl rfl (hb hby d) rfl (XT.ii_le_t q) q1 q2 kk) (kt q)
theorem f_if_le (X : Stand p l e R s m args below meth c T locs cells slots) (hx : p.tables.exec = Jvm.exec) (hby : c.code = bs) {x : Int32} (hd : Jm bs pc (.ifCond .le o) o nx tg) (kt : ¬ 0 < x → Wp p e below s K N Q T (mkF m tg Ls st)) (kf : 0 < x → Wp p e below s K N Q T (mkF m nx Ls st)) : Wp p e below s K N Q T (mkF m pc Ls (.int x :: st)) := by
  obtain ⟨d, rfl, q1, q2⟩ := hd
  by_cases q : 0 < x
  · exact Wp.go (fun t kk => XS.ifNo X.here hx rfl (hb hby d) rfl (XT.i0_le_f q) kk) (kf q)
  · exact Wp.go (fun t kk => XS.ifYes X.here hx rfl rfl (hb hby d) rfl (XT.i0_le_t q) q1 q2 kk) (kt q)
theorem f_lcmp_le (X : Stand p l e R s m args below meth c T locs cells slots) (hx : p.tables.exec = Jvm.exec) (hby : c.code = bs) {x y : Int64} {n1 : Nat} (hc : In bs pc .lcmp 1 n1) (hd : Jm bs n1 (.ifCond .le o) o nx tg) (kt : ¬ y < x → Wp p e below s K N Q T (mkF m tg Ls st)) (kf : y < x → Wp p e below s K N Q T (mkF m nx Ls st)) : Wp p e below s K N Q T (mkF m pc Ls (.long y :: .long x :: st)) := by
  obtain ⟨d1, rfl⟩ := hc; obtain ⟨d, rfl, q1, q2⟩ := hd
  refine Wp.go (fun t kk => XT.lcmp X.here hx rfl (hb hby d1) rfl kk) ?_
  by_cases q : y < x
  · exact Wp.go (fun t kk => XS.ifNo X.here hx rfl (hb hby d) rfl (XT.ll_le_f q) kk) (kf q)
  · exact Wp.go (fun t kk => XS.ifYes X.here hx rfl rfl (hb hby d) rfl (XT.ll_le_t q) q1 q2 kk) (kt q)
theorem f_acmp_eq (X : Stand p l e R s m args below meth c T locs cells slots) (hx : p.tables.exec = Jvm.exec) (hby : c.code = bs) {x y : Addr} (hd : Jm bs pc (.if_acmp .eq o) o nx tg) (kt : x = y → Wp p e below s K N Q T (mkF m tg Ls st)) (kf : ¬ x = y → Wp p e below s K N Q T (mkF m nx Ls st)) : Wp p e below s K N Q T (mkF m pc Ls (.ref y :: .ref x :: st)) := by
  obtain ⟨d, rfl, q1, q2⟩ := hd
  by_cases q : x = y
  · exact Wp.go (fun t kk => XT.acmpYes X.here hx rfl rfl (hb hby d) rfl rfl rfl (XT.aa_eq_t (congrArg Value.ref q)) q1 q2 kk) (kt q)
  · exact Wp.go (fun t kk => XT.acmpNo X.here hx rfl (hb hby d) rfl rfl rfl (XT.aa_eq_f (fun r => q (Value.ref.inj r))) kk) (kf q)
theorem f_acmpV_eq (X : Stand p l e R s m args below meth c T locs cells slots) (hx : p.tables.exec = Jvm.exec) (hby : c.code = bs) {x y : Value} (hx' : x.isRef = true) (hy' : y.isRef = true) (hd : Jm bs pc (.if_acmp .eq o) o nx tg) (kt : x = y → Wp p e below s K N Q T (mkF m tg Ls st)) (kf : ¬ x = y → Wp p e below s K N Q T (mkF m nx Ls st)) : Wp p e below s K N Q T (mkF m pc Ls (y :: x :: st)) := by
  obtain ⟨d, rfl, q1, q2⟩ := hd
  by_cases q : x = y
  · exact Wp.go (fun t kk => XT.acmpYes X.here hx rfl rfl (hb hby d) rfl hx' hy' (XT.aa_eq_t q) q1 q2 kk) (kt q)
  · exact Wp.go (fun t kk => XT.acmpNo X.here hx rfl (hb hby d) rfl hx' hy' (XT.aa_eq_f q) kk) (kf q)
theorem f_acmp_ne (X : Stand p l e R s m args below meth c T locs cells slots) (hx : p.tables.exec = Jvm.exec) (hby : c.code = bs) {x y : Addr} (hd : Jm bs pc (.if_acmp .ne o) o nx tg) (kt : ¬ x = y → Wp p e below s K N Q T (mkF m tg Ls st)) (kf : x = y → Wp p e below s K N Q T (mkF m nx Ls st)) : Wp p e below s K N Q T (mkF m pc Ls (.ref y :: .ref x :: st)) := by
  obtain ⟨d, rfl, q1, q2⟩ := hd
  by_cases q : x = y
  · exact Wp.go (fun t kk => XT.acmpNo X.here hx rfl (hb hby d) rfl rfl rfl (XT.aa_ne_f (congrArg Value.ref q)) kk) (kf q)
  · exact Wp.go (fun t kk => XT.acmpYes X.here hx rfl rfl (hb hby d) rfl rfl rfl (XT.aa_ne_t (fun r => q (Value.ref.inj r))) q1 q2 kk) (kt q)
theorem f_acmpV_ne (X : Stand p l e R s m args below meth c T locs cells slots) (hx : p.tables.exec = Jvm.exec) (hby : c.code = bs) {x y : Value} (hx' : x.isRef = true) (hy' : y.isRef = true) (hd : Jm bs pc (.if_acmp .ne o) o nx tg) (kt : ¬ x = y → Wp p e below s K N Q T (mkF m tg Ls st)) (kf : x = y → Wp p e below s K N Q T (mkF m nx Ls st)) : Wp p e below s K N Q T (mkF m pc Ls (y :: x :: st)) := by
  obtain ⟨d, rfl, q1, q2⟩ := hd
  by_cases q : x = y
  · exact Wp.go (fun t kk => XT.acmpNo X.here hx rfl (hb hby d) rfl hx' hy' (XT.aa_ne_f q) kk) (kf q)
  · exact Wp.go (fun t kk => XT.acmpYes X.here hx rfl rfl (hb hby d) rfl hx' hy' (XT.aa_ne_t q) q1 q2 kk) (kt q)
theorem w_lswHit (X : Stand p l e R s m args below meth c T locs cells slots) (hx : p.tables.exec = Jvm.exec) (hby : c.code = bs) {x : Int32} {df : Int} {ps : Array (Int × Int)} {len : Nat} {a off : Int} (hd : In bs pc (.lookupswitch df ps) len nx) (hs : (ps.toList.zip (ps.toList.drop 1)).all (fun (a, next) => a.1 < next.1) = true) (hf : ps.find? (·.1 == x.toInt) = some (a, off)) (ho : 0 ≤ (pc : Int) + off) (ht : ((pc : Int) + off).toNat = tg) (k : Wp p e below s K N Q T (mkF m tg Ls st)) : Wp p e below s K N Q T (mkF m pc Ls (.int x :: st)) := by
  obtain ⟨d, -⟩ := hd; subst ht; exact Wp.go (fun t kk => X.lookupswitchHit hx (g := mkF m pc Ls (.int x :: st)) rfl rfl (hb hby d) hs hf ho t kk) k
theorem w_lswMiss (X : Stand p l e R s m args below meth c T locs cells slots) (hx : p.tables.exec = Jvm.exec) (hby : c.code = bs) {x : Int32} {df : Int} {ps : Array (Int × Int)} {len : Nat} (hd : In bs pc (.lookupswitch df ps) len nx) (hs : (ps.toList.zip (ps.toList.drop 1)).all (fun (a, next) => a.1 < next.1) = true) (hf : ps.find? (·.1 == x.toInt) = none) (ho : 0 ≤ (pc : Int) + df) (ht : ((pc : Int) + df).toNat = tg) (k : Wp p e below s K N Q T (mkF m tg Ls st)) : Wp p e below s K N Q T (mkF m pc Ls (.int x :: st)) := by
  obtain ⟨d, -⟩ := hd; subst ht; exact Wp.go (fun t kk => X.lookupswitchMiss hx (g := mkF m pc Ls (.int x :: st)) rfl rfl (hb hby d) hs hf ho t kk) k
theorem w_tswIn (X : Stand p l e R s m args below meth c T locs cells slots) (hx : p.tables.exec = Jvm.exec) (hby : c.code = bs) {x : Int32} {df lo hi : Int} {os : Array Int} {len : Nat} {off : Int} (hd : In bs pc (.tableswitch df lo hi os) len nx) (hin : ¬ (x.toInt < lo ∨ x.toInt > hi)) (hoff : os[(x.toInt - lo).toNat]? = some off) (ho : 0 ≤ (pc : Int) + off) (ht : ((pc : Int) + off).toNat = tg) (k : Wp p e below s K N Q T (mkF m tg Ls st)) : Wp p e below s K N Q T (mkF m pc Ls (.int x :: st)) := by
  obtain ⟨d, -⟩ := hd; exact Wp.go (fun t kk => XS.tswIn X.here hx rfl rfl (hb hby d) rfl hin hoff ho ht kk) k
theorem w_tswOut (X : Stand p l e R s m args below meth c T locs cells slots) (hx : p.tables.exec = Jvm.exec) (hby : c.code = bs) {x : Int32} {df lo hi : Int} {os : Array Int} {len : Nat} (hd : In bs pc (.tableswitch df lo hi os) len nx) (hout : x.toInt < lo ∨ x.toInt > hi) (ho : 0 ≤ (pc : Int) + df) (ht : ((pc : Int) + df).toNat = tg) (k : Wp p e below s K N Q T (mkF m tg Ls st)) : Wp p e below s K N Q T (mkF m pc Ls (.int x :: st)) := by
  obtain ⟨d, -⟩ := hd; exact Wp.go (fun t kk => XS.tswOut X.here hx rfl rfl (hb hby d) rfl hout ho ht kk) k
theorem own_ne32 {x z : Int32} {i : Int} (h : ¬ x = z) (hz : z.toInt = i) : i ≠ x.toInt := fun q => h (Int32.toInt_inj.mp (by rw [hz, q]))
theorem w_ifnonnullRef (X : Stand p l e R s m args below meth c T locs cells slots) (hx : p.tables.exec = Jvm.exec) (hby : c.code = bs) {a : Addr} (hd : Jm bs pc (.ifnonnull o) o nx tg) (k : Wp p e below s K N Q T (mkF m tg Ls st)) : Wp p e below s K N Q T (mkF m pc Ls (.ref a :: st)) := by
  obtain ⟨d, -, q1, q2⟩ := hd; exact Wp.go (fun t kk => XS.ifnonnullYes X.here hx rfl rfl (hb hby d) rfl q1 q2 kk) k
theorem w_ifnonnullNull (X : Stand p l e R s m args below meth c T locs cells slots) (hx : p.tables.exec = Jvm.exec) (hby : c.code = bs) (hd : Jm bs pc (.ifnonnull o) o nx tg) (k : Wp p e below s K N Q T (mkF m nx Ls st)) : Wp p e below s K N Q T (mkF m pc Ls (.null :: st)) := by
  obtain ⟨d, rfl, q1, q2⟩ := hd; exact Wp.go (fun t kk => XS.ifnonnullNo X.here hx rfl (hb hby d) rfl kk) k
theorem w_ifnullRef (X : Stand p l e R s m args below meth c T locs cells slots) (hx : p.tables.exec = Jvm.exec) (hby : c.code = bs) {a : Addr} (hd : Jm bs pc (.ifnull o) o nx tg) (k : Wp p e below s K N Q T (mkF m nx Ls st)) : Wp p e below s K N Q T (mkF m pc Ls (.ref a :: st)) := by
  obtain ⟨d, rfl, q1, q2⟩ := hd; exact Wp.go (fun t kk => XS.ifnullNo X.here hx rfl (hb hby d) rfl kk) k
theorem w_ifnullNull (X : Stand p l e R s m args below meth c T locs cells slots) (hx : p.tables.exec = Jvm.exec) (hby : c.code = bs) (hd : Jm bs pc (.ifnull o) o nx tg) (k : Wp p e below s K N Q T (mkF m tg Ls st)) : Wp p e below s K N Q T (mkF m pc Ls (.null :: st)) := by
  obtain ⟨d, -, q1, q2⟩ := hd; exact Wp.go (fun t kk => XS.ifnullYes X.here hx rfl rfl (hb hby d) rfl q1 q2 kk) k
theorem w_ldcI (X : Stand p l e R s m args below meth c T locs cells slots) (hx : p.tables.exec = Jvm.exec) (hby : c.code = bs) (hZ : Z.Warmed39 s.vm) {own : String} (hown : s.vm.findClass own = some m.cls) {index : Nat} {v : Int32} (w : (Cond.constant own index v).before a0 Z = true) (hd : In bs pc (.ldc index) 2 nx) (k : Wp p e below s K N Q T (mkF m nx Ls (.int v :: st))) : Wp p e below s K N Q T (mkF m pc Ls st) := by
  obtain ⟨d, rfl⟩ := hd; exact Wp.go (fun t kk => X.ldcInt hx hown (mvT hZ w) (g := mkF m pc Ls st) rfl (hb hby d) t kk) k
theorem w_ldcwI (X : Stand p l e R s m args below meth c T locs cells slots) (hx : p.tables.exec = Jvm.exec) (hby : c.code = bs) (hZ : Z.Warmed39 s.vm) {own : String} (hown : s.vm.findClass own = some m.cls) {index : Nat} {v : Int32} (w : (Cond.constant own index v).before a0 Z = true) (hd : In bs pc (.ldc_w index) 3 nx) (k : Wp p e below s K N Q T (mkF m nx Ls (.int v :: st))) : Wp p e below s K N Q T (mkF m pc Ls st) := by
  obtain ⟨d, rfl⟩ := hd; exact Wp.go (fun t kk => X.ldcWI hx hown (mvT hZ w) (g := mkF m pc Ls st) rfl (hb hby d) kk) k
theorem w_ldc2J (X : Stand p l e R s m args below meth c T locs cells slots) (hx : p.tables.exec = Jvm.exec) (hby : c.code = bs) (hZ : Z.Warmed39 s.vm) {own : String} (hown : s.vm.findClass own = some m.cls) {index : Nat} {v : Int64} (w : (Cond.constantLong own index v).before a0 Z = true) (hd : In bs pc (.ldc2_w index) 3 nx) (k : Wp p e below s K N Q T (mkF m nx Ls (.long v :: st))) : Wp p e below s K N Q T (mkF m pc Ls st) := by
  obtain ⟨d, rfl⟩ := hd; exact Wp.go (fun t kk => X.ldc2Long hx hown (mvT hZ w) (g := mkF m pc Ls st) rfl (hb hby d) t kk) k
theorem w_getS (X : Stand p l e R s m args below meth c T locs cells slots) (hx : p.tables.exec = Jvm.exec) (hby : c.code = bs) (hZ : Z.Warmed39 s.vm) {own : String} (hown : s.vm.findClass own = some m.cls) {R0 C n d host : String} {index : Nat} (w : (Cond.fieldLink own index R0 n d).before a0 Z = true ∨ (Cond.fieldLinkNest own index R0 n d host).before a0 Z = true) (via : Via Z R0 C n d) (eT : T.heap = h) {v : Value} (F : Sta Z h C n d v) (hd : In bs pc (.getstatic index) 3 nx) (k : ∀ T', Stand p l e R s m args below meth c T' locs cells slots → T'.heap = h → Wp p e below s K N Q T' (mkF m nx Ls (v :: st))) : Wp p e below s K N Q T (mkF m pc Ls st) := by
  obtain ⟨d, rfl⟩ := hd; obtain ⟨T', X', e', st'⟩ := getS2 X hx hZ hown w via eT F (g := mkF m pc Ls st) rfl (hb hby d); exact Wp.go st' (k T' X' e')
theorem w_getF (X : Stand p l e R s m args below meth c T locs cells slots) (hx : p.tables.exec = Jvm.exec) (hby : c.code = bs) (hZ : Z.Warmed39 s.vm) {own : String} (hown : s.vm.findClass own = some m.cls) {R0 C n d host : String} {index : Nat} (w : (Cond.fieldLink own index R0 n d).before a0 Z = true ∨ (Cond.fieldLinkNest own index R0 n d host).before a0 Z = true) (via : Via Z R0 C n d) (eT : T.heap = h) {a : Addr} {v : Value} (F : Fld Z h a C n d v) (hd : In bs pc (.getfield index) 3 nx) (k : ∀ T', Stand p l e R s m args below meth c T' locs cells slots → T'.heap = h → Wp p e below s K N Q T' (mkF m nx Ls (v :: st))) : Wp p e below s K N Q T (mkF m pc Ls (.ref a :: st)) := by
  obtain ⟨d, rfl⟩ := hd; obtain ⟨T', X', e', st'⟩ := getF X hx hZ hown w via eT F (g := mkF m pc Ls (.ref a :: st)) rfl rfl (hb hby d); exact Wp.go st' (k T' X' e')
theorem w_putF (X : Stand p l e R s m args below meth c T locs cells slots) (hx : p.tables.exec = Jvm.exec) (hby : c.code = bs) (hZ : Z.Warmed39 s.vm) {own : String} (hown : s.vm.findClass own = some m.cls) {R0 C n d host D : String} {index kk : Nat} {ty : FieldType} (w : (Cond.fieldLink own index R0 n d).before a0 Z = true ∨ (Cond.fieldLinkNest own index R0 n d host).before a0 Z = true) (via : Via Z R0 C n d) (eT : T.heap = h) {a : Addr} {v old : Value} (F : Fld Z h a C n d old) (E : Exa Z h a D) (Lw : (Cond.lays D C n d).before a0 Z = true ∨ ((Cond.laysFinal D C n d).before a0 Z = true ∧ own = C ∧ meth.name = "<init>")) (wi : (Cond.instantiable D kk).before a0 Z = true) (hty : parseFieldDescriptor d = some ty) (hn : narrow ty v = v) (hf : fits ty v = true) (hd : In bs pc (.putfield index) 3 nx) (k : ∀ T' h', Stand p l e R s m args below meth c T' (locs ++ [⟨a, Jvm.RoadKit.slotOf Z C n d⟩]) cells slots → T'.heap = h' → Wr h h' a (Jvm.RoadKit.slotOf Z C n d) v → Wp p e below s K N Q T' (mkF m nx Ls st)) : Wp p e below s K N Q T (mkF m pc Ls (v :: .ref a :: st)) := by
  obtain ⟨d, rfl⟩ := hd; obtain ⟨T', h', X', e', W', st'⟩ := putF X hx hZ hown w via eT F E Lw wi hty hn hf (g := mkF m pc Ls (v :: .ref a :: st)) rfl rfl (hb hby d); exact Wp.go st' (k T' h' X' e' W')
theorem w_putFN (X : Stand p l e R s m args below meth c T locs cells slots) (hx : p.tables.exec = Jvm.exec) (hby : c.code = bs) (hZ : Z.Warmed39 s.vm) {own : String} (hown : s.vm.findClass own = some m.cls) {R0 C n d D : String} {index kk : Nat} {ty : FieldType} (w : (Cond.fieldLink own index R0 n d).before a0 Z = true) (via : Via Z R0 C n d) (eT : T.heap = h) {a : Addr} {v v' old : Value} (F : Fld Z h a C n d old) (E : Exa Z h a D) (Lw : (Cond.lays D C n d).before a0 Z = true ∨ ((Cond.laysFinal D C n d).before a0 Z = true ∧ own = C ∧ meth.name = "<init>")) (wi : (Cond.instantiable D kk).before a0 Z = true) (hty : parseFieldDescriptor d = some ty) (hn : narrow ty v = v') (hf : fits ty v' = true) (hd : In bs pc (.putfield index) 3 nx) (k : ∀ T' h', Stand p l e R s m args below meth c T' (locs ++ [⟨a, Jvm.RoadKit.slotOf Z C n d⟩]) cells slots → T'.heap = h' → Wr h h' a (Jvm.RoadKit.slotOf Z C n d) v' → Wp p e below s K N Q T' (mkF m nx Ls st)) : Wp p e below s K N Q T (mkF m pc Ls (v :: .ref a :: st)) := by
  obtain ⟨d, rfl⟩ := hd; obtain ⟨T', h', X', e', W', st'⟩ := putFN X hx hZ hown w via eT F E Lw wi hty hn hf (g := mkF m pc Ls (v :: .ref a :: st)) rfl rfl (hb hby d); exact Wp.go st' (k T' h' X' e' W')
theorem w_newO (X : Stand p l e R s m args below meth c T locs cells slots) (hx : p.tables.exec = Jvm.exec) (hby : c.code = bs) (hZ : Z.Warmed39 s.vm) {own : String} (hown : s.vm.findClass own = some m.cls) {C : String} {index n : Nat} (w : (Cond.classLink own index C).before a0 Z = true) (wi : (Cond.instantiable C n).before a0 Z = true) (wz : (Cond.initialized C).before a0 Z = true) (eT : T.heap = h) (hd : In bs pc (.new index) 3 nx) (hc : cells + 1 ≤ R.cells) (hl : slots + n ≤ R.slots) (k : ∀ T' h' a, a = h.size → Stand p l e R s m args below meth c T' locs (cells + 1) (slots + n) → T'.heap = h' → Ext h h' → Exa Z h' a C → (∀ {D nm d : String} {ty : FieldType}, Laid Z a0 C D nm d → parseFieldDescriptor d = some ty → Fld Z h' a D nm d (defaultValue ty)) → Wp p e below s K N Q T' (mkF m nx Ls (.ref a :: st))) : Wp p e below s K N Q T (mkF m pc Ls st) := by
  obtain ⟨d, rfl⟩ := hd; obtain ⟨T', h', X', e', E', A', D', -, st'⟩ := newO X hx hZ hown w wi wz eT (g := mkF m pc Ls st) rfl (hb hby d) hc hl; exact Wp.go st' (k T' h' _ rfl X' e' E' A' D')
theorem w_newP (X : Stand p l e R s m args below meth c T locs cells slots) (hx : p.tables.exec = Jvm.exec) (hby : c.code = bs) (hZ : Z.Warmed39 s.vm) {aty : ArrayType} (w : (Cond.arrayClass (newarray.typeOf aty)).before a0 Z = true) (eT : T.heap = h) {n : Int32} (hd : In bs pc (.newarray aty) 2 nx) (hn : ¬ n < 0) (cap : Nat) (hcap : n.toNatClampNeg ≤ cap) (hbig : cap * 8 ≤ 536870912) (hc : cells + 1 ≤ R.cells) (hl : slots + cap ≤ R.slots) (k : ∀ T' h' a kA, a = h.size → Stand p l e R s m args below meth c T' locs (cells + 1) (slots + cap) → T'.heap = h' → Ext h h' → Arr Z h' a (newA kA (newarray.typeOf aty) n) (newarray.typeOf aty) → Wp p e below s K N Q T' (mkF m nx Ls (.ref a :: st))) : Wp p e below s K N Q T (mkF m pc Ls (.int n :: st)) := by
  obtain ⟨d, rfl⟩ := hd; obtain ⟨T', h', kA, X', e', E', A', st'⟩ := newP X hx hZ w eT (g := mkF m pc Ls (.int n :: st)) rfl (hb hby d) rfl hn hcap hbig hc hl; exact Wp.go st' (k T' h' _ kA rfl X' e' E' A')
theorem w_newR (X : Stand p l e R s m args below meth c T locs cells slots) (hx : p.tables.exec = Jvm.exec) (hby : c.code = bs) (hZ : Z.Warmed39 s.vm) {own : String} (hown : s.vm.findClass own = some m.cls) {C : String} {index : Nat} (w1 : (Cond.classLink own index C).before a0 Z = true) (w2 : (Cond.arrayOver (.object C)).before a0 Z = true) (eT : T.heap = h) {n : Int32} (hd : In bs pc (.anewarray index) 3 nx) (hn : ¬ n < 0) (cap : Nat) (hcap : n.toNatClampNeg ≤ cap) (hbig : cap * 8 ≤ 536870912) (hc : cells + 1 ≤ R.cells) (hl : slots + cap ≤ R.slots) (k : ∀ T' h' a kA, a = h.size → Stand p l e R s m args below meth c T' locs (cells + 1) (slots + cap) → T'.heap = h' → Ext h h' → Arr Z h' a (newA kA (.object C) n) (.object C) → Ovr Z kA C → Wp p e below s K N Q T' (mkF m nx Ls (.ref a :: st))) : Wp p e below s K N Q T (mkF m pc Ls (.int n :: st)) := by
  obtain ⟨d, rfl⟩ := hd; obtain ⟨T', h', kA, X', e', E', A', O', st'⟩ := newR X hx hZ hown w1 w2 eT (g := mkF m pc Ls (.int n :: st)) rfl (hb hby d) rfl hn hcap hbig hc hl; exact Wp.go st' (k T' h' _ kA rfl X' e' E' A' O')
theorem w_stI (X : Stand p l e R s m args below meth c T locs cells slots) (hx : p.tables.exec = Jvm.exec) (hby : c.code = bs) (hZ : Z.Warmed39 s.vm) (eT : T.heap = h) {a : Addr} {cl : Cell} (A : Arr Z h a cl .int) {j : Int32} {x : Int32} (hj : ¬ (j < 0 ∨ cl.slots.size ≤ j.toNatClampNeg)) (hd : In bs pc .iastore 1 nx) (k : ∀ T' h', Stand p l e R s m args below meth c T' (locs ++ [⟨a, j.toNatClampNeg⟩]) cells slots → T'.heap = h' → Wr h h' a j.toNatClampNeg (.int x) → Wp p e below s K N Q T' (mkF m nx Ls st)) : Wp p e below s K N Q T (mkF m pc Ls (.int x :: .int j :: .ref a :: st)) := by
  obtain ⟨d, rfl⟩ := hd; obtain ⟨T', h', X', e', W', st'⟩ := stI X hx hZ eT A hj (g := mkF m pc Ls (.int x :: .int j :: .ref a :: st)) rfl rfl (hb hby d); exact Wp.go st' (k T' h' X' e' W')
theorem w_stJ (X : Stand p l e R s m args below meth c T locs cells slots) (hx : p.tables.exec = Jvm.exec) (hby : c.code = bs) (hZ : Z.Warmed39 s.vm) (eT : T.heap = h) {a : Addr} {cl : Cell} (A : Arr Z h a cl .long) {j : Int32} {x : Int64} (hj : ¬ (j < 0 ∨ cl.slots.size ≤ j.toNatClampNeg)) (hd : In bs pc .lastore 1 nx) (k : ∀ T' h', Stand p l e R s m args below meth c T' (locs ++ [⟨a, j.toNatClampNeg⟩]) cells slots → T'.heap = h' → Wr h h' a j.toNatClampNeg (.long x) → Wp p e below s K N Q T' (mkF m nx Ls st)) : Wp p e below s K N Q T (mkF m pc Ls (.long x :: .int j :: .ref a :: st)) := by
  obtain ⟨d, rfl⟩ := hd; obtain ⟨T', h', X', e', W', st'⟩ := stJ X hx hZ eT A hj (g := mkF m pc Ls (.long x :: .int j :: .ref a :: st)) rfl rfl (hb hby d); exact Wp.go st' (k T' h' X' e' W')
theorem w_stC (X : Stand p l e R s m args below meth c T locs cells slots) (hx : p.tables.exec = Jvm.exec) (hby : c.code = bs) (hZ : Z.Warmed39 s.vm) (eT : T.heap = h) {a : Addr} {cl : Cell} (A : Arr Z h a cl .char) {j : Int32} {x : Int32} (hj : ¬ (j < 0 ∨ cl.slots.size ≤ j.toNatClampNeg)) (hd : In bs pc .castore 1 nx) (k : ∀ T' h', Stand p l e R s m args below meth c T' (locs ++ [⟨a, j.toNatClampNeg⟩]) cells slots → T'.heap = h' → Wr h h' a j.toNatClampNeg (.int (nar .char x)) → Wp p e below s K N Q T' (mkF m nx Ls st)) : Wp p e below s K N Q T (mkF m pc Ls (.int x :: .int j :: .ref a :: st)) := by
  obtain ⟨d, rfl⟩ := hd; obtain ⟨T', h', X', e', W', st'⟩ := stC X hx hZ eT A hj (g := mkF m pc Ls (.int x :: .int j :: .ref a :: st)) rfl rfl (hb hby d); exact Wp.go st' (k T' h' X' e' W')
theorem w_stB (X : Stand p l e R s m args below meth c T locs cells slots) (hx : p.tables.exec = Jvm.exec) (hby : c.code = bs) (hZ : Z.Warmed39 s.vm) (eT : T.heap = h) {a : Addr} {cl : Cell} (A : Arr Z h a cl .byte) {j : Int32} {x : Int32} (hj : ¬ (j < 0 ∨ cl.slots.size ≤ j.toNatClampNeg)) (hd : In bs pc .bastore 1 nx) (k : ∀ T' h', Stand p l e R s m args below meth c T' (locs ++ [⟨a, j.toNatClampNeg⟩]) cells slots → T'.heap = h' → Wr h h' a j.toNatClampNeg (.int (nar .byte x)) → Wp p e below s K N Q T' (mkF m nx Ls st)) : Wp p e below s K N Q T (mkF m pc Ls (.int x :: .int j :: .ref a :: st)) := by
  obtain ⟨d, rfl⟩ := hd; obtain ⟨T', h', X', e', W', st'⟩ := stB X hx hZ eT A hj (g := mkF m pc Ls (.int x :: .int j :: .ref a :: st)) rfl rfl (hb hby d); exact Wp.go st' (k T' h' X' e' W')
theorem w_stZ (X : Stand p l e R s m args below meth c T locs cells slots) (hx : p.tables.exec = Jvm.exec) (hby : c.code = bs) (hZ : Z.Warmed39 s.vm) (eT : T.heap = h) {a : Addr} {cl : Cell} (A : Arr Z h a cl .boolean) {j : Int32} {x : Int32} (hj : ¬ (j < 0 ∨ cl.slots.size ≤ j.toNatClampNeg)) (hd : In bs pc .bastore 1 nx) (k : ∀ T' h', Stand p l e R s m args below meth c T' (locs ++ [⟨a, j.toNatClampNeg⟩]) cells slots → T'.heap = h' → Wr h h' a j.toNatClampNeg (.int (nar .boolean x)) → Wp p e below s K N Q T' (mkF m nx Ls st)) : Wp p e below s K N Q T (mkF m pc Ls (.int x :: .int j :: .ref a :: st)) := by
  obtain ⟨d, rfl⟩ := hd; obtain ⟨T', h', X', e', W', st'⟩ := stZ X hx hZ eT A hj (g := mkF m pc Ls (.int x :: .int j :: .ref a :: st)) rfl rfl (hb hby d); exact Wp.go st' (k T' h' X' e' W')
theorem w_stR (X : Stand p l e R s m args below meth c T locs cells slots) (hx : p.tables.exec = Jvm.exec) (hby : c.code = bs) (hZ : Z.Warmed39 s.vm) (eT : T.heap = h) {a : Addr} {cl : Cell} {ty : FieldType} (A : Arr Z h a cl ty) {j : Int32} {v : Value} (hj : ¬ (j < 0 ∨ cl.slots.size ≤ j.toNatClampNeg)) (hty : ty.isReference = true) (F : Sto Z h a v) (hd : In bs pc .aastore 1 nx) (k : ∀ T' h', Stand p l e R s m args below meth c T' (locs ++ [⟨a, j.toNatClampNeg⟩]) cells slots → T'.heap = h' → Wr h h' a j.toNatClampNeg v → Wp p e below s K N Q T' (mkF m nx Ls st)) : Wp p e below s K N Q T (mkF m pc Ls (v :: .int j :: .ref a :: st)) := by
  obtain ⟨d, rfl⟩ := hd; obtain ⟨T', h', X', e', W', st'⟩ := stR X hx hZ eT A hj hty F (g := mkF m pc Ls (v :: .int j :: .ref a :: st)) rfl rfl (hb hby d); exact Wp.go st' (k T' h' X' e' W')
theorem w_iaload (X : Stand p l e R s m args below meth c T locs cells slots) (hx : p.tables.exec = Jvm.exec) (hby : c.code = bs) (hZ : Z.Warmed39 s.vm) (eT : T.heap = h) {a : Addr} {cl : Cell} (A : Arr Z h a cl .int) {j : Int32} {v : Value} (hj : ¬ (j < 0 ∨ cl.slots.size ≤ j.toNatClampNeg)) (hv : cl.slots[j.toNatClampNeg]? = some v) (hd : In bs pc .iaload 1 nx) (k : Wp p e below s K N Q T (mkF m nx Ls (v :: st))) : Wp p e below s K N Q T (mkF m pc Ls (.int j :: .ref a :: st)) := by
  obtain ⟨d, rfl⟩ := hd; exact Wp.go (fun t kk => X.iaload hx (by rw [eT]; exact A.1) (State.isArrayOf_alike hZ.alike A.2.1) A.2.2 hj hv (g := mkF m pc Ls (.int j :: .ref a :: st)) rfl rfl (hb hby d) t kk) k
theorem w_laload (X : Stand p l e R s m args below meth c T locs cells slots) (hx : p.tables.exec = Jvm.exec) (hby : c.code = bs) (hZ : Z.Warmed39 s.vm) (eT : T.heap = h) {a : Addr} {cl : Cell} (A : Arr Z h a cl .long) {j : Int32} {v : Value} (hj : ¬ (j < 0 ∨ cl.slots.size ≤ j.toNatClampNeg)) (hv : cl.slots[j.toNatClampNeg]? = some v) (hd : In bs pc .laload 1 nx) (k : Wp p e below s K N Q T (mkF m nx Ls (v :: st))) : Wp p e below s K N Q T (mkF m pc Ls (.int j :: .ref a :: st)) := by
  obtain ⟨d, rfl⟩ := hd; exact Wp.go (fun t kk => X.laload hx (by rw [eT]; exact A.1) (State.isArrayOf_alike hZ.alike A.2.1) A.2.2 hj hv (g := mkF m pc Ls (.int j :: .ref a :: st)) rfl rfl (hb hby d) t kk) k
theorem w_caload (X : Stand p l e R s m args below meth c T locs cells slots) (hx : p.tables.exec = Jvm.exec) (hby : c.code = bs) (hZ : Z.Warmed39 s.vm) (eT : T.heap = h) {a : Addr} {cl : Cell} (A : Arr Z h a cl .char) {j : Int32} {v : Value} (hj : ¬ (j < 0 ∨ cl.slots.size ≤ j.toNatClampNeg)) (hv : cl.slots[j.toNatClampNeg]? = some v) (hd : In bs pc .caload 1 nx) (k : Wp p e below s K N Q T (mkF m nx Ls (v :: st))) : Wp p e below s K N Q T (mkF m pc Ls (.int j :: .ref a :: st)) := by
  obtain ⟨d, rfl⟩ := hd; exact Wp.go (fun t kk => X.caload hx (by rw [eT]; exact A.1) (State.isArrayOf_alike hZ.alike A.2.1) A.2.2 hj hv (g := mkF m pc Ls (.int j :: .ref a :: st)) rfl rfl (hb hby d) t kk) k
theorem w_baload (X : Stand p l e R s m args below meth c T locs cells slots) (hx : p.tables.exec = Jvm.exec) (hby : c.code = bs) (hZ : Z.Warmed39 s.vm) (eT : T.heap = h) {a : Addr} {cl : Cell} (A : Arr Z h a cl .byte) {j : Int32} {v : Value} (hj : ¬ (j < 0 ∨ cl.slots.size ≤ j.toNatClampNeg)) (hv : cl.slots[j.toNatClampNeg]? = some v) (hd : In bs pc .baload 1 nx) (k : Wp p e below s K N Q T (mkF m nx Ls (v :: st))) : Wp p e below s K N Q T (mkF m pc Ls (.int j :: .ref a :: st)) := by
  obtain ⟨d, rfl⟩ := hd; exact Wp.go (fun t kk => X.baloadBytes hx (by rw [eT]; exact A.1) (State.isArrayOf_alike hZ.alike A.2.1) A.2.2 hj hv (g := mkF m pc Ls (.int j :: .ref a :: st)) rfl rfl (hb hby d) t kk) k
theorem w_aaload (X : Stand p l e R s m args below meth c T locs cells slots) (hx : p.tables.exec = Jvm.exec) (hby : c.code = bs) (hZ : Z.Warmed39 s.vm) (eT : T.heap = h) {a : Addr} {cl : Cell} {ty : FieldType} (A : Arr Z h a cl ty) (hty : ty.isReference = true) {j : Int32} {v : Value} (hj : ¬ (j < 0 ∨ cl.slots.size ≤ j.toNatClampNeg)) (hv : cl.slots[j.toNatClampNeg]? = some v) (hd : In bs pc .aaload 1 nx) (k : Wp p e below s K N Q T (mkF m nx Ls (v :: st))) : Wp p e below s K N Q T (mkF m pc Ls (.int j :: .ref a :: st)) := by
  obtain ⟨d, rfl⟩ := hd; exact Wp.go (fun t kk => X.aaload hx (by rw [eT]; exact A.1) (State.isArrayOf_alike hZ.alike A.2.1) hty A.2.2 hj hv (g := mkF m pc Ls (.int j :: .ref a :: st)) rfl rfl (hb hby d) t kk) k
theorem w_arraylength (X : Stand p l e R s m args below meth c T locs cells slots) (hx : p.tables.exec = Jvm.exec) (hby : c.code = bs) (hZ : Z.Warmed39 s.vm) (eT : T.heap = h) {a : Addr} {cl : Cell} {ty : FieldType} (A : Arr Z h a cl ty) {z : Int32} (hz : cl.slots.size.toInt32 = z) (hd : In bs pc .arraylength 1 nx) (k : Wp p e below s K N Q T (mkF m nx Ls (.int z :: st))) : Wp p e below s K N Q T (mkF m pc Ls (.ref a :: st)) := by
  obtain ⟨d, rfl⟩ := hd; subst hz; exact Wp.go (fun t kk => X.arraylength hx (by rw [eT]; exact A.1) (State.isArrayOf_alike hZ.alike A.2.1) (g := mkF m pc Ls (.ref a :: st)) rfl rfl (hb hby d) t kk) k
theorem w_initO (X : Stand p l e R s m args below meth c T locs cells slots) (hx : p.tables.exec = Jvm.exec) (hby : c.code = bs) (hZ : Z.Warmed39 s.vm) {own : String} (hown : s.vm.findClass own = some m.cls) (hml : Ls.size = c.maxLocals) {idx : Nat} (w1 : (Cond.methodLink own idx Lib.objectInit).before a0 Z = true) (w2 : (Cond.instanceMethod Lib.objectInit).before a0 Z = true) (w3 : (Cond.code Lib.objectInit ⟨#[0xb1]⟩ 1 none).before a0 Z = true) (eT : T.heap = h) {a : Addr} (hd : In bs pc (.invokespecial idx) 3 nx) (hf : 1 ≤ R.frames) {Wd : Nat} (hW : (st.map fun v => v.category).sum = Wd) (hl : Wd + 12 ≤ R.locals) (k : ∀ T', Stand p l e R s m args below meth c T' locs cells slots → T'.heap = h → Wp p e below s K N Q T' (mkF m nx Ls st)) : Wp p e below s K N Q T (mkF m pc Ls (.ref a :: st)) := by
  obtain ⟨d, rfl⟩ := hd; obtain ⟨T', X', e', st'⟩ := initO X hx hZ hown w1 w2 w3 eT (g := mkF m pc Ls (.ref a :: st)) rfl hml rfl (hb hby d) hf (W := Wd) (by show 2 * 0 + _ ≤ _; omega) hl; exact Wp.go st' (k T' X' e')
/-- a body's contract: called on as' at the heap h it returns as Q says, within the room rm -/
def Con (l : Launch) (Z : State) (y : MethodName) (bs : ByteArray) (ml : Nat) (rt : Option FieldType) (rm : Room) (as' : Array Value) (h : Heap) (Q : Option Value → Heap → List Loc → Prop) : Prop :=
  ∀ ws : List Jvm.Cond, MetFree l y (head1 (Jvm.Cond.code y bs ml rt :: ws) rm) (fun a U => a = as' ∧ Z.Warmed39 U.vm ∧ U.heap = h) (fun _ _ _ _ _ => True) (fun _ U o U' => ∃ v L, o = .returned v ∧ Q v U'.heap L ∧ FrameEnd U o U' L rm.cells rm.slots)
theorem w_body {y : MethodName} {ml : Nat} {rt : Option FieldType} {rm : Room} {as' : Array Value} (hy : plainFor y = true) (hf : ∀ m, entryFrame m as' ml = mkF m 0 Ls [])
    (k : ∀ (p : Program) (e : Env) (s : State) (m : MethodId) (below : List Frame) (meth : Method) (c : Code) (T : State), Stand p l e rm s m as' below meth c T [] 0 0 → p.tables.exec = Jvm.exec → c.code = bs → c.maxLocals = ml → s.vm.findClass y.cls = some m.cls → meth.name = y.name → meth.sig.returnType = rt → meth.locks = false → Z.Warmed39 s.vm → T.heap = h → Wp p e below s rm.cells rm.slots Q T (mkF m 0 Ls [])) : Con l Z y bs ml rt rm as' h Q := by
  intro ws
  refine MetFree.of_bodySF hy hisR ?_
  intro p e s m args below meth c s₁ Bd hml0 hP hK
  obtain ⟨rfl, hZ, hh⟩ := hP
  have e0 : s₁.heap = h := by rw [← hh, Bd.state]; rfl
  rw [hf m]
  exact k p e s m below meth c s₁ (Stand.of_body Bd) Bd.exec Bd.bytes hml0 (findClass_of_methodNamed Bd.named) (name_of_methodNamed Bd.named Bd.method).1 Bd.returns (BodyLoose.notSynchronized Bd) hZ e0
/-- what a call leaves -/
def Called (p : Program) (l : Launch) (e : Env) (R : Room) (s : State) (m : MethodId) (args : Array Value) (below : List Frame) (meth : Method) (c : Code) (T : State) (locs : List Loc) (cells slots : Nat) (rm : Room) (Qc : Option Value → Heap → List Loc → Prop) (pc nx : Nat) (Ls : Array Slot) (stk rest : List Value) : Prop :=
  ∃ v T' L, Stand p l e R s m args below meth c T' (locs ++ L) (cells + rm.cells) (slots + rm.slots) ∧ Qc v T'.heap L ∧ Steps p.tables e below (T.setTop (mkF m pc Ls stk)) (T'.setTop (mkF m nx Ls (v.toList ++ rest)))
theorem call_S (X : Stand p l e R s m args below meth c T locs cells slots) (hx : p.tables.exec = Jvm.exec) (hby : c.code = bs) (hZ : Z.Warmed39 s.vm) {own : String} (hown : s.vm.findClass own = some m.cls) {y : MethodName} {ml : Nat} {rt : Option FieldType} {rm : Room} {as' : Array Value} {Qc : Option Value → Heap → List Loc → Prop} {index : Nat} {argsL rest : List Value} {Wd : Nat} {bs' : ByteArray} (w1 : (Cond.methodLink own index y).before a0 Z = true) (w2 : (Cond.static y).before a0 Z = true) (wz : (Cond.initialized y.cls).before a0 Z = true) (wc : (Cond.code y bs' ml rt).before a0 Z = true) (hy : y.cls ≠ "java/lang/invoke/MethodHandle" ∧ y.cls ≠ "java/lang/invoke/VarHandle") (con : Con l Z y bs' ml rt rm as' h Qc) (ha : argsL.toArray = as') (hd : In bs pc (.invokestatic index) 3 nx) (hsz : Ls.size = c.maxLocals) (hlen : ∀ sig, parseMethodDescriptor y.desc = some sig → argsL.length = sig.parameters.length) (hW : (rest.map fun v => v.category).sum = Wd) (hfr : rm.frames + 1 ≤ R.frames) (hlo : Wd + (ml + 11) + rm.locals ≤ R.locals) (hce : cells + rm.cells ≤ R.cells) (hso : slots + rm.slots ≤ R.slots) (eT : T.heap = h) : Called p l e R s m args below meth c T locs cells slots rm Qc pc nx Ls (argsL.reverse ++ rest) rest := by
  obtain ⟨d, rfl⟩ := hd
  obtain ⟨v, vm, ⟨T', L', k', n'⟩, -, X', ⟨L, q, l', y', z'⟩, st'⟩ := Jvm.LawKit.callS X hx (y := y) hown (mvT hZ w1) (mvT hZ w2) (mvT hZ wz) (mvT hZ wc) hy (backOf (W := Wd) (con []) hZ wc wz hfr hlo) (g := mkF m pc Ls (argsL.reverse ++ rest)) rfl hsz (argsL := argsL) (rest := rest) hlen rfl (by show 2 * 0 + _ ≤ _; omega) (hb hby d) (fun _ _ => ⟨ha, eT, hce, hso⟩)
  dsimp only [Pt.U, Pt.locs, Pt.cells, Pt.slots] at X' l' y' z' st' q
  subst l' y' z'
  exact ⟨v, T', L, X', q, st' _ (Steps.refl _)⟩
theorem call_N (X : Stand p l e R s m args below meth c T locs cells slots) (hx : p.tables.exec = Jvm.exec) (hby : c.code = bs) (hZ : Z.Warmed39 s.vm) {own : String} (hown : s.vm.findClass own = some m.cls) {y : MethodName} {ml : Nat} {rm : Room} {as' : Array Value} {Qc : Option Value → Heap → List Loc → Prop} {index : Nat} {argsL rest : List Value} {Wd : Nat} {bs' : ByteArray} {a : Addr} (hn : y.name = "<init>") (w1 : (Cond.methodLink own index y).before a0 Z = true) (w2 : (Cond.instanceMethod y).before a0 Z = true) (wz : (Cond.initialized y.cls).before a0 Z = true) (wc : (Cond.code y bs' ml none).before a0 Z = true) (hy : y.cls ≠ "java/lang/invoke/MethodHandle" ∧ y.cls ≠ "java/lang/invoke/VarHandle") (con : Con l Z y bs' ml none rm as' h Qc) (ha : (.ref a :: argsL).toArray = as') (hd : In bs pc (.invokespecial index) 3 nx) (hsz : Ls.size = c.maxLocals) (hlen : ∀ sig, parseMethodDescriptor y.desc = some sig → argsL.length = sig.parameters.length) (hW : (rest.map fun v => v.category).sum = Wd) (hfr : rm.frames + 1 ≤ R.frames) (hlo : Wd + (ml + 11) + rm.locals ≤ R.locals) (hce : cells + rm.cells ≤ R.cells) (hso : slots + rm.slots ≤ R.slots) (eT : T.heap = h) : Called p l e R s m args below meth c T locs cells slots rm Qc pc nx Ls (argsL.reverse ++ .ref a :: rest) rest := by
  obtain ⟨d, rfl⟩ := hd
  obtain ⟨v, vm, ⟨T', L', k', n'⟩, -, X', ⟨L, q, l', y', z'⟩, st'⟩ := X.specialBack hx (y := y) hn hown (mvT hZ w1) (mvT hZ w2) (mvT hZ wc) hy (backOf (W := Wd) (con []) hZ wc wz hfr hlo) (g := mkF m pc Ls (argsL.reverse ++ .ref a :: rest)) rfl hsz (Steps.refl _) (a := a) (argsL := argsL) (rest := rest) hlen rfl (by show 2 * 0 + _ ≤ _; omega) (hb hby d) (fun _ _ => ⟨ha, eT, hce, hso⟩)
  dsimp only [Pt.U, Pt.locs, Pt.cells, Pt.slots] at X' l' y' z' st' q
  subst l' y' z'
  exact ⟨v, T', L, X', q, st'⟩
theorem call_V (X : Stand p l e R s m args below meth c T locs cells slots) (hx : p.tables.exec = Jvm.exec) (hby : c.code = bs) (hZ : Z.Warmed39 s.vm) {own : String} (hown : s.vm.findClass own = some m.cls) {y : MethodName} {ml : Nat} {rt : Option FieldType} {rm : Room} {as' : Array Value} {Qc : Option Value → Heap → List Loc → Prop} {index : Nat} {argsL rest : List Value} {Wd : Nat} {bs' : ByteArray} {a : Addr} {C : String} (w1 : (Cond.methodLink own index y).before a0 Z = true) (w2 : (Cond.declares y).before a0 Z = true) (w3 : (Cond.selects C y y).before a0 Z = true) (w4 : (Cond.instanceMethod y).before a0 Z = true) (wz : (Cond.initialized y.cls).before a0 Z = true) (wc : (Cond.code y bs' ml rt).before a0 Z = true) (hy : y.cls ≠ "java/lang/invoke/MethodHandle" ∧ y.cls ≠ "java/lang/invoke/VarHandle") (E : Exa Z h a C) (con : Con l Z y bs' ml rt rm as' h Qc) (ha : (.ref a :: argsL).toArray = as') (hd : In bs pc (.invokevirtual index) 3 nx) (hsz : Ls.size = c.maxLocals) (hlen : ∀ sig, parseMethodDescriptor y.desc = some sig → argsL.length = sig.parameters.length) (hW : (rest.map fun v => v.category).sum = Wd) (hfr : rm.frames + 1 ≤ R.frames) (hlo : Wd + (ml + 11) + rm.locals ≤ R.locals) (hce : cells + rm.cells ≤ R.cells) (hso : slots + rm.slots ≤ R.slots) (eT : T.heap = h) : Called p l e R s m args below meth c T locs cells slots rm Qc pc nx Ls (argsL.reverse ++ .ref a :: rest) rest := by
  obtain ⟨d, rfl⟩ := hd
  obtain ⟨cq, kq, qa, qb, qc⟩ := isOf hZ eT E
  obtain ⟨v, vm, ⟨T', L', k', n'⟩, -, X', ⟨L, q, l', y', z'⟩, st'⟩ := X.virtualBack hx (y := y) (z := y) hown (mvT hZ w1) (mvT hZ w2) (notFace_of_selects (args := #[]) (mvT hZ w3)) (mvT hZ w3) (mvT hZ w4) hy (backOf (W := Wd) (con []) hZ wc wz hfr hlo) qa qc (g := mkF m pc Ls (argsL.reverse ++ .ref a :: rest)) rfl hsz (Steps.refl _) (argsL := argsL) (rest := rest) hlen rfl (by show 2 * 0 + _ ≤ _; omega) (hb hby d) (fun _ _ => ⟨ha, eT, hce, hso⟩)
  dsimp only [Pt.U, Pt.locs, Pt.cells, Pt.slots] at X' l' y' z' st' q
  subst l' y' z'
  exact ⟨v, T', L, X', q, st'⟩
theorem call_U (X : Stand p l e R s m args below meth c T locs cells slots) (hx : p.tables.exec = Jvm.exec) (hby : c.code = bs) (hZ : Z.Warmed39 s.vm) {own : String} (hown : s.vm.findClass own = some m.cls) {y : MethodName} {ml : Nat} {rt : Option FieldType} {rm : Room} {as' : Array Value} {Qc : Option Value → Heap → List Loc → Prop} {index : Nat} {argsL rest : List Value} {Wd : Nat} {bs' : ByteArray} {x : MethodName} {a : Addr} {C owner : String} (w1 : (Cond.methodLink own index x).before a0 Z = true) (w2 : (Cond.sameMethod x.cls owner x.name x.desc).before a0 Z = true) (w5 : (Cond.declares ⟨owner, x.name, x.desc⟩).before a0 Z = true) (ho : owner ≠ "java/lang/invoke/MethodHandle" ∧ owner ≠ "java/lang/invoke/VarHandle") (w3 : (Cond.selects C x y).before a0 Z = true) (w4 : (Cond.instanceMethod y).before a0 Z = true) (wz : (Cond.initialized y.cls).before a0 Z = true) (wc : (Cond.code y bs' ml rt).before a0 Z = true) (E : Exa Z h a C) (con : Con l Z y bs' ml rt rm as' h Qc) (ha : (.ref a :: argsL).toArray = as') (hd : In bs pc (.invokevirtual index) 3 nx) (hsz : Ls.size = c.maxLocals) (hlen : ∀ sig, parseMethodDescriptor x.desc = some sig → argsL.length = sig.parameters.length) (hW : (rest.map fun v => v.category).sum = Wd) (hfr : rm.frames + 1 ≤ R.frames) (hlo : Wd + (ml + 11) + rm.locals ≤ R.locals) (hce : cells + rm.cells ≤ R.cells) (hso : slots + rm.slots ≤ R.slots) (eT : T.heap = h) : Called p l e R s m args below meth c T locs cells slots rm Qc pc nx Ls (argsL.reverse ++ .ref a :: rest) rest := by
  obtain ⟨d, rfl⟩ := hd
  obtain ⟨cq, kq, qa, qb, qc⟩ := isOf hZ eT E
  obtain ⟨v, vm, ⟨T', L', k', n'⟩, -, X', ⟨L, q, l', y', z'⟩, st'⟩ := X.virtualBackUp hx (x := x) (y := y) hown (mvT hZ w1) (mvT hZ w2) (mvT hZ w5) ho (mvT hZ w3) (mvT hZ w4) (backOf (W := Wd) (con []) hZ wc wz hfr hlo) qa qc (g := mkF m pc Ls (argsL.reverse ++ .ref a :: rest)) rfl hsz (Steps.refl _) (argsL := argsL) (rest := rest) hlen rfl (by show 2 * 0 + _ ≤ _; omega) (hb hby d) (fun _ _ => ⟨ha, eT, hce, hso⟩)
  dsimp only [Pt.U, Pt.locs, Pt.cells, Pt.slots] at X' l' y' z' st' q
  subst l' y' z'
  exact ⟨v, T', L, X', q, st'⟩
/-- behind a call -/
theorem w_called {rm : Room} {Qc : Option Value → Heap → List Loc → Prop} {stk rest : List Value} (hc : Called p l e R s m args below meth c T locs cells slots rm Qc pc nx Ls stk rest)
    (k : ∀ v T' L, Stand p l e R s m args below meth c T' (locs ++ L) (cells + rm.cells) (slots + rm.slots) → Qc v T'.heap L → Wp p e below s K N Q T' (mkF m nx Ls (v.toList ++ rest))) : Wp p e below s K N Q T (mkF m pc Ls stk) := by
  obtain ⟨v, T', L, X', q, st'⟩ := hc; exact Wp.tr st' (k v T' L X' q)
/-- behind a call that writes nothing and makes nothing -/
theorem w_calledp {rm : Room} {w : Value} {stk rest : List Value} (hc : Called p l e R s m args below meth c T locs cells slots rm (fun v h' L => v = some w ∧ h' = h ∧ L = []) pc nx Ls stk rest) (h1 : rm.cells = 0) (h2 : rm.slots = 0)
    (k : ∀ T', Stand p l e R s m args below meth c T' locs cells slots → T'.heap = h → Wp p e below s K N Q T' (mkF m nx Ls (w :: rest))) : Wp p e below s K N Q T (mkF m pc Ls stk) := by
  obtain ⟨v, T', L, X', ⟨rfl, q, rfl⟩, st'⟩ := hc
  rw [h1, h2, List.append_nil] at X'
  exact Wp.tr st' (k T' X' q)
theorem w_retI (X : Stand p l e R s m args below meth c T locs cells slots) (hx : p.tables.exec = Jvm.exec) (hby : c.code = bs) (eT : T.heap = h) (hlk : meth.locks = false) {z : Int32} (hret : meth.sig.returnType = some .int) (hd : In bs pc .ireturn 1 nx) (hK : cells ≤ K) (hN : slots ≤ N) (q : Q (some (.int z)) h locs) : Wp p e below s K N Q T (mkF m pc Ls (.int z :: st)) := by
  obtain ⟨fs, hr, hrun, hended, hW, hsame⟩ := X.leave (v := some (.int z)) (fun h => by rw [hret] at h; cases h) hlk
  subst eT
  refine ⟨_, _, ?_, hrun, hended, _, _, rfl, q, ⟨_, rfl⟩, hW, hsame.mono hK hN⟩
  exact retOut X hx hret rfl (Or.inl ⟨rfl, Or.inl rfl, z, rfl⟩) (hb hby hd.1) hr
theorem w_retN (X : Stand p l e R s m args below meth c T locs cells slots) (hx : p.tables.exec = Jvm.exec) (hby : c.code = bs) (eT : T.heap = h) (hlk : meth.locks = false) {z : Int32} {t : FieldType} (hret : meth.sig.returnType = some t) (ht : t = .boolean ∨ t = .byte ∨ t = .char ∨ t = .short) (hd : In bs pc .ireturn 1 nx) (hK : cells ≤ K) (hN : slots ≤ N) (q : Q (some (.int (nar t z))) h locs) : Wp p e below s K N Q T (mkF m pc Ls (.int z :: st)) := by
  obtain ⟨fs, hr, hrun, hended, hW, hsame⟩ := X.leave (v := some (.int (nar t z))) (fun h => by rw [hret] at h; cases h) hlk
  subst eT
  refine ⟨_, _, ?_, hrun, hended, _, _, rfl, q, ⟨_, rfl⟩, hW, hsame.mono hK hN⟩
  exact retN X hx hret ht (hb hby hd.1) hr
theorem w_retJ (X : Stand p l e R s m args below meth c T locs cells slots) (hx : p.tables.exec = Jvm.exec) (hby : c.code = bs) (eT : T.heap = h) (hlk : meth.locks = false) {z : Int64} (hret : meth.sig.returnType = some .long) (hd : In bs pc .lreturn 1 nx) (hK : cells ≤ K) (hN : slots ≤ N) (q : Q (some (.long z)) h locs) : Wp p e below s K N Q T (mkF m pc Ls (.long z :: st)) := by
  obtain ⟨fs, hr, hrun, hended, hW, hsame⟩ := X.leave (v := some (.long z)) (fun h => by rw [hret] at h; cases h) hlk
  subst eT
  refine ⟨_, _, ?_, hrun, hended, _, _, rfl, q, ⟨_, rfl⟩, hW, hsame.mono hK hN⟩
  exact retOut X hx hret rfl (Or.inr (Or.inl ⟨rfl, rfl, z, rfl⟩)) (hb hby hd.1) hr
theorem w_retA (X : Stand p l e R s m args below meth c T locs cells slots) (hx : p.tables.exec = Jvm.exec) (hby : c.code = bs) (eT : T.heap = h) (hlk : meth.locks = false) {w : Value} {t : FieldType} (hret : meth.sig.returnType = some t) (ht : t.isReference = true) (hw : w.isRef = true) (hn : narrow t w = w) (hd : In bs pc .areturn 1 nx) (hK : cells ≤ K) (hN : slots ≤ N) (q : Q (some w) h locs) : Wp p e below s K N Q T (mkF m pc Ls (w :: st)) := by
  obtain ⟨fs, hr, hrun, hended, hW, hsame⟩ := X.leave (v := some w) (fun h => by rw [hret] at h; cases h) hlk
  subst eT
  refine ⟨_, _, ?_, hrun, hended, _, _, rfl, q, ⟨_, rfl⟩, hW, hsame.mono hK hN⟩
  exact retOut X hx hret hn (Or.inr (Or.inr (Or.inr (Or.inr ⟨rfl, ht, hw⟩)))) (hb hby hd.1) hr
theorem w_retV (X : Stand p l e R s m args below meth c T locs cells slots) (hx : p.tables.exec = Jvm.exec) (hby : c.code = bs) (eT : T.heap = h) (hlk : meth.locks = false) (hret : meth.sig.returnType = none) (hd : In bs pc .return_ 1 nx) (hK : cells ≤ K) (hN : slots ≤ N) (q : Q none h locs) : Wp p e below s K N Q T (mkF m pc Ls []) := by
  obtain ⟨fs, hr, hrun, hended, hW, hsame⟩ := X.leave (v := none) (fun _ => rfl) hlk
  subst eT
  refine ⟨_, _, ?_, hrun, hended, _, _, rfl, q, ⟨_, rfl⟩, hW, hsame.mono hK hN⟩
  exact X.returnOut hx hret (hb hby hd.1) hr
theorem own_ns {Z : State} {h : Heap} {a : Addr} {K : String} (E : Exa Z h a K) : ∃ c : Cell, h[a]? = some c ∧ c.vm.isStatics = false := by
  obtain ⟨c, _, h1, -, -, h4, -⟩ := E; exact ⟨c, h1, h4⟩
theorem own_nsV {Z : State} {h : Heap} {a : Addr} {k : ClassId} {ty : FieldType} {n : Int32} {vs : List Value} {dv : Value} (E : Arv Z h a k ty n vs dv) : ∃ c : Cell, h[a]? = some c ∧ c.vm.isStatics = false := by
  obtain ⟨c, A, -⟩ := E; exact ⟨c, A.1, A.plain⟩
theorem own_sta_keep {Z : State} {h h' : Heap} {C n d : String} {v : Value} {ws : List Addr} (F : Sta Z h C n d v) (K : Keep h h' ws) (q : ∀ x ∈ ws, ∃ c : Cell, h[x]? = some c ∧ c.vm.isStatics = false) : Sta Z h' C n d v := by
  obtain ⟨cf, i, k, f, st, cell, h1, h2, h3, h4, h5, h6, h7⟩ := F
  refine ⟨cf, i, k, f, st, cell, h1, h2, h3, h4, K.2.1 _ _ h5 (fun hm => ?_), h6, h7⟩
  obtain ⟨c, e1, e2⟩ := q st hm
  cases h5.symm.trans e1
  rw [h6] at e2; cases e2
theorem own_ext_keep {h h' : Heap} (E : Ext h h') : Keep h h' [] := (Keep.refl h []).ext E
theorem own_keep_ext {h h' : Heap} (K : Keep h h' []) : Ext h h' := ⟨K.1, fun a c q => K.2.1 a c q nin0⟩
end OwnKit
theorem t_0 : (Jvm.Cond.methodLink "com/example/claim_quorum/claimquorum/GrantRefusedPinLaw" (7 : Nat) ({ cls := "com/example/claim_quorum/claimquorum/LockStore$Grant", name := "refused", desc := "(J)Lcom/example/claim_quorum/claimquorum/LockStore$Grant;" } : Jvm.MethodName)) ∈ tables_1 := List.mem_of_getElem? (i := 0) rfl
theorem t_1 : (Jvm.Cond.static ({ cls := "com/example/claim_quorum/claimquorum/LockStore$Grant", name := "refused", desc := "(J)Lcom/example/claim_quorum/claimquorum/LockStore$Grant;" } : Jvm.MethodName)) ∈ tables_1 := List.mem_of_getElem? (i := 1) rfl
theorem t_2 : (Jvm.Cond.initialized "com/example/claim_quorum/claimquorum/LockStore$Grant") ∈ tables_1 := List.mem_of_getElem? (i := 2) rfl
theorem t_3 : (Jvm.Cond.code ({ cls := "com/example/claim_quorum/claimquorum/LockStore$Grant", name := "refused", desc := "(J)Lcom/example/claim_quorum/claimquorum/LockStore$Grant;" } : Jvm.MethodName) prog_4_method_2_code (2 : Nat) (Option.some (Jvm.ClassFile.FieldType.object "com/example/claim_quorum/claimquorum/LockStore$Grant"))) ∈ tables_1 := List.mem_of_getElem? (i := 3) rfl
theorem t_4 : (Jvm.Cond.classLink "com/example/claim_quorum/claimquorum/LockStore$Grant" (8 : Nat) "com/example/claim_quorum/claimquorum/LockStore$Grant") ∈ tables_1 := List.mem_of_getElem? (i := 4) rfl
theorem t_5 : (Jvm.Cond.instantiable "com/example/claim_quorum/claimquorum/LockStore$Grant" (4 : Nat)) ∈ tables_1 := List.mem_of_getElem? (i := 5) rfl
theorem t_6 : (Jvm.Cond.methodLink "com/example/claim_quorum/claimquorum/LockStore$Grant" (27 : Nat) ({ cls := "com/example/claim_quorum/claimquorum/LockStore$Grant", name := "<init>", desc := "(ZZJJ)V" } : Jvm.MethodName)) ∈ tables_1 := List.mem_of_getElem? (i := 6) rfl
theorem t_7 : (Jvm.Cond.instanceMethod ({ cls := "com/example/claim_quorum/claimquorum/LockStore$Grant", name := "<init>", desc := "(ZZJJ)V" } : Jvm.MethodName)) ∈ tables_1 := List.mem_of_getElem? (i := 7) rfl
theorem t_8 : (Jvm.Cond.code ({ cls := "com/example/claim_quorum/claimquorum/LockStore$Grant", name := "<init>", desc := "(ZZJJ)V" } : Jvm.MethodName) prog_4_method_1_code (7 : Nat) (Option.none : Option Jvm.ClassFile.FieldType)) ∈ tables_1 := List.mem_of_getElem? (i := 8) rfl
theorem t_9 : (Jvm.Cond.methodLink "com/example/claim_quorum/claimquorum/LockStore$Grant" (1 : Nat) ({ cls := "java/lang/Object", name := "<init>", desc := "()V" } : Jvm.MethodName)) ∈ tables_1 := List.mem_of_getElem? (i := 9) rfl
theorem t_10 : (Jvm.Cond.instanceMethod ({ cls := "java/lang/Object", name := "<init>", desc := "()V" } : Jvm.MethodName)) ∈ tables_1 := List.mem_of_getElem? (i := 10) rfl
theorem t_11 : (Jvm.Cond.code ({ cls := "java/lang/Object", name := "<init>", desc := "()V" } : Jvm.MethodName) object_method_1_code (1 : Nat) (Option.none : Option Jvm.ClassFile.FieldType)) ∈ tables_1 := List.mem_of_getElem? (i := 11) rfl
theorem t_12 : (Jvm.Cond.fieldLink "com/example/claim_quorum/claimquorum/LockStore$Grant" (7 : Nat) "com/example/claim_quorum/claimquorum/LockStore$Grant" "granted" "Z") ∈ tables_1 := List.mem_of_getElem? (i := 12) rfl
theorem t_13 : (Jvm.Cond.laysFinal "com/example/claim_quorum/claimquorum/LockStore$Grant" "com/example/claim_quorum/claimquorum/LockStore$Grant" "granted" "Z") ∈ tables_1 := List.mem_of_getElem? (i := 13) rfl
theorem t_14 : (Jvm.Cond.fieldLink "com/example/claim_quorum/claimquorum/LockStore$Grant" (13 : Nat) "com/example/claim_quorum/claimquorum/LockStore$Grant" "reentry" "Z") ∈ tables_1 := List.mem_of_getElem? (i := 14) rfl
theorem t_15 : (Jvm.Cond.laysFinal "com/example/claim_quorum/claimquorum/LockStore$Grant" "com/example/claim_quorum/claimquorum/LockStore$Grant" "reentry" "Z") ∈ tables_1 := List.mem_of_getElem? (i := 15) rfl
theorem t_16 : (Jvm.Cond.fieldLink "com/example/claim_quorum/claimquorum/LockStore$Grant" (16 : Nat) "com/example/claim_quorum/claimquorum/LockStore$Grant" "token" "J") ∈ tables_1 := List.mem_of_getElem? (i := 16) rfl
theorem t_17 : (Jvm.Cond.laysFinal "com/example/claim_quorum/claimquorum/LockStore$Grant" "com/example/claim_quorum/claimquorum/LockStore$Grant" "token" "J") ∈ tables_1 := List.mem_of_getElem? (i := 17) rfl
theorem t_18 : (Jvm.Cond.fieldLink "com/example/claim_quorum/claimquorum/LockStore$Grant" (20 : Nat) "com/example/claim_quorum/claimquorum/LockStore$Grant" "leaseLeftMillis" "J") ∈ tables_1 := List.mem_of_getElem? (i := 18) rfl
theorem t_19 : (Jvm.Cond.laysFinal "com/example/claim_quorum/claimquorum/LockStore$Grant" "com/example/claim_quorum/claimquorum/LockStore$Grant" "leaseLeftMillis" "J") ∈ tables_1 := List.mem_of_getElem? (i := 19) rfl
theorem t_20 : (Jvm.Cond.methodLink "com/example/claim_quorum/claimquorum/GrantRefusedPinLaw" (13 : Nat) ({ cls := "com/example/claim_quorum/claimquorum/LockStore$Grant", name := "isGranted", desc := "()Z" } : Jvm.MethodName)) ∈ tables_1 := List.mem_of_getElem? (i := 20) rfl
theorem t_21 : (Jvm.Cond.declares ({ cls := "com/example/claim_quorum/claimquorum/LockStore$Grant", name := "isGranted", desc := "()Z" } : Jvm.MethodName)) ∈ tables_1 := List.mem_of_getElem? (i := 21) rfl
theorem t_22 : (Jvm.Cond.instanceMethod ({ cls := "com/example/claim_quorum/claimquorum/LockStore$Grant", name := "isGranted", desc := "()Z" } : Jvm.MethodName)) ∈ tables_1 := List.mem_of_getElem? (i := 22) rfl
theorem t_23 : (Jvm.Cond.selects "com/example/claim_quorum/claimquorum/LockStore$Grant" ({ cls := "com/example/claim_quorum/claimquorum/LockStore$Grant", name := "isGranted", desc := "()Z" } : Jvm.MethodName) ({ cls := "com/example/claim_quorum/claimquorum/LockStore$Grant", name := "isGranted", desc := "()Z" } : Jvm.MethodName)) ∈ tables_1 := List.mem_of_getElem? (i := 23) rfl
theorem t_24 : (Jvm.Cond.code ({ cls := "com/example/claim_quorum/claimquorum/LockStore$Grant", name := "isGranted", desc := "()Z" } : Jvm.MethodName) prog_4_method_4_code (1 : Nat) (Option.some Jvm.ClassFile.FieldType.boolean)) ∈ tables_1 := List.mem_of_getElem? (i := 24) rfl
theorem t_25 : (Jvm.Cond.methodLink "com/example/claim_quorum/claimquorum/GrantRefusedPinLaw" (17 : Nat) ({ cls := "com/example/claim_quorum/claimquorum/LockStore$Grant", name := "isReentry", desc := "()Z" } : Jvm.MethodName)) ∈ tables_1 := List.mem_of_getElem? (i := 25) rfl
theorem t_26 : (Jvm.Cond.declares ({ cls := "com/example/claim_quorum/claimquorum/LockStore$Grant", name := "isReentry", desc := "()Z" } : Jvm.MethodName)) ∈ tables_1 := List.mem_of_getElem? (i := 26) rfl
theorem t_27 : (Jvm.Cond.instanceMethod ({ cls := "com/example/claim_quorum/claimquorum/LockStore$Grant", name := "isReentry", desc := "()Z" } : Jvm.MethodName)) ∈ tables_1 := List.mem_of_getElem? (i := 27) rfl
theorem t_28 : (Jvm.Cond.selects "com/example/claim_quorum/claimquorum/LockStore$Grant" ({ cls := "com/example/claim_quorum/claimquorum/LockStore$Grant", name := "isReentry", desc := "()Z" } : Jvm.MethodName) ({ cls := "com/example/claim_quorum/claimquorum/LockStore$Grant", name := "isReentry", desc := "()Z" } : Jvm.MethodName)) ∈ tables_1 := List.mem_of_getElem? (i := 28) rfl
theorem t_29 : (Jvm.Cond.code ({ cls := "com/example/claim_quorum/claimquorum/LockStore$Grant", name := "isReentry", desc := "()Z" } : Jvm.MethodName) prog_4_method_5_code (1 : Nat) (Option.some Jvm.ClassFile.FieldType.boolean)) ∈ tables_1 := List.mem_of_getElem? (i := 29) rfl
theorem t_30 : (Jvm.Cond.methodLink "com/example/claim_quorum/claimquorum/GrantRefusedPinLaw" (20 : Nat) ({ cls := "com/example/claim_quorum/claimquorum/LockStore$Grant", name := "token", desc := "()J" } : Jvm.MethodName)) ∈ tables_1 := List.mem_of_getElem? (i := 30) rfl
theorem t_31 : (Jvm.Cond.declares ({ cls := "com/example/claim_quorum/claimquorum/LockStore$Grant", name := "token", desc := "()J" } : Jvm.MethodName)) ∈ tables_1 := List.mem_of_getElem? (i := 31) rfl
theorem t_32 : (Jvm.Cond.instanceMethod ({ cls := "com/example/claim_quorum/claimquorum/LockStore$Grant", name := "token", desc := "()J" } : Jvm.MethodName)) ∈ tables_1 := List.mem_of_getElem? (i := 32) rfl
theorem t_33 : (Jvm.Cond.selects "com/example/claim_quorum/claimquorum/LockStore$Grant" ({ cls := "com/example/claim_quorum/claimquorum/LockStore$Grant", name := "token", desc := "()J" } : Jvm.MethodName) ({ cls := "com/example/claim_quorum/claimquorum/LockStore$Grant", name := "token", desc := "()J" } : Jvm.MethodName)) ∈ tables_1 := List.mem_of_getElem? (i := 33) rfl
theorem t_34 : (Jvm.Cond.code ({ cls := "com/example/claim_quorum/claimquorum/LockStore$Grant", name := "token", desc := "()J" } : Jvm.MethodName) prog_4_method_6_code (1 : Nat) (Option.some Jvm.ClassFile.FieldType.long)) ∈ tables_1 := List.mem_of_getElem? (i := 34) rfl
theorem t_35 : (Jvm.Cond.methodLink "com/example/claim_quorum/claimquorum/GrantRefusedPinLaw" (24 : Nat) ({ cls := "com/example/claim_quorum/claimquorum/LockStore$Grant", name := "leaseLeftMillis", desc := "()J" } : Jvm.MethodName)) ∈ tables_1 := List.mem_of_getElem? (i := 35) rfl
theorem t_36 : (Jvm.Cond.declares ({ cls := "com/example/claim_quorum/claimquorum/LockStore$Grant", name := "leaseLeftMillis", desc := "()J" } : Jvm.MethodName)) ∈ tables_1 := List.mem_of_getElem? (i := 36) rfl
theorem t_37 : (Jvm.Cond.instanceMethod ({ cls := "com/example/claim_quorum/claimquorum/LockStore$Grant", name := "leaseLeftMillis", desc := "()J" } : Jvm.MethodName)) ∈ tables_1 := List.mem_of_getElem? (i := 37) rfl
theorem t_38 : (Jvm.Cond.selects "com/example/claim_quorum/claimquorum/LockStore$Grant" ({ cls := "com/example/claim_quorum/claimquorum/LockStore$Grant", name := "leaseLeftMillis", desc := "()J" } : Jvm.MethodName) ({ cls := "com/example/claim_quorum/claimquorum/LockStore$Grant", name := "leaseLeftMillis", desc := "()J" } : Jvm.MethodName)) ∈ tables_1 := List.mem_of_getElem? (i := 38) rfl
theorem t_39 : (Jvm.Cond.code ({ cls := "com/example/claim_quorum/claimquorum/LockStore$Grant", name := "leaseLeftMillis", desc := "()J" } : Jvm.MethodName) prog_4_method_7_code (1 : Nat) (Option.some Jvm.ClassFile.FieldType.long)) ∈ tables_1 := List.mem_of_getElem? (i := 39) rfl
theorem t_40 : (Jvm.Cond.fieldLink "com/example/claim_quorum/claimquorum/LockStore$Grant" (23 : Nat) "com/example/claim_quorum/claimquorum/LockStore$Grant" "REFUSED" "Lcom/example/claim_quorum/claimquorum/LockStore$Grant;") ∈ tables_1 := List.mem_of_getElem? (i := 40) rfl
theorem t_41 : (Jvm.Cond.laysStatic "com/example/claim_quorum/claimquorum/LockStore$Grant" "REFUSED" "Lcom/example/claim_quorum/claimquorum/LockStore$Grant;") ∈ tables_1 := List.mem_of_getElem? (i := 41) rfl
theorem n2_0 : In prog_4_method_1_code 0 (.aload_n 0) 1 1 := ⟨by decide +kernel, rfl⟩
theorem n2_1 : In prog_4_method_1_code 1 (.invokespecial 1) 3 4 := ⟨by decide +kernel, rfl⟩
theorem n2_4 : In prog_4_method_1_code 4 (.aload_n 0) 1 5 := ⟨by decide +kernel, rfl⟩
theorem n2_5 : In prog_4_method_1_code 5 (.iload_n 1) 1 6 := ⟨by decide +kernel, rfl⟩
theorem n2_6 : In prog_4_method_1_code 6 (.putfield 7) 3 9 := ⟨by decide +kernel, rfl⟩
theorem n2_9 : In prog_4_method_1_code 9 (.aload_n 0) 1 10 := ⟨by decide +kernel, rfl⟩
theorem n2_10 : In prog_4_method_1_code 10 (.iload_n 2) 1 11 := ⟨by decide +kernel, rfl⟩
theorem n2_11 : In prog_4_method_1_code 11 (.putfield 13) 3 14 := ⟨by decide +kernel, rfl⟩
theorem n2_14 : In prog_4_method_1_code 14 (.aload_n 0) 1 15 := ⟨by decide +kernel, rfl⟩
theorem n2_15 : In prog_4_method_1_code 15 (.lload_n 3) 1 16 := ⟨by decide +kernel, rfl⟩
theorem n2_16 : In prog_4_method_1_code 16 (.putfield 16) 3 19 := ⟨by decide +kernel, rfl⟩
theorem n2_19 : In prog_4_method_1_code 19 (.aload_n 0) 1 20 := ⟨by decide +kernel, rfl⟩
theorem n2_20 : In prog_4_method_1_code 20 (.lload 5) 2 22 := ⟨by decide +kernel, rfl⟩
theorem n2_22 : In prog_4_method_1_code 22 (.putfield 20) 3 25 := ⟨by decide +kernel, rfl⟩
theorem n2_25 : In prog_4_method_1_code 25 (.return_) 1 26 := ⟨by decide +kernel, rfl⟩
theorem pn_2 : plainFor (⟨"com/example/claim_quorum/claimquorum/LockStore$Grant", "<init>", "(ZZJJ)V"⟩ : MethodName) = true := plainFor_of_name (by first | (simp [plainName, overriddenIn]; done) | decide +kernel)
theorem n4_0 : In prog_4_method_4_code 0 (.aload_n 0) 1 1 := ⟨by decide +kernel, rfl⟩
theorem n4_1 : In prog_4_method_4_code 1 (.getfield 7) 3 4 := ⟨by decide +kernel, rfl⟩
theorem n4_4 : In prog_4_method_4_code 4 (.ireturn) 1 5 := ⟨by decide +kernel, rfl⟩
theorem pn_4 : plainFor (⟨"com/example/claim_quorum/claimquorum/LockStore$Grant", "isGranted", "()Z"⟩ : MethodName) = true := plainFor_of_name (by first | (simp [plainName, overriddenIn]; done) | decide +kernel)
theorem n5_0 : In prog_4_method_5_code 0 (.aload_n 0) 1 1 := ⟨by decide +kernel, rfl⟩
theorem n5_1 : In prog_4_method_5_code 1 (.getfield 13) 3 4 := ⟨by decide +kernel, rfl⟩
theorem n5_4 : In prog_4_method_5_code 4 (.ireturn) 1 5 := ⟨by decide +kernel, rfl⟩
theorem pn_5 : plainFor (⟨"com/example/claim_quorum/claimquorum/LockStore$Grant", "isReentry", "()Z"⟩ : MethodName) = true := plainFor_of_name (by first | (simp [plainName, overriddenIn]; done) | decide +kernel)
theorem n6_0 : In prog_4_method_6_code 0 (.aload_n 0) 1 1 := ⟨by decide +kernel, rfl⟩
theorem n6_1 : In prog_4_method_6_code 1 (.getfield 16) 3 4 := ⟨by decide +kernel, rfl⟩
theorem n6_4 : In prog_4_method_6_code 4 (.lreturn) 1 5 := ⟨by decide +kernel, rfl⟩
theorem pn_6 : plainFor (⟨"com/example/claim_quorum/claimquorum/LockStore$Grant", "token", "()J"⟩ : MethodName) = true := plainFor_of_name (by first | (simp [plainName, overriddenIn]; done) | decide +kernel)
theorem n7_0 : In prog_4_method_7_code 0 (.aload_n 0) 1 1 := ⟨by decide +kernel, rfl⟩
theorem n7_1 : In prog_4_method_7_code 1 (.getfield 20) 3 4 := ⟨by decide +kernel, rfl⟩
theorem n7_4 : In prog_4_method_7_code 4 (.lreturn) 1 5 := ⟨by decide +kernel, rfl⟩
theorem pn_7 : plainFor (⟨"com/example/claim_quorum/claimquorum/LockStore$Grant", "leaseLeftMillis", "()J"⟩ : MethodName) = true := plainFor_of_name (by first | (simp [plainName, overriddenIn]; done) | decide +kernel)
theorem n1_0 : In prog_4_method_2_code 0 (.lload_n 0) 1 1 := ⟨by decide +kernel, rfl⟩
theorem n1_1 : In prog_4_method_2_code 1 (.lconst 0) 1 2 := ⟨by decide +kernel, rfl⟩
theorem n1_2 : In prog_4_method_2_code 2 (.lcmp) 1 3 := ⟨by decide +kernel, rfl⟩
theorem n1_3 : Jm prog_4_method_2_code 3 (.ifCond .ge 9) 9 6 12 := ⟨by decide +kernel, rfl, by decide, by decide⟩
theorem n1_12 : In prog_4_method_2_code 12 (.new 8) 3 15 := ⟨by decide +kernel, rfl⟩
theorem n1_15 : In prog_4_method_2_code 15 (.dup) 1 16 := ⟨by decide +kernel, rfl⟩
theorem n1_16 : In prog_4_method_2_code 16 (.iconst 0) 1 17 := ⟨by decide +kernel, rfl⟩
theorem n1_17 : In prog_4_method_2_code 17 (.iconst 0) 1 18 := ⟨by decide +kernel, rfl⟩
theorem n1_18 : In prog_4_method_2_code 18 (.lconst 0) 1 19 := ⟨by decide +kernel, rfl⟩
theorem n1_19 : In prog_4_method_2_code 19 (.lload_n 0) 1 20 := ⟨by decide +kernel, rfl⟩
theorem n1_20 : In prog_4_method_2_code 20 (.invokespecial 27) 3 23 := ⟨by decide +kernel, rfl⟩
theorem pd_4974 : parseMethodDescriptor "(ZZJJ)V" = some ⟨[.boolean, .boolean, .long, .long], none⟩ := by decide +kernel
theorem n1_23 : In prog_4_method_2_code 23 (.areturn) 1 24 := ⟨by decide +kernel, rfl⟩
theorem n1_6 : In prog_4_method_2_code 6 (.getstatic 23) 3 9 := ⟨by decide +kernel, rfl⟩
theorem n1_9 : Jm prog_4_method_2_code 9 (.goto 14) 14 12 23 := ⟨by decide +kernel, rfl, by decide, by decide⟩
theorem pn_1 : plainFor (⟨"com/example/claim_quorum/claimquorum/LockStore$Grant", "refused", "(J)Lcom/example/claim_quorum/claimquorum/LockStore$Grant;"⟩ : MethodName) = true := plainFor_of_name (by first | (simp [plainName, overriddenIn]; done) | decide +kernel)
theorem n0_0 : In code 0 (.lload_n 0) 1 1 := ⟨at_0, rfl⟩
theorem n0_1 : In code 1 (.invokestatic 7) 3 4 := ⟨at_1, rfl⟩
theorem pd_195439 : parseMethodDescriptor "(J)Lcom/example/claim_quorum/claimquorum/LockStore$Grant;" = some ⟨[.long], some (.object "com/example/claim_quorum/claimquorum/LockStore$Grant")⟩ := by decide +kernel
theorem n0_4 : In code 4 (.astore_n 2) 1 5 := ⟨at_4, rfl⟩
theorem n0_5 : In code 5 (.aload_n 2) 1 6 := ⟨at_5, rfl⟩
theorem n0_6 : Jm code 6 (.ifnonnull 5) 5 9 11 := ⟨at_6, rfl, by decide, by decide⟩
theorem n0_11 : In code 11 (.aload_n 2) 1 12 := ⟨at_11, rfl⟩
theorem n0_12 : In code 12 (.invokevirtual 13) 3 15 := ⟨at_12, rfl⟩
theorem pd_1418 : parseMethodDescriptor "()Z" = some ⟨[], some .boolean⟩ := by decide +kernel
theorem n0_15 : Jm code 15 (.ifCond .eq 5) 5 18 20 := ⟨at_15, rfl, by decide, by decide⟩
theorem n0_20 : In code 20 (.aload_n 2) 1 21 := ⟨at_20, rfl⟩
theorem n0_21 : In code 21 (.invokevirtual 17) 3 24 := ⟨at_21, rfl⟩
theorem n0_24 : Jm code 24 (.ifCond .eq 5) 5 27 29 := ⟨at_24, rfl, by decide, by decide⟩
theorem n0_29 : In code 29 (.aload_n 2) 1 30 := ⟨at_29, rfl⟩
theorem n0_30 : In code 30 (.invokevirtual 20) 3 33 := ⟨at_30, rfl⟩
theorem pd_1274 : parseMethodDescriptor "()J" = some ⟨[], some .long⟩ := by decide +kernel
theorem n0_33 : In code 33 (.lconst 0) 1 34 := ⟨at_33, rfl⟩
theorem n0_34 : In code 34 (.lcmp) 1 35 := ⟨at_34, rfl⟩
theorem n0_35 : Jm code 35 (.ifCond .eq 5) 5 38 40 := ⟨at_35, rfl, by decide, by decide⟩
theorem n0_40 : In code 40 (.aload_n 2) 1 41 := ⟨at_40, rfl⟩
theorem n0_41 : In code 41 (.invokevirtual 24) 3 44 := ⟨at_41, rfl⟩
theorem n0_44 : In code 44 (.lstore_n 3) 1 45 := ⟨at_44, rfl⟩
theorem n0_45 : In code 45 (.lload_n 0) 1 46 := ⟨at_45, rfl⟩
theorem n0_46 : In code 46 (.lconst 0) 1 47 := ⟨at_46, rfl⟩
theorem n0_47 : In code 47 (.lcmp) 1 48 := ⟨at_47, rfl⟩
theorem n0_48 : Jm code 48 (.ifCond .ge 15) 15 51 63 := ⟨at_48, rfl, by decide, by decide⟩
theorem n0_63 : In code 63 (.lload_n 3) 1 64 := ⟨at_63, rfl⟩
theorem n0_64 : In code 64 (.lload_n 0) 1 65 := ⟨at_64, rfl⟩
theorem n0_65 : In code 65 (.lcmp) 1 66 := ⟨at_65, rfl⟩
theorem n0_66 : Jm code 66 (.ifCond .ne 7) 7 69 73 := ⟨at_66, rfl, by decide, by decide⟩
theorem n0_69 : In code 69 (.iconst 1) 1 70 := ⟨at_69, rfl⟩
theorem n0_70 : Jm code 70 (.goto 4) 4 73 74 := ⟨at_70, rfl, by decide, by decide⟩
theorem n0_74 : In code 74 (.ireturn) 1 75 := ⟨at_74, rfl⟩
theorem n0_51 : In code 51 (.lload_n 3) 1 52 := ⟨at_51, rfl⟩
theorem n0_52 : In code 52 (.lconst 0) 1 53 := ⟨at_52, rfl⟩
theorem n0_53 : In code 53 (.lcmp) 1 54 := ⟨at_53, rfl⟩
theorem n0_54 : Jm code 54 (.ifCond .ge 7) 7 57 61 := ⟨at_54, rfl, by decide, by decide⟩
theorem n0_57 : In code 57 (.iconst 1) 1 58 := ⟨at_57, rfl⟩
theorem n0_58 : Jm code 58 (.goto 4) 4 61 62 := ⟨at_58, rfl, by decide, by decide⟩
theorem n0_62 : In code 62 (.ireturn) 1 63 := ⟨at_62, rfl⟩
theorem pn_0 : plainFor (⟨"com/example/claim_quorum/claimquorum/GrantRefusedPinLaw", "law", "(J)Z"⟩ : MethodName) = true := plainFor_of_name (by first | (simp [plainName, overriddenIn]; done) | decide +kernel)
theorem own_eqI {t : Term} {k : Int32} {args : Array Value} {s : State} (h : (Cond.eq t (.int k)).value args s none s [] = some true) : t.eval args s none [] s = some (.int k) := by
  obtain ⟨x, y, h1, h2, h3, -⟩ := cmp_v (Or.inl h)
  cases (Option.some.inj h2 : (Value.int k) = y)
  cases x <;> first | (have := gotT (Cond.eq_ints h1 h2) h; rw [h1, this]; done) | (simp [Kin, Value.isRef] at h3; done)
theorem own_eqL {t : Term} {k : Int64} {args : Array Value} {s : State} (h : (Cond.eq t (.long k)).value args s none s [] = some true) : t.eval args s none [] s = some (.long k) := by
  obtain ⟨x, y, h1, h2, h3, -⟩ := cmp_v (Or.inl h)
  cases (Option.some.inj h2 : (Value.long k) = y)
  cases x <;> first | (have := gotT (eq_L h1 h2) h; rw [h1, this]; done) | (simp [Kin, Value.isRef] at h3; done)
theorem own_eqR {a b : Term} {y : Addr} {args : Array Value} {s : State} (h : (Cond.eq a b).value args s none s [] = some true) (hb : b.eval args s none [] s = some (.ref y)) : a.eval args s none [] s = some (.ref y) := by
  obtain ⟨x, y', h1, h2, h3, h4⟩ := cmp_v (Or.inl h)
  cases h2.symm.trans hb
  have hx : x.isRef = true := h4.2
  have := gotT (eq_R h1 h2 hx rfl) h
  rw [h1, this]
theorem own_nar1 : nar .boolean 1 = 1 := rfl
theorem own_nar0 : nar .boolean 0 = 0 := rfl
set_option maxRecDepth 65536 in
set_option maxHeartbeats 4000000 in
theorem ef_rmN (m : MethodId) (x0 : Addr) (x1 : Int32) (x2 : Int32) (x3 : Int64) (x4 : Int64) : entryFrame m #[(.ref x0), (.int x1), (.int x2), (.long x3), (.long x4)] 7 = mkF m 0 #[.val (.ref x0), .val (.int x1), .val (.int x2), .val (.long x3), .second, .val (.long x4), .second] [] := by first | (simp [entryFrame, mkF, argsToLocals, Value.category]; done) | rfl
set_option maxRecDepth 65536 in
set_option maxHeartbeats 40000000 in
theorem rmN (l : Launch) (Z : State) (a0 : Array Value) (hw : ∀ d ∈ tables_1, d.before a0 Z = true) (a1 : Addr) (x1 x2 : Int32) (x3 x4 : Int64) (h0 : Heap) (n0 : Nat) (Z0 : n0 ≤ h0.size) (g1 : n0 ≤ a1) (E1 : Exa Z h0 a1 "com/example/claim_quorum/claimquorum/LockStore$Grant") (F_granted : Fld Z h0 a1 "com/example/claim_quorum/claimquorum/LockStore$Grant" "granted" "Z" (.int (0 : Int32))) (F_reentry : Fld Z h0 a1 "com/example/claim_quorum/claimquorum/LockStore$Grant" "reentry" "Z" (.int (0 : Int32))) (F_token : Fld Z h0 a1 "com/example/claim_quorum/claimquorum/LockStore$Grant" "token" "J" (.long (0 : Int64))) (F_leaseLeftMillis : Fld Z h0 a1 "com/example/claim_quorum/claimquorum/LockStore$Grant" "leaseLeftMillis" "J" (.long (0 : Int64))) : Con l Z (⟨"com/example/claim_quorum/claimquorum/LockStore$Grant", "<init>", "(ZZJJ)V"⟩ : MethodName) prog_4_method_1_code 7 none ({ frames := 1, cells := 0, slots := 0, locals := 12 } : Room) #[(.ref a1), (.int x1), (.int x2), (.long x3), (.long x4)] h0 (fun v h L => v = none ∧ Fr n0 L ∧ Keep h0 h [a1] ∧ Exa Z h a1 "com/example/claim_quorum/claimquorum/LockStore$Grant" ∧ Fld Z h a1 "com/example/claim_quorum/claimquorum/LockStore$Grant" "granted" "Z" (.int (nar .boolean x1)) ∧ Fld Z h a1 "com/example/claim_quorum/claimquorum/LockStore$Grant" "reentry" "Z" (.int (nar .boolean x2)) ∧ Fld Z h a1 "com/example/claim_quorum/claimquorum/LockStore$Grant" "token" "J" (.long x3) ∧ Fld Z h a1 "com/example/claim_quorum/claimquorum/LockStore$Grant" "leaseLeftMillis" "J" (.long x4)) := by
  refine w_body (Ls := #[.val (.ref a1), .val (.int x1), .val (.int x2), .val (.long x3), .second, .val (.long x4), .second]) pn_2 (fun m => ef_rmN m a1 x1 x2 x3 x4) ?_
  intro p e s m below meth c T0 X0 hx hby hml hown hnm hret hlk hZ e0
  refine w_aloadN X0 hx hby n2_0 rfl rfl ?_
  refine w_initO X0 hx hby hZ hown (by rw [hml]; rfl) (Wd := 0) (hw _ t_9) (hw _ t_10) (hw _ t_11) e0 n2_1 (by decide) rfl (by decide) fun T1 X1 e1 => ?_
  refine w_aloadN X1 hx hby n2_4 rfl rfl ?_
  refine w_iloadN X1 hx hby n2_5 rfl ?_
  refine w_putFN X1 hx hby hZ hown (hw _ t_12) Via.refl e1 F_granted E1 (Or.inr ⟨(hw _ t_13), rfl, hnm⟩) (hw _ t_5) (ty := .boolean) (by decide) rfl (fits_nar_bool _) n2_6 fun T2 h2 X2 e2 W2 => ?_
  have P2 := F_granted.same W2
  have N2 := Fr.snoc X2 (Fr.nil n0) g1
  have z3 : h0.size ≤ h2.size := Nat.le_trans (Nat.le_refl h0.size) (Keep.of_wr W2).1
  have k3 : Keep h0 h2 [a1] := (Keep.refl h0 [a1]).wr W2 (Or.inl (List.mem_of_getElem? (i := 0) rfl))
  refine w_aloadN X2 hx hby n2_9 rfl rfl ?_
  refine w_iloadN X2 hx hby n2_10 rfl ?_
  have f4 := (F_reentry.other W2 (Or.inr (slot_ne (Or.inr (hw _ t_15)) (Or.inr (hw _ t_13)) (by decide) (t := .boolean) (t' := .boolean) (by decide) (by decide))))
  have f5 := (E1.wr W2)
  refine w_putFN X2 hx hby hZ hown (hw _ t_14) Via.refl e2 f4 f5 (Or.inr ⟨(hw _ t_15), rfl, hnm⟩) (hw _ t_5) (ty := .boolean) (by decide) rfl (fits_nar_bool _) n2_11 fun T6 h6 X6 e6 W6 => ?_
  have P6 := f4.same W6
  have N6 := Fr.snoc X6 N2 g1
  have z7 : h0.size ≤ h6.size := Nat.le_trans z3 (Keep.of_wr W6).1
  have k7 : Keep h0 h6 [a1] := k3.wr W6 (Or.inl (List.mem_of_getElem? (i := 0) rfl))
  refine w_aloadN X6 hx hby n2_14 rfl rfl ?_
  refine w_lloadN X6 hx hby n2_15 rfl ?_
  have f8 := ((F_token.other W2 (Or.inr (slot_ne (Or.inr (hw _ t_17)) (Or.inr (hw _ t_13)) (by decide) (t := .long) (t' := .boolean) (by decide) (by decide)))).other W6 (Or.inr (slot_ne (Or.inr (hw _ t_17)) (Or.inr (hw _ t_15)) (by decide) (t := .long) (t' := .boolean) (by decide) (by decide))))
  have f9 := (f5.wr W6)
  refine w_putFN X6 hx hby hZ hown (hw _ t_16) Via.refl e6 f8 f9 (Or.inr ⟨(hw _ t_17), rfl, hnm⟩) (hw _ t_5) (ty := .long) (by decide) rfl rfl n2_16 fun T10 h10 X10 e10 W10 => ?_
  have P10 := f8.same W10
  have N10 := Fr.snoc X10 N6 g1
  have z11 : h0.size ≤ h10.size := Nat.le_trans z7 (Keep.of_wr W10).1
  have k11 : Keep h0 h10 [a1] := k7.wr W10 (Or.inl (List.mem_of_getElem? (i := 0) rfl))
  refine w_aloadN X10 hx hby n2_19 rfl rfl ?_
  refine w_lload X10 hx hby n2_20 rfl ?_
  have f12 := (((F_leaseLeftMillis.other W2 (Or.inr (slot_ne (Or.inr (hw _ t_19)) (Or.inr (hw _ t_13)) (by decide) (t := .long) (t' := .boolean) (by decide) (by decide)))).other W6 (Or.inr (slot_ne (Or.inr (hw _ t_19)) (Or.inr (hw _ t_15)) (by decide) (t := .long) (t' := .boolean) (by decide) (by decide)))).other W10 (Or.inr (slot_ne (Or.inr (hw _ t_19)) (Or.inr (hw _ t_17)) (by decide) (t := .long) (t' := .long) (by decide) (by decide))))
  have f13 := (f9.wr W10)
  refine w_putFN X10 hx hby hZ hown (hw _ t_18) Via.refl e10 f12 f13 (Or.inr ⟨(hw _ t_19), rfl, hnm⟩) (hw _ t_5) (ty := .long) (by decide) rfl rfl n2_22 fun T14 h14 X14 e14 W14 => ?_
  have P14 := f12.same W14
  have N14 := Fr.snoc X14 N10 g1
  have z15 : h0.size ≤ h14.size := Nat.le_trans z11 (Keep.of_wr W14).1
  have k15 : Keep h0 h14 [a1] := k11.wr W14 (Or.inl (List.mem_of_getElem? (i := 0) rfl))
  refine w_retV X14 hx hby e14 hlk hret n2_25 (by decide) (by decide) ?_
  have f16 := (f13.wr W14)
  have f17 := (((P2.other W6 (Or.inr (slot_ne (Or.inr (hw _ t_13)) (Or.inr (hw _ t_15)) (by decide) (t := .boolean) (t' := .boolean) (by decide) (by decide)))).other W10 (Or.inr (slot_ne (Or.inr (hw _ t_13)) (Or.inr (hw _ t_17)) (by decide) (t := .boolean) (t' := .long) (by decide) (by decide)))).other W14 (Or.inr (slot_ne (Or.inr (hw _ t_13)) (Or.inr (hw _ t_19)) (by decide) (t := .boolean) (t' := .long) (by decide) (by decide))))
  have f18 := ((P6.other W10 (Or.inr (slot_ne (Or.inr (hw _ t_15)) (Or.inr (hw _ t_17)) (by decide) (t := .boolean) (t' := .long) (by decide) (by decide)))).other W14 (Or.inr (slot_ne (Or.inr (hw _ t_15)) (Or.inr (hw _ t_19)) (by decide) (t := .boolean) (t' := .long) (by decide) (by decide))))
  have f19 := (P10.other W14 (Or.inr (slot_ne (Or.inr (hw _ t_17)) (Or.inr (hw _ t_19)) (by decide) (t := .long) (t' := .long) (by decide) (by decide))))
  exact ⟨rfl, N14, k15, f16, f17, f18, f19, P14⟩
set_option maxRecDepth 65536 in
set_option maxHeartbeats 4000000 in
theorem ef_rg0 (m : MethodId) (x0 : Addr) : entryFrame m #[(.ref x0)] 1 = mkF m 0 #[.val (.ref x0)] [] := by first | (simp [entryFrame, mkF, argsToLocals, Value.category]; done) | rfl
set_option maxRecDepth 65536 in
set_option maxHeartbeats 40000000 in
theorem rg0 (l : Launch) (Z : State) (a0 : Array Value) (hw : ∀ d ∈ tables_1, d.before a0 Z = true) (a1 : Addr) (x1 : Int32) (h0 : Heap) (F1 : Fld Z h0 a1 "com/example/claim_quorum/claimquorum/LockStore$Grant" "granted" "Z" (.int x1)) : Con l Z (⟨"com/example/claim_quorum/claimquorum/LockStore$Grant", "isGranted", "()Z"⟩ : MethodName) prog_4_method_4_code 1 (some .boolean) ({ frames := 0, cells := 0, slots := 0, locals := 0 } : Room) #[(.ref a1)] h0 (fun v h L => v = some (.int (nar .boolean x1)) ∧ h = h0 ∧ L = []) := by
  refine w_body (Ls := #[.val (.ref a1)]) pn_4 (fun m => ef_rg0 m a1) ?_
  intro p e s m below meth c T0 X0 hx hby hml hown hnm hret hlk hZ e0
  refine w_aloadN X0 hx hby n4_0 rfl rfl ?_
  refine w_getF X0 hx hby hZ hown (host := "") (Or.inl (hw _ t_12)) Via.refl e0 F1 n4_1 fun T1 X1 e1 => ?_
  refine w_retN X1 hx hby e1 hlk hret (by simp) n4_4 (by decide) (by decide) ?_
  exact ⟨rfl, rfl, rfl⟩
set_option maxRecDepth 65536 in
set_option maxHeartbeats 4000000 in
theorem ef_rg1 (m : MethodId) (x0 : Addr) : entryFrame m #[(.ref x0)] 1 = mkF m 0 #[.val (.ref x0)] [] := by first | (simp [entryFrame, mkF, argsToLocals, Value.category]; done) | rfl
set_option maxRecDepth 65536 in
set_option maxHeartbeats 40000000 in
theorem rg1 (l : Launch) (Z : State) (a0 : Array Value) (hw : ∀ d ∈ tables_1, d.before a0 Z = true) (a1 : Addr) (x1 : Int32) (h0 : Heap) (F1 : Fld Z h0 a1 "com/example/claim_quorum/claimquorum/LockStore$Grant" "reentry" "Z" (.int x1)) : Con l Z (⟨"com/example/claim_quorum/claimquorum/LockStore$Grant", "isReentry", "()Z"⟩ : MethodName) prog_4_method_5_code 1 (some .boolean) ({ frames := 0, cells := 0, slots := 0, locals := 0 } : Room) #[(.ref a1)] h0 (fun v h L => v = some (.int (nar .boolean x1)) ∧ h = h0 ∧ L = []) := by
  refine w_body (Ls := #[.val (.ref a1)]) pn_5 (fun m => ef_rg1 m a1) ?_
  intro p e s m below meth c T0 X0 hx hby hml hown hnm hret hlk hZ e0
  refine w_aloadN X0 hx hby n5_0 rfl rfl ?_
  refine w_getF X0 hx hby hZ hown (host := "") (Or.inl (hw _ t_14)) Via.refl e0 F1 n5_1 fun T1 X1 e1 => ?_
  refine w_retN X1 hx hby e1 hlk hret (by simp) n5_4 (by decide) (by decide) ?_
  exact ⟨rfl, rfl, rfl⟩
set_option maxRecDepth 65536 in
set_option maxHeartbeats 4000000 in
theorem ef_rg2 (m : MethodId) (x0 : Addr) : entryFrame m #[(.ref x0)] 1 = mkF m 0 #[.val (.ref x0)] [] := by first | (simp [entryFrame, mkF, argsToLocals, Value.category]; done) | rfl
set_option maxRecDepth 65536 in
set_option maxHeartbeats 40000000 in
theorem rg2 (l : Launch) (Z : State) (a0 : Array Value) (hw : ∀ d ∈ tables_1, d.before a0 Z = true) (a1 : Addr) (x1 : Int64) (h0 : Heap) (F1 : Fld Z h0 a1 "com/example/claim_quorum/claimquorum/LockStore$Grant" "token" "J" (.long x1)) : Con l Z (⟨"com/example/claim_quorum/claimquorum/LockStore$Grant", "token", "()J"⟩ : MethodName) prog_4_method_6_code 1 (some .long) ({ frames := 0, cells := 0, slots := 0, locals := 0 } : Room) #[(.ref a1)] h0 (fun v h L => v = some (.long x1) ∧ h = h0 ∧ L = []) := by
  refine w_body (Ls := #[.val (.ref a1)]) pn_6 (fun m => ef_rg2 m a1) ?_
  intro p e s m below meth c T0 X0 hx hby hml hown hnm hret hlk hZ e0
  refine w_aloadN X0 hx hby n6_0 rfl rfl ?_
  refine w_getF X0 hx hby hZ hown (host := "") (Or.inl (hw _ t_16)) Via.refl e0 F1 n6_1 fun T1 X1 e1 => ?_
  refine w_retJ X1 hx hby e1 hlk hret n6_4 (by decide) (by decide) ?_
  exact ⟨rfl, rfl, rfl⟩
set_option maxRecDepth 65536 in
set_option maxHeartbeats 4000000 in
theorem ef_rg3 (m : MethodId) (x0 : Addr) : entryFrame m #[(.ref x0)] 1 = mkF m 0 #[.val (.ref x0)] [] := by first | (simp [entryFrame, mkF, argsToLocals, Value.category]; done) | rfl
set_option maxRecDepth 65536 in
set_option maxHeartbeats 40000000 in
theorem rg3 (l : Launch) (Z : State) (a0 : Array Value) (hw : ∀ d ∈ tables_1, d.before a0 Z = true) (a1 : Addr) (x1 : Int64) (h0 : Heap) (F1 : Fld Z h0 a1 "com/example/claim_quorum/claimquorum/LockStore$Grant" "leaseLeftMillis" "J" (.long x1)) : Con l Z (⟨"com/example/claim_quorum/claimquorum/LockStore$Grant", "leaseLeftMillis", "()J"⟩ : MethodName) prog_4_method_7_code 1 (some .long) ({ frames := 0, cells := 0, slots := 0, locals := 0 } : Room) #[(.ref a1)] h0 (fun v h L => v = some (.long x1) ∧ h = h0 ∧ L = []) := by
  refine w_body (Ls := #[.val (.ref a1)]) pn_7 (fun m => ef_rg3 m a1) ?_
  intro p e s m below meth c T0 X0 hx hby hml hown hnm hret hlk hZ e0
  refine w_aloadN X0 hx hby n7_0 rfl rfl ?_
  refine w_getF X0 hx hby hZ hown (host := "") (Or.inl (hw _ t_18)) Via.refl e0 F1 n7_1 fun T1 X1 e1 => ?_
  refine w_retJ X1 hx hby e1 hlk hret n7_4 (by decide) (by decide) ?_
  exact ⟨rfl, rfl, rfl⟩
set_option maxRecDepth 65536 in
set_option maxHeartbeats 4000000 in
theorem ef_rmM (m : MethodId) (x0 : Int64) : entryFrame m #[(.long x0)] 2 = mkF m 0 #[.val (.long x0), .second] [] := by first | (simp [entryFrame, mkF, argsToLocals, Value.category]; done) | rfl
set_option maxRecDepth 65536 in
set_option maxHeartbeats 40000000 in
theorem rmM (l : Launch) (Z : State) (a0 : Array Value) (hw : ∀ d ∈ tables_1, d.before a0 Z = true) (rf : Addr) (x1 : Int64) (h0 : Heap) (S_R : Sta Z h0 "com/example/claim_quorum/claimquorum/LockStore$Grant" "REFUSED" "Lcom/example/claim_quorum/claimquorum/LockStore$Grant;" (.ref rf)) (E_R : Exa Z h0 rf "com/example/claim_quorum/claimquorum/LockStore$Grant") (R_granted : Fld Z h0 rf "com/example/claim_quorum/claimquorum/LockStore$Grant" "granted" "Z" (.int (0 : Int32))) (R_reentry : Fld Z h0 rf "com/example/claim_quorum/claimquorum/LockStore$Grant" "reentry" "Z" (.int (0 : Int32))) (R_token : Fld Z h0 rf "com/example/claim_quorum/claimquorum/LockStore$Grant" "token" "J" (.long (0 : Int64))) (R_leaseLeftMillis : Fld Z h0 rf "com/example/claim_quorum/claimquorum/LockStore$Grant" "leaseLeftMillis" "J" (.long (-1 : Int64))) : Con l Z (⟨"com/example/claim_quorum/claimquorum/LockStore$Grant", "refused", "(J)Lcom/example/claim_quorum/claimquorum/LockStore$Grant;"⟩ : MethodName) prog_4_method_2_code 2 (some (.object "com/example/claim_quorum/claimquorum/LockStore$Grant")) ({ frames := 2, cells := 1, slots := 4, locals := 31 } : Room) #[(.long x1)] h0 (fun v h L => ∃ (a : Addr) (y : Int64), v = some (.ref a) ∧ Fr h0.size L ∧ Keep h0 h [] ∧ Exa Z h a "com/example/claim_quorum/claimquorum/LockStore$Grant" ∧ Fld Z h a "com/example/claim_quorum/claimquorum/LockStore$Grant" "granted" "Z" (.int (0 : Int32)) ∧ Fld Z h a "com/example/claim_quorum/claimquorum/LockStore$Grant" "reentry" "Z" (.int (0 : Int32)) ∧ Fld Z h a "com/example/claim_quorum/claimquorum/LockStore$Grant" "token" "J" (.long (0 : Int64)) ∧ Fld Z h a "com/example/claim_quorum/claimquorum/LockStore$Grant" "leaseLeftMillis" "J" (.long y) ∧ (x1 < 0 ∧ y = -1 ∨ ¬ x1 < 0 ∧ y = x1)) := by
  refine w_body (Ls := #[.val (.long x1), .second]) pn_1 (fun m => ef_rmM m x1) ?_
  intro p e s m below meth c T0 X0 hx hby hml hown hnm hret hlk hZ e0
  refine w_lloadN X0 hx hby n1_0 rfl ?_
  refine w_lconst X0 hx hby (0 : Int64) n1_1 rfl ?_
  refine f_lcmp_ge X0 hx hby n1_2 n1_3 (fun q2 => ?_) (fun q2 => ?_)
  · refine w_newO X0 hx hby hZ hown (hw _ t_4) (hw _ t_5) (hw _ t_2) e0 n1_12 (by decide) (by decide) fun T1 h1 b1 g1 X1 e1 E1 A1 D1 => ?_
    have ne_rf_b1 : rf ≠ b1 := Nat.ne_of_lt (Nat.lt_of_lt_of_eq E_R.lt g1.symm)
    have old_b1 : h0.size ≤ b1 := Nat.le_trans (Nat.le_refl h0.size) (Nat.le_of_eq g1.symm)
    have z2 : h0.size ≤ h1.size := Nat.le_trans (Nat.le_refl h0.size) E1.1
    have k2 : Keep h0 h1 [] := (Keep.refl h0 []).ext E1
    have F1_granted : Fld Z h1 b1 "com/example/claim_quorum/claimquorum/LockStore$Grant" "granted" "Z" (.int (0 : Int32)) := D1 (Or.inr (hw _ t_13)) (ty := .boolean) (by decide)
    have F1_reentry : Fld Z h1 b1 "com/example/claim_quorum/claimquorum/LockStore$Grant" "reentry" "Z" (.int (0 : Int32)) := D1 (Or.inr (hw _ t_15)) (ty := .boolean) (by decide)
    have F1_token : Fld Z h1 b1 "com/example/claim_quorum/claimquorum/LockStore$Grant" "token" "J" (.long (0 : Int64)) := D1 (Or.inr (hw _ t_17)) (ty := .long) (by decide)
    have F1_leaseLeftMillis : Fld Z h1 b1 "com/example/claim_quorum/claimquorum/LockStore$Grant" "leaseLeftMillis" "J" (.long (0 : Int64)) := D1 (Or.inr (hw _ t_19)) (ty := .long) (by decide)
    refine w_dup X1 hx hby n1_15 rfl ?_
    refine w_iconst X1 hx hby (0 : Int32) n1_16 rfl ?_
    refine w_iconst X1 hx hby (0 : Int32) n1_17 rfl ?_
    refine w_lconst X1 hx hby (0 : Int64) n1_18 rfl ?_
    refine w_lloadN X1 hx hby n1_19 rfl ?_
    refine w_called (call_N X1 hx hby hZ hown (argsL := [(.int (0 : Int32)), (.int (0 : Int32)), (.long (0 : Int64)), (.long x1)]) (rest := [(.ref b1)]) (Wd := 1) (a := b1) rfl (hw _ t_6) (hw _ t_7) (hw _ t_2) (hw _ t_8) (by decide) (rmN l Z a0 hw b1 (0 : Int32) (0 : Int32) (0 : Int64) x1 h1 h0.size z2 old_b1 A1 F1_granted F1_reentry F1_token F1_leaseLeftMillis) rfl n1_20 (by rw [hml]; rfl) (lenOf pd_4974 rfl) rfl (by decide) (by decide) (by decide) (by decide) e1) fun v3 T3 L3 X3 Q3 => ?_
    obtain ⟨rfl, n3, k3, ea3, c3_granted, c3_reentry, c3_token, c3_leaseLeftMillis⟩ := Q3
    have N3 := Fr.app (Fr.nil h0.size) n3
    have z4 : h0.size ≤ T3.heap.size := Nat.le_trans z2 k3.1
    have k4 : Keep h0 T3.heap [] := k2.trans k3 (allS (Or.inr old_b1) all0)
    show Wp p e below s _ _ _ T3 (mkF m 23 #[.val (.long x1), .second] [(.ref b1)])
    refine w_retA X3 hx hby rfl hlk hret rfl rfl rfl n1_23 (by decide) (by decide) ?_
    exact ⟨b1, x1, rfl, N3, k4, ea3, c3_granted, c3_reentry, c3_token, c3_leaseLeftMillis, Or.inr ⟨q2, rfl⟩⟩
  · refine w_getS X0 hx hby hZ hown (host := "") (Or.inl (hw _ t_40)) Via.refl e0 S_R n1_6 fun T5 X5 e5 => ?_
    refine w_goto X5 hx hby n1_9 ?_
    refine w_retA X5 hx hby e5 hlk hret rfl rfl rfl n1_23 (by decide) (by decide) ?_
    exact ⟨rf, (-1 : Int64), rfl, (Fr.nil h0.size), (Keep.refl h0 []), E_R, R_granted, R_reentry, R_token, R_leaseLeftMillis, Or.inl ⟨q2, rfl⟩⟩
set_option maxRecDepth 65536 in
set_option maxHeartbeats 4000000 in
theorem ef_law0 (m : MethodId) (x0 : Int64) : entryFrame m #[(.long x0)] maxLocals = mkF m 0 #[.val (.long x0), .second, .unset, .unset, .unset] [] := by first | (simp [entryFrame, mkF, argsToLocals, Value.category, maxLocals]; done) | rfl
set_option maxRecDepth 65536 in
set_option maxHeartbeats 40000000 in
theorem law0 (l : Launch) (Z : State) (a0 : Array Value) (hw : ∀ d ∈ tables_1, d.before a0 Z = true) (rf : Addr) (x1 : Int64) (h0 : Heap) (S_R : Sta Z h0 "com/example/claim_quorum/claimquorum/LockStore$Grant" "REFUSED" "Lcom/example/claim_quorum/claimquorum/LockStore$Grant;" (.ref rf)) (E_R : Exa Z h0 rf "com/example/claim_quorum/claimquorum/LockStore$Grant") (R_granted : Fld Z h0 rf "com/example/claim_quorum/claimquorum/LockStore$Grant" "granted" "Z" (.int (0 : Int32))) (R_reentry : Fld Z h0 rf "com/example/claim_quorum/claimquorum/LockStore$Grant" "reentry" "Z" (.int (0 : Int32))) (R_token : Fld Z h0 rf "com/example/claim_quorum/claimquorum/LockStore$Grant" "token" "J" (.long (0 : Int64))) (R_leaseLeftMillis : Fld Z h0 rf "com/example/claim_quorum/claimquorum/LockStore$Grant" "leaseLeftMillis" "J" (.long (-1 : Int64))) : Con l Z x code maxLocals ret room_1 #[(.long x1)] h0 (fun v h L => v = some (.int 1) ∧ Fr h0.size L) := by
  refine w_body (Ls := #[.val (.long x1), .second, .unset, .unset, .unset]) pn_0 (fun m => ef_law0 m x1) ?_
  intro p e s m below meth c T0 X0 hx hby hml hown hnm hret hlk hZ e0
  have hml : c.maxLocals = 5 := hml
  refine w_lloadN X0 hx hby n0_0 rfl ?_
  refine w_called (call_S X0 hx hby hZ hown (argsL := [(.long x1)]) (rest := []) (Wd := 0) (hw _ t_0) (hw _ t_1) (hw _ t_2) (hw _ t_3) (by decide) (rmM l Z a0 hw rf x1 h0 S_R E_R R_granted R_reentry R_token R_leaseLeftMillis) rfl n0_1 (by rw [hml]; rfl) (lenOf pd_195439 rfl) rfl (by decide) (by decide) (by decide) (by decide) e0) fun v1 T1 L1 X1 Q1 => ?_
  obtain ⟨b1, y1, rfl, n1, k1, ea1, c1_granted, c1_reentry, c1_token, c1_leaseLeftMillis, hy⟩ := Q1
  have N1 := Fr.app (Fr.nil h0.size) n1
  have z2 : h0.size ≤ T1.heap.size := Nat.le_trans (Nat.le_refl h0.size) k1.1
  show Wp p e below s _ _ _ T1 (mkF m 4 #[.val (.long x1), .second, .unset, .unset, .unset] [(.ref b1)])
  refine w_astoreN X1 hx hby #[.val (.long x1), .second, .val (.ref b1), .unset, .unset] n0_4 rfl rfl ?_
  refine w_aloadN X1 hx hby n0_5 rfl rfl ?_
  refine w_ifnonnullRef X1 hx hby n0_6 ?_
  refine w_aloadN X1 hx hby n0_11 rfl rfl ?_
  refine w_calledp (call_V X1 hx hby hZ hown (argsL := []) (rest := []) (Wd := 0) (a := b1) (hw _ t_20) (hw _ t_21) (hw _ t_23) (hw _ t_22) (hw _ t_2) (hw _ t_24) (by decide) ea1 (rg0 l Z a0 hw b1 (0 : Int32) T1.heap c1_granted) rfl n0_12 (by rw [hml]; rfl) (lenOf pd_1418 rfl) rfl (by decide) (by decide) (by decide) (by decide) rfl) rfl rfl fun T3 X3 e3 => ?_
  refine f_if_eq X3 hx hby n0_15 (fun q15 => ?_) (fun q15 => by exact absurd q15 (by decide))
  refine w_aloadN X3 hx hby n0_20 rfl rfl ?_
  refine w_calledp (call_V X3 hx hby hZ hown (argsL := []) (rest := []) (Wd := 0) (a := b1) (hw _ t_25) (hw _ t_26) (hw _ t_28) (hw _ t_27) (hw _ t_2) (hw _ t_29) (by decide) ea1 (rg1 l Z a0 hw b1 (0 : Int32) T1.heap c1_reentry) rfl n0_21 (by rw [hml]; rfl) (lenOf pd_1418 rfl) rfl (by decide) (by decide) (by decide) (by decide) e3) rfl rfl fun T4 X4 e4 => ?_
  refine f_if_eq X4 hx hby n0_24 (fun q24 => ?_) (fun q24 => by exact absurd q24 (by decide))
  refine w_aloadN X4 hx hby n0_29 rfl rfl ?_
  refine w_calledp (call_V X4 hx hby hZ hown (argsL := []) (rest := []) (Wd := 0) (a := b1) (hw _ t_30) (hw _ t_31) (hw _ t_33) (hw _ t_32) (hw _ t_2) (hw _ t_34) (by decide) ea1 (rg2 l Z a0 hw b1 (0 : Int64) T1.heap c1_token) rfl n0_30 (by rw [hml]; rfl) (lenOf pd_1274 rfl) rfl (by decide) (by decide) (by decide) (by decide) e4) rfl rfl fun T5 X5 e5 => ?_
  refine w_lconst X5 hx hby (0 : Int64) n0_33 rfl ?_
  refine f_lcmp_eq X5 hx hby n0_34 n0_35 (fun q34 => ?_) (fun q34 => by exact absurd q34 (by decide))
  refine w_aloadN X5 hx hby n0_40 rfl rfl ?_
  refine w_calledp (call_V X5 hx hby hZ hown (argsL := []) (rest := []) (Wd := 0) (a := b1) (hw _ t_35) (hw _ t_36) (hw _ t_38) (hw _ t_37) (hw _ t_2) (hw _ t_39) (by decide) ea1 (rg3 l Z a0 hw b1 y1 T1.heap c1_leaseLeftMillis) rfl n0_41 (by rw [hml]; rfl) (lenOf pd_1274 rfl) rfl (by decide) (by decide) (by decide) (by decide) e5) rfl rfl fun T6 X6 e6 => ?_
  refine w_lstoreN X6 hx hby #[.val (.long x1), .second, .val (.ref b1), .val (.long y1), .second] n0_44 rfl ?_
  refine w_lloadN X6 hx hby n0_45 rfl ?_
  refine w_lconst X6 hx hby (0 : Int64) n0_46 rfl ?_
  refine f_lcmp_ge X6 hx hby n0_47 n0_48 (fun q47 => ?_) (fun q47 => ?_)
  · refine w_lloadN X6 hx hby n0_63 rfl ?_
    refine w_lloadN X6 hx hby n0_64 rfl ?_
    refine f_lcmp_ne X6 hx hby n0_65 n0_66 (fun q65 => by rcases hy with ⟨u, rfl⟩ | ⟨u, rfl⟩; exact absurd u q47; exact absurd rfl q65) (fun q65 => ?_)
    refine w_iconst X6 hx hby (1 : Int32) n0_69 rfl ?_
    refine w_goto X6 hx hby n0_70 ?_
    refine w_retN X6 hx hby e6 hlk hret (by simp) n0_74 (by decide) (by decide) ?_
    exact ⟨rfl, N1⟩
  · refine w_lloadN X6 hx hby n0_51 rfl ?_
    refine w_lconst X6 hx hby (0 : Int64) n0_52 rfl ?_
    refine f_lcmp_ge X6 hx hby n0_53 n0_54 (fun q53 => by rcases hy with ⟨u, rfl⟩ | ⟨u, rfl⟩; exact absurd (by decide) q53; exact absurd q47 u) (fun q53 => ?_)
    refine w_iconst X6 hx hby (1 : Int32) n0_57 rfl ?_
    refine w_goto X6 hx hby n0_58 ?_
    refine w_retN X6 hx hby e6 hlk hret (by simp) n0_62 (by decide) (by decide) ?_
    exact ⟨rfl, N1⟩
set_option maxRecDepth 65536 in
set_option maxHeartbeats 40000000 in
theorem comes_1 {Post : Tables → Env → Array Value → State → Outcome → State → Prop} (hpost : ∀ tb e args s v u, (limb_1_1.after args s (.returned v) u = true ∧ limb_1_2.after args s (.returned v) u = true) → FrameEnd s (.returned v) u (Jvm.fieldLocs frame_1_writes args s ++ Jvm.arrayLocs frame_1_arrays args s ++ Jvm.staticLocs frame_1_statics s) 16 128 → Post tb e args s (.returned v) u) :
    ArmFor flags0 classFile x code maxLocals ret World_1 tables_1 room_1 Calls_1 rest_1 Pre_1 Post := by
  intro l hfl _ _ p e ha hc hk s m args below hf hA hF happ hP
  obtain ⟨hcalls, hrest, hpre⟩ := hP
  obtain ⟨-, -, -, hnamed, -, -, -, hat⟩ := (Spec.applies_iff hf).mp happ
  obtain ⟨hg, hn⟩ := and_e (Cond.before_iff.mp (show (Jvm.Cond.and given_1 narrow_1).before args s = true from hpre))
  obtain ⟨hcnt, hg⟩ := and_e hg
  have hg0 := hg
  obtain ⟨w0, rfl⟩ : ∃ w0 : Value, args = #[w0] := by
    have hs : args.size = 1 := by simpa [Cond.value, given_1] using hcnt
    obtain ⟨L⟩ := args
    match L, hs with
    | [w0], _ => exact ⟨w0, rfl⟩
  have hw := fun d (hd : d ∈ tables_1) => atoms_spec (ws := Jvm.Cond.code x code maxLocals ret :: tables_1) hat d (List.mem_cons_of_mem _ hd)
  have hfit : Fit s := fun {y c} hc i hi => by
    obtain ⟨ha, rfl⟩ := Array.getElem?_eq_some_iff.mp hc
    have q := List.all_eq_true.mp ((Array.all_eq_true_iff_forall_mem.mp hF) _ (Array.getElem_mem ha)) i (List.mem_range.mpr hi)
    simpa [Array.getElem?_eq_getElem hi] using q
  obtain ⟨i0, ei0⟩ := isL_v hg0
  obtain rfl : w0 = (.long i0) := Option.some.inj ei0
  obtain ⟨hn0, hn⟩ := and_e hn
  obtain ⟨hn1, hn⟩ := and_e hn
  obtain ⟨hn2, hn⟩ := and_e hn
  obtain ⟨hn3, hn⟩ := and_e hn
  have hn4 := hn
  obtain ⟨a_REFUSED, ev_REFUSED⟩ := exa_v hn0
  have E_REFUSED : Exa s s.heap a_REFUSED "com/example/claim_quorum/claimquorum/LockStore$Grant" := Exa.start ev_REFUSED hn0
  have S_REFUSED : Sta s s.heap "com/example/claim_quorum/claimquorum/LockStore$Grant" "REFUSED" "Lcom/example/claim_quorum/claimquorum/LockStore$Grant;" (.ref a_REFUSED) := Sta.start ev_REFUSED (Or.inr ⟨hw _ t_2, hw _ t_41⟩)
  have F_REFUSED_granted : Fld s s.heap a_REFUSED "com/example/claim_quorum/claimquorum/LockStore$Grant" "granted" "Z" (.int (0 : Int32)) := Fld.start ((fld_at ev_REFUSED).symm.trans (own_eqI hn1))
  have F_REFUSED_reentry : Fld s s.heap a_REFUSED "com/example/claim_quorum/claimquorum/LockStore$Grant" "reentry" "Z" (.int (0 : Int32)) := Fld.start ((fld_at ev_REFUSED).symm.trans (own_eqI hn2))
  have F_REFUSED_token : Fld s s.heap a_REFUSED "com/example/claim_quorum/claimquorum/LockStore$Grant" "token" "J" (.long (0 : Int64)) := Fld.start ((fld_at ev_REFUSED).symm.trans (own_eqL hn3))
  have F_REFUSED_leaseLeftMillis : Fld s s.heap a_REFUSED "com/example/claim_quorum/claimquorum/LockStore$Grant" "leaseLeftMillis" "J" (.long (-1 : Int64)) := Fld.start ((fld_at ev_REFUSED).symm.trans (own_eqL hn4))
  obtain ⟨n, o, h1, h2, h3, _, L, rfl, ⟨rfl, N⟩, hq⟩ := law0 l s _ hw a_REFUSED i0 s.heap S_REFUSED E_REFUSED F_REFUSED_granted F_REFUSED_reentry F_REFUSED_token F_REFUSED_leaseLeftMillis tables_1 p e ha hc hk s m _ below hf ((Spec.applies_iff_loose hf).mp happ).1 ⟨rfl, State.Warmed39.refl s, rfl⟩ trivial
  exact ⟨n, _, h1, h2, h3, hpost _ _ _ _ _ _ ⟨Cond.after_iff.mpr rfl, Cond.after_iff.mpr (eq_i res_at (Term.int_eval (1)) rfl)⟩ ⟨hq.1, hq.2.1, (hq.2.2.sift fun y hy => Or.inr (N y hy)).mono (by decide) (by decide)⟩⟩
theorem main_1_1 : Claimed_1_1 := comes_1 fun _ _ _ _ _ _ h hF => ⟨h.1, hF⟩
theorem main_1_2 : Claimed_1_2 := comes_1 fun _ _ _ _ _ _ h hF => ⟨h.2, hF⟩
end Jvm.Pilot.@@N@@
namespace Jvm.Pilot.@@N@@
open Jvm Jvm.ClassFile Sem Op Lib Jvm.Free Jvm.Stand Jvm.Pilot.@@N@@.Jvm.D
/-! MADE BY PROGRAM (witnessworld.py) out of the Statement's table words and the real class files: 9 classes; the members and pool entries that the words name. The judged class is class 1, her method 1. -/
namespace start1
open Jvm.ClassFile
def u (s : String) : CpInfo := .utf8 (stringToUtf16 s)
/-- a pool by its gaps: so many unusable entries, then the entry; so many at the end -/
def gap : Nat → List CpInfo → List CpInfo
  | 0, r => r
  | n + 1, r => .unusable :: gap n r
def poolList (es : List (Nat × CpInfo)) (last : Nat) : List CpInfo := es.foldr (fun e r => gap e.1 (e.2 :: r)) (gap last [])
def pool (es : List (Nat × CpInfo)) (last : Nat) : Array CpInfo := ⟨poolList es last⟩
def fileOf (pool : Array CpInfo) (this : Nat) (attrs : Array Attribute := #[]) (ms : Array MethodInfo := #[]) (fl : Nat := 33) (sup : Nat := 0) (ifs : Array Nat := #[]) (fds : Array FieldInfo := #[]) : ClassFile where
  minorVersion := 0
  majorVersion := 65
  constantPool := pool
  accessFlags := fl
  thisClass := this
  superClass := sup
  interfaces := ifs
  fields := fds
  methods := ms
  attributes := attrs
def plain (name : String) (sup : Option ClassId) : Class where
  name := name
  kind := .ordinary
  loader := none
  accessFlags := 33
  super := sup
  interfaces := #[]
  cf := none
  fields := #[]
  methods := #[]
  instanceTypes := #[]
  staticTypes := #[]
  resolved := #[]
  callSites := []
  init := .initialized
  statics := none
  mirror := none

def pool0 : Array CpInfo := pool [(5, u "<init>"), (0, u "()V"), (1, .class_ 10), (1, u "java/lang/Object")] 113

def k0c0 : Code := { maxStack := 0, maxLocals := 1, code := object_method_1_code, exceptionTable := #[], attributes := #[] }
def k0m0 : Method := { name := "<init>", desc := "()V", sig := { parameters := [], returnType := none }, accessFlags := 1, code := some k0c0 }
/-- java/lang/Object -/
def k0 : Class := { plain "java/lang/Object" none with
  accessFlags := 33
  interfaces := #[]
  cf := some (fileOf pool0 8 #[] #[{ accessFlags := 1, nameIndex := 5, descriptorIndex := 6, attributes := #[] }] 33 0 #[] #[])
  fields := #[]
  methods := #[k0m0]
  instanceTypes := #[]
  staticTypes := #[]
  resolved := Array.replicate 124 none
  statics := none }

def pool1 : Array CpInfo := pool [(2, .class_ 4), (1, u "java/lang/Object"), (0, u "<init>"), (0, u "()V"), (0, .methodref 8 9), (0, .class_ 10), (0, .nameAndType 11 12), (0, u "com/example/claim_quorum/claimquorum/LockStore$Grant"), (0, u "refused"), (0, u "(J)Lcom/example/claim_quorum/claimquorum/LockStore$Grant;"), (0, .methodref 8 14), (0, .nameAndType 15 16), (0, u "isGranted"), (0, u "()Z"), (0, .methodref 8 18), (0, .nameAndType 19 16), (0, u "isReentry"), (0, .methodref 8 21), (0, .nameAndType 22 23), (0, u "token"), (0, u "()J"), (0, .methodref 8 25), (0, .nameAndType 26 23), (0, u "leaseLeftMillis"), (0, .class_ 28), (0, u "com/example/claim_quorum/claimquorum/GrantRefusedPinLaw"), (2, u "law"), (0, u "(J)Z")] 7

def k1m0 : Method := { name := "<init>", desc := "()V", sig := { parameters := [], returnType := none }, accessFlags := 1, code := none }
def k1c1 : Code := { maxStack := 4, maxLocals := 5, code := code, exceptionTable := #[], attributes := #[] }
def k1m1 : Method := { name := "law", desc := "(J)Z", sig := { parameters := [.long], returnType := some .boolean }, accessFlags := 9, code := some k1c1 }
/-- com/example/claim_quorum/claimquorum/GrantRefusedPinLaw -/
def k1 : Class := { plain "com/example/claim_quorum/claimquorum/GrantRefusedPinLaw" (some 0) with
  accessFlags := 49
  interfaces := #[]
  cf := some (fileOf pool1 27 #[] #[{ accessFlags := 1, nameIndex := 5, descriptorIndex := 6, attributes := #[] }, { accessFlags := 9, nameIndex := 31, descriptorIndex := 32, attributes := #[] }] 49 2 #[] #[])
  fields := #[]
  methods := #[k1m0, k1m1]
  instanceTypes := #[]
  staticTypes := #[]
  resolved := Array.replicate 40 none
  statics := none }

def pool2 : Array CpInfo := pool [(1, .methodref 2 3), (0, .class_ 4), (0, .nameAndType 5 6), (0, u "java/lang/Object"), (0, u "<init>"), (0, u "()V"), (0, .fieldref 8 9), (0, .class_ 10), (0, .nameAndType 11 12), (0, u "com/example/claim_quorum/claimquorum/LockStore$Grant"), (0, u "granted"), (0, u "Z"), (0, .fieldref 8 14), (0, .nameAndType 15 12), (0, u "reentry"), (0, .fieldref 8 17), (0, .nameAndType 18 19), (0, u "token"), (0, u "J"), (0, .fieldref 8 21), (0, .nameAndType 22 19), (0, u "leaseLeftMillis"), (0, .fieldref 8 24), (0, .nameAndType 25 26), (0, u "REFUSED"), (0, u "Lcom/example/claim_quorum/claimquorum/LockStore$Grant;"), (0, .methodref 8 28), (0, .nameAndType 5 29), (0, u "(ZZJJ)V"), (2, u "LEASE_LEFT_UNKNOWN"), (3, u "refused"), (0, u "(J)Lcom/example/claim_quorum/claimquorum/LockStore$Grant;"), (2, u "isGranted"), (0, u "()Z"), (0, u "isReentry"), (0, u "()J"), (4, .class_ 49), (0, u "com/example/claim_quorum/claimquorum/LockStore")] 2

def k2c0 : Code := { maxStack := 3, maxLocals := 7, code := prog_4_method_1_code, exceptionTable := #[], attributes := #[] }
def k2m0 : Method := { name := "<init>", desc := "(ZZJJ)V", sig := { parameters := [.boolean, .boolean, .long, .long], returnType := none }, accessFlags := 2, code := some k2c0 }
def k2c1 : Code := { maxStack := 8, maxLocals := 2, code := prog_4_method_2_code, exceptionTable := #[], attributes := #[] }
def k2m1 : Method := { name := "refused", desc := "(J)Lcom/example/claim_quorum/claimquorum/LockStore$Grant;", sig := { parameters := [.long], returnType := some (.object "com/example/claim_quorum/claimquorum/LockStore$Grant") }, accessFlags := 8, code := some k2c1 }
def k2c2 : Code := { maxStack := 1, maxLocals := 1, code := prog_4_method_4_code, exceptionTable := #[], attributes := #[] }
def k2m2 : Method := { name := "isGranted", desc := "()Z", sig := { parameters := [], returnType := some .boolean }, accessFlags := 0, code := some k2c2 }
def k2c3 : Code := { maxStack := 1, maxLocals := 1, code := prog_4_method_5_code, exceptionTable := #[], attributes := #[] }
def k2m3 : Method := { name := "isReentry", desc := "()Z", sig := { parameters := [], returnType := some .boolean }, accessFlags := 0, code := some k2c3 }
def k2c4 : Code := { maxStack := 2, maxLocals := 1, code := prog_4_method_6_code, exceptionTable := #[], attributes := #[] }
def k2m4 : Method := { name := "token", desc := "()J", sig := { parameters := [], returnType := some .long }, accessFlags := 0, code := some k2c4 }
def k2c5 : Code := { maxStack := 2, maxLocals := 1, code := prog_4_method_7_code, exceptionTable := #[], attributes := #[] }
def k2m5 : Method := { name := "leaseLeftMillis", desc := "()J", sig := { parameters := [], returnType := some .long }, accessFlags := 0, code := some k2c5 }
/-- com/example/claim_quorum/claimquorum/LockStore$Grant -/
def k2 : Class := { plain "com/example/claim_quorum/claimquorum/LockStore$Grant" (some 0) with
  accessFlags := 33
  interfaces := #[]
  cf := some (fileOf pool2 8 #[.nestHost 48] #[{ accessFlags := 2, nameIndex := 5, descriptorIndex := 29, attributes := #[] }, { accessFlags := 8, nameIndex := 36, descriptorIndex := 37, attributes := #[] }, { accessFlags := 0, nameIndex := 40, descriptorIndex := 41, attributes := #[] }, { accessFlags := 0, nameIndex := 42, descriptorIndex := 41, attributes := #[] }, { accessFlags := 0, nameIndex := 18, descriptorIndex := 43, attributes := #[] }, { accessFlags := 0, nameIndex := 22, descriptorIndex := 43, attributes := #[] }] 33 2 #[] #[{ accessFlags := 26, nameIndex := 32, descriptorIndex := 19, attributes := #[] }, { accessFlags := 26, nameIndex := 25, descriptorIndex := 26, attributes := #[] }, { accessFlags := 18, nameIndex := 11, descriptorIndex := 12, attributes := #[] }, { accessFlags := 18, nameIndex := 15, descriptorIndex := 12, attributes := #[] }, { accessFlags := 18, nameIndex := 18, descriptorIndex := 19, attributes := #[] }, { accessFlags := 18, nameIndex := 22, descriptorIndex := 19, attributes := #[] }])
  fields := #[{ name := "LEASE_LEFT_UNKNOWN", type := .long, accessFlags := 26, slot := 0, constantValue := 0 }, { name := "REFUSED", type := (.object "com/example/claim_quorum/claimquorum/LockStore$Grant"), accessFlags := 26, slot := 1, constantValue := 0 }, { name := "granted", type := .boolean, accessFlags := 18, slot := 0, constantValue := 0 }, { name := "reentry", type := .boolean, accessFlags := 18, slot := 1, constantValue := 0 }, { name := "token", type := .long, accessFlags := 18, slot := 2, constantValue := 0 }, { name := "leaseLeftMillis", type := .long, accessFlags := 18, slot := 3, constantValue := 0 }]
  methods := #[k2m0, k2m1, k2m2, k2m3, k2m4, k2m5]
  instanceTypes := #[.boolean, .boolean, .long, .long]
  staticTypes := #[.long, (.object "com/example/claim_quorum/claimquorum/LockStore$Grant")]
  resolved := Array.replicate 52 none
  statics := some 0 }

def pool3 : Array CpInfo := pool [(1, u "java/lang/Cloneable"), (0, .class_ 1), (0, u "java/lang/Object"), (0, .class_ 3)] 3

/-- java/lang/Cloneable -/
def k3 : Class := { plain "java/lang/Cloneable" (some 0) with
  accessFlags := 1537
  interfaces := #[]
  cf := some (fileOf pool3 2 #[] #[] 1537 4 #[] #[])
  fields := #[]
  methods := #[]
  instanceTypes := #[]
  staticTypes := #[]
  resolved := Array.replicate 8 none
  statics := none }

def pool4 : Array CpInfo := pool [(1, u "java/io/Serializable"), (0, .class_ 1), (0, u "java/lang/Object"), (0, .class_ 3)] 3

/-- java/io/Serializable -/
def k4 : Class := { plain "java/io/Serializable" (some 0) with
  accessFlags := 1537
  interfaces := #[]
  cf := some (fileOf pool4 2 #[] #[] 1537 4 #[] #[])
  fields := #[]
  methods := #[]
  instanceTypes := #[]
  staticTypes := #[]
  resolved := Array.replicate 8 none
  statics := none }

/-- the primitive byte -/
def k5 : Class := { plain "byte" none with kind := .primitive 'B', accessFlags := 0x411 }
/-- [B -/
def k6 : Class := { plain "[B" (some 0) with kind := .array 5 .byte, interfaces := #[3, 4], accessFlags := 1041 }

/-- the primitive int -/
def k7 : Class := { plain "int" none with kind := .primitive 'I', accessFlags := 0x411 }
/-- [I -/
def k8 : Class := { plain "[I" (some 0) with kind := .array 7 .int, interfaces := #[3, 4], accessFlags := 1041 }

def heap : Heap := #[{ cls := 2, slots := #[.long 0, .ref 1], vm := .statics 2 },
  { cls := 2, slots := #[.int 0, .int 0, .long 0, .long (-1)], vm := .none }]
def classes : Array Class := #[k0, k1, k2, k3, k4, k5, k6, k7, k8]
def interned : List (Array UInt16 × Addr) := []
def slotsUsed : Nat := 6
def theMethod : MethodId := ⟨1, 1⟩
def args0 : Array Value := #[.long 5]
def aboutOver (below : List Frame) : State where
  vm := { classes := classes, interned := interned.toArray }
  heap := heap
  slotsUsed := slotsUsed
  threads := #[{ frames := .invoking theMethod args0 :: below }]
def below0 : List Frame := [.native { method := ⟨0, 0⟩, args := #[] }]
def about1 : State := aboutOver below0
def p0 : Program := .bare "" "" ""
def e0 : Env := launch0.env 0 0 0
theorem w_frames : about1.frames = Frame.invoking theMethod args0 :: below0 := rfl
set_option maxRecDepth 65536 in
theorem w_args : argsFit about1.vm theMethod args0 = true := by decide +kernel
set_option maxRecDepth 65536 in
theorem w_heap : heapFits about1 = true := by decide +kernel
set_option maxRecDepth 65536 in
theorem w_runnable : about1.curStatus? = some .runnable := by decide +kernel
set_option maxRecDepth 65536 in
theorem w_alone : about1.alone = true := by decide +kernel
set_option maxRecDepth 65536 in
theorem w_named : about1.methodNamed? x = some theMethod := by decide +kernel
set_option maxRecDepth 65536 in
theorem w_hears : about1.hears theMethod below0 = true := by decide +kernel
set_option maxRecDepth 65536 in
theorem w_ripe : about1.ripe theMethod args0 below0 = true := by decide +kernel
theorem w_running : about1.status = .running := rfl
set_option maxRecDepth 65536 in
theorem w_room : about1.hasRoom e0.platform room_1 = true :=
  launch0.hasRoom_least _ room_1 (by decide +kernel) (by decide +kernel) (by decide +kernel) (by decide +kernel) (by decide +kernel) (by decide +kernel)
theorem allAtoms_all (ts : List Jvm.Cond) (a : Array Jvm.Value) (st : Jvm.State) : (allAtoms ts).before a st = ts.all (fun c => c.before a st) := by
  induction ts with
  | nil => rfl
  | cons c t ih =>
    show (Jvm.Cond.and c (allAtoms t)).before a st = _
    rw [Jvm.Cond.before_and, ih, List.all_cons]
def words1 : List Jvm.Cond := Jvm.Cond.code x code maxLocals ret :: tables_1
/-- a 'code' word, met by the world's own term for the bytes: nothing is compared byte by byte -/
theorem code_word {y : MethodName} {bytes : ByteArray} {mx : Nat} {rt : Option FieldType} {a : Array Value} {s : State} {m : MethodId} {meth : Method} {c : Code} (h1 : s.methodNamed? y = some m) (h2 : s.vm.method? m = some meth) (h3 : meth.code = some c) (h4 : c.code = bytes)
    (h5 : (c.maxLocals == mx && c.exceptionTable.isEmpty && decide (c.maxStack ≤ mostOperands) && decide (meth.sig.returnType = rt) && !meth.locks && decide (parseMethodDescriptor y.desc = some meth.sig)) = true) : (Jvm.Cond.code y bytes mx rt).before a s = true := by
  simp only [Bool.and_eq_true, beq_iff_eq, Bool.not_eq_true', decide_eq_true_eq] at h5
  obtain ⟨⟨⟨⟨⟨g1, g2⟩, g3⟩, g4⟩, g5⟩, g6⟩ := h5
  simp [Cond.before, Cond.holds, Cond.value, h1, h2, h3, h4, g1, g2, g3, g4, g5, g6]
def isCode : Jvm.Cond → Bool
  | .code _ _ _ _ => true
  | _ => false
theorem all_split {L : List Jvm.Cond} {P : Jvm.Cond → Bool} (h1 : L.all (fun c => isCode c || P c) = true) (h2 : ∀ c ∈ L.filter isCode, P c = true) : L.all P = true := by
  refine List.all_eq_true.mpr fun c hc => ?_
  have h := List.all_eq_true.mp h1 c hc
  rcases Bool.eq_false_or_eq_true (isCode c) with hi | hi
  · exact h2 c (List.mem_filter.mpr ⟨hc, hi⟩)
  · simpa [hi] using h
set_option maxRecDepth 65536 in
theorem w_c0 : (Jvm.Cond.code x code maxLocals ret).before args0 about1 = true := code_word (m := ⟨1, 1⟩) (meth := k1m1) (c := k1c1) (by decide +kernel) rfl rfl rfl (by decide +kernel)
set_option maxRecDepth 65536 in
theorem w_c1 : (Jvm.Cond.code ({ cls := "com/example/claim_quorum/claimquorum/LockStore$Grant", name := "refused", desc := "(J)Lcom/example/claim_quorum/claimquorum/LockStore$Grant;" } : Jvm.MethodName) prog_4_method_2_code (2 : Nat) (Option.some (Jvm.ClassFile.FieldType.object "com/example/claim_quorum/claimquorum/LockStore$Grant"))).before args0 about1 = true := code_word (m := ⟨2, 1⟩) (meth := k2m1) (c := k2c1) (by decide +kernel) rfl rfl rfl (by decide +kernel)
set_option maxRecDepth 65536 in
theorem w_c2 : (Jvm.Cond.code ({ cls := "com/example/claim_quorum/claimquorum/LockStore$Grant", name := "<init>", desc := "(ZZJJ)V" } : Jvm.MethodName) prog_4_method_1_code (7 : Nat) (Option.none : Option Jvm.ClassFile.FieldType)).before args0 about1 = true := code_word (m := ⟨2, 0⟩) (meth := k2m0) (c := k2c0) (by decide +kernel) rfl rfl rfl (by decide +kernel)
set_option maxRecDepth 65536 in
theorem w_c3 : (Jvm.Cond.code ({ cls := "java/lang/Object", name := "<init>", desc := "()V" } : Jvm.MethodName) object_method_1_code (1 : Nat) (Option.none : Option Jvm.ClassFile.FieldType)).before args0 about1 = true := code_word (m := ⟨0, 0⟩) (meth := k0m0) (c := k0c0) (by decide +kernel) rfl rfl rfl (by decide +kernel)
set_option maxRecDepth 65536 in
theorem w_c4 : (Jvm.Cond.code ({ cls := "com/example/claim_quorum/claimquorum/LockStore$Grant", name := "isGranted", desc := "()Z" } : Jvm.MethodName) prog_4_method_4_code (1 : Nat) (Option.some Jvm.ClassFile.FieldType.boolean)).before args0 about1 = true := code_word (m := ⟨2, 2⟩) (meth := k2m2) (c := k2c2) (by decide +kernel) rfl rfl rfl (by decide +kernel)
set_option maxRecDepth 65536 in
theorem w_c5 : (Jvm.Cond.code ({ cls := "com/example/claim_quorum/claimquorum/LockStore$Grant", name := "isReentry", desc := "()Z" } : Jvm.MethodName) prog_4_method_5_code (1 : Nat) (Option.some Jvm.ClassFile.FieldType.boolean)).before args0 about1 = true := code_word (m := ⟨2, 3⟩) (meth := k2m3) (c := k2c3) (by decide +kernel) rfl rfl rfl (by decide +kernel)
set_option maxRecDepth 65536 in
theorem w_c6 : (Jvm.Cond.code ({ cls := "com/example/claim_quorum/claimquorum/LockStore$Grant", name := "token", desc := "()J" } : Jvm.MethodName) prog_4_method_6_code (1 : Nat) (Option.some Jvm.ClassFile.FieldType.long)).before args0 about1 = true := code_word (m := ⟨2, 4⟩) (meth := k2m4) (c := k2c4) (by decide +kernel) rfl rfl rfl (by decide +kernel)
set_option maxRecDepth 65536 in
theorem w_c7 : (Jvm.Cond.code ({ cls := "com/example/claim_quorum/claimquorum/LockStore$Grant", name := "leaseLeftMillis", desc := "()J" } : Jvm.MethodName) prog_4_method_7_code (1 : Nat) (Option.some Jvm.ClassFile.FieldType.long)).before args0 about1 = true := code_word (m := ⟨2, 5⟩) (meth := k2m5) (c := k2c5) (by decide +kernel) rfl rfl rfl (by decide +kernel)
def codes1 : List Jvm.Cond := [Jvm.Cond.code x code maxLocals ret, Jvm.Cond.code ({ cls := "com/example/claim_quorum/claimquorum/LockStore$Grant", name := "refused", desc := "(J)Lcom/example/claim_quorum/claimquorum/LockStore$Grant;" } : Jvm.MethodName) prog_4_method_2_code (2 : Nat) (Option.some (Jvm.ClassFile.FieldType.object "com/example/claim_quorum/claimquorum/LockStore$Grant")), Jvm.Cond.code ({ cls := "com/example/claim_quorum/claimquorum/LockStore$Grant", name := "<init>", desc := "(ZZJJ)V" } : Jvm.MethodName) prog_4_method_1_code (7 : Nat) (Option.none : Option Jvm.ClassFile.FieldType), Jvm.Cond.code ({ cls := "java/lang/Object", name := "<init>", desc := "()V" } : Jvm.MethodName) object_method_1_code (1 : Nat) (Option.none : Option Jvm.ClassFile.FieldType), Jvm.Cond.code ({ cls := "com/example/claim_quorum/claimquorum/LockStore$Grant", name := "isGranted", desc := "()Z" } : Jvm.MethodName) prog_4_method_4_code (1 : Nat) (Option.some Jvm.ClassFile.FieldType.boolean), Jvm.Cond.code ({ cls := "com/example/claim_quorum/claimquorum/LockStore$Grant", name := "isReentry", desc := "()Z" } : Jvm.MethodName) prog_4_method_5_code (1 : Nat) (Option.some Jvm.ClassFile.FieldType.boolean), Jvm.Cond.code ({ cls := "com/example/claim_quorum/claimquorum/LockStore$Grant", name := "token", desc := "()J" } : Jvm.MethodName) prog_4_method_6_code (1 : Nat) (Option.some Jvm.ClassFile.FieldType.long), Jvm.Cond.code ({ cls := "com/example/claim_quorum/claimquorum/LockStore$Grant", name := "leaseLeftMillis", desc := "()J" } : Jvm.MethodName) prog_4_method_7_code (1 : Nat) (Option.some Jvm.ClassFile.FieldType.long)]
set_option maxRecDepth 65536 in
theorem codes_eq : words1.filter isCode = codes1 := rfl
theorem w_codes : ∀ c ∈ words1.filter isCode, c.before args0 about1 = true := by
  rw [codes_eq]
  intro c hc
  simp only [codes1, List.mem_cons, List.not_mem_nil, or_false] at hc
  rcases hc with rfl | rfl | rfl | rfl | rfl | rfl | rfl | rfl
  · exact w_c0
  · exact w_c1
  · exact w_c2
  · exact w_c3
  · exact w_c4
  · exact w_c5
  · exact w_c6
  · exact w_c7
set_option maxRecDepth 65536 in
theorem w_t1 : (words1.take 24).all (fun c => isCode c || c.before args0 about1) = true := by decide +kernel
set_option maxRecDepth 65536 in
theorem w_t2 : (words1.drop 24).all (fun c => isCode c || c.before args0 about1) = true := by decide +kernel
theorem w_tables : (allAtoms (Jvm.Cond.code x code maxLocals ret :: tables_1)).before args0 about1 = true := by
  rw [allAtoms_all]
  show words1.all (fun c => c.before args0 about1) = true
  refine all_split ?_ w_codes
  rw [← List.take_append_drop 24 words1, List.all_append, w_t1, w_t2]
  rfl
set_option maxRecDepth 65536 in
theorem w_case : (Jvm.Cond.and given_1 narrow_1).before args0 about1 = true := by decide +kernel
theorem w_applies : (headSpec (Jvm.Cond.code x code maxLocals ret :: tables_1) room_1).applies x e0.platform about1 = true :=
  (Spec.applies_iff w_frames).mpr ⟨w_running, w_runnable, w_alone, w_named, w_hears, w_ripe, w_room, w_tables⟩
theorem atStart : AtStart classFile x code maxLocals ret World_1 tables_1 room_1 Calls_1 rest_1 Pre_1 launch0 p0 e0 about1 theMethod args0 below0 :=
  ⟨lists_1, trivial, launch0.admits_env _ _ _, launch0.least_env, fairChoices_fair.cas, fairChoices_fair.clock, w_frames, w_args, w_heap, w_applies, trivial, trivial, w_case⟩
end start1
theorem witness_1 : WitnessClaimed_1 := ⟨start1.p0, start1.e0, start1.about1, start1.theMethod, start1.args0, start1.below0, start1.atStart⟩
end Jvm.Pilot.@@N@@
