import JvmDerived
import JvmDerived.Pilot.@@N@@Statement
import JvmDerived.Pilot.@@N@@Code
set_option linter.unusedVariables false
set_option linter.unusedSimpArgs false
namespace Jvm.Pilot.@@N@@
open Jvm Jvm.ClassFile Sem Op Lib Jvm.Free Jvm.Stand Jvm.LawKit Jvm.RoadKit Bundle Jvm.Pilot.@@N@@.Jvm.D
section OwnKit
variable {p : Program} {l : Launch} {e : Env} {R : Room} {s : State} {m : MethodId} {args : Array Value} {below : List Frame} {meth : Method} {c : Code} {T : State} {locs : List Loc} {cells slots : Nat} {Z : State} {a0 : Array Value} {h : Heap} {K N : Nat} {Q : Option Value → Heap → List Loc → Prop} {pc nx tg : Nat} {Ls : Array Slot} {st : List Value} {bs : ByteArray} {o : Int}
/-- from the frame g at T the run ends, returning, as Q says -/
def Wp (p : Program) (e : Env) (below : List Frame) (s : State) (K N : Nat) (Q : Option Value → Heap → List Loc → Prop) (T : State) (g : JFrame) : Prop :=
  ∃ s₂ o, Steps p.tables e below (T.setTop g) s₂ ∧ s₂.status = .running ∧ Ended s₂ below o ∧ ∃ v L, o = .returned v ∧ Q v s₂.heap L ∧ FrameEnd s o s₂ L K N
theorem Wp.go {T' : State} {g g' : JFrame} (st : ∀ target, Steps p.tables e below (T'.setTop g') target → Steps p.tables e below (T.setTop g) target) (k : Wp p e below s K N Q T' g') : Wp p e below s K N Q T g := by
  obtain ⟨s₂, o, h1, h2⟩ := k; exact ⟨s₂, o, st _ h1, h2⟩
theorem Wp.tr {T' : State} {g g' : JFrame} (st : Steps p.tables e below (T.setTop g) (T'.setTop g')) (k : Wp p e below s K N Q T' g') : Wp p e below s K N Q T g := by
  obtain ⟨s₂, o, h1, h2⟩ := k; exact ⟨s₂, o, st.trans h1, h2⟩
/-- the instruction i, len bytes long, stands at pc; the next one at nx -/
def In (bs : ByteArray) (pc : Nat) (i : Instr) (len nx : Nat) : Prop := decode bs pc = .ok (i, len) ∧ pc + len = nx
/-- a jump by o: the next one at nx, the target at tg -/
def Jm (bs : ByteArray) (pc : Nat) (i : Instr) (o : Int) (nx tg : Nat) : Prop := decode bs pc = .ok (i, 3) ∧ pc + 3 = nx ∧ 0 ≤ (pc : Int) + o ∧ ((pc : Int) + o).toNat = tg

theorem w_iadd (X : Stand p l e R s m args below meth c T locs cells slots) (hx : p.tables.exec = Jvm.exec) (hby : c.code = bs) {x y : Int32} (hd : In bs pc (.iadd) 1 nx) (k : Wp p e below s K N Q T (mkF m nx Ls (.int (x + y) :: st))) : Wp p e below s K N Q T (mkF m pc Ls (.int y :: .int x :: st)) := by
  obtain ⟨d, rfl⟩ := hd; exact Wp.go (fun t kk => XS.iadd X.here hx rfl (hb hby d) rfl kk) k
theorem w_isub (X : Stand p l e R s m args below meth c T locs cells slots) (hx : p.tables.exec = Jvm.exec) (hby : c.code = bs) {x y : Int32} (hd : In bs pc (.isub) 1 nx) (k : Wp p e below s K N Q T (mkF m nx Ls (.int (x - y) :: st))) : Wp p e below s K N Q T (mkF m pc Ls (.int y :: .int x :: st)) := by
  obtain ⟨d, rfl⟩ := hd; exact Wp.go (fun t kk => XS.isub X.here hx rfl (hb hby d) rfl kk) k
theorem w_iand (X : Stand p l e R s m args below meth c T locs cells slots) (hx : p.tables.exec = Jvm.exec) (hby : c.code = bs) {x y : Int32} (hd : In bs pc (.iand) 1 nx) (k : Wp p e below s K N Q T (mkF m nx Ls (.int (x &&& y) :: st))) : Wp p e below s K N Q T (mkF m pc Ls (.int y :: .int x :: st)) := by
  obtain ⟨d, rfl⟩ := hd; exact Wp.go (fun t kk => XS.iand X.here hx rfl (hb hby d) rfl kk) k
theorem w_imul (X : Stand p l e R s m args below meth c T locs cells slots) (hx : p.tables.exec = Jvm.exec) (hby : c.code = bs) {x y : Int32} (hd : In bs pc (.imul) 1 nx) (k : Wp p e below s K N Q T (mkF m nx Ls (.int (x * y) :: st))) : Wp p e below s K N Q T (mkF m pc Ls (.int y :: .int x :: st)) := by
  obtain ⟨d, rfl⟩ := hd; exact Wp.go (fun t kk => XS.imul X.here hx rfl (hb hby d) rfl kk) k
theorem w_ior (X : Stand p l e R s m args below meth c T locs cells slots) (hx : p.tables.exec = Jvm.exec) (hby : c.code = bs) {x y : Int32} (hd : In bs pc (.ior) 1 nx) (k : Wp p e below s K N Q T (mkF m nx Ls (.int (x ||| y) :: st))) : Wp p e below s K N Q T (mkF m pc Ls (.int y :: .int x :: st)) := by
  obtain ⟨d, rfl⟩ := hd; exact Wp.go (fun t kk => XS.ior X.here hx rfl (hb hby d) rfl kk) k
theorem w_ixor (X : Stand p l e R s m args below meth c T locs cells slots) (hx : p.tables.exec = Jvm.exec) (hby : c.code = bs) {x y : Int32} (hd : In bs pc (.ixor) 1 nx) (k : Wp p e below s K N Q T (mkF m nx Ls (.int (x ^^^ y) :: st))) : Wp p e below s K N Q T (mkF m pc Ls (.int y :: .int x :: st)) := by
  obtain ⟨d, rfl⟩ := hd; exact Wp.go (fun t kk => XS.ixor X.here hx rfl (hb hby d) rfl kk) k
theorem w_ishl (X : Stand p l e R s m args below meth c T locs cells slots) (hx : p.tables.exec = Jvm.exec) (hby : c.code = bs) {x y : Int32} (hd : In bs pc (.ishl) 1 nx) (k : Wp p e below s K N Q T (mkF m nx Ls (.int (x <<< (y &&& 31)) :: st))) : Wp p e below s K N Q T (mkF m pc Ls (.int y :: .int x :: st)) := by
  obtain ⟨d, rfl⟩ := hd; exact Wp.go (fun t kk => XS.ishl X.here hx rfl (hb hby d) rfl kk) k
theorem w_ishr (X : Stand p l e R s m args below meth c T locs cells slots) (hx : p.tables.exec = Jvm.exec) (hby : c.code = bs) {x y : Int32} (hd : In bs pc (.ishr) 1 nx) (k : Wp p e below s K N Q T (mkF m nx Ls (.int (x >>> (y &&& 31)) :: st))) : Wp p e below s K N Q T (mkF m pc Ls (.int y :: .int x :: st)) := by
  obtain ⟨d, rfl⟩ := hd; exact Wp.go (fun t kk => XS.ishr X.here hx rfl (hb hby d) rfl kk) k
theorem w_iushr (X : Stand p l e R s m args below meth c T locs cells slots) (hx : p.tables.exec = Jvm.exec) (hby : c.code = bs) {x y : Int32} (hd : In bs pc (.iushr) 1 nx) (k : Wp p e below s K N Q T (mkF m nx Ls (.int ((x.toUInt32 >>> (y &&& 31).toUInt32).toInt32) :: st))) : Wp p e below s K N Q T (mkF m pc Ls (.int y :: .int x :: st)) := by
  obtain ⟨d, rfl⟩ := hd; exact Wp.go (fun t kk => XS.iushr X.here hx rfl (hb hby d) rfl kk) k
theorem w_ladd (X : Stand p l e R s m args below meth c T locs cells slots) (hx : p.tables.exec = Jvm.exec) (hby : c.code = bs) {x y : Int64} (hd : In bs pc (.ladd) 1 nx) (k : Wp p e below s K N Q T (mkF m nx Ls (.long (x + y) :: st))) : Wp p e below s K N Q T (mkF m pc Ls (.long y :: .long x :: st)) := by
  obtain ⟨d, rfl⟩ := hd; exact Wp.go (fun t kk => XS.ladd X.here hx rfl (hb hby d) rfl kk) k
theorem w_lsub (X : Stand p l e R s m args below meth c T locs cells slots) (hx : p.tables.exec = Jvm.exec) (hby : c.code = bs) {x y : Int64} (hd : In bs pc (.lsub) 1 nx) (k : Wp p e below s K N Q T (mkF m nx Ls (.long (x - y) :: st))) : Wp p e below s K N Q T (mkF m pc Ls (.long y :: .long x :: st)) := by
  obtain ⟨d, rfl⟩ := hd; exact Wp.go (fun t kk => XS.lsub X.here hx rfl (hb hby d) rfl kk) k
theorem w_land (X : Stand p l e R s m args below meth c T locs cells slots) (hx : p.tables.exec = Jvm.exec) (hby : c.code = bs) {x y : Int64} (hd : In bs pc (.land) 1 nx) (k : Wp p e below s K N Q T (mkF m nx Ls (.long (x &&& y) :: st))) : Wp p e below s K N Q T (mkF m pc Ls (.long y :: .long x :: st)) := by
  obtain ⟨d, rfl⟩ := hd; exact Wp.go (fun t kk => XS.land X.here hx rfl (hb hby d) rfl kk) k
theorem w_lmul (X : Stand p l e R s m args below meth c T locs cells slots) (hx : p.tables.exec = Jvm.exec) (hby : c.code = bs) {x y : Int64} (hd : In bs pc (.lmul) 1 nx) (k : Wp p e below s K N Q T (mkF m nx Ls (.long (x * y) :: st))) : Wp p e below s K N Q T (mkF m pc Ls (.long y :: .long x :: st)) := by
  obtain ⟨d, rfl⟩ := hd; exact Wp.go (fun t kk => XS.lmul X.here hx rfl (hb hby d) rfl kk) k
theorem w_lor (X : Stand p l e R s m args below meth c T locs cells slots) (hx : p.tables.exec = Jvm.exec) (hby : c.code = bs) {x y : Int64} (hd : In bs pc (.lor) 1 nx) (k : Wp p e below s K N Q T (mkF m nx Ls (.long (x ||| y) :: st))) : Wp p e below s K N Q T (mkF m pc Ls (.long y :: .long x :: st)) := by
  obtain ⟨d, rfl⟩ := hd; exact Wp.go (fun t kk => XS.lor X.here hx rfl (hb hby d) rfl kk) k
theorem w_lxor (X : Stand p l e R s m args below meth c T locs cells slots) (hx : p.tables.exec = Jvm.exec) (hby : c.code = bs) {x y : Int64} (hd : In bs pc (.lxor) 1 nx) (k : Wp p e below s K N Q T (mkF m nx Ls (.long (x ^^^ y) :: st))) : Wp p e below s K N Q T (mkF m pc Ls (.long y :: .long x :: st)) := by
  obtain ⟨d, rfl⟩ := hd; exact Wp.go (fun t kk => XS.lxor X.here hx rfl (hb hby d) rfl kk) k
theorem w_lshl (X : Stand p l e R s m args below meth c T locs cells slots) (hx : p.tables.exec = Jvm.exec) (hby : c.code = bs) {x : Int64} {y : Int32} (hd : In bs pc (.lshl) 1 nx) (k : Wp p e below s K N Q T (mkF m nx Ls (.long (x <<< (y &&& 0x3f).toInt64) :: st))) : Wp p e below s K N Q T (mkF m pc Ls (.int y :: .long x :: st)) := by
  obtain ⟨d, rfl⟩ := hd; exact Wp.go (fun t kk => XS.lshl X.here hx rfl (hb hby d) rfl kk) k
theorem w_lshr (X : Stand p l e R s m args below meth c T locs cells slots) (hx : p.tables.exec = Jvm.exec) (hby : c.code = bs) {x : Int64} {y : Int32} (hd : In bs pc (.lshr) 1 nx) (k : Wp p e below s K N Q T (mkF m nx Ls (.long (x >>> (y &&& 0x3f).toInt64) :: st))) : Wp p e below s K N Q T (mkF m pc Ls (.int y :: .long x :: st)) := by
  obtain ⟨d, rfl⟩ := hd; exact Wp.go (fun t kk => XS.lshr X.here hx rfl (hb hby d) rfl kk) k
theorem w_lushr (X : Stand p l e R s m args below meth c T locs cells slots) (hx : p.tables.exec = Jvm.exec) (hby : c.code = bs) {x : Int64} {y : Int32} (hd : In bs pc (.lushr) 1 nx) (k : Wp p e below s K N Q T (mkF m nx Ls (.long ((x.toUInt64 >>> (y &&& 0x3f).toInt64.toUInt64).toInt64) :: st))) : Wp p e below s K N Q T (mkF m pc Ls (.int y :: .long x :: st)) := by
  obtain ⟨d, rfl⟩ := hd; exact Wp.go (fun t kk => XS.lushr X.here hx rfl (hb hby d) rfl kk) k
theorem w_i2b (X : Stand p l e R s m args below meth c T locs cells slots) (hx : p.tables.exec = Jvm.exec) (hby : c.code = bs) {x : Int32} (hd : In bs pc (.i2b) 1 nx) (k : Wp p e below s K N Q T (mkF m nx Ls (.int (x.toInt8.toInt32) :: st))) : Wp p e below s K N Q T (mkF m pc Ls (.int x :: st)) := by
  obtain ⟨d, rfl⟩ := hd; exact Wp.go (fun t kk => XS.i2b X.here hx rfl (hb hby d) rfl kk) k
theorem w_i2c (X : Stand p l e R s m args below meth c T locs cells slots) (hx : p.tables.exec = Jvm.exec) (hby : c.code = bs) {x : Int32} (hd : In bs pc (.i2c) 1 nx) (k : Wp p e below s K N Q T (mkF m nx Ls (.int (x.toUInt32.toUInt16.toUInt32.toInt32) :: st))) : Wp p e below s K N Q T (mkF m pc Ls (.int x :: st)) := by
  obtain ⟨d, rfl⟩ := hd; exact Wp.go (fun t kk => XS.i2c X.here hx rfl (hb hby d) rfl kk) k
theorem w_i2s (X : Stand p l e R s m args below meth c T locs cells slots) (hx : p.tables.exec = Jvm.exec) (hby : c.code = bs) {x : Int32} (hd : In bs pc (.i2s) 1 nx) (k : Wp p e below s K N Q T (mkF m nx Ls (.int (x.toInt16.toInt32) :: st))) : Wp p e below s K N Q T (mkF m pc Ls (.int x :: st)) := by
  obtain ⟨d, rfl⟩ := hd; exact Wp.go (fun t kk => XS.i2s X.here hx rfl (hb hby d) rfl kk) k
theorem w_ineg (X : Stand p l e R s m args below meth c T locs cells slots) (hx : p.tables.exec = Jvm.exec) (hby : c.code = bs) {x : Int32} (hd : In bs pc (.ineg) 1 nx) (k : Wp p e below s K N Q T (mkF m nx Ls (.int (-x) :: st))) : Wp p e below s K N Q T (mkF m pc Ls (.int x :: st)) := by
  obtain ⟨d, rfl⟩ := hd; exact Wp.go (fun t kk => XS.ineg X.here hx rfl (hb hby d) rfl kk) k
theorem w_i2l (X : Stand p l e R s m args below meth c T locs cells slots) (hx : p.tables.exec = Jvm.exec) (hby : c.code = bs) {x : Int32} (hd : In bs pc (.i2l) 1 nx) (k : Wp p e below s K N Q T (mkF m nx Ls (.long x.toInt64 :: st))) : Wp p e below s K N Q T (mkF m pc Ls (.int x :: st)) := by
  obtain ⟨d, rfl⟩ := hd; exact Wp.go (fun t kk => XS.i2l X.here hx rfl (hb hby d) rfl kk) k
theorem w_l2i (X : Stand p l e R s m args below meth c T locs cells slots) (hx : p.tables.exec = Jvm.exec) (hby : c.code = bs) {x : Int64} (hd : In bs pc (.l2i) 1 nx) (k : Wp p e below s K N Q T (mkF m nx Ls (.int x.toInt32 :: st))) : Wp p e below s K N Q T (mkF m pc Ls (.long x :: st)) := by
  obtain ⟨d, rfl⟩ := hd; exact Wp.go (fun t kk => XS.l2i X.here hx rfl (hb hby d) rfl kk) k
theorem w_lneg (X : Stand p l e R s m args below meth c T locs cells slots) (hx : p.tables.exec = Jvm.exec) (hby : c.code = bs) {x : Int64} (hd : In bs pc (.lneg) 1 nx) (k : Wp p e below s K N Q T (mkF m nx Ls (.long (-x) :: st))) : Wp p e below s K N Q T (mkF m pc Ls (.long x :: st)) := by
  obtain ⟨d, rfl⟩ := hd; exact Wp.go (fun t kk => XS.lneg X.here hx rfl (hb hby d) rfl kk) k
theorem w_idiv (X : Stand p l e R s m args below meth c T locs cells slots) (hx : p.tables.exec = Jvm.exec) (hby : c.code = bs) {x y : Int32} (hd : In bs pc (.idiv) 1 nx) (hy : y ≠ 0) (k : Wp p e below s K N Q T (mkF m nx Ls (.int (x / y) :: st))) : Wp p e below s K N Q T (mkF m pc Ls (.int y :: .int x :: st)) := by
  obtain ⟨d, rfl⟩ := hd; exact Wp.go (fun t kk => XS.idiv X.here hx rfl (hb hby d) rfl hy kk) k
theorem w_irem (X : Stand p l e R s m args below meth c T locs cells slots) (hx : p.tables.exec = Jvm.exec) (hby : c.code = bs) {x y : Int32} (hd : In bs pc .irem 1 nx) (hy : y ≠ 0) (k : Wp p e below s K N Q T (mkF m nx Ls (.int (x % y) :: st))) : Wp p e below s K N Q T (mkF m pc Ls (.int y :: .int x :: st)) := by
  obtain ⟨d, rfl⟩ := hd; exact Wp.go (fun t kk => iremM X hx rfl (hb hby d) rfl hy kk) k
theorem w_ldiv (X : Stand p l e R s m args below meth c T locs cells slots) (hx : p.tables.exec = Jvm.exec) (hby : c.code = bs) {x y : Int64} (hd : In bs pc (.ldiv) 1 nx) (hy : y ≠ 0) (k : Wp p e below s K N Q T (mkF m nx Ls (.long (x / y) :: st))) : Wp p e below s K N Q T (mkF m pc Ls (.long y :: .long x :: st)) := by
  obtain ⟨d, rfl⟩ := hd; exact Wp.go (fun t kk => XS.ldiv X.here hx rfl (hb hby d) rfl hy kk) k
theorem w_lrem (X : Stand p l e R s m args below meth c T locs cells slots) (hx : p.tables.exec = Jvm.exec) (hby : c.code = bs) {x y : Int64} (hd : In bs pc .lrem 1 nx) (hy : y ≠ 0) (k : Wp p e below s K N Q T (mkF m nx Ls (.long (x % y) :: st))) : Wp p e below s K N Q T (mkF m pc Ls (.long y :: .long x :: st)) := by
  obtain ⟨d, rfl⟩ := hd; refine Wp.go (fun t kk => XS.lrem X.here hx rfl (hb hby d) rfl hy kk) ?_; rw [lrem_mod]; exact k
theorem w_aconst_null (X : Stand p l e R s m args below meth c T locs cells slots) (hx : p.tables.exec = Jvm.exec) (hby : c.code = bs)  (hd : In bs pc (.aconst_null) 1 nx) (k : Wp p e below s K N Q T (mkF m nx Ls (.null :: st))) : Wp p e below s K N Q T (mkF m pc Ls (st)) := by
  obtain ⟨d, rfl⟩ := hd; exact Wp.go (fun t kk => XS.aconstNull X.here hx rfl (hb hby d) kk) k
theorem w_dup (X : Stand p l e R s m args below meth c T locs cells slots) (hx : p.tables.exec = Jvm.exec) (hby : c.code = bs) {x : Value} (hd : In bs pc (.dup) 1 nx) (hc : x.category = 1) (k : Wp p e below s K N Q T (mkF m nx Ls (x :: x :: st))) : Wp p e below s K N Q T (mkF m pc Ls (x :: st)) := by
  obtain ⟨d, rfl⟩ := hd; exact Wp.go (fun t kk => XS.dup X.here hx rfl (hb hby d) rfl hc kk) k
theorem w_dup_x1 (X : Stand p l e R s m args below meth c T locs cells slots) (hx : p.tables.exec = Jvm.exec) (hby : c.code = bs) {x y : Value} (hd : In bs pc (.dup_x1) 1 nx) (hc : x.category = 1) (hc2 : y.category = 1) (k : Wp p e below s K N Q T (mkF m nx Ls (x :: y :: x :: st))) : Wp p e below s K N Q T (mkF m pc Ls (x :: y :: st)) := by
  obtain ⟨d, rfl⟩ := hd; exact Wp.go (fun t kk => XS.dupX1 X.here hx rfl (hb hby d) rfl hc hc2 kk) k
theorem w_dup2 (X : Stand p l e R s m args below meth c T locs cells slots) (hx : p.tables.exec = Jvm.exec) (hby : c.code = bs) {x y : Value} (hd : In bs pc (.dup2) 1 nx) (hc : x.category = 1) (hc2 : y.category = 1) (k : Wp p e below s K N Q T (mkF m nx Ls (x :: y :: x :: y :: st))) : Wp p e below s K N Q T (mkF m pc Ls (x :: y :: st)) := by
  obtain ⟨d, rfl⟩ := hd; exact Wp.go (fun t kk => XT.dup2 X.here hx rfl (hb hby d) rfl hc hc2 kk) k
theorem w_dup2L (X : Stand p l e R s m args below meth c T locs cells slots) (hx : p.tables.exec = Jvm.exec) (hby : c.code = bs) {x : Int64} (hd : In bs pc (.dup2) 1 nx) (k : Wp p e below s K N Q T (mkF m nx Ls (.long x :: .long x :: st))) : Wp p e below s K N Q T (mkF m pc Ls (.long x :: st)) := by
  obtain ⟨d, rfl⟩ := hd; exact Wp.go (fun t kk => XT.dup2L X.here hx rfl (hb hby d) rfl kk) k
theorem w_pop (X : Stand p l e R s m args below meth c T locs cells slots) (hx : p.tables.exec = Jvm.exec) (hby : c.code = bs) {x : Value} (hd : In bs pc (.pop) 1 nx) (hc : x.category = 1) (k : Wp p e below s K N Q T (mkF m nx Ls (st))) : Wp p e below s K N Q T (mkF m pc Ls (x :: st)) := by
  obtain ⟨d, rfl⟩ := hd; exact Wp.go (fun t kk => XS.pop X.here hx rfl (hb hby d) rfl hc kk) k
theorem w_iconst (X : Stand p l e R s m args below meth c T locs cells slots) (hx : p.tables.exec = Jvm.exec) (hby : c.code = bs) {i : Int} (v : Int32) (hd : In bs pc (.iconst i) 1 nx) (hv : Int32.ofInt i = v) (k : Wp p e below s K N Q T (mkF m nx Ls (.int v :: st))) : Wp p e below s K N Q T (mkF m pc Ls (st)) := by
  obtain ⟨d, rfl⟩ := hd; exact Wp.go (fun t kk => XT.iconstV X.here hx rfl v (hb hby d) hv kk) k
theorem w_bipush (X : Stand p l e R s m args below meth c T locs cells slots) (hx : p.tables.exec = Jvm.exec) (hby : c.code = bs) {i : Int} (v : Int32) (hd : In bs pc (.bipush i) 2 nx) (hv : (Int8.ofInt i).toInt32 = v) (k : Wp p e below s K N Q T (mkF m nx Ls (.int v :: st))) : Wp p e below s K N Q T (mkF m pc Ls (st)) := by
  obtain ⟨d, rfl⟩ := hd; exact Wp.go (fun t kk => XT.bipushV X.here hx rfl v (hb hby d) hv kk) k
theorem w_sipush (X : Stand p l e R s m args below meth c T locs cells slots) (hx : p.tables.exec = Jvm.exec) (hby : c.code = bs) {i : Int} (v : Int32) (hd : In bs pc (.sipush i) 3 nx) (hv : (Int16.ofInt i).toInt32 = v) (k : Wp p e below s K N Q T (mkF m nx Ls (.int v :: st))) : Wp p e below s K N Q T (mkF m pc Ls (st)) := by
  obtain ⟨d, rfl⟩ := hd; exact Wp.go (fun t kk => XT.sipushV X.here hx rfl v (hb hby d) hv kk) k
theorem w_lconst (X : Stand p l e R s m args below meth c T locs cells slots) (hx : p.tables.exec = Jvm.exec) (hby : c.code = bs) {i : Fin 2} (v : Int64) (hd : In bs pc (.lconst i) 1 nx) (hv : Int64.ofNat i = v) (k : Wp p e below s K N Q T (mkF m nx Ls (.long v :: st))) : Wp p e below s K N Q T (mkF m pc Ls (st)) := by
  obtain ⟨d, rfl⟩ := hd; exact Wp.go (fun t kk => XT.lconstV X.here hx rfl v (hb hby d) hv kk) k
theorem w_iloadN (X : Stand p l e R s m args below meth c T locs cells slots) (hx : p.tables.exec = Jvm.exec) (hby : c.code = bs) {i : Fin 4} {v : Int32} (hd : In bs pc (.iload_n i) 1 nx) (hl : Ls[i.val]? = some (.val (.int v))) (k : Wp p e below s K N Q T (mkF m nx Ls (.int v :: st))) : Wp p e below s K N Q T (mkF m pc Ls (st)) := by
  obtain ⟨d, rfl⟩ := hd; exact Wp.go (fun t kk => XS.iloadN X.here hx rfl (hb hby d) hl kk) k
theorem w_lloadN (X : Stand p l e R s m args below meth c T locs cells slots) (hx : p.tables.exec = Jvm.exec) (hby : c.code = bs) {i : Fin 4} {v : Int64} (hd : In bs pc (.lload_n i) 1 nx) (hl : Ls[i.val]? = some (.val (.long v))) (k : Wp p e below s K N Q T (mkF m nx Ls (.long v :: st))) : Wp p e below s K N Q T (mkF m pc Ls (st)) := by
  obtain ⟨d, rfl⟩ := hd; exact Wp.go (fun t kk => XS.lloadN X.here hx rfl (hb hby d) hl kk) k
theorem w_aloadN (X : Stand p l e R s m args below meth c T locs cells slots) (hx : p.tables.exec = Jvm.exec) (hby : c.code = bs) {i : Fin 4} {v : Value} (hd : In bs pc (.aload_n i) 1 nx) (hl : Ls[i.val]? = some (.val v)) (hv : v.isRef = true) (k : Wp p e below s K N Q T (mkF m nx Ls (v :: st))) : Wp p e below s K N Q T (mkF m pc Ls (st)) := by
  obtain ⟨d, rfl⟩ := hd; exact Wp.go (fun t kk => XS.aloadN X.here hx rfl (hb hby d) hl hv kk) k
theorem w_istoreN (X : Stand p l e R s m args below meth c T locs cells slots) (hx : p.tables.exec = Jvm.exec) (hby : c.code = bs) {i : Fin 4} {v : Int32} (l' : Array Slot) (hd : In bs pc (.istore_n i) 1 nx) (hl : storeLocals Ls i.val (.int v) = some l') (k : Wp p e below s K N Q T (mkF m nx l' (st))) : Wp p e below s K N Q T (mkF m pc Ls (.int v :: st)) := by
  obtain ⟨d, rfl⟩ := hd; exact Wp.go (fun t kk => XS.istoreN X.here hx rfl (hb hby d) rfl hl kk) k
theorem w_lstoreN (X : Stand p l e R s m args below meth c T locs cells slots) (hx : p.tables.exec = Jvm.exec) (hby : c.code = bs) {i : Fin 4} {v : Int64} (l' : Array Slot) (hd : In bs pc (.lstore_n i) 1 nx) (hl : storeLocals Ls i.val (.long v) = some l') (k : Wp p e below s K N Q T (mkF m nx l' (st))) : Wp p e below s K N Q T (mkF m pc Ls (.long v :: st)) := by
  obtain ⟨d, rfl⟩ := hd; exact Wp.go (fun t kk => XS.lstoreN X.here hx rfl (hb hby d) rfl hl kk) k
theorem w_astoreN (X : Stand p l e R s m args below meth c T locs cells slots) (hx : p.tables.exec = Jvm.exec) (hby : c.code = bs) {i : Fin 4} {v : Value} (l' : Array Slot) (hd : In bs pc (.astore_n i) 1 nx) (hv : v.isRef = true) (hl : storeLocals Ls i.val v = some l') (k : Wp p e below s K N Q T (mkF m nx l' (st))) : Wp p e below s K N Q T (mkF m pc Ls (v :: st)) := by
  obtain ⟨d, rfl⟩ := hd; exact Wp.go (fun t kk => XS.astoreN X.here hx rfl (hb hby d) rfl hv hl kk) k
theorem w_iload (X : Stand p l e R s m args below meth c T locs cells slots) (hx : p.tables.exec = Jvm.exec) (hby : c.code = bs) {i : Nat} {v : Int32} (hd : In bs pc (.iload i) 2 nx) (hl : Ls[i]? = some (.val (.int v))) (k : Wp p e below s K N Q T (mkF m nx Ls (.int v :: st))) : Wp p e below s K N Q T (mkF m pc Ls (st)) := by
  obtain ⟨d, rfl⟩ := hd; exact Wp.go (fun t kk => XS.iload X.here hx rfl (hb hby d) hl kk) k
theorem w_lload (X : Stand p l e R s m args below meth c T locs cells slots) (hx : p.tables.exec = Jvm.exec) (hby : c.code = bs) {i : Nat} {v : Int64} (hd : In bs pc (.lload i) 2 nx) (hl : Ls[i]? = some (.val (.long v))) (k : Wp p e below s K N Q T (mkF m nx Ls (.long v :: st))) : Wp p e below s K N Q T (mkF m pc Ls (st)) := by
  obtain ⟨d, rfl⟩ := hd; exact Wp.go (fun t kk => XS.lload X.here hx rfl (hb hby d) hl kk) k
theorem w_aload (X : Stand p l e R s m args below meth c T locs cells slots) (hx : p.tables.exec = Jvm.exec) (hby : c.code = bs) {i : Nat} {v : Value} (hd : In bs pc (.aload i) 2 nx) (hl : Ls[i]? = some (.val v)) (hv : v.isRef = true) (k : Wp p e below s K N Q T (mkF m nx Ls (v :: st))) : Wp p e below s K N Q T (mkF m pc Ls (st)) := by
  obtain ⟨d, rfl⟩ := hd; exact Wp.go (fun t kk => XS.aload X.here hx rfl (hb hby d) hl hv kk) k
theorem w_istore (X : Stand p l e R s m args below meth c T locs cells slots) (hx : p.tables.exec = Jvm.exec) (hby : c.code = bs) {i : Nat} {v : Int32} (l' : Array Slot) (hd : In bs pc (.istore i) 2 nx) (hl : storeLocals Ls i (.int v) = some l') (k : Wp p e below s K N Q T (mkF m nx l' (st))) : Wp p e below s K N Q T (mkF m pc Ls (.int v :: st)) := by
  obtain ⟨d, rfl⟩ := hd; exact Wp.go (fun t kk => XS.istore X.here hx rfl (hb hby d) rfl hl kk) k
theorem w_lstore (X : Stand p l e R s m args below meth c T locs cells slots) (hx : p.tables.exec = Jvm.exec) (hby : c.code = bs) {i : Nat} {v : Int64} (l' : Array Slot) (hd : In bs pc (.lstore i) 2 nx) (hl : storeLocals Ls i (.long v) = some l') (k : Wp p e below s K N Q T (mkF m nx l' (st))) : Wp p e below s K N Q T (mkF m pc Ls (.long v :: st)) := by
  obtain ⟨d, rfl⟩ := hd; exact Wp.go (fun t kk => XS.lstore X.here hx rfl (hb hby d) rfl hl kk) k
theorem w_astore (X : Stand p l e R s m args below meth c T locs cells slots) (hx : p.tables.exec = Jvm.exec) (hby : c.code = bs) {i : Nat} {v : Value} (l' : Array Slot) (hd : In bs pc (.astore i) 2 nx) (hv : v.isRef = true) (hl : storeLocals Ls i v = some l') (k : Wp p e below s K N Q T (mkF m nx l' (st))) : Wp p e below s K N Q T (mkF m pc Ls (v :: st)) := by
  obtain ⟨d, rfl⟩ := hd; exact Wp.go (fun t kk => XS.astore X.here hx rfl (hb hby d) rfl hv hl kk) k
theorem w_iinc (X : Stand p l e R s m args below meth c T locs cells slots) (hx : p.tables.exec = Jvm.exec) (hby : c.code = bs) {i : Nat} {cst : Int} {x : Int32} (v : Int32) (l' : Array Slot) (hd : In bs pc (.iinc i cst) 3 nx) (hv : Int32.ofInt cst = v) (hl : Ls[i]? = some (.val (.int x))) (hl' : storeLocals Ls i (.int (x + v)) = some l') (k : Wp p e below s K N Q T (mkF m nx l' st)) : Wp p e below s K N Q T (mkF m pc Ls st) := by
  obtain ⟨d, rfl⟩ := hd; exact Wp.go (fun t kk => XT.iincV X.here hx rfl v (hb hby d) hv hl hl' kk) k
theorem w_goto (X : Stand p l e R s m args below meth c T locs cells slots) (hx : p.tables.exec = Jvm.exec) (hby : c.code = bs) (hd : Jm bs pc (.goto o) o nx tg) (k : Wp p e below s K N Q T (mkF m tg Ls st)) : Wp p e below s K N Q T (mkF m pc Ls st) := by
  obtain ⟨d, -, q1, q2⟩ := hd; exact Wp.go (fun t kk => XS.goto X.here hx rfl rfl (hb hby d) q1 q2 kk) k
theorem f_icmp_eq (X : Stand p l e R s m args below meth c T locs cells slots) (hx : p.tables.exec = Jvm.exec) (hby : c.code = bs) {x y : Int32} (hd : Jm bs pc (.if_icmp .eq o) o nx tg) (kt : x = y → Wp p e below s K N Q T (mkF m tg Ls st)) (kf : ¬ x = y → Wp p e below s K N Q T (mkF m nx Ls st)) : Wp p e below s K N Q T (mkF m pc Ls (.int y :: .int x :: st)) := by
  obtain ⟨d, rfl, q1, q2⟩ := hd
  by_cases q : x = y
  · exact Wp.go (fun t kk => XS.icmpYes X.here hx rfl rfl (hb hby d) rfl (XT.ii_eq_t q) q1 q2 kk) (kt q)
  · exact Wp.go (fun t kk => XS.icmpNo X.here hx rfl (hb hby d) rfl (XT.ii_eq_f q) kk) (kf q)
theorem f_if_eq (X : Stand p l e R s m args below meth c T locs cells slots) (hx : p.tables.exec = Jvm.exec) (hby : c.code = bs) {x : Int32} (hd : Jm bs pc (.ifCond .eq o) o nx tg) (kt : x = 0 → Wp p e below s K N Q T (mkF m tg Ls st)) (kf : ¬ x = 0 → Wp p e below s K N Q T (mkF m nx Ls st)) : Wp p e below s K N Q T (mkF m pc Ls (.int x :: st)) := by
  obtain ⟨d, rfl, q1, q2⟩ := hd
  by_cases q : x = 0
  · exact Wp.go (fun t kk => XS.ifYes X.here hx rfl rfl (hb hby d) rfl (XT.i0_eq_t q) q1 q2 kk) (kt q)
  · exact Wp.go (fun t kk => XS.ifNo X.here hx rfl (hb hby d) rfl (XT.i0_eq_f q) kk) (kf q)
theorem f_lcmp_eq (X : Stand p l e R s m args below meth c T locs cells slots) (hx : p.tables.exec = Jvm.exec) (hby : c.code = bs) {x y : Int64} {n1 : Nat} (hc : In bs pc .lcmp 1 n1) (hd : Jm bs n1 (.ifCond .eq o) o nx tg) (kt : x = y → Wp p e below s K N Q T (mkF m tg Ls st)) (kf : ¬ x = y → Wp p e below s K N Q T (mkF m nx Ls st)) : Wp p e below s K N Q T (mkF m pc Ls (.long y :: .long x :: st)) := by
  obtain ⟨d1, rfl⟩ := hc; obtain ⟨d, rfl, q1, q2⟩ := hd
  refine Wp.go (fun t kk => XT.lcmp X.here hx rfl (hb hby d1) rfl kk) ?_
  by_cases q : x = y
  · exact Wp.go (fun t kk => XS.ifYes X.here hx rfl rfl (hb hby d) rfl (XT.ll_eq_t q) q1 q2 kk) (kt q)
  · exact Wp.go (fun t kk => XS.ifNo X.here hx rfl (hb hby d) rfl (XT.ll_eq_f q) kk) (kf q)
theorem f_icmp_ne (X : Stand p l e R s m args below meth c T locs cells slots) (hx : p.tables.exec = Jvm.exec) (hby : c.code = bs) {x y : Int32} (hd : Jm bs pc (.if_icmp .ne o) o nx tg) (kt : ¬ x = y → Wp p e below s K N Q T (mkF m tg Ls st)) (kf : x = y → Wp p e below s K N Q T (mkF m nx Ls st)) : Wp p e below s K N Q T (mkF m pc Ls (.int y :: .int x :: st)) := by
  obtain ⟨d, rfl, q1, q2⟩ := hd
  by_cases q : x = y
  · exact Wp.go (fun t kk => XS.icmpNo X.here hx rfl (hb hby d) rfl (XT.ii_ne_f q) kk) (kf q)
  · exact Wp.go (fun t kk => XS.icmpYes X.here hx rfl rfl (hb hby d) rfl (XT.ii_ne_t q) q1 q2 kk) (kt q)
theorem f_if_ne (X : Stand p l e R s m args below meth c T locs cells slots) (hx : p.tables.exec = Jvm.exec) (hby : c.code = bs) {x : Int32} (hd : Jm bs pc (.ifCond .ne o) o nx tg) (kt : ¬ x = 0 → Wp p e below s K N Q T (mkF m tg Ls st)) (kf : x = 0 → Wp p e below s K N Q T (mkF m nx Ls st)) : Wp p e below s K N Q T (mkF m pc Ls (.int x :: st)) := by
  obtain ⟨d, rfl, q1, q2⟩ := hd
  by_cases q : x = 0
  · exact Wp.go (fun t kk => XS.ifNo X.here hx rfl (hb hby d) rfl (XT.i0_ne_f q) kk) (kf q)
  · exact Wp.go (fun t kk => XS.ifYes X.here hx rfl rfl (hb hby d) rfl (XT.i0_ne_t q) q1 q2 kk) (kt q)
theorem f_lcmp_ne (X : Stand p l e R s m args below meth c T locs cells slots) (hx : p.tables.exec = Jvm.exec) (hby : c.code = bs) {x y : Int64} {n1 : Nat} (hc : In bs pc .lcmp 1 n1) (hd : Jm bs n1 (.ifCond .ne o) o nx tg) (kt : ¬ x = y → Wp p e below s K N Q T (mkF m tg Ls st)) (kf : x = y → Wp p e below s K N Q T (mkF m nx Ls st)) : Wp p e below s K N Q T (mkF m pc Ls (.long y :: .long x :: st)) := by
  obtain ⟨d1, rfl⟩ := hc; obtain ⟨d, rfl, q1, q2⟩ := hd
  refine Wp.go (fun t kk => XT.lcmp X.here hx rfl (hb hby d1) rfl kk) ?_
  by_cases q : x = y
  · exact Wp.go (fun t kk => XS.ifNo X.here hx rfl (hb hby d) rfl (XT.ll_ne_f q) kk) (kf q)
  · exact Wp.go (fun t kk => XS.ifYes X.here hx rfl rfl (hb hby d) rfl (XT.ll_ne_t q) q1 q2 kk) (kt q)
theorem f_icmp_lt (X : Stand p l e R s m args below meth c T locs cells slots) (hx : p.tables.exec = Jvm.exec) (hby : c.code = bs) {x y : Int32} (hd : Jm bs pc (.if_icmp .lt o) o nx tg) (kt : x < y → Wp p e below s K N Q T (mkF m tg Ls st)) (kf : ¬ x < y → Wp p e below s K N Q T (mkF m nx Ls st)) : Wp p e below s K N Q T (mkF m pc Ls (.int y :: .int x :: st)) := by
  obtain ⟨d, rfl, q1, q2⟩ := hd
  by_cases q : x < y
  · exact Wp.go (fun t kk => XS.icmpYes X.here hx rfl rfl (hb hby d) rfl (XT.ii_lt_t q) q1 q2 kk) (kt q)
  · exact Wp.go (fun t kk => XS.icmpNo X.here hx rfl (hb hby d) rfl (XT.ii_lt_f q) kk) (kf q)
theorem f_if_lt (X : Stand p l e R s m args below meth c T locs cells slots) (hx : p.tables.exec = Jvm.exec) (hby : c.code = bs) {x : Int32} (hd : Jm bs pc (.ifCond .lt o) o nx tg) (kt : x < 0 → Wp p e below s K N Q T (mkF m tg Ls st)) (kf : ¬ x < 0 → Wp p e below s K N Q T (mkF m nx Ls st)) : Wp p e below s K N Q T (mkF m pc Ls (.int x :: st)) := by
  obtain ⟨d, rfl, q1, q2⟩ := hd
  by_cases q : x < 0
  · exact Wp.go (fun t kk => XS.ifYes X.here hx rfl rfl (hb hby d) rfl (XT.i0_lt_t q) q1 q2 kk) (kt q)
  · exact Wp.go (fun t kk => XS.ifNo X.here hx rfl (hb hby d) rfl (XT.i0_lt_f q) kk) (kf q)
theorem f_lcmp_lt (X : Stand p l e R s m args below meth c T locs cells slots) (hx : p.tables.exec = Jvm.exec) (hby : c.code = bs) {x y : Int64} {n1 : Nat} (hc : In bs pc .lcmp 1 n1) (hd : Jm bs n1 (.ifCond .lt o) o nx tg) (kt : x < y → Wp p e below s K N Q T (mkF m tg Ls st)) (kf : ¬ x < y → Wp p e below s K N Q T (mkF m nx Ls st)) : Wp p e below s K N Q T (mkF m pc Ls (.long y :: .long x :: st)) := by
  obtain ⟨d1, rfl⟩ := hc; obtain ⟨d, rfl, q1, q2⟩ := hd
  refine Wp.go (fun t kk => XT.lcmp X.here hx rfl (hb hby d1) rfl kk) ?_
  by_cases q : x < y
  · exact Wp.go (fun t kk => XS.ifYes X.here hx rfl rfl (hb hby d) rfl (XT.ll_lt_t q) q1 q2 kk) (kt q)
  · exact Wp.go (fun t kk => XS.ifNo X.here hx rfl (hb hby d) rfl (XT.ll_lt_f q) kk) (kf q)
theorem f_icmp_ge (X : Stand p l e R s m args below meth c T locs cells slots) (hx : p.tables.exec = Jvm.exec) (hby : c.code = bs) {x y : Int32} (hd : Jm bs pc (.if_icmp .ge o) o nx tg) (kt : ¬ x < y → Wp p e below s K N Q T (mkF m tg Ls st)) (kf : x < y → Wp p e below s K N Q T (mkF m nx Ls st)) : Wp p e below s K N Q T (mkF m pc Ls (.int y :: .int x :: st)) := by
  obtain ⟨d, rfl, q1, q2⟩ := hd
  by_cases q : x < y
  · exact Wp.go (fun t kk => XS.icmpNo X.here hx rfl (hb hby d) rfl (XT.ii_ge_f q) kk) (kf q)
  · exact Wp.go (fun t kk => XS.icmpYes X.here hx rfl rfl (hb hby d) rfl (XT.ii_ge_t q) q1 q2 kk) (kt q)
theorem f_if_ge (X : Stand p l e R s m args below meth c T locs cells slots) (hx : p.tables.exec = Jvm.exec) (hby : c.code = bs) {x : Int32} (hd : Jm bs pc (.ifCond .ge o) o nx tg) (kt : ¬ x < 0 → Wp p e below s K N Q T (mkF m tg Ls st)) (kf : x < 0 → Wp p e below s K N Q T (mkF m nx Ls st)) : Wp p e below s K N Q T (mkF m pc Ls (.int x :: st)) := by
  obtain ⟨d, rfl, q1, q2⟩ := hd
  by_cases q : x < 0
  · exact Wp.go (fun t kk => XS.ifNo X.here hx rfl (hb hby d) rfl (XT.i0_ge_f q) kk) (kf q)
  · exact Wp.go (fun t kk => XS.ifYes X.here hx rfl rfl (hb hby d) rfl (XT.i0_ge_t q) q1 q2 kk) (kt q)
theorem f_lcmp_ge (X : Stand p l e R s m args below meth c T locs cells slots) (hx : p.tables.exec = Jvm.exec) (hby : c.code = bs) {x y : Int64} {n1 : Nat} (hc : In bs pc .lcmp 1 n1) (hd : Jm bs n1 (.ifCond .ge o) o nx tg) (kt : ¬ x < y → Wp p e below s K N Q T (mkF m tg Ls st)) (kf : x < y → Wp p e below s K N Q T (mkF m nx Ls st)) : Wp p e below s K N Q T (mkF m pc Ls (.long y :: .long x :: st)) := by
  obtain ⟨d1, rfl⟩ := hc; obtain ⟨d, rfl, q1, q2⟩ := hd
  refine Wp.go (fun t kk => XT.lcmp X.here hx rfl (hb hby d1) rfl kk) ?_
  by_cases q : x < y
  · exact Wp.go (fun t kk => XS.ifNo X.here hx rfl (hb hby d) rfl (XT.ll_ge_f q) kk) (kf q)
  · exact Wp.go (fun t kk => XS.ifYes X.here hx rfl rfl (hb hby d) rfl (XT.ll_ge_t q) q1 q2 kk) (kt q)
theorem f_icmp_gt (X : Stand p l e R s m args below meth c T locs cells slots) (hx : p.tables.exec = Jvm.exec) (hby : c.code = bs) {x y : Int32} (hd : Jm bs pc (.if_icmp .gt o) o nx tg) (kt : y < x → Wp p e below s K N Q T (mkF m tg Ls st)) (kf : ¬ y < x → Wp p e below s K N Q T (mkF m nx Ls st)) : Wp p e below s K N Q T (mkF m pc Ls (.int y :: .int x :: st)) := by
  obtain ⟨d, rfl, q1, q2⟩ := hd
  by_cases q : y < x
  · exact Wp.go (fun t kk => XS.icmpYes X.here hx rfl rfl (hb hby d) rfl (XT.ii_gt_t q) q1 q2 kk) (kt q)
  · exact Wp.go (fun t kk => XS.icmpNo X.here hx rfl (hb hby d) rfl (XT.ii_gt_f q) kk) (kf q)
theorem f_if_gt (X : Stand p l e R s m args below meth c T locs cells slots) (hx : p.tables.exec = Jvm.exec) (hby : c.code = bs) {x : Int32} (hd : Jm bs pc (.ifCond .gt o) o nx tg) (kt : 0 < x → Wp p e below s K N Q T (mkF m tg Ls st)) (kf : ¬ 0 < x → Wp p e below s K N Q T (mkF m nx Ls st)) : Wp p e below s K N Q T (mkF m pc Ls (.int x :: st)) := by
  obtain ⟨d, rfl, q1, q2⟩ := hd
  by_cases q : 0 < x
  · exact Wp.go (fun t kk => XS.ifYes X.here hx rfl rfl (hb hby d) rfl (XT.i0_gt_t q) q1 q2 kk) (kt q)
  · exact Wp.go (fun t kk => XS.ifNo X.here hx rfl (hb hby d) rfl (XT.i0_gt_f q) kk) (kf q)
theorem f_lcmp_gt (X : Stand p l e R s m args below meth c T locs cells slots) (hx : p.tables.exec = Jvm.exec) (hby : c.code = bs) {x y : Int64} {n1 : Nat} (hc : In bs pc .lcmp 1 n1) (hd : Jm bs n1 (.ifCond .gt o) o nx tg) (kt : y < x → Wp p e below s K N Q T (mkF m tg Ls st)) (kf : ¬ y < x → Wp p e below s K N Q T (mkF m nx Ls st)) : Wp p e below s K N Q T (mkF m pc Ls (.long y :: .long x :: st)) := by
  obtain ⟨d1, rfl⟩ := hc; obtain ⟨d, rfl, q1, q2⟩ := hd
  refine Wp.go (fun t kk => XT.lcmp X.here hx rfl (hb hby d1) rfl kk) ?_
  by_cases q : y < x
  · exact Wp.go (fun t kk => XS.ifYes X.here hx rfl rfl (hb hby d) rfl (XT.ll_gt_t q) q1 q2 kk) (kt q)
  · exact Wp.go (fun t kk => XS.ifNo X.here hx rfl (hb hby d) rfl (XT.ll_gt_f q) kk) (kf q)
theorem f_icmp_le (X : Stand p l e R s m args below meth c T locs cells slots) (hx : p.tables.exec = Jvm.exec) (hby : c.code = bs) {x y : Int32} (hd : Jm bs pc (.if_icmp .le o) o nx tg) (kt : ¬ y < x → Wp p e below s K N Q T (mkF m tg Ls st)) (kf : y < x → Wp p e below s K N Q T (mkF m nx Ls st)) : Wp p e below s K N Q T (mkF m pc Ls (.int y :: .int x :: st)) := by
  obtain ⟨d, rfl, q1, q2⟩ := hd
  by_cases q : y < x
  · exact Wp.go (fun t kk => XS.icmpNo X.here hx rfl (hb hby d) rfl (XT.ii_le_f q) kk) (kf q)
  · exact Wp.go (fun t kk => XS.icmpYes X.here hx rfl rfl (hb hby d) rfl (XT.ii_le_t q) q1 q2 kk) (kt q)
theorem f_if_le (X : Stand p l e R s m args below meth c T locs cells slots) (hx : p.tables.exec = Jvm.exec) (hby : c.code = bs) {x : Int32} (hd : Jm bs pc (.ifCond .le o) o nx tg) (kt : ¬ 0 < x → Wp p e below s K N Q T (mkF m tg Ls st)) (kf : 0 < x → Wp p e below s K N Q T (mkF m nx Ls st)) : Wp p e below s K N Q T (mkF m pc Ls (.int x :: st)) := by
  obtain ⟨d, rfl, q1, q2⟩ := hd
  by_cases q : 0 < x
  · exact Wp.go (fun t kk => XS.ifNo X.here hx rfl (hb hby d) rfl (XT.i0_le_f q) kk) (kf q)
  · exact Wp.go (fun t kk => XS.ifYes X.here hx rfl rfl (hb hby d) rfl (XT.i0_le_t q) q1 q2 kk) (kt q)
theorem f_lcmp_le (X : Stand p l e R s m args below meth c T locs cells slots) (hx : p.tables.exec = Jvm.exec) (hby : c.code = bs) {x y : Int64} {n1 : Nat} (hc : In bs pc .lcmp 1 n1) (hd : Jm bs n1 (.ifCond .le o) o nx tg) (kt : ¬ y < x → Wp p e below s K N Q T (mkF m tg Ls st)) (kf : y < x → Wp p e below s K N Q T (mkF m nx Ls st)) : Wp p e below s K N Q T (mkF m pc Ls (.long y :: .long x :: st)) := by
  obtain ⟨d1, rfl⟩ := hc; obtain ⟨d, rfl, q1, q2⟩ := hd
  refine Wp.go (fun t kk => XT.lcmp X.here hx rfl (hb hby d1) rfl kk) ?_
  by_cases q : y < x
  · exact Wp.go (fun t kk => XS.ifNo X.here hx rfl (hb hby d) rfl (XT.ll_le_f q) kk) (kf q)
  · exact Wp.go (fun t kk => XS.ifYes X.here hx rfl rfl (hb hby d) rfl (XT.ll_le_t q) q1 q2 kk) (kt q)
theorem f_acmp_eq (X : Stand p l e R s m args below meth c T locs cells slots) (hx : p.tables.exec = Jvm.exec) (hby : c.code = bs) {x y : Addr} (hd : Jm bs pc (.if_acmp .eq o) o nx tg) (kt : x = y → Wp p e below s K N Q T (mkF m tg Ls st)) (kf : ¬ x = y → Wp p e below s K N Q T (mkF m nx Ls st)) : Wp p e below s K N Q T (mkF m pc Ls (.ref y :: .ref x :: st)) := by
  obtain ⟨d, rfl, q1, q2⟩ := hd
  by_cases q : x = y
  · exact Wp.go (fun t kk => XT.acmpYes X.here hx rfl rfl (hb hby d) rfl rfl rfl (XT.aa_eq_t (congrArg Value.ref q)) q1 q2 kk) (kt q)
  · exact Wp.go (fun t kk => XT.acmpNo X.here hx rfl (hb hby d) rfl rfl rfl (XT.aa_eq_f (fun r => q (Value.ref.inj r))) kk) (kf q)
theorem f_acmpV_eq (X : Stand p l e R s m args below meth c T locs cells slots) (hx : p.tables.exec = Jvm.exec) (hby : c.code = bs) {x y : Value} (hx' : x.isRef = true) (hy' : y.isRef = true) (hd : Jm bs pc (.if_acmp .eq o) o nx tg) (kt : x = y → Wp p e below s K N Q T (mkF m tg Ls st)) (kf : ¬ x = y → Wp p e below s K N Q T (mkF m nx Ls st)) : Wp p e below s K N Q T (mkF m pc Ls (y :: x :: st)) := by
  obtain ⟨d, rfl, q1, q2⟩ := hd
  by_cases q : x = y
  · exact Wp.go (fun t kk => XT.acmpYes X.here hx rfl rfl (hb hby d) rfl hx' hy' (XT.aa_eq_t q) q1 q2 kk) (kt q)
  · exact Wp.go (fun t kk => XT.acmpNo X.here hx rfl (hb hby d) rfl hx' hy' (XT.aa_eq_f q) kk) (kf q)
theorem f_acmp_ne (X : Stand p l e R s m args below meth c T locs cells slots) (hx : p.tables.exec = Jvm.exec) (hby : c.code = bs) {x y : Addr} (hd : Jm bs pc (.if_acmp .ne o) o nx tg) (kt : ¬ x = y → Wp p e below s K N Q T (mkF m tg Ls st)) (kf : x = y → Wp p e below s K N Q T (mkF m nx Ls st)) : Wp p e below s K N Q T (mkF m pc Ls (.ref y :: .ref x :: st)) := by
  obtain ⟨d, rfl, q1, q2⟩ := hd
  by_cases q : x = y
  · exact Wp.go (fun t kk => XT.acmpNo X.here hx rfl (hb hby d) rfl rfl rfl (XT.aa_ne_f (congrArg Value.ref q)) kk) (kf q)
  · exact Wp.go (fun t kk => XT.acmpYes X.here hx rfl rfl (hb hby d) rfl rfl rfl (XT.aa_ne_t (fun r => q (Value.ref.inj r))) q1 q2 kk) (kt q)
theorem f_acmpV_ne (X : Stand p l e R s m args below meth c T locs cells slots) (hx : p.tables.exec = Jvm.exec) (hby : c.code = bs) {x y : Value} (hx' : x.isRef = true) (hy' : y.isRef = true) (hd : Jm bs pc (.if_acmp .ne o) o nx tg) (kt : ¬ x = y → Wp p e below s K N Q T (mkF m tg Ls st)) (kf : x = y → Wp p e below s K N Q T (mkF m nx Ls st)) : Wp p e below s K N Q T (mkF m pc Ls (y :: x :: st)) := by
  obtain ⟨d, rfl, q1, q2⟩ := hd
  by_cases q : x = y
  · exact Wp.go (fun t kk => XT.acmpNo X.here hx rfl (hb hby d) rfl hx' hy' (XT.aa_ne_f q) kk) (kf q)
  · exact Wp.go (fun t kk => XT.acmpYes X.here hx rfl rfl (hb hby d) rfl hx' hy' (XT.aa_ne_t q) q1 q2 kk) (kt q)
theorem w_lswHit (X : Stand p l e R s m args below meth c T locs cells slots) (hx : p.tables.exec = Jvm.exec) (hby : c.code = bs) {x : Int32} {df : Int} {ps : Array (Int × Int)} {len : Nat} {a off : Int} (hd : In bs pc (.lookupswitch df ps) len nx) (hs : (ps.toList.zip (ps.toList.drop 1)).all (fun (a, next) => a.1 < next.1) = true) (hf : ps.find? (·.1 == x.toInt) = some (a, off)) (ho : 0 ≤ (pc : Int) + off) (ht : ((pc : Int) + off).toNat = tg) (k : Wp p e below s K N Q T (mkF m tg Ls st)) : Wp p e below s K N Q T (mkF m pc Ls (.int x :: st)) := by
  obtain ⟨d, -⟩ := hd; subst ht; exact Wp.go (fun t kk => X.lookupswitchHit hx (g := mkF m pc Ls (.int x :: st)) rfl rfl (hb hby d) hs hf ho t kk) k
theorem w_lswMiss (X : Stand p l e R s m args below meth c T locs cells slots) (hx : p.tables.exec = Jvm.exec) (hby : c.code = bs) {x : Int32} {df : Int} {ps : Array (Int × Int)} {len : Nat} (hd : In bs pc (.lookupswitch df ps) len nx) (hs : (ps.toList.zip (ps.toList.drop 1)).all (fun (a, next) => a.1 < next.1) = true) (hf : ps.find? (·.1 == x.toInt) = none) (ho : 0 ≤ (pc : Int) + df) (ht : ((pc : Int) + df).toNat = tg) (k : Wp p e below s K N Q T (mkF m tg Ls st)) : Wp p e below s K N Q T (mkF m pc Ls (.int x :: st)) := by
  obtain ⟨d, -⟩ := hd; subst ht; exact Wp.go (fun t kk => X.lookupswitchMiss hx (g := mkF m pc Ls (.int x :: st)) rfl rfl (hb hby d) hs hf ho t kk) k
theorem w_tswIn (X : Stand p l e R s m args below meth c T locs cells slots) (hx : p.tables.exec = Jvm.exec) (hby : c.code = bs) {x : Int32} {df lo hi : Int} {os : Array Int} {len : Nat} {off : Int} (hd : In bs pc (.tableswitch df lo hi os) len nx) (hin : ¬ (x.toInt < lo ∨ x.toInt > hi)) (hoff : os[(x.toInt - lo).toNat]? = some off) (ho : 0 ≤ (pc : Int) + off) (ht : ((pc : Int) + off).toNat = tg) (k : Wp p e below s K N Q T (mkF m tg Ls st)) : Wp p e below s K N Q T (mkF m pc Ls (.int x :: st)) := by
  obtain ⟨d, -⟩ := hd; exact Wp.go (fun t kk => XS.tswIn X.here hx rfl rfl (hb hby d) rfl hin hoff ho ht kk) k
theorem w_tswOut (X : Stand p l e R s m args below meth c T locs cells slots) (hx : p.tables.exec = Jvm.exec) (hby : c.code = bs) {x : Int32} {df lo hi : Int} {os : Array Int} {len : Nat} (hd : In bs pc (.tableswitch df lo hi os) len nx) (hout : x.toInt < lo ∨ x.toInt > hi) (ho : 0 ≤ (pc : Int) + df) (ht : ((pc : Int) + df).toNat = tg) (k : Wp p e below s K N Q T (mkF m tg Ls st)) : Wp p e below s K N Q T (mkF m pc Ls (.int x :: st)) := by
  obtain ⟨d, -⟩ := hd; exact Wp.go (fun t kk => XS.tswOut X.here hx rfl rfl (hb hby d) rfl hout ho ht kk) k
theorem own_ne32 {x z : Int32} {i : Int} (h : ¬ x = z) (hz : z.toInt = i) : i ≠ x.toInt := fun q => h (Int32.toInt_inj.mp (by rw [hz, q]))
theorem w_ifnonnullRef (X : Stand p l e R s m args below meth c T locs cells slots) (hx : p.tables.exec = Jvm.exec) (hby : c.code = bs) {a : Addr} (hd : Jm bs pc (.ifnonnull o) o nx tg) (k : Wp p e below s K N Q T (mkF m tg Ls st)) : Wp p e below s K N Q T (mkF m pc Ls (.ref a :: st)) := by
  obtain ⟨d, -, q1, q2⟩ := hd; exact Wp.go (fun t kk => XS.ifnonnullYes X.here hx rfl rfl (hb hby d) rfl q1 q2 kk) k
theorem w_ifnonnullNull (X : Stand p l e R s m args below meth c T locs cells slots) (hx : p.tables.exec = Jvm.exec) (hby : c.code = bs) (hd : Jm bs pc (.ifnonnull o) o nx tg) (k : Wp p e below s K N Q T (mkF m nx Ls st)) : Wp p e below s K N Q T (mkF m pc Ls (.null :: st)) := by
  obtain ⟨d, rfl, q1, q2⟩ := hd; exact Wp.go (fun t kk => XS.ifnonnullNo X.here hx rfl (hb hby d) rfl kk) k
theorem w_ifnullRef (X : Stand p l e R s m args below meth c T locs cells slots) (hx : p.tables.exec = Jvm.exec) (hby : c.code = bs) {a : Addr} (hd : Jm bs pc (.ifnull o) o nx tg) (k : Wp p e below s K N Q T (mkF m nx Ls st)) : Wp p e below s K N Q T (mkF m pc Ls (.ref a :: st)) := by
  obtain ⟨d, rfl, q1, q2⟩ := hd; exact Wp.go (fun t kk => XS.ifnullNo X.here hx rfl (hb hby d) rfl kk) k
theorem w_ifnullNull (X : Stand p l e R s m args below meth c T locs cells slots) (hx : p.tables.exec = Jvm.exec) (hby : c.code = bs) (hd : Jm bs pc (.ifnull o) o nx tg) (k : Wp p e below s K N Q T (mkF m tg Ls st)) : Wp p e below s K N Q T (mkF m pc Ls (.null :: st)) := by
  obtain ⟨d, -, q1, q2⟩ := hd; exact Wp.go (fun t kk => XS.ifnullYes X.here hx rfl rfl (hb hby d) rfl q1 q2 kk) k
theorem w_ldcI (X : Stand p l e R s m args below meth c T locs cells slots) (hx : p.tables.exec = Jvm.exec) (hby : c.code = bs) (hZ : Z.Warmed39 s.vm) {own : String} (hown : s.vm.findClass own = some m.cls) {index : Nat} {v : Int32} (w : (Cond.constant own index v).before a0 Z = true) (hd : In bs pc (.ldc index) 2 nx) (k : Wp p e below s K N Q T (mkF m nx Ls (.int v :: st))) : Wp p e below s K N Q T (mkF m pc Ls st) := by
  obtain ⟨d, rfl⟩ := hd; exact Wp.go (fun t kk => X.ldcInt hx hown (mvT hZ w) (g := mkF m pc Ls st) rfl (hb hby d) t kk) k
theorem w_ldcwI (X : Stand p l e R s m args below meth c T locs cells slots) (hx : p.tables.exec = Jvm.exec) (hby : c.code = bs) (hZ : Z.Warmed39 s.vm) {own : String} (hown : s.vm.findClass own = some m.cls) {index : Nat} {v : Int32} (w : (Cond.constant own index v).before a0 Z = true) (hd : In bs pc (.ldc_w index) 3 nx) (k : Wp p e below s K N Q T (mkF m nx Ls (.int v :: st))) : Wp p e below s K N Q T (mkF m pc Ls st) := by
  obtain ⟨d, rfl⟩ := hd; exact Wp.go (fun t kk => X.ldcWI hx hown (mvT hZ w) (g := mkF m pc Ls st) rfl (hb hby d) kk) k
theorem w_ldc2J (X : Stand p l e R s m args below meth c T locs cells slots) (hx : p.tables.exec = Jvm.exec) (hby : c.code = bs) (hZ : Z.Warmed39 s.vm) {own : String} (hown : s.vm.findClass own = some m.cls) {index : Nat} {v : Int64} (w : (Cond.constantLong own index v).before a0 Z = true) (hd : In bs pc (.ldc2_w index) 3 nx) (k : Wp p e below s K N Q T (mkF m nx Ls (.long v :: st))) : Wp p e below s K N Q T (mkF m pc Ls st) := by
  obtain ⟨d, rfl⟩ := hd; exact Wp.go (fun t kk => X.ldc2Long hx hown (mvT hZ w) (g := mkF m pc Ls st) rfl (hb hby d) t kk) k
theorem w_getS (X : Stand p l e R s m args below meth c T locs cells slots) (hx : p.tables.exec = Jvm.exec) (hby : c.code = bs) (hZ : Z.Warmed39 s.vm) {own : String} (hown : s.vm.findClass own = some m.cls) {R0 C n d host : String} {index : Nat} (w : (Cond.fieldLink own index R0 n d).before a0 Z = true ∨ (Cond.fieldLinkNest own index R0 n d host).before a0 Z = true) (via : Via Z R0 C n d) (eT : T.heap = h) {v : Value} (F : Sta Z h C n d v) (hd : In bs pc (.getstatic index) 3 nx) (k : ∀ T', Stand p l e R s m args below meth c T' locs cells slots → T'.heap = h → Wp p e below s K N Q T' (mkF m nx Ls (v :: st))) : Wp p e below s K N Q T (mkF m pc Ls st) := by
  obtain ⟨d, rfl⟩ := hd; obtain ⟨T', X', e', st'⟩ := getS2 X hx hZ hown w via eT F (g := mkF m pc Ls st) rfl (hb hby d); exact Wp.go st' (k T' X' e')
theorem w_getF (X : Stand p l e R s m args below meth c T locs cells slots) (hx : p.tables.exec = Jvm.exec) (hby : c.code = bs) (hZ : Z.Warmed39 s.vm) {own : String} (hown : s.vm.findClass own = some m.cls) {R0 C n d host : String} {index : Nat} (w : (Cond.fieldLink own index R0 n d).before a0 Z = true ∨ (Cond.fieldLinkNest own index R0 n d host).before a0 Z = true) (via : Via Z R0 C n d) (eT : T.heap = h) {a : Addr} {v : Value} (F : Fld Z h a C n d v) (hd : In bs pc (.getfield index) 3 nx) (k : ∀ T', Stand p l e R s m args below meth c T' locs cells slots → T'.heap = h → Wp p e below s K N Q T' (mkF m nx Ls (v :: st))) : Wp p e below s K N Q T (mkF m pc Ls (.ref a :: st)) := by
  obtain ⟨d, rfl⟩ := hd; obtain ⟨T', X', e', st'⟩ := getF X hx hZ hown w via eT F (g := mkF m pc Ls (.ref a :: st)) rfl rfl (hb hby d); exact Wp.go st' (k T' X' e')
theorem w_putF (X : Stand p l e R s m args below meth c T locs cells slots) (hx : p.tables.exec = Jvm.exec) (hby : c.code = bs) (hZ : Z.Warmed39 s.vm) {own : String} (hown : s.vm.findClass own = some m.cls) {R0 C n d host D : String} {index kk : Nat} {ty : FieldType} (w : (Cond.fieldLink own index R0 n d).before a0 Z = true ∨ (Cond.fieldLinkNest own index R0 n d host).before a0 Z = true) (via : Via Z R0 C n d) (eT : T.heap = h) {a : Addr} {v old : Value} (F : Fld Z h a C n d old) (E : Exa Z h a D) (Lw : (Cond.lays D C n d).before a0 Z = true ∨ ((Cond.laysFinal D C n d).before a0 Z = true ∧ own = C ∧ meth.name = "<init>")) (wi : (Cond.instantiable D kk).before a0 Z = true) (hty : parseFieldDescriptor d = some ty) (hn : narrow ty v = v) (hf : fits ty v = true) (hd : In bs pc (.putfield index) 3 nx) (k : ∀ T' h', Stand p l e R s m args below meth c T' (locs ++ [⟨a, Jvm.RoadKit.slotOf Z C n d⟩]) cells slots → T'.heap = h' → Wr h h' a (Jvm.RoadKit.slotOf Z C n d) v → Wp p e below s K N Q T' (mkF m nx Ls st)) : Wp p e below s K N Q T (mkF m pc Ls (v :: .ref a :: st)) := by
  obtain ⟨d, rfl⟩ := hd; obtain ⟨T', h', X', e', W', st'⟩ := putF X hx hZ hown w via eT F E Lw wi hty hn hf (g := mkF m pc Ls (v :: .ref a :: st)) rfl rfl (hb hby d); exact Wp.go st' (k T' h' X' e' W')
theorem w_putFN (X : Stand p l e R s m args below meth c T locs cells slots) (hx : p.tables.exec = Jvm.exec) (hby : c.code = bs) (hZ : Z.Warmed39 s.vm) {own : String} (hown : s.vm.findClass own = some m.cls) {R0 C n d D : String} {index kk : Nat} {ty : FieldType} (w : (Cond.fieldLink own index R0 n d).before a0 Z = true) (via : Via Z R0 C n d) (eT : T.heap = h) {a : Addr} {v v' old : Value} (F : Fld Z h a C n d old) (E : Exa Z h a D) (Lw : (Cond.lays D C n d).before a0 Z = true ∨ ((Cond.laysFinal D C n d).before a0 Z = true ∧ own = C ∧ meth.name = "<init>")) (wi : (Cond.instantiable D kk).before a0 Z = true) (hty : parseFieldDescriptor d = some ty) (hn : narrow ty v = v') (hf : fits ty v' = true) (hd : In bs pc (.putfield index) 3 nx) (k : ∀ T' h', Stand p l e R s m args below meth c T' (locs ++ [⟨a, Jvm.RoadKit.slotOf Z C n d⟩]) cells slots → T'.heap = h' → Wr h h' a (Jvm.RoadKit.slotOf Z C n d) v' → Wp p e below s K N Q T' (mkF m nx Ls st)) : Wp p e below s K N Q T (mkF m pc Ls (v :: .ref a :: st)) := by
  obtain ⟨d, rfl⟩ := hd; obtain ⟨T', h', X', e', W', st'⟩ := putFN X hx hZ hown w via eT F E Lw wi hty hn hf (g := mkF m pc Ls (v :: .ref a :: st)) rfl rfl (hb hby d); exact Wp.go st' (k T' h' X' e' W')
theorem w_newO (X : Stand p l e R s m args below meth c T locs cells slots) (hx : p.tables.exec = Jvm.exec) (hby : c.code = bs) (hZ : Z.Warmed39 s.vm) {own : String} (hown : s.vm.findClass own = some m.cls) {C : String} {index n : Nat} (w : (Cond.classLink own index C).before a0 Z = true) (wi : (Cond.instantiable C n).before a0 Z = true) (wz : (Cond.initialized C).before a0 Z = true) (eT : T.heap = h) (hd : In bs pc (.new index) 3 nx) (hc : cells + 1 ≤ R.cells) (hl : slots + n ≤ R.slots) (k : ∀ T' h' a, a = h.size → Stand p l e R s m args below meth c T' locs (cells + 1) (slots + n) → T'.heap = h' → Ext h h' → Exa Z h' a C → (∀ {D nm d : String} {ty : FieldType}, Laid Z a0 C D nm d → parseFieldDescriptor d = some ty → Fld Z h' a D nm d (defaultValue ty)) → Wp p e below s K N Q T' (mkF m nx Ls (.ref a :: st))) : Wp p e below s K N Q T (mkF m pc Ls st) := by
  obtain ⟨d, rfl⟩ := hd; obtain ⟨T', h', X', e', E', A', D', -, st'⟩ := newO X hx hZ hown w wi wz eT (g := mkF m pc Ls st) rfl (hb hby d) hc hl; exact Wp.go st' (k T' h' _ rfl X' e' E' A' D')
theorem w_newP (X : Stand p l e R s m args below meth c T locs cells slots) (hx : p.tables.exec = Jvm.exec) (hby : c.code = bs) (hZ : Z.Warmed39 s.vm) {aty : ArrayType} (w : (Cond.arrayClass (newarray.typeOf aty)).before a0 Z = true) (eT : T.heap = h) {n : Int32} (hd : In bs pc (.newarray aty) 2 nx) (hn : ¬ n < 0) (cap : Nat) (hcap : n.toNatClampNeg ≤ cap) (hbig : cap * 8 ≤ 536870912) (hc : cells + 1 ≤ R.cells) (hl : slots + cap ≤ R.slots) (k : ∀ T' h' a kA, a = h.size → Stand p l e R s m args below meth c T' locs (cells + 1) (slots + cap) → T'.heap = h' → Ext h h' → Arr Z h' a (newA kA (newarray.typeOf aty) n) (newarray.typeOf aty) → Wp p e below s K N Q T' (mkF m nx Ls (.ref a :: st))) : Wp p e below s K N Q T (mkF m pc Ls (.int n :: st)) := by
  obtain ⟨d, rfl⟩ := hd; obtain ⟨T', h', kA, X', e', E', A', st'⟩ := newP X hx hZ w eT (g := mkF m pc Ls (.int n :: st)) rfl (hb hby d) rfl hn hcap hbig hc hl; exact Wp.go st' (k T' h' _ kA rfl X' e' E' A')
theorem w_newR (X : Stand p l e R s m args below meth c T locs cells slots) (hx : p.tables.exec = Jvm.exec) (hby : c.code = bs) (hZ : Z.Warmed39 s.vm) {own : String} (hown : s.vm.findClass own = some m.cls) {C : String} {index : Nat} (w1 : (Cond.classLink own index C).before a0 Z = true) (w2 : (Cond.arrayOver (.object C)).before a0 Z = true) (eT : T.heap = h) {n : Int32} (hd : In bs pc (.anewarray index) 3 nx) (hn : ¬ n < 0) (cap : Nat) (hcap : n.toNatClampNeg ≤ cap) (hbig : cap * 8 ≤ 536870912) (hc : cells + 1 ≤ R.cells) (hl : slots + cap ≤ R.slots) (k : ∀ T' h' a kA, a = h.size → Stand p l e R s m args below meth c T' locs (cells + 1) (slots + cap) → T'.heap = h' → Ext h h' → Arr Z h' a (newA kA (.object C) n) (.object C) → Ovr Z kA C → Wp p e below s K N Q T' (mkF m nx Ls (.ref a :: st))) : Wp p e below s K N Q T (mkF m pc Ls (.int n :: st)) := by
  obtain ⟨d, rfl⟩ := hd; obtain ⟨T', h', kA, X', e', E', A', O', st'⟩ := newR X hx hZ hown w1 w2 eT (g := mkF m pc Ls (.int n :: st)) rfl (hb hby d) rfl hn hcap hbig hc hl; exact Wp.go st' (k T' h' _ kA rfl X' e' E' A' O')
theorem w_stI (X : Stand p l e R s m args below meth c T locs cells slots) (hx : p.tables.exec = Jvm.exec) (hby : c.code = bs) (hZ : Z.Warmed39 s.vm) (eT : T.heap = h) {a : Addr} {cl : Cell} (A : Arr Z h a cl .int) {j : Int32} {x : Int32} (hj : ¬ (j < 0 ∨ cl.slots.size ≤ j.toNatClampNeg)) (hd : In bs pc .iastore 1 nx) (k : ∀ T' h', Stand p l e R s m args below meth c T' (locs ++ [⟨a, j.toNatClampNeg⟩]) cells slots → T'.heap = h' → Wr h h' a j.toNatClampNeg (.int x) → Wp p e below s K N Q T' (mkF m nx Ls st)) : Wp p e below s K N Q T (mkF m pc Ls (.int x :: .int j :: .ref a :: st)) := by
  obtain ⟨d, rfl⟩ := hd; obtain ⟨T', h', X', e', W', st'⟩ := stI X hx hZ eT A hj (g := mkF m pc Ls (.int x :: .int j :: .ref a :: st)) rfl rfl (hb hby d); exact Wp.go st' (k T' h' X' e' W')
theorem w_stJ (X : Stand p l e R s m args below meth c T locs cells slots) (hx : p.tables.exec = Jvm.exec) (hby : c.code = bs) (hZ : Z.Warmed39 s.vm) (eT : T.heap = h) {a : Addr} {cl : Cell} (A : Arr Z h a cl .long) {j : Int32} {x : Int64} (hj : ¬ (j < 0 ∨ cl.slots.size ≤ j.toNatClampNeg)) (hd : In bs pc .lastore 1 nx) (k : ∀ T' h', Stand p l e R s m args below meth c T' (locs ++ [⟨a, j.toNatClampNeg⟩]) cells slots → T'.heap = h' → Wr h h' a j.toNatClampNeg (.long x) → Wp p e below s K N Q T' (mkF m nx Ls st)) : Wp p e below s K N Q T (mkF m pc Ls (.long x :: .int j :: .ref a :: st)) := by
  obtain ⟨d, rfl⟩ := hd; obtain ⟨T', h', X', e', W', st'⟩ := stJ X hx hZ eT A hj (g := mkF m pc Ls (.long x :: .int j :: .ref a :: st)) rfl rfl (hb hby d); exact Wp.go st' (k T' h' X' e' W')
theorem w_stC (X : Stand p l e R s m args below meth c T locs cells slots) (hx : p.tables.exec = Jvm.exec) (hby : c.code = bs) (hZ : Z.Warmed39 s.vm) (eT : T.heap = h) {a : Addr} {cl : Cell} (A : Arr Z h a cl .char) {j : Int32} {x : Int32} (hj : ¬ (j < 0 ∨ cl.slots.size ≤ j.toNatClampNeg)) (hd : In bs pc .castore 1 nx) (k : ∀ T' h', Stand p l e R s m args below meth c T' (locs ++ [⟨a, j.toNatClampNeg⟩]) cells slots → T'.heap = h' → Wr h h' a j.toNatClampNeg (.int (nar .char x)) → Wp p e below s K N Q T' (mkF m nx Ls st)) : Wp p e below s K N Q T (mkF m pc Ls (.int x :: .int j :: .ref a :: st)) := by
  obtain ⟨d, rfl⟩ := hd; obtain ⟨T', h', X', e', W', st'⟩ := stC X hx hZ eT A hj (g := mkF m pc Ls (.int x :: .int j :: .ref a :: st)) rfl rfl (hb hby d); exact Wp.go st' (k T' h' X' e' W')
theorem w_stB (X : Stand p l e R s m args below meth c T locs cells slots) (hx : p.tables.exec = Jvm.exec) (hby : c.code = bs) (hZ : Z.Warmed39 s.vm) (eT : T.heap = h) {a : Addr} {cl : Cell} (A : Arr Z h a cl .byte) {j : Int32} {x : Int32} (hj : ¬ (j < 0 ∨ cl.slots.size ≤ j.toNatClampNeg)) (hd : In bs pc .bastore 1 nx) (k : ∀ T' h', Stand p l e R s m args below meth c T' (locs ++ [⟨a, j.toNatClampNeg⟩]) cells slots → T'.heap = h' → Wr h h' a j.toNatClampNeg (.int (nar .byte x)) → Wp p e below s K N Q T' (mkF m nx Ls st)) : Wp p e below s K N Q T (mkF m pc Ls (.int x :: .int j :: .ref a :: st)) := by
  obtain ⟨d, rfl⟩ := hd; obtain ⟨T', h', X', e', W', st'⟩ := stB X hx hZ eT A hj (g := mkF m pc Ls (.int x :: .int j :: .ref a :: st)) rfl rfl (hb hby d); exact Wp.go st' (k T' h' X' e' W')
theorem w_stZ (X : Stand p l e R s m args below meth c T locs cells slots) (hx : p.tables.exec = Jvm.exec) (hby : c.code = bs) (hZ : Z.Warmed39 s.vm) (eT : T.heap = h) {a : Addr} {cl : Cell} (A : Arr Z h a cl .boolean) {j : Int32} {x : Int32} (hj : ¬ (j < 0 ∨ cl.slots.size ≤ j.toNatClampNeg)) (hd : In bs pc .bastore 1 nx) (k : ∀ T' h', Stand p l e R s m args below meth c T' (locs ++ [⟨a, j.toNatClampNeg⟩]) cells slots → T'.heap = h' → Wr h h' a j.toNatClampNeg (.int (nar .boolean x)) → Wp p e below s K N Q T' (mkF m nx Ls st)) : Wp p e below s K N Q T (mkF m pc Ls (.int x :: .int j :: .ref a :: st)) := by
  obtain ⟨d, rfl⟩ := hd; obtain ⟨T', h', X', e', W', st'⟩ := stZ X hx hZ eT A hj (g := mkF m pc Ls (.int x :: .int j :: .ref a :: st)) rfl rfl (hb hby d); exact Wp.go st' (k T' h' X' e' W')
theorem w_stR (X : Stand p l e R s m args below meth c T locs cells slots) (hx : p.tables.exec = Jvm.exec) (hby : c.code = bs) (hZ : Z.Warmed39 s.vm) (eT : T.heap = h) {a : Addr} {cl : Cell} {ty : FieldType} (A : Arr Z h a cl ty) {j : Int32} {v : Value} (hj : ¬ (j < 0 ∨ cl.slots.size ≤ j.toNatClampNeg)) (hty : ty.isReference = true) (F : Sto Z h a v) (hd : In bs pc .aastore 1 nx) (k : ∀ T' h', Stand p l e R s m args below meth c T' (locs ++ [⟨a, j.toNatClampNeg⟩]) cells slots → T'.heap = h' → Wr h h' a j.toNatClampNeg v → Wp p e below s K N Q T' (mkF m nx Ls st)) : Wp p e below s K N Q T (mkF m pc Ls (v :: .int j :: .ref a :: st)) := by
  obtain ⟨d, rfl⟩ := hd; obtain ⟨T', h', X', e', W', st'⟩ := stR X hx hZ eT A hj hty F (g := mkF m pc Ls (v :: .int j :: .ref a :: st)) rfl rfl (hb hby d); exact Wp.go st' (k T' h' X' e' W')
theorem w_iaload (X : Stand p l e R s m args below meth c T locs cells slots) (hx : p.tables.exec = Jvm.exec) (hby : c.code = bs) (hZ : Z.Warmed39 s.vm) (eT : T.heap = h) {a : Addr} {cl : Cell} (A : Arr Z h a cl .int) {j : Int32} {v : Value} (hj : ¬ (j < 0 ∨ cl.slots.size ≤ j.toNatClampNeg)) (hv : cl.slots[j.toNatClampNeg]? = some v) (hd : In bs pc .iaload 1 nx) (k : Wp p e below s K N Q T (mkF m nx Ls (v :: st))) : Wp p e below s K N Q T (mkF m pc Ls (.int j :: .ref a :: st)) := by
  obtain ⟨d, rfl⟩ := hd; exact Wp.go (fun t kk => X.iaload hx (by rw [eT]; exact A.1) (State.isArrayOf_alike hZ.alike A.2.1) A.2.2 hj hv (g := mkF m pc Ls (.int j :: .ref a :: st)) rfl rfl (hb hby d) t kk) k
theorem w_laload (X : Stand p l e R s m args below meth c T locs cells slots) (hx : p.tables.exec = Jvm.exec) (hby : c.code = bs) (hZ : Z.Warmed39 s.vm) (eT : T.heap = h) {a : Addr} {cl : Cell} (A : Arr Z h a cl .long) {j : Int32} {v : Value} (hj : ¬ (j < 0 ∨ cl.slots.size ≤ j.toNatClampNeg)) (hv : cl.slots[j.toNatClampNeg]? = some v) (hd : In bs pc .laload 1 nx) (k : Wp p e below s K N Q T (mkF m nx Ls (v :: st))) : Wp p e below s K N Q T (mkF m pc Ls (.int j :: .ref a :: st)) := by
  obtain ⟨d, rfl⟩ := hd; exact Wp.go (fun t kk => X.laload hx (by rw [eT]; exact A.1) (State.isArrayOf_alike hZ.alike A.2.1) A.2.2 hj hv (g := mkF m pc Ls (.int j :: .ref a :: st)) rfl rfl (hb hby d) t kk) k
theorem w_caload (X : Stand p l e R s m args below meth c T locs cells slots) (hx : p.tables.exec = Jvm.exec) (hby : c.code = bs) (hZ : Z.Warmed39 s.vm) (eT : T.heap = h) {a : Addr} {cl : Cell} (A : Arr Z h a cl .char) {j : Int32} {v : Value} (hj : ¬ (j < 0 ∨ cl.slots.size ≤ j.toNatClampNeg)) (hv : cl.slots[j.toNatClampNeg]? = some v) (hd : In bs pc .caload 1 nx) (k : Wp p e below s K N Q T (mkF m nx Ls (v :: st))) : Wp p e below s K N Q T (mkF m pc Ls (.int j :: .ref a :: st)) := by
  obtain ⟨d, rfl⟩ := hd; exact Wp.go (fun t kk => X.caload hx (by rw [eT]; exact A.1) (State.isArrayOf_alike hZ.alike A.2.1) A.2.2 hj hv (g := mkF m pc Ls (.int j :: .ref a :: st)) rfl rfl (hb hby d) t kk) k
theorem w_baload (X : Stand p l e R s m args below meth c T locs cells slots) (hx : p.tables.exec = Jvm.exec) (hby : c.code = bs) (hZ : Z.Warmed39 s.vm) (eT : T.heap = h) {a : Addr} {cl : Cell} (A : Arr Z h a cl .byte) {j : Int32} {v : Value} (hj : ¬ (j < 0 ∨ cl.slots.size ≤ j.toNatClampNeg)) (hv : cl.slots[j.toNatClampNeg]? = some v) (hd : In bs pc .baload 1 nx) (k : Wp p e below s K N Q T (mkF m nx Ls (v :: st))) : Wp p e below s K N Q T (mkF m pc Ls (.int j :: .ref a :: st)) := by
  obtain ⟨d, rfl⟩ := hd; exact Wp.go (fun t kk => X.baloadBytes hx (by rw [eT]; exact A.1) (State.isArrayOf_alike hZ.alike A.2.1) A.2.2 hj hv (g := mkF m pc Ls (.int j :: .ref a :: st)) rfl rfl (hb hby d) t kk) k
theorem w_aaload (X : Stand p l e R s m args below meth c T locs cells slots) (hx : p.tables.exec = Jvm.exec) (hby : c.code = bs) (hZ : Z.Warmed39 s.vm) (eT : T.heap = h) {a : Addr} {cl : Cell} {ty : FieldType} (A : Arr Z h a cl ty) (hty : ty.isReference = true) {j : Int32} {v : Value} (hj : ¬ (j < 0 ∨ cl.slots.size ≤ j.toNatClampNeg)) (hv : cl.slots[j.toNatClampNeg]? = some v) (hd : In bs pc .aaload 1 nx) (k : Wp p e below s K N Q T (mkF m nx Ls (v :: st))) : Wp p e below s K N Q T (mkF m pc Ls (.int j :: .ref a :: st)) := by
  obtain ⟨d, rfl⟩ := hd; exact Wp.go (fun t kk => X.aaload hx (by rw [eT]; exact A.1) (State.isArrayOf_alike hZ.alike A.2.1) hty A.2.2 hj hv (g := mkF m pc Ls (.int j :: .ref a :: st)) rfl rfl (hb hby d) t kk) k
theorem w_arraylength (X : Stand p l e R s m args below meth c T locs cells slots) (hx : p.tables.exec = Jvm.exec) (hby : c.code = bs) (hZ : Z.Warmed39 s.vm) (eT : T.heap = h) {a : Addr} {cl : Cell} {ty : FieldType} (A : Arr Z h a cl ty) {z : Int32} (hz : cl.slots.size.toInt32 = z) (hd : In bs pc .arraylength 1 nx) (k : Wp p e below s K N Q T (mkF m nx Ls (.int z :: st))) : Wp p e below s K N Q T (mkF m pc Ls (.ref a :: st)) := by
  obtain ⟨d, rfl⟩ := hd; subst hz; exact Wp.go (fun t kk => X.arraylength hx (by rw [eT]; exact A.1) (State.isArrayOf_alike hZ.alike A.2.1) (g := mkF m pc Ls (.ref a :: st)) rfl rfl (hb hby d) t kk) k
theorem w_initO (X : Stand p l e R s m args below meth c T locs cells slots) (hx : p.tables.exec = Jvm.exec) (hby : c.code = bs) (hZ : Z.Warmed39 s.vm) {own : String} (hown : s.vm.findClass own = some m.cls) (hml : Ls.size = c.maxLocals) {idx : Nat} (w1 : (Cond.methodLink own idx Lib.objectInit).before a0 Z = true) (w2 : (Cond.instanceMethod Lib.objectInit).before a0 Z = true) (w3 : (Cond.code Lib.objectInit ⟨#[0xb1]⟩ 1 none).before a0 Z = true) (eT : T.heap = h) {a : Addr} (hd : In bs pc (.invokespecial idx) 3 nx) (hf : 1 ≤ R.frames) {Wd : Nat} (hW : (st.map fun v => v.category).sum = Wd) (hl : Wd + 12 ≤ R.locals) (k : ∀ T', Stand p l e R s m args below meth c T' locs cells slots → T'.heap = h → Wp p e below s K N Q T' (mkF m nx Ls st)) : Wp p e below s K N Q T (mkF m pc Ls (.ref a :: st)) := by
  obtain ⟨d, rfl⟩ := hd; obtain ⟨T', X', e', st'⟩ := initO X hx hZ hown w1 w2 w3 eT (g := mkF m pc Ls (.ref a :: st)) rfl hml rfl (hb hby d) hf (W := Wd) (by show 2 * 0 + _ ≤ _; omega) hl; exact Wp.go st' (k T' X' e')
/-- a body's contract: called on as' at the heap h it returns as Q says, within the room rm -/
def Con (l : Launch) (Z : State) (y : MethodName) (bs : ByteArray) (ml : Nat) (rt : Option FieldType) (rm : Room) (as' : Array Value) (h : Heap) (Q : Option Value → Heap → List Loc → Prop) : Prop :=
  ∀ ws : List Jvm.Cond, MetFree l y (head1 (Jvm.Cond.code y bs ml rt :: ws) rm) (fun a U => a = as' ∧ Z.Warmed39 U.vm ∧ U.heap = h) (fun _ _ _ _ _ => True) (fun _ U o U' => ∃ v L, o = .returned v ∧ Q v U'.heap L ∧ FrameEnd U o U' L rm.cells rm.slots)
theorem w_body {y : MethodName} {ml : Nat} {rt : Option FieldType} {rm : Room} {as' : Array Value} (hy : plainFor y = true) (hf : ∀ m, entryFrame m as' ml = mkF m 0 Ls [])
    (k : ∀ (p : Program) (e : Env) (s : State) (m : MethodId) (below : List Frame) (meth : Method) (c : Code) (T : State), Stand p l e rm s m as' below meth c T [] 0 0 → p.tables.exec = Jvm.exec → c.code = bs → c.maxLocals = ml → s.vm.findClass y.cls = some m.cls → meth.name = y.name → meth.sig.returnType = rt → meth.locks = false → Z.Warmed39 s.vm → T.heap = h → Wp p e below s rm.cells rm.slots Q T (mkF m 0 Ls [])) : Con l Z y bs ml rt rm as' h Q := by
  intro ws
  refine MetFree.of_bodySF hy hisR ?_
  intro p e s m args below meth c s₁ Bd hml0 hP hK
  obtain ⟨rfl, hZ, hh⟩ := hP
  have e0 : s₁.heap = h := by rw [← hh, Bd.state]; rfl
  rw [hf m]
  exact k p e s m below meth c s₁ (Stand.of_body Bd) Bd.exec Bd.bytes hml0 (findClass_of_methodNamed Bd.named) (name_of_methodNamed Bd.named Bd.method).1 Bd.returns (BodyLoose.notSynchronized Bd) hZ e0
/-- what a call leaves -/
def Called (p : Program) (l : Launch) (e : Env) (R : Room) (s : State) (m : MethodId) (args : Array Value) (below : List Frame) (meth : Method) (c : Code) (T : State) (locs : List Loc) (cells slots : Nat) (rm : Room) (Qc : Option Value → Heap → List Loc → Prop) (pc nx : Nat) (Ls : Array Slot) (stk rest : List Value) : Prop :=
  ∃ v T' L, Stand p l e R s m args below meth c T' (locs ++ L) (cells + rm.cells) (slots + rm.slots) ∧ Qc v T'.heap L ∧ Steps p.tables e below (T.setTop (mkF m pc Ls stk)) (T'.setTop (mkF m nx Ls (v.toList ++ rest)))
theorem call_S (X : Stand p l e R s m args below meth c T locs cells slots) (hx : p.tables.exec = Jvm.exec) (hby : c.code = bs) (hZ : Z.Warmed39 s.vm) {own : String} (hown : s.vm.findClass own = some m.cls) {y : MethodName} {ml : Nat} {rt : Option FieldType} {rm : Room} {as' : Array Value} {Qc : Option Value → Heap → List Loc → Prop} {index : Nat} {argsL rest : List Value} {Wd : Nat} {bs' : ByteArray} (w1 : (Cond.methodLink own index y).before a0 Z = true) (w2 : (Cond.static y).before a0 Z = true) (wz : (Cond.initialized y.cls).before a0 Z = true) (wc : (Cond.code y bs' ml rt).before a0 Z = true) (hy : y.cls ≠ "java/lang/invoke/MethodHandle" ∧ y.cls ≠ "java/lang/invoke/VarHandle") (con : Con l Z y bs' ml rt rm as' h Qc) (ha : argsL.toArray = as') (hd : In bs pc (.invokestatic index) 3 nx) (hsz : Ls.size = c.maxLocals) (hlen : ∀ sig, parseMethodDescriptor y.desc = some sig → argsL.length = sig.parameters.length) (hW : (rest.map fun v => v.category).sum = Wd) (hfr : rm.frames + 1 ≤ R.frames) (hlo : Wd + (ml + 11) + rm.locals ≤ R.locals) (hce : cells + rm.cells ≤ R.cells) (hso : slots + rm.slots ≤ R.slots) (eT : T.heap = h) : Called p l e R s m args below meth c T locs cells slots rm Qc pc nx Ls (argsL.reverse ++ rest) rest := by
  obtain ⟨d, rfl⟩ := hd
  obtain ⟨v, vm, ⟨T', L', k', n'⟩, -, X', ⟨L, q, l', y', z'⟩, st'⟩ := Jvm.LawKit.callS X hx (y := y) hown (mvT hZ w1) (mvT hZ w2) (mvT hZ wz) (mvT hZ wc) hy (backOf (W := Wd) (con []) hZ wc wz hfr hlo) (g := mkF m pc Ls (argsL.reverse ++ rest)) rfl hsz (argsL := argsL) (rest := rest) hlen rfl (by show 2 * 0 + _ ≤ _; omega) (hb hby d) (fun _ _ => ⟨ha, eT, hce, hso⟩)
  dsimp only [Pt.U, Pt.locs, Pt.cells, Pt.slots] at X' l' y' z' st' q
  subst l' y' z'
  exact ⟨v, T', L, X', q, st' _ (Steps.refl _)⟩
theorem call_N (X : Stand p l e R s m args below meth c T locs cells slots) (hx : p.tables.exec = Jvm.exec) (hby : c.code = bs) (hZ : Z.Warmed39 s.vm) {own : String} (hown : s.vm.findClass own = some m.cls) {y : MethodName} {ml : Nat} {rm : Room} {as' : Array Value} {Qc : Option Value → Heap → List Loc → Prop} {index : Nat} {argsL rest : List Value} {Wd : Nat} {bs' : ByteArray} {a : Addr} (hn : y.name = "<init>") (w1 : (Cond.methodLink own index y).before a0 Z = true) (w2 : (Cond.instanceMethod y).before a0 Z = true) (wz : (Cond.initialized y.cls).before a0 Z = true) (wc : (Cond.code y bs' ml none).before a0 Z = true) (hy : y.cls ≠ "java/lang/invoke/MethodHandle" ∧ y.cls ≠ "java/lang/invoke/VarHandle") (con : Con l Z y bs' ml none rm as' h Qc) (ha : (.ref a :: argsL).toArray = as') (hd : In bs pc (.invokespecial index) 3 nx) (hsz : Ls.size = c.maxLocals) (hlen : ∀ sig, parseMethodDescriptor y.desc = some sig → argsL.length = sig.parameters.length) (hW : (rest.map fun v => v.category).sum = Wd) (hfr : rm.frames + 1 ≤ R.frames) (hlo : Wd + (ml + 11) + rm.locals ≤ R.locals) (hce : cells + rm.cells ≤ R.cells) (hso : slots + rm.slots ≤ R.slots) (eT : T.heap = h) : Called p l e R s m args below meth c T locs cells slots rm Qc pc nx Ls (argsL.reverse ++ .ref a :: rest) rest := by
  obtain ⟨d, rfl⟩ := hd
  obtain ⟨v, vm, ⟨T', L', k', n'⟩, -, X', ⟨L, q, l', y', z'⟩, st'⟩ := X.specialBack hx (y := y) hn hown (mvT hZ w1) (mvT hZ w2) (mvT hZ wc) hy (backOf (W := Wd) (con []) hZ wc wz hfr hlo) (g := mkF m pc Ls (argsL.reverse ++ .ref a :: rest)) rfl hsz (Steps.refl _) (a := a) (argsL := argsL) (rest := rest) hlen rfl (by show 2 * 0 + _ ≤ _; omega) (hb hby d) (fun _ _ => ⟨ha, eT, hce, hso⟩)
  dsimp only [Pt.U, Pt.locs, Pt.cells, Pt.slots] at X' l' y' z' st' q
  subst l' y' z'
  exact ⟨v, T', L, X', q, st'⟩
theorem call_V (X : Stand p l e R s m args below meth c T locs cells slots) (hx : p.tables.exec = Jvm.exec) (hby : c.code = bs) (hZ : Z.Warmed39 s.vm) {own : String} (hown : s.vm.findClass own = some m.cls) {y : MethodName} {ml : Nat} {rt : Option FieldType} {rm : Room} {as' : Array Value} {Qc : Option Value → Heap → List Loc → Prop} {index : Nat} {argsL rest : List Value} {Wd : Nat} {bs' : ByteArray} {a : Addr} {C : String} (w1 : (Cond.methodLink own index y).before a0 Z = true) (w2 : (Cond.declares y).before a0 Z = true) (w3 : (Cond.selects C y y).before a0 Z = true) (w4 : (Cond.instanceMethod y).before a0 Z = true) (wz : (Cond.initialized y.cls).before a0 Z = true) (wc : (Cond.code y bs' ml rt).before a0 Z = true) (hy : y.cls ≠ "java/lang/invoke/MethodHandle" ∧ y.cls ≠ "java/lang/invoke/VarHandle") (E : Exa Z h a C) (con : Con l Z y bs' ml rt rm as' h Qc) (ha : (.ref a :: argsL).toArray = as') (hd : In bs pc (.invokevirtual index) 3 nx) (hsz : Ls.size = c.maxLocals) (hlen : ∀ sig, parseMethodDescriptor y.desc = some sig → argsL.length = sig.parameters.length) (hW : (rest.map fun v => v.category).sum = Wd) (hfr : rm.frames + 1 ≤ R.frames) (hlo : Wd + (ml + 11) + rm.locals ≤ R.locals) (hce : cells + rm.cells ≤ R.cells) (hso : slots + rm.slots ≤ R.slots) (eT : T.heap = h) : Called p l e R s m args below meth c T locs cells slots rm Qc pc nx Ls (argsL.reverse ++ .ref a :: rest) rest := by
  obtain ⟨d, rfl⟩ := hd
  obtain ⟨cq, kq, qa, qb, qc⟩ := isOf hZ eT E
  obtain ⟨v, vm, ⟨T', L', k', n'⟩, -, X', ⟨L, q, l', y', z'⟩, st'⟩ := X.virtualBack hx (y := y) (z := y) hown (mvT hZ w1) (mvT hZ w2) (notFace_of_selects (args := #[]) (mvT hZ w3)) (mvT hZ w3) (mvT hZ w4) hy (backOf (W := Wd) (con []) hZ wc wz hfr hlo) qa qc (g := mkF m pc Ls (argsL.reverse ++ .ref a :: rest)) rfl hsz (Steps.refl _) (argsL := argsL) (rest := rest) hlen rfl (by show 2 * 0 + _ ≤ _; omega) (hb hby d) (fun _ _ => ⟨ha, eT, hce, hso⟩)
  dsimp only [Pt.U, Pt.locs, Pt.cells, Pt.slots] at X' l' y' z' st' q
  subst l' y' z'
  exact ⟨v, T', L, X', q, st'⟩
theorem call_U (X : Stand p l e R s m args below meth c T locs cells slots) (hx : p.tables.exec = Jvm.exec) (hby : c.code = bs) (hZ : Z.Warmed39 s.vm) {own : String} (hown : s.vm.findClass own = some m.cls) {y : MethodName} {ml : Nat} {rt : Option FieldType} {rm : Room} {as' : Array Value} {Qc : Option Value → Heap → List Loc → Prop} {index : Nat} {argsL rest : List Value} {Wd : Nat} {bs' : ByteArray} {x : MethodName} {a : Addr} {C owner : String} (w1 : (Cond.methodLink own index x).before a0 Z = true) (w2 : (Cond.sameMethod x.cls owner x.name x.desc).before a0 Z = true) (w5 : (Cond.declares ⟨owner, x.name, x.desc⟩).before a0 Z = true) (ho : owner ≠ "java/lang/invoke/MethodHandle" ∧ owner ≠ "java/lang/invoke/VarHandle") (w3 : (Cond.selects C x y).before a0 Z = true) (w4 : (Cond.instanceMethod y).before a0 Z = true) (wz : (Cond.initialized y.cls).before a0 Z = true) (wc : (Cond.code y bs' ml rt).before a0 Z = true) (E : Exa Z h a C) (con : Con l Z y bs' ml rt rm as' h Qc) (ha : (.ref a :: argsL).toArray = as') (hd : In bs pc (.invokevirtual index) 3 nx) (hsz : Ls.size = c.maxLocals) (hlen : ∀ sig, parseMethodDescriptor x.desc = some sig → argsL.length = sig.parameters.length) (hW : (rest.map fun v => v.category).sum = Wd) (hfr : rm.frames + 1 ≤ R.frames) (hlo : Wd + (ml + 11) + rm.locals ≤ R.locals) (hce : cells + rm.cells ≤ R.cells) (hso : slots + rm.slots ≤ R.slots) (eT : T.heap = h) : Called p l e R s m args below meth c T locs cells slots rm Qc pc nx Ls (argsL.reverse ++ .ref a :: rest) rest := by
  obtain ⟨d, rfl⟩ := hd
  obtain ⟨cq, kq, qa, qb, qc⟩ := isOf hZ eT E
  obtain ⟨v, vm, ⟨T', L', k', n'⟩, -, X', ⟨L, q, l', y', z'⟩, st'⟩ := X.virtualBackUp hx (x := x) (y := y) hown (mvT hZ w1) (mvT hZ w2) (mvT hZ w5) ho (mvT hZ w3) (mvT hZ w4) (backOf (W := Wd) (con []) hZ wc wz hfr hlo) qa qc (g := mkF m pc Ls (argsL.reverse ++ .ref a :: rest)) rfl hsz (Steps.refl _) (argsL := argsL) (rest := rest) hlen rfl (by show 2 * 0 + _ ≤ _; omega) (hb hby d) (fun _ _ => ⟨ha, eT, hce, hso⟩)
  dsimp only [Pt.U, Pt.locs, Pt.cells, Pt.slots] at X' l' y' z' st' q
  subst l' y' z'
  exact ⟨v, T', L, X', q, st'⟩
/-- behind a call -/
theorem w_called {rm : Room} {Qc : Option Value → Heap → List Loc → Prop} {stk rest : List Value} (hc : Called p l e R s m args below meth c T locs cells slots rm Qc pc nx Ls stk rest)
    (k : ∀ v T' L, Stand p l e R s m args below meth c T' (locs ++ L) (cells + rm.cells) (slots + rm.slots) → Qc v T'.heap L → Wp p e below s K N Q T' (mkF m nx Ls (v.toList ++ rest))) : Wp p e below s K N Q T (mkF m pc Ls stk) := by
  obtain ⟨v, T', L, X', q, st'⟩ := hc; exact Wp.tr st' (k v T' L X' q)
/-- behind a call that writes nothing and makes nothing -/
theorem w_calledp {rm : Room} {w : Value} {stk rest : List Value} (hc : Called p l e R s m args below meth c T locs cells slots rm (fun v h' L => v = some w ∧ h' = h ∧ L = []) pc nx Ls stk rest) (h1 : rm.cells = 0) (h2 : rm.slots = 0)
    (k : ∀ T', Stand p l e R s m args below meth c T' locs cells slots → T'.heap = h → Wp p e below s K N Q T' (mkF m nx Ls (w :: rest))) : Wp p e below s K N Q T (mkF m pc Ls stk) := by
  obtain ⟨v, T', L, X', ⟨rfl, q, rfl⟩, st'⟩ := hc
  rw [h1, h2, List.append_nil] at X'
  exact Wp.tr st' (k T' X' q)
theorem w_retI (X : Stand p l e R s m args below meth c T locs cells slots) (hx : p.tables.exec = Jvm.exec) (hby : c.code = bs) (eT : T.heap = h) (hlk : meth.locks = false) {z : Int32} (hret : meth.sig.returnType = some .int) (hd : In bs pc .ireturn 1 nx) (hK : cells ≤ K) (hN : slots ≤ N) (q : Q (some (.int z)) h locs) : Wp p e below s K N Q T (mkF m pc Ls (.int z :: st)) := by
  obtain ⟨fs, hr, hrun, hended, hW, hsame⟩ := X.leave (v := some (.int z)) (fun h => by rw [hret] at h; cases h) hlk
  subst eT
  refine ⟨_, _, ?_, hrun, hended, _, _, rfl, q, ⟨_, rfl⟩, hW, hsame.mono hK hN⟩
  exact retOut X hx hret rfl (Or.inl ⟨rfl, Or.inl rfl, z, rfl⟩) (hb hby hd.1) hr
theorem w_retN (X : Stand p l e R s m args below meth c T locs cells slots) (hx : p.tables.exec = Jvm.exec) (hby : c.code = bs) (eT : T.heap = h) (hlk : meth.locks = false) {z : Int32} {t : FieldType} (hret : meth.sig.returnType = some t) (ht : t = .boolean ∨ t = .byte ∨ t = .char ∨ t = .short) (hd : In bs pc .ireturn 1 nx) (hK : cells ≤ K) (hN : slots ≤ N) (q : Q (some (.int (nar t z))) h locs) : Wp p e below s K N Q T (mkF m pc Ls (.int z :: st)) := by
  obtain ⟨fs, hr, hrun, hended, hW, hsame⟩ := X.leave (v := some (.int (nar t z))) (fun h => by rw [hret] at h; cases h) hlk
  subst eT
  refine ⟨_, _, ?_, hrun, hended, _, _, rfl, q, ⟨_, rfl⟩, hW, hsame.mono hK hN⟩
  exact retN X hx hret ht (hb hby hd.1) hr
theorem w_retJ (X : Stand p l e R s m args below meth c T locs cells slots) (hx : p.tables.exec = Jvm.exec) (hby : c.code = bs) (eT : T.heap = h) (hlk : meth.locks = false) {z : Int64} (hret : meth.sig.returnType = some .long) (hd : In bs pc .lreturn 1 nx) (hK : cells ≤ K) (hN : slots ≤ N) (q : Q (some (.long z)) h locs) : Wp p e below s K N Q T (mkF m pc Ls (.long z :: st)) := by
  obtain ⟨fs, hr, hrun, hended, hW, hsame⟩ := X.leave (v := some (.long z)) (fun h => by rw [hret] at h; cases h) hlk
  subst eT
  refine ⟨_, _, ?_, hrun, hended, _, _, rfl, q, ⟨_, rfl⟩, hW, hsame.mono hK hN⟩
  exact retOut X hx hret rfl (Or.inr (Or.inl ⟨rfl, rfl, z, rfl⟩)) (hb hby hd.1) hr
theorem w_retA (X : Stand p l e R s m args below meth c T locs cells slots) (hx : p.tables.exec = Jvm.exec) (hby : c.code = bs) (eT : T.heap = h) (hlk : meth.locks = false) {w : Value} {t : FieldType} (hret : meth.sig.returnType = some t) (ht : t.isReference = true) (hw : w.isRef = true) (hn : narrow t w = w) (hd : In bs pc .areturn 1 nx) (hK : cells ≤ K) (hN : slots ≤ N) (q : Q (some w) h locs) : Wp p e below s K N Q T (mkF m pc Ls (w :: st)) := by
  obtain ⟨fs, hr, hrun, hended, hW, hsame⟩ := X.leave (v := some w) (fun h => by rw [hret] at h; cases h) hlk
  subst eT
  refine ⟨_, _, ?_, hrun, hended, _, _, rfl, q, ⟨_, rfl⟩, hW, hsame.mono hK hN⟩
  exact retOut X hx hret hn (Or.inr (Or.inr (Or.inr (Or.inr ⟨rfl, ht, hw⟩)))) (hb hby hd.1) hr
theorem w_retV (X : Stand p l e R s m args below meth c T locs cells slots) (hx : p.tables.exec = Jvm.exec) (hby : c.code = bs) (eT : T.heap = h) (hlk : meth.locks = false) (hret : meth.sig.returnType = none) (hd : In bs pc .return_ 1 nx) (hK : cells ≤ K) (hN : slots ≤ N) (q : Q none h locs) : Wp p e below s K N Q T (mkF m pc Ls []) := by
  obtain ⟨fs, hr, hrun, hended, hW, hsame⟩ := X.leave (v := none) (fun _ => rfl) hlk
  subst eT
  refine ⟨_, _, ?_, hrun, hended, _, _, rfl, q, ⟨_, rfl⟩, hW, hsame.mono hK hN⟩
  exact X.returnOut hx hret (hb hby hd.1) hr
theorem own_ns {Z : State} {h : Heap} {a : Addr} {K : String} (E : Exa Z h a K) : ∃ c : Cell, h[a]? = some c ∧ c.vm.isStatics = false := by
  obtain ⟨c, _, h1, -, -, h4, -⟩ := E; exact ⟨c, h1, h4⟩
theorem own_nsV {Z : State} {h : Heap} {a : Addr} {k : ClassId} {ty : FieldType} {n : Int32} {vs : List Value} {dv : Value} (E : Arv Z h a k ty n vs dv) : ∃ c : Cell, h[a]? = some c ∧ c.vm.isStatics = false := by
  obtain ⟨c, A, -⟩ := E; exact ⟨c, A.1, A.plain⟩
theorem own_sta_keep {Z : State} {h h' : Heap} {C n d : String} {v : Value} {ws : List Addr} (F : Sta Z h C n d v) (K : Keep h h' ws) (q : ∀ x ∈ ws, ∃ c : Cell, h[x]? = some c ∧ c.vm.isStatics = false) : Sta Z h' C n d v := by
  obtain ⟨cf, i, k, f, st, cell, h1, h2, h3, h4, h5, h6, h7⟩ := F
  refine ⟨cf, i, k, f, st, cell, h1, h2, h3, h4, K.2.1 _ _ h5 (fun hm => ?_), h6, h7⟩
  obtain ⟨c, e1, e2⟩ := q st hm
  cases h5.symm.trans e1
  rw [h6] at e2; cases e2
theorem own_ext_keep {h h' : Heap} (E : Ext h h') : Keep h h' [] := (Keep.refl h []).ext E
theorem own_keep_ext {h h' : Heap} (K : Keep h h' []) : Ext h h' := ⟨K.1, fun a c q => K.2.1 a c q nin0⟩
end OwnKit
theorem t_0 : (Jvm.Cond.classLink "com/example/panoptes/panoptes/SearchIndexValidAtPinLaw" (7 : Nat) "com/example/panoptes/panoptes/SearchIndex$Version") ∈ tables_1 := List.mem_of_getElem? (i := 0) rfl
theorem t_1 : (Jvm.Cond.instantiable "com/example/panoptes/panoptes/SearchIndex$Version" (5 : Nat)) ∈ tables_1 := List.mem_of_getElem? (i := 1) rfl
theorem t_2 : (Jvm.Cond.initialized "com/example/panoptes/panoptes/SearchIndex$Version") ∈ tables_1 := List.mem_of_getElem? (i := 2) rfl
theorem t_3 : (Jvm.Cond.methodLink "com/example/panoptes/panoptes/SearchIndexValidAtPinLaw" (9 : Nat) ({ cls := "com/example/panoptes/panoptes/SearchIndex$Version", name := "<init>", desc := "(Lcom/example/panoptes/panoptes/Page;IIJJ)V" } : Jvm.MethodName)) ∈ tables_1 := List.mem_of_getElem? (i := 3) rfl
theorem t_4 : (Jvm.Cond.instanceMethod ({ cls := "com/example/panoptes/panoptes/SearchIndex$Version", name := "<init>", desc := "(Lcom/example/panoptes/panoptes/Page;IIJJ)V" } : Jvm.MethodName)) ∈ tables_1 := List.mem_of_getElem? (i := 4) rfl
theorem t_5 : (Jvm.Cond.code ({ cls := "com/example/panoptes/panoptes/SearchIndex$Version", name := "<init>", desc := "(Lcom/example/panoptes/panoptes/Page;IIJJ)V" } : Jvm.MethodName) prog_23_method_2_code (8 : Nat) (Option.none : Option Jvm.ClassFile.FieldType)) ∈ tables_1 := List.mem_of_getElem? (i := 5) rfl
theorem t_6 : (Jvm.Cond.methodLink "com/example/panoptes/panoptes/SearchIndex$Version" (1 : Nat) ({ cls := "java/lang/Record", name := "<init>", desc := "()V" } : Jvm.MethodName)) ∈ tables_1 := List.mem_of_getElem? (i := 6) rfl
theorem t_7 : (Jvm.Cond.instanceMethod ({ cls := "java/lang/Record", name := "<init>", desc := "()V" } : Jvm.MethodName)) ∈ tables_1 := List.mem_of_getElem? (i := 7) rfl
theorem t_9 : (Jvm.Cond.initialized "java/lang/Record") ∈ tables_1 := List.mem_of_getElem? (i := 9) rfl
theorem t_10 : (Jvm.Cond.code ({ cls := "java/lang/Record", name := "<init>", desc := "()V" } : Jvm.MethodName) jdk_30_method_1_code (1 : Nat) (Option.none : Option Jvm.ClassFile.FieldType)) ∈ tables_1 := List.mem_of_getElem? (i := 10) rfl
theorem t_11 : (Jvm.Cond.methodLink "java/lang/Record" (1 : Nat) ({ cls := "java/lang/Object", name := "<init>", desc := "()V" } : Jvm.MethodName)) ∈ tables_1 := List.mem_of_getElem? (i := 11) rfl
theorem t_12 : (Jvm.Cond.instanceMethod ({ cls := "java/lang/Object", name := "<init>", desc := "()V" } : Jvm.MethodName)) ∈ tables_1 := List.mem_of_getElem? (i := 12) rfl
theorem t_13 : (Jvm.Cond.code ({ cls := "java/lang/Object", name := "<init>", desc := "()V" } : Jvm.MethodName) object_method_1_code (1 : Nat) (Option.none : Option Jvm.ClassFile.FieldType)) ∈ tables_1 := List.mem_of_getElem? (i := 13) rfl
theorem t_14 : (Jvm.Cond.fieldLink "com/example/panoptes/panoptes/SearchIndex$Version" (7 : Nat) "com/example/panoptes/panoptes/SearchIndex$Version" "page" "Lcom/example/panoptes/panoptes/Page;") ∈ tables_1 := List.mem_of_getElem? (i := 14) rfl
theorem t_15 : (Jvm.Cond.laysFinal "com/example/panoptes/panoptes/SearchIndex$Version" "com/example/panoptes/panoptes/SearchIndex$Version" "page" "Lcom/example/panoptes/panoptes/Page;") ∈ tables_1 := List.mem_of_getElem? (i := 15) rfl
theorem t_16 : (Jvm.Cond.fieldLink "com/example/panoptes/panoptes/SearchIndex$Version" (13 : Nat) "com/example/panoptes/panoptes/SearchIndex$Version" "index" "I") ∈ tables_1 := List.mem_of_getElem? (i := 16) rfl
theorem t_17 : (Jvm.Cond.laysFinal "com/example/panoptes/panoptes/SearchIndex$Version" "com/example/panoptes/panoptes/SearchIndex$Version" "index" "I") ∈ tables_1 := List.mem_of_getElem? (i := 17) rfl
theorem t_18 : (Jvm.Cond.fieldLink "com/example/panoptes/panoptes/SearchIndex$Version" (17 : Nat) "com/example/panoptes/panoptes/SearchIndex$Version" "titlePlace" "I") ∈ tables_1 := List.mem_of_getElem? (i := 18) rfl
theorem t_19 : (Jvm.Cond.laysFinal "com/example/panoptes/panoptes/SearchIndex$Version" "com/example/panoptes/panoptes/SearchIndex$Version" "titlePlace" "I") ∈ tables_1 := List.mem_of_getElem? (i := 19) rfl
theorem t_20 : (Jvm.Cond.fieldLink "com/example/panoptes/panoptes/SearchIndex$Version" (20 : Nat) "com/example/panoptes/panoptes/SearchIndex$Version" "validFrom" "J") ∈ tables_1 := List.mem_of_getElem? (i := 20) rfl
theorem t_21 : (Jvm.Cond.laysFinal "com/example/panoptes/panoptes/SearchIndex$Version" "com/example/panoptes/panoptes/SearchIndex$Version" "validFrom" "J") ∈ tables_1 := List.mem_of_getElem? (i := 21) rfl
theorem t_22 : (Jvm.Cond.fieldLink "com/example/panoptes/panoptes/SearchIndex$Version" (24 : Nat) "com/example/panoptes/panoptes/SearchIndex$Version" "validUntil" "J") ∈ tables_1 := List.mem_of_getElem? (i := 22) rfl
theorem t_23 : (Jvm.Cond.laysFinal "com/example/panoptes/panoptes/SearchIndex$Version" "com/example/panoptes/panoptes/SearchIndex$Version" "validUntil" "J") ∈ tables_1 := List.mem_of_getElem? (i := 23) rfl
theorem t_24 : (Jvm.Cond.methodLink "com/example/panoptes/panoptes/SearchIndexValidAtPinLaw" (12 : Nat) ({ cls := "com/example/panoptes/panoptes/SearchIndex$Version", name := "validAt", desc := "(J)Z" } : Jvm.MethodName)) ∈ tables_1 := List.mem_of_getElem? (i := 24) rfl
theorem t_25 : (Jvm.Cond.declares ({ cls := "com/example/panoptes/panoptes/SearchIndex$Version", name := "validAt", desc := "(J)Z" } : Jvm.MethodName)) ∈ tables_1 := List.mem_of_getElem? (i := 25) rfl
theorem t_26 : (Jvm.Cond.instanceMethod ({ cls := "com/example/panoptes/panoptes/SearchIndex$Version", name := "validAt", desc := "(J)Z" } : Jvm.MethodName)) ∈ tables_1 := List.mem_of_getElem? (i := 26) rfl
theorem t_27 : (Jvm.Cond.selects "com/example/panoptes/panoptes/SearchIndex$Version" ({ cls := "com/example/panoptes/panoptes/SearchIndex$Version", name := "validAt", desc := "(J)Z" } : Jvm.MethodName) ({ cls := "com/example/panoptes/panoptes/SearchIndex$Version", name := "validAt", desc := "(J)Z" } : Jvm.MethodName)) ∈ tables_1 := List.mem_of_getElem? (i := 27) rfl
theorem t_28 : (Jvm.Cond.code ({ cls := "com/example/panoptes/panoptes/SearchIndex$Version", name := "validAt", desc := "(J)Z" } : Jvm.MethodName) prog_23_method_4_code (3 : Nat) (Option.some Jvm.ClassFile.FieldType.boolean)) ∈ tables_1 := List.mem_of_getElem? (i := 28) rfl
theorem t_29 : (Jvm.Cond.constantLong "com/example/panoptes/panoptes/SearchIndexValidAtPinLaw" (18 : Nat) (-9223372036854775808 : Int64)) ∈ tables_1 := List.mem_of_getElem? (i := 29) rfl
theorem n2_0 : In jdk_30_method_1_code 0 (.aload_n 0) 1 1 := ⟨by decide +kernel, rfl⟩
theorem n2_1 : In jdk_30_method_1_code 1 (.invokespecial 1) 3 4 := ⟨by decide +kernel, rfl⟩
theorem n2_4 : In jdk_30_method_1_code 4 (.return_) 1 5 := ⟨by decide +kernel, rfl⟩
theorem pn_2 : plainFor (⟨"java/lang/Record", "<init>", "()V"⟩ : MethodName) = true := plainFor_of_name (by first | (simp [plainName, overriddenIn]; done) | decide +kernel)
theorem n1_0 : In prog_23_method_2_code 0 (.aload_n 0) 1 1 := ⟨by decide +kernel, rfl⟩
theorem n1_1 : In prog_23_method_2_code 1 (.invokespecial 1) 3 4 := ⟨by decide +kernel, rfl⟩
theorem pd_1382 : parseMethodDescriptor "()V" = some ⟨[], none⟩ := by decide +kernel
theorem n1_4 : In prog_23_method_2_code 4 (.aload_n 0) 1 5 := ⟨by decide +kernel, rfl⟩
theorem n1_5 : In prog_23_method_2_code 5 (.aload_n 1) 1 6 := ⟨by decide +kernel, rfl⟩
theorem n1_6 : In prog_23_method_2_code 6 (.putfield 7) 3 9 := ⟨by decide +kernel, rfl⟩
theorem n1_9 : In prog_23_method_2_code 9 (.aload_n 0) 1 10 := ⟨by decide +kernel, rfl⟩
theorem n1_10 : In prog_23_method_2_code 10 (.iload_n 2) 1 11 := ⟨by decide +kernel, rfl⟩
theorem n1_11 : In prog_23_method_2_code 11 (.putfield 13) 3 14 := ⟨by decide +kernel, rfl⟩
theorem n1_14 : In prog_23_method_2_code 14 (.aload_n 0) 1 15 := ⟨by decide +kernel, rfl⟩
theorem n1_15 : In prog_23_method_2_code 15 (.iload_n 3) 1 16 := ⟨by decide +kernel, rfl⟩
theorem n1_16 : In prog_23_method_2_code 16 (.putfield 17) 3 19 := ⟨by decide +kernel, rfl⟩
theorem n1_19 : In prog_23_method_2_code 19 (.aload_n 0) 1 20 := ⟨by decide +kernel, rfl⟩
theorem n1_20 : In prog_23_method_2_code 20 (.lload 4) 2 22 := ⟨by decide +kernel, rfl⟩
theorem n1_22 : In prog_23_method_2_code 22 (.putfield 20) 3 25 := ⟨by decide +kernel, rfl⟩
theorem n1_25 : In prog_23_method_2_code 25 (.aload_n 0) 1 26 := ⟨by decide +kernel, rfl⟩
theorem n1_26 : In prog_23_method_2_code 26 (.lload 6) 2 28 := ⟨by decide +kernel, rfl⟩
theorem n1_28 : In prog_23_method_2_code 28 (.putfield 24) 3 31 := ⟨by decide +kernel, rfl⟩
theorem n1_31 : In prog_23_method_2_code 31 (.return_) 1 32 := ⟨by decide +kernel, rfl⟩
theorem pn_1 : plainFor (⟨"com/example/panoptes/panoptes/SearchIndex$Version", "<init>", "(Lcom/example/panoptes/panoptes/Page;IIJJ)V"⟩ : MethodName) = true := plainFor_of_name (by first | (simp [plainName, overriddenIn]; done) | decide +kernel)
theorem n4_0 : In prog_23_method_4_code 0 (.aload_n 0) 1 1 := ⟨by decide +kernel, rfl⟩
theorem n4_1 : In prog_23_method_4_code 1 (.getfield 20) 3 4 := ⟨by decide +kernel, rfl⟩
theorem n4_4 : In prog_23_method_4_code 4 (.lload_n 1) 1 5 := ⟨by decide +kernel, rfl⟩
theorem n4_5 : In prog_23_method_4_code 5 (.lcmp) 1 6 := ⟨by decide +kernel, rfl⟩
theorem n4_6 : Jm prog_23_method_4_code 6 (.ifCond .gt 16) 16 9 22 := ⟨by decide +kernel, rfl, by decide, by decide⟩
theorem n4_22 : In prog_23_method_4_code 22 (.iconst 0) 1 23 := ⟨by decide +kernel, rfl⟩
theorem n4_23 : In prog_23_method_4_code 23 (.ireturn) 1 24 := ⟨by decide +kernel, rfl⟩
theorem n4_9 : In prog_23_method_4_code 9 (.lload_n 1) 1 10 := ⟨by decide +kernel, rfl⟩
theorem n4_10 : In prog_23_method_4_code 10 (.aload_n 0) 1 11 := ⟨by decide +kernel, rfl⟩
theorem n4_11 : In prog_23_method_4_code 11 (.getfield 24) 3 14 := ⟨by decide +kernel, rfl⟩
theorem n4_14 : In prog_23_method_4_code 14 (.lcmp) 1 15 := ⟨by decide +kernel, rfl⟩
theorem n4_15 : Jm prog_23_method_4_code 15 (.ifCond .ge 7) 7 18 22 := ⟨by decide +kernel, rfl, by decide, by decide⟩
theorem n4_18 : In prog_23_method_4_code 18 (.iconst 1) 1 19 := ⟨by decide +kernel, rfl⟩
theorem n4_19 : Jm prog_23_method_4_code 19 (.goto 4) 4 22 23 := ⟨by decide +kernel, rfl, by decide, by decide⟩
theorem pn_4 : plainFor (⟨"com/example/panoptes/panoptes/SearchIndex$Version", "validAt", "(J)Z"⟩ : MethodName) = true := plainFor_of_name (by first | (simp [plainName, overriddenIn]; done) | decide +kernel)
theorem n0_79 : In code 79 (.new 7) 3 82 := ⟨at_79, rfl⟩
theorem n0_82 : In code 82 (.dup) 1 83 := ⟨at_82, rfl⟩
theorem n0_83 : In code 83 (.aconst_null) 1 84 := ⟨at_83, rfl⟩
theorem n0_84 : In code 84 (.iconst 0) 1 85 := ⟨at_84, rfl⟩
theorem n0_85 : In code 85 (.iconst 0) 1 86 := ⟨at_85, rfl⟩
theorem n0_86 : In code 86 (.lload_n 0) 1 87 := ⟨at_86, rfl⟩
theorem n0_87 : In code 87 (.lload 7) 2 89 := ⟨at_87, rfl⟩
theorem n0_89 : In code 89 (.invokespecial 9) 3 92 := ⟨at_89, rfl⟩
theorem pd_109015 : parseMethodDescriptor "(Lcom/example/panoptes/panoptes/Page;IIJJ)V" = some ⟨[(.object "com/example/panoptes/panoptes/Page"), .int, .int, .long, .long], none⟩ := by decide +kernel
theorem n0_92 : In code 92 (.astore 12) 2 94 := ⟨at_92, rfl⟩
theorem n0_94 : In code 94 (.aload 12) 2 96 := ⟨at_94, rfl⟩
theorem n0_96 : In code 96 (.lload 10) 2 98 := ⟨at_96, rfl⟩
theorem n0_98 : In code 98 (.invokevirtual 12) 3 101 := ⟨at_98, rfl⟩
theorem pd_2141 : parseMethodDescriptor "(J)Z" = some ⟨[.long], some .boolean⟩ := by decide +kernel
theorem n0_101 : In code 101 (.istore 13) 2 103 := ⟨at_101, rfl⟩
theorem n0_103 : In code 103 (.lload 10) 2 105 := ⟨at_103, rfl⟩
theorem n0_105 : In code 105 (.lload_n 0) 1 106 := ⟨at_105, rfl⟩
theorem n0_106 : In code 106 (.lcmp) 1 107 := ⟨at_106, rfl⟩
theorem n0_107 : Jm code 107 (.ifCond .ge 9) 9 110 116 := ⟨at_107, rfl, by decide, by decide⟩
theorem n0_110 : In code 110 (.iconst 0) 1 111 := ⟨at_110, rfl⟩
theorem n0_111 : In code 111 (.istore 14) 2 113 := ⟨at_111, rfl⟩
theorem n0_113 : Jm code 113 (.goto 20) 20 116 133 := ⟨at_113, rfl, by decide, by decide⟩
theorem n0_133 : In code 133 (.iconst 1) 1 134 := ⟨at_133, rfl⟩
theorem n0_134 : In code 134 (.istore 15) 2 136 := ⟨at_134, rfl⟩
theorem n0_136 : In code 136 (.iload 9) 2 138 := ⟨at_136, rfl⟩
theorem n0_138 : Jm code 138 (.ifCond .ne 23) 23 141 161 := ⟨at_138, rfl, by decide, by decide⟩
theorem n0_161 : In code 161 (.iload 9) 2 163 := ⟨at_161, rfl⟩
theorem n0_163 : In code 163 (.iconst 2) 1 164 := ⟨at_163, rfl⟩
theorem n0_164 : Jm code 164 (.if_icmp .ne 11) 11 167 175 := ⟨at_164, rfl, by decide, by decide⟩
theorem n0_175 : In code 175 (.iload 9) 2 177 := ⟨at_175, rfl⟩
theorem n0_177 : In code 177 (.iconst 1) 1 178 := ⟨at_177, rfl⟩
theorem n0_178 : Jm code 178 (.if_icmp .ne 19) 19 181 197 := ⟨at_178, rfl, by decide, by decide⟩
theorem n0_197 : In code 197 (.lload_n 0) 1 198 := ⟨at_197, rfl⟩
theorem n0_198 : In code 198 (.lload 7) 2 200 := ⟨at_198, rfl⟩
theorem n0_200 : In code 200 (.lcmp) 1 201 := ⟨at_200, rfl⟩
theorem n0_201 : Jm code 201 (.ifCond .ne 11) 11 204 212 := ⟨at_201, rfl, by decide, by decide⟩
theorem n0_212 : In code 212 (.iload 13) 2 214 := ⟨at_212, rfl⟩
theorem n0_214 : In code 214 (.iload 14) 2 216 := ⟨at_214, rfl⟩
theorem n0_216 : Jm code 216 (.if_icmp .ne 12) 12 219 228 := ⟨at_216, rfl, by decide, by decide⟩
theorem n0_219 : In code 219 (.iload 15) 2 221 := ⟨at_219, rfl⟩
theorem n0_221 : Jm code 221 (.ifCond .eq 7) 7 224 228 := ⟨at_221, rfl, by decide, by decide⟩
theorem n0_224 : In code 224 (.iconst 1) 1 225 := ⟨at_224, rfl⟩
theorem n0_225 : Jm code 225 (.goto 4) 4 228 229 := ⟨at_225, rfl, by decide, by decide⟩
theorem n0_229 : In code 229 (.ireturn) 1 230 := ⟨at_229, rfl⟩
theorem n0_204 : In code 204 (.iload 13) 2 206 := ⟨at_204, rfl⟩
theorem n0_206 : Jm code 206 (.ifCond .eq 6) 6 209 212 := ⟨at_206, rfl, by decide, by decide⟩
theorem n0_181 : In code 181 (.lload_n 0) 1 182 := ⟨at_181, rfl⟩
theorem n0_182 : In code 182 (.ldc2_w 18) 3 185 := ⟨at_182, rfl⟩
theorem n0_185 : In code 185 (.lcmp) 1 186 := ⟨at_185, rfl⟩
theorem n0_186 : Jm code 186 (.ifCond .eq 11) 11 189 197 := ⟨at_186, rfl, by decide, by decide⟩
theorem n0_189 : In code 189 (.iload 13) 2 191 := ⟨at_189, rfl⟩
theorem n0_191 : Jm code 191 (.ifCond .eq 6) 6 194 197 := ⟨at_191, rfl, by decide, by decide⟩
theorem n0_167 : In code 167 (.iload 13) 2 169 := ⟨at_167, rfl⟩
theorem n0_169 : Jm code 169 (.ifCond .eq 6) 6 172 175 := ⟨at_169, rfl, by decide, by decide⟩
theorem n0_141 : In code 141 (.iload 13) 2 143 := ⟨at_141, rfl⟩
theorem n0_143 : In code 143 (.lload_n 0) 1 144 := ⟨at_143, rfl⟩
theorem n0_144 : In code 144 (.lload 7) 2 146 := ⟨at_144, rfl⟩
theorem n0_146 : In code 146 (.lcmp) 1 147 := ⟨at_146, rfl⟩
theorem n0_147 : Jm code 147 (.ifCond .ge 7) 7 150 154 := ⟨at_147, rfl, by decide, by decide⟩
theorem n0_154 : In code 154 (.iconst 0) 1 155 := ⟨at_154, rfl⟩
theorem n0_155 : Jm code 155 (.if_icmp .eq 6) 6 158 161 := ⟨at_155, rfl, by decide, by decide⟩
theorem n0_150 : In code 150 (.iconst 1) 1 151 := ⟨at_150, rfl⟩
theorem n0_151 : Jm code 151 (.goto 4) 4 154 155 := ⟨at_151, rfl, by decide, by decide⟩
theorem n0_158 : In code 158 (.iconst 0) 1 159 := ⟨at_158, rfl⟩
theorem n0_159 : In code 159 (.istore 15) 2 161 := ⟨at_159, rfl⟩
theorem n0_228 : In code 228 (.iconst 0) 1 229 := ⟨at_228, rfl⟩
theorem n0_116 : In code 116 (.lload 10) 2 118 := ⟨at_116, rfl⟩
theorem n0_118 : In code 118 (.lload 7) 2 120 := ⟨at_118, rfl⟩
theorem n0_120 : In code 120 (.lcmp) 1 121 := ⟨at_120, rfl⟩
theorem n0_121 : Jm code 121 (.ifCond .lt 9) 9 124 130 := ⟨at_121, rfl, by decide, by decide⟩
theorem n0_130 : In code 130 (.iconst 1) 1 131 := ⟨at_130, rfl⟩
theorem n0_131 : In code 131 (.istore 14) 2 133 := ⟨at_131, rfl⟩
theorem n0_209 : In code 209 (.iconst 0) 1 210 := ⟨at_209, rfl⟩
theorem n0_210 : In code 210 (.istore 15) 2 212 := ⟨at_210, rfl⟩
theorem n0_194 : In code 194 (.iconst 0) 1 195 := ⟨at_194, rfl⟩
theorem n0_195 : In code 195 (.istore 15) 2 197 := ⟨at_195, rfl⟩
theorem n0_172 : In code 172 (.iconst 0) 1 173 := ⟨at_172, rfl⟩
theorem n0_173 : In code 173 (.istore 15) 2 175 := ⟨at_173, rfl⟩
theorem n0_124 : In code 124 (.iconst 0) 1 125 := ⟨at_124, rfl⟩
theorem n0_125 : In code 125 (.istore 14) 2 127 := ⟨at_125, rfl⟩
theorem n0_127 : Jm code 127 (.goto 6) 6 130 133 := ⟨at_127, rfl, by decide, by decide⟩
theorem n0_0 : In code 0 (.iload 6) 2 2 := ⟨at_0, rfl⟩
theorem n0_2 : In code 2 (.bipush 8) 2 4 := ⟨at_2, rfl⟩
theorem n0_4 : In code 4 (.iand) 1 5 := ⟨at_4, rfl⟩
theorem n0_5 : Jm code 5 (.ifCond .eq 7) 7 8 12 := ⟨at_5, rfl, by decide, by decide⟩
theorem n0_12 : In code 12 (.lload_n 2) 1 13 := ⟨at_12, rfl⟩
theorem n0_13 : In code 13 (.lstore 7) 2 15 := ⟨at_13, rfl⟩
theorem n0_15 : In code 15 (.iload 6) 2 17 := ⟨at_15, rfl⟩
theorem n0_17 : In code 17 (.bipush 7) 2 19 := ⟨at_17, rfl⟩
theorem n0_19 : In code 19 (.iand) 1 20 := ⟨at_19, rfl⟩
theorem n0_20 : In code 20 (.istore 9) 2 22 := ⟨at_20, rfl⟩
theorem n0_22 : In code 22 (.iload 9) 2 24 := ⟨at_22, rfl⟩
theorem n0_24 : Jm code 24 (.ifCond .ne 9) 9 27 33 := ⟨at_24, rfl, by decide, by decide⟩
theorem n0_33 : In code 33 (.iload 9) 2 35 := ⟨at_33, rfl⟩
theorem n0_35 : In code 35 (.iconst 1) 1 36 := ⟨at_35, rfl⟩
theorem n0_36 : Jm code 36 (.if_icmp .ne 11) 11 39 47 := ⟨at_36, rfl, by decide, by decide⟩
theorem n0_47 : In code 47 (.iload 9) 2 49 := ⟨at_47, rfl⟩
theorem n0_49 : In code 49 (.iconst 2) 1 50 := ⟨at_49, rfl⟩
theorem n0_50 : Jm code 50 (.if_icmp .ne 10) 10 53 60 := ⟨at_50, rfl, by decide, by decide⟩
theorem n0_60 : In code 60 (.iload 9) 2 62 := ⟨at_60, rfl⟩
theorem n0_62 : In code 62 (.iconst 3) 1 63 := ⟨at_62, rfl⟩
theorem n0_63 : Jm code 63 (.if_icmp .ne 12) 12 66 75 := ⟨at_63, rfl, by decide, by decide⟩
theorem n0_75 : In code 75 (.lload 4) 2 77 := ⟨at_75, rfl⟩
theorem n0_77 : In code 77 (.lstore 10) 2 79 := ⟨at_77, rfl⟩
theorem n0_66 : In code 66 (.lload 7) 2 68 := ⟨at_66, rfl⟩
theorem n0_68 : In code 68 (.lconst 1) 1 69 := ⟨at_68, rfl⟩
theorem n0_69 : In code 69 (.lsub) 1 70 := ⟨at_69, rfl⟩
theorem n0_70 : In code 70 (.lstore 10) 2 72 := ⟨at_70, rfl⟩
theorem n0_72 : Jm code 72 (.goto 7) 7 75 79 := ⟨at_72, rfl, by decide, by decide⟩
theorem n0_53 : In code 53 (.lload 7) 2 55 := ⟨at_53, rfl⟩
theorem n0_55 : In code 55 (.lstore 10) 2 57 := ⟨at_55, rfl⟩
theorem n0_57 : Jm code 57 (.goto 22) 22 60 79 := ⟨at_57, rfl, by decide, by decide⟩
theorem n0_39 : In code 39 (.lload_n 0) 1 40 := ⟨at_39, rfl⟩
theorem n0_40 : In code 40 (.lconst 1) 1 41 := ⟨at_40, rfl⟩
theorem n0_41 : In code 41 (.lsub) 1 42 := ⟨at_41, rfl⟩
theorem n0_42 : In code 42 (.lstore 10) 2 44 := ⟨at_42, rfl⟩
theorem n0_44 : Jm code 44 (.goto 35) 35 47 79 := ⟨at_44, rfl, by decide, by decide⟩
theorem n0_27 : In code 27 (.lload_n 0) 1 28 := ⟨at_27, rfl⟩
theorem n0_28 : In code 28 (.lstore 10) 2 30 := ⟨at_28, rfl⟩
theorem n0_30 : Jm code 30 (.goto 49) 49 33 79 := ⟨at_30, rfl, by decide, by decide⟩
theorem n0_8 : In code 8 (.lload_n 0) 1 9 := ⟨at_8, rfl⟩
theorem n0_9 : Jm code 9 (.goto 4) 4 12 13 := ⟨at_9, rfl, by decide, by decide⟩
theorem pn_0 : plainFor (⟨"com/example/panoptes/panoptes/SearchIndexValidAtPinLaw", "law", "(JJJI)Z"⟩ : MethodName) = true := plainFor_of_name (by first | (simp [plainName, overriddenIn]; done) | decide +kernel)
theorem own_eqI {t : Term} {k : Int32} {args : Array Value} {s : State} (h : (Cond.eq t (.int k)).value args s none s [] = some true) : t.eval args s none [] s = some (.int k) := by
  obtain ⟨x, y, h1, h2, h3, -⟩ := cmp_v (Or.inl h)
  cases (Option.some.inj h2 : (Value.int k) = y)
  cases x <;> first | (have := gotT (Cond.eq_ints h1 h2) h; rw [h1, this]; done) | (simp [Kin, Value.isRef] at h3; done)
theorem own_eqL {t : Term} {k : Int64} {args : Array Value} {s : State} (h : (Cond.eq t (.long k)).value args s none s [] = some true) : t.eval args s none [] s = some (.long k) := by
  obtain ⟨x, y, h1, h2, h3, -⟩ := cmp_v (Or.inl h)
  cases (Option.some.inj h2 : (Value.long k) = y)
  cases x <;> first | (have := gotT (eq_L h1 h2) h; rw [h1, this]; done) | (simp [Kin, Value.isRef] at h3; done)
theorem own_eqR {a b : Term} {y : Addr} {args : Array Value} {s : State} (h : (Cond.eq a b).value args s none s [] = some true) (hb : b.eval args s none [] s = some (.ref y)) : a.eval args s none [] s = some (.ref y) := by
  obtain ⟨x, y', h1, h2, h3, h4⟩ := cmp_v (Or.inl h)
  cases h2.symm.trans hb
  have hx : x.isRef = true := h4.2
  have := gotT (eq_R h1 h2 hx rfl) h
  rw [h1, this]
theorem own_nar1 : nar .boolean 1 = 1 := rfl
theorem own_nar0 : nar .boolean 0 = 0 := rfl
def own_va (f u x : Int64) : Int32 := if x < f then 0 else if x < u then 1 else 0

set_option maxRecDepth 65536 in
set_option maxHeartbeats 4000000 in
theorem ef_rm0r (m : MethodId) (x0 : Addr) : entryFrame m #[(.ref x0)] 1 = mkF m 0 #[.val (.ref x0)] [] := by first | (simp [entryFrame, mkF, argsToLocals, Value.category]; done) | rfl
set_option maxRecDepth 65536 in
set_option maxHeartbeats 40000000 in
theorem rm0r (l : Launch) (Z : State) (a0 : Array Value) (hw : ∀ d ∈ tables_1, d.before a0 Z = true) (a1 : Addr) (h0 : Heap) : Con l Z (⟨"java/lang/Record", "<init>", "()V"⟩ : MethodName) jdk_30_method_1_code 1 none ({ frames := 1, cells := 0, slots := 0, locals := 12 } : Room) #[(.ref a1)] h0 (fun v h L => v = none ∧ h = h0 ∧ L = []) := by
  refine w_body (Ls := #[.val (.ref a1)]) pn_2 (fun m => ef_rm0r m a1) ?_
  intro p e s m below meth c T0 X0 hx hby hml hown hnm hret hlk hZ e0
  refine w_aloadN X0 hx hby n2_0 rfl rfl ?_
  refine w_initO X0 hx hby hZ hown (by rw [hml]; rfl) (Wd := 0) (hw _ t_11) (hw _ t_12) (hw _ t_13) e0 n2_1 (by decide) rfl (by decide) fun T1 X1 e1 => ?_
  refine w_retV X1 hx hby e1 hlk hret n2_4 (by decide) (by decide) ?_
  exact ⟨rfl, rfl, rfl⟩
set_option maxRecDepth 65536 in
set_option maxHeartbeats 4000000 in
theorem ef_rm1 (m : MethodId) (x0 : Addr) (x2 : Int32) (x3 : Int32) (x4 : Int64) (x5 : Int64) : entryFrame m #[(.ref x0), .null, (.int x2), (.int x3), (.long x4), (.long x5)] 8 = mkF m 0 #[.val (.ref x0), .val .null, .val (.int x2), .val (.int x3), .val (.long x4), .second, .val (.long x5), .second] [] := by first | (simp [entryFrame, mkF, argsToLocals, Value.category]; done) | rfl
set_option maxRecDepth 65536 in
set_option maxHeartbeats 40000000 in
theorem rm1 (l : Launch) (Z : State) (a0 : Array Value) (hw : ∀ d ∈ tables_1, d.before a0 Z = true) (a1 : Addr) (x2 : Int32) (x3 : Int32) (x4 : Int64) (x5 : Int64) (h0 : Heap) (n0 : Nat) (Z0 : n0 ≤ h0.size) (g1 : n0 ≤ a1) (E1 : Exa Z h0 a1 "com/example/panoptes/panoptes/SearchIndex$Version") (F_page : Fld Z h0 a1 "com/example/panoptes/panoptes/SearchIndex$Version" "page" "Lcom/example/panoptes/panoptes/Page;" .null) (F_index : Fld Z h0 a1 "com/example/panoptes/panoptes/SearchIndex$Version" "index" "I" (.int (0 : Int32))) (F_titlePlace : Fld Z h0 a1 "com/example/panoptes/panoptes/SearchIndex$Version" "titlePlace" "I" (.int (0 : Int32))) (F_validFrom : Fld Z h0 a1 "com/example/panoptes/panoptes/SearchIndex$Version" "validFrom" "J" (.long (0 : Int64))) (F_validUntil : Fld Z h0 a1 "com/example/panoptes/panoptes/SearchIndex$Version" "validUntil" "J" (.long (0 : Int64))) : Con l Z (⟨"com/example/panoptes/panoptes/SearchIndex$Version", "<init>", "(Lcom/example/panoptes/panoptes/Page;IIJJ)V"⟩ : MethodName) prog_23_method_2_code 8 none ({ frames := 2, cells := 0, slots := 0, locals := 24 } : Room) #[(.ref a1), .null, (.int x2), (.int x3), (.long x4), (.long x5)] h0 (fun v h L => v = none ∧ Fr n0 L ∧ Keep h0 h [a1] ∧ Exa Z h a1 "com/example/panoptes/panoptes/SearchIndex$Version" ∧ Fld Z h a1 "com/example/panoptes/panoptes/SearchIndex$Version" "page" "Lcom/example/panoptes/panoptes/Page;" .null ∧ Fld Z h a1 "com/example/panoptes/panoptes/SearchIndex$Version" "index" "I" (.int x2) ∧ Fld Z h a1 "com/example/panoptes/panoptes/SearchIndex$Version" "titlePlace" "I" (.int x3) ∧ Fld Z h a1 "com/example/panoptes/panoptes/SearchIndex$Version" "validFrom" "J" (.long x4) ∧ Fld Z h a1 "com/example/panoptes/panoptes/SearchIndex$Version" "validUntil" "J" (.long x5)) := by
  refine w_body (Ls := #[.val (.ref a1), .val .null, .val (.int x2), .val (.int x3), .val (.long x4), .second, .val (.long x5), .second]) pn_1 (fun m => ef_rm1 m a1 x2 x3 x4 x5) ?_
  intro p e s m below meth c T0 X0 hx hby hml hown hnm hret hlk hZ e0
  refine w_aloadN X0 hx hby n1_0 rfl rfl ?_
  refine w_called (call_N X0 hx hby hZ hown (argsL := []) (rest := []) (Wd := 0) (a := a1) rfl (hw _ t_6) (hw _ t_7) (hw _ t_9) (hw _ t_10) (by decide) (rm0r l Z a0 hw a1 h0) rfl n1_1 (by rw [hml]; rfl) (lenOf pd_1382 rfl) rfl (by decide) (by decide) (by decide) (by decide) e0) fun v1 T1 L1 X1 Q1 => ?_
  obtain ⟨rfl, hh1, rfl⟩ := Q1
  rw [List.append_nil] at X1
  show Wp p e below s _ _ _ T1 (mkF m 4 #[.val (.ref a1), .val .null, .val (.int x2), .val (.int x3), .val (.long x4), .second, .val (.long x5), .second] [])
  refine w_aloadN X1 hx hby n1_4 rfl rfl ?_
  refine w_aloadN X1 hx hby n1_5 rfl rfl ?_
  refine w_putFN X1 hx hby hZ hown (hw _ t_14) Via.refl hh1 F_page E1 (Or.inr ⟨(hw _ t_15), rfl, hnm⟩) (hw _ t_1) (ty := (.object "com/example/panoptes/panoptes/Page")) (by decide) rfl rfl n1_6 fun T2 h2 X2 e2 W2 => ?_
  have P2 := F_page.same W2
  have N2 := Fr.snoc X2 (Fr.nil n0) g1
  have z3 : h0.size ≤ h2.size := Nat.le_trans (Nat.le_refl h0.size) (Keep.of_wr W2).1
  have k3 : Keep h0 h2 [a1] := (Keep.refl h0 [a1]).wr W2 (Or.inl (List.mem_of_getElem? (i := 0) rfl))
  refine w_aloadN X2 hx hby n1_9 rfl rfl ?_
  refine w_iloadN X2 hx hby n1_10 rfl ?_
  have f4 := (F_index.other W2 (Or.inr (slot_ne (Or.inr (hw _ t_17)) (Or.inr (hw _ t_15)) (by decide) (t := .int) (t' := (.object "com/example/panoptes/panoptes/Page")) (by decide) (by decide))))
  have f5 := (E1.wr W2)
  refine w_putFN X2 hx hby hZ hown (hw _ t_16) Via.refl e2 f4 f5 (Or.inr ⟨(hw _ t_17), rfl, hnm⟩) (hw _ t_1) (ty := .int) (by decide) rfl rfl n1_11 fun T6 h6 X6 e6 W6 => ?_
  have P6 := f4.same W6
  have N6 := Fr.snoc X6 N2 g1
  have z7 : h0.size ≤ h6.size := Nat.le_trans z3 (Keep.of_wr W6).1
  have k7 : Keep h0 h6 [a1] := k3.wr W6 (Or.inl (List.mem_of_getElem? (i := 0) rfl))
  refine w_aloadN X6 hx hby n1_14 rfl rfl ?_
  refine w_iloadN X6 hx hby n1_15 rfl ?_
  have f8 := ((F_titlePlace.other W2 (Or.inr (slot_ne (Or.inr (hw _ t_19)) (Or.inr (hw _ t_15)) (by decide) (t := .int) (t' := (.object "com/example/panoptes/panoptes/Page")) (by decide) (by decide)))).other W6 (Or.inr (slot_ne (Or.inr (hw _ t_19)) (Or.inr (hw _ t_17)) (by decide) (t := .int) (t' := .int) (by decide) (by decide))))
  have f9 := (f5.wr W6)
  refine w_putFN X6 hx hby hZ hown (hw _ t_18) Via.refl e6 f8 f9 (Or.inr ⟨(hw _ t_19), rfl, hnm⟩) (hw _ t_1) (ty := .int) (by decide) rfl rfl n1_16 fun T10 h10 X10 e10 W10 => ?_
  have P10 := f8.same W10
  have N10 := Fr.snoc X10 N6 g1
  have z11 : h0.size ≤ h10.size := Nat.le_trans z7 (Keep.of_wr W10).1
  have k11 : Keep h0 h10 [a1] := k7.wr W10 (Or.inl (List.mem_of_getElem? (i := 0) rfl))
  refine w_aloadN X10 hx hby n1_19 rfl rfl ?_
  refine w_lload X10 hx hby n1_20 rfl ?_
  have f12 := (((F_validFrom.other W2 (Or.inr (slot_ne (Or.inr (hw _ t_21)) (Or.inr (hw _ t_15)) (by decide) (t := .long) (t' := (.object "com/example/panoptes/panoptes/Page")) (by decide) (by decide)))).other W6 (Or.inr (slot_ne (Or.inr (hw _ t_21)) (Or.inr (hw _ t_17)) (by decide) (t := .long) (t' := .int) (by decide) (by decide)))).other W10 (Or.inr (slot_ne (Or.inr (hw _ t_21)) (Or.inr (hw _ t_19)) (by decide) (t := .long) (t' := .int) (by decide) (by decide))))
  have f13 := (f9.wr W10)
  refine w_putFN X10 hx hby hZ hown (hw _ t_20) Via.refl e10 f12 f13 (Or.inr ⟨(hw _ t_21), rfl, hnm⟩) (hw _ t_1) (ty := .long) (by decide) rfl rfl n1_22 fun T14 h14 X14 e14 W14 => ?_
  have P14 := f12.same W14
  have N14 := Fr.snoc X14 N10 g1
  have z15 : h0.size ≤ h14.size := Nat.le_trans z11 (Keep.of_wr W14).1
  have k15 : Keep h0 h14 [a1] := k11.wr W14 (Or.inl (List.mem_of_getElem? (i := 0) rfl))
  refine w_aloadN X14 hx hby n1_25 rfl rfl ?_
  refine w_lload X14 hx hby n1_26 rfl ?_
  have f16 := ((((F_validUntil.other W2 (Or.inr (slot_ne (Or.inr (hw _ t_23)) (Or.inr (hw _ t_15)) (by decide) (t := .long) (t' := (.object "com/example/panoptes/panoptes/Page")) (by decide) (by decide)))).other W6 (Or.inr (slot_ne (Or.inr (hw _ t_23)) (Or.inr (hw _ t_17)) (by decide) (t := .long) (t' := .int) (by decide) (by decide)))).other W10 (Or.inr (slot_ne (Or.inr (hw _ t_23)) (Or.inr (hw _ t_19)) (by decide) (t := .long) (t' := .int) (by decide) (by decide)))).other W14 (Or.inr (slot_ne (Or.inr (hw _ t_23)) (Or.inr (hw _ t_21)) (by decide) (t := .long) (t' := .long) (by decide) (by decide))))
  have f17 := (f13.wr W14)
  refine w_putFN X14 hx hby hZ hown (hw _ t_22) Via.refl e14 f16 f17 (Or.inr ⟨(hw _ t_23), rfl, hnm⟩) (hw _ t_1) (ty := .long) (by decide) rfl rfl n1_28 fun T18 h18 X18 e18 W18 => ?_
  have P18 := f16.same W18
  have N18 := Fr.snoc X18 N14 g1
  have z19 : h0.size ≤ h18.size := Nat.le_trans z15 (Keep.of_wr W18).1
  have k19 : Keep h0 h18 [a1] := k15.wr W18 (Or.inl (List.mem_of_getElem? (i := 0) rfl))
  refine w_retV X18 hx hby e18 hlk hret n1_31 (by decide) (by decide) ?_
  have f20 := (f17.wr W18)
  have f21 := ((((P2.other W6 (Or.inr (slot_ne (Or.inr (hw _ t_15)) (Or.inr (hw _ t_17)) (by decide) (t := (.object "com/example/panoptes/panoptes/Page")) (t' := .int) (by decide) (by decide)))).other W10 (Or.inr (slot_ne (Or.inr (hw _ t_15)) (Or.inr (hw _ t_19)) (by decide) (t := (.object "com/example/panoptes/panoptes/Page")) (t' := .int) (by decide) (by decide)))).other W14 (Or.inr (slot_ne (Or.inr (hw _ t_15)) (Or.inr (hw _ t_21)) (by decide) (t := (.object "com/example/panoptes/panoptes/Page")) (t' := .long) (by decide) (by decide)))).other W18 (Or.inr (slot_ne (Or.inr (hw _ t_15)) (Or.inr (hw _ t_23)) (by decide) (t := (.object "com/example/panoptes/panoptes/Page")) (t' := .long) (by decide) (by decide))))
  have f22 := (((P6.other W10 (Or.inr (slot_ne (Or.inr (hw _ t_17)) (Or.inr (hw _ t_19)) (by decide) (t := .int) (t' := .int) (by decide) (by decide)))).other W14 (Or.inr (slot_ne (Or.inr (hw _ t_17)) (Or.inr (hw _ t_21)) (by decide) (t := .int) (t' := .long) (by decide) (by decide)))).other W18 (Or.inr (slot_ne (Or.inr (hw _ t_17)) (Or.inr (hw _ t_23)) (by decide) (t := .int) (t' := .long) (by decide) (by decide))))
  have f23 := ((P10.other W14 (Or.inr (slot_ne (Or.inr (hw _ t_19)) (Or.inr (hw _ t_21)) (by decide) (t := .int) (t' := .long) (by decide) (by decide)))).other W18 (Or.inr (slot_ne (Or.inr (hw _ t_19)) (Or.inr (hw _ t_23)) (by decide) (t := .int) (t' := .long) (by decide) (by decide))))
  have f24 := (P14.other W18 (Or.inr (slot_ne (Or.inr (hw _ t_21)) (Or.inr (hw _ t_23)) (by decide) (t := .long) (t' := .long) (by decide) (by decide))))
  exact ⟨rfl, N18, k19, f20, f21, f22, f23, f24, P18⟩
set_option maxRecDepth 65536 in
set_option maxHeartbeats 4000000 in
theorem ef_rm2 (m : MethodId) (x0 : Addr) (x1 : Int64) : entryFrame m #[(.ref x0), (.long x1)] 3 = mkF m 0 #[.val (.ref x0), .val (.long x1), .second] [] := by first | (simp [entryFrame, mkF, argsToLocals, Value.category]; done) | rfl
set_option maxRecDepth 65536 in
set_option maxHeartbeats 40000000 in
theorem rm2 (l : Launch) (Z : State) (a0 : Array Value) (hw : ∀ d ∈ tables_1, d.before a0 Z = true) (a1 : Addr) (x1 u1 u2 : Int64) (h0 : Heap) (F1 : Fld Z h0 a1 "com/example/panoptes/panoptes/SearchIndex$Version" "validFrom" "J" (.long u1)) (F2 : Fld Z h0 a1 "com/example/panoptes/panoptes/SearchIndex$Version" "validUntil" "J" (.long u2)) : Con l Z (⟨"com/example/panoptes/panoptes/SearchIndex$Version", "validAt", "(J)Z"⟩ : MethodName) prog_23_method_4_code 3 (some .boolean) ({ frames := 0, cells := 0, slots := 0, locals := 0 } : Room) #[(.ref a1), (.long x1)] h0 (fun v h L => v = some (.int (own_va u1 u2 x1)) ∧ h = h0 ∧ L = []) := by
  refine w_body (Ls := #[.val (.ref a1), .val (.long x1), .second]) pn_4 (fun m => ef_rm2 m a1 x1) ?_
  intro p e s m below meth c T0 X0 hx hby hml hown hnm hret hlk hZ e0
  refine w_aloadN X0 hx hby n4_0 rfl rfl ?_
  refine w_getF X0 hx hby hZ hown (host := "") (Or.inl (hw _ t_20)) Via.refl e0 F1 n4_1 fun T1 X1 e1 => ?_
  refine w_lloadN X1 hx hby n4_4 rfl ?_
  refine f_lcmp_gt X1 hx hby n4_5 n4_6 (fun q5 => ?_) (fun q5 => ?_)
  · refine w_iconst X1 hx hby (0 : Int32) n4_22 rfl ?_
    refine w_retN X1 hx hby e1 hlk hret (by simp) n4_23 (by decide) (by decide) ?_
    exact ⟨congrArg (fun q => some (Value.int q)) (by first | (unfold own_va; rw [if_pos q5] <;> rfl) | simp [own_va, own_nar1, own_nar0, q5]), rfl, rfl⟩
  · refine w_lloadN X1 hx hby n4_9 rfl ?_
    refine w_aloadN X1 hx hby n4_10 rfl rfl ?_
    refine w_getF X1 hx hby hZ hown (host := "") (Or.inl (hw _ t_22)) Via.refl e1 F2 n4_11 fun T2 X2 e2 => ?_
    refine f_lcmp_ge X2 hx hby n4_14 n4_15 (fun q14 => ?_) (fun q14 => ?_)
    · refine w_iconst X2 hx hby (0 : Int32) n4_22 rfl ?_
      refine w_retN X2 hx hby e2 hlk hret (by simp) n4_23 (by decide) (by decide) ?_
      exact ⟨congrArg (fun q => some (Value.int q)) (by first | (unfold own_va; rw [if_neg q5, if_neg q14] <;> rfl) | simp [own_va, own_nar1, own_nar0, q5, q14]), rfl, rfl⟩
    · refine w_iconst X2 hx hby (1 : Int32) n4_18 rfl ?_
      refine w_goto X2 hx hby n4_19 ?_
      refine w_retN X2 hx hby e2 hlk hret (by simp) n4_23 (by decide) (by decide) ?_
      exact ⟨congrArg (fun q => some (Value.int q)) (by first | (unfold own_va; rw [if_neg q5, if_pos q14] <;> rfl) | simp [own_va, own_nar1, own_nar0, q5, q14]), rfl, rfl⟩
set_option maxRecDepth 65536 in
set_option maxHeartbeats 40000000 in
theorem tail79 (l : Launch) (Z : State) (a0 : Array Value) (hw : ∀ d ∈ tables_1, d.before a0 Z = true) (f t2 t3 u x : Int64) (t4 md : Int32) (h0 : Heap) {p : Program} {e : Env} {s : State} {m : MethodId} {args : Array Value} {below : List Frame} {meth : Method} {c : Code} {T0 : State} (X0 : Stand p l e room_1 s m args below meth c T0 [] 0 0) (hx : p.tables.exec = Jvm.exec) (hby : c.code = code) (hml : c.maxLocals = 16) (hown : s.vm.findClass "com/example/panoptes/panoptes/SearchIndexValidAtPinLaw" = some m.cls) (hret : meth.sig.returnType = ret) (hlk : meth.locks = false) (hZ : Z.Warmed39 s.vm) (e0 : T0.heap = h0) (H0 : md = 0 → x = f) (H1 : md = 1 → x = f - 1) (H2 : md = 2 → x = u) : Wp p e below s room_1.cells room_1.slots (fun v h L => v = some (.int 1) ∧ Fr h0.size L) T0 (mkF m 79 #[.val (.long f), .second, .val (.long t2), .second, .val (.long t3), .second, .val (.int t4), .val (.long u), .second, .val (.int md), .val (.long x), .second, .unset, .unset, .unset, .unset] []) := by
  refine w_newO X0 hx hby hZ hown (hw _ t_0) (hw _ t_1) (hw _ t_2) e0 n0_79 (by decide) (by decide) fun T1 h1 b1 g1 X1 e1 E1 A1 D1 => ?_
  have old_b1 : h0.size ≤ b1 := Nat.le_trans (Nat.le_refl h0.size) (Nat.le_of_eq g1.symm)
  have z2 : h0.size ≤ h1.size := Nat.le_trans (Nat.le_refl h0.size) E1.1
  have F1_page : Fld Z h1 b1 "com/example/panoptes/panoptes/SearchIndex$Version" "page" "Lcom/example/panoptes/panoptes/Page;" .null := D1 (Or.inr (hw _ t_15)) (ty := (.object "com/example/panoptes/panoptes/Page")) (by decide)
  have F1_index : Fld Z h1 b1 "com/example/panoptes/panoptes/SearchIndex$Version" "index" "I" (.int (0 : Int32)) := D1 (Or.inr (hw _ t_17)) (ty := .int) (by decide)
  have F1_titlePlace : Fld Z h1 b1 "com/example/panoptes/panoptes/SearchIndex$Version" "titlePlace" "I" (.int (0 : Int32)) := D1 (Or.inr (hw _ t_19)) (ty := .int) (by decide)
  have F1_validFrom : Fld Z h1 b1 "com/example/panoptes/panoptes/SearchIndex$Version" "validFrom" "J" (.long (0 : Int64)) := D1 (Or.inr (hw _ t_21)) (ty := .long) (by decide)
  have F1_validUntil : Fld Z h1 b1 "com/example/panoptes/panoptes/SearchIndex$Version" "validUntil" "J" (.long (0 : Int64)) := D1 (Or.inr (hw _ t_23)) (ty := .long) (by decide)
  refine w_dup X1 hx hby n0_82 rfl ?_
  refine w_aconst_null X1 hx hby n0_83 ?_
  refine w_iconst X1 hx hby (0 : Int32) n0_84 rfl ?_
  refine w_iconst X1 hx hby (0 : Int32) n0_85 rfl ?_
  refine w_lloadN X1 hx hby n0_86 rfl ?_
  refine w_lload X1 hx hby n0_87 rfl ?_
  refine w_called (call_N X1 hx hby hZ hown (argsL := [.null, (.int (0 : Int32)), (.int (0 : Int32)), (.long f), (.long u)]) (rest := [(.ref b1)]) (Wd := 1) (a := b1) rfl (hw _ t_3) (hw _ t_4) (hw _ t_2) (hw _ t_5) (by decide) (rm1 l Z a0 hw b1 (0 : Int32) (0 : Int32) f u h1 h0.size z2 old_b1 A1 F1_page F1_index F1_titlePlace F1_validFrom F1_validUntil) rfl n0_89 (by rw [hml]; rfl) (lenOf pd_109015 rfl) rfl (by decide) (by decide) (by decide) (by decide) e1) fun v3 T3 L3 X3 Q3 => ?_
  obtain ⟨rfl, n3, k3, ea3, c3_page, c3_index, c3_titlePlace, c3_validFrom, c3_validUntil⟩ := Q3
  have N3 := Fr.app (Fr.nil h0.size) n3
  have z4 : h0.size ≤ T3.heap.size := Nat.le_trans z2 k3.1
  show Wp p e below s _ _ _ T3 (mkF m 92 #[.val (.long f), .second, .val (.long t2), .second, .val (.long t3), .second, .val (.int t4), .val (.long u), .second, .val (.int md), .val (.long x), .second, .unset, .unset, .unset, .unset] [(.ref b1)])
  refine w_astore X3 hx hby #[.val (.long f), .second, .val (.long t2), .second, .val (.long t3), .second, .val (.int t4), .val (.long u), .second, .val (.int md), .val (.long x), .second, .val (.ref b1), .unset, .unset, .unset] n0_92 rfl rfl ?_
  refine w_aload X3 hx hby n0_94 rfl rfl ?_
  refine w_lload X3 hx hby n0_96 rfl ?_
  by_cases q98 : x < f
  · have hv : own_va f u x = 0 := by simp [own_va, q98]
    refine w_calledp (call_V X3 hx hby hZ hown (argsL := [(.long x)]) (rest := []) (Wd := 0) (a := b1) (hw _ t_24) (hw _ t_25) (hw _ t_27) (hw _ t_26) (hw _ t_2) (hw _ t_28) (by decide) ea3 (show Con l Z _ _ _ _ _ _ _ (fun v h L => v = some (.int (0 : Int32)) ∧ h = T3.heap ∧ L = []) from hv ▸ rm2 l Z a0 hw b1 x f u T3.heap c3_validFrom c3_validUntil) rfl n0_98 (by rw [hml]; rfl) (lenOf pd_2141 rfl) rfl (by decide) (by decide) (by decide) (by decide) rfl) rfl rfl fun T5 X5 e5 => ?_
    refine w_istore X5 hx hby #[.val (.long f), .second, .val (.long t2), .second, .val (.long t3), .second, .val (.int t4), .val (.long u), .second, .val (.int md), .val (.long x), .second, .val (.ref b1), .val (.int (0 : Int32)), .unset, .unset] n0_101 rfl ?_
    refine w_lload X5 hx hby n0_103 rfl ?_
    refine w_lloadN X5 hx hby n0_105 rfl ?_
    refine f_lcmp_ge X5 hx hby n0_106 n0_107 (fun q106 => by exact absurd q98 q106) (fun q106 => ?_)
    refine w_iconst X5 hx hby (0 : Int32) n0_110 rfl ?_
    refine w_istore X5 hx hby #[.val (.long f), .second, .val (.long t2), .second, .val (.long t3), .second, .val (.int t4), .val (.long u), .second, .val (.int md), .val (.long x), .second, .val (.ref b1), .val (.int (0 : Int32)), .val (.int (0 : Int32)), .unset] n0_111 rfl ?_
    refine w_goto X5 hx hby n0_113 ?_
    refine w_iconst X5 hx hby (1 : Int32) n0_133 rfl ?_
    refine w_istore X5 hx hby #[.val (.long f), .second, .val (.long t2), .second, .val (.long t3), .second, .val (.int t4), .val (.long u), .second, .val (.int md), .val (.long x), .second, .val (.ref b1), .val (.int (0 : Int32)), .val (.int (0 : Int32)), .val (.int (1 : Int32))] n0_134 rfl ?_
    refine w_iload X5 hx hby n0_136 rfl ?_
    refine f_if_ne X5 hx hby n0_138 (fun q138 => ?_) (fun q138 => ?_)
    · refine w_iload X5 hx hby n0_161 rfl ?_
      refine w_iconst X5 hx hby (2 : Int32) n0_163 rfl ?_
      refine f_icmp_ne X5 hx hby n0_164 (fun q164 => ?_) (fun q164 => ?_)
      · refine w_iload X5 hx hby n0_175 rfl ?_
        refine w_iconst X5 hx hby (1 : Int32) n0_177 rfl ?_
        refine f_icmp_ne X5 hx hby n0_178 (fun q178 => ?_) (fun q178 => ?_)
        · refine w_lloadN X5 hx hby n0_197 rfl ?_
          refine w_lload X5 hx hby n0_198 rfl ?_
          refine f_lcmp_ne X5 hx hby n0_200 n0_201 (fun q200 => ?_) (fun q200 => ?_)
          · refine w_iload X5 hx hby n0_212 rfl ?_
            refine w_iload X5 hx hby n0_214 rfl ?_
            refine f_icmp_ne X5 hx hby n0_216 (fun q216 => by exact absurd q216 (by decide)) (fun q216 => ?_)
            refine w_iload X5 hx hby n0_219 rfl ?_
            refine f_if_eq X5 hx hby n0_221 (fun q221 => by exact absurd q221 (by decide)) (fun q221 => ?_)
            refine w_iconst X5 hx hby (1 : Int32) n0_224 rfl ?_
            refine w_goto X5 hx hby n0_225 ?_
            refine w_retN X5 hx hby e5 hlk hret (by simp) n0_229 (by decide) (by decide) ?_
            exact ⟨rfl, N3⟩
          · refine w_iload X5 hx hby n0_204 rfl ?_
            refine f_if_eq X5 hx hby n0_206 (fun q206 => ?_) (fun q206 => by exact absurd q206 (by decide))
            refine w_iload X5 hx hby n0_212 rfl ?_
            refine w_iload X5 hx hby n0_214 rfl ?_
            refine f_icmp_ne X5 hx hby n0_216 (fun q216 => by exact absurd q216 (by decide)) (fun q216 => ?_)
            refine w_iload X5 hx hby n0_219 rfl ?_
            refine f_if_eq X5 hx hby n0_221 (fun q221 => by exact absurd q221 (by decide)) (fun q221 => ?_)
            refine w_iconst X5 hx hby (1 : Int32) n0_224 rfl ?_
            refine w_goto X5 hx hby n0_225 ?_
            refine w_retN X5 hx hby e5 hlk hret (by simp) n0_229 (by decide) (by decide) ?_
            exact ⟨rfl, N3⟩
        · refine w_lloadN X5 hx hby n0_181 rfl ?_
          refine w_ldc2J X5 hx hby hZ hown (hw _ t_29) n0_182 ?_
          refine f_lcmp_eq X5 hx hby n0_185 n0_186 (fun q185 => ?_) (fun q185 => ?_)
          · refine w_lloadN X5 hx hby n0_197 rfl ?_
            refine w_lload X5 hx hby n0_198 rfl ?_
            refine f_lcmp_ne X5 hx hby n0_200 n0_201 (fun q200 => ?_) (fun q200 => ?_)
            · refine w_iload X5 hx hby n0_212 rfl ?_
              refine w_iload X5 hx hby n0_214 rfl ?_
              refine f_icmp_ne X5 hx hby n0_216 (fun q216 => by exact absurd q216 (by decide)) (fun q216 => ?_)
              refine w_iload X5 hx hby n0_219 rfl ?_
              refine f_if_eq X5 hx hby n0_221 (fun q221 => by exact absurd q221 (by decide)) (fun q221 => ?_)
              refine w_iconst X5 hx hby (1 : Int32) n0_224 rfl ?_
              refine w_goto X5 hx hby n0_225 ?_
              refine w_retN X5 hx hby e5 hlk hret (by simp) n0_229 (by decide) (by decide) ?_
              exact ⟨rfl, N3⟩
            · refine w_iload X5 hx hby n0_204 rfl ?_
              refine f_if_eq X5 hx hby n0_206 (fun q206 => ?_) (fun q206 => by exact absurd q206 (by decide))
              refine w_iload X5 hx hby n0_212 rfl ?_
              refine w_iload X5 hx hby n0_214 rfl ?_
              refine f_icmp_ne X5 hx hby n0_216 (fun q216 => by exact absurd q216 (by decide)) (fun q216 => ?_)
              refine w_iload X5 hx hby n0_219 rfl ?_
              refine f_if_eq X5 hx hby n0_221 (fun q221 => by exact absurd q221 (by decide)) (fun q221 => ?_)
              refine w_iconst X5 hx hby (1 : Int32) n0_224 rfl ?_
              refine w_goto X5 hx hby n0_225 ?_
              refine w_retN X5 hx hby e5 hlk hret (by simp) n0_229 (by decide) (by decide) ?_
              exact ⟨rfl, N3⟩
          · refine w_iload X5 hx hby n0_189 rfl ?_
            refine f_if_eq X5 hx hby n0_191 (fun q191 => ?_) (fun q191 => by exact absurd q191 (by decide))
            refine w_lloadN X5 hx hby n0_197 rfl ?_
            refine w_lload X5 hx hby n0_198 rfl ?_
            refine f_lcmp_ne X5 hx hby n0_200 n0_201 (fun q200 => ?_) (fun q200 => ?_)
            · refine w_iload X5 hx hby n0_212 rfl ?_
              refine w_iload X5 hx hby n0_214 rfl ?_
              refine f_icmp_ne X5 hx hby n0_216 (fun q216 => by exact absurd q216 (by decide)) (fun q216 => ?_)
              refine w_iload X5 hx hby n0_219 rfl ?_
              refine f_if_eq X5 hx hby n0_221 (fun q221 => by exact absurd q221 (by decide)) (fun q221 => ?_)
              refine w_iconst X5 hx hby (1 : Int32) n0_224 rfl ?_
              refine w_goto X5 hx hby n0_225 ?_
              refine w_retN X5 hx hby e5 hlk hret (by simp) n0_229 (by decide) (by decide) ?_
              exact ⟨rfl, N3⟩
            · refine w_iload X5 hx hby n0_204 rfl ?_
              refine f_if_eq X5 hx hby n0_206 (fun q206 => ?_) (fun q206 => by exact absurd q206 (by decide))
              refine w_iload X5 hx hby n0_212 rfl ?_
              refine w_iload X5 hx hby n0_214 rfl ?_
              refine f_icmp_ne X5 hx hby n0_216 (fun q216 => by exact absurd q216 (by decide)) (fun q216 => ?_)
              refine w_iload X5 hx hby n0_219 rfl ?_
              refine f_if_eq X5 hx hby n0_221 (fun q221 => by exact absurd q221 (by decide)) (fun q221 => ?_)
              refine w_iconst X5 hx hby (1 : Int32) n0_224 rfl ?_
              refine w_goto X5 hx hby n0_225 ?_
              refine w_retN X5 hx hby e5 hlk hret (by simp) n0_229 (by decide) (by decide) ?_
              exact ⟨rfl, N3⟩
      · refine w_iload X5 hx hby n0_167 rfl ?_
        refine f_if_eq X5 hx hby n0_169 (fun q169 => ?_) (fun q169 => by exact absurd q169 (by decide))
        refine w_iload X5 hx hby n0_175 rfl ?_
        refine w_iconst X5 hx hby (1 : Int32) n0_177 rfl ?_
        refine f_icmp_ne X5 hx hby n0_178 (fun q178 => ?_) (fun q178 => by exact absurd (q164.symm.trans q178) (by decide))
        refine w_lloadN X5 hx hby n0_197 rfl ?_
        refine w_lload X5 hx hby n0_198 rfl ?_
        refine f_lcmp_ne X5 hx hby n0_200 n0_201 (fun q200 => ?_) (fun q200 => ?_)
        · refine w_iload X5 hx hby n0_212 rfl ?_
          refine w_iload X5 hx hby n0_214 rfl ?_
          refine f_icmp_ne X5 hx hby n0_216 (fun q216 => by exact absurd q216 (by decide)) (fun q216 => ?_)
          refine w_iload X5 hx hby n0_219 rfl ?_
          refine f_if_eq X5 hx hby n0_221 (fun q221 => by exact absurd q221 (by decide)) (fun q221 => ?_)
          refine w_iconst X5 hx hby (1 : Int32) n0_224 rfl ?_
          refine w_goto X5 hx hby n0_225 ?_
          refine w_retN X5 hx hby e5 hlk hret (by simp) n0_229 (by decide) (by decide) ?_
          exact ⟨rfl, N3⟩
        · refine w_iload X5 hx hby n0_204 rfl ?_
          refine f_if_eq X5 hx hby n0_206 (fun q206 => ?_) (fun q206 => by exact absurd q206 (by decide))
          refine w_iload X5 hx hby n0_212 rfl ?_
          refine w_iload X5 hx hby n0_214 rfl ?_
          refine f_icmp_ne X5 hx hby n0_216 (fun q216 => by exact absurd q216 (by decide)) (fun q216 => ?_)
          refine w_iload X5 hx hby n0_219 rfl ?_
          refine f_if_eq X5 hx hby n0_221 (fun q221 => by exact absurd q221 (by decide)) (fun q221 => ?_)
          refine w_iconst X5 hx hby (1 : Int32) n0_224 rfl ?_
          refine w_goto X5 hx hby n0_225 ?_
          refine w_retN X5 hx hby e5 hlk hret (by simp) n0_229 (by decide) (by decide) ?_
          exact ⟨rfl, N3⟩
    · refine w_iload X5 hx hby n0_141 rfl ?_
      refine w_lloadN X5 hx hby n0_143 rfl ?_
      refine w_lload X5 hx hby n0_144 rfl ?_
      refine f_lcmp_ge X5 hx hby n0_146 n0_147 (fun q146 => ?_) (fun q146 => ?_)
      · refine w_iconst X5 hx hby (0 : Int32) n0_154 rfl ?_
        refine f_icmp_eq X5 hx hby n0_155 (fun q155 => ?_) (fun q155 => by exact absurd q155 (by decide))
        refine w_iload X5 hx hby n0_161 rfl ?_
        refine w_iconst X5 hx hby (2 : Int32) n0_163 rfl ?_
        refine f_icmp_ne X5 hx hby n0_164 (fun q164 => ?_) (fun q164 => by exact absurd (q138.symm.trans q164) (by decide))
        refine w_iload X5 hx hby n0_175 rfl ?_
        refine w_iconst X5 hx hby (1 : Int32) n0_177 rfl ?_
        refine f_icmp_ne X5 hx hby n0_178 (fun q178 => ?_) (fun q178 => by exact absurd (q138.symm.trans q178) (by decide))
        refine w_lloadN X5 hx hby n0_197 rfl ?_
        refine w_lload X5 hx hby n0_198 rfl ?_
        refine f_lcmp_ne X5 hx hby n0_200 n0_201 (fun q200 => ?_) (fun q200 => ?_)
        · refine w_iload X5 hx hby n0_212 rfl ?_
          refine w_iload X5 hx hby n0_214 rfl ?_
          refine f_icmp_ne X5 hx hby n0_216 (fun q216 => by exact absurd q216 (by decide)) (fun q216 => ?_)
          refine w_iload X5 hx hby n0_219 rfl ?_
          refine f_if_eq X5 hx hby n0_221 (fun q221 => by exact absurd q221 (by decide)) (fun q221 => ?_)
          refine w_iconst X5 hx hby (1 : Int32) n0_224 rfl ?_
          refine w_goto X5 hx hby n0_225 ?_
          refine w_retN X5 hx hby e5 hlk hret (by simp) n0_229 (by decide) (by decide) ?_
          exact ⟨rfl, N3⟩
        · refine w_iload X5 hx hby n0_204 rfl ?_
          refine f_if_eq X5 hx hby n0_206 (fun q206 => ?_) (fun q206 => by exact absurd q206 (by decide))
          refine w_iload X5 hx hby n0_212 rfl ?_
          refine w_iload X5 hx hby n0_214 rfl ?_
          refine f_icmp_ne X5 hx hby n0_216 (fun q216 => by exact absurd q216 (by decide)) (fun q216 => ?_)
          refine w_iload X5 hx hby n0_219 rfl ?_
          refine f_if_eq X5 hx hby n0_221 (fun q221 => by exact absurd q221 (by decide)) (fun q221 => ?_)
          refine w_iconst X5 hx hby (1 : Int32) n0_224 rfl ?_
          refine w_goto X5 hx hby n0_225 ?_
          refine w_retN X5 hx hby e5 hlk hret (by simp) n0_229 (by decide) (by decide) ?_
          exact ⟨rfl, N3⟩
      · refine w_iconst X5 hx hby (1 : Int32) n0_150 rfl ?_
        refine w_goto X5 hx hby n0_151 ?_
        refine f_icmp_eq X5 hx hby n0_155 (fun q155 => by exact absurd q155 (by decide)) (fun q155 => ?_)
        refine w_iconst X5 hx hby (0 : Int32) n0_158 rfl ?_
        refine w_istore X5 hx hby #[.val (.long f), .second, .val (.long t2), .second, .val (.long t3), .second, .val (.int t4), .val (.long u), .second, .val (.int md), .val (.long x), .second, .val (.ref b1), .val (.int (0 : Int32)), .val (.int (0 : Int32)), .val (.int (0 : Int32))] n0_159 rfl ?_
        refine w_iload X5 hx hby n0_161 rfl ?_
        refine w_iconst X5 hx hby (2 : Int32) n0_163 rfl ?_
        refine f_icmp_ne X5 hx hby n0_164 (fun q164 => ?_) (fun q164 => by exact absurd (q138.symm.trans q164) (by decide))
        refine w_iload X5 hx hby n0_175 rfl ?_
        refine w_iconst X5 hx hby (1 : Int32) n0_177 rfl ?_
        refine f_icmp_ne X5 hx hby n0_178 (fun q178 => ?_) (fun q178 => by exact absurd (q138.symm.trans q178) (by decide))
        refine w_lloadN X5 hx hby n0_197 rfl ?_
        refine w_lload X5 hx hby n0_198 rfl ?_
        refine f_lcmp_ne X5 hx hby n0_200 n0_201 (fun q200 => ?_) (fun q200 => ?_)
        · refine w_iload X5 hx hby n0_212 rfl ?_
          refine w_iload X5 hx hby n0_214 rfl ?_
          refine f_icmp_ne X5 hx hby n0_216 (fun q216 => by exact absurd q216 (by decide)) (fun q216 => ?_)
          refine w_iload X5 hx hby n0_219 rfl ?_
          refine f_if_eq X5 hx hby n0_221 (fun q221 => ?_) (fun q221 => by exact absurd q221 (by decide))
          refine w_iconst X5 hx hby (0 : Int32) n0_228 rfl ?_
          refine w_retN X5 hx hby e5 hlk hret (by simp) n0_229 (by decide) (by decide) ?_
          exfalso
          have i0 := H0 q138; have i0 := congrArg Int64.toInt i0
          have e1 := c_lsub f 1; have e2 := rng64 (f - 1); have e3 := rng64 f; have e6 := rng64 u; have e7 := rng64 x; have e4 : (1 : Int64).toInt = 1 := (by decide); have e5 : (-9223372036854775808 : Int64).toInt = -9223372036854775808 := by decide
          simp only [Int64.lt_iff_toInt_lt, ← Int64.toInt_inj] at q98 q106 q146 q200
          omega
        · refine w_iload X5 hx hby n0_204 rfl ?_
          refine f_if_eq X5 hx hby n0_206 (fun q206 => ?_) (fun q206 => by exact absurd q206 (by decide))
          refine w_iload X5 hx hby n0_212 rfl ?_
          refine w_iload X5 hx hby n0_214 rfl ?_
          refine f_icmp_ne X5 hx hby n0_216 (fun q216 => by exact absurd q216 (by decide)) (fun q216 => ?_)
          refine w_iload X5 hx hby n0_219 rfl ?_
          refine f_if_eq X5 hx hby n0_221 (fun q221 => ?_) (fun q221 => by exact absurd q221 (by decide))
          refine w_iconst X5 hx hby (0 : Int32) n0_228 rfl ?_
          refine w_retN X5 hx hby e5 hlk hret (by simp) n0_229 (by decide) (by decide) ?_
          exfalso
          have i0 := H0 q138; have i0 := congrArg Int64.toInt i0
          have e1 := c_lsub f 1; have e2 := rng64 (f - 1); have e3 := rng64 f; have e6 := rng64 u; have e7 := rng64 x; have e4 : (1 : Int64).toInt = 1 := (by decide); have e5 : (-9223372036854775808 : Int64).toInt = -9223372036854775808 := by decide
          simp only [Int64.lt_iff_toInt_lt, ← Int64.toInt_inj] at q98 q106 q146 q200
          omega
  · by_cases q98b : x < u
    · have hv : own_va f u x = 1 := by simp [own_va, q98, q98b]
      refine w_calledp (call_V X3 hx hby hZ hown (argsL := [(.long x)]) (rest := []) (Wd := 0) (a := b1) (hw _ t_24) (hw _ t_25) (hw _ t_27) (hw _ t_26) (hw _ t_2) (hw _ t_28) (by decide) ea3 (show Con l Z _ _ _ _ _ _ _ (fun v h L => v = some (.int (1 : Int32)) ∧ h = T3.heap ∧ L = []) from hv ▸ rm2 l Z a0 hw b1 x f u T3.heap c3_validFrom c3_validUntil) rfl n0_98 (by rw [hml]; rfl) (lenOf pd_2141 rfl) rfl (by decide) (by decide) (by decide) (by decide) rfl) rfl rfl fun T6 X6 e6 => ?_
      refine w_istore X6 hx hby #[.val (.long f), .second, .val (.long t2), .second, .val (.long t3), .second, .val (.int t4), .val (.long u), .second, .val (.int md), .val (.long x), .second, .val (.ref b1), .val (.int (1 : Int32)), .unset, .unset] n0_101 rfl ?_
      refine w_lload X6 hx hby n0_103 rfl ?_
      refine w_lloadN X6 hx hby n0_105 rfl ?_
      refine f_lcmp_ge X6 hx hby n0_106 n0_107 (fun q106 => ?_) (fun q106 => by exact absurd q106 q98)
      refine w_lload X6 hx hby n0_116 rfl ?_
      refine w_lload X6 hx hby n0_118 rfl ?_
      refine f_lcmp_lt X6 hx hby n0_120 n0_121 (fun q120 => ?_) (fun q120 => by exact absurd q98b q120)
      refine w_iconst X6 hx hby (1 : Int32) n0_130 rfl ?_
      refine w_istore X6 hx hby #[.val (.long f), .second, .val (.long t2), .second, .val (.long t3), .second, .val (.int t4), .val (.long u), .second, .val (.int md), .val (.long x), .second, .val (.ref b1), .val (.int (1 : Int32)), .val (.int (1 : Int32)), .unset] n0_131 rfl ?_
      refine w_iconst X6 hx hby (1 : Int32) n0_133 rfl ?_
      refine w_istore X6 hx hby #[.val (.long f), .second, .val (.long t2), .second, .val (.long t3), .second, .val (.int t4), .val (.long u), .second, .val (.int md), .val (.long x), .second, .val (.ref b1), .val (.int (1 : Int32)), .val (.int (1 : Int32)), .val (.int (1 : Int32))] n0_134 rfl ?_
      refine w_iload X6 hx hby n0_136 rfl ?_
      refine f_if_ne X6 hx hby n0_138 (fun q138 => ?_) (fun q138 => ?_)
      · refine w_iload X6 hx hby n0_161 rfl ?_
        refine w_iconst X6 hx hby (2 : Int32) n0_163 rfl ?_
        refine f_icmp_ne X6 hx hby n0_164 (fun q164 => ?_) (fun q164 => ?_)
        · refine w_iload X6 hx hby n0_175 rfl ?_
          refine w_iconst X6 hx hby (1 : Int32) n0_177 rfl ?_
          refine f_icmp_ne X6 hx hby n0_178 (fun q178 => ?_) (fun q178 => ?_)
          · refine w_lloadN X6 hx hby n0_197 rfl ?_
            refine w_lload X6 hx hby n0_198 rfl ?_
            refine f_lcmp_ne X6 hx hby n0_200 n0_201 (fun q200 => ?_) (fun q200 => ?_)
            · refine w_iload X6 hx hby n0_212 rfl ?_
              refine w_iload X6 hx hby n0_214 rfl ?_
              refine f_icmp_ne X6 hx hby n0_216 (fun q216 => by exact absurd q216 (by decide)) (fun q216 => ?_)
              refine w_iload X6 hx hby n0_219 rfl ?_
              refine f_if_eq X6 hx hby n0_221 (fun q221 => by exact absurd q221 (by decide)) (fun q221 => ?_)
              refine w_iconst X6 hx hby (1 : Int32) n0_224 rfl ?_
              refine w_goto X6 hx hby n0_225 ?_
              refine w_retN X6 hx hby e6 hlk hret (by simp) n0_229 (by decide) (by decide) ?_
              exact ⟨rfl, N3⟩
            · refine w_iload X6 hx hby n0_204 rfl ?_
              refine f_if_eq X6 hx hby n0_206 (fun q206 => by exact absurd q206 (by decide)) (fun q206 => ?_)
              refine w_iconst X6 hx hby (0 : Int32) n0_209 rfl ?_
              refine w_istore X6 hx hby #[.val (.long f), .second, .val (.long t2), .second, .val (.long t3), .second, .val (.int t4), .val (.long u), .second, .val (.int md), .val (.long x), .second, .val (.ref b1), .val (.int (1 : Int32)), .val (.int (1 : Int32)), .val (.int (0 : Int32))] n0_210 rfl ?_
              refine w_iload X6 hx hby n0_212 rfl ?_
              refine w_iload X6 hx hby n0_214 rfl ?_
              refine f_icmp_ne X6 hx hby n0_216 (fun q216 => by exact absurd q216 (by decide)) (fun q216 => ?_)
              refine w_iload X6 hx hby n0_219 rfl ?_
              refine f_if_eq X6 hx hby n0_221 (fun q221 => ?_) (fun q221 => by exact absurd q221 (by decide))
              refine w_iconst X6 hx hby (0 : Int32) n0_228 rfl ?_
              refine w_retN X6 hx hby e6 hlk hret (by simp) n0_229 (by decide) (by decide) ?_
              exfalso
              have e1 := c_lsub f 1; have e2 := rng64 (f - 1); have e3 := rng64 f; have e6 := rng64 u; have e7 := rng64 x; have e4 : (1 : Int64).toInt = 1 := (by decide); have e5 : (-9223372036854775808 : Int64).toInt = -9223372036854775808 := by decide
              simp only [Int64.lt_iff_toInt_lt, ← Int64.toInt_inj] at q98 q98b q106 q120 q200
              omega
          · refine w_lloadN X6 hx hby n0_181 rfl ?_
            refine w_ldc2J X6 hx hby hZ hown (hw _ t_29) n0_182 ?_
            refine f_lcmp_eq X6 hx hby n0_185 n0_186 (fun q185 => ?_) (fun q185 => ?_)
            · refine w_lloadN X6 hx hby n0_197 rfl ?_
              refine w_lload X6 hx hby n0_198 rfl ?_
              refine f_lcmp_ne X6 hx hby n0_200 n0_201 (fun q200 => ?_) (fun q200 => ?_)
              · refine w_iload X6 hx hby n0_212 rfl ?_
                refine w_iload X6 hx hby n0_214 rfl ?_
                refine f_icmp_ne X6 hx hby n0_216 (fun q216 => by exact absurd q216 (by decide)) (fun q216 => ?_)
                refine w_iload X6 hx hby n0_219 rfl ?_
                refine f_if_eq X6 hx hby n0_221 (fun q221 => by exact absurd q221 (by decide)) (fun q221 => ?_)
                refine w_iconst X6 hx hby (1 : Int32) n0_224 rfl ?_
                refine w_goto X6 hx hby n0_225 ?_
                refine w_retN X6 hx hby e6 hlk hret (by simp) n0_229 (by decide) (by decide) ?_
                exact ⟨rfl, N3⟩
              · refine w_iload X6 hx hby n0_204 rfl ?_
                refine f_if_eq X6 hx hby n0_206 (fun q206 => by exact absurd q206 (by decide)) (fun q206 => ?_)
                refine w_iconst X6 hx hby (0 : Int32) n0_209 rfl ?_
                refine w_istore X6 hx hby #[.val (.long f), .second, .val (.long t2), .second, .val (.long t3), .second, .val (.int t4), .val (.long u), .second, .val (.int md), .val (.long x), .second, .val (.ref b1), .val (.int (1 : Int32)), .val (.int (1 : Int32)), .val (.int (0 : Int32))] n0_210 rfl ?_
                refine w_iload X6 hx hby n0_212 rfl ?_
                refine w_iload X6 hx hby n0_214 rfl ?_
                refine f_icmp_ne X6 hx hby n0_216 (fun q216 => by exact absurd q216 (by decide)) (fun q216 => ?_)
                refine w_iload X6 hx hby n0_219 rfl ?_
                refine f_if_eq X6 hx hby n0_221 (fun q221 => ?_) (fun q221 => by exact absurd q221 (by decide))
                refine w_iconst X6 hx hby (0 : Int32) n0_228 rfl ?_
                refine w_retN X6 hx hby e6 hlk hret (by simp) n0_229 (by decide) (by decide) ?_
                exfalso
                have i0 := H1 q178; have i0 := congrArg Int64.toInt i0
                have e1 := c_lsub f 1; have e2 := rng64 (f - 1); have e3 := rng64 f; have e6 := rng64 u; have e7 := rng64 x; have e4 : (1 : Int64).toInt = 1 := (by decide); have e5 : (-9223372036854775808 : Int64).toInt = -9223372036854775808 := by decide
                simp only [Int64.lt_iff_toInt_lt, ← Int64.toInt_inj] at q98 q98b q106 q120 q185 q200
                omega
            · refine w_iload X6 hx hby n0_189 rfl ?_
              refine f_if_eq X6 hx hby n0_191 (fun q191 => by exact absurd q191 (by decide)) (fun q191 => ?_)
              refine w_iconst X6 hx hby (0 : Int32) n0_194 rfl ?_
              refine w_istore X6 hx hby #[.val (.long f), .second, .val (.long t2), .second, .val (.long t3), .second, .val (.int t4), .val (.long u), .second, .val (.int md), .val (.long x), .second, .val (.ref b1), .val (.int (1 : Int32)), .val (.int (1 : Int32)), .val (.int (0 : Int32))] n0_195 rfl ?_
              refine w_lloadN X6 hx hby n0_197 rfl ?_
              refine w_lload X6 hx hby n0_198 rfl ?_
              refine f_lcmp_ne X6 hx hby n0_200 n0_201 (fun q200 => ?_) (fun q200 => ?_)
              · refine w_iload X6 hx hby n0_212 rfl ?_
                refine w_iload X6 hx hby n0_214 rfl ?_
                refine f_icmp_ne X6 hx hby n0_216 (fun q216 => by exact absurd q216 (by decide)) (fun q216 => ?_)
                refine w_iload X6 hx hby n0_219 rfl ?_
                refine f_if_eq X6 hx hby n0_221 (fun q221 => ?_) (fun q221 => by exact absurd q221 (by decide))
                refine w_iconst X6 hx hby (0 : Int32) n0_228 rfl ?_
                refine w_retN X6 hx hby e6 hlk hret (by simp) n0_229 (by decide) (by decide) ?_
                exfalso
                have i0 := H1 q178; have i0 := congrArg Int64.toInt i0
                have e1 := c_lsub f 1; have e2 := rng64 (f - 1); have e3 := rng64 f; have e6 := rng64 u; have e7 := rng64 x; have e4 : (1 : Int64).toInt = 1 := (by decide); have e5 : (-9223372036854775808 : Int64).toInt = -9223372036854775808 := by decide
                simp only [Int64.lt_iff_toInt_lt, ← Int64.toInt_inj] at q98 q98b q106 q120 q185 q200
                omega
              · refine w_iload X6 hx hby n0_204 rfl ?_
                refine f_if_eq X6 hx hby n0_206 (fun q206 => by exact absurd q206 (by decide)) (fun q206 => ?_)
                refine w_iconst X6 hx hby (0 : Int32) n0_209 rfl ?_
                refine w_istore X6 hx hby #[.val (.long f), .second, .val (.long t2), .second, .val (.long t3), .second, .val (.int t4), .val (.long u), .second, .val (.int md), .val (.long x), .second, .val (.ref b1), .val (.int (1 : Int32)), .val (.int (1 : Int32)), .val (.int (0 : Int32))] n0_210 rfl ?_
                refine w_iload X6 hx hby n0_212 rfl ?_
                refine w_iload X6 hx hby n0_214 rfl ?_
                refine f_icmp_ne X6 hx hby n0_216 (fun q216 => by exact absurd q216 (by decide)) (fun q216 => ?_)
                refine w_iload X6 hx hby n0_219 rfl ?_
                refine f_if_eq X6 hx hby n0_221 (fun q221 => ?_) (fun q221 => by exact absurd q221 (by decide))
                refine w_iconst X6 hx hby (0 : Int32) n0_228 rfl ?_
                refine w_retN X6 hx hby e6 hlk hret (by simp) n0_229 (by decide) (by decide) ?_
                exfalso
                have i0 := H1 q178; have i0 := congrArg Int64.toInt i0
                have e1 := c_lsub f 1; have e2 := rng64 (f - 1); have e3 := rng64 f; have e6 := rng64 u; have e7 := rng64 x; have e4 : (1 : Int64).toInt = 1 := (by decide); have e5 : (-9223372036854775808 : Int64).toInt = -9223372036854775808 := by decide
                simp only [Int64.lt_iff_toInt_lt, ← Int64.toInt_inj] at q98 q98b q106 q120 q185 q200
                omega
        · refine w_iload X6 hx hby n0_167 rfl ?_
          refine f_if_eq X6 hx hby n0_169 (fun q169 => by exact absurd q169 (by decide)) (fun q169 => ?_)
          refine w_iconst X6 hx hby (0 : Int32) n0_172 rfl ?_
          refine w_istore X6 hx hby #[.val (.long f), .second, .val (.long t2), .second, .val (.long t3), .second, .val (.int t4), .val (.long u), .second, .val (.int md), .val (.long x), .second, .val (.ref b1), .val (.int (1 : Int32)), .val (.int (1 : Int32)), .val (.int (0 : Int32))] n0_173 rfl ?_
          refine w_iload X6 hx hby n0_175 rfl ?_
          refine w_iconst X6 hx hby (1 : Int32) n0_177 rfl ?_
          refine f_icmp_ne X6 hx hby n0_178 (fun q178 => ?_) (fun q178 => by exact absurd (q164.symm.trans q178) (by decide))
          refine w_lloadN X6 hx hby n0_197 rfl ?_
          refine w_lload X6 hx hby n0_198 rfl ?_
          refine f_lcmp_ne X6 hx hby n0_200 n0_201 (fun q200 => ?_) (fun q200 => ?_)
          · refine w_iload X6 hx hby n0_212 rfl ?_
            refine w_iload X6 hx hby n0_214 rfl ?_
            refine f_icmp_ne X6 hx hby n0_216 (fun q216 => by exact absurd q216 (by decide)) (fun q216 => ?_)
            refine w_iload X6 hx hby n0_219 rfl ?_
            refine f_if_eq X6 hx hby n0_221 (fun q221 => ?_) (fun q221 => by exact absurd q221 (by decide))
            refine w_iconst X6 hx hby (0 : Int32) n0_228 rfl ?_
            refine w_retN X6 hx hby e6 hlk hret (by simp) n0_229 (by decide) (by decide) ?_
            exfalso
            have i0 := H2 q164; have i0 := congrArg Int64.toInt i0
            have e1 := c_lsub f 1; have e2 := rng64 (f - 1); have e3 := rng64 f; have e6 := rng64 u; have e7 := rng64 x; have e4 : (1 : Int64).toInt = 1 := (by decide); have e5 : (-9223372036854775808 : Int64).toInt = -9223372036854775808 := by decide
            simp only [Int64.lt_iff_toInt_lt, ← Int64.toInt_inj] at q98 q98b q106 q120 q200
            omega
          · refine w_iload X6 hx hby n0_204 rfl ?_
            refine f_if_eq X6 hx hby n0_206 (fun q206 => by exact absurd q206 (by decide)) (fun q206 => ?_)
            refine w_iconst X6 hx hby (0 : Int32) n0_209 rfl ?_
            refine w_istore X6 hx hby #[.val (.long f), .second, .val (.long t2), .second, .val (.long t3), .second, .val (.int t4), .val (.long u), .second, .val (.int md), .val (.long x), .second, .val (.ref b1), .val (.int (1 : Int32)), .val (.int (1 : Int32)), .val (.int (0 : Int32))] n0_210 rfl ?_
            refine w_iload X6 hx hby n0_212 rfl ?_
            refine w_iload X6 hx hby n0_214 rfl ?_
            refine f_icmp_ne X6 hx hby n0_216 (fun q216 => by exact absurd q216 (by decide)) (fun q216 => ?_)
            refine w_iload X6 hx hby n0_219 rfl ?_
            refine f_if_eq X6 hx hby n0_221 (fun q221 => ?_) (fun q221 => by exact absurd q221 (by decide))
            refine w_iconst X6 hx hby (0 : Int32) n0_228 rfl ?_
            refine w_retN X6 hx hby e6 hlk hret (by simp) n0_229 (by decide) (by decide) ?_
            exfalso
            have i0 := H2 q164; have i0 := congrArg Int64.toInt i0
            have e1 := c_lsub f 1; have e2 := rng64 (f - 1); have e3 := rng64 f; have e6 := rng64 u; have e7 := rng64 x; have e4 : (1 : Int64).toInt = 1 := (by decide); have e5 : (-9223372036854775808 : Int64).toInt = -9223372036854775808 := by decide
            simp only [Int64.lt_iff_toInt_lt, ← Int64.toInt_inj] at q98 q98b q106 q120 q200
            omega
      · refine w_iload X6 hx hby n0_141 rfl ?_
        refine w_lloadN X6 hx hby n0_143 rfl ?_
        refine w_lload X6 hx hby n0_144 rfl ?_
        refine f_lcmp_ge X6 hx hby n0_146 n0_147 (fun q146 => ?_) (fun q146 => ?_)
        · refine w_iconst X6 hx hby (0 : Int32) n0_154 rfl ?_
          refine f_icmp_eq X6 hx hby n0_155 (fun q155 => by exact absurd q155 (by decide)) (fun q155 => ?_)
          refine w_iconst X6 hx hby (0 : Int32) n0_158 rfl ?_
          refine w_istore X6 hx hby #[.val (.long f), .second, .val (.long t2), .second, .val (.long t3), .second, .val (.int t4), .val (.long u), .second, .val (.int md), .val (.long x), .second, .val (.ref b1), .val (.int (1 : Int32)), .val (.int (1 : Int32)), .val (.int (0 : Int32))] n0_159 rfl ?_
          refine w_iload X6 hx hby n0_161 rfl ?_
          refine w_iconst X6 hx hby (2 : Int32) n0_163 rfl ?_
          refine f_icmp_ne X6 hx hby n0_164 (fun q164 => ?_) (fun q164 => by exact absurd (q138.symm.trans q164) (by decide))
          refine w_iload X6 hx hby n0_175 rfl ?_
          refine w_iconst X6 hx hby (1 : Int32) n0_177 rfl ?_
          refine f_icmp_ne X6 hx hby n0_178 (fun q178 => ?_) (fun q178 => by exact absurd (q138.symm.trans q178) (by decide))
          refine w_lloadN X6 hx hby n0_197 rfl ?_
          refine w_lload X6 hx hby n0_198 rfl ?_
          refine f_lcmp_ne X6 hx hby n0_200 n0_201 (fun q200 => ?_) (fun q200 => ?_)
          · refine w_iload X6 hx hby n0_212 rfl ?_
            refine w_iload X6 hx hby n0_214 rfl ?_
            refine f_icmp_ne X6 hx hby n0_216 (fun q216 => by exact absurd q216 (by decide)) (fun q216 => ?_)
            refine w_iload X6 hx hby n0_219 rfl ?_
            refine f_if_eq X6 hx hby n0_221 (fun q221 => ?_) (fun q221 => by exact absurd q221 (by decide))
            refine w_iconst X6 hx hby (0 : Int32) n0_228 rfl ?_
            refine w_retN X6 hx hby e6 hlk hret (by simp) n0_229 (by decide) (by decide) ?_
            exfalso
            have i0 := H0 q138; have i0 := congrArg Int64.toInt i0
            have e1 := c_lsub f 1; have e2 := rng64 (f - 1); have e3 := rng64 f; have e6 := rng64 u; have e7 := rng64 x; have e4 : (1 : Int64).toInt = 1 := (by decide); have e5 : (-9223372036854775808 : Int64).toInt = -9223372036854775808 := by decide
            simp only [Int64.lt_iff_toInt_lt, ← Int64.toInt_inj] at q98 q98b q106 q120 q146 q200
            omega
          · refine w_iload X6 hx hby n0_204 rfl ?_
            refine f_if_eq X6 hx hby n0_206 (fun q206 => by exact absurd q206 (by decide)) (fun q206 => ?_)
            refine w_iconst X6 hx hby (0 : Int32) n0_209 rfl ?_
            refine w_istore X6 hx hby #[.val (.long f), .second, .val (.long t2), .second, .val (.long t3), .second, .val (.int t4), .val (.long u), .second, .val (.int md), .val (.long x), .second, .val (.ref b1), .val (.int (1 : Int32)), .val (.int (1 : Int32)), .val (.int (0 : Int32))] n0_210 rfl ?_
            refine w_iload X6 hx hby n0_212 rfl ?_
            refine w_iload X6 hx hby n0_214 rfl ?_
            refine f_icmp_ne X6 hx hby n0_216 (fun q216 => by exact absurd q216 (by decide)) (fun q216 => ?_)
            refine w_iload X6 hx hby n0_219 rfl ?_
            refine f_if_eq X6 hx hby n0_221 (fun q221 => ?_) (fun q221 => by exact absurd q221 (by decide))
            refine w_iconst X6 hx hby (0 : Int32) n0_228 rfl ?_
            refine w_retN X6 hx hby e6 hlk hret (by simp) n0_229 (by decide) (by decide) ?_
            exfalso
            have i0 := H0 q138; have i0 := congrArg Int64.toInt i0
            have e1 := c_lsub f 1; have e2 := rng64 (f - 1); have e3 := rng64 f; have e6 := rng64 u; have e7 := rng64 x; have e4 : (1 : Int64).toInt = 1 := (by decide); have e5 : (-9223372036854775808 : Int64).toInt = -9223372036854775808 := by decide
            simp only [Int64.lt_iff_toInt_lt, ← Int64.toInt_inj] at q98 q98b q106 q120 q146 q200
            omega
        · refine w_iconst X6 hx hby (1 : Int32) n0_150 rfl ?_
          refine w_goto X6 hx hby n0_151 ?_
          refine f_icmp_eq X6 hx hby n0_155 (fun q155 => ?_) (fun q155 => by exact absurd q155 (by decide))
          refine w_iload X6 hx hby n0_161 rfl ?_
          refine w_iconst X6 hx hby (2 : Int32) n0_163 rfl ?_
          refine f_icmp_ne X6 hx hby n0_164 (fun q164 => ?_) (fun q164 => by exact absurd (q138.symm.trans q164) (by decide))
          refine w_iload X6 hx hby n0_175 rfl ?_
          refine w_iconst X6 hx hby (1 : Int32) n0_177 rfl ?_
          refine f_icmp_ne X6 hx hby n0_178 (fun q178 => ?_) (fun q178 => by exact absurd (q138.symm.trans q178) (by decide))
          refine w_lloadN X6 hx hby n0_197 rfl ?_
          refine w_lload X6 hx hby n0_198 rfl ?_
          refine f_lcmp_ne X6 hx hby n0_200 n0_201 (fun q200 => ?_) (fun q200 => ?_)
          · refine w_iload X6 hx hby n0_212 rfl ?_
            refine w_iload X6 hx hby n0_214 rfl ?_
            refine f_icmp_ne X6 hx hby n0_216 (fun q216 => by exact absurd q216 (by decide)) (fun q216 => ?_)
            refine w_iload X6 hx hby n0_219 rfl ?_
            refine f_if_eq X6 hx hby n0_221 (fun q221 => by exact absurd q221 (by decide)) (fun q221 => ?_)
            refine w_iconst X6 hx hby (1 : Int32) n0_224 rfl ?_
            refine w_goto X6 hx hby n0_225 ?_
            refine w_retN X6 hx hby e6 hlk hret (by simp) n0_229 (by decide) (by decide) ?_
            exact ⟨rfl, N3⟩
          · refine w_iload X6 hx hby n0_204 rfl ?_
            refine f_if_eq X6 hx hby n0_206 (fun q206 => by exact absurd q206 (by decide)) (fun q206 => ?_)
            refine w_iconst X6 hx hby (0 : Int32) n0_209 rfl ?_
            refine w_istore X6 hx hby #[.val (.long f), .second, .val (.long t2), .second, .val (.long t3), .second, .val (.int t4), .val (.long u), .second, .val (.int md), .val (.long x), .second, .val (.ref b1), .val (.int (1 : Int32)), .val (.int (1 : Int32)), .val (.int (0 : Int32))] n0_210 rfl ?_
            refine w_iload X6 hx hby n0_212 rfl ?_
            refine w_iload X6 hx hby n0_214 rfl ?_
            refine f_icmp_ne X6 hx hby n0_216 (fun q216 => by exact absurd q216 (by decide)) (fun q216 => ?_)
            refine w_iload X6 hx hby n0_219 rfl ?_
            refine f_if_eq X6 hx hby n0_221 (fun q221 => ?_) (fun q221 => by exact absurd q221 (by decide))
            refine w_iconst X6 hx hby (0 : Int32) n0_228 rfl ?_
            refine w_retN X6 hx hby e6 hlk hret (by simp) n0_229 (by decide) (by decide) ?_
            exfalso
            have i0 := H0 q138; have i0 := congrArg Int64.toInt i0
            have e1 := c_lsub f 1; have e2 := rng64 (f - 1); have e3 := rng64 f; have e6 := rng64 u; have e7 := rng64 x; have e4 : (1 : Int64).toInt = 1 := (by decide); have e5 : (-9223372036854775808 : Int64).toInt = -9223372036854775808 := by decide
            simp only [Int64.lt_iff_toInt_lt, ← Int64.toInt_inj] at q98 q98b q106 q120 q146 q200
            omega
    · have hv : own_va f u x = 0 := by simp [own_va, q98, q98b]
      refine w_calledp (call_V X3 hx hby hZ hown (argsL := [(.long x)]) (rest := []) (Wd := 0) (a := b1) (hw _ t_24) (hw _ t_25) (hw _ t_27) (hw _ t_26) (hw _ t_2) (hw _ t_28) (by decide) ea3 (show Con l Z _ _ _ _ _ _ _ (fun v h L => v = some (.int (0 : Int32)) ∧ h = T3.heap ∧ L = []) from hv ▸ rm2 l Z a0 hw b1 x f u T3.heap c3_validFrom c3_validUntil) rfl n0_98 (by rw [hml]; rfl) (lenOf pd_2141 rfl) rfl (by decide) (by decide) (by decide) (by decide) rfl) rfl rfl fun T7 X7 e7 => ?_
      refine w_istore X7 hx hby #[.val (.long f), .second, .val (.long t2), .second, .val (.long t3), .second, .val (.int t4), .val (.long u), .second, .val (.int md), .val (.long x), .second, .val (.ref b1), .val (.int (0 : Int32)), .unset, .unset] n0_101 rfl ?_
      refine w_lload X7 hx hby n0_103 rfl ?_
      refine w_lloadN X7 hx hby n0_105 rfl ?_
      refine f_lcmp_ge X7 hx hby n0_106 n0_107 (fun q106 => ?_) (fun q106 => by exact absurd q106 q98)
      refine w_lload X7 hx hby n0_116 rfl ?_
      refine w_lload X7 hx hby n0_118 rfl ?_
      refine f_lcmp_lt X7 hx hby n0_120 n0_121 (fun q120 => by exact absurd q120 q98b) (fun q120 => ?_)
      refine w_iconst X7 hx hby (0 : Int32) n0_124 rfl ?_
      refine w_istore X7 hx hby #[.val (.long f), .second, .val (.long t2), .second, .val (.long t3), .second, .val (.int t4), .val (.long u), .second, .val (.int md), .val (.long x), .second, .val (.ref b1), .val (.int (0 : Int32)), .val (.int (0 : Int32)), .unset] n0_125 rfl ?_
      refine w_goto X7 hx hby n0_127 ?_
      refine w_iconst X7 hx hby (1 : Int32) n0_133 rfl ?_
      refine w_istore X7 hx hby #[.val (.long f), .second, .val (.long t2), .second, .val (.long t3), .second, .val (.int t4), .val (.long u), .second, .val (.int md), .val (.long x), .second, .val (.ref b1), .val (.int (0 : Int32)), .val (.int (0 : Int32)), .val (.int (1 : Int32))] n0_134 rfl ?_
      refine w_iload X7 hx hby n0_136 rfl ?_
      refine f_if_ne X7 hx hby n0_138 (fun q138 => ?_) (fun q138 => ?_)
      · refine w_iload X7 hx hby n0_161 rfl ?_
        refine w_iconst X7 hx hby (2 : Int32) n0_163 rfl ?_
        refine f_icmp_ne X7 hx hby n0_164 (fun q164 => ?_) (fun q164 => ?_)
        · refine w_iload X7 hx hby n0_175 rfl ?_
          refine w_iconst X7 hx hby (1 : Int32) n0_177 rfl ?_
          refine f_icmp_ne X7 hx hby n0_178 (fun q178 => ?_) (fun q178 => ?_)
          · refine w_lloadN X7 hx hby n0_197 rfl ?_
            refine w_lload X7 hx hby n0_198 rfl ?_
            refine f_lcmp_ne X7 hx hby n0_200 n0_201 (fun q200 => ?_) (fun q200 => ?_)
            · refine w_iload X7 hx hby n0_212 rfl ?_
              refine w_iload X7 hx hby n0_214 rfl ?_
              refine f_icmp_ne X7 hx hby n0_216 (fun q216 => by exact absurd q216 (by decide)) (fun q216 => ?_)
              refine w_iload X7 hx hby n0_219 rfl ?_
              refine f_if_eq X7 hx hby n0_221 (fun q221 => by exact absurd q221 (by decide)) (fun q221 => ?_)
              refine w_iconst X7 hx hby (1 : Int32) n0_224 rfl ?_
              refine w_goto X7 hx hby n0_225 ?_
              refine w_retN X7 hx hby e7 hlk hret (by simp) n0_229 (by decide) (by decide) ?_
              exact ⟨rfl, N3⟩
            · refine w_iload X7 hx hby n0_204 rfl ?_
              refine f_if_eq X7 hx hby n0_206 (fun q206 => ?_) (fun q206 => by exact absurd q206 (by decide))
              refine w_iload X7 hx hby n0_212 rfl ?_
              refine w_iload X7 hx hby n0_214 rfl ?_
              refine f_icmp_ne X7 hx hby n0_216 (fun q216 => by exact absurd q216 (by decide)) (fun q216 => ?_)
              refine w_iload X7 hx hby n0_219 rfl ?_
              refine f_if_eq X7 hx hby n0_221 (fun q221 => by exact absurd q221 (by decide)) (fun q221 => ?_)
              refine w_iconst X7 hx hby (1 : Int32) n0_224 rfl ?_
              refine w_goto X7 hx hby n0_225 ?_
              refine w_retN X7 hx hby e7 hlk hret (by simp) n0_229 (by decide) (by decide) ?_
              exact ⟨rfl, N3⟩
          · refine w_lloadN X7 hx hby n0_181 rfl ?_
            refine w_ldc2J X7 hx hby hZ hown (hw _ t_29) n0_182 ?_
            refine f_lcmp_eq X7 hx hby n0_185 n0_186 (fun q185 => ?_) (fun q185 => ?_)
            · refine w_lloadN X7 hx hby n0_197 rfl ?_
              refine w_lload X7 hx hby n0_198 rfl ?_
              refine f_lcmp_ne X7 hx hby n0_200 n0_201 (fun q200 => ?_) (fun q200 => ?_)
              · refine w_iload X7 hx hby n0_212 rfl ?_
                refine w_iload X7 hx hby n0_214 rfl ?_
                refine f_icmp_ne X7 hx hby n0_216 (fun q216 => by exact absurd q216 (by decide)) (fun q216 => ?_)
                refine w_iload X7 hx hby n0_219 rfl ?_
                refine f_if_eq X7 hx hby n0_221 (fun q221 => by exact absurd q221 (by decide)) (fun q221 => ?_)
                refine w_iconst X7 hx hby (1 : Int32) n0_224 rfl ?_
                refine w_goto X7 hx hby n0_225 ?_
                refine w_retN X7 hx hby e7 hlk hret (by simp) n0_229 (by decide) (by decide) ?_
                exact ⟨rfl, N3⟩
              · refine w_iload X7 hx hby n0_204 rfl ?_
                refine f_if_eq X7 hx hby n0_206 (fun q206 => ?_) (fun q206 => by exact absurd q206 (by decide))
                refine w_iload X7 hx hby n0_212 rfl ?_
                refine w_iload X7 hx hby n0_214 rfl ?_
                refine f_icmp_ne X7 hx hby n0_216 (fun q216 => by exact absurd q216 (by decide)) (fun q216 => ?_)
                refine w_iload X7 hx hby n0_219 rfl ?_
                refine f_if_eq X7 hx hby n0_221 (fun q221 => by exact absurd q221 (by decide)) (fun q221 => ?_)
                refine w_iconst X7 hx hby (1 : Int32) n0_224 rfl ?_
                refine w_goto X7 hx hby n0_225 ?_
                refine w_retN X7 hx hby e7 hlk hret (by simp) n0_229 (by decide) (by decide) ?_
                exact ⟨rfl, N3⟩
            · refine w_iload X7 hx hby n0_189 rfl ?_
              refine f_if_eq X7 hx hby n0_191 (fun q191 => ?_) (fun q191 => by exact absurd q191 (by decide))
              refine w_lloadN X7 hx hby n0_197 rfl ?_
              refine w_lload X7 hx hby n0_198 rfl ?_
              refine f_lcmp_ne X7 hx hby n0_200 n0_201 (fun q200 => ?_) (fun q200 => ?_)
              · refine w_iload X7 hx hby n0_212 rfl ?_
                refine w_iload X7 hx hby n0_214 rfl ?_
                refine f_icmp_ne X7 hx hby n0_216 (fun q216 => by exact absurd q216 (by decide)) (fun q216 => ?_)
                refine w_iload X7 hx hby n0_219 rfl ?_
                refine f_if_eq X7 hx hby n0_221 (fun q221 => by exact absurd q221 (by decide)) (fun q221 => ?_)
                refine w_iconst X7 hx hby (1 : Int32) n0_224 rfl ?_
                refine w_goto X7 hx hby n0_225 ?_
                refine w_retN X7 hx hby e7 hlk hret (by simp) n0_229 (by decide) (by decide) ?_
                exact ⟨rfl, N3⟩
              · refine w_iload X7 hx hby n0_204 rfl ?_
                refine f_if_eq X7 hx hby n0_206 (fun q206 => ?_) (fun q206 => by exact absurd q206 (by decide))
                refine w_iload X7 hx hby n0_212 rfl ?_
                refine w_iload X7 hx hby n0_214 rfl ?_
                refine f_icmp_ne X7 hx hby n0_216 (fun q216 => by exact absurd q216 (by decide)) (fun q216 => ?_)
                refine w_iload X7 hx hby n0_219 rfl ?_
                refine f_if_eq X7 hx hby n0_221 (fun q221 => by exact absurd q221 (by decide)) (fun q221 => ?_)
                refine w_iconst X7 hx hby (1 : Int32) n0_224 rfl ?_
                refine w_goto X7 hx hby n0_225 ?_
                refine w_retN X7 hx hby e7 hlk hret (by simp) n0_229 (by decide) (by decide) ?_
                exact ⟨rfl, N3⟩
        · refine w_iload X7 hx hby n0_167 rfl ?_
          refine f_if_eq X7 hx hby n0_169 (fun q169 => ?_) (fun q169 => by exact absurd q169 (by decide))
          refine w_iload X7 hx hby n0_175 rfl ?_
          refine w_iconst X7 hx hby (1 : Int32) n0_177 rfl ?_
          refine f_icmp_ne X7 hx hby n0_178 (fun q178 => ?_) (fun q178 => by exact absurd (q164.symm.trans q178) (by decide))
          refine w_lloadN X7 hx hby n0_197 rfl ?_
          refine w_lload X7 hx hby n0_198 rfl ?_
          refine f_lcmp_ne X7 hx hby n0_200 n0_201 (fun q200 => ?_) (fun q200 => ?_)
          · refine w_iload X7 hx hby n0_212 rfl ?_
            refine w_iload X7 hx hby n0_214 rfl ?_
            refine f_icmp_ne X7 hx hby n0_216 (fun q216 => by exact absurd q216 (by decide)) (fun q216 => ?_)
            refine w_iload X7 hx hby n0_219 rfl ?_
            refine f_if_eq X7 hx hby n0_221 (fun q221 => by exact absurd q221 (by decide)) (fun q221 => ?_)
            refine w_iconst X7 hx hby (1 : Int32) n0_224 rfl ?_
            refine w_goto X7 hx hby n0_225 ?_
            refine w_retN X7 hx hby e7 hlk hret (by simp) n0_229 (by decide) (by decide) ?_
            exact ⟨rfl, N3⟩
          · refine w_iload X7 hx hby n0_204 rfl ?_
            refine f_if_eq X7 hx hby n0_206 (fun q206 => ?_) (fun q206 => by exact absurd q206 (by decide))
            refine w_iload X7 hx hby n0_212 rfl ?_
            refine w_iload X7 hx hby n0_214 rfl ?_
            refine f_icmp_ne X7 hx hby n0_216 (fun q216 => by exact absurd q216 (by decide)) (fun q216 => ?_)
            refine w_iload X7 hx hby n0_219 rfl ?_
            refine f_if_eq X7 hx hby n0_221 (fun q221 => by exact absurd q221 (by decide)) (fun q221 => ?_)
            refine w_iconst X7 hx hby (1 : Int32) n0_224 rfl ?_
            refine w_goto X7 hx hby n0_225 ?_
            refine w_retN X7 hx hby e7 hlk hret (by simp) n0_229 (by decide) (by decide) ?_
            exact ⟨rfl, N3⟩
      · refine w_iload X7 hx hby n0_141 rfl ?_
        refine w_lloadN X7 hx hby n0_143 rfl ?_
        refine w_lload X7 hx hby n0_144 rfl ?_
        refine f_lcmp_ge X7 hx hby n0_146 n0_147 (fun q146 => ?_) (fun q146 => ?_)
        · refine w_iconst X7 hx hby (0 : Int32) n0_154 rfl ?_
          refine f_icmp_eq X7 hx hby n0_155 (fun q155 => ?_) (fun q155 => by exact absurd q155 (by decide))
          refine w_iload X7 hx hby n0_161 rfl ?_
          refine w_iconst X7 hx hby (2 : Int32) n0_163 rfl ?_
          refine f_icmp_ne X7 hx hby n0_164 (fun q164 => ?_) (fun q164 => by exact absurd (q138.symm.trans q164) (by decide))
          refine w_iload X7 hx hby n0_175 rfl ?_
          refine w_iconst X7 hx hby (1 : Int32) n0_177 rfl ?_
          refine f_icmp_ne X7 hx hby n0_178 (fun q178 => ?_) (fun q178 => by exact absurd (q138.symm.trans q178) (by decide))
          refine w_lloadN X7 hx hby n0_197 rfl ?_
          refine w_lload X7 hx hby n0_198 rfl ?_
          refine f_lcmp_ne X7 hx hby n0_200 n0_201 (fun q200 => ?_) (fun q200 => ?_)
          · refine w_iload X7 hx hby n0_212 rfl ?_
            refine w_iload X7 hx hby n0_214 rfl ?_
            refine f_icmp_ne X7 hx hby n0_216 (fun q216 => by exact absurd q216 (by decide)) (fun q216 => ?_)
            refine w_iload X7 hx hby n0_219 rfl ?_
            refine f_if_eq X7 hx hby n0_221 (fun q221 => by exact absurd q221 (by decide)) (fun q221 => ?_)
            refine w_iconst X7 hx hby (1 : Int32) n0_224 rfl ?_
            refine w_goto X7 hx hby n0_225 ?_
            refine w_retN X7 hx hby e7 hlk hret (by simp) n0_229 (by decide) (by decide) ?_
            exact ⟨rfl, N3⟩
          · refine w_iload X7 hx hby n0_204 rfl ?_
            refine f_if_eq X7 hx hby n0_206 (fun q206 => ?_) (fun q206 => by exact absurd q206 (by decide))
            refine w_iload X7 hx hby n0_212 rfl ?_
            refine w_iload X7 hx hby n0_214 rfl ?_
            refine f_icmp_ne X7 hx hby n0_216 (fun q216 => by exact absurd q216 (by decide)) (fun q216 => ?_)
            refine w_iload X7 hx hby n0_219 rfl ?_
            refine f_if_eq X7 hx hby n0_221 (fun q221 => by exact absurd q221 (by decide)) (fun q221 => ?_)
            refine w_iconst X7 hx hby (1 : Int32) n0_224 rfl ?_
            refine w_goto X7 hx hby n0_225 ?_
            refine w_retN X7 hx hby e7 hlk hret (by simp) n0_229 (by decide) (by decide) ?_
            exact ⟨rfl, N3⟩
        · refine w_iconst X7 hx hby (1 : Int32) n0_150 rfl ?_
          refine w_goto X7 hx hby n0_151 ?_
          refine f_icmp_eq X7 hx hby n0_155 (fun q155 => by exact absurd q155 (by decide)) (fun q155 => ?_)
          refine w_iconst X7 hx hby (0 : Int32) n0_158 rfl ?_
          refine w_istore X7 hx hby #[.val (.long f), .second, .val (.long t2), .second, .val (.long t3), .second, .val (.int t4), .val (.long u), .second, .val (.int md), .val (.long x), .second, .val (.ref b1), .val (.int (0 : Int32)), .val (.int (0 : Int32)), .val (.int (0 : Int32))] n0_159 rfl ?_
          refine w_iload X7 hx hby n0_161 rfl ?_
          refine w_iconst X7 hx hby (2 : Int32) n0_163 rfl ?_
          refine f_icmp_ne X7 hx hby n0_164 (fun q164 => ?_) (fun q164 => by exact absurd (q138.symm.trans q164) (by decide))
          refine w_iload X7 hx hby n0_175 rfl ?_
          refine w_iconst X7 hx hby (1 : Int32) n0_177 rfl ?_
          refine f_icmp_ne X7 hx hby n0_178 (fun q178 => ?_) (fun q178 => by exact absurd (q138.symm.trans q178) (by decide))
          refine w_lloadN X7 hx hby n0_197 rfl ?_
          refine w_lload X7 hx hby n0_198 rfl ?_
          refine f_lcmp_ne X7 hx hby n0_200 n0_201 (fun q200 => ?_) (fun q200 => ?_)
          · refine w_iload X7 hx hby n0_212 rfl ?_
            refine w_iload X7 hx hby n0_214 rfl ?_
            refine f_icmp_ne X7 hx hby n0_216 (fun q216 => by exact absurd q216 (by decide)) (fun q216 => ?_)
            refine w_iload X7 hx hby n0_219 rfl ?_
            refine f_if_eq X7 hx hby n0_221 (fun q221 => ?_) (fun q221 => by exact absurd q221 (by decide))
            refine w_iconst X7 hx hby (0 : Int32) n0_228 rfl ?_
            refine w_retN X7 hx hby e7 hlk hret (by simp) n0_229 (by decide) (by decide) ?_
            exfalso
            have i0 := H0 q138; have i0 := congrArg Int64.toInt i0
            have e1 := c_lsub f 1; have e2 := rng64 (f - 1); have e3 := rng64 f; have e6 := rng64 u; have e7 := rng64 x; have e4 : (1 : Int64).toInt = 1 := (by decide); have e5 : (-9223372036854775808 : Int64).toInt = -9223372036854775808 := by decide
            simp only [Int64.lt_iff_toInt_lt, ← Int64.toInt_inj] at q98 q98b q106 q120 q146 q200
            omega
          · refine w_iload X7 hx hby n0_204 rfl ?_
            refine f_if_eq X7 hx hby n0_206 (fun q206 => ?_) (fun q206 => by exact absurd q206 (by decide))
            refine w_iload X7 hx hby n0_212 rfl ?_
            refine w_iload X7 hx hby n0_214 rfl ?_
            refine f_icmp_ne X7 hx hby n0_216 (fun q216 => by exact absurd q216 (by decide)) (fun q216 => ?_)
            refine w_iload X7 hx hby n0_219 rfl ?_
            refine f_if_eq X7 hx hby n0_221 (fun q221 => ?_) (fun q221 => by exact absurd q221 (by decide))
            refine w_iconst X7 hx hby (0 : Int32) n0_228 rfl ?_
            refine w_retN X7 hx hby e7 hlk hret (by simp) n0_229 (by decide) (by decide) ?_
            exfalso
            have i0 := H0 q138; have i0 := congrArg Int64.toInt i0
            have e1 := c_lsub f 1; have e2 := rng64 (f - 1); have e3 := rng64 f; have e6 := rng64 u; have e7 := rng64 x; have e4 : (1 : Int64).toInt = 1 := (by decide); have e5 : (-9223372036854775808 : Int64).toInt = -9223372036854775808 := by decide
            simp only [Int64.lt_iff_toInt_lt, ← Int64.toInt_inj] at q98 q98b q106 q120 q146 q200
            omega
set_option maxRecDepth 65536 in
set_option maxHeartbeats 4000000 in
theorem ef_law0 (m : MethodId) (x0 : Int64) (x1 : Int64) (x2 : Int64) (x3 : Int32) : entryFrame m #[(.long x0), (.long x1), (.long x2), (.int x3)] maxLocals = mkF m 0 #[.val (.long x0), .second, .val (.long x1), .second, .val (.long x2), .second, .val (.int x3), .unset, .unset, .unset, .unset, .unset, .unset, .unset, .unset, .unset] [] := by first | (simp [entryFrame, mkF, argsToLocals, Value.category, maxLocals]; done) | rfl
set_option maxRecDepth 65536 in
set_option maxHeartbeats 40000000 in
theorem law0 (l : Launch) (Z : State) (a0 : Array Value) (hw : ∀ d ∈ tables_1, d.before a0 Z = true) (x1 x2 x3 : Int64) (k4 : Int32) (h0 : Heap) : Con l Z x code maxLocals ret room_1 #[(.long x1), (.long x2), (.long x3), (.int k4)] h0 (fun v h L => v = some (.int 1) ∧ Fr h0.size L) := by
  refine w_body (Ls := #[.val (.long x1), .second, .val (.long x2), .second, .val (.long x3), .second, .val (.int k4), .unset, .unset, .unset, .unset, .unset, .unset, .unset, .unset, .unset]) pn_0 (fun m => ef_law0 m x1 x2 x3 k4) ?_
  intro p e s m below meth c T0 X0 hx hby hml hown hnm hret hlk hZ e0
  have hml : c.maxLocals = 16 := hml
  refine w_iload X0 hx hby n0_0 rfl ?_
  refine w_bipush X0 hx hby (8 : Int32) n0_2 rfl ?_
  refine w_iand X0 hx hby n0_4 ?_
  refine f_if_eq X0 hx hby n0_5 (fun q5 => ?_) (fun q5 => ?_)
  · refine w_lloadN X0 hx hby n0_12 rfl ?_
    refine w_lstore X0 hx hby #[.val (.long x1), .second, .val (.long x2), .second, .val (.long x3), .second, .val (.int k4), .val (.long x2), .second, .unset, .unset, .unset, .unset, .unset, .unset, .unset] n0_13 rfl ?_
    refine w_iload X0 hx hby n0_15 rfl ?_
    refine w_bipush X0 hx hby (7 : Int32) n0_17 rfl ?_
    refine w_iand X0 hx hby n0_19 ?_
    refine w_istore X0 hx hby #[.val (.long x1), .second, .val (.long x2), .second, .val (.long x3), .second, .val (.int k4), .val (.long x2), .second, .val (.int (k4 &&& (7 : Int32))), .unset, .unset, .unset, .unset, .unset, .unset] n0_20 rfl ?_
    refine w_iload X0 hx hby n0_22 rfl ?_
    refine f_if_ne X0 hx hby n0_24 (fun q24 => ?_) (fun q24 => ?_)
    · refine w_iload X0 hx hby n0_33 rfl ?_
      refine w_iconst X0 hx hby (1 : Int32) n0_35 rfl ?_
      refine f_icmp_ne X0 hx hby n0_36 (fun q36 => ?_) (fun q36 => ?_)
      · refine w_iload X0 hx hby n0_47 rfl ?_
        refine w_iconst X0 hx hby (2 : Int32) n0_49 rfl ?_
        refine f_icmp_ne X0 hx hby n0_50 (fun q50 => ?_) (fun q50 => ?_)
        · refine w_iload X0 hx hby n0_60 rfl ?_
          refine w_iconst X0 hx hby (3 : Int32) n0_62 rfl ?_
          refine f_icmp_ne X0 hx hby n0_63 (fun q63 => ?_) (fun q63 => ?_)
          · refine w_lload X0 hx hby n0_75 rfl ?_
            refine w_lstore X0 hx hby #[.val (.long x1), .second, .val (.long x2), .second, .val (.long x3), .second, .val (.int k4), .val (.long x2), .second, .val (.int (k4 &&& (7 : Int32))), .val (.long x3), .second, .unset, .unset, .unset, .unset] n0_77 rfl ?_
            exact tail79 l Z a0 hw x1 x2 x3 x2 x3 k4 (k4 &&& (7 : Int32)) h0 X0 hx hby hml hown hret hlk hZ e0 (fun q => absurd q q24) (fun q => absurd q q36) (fun q => absurd q q50)
          · refine w_lload X0 hx hby n0_66 rfl ?_
            refine w_lconst X0 hx hby (1 : Int64) n0_68 rfl ?_
            refine w_lsub X0 hx hby n0_69 ?_
            refine w_lstore X0 hx hby #[.val (.long x1), .second, .val (.long x2), .second, .val (.long x3), .second, .val (.int k4), .val (.long x2), .second, .val (.int (k4 &&& (7 : Int32))), .val (.long (x2 - (1 : Int64))), .second, .unset, .unset, .unset, .unset] n0_70 rfl ?_
            refine w_goto X0 hx hby n0_72 ?_
            exact tail79 l Z a0 hw x1 x2 x3 x2 (x2 - (1 : Int64)) k4 (k4 &&& (7 : Int32)) h0 X0 hx hby hml hown hret hlk hZ e0 (fun q => absurd q q24) (fun q => absurd q q36) (fun q => absurd q q50)
        · refine w_lload X0 hx hby n0_53 rfl ?_
          refine w_lstore X0 hx hby #[.val (.long x1), .second, .val (.long x2), .second, .val (.long x3), .second, .val (.int k4), .val (.long x2), .second, .val (.int (k4 &&& (7 : Int32))), .val (.long x2), .second, .unset, .unset, .unset, .unset] n0_55 rfl ?_
          refine w_goto X0 hx hby n0_57 ?_
          exact tail79 l Z a0 hw x1 x2 x3 x2 x2 k4 (k4 &&& (7 : Int32)) h0 X0 hx hby hml hown hret hlk hZ e0 (fun q => absurd q q24) (fun q => absurd q q36) (fun _ => rfl)
      · refine w_lloadN X0 hx hby n0_39 rfl ?_
        refine w_lconst X0 hx hby (1 : Int64) n0_40 rfl ?_
        refine w_lsub X0 hx hby n0_41 ?_
        refine w_lstore X0 hx hby #[.val (.long x1), .second, .val (.long x2), .second, .val (.long x3), .second, .val (.int k4), .val (.long x2), .second, .val (.int (k4 &&& (7 : Int32))), .val (.long (x1 - (1 : Int64))), .second, .unset, .unset, .unset, .unset] n0_42 rfl ?_
        refine w_goto X0 hx hby n0_44 ?_
        exact tail79 l Z a0 hw x1 x2 x3 x2 (x1 - (1 : Int64)) k4 (k4 &&& (7 : Int32)) h0 X0 hx hby hml hown hret hlk hZ e0 (fun q => absurd q q24) (fun _ => rfl) (fun q => absurd (q36.symm.trans q) (by decide))
    · refine w_lloadN X0 hx hby n0_27 rfl ?_
      refine w_lstore X0 hx hby #[.val (.long x1), .second, .val (.long x2), .second, .val (.long x3), .second, .val (.int k4), .val (.long x2), .second, .val (.int (k4 &&& (7 : Int32))), .val (.long x1), .second, .unset, .unset, .unset, .unset] n0_28 rfl ?_
      refine w_goto X0 hx hby n0_30 ?_
      exact tail79 l Z a0 hw x1 x2 x3 x2 x1 k4 (k4 &&& (7 : Int32)) h0 X0 hx hby hml hown hret hlk hZ e0 (fun _ => rfl) (fun q => absurd (q24.symm.trans q) (by decide)) (fun q => absurd (q24.symm.trans q) (by decide))
  · refine w_lloadN X0 hx hby n0_8 rfl ?_
    refine w_goto X0 hx hby n0_9 ?_
    refine w_lstore X0 hx hby #[.val (.long x1), .second, .val (.long x2), .second, .val (.long x3), .second, .val (.int k4), .val (.long x1), .second, .unset, .unset, .unset, .unset, .unset, .unset, .unset] n0_13 rfl ?_
    refine w_iload X0 hx hby n0_15 rfl ?_
    refine w_bipush X0 hx hby (7 : Int32) n0_17 rfl ?_
    refine w_iand X0 hx hby n0_19 ?_
    refine w_istore X0 hx hby #[.val (.long x1), .second, .val (.long x2), .second, .val (.long x3), .second, .val (.int k4), .val (.long x1), .second, .val (.int (k4 &&& (7 : Int32))), .unset, .unset, .unset, .unset, .unset, .unset] n0_20 rfl ?_
    refine w_iload X0 hx hby n0_22 rfl ?_
    refine f_if_ne X0 hx hby n0_24 (fun q24 => ?_) (fun q24 => ?_)
    · refine w_iload X0 hx hby n0_33 rfl ?_
      refine w_iconst X0 hx hby (1 : Int32) n0_35 rfl ?_
      refine f_icmp_ne X0 hx hby n0_36 (fun q36 => ?_) (fun q36 => ?_)
      · refine w_iload X0 hx hby n0_47 rfl ?_
        refine w_iconst X0 hx hby (2 : Int32) n0_49 rfl ?_
        refine f_icmp_ne X0 hx hby n0_50 (fun q50 => ?_) (fun q50 => ?_)
        · refine w_iload X0 hx hby n0_60 rfl ?_
          refine w_iconst X0 hx hby (3 : Int32) n0_62 rfl ?_
          refine f_icmp_ne X0 hx hby n0_63 (fun q63 => ?_) (fun q63 => ?_)
          · refine w_lload X0 hx hby n0_75 rfl ?_
            refine w_lstore X0 hx hby #[.val (.long x1), .second, .val (.long x2), .second, .val (.long x3), .second, .val (.int k4), .val (.long x1), .second, .val (.int (k4 &&& (7 : Int32))), .val (.long x3), .second, .unset, .unset, .unset, .unset] n0_77 rfl ?_
            exact tail79 l Z a0 hw x1 x2 x3 x1 x3 k4 (k4 &&& (7 : Int32)) h0 X0 hx hby hml hown hret hlk hZ e0 (fun q => absurd q q24) (fun q => absurd q q36) (fun q => absurd q q50)
          · refine w_lload X0 hx hby n0_66 rfl ?_
            refine w_lconst X0 hx hby (1 : Int64) n0_68 rfl ?_
            refine w_lsub X0 hx hby n0_69 ?_
            refine w_lstore X0 hx hby #[.val (.long x1), .second, .val (.long x2), .second, .val (.long x3), .second, .val (.int k4), .val (.long x1), .second, .val (.int (k4 &&& (7 : Int32))), .val (.long (x1 - (1 : Int64))), .second, .unset, .unset, .unset, .unset] n0_70 rfl ?_
            refine w_goto X0 hx hby n0_72 ?_
            exact tail79 l Z a0 hw x1 x2 x3 x1 (x1 - (1 : Int64)) k4 (k4 &&& (7 : Int32)) h0 X0 hx hby hml hown hret hlk hZ e0 (fun q => absurd q q24) (fun q => absurd q q36) (fun q => absurd q q50)
        · refine w_lload X0 hx hby n0_53 rfl ?_
          refine w_lstore X0 hx hby #[.val (.long x1), .second, .val (.long x2), .second, .val (.long x3), .second, .val (.int k4), .val (.long x1), .second, .val (.int (k4 &&& (7 : Int32))), .val (.long x1), .second, .unset, .unset, .unset, .unset] n0_55 rfl ?_
          refine w_goto X0 hx hby n0_57 ?_
          exact tail79 l Z a0 hw x1 x2 x3 x1 x1 k4 (k4 &&& (7 : Int32)) h0 X0 hx hby hml hown hret hlk hZ e0 (fun q => absurd q q24) (fun q => absurd q q36) (fun _ => rfl)
      · refine w_lloadN X0 hx hby n0_39 rfl ?_
        refine w_lconst X0 hx hby (1 : Int64) n0_40 rfl ?_
        refine w_lsub X0 hx hby n0_41 ?_
        refine w_lstore X0 hx hby #[.val (.long x1), .second, .val (.long x2), .second, .val (.long x3), .second, .val (.int k4), .val (.long x1), .second, .val (.int (k4 &&& (7 : Int32))), .val (.long (x1 - (1 : Int64))), .second, .unset, .unset, .unset, .unset] n0_42 rfl ?_
        refine w_goto X0 hx hby n0_44 ?_
        exact tail79 l Z a0 hw x1 x2 x3 x1 (x1 - (1 : Int64)) k4 (k4 &&& (7 : Int32)) h0 X0 hx hby hml hown hret hlk hZ e0 (fun q => absurd q q24) (fun _ => rfl) (fun q => absurd (q36.symm.trans q) (by decide))
    · refine w_lloadN X0 hx hby n0_27 rfl ?_
      refine w_lstore X0 hx hby #[.val (.long x1), .second, .val (.long x2), .second, .val (.long x3), .second, .val (.int k4), .val (.long x1), .second, .val (.int (k4 &&& (7 : Int32))), .val (.long x1), .second, .unset, .unset, .unset, .unset] n0_28 rfl ?_
      refine w_goto X0 hx hby n0_30 ?_
      exact tail79 l Z a0 hw x1 x2 x3 x1 x1 k4 (k4 &&& (7 : Int32)) h0 X0 hx hby hml hown hret hlk hZ e0 (fun _ => rfl) (fun q => absurd (q24.symm.trans q) (by decide)) (fun q => absurd (q24.symm.trans q) (by decide))
set_option maxRecDepth 65536 in
set_option maxHeartbeats 40000000 in
theorem comes_1 {Post : Tables → Env → Array Value → State → Outcome → State → Prop} (hpost : ∀ tb e args s v u, (limb_1_1.after args s (.returned v) u = true ∧ limb_1_2.after args s (.returned v) u = true) → FrameEnd s (.returned v) u (Jvm.fieldLocs frame_1_writes args s ++ Jvm.arrayLocs frame_1_arrays args s ++ Jvm.staticLocs frame_1_statics s) 16 128 → Post tb e args s (.returned v) u) :
    ArmFor flags0 classFile x code maxLocals ret World_1 tables_1 room_1 Calls_1 rest_1 Pre_1 Post := by
  intro l hfl _ _ p e ha hc hk s m args below hf hA hF happ hP
  obtain ⟨hcalls, hrest, hpre⟩ := hP
  obtain ⟨-, -, -, hnamed, -, -, -, hat⟩ := (Spec.applies_iff hf).mp happ
  obtain ⟨hg, hn⟩ := and_e (Cond.before_iff.mp (show (Jvm.Cond.and given_1 narrow_1).before args s = true from hpre))
  obtain ⟨hcnt, hg⟩ := and_e hg
  obtain ⟨hg0, hg⟩ := and_e hg
  obtain ⟨hg1, hg⟩ := and_e hg
  obtain ⟨hg2, hg⟩ := and_e hg
  have hg3 := hg
  obtain ⟨w0, w1, w2, w3, rfl⟩ : ∃ w0 w1 w2 w3 : Value, args = #[w0, w1, w2, w3] := by
    have hs : args.size = 4 := by simpa [Cond.value, given_1] using hcnt
    obtain ⟨L⟩ := args
    match L, hs with
    | [w0, w1, w2, w3], _ => exact ⟨w0, w1, w2, w3, rfl⟩
  have hw := fun d (hd : d ∈ tables_1) => atoms_spec (ws := Jvm.Cond.code x code maxLocals ret :: tables_1) hat d (List.mem_cons_of_mem _ hd)
  have hfit : Fit s := fun {y c} hc i hi => by
    obtain ⟨ha, rfl⟩ := Array.getElem?_eq_some_iff.mp hc
    have q := List.all_eq_true.mp ((Array.all_eq_true_iff_forall_mem.mp hF) _ (Array.getElem_mem ha)) i (List.mem_range.mpr hi)
    simpa [Array.getElem?_eq_getElem hi] using q
  obtain ⟨i0, ei0⟩ := isL_v hg0
  obtain rfl : w0 = (.long i0) := Option.some.inj ei0
  obtain ⟨i1, ei1⟩ := isL_v hg1
  obtain rfl : w1 = (.long i1) := Option.some.inj ei1
  obtain ⟨i2, ei2⟩ := isL_v hg2
  obtain rfl : w2 = (.long i2) := Option.some.inj ei2
  obtain ⟨i3, ei3⟩ := is_v hg3
  obtain rfl : w3 = (.int i3) := Option.some.inj ei3
  obtain ⟨n, o, h1, h2, h3, _, L, rfl, ⟨rfl, N⟩, hq⟩ := law0 l s _ hw i0 i1 i2 i3 s.heap tables_1 p e ha hc hk s m _ below hf ((Spec.applies_iff_loose hf).mp happ).1 ⟨rfl, State.Warmed39.refl s, rfl⟩ trivial
  exact ⟨n, _, h1, h2, h3, hpost _ _ _ _ _ _ ⟨Cond.after_iff.mpr rfl, Cond.after_iff.mpr (eq_i res_at (Term.int_eval (1)) rfl)⟩ ⟨hq.1, hq.2.1, (hq.2.2.sift fun y hy => Or.inr (N y hy)).mono (by decide) (by decide)⟩⟩
theorem main_1_1 : Claimed_1_1 := comes_1 fun _ _ _ _ _ _ h hF => ⟨h.1, hF⟩
theorem main_1_2 : Claimed_1_2 := comes_1 fun _ _ _ _ _ _ h hF => ⟨h.2, hF⟩
end Jvm.Pilot.@@N@@
namespace Jvm.Pilot.@@N@@
open Jvm Jvm.ClassFile Sem Op Lib Jvm.Free Jvm.Stand Jvm.Pilot.@@N@@.Jvm.D
/-! MADE BY PROGRAM (witnessworld.py) out of the Statement's table words and the real class files: 10 classes; the members and pool entries that the words name. The judged class is class 1, her method 1. -/
namespace start1
open Jvm.ClassFile
def u (s : String) : CpInfo := .utf8 (stringToUtf16 s)
/-- a pool by its gaps: so many unusable entries, then the entry; so many at the end -/
def gap : Nat → List CpInfo → List CpInfo
  | 0, r => r
  | n + 1, r => .unusable :: gap n r
def poolList (es : List (Nat × CpInfo)) (last : Nat) : List CpInfo := es.foldr (fun e r => gap e.1 (e.2 :: r)) (gap last [])
def pool (es : List (Nat × CpInfo)) (last : Nat) : Array CpInfo := ⟨poolList es last⟩
def fileOf (pool : Array CpInfo) (this : Nat) (attrs : Array Attribute := #[]) (ms : Array MethodInfo := #[]) (fl : Nat := 33) (sup : Nat := 0) (ifs : Array Nat := #[]) (fds : Array FieldInfo := #[]) : ClassFile where
  minorVersion := 0
  majorVersion := 65
  constantPool := pool
  accessFlags := fl
  thisClass := this
  superClass := sup
  interfaces := ifs
  fields := fds
  methods := ms
  attributes := attrs
def plain (name : String) (sup : Option ClassId) : Class where
  name := name
  kind := .ordinary
  loader := none
  accessFlags := 33
  super := sup
  interfaces := #[]
  cf := none
  fields := #[]
  methods := #[]
  instanceTypes := #[]
  staticTypes := #[]
  resolved := #[]
  callSites := []
  init := .initialized
  statics := none
  mirror := none

def pool0 : Array CpInfo := pool [(5, u "<init>"), (0, u "()V"), (1, .class_ 10), (1, u "java/lang/Object")] 113

def k0c0 : Code := { maxStack := 0, maxLocals := 1, code := object_method_1_code, exceptionTable := #[], attributes := #[] }
def k0m0 : Method := { name := "<init>", desc := "()V", sig := { parameters := [], returnType := none }, accessFlags := 1, code := some k0c0 }
/-- java/lang/Object -/
def k0 : Class := { plain "java/lang/Object" none with
  accessFlags := 33
  interfaces := #[]
  cf := some (fileOf pool0 8 #[] #[{ accessFlags := 1, nameIndex := 5, descriptorIndex := 6, attributes := #[] }] 33 0 #[] #[])
  fields := #[]
  methods := #[k0m0]
  instanceTypes := #[]
  staticTypes := #[]
  resolved := Array.replicate 124 none
  statics := none }

def pool1 : Array CpInfo := pool [(2, .class_ 4), (1, u "java/lang/Object"), (0, u "<init>"), (0, u "()V"), (0, .class_ 8), (0, u "com/example/panoptes/panoptes/SearchIndex$Version"), (0, .methodref 7 10), (0, .nameAndType 5 11), (0, u "(Lcom/example/panoptes/panoptes/Page;IIJJ)V"), (0, .methodref 7 13), (0, .nameAndType 14 15), (0, u "validAt"), (0, u "(J)Z"), (2, .long 9223372036854775808), (1, .class_ 21), (0, u "com/example/panoptes/panoptes/SearchIndexValidAtPinLaw"), (2, u "law"), (0, u "(JJJI)Z")] 7

def k1m0 : Method := { name := "<init>", desc := "()V", sig := { parameters := [], returnType := none }, accessFlags := 2, code := none }
def k1c1 : Code := { maxStack := 9, maxLocals := 16, code := code, exceptionTable := #[], attributes := #[] }
def k1m1 : Method := { name := "law", desc := "(JJJI)Z", sig := { parameters := [.long, .long, .long, .int], returnType := some .boolean }, accessFlags := 9, code := some k1c1 }
/-- com/example/panoptes/panoptes/SearchIndexValidAtPinLaw -/
def k1 : Class := { plain "com/example/panoptes/panoptes/SearchIndexValidAtPinLaw" (some 0) with
  accessFlags := 49
  interfaces := #[]
  cf := some (fileOf pool1 20 #[] #[{ accessFlags := 2, nameIndex := 5, descriptorIndex := 6, attributes := #[] }, { accessFlags := 9, nameIndex := 24, descriptorIndex := 25, attributes := #[] }] 49 2 #[] #[])
  fields := #[]
  methods := #[k1m0, k1m1]
  instanceTypes := #[]
  staticTypes := #[]
  resolved := Array.replicate 33 none
  statics := none }

def pool2 : Array CpInfo := pool [(1, .methodref 2 3), (0, .class_ 4), (0, .nameAndType 5 6), (0, u "java/lang/Object"), (0, u "<init>"), (0, u "()V"), (0, .class_ 8), (0, u "java/lang/Record")] 13

def k2c0 : Code := { maxStack := 1, maxLocals := 1, code := jdk_30_method_1_code, exceptionTable := #[], attributes := #[] }
def k2m0 : Method := { name := "<init>", desc := "()V", sig := { parameters := [], returnType := none }, accessFlags := 4, code := some k2c0 }
/-- java/lang/Record -/
def k2 : Class := { plain "java/lang/Record" (some 0) with
  accessFlags := 1057
  interfaces := #[]
  cf := some (fileOf pool2 7 #[] #[{ accessFlags := 4, nameIndex := 5, descriptorIndex := 6, attributes := #[] }] 1057 2 #[] #[])
  fields := #[]
  methods := #[k2m0]
  instanceTypes := #[]
  staticTypes := #[]
  resolved := Array.replicate 22 none
  statics := none }

def pool3 : Array CpInfo := pool [(1, .methodref 2 3), (0, .class_ 4), (0, .nameAndType 5 6), (0, u "java/lang/Record"), (0, u "<init>"), (0, u "()V"), (0, .fieldref 8 9), (0, .class_ 10), (0, .nameAndType 11 12), (0, u "com/example/panoptes/panoptes/SearchIndex$Version"), (0, u "page"), (0, u "Lcom/example/panoptes/panoptes/Page;"), (0, .fieldref 8 14), (0, .nameAndType 15 16), (0, u "index"), (0, u "I"), (0, .fieldref 8 18), (0, .nameAndType 19 16), (0, u "titlePlace"), (0, .fieldref 8 21), (0, .nameAndType 22 23), (0, u "validFrom"), (0, u "J"), (0, .fieldref 8 25), (0, .nameAndType 26 23), (0, u "validUntil"), (22, u "(Lcom/example/panoptes/panoptes/Page;IIJJ)V"), (33, u "validAt"), (0, u "(J)Z"), (6, .class_ 92), (0, u "com/example/panoptes/panoptes/SearchIndex")] 23

def k3c0 : Code := { maxStack := 3, maxLocals := 8, code := prog_23_method_2_code, exceptionTable := #[], attributes := #[] }
def k3m0 : Method := { name := "<init>", desc := "(Lcom/example/panoptes/panoptes/Page;IIJJ)V", sig := { parameters := [(.object "com/example/panoptes/panoptes/Page"), .int, .int, .long, .long], returnType := none }, accessFlags := 0, code := some k3c0 }
def k3c1 : Code := { maxStack := 4, maxLocals := 3, code := prog_23_method_4_code, exceptionTable := #[], attributes := #[] }
def k3m1 : Method := { name := "validAt", desc := "(J)Z", sig := { parameters := [.long], returnType := some .boolean }, accessFlags := 0, code := some k3c1 }
/-- com/example/panoptes/panoptes/SearchIndex$Version -/
def k3 : Class := { plain "com/example/panoptes/panoptes/SearchIndex$Version" (some 2) with
  accessFlags := 48
  interfaces := #[]
  cf := some (fileOf pool3 8 #[.nestHost 91] #[{ accessFlags := 0, nameIndex := 5, descriptorIndex := 49, attributes := #[] }, { accessFlags := 0, nameIndex := 83, descriptorIndex := 84, attributes := #[] }] 48 2 #[] #[{ accessFlags := 18, nameIndex := 11, descriptorIndex := 12, attributes := #[] }, { accessFlags := 18, nameIndex := 15, descriptorIndex := 16, attributes := #[] }, { accessFlags := 18, nameIndex := 19, descriptorIndex := 16, attributes := #[] }, { accessFlags := 18, nameIndex := 22, descriptorIndex := 23, attributes := #[] }, { accessFlags := 18, nameIndex := 26, descriptorIndex := 23, attributes := #[] }])
  fields := #[{ name := "page", type := (.object "com/example/panoptes/panoptes/Page"), accessFlags := 18, slot := 0, constantValue := 0 }, { name := "index", type := .int, accessFlags := 18, slot := 1, constantValue := 0 }, { name := "titlePlace", type := .int, accessFlags := 18, slot := 2, constantValue := 0 }, { name := "validFrom", type := .long, accessFlags := 18, slot := 3, constantValue := 0 }, { name := "validUntil", type := .long, accessFlags := 18, slot := 4, constantValue := 0 }]
  methods := #[k3m0, k3m1]
  instanceTypes := #[(.object "com/example/panoptes/panoptes/Page"), .int, .int, .long, .long]
  staticTypes := #[]
  resolved := Array.replicate 116 none
  statics := none }

def pool4 : Array CpInfo := pool [(1, u "java/lang/Cloneable"), (0, .class_ 1), (0, u "java/lang/Object"), (0, .class_ 3)] 3

/-- java/lang/Cloneable -/
def k4 : Class := { plain "java/lang/Cloneable" (some 0) with
  accessFlags := 1537
  interfaces := #[]
  cf := some (fileOf pool4 2 #[] #[] 1537 4 #[] #[])
  fields := #[]
  methods := #[]
  instanceTypes := #[]
  staticTypes := #[]
  resolved := Array.replicate 8 none
  statics := none }

def pool5 : Array CpInfo := pool [(1, u "java/io/Serializable"), (0, .class_ 1), (0, u "java/lang/Object"), (0, .class_ 3)] 3

/-- java/io/Serializable -/
def k5 : Class := { plain "java/io/Serializable" (some 0) with
  accessFlags := 1537
  interfaces := #[]
  cf := some (fileOf pool5 2 #[] #[] 1537 4 #[] #[])
  fields := #[]
  methods := #[]
  instanceTypes := #[]
  staticTypes := #[]
  resolved := Array.replicate 8 none
  statics := none }

/-- the primitive byte -/
def k6 : Class := { plain "byte" none with kind := .primitive 'B', accessFlags := 0x411 }
/-- [B -/
def k7 : Class := { plain "[B" (some 0) with kind := .array 6 .byte, interfaces := #[4, 5], accessFlags := 1041 }

/-- the primitive int -/
def k8 : Class := { plain "int" none with kind := .primitive 'I', accessFlags := 0x411 }
/-- [I -/
def k9 : Class := { plain "[I" (some 0) with kind := .array 8 .int, interfaces := #[4, 5], accessFlags := 1041 }

def heap : Heap := #[]
def classes : Array Class := #[k0, k1, k2, k3, k4, k5, k6, k7, k8, k9]
def interned : List (Array UInt16 × Addr) := []
def slotsUsed : Nat := 0
def theMethod : MethodId := ⟨1, 1⟩
def args0 : Array Value := #[.long 1, .long 5, .long 7, .int 3]
def aboutOver (below : List Frame) : State where
  vm := { classes := classes, interned := interned.toArray }
  heap := heap
  slotsUsed := slotsUsed
  threads := #[{ frames := .invoking theMethod args0 :: below }]
def below0 : List Frame := [.native { method := ⟨0, 0⟩, args := #[] }]
def about1 : State := aboutOver below0
def p0 : Program := .bare "" "" ""
def e0 : Env := launch0.env 0 0 0
theorem w_frames : about1.frames = Frame.invoking theMethod args0 :: below0 := rfl
set_option maxRecDepth 65536 in
theorem w_args : argsFit about1.vm theMethod args0 = true := by decide +kernel
set_option maxRecDepth 65536 in
theorem w_heap : heapFits about1 = true := by decide +kernel
set_option maxRecDepth 65536 in
theorem w_runnable : about1.curStatus? = some .runnable := by decide +kernel
set_option maxRecDepth 65536 in
theorem w_alone : about1.alone = true := by decide +kernel
set_option maxRecDepth 65536 in
theorem w_named : about1.methodNamed? x = some theMethod := by decide +kernel
set_option maxRecDepth 65536 in
theorem w_hears : about1.hears theMethod below0 = true := by decide +kernel
set_option maxRecDepth 65536 in
theorem w_ripe : about1.ripe theMethod args0 below0 = true := by decide +kernel
theorem w_running : about1.status = .running := rfl
set_option maxRecDepth 65536 in
theorem w_room : about1.hasRoom e0.platform room_1 = true :=
  launch0.hasRoom_least _ room_1 (by decide +kernel) (by decide +kernel) (by decide +kernel) (by decide +kernel) (by decide +kernel) (by decide +kernel)
theorem allAtoms_all (ts : List Jvm.Cond) (a : Array Jvm.Value) (st : Jvm.State) : (allAtoms ts).before a st = ts.all (fun c => c.before a st) := by
  induction ts with
  | nil => rfl
  | cons c t ih =>
    show (Jvm.Cond.and c (allAtoms t)).before a st = _
    rw [Jvm.Cond.before_and, ih, List.all_cons]
def words1 : List Jvm.Cond := Jvm.Cond.code x code maxLocals ret :: tables_1
/-- a 'code' word, met by the world's own term for the bytes: nothing is compared byte by byte -/
theorem code_word {y : MethodName} {bytes : ByteArray} {mx : Nat} {rt : Option FieldType} {a : Array Value} {s : State} {m : MethodId} {meth : Method} {c : Code} (h1 : s.methodNamed? y = some m) (h2 : s.vm.method? m = some meth) (h3 : meth.code = some c) (h4 : c.code = bytes)
    (h5 : (c.maxLocals == mx && c.exceptionTable.isEmpty && decide (c.maxStack ≤ mostOperands) && decide (meth.sig.returnType = rt) && !meth.locks && decide (parseMethodDescriptor y.desc = some meth.sig)) = true) : (Jvm.Cond.code y bytes mx rt).before a s = true := by
  simp only [Bool.and_eq_true, beq_iff_eq, Bool.not_eq_true', decide_eq_true_eq] at h5
  obtain ⟨⟨⟨⟨⟨g1, g2⟩, g3⟩, g4⟩, g5⟩, g6⟩ := h5
  simp [Cond.before, Cond.holds, Cond.value, h1, h2, h3, h4, g1, g2, g3, g4, g5, g6]
def isCode : Jvm.Cond → Bool
  | .code _ _ _ _ => true
  | _ => false
theorem all_split {L : List Jvm.Cond} {P : Jvm.Cond → Bool} (h1 : L.all (fun c => isCode c || P c) = true) (h2 : ∀ c ∈ L.filter isCode, P c = true) : L.all P = true := by
  refine List.all_eq_true.mpr fun c hc => ?_
  have h := List.all_eq_true.mp h1 c hc
  rcases Bool.eq_false_or_eq_true (isCode c) with hi | hi
  · exact h2 c (List.mem_filter.mpr ⟨hc, hi⟩)
  · simpa [hi] using h
set_option maxRecDepth 65536 in
theorem w_c0 : (Jvm.Cond.code x code maxLocals ret).before args0 about1 = true := code_word (m := ⟨1, 1⟩) (meth := k1m1) (c := k1c1) (by decide +kernel) rfl rfl rfl (by decide +kernel)
set_option maxRecDepth 65536 in
theorem w_c1 : (Jvm.Cond.code ({ cls := "com/example/panoptes/panoptes/SearchIndex$Version", name := "<init>", desc := "(Lcom/example/panoptes/panoptes/Page;IIJJ)V" } : Jvm.MethodName) prog_23_method_2_code (8 : Nat) (Option.none : Option Jvm.ClassFile.FieldType)).before args0 about1 = true := code_word (m := ⟨3, 0⟩) (meth := k3m0) (c := k3c0) (by decide +kernel) rfl rfl rfl (by decide +kernel)
set_option maxRecDepth 65536 in
theorem w_c2 : (Jvm.Cond.code ({ cls := "java/lang/Record", name := "<init>", desc := "()V" } : Jvm.MethodName) jdk_30_method_1_code (1 : Nat) (Option.none : Option Jvm.ClassFile.FieldType)).before args0 about1 = true := code_word (m := ⟨2, 0⟩) (meth := k2m0) (c := k2c0) (by decide +kernel) rfl rfl rfl (by decide +kernel)
set_option maxRecDepth 65536 in
theorem w_c3 : (Jvm.Cond.code ({ cls := "java/lang/Object", name := "<init>", desc := "()V" } : Jvm.MethodName) object_method_1_code (1 : Nat) (Option.none : Option Jvm.ClassFile.FieldType)).before args0 about1 = true := code_word (m := ⟨0, 0⟩) (meth := k0m0) (c := k0c0) (by decide +kernel) rfl rfl rfl (by decide +kernel)
set_option maxRecDepth 65536 in
theorem w_c4 : (Jvm.Cond.code ({ cls := "com/example/panoptes/panoptes/SearchIndex$Version", name := "validAt", desc := "(J)Z" } : Jvm.MethodName) prog_23_method_4_code (3 : Nat) (Option.some Jvm.ClassFile.FieldType.boolean)).before args0 about1 = true := code_word (m := ⟨3, 1⟩) (meth := k3m1) (c := k3c1) (by decide +kernel) rfl rfl rfl (by decide +kernel)
def codes1 : List Jvm.Cond := [Jvm.Cond.code x code maxLocals ret, Jvm.Cond.code ({ cls := "com/example/panoptes/panoptes/SearchIndex$Version", name := "<init>", desc := "(Lcom/example/panoptes/panoptes/Page;IIJJ)V" } : Jvm.MethodName) prog_23_method_2_code (8 : Nat) (Option.none : Option Jvm.ClassFile.FieldType), Jvm.Cond.code ({ cls := "java/lang/Record", name := "<init>", desc := "()V" } : Jvm.MethodName) jdk_30_method_1_code (1 : Nat) (Option.none : Option Jvm.ClassFile.FieldType), Jvm.Cond.code ({ cls := "java/lang/Object", name := "<init>", desc := "()V" } : Jvm.MethodName) object_method_1_code (1 : Nat) (Option.none : Option Jvm.ClassFile.FieldType), Jvm.Cond.code ({ cls := "com/example/panoptes/panoptes/SearchIndex$Version", name := "validAt", desc := "(J)Z" } : Jvm.MethodName) prog_23_method_4_code (3 : Nat) (Option.some Jvm.ClassFile.FieldType.boolean)]
set_option maxRecDepth 65536 in
theorem codes_eq : words1.filter isCode = codes1 := rfl
theorem w_codes : ∀ c ∈ words1.filter isCode, c.before args0 about1 = true := by
  rw [codes_eq]
  intro c hc
  simp only [codes1, List.mem_cons, List.not_mem_nil, or_false] at hc
  rcases hc with rfl | rfl | rfl | rfl | rfl
  · exact w_c0
  · exact w_c1
  · exact w_c2
  · exact w_c3
  · exact w_c4
set_option maxRecDepth 65536 in
theorem w_t1 : (words1.take 24).all (fun c => isCode c || c.before args0 about1) = true := by decide +kernel
set_option maxRecDepth 65536 in
theorem w_t2 : (words1.drop 24).all (fun c => isCode c || c.before args0 about1) = true := by decide +kernel
theorem w_tables : (allAtoms (Jvm.Cond.code x code maxLocals ret :: tables_1)).before args0 about1 = true := by
  rw [allAtoms_all]
  show words1.all (fun c => c.before args0 about1) = true
  refine all_split ?_ w_codes
  rw [← List.take_append_drop 24 words1, List.all_append, w_t1, w_t2]
  rfl
set_option maxRecDepth 65536 in
theorem w_case : (Jvm.Cond.and given_1 narrow_1).before args0 about1 = true := by decide +kernel
theorem w_applies : (headSpec (Jvm.Cond.code x code maxLocals ret :: tables_1) room_1).applies x e0.platform about1 = true :=
  (Spec.applies_iff w_frames).mpr ⟨w_running, w_runnable, w_alone, w_named, w_hears, w_ripe, w_room, w_tables⟩
theorem atStart : AtStart classFile x code maxLocals ret World_1 tables_1 room_1 Calls_1 rest_1 Pre_1 launch0 p0 e0 about1 theMethod args0 below0 :=
  ⟨lists_1, trivial, launch0.admits_env _ _ _, launch0.least_env, fairChoices_fair.cas, fairChoices_fair.clock, w_frames, w_args, w_heap, w_applies, trivial, trivial, w_case⟩
end start1
theorem witness_1 : WitnessClaimed_1 := ⟨start1.p0, start1.e0, start1.about1, start1.theMethod, start1.args0, start1.below0, start1.atStart⟩
end Jvm.Pilot.@@N@@
