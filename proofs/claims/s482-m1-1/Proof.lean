import JvmDerived
import JvmDerived.Pilot.@@N@@Statement
import JvmDerived.Pilot.@@N@@Code
set_option linter.unusedVariables false
set_option linter.unusedSimpArgs false
namespace Jvm.Pilot.@@N@@
open Jvm Jvm.ClassFile Sem Op Lib Jvm.Free Jvm.Stand Jvm.LawKit Jvm.RoadKit Bundle Jvm.Pilot.@@N@@.Jvm.D
section OwnKit
variable {p : Program} {l : Launch} {e : Env} {R : Room} {s : State} {m : MethodId} {args : Array Value} {below : List Frame} {meth : Method} {c : Code} {T : State} {locs : List Loc} {cells slots : Nat} {Z : State} {a0 : Array Value} {h : Heap} {K N : Nat} {Q : Option Value → Heap → List Loc → Prop} {pc nx tg : Nat} {Ls : Array Slot} {st : List Value} {bs : ByteArray} {o : Int}
/-- from the frame g at T the run ends, returning, as Q says -/
def Wp (p : Program) (e : Env) (below : List Frame) (s : State) (K N : Nat) (Q : Option Value → Heap → List Loc → Prop) (T : State) (g : JFrame) : Prop :=
  ∃ s₂ o, Steps p.tables e below (T.setTop g) s₂ ∧ s₂.status = .running ∧ Ended s₂ below o ∧ ∃ v L, o = .returned v ∧ Q v s₂.heap L ∧ FrameEnd s o s₂ L K N
theorem Wp.go {T' : State} {g g' : JFrame} (st : ∀ target, Steps p.tables e below (T'.setTop g') target → Steps p.tables e below (T.setTop g) target) (k : Wp p e below s K N Q T' g') : Wp p e below s K N Q T g := by
  obtain ⟨s₂, o, h1, h2⟩ := k; exact ⟨s₂, o, st _ h1, h2⟩
theorem Wp.tr {T' : State} {g g' : JFrame} (st : Steps p.tables e below (T.setTop g) (T'.setTop g')) (k : Wp p e below s K N Q T' g') : Wp p e below s K N Q T g := by
  obtain ⟨s₂, o, h1, h2⟩ := k; exact ⟨s₂, o, st.trans h1, h2⟩
/-- the instruction i, len bytes long, stands at pc; the next one at nx -/
def In (bs : ByteArray) (pc : Nat) (i : Instr) (len nx : Nat) : Prop := decode bs pc = .ok (i, len) ∧ pc + len = nx
/-- a jump by o: the next one at nx, the target at tg -/
def Jm (bs : ByteArray) (pc : Nat) (i : Instr) (o : Int) (nx tg : Nat) : Prop := decode bs pc = .ok (i, 3) ∧ pc + 3 = nx ∧ 0 ≤ (pc : Int) + o ∧ ((pc : Int) + o).toNat = tg

theorem w_iadd (X : Stand p l e R s m args below meth c T locs cells slots) (hx : p.tables.exec = Jvm.exec) (hby : c.code = bs) {x y : Int32} (hd : In bs pc (.iadd) 1 nx) (k : Wp p e below s K N Q T (mkF m nx Ls (.int (x + y) :: st))) : Wp p e below s K N Q T (mkF m pc Ls (.int y :: .int x :: st)) := by
  obtain ⟨d, rfl⟩ := hd; exact Wp.go (fun t kk => XS.iadd X.here hx rfl (hb hby d) rfl kk) k
theorem w_isub (X : Stand p l e R s m args below meth c T locs cells slots) (hx : p.tables.exec = Jvm.exec) (hby : c.code = bs) {x y : Int32} (hd : In bs pc (.isub) 1 nx) (k : Wp p e below s K N Q T (mkF m nx Ls (.int (x - y) :: st))) : Wp p e below s K N Q T (mkF m pc Ls (.int y :: .int x :: st)) := by
  obtain ⟨d, rfl⟩ := hd; exact Wp.go (fun t kk => XS.isub X.here hx rfl (hb hby d) rfl kk) k
theorem w_iand (X : Stand p l e R s m args below meth c T locs cells slots) (hx : p.tables.exec = Jvm.exec) (hby : c.code = bs) {x y : Int32} (hd : In bs pc (.iand) 1 nx) (k : Wp p e below s K N Q T (mkF m nx Ls (.int (x &&& y) :: st))) : Wp p e below s K N Q T (mkF m pc Ls (.int y :: .int x :: st)) := by
  obtain ⟨d, rfl⟩ := hd; exact Wp.go (fun t kk => XS.iand X.here hx rfl (hb hby d) rfl kk) k
theorem w_imul (X : Stand p l e R s m args below meth c T locs cells slots) (hx : p.tables.exec = Jvm.exec) (hby : c.code = bs) {x y : Int32} (hd : In bs pc (.imul) 1 nx) (k : Wp p e below s K N Q T (mkF m nx Ls (.int (x * y) :: st))) : Wp p e below s K N Q T (mkF m pc Ls (.int y :: .int x :: st)) := by
  obtain ⟨d, rfl⟩ := hd; exact Wp.go (fun t kk => XS.imul X.here hx rfl (hb hby d) rfl kk) k
theorem w_ior (X : Stand p l e R s m args below meth c T locs cells slots) (hx : p.tables.exec = Jvm.exec) (hby : c.code = bs) {x y : Int32} (hd : In bs pc (.ior) 1 nx) (k : Wp p e below s K N Q T (mkF m nx Ls (.int (x ||| y) :: st))) : Wp p e below s K N Q T (mkF m pc Ls (.int y :: .int x :: st)) := by
  obtain ⟨d, rfl⟩ := hd; exact Wp.go (fun t kk => XS.ior X.here hx rfl (hb hby d) rfl kk) k
theorem w_ixor (X : Stand p l e R s m args below meth c T locs cells slots) (hx : p.tables.exec = Jvm.exec) (hby : c.code = bs) {x y : Int32} (hd : In bs pc (.ixor) 1 nx) (k : Wp p e below s K N Q T (mkF m nx Ls (.int (x ^^^ y) :: st))) : Wp p e below s K N Q T (mkF m pc Ls (.int y :: .int x :: st)) := by
  obtain ⟨d, rfl⟩ := hd; exact Wp.go (fun t kk => XS.ixor X.here hx rfl (hb hby d) rfl kk) k
theorem w_ishl (X : Stand p l e R s m args below meth c T locs cells slots) (hx : p.tables.exec = Jvm.exec) (hby : c.code = bs) {x y : Int32} (hd : In bs pc (.ishl) 1 nx) (k : Wp p e below s K N Q T (mkF m nx Ls (.int (x <<< (y &&& 31)) :: st))) : Wp p e below s K N Q T (mkF m pc Ls (.int y :: .int x :: st)) := by
  obtain ⟨d, rfl⟩ := hd; exact Wp.go (fun t kk => XS.ishl X.here hx rfl (hb hby d) rfl kk) k
theorem w_ishr (X : Stand p l e R s m args below meth c T locs cells slots) (hx : p.tables.exec = Jvm.exec) (hby : c.code = bs) {x y : Int32} (hd : In bs pc (.ishr) 1 nx) (k : Wp p e below s K N Q T (mkF m nx Ls (.int (x >>> (y &&& 31)) :: st))) : Wp p e below s K N Q T (mkF m pc Ls (.int y :: .int x :: st)) := by
  obtain ⟨d, rfl⟩ := hd; exact Wp.go (fun t kk => XS.ishr X.here hx rfl (hb hby d) rfl kk) k
theorem w_iushr (X : Stand p l e R s m args below meth c T locs cells slots) (hx : p.tables.exec = Jvm.exec) (hby : c.code = bs) {x y : Int32} (hd : In bs pc (.iushr) 1 nx) (k : Wp p e below s K N Q T (mkF m nx Ls (.int ((x.toUInt32 >>> (y &&& 31).toUInt32).toInt32) :: st))) : Wp p e below s K N Q T (mkF m pc Ls (.int y :: .int x :: st)) := by
  obtain ⟨d, rfl⟩ := hd; exact Wp.go (fun t kk => XS.iushr X.here hx rfl (hb hby d) rfl kk) k
theorem w_ladd (X : Stand p l e R s m args below meth c T locs cells slots) (hx : p.tables.exec = Jvm.exec) (hby : c.code = bs) {x y : Int64} (hd : In bs pc (.ladd) 1 nx) (k : Wp p e below s K N Q T (mkF m nx Ls (.long (x + y) :: st))) : Wp p e below s K N Q T (mkF m pc Ls (.long y :: .long x :: st)) := by
  obtain ⟨d, rfl⟩ := hd; exact Wp.go (fun t kk => XS.ladd X.here hx rfl (hb hby d) rfl kk) k
theorem w_lsub (X : Stand p l e R s m args below meth c T locs cells slots) (hx : p.tables.exec = Jvm.exec) (hby : c.code = bs) {x y : Int64} (hd : In bs pc (.lsub) 1 nx) (k : Wp p e below s K N Q T (mkF m nx Ls (.long (x - y) :: st))) : Wp p e below s K N Q T (mkF m pc Ls (.long y :: .long x :: st)) := by
  obtain ⟨d, rfl⟩ := hd; exact Wp.go (fun t kk => XS.lsub X.here hx rfl (hb hby d) rfl kk) k
theorem w_land (X : Stand p l e R s m args below meth c T locs cells slots) (hx : p.tables.exec = Jvm.exec) (hby : c.code = bs) {x y : Int64} (hd : In bs pc (.land) 1 nx) (k : Wp p e below s K N Q T (mkF m nx Ls (.long (x &&& y) :: st))) : Wp p e below s K N Q T (mkF m pc Ls (.long y :: .long x :: st)) := by
  obtain ⟨d, rfl⟩ := hd; exact Wp.go (fun t kk => XS.land X.here hx rfl (hb hby d) rfl kk) k
theorem w_lmul (X : Stand p l e R s m args below meth c T locs cells slots) (hx : p.tables.exec = Jvm.exec) (hby : c.code = bs) {x y : Int64} (hd : In bs pc (.lmul) 1 nx) (k : Wp p e below s K N Q T (mkF m nx Ls (.long (x * y) :: st))) : Wp p e below s K N Q T (mkF m pc Ls (.long y :: .long x :: st)) := by
  obtain ⟨d, rfl⟩ := hd; exact Wp.go (fun t kk => XS.lmul X.here hx rfl (hb hby d) rfl kk) k
theorem w_lor (X : Stand p l e R s m args below meth c T locs cells slots) (hx : p.tables.exec = Jvm.exec) (hby : c.code = bs) {x y : Int64} (hd : In bs pc (.lor) 1 nx) (k : Wp p e below s K N Q T (mkF m nx Ls (.long (x ||| y) :: st))) : Wp p e below s K N Q T (mkF m pc Ls (.long y :: .long x :: st)) := by
  obtain ⟨d, rfl⟩ := hd; exact Wp.go (fun t kk => XS.lor X.here hx rfl (hb hby d) rfl kk) k
theorem w_lxor (X : Stand p l e R s m args below meth c T locs cells slots) (hx : p.tables.exec = Jvm.exec) (hby : c.code = bs) {x y : Int64} (hd : In bs pc (.lxor) 1 nx) (k : Wp p e below s K N Q T (mkF m nx Ls (.long (x ^^^ y) :: st))) : Wp p e below s K N Q T (mkF m pc Ls (.long y :: .long x :: st)) := by
  obtain ⟨d, rfl⟩ := hd; exact Wp.go (fun t kk => XS.lxor X.here hx rfl (hb hby d) rfl kk) k
theorem w_lshl (X : Stand p l e R s m args below meth c T locs cells slots) (hx : p.tables.exec = Jvm.exec) (hby : c.code = bs) {x : Int64} {y : Int32} (hd : In bs pc (.lshl) 1 nx) (k : Wp p e below s K N Q T (mkF m nx Ls (.long (x <<< (y &&& 0x3f).toInt64) :: st))) : Wp p e below s K N Q T (mkF m pc Ls (.int y :: .long x :: st)) := by
  obtain ⟨d, rfl⟩ := hd; exact Wp.go (fun t kk => XS.lshl X.here hx rfl (hb hby d) rfl kk) k
theorem w_lshr (X : Stand p l e R s m args below meth c T locs cells slots) (hx : p.tables.exec = Jvm.exec) (hby : c.code = bs) {x : Int64} {y : Int32} (hd : In bs pc (.lshr) 1 nx) (k : Wp p e below s K N Q T (mkF m nx Ls (.long (x >>> (y &&& 0x3f).toInt64) :: st))) : Wp p e below s K N Q T (mkF m pc Ls (.int y :: .long x :: st)) := by
  obtain ⟨d, rfl⟩ := hd; exact Wp.go (fun t kk => XS.lshr X.here hx rfl (hb hby d) rfl kk) k
theorem w_lushr (X : Stand p l e R s m args below meth c T locs cells slots) (hx : p.tables.exec = Jvm.exec) (hby : c.code = bs) {x : Int64} {y : Int32} (hd : In bs pc (.lushr) 1 nx) (k : Wp p e below s K N Q T (mkF m nx Ls (.long ((x.toUInt64 >>> (y &&& 0x3f).toInt64.toUInt64).toInt64) :: st))) : Wp p e below s K N Q T (mkF m pc Ls (.int y :: .long x :: st)) := by
  obtain ⟨d, rfl⟩ := hd; exact Wp.go (fun t kk => XS.lushr X.here hx rfl (hb hby d) rfl kk) k
theorem w_i2b (X : Stand p l e R s m args below meth c T locs cells slots) (hx : p.tables.exec = Jvm.exec) (hby : c.code = bs) {x : Int32} (hd : In bs pc (.i2b) 1 nx) (k : Wp p e below s K N Q T (mkF m nx Ls (.int (x.toInt8.toInt32) :: st))) : Wp p e below s K N Q T (mkF m pc Ls (.int x :: st)) := by
  obtain ⟨d, rfl⟩ := hd; exact Wp.go (fun t kk => XS.i2b X.here hx rfl (hb hby d) rfl kk) k
theorem w_i2c (X : Stand p l e R s m args below meth c T locs cells slots) (hx : p.tables.exec = Jvm.exec) (hby : c.code = bs) {x : Int32} (hd : In bs pc (.i2c) 1 nx) (k : Wp p e below s K N Q T (mkF m nx Ls (.int (x.toUInt32.toUInt16.toUInt32.toInt32) :: st))) : Wp p e below s K N Q T (mkF m pc Ls (.int x :: st)) := by
  obtain ⟨d, rfl⟩ := hd; exact Wp.go (fun t kk => XS.i2c X.here hx rfl (hb hby d) rfl kk) k
theorem w_i2s (X : Stand p l e R s m args below meth c T locs cells slots) (hx : p.tables.exec = Jvm.exec) (hby : c.code = bs) {x : Int32} (hd : In bs pc (.i2s) 1 nx) (k : Wp p e below s K N Q T (mkF m nx Ls (.int (x.toInt16.toInt32) :: st))) : Wp p e below s K N Q T (mkF m pc Ls (.int x :: st)) := by
  obtain ⟨d, rfl⟩ := hd; exact Wp.go (fun t kk => XS.i2s X.here hx rfl (hb hby d) rfl kk) k
theorem w_ineg (X : Stand p l e R s m args below meth c T locs cells slots) (hx : p.tables.exec = Jvm.exec) (hby : c.code = bs) {x : Int32} (hd : In bs pc (.ineg) 1 nx) (k : Wp p e below s K N Q T (mkF m nx Ls (.int (-x) :: st))) : Wp p e below s K N Q T (mkF m pc Ls (.int x :: st)) := by
  obtain ⟨d, rfl⟩ := hd; exact Wp.go (fun t kk => XS.ineg X.here hx rfl (hb hby d) rfl kk) k
theorem w_i2l (X : Stand p l e R s m args below meth c T locs cells slots) (hx : p.tables.exec = Jvm.exec) (hby : c.code = bs) {x : Int32} (hd : In bs pc (.i2l) 1 nx) (k : Wp p e below s K N Q T (mkF m nx Ls (.long x.toInt64 :: st))) : Wp p e below s K N Q T (mkF m pc Ls (.int x :: st)) := by
  obtain ⟨d, rfl⟩ := hd; exact Wp.go (fun t kk => XS.i2l X.here hx rfl (hb hby d) rfl kk) k
theorem w_l2i (X : Stand p l e R s m args below meth c T locs cells slots) (hx : p.tables.exec = Jvm.exec) (hby : c.code = bs) {x : Int64} (hd : In bs pc (.l2i) 1 nx) (k : Wp p e below s K N Q T (mkF m nx Ls (.int x.toInt32 :: st))) : Wp p e below s K N Q T (mkF m pc Ls (.long x :: st)) := by
  obtain ⟨d, rfl⟩ := hd; exact Wp.go (fun t kk => XS.l2i X.here hx rfl (hb hby d) rfl kk) k
theorem w_lneg (X : Stand p l e R s m args below meth c T locs cells slots) (hx : p.tables.exec = Jvm.exec) (hby : c.code = bs) {x : Int64} (hd : In bs pc (.lneg) 1 nx) (k : Wp p e below s K N Q T (mkF m nx Ls (.long (-x) :: st))) : Wp p e below s K N Q T (mkF m pc Ls (.long x :: st)) := by
  obtain ⟨d, rfl⟩ := hd; exact Wp.go (fun t kk => XS.lneg X.here hx rfl (hb hby d) rfl kk) k
theorem w_idiv (X : Stand p l e R s m args below meth c T locs cells slots) (hx : p.tables.exec = Jvm.exec) (hby : c.code = bs) {x y : Int32} (hd : In bs pc (.idiv) 1 nx) (hy : y ≠ 0) (k : Wp p e below s K N Q T (mkF m nx Ls (.int (x / y) :: st))) : Wp p e below s K N Q T (mkF m pc Ls (.int y :: .int x :: st)) := by
  obtain ⟨d, rfl⟩ := hd; exact Wp.go (fun t kk => XS.idiv X.here hx rfl (hb hby d) rfl hy kk) k
theorem w_irem (X : Stand p l e R s m args below meth c T locs cells slots) (hx : p.tables.exec = Jvm.exec) (hby : c.code = bs) {x y : Int32} (hd : In bs pc .irem 1 nx) (hy : y ≠ 0) (k : Wp p e below s K N Q T (mkF m nx Ls (.int (x % y) :: st))) : Wp p e below s K N Q T (mkF m pc Ls (.int y :: .int x :: st)) := by
  obtain ⟨d, rfl⟩ := hd; exact Wp.go (fun t kk => iremM X hx rfl (hb hby d) rfl hy kk) k
theorem w_ldiv (X : Stand p l e R s m args below meth c T locs cells slots) (hx : p.tables.exec = Jvm.exec) (hby : c.code = bs) {x y : Int64} (hd : In bs pc (.ldiv) 1 nx) (hy : y ≠ 0) (k : Wp p e below s K N Q T (mkF m nx Ls (.long (x / y) :: st))) : Wp p e below s K N Q T (mkF m pc Ls (.long y :: .long x :: st)) := by
  obtain ⟨d, rfl⟩ := hd; exact Wp.go (fun t kk => XS.ldiv X.here hx rfl (hb hby d) rfl hy kk) k
theorem w_lrem (X : Stand p l e R s m args below meth c T locs cells slots) (hx : p.tables.exec = Jvm.exec) (hby : c.code = bs) {x y : Int64} (hd : In bs pc .lrem 1 nx) (hy : y ≠ 0) (k : Wp p e below s K N Q T (mkF m nx Ls (.long (x % y) :: st))) : Wp p e below s K N Q T (mkF m pc Ls (.long y :: .long x :: st)) := by
  obtain ⟨d, rfl⟩ := hd; refine Wp.go (fun t kk => XS.lrem X.here hx rfl (hb hby d) rfl hy kk) ?_; rw [lrem_mod]; exact k
theorem w_aconst_null (X : Stand p l e R s m args below meth c T locs cells slots) (hx : p.tables.exec = Jvm.exec) (hby : c.code = bs)  (hd : In bs pc (.aconst_null) 1 nx) (k : Wp p e below s K N Q T (mkF m nx Ls (.null :: st))) : Wp p e below s K N Q T (mkF m pc Ls (st)) := by
  obtain ⟨d, rfl⟩ := hd; exact Wp.go (fun t kk => XS.aconstNull X.here hx rfl (hb hby d) kk) k
theorem w_dup (X : Stand p l e R s m args below meth c T locs cells slots) (hx : p.tables.exec = Jvm.exec) (hby : c.code = bs) {x : Value} (hd : In bs pc (.dup) 1 nx) (hc : x.category = 1) (k : Wp p e below s K N Q T (mkF m nx Ls (x :: x :: st))) : Wp p e below s K N Q T (mkF m pc Ls (x :: st)) := by
  obtain ⟨d, rfl⟩ := hd; exact Wp.go (fun t kk => XS.dup X.here hx rfl (hb hby d) rfl hc kk) k
theorem w_dup_x1 (X : Stand p l e R s m args below meth c T locs cells slots) (hx : p.tables.exec = Jvm.exec) (hby : c.code = bs) {x y : Value} (hd : In bs pc (.dup_x1) 1 nx) (hc : x.category = 1) (hc2 : y.category = 1) (k : Wp p e below s K N Q T (mkF m nx Ls (x :: y :: x :: st))) : Wp p e below s K N Q T (mkF m pc Ls (x :: y :: st)) := by
  obtain ⟨d, rfl⟩ := hd; exact Wp.go (fun t kk => XS.dupX1 X.here hx rfl (hb hby d) rfl hc hc2 kk) k
theorem w_dup2 (X : Stand p l e R s m args below meth c T locs cells slots) (hx : p.tables.exec = Jvm.exec) (hby : c.code = bs) {x y : Value} (hd : In bs pc (.dup2) 1 nx) (hc : x.category = 1) (hc2 : y.category = 1) (k : Wp p e below s K N Q T (mkF m nx Ls (x :: y :: x :: y :: st))) : Wp p e below s K N Q T (mkF m pc Ls (x :: y :: st)) := by
  obtain ⟨d, rfl⟩ := hd; exact Wp.go (fun t kk => XT.dup2 X.here hx rfl (hb hby d) rfl hc hc2 kk) k
theorem w_dup2L (X : Stand p l e R s m args below meth c T locs cells slots) (hx : p.tables.exec = Jvm.exec) (hby : c.code = bs) {x : Int64} (hd : In bs pc (.dup2) 1 nx) (k : Wp p e below s K N Q T (mkF m nx Ls (.long x :: .long x :: st))) : Wp p e below s K N Q T (mkF m pc Ls (.long x :: st)) := by
  obtain ⟨d, rfl⟩ := hd; exact Wp.go (fun t kk => XT.dup2L X.here hx rfl (hb hby d) rfl kk) k
theorem w_pop (X : Stand p l e R s m args below meth c T locs cells slots) (hx : p.tables.exec = Jvm.exec) (hby : c.code = bs) {x : Value} (hd : In bs pc (.pop) 1 nx) (hc : x.category = 1) (k : Wp p e below s K N Q T (mkF m nx Ls (st))) : Wp p e below s K N Q T (mkF m pc Ls (x :: st)) := by
  obtain ⟨d, rfl⟩ := hd; exact Wp.go (fun t kk => XS.pop X.here hx rfl (hb hby d) rfl hc kk) k
theorem w_iconst (X : Stand p l e R s m args below meth c T locs cells slots) (hx : p.tables.exec = Jvm.exec) (hby : c.code = bs) {i : Int} (v : Int32) (hd : In bs pc (.iconst i) 1 nx) (hv : Int32.ofInt i = v) (k : Wp p e below s K N Q T (mkF m nx Ls (.int v :: st))) : Wp p e below s K N Q T (mkF m pc Ls (st)) := by
  obtain ⟨d, rfl⟩ := hd; exact Wp.go (fun t kk => XT.iconstV X.here hx rfl v (hb hby d) hv kk) k
theorem w_bipush (X : Stand p l e R s m args below meth c T locs cells slots) (hx : p.tables.exec = Jvm.exec) (hby : c.code = bs) {i : Int} (v : Int32) (hd : In bs pc (.bipush i) 2 nx) (hv : (Int8.ofInt i).toInt32 = v) (k : Wp p e below s K N Q T (mkF m nx Ls (.int v :: st))) : Wp p e below s K N Q T (mkF m pc Ls (st)) := by
  obtain ⟨d, rfl⟩ := hd; exact Wp.go (fun t kk => XT.bipushV X.here hx rfl v (hb hby d) hv kk) k
theorem w_sipush (X : Stand p l e R s m args below meth c T locs cells slots) (hx : p.tables.exec = Jvm.exec) (hby : c.code = bs) {i : Int} (v : Int32) (hd : In bs pc (.sipush i) 3 nx) (hv : (Int16.ofInt i).toInt32 = v) (k : Wp p e below s K N Q T (mkF m nx Ls (.int v :: st))) : Wp p e below s K N Q T (mkF m pc Ls (st)) := by
  obtain ⟨d, rfl⟩ := hd; exact Wp.go (fun t kk => XT.sipushV X.here hx rfl v (hb hby d) hv kk) k
theorem w_lconst (X : Stand p l e R s m args below meth c T locs cells slots) (hx : p.tables.exec = Jvm.exec) (hby : c.code = bs) {i : Fin 2} (v : Int64) (hd : In bs pc (.lconst i) 1 nx) (hv : Int64.ofNat i = v) (k : Wp p e below s K N Q T (mkF m nx Ls (.long v :: st))) : Wp p e below s K N Q T (mkF m pc Ls (st)) := by
  obtain ⟨d, rfl⟩ := hd; exact Wp.go (fun t kk => XT.lconstV X.here hx rfl v (hb hby d) hv kk) k
theorem w_iloadN (X : Stand p l e R s m args below meth c T locs cells slots) (hx : p.tables.exec = Jvm.exec) (hby : c.code = bs) {i : Fin 4} {v : Int32} (hd : In bs pc (.iload_n i) 1 nx) (hl : Ls[i.val]? = some (.val (.int v))) (k : Wp p e below s K N Q T (mkF m nx Ls (.int v :: st))) : Wp p e below s K N Q T (mkF m pc Ls (st)) := by
  obtain ⟨d, rfl⟩ := hd; exact Wp.go (fun t kk => XS.iloadN X.here hx rfl (hb hby d) hl kk) k
theorem w_lloadN (X : Stand p l e R s m args below meth c T locs cells slots) (hx : p.tables.exec = Jvm.exec) (hby : c.code = bs) {i : Fin 4} {v : Int64} (hd : In bs pc (.lload_n i) 1 nx) (hl : Ls[i.val]? = some (.val (.long v))) (k : Wp p e below s K N Q T (mkF m nx Ls (.long v :: st))) : Wp p e below s K N Q T (mkF m pc Ls (st)) := by
  obtain ⟨d, rfl⟩ := hd; exact Wp.go (fun t kk => XS.lloadN X.here hx rfl (hb hby d) hl kk) k
theorem w_aloadN (X : Stand p l e R s m args below meth c T locs cells slots) (hx : p.tables.exec = Jvm.exec) (hby : c.code = bs) {i : Fin 4} {v : Value} (hd : In bs pc (.aload_n i) 1 nx) (hl : Ls[i.val]? = some (.val v)) (hv : v.isRef = true) (k : Wp p e below s K N Q T (mkF m nx Ls (v :: st))) : Wp p e below s K N Q T (mkF m pc Ls (st)) := by
  obtain ⟨d, rfl⟩ := hd; exact Wp.go (fun t kk => XS.aloadN X.here hx rfl (hb hby d) hl hv kk) k
theorem w_istoreN (X : Stand p l e R s m args below meth c T locs cells slots) (hx : p.tables.exec = Jvm.exec) (hby : c.code = bs) {i : Fin 4} {v : Int32} (l' : Array Slot) (hd : In bs pc (.istore_n i) 1 nx) (hl : storeLocals Ls i.val (.int v) = some l') (k : Wp p e below s K N Q T (mkF m nx l' (st))) : Wp p e below s K N Q T (mkF m pc Ls (.int v :: st)) := by
  obtain ⟨d, rfl⟩ := hd; exact Wp.go (fun t kk => XS.istoreN X.here hx rfl (hb hby d) rfl hl kk) k
theorem w_lstoreN (X : Stand p l e R s m args below meth c T locs cells slots) (hx : p.tables.exec = Jvm.exec) (hby : c.code = bs) {i : Fin 4} {v : Int64} (l' : Array Slot) (hd : In bs pc (.lstore_n i) 1 nx) (hl : storeLocals Ls i.val (.long v) = some l') (k : Wp p e below s K N Q T (mkF m nx l' (st))) : Wp p e below s K N Q T (mkF m pc Ls (.long v :: st)) := by
  obtain ⟨d, rfl⟩ := hd; exact Wp.go (fun t kk => XS.lstoreN X.here hx rfl (hb hby d) rfl hl kk) k
theorem w_astoreN (X : Stand p l e R s m args below meth c T locs cells slots) (hx : p.tables.exec = Jvm.exec) (hby : c.code = bs) {i : Fin 4} {v : Value} (l' : Array Slot) (hd : In bs pc (.astore_n i) 1 nx) (hv : v.isRef = true) (hl : storeLocals Ls i.val v = some l') (k : Wp p e below s K N Q T (mkF m nx l' (st))) : Wp p e below s K N Q T (mkF m pc Ls (v :: st)) := by
  obtain ⟨d, rfl⟩ := hd; exact Wp.go (fun t kk => XS.astoreN X.here hx rfl (hb hby d) rfl hv hl kk) k
theorem w_iload (X : Stand p l e R s m args below meth c T locs cells slots) (hx : p.tables.exec = Jvm.exec) (hby : c.code = bs) {i : Nat} {v : Int32} (hd : In bs pc (.iload i) 2 nx) (hl : Ls[i]? = some (.val (.int v))) (k : Wp p e below s K N Q T (mkF m nx Ls (.int v :: st))) : Wp p e below s K N Q T (mkF m pc Ls (st)) := by
  obtain ⟨d, rfl⟩ := hd; exact Wp.go (fun t kk => XS.iload X.here hx rfl (hb hby d) hl kk) k
theorem w_lload (X : Stand p l e R s m args below meth c T locs cells slots) (hx : p.tables.exec = Jvm.exec) (hby : c.code = bs) {i : Nat} {v : Int64} (hd : In bs pc (.lload i) 2 nx) (hl : Ls[i]? = some (.val (.long v))) (k : Wp p e below s K N Q T (mkF m nx Ls (.long v :: st))) : Wp p e below s K N Q T (mkF m pc Ls (st)) := by
  obtain ⟨d, rfl⟩ := hd; exact Wp.go (fun t kk => XS.lload X.here hx rfl (hb hby d) hl kk) k
theorem w_aload (X : Stand p l e R s m args below meth c T locs cells slots) (hx : p.tables.exec = Jvm.exec) (hby : c.code = bs) {i : Nat} {v : Value} (hd : In bs pc (.aload i) 2 nx) (hl : Ls[i]? = some (.val v)) (hv : v.isRef = true) (k : Wp p e below s K N Q T (mkF m nx Ls (v :: st))) : Wp p e below s K N Q T (mkF m pc Ls (st)) := by
  obtain ⟨d, rfl⟩ := hd; exact Wp.go (fun t kk => XS.aload X.here hx rfl (hb hby d) hl hv kk) k
theorem w_istore (X : Stand p l e R s m args below meth c T locs cells slots) (hx : p.tables.exec = Jvm.exec) (hby : c.code = bs) {i : Nat} {v : Int32} (l' : Array Slot) (hd : In bs pc (.istore i) 2 nx) (hl : storeLocals Ls i (.int v) = some l') (k : Wp p e below s K N Q T (mkF m nx l' (st))) : Wp p e below s K N Q T (mkF m pc Ls (.int v :: st)) := by
  obtain ⟨d, rfl⟩ := hd; exact Wp.go (fun t kk => XS.istore X.here hx rfl (hb hby d) rfl hl kk) k
theorem w_lstore (X : Stand p l e R s m args below meth c T locs cells slots) (hx : p.tables.exec = Jvm.exec) (hby : c.code = bs) {i : Nat} {v : Int64} (l' : Array Slot) (hd : In bs pc (.lstore i) 2 nx) (hl : storeLocals Ls i (.long v) = some l') (k : Wp p e below s K N Q T (mkF m nx l' (st))) : Wp p e below s K N Q T (mkF m pc Ls (.long v :: st)) := by
  obtain ⟨d, rfl⟩ := hd; exact Wp.go (fun t kk => XS.lstore X.here hx rfl (hb hby d) rfl hl kk) k
theorem w_astore (X : Stand p l e R s m args below meth c T locs cells slots) (hx : p.tables.exec = Jvm.exec) (hby : c.code = bs) {i : Nat} {v : Value} (l' : Array Slot) (hd : In bs pc (.astore i) 2 nx) (hv : v.isRef = true) (hl : storeLocals Ls i v = some l') (k : Wp p e below s K N Q T (mkF m nx l' (st))) : Wp p e below s K N Q T (mkF m pc Ls (v :: st)) := by
  obtain ⟨d, rfl⟩ := hd; exact Wp.go (fun t kk => XS.astore X.here hx rfl (hb hby d) rfl hv hl kk) k
theorem w_iinc (X : Stand p l e R s m args below meth c T locs cells slots) (hx : p.tables.exec = Jvm.exec) (hby : c.code = bs) {i : Nat} {cst : Int} {x : Int32} (v : Int32) (l' : Array Slot) (hd : In bs pc (.iinc i cst) 3 nx) (hv : Int32.ofInt cst = v) (hl : Ls[i]? = some (.val (.int x))) (hl' : storeLocals Ls i (.int (x + v)) = some l') (k : Wp p e below s K N Q T (mkF m nx l' st)) : Wp p e below s K N Q T (mkF m pc Ls st) := by
  obtain ⟨d, rfl⟩ := hd; exact Wp.go (fun t kk => XT.iincV X.here hx rfl v (hb hby d) hv hl hl' kk) k
theorem w_goto (X : Stand p l e R s m args below meth c T locs cells slots) (hx : p.tables.exec = Jvm.exec) (hby : c.code = bs) (hd : Jm bs pc (.goto o) o nx tg) (k : Wp p e below s K N Q T (mkF m tg Ls st)) : Wp p e below s K N Q T (mkF m pc Ls st) := by
  obtain ⟨d, -, q1, q2⟩ := hd; exact Wp.go (fun t kk => XS.goto X.here hx rfl rfl (hb hby d) q1 q2 kk) k
theorem f_icmp_eq (X : Stand p l e R s m args below meth c T locs cells slots) (hx : p.tables.exec = Jvm.exec) (hby : c.code = bs) {x y : Int32} (hd : Jm bs pc (.if_icmp .eq o) o nx tg) (kt : x = y → Wp p e below s K N Q T (mkF m tg Ls st)) (kf : ¬ x = y → Wp p e below s K N Q T (mkF m nx Ls st)) : Wp p e below s K N Q T (mkF m pc Ls (.int y :: .int x :: st)) := by
  obtain ⟨d, rfl, q1, q2⟩ := hd
  by_cases q : x = y
  · exact Wp.go (fun t kk => XS.icmpYes X.here hx rfl rfl (hb hby d) rfl (XT.ii_eq_t q) q1 q2 kk) (kt q)
  · exact Wp.go (fun t kk => XS.icmpNo X.here hx rfl (hb hby d) rfl (XT.ii_eq_f q) kk) (kf q)
theorem f_if_eq (X : Stand p l e R s m args below meth c T locs cells slots) (hx : p.tables.exec = Jvm.exec) (hby : c.code = bs) {x : Int32} (hd : Jm bs pc (.ifCond .eq o) o nx tg) (kt : x = 0 → Wp p e below s K N Q T (mkF m tg Ls st)) (kf : ¬ x = 0 → Wp p e below s K N Q T (mkF m nx Ls st)) : Wp p e below s K N Q T (mkF m pc Ls (.int x :: st)) := by
  obtain ⟨d, rfl, q1, q2⟩ := hd
  by_cases q : x = 0
  · exact Wp.go (fun t kk => XS.ifYes X.here hx rfl rfl (hb hby d) rfl (XT.i0_eq_t q) q1 q2 kk) (kt q)
  · exact Wp.go (fun t kk => XS.ifNo X.here hx rfl (hb hby d) rfl (XT.i0_eq_f q) kk) (kf q)
theorem f_lcmp_eq (X : Stand p l e R s m args below meth c T locs cells slots) (hx : p.tables.exec = Jvm.exec) (hby : c.code = bs) {x y : Int64} {n1 : Nat} (hc : In bs pc .lcmp 1 n1) (hd : Jm bs n1 (.ifCond .eq o) o nx tg) (kt : x = y → Wp p e below s K N Q T (mkF m tg Ls st)) (kf : ¬ x = y → Wp p e below s K N Q T (mkF m nx Ls st)) : Wp p e below s K N Q T (mkF m pc Ls (.long y :: .long x :: st)) := by
  obtain ⟨d1, rfl⟩ := hc; obtain ⟨d, rfl, q1, q2⟩ := hd
  refine Wp.go (fun t kk => XT.lcmp X.here hx rfl (hb hby d1) rfl kk) ?_
  by_cases q : x = y
  · exact Wp.go (fun t kk => XS.ifYes X.here hx rfl rfl (hb hby d) rfl (XT.ll_eq_t q) q1 q2 kk) (kt q)
  · exact Wp.go (fun t kk => XS.ifNo X.here hx rfl (hb hby d) rfl (XT.ll_eq_f q) kk) (kf q)
theorem f_icmp_ne (X : Stand p l e R s m args below meth c T locs cells slots) (hx : p.tables.exec = Jvm.exec) (hby : c.code = bs) {x y : Int32} (hd : Jm bs pc (.if_icmp .ne o) o nx tg) (kt : ¬ x = y → Wp p e below s K N Q T (mkF m tg Ls st)) (kf : x = y → Wp p e below s K N Q T (mkF m nx Ls st)) : Wp p e below s K N Q T (mkF m pc Ls (.int y :: .int x :: st)) := by
  obtain ⟨d, rfl, q1, q2⟩ := hd
  by_cases q : x = y
  · exact Wp.go (fun t kk => XS.icmpNo X.here hx rfl (hb hby d) rfl (XT.ii_ne_f q) kk) (kf q)
  · exact Wp.go (fun t kk => XS.icmpYes X.here hx rfl rfl (hb hby d) rfl (XT.ii_ne_t q) q1 q2 kk) (kt q)
theorem f_if_ne (X : Stand p l e R s m args below meth c T locs cells slots) (hx : p.tables.exec = Jvm.exec) (hby : c.code = bs) {x : Int32} (hd : Jm bs pc (.ifCond .ne o) o nx tg) (kt : ¬ x = 0 → Wp p e below s K N Q T (mkF m tg Ls st)) (kf : x = 0 → Wp p e below s K N Q T (mkF m nx Ls st)) : Wp p e below s K N Q T (mkF m pc Ls (.int x :: st)) := by
  obtain ⟨d, rfl, q1, q2⟩ := hd
  by_cases q : x = 0
  · exact Wp.go (fun t kk => XS.ifNo X.here hx rfl (hb hby d) rfl (XT.i0_ne_f q) kk) (kf q)
  · exact Wp.go (fun t kk => XS.ifYes X.here hx rfl rfl (hb hby d) rfl (XT.i0_ne_t q) q1 q2 kk) (kt q)
theorem f_lcmp_ne (X : Stand p l e R s m args below meth c T locs cells slots) (hx : p.tables.exec = Jvm.exec) (hby : c.code = bs) {x y : Int64} {n1 : Nat} (hc : In bs pc .lcmp 1 n1) (hd : Jm bs n1 (.ifCond .ne o) o nx tg) (kt : ¬ x = y → Wp p e below s K N Q T (mkF m tg Ls st)) (kf : x = y → Wp p e below s K N Q T (mkF m nx Ls st)) : Wp p e below s K N Q T (mkF m pc Ls (.long y :: .long x :: st)) := by
  obtain ⟨d1, rfl⟩ := hc; obtain ⟨d, rfl, q1, q2⟩ := hd
  refine Wp.go (fun t kk => XT.lcmp X.here hx rfl (hb hby d1) rfl kk) ?_
  by_cases q : x = y
  · exact Wp.go (fun t kk => XS.ifNo X.here hx rfl (hb hby d) rfl (XT.ll_ne_f q) kk) (kf q)
  · exact Wp.go (fun t kk => XS.ifYes X.here hx rfl rfl (hb hby d) rfl (XT.ll_ne_t q) q1 q2 kk) (kt q)
theorem f_icmp_lt (X : Stand p l e R s m args below meth c T locs cells slots) (hx : p.tables.exec = Jvm.exec) (hby : c.code = bs) {x y : Int32} (hd : Jm bs pc (.if_icmp .lt o) o nx tg) (kt : x < y → Wp p e below s K N Q T (mkF m tg Ls st)) (kf : ¬ x < y → Wp p e below s K N Q T (mkF m nx Ls st)) : Wp p e below s K N Q T (mkF m pc Ls (.int y :: .int x :: st)) := by
  obtain ⟨d, rfl, q1, q2⟩ := hd
  by_cases q : x < y
  · exact Wp.go (fun t kk => XS.icmpYes X.here hx rfl rfl (hb hby d) rfl (XT.ii_lt_t q) q1 q2 kk) (kt q)
  · exact Wp.go (fun t kk => XS.icmpNo X.here hx rfl (hb hby d) rfl (XT.ii_lt_f q) kk) (kf q)
theorem f_if_lt (X : Stand p l e R s m args below meth c T locs cells slots) (hx : p.tables.exec = Jvm.exec) (hby : c.code = bs) {x : Int32} (hd : Jm bs pc (.ifCond .lt o) o nx tg) (kt : x < 0 → Wp p e below s K N Q T (mkF m tg Ls st)) (kf : ¬ x < 0 → Wp p e below s K N Q T (mkF m nx Ls st)) : Wp p e below s K N Q T (mkF m pc Ls (.int x :: st)) := by
  obtain ⟨d, rfl, q1, q2⟩ := hd
  by_cases q : x < 0
  · exact Wp.go (fun t kk => XS.ifYes X.here hx rfl rfl (hb hby d) rfl (XT.i0_lt_t q) q1 q2 kk) (kt q)
  · exact Wp.go (fun t kk => XS.ifNo X.here hx rfl (hb hby d) rfl (XT.i0_lt_f q) kk) (kf q)
theorem f_lcmp_lt (X : Stand p l e R s m args below meth c T locs cells slots) (hx : p.tables.exec = Jvm.exec) (hby : c.code = bs) {x y : Int64} {n1 : Nat} (hc : In bs pc .lcmp 1 n1) (hd : Jm bs n1 (.ifCond .lt o) o nx tg) (kt : x < y → Wp p e below s K N Q T (mkF m tg Ls st)) (kf : ¬ x < y → Wp p e below s K N Q T (mkF m nx Ls st)) : Wp p e below s K N Q T (mkF m pc Ls (.long y :: .long x :: st)) := by
  obtain ⟨d1, rfl⟩ := hc; obtain ⟨d, rfl, q1, q2⟩ := hd
  refine Wp.go (fun t kk => XT.lcmp X.here hx rfl (hb hby d1) rfl kk) ?_
  by_cases q : x < y
  · exact Wp.go (fun t kk => XS.ifYes X.here hx rfl rfl (hb hby d) rfl (XT.ll_lt_t q) q1 q2 kk) (kt q)
  · exact Wp.go (fun t kk => XS.ifNo X.here hx rfl (hb hby d) rfl (XT.ll_lt_f q) kk) (kf q)
theorem f_icmp_ge (X : Stand p l e R s m args below meth c T locs cells slots) (hx : p.tables.exec = Jvm.exec) (hby : c.code = bs) {x y : Int32} (hd : Jm bs pc (.if_icmp .ge o) o nx tg) (kt : ¬ x < y → Wp p e below s K N Q T (mkF m tg Ls st)) (kf : x < y → Wp p e below s K N Q T (mkF m nx Ls st)) : Wp p e below s K N Q T (mkF m pc Ls (.int y :: .int x :: st)) := by
  obtain ⟨d, rfl, q1, q2⟩ := hd
  by_cases q : x < y
  · exact Wp.go (fun t kk => XS.icmpNo X.here hx rfl (hb hby d) rfl (XT.ii_ge_f q) kk) (kf q)
  · exact Wp.go (fun t kk => XS.icmpYes X.here hx rfl rfl (hb hby d) rfl (XT.ii_ge_t q) q1 q2 kk) (kt q)
theorem f_if_ge (X : Stand p l e R s m args below meth c T locs cells slots) (hx : p.tables.exec = Jvm.exec) (hby : c.code = bs) {x : Int32} (hd : Jm bs pc (.ifCond .ge o) o nx tg) (kt : ¬ x < 0 → Wp p e below s K N Q T (mkF m tg Ls st)) (kf : x < 0 → Wp p e below s K N Q T (mkF m nx Ls st)) : Wp p e below s K N Q T (mkF m pc Ls (.int x :: st)) := by
  obtain ⟨d, rfl, q1, q2⟩ := hd
  by_cases q : x < 0
  · exact Wp.go (fun t kk => XS.ifNo X.here hx rfl (hb hby d) rfl (XT.i0_ge_f q) kk) (kf q)
  · exact Wp.go (fun t kk => XS.ifYes X.here hx rfl rfl (hb hby d) rfl (XT.i0_ge_t q) q1 q2 kk) (kt q)
theorem f_lcmp_ge (X : Stand p l e R s m args below meth c T locs cells slots) (hx : p.tables.exec = Jvm.exec) (hby : c.code = bs) {x y : Int64} {n1 : Nat} (hc : In bs pc .lcmp 1 n1) (hd : Jm bs n1 (.ifCond .ge o) o nx tg) (kt : ¬ x < y → Wp p e below s K N Q T (mkF m tg Ls st)) (kf : x < y → Wp p e below s K N Q T (mkF m nx Ls st)) : Wp p e below s K N Q T (mkF m pc Ls (.long y :: .long x :: st)) := by
  obtain ⟨d1, rfl⟩ := hc; obtain ⟨d, rfl, q1, q2⟩ := hd
  refine Wp.go (fun t kk => XT.lcmp X.here hx rfl (hb hby d1) rfl kk) ?_
  by_cases q : x < y
  · exact Wp.go (fun t kk => XS.ifNo X.here hx rfl (hb hby d) rfl (XT.ll_ge_f q) kk) (kf q)
  · exact Wp.go (fun t kk => XS.ifYes X.here hx rfl rfl (hb hby d) rfl (XT.ll_ge_t q) q1 q2 kk) (kt q)
theorem f_icmp_gt (X : Stand p l e R s m args below meth c T locs cells slots) (hx : p.tables.exec = Jvm.exec) (hby : c.code = bs) {x y : Int32} (hd : Jm bs pc (.if_icmp .gt o) o nx tg) (kt : y < x → Wp p e below s K N Q T (mkF m tg Ls st)) (kf : ¬ y < x → Wp p e below s K N Q T (mkF m nx Ls st)) : Wp p e below s K N Q T (mkF m pc Ls (.int y :: .int x :: st)) := by
  obtain ⟨d, rfl, q1, q2⟩ := hd
  by_cases q : y < x
  · exact Wp.go (fun t kk => XS.icmpYes X.here hx rfl rfl (hb hby d) rfl (XT.ii_gt_t q) q1 q2 kk) (kt q)
  · exact Wp.go (fun t kk => XS.icmpNo X.here hx rfl (hb hby d) rfl (XT.ii_gt_f q) kk) (kf q)
theorem f_if_gt (X : Stand p l e R s m args below meth c T locs cells slots) (hx : p.tables.exec = Jvm.exec) (hby : c.code = bs) {x : Int32} (hd : Jm bs pc (.ifCond .gt o) o nx tg) (kt : 0 < x → Wp p e below s K N Q T (mkF m tg Ls st)) (kf : ¬ 0 < x → Wp p e below s K N Q T (mkF m nx Ls st)) : Wp p e below s K N Q T (mkF m pc Ls (.int x :: st)) := by
  obtain ⟨d, rfl, q1, q2⟩ := hd
  by_cases q : 0 < x
  · exact Wp.go (fun t kk => XS.ifYes X.here hx rfl rfl (hb hby d) rfl (XT.i0_gt_t q) q1 q2 kk) (kt q)
  · exact Wp.go (fun t kk => XS.ifNo X.here hx rfl (hb hby d) rfl (XT.i0_gt_f q) kk) (kf q)
theorem f_lcmp_gt (X : Stand p l e R s m args below meth c T locs cells slots) (hx : p.tables.exec = Jvm.exec) (hby : c.code = bs) {x y : Int64} {n1 : Nat} (hc : In bs pc .lcmp 1 n1) (hd : Jm bs n1 (.ifCond .gt o) o nx tg) (kt : y < x → Wp p e below s K N Q T (mkF m tg Ls st)) (kf : ¬ y < x → Wp p e below s K N Q T (mkF m nx Ls st)) : Wp p e below s K N Q T (mkF m pc Ls (.long y :: .long x :: st)) := by
  obtain ⟨d1, rfl⟩ := hc; obtain ⟨d, rfl, q1, q2⟩ := hd
  refine Wp.go (fun t kk => XT.lcmp X.here hx rfl (hb hby d1) rfl kk) ?_
  by_cases q : y < x
  · exact Wp.go (fun t kk => XS.ifYes X.here hx rfl rfl (hb hby d) rfl (XT.ll_gt_t q) q1 q2 kk) (kt q)
  · exact Wp.go (fun t kk => XS.ifNo X.here hx rfl (hb hby d) rfl (XT.ll_gt_f q) kk) (kf q)
theorem f_icmp_le (X : Stand p l e R s m args below meth c T locs cells slots) (hx : p.tables.exec = Jvm.exec) (hby : c.code = bs) {x y : Int32} (hd : Jm bs pc (.if_icmp .le o) o nx tg) (kt : ¬ y < x → Wp p e below s K N Q T (mkF m tg Ls st)) (kf : y < x → Wp p e below s K N Q T (mkF m nx Ls st)) : Wp p e below s K N Q T (mkF m pc Ls (.int y :: .int x :: st)) := by
  obtain ⟨d, rfl, q1, q2⟩ := hd
  by_cases q : y < x
  · exact Wp.go (fun t kk => XS.icmpNo X.here hx rfl (hb hby d) rfl (XT.ii_le_f q) kk) (kf q)
  · exact Wp.go (fun t kk => XS.icmpYes X.here hx rfl rfl (hb hby d) rfl (XT.ii_le_t q) q1 q2 kk) (kt q)
theorem f_if_le (X : Stand p l e R s m args below meth c T locs cells slots) (hx : p.tables.exec = Jvm.exec) (hby : c.code = bs) {x : Int32} (hd : Jm bs pc (.ifCond .le o) o nx tg) (kt : ¬ 0 < x → Wp p e below s K N Q T (mkF m tg Ls st)) (kf : 0 < x → Wp p e below s K N Q T (mkF m nx Ls st)) : Wp p e below s K N Q T (mkF m pc Ls (.int x :: st)) := by
  obtain ⟨d, rfl, q1, q2⟩ := hd
  by_cases q : 0 < x
  · exact Wp.go (fun t kk => XS.ifNo X.here hx rfl (hb hby d) rfl (XT.i0_le_f q) kk) (kf q)
  · exact Wp.go (fun t kk => XS.ifYes X.here hx rfl rfl (hb hby d) rfl (XT.i0_le_t q) q1 q2 kk) (kt q)
theorem f_lcmp_le (X : Stand p l e R s m args below meth c T locs cells slots) (hx : p.tables.exec = Jvm.exec) (hby : c.code = bs) {x y : Int64} {n1 : Nat} (hc : In bs pc .lcmp 1 n1) (hd : Jm bs n1 (.ifCond .le o) o nx tg) (kt : ¬ y < x → Wp p e below s K N Q T (mkF m tg Ls st)) (kf : y < x → Wp p e below s K N Q T (mkF m nx Ls st)) : Wp p e below s K N Q T (mkF m pc Ls (.long y :: .long x :: st)) := by
  obtain ⟨d1, rfl⟩ := hc; obtain ⟨d, rfl, q1, q2⟩ := hd
  refine Wp.go (fun t kk => XT.lcmp X.here hx rfl (hb hby d1) rfl kk) ?_
  by_cases q : y < x
  · exact Wp.go (fun t kk => XS.ifNo X.here hx rfl (hb hby d) rfl (XT.ll_le_f q) kk) (kf q)
  · exact Wp.go (fun t kk => XS.ifYes X.here hx rfl rfl (hb hby d) rfl (XT.ll_le_t q) q1 q2 kk) (kt q)
theorem f_acmp_eq (X : Stand p l e R s m args below meth c T locs cells slots) (hx : p.tables.exec = Jvm.exec) (hby : c.code = bs) {x y : Addr} (hd : Jm bs pc (.if_acmp .eq o) o nx tg) (kt : x = y → Wp p e below s K N Q T (mkF m tg Ls st)) (kf : ¬ x = y → Wp p e below s K N Q T (mkF m nx Ls st)) : Wp p e below s K N Q T (mkF m pc Ls (.ref y :: .ref x :: st)) := by
  obtain ⟨d, rfl, q1, q2⟩ := hd
  by_cases q : x = y
  · exact Wp.go (fun t kk => XT.acmpYes X.here hx rfl rfl (hb hby d) rfl rfl rfl (XT.aa_eq_t (congrArg Value.ref q)) q1 q2 kk) (kt q)
  · exact Wp.go (fun t kk => XT.acmpNo X.here hx rfl (hb hby d) rfl rfl rfl (XT.aa_eq_f (fun r => q (Value.ref.inj r))) kk) (kf q)
theorem f_acmpV_eq (X : Stand p l e R s m args below meth c T locs cells slots) (hx : p.tables.exec = Jvm.exec) (hby : c.code = bs) {x y : Value} (hx' : x.isRef = true) (hy' : y.isRef = true) (hd : Jm bs pc (.if_acmp .eq o) o nx tg) (kt : x = y → Wp p e below s K N Q T (mkF m tg Ls st)) (kf : ¬ x = y → Wp p e below s K N Q T (mkF m nx Ls st)) : Wp p e below s K N Q T (mkF m pc Ls (y :: x :: st)) := by
  obtain ⟨d, rfl, q1, q2⟩ := hd
  by_cases q : x = y
  · exact Wp.go (fun t kk => XT.acmpYes X.here hx rfl rfl (hb hby d) rfl hx' hy' (XT.aa_eq_t q) q1 q2 kk) (kt q)
  · exact Wp.go (fun t kk => XT.acmpNo X.here hx rfl (hb hby d) rfl hx' hy' (XT.aa_eq_f q) kk) (kf q)
theorem f_acmp_ne (X : Stand p l e R s m args below meth c T locs cells slots) (hx : p.tables.exec = Jvm.exec) (hby : c.code = bs) {x y : Addr} (hd : Jm bs pc (.if_acmp .ne o) o nx tg) (kt : ¬ x = y → Wp p e below s K N Q T (mkF m tg Ls st)) (kf : x = y → Wp p e below s K N Q T (mkF m nx Ls st)) : Wp p e below s K N Q T (mkF m pc Ls (.ref y :: .ref x :: st)) := by
  obtain ⟨d, rfl, q1, q2⟩ := hd
  by_cases q : x = y
  · exact Wp.go (fun t kk => XT.acmpNo X.here hx rfl (hb hby d) rfl rfl rfl (XT.aa_ne_f (congrArg Value.ref q)) kk) (kf q)
  · exact Wp.go (fun t kk => XT.acmpYes X.here hx rfl rfl (hb hby d) rfl rfl rfl (XT.aa_ne_t (fun r => q (Value.ref.inj r))) q1 q2 kk) (kt q)
theorem f_acmpV_ne (X : Stand p l e R s m args below meth c T locs cells slots) (hx : p.tables.exec = Jvm.exec) (hby : c.code = bs) {x y : Value} (hx' : x.isRef = true) (hy' : y.isRef = true) (hd : Jm bs pc (.if_acmp .ne o) o nx tg) (kt : ¬ x = y → Wp p e below s K N Q T (mkF m tg Ls st)) (kf : x = y → Wp p e below s K N Q T (mkF m nx Ls st)) : Wp p e below s K N Q T (mkF m pc Ls (y :: x :: st)) := by
  obtain ⟨d, rfl, q1, q2⟩ := hd
  by_cases q : x = y
  · exact Wp.go (fun t kk => XT.acmpNo X.here hx rfl (hb hby d) rfl hx' hy' (XT.aa_ne_f q) kk) (kf q)
  · exact Wp.go (fun t kk => XT.acmpYes X.here hx rfl rfl (hb hby d) rfl hx' hy' (XT.aa_ne_t q) q1 q2 kk) (kt q)
theorem w_lswHit (X : Stand p l e R s m args below meth c T locs cells slots) (hx : p.tables.exec = Jvm.exec) (hby : c.code = bs) {x : Int32} {df : Int} {ps : Array (Int × Int)} {len : Nat} {a off : Int} (hd : In bs pc (.lookupswitch df ps) len nx) (hs : (ps.toList.zip (ps.toList.drop 1)).all (fun (a, next) => a.1 < next.1) = true) (hf : ps.find? (·.1 == x.toInt) = some (a, off)) (ho : 0 ≤ (pc : Int) + off) (ht : ((pc : Int) + off).toNat = tg) (k : Wp p e below s K N Q T (mkF m tg Ls st)) : Wp p e below s K N Q T (mkF m pc Ls (.int x :: st)) := by
  obtain ⟨d, -⟩ := hd; subst ht; exact Wp.go (fun t kk => X.lookupswitchHit hx (g := mkF m pc Ls (.int x :: st)) rfl rfl (hb hby d) hs hf ho t kk) k
theorem w_lswMiss (X : Stand p l e R s m args below meth c T locs cells slots) (hx : p.tables.exec = Jvm.exec) (hby : c.code = bs) {x : Int32} {df : Int} {ps : Array (Int × Int)} {len : Nat} (hd : In bs pc (.lookupswitch df ps) len nx) (hs : (ps.toList.zip (ps.toList.drop 1)).all (fun (a, next) => a.1 < next.1) = true) (hf : ps.find? (·.1 == x.toInt) = none) (ho : 0 ≤ (pc : Int) + df) (ht : ((pc : Int) + df).toNat = tg) (k : Wp p e below s K N Q T (mkF m tg Ls st)) : Wp p e below s K N Q T (mkF m pc Ls (.int x :: st)) := by
  obtain ⟨d, -⟩ := hd; subst ht; exact Wp.go (fun t kk => X.lookupswitchMiss hx (g := mkF m pc Ls (.int x :: st)) rfl rfl (hb hby d) hs hf ho t kk) k
theorem w_tswIn (X : Stand p l e R s m args below meth c T locs cells slots) (hx : p.tables.exec = Jvm.exec) (hby : c.code = bs) {x : Int32} {df lo hi : Int} {os : Array Int} {len : Nat} {off : Int} (hd : In bs pc (.tableswitch df lo hi os) len nx) (hin : ¬ (x.toInt < lo ∨ x.toInt > hi)) (hoff : os[(x.toInt - lo).toNat]? = some off) (ho : 0 ≤ (pc : Int) + off) (ht : ((pc : Int) + off).toNat = tg) (k : Wp p e below s K N Q T (mkF m tg Ls st)) : Wp p e below s K N Q T (mkF m pc Ls (.int x :: st)) := by
  obtain ⟨d, -⟩ := hd; exact Wp.go (fun t kk => XS.tswIn X.here hx rfl rfl (hb hby d) rfl hin hoff ho ht kk) k
theorem w_tswOut (X : Stand p l e R s m args below meth c T locs cells slots) (hx : p.tables.exec = Jvm.exec) (hby : c.code = bs) {x : Int32} {df lo hi : Int} {os : Array Int} {len : Nat} (hd : In bs pc (.tableswitch df lo hi os) len nx) (hout : x.toInt < lo ∨ x.toInt > hi) (ho : 0 ≤ (pc : Int) + df) (ht : ((pc : Int) + df).toNat = tg) (k : Wp p e below s K N Q T (mkF m tg Ls st)) : Wp p e below s K N Q T (mkF m pc Ls (.int x :: st)) := by
  obtain ⟨d, -⟩ := hd; exact Wp.go (fun t kk => XS.tswOut X.here hx rfl rfl (hb hby d) rfl hout ho ht kk) k
theorem own_ne32 {x z : Int32} {i : Int} (h : ¬ x = z) (hz : z.toInt = i) : i ≠ x.toInt := fun q => h (Int32.toInt_inj.mp (by rw [hz, q]))
theorem w_ifnonnullRef (X : Stand p l e R s m args below meth c T locs cells slots) (hx : p.tables.exec = Jvm.exec) (hby : c.code = bs) {a : Addr} (hd : Jm bs pc (.ifnonnull o) o nx tg) (k : Wp p e below s K N Q T (mkF m tg Ls st)) : Wp p e below s K N Q T (mkF m pc Ls (.ref a :: st)) := by
  obtain ⟨d, -, q1, q2⟩ := hd; exact Wp.go (fun t kk => XS.ifnonnullYes X.here hx rfl rfl (hb hby d) rfl q1 q2 kk) k
theorem w_ifnonnullNull (X : Stand p l e R s m args below meth c T locs cells slots) (hx : p.tables.exec = Jvm.exec) (hby : c.code = bs) (hd : Jm bs pc (.ifnonnull o) o nx tg) (k : Wp p e below s K N Q T (mkF m nx Ls st)) : Wp p e below s K N Q T (mkF m pc Ls (.null :: st)) := by
  obtain ⟨d, rfl, q1, q2⟩ := hd; exact Wp.go (fun t kk => XS.ifnonnullNo X.here hx rfl (hb hby d) rfl kk) k
theorem w_ifnullRef (X : Stand p l e R s m args below meth c T locs cells slots) (hx : p.tables.exec = Jvm.exec) (hby : c.code = bs) {a : Addr} (hd : Jm bs pc (.ifnull o) o nx tg) (k : Wp p e below s K N Q T (mkF m nx Ls st)) : Wp p e below s K N Q T (mkF m pc Ls (.ref a :: st)) := by
  obtain ⟨d, rfl, q1, q2⟩ := hd; exact Wp.go (fun t kk => XS.ifnullNo X.here hx rfl (hb hby d) rfl kk) k
theorem w_ifnullNull (X : Stand p l e R s m args below meth c T locs cells slots) (hx : p.tables.exec = Jvm.exec) (hby : c.code = bs) (hd : Jm bs pc (.ifnull o) o nx tg) (k : Wp p e below s K N Q T (mkF m tg Ls st)) : Wp p e below s K N Q T (mkF m pc Ls (.null :: st)) := by
  obtain ⟨d, -, q1, q2⟩ := hd; exact Wp.go (fun t kk => XS.ifnullYes X.here hx rfl rfl (hb hby d) rfl q1 q2 kk) k
theorem w_ldcI (X : Stand p l e R s m args below meth c T locs cells slots) (hx : p.tables.exec = Jvm.exec) (hby : c.code = bs) (hZ : Z.Warmed39 s.vm) {own : String} (hown : s.vm.findClass own = some m.cls) {index : Nat} {v : Int32} (w : (Cond.constant own index v).before a0 Z = true) (hd : In bs pc (.ldc index) 2 nx) (k : Wp p e below s K N Q T (mkF m nx Ls (.int v :: st))) : Wp p e below s K N Q T (mkF m pc Ls st) := by
  obtain ⟨d, rfl⟩ := hd; exact Wp.go (fun t kk => X.ldcInt hx hown (mvT hZ w) (g := mkF m pc Ls st) rfl (hb hby d) t kk) k
theorem w_ldcwI (X : Stand p l e R s m args below meth c T locs cells slots) (hx : p.tables.exec = Jvm.exec) (hby : c.code = bs) (hZ : Z.Warmed39 s.vm) {own : String} (hown : s.vm.findClass own = some m.cls) {index : Nat} {v : Int32} (w : (Cond.constant own index v).before a0 Z = true) (hd : In bs pc (.ldc_w index) 3 nx) (k : Wp p e below s K N Q T (mkF m nx Ls (.int v :: st))) : Wp p e below s K N Q T (mkF m pc Ls st) := by
  obtain ⟨d, rfl⟩ := hd; exact Wp.go (fun t kk => X.ldcWI hx hown (mvT hZ w) (g := mkF m pc Ls st) rfl (hb hby d) kk) k
theorem w_ldc2J (X : Stand p l e R s m args below meth c T locs cells slots) (hx : p.tables.exec = Jvm.exec) (hby : c.code = bs) (hZ : Z.Warmed39 s.vm) {own : String} (hown : s.vm.findClass own = some m.cls) {index : Nat} {v : Int64} (w : (Cond.constantLong own index v).before a0 Z = true) (hd : In bs pc (.ldc2_w index) 3 nx) (k : Wp p e below s K N Q T (mkF m nx Ls (.long v :: st))) : Wp p e below s K N Q T (mkF m pc Ls st) := by
  obtain ⟨d, rfl⟩ := hd; exact Wp.go (fun t kk => X.ldc2Long hx hown (mvT hZ w) (g := mkF m pc Ls st) rfl (hb hby d) t kk) k
theorem w_getS (X : Stand p l e R s m args below meth c T locs cells slots) (hx : p.tables.exec = Jvm.exec) (hby : c.code = bs) (hZ : Z.Warmed39 s.vm) {own : String} (hown : s.vm.findClass own = some m.cls) {R0 C n d host : String} {index : Nat} (w : (Cond.fieldLink own index R0 n d).before a0 Z = true ∨ (Cond.fieldLinkNest own index R0 n d host).before a0 Z = true) (via : Via Z R0 C n d) (eT : T.heap = h) {v : Value} (F : Sta Z h C n d v) (hd : In bs pc (.getstatic index) 3 nx) (k : ∀ T', Stand p l e R s m args below meth c T' locs cells slots → T'.heap = h → Wp p e below s K N Q T' (mkF m nx Ls (v :: st))) : Wp p e below s K N Q T (mkF m pc Ls st) := by
  obtain ⟨d, rfl⟩ := hd; obtain ⟨T', X', e', st'⟩ := getS2 X hx hZ hown w via eT F (g := mkF m pc Ls st) rfl (hb hby d); exact Wp.go st' (k T' X' e')
theorem w_getF (X : Stand p l e R s m args below meth c T locs cells slots) (hx : p.tables.exec = Jvm.exec) (hby : c.code = bs) (hZ : Z.Warmed39 s.vm) {own : String} (hown : s.vm.findClass own = some m.cls) {R0 C n d host : String} {index : Nat} (w : (Cond.fieldLink own index R0 n d).before a0 Z = true ∨ (Cond.fieldLinkNest own index R0 n d host).before a0 Z = true) (via : Via Z R0 C n d) (eT : T.heap = h) {a : Addr} {v : Value} (F : Fld Z h a C n d v) (hd : In bs pc (.getfield index) 3 nx) (k : ∀ T', Stand p l e R s m args below meth c T' locs cells slots → T'.heap = h → Wp p e below s K N Q T' (mkF m nx Ls (v :: st))) : Wp p e below s K N Q T (mkF m pc Ls (.ref a :: st)) := by
  obtain ⟨d, rfl⟩ := hd; obtain ⟨T', X', e', st'⟩ := getF X hx hZ hown w via eT F (g := mkF m pc Ls (.ref a :: st)) rfl rfl (hb hby d); exact Wp.go st' (k T' X' e')
theorem w_putF (X : Stand p l e R s m args below meth c T locs cells slots) (hx : p.tables.exec = Jvm.exec) (hby : c.code = bs) (hZ : Z.Warmed39 s.vm) {own : String} (hown : s.vm.findClass own = some m.cls) {R0 C n d host D : String} {index kk : Nat} {ty : FieldType} (w : (Cond.fieldLink own index R0 n d).before a0 Z = true ∨ (Cond.fieldLinkNest own index R0 n d host).before a0 Z = true) (via : Via Z R0 C n d) (eT : T.heap = h) {a : Addr} {v old : Value} (F : Fld Z h a C n d old) (E : Exa Z h a D) (Lw : (Cond.lays D C n d).before a0 Z = true ∨ ((Cond.laysFinal D C n d).before a0 Z = true ∧ own = C ∧ meth.name = "<init>")) (wi : (Cond.instantiable D kk).before a0 Z = true) (hty : parseFieldDescriptor d = some ty) (hn : narrow ty v = v) (hf : fits ty v = true) (hd : In bs pc (.putfield index) 3 nx) (k : ∀ T' h', Stand p l e R s m args below meth c T' (locs ++ [⟨a, Jvm.RoadKit.slotOf Z C n d⟩]) cells slots → T'.heap = h' → Wr h h' a (Jvm.RoadKit.slotOf Z C n d) v → Wp p e below s K N Q T' (mkF m nx Ls st)) : Wp p e below s K N Q T (mkF m pc Ls (v :: .ref a :: st)) := by
  obtain ⟨d, rfl⟩ := hd; obtain ⟨T', h', X', e', W', st'⟩ := putF X hx hZ hown w via eT F E Lw wi hty hn hf (g := mkF m pc Ls (v :: .ref a :: st)) rfl rfl (hb hby d); exact Wp.go st' (k T' h' X' e' W')
theorem w_putFN (X : Stand p l e R s m args below meth c T locs cells slots) (hx : p.tables.exec = Jvm.exec) (hby : c.code = bs) (hZ : Z.Warmed39 s.vm) {own : String} (hown : s.vm.findClass own = some m.cls) {R0 C n d D : String} {index kk : Nat} {ty : FieldType} (w : (Cond.fieldLink own index R0 n d).before a0 Z = true) (via : Via Z R0 C n d) (eT : T.heap = h) {a : Addr} {v v' old : Value} (F : Fld Z h a C n d old) (E : Exa Z h a D) (Lw : (Cond.lays D C n d).before a0 Z = true ∨ ((Cond.laysFinal D C n d).before a0 Z = true ∧ own = C ∧ meth.name = "<init>")) (wi : (Cond.instantiable D kk).before a0 Z = true) (hty : parseFieldDescriptor d = some ty) (hn : narrow ty v = v') (hf : fits ty v' = true) (hd : In bs pc (.putfield index) 3 nx) (k : ∀ T' h', Stand p l e R s m args below meth c T' (locs ++ [⟨a, Jvm.RoadKit.slotOf Z C n d⟩]) cells slots → T'.heap = h' → Wr h h' a (Jvm.RoadKit.slotOf Z C n d) v' → Wp p e below s K N Q T' (mkF m nx Ls st)) : Wp p e below s K N Q T (mkF m pc Ls (v :: .ref a :: st)) := by
  obtain ⟨d, rfl⟩ := hd; obtain ⟨T', h', X', e', W', st'⟩ := putFN X hx hZ hown w via eT F E Lw wi hty hn hf (g := mkF m pc Ls (v :: .ref a :: st)) rfl rfl (hb hby d); exact Wp.go st' (k T' h' X' e' W')
theorem w_newO (X : Stand p l e R s m args below meth c T locs cells slots) (hx : p.tables.exec = Jvm.exec) (hby : c.code = bs) (hZ : Z.Warmed39 s.vm) {own : String} (hown : s.vm.findClass own = some m.cls) {C : String} {index n : Nat} (w : (Cond.classLink own index C).before a0 Z = true) (wi : (Cond.instantiable C n).before a0 Z = true) (wz : (Cond.initialized C).before a0 Z = true) (eT : T.heap = h) (hd : In bs pc (.new index) 3 nx) (hc : cells + 1 ≤ R.cells) (hl : slots + n ≤ R.slots) (k : ∀ T' h' a, a = h.size → Stand p l e R s m args below meth c T' locs (cells + 1) (slots + n) → T'.heap = h' → Ext h h' → Exa Z h' a C → (∀ {D nm d : String} {ty : FieldType}, Laid Z a0 C D nm d → parseFieldDescriptor d = some ty → Fld Z h' a D nm d (defaultValue ty)) → Wp p e below s K N Q T' (mkF m nx Ls (.ref a :: st))) : Wp p e below s K N Q T (mkF m pc Ls st) := by
  obtain ⟨d, rfl⟩ := hd; obtain ⟨T', h', X', e', E', A', D', -, st'⟩ := newO X hx hZ hown w wi wz eT (g := mkF m pc Ls st) rfl (hb hby d) hc hl; exact Wp.go st' (k T' h' _ rfl X' e' E' A' D')
theorem w_newP (X : Stand p l e R s m args below meth c T locs cells slots) (hx : p.tables.exec = Jvm.exec) (hby : c.code = bs) (hZ : Z.Warmed39 s.vm) {aty : ArrayType} (w : (Cond.arrayClass (newarray.typeOf aty)).before a0 Z = true) (eT : T.heap = h) {n : Int32} (hd : In bs pc (.newarray aty) 2 nx) (hn : ¬ n < 0) (cap : Nat) (hcap : n.toNatClampNeg ≤ cap) (hbig : cap * 8 ≤ 536870912) (hc : cells + 1 ≤ R.cells) (hl : slots + cap ≤ R.slots) (k : ∀ T' h' a kA, a = h.size → Stand p l e R s m args below meth c T' locs (cells + 1) (slots + cap) → T'.heap = h' → Ext h h' → Arr Z h' a (newA kA (newarray.typeOf aty) n) (newarray.typeOf aty) → Wp p e below s K N Q T' (mkF m nx Ls (.ref a :: st))) : Wp p e below s K N Q T (mkF m pc Ls (.int n :: st)) := by
  obtain ⟨d, rfl⟩ := hd; obtain ⟨T', h', kA, X', e', E', A', st'⟩ := newP X hx hZ w eT (g := mkF m pc Ls (.int n :: st)) rfl (hb hby d) rfl hn hcap hbig hc hl; exact Wp.go st' (k T' h' _ kA rfl X' e' E' A')
theorem w_newR (X : Stand p l e R s m args below meth c T locs cells slots) (hx : p.tables.exec = Jvm.exec) (hby : c.code = bs) (hZ : Z.Warmed39 s.vm) {own : String} (hown : s.vm.findClass own = some m.cls) {C : String} {index : Nat} (w1 : (Cond.classLink own index C).before a0 Z = true) (w2 : (Cond.arrayOver (.object C)).before a0 Z = true) (eT : T.heap = h) {n : Int32} (hd : In bs pc (.anewarray index) 3 nx) (hn : ¬ n < 0) (cap : Nat) (hcap : n.toNatClampNeg ≤ cap) (hbig : cap * 8 ≤ 536870912) (hc : cells + 1 ≤ R.cells) (hl : slots + cap ≤ R.slots) (k : ∀ T' h' a kA, a = h.size → Stand p l e R s m args below meth c T' locs (cells + 1) (slots + cap) → T'.heap = h' → Ext h h' → Arr Z h' a (newA kA (.object C) n) (.object C) → Ovr Z kA C → Wp p e below s K N Q T' (mkF m nx Ls (.ref a :: st))) : Wp p e below s K N Q T (mkF m pc Ls (.int n :: st)) := by
  obtain ⟨d, rfl⟩ := hd; obtain ⟨T', h', kA, X', e', E', A', O', st'⟩ := newR X hx hZ hown w1 w2 eT (g := mkF m pc Ls (.int n :: st)) rfl (hb hby d) rfl hn hcap hbig hc hl; exact Wp.go st' (k T' h' _ kA rfl X' e' E' A' O')
theorem w_stI (X : Stand p l e R s m args below meth c T locs cells slots) (hx : p.tables.exec = Jvm.exec) (hby : c.code = bs) (hZ : Z.Warmed39 s.vm) (eT : T.heap = h) {a : Addr} {cl : Cell} (A : Arr Z h a cl .int) {j : Int32} {x : Int32} (hj : ¬ (j < 0 ∨ cl.slots.size ≤ j.toNatClampNeg)) (hd : In bs pc .iastore 1 nx) (k : ∀ T' h', Stand p l e R s m args below meth c T' (locs ++ [⟨a, j.toNatClampNeg⟩]) cells slots → T'.heap = h' → Wr h h' a j.toNatClampNeg (.int x) → Wp p e below s K N Q T' (mkF m nx Ls st)) : Wp p e below s K N Q T (mkF m pc Ls (.int x :: .int j :: .ref a :: st)) := by
  obtain ⟨d, rfl⟩ := hd; obtain ⟨T', h', X', e', W', st'⟩ := stI X hx hZ eT A hj (g := mkF m pc Ls (.int x :: .int j :: .ref a :: st)) rfl rfl (hb hby d); exact Wp.go st' (k T' h' X' e' W')
theorem w_stJ (X : Stand p l e R s m args below meth c T locs cells slots) (hx : p.tables.exec = Jvm.exec) (hby : c.code = bs) (hZ : Z.Warmed39 s.vm) (eT : T.heap = h) {a : Addr} {cl : Cell} (A : Arr Z h a cl .long) {j : Int32} {x : Int64} (hj : ¬ (j < 0 ∨ cl.slots.size ≤ j.toNatClampNeg)) (hd : In bs pc .lastore 1 nx) (k : ∀ T' h', Stand p l e R s m args below meth c T' (locs ++ [⟨a, j.toNatClampNeg⟩]) cells slots → T'.heap = h' → Wr h h' a j.toNatClampNeg (.long x) → Wp p e below s K N Q T' (mkF m nx Ls st)) : Wp p e below s K N Q T (mkF m pc Ls (.long x :: .int j :: .ref a :: st)) := by
  obtain ⟨d, rfl⟩ := hd; obtain ⟨T', h', X', e', W', st'⟩ := stJ X hx hZ eT A hj (g := mkF m pc Ls (.long x :: .int j :: .ref a :: st)) rfl rfl (hb hby d); exact Wp.go st' (k T' h' X' e' W')
theorem w_stC (X : Stand p l e R s m args below meth c T locs cells slots) (hx : p.tables.exec = Jvm.exec) (hby : c.code = bs) (hZ : Z.Warmed39 s.vm) (eT : T.heap = h) {a : Addr} {cl : Cell} (A : Arr Z h a cl .char) {j : Int32} {x : Int32} (hj : ¬ (j < 0 ∨ cl.slots.size ≤ j.toNatClampNeg)) (hd : In bs pc .castore 1 nx) (k : ∀ T' h', Stand p l e R s m args below meth c T' (locs ++ [⟨a, j.toNatClampNeg⟩]) cells slots → T'.heap = h' → Wr h h' a j.toNatClampNeg (.int (nar .char x)) → Wp p e below s K N Q T' (mkF m nx Ls st)) : Wp p e below s K N Q T (mkF m pc Ls (.int x :: .int j :: .ref a :: st)) := by
  obtain ⟨d, rfl⟩ := hd; obtain ⟨T', h', X', e', W', st'⟩ := stC X hx hZ eT A hj (g := mkF m pc Ls (.int x :: .int j :: .ref a :: st)) rfl rfl (hb hby d); exact Wp.go st' (k T' h' X' e' W')
theorem w_stB (X : Stand p l e R s m args below meth c T locs cells slots) (hx : p.tables.exec = Jvm.exec) (hby : c.code = bs) (hZ : Z.Warmed39 s.vm) (eT : T.heap = h) {a : Addr} {cl : Cell} (A : Arr Z h a cl .byte) {j : Int32} {x : Int32} (hj : ¬ (j < 0 ∨ cl.slots.size ≤ j.toNatClampNeg)) (hd : In bs pc .bastore 1 nx) (k : ∀ T' h', Stand p l e R s m args below meth c T' (locs ++ [⟨a, j.toNatClampNeg⟩]) cells slots → T'.heap = h' → Wr h h' a j.toNatClampNeg (.int (nar .byte x)) → Wp p e below s K N Q T' (mkF m nx Ls st)) : Wp p e below s K N Q T (mkF m pc Ls (.int x :: .int j :: .ref a :: st)) := by
  obtain ⟨d, rfl⟩ := hd; obtain ⟨T', h', X', e', W', st'⟩ := stB X hx hZ eT A hj (g := mkF m pc Ls (.int x :: .int j :: .ref a :: st)) rfl rfl (hb hby d); exact Wp.go st' (k T' h' X' e' W')
theorem w_stZ (X : Stand p l e R s m args below meth c T locs cells slots) (hx : p.tables.exec = Jvm.exec) (hby : c.code = bs) (hZ : Z.Warmed39 s.vm) (eT : T.heap = h) {a : Addr} {cl : Cell} (A : Arr Z h a cl .boolean) {j : Int32} {x : Int32} (hj : ¬ (j < 0 ∨ cl.slots.size ≤ j.toNatClampNeg)) (hd : In bs pc .bastore 1 nx) (k : ∀ T' h', Stand p l e R s m args below meth c T' (locs ++ [⟨a, j.toNatClampNeg⟩]) cells slots → T'.heap = h' → Wr h h' a j.toNatClampNeg (.int (nar .boolean x)) → Wp p e below s K N Q T' (mkF m nx Ls st)) : Wp p e below s K N Q T (mkF m pc Ls (.int x :: .int j :: .ref a :: st)) := by
  obtain ⟨d, rfl⟩ := hd; obtain ⟨T', h', X', e', W', st'⟩ := stZ X hx hZ eT A hj (g := mkF m pc Ls (.int x :: .int j :: .ref a :: st)) rfl rfl (hb hby d); exact Wp.go st' (k T' h' X' e' W')
theorem w_stR (X : Stand p l e R s m args below meth c T locs cells slots) (hx : p.tables.exec = Jvm.exec) (hby : c.code = bs) (hZ : Z.Warmed39 s.vm) (eT : T.heap = h) {a : Addr} {cl : Cell} {ty : FieldType} (A : Arr Z h a cl ty) {j : Int32} {v : Value} (hj : ¬ (j < 0 ∨ cl.slots.size ≤ j.toNatClampNeg)) (hty : ty.isReference = true) (F : Sto Z h a v) (hd : In bs pc .aastore 1 nx) (k : ∀ T' h', Stand p l e R s m args below meth c T' (locs ++ [⟨a, j.toNatClampNeg⟩]) cells slots → T'.heap = h' → Wr h h' a j.toNatClampNeg v → Wp p e below s K N Q T' (mkF m nx Ls st)) : Wp p e below s K N Q T (mkF m pc Ls (v :: .int j :: .ref a :: st)) := by
  obtain ⟨d, rfl⟩ := hd; obtain ⟨T', h', X', e', W', st'⟩ := stR X hx hZ eT A hj hty F (g := mkF m pc Ls (v :: .int j :: .ref a :: st)) rfl rfl (hb hby d); exact Wp.go st' (k T' h' X' e' W')
theorem w_iaload (X : Stand p l e R s m args below meth c T locs cells slots) (hx : p.tables.exec = Jvm.exec) (hby : c.code = bs) (hZ : Z.Warmed39 s.vm) (eT : T.heap = h) {a : Addr} {cl : Cell} (A : Arr Z h a cl .int) {j : Int32} {v : Value} (hj : ¬ (j < 0 ∨ cl.slots.size ≤ j.toNatClampNeg)) (hv : cl.slots[j.toNatClampNeg]? = some v) (hd : In bs pc .iaload 1 nx) (k : Wp p e below s K N Q T (mkF m nx Ls (v :: st))) : Wp p e below s K N Q T (mkF m pc Ls (.int j :: .ref a :: st)) := by
  obtain ⟨d, rfl⟩ := hd; exact Wp.go (fun t kk => X.iaload hx (by rw [eT]; exact A.1) (State.isArrayOf_alike hZ.alike A.2.1) A.2.2 hj hv (g := mkF m pc Ls (.int j :: .ref a :: st)) rfl rfl (hb hby d) t kk) k
theorem w_laload (X : Stand p l e R s m args below meth c T locs cells slots) (hx : p.tables.exec = Jvm.exec) (hby : c.code = bs) (hZ : Z.Warmed39 s.vm) (eT : T.heap = h) {a : Addr} {cl : Cell} (A : Arr Z h a cl .long) {j : Int32} {v : Value} (hj : ¬ (j < 0 ∨ cl.slots.size ≤ j.toNatClampNeg)) (hv : cl.slots[j.toNatClampNeg]? = some v) (hd : In bs pc .laload 1 nx) (k : Wp p e below s K N Q T (mkF m nx Ls (v :: st))) : Wp p e below s K N Q T (mkF m pc Ls (.int j :: .ref a :: st)) := by
  obtain ⟨d, rfl⟩ := hd; exact Wp.go (fun t kk => X.laload hx (by rw [eT]; exact A.1) (State.isArrayOf_alike hZ.alike A.2.1) A.2.2 hj hv (g := mkF m pc Ls (.int j :: .ref a :: st)) rfl rfl (hb hby d) t kk) k
theorem w_caload (X : Stand p l e R s m args below meth c T locs cells slots) (hx : p.tables.exec = Jvm.exec) (hby : c.code = bs) (hZ : Z.Warmed39 s.vm) (eT : T.heap = h) {a : Addr} {cl : Cell} (A : Arr Z h a cl .char) {j : Int32} {v : Value} (hj : ¬ (j < 0 ∨ cl.slots.size ≤ j.toNatClampNeg)) (hv : cl.slots[j.toNatClampNeg]? = some v) (hd : In bs pc .caload 1 nx) (k : Wp p e below s K N Q T (mkF m nx Ls (v :: st))) : Wp p e below s K N Q T (mkF m pc Ls (.int j :: .ref a :: st)) := by
  obtain ⟨d, rfl⟩ := hd; exact Wp.go (fun t kk => X.caload hx (by rw [eT]; exact A.1) (State.isArrayOf_alike hZ.alike A.2.1) A.2.2 hj hv (g := mkF m pc Ls (.int j :: .ref a :: st)) rfl rfl (hb hby d) t kk) k
theorem w_baload (X : Stand p l e R s m args below meth c T locs cells slots) (hx : p.tables.exec = Jvm.exec) (hby : c.code = bs) (hZ : Z.Warmed39 s.vm) (eT : T.heap = h) {a : Addr} {cl : Cell} (A : Arr Z h a cl .byte) {j : Int32} {v : Value} (hj : ¬ (j < 0 ∨ cl.slots.size ≤ j.toNatClampNeg)) (hv : cl.slots[j.toNatClampNeg]? = some v) (hd : In bs pc .baload 1 nx) (k : Wp p e below s K N Q T (mkF m nx Ls (v :: st))) : Wp p e below s K N Q T (mkF m pc Ls (.int j :: .ref a :: st)) := by
  obtain ⟨d, rfl⟩ := hd; exact Wp.go (fun t kk => X.baloadBytes hx (by rw [eT]; exact A.1) (State.isArrayOf_alike hZ.alike A.2.1) A.2.2 hj hv (g := mkF m pc Ls (.int j :: .ref a :: st)) rfl rfl (hb hby d) t kk) k
theorem w_aaload (X : Stand p l e R s m args below meth c T locs cells slots) (hx : p.tables.exec = Jvm.exec) (hby : c.code = bs) (hZ : Z.Warmed39 s.vm) (eT : T.heap = h) {a : Addr} {cl : Cell} {ty : FieldType} (A : Arr Z h a cl ty) (hty : ty.isReference = true) {j : Int32} {v : Value} (hj : ¬ (j < 0 ∨ cl.slots.size ≤ j.toNatClampNeg)) (hv : cl.slots[j.toNatClampNeg]? = some v) (hd : In bs pc .aaload 1 nx) (k : Wp p e below s K N Q T (mkF m nx Ls (v :: st))) : Wp p e below s K N Q T (mkF m pc Ls (.int j :: .ref a :: st)) := by
  obtain ⟨d, rfl⟩ := hd; exact Wp.go (fun t kk => X.aaload hx (by rw [eT]; exact A.1) (State.isArrayOf_alike hZ.alike A.2.1) hty A.2.2 hj hv (g := mkF m pc Ls (.int j :: .ref a :: st)) rfl rfl (hb hby d) t kk) k
theorem w_arraylength (X : Stand p l e R s m args below meth c T locs cells slots) (hx : p.tables.exec = Jvm.exec) (hby : c.code = bs) (hZ : Z.Warmed39 s.vm) (eT : T.heap = h) {a : Addr} {cl : Cell} {ty : FieldType} (A : Arr Z h a cl ty) {z : Int32} (hz : cl.slots.size.toInt32 = z) (hd : In bs pc .arraylength 1 nx) (k : Wp p e below s K N Q T (mkF m nx Ls (.int z :: st))) : Wp p e below s K N Q T (mkF m pc Ls (.ref a :: st)) := by
  obtain ⟨d, rfl⟩ := hd; subst hz; exact Wp.go (fun t kk => X.arraylength hx (by rw [eT]; exact A.1) (State.isArrayOf_alike hZ.alike A.2.1) (g := mkF m pc Ls (.ref a :: st)) rfl rfl (hb hby d) t kk) k
theorem w_initO (X : Stand p l e R s m args below meth c T locs cells slots) (hx : p.tables.exec = Jvm.exec) (hby : c.code = bs) (hZ : Z.Warmed39 s.vm) {own : String} (hown : s.vm.findClass own = some m.cls) (hml : Ls.size = c.maxLocals) {idx : Nat} (w1 : (Cond.methodLink own idx Lib.objectInit).before a0 Z = true) (w2 : (Cond.instanceMethod Lib.objectInit).before a0 Z = true) (w3 : (Cond.code Lib.objectInit ⟨#[0xb1]⟩ 1 none).before a0 Z = true) (eT : T.heap = h) {a : Addr} (hd : In bs pc (.invokespecial idx) 3 nx) (hf : 1 ≤ R.frames) {Wd : Nat} (hW : (st.map fun v => v.category).sum = Wd) (hl : Wd + 12 ≤ R.locals) (k : ∀ T', Stand p l e R s m args below meth c T' locs cells slots → T'.heap = h → Wp p e below s K N Q T' (mkF m nx Ls st)) : Wp p e below s K N Q T (mkF m pc Ls (.ref a :: st)) := by
  obtain ⟨d, rfl⟩ := hd; obtain ⟨T', X', e', st'⟩ := initO X hx hZ hown w1 w2 w3 eT (g := mkF m pc Ls (.ref a :: st)) rfl hml rfl (hb hby d) hf (W := Wd) (by show 2 * 0 + _ ≤ _; omega) hl; exact Wp.go st' (k T' X' e')
/-- a body's contract: called on as' at the heap h it returns as Q says, within the room rm -/
def Con (l : Launch) (Z : State) (y : MethodName) (bs : ByteArray) (ml : Nat) (rt : Option FieldType) (rm : Room) (as' : Array Value) (h : Heap) (Q : Option Value → Heap → List Loc → Prop) : Prop :=
  ∀ ws : List Jvm.Cond, MetFree l y (head1 (Jvm.Cond.code y bs ml rt :: ws) rm) (fun a U => a = as' ∧ Z.Warmed39 U.vm ∧ U.heap = h) (fun _ _ _ _ _ => True) (fun _ U o U' => ∃ v L, o = .returned v ∧ Q v U'.heap L ∧ FrameEnd U o U' L rm.cells rm.slots)
theorem w_body {y : MethodName} {ml : Nat} {rt : Option FieldType} {rm : Room} {as' : Array Value} (hy : plainFor y = true) (hf : ∀ m, entryFrame m as' ml = mkF m 0 Ls [])
    (k : ∀ (p : Program) (e : Env) (s : State) (m : MethodId) (below : List Frame) (meth : Method) (c : Code) (T : State), Stand p l e rm s m as' below meth c T [] 0 0 → p.tables.exec = Jvm.exec → c.code = bs → c.maxLocals = ml → s.vm.findClass y.cls = some m.cls → meth.name = y.name → meth.sig.returnType = rt → meth.locks = false → Z.Warmed39 s.vm → T.heap = h → Wp p e below s rm.cells rm.slots Q T (mkF m 0 Ls [])) : Con l Z y bs ml rt rm as' h Q := by
  intro ws
  refine MetFree.of_bodySF hy hisR ?_
  intro p e s m args below meth c s₁ Bd hml0 hP hK
  obtain ⟨rfl, hZ, hh⟩ := hP
  have e0 : s₁.heap = h := by rw [← hh, Bd.state]; rfl
  rw [hf m]
  exact k p e s m below meth c s₁ (Stand.of_body Bd) Bd.exec Bd.bytes hml0 (findClass_of_methodNamed Bd.named) (name_of_methodNamed Bd.named Bd.method).1 Bd.returns (BodyLoose.notSynchronized Bd) hZ e0
/-- what a call leaves -/
def Called (p : Program) (l : Launch) (e : Env) (R : Room) (s : State) (m : MethodId) (args : Array Value) (below : List Frame) (meth : Method) (c : Code) (T : State) (locs : List Loc) (cells slots : Nat) (rm : Room) (Qc : Option Value → Heap → List Loc → Prop) (pc nx : Nat) (Ls : Array Slot) (stk rest : List Value) : Prop :=
  ∃ v T' L, Stand p l e R s m args below meth c T' (locs ++ L) (cells + rm.cells) (slots + rm.slots) ∧ Qc v T'.heap L ∧ Steps p.tables e below (T.setTop (mkF m pc Ls stk)) (T'.setTop (mkF m nx Ls (v.toList ++ rest)))
theorem call_S (X : Stand p l e R s m args below meth c T locs cells slots) (hx : p.tables.exec = Jvm.exec) (hby : c.code = bs) (hZ : Z.Warmed39 s.vm) {own : String} (hown : s.vm.findClass own = some m.cls) {y : MethodName} {ml : Nat} {rt : Option FieldType} {rm : Room} {as' : Array Value} {Qc : Option Value → Heap → List Loc → Prop} {index : Nat} {argsL rest : List Value} {Wd : Nat} {bs' : ByteArray} (w1 : (Cond.methodLink own index y).before a0 Z = true) (w2 : (Cond.static y).before a0 Z = true) (wz : (Cond.initialized y.cls).before a0 Z = true) (wc : (Cond.code y bs' ml rt).before a0 Z = true) (hy : y.cls ≠ "java/lang/invoke/MethodHandle" ∧ y.cls ≠ "java/lang/invoke/VarHandle") (con : Con l Z y bs' ml rt rm as' h Qc) (ha : argsL.toArray = as') (hd : In bs pc (.invokestatic index) 3 nx) (hsz : Ls.size = c.maxLocals) (hlen : ∀ sig, parseMethodDescriptor y.desc = some sig → argsL.length = sig.parameters.length) (hW : (rest.map fun v => v.category).sum = Wd) (hfr : rm.frames + 1 ≤ R.frames) (hlo : Wd + (ml + 11) + rm.locals ≤ R.locals) (hce : cells + rm.cells ≤ R.cells) (hso : slots + rm.slots ≤ R.slots) (eT : T.heap = h) : Called p l e R s m args below meth c T locs cells slots rm Qc pc nx Ls (argsL.reverse ++ rest) rest := by
  obtain ⟨d, rfl⟩ := hd
  obtain ⟨v, vm, ⟨T', L', k', n'⟩, -, X', ⟨L, q, l', y', z'⟩, st'⟩ := Jvm.LawKit.callS X hx (y := y) hown (mvT hZ w1) (mvT hZ w2) (mvT hZ wz) (mvT hZ wc) hy (backOf (W := Wd) (con []) hZ wc wz hfr hlo) (g := mkF m pc Ls (argsL.reverse ++ rest)) rfl hsz (argsL := argsL) (rest := rest) hlen rfl (by show 2 * 0 + _ ≤ _; omega) (hb hby d) (fun _ _ => ⟨ha, eT, hce, hso⟩)
  dsimp only [Pt.U, Pt.locs, Pt.cells, Pt.slots] at X' l' y' z' st' q
  subst l' y' z'
  exact ⟨v, T', L, X', q, st' _ (Steps.refl _)⟩
theorem call_N (X : Stand p l e R s m args below meth c T locs cells slots) (hx : p.tables.exec = Jvm.exec) (hby : c.code = bs) (hZ : Z.Warmed39 s.vm) {own : String} (hown : s.vm.findClass own = some m.cls) {y : MethodName} {ml : Nat} {rm : Room} {as' : Array Value} {Qc : Option Value → Heap → List Loc → Prop} {index : Nat} {argsL rest : List Value} {Wd : Nat} {bs' : ByteArray} {a : Addr} (hn : y.name = "<init>") (w1 : (Cond.methodLink own index y).before a0 Z = true) (w2 : (Cond.instanceMethod y).before a0 Z = true) (wz : (Cond.initialized y.cls).before a0 Z = true) (wc : (Cond.code y bs' ml none).before a0 Z = true) (hy : y.cls ≠ "java/lang/invoke/MethodHandle" ∧ y.cls ≠ "java/lang/invoke/VarHandle") (con : Con l Z y bs' ml none rm as' h Qc) (ha : (.ref a :: argsL).toArray = as') (hd : In bs pc (.invokespecial index) 3 nx) (hsz : Ls.size = c.maxLocals) (hlen : ∀ sig, parseMethodDescriptor y.desc = some sig → argsL.length = sig.parameters.length) (hW : (rest.map fun v => v.category).sum = Wd) (hfr : rm.frames + 1 ≤ R.frames) (hlo : Wd + (ml + 11) + rm.locals ≤ R.locals) (hce : cells + rm.cells ≤ R.cells) (hso : slots + rm.slots ≤ R.slots) (eT : T.heap = h) : Called p l e R s m args below meth c T locs cells slots rm Qc pc nx Ls (argsL.reverse ++ .ref a :: rest) rest := by
  obtain ⟨d, rfl⟩ := hd
  obtain ⟨v, vm, ⟨T', L', k', n'⟩, -, X', ⟨L, q, l', y', z'⟩, st'⟩ := X.specialBack hx (y := y) hn hown (mvT hZ w1) (mvT hZ w2) (mvT hZ wc) hy (backOf (W := Wd) (con []) hZ wc wz hfr hlo) (g := mkF m pc Ls (argsL.reverse ++ .ref a :: rest)) rfl hsz (Steps.refl _) (a := a) (argsL := argsL) (rest := rest) hlen rfl (by show 2 * 0 + _ ≤ _; omega) (hb hby d) (fun _ _ => ⟨ha, eT, hce, hso⟩)
  dsimp only [Pt.U, Pt.locs, Pt.cells, Pt.slots] at X' l' y' z' st' q
  subst l' y' z'
  exact ⟨v, T', L, X', q, st'⟩
theorem call_V (X : Stand p l e R s m args below meth c T locs cells slots) (hx : p.tables.exec = Jvm.exec) (hby : c.code = bs) (hZ : Z.Warmed39 s.vm) {own : String} (hown : s.vm.findClass own = some m.cls) {y : MethodName} {ml : Nat} {rt : Option FieldType} {rm : Room} {as' : Array Value} {Qc : Option Value → Heap → List Loc → Prop} {index : Nat} {argsL rest : List Value} {Wd : Nat} {bs' : ByteArray} {a : Addr} {C : String} (w1 : (Cond.methodLink own index y).before a0 Z = true) (w2 : (Cond.declares y).before a0 Z = true) (w3 : (Cond.selects C y y).before a0 Z = true) (w4 : (Cond.instanceMethod y).before a0 Z = true) (wz : (Cond.initialized y.cls).before a0 Z = true) (wc : (Cond.code y bs' ml rt).before a0 Z = true) (hy : y.cls ≠ "java/lang/invoke/MethodHandle" ∧ y.cls ≠ "java/lang/invoke/VarHandle") (E : Exa Z h a C) (con : Con l Z y bs' ml rt rm as' h Qc) (ha : (.ref a :: argsL).toArray = as') (hd : In bs pc (.invokevirtual index) 3 nx) (hsz : Ls.size = c.maxLocals) (hlen : ∀ sig, parseMethodDescriptor y.desc = some sig → argsL.length = sig.parameters.length) (hW : (rest.map fun v => v.category).sum = Wd) (hfr : rm.frames + 1 ≤ R.frames) (hlo : Wd + (ml + 11) + rm.locals ≤ R.locals) (hce : cells + rm.cells ≤ R.cells) (hso : slots + rm.slots ≤ R.slots) (eT : T.heap = h) : Called p l e R s m args below meth c T locs cells slots rm Qc pc nx Ls (argsL.reverse ++ .ref a :: rest) rest := by
  obtain ⟨d, rfl⟩ := hd
  obtain ⟨cq, kq, qa, qb, qc⟩ := isOf hZ eT E
  obtain ⟨v, vm, ⟨T', L', k', n'⟩, -, X', ⟨L, q, l', y', z'⟩, st'⟩ := X.virtualBack hx (y := y) (z := y) hown (mvT hZ w1) (mvT hZ w2) (notFace_of_selects (args := #[]) (mvT hZ w3)) (mvT hZ w3) (mvT hZ w4) hy (backOf (W := Wd) (con []) hZ wc wz hfr hlo) qa qc (g := mkF m pc Ls (argsL.reverse ++ .ref a :: rest)) rfl hsz (Steps.refl _) (argsL := argsL) (rest := rest) hlen rfl (by show 2 * 0 + _ ≤ _; omega) (hb hby d) (fun _ _ => ⟨ha, eT, hce, hso⟩)
  dsimp only [Pt.U, Pt.locs, Pt.cells, Pt.slots] at X' l' y' z' st' q
  subst l' y' z'
  exact ⟨v, T', L, X', q, st'⟩
theorem call_U (X : Stand p l e R s m args below meth c T locs cells slots) (hx : p.tables.exec = Jvm.exec) (hby : c.code = bs) (hZ : Z.Warmed39 s.vm) {own : String} (hown : s.vm.findClass own = some m.cls) {y : MethodName} {ml : Nat} {rt : Option FieldType} {rm : Room} {as' : Array Value} {Qc : Option Value → Heap → List Loc → Prop} {index : Nat} {argsL rest : List Value} {Wd : Nat} {bs' : ByteArray} {x : MethodName} {a : Addr} {C owner : String} (w1 : (Cond.methodLink own index x).before a0 Z = true) (w2 : (Cond.sameMethod x.cls owner x.name x.desc).before a0 Z = true) (w5 : (Cond.declares ⟨owner, x.name, x.desc⟩).before a0 Z = true) (ho : owner ≠ "java/lang/invoke/MethodHandle" ∧ owner ≠ "java/lang/invoke/VarHandle") (w3 : (Cond.selects C x y).before a0 Z = true) (w4 : (Cond.instanceMethod y).before a0 Z = true) (wz : (Cond.initialized y.cls).before a0 Z = true) (wc : (Cond.code y bs' ml rt).before a0 Z = true) (E : Exa Z h a C) (con : Con l Z y bs' ml rt rm as' h Qc) (ha : (.ref a :: argsL).toArray = as') (hd : In bs pc (.invokevirtual index) 3 nx) (hsz : Ls.size = c.maxLocals) (hlen : ∀ sig, parseMethodDescriptor x.desc = some sig → argsL.length = sig.parameters.length) (hW : (rest.map fun v => v.category).sum = Wd) (hfr : rm.frames + 1 ≤ R.frames) (hlo : Wd + (ml + 11) + rm.locals ≤ R.locals) (hce : cells + rm.cells ≤ R.cells) (hso : slots + rm.slots ≤ R.slots) (eT : T.heap = h) : Called p l e R s m args below meth c T locs cells slots rm Qc pc nx Ls (argsL.reverse ++ .ref a :: rest) rest := by
  obtain ⟨d, rfl⟩ := hd
  obtain ⟨cq, kq, qa, qb, qc⟩ := isOf hZ eT E
  obtain ⟨v, vm, ⟨T', L', k', n'⟩, -, X', ⟨L, q, l', y', z'⟩, st'⟩ := X.virtualBackUp hx (x := x) (y := y) hown (mvT hZ w1) (mvT hZ w2) (mvT hZ w5) ho (mvT hZ w3) (mvT hZ w4) (backOf (W := Wd) (con []) hZ wc wz hfr hlo) qa qc (g := mkF m pc Ls (argsL.reverse ++ .ref a :: rest)) rfl hsz (Steps.refl _) (argsL := argsL) (rest := rest) hlen rfl (by show 2 * 0 + _ ≤ _; omega) (hb hby d) (fun _ _ => ⟨ha, eT, hce, hso⟩)
  dsimp only [Pt.U, Pt.locs, Pt.cells, Pt.slots] at X' l' y' z' st' q
  subst l' y' z'
  exact ⟨v, T', L, X', q, st'⟩
/-- behind a call -/
theorem w_called {rm : Room} {Qc : Option Value → Heap → List Loc → Prop} {stk rest : List Value} (hc : Called p l e R s m args below meth c T locs cells slots rm Qc pc nx Ls stk rest)
    (k : ∀ v T' L, Stand p l e R s m args below meth c T' (locs ++ L) (cells + rm.cells) (slots + rm.slots) → Qc v T'.heap L → Wp p e below s K N Q T' (mkF m nx Ls (v.toList ++ rest))) : Wp p e below s K N Q T (mkF m pc Ls stk) := by
  obtain ⟨v, T', L, X', q, st'⟩ := hc; exact Wp.tr st' (k v T' L X' q)
/-- behind a call that writes nothing and makes nothing -/
theorem w_calledp {rm : Room} {w : Value} {stk rest : List Value} (hc : Called p l e R s m args below meth c T locs cells slots rm (fun v h' L => v = some w ∧ h' = h ∧ L = []) pc nx Ls stk rest) (h1 : rm.cells = 0) (h2 : rm.slots = 0)
    (k : ∀ T', Stand p l e R s m args below meth c T' locs cells slots → T'.heap = h → Wp p e below s K N Q T' (mkF m nx Ls (w :: rest))) : Wp p e below s K N Q T (mkF m pc Ls stk) := by
  obtain ⟨v, T', L, X', ⟨rfl, q, rfl⟩, st'⟩ := hc
  rw [h1, h2, List.append_nil] at X'
  exact Wp.tr st' (k T' X' q)
theorem w_retI (X : Stand p l e R s m args below meth c T locs cells slots) (hx : p.tables.exec = Jvm.exec) (hby : c.code = bs) (eT : T.heap = h) (hlk : meth.locks = false) {z : Int32} (hret : meth.sig.returnType = some .int) (hd : In bs pc .ireturn 1 nx) (hK : cells ≤ K) (hN : slots ≤ N) (q : Q (some (.int z)) h locs) : Wp p e below s K N Q T (mkF m pc Ls (.int z :: st)) := by
  obtain ⟨fs, hr, hrun, hended, hW, hsame⟩ := X.leave (v := some (.int z)) (fun h => by rw [hret] at h; cases h) hlk
  subst eT
  refine ⟨_, _, ?_, hrun, hended, _, _, rfl, q, ⟨_, rfl⟩, hW, hsame.mono hK hN⟩
  exact retOut X hx hret rfl (Or.inl ⟨rfl, Or.inl rfl, z, rfl⟩) (hb hby hd.1) hr
theorem w_retN (X : Stand p l e R s m args below meth c T locs cells slots) (hx : p.tables.exec = Jvm.exec) (hby : c.code = bs) (eT : T.heap = h) (hlk : meth.locks = false) {z : Int32} {t : FieldType} (hret : meth.sig.returnType = some t) (ht : t = .boolean ∨ t = .byte ∨ t = .char ∨ t = .short) (hd : In bs pc .ireturn 1 nx) (hK : cells ≤ K) (hN : slots ≤ N) (q : Q (some (.int (nar t z))) h locs) : Wp p e below s K N Q T (mkF m pc Ls (.int z :: st)) := by
  obtain ⟨fs, hr, hrun, hended, hW, hsame⟩ := X.leave (v := some (.int (nar t z))) (fun h => by rw [hret] at h; cases h) hlk
  subst eT
  refine ⟨_, _, ?_, hrun, hended, _, _, rfl, q, ⟨_, rfl⟩, hW, hsame.mono hK hN⟩
  exact retN X hx hret ht (hb hby hd.1) hr
theorem w_retJ (X : Stand p l e R s m args below meth c T locs cells slots) (hx : p.tables.exec = Jvm.exec) (hby : c.code = bs) (eT : T.heap = h) (hlk : meth.locks = false) {z : Int64} (hret : meth.sig.returnType = some .long) (hd : In bs pc .lreturn 1 nx) (hK : cells ≤ K) (hN : slots ≤ N) (q : Q (some (.long z)) h locs) : Wp p e below s K N Q T (mkF m pc Ls (.long z :: st)) := by
  obtain ⟨fs, hr, hrun, hended, hW, hsame⟩ := X.leave (v := some (.long z)) (fun h => by rw [hret] at h; cases h) hlk
  subst eT
  refine ⟨_, _, ?_, hrun, hended, _, _, rfl, q, ⟨_, rfl⟩, hW, hsame.mono hK hN⟩
  exact retOut X hx hret rfl (Or.inr (Or.inl ⟨rfl, rfl, z, rfl⟩)) (hb hby hd.1) hr
theorem w_retA (X : Stand p l e R s m args below meth c T locs cells slots) (hx : p.tables.exec = Jvm.exec) (hby : c.code = bs) (eT : T.heap = h) (hlk : meth.locks = false) {w : Value} {t : FieldType} (hret : meth.sig.returnType = some t) (ht : t.isReference = true) (hw : w.isRef = true) (hn : narrow t w = w) (hd : In bs pc .areturn 1 nx) (hK : cells ≤ K) (hN : slots ≤ N) (q : Q (some w) h locs) : Wp p e below s K N Q T (mkF m pc Ls (w :: st)) := by
  obtain ⟨fs, hr, hrun, hended, hW, hsame⟩ := X.leave (v := some w) (fun h => by rw [hret] at h; cases h) hlk
  subst eT
  refine ⟨_, _, ?_, hrun, hended, _, _, rfl, q, ⟨_, rfl⟩, hW, hsame.mono hK hN⟩
  exact retOut X hx hret hn (Or.inr (Or.inr (Or.inr (Or.inr ⟨rfl, ht, hw⟩)))) (hb hby hd.1) hr
theorem w_retV (X : Stand p l e R s m args below meth c T locs cells slots) (hx : p.tables.exec = Jvm.exec) (hby : c.code = bs) (eT : T.heap = h) (hlk : meth.locks = false) (hret : meth.sig.returnType = none) (hd : In bs pc .return_ 1 nx) (hK : cells ≤ K) (hN : slots ≤ N) (q : Q none h locs) : Wp p e below s K N Q T (mkF m pc Ls []) := by
  obtain ⟨fs, hr, hrun, hended, hW, hsame⟩ := X.leave (v := none) (fun _ => rfl) hlk
  subst eT
  refine ⟨_, _, ?_, hrun, hended, _, _, rfl, q, ⟨_, rfl⟩, hW, hsame.mono hK hN⟩
  exact X.returnOut hx hret (hb hby hd.1) hr
theorem own_ns {Z : State} {h : Heap} {a : Addr} {K : String} (E : Exa Z h a K) : ∃ c : Cell, h[a]? = some c ∧ c.vm.isStatics = false := by
  obtain ⟨c, _, h1, -, -, h4, -⟩ := E; exact ⟨c, h1, h4⟩
theorem own_nsV {Z : State} {h : Heap} {a : Addr} {k : ClassId} {ty : FieldType} {n : Int32} {vs : List Value} {dv : Value} (E : Arv Z h a k ty n vs dv) : ∃ c : Cell, h[a]? = some c ∧ c.vm.isStatics = false := by
  obtain ⟨c, A, -⟩ := E; exact ⟨c, A.1, A.plain⟩
theorem own_sta_keep {Z : State} {h h' : Heap} {C n d : String} {v : Value} {ws : List Addr} (F : Sta Z h C n d v) (K : Keep h h' ws) (q : ∀ x ∈ ws, ∃ c : Cell, h[x]? = some c ∧ c.vm.isStatics = false) : Sta Z h' C n d v := by
  obtain ⟨cf, i, k, f, st, cell, h1, h2, h3, h4, h5, h6, h7⟩ := F
  refine ⟨cf, i, k, f, st, cell, h1, h2, h3, h4, K.2.1 _ _ h5 (fun hm => ?_), h6, h7⟩
  obtain ⟨c, e1, e2⟩ := q st hm
  cases h5.symm.trans e1
  rw [h6] at e2; cases e2
theorem own_ext_keep {h h' : Heap} (E : Ext h h') : Keep h h' [] := (Keep.refl h []).ext E
theorem own_keep_ext {h h' : Heap} (K : Keep h h' []) : Ext h h' := ⟨K.1, fun a c q => K.2.1 a c q nin0⟩
end OwnKit
theorem t_0 : (Jvm.Cond.constantLong "com/example/tagwright/tagwright/ElementTypeOfTagPinLaw" (11 : Nat) (64 : Int64)) ∈ tables_1 := List.mem_of_getElem? (i := 0) rfl
theorem t_1 : (Jvm.Cond.methodLink "com/example/tagwright/tagwright/ElementTypeOfTagPinLaw" (17 : Nat) ({ cls := "com/example/tagwright/tagwright/ElementType", name := "ofTag", desc := "(J)Lcom/example/tagwright/tagwright/ElementType;" } : Jvm.MethodName)) ∈ tables_1 := List.mem_of_getElem? (i := 1) rfl
theorem t_2 : (Jvm.Cond.static ({ cls := "com/example/tagwright/tagwright/ElementType", name := "ofTag", desc := "(J)Lcom/example/tagwright/tagwright/ElementType;" } : Jvm.MethodName)) ∈ tables_1 := List.mem_of_getElem? (i := 2) rfl
theorem t_3 : (Jvm.Cond.initialized "com/example/tagwright/tagwright/ElementType") ∈ tables_1 := List.mem_of_getElem? (i := 3) rfl
theorem t_4 : (Jvm.Cond.code ({ cls := "com/example/tagwright/tagwright/ElementType", name := "ofTag", desc := "(J)Lcom/example/tagwright/tagwright/ElementType;" } : Jvm.MethodName) prog_25_method_9_code (2 : Nat) (Option.some (Jvm.ClassFile.FieldType.object "com/example/tagwright/tagwright/ElementType"))) ∈ tables_1 := List.mem_of_getElem? (i := 4) rfl
theorem t_5 : (Jvm.Cond.constantLong "com/example/tagwright/tagwright/ElementType" (118 : Nat) (64 : Int64)) ∈ tables_1 := List.mem_of_getElem? (i := 5) rfl
theorem t_6 : (Jvm.Cond.constantLong "com/example/tagwright/tagwright/ElementTypeOfTagPinLaw" (7 : Nat) (40 : Int64)) ∈ tables_1 := List.mem_of_getElem? (i := 6) rfl
theorem t_7 : (Jvm.Cond.constantLong "com/example/tagwright/tagwright/ElementTypeOfTagPinLaw" (9 : Nat) (63 : Int64)) ∈ tables_1 := List.mem_of_getElem? (i := 7) rfl
theorem t_8 : (Jvm.Cond.constantLong "com/example/tagwright/tagwright/ElementTypeOfTagPinLaw" (13 : Nat) (87 : Int64)) ∈ tables_1 := List.mem_of_getElem? (i := 8) rfl
theorem t_9 : (Jvm.Cond.fieldLink "com/example/tagwright/tagwright/ElementType" (120 : Nat) "com/example/tagwright/tagwright/ElementType" "BY_TAG" "[Lcom/example/tagwright/tagwright/ElementType;") ∈ tables_1 := List.mem_of_getElem? (i := 9) rfl
theorem t_10 : (Jvm.Cond.laysStatic "com/example/tagwright/tagwright/ElementType" "BY_TAG" "[Lcom/example/tagwright/tagwright/ElementType;") ∈ tables_1 := List.mem_of_getElem? (i := 10) rfl
theorem t_11 : (Jvm.Cond.constantLong "com/example/tagwright/tagwright/ElementTypeOfTagPinLaw" (15 : Nat) (76 : Int64)) ∈ tables_1 := List.mem_of_getElem? (i := 11) rfl
theorem t_12 : (Jvm.Cond.laysStatic "com/example/tagwright/tagwright/ElementType" "BINARY128_LE" "Lcom/example/tagwright/tagwright/ElementType;") ∈ tables_1 := List.mem_of_getElem? (i := 12) rfl
theorem t_13 : (Jvm.Cond.methodLink "com/example/tagwright/tagwright/ElementTypeOfTagPinLaw" (23 : Nat) ({ cls := "com/example/tagwright/tagwright/ElementType", name := "tagNumber", desc := "()J" } : Jvm.MethodName)) ∈ tables_1 := List.mem_of_getElem? (i := 13) rfl
theorem t_14 : (Jvm.Cond.declares ({ cls := "com/example/tagwright/tagwright/ElementType", name := "tagNumber", desc := "()J" } : Jvm.MethodName)) ∈ tables_1 := List.mem_of_getElem? (i := 14) rfl
theorem t_15 : (Jvm.Cond.instanceMethod ({ cls := "com/example/tagwright/tagwright/ElementType", name := "tagNumber", desc := "()J" } : Jvm.MethodName)) ∈ tables_1 := List.mem_of_getElem? (i := 15) rfl
theorem t_16 : (Jvm.Cond.selects "com/example/tagwright/tagwright/ElementType" ({ cls := "com/example/tagwright/tagwright/ElementType", name := "tagNumber", desc := "()J" } : Jvm.MethodName) ({ cls := "com/example/tagwright/tagwright/ElementType", name := "tagNumber", desc := "()J" } : Jvm.MethodName)) ∈ tables_1 := List.mem_of_getElem? (i := 16) rfl
theorem t_17 : (Jvm.Cond.code ({ cls := "com/example/tagwright/tagwright/ElementType", name := "tagNumber", desc := "()J" } : Jvm.MethodName) prog_25_method_4_code (1 : Nat) (Option.some Jvm.ClassFile.FieldType.long)) ∈ tables_1 := List.mem_of_getElem? (i := 17) rfl
theorem t_18 : (Jvm.Cond.fieldLink "com/example/tagwright/tagwright/ElementType" (92 : Nat) "com/example/tagwright/tagwright/ElementType" "tagNumber" "I") ∈ tables_1 := List.mem_of_getElem? (i := 18) rfl
theorem t_20 : (Jvm.Cond.laysStatic "com/example/tagwright/tagwright/ElementType" "UINT32_LE" "Lcom/example/tagwright/tagwright/ElementType;") ∈ tables_1 := List.mem_of_getElem? (i := 20) rfl
theorem t_21 : (Jvm.Cond.laysStatic "com/example/tagwright/tagwright/ElementType" "UINT16_BE" "Lcom/example/tagwright/tagwright/ElementType;") ∈ tables_1 := List.mem_of_getElem? (i := 21) rfl
theorem t_22 : (Jvm.Cond.laysStatic "com/example/tagwright/tagwright/ElementType" "SINT64_LE" "Lcom/example/tagwright/tagwright/ElementType;") ∈ tables_1 := List.mem_of_getElem? (i := 22) rfl
theorem t_23 : (Jvm.Cond.laysStatic "com/example/tagwright/tagwright/ElementType" "UINT8" "Lcom/example/tagwright/tagwright/ElementType;") ∈ tables_1 := List.mem_of_getElem? (i := 23) rfl
theorem t_24 : (Jvm.Cond.laysStatic "com/example/tagwright/tagwright/ElementType" "BINARY32_LE" "Lcom/example/tagwright/tagwright/ElementType;") ∈ tables_1 := List.mem_of_getElem? (i := 24) rfl
theorem t_25 : (Jvm.Cond.laysStatic "com/example/tagwright/tagwright/ElementType" "UINT64_LE" "Lcom/example/tagwright/tagwright/ElementType;") ∈ tables_1 := List.mem_of_getElem? (i := 25) rfl
theorem t_26 : (Jvm.Cond.laysStatic "com/example/tagwright/tagwright/ElementType" "SINT32_BE" "Lcom/example/tagwright/tagwright/ElementType;") ∈ tables_1 := List.mem_of_getElem? (i := 26) rfl
theorem t_27 : (Jvm.Cond.laysStatic "com/example/tagwright/tagwright/ElementType" "SINT64_BE" "Lcom/example/tagwright/tagwright/ElementType;") ∈ tables_1 := List.mem_of_getElem? (i := 27) rfl
theorem t_28 : (Jvm.Cond.laysStatic "com/example/tagwright/tagwright/ElementType" "SINT16_BE" "Lcom/example/tagwright/tagwright/ElementType;") ∈ tables_1 := List.mem_of_getElem? (i := 28) rfl
theorem t_29 : (Jvm.Cond.laysStatic "com/example/tagwright/tagwright/ElementType" "UINT8_CLAMPED" "Lcom/example/tagwright/tagwright/ElementType;") ∈ tables_1 := List.mem_of_getElem? (i := 29) rfl
theorem t_30 : (Jvm.Cond.laysStatic "com/example/tagwright/tagwright/ElementType" "UINT32_BE" "Lcom/example/tagwright/tagwright/ElementType;") ∈ tables_1 := List.mem_of_getElem? (i := 30) rfl
theorem t_31 : (Jvm.Cond.laysStatic "com/example/tagwright/tagwright/ElementType" "BINARY16_LE" "Lcom/example/tagwright/tagwright/ElementType;") ∈ tables_1 := List.mem_of_getElem? (i := 31) rfl
theorem t_32 : (Jvm.Cond.laysStatic "com/example/tagwright/tagwright/ElementType" "BINARY64_BE" "Lcom/example/tagwright/tagwright/ElementType;") ∈ tables_1 := List.mem_of_getElem? (i := 32) rfl
theorem t_33 : (Jvm.Cond.laysStatic "com/example/tagwright/tagwright/ElementType" "UINT16_LE" "Lcom/example/tagwright/tagwright/ElementType;") ∈ tables_1 := List.mem_of_getElem? (i := 33) rfl
theorem t_34 : (Jvm.Cond.laysStatic "com/example/tagwright/tagwright/ElementType" "BINARY64_LE" "Lcom/example/tagwright/tagwright/ElementType;") ∈ tables_1 := List.mem_of_getElem? (i := 34) rfl
theorem t_35 : (Jvm.Cond.laysStatic "com/example/tagwright/tagwright/ElementType" "SINT16_LE" "Lcom/example/tagwright/tagwright/ElementType;") ∈ tables_1 := List.mem_of_getElem? (i := 35) rfl
theorem t_36 : (Jvm.Cond.laysStatic "com/example/tagwright/tagwright/ElementType" "BINARY16_BE" "Lcom/example/tagwright/tagwright/ElementType;") ∈ tables_1 := List.mem_of_getElem? (i := 36) rfl
theorem t_37 : (Jvm.Cond.laysStatic "com/example/tagwright/tagwright/ElementType" "SINT32_LE" "Lcom/example/tagwright/tagwright/ElementType;") ∈ tables_1 := List.mem_of_getElem? (i := 37) rfl
theorem t_38 : (Jvm.Cond.laysStatic "com/example/tagwright/tagwright/ElementType" "BINARY32_BE" "Lcom/example/tagwright/tagwright/ElementType;") ∈ tables_1 := List.mem_of_getElem? (i := 38) rfl
theorem t_39 : (Jvm.Cond.laysStatic "com/example/tagwright/tagwright/ElementType" "SINT8" "Lcom/example/tagwright/tagwright/ElementType;") ∈ tables_1 := List.mem_of_getElem? (i := 39) rfl
theorem t_40 : (Jvm.Cond.laysStatic "com/example/tagwright/tagwright/ElementType" "BINARY128_BE" "Lcom/example/tagwright/tagwright/ElementType;") ∈ tables_1 := List.mem_of_getElem? (i := 40) rfl
theorem t_41 : (Jvm.Cond.laysStatic "com/example/tagwright/tagwright/ElementType" "UINT64_BE" "Lcom/example/tagwright/tagwright/ElementType;") ∈ tables_1 := List.mem_of_getElem? (i := 41) rfl
theorem n1_0 : In prog_25_method_9_code 0 (.lload_n 0) 1 1 := ⟨by decide +kernel, rfl⟩
theorem n1_1 : In prog_25_method_9_code 1 (.ldc2_w 118) 3 4 := ⟨by decide +kernel, rfl⟩
theorem n1_4 : In prog_25_method_9_code 4 (.lcmp) 1 5 := ⟨by decide +kernel, rfl⟩
theorem n1_5 : Jm prog_25_method_9_code 5 (.ifCond .lt 30) 30 8 35 := ⟨by decide +kernel, rfl, by decide, by decide⟩
theorem n1_35 : In prog_25_method_9_code 35 (.aconst_null) 1 36 := ⟨by decide +kernel, rfl⟩
theorem n1_36 : In prog_25_method_9_code 36 (.areturn) 1 37 := ⟨by decide +kernel, rfl⟩
theorem n1_8 : In prog_25_method_9_code 8 (.lload_n 0) 1 9 := ⟨by decide +kernel, rfl⟩
theorem n1_9 : In prog_25_method_9_code 9 (.ldc2_w 118) 3 12 := ⟨by decide +kernel, rfl⟩
theorem n1_12 : In prog_25_method_9_code 12 (.lsub) 1 13 := ⟨by decide +kernel, rfl⟩
theorem n1_13 : In prog_25_method_9_code 13 (.getstatic 120) 3 16 := ⟨by decide +kernel, rfl⟩
theorem n1_16 : In prog_25_method_9_code 16 (.arraylength) 1 17 := ⟨by decide +kernel, rfl⟩
theorem n1_17 : In prog_25_method_9_code 17 (.i2l) 1 18 := ⟨by decide +kernel, rfl⟩
theorem n1_18 : In prog_25_method_9_code 18 (.lcmp) 1 19 := ⟨by decide +kernel, rfl⟩
theorem n1_19 : Jm prog_25_method_9_code 19 (.ifCond .ge 16) 16 22 35 := ⟨by decide +kernel, rfl, by decide, by decide⟩
theorem n1_22 : In prog_25_method_9_code 22 (.getstatic 120) 3 25 := ⟨by decide +kernel, rfl⟩
theorem n1_25 : In prog_25_method_9_code 25 (.lload_n 0) 1 26 := ⟨by decide +kernel, rfl⟩
theorem n1_26 : In prog_25_method_9_code 26 (.ldc2_w 118) 3 29 := ⟨by decide +kernel, rfl⟩
theorem n1_29 : In prog_25_method_9_code 29 (.lsub) 1 30 := ⟨by decide +kernel, rfl⟩
theorem n1_30 : In prog_25_method_9_code 30 (.l2i) 1 31 := ⟨by decide +kernel, rfl⟩
theorem n1_31 : In prog_25_method_9_code 31 (.aaload) 1 32 := ⟨by decide +kernel, rfl⟩
theorem n1_32 : Jm prog_25_method_9_code 32 (.goto 4) 4 35 36 := ⟨by decide +kernel, rfl, by decide, by decide⟩
theorem pn_1 : plainFor (⟨"com/example/tagwright/tagwright/ElementType", "ofTag", "(J)Lcom/example/tagwright/tagwright/ElementType;"⟩ : MethodName) = true := plainFor_of_name (by first | (simp [plainName, overriddenIn]; done) | decide +kernel)
theorem n2_0 : In prog_25_method_4_code 0 (.aload_n 0) 1 1 := ⟨by decide +kernel, rfl⟩
theorem n2_1 : In prog_25_method_4_code 1 (.getfield 92) 3 4 := ⟨by decide +kernel, rfl⟩
theorem n2_4 : In prog_25_method_4_code 4 (.i2l) 1 5 := ⟨by decide +kernel, rfl⟩
theorem n2_5 : In prog_25_method_4_code 5 (.lreturn) 1 6 := ⟨by decide +kernel, rfl⟩
theorem pn_2 : plainFor (⟨"com/example/tagwright/tagwright/ElementType", "tagNumber", "()J"⟩ : MethodName) = true := plainFor_of_name (by first | (simp [plainName, overriddenIn]; done) | decide +kernel)
theorem n0_0 : In code 0 (.iload_n 2) 1 1 := ⟨at_0, rfl⟩
theorem n0_1 : In code 1 (.iconst 1) 1 2 := ⟨at_1, rfl⟩
theorem n0_2 : In code 2 (.iand) 1 3 := ⟨at_2, rfl⟩
theorem n0_3 : Jm code 3 (.ifCond .ne 7) 7 6 10 := ⟨at_3, rfl, by decide, by decide⟩
theorem n0_10 : In code 10 (.ldc2_w 7) 3 13 := ⟨at_10, rfl⟩
theorem n0_13 : In code 13 (.lload_n 0) 1 14 := ⟨at_13, rfl⟩
theorem n0_14 : In code 14 (.ldc2_w 9) 3 17 := ⟨at_14, rfl⟩
theorem n0_17 : In code 17 (.land) 1 18 := ⟨at_17, rfl⟩
theorem n0_18 : In code 18 (.ladd) 1 19 := ⟨at_18, rfl⟩
theorem n0_19 : In code 19 (.lstore_n 3) 1 20 := ⟨at_19, rfl⟩
theorem n0_20 : In code 20 (.lload_n 3) 1 21 := ⟨at_20, rfl⟩
theorem n0_21 : In code 21 (.ldc2_w 11) 3 24 := ⟨at_21, rfl⟩
theorem n0_24 : In code 24 (.lcmp) 1 25 := ⟨at_24, rfl⟩
theorem n0_25 : Jm code 25 (.ifCond .lt 23) 23 28 48 := ⟨at_25, rfl, by decide, by decide⟩
theorem n0_48 : In code 48 (.iconst 0) 1 49 := ⟨at_48, rfl⟩
theorem n0_49 : In code 49 (.istore 5) 2 51 := ⟨at_49, rfl⟩
theorem n0_51 : In code 51 (.lload_n 3) 1 52 := ⟨at_51, rfl⟩
theorem n0_52 : In code 52 (.invokestatic 17) 3 55 := ⟨at_52, rfl⟩
theorem pd_144729 : parseMethodDescriptor "(J)Lcom/example/tagwright/tagwright/ElementType;" = some ⟨[.long], some (.object "com/example/tagwright/tagwright/ElementType")⟩ := by decide +kernel
theorem n0_55 : In code 55 (.astore 6) 2 57 := ⟨at_55, rfl⟩
theorem n0_57 : In code 57 (.iload 5) 2 59 := ⟨at_57, rfl⟩
theorem n0_59 : Jm code 59 (.ifCond .ne 14) 14 62 73 := ⟨at_59, rfl, by decide, by decide⟩
theorem n0_62 : In code 62 (.aload 6) 2 64 := ⟨at_62, rfl⟩
theorem n0_64 : Jm code 64 (.ifnonnull 7) 7 67 71 := ⟨at_64, rfl, by decide, by decide⟩
theorem n0_67 : In code 67 (.iconst 1) 1 68 := ⟨at_67, rfl⟩
theorem n0_68 : Jm code 68 (.goto 4) 4 71 72 := ⟨at_68, rfl, by decide, by decide⟩
theorem n0_72 : In code 72 (.ireturn) 1 73 := ⟨at_72, rfl⟩
theorem n0_28 : In code 28 (.lload_n 3) 1 29 := ⟨at_28, rfl⟩
theorem n0_29 : In code 29 (.ldc2_w 13) 3 32 := ⟨at_29, rfl⟩
theorem n0_32 : In code 32 (.lcmp) 1 33 := ⟨at_32, rfl⟩
theorem n0_33 : Jm code 33 (.ifCond .gt 15) 15 36 48 := ⟨at_33, rfl, by decide, by decide⟩
theorem n0_36 : In code 36 (.lload_n 3) 1 37 := ⟨at_36, rfl⟩
theorem n0_37 : In code 37 (.ldc2_w 15) 3 40 := ⟨at_37, rfl⟩
theorem n0_40 : In code 40 (.lcmp) 1 41 := ⟨at_40, rfl⟩
theorem n0_41 : Jm code 41 (.ifCond .eq 7) 7 44 48 := ⟨at_41, rfl, by decide, by decide⟩
theorem n0_44 : In code 44 (.iconst 1) 1 45 := ⟨at_44, rfl⟩
theorem n0_45 : Jm code 45 (.goto 4) 4 48 49 := ⟨at_45, rfl, by decide, by decide⟩
theorem n0_73 : In code 73 (.aload 6) 2 75 := ⟨at_73, rfl⟩
theorem n0_75 : Jm code 75 (.ifnull 17) 17 78 92 := ⟨at_75, rfl, by decide, by decide⟩
theorem n0_78 : In code 78 (.aload 6) 2 80 := ⟨at_78, rfl⟩
theorem n0_80 : In code 80 (.invokevirtual 23) 3 83 := ⟨at_80, rfl⟩
theorem pd_1274 : parseMethodDescriptor "()J" = some ⟨[], some .long⟩ := by decide +kernel
theorem n0_83 : In code 83 (.lload_n 3) 1 84 := ⟨at_83, rfl⟩
theorem n0_84 : In code 84 (.lcmp) 1 85 := ⟨at_84, rfl⟩
theorem n0_85 : Jm code 85 (.ifCond .ne 7) 7 88 92 := ⟨at_85, rfl, by decide, by decide⟩
theorem n0_88 : In code 88 (.iconst 1) 1 89 := ⟨at_88, rfl⟩
theorem n0_89 : Jm code 89 (.goto 4) 4 92 93 := ⟨at_89, rfl, by decide, by decide⟩
theorem n0_93 : In code 93 (.ireturn) 1 94 := ⟨at_93, rfl⟩
theorem n0_6 : In code 6 (.lload_n 0) 1 7 := ⟨at_6, rfl⟩
theorem n0_7 : Jm code 7 (.goto 12) 12 10 19 := ⟨at_7, rfl, by decide, by decide⟩
theorem pn_0 : plainFor (⟨"com/example/tagwright/tagwright/ElementTypeOfTagPinLaw", "law", "(JI)Z"⟩ : MethodName) = true := plainFor_of_name (by first | (simp [plainName, overriddenIn]; done) | decide +kernel)
theorem own_eqI {t : Term} {k : Int32} {args : Array Value} {s : State} (h : (Cond.eq t (.int k)).value args s none s [] = some true) : t.eval args s none [] s = some (.int k) := by
  obtain ⟨x, y, h1, h2, h3, -⟩ := cmp_v (Or.inl h)
  cases (Option.some.inj h2 : (Value.int k) = y)
  cases x <;> first | (have := gotT (Cond.eq_ints h1 h2) h; rw [h1, this]; done) | (simp [Kin, Value.isRef] at h3; done)
theorem own_eqL {t : Term} {k : Int64} {args : Array Value} {s : State} (h : (Cond.eq t (.long k)).value args s none s [] = some true) : t.eval args s none [] s = some (.long k) := by
  obtain ⟨x, y, h1, h2, h3, -⟩ := cmp_v (Or.inl h)
  cases (Option.some.inj h2 : (Value.long k) = y)
  cases x <;> first | (have := gotT (eq_L h1 h2) h; rw [h1, this]; done) | (simp [Kin, Value.isRef] at h3; done)
theorem own_eqR {a b : Term} {y : Addr} {args : Array Value} {s : State} (h : (Cond.eq a b).value args s none s [] = some true) (hb : b.eval args s none [] s = some (.ref y)) : a.eval args s none [] s = some (.ref y) := by
  obtain ⟨x, y', h1, h2, h3, h4⟩ := cmp_v (Or.inl h)
  cases h2.symm.trans hb
  have hx : x.isRef = true := h4.2
  have := gotT (eq_R h1 h2 hx rfl) h
  rw [h1, this]
theorem own_nar1 : nar .boolean 1 = 1 := rfl
theorem own_nar0 : nar .boolean 0 = 0 := rfl
theorem own_up {n : Int64} (h : ¬ n < 64) : (n - 64) < (24 : Int32).toInt64 ↔ ¬ (87 : Int64) < n := by
  rw [Int64.lt_iff_toInt_lt] at *
  rw [Int64.lt_iff_toInt_lt]
  have e := c_lsub n 64
  have r := rng64 (n - 64)
  have r2 := rng64 n
  have k1 : (64 : Int64).toInt = 64 := by decide
  have k2 : (87 : Int64).toInt = 87 := by decide
  have k3 : ((24 : Int32).toInt64).toInt = 24 := by decide
  omega
theorem own_24 {n : Int64} (h : ¬ n < 64) (h2 : (n - 64) < (24 : Int32).toInt64) : n = 64 ∨ n = 65 ∨ n = 66 ∨ n = 67 ∨ n = 68 ∨ n = 69 ∨ n = 70 ∨ n = 71 ∨ n = 72 ∨ n = 73 ∨ n = 74 ∨ n = 75 ∨ n = 76 ∨ n = 77 ∨ n = 78 ∨ n = 79 ∨ n = 80 ∨ n = 81 ∨ n = 82 ∨ n = 83 ∨ n = 84 ∨ n = 85 ∨ n = 86 ∨ n = 87 := by
  have h3 := (own_up h).mp h2
  rw [Int64.lt_iff_toInt_lt] at h h3
  have k1 : (64 : Int64).toInt = 64 := by decide
  have k2 : (87 : Int64).toInt = 87 := by decide
  have key : ∀ (z : Nat) (zz : Int64), zz.toInt = (z : Int) → n.toInt = (z : Int) → n = zz := fun z zz e1 e2 => Int64.toInt_inj.mp (e2.trans e1.symm)
  have hh : n.toInt = 64 ∨ n.toInt = 65 ∨ n.toInt = 66 ∨ n.toInt = 67 ∨ n.toInt = 68 ∨ n.toInt = 69 ∨ n.toInt = 70 ∨ n.toInt = 71 ∨ n.toInt = 72 ∨ n.toInt = 73 ∨ n.toInt = 74 ∨ n.toInt = 75 ∨ n.toInt = 76 ∨ n.toInt = 77 ∨ n.toInt = 78 ∨ n.toInt = 79 ∨ n.toInt = 80 ∨ n.toInt = 81 ∨ n.toInt = 82 ∨ n.toInt = 83 ∨ n.toInt = 84 ∨ n.toInt = 85 ∨ n.toInt = 86 ∨ n.toInt = 87 := by omega
  rcases hh with h | h | h | h | h | h | h | h | h | h | h | h | h | h | h | h | h | h | h | h | h | h | h | h
  · have := key 64 64 (by decide) h; simp [this]
  · have := key 65 65 (by decide) h; simp [this]
  · have := key 66 66 (by decide) h; simp [this]
  · have := key 67 67 (by decide) h; simp [this]
  · have := key 68 68 (by decide) h; simp [this]
  · have := key 69 69 (by decide) h; simp [this]
  · have := key 70 70 (by decide) h; simp [this]
  · have := key 71 71 (by decide) h; simp [this]
  · have := key 72 72 (by decide) h; simp [this]
  · have := key 73 73 (by decide) h; simp [this]
  · have := key 74 74 (by decide) h; simp [this]
  · have := key 75 75 (by decide) h; simp [this]
  · have := key 76 76 (by decide) h; simp [this]
  · have := key 77 77 (by decide) h; simp [this]
  · have := key 78 78 (by decide) h; simp [this]
  · have := key 79 79 (by decide) h; simp [this]
  · have := key 80 80 (by decide) h; simp [this]
  · have := key 81 81 (by decide) h; simp [this]
  · have := key 82 82 (by decide) h; simp [this]
  · have := key 83 83 (by decide) h; simp [this]
  · have := key 84 84 (by decide) h; simp [this]
  · have := key 85 85 (by decide) h; simp [this]
  · have := key 86 86 (by decide) h; simp [this]
  · have := key 87 87 (by decide) h; simp [this]

set_option maxRecDepth 65536 in
set_option maxHeartbeats 4000000 in
theorem ef_rm1 (m : MethodId) (x0 : Int64) : entryFrame m #[(.long x0)] 2 = mkF m 0 #[.val (.long x0), .second] [] := by first | (simp [entryFrame, mkF, argsToLocals, Value.category]; done) | rfl
set_option maxRecDepth 65536 in
set_option maxHeartbeats 40000000 in
theorem rm1 (l : Launch) (Z : State) (a0 : Array Value) (hw : ∀ d ∈ tables_1, d.before a0 Z = true) (bt : Addr) (cl : Cell) (x1 : Int64) (h0 : Heap) (S_B : Sta Z h0 "com/example/tagwright/tagwright/ElementType" "BY_TAG" "[Lcom/example/tagwright/tagwright/ElementType;" (.ref bt)) (A_B : Arr Z h0 bt cl (.object "com/example/tagwright/tagwright/ElementType")) (H_B : cl.slots.size.toInt32 = (24 : Int32)) (G_B : ∀ n : Int64, ¬ n < 64 → (n - 64) < (24 : Int32).toInt64 → ¬ ((n - 64).toInt32 < 0 ∨ cl.slots.size ≤ ((n - 64).toInt32).toNatClampNeg) ∧ ∃ v : Value, v.isRef = true ∧ cl.slots[((n - 64).toInt32).toNatClampNeg]? = some v ∧ ((v = .null ∧ n = 76) ∨ ∃ (a : Addr) (t : Int32), v = .ref a ∧ n ≠ 76 ∧ Exa Z h0 a "com/example/tagwright/tagwright/ElementType" ∧ Fld Z h0 a "com/example/tagwright/tagwright/ElementType" "tagNumber" "I" (.int t) ∧ t.toInt64 = n)) : Con l Z (⟨"com/example/tagwright/tagwright/ElementType", "ofTag", "(J)Lcom/example/tagwright/tagwright/ElementType;"⟩ : MethodName) prog_25_method_9_code 2 (some (.object "com/example/tagwright/tagwright/ElementType")) ({ frames := 0, cells := 0, slots := 0, locals := 0 } : Room) #[(.long x1)] h0 (fun v h L => ∃ w, v = some w ∧ h = h0 ∧ L = [] ∧ ((w = .null ∧ (x1 < 64 ∨ (87 : Int64) < x1 ∨ x1 = 76)) ∨ ∃ (a : Addr) (t : Int32), w = .ref a ∧ ¬ x1 < 64 ∧ ¬ (87 : Int64) < x1 ∧ x1 ≠ 76 ∧ Exa Z h a "com/example/tagwright/tagwright/ElementType" ∧ Fld Z h a "com/example/tagwright/tagwright/ElementType" "tagNumber" "I" (.int t) ∧ t.toInt64 = x1)) := by
  refine w_body (Ls := #[.val (.long x1), .second]) pn_1 (fun m => ef_rm1 m x1) ?_
  intro p e s m below meth c T0 X0 hx hby hml hown hnm hret hlk hZ e0
  refine w_lloadN X0 hx hby n1_0 rfl ?_
  refine w_ldc2J X0 hx hby hZ hown (hw _ t_5) n1_1 ?_
  refine f_lcmp_lt X0 hx hby n1_4 n1_5 (fun q4 => ?_) (fun q4 => ?_)
  · refine w_aconst_null X0 hx hby n1_35 ?_
    refine w_retA X0 hx hby e0 hlk hret rfl rfl rfl n1_36 (by decide) (by decide) ?_
    exact ⟨_, rfl, rfl, rfl, Or.inl ⟨rfl, Or.inl q4⟩⟩
  · refine w_lloadN X0 hx hby n1_8 rfl ?_
    refine w_ldc2J X0 hx hby hZ hown (hw _ t_5) n1_9 ?_
    refine w_lsub X0 hx hby n1_12 ?_
    refine w_getS X0 hx hby hZ hown (host := "") (Or.inl (hw _ t_9)) Via.refl e0 S_B n1_13 fun T1 X1 e1 => ?_
    refine w_arraylength X1 hx hby hZ e1 A_B H_B n1_16 ?_
    refine w_i2l X1 hx hby n1_17 ?_
    refine f_lcmp_ge X1 hx hby n1_18 n1_19 (fun q18 => ?_) (fun q18 => ?_)
    · refine w_aconst_null X1 hx hby n1_35 ?_
      refine w_retA X1 hx hby e1 hlk hret rfl rfl rfl n1_36 (by decide) (by decide) ?_
      exact ⟨_, rfl, rfl, rfl, Or.inl ⟨rfl, Or.inr (Or.inl (Decidable.not_not.mp fun u => q18 ((own_up q4).mpr u)))⟩⟩
    · refine w_getS X1 hx hby hZ hown (host := "") (Or.inl (hw _ t_9)) Via.refl e1 S_B n1_22 fun T2 X2 e2 => ?_
      refine w_lloadN X2 hx hby n1_25 rfl ?_
      refine w_ldc2J X2 hx hby hZ hown (hw _ t_5) n1_26 ?_
      refine w_lsub X2 hx hby n1_29 ?_
      refine w_l2i X2 hx hby n1_30 ?_
      obtain ⟨gi, v, vr, gv, ga⟩ := G_B x1 q4 q18
      refine w_aaload X2 hx hby hZ e2 A_B rfl gi gv n1_31 ?_
      refine w_goto X2 hx hby n1_32 ?_
      refine w_retA X2 hx hby e2 hlk hret rfl vr rfl n1_36 (by decide) (by decide) ?_
      refine ⟨v, rfl, rfl, rfl, ?_⟩
      rcases ga with ⟨u1, u2⟩ | u
      · exact Or.inl ⟨u1, Or.inr (Or.inr u2)⟩
      · obtain ⟨a, t, u1, u2, u3⟩ := u; exact Or.inr ⟨a, t, u1, q4, (own_up q4).mp q18, u2, u3⟩
set_option maxRecDepth 65536 in
set_option maxHeartbeats 4000000 in
theorem ef_rm2 (m : MethodId) (x0 : Addr) : entryFrame m #[(.ref x0)] 1 = mkF m 0 #[.val (.ref x0)] [] := by first | (simp [entryFrame, mkF, argsToLocals, Value.category]; done) | rfl
set_option maxRecDepth 65536 in
set_option maxHeartbeats 40000000 in
theorem rm2 (l : Launch) (Z : State) (a0 : Array Value) (hw : ∀ d ∈ tables_1, d.before a0 Z = true) (y1 : Addr) (t1 : Int32) (h0 : Heap) (F1 : Fld Z h0 y1 "com/example/tagwright/tagwright/ElementType" "tagNumber" "I" (.int t1)) : Con l Z (⟨"com/example/tagwright/tagwright/ElementType", "tagNumber", "()J"⟩ : MethodName) prog_25_method_4_code 1 (some .long) ({ frames := 0, cells := 0, slots := 0, locals := 0 } : Room) #[(.ref y1)] h0 (fun v h L => v = some (.long t1.toInt64) ∧ h = h0 ∧ L = []) := by
  refine w_body (Ls := #[.val (.ref y1)]) pn_2 (fun m => ef_rm2 m y1) ?_
  intro p e s m below meth c T0 X0 hx hby hml hown hnm hret hlk hZ e0
  refine w_aloadN X0 hx hby n2_0 rfl rfl ?_
  refine w_getF X0 hx hby hZ hown (host := "") (Or.inl (hw _ t_18)) Via.refl e0 F1 n2_1 fun T1 X1 e1 => ?_
  refine w_i2l X1 hx hby n2_4 ?_
  refine w_retJ X1 hx hby e1 hlk hret n2_5 (by decide) (by decide) ?_
  exact ⟨rfl, rfl, rfl⟩
set_option maxRecDepth 65536 in
set_option maxHeartbeats 4000000 in
theorem ef_law0 (m : MethodId) (x0 : Int64) (x1 : Int32) : entryFrame m #[(.long x0), (.int x1)] maxLocals = mkF m 0 #[.val (.long x0), .second, .val (.int x1), .unset, .unset, .unset, .unset] [] := by first | (simp [entryFrame, mkF, argsToLocals, Value.category, maxLocals]; done) | rfl
set_option maxRecDepth 65536 in
set_option maxHeartbeats 40000000 in
theorem law0 (l : Launch) (Z : State) (a0 : Array Value) (hw : ∀ d ∈ tables_1, d.before a0 Z = true) (bt : Addr) (cl : Cell) (x1 : Int64) (k1 : Int32) (h0 : Heap) (S_B : Sta Z h0 "com/example/tagwright/tagwright/ElementType" "BY_TAG" "[Lcom/example/tagwright/tagwright/ElementType;" (.ref bt)) (A_B : Arr Z h0 bt cl (.object "com/example/tagwright/tagwright/ElementType")) (H_B : cl.slots.size.toInt32 = (24 : Int32)) (G_B : ∀ n : Int64, ¬ n < 64 → (n - 64) < (24 : Int32).toInt64 → ¬ ((n - 64).toInt32 < 0 ∨ cl.slots.size ≤ ((n - 64).toInt32).toNatClampNeg) ∧ ∃ v : Value, v.isRef = true ∧ cl.slots[((n - 64).toInt32).toNatClampNeg]? = some v ∧ ((v = .null ∧ n = 76) ∨ ∃ (a : Addr) (t : Int32), v = .ref a ∧ n ≠ 76 ∧ Exa Z h0 a "com/example/tagwright/tagwright/ElementType" ∧ Fld Z h0 a "com/example/tagwright/tagwright/ElementType" "tagNumber" "I" (.int t) ∧ t.toInt64 = n)) : Con l Z x code maxLocals ret room_1 #[(.long x1), (.int k1)] h0 (fun v h L => v = some (.int 1) ∧ Fr h0.size L) := by
  refine w_body (Ls := #[.val (.long x1), .second, .val (.int k1), .unset, .unset, .unset, .unset]) pn_0 (fun m => ef_law0 m x1 k1) ?_
  intro p e s m below meth c T0 X0 hx hby hml hown hnm hret hlk hZ e0
  have hml : c.maxLocals = 7 := hml
  refine w_iloadN X0 hx hby n0_0 rfl ?_
  refine w_iconst X0 hx hby (1 : Int32) n0_1 rfl ?_
  refine w_iand X0 hx hby n0_2 ?_
  refine f_if_ne X0 hx hby n0_3 (fun q3 => ?_) (fun q3 => ?_)
  · refine w_ldc2J X0 hx hby hZ hown (hw _ t_6) n0_10 ?_
    refine w_lloadN X0 hx hby n0_13 rfl ?_
    refine w_ldc2J X0 hx hby hZ hown (hw _ t_7) n0_14 ?_
    refine w_land X0 hx hby n0_17 ?_
    refine w_ladd X0 hx hby n0_18 ?_
    refine w_lstoreN X0 hx hby #[.val (.long x1), .second, .val (.int k1), .val (.long ((40 : Int64) + (x1 &&& (63 : Int64)))), .second, .unset, .unset] n0_19 rfl ?_
    refine w_lloadN X0 hx hby n0_20 rfl ?_
    refine w_ldc2J X0 hx hby hZ hown (hw _ t_0) n0_21 ?_
    refine f_lcmp_lt X0 hx hby n0_24 n0_25 (fun q24 => ?_) (fun q24 => ?_)
    · refine w_iconst X0 hx hby (0 : Int32) n0_48 rfl ?_
      refine w_istore X0 hx hby #[.val (.long x1), .second, .val (.int k1), .val (.long ((40 : Int64) + (x1 &&& (63 : Int64)))), .second, .val (.int (0 : Int32)), .unset] n0_49 rfl ?_
      refine w_lloadN X0 hx hby n0_51 rfl ?_
      refine w_called (call_S X0 hx hby hZ hown (argsL := [(.long ((40 : Int64) + (x1 &&& (63 : Int64))))]) (rest := []) (Wd := 0) (hw _ t_1) (hw _ t_2) (hw _ t_3) (hw _ t_4) (by decide) (rm1 l Z a0 hw bt cl ((40 : Int64) + (x1 &&& (63 : Int64))) h0 S_B A_B H_B G_B) rfl n0_52 (by rw [hml]; rfl) (lenOf pd_144729 rfl) rfl (by decide) (by decide) (by decide) (by decide) e0) fun v1 T1 L1 X1 Q1 => ?_
      obtain ⟨w1, rfl, hh1, rfl, alt⟩ := Q1
      rw [hh1] at alt
      rcases alt with ⟨rfl, alt⟩ | ⟨aZ, tZ, rfl, u1, u2, u3, EZ, FZ, eZ⟩
      · show Wp p e below s _ _ _ T1 (mkF m 55 #[.val (.long x1), .second, .val (.int k1), .val (.long ((40 : Int64) + (x1 &&& (63 : Int64)))), .second, .val (.int (0 : Int32)), .unset] [.null])
        refine w_astore X1 hx hby #[.val (.long x1), .second, .val (.int k1), .val (.long ((40 : Int64) + (x1 &&& (63 : Int64)))), .second, .val (.int (0 : Int32)), .val .null] n0_55 rfl rfl ?_
        refine w_iload X1 hx hby n0_57 rfl ?_
        refine f_if_ne X1 hx hby n0_59 (fun q59 => by exact absurd q59 (by decide)) (fun q59 => ?_)
        refine w_aload X1 hx hby n0_62 rfl rfl ?_
        refine w_ifnonnullNull X1 hx hby n0_64 ?_
        refine w_iconst X1 hx hby (1 : Int32) n0_67 rfl ?_
        refine w_goto X1 hx hby n0_68 ?_
        refine w_retN X1 hx hby hh1 hlk hret (by simp) n0_72 (by decide) (by decide) ?_
        exact ⟨rfl, Fr.nil _⟩
      · exact absurd q24 u1
    · refine w_lloadN X0 hx hby n0_28 rfl ?_
      refine w_ldc2J X0 hx hby hZ hown (hw _ t_8) n0_29 ?_
      refine f_lcmp_gt X0 hx hby n0_32 n0_33 (fun q32 => ?_) (fun q32 => ?_)
      · refine w_iconst X0 hx hby (0 : Int32) n0_48 rfl ?_
        refine w_istore X0 hx hby #[.val (.long x1), .second, .val (.int k1), .val (.long ((40 : Int64) + (x1 &&& (63 : Int64)))), .second, .val (.int (0 : Int32)), .unset] n0_49 rfl ?_
        refine w_lloadN X0 hx hby n0_51 rfl ?_
        refine w_called (call_S X0 hx hby hZ hown (argsL := [(.long ((40 : Int64) + (x1 &&& (63 : Int64))))]) (rest := []) (Wd := 0) (hw _ t_1) (hw _ t_2) (hw _ t_3) (hw _ t_4) (by decide) (rm1 l Z a0 hw bt cl ((40 : Int64) + (x1 &&& (63 : Int64))) h0 S_B A_B H_B G_B) rfl n0_52 (by rw [hml]; rfl) (lenOf pd_144729 rfl) rfl (by decide) (by decide) (by decide) (by decide) e0) fun v2 T2 L2 X2 Q2 => ?_
        obtain ⟨w2, rfl, hh2, rfl, alt⟩ := Q2
        rw [hh2] at alt
        rcases alt with ⟨rfl, alt⟩ | ⟨aZ, tZ, rfl, u1, u2, u3, EZ, FZ, eZ⟩
        · show Wp p e below s _ _ _ T2 (mkF m 55 #[.val (.long x1), .second, .val (.int k1), .val (.long ((40 : Int64) + (x1 &&& (63 : Int64)))), .second, .val (.int (0 : Int32)), .unset] [.null])
          refine w_astore X2 hx hby #[.val (.long x1), .second, .val (.int k1), .val (.long ((40 : Int64) + (x1 &&& (63 : Int64)))), .second, .val (.int (0 : Int32)), .val .null] n0_55 rfl rfl ?_
          refine w_iload X2 hx hby n0_57 rfl ?_
          refine f_if_ne X2 hx hby n0_59 (fun q59 => by exact absurd q59 (by decide)) (fun q59 => ?_)
          refine w_aload X2 hx hby n0_62 rfl rfl ?_
          refine w_ifnonnullNull X2 hx hby n0_64 ?_
          refine w_iconst X2 hx hby (1 : Int32) n0_67 rfl ?_
          refine w_goto X2 hx hby n0_68 ?_
          refine w_retN X2 hx hby hh2 hlk hret (by simp) n0_72 (by decide) (by decide) ?_
          exact ⟨rfl, Fr.nil _⟩
        · exact absurd q32 u2
      · refine w_lloadN X0 hx hby n0_36 rfl ?_
        refine w_ldc2J X0 hx hby hZ hown (hw _ t_11) n0_37 ?_
        refine f_lcmp_eq X0 hx hby n0_40 n0_41 (fun q40 => ?_) (fun q40 => ?_)
        · refine w_iconst X0 hx hby (0 : Int32) n0_48 rfl ?_
          refine w_istore X0 hx hby #[.val (.long x1), .second, .val (.int k1), .val (.long ((40 : Int64) + (x1 &&& (63 : Int64)))), .second, .val (.int (0 : Int32)), .unset] n0_49 rfl ?_
          refine w_lloadN X0 hx hby n0_51 rfl ?_
          refine w_called (call_S X0 hx hby hZ hown (argsL := [(.long ((40 : Int64) + (x1 &&& (63 : Int64))))]) (rest := []) (Wd := 0) (hw _ t_1) (hw _ t_2) (hw _ t_3) (hw _ t_4) (by decide) (rm1 l Z a0 hw bt cl ((40 : Int64) + (x1 &&& (63 : Int64))) h0 S_B A_B H_B G_B) rfl n0_52 (by rw [hml]; rfl) (lenOf pd_144729 rfl) rfl (by decide) (by decide) (by decide) (by decide) e0) fun v3 T3 L3 X3 Q3 => ?_
          obtain ⟨w3, rfl, hh3, rfl, alt⟩ := Q3
          rw [hh3] at alt
          rcases alt with ⟨rfl, alt⟩ | ⟨aZ, tZ, rfl, u1, u2, u3, EZ, FZ, eZ⟩
          · show Wp p e below s _ _ _ T3 (mkF m 55 #[.val (.long x1), .second, .val (.int k1), .val (.long ((40 : Int64) + (x1 &&& (63 : Int64)))), .second, .val (.int (0 : Int32)), .unset] [.null])
            refine w_astore X3 hx hby #[.val (.long x1), .second, .val (.int k1), .val (.long ((40 : Int64) + (x1 &&& (63 : Int64)))), .second, .val (.int (0 : Int32)), .val .null] n0_55 rfl rfl ?_
            refine w_iload X3 hx hby n0_57 rfl ?_
            refine f_if_ne X3 hx hby n0_59 (fun q59 => by exact absurd q59 (by decide)) (fun q59 => ?_)
            refine w_aload X3 hx hby n0_62 rfl rfl ?_
            refine w_ifnonnullNull X3 hx hby n0_64 ?_
            refine w_iconst X3 hx hby (1 : Int32) n0_67 rfl ?_
            refine w_goto X3 hx hby n0_68 ?_
            refine w_retN X3 hx hby hh3 hlk hret (by simp) n0_72 (by decide) (by decide) ?_
            exact ⟨rfl, Fr.nil _⟩
          · exact absurd q40 u3
        · refine w_iconst X0 hx hby (1 : Int32) n0_44 rfl ?_
          refine w_goto X0 hx hby n0_45 ?_
          refine w_istore X0 hx hby #[.val (.long x1), .second, .val (.int k1), .val (.long ((40 : Int64) + (x1 &&& (63 : Int64)))), .second, .val (.int (1 : Int32)), .unset] n0_49 rfl ?_
          refine w_lloadN X0 hx hby n0_51 rfl ?_
          refine w_called (call_S X0 hx hby hZ hown (argsL := [(.long ((40 : Int64) + (x1 &&& (63 : Int64))))]) (rest := []) (Wd := 0) (hw _ t_1) (hw _ t_2) (hw _ t_3) (hw _ t_4) (by decide) (rm1 l Z a0 hw bt cl ((40 : Int64) + (x1 &&& (63 : Int64))) h0 S_B A_B H_B G_B) rfl n0_52 (by rw [hml]; rfl) (lenOf pd_144729 rfl) rfl (by decide) (by decide) (by decide) (by decide) e0) fun v4 T4 L4 X4 Q4 => ?_
          obtain ⟨w4, rfl, hh4, rfl, alt⟩ := Q4
          rw [hh4] at alt
          rcases alt with ⟨rfl, alt⟩ | ⟨aZ, tZ, rfl, u1, u2, u3, EZ, FZ, eZ⟩
          · exact absurd alt (by simp [q24, q32, q40])
          · show Wp p e below s _ _ _ T4 (mkF m 55 #[.val (.long x1), .second, .val (.int k1), .val (.long ((40 : Int64) + (x1 &&& (63 : Int64)))), .second, .val (.int (1 : Int32)), .unset] [(.ref aZ)])
            refine w_astore X4 hx hby #[.val (.long x1), .second, .val (.int k1), .val (.long ((40 : Int64) + (x1 &&& (63 : Int64)))), .second, .val (.int (1 : Int32)), .val (.ref aZ)] n0_55 rfl rfl ?_
            refine w_iload X4 hx hby n0_57 rfl ?_
            refine f_if_ne X4 hx hby n0_59 (fun q59 => ?_) (fun q59 => by exact absurd q59 (by decide))
            refine w_aload X4 hx hby n0_73 rfl rfl ?_
            refine w_ifnullRef X4 hx hby n0_75 ?_
            refine w_aload X4 hx hby n0_78 rfl rfl ?_
            refine w_calledp (call_V X4 hx hby hZ hown (argsL := []) (rest := []) (Wd := 0) (a := aZ) (hw _ t_13) (hw _ t_14) (hw _ t_16) (hw _ t_15) (hw _ t_3) (hw _ t_17) (by decide) EZ (rm2 l Z a0 hw aZ tZ h0 FZ) rfl n0_80 (by rw [hml]; rfl) (lenOf pd_1274 rfl) rfl (by decide) (by decide) (by decide) (by decide) hh4) rfl rfl fun T5 X5 e5 => ?_
            refine w_lloadN X5 hx hby n0_83 rfl ?_
            refine f_lcmp_ne X5 hx hby n0_84 n0_85 (fun q84 => by exact absurd eZ q84) (fun q84 => ?_)
            refine w_iconst X5 hx hby (1 : Int32) n0_88 rfl ?_
            refine w_goto X5 hx hby n0_89 ?_
            refine w_retN X5 hx hby e5 hlk hret (by simp) n0_93 (by decide) (by decide) ?_
            exact ⟨rfl, Fr.nil _⟩
  · refine w_lloadN X0 hx hby n0_6 rfl ?_
    refine w_goto X0 hx hby n0_7 ?_
    refine w_lstoreN X0 hx hby #[.val (.long x1), .second, .val (.int k1), .val (.long x1), .second, .unset, .unset] n0_19 rfl ?_
    refine w_lloadN X0 hx hby n0_20 rfl ?_
    refine w_ldc2J X0 hx hby hZ hown (hw _ t_0) n0_21 ?_
    refine f_lcmp_lt X0 hx hby n0_24 n0_25 (fun q24 => ?_) (fun q24 => ?_)
    · refine w_iconst X0 hx hby (0 : Int32) n0_48 rfl ?_
      refine w_istore X0 hx hby #[.val (.long x1), .second, .val (.int k1), .val (.long x1), .second, .val (.int (0 : Int32)), .unset] n0_49 rfl ?_
      refine w_lloadN X0 hx hby n0_51 rfl ?_
      refine w_called (call_S X0 hx hby hZ hown (argsL := [(.long x1)]) (rest := []) (Wd := 0) (hw _ t_1) (hw _ t_2) (hw _ t_3) (hw _ t_4) (by decide) (rm1 l Z a0 hw bt cl x1 h0 S_B A_B H_B G_B) rfl n0_52 (by rw [hml]; rfl) (lenOf pd_144729 rfl) rfl (by decide) (by decide) (by decide) (by decide) e0) fun v6 T6 L6 X6 Q6 => ?_
      obtain ⟨w6, rfl, hh6, rfl, alt⟩ := Q6
      rw [hh6] at alt
      rcases alt with ⟨rfl, alt⟩ | ⟨aZ, tZ, rfl, u1, u2, u3, EZ, FZ, eZ⟩
      · show Wp p e below s _ _ _ T6 (mkF m 55 #[.val (.long x1), .second, .val (.int k1), .val (.long x1), .second, .val (.int (0 : Int32)), .unset] [.null])
        refine w_astore X6 hx hby #[.val (.long x1), .second, .val (.int k1), .val (.long x1), .second, .val (.int (0 : Int32)), .val .null] n0_55 rfl rfl ?_
        refine w_iload X6 hx hby n0_57 rfl ?_
        refine f_if_ne X6 hx hby n0_59 (fun q59 => by exact absurd q59 (by decide)) (fun q59 => ?_)
        refine w_aload X6 hx hby n0_62 rfl rfl ?_
        refine w_ifnonnullNull X6 hx hby n0_64 ?_
        refine w_iconst X6 hx hby (1 : Int32) n0_67 rfl ?_
        refine w_goto X6 hx hby n0_68 ?_
        refine w_retN X6 hx hby hh6 hlk hret (by simp) n0_72 (by decide) (by decide) ?_
        exact ⟨rfl, Fr.nil _⟩
      · exact absurd q24 u1
    · refine w_lloadN X0 hx hby n0_28 rfl ?_
      refine w_ldc2J X0 hx hby hZ hown (hw _ t_8) n0_29 ?_
      refine f_lcmp_gt X0 hx hby n0_32 n0_33 (fun q32 => ?_) (fun q32 => ?_)
      · refine w_iconst X0 hx hby (0 : Int32) n0_48 rfl ?_
        refine w_istore X0 hx hby #[.val (.long x1), .second, .val (.int k1), .val (.long x1), .second, .val (.int (0 : Int32)), .unset] n0_49 rfl ?_
        refine w_lloadN X0 hx hby n0_51 rfl ?_
        refine w_called (call_S X0 hx hby hZ hown (argsL := [(.long x1)]) (rest := []) (Wd := 0) (hw _ t_1) (hw _ t_2) (hw _ t_3) (hw _ t_4) (by decide) (rm1 l Z a0 hw bt cl x1 h0 S_B A_B H_B G_B) rfl n0_52 (by rw [hml]; rfl) (lenOf pd_144729 rfl) rfl (by decide) (by decide) (by decide) (by decide) e0) fun v7 T7 L7 X7 Q7 => ?_
        obtain ⟨w7, rfl, hh7, rfl, alt⟩ := Q7
        rw [hh7] at alt
        rcases alt with ⟨rfl, alt⟩ | ⟨aZ, tZ, rfl, u1, u2, u3, EZ, FZ, eZ⟩
        · show Wp p e below s _ _ _ T7 (mkF m 55 #[.val (.long x1), .second, .val (.int k1), .val (.long x1), .second, .val (.int (0 : Int32)), .unset] [.null])
          refine w_astore X7 hx hby #[.val (.long x1), .second, .val (.int k1), .val (.long x1), .second, .val (.int (0 : Int32)), .val .null] n0_55 rfl rfl ?_
          refine w_iload X7 hx hby n0_57 rfl ?_
          refine f_if_ne X7 hx hby n0_59 (fun q59 => by exact absurd q59 (by decide)) (fun q59 => ?_)
          refine w_aload X7 hx hby n0_62 rfl rfl ?_
          refine w_ifnonnullNull X7 hx hby n0_64 ?_
          refine w_iconst X7 hx hby (1 : Int32) n0_67 rfl ?_
          refine w_goto X7 hx hby n0_68 ?_
          refine w_retN X7 hx hby hh7 hlk hret (by simp) n0_72 (by decide) (by decide) ?_
          exact ⟨rfl, Fr.nil _⟩
        · exact absurd q32 u2
      · refine w_lloadN X0 hx hby n0_36 rfl ?_
        refine w_ldc2J X0 hx hby hZ hown (hw _ t_11) n0_37 ?_
        refine f_lcmp_eq X0 hx hby n0_40 n0_41 (fun q40 => ?_) (fun q40 => ?_)
        · refine w_iconst X0 hx hby (0 : Int32) n0_48 rfl ?_
          refine w_istore X0 hx hby #[.val (.long x1), .second, .val (.int k1), .val (.long x1), .second, .val (.int (0 : Int32)), .unset] n0_49 rfl ?_
          refine w_lloadN X0 hx hby n0_51 rfl ?_
          refine w_called (call_S X0 hx hby hZ hown (argsL := [(.long x1)]) (rest := []) (Wd := 0) (hw _ t_1) (hw _ t_2) (hw _ t_3) (hw _ t_4) (by decide) (rm1 l Z a0 hw bt cl x1 h0 S_B A_B H_B G_B) rfl n0_52 (by rw [hml]; rfl) (lenOf pd_144729 rfl) rfl (by decide) (by decide) (by decide) (by decide) e0) fun v8 T8 L8 X8 Q8 => ?_
          obtain ⟨w8, rfl, hh8, rfl, alt⟩ := Q8
          rw [hh8] at alt
          rcases alt with ⟨rfl, alt⟩ | ⟨aZ, tZ, rfl, u1, u2, u3, EZ, FZ, eZ⟩
          · show Wp p e below s _ _ _ T8 (mkF m 55 #[.val (.long x1), .second, .val (.int k1), .val (.long x1), .second, .val (.int (0 : Int32)), .unset] [.null])
            refine w_astore X8 hx hby #[.val (.long x1), .second, .val (.int k1), .val (.long x1), .second, .val (.int (0 : Int32)), .val .null] n0_55 rfl rfl ?_
            refine w_iload X8 hx hby n0_57 rfl ?_
            refine f_if_ne X8 hx hby n0_59 (fun q59 => by exact absurd q59 (by decide)) (fun q59 => ?_)
            refine w_aload X8 hx hby n0_62 rfl rfl ?_
            refine w_ifnonnullNull X8 hx hby n0_64 ?_
            refine w_iconst X8 hx hby (1 : Int32) n0_67 rfl ?_
            refine w_goto X8 hx hby n0_68 ?_
            refine w_retN X8 hx hby hh8 hlk hret (by simp) n0_72 (by decide) (by decide) ?_
            exact ⟨rfl, Fr.nil _⟩
          · exact absurd q40 u3
        · refine w_iconst X0 hx hby (1 : Int32) n0_44 rfl ?_
          refine w_goto X0 hx hby n0_45 ?_
          refine w_istore X0 hx hby #[.val (.long x1), .second, .val (.int k1), .val (.long x1), .second, .val (.int (1 : Int32)), .unset] n0_49 rfl ?_
          refine w_lloadN X0 hx hby n0_51 rfl ?_
          refine w_called (call_S X0 hx hby hZ hown (argsL := [(.long x1)]) (rest := []) (Wd := 0) (hw _ t_1) (hw _ t_2) (hw _ t_3) (hw _ t_4) (by decide) (rm1 l Z a0 hw bt cl x1 h0 S_B A_B H_B G_B) rfl n0_52 (by rw [hml]; rfl) (lenOf pd_144729 rfl) rfl (by decide) (by decide) (by decide) (by decide) e0) fun v9 T9 L9 X9 Q9 => ?_
          obtain ⟨w9, rfl, hh9, rfl, alt⟩ := Q9
          rw [hh9] at alt
          rcases alt with ⟨rfl, alt⟩ | ⟨aZ, tZ, rfl, u1, u2, u3, EZ, FZ, eZ⟩
          · exact absurd alt (by simp [q24, q32, q40])
          · show Wp p e below s _ _ _ T9 (mkF m 55 #[.val (.long x1), .second, .val (.int k1), .val (.long x1), .second, .val (.int (1 : Int32)), .unset] [(.ref aZ)])
            refine w_astore X9 hx hby #[.val (.long x1), .second, .val (.int k1), .val (.long x1), .second, .val (.int (1 : Int32)), .val (.ref aZ)] n0_55 rfl rfl ?_
            refine w_iload X9 hx hby n0_57 rfl ?_
            refine f_if_ne X9 hx hby n0_59 (fun q59 => ?_) (fun q59 => by exact absurd q59 (by decide))
            refine w_aload X9 hx hby n0_73 rfl rfl ?_
            refine w_ifnullRef X9 hx hby n0_75 ?_
            refine w_aload X9 hx hby n0_78 rfl rfl ?_
            refine w_calledp (call_V X9 hx hby hZ hown (argsL := []) (rest := []) (Wd := 0) (a := aZ) (hw _ t_13) (hw _ t_14) (hw _ t_16) (hw _ t_15) (hw _ t_3) (hw _ t_17) (by decide) EZ (rm2 l Z a0 hw aZ tZ h0 FZ) rfl n0_80 (by rw [hml]; rfl) (lenOf pd_1274 rfl) rfl (by decide) (by decide) (by decide) (by decide) hh9) rfl rfl fun T10 X10 e10 => ?_
            refine w_lloadN X10 hx hby n0_83 rfl ?_
            refine f_lcmp_ne X10 hx hby n0_84 n0_85 (fun q84 => by exact absurd eZ q84) (fun q84 => ?_)
            refine w_iconst X10 hx hby (1 : Int32) n0_88 rfl ?_
            refine w_goto X10 hx hby n0_89 ?_
            refine w_retN X10 hx hby e10 hlk hret (by simp) n0_93 (by decide) (by decide) ?_
            exact ⟨rfl, Fr.nil _⟩
set_option maxRecDepth 65536 in
set_option maxHeartbeats 40000000 in
theorem comes_1 {Post : Tables → Env → Array Value → State → Outcome → State → Prop} (hpost : ∀ tb e args s v u, (limb_1_1.after args s (.returned v) u = true ∧ limb_1_2.after args s (.returned v) u = true) → FrameEnd s (.returned v) u (Jvm.fieldLocs frame_1_writes args s ++ Jvm.arrayLocs frame_1_arrays args s ++ Jvm.staticLocs frame_1_statics s) 0 0 → Post tb e args s (.returned v) u) :
    ArmFor flags0 classFile x code maxLocals ret World_1 tables_1 room_1 Calls_1 rest_1 Pre_1 Post := by
  intro l hfl _ _ p e ha hc hk s m args below hf hA hF happ hP
  obtain ⟨hcalls, hrest, hpre⟩ := hP
  obtain ⟨-, -, -, hnamed, -, -, -, hat⟩ := (Spec.applies_iff hf).mp happ
  obtain ⟨hg, hn⟩ := and_e (Cond.before_iff.mp (show (Jvm.Cond.and given_1 narrow_1).before args s = true from hpre))
  obtain ⟨hcnt, hg⟩ := and_e hg
  obtain ⟨hg0, hg⟩ := and_e hg
  have hg1 := hg
  obtain ⟨w0, w1, rfl⟩ : ∃ w0 w1 : Value, args = #[w0, w1] := by
    have hs : args.size = 2 := by simpa [Cond.value, given_1] using hcnt
    obtain ⟨L⟩ := args
    match L, hs with
    | [w0, w1], _ => exact ⟨w0, w1, rfl⟩
  have hw := fun d (hd : d ∈ tables_1) => atoms_spec (ws := Jvm.Cond.code x code maxLocals ret :: tables_1) hat d (List.mem_cons_of_mem _ hd)
  have hfit : Fit s := fun {y c} hc i hi => by
    obtain ⟨ha, rfl⟩ := Array.getElem?_eq_some_iff.mp hc
    have q := List.all_eq_true.mp ((Array.all_eq_true_iff_forall_mem.mp hF) _ (Array.getElem_mem ha)) i (List.mem_range.mpr hi)
    simpa [Array.getElem?_eq_getElem hi] using q
  obtain ⟨i0, ei0⟩ := isL_v hg0
  obtain rfl : w0 = (.long i0) := Option.some.inj ei0
  obtain ⟨i1, ei1⟩ := is_v hg1
  obtain rfl : w1 = (.int i1) := Option.some.inj ei1
  obtain ⟨hn0, hn⟩ := and_e hn
  obtain ⟨hn1, hn⟩ := and_e hn
  obtain ⟨hn2, hn⟩ := and_e hn
  obtain ⟨hn3, hn⟩ := and_e hn
  obtain ⟨hn4, hn⟩ := and_e hn
  obtain ⟨hn5, hn⟩ := and_e hn
  obtain ⟨hn6, hn⟩ := and_e hn
  obtain ⟨hn7, hn⟩ := and_e hn
  obtain ⟨hn8, hn⟩ := and_e hn
  obtain ⟨hn9, hn⟩ := and_e hn
  obtain ⟨hn10, hn⟩ := and_e hn
  obtain ⟨hn11, hn⟩ := and_e hn
  obtain ⟨hn12, hn⟩ := and_e hn
  obtain ⟨hn13, hn⟩ := and_e hn
  obtain ⟨hn14, hn⟩ := and_e hn
  obtain ⟨hn15, hn⟩ := and_e hn
  obtain ⟨hn16, hn⟩ := and_e hn
  obtain ⟨hn17, hn⟩ := and_e hn
  obtain ⟨hn18, hn⟩ := and_e hn
  obtain ⟨hn19, hn⟩ := and_e hn
  obtain ⟨hn20, hn⟩ := and_e hn
  obtain ⟨hn21, hn⟩ := and_e hn
  obtain ⟨hn22, hn⟩ := and_e hn
  obtain ⟨hn23, hn⟩ := and_e hn
  obtain ⟨hn24, hn⟩ := and_e hn
  obtain ⟨hn25, hn⟩ := and_e hn
  obtain ⟨hn26, hn⟩ := and_e hn
  obtain ⟨hn27, hn⟩ := and_e hn
  obtain ⟨hn28, hn⟩ := and_e hn
  obtain ⟨hn29, hn⟩ := and_e hn
  obtain ⟨hn30, hn⟩ := and_e hn
  obtain ⟨hn31, hn⟩ := and_e hn
  obtain ⟨hn32, hn⟩ := and_e hn
  obtain ⟨hn33, hn⟩ := and_e hn
  obtain ⟨hn34, hn⟩ := and_e hn
  obtain ⟨hn35, hn⟩ := and_e hn
  obtain ⟨hn36, hn⟩ := and_e hn
  obtain ⟨hn37, hn⟩ := and_e hn
  obtain ⟨hn38, hn⟩ := and_e hn
  obtain ⟨hn39, hn⟩ := and_e hn
  obtain ⟨hn40, hn⟩ := and_e hn
  obtain ⟨hn41, hn⟩ := and_e hn
  obtain ⟨hn42, hn⟩ := and_e hn
  obtain ⟨hn43, hn⟩ := and_e hn
  obtain ⟨hn44, hn⟩ := and_e hn
  obtain ⟨hn45, hn⟩ := and_e hn
  obtain ⟨hn46, hn⟩ := and_e hn
  obtain ⟨hn47, hn⟩ := and_e hn
  obtain ⟨hn48, hn⟩ := and_e hn
  obtain ⟨hn49, hn⟩ := and_e hn
  obtain ⟨hn50, hn⟩ := and_e hn
  obtain ⟨hn51, hn⟩ := and_e hn
  obtain ⟨hn52, hn⟩ := and_e hn
  obtain ⟨hn53, hn⟩ := and_e hn
  obtain ⟨hn54, hn⟩ := and_e hn
  obtain ⟨hn55, hn⟩ := and_e hn
  obtain ⟨hn56, hn⟩ := and_e hn
  obtain ⟨hn57, hn⟩ := and_e hn
  obtain ⟨hn58, hn⟩ := and_e hn
  obtain ⟨hn59, hn⟩ := and_e hn
  obtain ⟨hn60, hn⟩ := and_e hn
  obtain ⟨hn61, hn⟩ := and_e hn
  obtain ⟨hn62, hn⟩ := and_e hn
  obtain ⟨hn63, hn⟩ := and_e hn
  obtain ⟨hn64, hn⟩ := and_e hn
  obtain ⟨hn65, hn⟩ := and_e hn
  obtain ⟨hn66, hn⟩ := and_e hn
  obtain ⟨hn67, hn⟩ := and_e hn
  obtain ⟨hn68, hn⟩ := and_e hn
  obtain ⟨hn69, hn⟩ := and_e hn
  obtain ⟨hn70, hn⟩ := and_e hn
  have hn71 := hn
  obtain ⟨a_BINARY128_LE, ev_BINARY128_LE⟩ := exa_v hn2
  have E_BINARY128_LE : Exa s s.heap a_BINARY128_LE "com/example/tagwright/tagwright/ElementType" := Exa.start ev_BINARY128_LE hn2
  have S_BINARY128_LE : Sta s s.heap "com/example/tagwright/tagwright/ElementType" "BINARY128_LE" "Lcom/example/tagwright/tagwright/ElementType;" (.ref a_BINARY128_LE) := Sta.start ev_BINARY128_LE (Or.inr ⟨hw _ t_3, hw _ t_12⟩)
  obtain ⟨a_UINT32_LE, ev_UINT32_LE⟩ := exa_v hn5
  have E_UINT32_LE : Exa s s.heap a_UINT32_LE "com/example/tagwright/tagwright/ElementType" := Exa.start ev_UINT32_LE hn5
  have S_UINT32_LE : Sta s s.heap "com/example/tagwright/tagwright/ElementType" "UINT32_LE" "Lcom/example/tagwright/tagwright/ElementType;" (.ref a_UINT32_LE) := Sta.start ev_UINT32_LE (Or.inr ⟨hw _ t_3, hw _ t_20⟩)
  obtain ⟨a_UINT16_BE, ev_UINT16_BE⟩ := exa_v hn8
  have E_UINT16_BE : Exa s s.heap a_UINT16_BE "com/example/tagwright/tagwright/ElementType" := Exa.start ev_UINT16_BE hn8
  have S_UINT16_BE : Sta s s.heap "com/example/tagwright/tagwright/ElementType" "UINT16_BE" "Lcom/example/tagwright/tagwright/ElementType;" (.ref a_UINT16_BE) := Sta.start ev_UINT16_BE (Or.inr ⟨hw _ t_3, hw _ t_21⟩)
  obtain ⟨a_SINT64_LE, ev_SINT64_LE⟩ := exa_v hn11
  have E_SINT64_LE : Exa s s.heap a_SINT64_LE "com/example/tagwright/tagwright/ElementType" := Exa.start ev_SINT64_LE hn11
  have S_SINT64_LE : Sta s s.heap "com/example/tagwright/tagwright/ElementType" "SINT64_LE" "Lcom/example/tagwright/tagwright/ElementType;" (.ref a_SINT64_LE) := Sta.start ev_SINT64_LE (Or.inr ⟨hw _ t_3, hw _ t_22⟩)
  obtain ⟨a_UINT8, ev_UINT8⟩ := exa_v hn14
  have E_UINT8 : Exa s s.heap a_UINT8 "com/example/tagwright/tagwright/ElementType" := Exa.start ev_UINT8 hn14
  have S_UINT8 : Sta s s.heap "com/example/tagwright/tagwright/ElementType" "UINT8" "Lcom/example/tagwright/tagwright/ElementType;" (.ref a_UINT8) := Sta.start ev_UINT8 (Or.inr ⟨hw _ t_3, hw _ t_23⟩)
  obtain ⟨a_BINARY32_LE, ev_BINARY32_LE⟩ := exa_v hn17
  have E_BINARY32_LE : Exa s s.heap a_BINARY32_LE "com/example/tagwright/tagwright/ElementType" := Exa.start ev_BINARY32_LE hn17
  have S_BINARY32_LE : Sta s s.heap "com/example/tagwright/tagwright/ElementType" "BINARY32_LE" "Lcom/example/tagwright/tagwright/ElementType;" (.ref a_BINARY32_LE) := Sta.start ev_BINARY32_LE (Or.inr ⟨hw _ t_3, hw _ t_24⟩)
  obtain ⟨a_UINT64_LE, ev_UINT64_LE⟩ := exa_v hn20
  have E_UINT64_LE : Exa s s.heap a_UINT64_LE "com/example/tagwright/tagwright/ElementType" := Exa.start ev_UINT64_LE hn20
  have S_UINT64_LE : Sta s s.heap "com/example/tagwright/tagwright/ElementType" "UINT64_LE" "Lcom/example/tagwright/tagwright/ElementType;" (.ref a_UINT64_LE) := Sta.start ev_UINT64_LE (Or.inr ⟨hw _ t_3, hw _ t_25⟩)
  obtain ⟨a_SINT32_BE, ev_SINT32_BE⟩ := exa_v hn24
  have E_SINT32_BE : Exa s s.heap a_SINT32_BE "com/example/tagwright/tagwright/ElementType" := Exa.start ev_SINT32_BE hn24
  have S_SINT32_BE : Sta s s.heap "com/example/tagwright/tagwright/ElementType" "SINT32_BE" "Lcom/example/tagwright/tagwright/ElementType;" (.ref a_SINT32_BE) := Sta.start ev_SINT32_BE (Or.inr ⟨hw _ t_3, hw _ t_26⟩)
  obtain ⟨a_SINT64_BE, ev_SINT64_BE⟩ := exa_v hn27
  have E_SINT64_BE : Exa s s.heap a_SINT64_BE "com/example/tagwright/tagwright/ElementType" := Exa.start ev_SINT64_BE hn27
  have S_SINT64_BE : Sta s s.heap "com/example/tagwright/tagwright/ElementType" "SINT64_BE" "Lcom/example/tagwright/tagwright/ElementType;" (.ref a_SINT64_BE) := Sta.start ev_SINT64_BE (Or.inr ⟨hw _ t_3, hw _ t_27⟩)
  obtain ⟨a_SINT16_BE, ev_SINT16_BE⟩ := exa_v hn30
  have E_SINT16_BE : Exa s s.heap a_SINT16_BE "com/example/tagwright/tagwright/ElementType" := Exa.start ev_SINT16_BE hn30
  have S_SINT16_BE : Sta s s.heap "com/example/tagwright/tagwright/ElementType" "SINT16_BE" "Lcom/example/tagwright/tagwright/ElementType;" (.ref a_SINT16_BE) := Sta.start ev_SINT16_BE (Or.inr ⟨hw _ t_3, hw _ t_28⟩)
  obtain ⟨a_UINT8_CLAMPED, ev_UINT8_CLAMPED⟩ := exa_v hn33
  have E_UINT8_CLAMPED : Exa s s.heap a_UINT8_CLAMPED "com/example/tagwright/tagwright/ElementType" := Exa.start ev_UINT8_CLAMPED hn33
  have S_UINT8_CLAMPED : Sta s s.heap "com/example/tagwright/tagwright/ElementType" "UINT8_CLAMPED" "Lcom/example/tagwright/tagwright/ElementType;" (.ref a_UINT8_CLAMPED) := Sta.start ev_UINT8_CLAMPED (Or.inr ⟨hw _ t_3, hw _ t_29⟩)
  obtain ⟨a_UINT32_BE, ev_UINT32_BE⟩ := exa_v hn36
  have E_UINT32_BE : Exa s s.heap a_UINT32_BE "com/example/tagwright/tagwright/ElementType" := Exa.start ev_UINT32_BE hn36
  have S_UINT32_BE : Sta s s.heap "com/example/tagwright/tagwright/ElementType" "UINT32_BE" "Lcom/example/tagwright/tagwright/ElementType;" (.ref a_UINT32_BE) := Sta.start ev_UINT32_BE (Or.inr ⟨hw _ t_3, hw _ t_30⟩)
  obtain ⟨a_BINARY16_LE, ev_BINARY16_LE⟩ := exa_v hn39
  have E_BINARY16_LE : Exa s s.heap a_BINARY16_LE "com/example/tagwright/tagwright/ElementType" := Exa.start ev_BINARY16_LE hn39
  have S_BINARY16_LE : Sta s s.heap "com/example/tagwright/tagwright/ElementType" "BINARY16_LE" "Lcom/example/tagwright/tagwright/ElementType;" (.ref a_BINARY16_LE) := Sta.start ev_BINARY16_LE (Or.inr ⟨hw _ t_3, hw _ t_31⟩)
  obtain ⟨a_BINARY64_BE, ev_BINARY64_BE⟩ := exa_v hn42
  have E_BINARY64_BE : Exa s s.heap a_BINARY64_BE "com/example/tagwright/tagwright/ElementType" := Exa.start ev_BINARY64_BE hn42
  have S_BINARY64_BE : Sta s s.heap "com/example/tagwright/tagwright/ElementType" "BINARY64_BE" "Lcom/example/tagwright/tagwright/ElementType;" (.ref a_BINARY64_BE) := Sta.start ev_BINARY64_BE (Or.inr ⟨hw _ t_3, hw _ t_32⟩)
  obtain ⟨a_UINT16_LE, ev_UINT16_LE⟩ := exa_v hn45
  have E_UINT16_LE : Exa s s.heap a_UINT16_LE "com/example/tagwright/tagwright/ElementType" := Exa.start ev_UINT16_LE hn45
  have S_UINT16_LE : Sta s s.heap "com/example/tagwright/tagwright/ElementType" "UINT16_LE" "Lcom/example/tagwright/tagwright/ElementType;" (.ref a_UINT16_LE) := Sta.start ev_UINT16_LE (Or.inr ⟨hw _ t_3, hw _ t_33⟩)
  obtain ⟨a_BINARY64_LE, ev_BINARY64_LE⟩ := exa_v hn48
  have E_BINARY64_LE : Exa s s.heap a_BINARY64_LE "com/example/tagwright/tagwright/ElementType" := Exa.start ev_BINARY64_LE hn48
  have S_BINARY64_LE : Sta s s.heap "com/example/tagwright/tagwright/ElementType" "BINARY64_LE" "Lcom/example/tagwright/tagwright/ElementType;" (.ref a_BINARY64_LE) := Sta.start ev_BINARY64_LE (Or.inr ⟨hw _ t_3, hw _ t_34⟩)
  obtain ⟨a_SINT16_LE, ev_SINT16_LE⟩ := exa_v hn51
  have E_SINT16_LE : Exa s s.heap a_SINT16_LE "com/example/tagwright/tagwright/ElementType" := Exa.start ev_SINT16_LE hn51
  have S_SINT16_LE : Sta s s.heap "com/example/tagwright/tagwright/ElementType" "SINT16_LE" "Lcom/example/tagwright/tagwright/ElementType;" (.ref a_SINT16_LE) := Sta.start ev_SINT16_LE (Or.inr ⟨hw _ t_3, hw _ t_35⟩)
  obtain ⟨a_BINARY16_BE, ev_BINARY16_BE⟩ := exa_v hn54
  have E_BINARY16_BE : Exa s s.heap a_BINARY16_BE "com/example/tagwright/tagwright/ElementType" := Exa.start ev_BINARY16_BE hn54
  have S_BINARY16_BE : Sta s s.heap "com/example/tagwright/tagwright/ElementType" "BINARY16_BE" "Lcom/example/tagwright/tagwright/ElementType;" (.ref a_BINARY16_BE) := Sta.start ev_BINARY16_BE (Or.inr ⟨hw _ t_3, hw _ t_36⟩)
  obtain ⟨a_SINT32_LE, ev_SINT32_LE⟩ := exa_v hn57
  have E_SINT32_LE : Exa s s.heap a_SINT32_LE "com/example/tagwright/tagwright/ElementType" := Exa.start ev_SINT32_LE hn57
  have S_SINT32_LE : Sta s s.heap "com/example/tagwright/tagwright/ElementType" "SINT32_LE" "Lcom/example/tagwright/tagwright/ElementType;" (.ref a_SINT32_LE) := Sta.start ev_SINT32_LE (Or.inr ⟨hw _ t_3, hw _ t_37⟩)
  obtain ⟨a_BINARY32_BE, ev_BINARY32_BE⟩ := exa_v hn60
  have E_BINARY32_BE : Exa s s.heap a_BINARY32_BE "com/example/tagwright/tagwright/ElementType" := Exa.start ev_BINARY32_BE hn60
  have S_BINARY32_BE : Sta s s.heap "com/example/tagwright/tagwright/ElementType" "BINARY32_BE" "Lcom/example/tagwright/tagwright/ElementType;" (.ref a_BINARY32_BE) := Sta.start ev_BINARY32_BE (Or.inr ⟨hw _ t_3, hw _ t_38⟩)
  obtain ⟨a_SINT8, ev_SINT8⟩ := exa_v hn63
  have E_SINT8 : Exa s s.heap a_SINT8 "com/example/tagwright/tagwright/ElementType" := Exa.start ev_SINT8 hn63
  have S_SINT8 : Sta s s.heap "com/example/tagwright/tagwright/ElementType" "SINT8" "Lcom/example/tagwright/tagwright/ElementType;" (.ref a_SINT8) := Sta.start ev_SINT8 (Or.inr ⟨hw _ t_3, hw _ t_39⟩)
  obtain ⟨a_BINARY128_BE, ev_BINARY128_BE⟩ := exa_v hn66
  have E_BINARY128_BE : Exa s s.heap a_BINARY128_BE "com/example/tagwright/tagwright/ElementType" := Exa.start ev_BINARY128_BE hn66
  have S_BINARY128_BE : Sta s s.heap "com/example/tagwright/tagwright/ElementType" "BINARY128_BE" "Lcom/example/tagwright/tagwright/ElementType;" (.ref a_BINARY128_BE) := Sta.start ev_BINARY128_BE (Or.inr ⟨hw _ t_3, hw _ t_40⟩)
  obtain ⟨a_UINT64_BE, ev_UINT64_BE⟩ := exa_v hn69
  have E_UINT64_BE : Exa s s.heap a_UINT64_BE "com/example/tagwright/tagwright/ElementType" := Exa.start ev_UINT64_BE hn69
  have S_UINT64_BE : Sta s s.heap "com/example/tagwright/tagwright/ElementType" "UINT64_BE" "Lcom/example/tagwright/tagwright/ElementType;" (.ref a_UINT64_BE) := Sta.start ev_UINT64_BE (Or.inr ⟨hw _ t_3, hw _ t_41⟩)
  obtain ⟨a_BY_TAG, ev_BY_TAG⟩ := arr_v hn0
  obtain ⟨c_BY_TAG, A_BY_TAG⟩ := Arr.start ev_BY_TAG hn0
  have S_BY_TAG : Sta s s.heap "com/example/tagwright/tagwright/ElementType" "BY_TAG" "[Lcom/example/tagwright/tagwright/ElementType;" (.ref a_BY_TAG) := Sta.start ev_BY_TAG (Or.inr ⟨hw _ t_3, hw _ t_10⟩)
  have H_BY_TAG : c_BY_TAG.slots.size.toInt32 = (24 : Int32) := by obtain ⟨b, cl, q1, q2, q3⟩ := Term.length_spec (own_eqI hn1); cases ev_BY_TAG.symm.trans q1; cases (A_BY_TAG.fin (Vm.Alike.refl _)).symm.trans q2; exact (Value.int.inj q3).symm
  have G_BY_TAG_23 := elem_in (own_eqR hn3 ev_BINARY128_LE) ev_BY_TAG (Term.int_eval 23) A_BY_TAG.1
  have G_BY_TAG_6 := elem_in (own_eqR hn6 ev_UINT32_LE) ev_BY_TAG (Term.int_eval 6) A_BY_TAG.1
  have G_BY_TAG_1 := elem_in (own_eqR hn9 ev_UINT16_BE) ev_BY_TAG (Term.int_eval 1) A_BY_TAG.1
  have G_BY_TAG_15 := elem_in (own_eqR hn12 ev_SINT64_LE) ev_BY_TAG (Term.int_eval 15) A_BY_TAG.1
  have G_BY_TAG_0 := elem_in (own_eqR hn15 ev_UINT8) ev_BY_TAG (Term.int_eval 0) A_BY_TAG.1
  have G_BY_TAG_21 := elem_in (own_eqR hn18 ev_BINARY32_LE) ev_BY_TAG (Term.int_eval 21) A_BY_TAG.1
  have G_BY_TAG_7 := elem_in (own_eqR hn21 ev_UINT64_LE) ev_BY_TAG (Term.int_eval 7) A_BY_TAG.1
  have G_BY_TAG_12 := elem_in (null_v hn23) ev_BY_TAG (Term.int_eval 12) A_BY_TAG.1
  have G_BY_TAG_10 := elem_in (own_eqR hn25 ev_SINT32_BE) ev_BY_TAG (Term.int_eval 10) A_BY_TAG.1
  have G_BY_TAG_11 := elem_in (own_eqR hn28 ev_SINT64_BE) ev_BY_TAG (Term.int_eval 11) A_BY_TAG.1
  have G_BY_TAG_9 := elem_in (own_eqR hn31 ev_SINT16_BE) ev_BY_TAG (Term.int_eval 9) A_BY_TAG.1
  have G_BY_TAG_4 := elem_in (own_eqR hn34 ev_UINT8_CLAMPED) ev_BY_TAG (Term.int_eval 4) A_BY_TAG.1
  have G_BY_TAG_2 := elem_in (own_eqR hn37 ev_UINT32_BE) ev_BY_TAG (Term.int_eval 2) A_BY_TAG.1
  have G_BY_TAG_20 := elem_in (own_eqR hn40 ev_BINARY16_LE) ev_BY_TAG (Term.int_eval 20) A_BY_TAG.1
  have G_BY_TAG_18 := elem_in (own_eqR hn43 ev_BINARY64_BE) ev_BY_TAG (Term.int_eval 18) A_BY_TAG.1
  have G_BY_TAG_5 := elem_in (own_eqR hn46 ev_UINT16_LE) ev_BY_TAG (Term.int_eval 5) A_BY_TAG.1
  have G_BY_TAG_22 := elem_in (own_eqR hn49 ev_BINARY64_LE) ev_BY_TAG (Term.int_eval 22) A_BY_TAG.1
  have G_BY_TAG_13 := elem_in (own_eqR hn52 ev_SINT16_LE) ev_BY_TAG (Term.int_eval 13) A_BY_TAG.1
  have G_BY_TAG_16 := elem_in (own_eqR hn55 ev_BINARY16_BE) ev_BY_TAG (Term.int_eval 16) A_BY_TAG.1
  have G_BY_TAG_14 := elem_in (own_eqR hn58 ev_SINT32_LE) ev_BY_TAG (Term.int_eval 14) A_BY_TAG.1
  have G_BY_TAG_17 := elem_in (own_eqR hn61 ev_BINARY32_BE) ev_BY_TAG (Term.int_eval 17) A_BY_TAG.1
  have G_BY_TAG_8 := elem_in (own_eqR hn64 ev_SINT8) ev_BY_TAG (Term.int_eval 8) A_BY_TAG.1
  have G_BY_TAG_19 := elem_in (own_eqR hn67 ev_BINARY128_BE) ev_BY_TAG (Term.int_eval 19) A_BY_TAG.1
  have G_BY_TAG_3 := elem_in (own_eqR hn70 ev_UINT64_BE) ev_BY_TAG (Term.int_eval 3) A_BY_TAG.1
  have F_BINARY128_LE_tagNumber : Fld s s.heap a_BINARY128_LE "com/example/tagwright/tagwright/ElementType" "tagNumber" "I" (.int (87 : Int32)) := Fld.start ((fld_at ev_BINARY128_LE).symm.trans (own_eqI hn4))
  have F_UINT32_LE_tagNumber : Fld s s.heap a_UINT32_LE "com/example/tagwright/tagwright/ElementType" "tagNumber" "I" (.int (70 : Int32)) := Fld.start ((fld_at ev_UINT32_LE).symm.trans (own_eqI hn7))
  have F_UINT16_BE_tagNumber : Fld s s.heap a_UINT16_BE "com/example/tagwright/tagwright/ElementType" "tagNumber" "I" (.int (65 : Int32)) := Fld.start ((fld_at ev_UINT16_BE).symm.trans (own_eqI hn10))
  have F_SINT64_LE_tagNumber : Fld s s.heap a_SINT64_LE "com/example/tagwright/tagwright/ElementType" "tagNumber" "I" (.int (79 : Int32)) := Fld.start ((fld_at ev_SINT64_LE).symm.trans (own_eqI hn13))
  have F_UINT8_tagNumber : Fld s s.heap a_UINT8 "com/example/tagwright/tagwright/ElementType" "tagNumber" "I" (.int (64 : Int32)) := Fld.start ((fld_at ev_UINT8).symm.trans (own_eqI hn16))
  have F_BINARY32_LE_tagNumber : Fld s s.heap a_BINARY32_LE "com/example/tagwright/tagwright/ElementType" "tagNumber" "I" (.int (85 : Int32)) := Fld.start ((fld_at ev_BINARY32_LE).symm.trans (own_eqI hn19))
  have F_UINT64_LE_tagNumber : Fld s s.heap a_UINT64_LE "com/example/tagwright/tagwright/ElementType" "tagNumber" "I" (.int (71 : Int32)) := Fld.start ((fld_at ev_UINT64_LE).symm.trans (own_eqI hn22))
  have F_SINT32_BE_tagNumber : Fld s s.heap a_SINT32_BE "com/example/tagwright/tagwright/ElementType" "tagNumber" "I" (.int (74 : Int32)) := Fld.start ((fld_at ev_SINT32_BE).symm.trans (own_eqI hn26))
  have F_SINT64_BE_tagNumber : Fld s s.heap a_SINT64_BE "com/example/tagwright/tagwright/ElementType" "tagNumber" "I" (.int (75 : Int32)) := Fld.start ((fld_at ev_SINT64_BE).symm.trans (own_eqI hn29))
  have F_SINT16_BE_tagNumber : Fld s s.heap a_SINT16_BE "com/example/tagwright/tagwright/ElementType" "tagNumber" "I" (.int (73 : Int32)) := Fld.start ((fld_at ev_SINT16_BE).symm.trans (own_eqI hn32))
  have F_UINT8_CLAMPED_tagNumber : Fld s s.heap a_UINT8_CLAMPED "com/example/tagwright/tagwright/ElementType" "tagNumber" "I" (.int (68 : Int32)) := Fld.start ((fld_at ev_UINT8_CLAMPED).symm.trans (own_eqI hn35))
  have F_UINT32_BE_tagNumber : Fld s s.heap a_UINT32_BE "com/example/tagwright/tagwright/ElementType" "tagNumber" "I" (.int (66 : Int32)) := Fld.start ((fld_at ev_UINT32_BE).symm.trans (own_eqI hn38))
  have F_BINARY16_LE_tagNumber : Fld s s.heap a_BINARY16_LE "com/example/tagwright/tagwright/ElementType" "tagNumber" "I" (.int (84 : Int32)) := Fld.start ((fld_at ev_BINARY16_LE).symm.trans (own_eqI hn41))
  have F_BINARY64_BE_tagNumber : Fld s s.heap a_BINARY64_BE "com/example/tagwright/tagwright/ElementType" "tagNumber" "I" (.int (82 : Int32)) := Fld.start ((fld_at ev_BINARY64_BE).symm.trans (own_eqI hn44))
  have F_UINT16_LE_tagNumber : Fld s s.heap a_UINT16_LE "com/example/tagwright/tagwright/ElementType" "tagNumber" "I" (.int (69 : Int32)) := Fld.start ((fld_at ev_UINT16_LE).symm.trans (own_eqI hn47))
  have F_BINARY64_LE_tagNumber : Fld s s.heap a_BINARY64_LE "com/example/tagwright/tagwright/ElementType" "tagNumber" "I" (.int (86 : Int32)) := Fld.start ((fld_at ev_BINARY64_LE).symm.trans (own_eqI hn50))
  have F_SINT16_LE_tagNumber : Fld s s.heap a_SINT16_LE "com/example/tagwright/tagwright/ElementType" "tagNumber" "I" (.int (77 : Int32)) := Fld.start ((fld_at ev_SINT16_LE).symm.trans (own_eqI hn53))
  have F_BINARY16_BE_tagNumber : Fld s s.heap a_BINARY16_BE "com/example/tagwright/tagwright/ElementType" "tagNumber" "I" (.int (80 : Int32)) := Fld.start ((fld_at ev_BINARY16_BE).symm.trans (own_eqI hn56))
  have F_SINT32_LE_tagNumber : Fld s s.heap a_SINT32_LE "com/example/tagwright/tagwright/ElementType" "tagNumber" "I" (.int (78 : Int32)) := Fld.start ((fld_at ev_SINT32_LE).symm.trans (own_eqI hn59))
  have F_BINARY32_BE_tagNumber : Fld s s.heap a_BINARY32_BE "com/example/tagwright/tagwright/ElementType" "tagNumber" "I" (.int (81 : Int32)) := Fld.start ((fld_at ev_BINARY32_BE).symm.trans (own_eqI hn62))
  have F_SINT8_tagNumber : Fld s s.heap a_SINT8 "com/example/tagwright/tagwright/ElementType" "tagNumber" "I" (.int (72 : Int32)) := Fld.start ((fld_at ev_SINT8).symm.trans (own_eqI hn65))
  have F_BINARY128_BE_tagNumber : Fld s s.heap a_BINARY128_BE "com/example/tagwright/tagwright/ElementType" "tagNumber" "I" (.int (83 : Int32)) := Fld.start ((fld_at ev_BINARY128_BE).symm.trans (own_eqI hn68))
  have F_UINT64_BE_tagNumber : Fld s s.heap a_UINT64_BE "com/example/tagwright/tagwright/ElementType" "tagNumber" "I" (.int (67 : Int32)) := Fld.start ((fld_at ev_UINT64_BE).symm.trans (own_eqI hn71))
  have GB : ∀ n : Int64, ¬ n < 64 → (n - 64) < (24 : Int32).toInt64 → ¬ ((n - 64).toInt32 < 0 ∨ c_BY_TAG.slots.size ≤ ((n - 64).toInt32).toNatClampNeg) ∧ ∃ v : Value, v.isRef = true ∧ c_BY_TAG.slots[((n - 64).toInt32).toNatClampNeg]? = some v ∧ ((v = .null ∧ n = 76) ∨ ∃ (a : Addr) (t : Int32), v = .ref a ∧ n ≠ 76 ∧ Exa s s.heap a "com/example/tagwright/tagwright/ElementType" ∧ Fld s s.heap a "com/example/tagwright/tagwright/ElementType" "tagNumber" "I" (.int t) ∧ t.toInt64 = n) := by
    intro n q1 q2
    rcases own_24 q1 q2 with rfl | rfl | rfl | rfl | rfl | rfl | rfl | rfl | rfl | rfl | rfl | rfl | rfl | rfl | rfl | rfl | rfl | rfl | rfl | rfl | rfl | rfl | rfl | rfl
    · rw [show ((64 : Int64) - 64).toInt32 = 0 from by decide]; exact ⟨G_BY_TAG_0.1, _, rfl, G_BY_TAG_0.2, Or.inr ⟨_, _, rfl, by decide, E_UINT8, F_UINT8_tagNumber, by decide⟩⟩
    · rw [show ((65 : Int64) - 64).toInt32 = 1 from by decide]; exact ⟨G_BY_TAG_1.1, _, rfl, G_BY_TAG_1.2, Or.inr ⟨_, _, rfl, by decide, E_UINT16_BE, F_UINT16_BE_tagNumber, by decide⟩⟩
    · rw [show ((66 : Int64) - 64).toInt32 = 2 from by decide]; exact ⟨G_BY_TAG_2.1, _, rfl, G_BY_TAG_2.2, Or.inr ⟨_, _, rfl, by decide, E_UINT32_BE, F_UINT32_BE_tagNumber, by decide⟩⟩
    · rw [show ((67 : Int64) - 64).toInt32 = 3 from by decide]; exact ⟨G_BY_TAG_3.1, _, rfl, G_BY_TAG_3.2, Or.inr ⟨_, _, rfl, by decide, E_UINT64_BE, F_UINT64_BE_tagNumber, by decide⟩⟩
    · rw [show ((68 : Int64) - 64).toInt32 = 4 from by decide]; exact ⟨G_BY_TAG_4.1, _, rfl, G_BY_TAG_4.2, Or.inr ⟨_, _, rfl, by decide, E_UINT8_CLAMPED, F_UINT8_CLAMPED_tagNumber, by decide⟩⟩
    · rw [show ((69 : Int64) - 64).toInt32 = 5 from by decide]; exact ⟨G_BY_TAG_5.1, _, rfl, G_BY_TAG_5.2, Or.inr ⟨_, _, rfl, by decide, E_UINT16_LE, F_UINT16_LE_tagNumber, by decide⟩⟩
    · rw [show ((70 : Int64) - 64).toInt32 = 6 from by decide]; exact ⟨G_BY_TAG_6.1, _, rfl, G_BY_TAG_6.2, Or.inr ⟨_, _, rfl, by decide, E_UINT32_LE, F_UINT32_LE_tagNumber, by decide⟩⟩
    · rw [show ((71 : Int64) - 64).toInt32 = 7 from by decide]; exact ⟨G_BY_TAG_7.1, _, rfl, G_BY_TAG_7.2, Or.inr ⟨_, _, rfl, by decide, E_UINT64_LE, F_UINT64_LE_tagNumber, by decide⟩⟩
    · rw [show ((72 : Int64) - 64).toInt32 = 8 from by decide]; exact ⟨G_BY_TAG_8.1, _, rfl, G_BY_TAG_8.2, Or.inr ⟨_, _, rfl, by decide, E_SINT8, F_SINT8_tagNumber, by decide⟩⟩
    · rw [show ((73 : Int64) - 64).toInt32 = 9 from by decide]; exact ⟨G_BY_TAG_9.1, _, rfl, G_BY_TAG_9.2, Or.inr ⟨_, _, rfl, by decide, E_SINT16_BE, F_SINT16_BE_tagNumber, by decide⟩⟩
    · rw [show ((74 : Int64) - 64).toInt32 = 10 from by decide]; exact ⟨G_BY_TAG_10.1, _, rfl, G_BY_TAG_10.2, Or.inr ⟨_, _, rfl, by decide, E_SINT32_BE, F_SINT32_BE_tagNumber, by decide⟩⟩
    · rw [show ((75 : Int64) - 64).toInt32 = 11 from by decide]; exact ⟨G_BY_TAG_11.1, _, rfl, G_BY_TAG_11.2, Or.inr ⟨_, _, rfl, by decide, E_SINT64_BE, F_SINT64_BE_tagNumber, by decide⟩⟩
    · rw [show ((76 : Int64) - 64).toInt32 = 12 from by decide]; exact ⟨G_BY_TAG_12.1, _, rfl, G_BY_TAG_12.2, Or.inl ⟨rfl, rfl⟩⟩
    · rw [show ((77 : Int64) - 64).toInt32 = 13 from by decide]; exact ⟨G_BY_TAG_13.1, _, rfl, G_BY_TAG_13.2, Or.inr ⟨_, _, rfl, by decide, E_SINT16_LE, F_SINT16_LE_tagNumber, by decide⟩⟩
    · rw [show ((78 : Int64) - 64).toInt32 = 14 from by decide]; exact ⟨G_BY_TAG_14.1, _, rfl, G_BY_TAG_14.2, Or.inr ⟨_, _, rfl, by decide, E_SINT32_LE, F_SINT32_LE_tagNumber, by decide⟩⟩
    · rw [show ((79 : Int64) - 64).toInt32 = 15 from by decide]; exact ⟨G_BY_TAG_15.1, _, rfl, G_BY_TAG_15.2, Or.inr ⟨_, _, rfl, by decide, E_SINT64_LE, F_SINT64_LE_tagNumber, by decide⟩⟩
    · rw [show ((80 : Int64) - 64).toInt32 = 16 from by decide]; exact ⟨G_BY_TAG_16.1, _, rfl, G_BY_TAG_16.2, Or.inr ⟨_, _, rfl, by decide, E_BINARY16_BE, F_BINARY16_BE_tagNumber, by decide⟩⟩
    · rw [show ((81 : Int64) - 64).toInt32 = 17 from by decide]; exact ⟨G_BY_TAG_17.1, _, rfl, G_BY_TAG_17.2, Or.inr ⟨_, _, rfl, by decide, E_BINARY32_BE, F_BINARY32_BE_tagNumber, by decide⟩⟩
    · rw [show ((82 : Int64) - 64).toInt32 = 18 from by decide]; exact ⟨G_BY_TAG_18.1, _, rfl, G_BY_TAG_18.2, Or.inr ⟨_, _, rfl, by decide, E_BINARY64_BE, F_BINARY64_BE_tagNumber, by decide⟩⟩
    · rw [show ((83 : Int64) - 64).toInt32 = 19 from by decide]; exact ⟨G_BY_TAG_19.1, _, rfl, G_BY_TAG_19.2, Or.inr ⟨_, _, rfl, by decide, E_BINARY128_BE, F_BINARY128_BE_tagNumber, by decide⟩⟩
    · rw [show ((84 : Int64) - 64).toInt32 = 20 from by decide]; exact ⟨G_BY_TAG_20.1, _, rfl, G_BY_TAG_20.2, Or.inr ⟨_, _, rfl, by decide, E_BINARY16_LE, F_BINARY16_LE_tagNumber, by decide⟩⟩
    · rw [show ((85 : Int64) - 64).toInt32 = 21 from by decide]; exact ⟨G_BY_TAG_21.1, _, rfl, G_BY_TAG_21.2, Or.inr ⟨_, _, rfl, by decide, E_BINARY32_LE, F_BINARY32_LE_tagNumber, by decide⟩⟩
    · rw [show ((86 : Int64) - 64).toInt32 = 22 from by decide]; exact ⟨G_BY_TAG_22.1, _, rfl, G_BY_TAG_22.2, Or.inr ⟨_, _, rfl, by decide, E_BINARY64_LE, F_BINARY64_LE_tagNumber, by decide⟩⟩
    · rw [show ((87 : Int64) - 64).toInt32 = 23 from by decide]; exact ⟨G_BY_TAG_23.1, _, rfl, G_BY_TAG_23.2, Or.inr ⟨_, _, rfl, by decide, E_BINARY128_LE, F_BINARY128_LE_tagNumber, by decide⟩⟩
  obtain ⟨n, o, h1, h2, h3, _, L, rfl, ⟨rfl, N⟩, hq⟩ := law0 l s _ hw a_BY_TAG c_BY_TAG i0 i1 s.heap S_BY_TAG A_BY_TAG H_BY_TAG GB tables_1 p e ha hc hk s m _ below hf ((Spec.applies_iff_loose hf).mp happ).1 ⟨rfl, State.Warmed39.refl s, rfl⟩ trivial
  exact ⟨n, _, h1, h2, h3, hpost _ _ _ _ _ _ ⟨Cond.after_iff.mpr rfl, Cond.after_iff.mpr (eq_i res_at (Term.int_eval (1)) rfl)⟩ ⟨hq.1, hq.2.1, (hq.2.2.sift fun y hy => Or.inr (N y hy)).mono (by decide) (by decide)⟩⟩
theorem main_1_1 : Claimed_1_1 := comes_1 fun _ _ _ _ _ _ h hF => ⟨h.1, hF⟩
theorem main_1_2 : Claimed_1_2 := comes_1 fun _ _ _ _ _ _ h hF => ⟨h.2, hF⟩
end Jvm.Pilot.@@N@@
namespace Jvm.Pilot.@@N@@
open Jvm Jvm.ClassFile Sem Op Lib Jvm.Free Jvm.Stand Jvm.Pilot.@@N@@.Jvm.D
/-! MADE BY PROGRAM (witnessworld.py) out of the Statement's table words and the real class files: 13 classes; the members and pool entries that the words name. The judged class is class 1, her method 1. -/
namespace start1
open Jvm.ClassFile
def u (s : String) : CpInfo := .utf8 (stringToUtf16 s)
/-- a pool by its gaps: so many unusable entries, then the entry; so many at the end -/
def gap : Nat → List CpInfo → List CpInfo
  | 0, r => r
  | n + 1, r => .unusable :: gap n r
def poolList (es : List (Nat × CpInfo)) (last : Nat) : List CpInfo := es.foldr (fun e r => gap e.1 (e.2 :: r)) (gap last [])
def pool (es : List (Nat × CpInfo)) (last : Nat) : Array CpInfo := ⟨poolList es last⟩
def fileOf (pool : Array CpInfo) (this : Nat) (attrs : Array Attribute := #[]) (ms : Array MethodInfo := #[]) (fl : Nat := 33) (sup : Nat := 0) (ifs : Array Nat := #[]) (fds : Array FieldInfo := #[]) : ClassFile where
  minorVersion := 0
  majorVersion := 65
  constantPool := pool
  accessFlags := fl
  thisClass := this
  superClass := sup
  interfaces := ifs
  fields := fds
  methods := ms
  attributes := attrs
def plain (name : String) (sup : Option ClassId) : Class where
  name := name
  kind := .ordinary
  loader := none
  accessFlags := 33
  super := sup
  interfaces := #[]
  cf := none
  fields := #[]
  methods := #[]
  instanceTypes := #[]
  staticTypes := #[]
  resolved := #[]
  callSites := []
  init := .initialized
  statics := none
  mirror := none

def pool0 : Array CpInfo := pool [(5, u "<init>"), (0, u "()V"), (1, .class_ 10), (1, u "java/lang/Object")] 113

def k0m0 : Method := { name := "<init>", desc := "()V", sig := { parameters := [], returnType := none }, accessFlags := 1, code := none }
/-- java/lang/Object -/
def k0 : Class := { plain "java/lang/Object" none with
  accessFlags := 33
  interfaces := #[]
  cf := some (fileOf pool0 8 #[] #[{ accessFlags := 1, nameIndex := 5, descriptorIndex := 6, attributes := #[] }] 33 0 #[] #[])
  fields := #[]
  methods := #[k0m0]
  instanceTypes := #[]
  staticTypes := #[]
  resolved := Array.replicate 124 none
  statics := none }

def pool1 : Array CpInfo := pool [(2, .class_ 4), (1, u "java/lang/Object"), (0, u "<init>"), (0, u "()V"), (0, .long 40), (1, .long 63), (1, .long 64), (1, .long 87), (1, .long 76), (1, .methodref 18 19), (0, .class_ 20), (0, .nameAndType 21 22), (0, u "com/example/tagwright/tagwright/ElementType"), (0, u "ofTag"), (0, u "(J)Lcom/example/tagwright/tagwright/ElementType;"), (0, .methodref 18 24), (0, .nameAndType 25 26), (0, u "tagNumber"), (0, u "()J"), (0, .class_ 28), (0, u "com/example/tagwright/tagwright/ElementTypeOfTagPinLaw"), (2, u "law"), (0, u "(JI)Z")] 3

def k1m0 : Method := { name := "<init>", desc := "()V", sig := { parameters := [], returnType := none }, accessFlags := 1, code := none }
def k1c1 : Code := { maxStack := 6, maxLocals := 7, code := code, exceptionTable := #[], attributes := #[] }
def k1m1 : Method := { name := "law", desc := "(JI)Z", sig := { parameters := [.long, .int], returnType := some .boolean }, accessFlags := 9, code := some k1c1 }
/-- com/example/tagwright/tagwright/ElementTypeOfTagPinLaw -/
def k1 : Class := { plain "com/example/tagwright/tagwright/ElementTypeOfTagPinLaw" (some 0) with
  accessFlags := 49
  interfaces := #[]
  cf := some (fileOf pool1 27 #[] #[{ accessFlags := 1, nameIndex := 5, descriptorIndex := 6, attributes := #[] }, { accessFlags := 9, nameIndex := 31, descriptorIndex := 32, attributes := #[] }] 49 2 #[] #[])
  fields := #[]
  methods := #[k1m0, k1m1]
  instanceTypes := #[]
  staticTypes := #[]
  resolved := Array.replicate 36 none
  statics := none }

def pool2 : Array CpInfo := pool [(1, .class_ 2), (0, u "java/lang/constant/Constable"), (0, .class_ 4), (0, u "java/lang/Object")] 6

/-- java/lang/constant/Constable -/
def k2 : Class := { plain "java/lang/constant/Constable" (some 0) with
  accessFlags := 1537
  interfaces := #[]
  cf := some (fileOf pool2 1 #[] #[] 1537 3 #[] #[])
  fields := #[]
  methods := #[]
  instanceTypes := #[]
  staticTypes := #[]
  resolved := Array.replicate 11 none
  statics := none }

def pool3 : Array CpInfo := pool [(1, .class_ 2), (0, u "java/lang/Comparable"), (0, .class_ 4), (0, u "java/lang/Object")] 7

/-- java/lang/Comparable -/
def k3 : Class := { plain "java/lang/Comparable" (some 0) with
  accessFlags := 1537
  interfaces := #[]
  cf := some (fileOf pool3 1 #[] #[] 1537 3 #[] #[])
  fields := #[]
  methods := #[]
  instanceTypes := #[]
  staticTypes := #[]
  resolved := Array.replicate 12 none
  statics := none }

def pool4 : Array CpInfo := pool [(1, .class_ 2), (0, u "java/io/Serializable"), (0, .class_ 4), (0, u "java/lang/Object")] 2

/-- java/io/Serializable -/
def k4 : Class := { plain "java/io/Serializable" (some 0) with
  accessFlags := 1537
  interfaces := #[]
  cf := some (fileOf pool4 1 #[] #[] 1537 3 #[] #[])
  fields := #[]
  methods := #[]
  instanceTypes := #[]
  staticTypes := #[]
  resolved := Array.replicate 7 none
  statics := none }

def pool5 : Array CpInfo := pool [(2, .class_ 4), (1, u "java/lang/Enum"), (0, u "name"), (0, u "Ljava/lang/String;"), (2, u "ordinal"), (0, u "I"), (1, .class_ 14), (1, u "java/lang/Object"), (4, u "hash"), (86, .class_ 108), (1, u "java/lang/Enum$EnumDesc"), (2, .class_ 112), (0, u "java/lang/constant/Constable"), (0, .class_ 114), (0, u "java/lang/Comparable"), (0, .class_ 116), (0, u "java/io/Serializable")] 87

/-- java/lang/Enum -/
def k5 : Class := { plain "java/lang/Enum" (some 0) with
  accessFlags := 1057
  interfaces := #[2, 3, 4]
  cf := some (fileOf pool5 2 #[.nestMembers #[106]] #[] 1057 12 #[111, 113, 115] #[{ accessFlags := 18, nameIndex := 5, descriptorIndex := 6, attributes := #[] }, { accessFlags := 18, nameIndex := 9, descriptorIndex := 10, attributes := #[] }, { accessFlags := 2, nameIndex := 19, descriptorIndex := 10, attributes := #[] }])
  fields := #[{ name := "name", type := (.object "java/lang/String"), accessFlags := 18, slot := 0, constantValue := 0 }, { name := "ordinal", type := .int, accessFlags := 18, slot := 1, constantValue := 0 }, { name := "hash", type := .int, accessFlags := 2, slot := 2, constantValue := 0 }]
  methods := #[]
  instanceTypes := #[(.object "java/lang/String"), .int, .int]
  staticTypes := #[]
  resolved := Array.replicate 204 none
  statics := none }

def pool6 : Array CpInfo := pool [(1, .class_ 2), (0, u "com/example/tagwright/tagwright/ElementType"), (2, u "UINT8"), (0, u "Lcom/example/tagwright/tagwright/ElementType;"), (2, u "UINT16_BE"), (2, u "UINT32_BE"), (2, u "UINT64_BE"), (2, u "UINT8_CLAMPED"), (2, u "UINT16_LE"), (2, u "UINT32_LE"), (2, u "UINT64_LE"), (2, u "SINT8"), (2, u "SINT16_BE"), (2, u "SINT32_BE"), (2, u "SINT64_BE"), (2, u "SINT16_LE"), (2, u "SINT32_LE"), (2, u "SINT64_LE"), (2, u "BINARY16_BE"), (2, u "BINARY32_BE"), (2, u "BINARY64_BE"), (2, u "BINARY128_BE"), (2, u "BINARY16_LE"), (2, u "BINARY32_LE"), (2, u "BINARY64_LE"), (2, u "BINARY128_LE"), (2, u "$VALUES"), (0, u "[Lcom/example/tagwright/tagwright/ElementType;"), (6, .class_ 85), (1, u "java/lang/Enum"), (6, .fieldref 1 93), (0, .nameAndType 94 95), (0, u "tagNumber"), (0, u "I"), (2, u "floatingPoint"), (0, u "Z"), (2, u "signed"), (2, u "size"), (4, u "LITTLE_ENDIAN"), (0, u "Ljava/nio/ByteOrder;"), (5, u "byteOrder"), (0, .long 64), (1, .fieldref 1 121), (0, .nameAndType 122 76), (0, u "BY_TAG"), (33, u "FIRST_TAG"), (2, u "FLOATING_POINT"), (1, u "SIGNED"), (2, u "SIZE_EXPONENT"), (10, u "()J"), (5, u "ofTag"), (0, u "(J)Lcom/example/tagwright/tagwright/ElementType;")] 5

def k6c0 : Code := { maxStack := 2, maxLocals := 1, code := prog_25_method_4_code, exceptionTable := #[], attributes := #[] }
def k6m0 : Method := { name := "tagNumber", desc := "()J", sig := { parameters := [], returnType := some .long }, accessFlags := 1, code := some k6c0 }
def k6c1 : Code := { maxStack := 5, maxLocals := 2, code := prog_25_method_9_code, exceptionTable := #[], attributes := #[] }
def k6m1 : Method := { name := "ofTag", desc := "(J)Lcom/example/tagwright/tagwright/ElementType;", sig := { parameters := [.long], returnType := some (.object "com/example/tagwright/tagwright/ElementType") }, accessFlags := 8, code := some k6c1 }
/-- com/example/tagwright/tagwright/ElementType -/
def k6 : Class := { plain "com/example/tagwright/tagwright/ElementType" (some 5) with
  accessFlags := 16433
  interfaces := #[]
  cf := some (fileOf pool6 1 #[] #[{ accessFlags := 1, nameIndex := 94, descriptorIndex := 175, attributes := #[] }, { accessFlags := 8, nameIndex := 181, descriptorIndex := 182, attributes := #[] }] 16433 83 #[] #[{ accessFlags := 16409, nameIndex := 5, descriptorIndex := 6, attributes := #[] }, { accessFlags := 16409, nameIndex := 9, descriptorIndex := 6, attributes := #[] }, { accessFlags := 16409, nameIndex := 12, descriptorIndex := 6, attributes := #[] }, { accessFlags := 16409, nameIndex := 15, descriptorIndex := 6, attributes := #[] }, { accessFlags := 16409, nameIndex := 18, descriptorIndex := 6, attributes := #[] }, { accessFlags := 16409, nameIndex := 21, descriptorIndex := 6, attributes := #[] }, { accessFlags := 16409, nameIndex := 24, descriptorIndex := 6, attributes := #[] }, { accessFlags := 16409, nameIndex := 27, descriptorIndex := 6, attributes := #[] }, { accessFlags := 16409, nameIndex := 30, descriptorIndex := 6, attributes := #[] }, { accessFlags := 16409, nameIndex := 33, descriptorIndex := 6, attributes := #[] }, { accessFlags := 16409, nameIndex := 36, descriptorIndex := 6, attributes := #[] }, { accessFlags := 16409, nameIndex := 39, descriptorIndex := 6, attributes := #[] }, { accessFlags := 16409, nameIndex := 42, descriptorIndex := 6, attributes := #[] }, { accessFlags := 16409, nameIndex := 45, descriptorIndex := 6, attributes := #[] }, { accessFlags := 16409, nameIndex := 48, descriptorIndex := 6, attributes := #[] }, { accessFlags := 16409, nameIndex := 51, descriptorIndex := 6, attributes := #[] }, { accessFlags := 16409, nameIndex := 54, descriptorIndex := 6, attributes := #[] }, { accessFlags := 16409, nameIndex := 57, descriptorIndex := 6, attributes := #[] }, { accessFlags := 16409, nameIndex := 60, descriptorIndex := 6, attributes := #[] }, { accessFlags := 16409, nameIndex := 63, descriptorIndex := 6, attributes := #[] }, { accessFlags := 16409, nameIndex := 66, descriptorIndex := 6, attributes := #[] }, { accessFlags := 16409, nameIndex := 69, descriptorIndex := 6, attributes := #[] }, { accessFlags := 16409, nameIndex := 72, descriptorIndex := 6, attributes := #[] }, { accessFlags := 26, nameIndex := 156, descriptorIndex := 95, attributes := #[] }, { accessFlags := 26, nameIndex := 159, descriptorIndex := 95, attributes := #[] }, { accessFlags := 26, nameIndex := 161, descriptorIndex := 95, attributes := #[] }, { accessFlags := 26, nameIndex := 110, descriptorIndex := 95, attributes := #[] }, { accessFlags := 26, nameIndex := 164, descriptorIndex := 95, attributes := #[] }, { accessFlags := 26, nameIndex := 122, descriptorIndex := 76, attributes := #[] }, { accessFlags := 18, nameIndex := 94, descriptorIndex := 95, attributes := #[] }, { accessFlags := 18, nameIndex := 98, descriptorIndex := 99, attributes := #[] }, { accessFlags := 18, nameIndex := 102, descriptorIndex := 99, attributes := #[] }, { accessFlags := 18, nameIndex := 117, descriptorIndex := 111, attributes := #[] }, { accessFlags := 18, nameIndex := 105, descriptorIndex := 95, attributes := #[] }, { accessFlags := 4122, nameIndex := 75, descriptorIndex := 76, attributes := #[] }])
  fields := #[{ name := "UINT8", type := (.object "com/example/tagwright/tagwright/ElementType"), accessFlags := 16409, slot := 0, constantValue := 0 }, { name := "UINT16_BE", type := (.object "com/example/tagwright/tagwright/ElementType"), accessFlags := 16409, slot := 1, constantValue := 0 }, { name := "UINT32_BE", type := (.object "com/example/tagwright/tagwright/ElementType"), accessFlags := 16409, slot := 2, constantValue := 0 }, { name := "UINT64_BE", type := (.object "com/example/tagwright/tagwright/ElementType"), accessFlags := 16409, slot := 3, constantValue := 0 }, { name := "UINT8_CLAMPED", type := (.object "com/example/tagwright/tagwright/ElementType"), accessFlags := 16409, slot := 4, constantValue := 0 }, { name := "UINT16_LE", type := (.object "com/example/tagwright/tagwright/ElementType"), accessFlags := 16409, slot := 5, constantValue := 0 }, { name := "UINT32_LE", type := (.object "com/example/tagwright/tagwright/ElementType"), accessFlags := 16409, slot := 6, constantValue := 0 }, { name := "UINT64_LE", type := (.object "com/example/tagwright/tagwright/ElementType"), accessFlags := 16409, slot := 7, constantValue := 0 }, { name := "SINT8", type := (.object "com/example/tagwright/tagwright/ElementType"), accessFlags := 16409, slot := 8, constantValue := 0 }, { name := "SINT16_BE", type := (.object "com/example/tagwright/tagwright/ElementType"), accessFlags := 16409, slot := 9, constantValue := 0 }, { name := "SINT32_BE", type := (.object "com/example/tagwright/tagwright/ElementType"), accessFlags := 16409, slot := 10, constantValue := 0 }, { name := "SINT64_BE", type := (.object "com/example/tagwright/tagwright/ElementType"), accessFlags := 16409, slot := 11, constantValue := 0 }, { name := "SINT16_LE", type := (.object "com/example/tagwright/tagwright/ElementType"), accessFlags := 16409, slot := 12, constantValue := 0 }, { name := "SINT32_LE", type := (.object "com/example/tagwright/tagwright/ElementType"), accessFlags := 16409, slot := 13, constantValue := 0 }, { name := "SINT64_LE", type := (.object "com/example/tagwright/tagwright/ElementType"), accessFlags := 16409, slot := 14, constantValue := 0 }, { name := "BINARY16_BE", type := (.object "com/example/tagwright/tagwright/ElementType"), accessFlags := 16409, slot := 15, constantValue := 0 }, { name := "BINARY32_BE", type := (.object "com/example/tagwright/tagwright/ElementType"), accessFlags := 16409, slot := 16, constantValue := 0 }, { name := "BINARY64_BE", type := (.object "com/example/tagwright/tagwright/ElementType"), accessFlags := 16409, slot := 17, constantValue := 0 }, { name := "BINARY128_BE", type := (.object "com/example/tagwright/tagwright/ElementType"), accessFlags := 16409, slot := 18, constantValue := 0 }, { name := "BINARY16_LE", type := (.object "com/example/tagwright/tagwright/ElementType"), accessFlags := 16409, slot := 19, constantValue := 0 }, { name := "BINARY32_LE", type := (.object "com/example/tagwright/tagwright/ElementType"), accessFlags := 16409, slot := 20, constantValue := 0 }, { name := "BINARY64_LE", type := (.object "com/example/tagwright/tagwright/ElementType"), accessFlags := 16409, slot := 21, constantValue := 0 }, { name := "BINARY128_LE", type := (.object "com/example/tagwright/tagwright/ElementType"), accessFlags := 16409, slot := 22, constantValue := 0 }, { name := "FIRST_TAG", type := .int, accessFlags := 26, slot := 23, constantValue := 0 }, { name := "FLOATING_POINT", type := .int, accessFlags := 26, slot := 24, constantValue := 0 }, { name := "SIGNED", type := .int, accessFlags := 26, slot := 25, constantValue := 0 }, { name := "LITTLE_ENDIAN", type := .int, accessFlags := 26, slot := 26, constantValue := 0 }, { name := "SIZE_EXPONENT", type := .int, accessFlags := 26, slot := 27, constantValue := 0 }, { name := "BY_TAG", type := (.array (.object "com/example/tagwright/tagwright/ElementType")), accessFlags := 26, slot := 28, constantValue := 0 }, { name := "tagNumber", type := .int, accessFlags := 18, slot := 3, constantValue := 0 }, { name := "floatingPoint", type := .boolean, accessFlags := 18, slot := 4, constantValue := 0 }, { name := "signed", type := .boolean, accessFlags := 18, slot := 5, constantValue := 0 }, { name := "byteOrder", type := (.object "java/nio/ByteOrder"), accessFlags := 18, slot := 6, constantValue := 0 }, { name := "size", type := .int, accessFlags := 18, slot := 7, constantValue := 0 }, { name := "$VALUES", type := (.array (.object "com/example/tagwright/tagwright/ElementType")), accessFlags := 4122, slot := 29, constantValue := 0 }]
  methods := #[k6m0, k6m1]
  instanceTypes := #[(.object "java/lang/String"), .int, .int, .int, .boolean, .boolean, (.object "java/nio/ByteOrder"), .int]
  staticTypes := #[(.object "com/example/tagwright/tagwright/ElementType"), (.object "com/example/tagwright/tagwright/ElementType"), (.object "com/example/tagwright/tagwright/ElementType"), (.object "com/example/tagwright/tagwright/ElementType"), (.object "com/example/tagwright/tagwright/ElementType"), (.object "com/example/tagwright/tagwright/ElementType"), (.object "com/example/tagwright/tagwright/ElementType"), (.object "com/example/tagwright/tagwright/ElementType"), (.object "com/example/tagwright/tagwright/ElementType"), (.object "com/example/tagwright/tagwright/ElementType"), (.object "com/example/tagwright/tagwright/ElementType"), (.object "com/example/tagwright/tagwright/ElementType"), (.object "com/example/tagwright/tagwright/ElementType"), (.object "com/example/tagwright/tagwright/ElementType"), (.object "com/example/tagwright/tagwright/ElementType"), (.object "com/example/tagwright/tagwright/ElementType"), (.object "com/example/tagwright/tagwright/ElementType"), (.object "com/example/tagwright/tagwright/ElementType"), (.object "com/example/tagwright/tagwright/ElementType"), (.object "com/example/tagwright/tagwright/ElementType"), (.object "com/example/tagwright/tagwright/ElementType"), (.object "com/example/tagwright/tagwright/ElementType"), (.object "com/example/tagwright/tagwright/ElementType"), .int, .int, .int, .int, .int, (.array (.object "com/example/tagwright/tagwright/ElementType")), (.array (.object "com/example/tagwright/tagwright/ElementType"))]
  resolved := Array.replicate 188 none
  statics := some 0 }

def pool7 : Array CpInfo := pool [(1, u "java/lang/Cloneable"), (0, .class_ 1), (0, u "java/lang/Object"), (0, .class_ 3)] 3

/-- java/lang/Cloneable -/
def k7 : Class := { plain "java/lang/Cloneable" (some 0) with
  accessFlags := 1537
  interfaces := #[]
  cf := some (fileOf pool7 2 #[] #[] 1537 4 #[] #[])
  fields := #[]
  methods := #[]
  instanceTypes := #[]
  staticTypes := #[]
  resolved := Array.replicate 8 none
  statics := none }

/-- the primitive byte -/
def k8 : Class := { plain "byte" none with kind := .primitive 'B', accessFlags := 0x411 }
/-- [B -/
def k9 : Class := { plain "[B" (some 0) with kind := .array 8 .byte, interfaces := #[7, 4], accessFlags := 1041 }

/-- the primitive int -/
def k10 : Class := { plain "int" none with kind := .primitive 'I', accessFlags := 0x411 }
/-- [I -/
def k11 : Class := { plain "[I" (some 0) with kind := .array 10 .int, interfaces := #[7, 4], accessFlags := 1041 }

/-- [Lcom/example/tagwright/tagwright/ElementType; -/
def k12 : Class := { plain "[Lcom/example/tagwright/tagwright/ElementType;" (some 0) with kind := .array 6 (.object "com/example/tagwright/tagwright/ElementType"), interfaces := #[7, 4], accessFlags := 1041 }

def heap : Heap := #[{ cls := 6, slots := #[.ref 2, .ref 3, .ref 4, .ref 5, .ref 6, .ref 7, .ref 8, .ref 9, .ref 10, .ref 11, .ref 12, .ref 13, .ref 14, .ref 15, .ref 16, .ref 17, .ref 18, .ref 19, .ref 20, .ref 21, .ref 22, .ref 23, .ref 24, .int 0, .int 0, .int 0, .int 0, .int 0, .ref 1, .null], vm := .statics 6 },
  { cls := 12, slots := #[.ref 2, .ref 3, .ref 4, .ref 5, .ref 6, .ref 7, .ref 8, .ref 9, .ref 10, .ref 11, .ref 12, .ref 13, .null, .ref 14, .ref 15, .ref 16, .ref 17, .ref 18, .ref 19, .ref 20, .ref 21, .ref 22, .ref 23, .ref 24], vm := .none },
  { cls := 6, slots := #[.null, .int 0, .int 0, .int 64, .int 0, .int 0, .null, .int 0], vm := .none },
  { cls := 6, slots := #[.null, .int 1, .int 0, .int 65, .int 0, .int 0, .null, .int 0], vm := .none },
  { cls := 6, slots := #[.null, .int 2, .int 0, .int 66, .int 0, .int 0, .null, .int 0], vm := .none },
  { cls := 6, slots := #[.null, .int 3, .int 0, .int 67, .int 0, .int 0, .null, .int 0], vm := .none },
  { cls := 6, slots := #[.null, .int 4, .int 0, .int 68, .int 0, .int 0, .null, .int 0], vm := .none },
  { cls := 6, slots := #[.null, .int 5, .int 0, .int 69, .int 0, .int 0, .null, .int 0], vm := .none },
  { cls := 6, slots := #[.null, .int 6, .int 0, .int 70, .int 0, .int 0, .null, .int 0], vm := .none },
  { cls := 6, slots := #[.null, .int 7, .int 0, .int 71, .int 0, .int 0, .null, .int 0], vm := .none },
  { cls := 6, slots := #[.null, .int 8, .int 0, .int 72, .int 0, .int 0, .null, .int 0], vm := .none },
  { cls := 6, slots := #[.null, .int 9, .int 0, .int 73, .int 0, .int 0, .null, .int 0], vm := .none },
  { cls := 6, slots := #[.null, .int 10, .int 0, .int 74, .int 0, .int 0, .null, .int 0], vm := .none },
  { cls := 6, slots := #[.null, .int 11, .int 0, .int 75, .int 0, .int 0, .null, .int 0], vm := .none },
  { cls := 6, slots := #[.null, .int 12, .int 0, .int 77, .int 0, .int 0, .null, .int 0], vm := .none },
  { cls := 6, slots := #[.null, .int 13, .int 0, .int 78, .int 0, .int 0, .null, .int 0], vm := .none },
  { cls := 6, slots := #[.null, .int 14, .int 0, .int 79, .int 0, .int 0, .null, .int 0], vm := .none },
  { cls := 6, slots := #[.null, .int 15, .int 0, .int 80, .int 0, .int 0, .null, .int 0], vm := .none },
  { cls := 6, slots := #[.null, .int 16, .int 0, .int 81, .int 0, .int 0, .null, .int 0], vm := .none },
  { cls := 6, slots := #[.null, .int 17, .int 0, .int 82, .int 0, .int 0, .null, .int 0], vm := .none },
  { cls := 6, slots := #[.null, .int 18, .int 0, .int 83, .int 0, .int 0, .null, .int 0], vm := .none },
  { cls := 6, slots := #[.null, .int 19, .int 0, .int 84, .int 0, .int 0, .null, .int 0], vm := .none },
  { cls := 6, slots := #[.null, .int 20, .int 0, .int 85, .int 0, .int 0, .null, .int 0], vm := .none },
  { cls := 6, slots := #[.null, .int 21, .int 0, .int 86, .int 0, .int 0, .null, .int 0], vm := .none },
  { cls := 6, slots := #[.null, .int 22, .int 0, .int 87, .int 0, .int 0, .null, .int 0], vm := .none }]
def classes : Array Class := #[k0, k1, k2, k3, k4, k5, k6, k7, k8, k9, k10, k11, k12]
def interned : List (Array UInt16 × Addr) := []
def slotsUsed : Nat := 238
def theMethod : MethodId := ⟨1, 1⟩
def args0 : Array Value := #[.long 65, .int 0]
def aboutOver (below : List Frame) : State where
  vm := { classes := classes, interned := interned.toArray }
  heap := heap
  slotsUsed := slotsUsed
  threads := #[{ frames := .invoking theMethod args0 :: below }]
def below0 : List Frame := [.native { method := ⟨0, 0⟩, args := #[] }]
def about1 : State := aboutOver below0
def p0 : Program := .bare "" "" ""
def e0 : Env := launch0.env 0 0 0
theorem w_frames : about1.frames = Frame.invoking theMethod args0 :: below0 := rfl
set_option maxRecDepth 65536 in
theorem w_args : argsFit about1.vm theMethod args0 = true := by decide +kernel
set_option maxRecDepth 65536 in
theorem w_heap : heapFits about1 = true := by decide +kernel
set_option maxRecDepth 65536 in
theorem w_runnable : about1.curStatus? = some .runnable := by decide +kernel
set_option maxRecDepth 65536 in
theorem w_alone : about1.alone = true := by decide +kernel
set_option maxRecDepth 65536 in
theorem w_named : about1.methodNamed? x = some theMethod := by decide +kernel
set_option maxRecDepth 65536 in
theorem w_hears : about1.hears theMethod below0 = true := by decide +kernel
set_option maxRecDepth 65536 in
theorem w_ripe : about1.ripe theMethod args0 below0 = true := by decide +kernel
theorem w_running : about1.status = .running := rfl
set_option maxRecDepth 65536 in
theorem w_room : about1.hasRoom e0.platform room_1 = true :=
  launch0.hasRoom_least _ room_1 (by decide +kernel) (by decide +kernel) (by decide +kernel) (by decide +kernel) (by decide +kernel) (by decide +kernel)
theorem allAtoms_all (ts : List Jvm.Cond) (a : Array Jvm.Value) (st : Jvm.State) : (allAtoms ts).before a st = ts.all (fun c => c.before a st) := by
  induction ts with
  | nil => rfl
  | cons c t ih =>
    show (Jvm.Cond.and c (allAtoms t)).before a st = _
    rw [Jvm.Cond.before_and, ih, List.all_cons]
def words1 : List Jvm.Cond := Jvm.Cond.code x code maxLocals ret :: tables_1
/-- a 'code' word, met by the world's own term for the bytes: nothing is compared byte by byte -/
theorem code_word {y : MethodName} {bytes : ByteArray} {mx : Nat} {rt : Option FieldType} {a : Array Value} {s : State} {m : MethodId} {meth : Method} {c : Code} (h1 : s.methodNamed? y = some m) (h2 : s.vm.method? m = some meth) (h3 : meth.code = some c) (h4 : c.code = bytes)
    (h5 : (c.maxLocals == mx && c.exceptionTable.isEmpty && decide (c.maxStack ≤ mostOperands) && decide (meth.sig.returnType = rt) && !meth.locks && decide (parseMethodDescriptor y.desc = some meth.sig)) = true) : (Jvm.Cond.code y bytes mx rt).before a s = true := by
  simp only [Bool.and_eq_true, beq_iff_eq, Bool.not_eq_true', decide_eq_true_eq] at h5
  obtain ⟨⟨⟨⟨⟨g1, g2⟩, g3⟩, g4⟩, g5⟩, g6⟩ := h5
  simp [Cond.before, Cond.holds, Cond.value, h1, h2, h3, h4, g1, g2, g3, g4, g5, g6]
def isCode : Jvm.Cond → Bool
  | .code _ _ _ _ => true
  | _ => false
theorem all_split {L : List Jvm.Cond} {P : Jvm.Cond → Bool} (h1 : L.all (fun c => isCode c || P c) = true) (h2 : ∀ c ∈ L.filter isCode, P c = true) : L.all P = true := by
  refine List.all_eq_true.mpr fun c hc => ?_
  have h := List.all_eq_true.mp h1 c hc
  rcases Bool.eq_false_or_eq_true (isCode c) with hi | hi
  · exact h2 c (List.mem_filter.mpr ⟨hc, hi⟩)
  · simpa [hi] using h
set_option maxRecDepth 65536 in
theorem w_c0 : (Jvm.Cond.code x code maxLocals ret).before args0 about1 = true := code_word (m := ⟨1, 1⟩) (meth := k1m1) (c := k1c1) (by decide +kernel) rfl rfl rfl (by decide +kernel)
set_option maxRecDepth 65536 in
theorem w_c1 : (Jvm.Cond.code ({ cls := "com/example/tagwright/tagwright/ElementType", name := "ofTag", desc := "(J)Lcom/example/tagwright/tagwright/ElementType;" } : Jvm.MethodName) prog_25_method_9_code (2 : Nat) (Option.some (Jvm.ClassFile.FieldType.object "com/example/tagwright/tagwright/ElementType"))).before args0 about1 = true := code_word (m := ⟨6, 1⟩) (meth := k6m1) (c := k6c1) (by decide +kernel) rfl rfl rfl (by decide +kernel)
set_option maxRecDepth 65536 in
theorem w_c2 : (Jvm.Cond.code ({ cls := "com/example/tagwright/tagwright/ElementType", name := "tagNumber", desc := "()J" } : Jvm.MethodName) prog_25_method_4_code (1 : Nat) (Option.some Jvm.ClassFile.FieldType.long)).before args0 about1 = true := code_word (m := ⟨6, 0⟩) (meth := k6m0) (c := k6c0) (by decide +kernel) rfl rfl rfl (by decide +kernel)
def codes1 : List Jvm.Cond := [Jvm.Cond.code x code maxLocals ret, Jvm.Cond.code ({ cls := "com/example/tagwright/tagwright/ElementType", name := "ofTag", desc := "(J)Lcom/example/tagwright/tagwright/ElementType;" } : Jvm.MethodName) prog_25_method_9_code (2 : Nat) (Option.some (Jvm.ClassFile.FieldType.object "com/example/tagwright/tagwright/ElementType")), Jvm.Cond.code ({ cls := "com/example/tagwright/tagwright/ElementType", name := "tagNumber", desc := "()J" } : Jvm.MethodName) prog_25_method_4_code (1 : Nat) (Option.some Jvm.ClassFile.FieldType.long)]
set_option maxRecDepth 65536 in
theorem codes_eq : words1.filter isCode = codes1 := rfl
theorem w_codes : ∀ c ∈ words1.filter isCode, c.before args0 about1 = true := by
  rw [codes_eq]
  intro c hc
  simp only [codes1, List.mem_cons, List.not_mem_nil, or_false] at hc
  rcases hc with rfl | rfl | rfl
  · exact w_c0
  · exact w_c1
  · exact w_c2
set_option maxRecDepth 65536 in
theorem w_t1 : (words1.take 24).all (fun c => isCode c || c.before args0 about1) = true := by decide +kernel
set_option maxRecDepth 65536 in
theorem w_t2 : (words1.drop 24).all (fun c => isCode c || c.before args0 about1) = true := by decide +kernel
theorem w_tables : (allAtoms (Jvm.Cond.code x code maxLocals ret :: tables_1)).before args0 about1 = true := by
  rw [allAtoms_all]
  show words1.all (fun c => c.before args0 about1) = true
  refine all_split ?_ w_codes
  rw [← List.take_append_drop 24 words1, List.all_append, w_t1, w_t2]
  rfl
set_option maxRecDepth 65536 in
theorem w_case : (Jvm.Cond.and given_1 narrow_1).before args0 about1 = true := by decide +kernel
theorem w_applies : (headSpec (Jvm.Cond.code x code maxLocals ret :: tables_1) room_1).applies x e0.platform about1 = true :=
  (Spec.applies_iff w_frames).mpr ⟨w_running, w_runnable, w_alone, w_named, w_hears, w_ripe, w_room, w_tables⟩
theorem atStart : AtStart classFile x code maxLocals ret World_1 tables_1 room_1 Calls_1 rest_1 Pre_1 launch0 p0 e0 about1 theMethod args0 below0 :=
  ⟨lists_1, trivial, launch0.admits_env _ _ _, launch0.least_env, fairChoices_fair.cas, fairChoices_fair.clock, w_frames, w_args, w_heap, w_applies, trivial, trivial, w_case⟩
end start1
theorem witness_1 : WitnessClaimed_1 := ⟨start1.p0, start1.e0, start1.about1, start1.theMethod, start1.args0, start1.below0, start1.atStart⟩
end Jvm.Pilot.@@N@@
