import JvmDerived
import JvmDerived.Pilot.@@N@@Statement
import JvmDerived.Pilot.@@N@@Code
set_option linter.unusedVariables false
set_option linter.unusedSimpArgs false
namespace Jvm.Pilot.@@N@@
open Jvm Jvm.ClassFile Sem Op Lib Jvm.Free Jvm.Stand Jvm.LawKit Jvm.RoadKit Bundle Jvm.Pilot.@@N@@.Jvm.D
section OwnKit
variable {p : Program} {l : Launch} {e : Env} {R : Room} {s : State} {m : MethodId} {args : Array Value} {below : List Frame} {meth : Method} {c : Code} {T : State} {locs : List Loc} {cells slots : Nat} {Z : State} {a0 : Array Value} {h : Heap} {K N : Nat} {Q : Option Value → Heap → List Loc → Prop} {pc nx tg : Nat} {Ls : Array Slot} {st : List Value} {bs : ByteArray} {o : Int}
/-- from the frame g at T the run ends, returning, as Q says -/
def Wp (p : Program) (e : Env) (below : List Frame) (s : State) (K N : Nat) (Q : Option Value → Heap → List Loc → Prop) (T : State) (g : JFrame) : Prop :=
  ∃ s₂ o, Steps p.tables e below (T.setTop g) s₂ ∧ s₂.status = .running ∧ Ended s₂ below o ∧ ∃ v L, o = .returned v ∧ Q v s₂.heap L ∧ FrameEnd s o s₂ L K N
theorem Wp.go {T' : State} {g g' : JFrame} (st : ∀ target, Steps p.tables e below (T'.setTop g') target → Steps p.tables e below (T.setTop g) target) (k : Wp p e below s K N Q T' g') : Wp p e below s K N Q T g := by
  obtain ⟨s₂, o, h1, h2⟩ := k; exact ⟨s₂, o, st _ h1, h2⟩
theorem Wp.tr {T' : State} {g g' : JFrame} (st : Steps p.tables e below (T.setTop g) (T'.setTop g')) (k : Wp p e below s K N Q T' g') : Wp p e below s K N Q T g := by
  obtain ⟨s₂, o, h1, h2⟩ := k; exact ⟨s₂, o, st.trans h1, h2⟩
/-- the instruction i, len bytes long, stands at pc; the next one at nx -/
def In (bs : ByteArray) (pc : Nat) (i : Instr) (len nx : Nat) : Prop := decode bs pc = .ok (i, len) ∧ pc + len = nx
/-- a jump by o: the next one at nx, the target at tg -/
def Jm (bs : ByteArray) (pc : Nat) (i : Instr) (o : Int) (nx tg : Nat) : Prop := decode bs pc = .ok (i, 3) ∧ pc + 3 = nx ∧ 0 ≤ (pc : Int) + o ∧ ((pc : Int) + o).toNat = tg

theorem w_iadd (X : Stand p l e R s m args below meth c T locs cells slots) (hx : p.tables.exec = Jvm.exec) (hby : c.code = bs) {x y : Int32} (hd : In bs pc (.iadd) 1 nx) (k : Wp p e below s K N Q T (mkF m nx Ls (.int (x + y) :: st))) : Wp p e below s K N Q T (mkF m pc Ls (.int y :: .int x :: st)) := by
  obtain ⟨d, rfl⟩ := hd; exact Wp.go (fun t kk => XS.iadd X.here hx rfl (hb hby d) rfl kk) k
theorem w_isub (X : Stand p l e R s m args below meth c T locs cells slots) (hx : p.tables.exec = Jvm.exec) (hby : c.code = bs) {x y : Int32} (hd : In bs pc (.isub) 1 nx) (k : Wp p e below s K N Q T (mkF m nx Ls (.int (x - y) :: st))) : Wp p e below s K N Q T (mkF m pc Ls (.int y :: .int x :: st)) := by
  obtain ⟨d, rfl⟩ := hd; exact Wp.go (fun t kk => XS.isub X.here hx rfl (hb hby d) rfl kk) k
theorem w_iand (X : Stand p l e R s m args below meth c T locs cells slots) (hx : p.tables.exec = Jvm.exec) (hby : c.code = bs) {x y : Int32} (hd : In bs pc (.iand) 1 nx) (k : Wp p e below s K N Q T (mkF m nx Ls (.int (x &&& y) :: st))) : Wp p e below s K N Q T (mkF m pc Ls (.int y :: .int x :: st)) := by
  obtain ⟨d, rfl⟩ := hd; exact Wp.go (fun t kk => XS.iand X.here hx rfl (hb hby d) rfl kk) k
theorem w_imul (X : Stand p l e R s m args below meth c T locs cells slots) (hx : p.tables.exec = Jvm.exec) (hby : c.code = bs) {x y : Int32} (hd : In bs pc (.imul) 1 nx) (k : Wp p e below s K N Q T (mkF m nx Ls (.int (x * y) :: st))) : Wp p e below s K N Q T (mkF m pc Ls (.int y :: .int x :: st)) := by
  obtain ⟨d, rfl⟩ := hd; exact Wp.go (fun t kk => XS.imul X.here hx rfl (hb hby d) rfl kk) k
theorem w_ior (X : Stand p l e R s m args below meth c T locs cells slots) (hx : p.tables.exec = Jvm.exec) (hby : c.code = bs) {x y : Int32} (hd : In bs pc (.ior) 1 nx) (k : Wp p e below s K N Q T (mkF m nx Ls (.int (x ||| y) :: st))) : Wp p e below s K N Q T (mkF m pc Ls (.int y :: .int x :: st)) := by
  obtain ⟨d, rfl⟩ := hd; exact Wp.go (fun t kk => XS.ior X.here hx rfl (hb hby d) rfl kk) k
theorem w_ixor (X : Stand p l e R s m args below meth c T locs cells slots) (hx : p.tables.exec = Jvm.exec) (hby : c.code = bs) {x y : Int32} (hd : In bs pc (.ixor) 1 nx) (k : Wp p e below s K N Q T (mkF m nx Ls (.int (x ^^^ y) :: st))) : Wp p e below s K N Q T (mkF m pc Ls (.int y :: .int x :: st)) := by
  obtain ⟨d, rfl⟩ := hd; exact Wp.go (fun t kk => XS.ixor X.here hx rfl (hb hby d) rfl kk) k
theorem w_ishl (X : Stand p l e R s m args below meth c T locs cells slots) (hx : p.tables.exec = Jvm.exec) (hby : c.code = bs) {x y : Int32} (hd : In bs pc (.ishl) 1 nx) (k : Wp p e below s K N Q T (mkF m nx Ls (.int (x <<< (y &&& 31)) :: st))) : Wp p e below s K N Q T (mkF m pc Ls (.int y :: .int x :: st)) := by
  obtain ⟨d, rfl⟩ := hd; exact Wp.go (fun t kk => XS.ishl X.here hx rfl (hb hby d) rfl kk) k
theorem w_ishr (X : Stand p l e R s m args below meth c T locs cells slots) (hx : p.tables.exec = Jvm.exec) (hby : c.code = bs) {x y : Int32} (hd : In bs pc (.ishr) 1 nx) (k : Wp p e below s K N Q T (mkF m nx Ls (.int (x >>> (y &&& 31)) :: st))) : Wp p e below s K N Q T (mkF m pc Ls (.int y :: .int x :: st)) := by
  obtain ⟨d, rfl⟩ := hd; exact Wp.go (fun t kk => XS.ishr X.here hx rfl (hb hby d) rfl kk) k
theorem w_iushr (X : Stand p l e R s m args below meth c T locs cells slots) (hx : p.tables.exec = Jvm.exec) (hby : c.code = bs) {x y : Int32} (hd : In bs pc (.iushr) 1 nx) (k : Wp p e below s K N Q T (mkF m nx Ls (.int ((x.toUInt32 >>> (y &&& 31).toUInt32).toInt32) :: st))) : Wp p e below s K N Q T (mkF m pc Ls (.int y :: .int x :: st)) := by
  obtain ⟨d, rfl⟩ := hd; exact Wp.go (fun t kk => XS.iushr X.here hx rfl (hb hby d) rfl kk) k
theorem w_ladd (X : Stand p l e R s m args below meth c T locs cells slots) (hx : p.tables.exec = Jvm.exec) (hby : c.code = bs) {x y : Int64} (hd : In bs pc (.ladd) 1 nx) (k : Wp p e below s K N Q T (mkF m nx Ls (.long (x + y) :: st))) : Wp p e below s K N Q T (mkF m pc Ls (.long y :: .long x :: st)) := by
  obtain ⟨d, rfl⟩ := hd; exact Wp.go (fun t kk => XS.ladd X.here hx rfl (hb hby d) rfl kk) k
theorem w_lsub (X : Stand p l e R s m args below meth c T locs cells slots) (hx : p.tables.exec = Jvm.exec) (hby : c.code = bs) {x y : Int64} (hd : In bs pc (.lsub) 1 nx) (k : Wp p e below s K N Q T (mkF m nx Ls (.long (x - y) :: st))) : Wp p e below s K N Q T (mkF m pc Ls (.long y :: .long x :: st)) := by
  obtain ⟨d, rfl⟩ := hd; exact Wp.go (fun t kk => XS.lsub X.here hx rfl (hb hby d) rfl kk) k
theorem w_land (X : Stand p l e R s m args below meth c T locs cells slots) (hx : p.tables.exec = Jvm.exec) (hby : c.code = bs) {x y : Int64} (hd : In bs pc (.land) 1 nx) (k : Wp p e below s K N Q T (mkF m nx Ls (.long (x &&& y) :: st))) : Wp p e below s K N Q T (mkF m pc Ls (.long y :: .long x :: st)) := by
  obtain ⟨d, rfl⟩ := hd; exact Wp.go (fun t kk => XS.land X.here hx rfl (hb hby d) rfl kk) k
theorem w_lmul (X : Stand p l e R s m args below meth c T locs cells slots) (hx : p.tables.exec = Jvm.exec) (hby : c.code = bs) {x y : Int64} (hd : In bs pc (.lmul) 1 nx) (k : Wp p e below s K N Q T (mkF m nx Ls (.long (x * y) :: st))) : Wp p e below s K N Q T (mkF m pc Ls (.long y :: .long x :: st)) := by
  obtain ⟨d, rfl⟩ := hd; exact Wp.go (fun t kk => XS.lmul X.here hx rfl (hb hby d) rfl kk) k
theorem w_lor (X : Stand p l e R s m args below meth c T locs cells slots) (hx : p.tables.exec = Jvm.exec) (hby : c.code = bs) {x y : Int64} (hd : In bs pc (.lor) 1 nx) (k : Wp p e below s K N Q T (mkF m nx Ls (.long (x ||| y) :: st))) : Wp p e below s K N Q T (mkF m pc Ls (.long y :: .long x :: st)) := by
  obtain ⟨d, rfl⟩ := hd; exact Wp.go (fun t kk => XS.lor X.here hx rfl (hb hby d) rfl kk) k
theorem w_lxor (X : Stand p l e R s m args below meth c T locs cells slots) (hx : p.tables.exec = Jvm.exec) (hby : c.code = bs) {x y : Int64} (hd : In bs pc (.lxor) 1 nx) (k : Wp p e below s K N Q T (mkF m nx Ls (.long (x ^^^ y) :: st))) : Wp p e below s K N Q T (mkF m pc Ls (.long y :: .long x :: st)) := by
  obtain ⟨d, rfl⟩ := hd; exact Wp.go (fun t kk => XS.lxor X.here hx rfl (hb hby d) rfl kk) k
theorem w_lshl (X : Stand p l e R s m args below meth c T locs cells slots) (hx : p.tables.exec = Jvm.exec) (hby : c.code = bs) {x : Int64} {y : Int32} (hd : In bs pc (.lshl) 1 nx) (k : Wp p e below s K N Q T (mkF m nx Ls (.long (x <<< (y &&& 0x3f).toInt64) :: st))) : Wp p e below s K N Q T (mkF m pc Ls (.int y :: .long x :: st)) := by
  obtain ⟨d, rfl⟩ := hd; exact Wp.go (fun t kk => XS.lshl X.here hx rfl (hb hby d) rfl kk) k
theorem w_lshr (X : Stand p l e R s m args below meth c T locs cells slots) (hx : p.tables.exec = Jvm.exec) (hby : c.code = bs) {x : Int64} {y : Int32} (hd : In bs pc (.lshr) 1 nx) (k : Wp p e below s K N Q T (mkF m nx Ls (.long (x >>> (y &&& 0x3f).toInt64) :: st))) : Wp p e below s K N Q T (mkF m pc Ls (.int y :: .long x :: st)) := by
  obtain ⟨d, rfl⟩ := hd; exact Wp.go (fun t kk => XS.lshr X.here hx rfl (hb hby d) rfl kk) k
theorem w_lushr (X : Stand p l e R s m args below meth c T locs cells slots) (hx : p.tables.exec = Jvm.exec) (hby : c.code = bs) {x : Int64} {y : Int32} (hd : In bs pc (.lushr) 1 nx) (k : Wp p e below s K N Q T (mkF m nx Ls (.long ((x.toUInt64 >>> (y &&& 0x3f).toInt64.toUInt64).toInt64) :: st))) : Wp p e below s K N Q T (mkF m pc Ls (.int y :: .long x :: st)) := by
  obtain ⟨d, rfl⟩ := hd; exact Wp.go (fun t kk => XS.lushr X.here hx rfl (hb hby d) rfl kk) k
theorem w_i2b (X : Stand p l e R s m args below meth c T locs cells slots) (hx : p.tables.exec = Jvm.exec) (hby : c.code = bs) {x : Int32} (hd : In bs pc (.i2b) 1 nx) (k : Wp p e below s K N Q T (mkF m nx Ls (.int (x.toInt8.toInt32) :: st))) : Wp p e below s K N Q T (mkF m pc Ls (.int x :: st)) := by
  obtain ⟨d, rfl⟩ := hd; exact Wp.go (fun t kk => XS.i2b X.here hx rfl (hb hby d) rfl kk) k
theorem w_i2c (X : Stand p l e R s m args below meth c T locs cells slots) (hx : p.tables.exec = Jvm.exec) (hby : c.code = bs) {x : Int32} (hd : In bs pc (.i2c) 1 nx) (k : Wp p e below s K N Q T (mkF m nx Ls (.int (x.toUInt32.toUInt16.toUInt32.toInt32) :: st))) : Wp p e below s K N Q T (mkF m pc Ls (.int x :: st)) := by
  obtain ⟨d, rfl⟩ := hd; exact Wp.go (fun t kk => XS.i2c X.here hx rfl (hb hby d) rfl kk) k
theorem w_i2s (X : Stand p l e R s m args below meth c T locs cells slots) (hx : p.tables.exec = Jvm.exec) (hby : c.code = bs) {x : Int32} (hd : In bs pc (.i2s) 1 nx) (k : Wp p e below s K N Q T (mkF m nx Ls (.int (x.toInt16.toInt32) :: st))) : Wp p e below s K N Q T (mkF m pc Ls (.int x :: st)) := by
  obtain ⟨d, rfl⟩ := hd; exact Wp.go (fun t kk => XS.i2s X.here hx rfl (hb hby d) rfl kk) k
theorem w_ineg (X : Stand p l e R s m args below meth c T locs cells slots) (hx : p.tables.exec = Jvm.exec) (hby : c.code = bs) {x : Int32} (hd : In bs pc (.ineg) 1 nx) (k : Wp p e below s K N Q T (mkF m nx Ls (.int (-x) :: st))) : Wp p e below s K N Q T (mkF m pc Ls (.int x :: st)) := by
  obtain ⟨d, rfl⟩ := hd; exact Wp.go (fun t kk => XS.ineg X.here hx rfl (hb hby d) rfl kk) k
theorem w_i2l (X : Stand p l e R s m args below meth c T locs cells slots) (hx : p.tables.exec = Jvm.exec) (hby : c.code = bs) {x : Int32} (hd : In bs pc (.i2l) 1 nx) (k : Wp p e below s K N Q T (mkF m nx Ls (.long x.toInt64 :: st))) : Wp p e below s K N Q T (mkF m pc Ls (.int x :: st)) := by
  obtain ⟨d, rfl⟩ := hd; exact Wp.go (fun t kk => XS.i2l X.here hx rfl (hb hby d) rfl kk) k
theorem w_l2i (X : Stand p l e R s m args below meth c T locs cells slots) (hx : p.tables.exec = Jvm.exec) (hby : c.code = bs) {x : Int64} (hd : In bs pc (.l2i) 1 nx) (k : Wp p e below s K N Q T (mkF m nx Ls (.int x.toInt32 :: st))) : Wp p e below s K N Q T (mkF m pc Ls (.long x :: st)) := by
  obtain ⟨d, rfl⟩ := hd; exact Wp.go (fun t kk => XS.l2i X.here hx rfl (hb hby d) rfl kk) k
theorem w_lneg (X : Stand p l e R s m args below meth c T locs cells slots) (hx : p.tables.exec = Jvm.exec) (hby : c.code = bs) {x : Int64} (hd : In bs pc (.lneg) 1 nx) (k : Wp p e below s K N Q T (mkF m nx Ls (.long (-x) :: st))) : Wp p e below s K N Q T (mkF m pc Ls (.long x :: st)) := by
  obtain ⟨d, rfl⟩ := hd; exact Wp.go (fun t kk => XS.lneg X.here hx rfl (hb hby d) rfl kk) k
theorem w_idiv (X : Stand p l e R s m args below meth c T locs cells slots) (hx : p.tables.exec = Jvm.exec) (hby : c.code = bs) {x y : Int32} (hd : In bs pc (.idiv) 1 nx) (hy : y ≠ 0) (k : Wp p e below s K N Q T (mkF m nx Ls (.int (x / y) :: st))) : Wp p e below s K N Q T (mkF m pc Ls (.int y :: .int x :: st)) := by
  obtain ⟨d, rfl⟩ := hd; exact Wp.go (fun t kk => XS.idiv X.here hx rfl (hb hby d) rfl hy kk) k
theorem w_irem (X : Stand p l e R s m args below meth c T locs cells slots) (hx : p.tables.exec = Jvm.exec) (hby : c.code = bs) {x y : Int32} (hd : In bs pc .irem 1 nx) (hy : y ≠ 0) (k : Wp p e below s K N Q T (mkF m nx Ls (.int (x % y) :: st))) : Wp p e below s K N Q T (mkF m pc Ls (.int y :: .int x :: st)) := by
  obtain ⟨d, rfl⟩ := hd; exact Wp.go (fun t kk => iremM X hx rfl (hb hby d) rfl hy kk) k
theorem w_ldiv (X : Stand p l e R s m args below meth c T locs cells slots) (hx : p.tables.exec = Jvm.exec) (hby : c.code = bs) {x y : Int64} (hd : In bs pc (.ldiv) 1 nx) (hy : y ≠ 0) (k : Wp p e below s K N Q T (mkF m nx Ls (.long (x / y) :: st))) : Wp p e below s K N Q T (mkF m pc Ls (.long y :: .long x :: st)) := by
  obtain ⟨d, rfl⟩ := hd; exact Wp.go (fun t kk => XS.ldiv X.here hx rfl (hb hby d) rfl hy kk) k
theorem w_lrem (X : Stand p l e R s m args below meth c T locs cells slots) (hx : p.tables.exec = Jvm.exec) (hby : c.code = bs) {x y : Int64} (hd : In bs pc .lrem 1 nx) (hy : y ≠ 0) (k : Wp p e below s K N Q T (mkF m nx Ls (.long (x % y) :: st))) : Wp p e below s K N Q T (mkF m pc Ls (.long y :: .long x :: st)) := by
  obtain ⟨d, rfl⟩ := hd; refine Wp.go (fun t kk => XS.lrem X.here hx rfl (hb hby d) rfl hy kk) ?_; rw [lrem_mod]; exact k
theorem w_aconst_null (X : Stand p l e R s m args below meth c T locs cells slots) (hx : p.tables.exec = Jvm.exec) (hby : c.code = bs)  (hd : In bs pc (.aconst_null) 1 nx) (k : Wp p e below s K N Q T (mkF m nx Ls (.null :: st))) : Wp p e below s K N Q T (mkF m pc Ls (st)) := by
  obtain ⟨d, rfl⟩ := hd; exact Wp.go (fun t kk => XS.aconstNull X.here hx rfl (hb hby d) kk) k
theorem w_dup (X : Stand p l e R s m args below meth c T locs cells slots) (hx : p.tables.exec = Jvm.exec) (hby : c.code = bs) {x : Value} (hd : In bs pc (.dup) 1 nx) (hc : x.category = 1) (k : Wp p e below s K N Q T (mkF m nx Ls (x :: x :: st))) : Wp p e below s K N Q T (mkF m pc Ls (x :: st)) := by
  obtain ⟨d, rfl⟩ := hd; exact Wp.go (fun t kk => XS.dup X.here hx rfl (hb hby d) rfl hc kk) k
theorem w_dup_x1 (X : Stand p l e R s m args below meth c T locs cells slots) (hx : p.tables.exec = Jvm.exec) (hby : c.code = bs) {x y : Value} (hd : In bs pc (.dup_x1) 1 nx) (hc : x.category = 1) (hc2 : y.category = 1) (k : Wp p e below s K N Q T (mkF m nx Ls (x :: y :: x :: st))) : Wp p e below s K N Q T (mkF m pc Ls (x :: y :: st)) := by
  obtain ⟨d, rfl⟩ := hd; exact Wp.go (fun t kk => XS.dupX1 X.here hx rfl (hb hby d) rfl hc hc2 kk) k
theorem w_dup2 (X : Stand p l e R s m args below meth c T locs cells slots) (hx : p.tables.exec = Jvm.exec) (hby : c.code = bs) {x y : Value} (hd : In bs pc (.dup2) 1 nx) (hc : x.category = 1) (hc2 : y.category = 1) (k : Wp p e below s K N Q T (mkF m nx Ls (x :: y :: x :: y :: st))) : Wp p e below s K N Q T (mkF m pc Ls (x :: y :: st)) := by
  obtain ⟨d, rfl⟩ := hd; exact Wp.go (fun t kk => XT.dup2 X.here hx rfl (hb hby d) rfl hc hc2 kk) k
theorem w_dup2L (X : Stand p l e R s m args below meth c T locs cells slots) (hx : p.tables.exec = Jvm.exec) (hby : c.code = bs) {x : Int64} (hd : In bs pc (.dup2) 1 nx) (k : Wp p e below s K N Q T (mkF m nx Ls (.long x :: .long x :: st))) : Wp p e below s K N Q T (mkF m pc Ls (.long x :: st)) := by
  obtain ⟨d, rfl⟩ := hd; exact Wp.go (fun t kk => XT.dup2L X.here hx rfl (hb hby d) rfl kk) k
theorem w_pop (X : Stand p l e R s m args below meth c T locs cells slots) (hx : p.tables.exec = Jvm.exec) (hby : c.code = bs) {x : Value} (hd : In bs pc (.pop) 1 nx) (hc : x.category = 1) (k : Wp p e below s K N Q T (mkF m nx Ls (st))) : Wp p e below s K N Q T (mkF m pc Ls (x :: st)) := by
  obtain ⟨d, rfl⟩ := hd; exact Wp.go (fun t kk => XS.pop X.here hx rfl (hb hby d) rfl hc kk) k
theorem w_iconst (X : Stand p l e R s m args below meth c T locs cells slots) (hx : p.tables.exec = Jvm.exec) (hby : c.code = bs) {i : Int} (v : Int32) (hd : In bs pc (.iconst i) 1 nx) (hv : Int32.ofInt i = v) (k : Wp p e below s K N Q T (mkF m nx Ls (.int v :: st))) : Wp p e below s K N Q T (mkF m pc Ls (st)) := by
  obtain ⟨d, rfl⟩ := hd; exact Wp.go (fun t kk => XT.iconstV X.here hx rfl v (hb hby d) hv kk) k
theorem w_bipush (X : Stand p l e R s m args below meth c T locs cells slots) (hx : p.tables.exec = Jvm.exec) (hby : c.code = bs) {i : Int} (v : Int32) (hd : In bs pc (.bipush i) 2 nx) (hv : (Int8.ofInt i).toInt32 = v) (k : Wp p e below s K N Q T (mkF m nx Ls (.int v :: st))) : Wp p e below s K N Q T (mkF m pc Ls (st)) := by
  obtain ⟨d, rfl⟩ := hd; exact Wp.go (fun t kk => XT.bipushV X.here hx rfl v (hb hby d) hv kk) k
theorem w_sipush (X : Stand p l e R s m args below meth c T locs cells slots) (hx : p.tables.exec = Jvm.exec) (hby : c.code = bs) {i : Int} (v : Int32) (hd : In bs pc (.sipush i) 3 nx) (hv : (Int16.ofInt i).toInt32 = v) (k : Wp p e below s K N Q T (mkF m nx Ls (.int v :: st))) : Wp p e below s K N Q T (mkF m pc Ls (st)) := by
  obtain ⟨d, rfl⟩ := hd; exact Wp.go (fun t kk => XT.sipushV X.here hx rfl v (hb hby d) hv kk) k
theorem w_lconst (X : Stand p l e R s m args below meth c T locs cells slots) (hx : p.tables.exec = Jvm.exec) (hby : c.code = bs) {i : Fin 2} (v : Int64) (hd : In bs pc (.lconst i) 1 nx) (hv : Int64.ofNat i = v) (k : Wp p e below s K N Q T (mkF m nx Ls (.long v :: st))) : Wp p e below s K N Q T (mkF m pc Ls (st)) := by
  obtain ⟨d, rfl⟩ := hd; exact Wp.go (fun t kk => XT.lconstV X.here hx rfl v (hb hby d) hv kk) k
theorem w_iloadN (X : Stand p l e R s m args below meth c T locs cells slots) (hx : p.tables.exec = Jvm.exec) (hby : c.code = bs) {i : Fin 4} {v : Int32} (hd : In bs pc (.iload_n i) 1 nx) (hl : Ls[i.val]? = some (.val (.int v))) (k : Wp p e below s K N Q T (mkF m nx Ls (.int v :: st))) : Wp p e below s K N Q T (mkF m pc Ls (st)) := by
  obtain ⟨d, rfl⟩ := hd; exact Wp.go (fun t kk => XS.iloadN X.here hx rfl (hb hby d) hl kk) k
theorem w_lloadN (X : Stand p l e R s m args below meth c T locs cells slots) (hx : p.tables.exec = Jvm.exec) (hby : c.code = bs) {i : Fin 4} {v : Int64} (hd : In bs pc (.lload_n i) 1 nx) (hl : Ls[i.val]? = some (.val (.long v))) (k : Wp p e below s K N Q T (mkF m nx Ls (.long v :: st))) : Wp p e below s K N Q T (mkF m pc Ls (st)) := by
  obtain ⟨d, rfl⟩ := hd; exact Wp.go (fun t kk => XS.lloadN X.here hx rfl (hb hby d) hl kk) k
theorem w_aloadN (X : Stand p l e R s m args below meth c T locs cells slots) (hx : p.tables.exec = Jvm.exec) (hby : c.code = bs) {i : Fin 4} {v : Value} (hd : In bs pc (.aload_n i) 1 nx) (hl : Ls[i.val]? = some (.val v)) (hv : v.isRef = true) (k : Wp p e below s K N Q T (mkF m nx Ls (v :: st))) : Wp p e below s K N Q T (mkF m pc Ls (st)) := by
  obtain ⟨d, rfl⟩ := hd; exact Wp.go (fun t kk => XS.aloadN X.here hx rfl (hb hby d) hl hv kk) k
theorem w_istoreN (X : Stand p l e R s m args below meth c T locs cells slots) (hx : p.tables.exec = Jvm.exec) (hby : c.code = bs) {i : Fin 4} {v : Int32} (l' : Array Slot) (hd : In bs pc (.istore_n i) 1 nx) (hl : storeLocals Ls i.val (.int v) = some l') (k : Wp p e below s K N Q T (mkF m nx l' (st))) : Wp p e below s K N Q T (mkF m pc Ls (.int v :: st)) := by
  obtain ⟨d, rfl⟩ := hd; exact Wp.go (fun t kk => XS.istoreN X.here hx rfl (hb hby d) rfl hl kk) k
theorem w_lstoreN (X : Stand p l e R s m args below meth c T locs cells slots) (hx : p.tables.exec = Jvm.exec) (hby : c.code = bs) {i : Fin 4} {v : Int64} (l' : Array Slot) (hd : In bs pc (.lstore_n i) 1 nx) (hl : storeLocals Ls i.val (.long v) = some l') (k : Wp p e below s K N Q T (mkF m nx l' (st))) : Wp p e below s K N Q T (mkF m pc Ls (.long v :: st)) := by
  obtain ⟨d, rfl⟩ := hd; exact Wp.go (fun t kk => XS.lstoreN X.here hx rfl (hb hby d) rfl hl kk) k
theorem w_astoreN (X : Stand p l e R s m args below meth c T locs cells slots) (hx : p.tables.exec = Jvm.exec) (hby : c.code = bs) {i : Fin 4} {v : Value} (l' : Array Slot) (hd : In bs pc (.astore_n i) 1 nx) (hv : v.isRef = true) (hl : storeLocals Ls i.val v = some l') (k : Wp p e below s K N Q T (mkF m nx l' (st))) : Wp p e below s K N Q T (mkF m pc Ls (v :: st)) := by
  obtain ⟨d, rfl⟩ := hd; exact Wp.go (fun t kk => XS.astoreN X.here hx rfl (hb hby d) rfl hv hl kk) k
theorem w_iload (X : Stand p l e R s m args below meth c T locs cells slots) (hx : p.tables.exec = Jvm.exec) (hby : c.code = bs) {i : Nat} {v : Int32} (hd : In bs pc (.iload i) 2 nx) (hl : Ls[i]? = some (.val (.int v))) (k : Wp p e below s K N Q T (mkF m nx Ls (.int v :: st))) : Wp p e below s K N Q T (mkF m pc Ls (st)) := by
  obtain ⟨d, rfl⟩ := hd; exact Wp.go (fun t kk => XS.iload X.here hx rfl (hb hby d) hl kk) k
theorem w_lload (X : Stand p l e R s m args below meth c T locs cells slots) (hx : p.tables.exec = Jvm.exec) (hby : c.code = bs) {i : Nat} {v : Int64} (hd : In bs pc (.lload i) 2 nx) (hl : Ls[i]? = some (.val (.long v))) (k : Wp p e below s K N Q T (mkF m nx Ls (.long v :: st))) : Wp p e below s K N Q T (mkF m pc Ls (st)) := by
  obtain ⟨d, rfl⟩ := hd; exact Wp.go (fun t kk => XS.lload X.here hx rfl (hb hby d) hl kk) k
theorem w_aload (X : Stand p l e R s m args below meth c T locs cells slots) (hx : p.tables.exec = Jvm.exec) (hby : c.code = bs) {i : Nat} {v : Value} (hd : In bs pc (.aload i) 2 nx) (hl : Ls[i]? = some (.val v)) (hv : v.isRef = true) (k : Wp p e below s K N Q T (mkF m nx Ls (v :: st))) : Wp p e below s K N Q T (mkF m pc Ls (st)) := by
  obtain ⟨d, rfl⟩ := hd; exact Wp.go (fun t kk => XS.aload X.here hx rfl (hb hby d) hl hv kk) k
theorem w_istore (X : Stand p l e R s m args below meth c T locs cells slots) (hx : p.tables.exec = Jvm.exec) (hby : c.code = bs) {i : Nat} {v : Int32} (l' : Array Slot) (hd : In bs pc (.istore i) 2 nx) (hl : storeLocals Ls i (.int v) = some l') (k : Wp p e below s K N Q T (mkF m nx l' (st))) : Wp p e below s K N Q T (mkF m pc Ls (.int v :: st)) := by
  obtain ⟨d, rfl⟩ := hd; exact Wp.go (fun t kk => XS.istore X.here hx rfl (hb hby d) rfl hl kk) k
theorem w_lstore (X : Stand p l e R s m args below meth c T locs cells slots) (hx : p.tables.exec = Jvm.exec) (hby : c.code = bs) {i : Nat} {v : Int64} (l' : Array Slot) (hd : In bs pc (.lstore i) 2 nx) (hl : storeLocals Ls i (.long v) = some l') (k : Wp p e below s K N Q T (mkF m nx l' (st))) : Wp p e below s K N Q T (mkF m pc Ls (.long v :: st)) := by
  obtain ⟨d, rfl⟩ := hd; exact Wp.go (fun t kk => XS.lstore X.here hx rfl (hb hby d) rfl hl kk) k
theorem w_astore (X : Stand p l e R s m args below meth c T locs cells slots) (hx : p.tables.exec = Jvm.exec) (hby : c.code = bs) {i : Nat} {v : Value} (l' : Array Slot) (hd : In bs pc (.astore i) 2 nx) (hv : v.isRef = true) (hl : storeLocals Ls i v = some l') (k : Wp p e below s K N Q T (mkF m nx l' (st))) : Wp p e below s K N Q T (mkF m pc Ls (v :: st)) := by
  obtain ⟨d, rfl⟩ := hd; exact Wp.go (fun t kk => XS.astore X.here hx rfl (hb hby d) rfl hv hl kk) k
theorem w_iinc (X : Stand p l e R s m args below meth c T locs cells slots) (hx : p.tables.exec = Jvm.exec) (hby : c.code = bs) {i : Nat} {cst : Int} {x : Int32} (v : Int32) (l' : Array Slot) (hd : In bs pc (.iinc i cst) 3 nx) (hv : Int32.ofInt cst = v) (hl : Ls[i]? = some (.val (.int x))) (hl' : storeLocals Ls i (.int (x + v)) = some l') (k : Wp p e below s K N Q T (mkF m nx l' st)) : Wp p e below s K N Q T (mkF m pc Ls st) := by
  obtain ⟨d, rfl⟩ := hd; exact Wp.go (fun t kk => XT.iincV X.here hx rfl v (hb hby d) hv hl hl' kk) k
theorem w_goto (X : Stand p l e R s m args below meth c T locs cells slots) (hx : p.tables.exec = Jvm.exec) (hby : c.code = bs) (hd : Jm bs pc (.goto o) o nx tg) (k : Wp p e below s K N Q T (mkF m tg Ls st)) : Wp p e below s K N Q T (mkF m pc Ls st) := by
  obtain ⟨d, -, q1, q2⟩ := hd; exact Wp.go (fun t kk => XS.goto X.here hx rfl rfl (hb hby d) q1 q2 kk) k
theorem f_icmp_eq (X : Stand p l e R s m args below meth c T locs cells slots) (hx : p.tables.exec = Jvm.exec) (hby : c.code = bs) {x y : Int32} (hd : Jm bs pc (.if_icmp .eq o) o nx tg) (kt : x = y → Wp p e below s K N Q T (mkF m tg Ls st)) (kf : ¬ x = y → Wp p e below s K N Q T (mkF m nx Ls st)) : Wp p e below s K N Q T (mkF m pc Ls (.int y :: .int x :: st)) := by
  obtain ⟨d, rfl, q1, q2⟩ := hd
  by_cases q : x = y
  · exact Wp.go (fun t kk => XS.icmpYes X.here hx rfl rfl (hb hby d) rfl (XT.ii_eq_t q) q1 q2 kk) (kt q)
  · exact Wp.go (fun t kk => XS.icmpNo X.here hx rfl (hb hby d) rfl (XT.ii_eq_f q) kk) (kf q)
theorem f_if_eq (X : Stand p l e R s m args below meth c T locs cells slots) (hx : p.tables.exec = Jvm.exec) (hby : c.code = bs) {x : Int32} (hd : Jm bs pc (.ifCond .eq o) o nx tg) (kt : x = 0 → Wp p e below s K N Q T (mkF m tg Ls st)) (kf : ¬ x = 0 → Wp p e below s K N Q T (mkF m nx Ls st)) : Wp p e below s K N Q T (mkF m pc Ls (.int x :: st)) := by
  obtain ⟨d, rfl, q1, q2⟩ := hd
  by_cases q : x = 0
  · exact Wp.go (fun t kk => XS.ifYes X.here hx rfl rfl (hb hby d) rfl (XT.i0_eq_t q) q1 q2 kk) (kt q)
  · exact Wp.go (fun t kk => XS.ifNo X.here hx rfl (hb hby d) rfl (XT.i0_eq_f q) kk) (kf q)
theorem f_lcmp_eq (X : Stand p l e R s m args below meth c T locs cells slots) (hx : p.tables.exec = Jvm.exec) (hby : c.code = bs) {x y : Int64} {n1 : Nat} (hc : In bs pc .lcmp 1 n1) (hd : Jm bs n1 (.ifCond .eq o) o nx tg) (kt : x = y → Wp p e below s K N Q T (mkF m tg Ls st)) (kf : ¬ x = y → Wp p e below s K N Q T (mkF m nx Ls st)) : Wp p e below s K N Q T (mkF m pc Ls (.long y :: .long x :: st)) := by
  obtain ⟨d1, rfl⟩ := hc; obtain ⟨d, rfl, q1, q2⟩ := hd
  refine Wp.go (fun t kk => XT.lcmp X.here hx rfl (hb hby d1) rfl kk) ?_
  by_cases q : x = y
  · exact Wp.go (fun t kk => XS.ifYes X.here hx rfl rfl (hb hby d) rfl (XT.ll_eq_t q) q1 q2 kk) (kt q)
  · exact Wp.go (fun t kk => XS.ifNo X.here hx rfl (hb hby d) rfl (XT.ll_eq_f q) kk) (kf q)
theorem f_icmp_ne (X : Stand p l e R s m args below meth c T locs cells slots) (hx : p.tables.exec = Jvm.exec) (hby : c.code = bs) {x y : Int32} (hd : Jm bs pc (.if_icmp .ne o) o nx tg) (kt : ¬ x = y → Wp p e below s K N Q T (mkF m tg Ls st)) (kf : x = y → Wp p e below s K N Q T (mkF m nx Ls st)) : Wp p e below s K N Q T (mkF m pc Ls (.int y :: .int x :: st)) := by
  obtain ⟨d, rfl, q1, q2⟩ := hd
  by_cases q : x = y
  · exact Wp.go (fun t kk => XS.icmpNo X.here hx rfl (hb hby d) rfl (XT.ii_ne_f q) kk) (kf q)
  · exact Wp.go (fun t kk => XS.icmpYes X.here hx rfl rfl (hb hby d) rfl (XT.ii_ne_t q) q1 q2 kk) (kt q)
theorem f_if_ne (X : Stand p l e R s m args below meth c T locs cells slots) (hx : p.tables.exec = Jvm.exec) (hby : c.code = bs) {x : Int32} (hd : Jm bs pc (.ifCond .ne o) o nx tg) (kt : ¬ x = 0 → Wp p e below s K N Q T (mkF m tg Ls st)) (kf : x = 0 → Wp p e below s K N Q T (mkF m nx Ls st)) : Wp p e below s K N Q T (mkF m pc Ls (.int x :: st)) := by
  obtain ⟨d, rfl, q1, q2⟩ := hd
  by_cases q : x = 0
  · exact Wp.go (fun t kk => XS.ifNo X.here hx rfl (hb hby d) rfl (XT.i0_ne_f q) kk) (kf q)
  · exact Wp.go (fun t kk => XS.ifYes X.here hx rfl rfl (hb hby d) rfl (XT.i0_ne_t q) q1 q2 kk) (kt q)
theorem f_lcmp_ne (X : Stand p l e R s m args below meth c T locs cells slots) (hx : p.tables.exec = Jvm.exec) (hby : c.code = bs) {x y : Int64} {n1 : Nat} (hc : In bs pc .lcmp 1 n1) (hd : Jm bs n1 (.ifCond .ne o) o nx tg) (kt : ¬ x = y → Wp p e below s K N Q T (mkF m tg Ls st)) (kf : x = y → Wp p e below s K N Q T (mkF m nx Ls st)) : Wp p e below s K N Q T (mkF m pc Ls (.long y :: .long x :: st)) := by
  obtain ⟨d1, rfl⟩ := hc; obtain ⟨d, rfl, q1, q2⟩ := hd
  refine Wp.go (fun t kk => XT.lcmp X.here hx rfl (hb hby d1) rfl kk) ?_
  by_cases q : x = y
  · exact Wp.go (fun t kk => XS.ifNo X.here hx rfl (hb hby d) rfl (XT.ll_ne_f q) kk) (kf q)
  · exact Wp.go (fun t kk => XS.ifYes X.here hx rfl rfl (hb hby d) rfl (XT.ll_ne_t q) q1 q2 kk) (kt q)
theorem f_icmp_lt (X : Stand p l e R s m args below meth c T locs cells slots) (hx : p.tables.exec = Jvm.exec) (hby : c.code = bs) {x y : Int32} (hd : Jm bs pc (.if_icmp .lt o) o nx tg) (kt : x < y → Wp p e below s K N Q T (mkF m tg Ls st)) (kf : ¬ x < y → Wp p e below s K N Q T (mkF m nx Ls st)) : Wp p e below s K N Q T (mkF m pc Ls (.int y :: .int x :: st)) := by
  obtain ⟨d, rfl, q1, q2⟩ := hd
  by_cases q : x < y
  · exact Wp.go (fun t kk => XS.icmpYes X.here hx rfl rfl (hb hby d) rfl (XT.ii_lt_t q) q1 q2 kk) (kt q)
  · exact Wp.go (fun t kk => XS.icmpNo X.here hx rfl (hb hby d) rfl (XT.ii_lt_f q) kk) (kf q)
theorem f_if_lt (X : Stand p l e R s m args below meth c T locs cells slots) (hx : p.tables.exec = Jvm.exec) (hby : c.code = bs) {x : Int32} (hd : Jm bs pc (.ifCond .lt o) o nx tg) (kt : x < 0 → Wp p e below s K N Q T (mkF m tg Ls st)) (kf : ¬ x < 0 → Wp p e below s K N Q T (mkF m nx Ls st)) : Wp p e below s K N Q T (mkF m pc Ls (.int x :: st)) := by
  obtain ⟨d, rfl, q1, q2⟩ := hd
  by_cases q : x < 0
  · exact Wp.go (fun t kk => XS.ifYes X.here hx rfl rfl (hb hby d) rfl (XT.i0_lt_t q) q1 q2 kk) (kt q)
  · exact Wp.go (fun t kk => XS.ifNo X.here hx rfl (hb hby d) rfl (XT.i0_lt_f q) kk) (kf q)
theorem f_lcmp_lt (X : Stand p l e R s m args below meth c T locs cells slots) (hx : p.tables.exec = Jvm.exec) (hby : c.code = bs) {x y : Int64} {n1 : Nat} (hc : In bs pc .lcmp 1 n1) (hd : Jm bs n1 (.ifCond .lt o) o nx tg) (kt : x < y → Wp p e below s K N Q T (mkF m tg Ls st)) (kf : ¬ x < y → Wp p e below s K N Q T (mkF m nx Ls st)) : Wp p e below s K N Q T (mkF m pc Ls (.long y :: .long x :: st)) := by
  obtain ⟨d1, rfl⟩ := hc; obtain ⟨d, rfl, q1, q2⟩ := hd
  refine Wp.go (fun t kk => XT.lcmp X.here hx rfl (hb hby d1) rfl kk) ?_
  by_cases q : x < y
  · exact Wp.go (fun t kk => XS.ifYes X.here hx rfl rfl (hb hby d) rfl (XT.ll_lt_t q) q1 q2 kk) (kt q)
  · exact Wp.go (fun t kk => XS.ifNo X.here hx rfl (hb hby d) rfl (XT.ll_lt_f q) kk) (kf q)
theorem f_icmp_ge (X : Stand p l e R s m args below meth c T locs cells slots) (hx : p.tables.exec = Jvm.exec) (hby : c.code = bs) {x y : Int32} (hd : Jm bs pc (.if_icmp .ge o) o nx tg) (kt : ¬ x < y → Wp p e below s K N Q T (mkF m tg Ls st)) (kf : x < y → Wp p e below s K N Q T (mkF m nx Ls st)) : Wp p e below s K N Q T (mkF m pc Ls (.int y :: .int x :: st)) := by
  obtain ⟨d, rfl, q1, q2⟩ := hd
  by_cases q : x < y
  · exact Wp.go (fun t kk => XS.icmpNo X.here hx rfl (hb hby d) rfl (XT.ii_ge_f q) kk) (kf q)
  · exact Wp.go (fun t kk => XS.icmpYes X.here hx rfl rfl (hb hby d) rfl (XT.ii_ge_t q) q1 q2 kk) (kt q)
theorem f_if_ge (X : Stand p l e R s m args below meth c T locs cells slots) (hx : p.tables.exec = Jvm.exec) (hby : c.code = bs) {x : Int32} (hd : Jm bs pc (.ifCond .ge o) o nx tg) (kt : ¬ x < 0 → Wp p e below s K N Q T (mkF m tg Ls st)) (kf : x < 0 → Wp p e below s K N Q T (mkF m nx Ls st)) : Wp p e below s K N Q T (mkF m pc Ls (.int x :: st)) := by
  obtain ⟨d, rfl, q1, q2⟩ := hd
  by_cases q : x < 0
  · exact Wp.go (fun t kk => XS.ifNo X.here hx rfl (hb hby d) rfl (XT.i0_ge_f q) kk) (kf q)
  · exact Wp.go (fun t kk => XS.ifYes X.here hx rfl rfl (hb hby d) rfl (XT.i0_ge_t q) q1 q2 kk) (kt q)
theorem f_lcmp_ge (X : Stand p l e R s m args below meth c T locs cells slots) (hx : p.tables.exec = Jvm.exec) (hby : c.code = bs) {x y : Int64} {n1 : Nat} (hc : In bs pc .lcmp 1 n1) (hd : Jm bs n1 (.ifCond .ge o) o nx tg) (kt : ¬ x < y → Wp p e below s K N Q T (mkF m tg Ls st)) (kf : x < y → Wp p e below s K N Q T (mkF m nx Ls st)) : Wp p e below s K N Q T (mkF m pc Ls (.long y :: .long x :: st)) := by
  obtain ⟨d1, rfl⟩ := hc; obtain ⟨d, rfl, q1, q2⟩ := hd
  refine Wp.go (fun t kk => XT.lcmp X.here hx rfl (hb hby d1) rfl kk) ?_
  by_cases q : x < y
  · exact Wp.go (fun t kk => XS.ifNo X.here hx rfl (hb hby d) rfl (XT.ll_ge_f q) kk) (kf q)
  · exact Wp.go (fun t kk => XS.ifYes X.here hx rfl rfl (hb hby d) rfl (XT.ll_ge_t q) q1 q2 kk) (kt q)
theorem f_icmp_gt (X : Stand p l e R s m args below meth c T locs cells slots) (hx : p.tables.exec = Jvm.exec) (hby : c.code = bs) {x y : Int32} (hd : Jm bs pc (.if_icmp .gt o) o nx tg) (kt : y < x → Wp p e below s K N Q T (mkF m tg Ls st)) (kf : ¬ y < x → Wp p e below s K N Q T (mkF m nx Ls st)) : Wp p e below s K N Q T (mkF m pc Ls (.int y :: .int x :: st)) := by
  obtain ⟨d, rfl, q1, q2⟩ := hd
  by_cases q : y < x
  · exact Wp.go (fun t kk => XS.icmpYes X.here hx rfl rfl (hb hby d) rfl (XT.ii_gt_t q) q1 q2 kk) (kt q)
  · exact Wp.go (fun t kk => XS.icmpNo X.here hx rfl (hb hby d) rfl (XT.ii_gt_f q) kk) (kf q)
theorem f_if_gt (X : Stand p l e R s m args below meth c T locs cells slots) (hx : p.tables.exec = Jvm.exec) (hby : c.code = bs) {x : Int32} (hd : Jm bs pc (.ifCond .gt o) o nx tg) (kt : 0 < x → Wp p e below s K N Q T (mkF m tg Ls st)) (kf : ¬ 0 < x → Wp p e below s K N Q T (mkF m nx Ls st)) : Wp p e below s K N Q T (mkF m pc Ls (.int x :: st)) := by
  obtain ⟨d, rfl, q1, q2⟩ := hd
  by_cases q : 0 < x
  · exact Wp.go (fun t kk => XS.ifYes X.here hx rfl rfl (hb hby d) rfl (XT.i0_gt_t q) q1 q2 kk) (kt q)
  · exact Wp.go (fun t kk => XS.ifNo X.here hx rfl (hb hby d) rfl (XT.i0_gt_f q) kk) (kf q)
theorem f_lcmp_gt (X : Stand p l e R s m args below meth c T locs cells slots) (hx : p.tables.exec = Jvm.exec) (hby : c.code = bs) {x y : Int64} {n1 : Nat} (hc : In bs pc .lcmp 1 n1) (hd : Jm bs n1 (.ifCond .gt o) o nx tg) (kt : y < x → Wp p e below s K N Q T (mkF m tg Ls st)) (kf : ¬ y < x → Wp p e below s K N Q T (mkF m nx Ls st)) : Wp p e below s K N Q T (mkF m pc Ls (.long y :: .long x :: st)) := by
  obtain ⟨d1, rfl⟩ := hc; obtain ⟨d, rfl, q1, q2⟩ := hd
  refine Wp.go (fun t kk => XT.lcmp X.here hx rfl (hb hby d1) rfl kk) ?_
  by_cases q : y < x
  · exact Wp.go (fun t kk => XS.ifYes X.here hx rfl rfl (hb hby d) rfl (XT.ll_gt_t q) q1 q2 kk) (kt q)
  · exact Wp.go (fun t kk => XS.ifNo X.here hx rfl (hb hby d) rfl (XT.ll_gt_f q) kk) (kf q)
theorem f_icmp_le (X : Stand p l e R s m args below meth c T locs cells slots) (hx : p.tables.exec = Jvm.exec) (hby : c.code = bs) {x y : Int32} (hd : Jm bs pc (.if_icmp .le o) o nx tg) (kt : ¬ y < x → Wp p e below s K N Q T (mkF m tg Ls st)) (kf : y < x → Wp p e below s K N Q T (mkF m nx Ls st)) : Wp p e below s K N Q T (mkF m pc Ls (.int y :: .int x :: st)) := by
  obtain ⟨d, rfl, q1, q2⟩ := hd
  by_cases q : y < x
  · exact Wp.go (fun t kk => XS.icmpNo X.here hx rfl (hb hby d) rfl (XT.ii_le_f q) kk) (kf q)
  · exact Wp.go (fun t kk => XS.icmpYes X.here hx rfl rfl (hb hby d) rfl (XT.ii_le_t q) q1 q2 kk) (kt q)
theorem f_if_le (X : Stand p l e R s m args below meth c T locs cells slots) (hx : p.tables.exec = Jvm.exec) (hby : c.code = bs) {x : Int32} (hd : Jm bs pc (.ifCond .le o) o nx tg) (kt : ¬ 0 < x → Wp p e below s K N Q T (mkF m tg Ls st)) (kf : 0 < x → Wp p e below s K N Q T (mkF m nx Ls st)) : Wp p e below s K N Q T (mkF m pc Ls (.int x :: st)) := by
  obtain ⟨d, rfl, q1, q2⟩ := hd
  by_cases q : 0 < x
  · exact Wp.go (fun t kk => XS.ifNo X.here hx rfl (hb hby d) rfl (XT.i0_le_f q) kk) (kf q)
  · exact Wp.go (fun t kk => XS.ifYes X.here hx rfl rfl (hb hby d) rfl (XT.i0_le_t q) q1 q2 kk) (kt q)
theorem f_lcmp_le (X : Stand p l e R s m args below meth c T locs cells slots) (hx : p.tables.exec = Jvm.exec) (hby : c.code = bs) {x y : Int64} {n1 : Nat} (hc : In bs pc .lcmp 1 n1) (hd : Jm bs n1 (.ifCond .le o) o nx tg) (kt : ¬ y < x → Wp p e below s K N Q T (mkF m tg Ls st)) (kf : y < x → Wp p e below s K N Q T (mkF m nx Ls st)) : Wp p e below s K N Q T (mkF m pc Ls (.long y :: .long x :: st)) := by
  obtain ⟨d1, rfl⟩ := hc; obtain ⟨d, rfl, q1, q2⟩ := hd
  refine Wp.go (fun t kk => XT.lcmp X.here hx rfl (hb hby d1) rfl kk) ?_
  by_cases q : y < x
  · exact Wp.go (fun t kk => XS.ifNo X.here hx rfl (hb hby d) rfl (XT.ll_le_f q) kk) (kf q)
  · exact Wp.go (fun t kk => XS.ifYes X.here hx rfl rfl (hb hby d) rfl (XT.ll_le_t q) q1 q2 kk) (kt q)
theorem f_acmp_eq (X : Stand p l e R s m args below meth c T locs cells slots) (hx : p.tables.exec = Jvm.exec) (hby : c.code = bs) {x y : Addr} (hd : Jm bs pc (.if_acmp .eq o) o nx tg) (kt : x = y → Wp p e below s K N Q T (mkF m tg Ls st)) (kf : ¬ x = y → Wp p e below s K N Q T (mkF m nx Ls st)) : Wp p e below s K N Q T (mkF m pc Ls (.ref y :: .ref x :: st)) := by
  obtain ⟨d, rfl, q1, q2⟩ := hd
  by_cases q : x = y
  · exact Wp.go (fun t kk => XT.acmpYes X.here hx rfl rfl (hb hby d) rfl rfl rfl (XT.aa_eq_t (congrArg Value.ref q)) q1 q2 kk) (kt q)
  · exact Wp.go (fun t kk => XT.acmpNo X.here hx rfl (hb hby d) rfl rfl rfl (XT.aa_eq_f (fun r => q (Value.ref.inj r))) kk) (kf q)
theorem f_acmpV_eq (X : Stand p l e R s m args below meth c T locs cells slots) (hx : p.tables.exec = Jvm.exec) (hby : c.code = bs) {x y : Value} (hx' : x.isRef = true) (hy' : y.isRef = true) (hd : Jm bs pc (.if_acmp .eq o) o nx tg) (kt : x = y → Wp p e below s K N Q T (mkF m tg Ls st)) (kf : ¬ x = y → Wp p e below s K N Q T (mkF m nx Ls st)) : Wp p e below s K N Q T (mkF m pc Ls (y :: x :: st)) := by
  obtain ⟨d, rfl, q1, q2⟩ := hd
  by_cases q : x = y
  · exact Wp.go (fun t kk => XT.acmpYes X.here hx rfl rfl (hb hby d) rfl hx' hy' (XT.aa_eq_t q) q1 q2 kk) (kt q)
  · exact Wp.go (fun t kk => XT.acmpNo X.here hx rfl (hb hby d) rfl hx' hy' (XT.aa_eq_f q) kk) (kf q)
theorem f_acmp_ne (X : Stand p l e R s m args below meth c T locs cells slots) (hx : p.tables.exec = Jvm.exec) (hby : c.code = bs) {x y : Addr} (hd : Jm bs pc (.if_acmp .ne o) o nx tg) (kt : ¬ x = y → Wp p e below s K N Q T (mkF m tg Ls st)) (kf : x = y → Wp p e below s K N Q T (mkF m nx Ls st)) : Wp p e below s K N Q T (mkF m pc Ls (.ref y :: .ref x :: st)) := by
  obtain ⟨d, rfl, q1, q2⟩ := hd
  by_cases q : x = y
  · exact Wp.go (fun t kk => XT.acmpNo X.here hx rfl (hb hby d) rfl rfl rfl (XT.aa_ne_f (congrArg Value.ref q)) kk) (kf q)
  · exact Wp.go (fun t kk => XT.acmpYes X.here hx rfl rfl (hb hby d) rfl rfl rfl (XT.aa_ne_t (fun r => q (Value.ref.inj r))) q1 q2 kk) (kt q)
theorem f_acmpV_ne (X : Stand p l e R s m args below meth c T locs cells slots) (hx : p.tables.exec = Jvm.exec) (hby : c.code = bs) {x y : Value} (hx' : x.isRef = true) (hy' : y.isRef = true) (hd : Jm bs pc (.if_acmp .ne o) o nx tg) (kt : ¬ x = y → Wp p e below s K N Q T (mkF m tg Ls st)) (kf : x = y → Wp p e below s K N Q T (mkF m nx Ls st)) : Wp p e below s K N Q T (mkF m pc Ls (y :: x :: st)) := by
  obtain ⟨d, rfl, q1, q2⟩ := hd
  by_cases q : x = y
  · exact Wp.go (fun t kk => XT.acmpNo X.here hx rfl (hb hby d) rfl hx' hy' (XT.aa_ne_f q) kk) (kf q)
  · exact Wp.go (fun t kk => XT.acmpYes X.here hx rfl rfl (hb hby d) rfl hx' hy' (XT.aa_ne_t q) q1 q2 kk) (kt q)
theorem w_lswHit (X : Stand p l e R s m args below meth c T locs cells slots) (hx : p.tables.exec = Jvm.exec) (hby : c.code = bs) {x : Int32} {df : Int} {ps : Array (Int × Int)} {len : Nat} {a off : Int} (hd : In bs pc (.lookupswitch df ps) len nx) (hs : (ps.toList.zip (ps.toList.drop 1)).all (fun (a, next) => a.1 < next.1) = true) (hf : ps.find? (·.1 == x.toInt) = some (a, off)) (ho : 0 ≤ (pc : Int) + off) (ht : ((pc : Int) + off).toNat = tg) (k : Wp p e below s K N Q T (mkF m tg Ls st)) : Wp p e below s K N Q T (mkF m pc Ls (.int x :: st)) := by
  obtain ⟨d, -⟩ := hd; subst ht; exact Wp.go (fun t kk => X.lookupswitchHit hx (g := mkF m pc Ls (.int x :: st)) rfl rfl (hb hby d) hs hf ho t kk) k
theorem w_lswMiss (X : Stand p l e R s m args below meth c T locs cells slots) (hx : p.tables.exec = Jvm.exec) (hby : c.code = bs) {x : Int32} {df : Int} {ps : Array (Int × Int)} {len : Nat} (hd : In bs pc (.lookupswitch df ps) len nx) (hs : (ps.toList.zip (ps.toList.drop 1)).all (fun (a, next) => a.1 < next.1) = true) (hf : ps.find? (·.1 == x.toInt) = none) (ho : 0 ≤ (pc : Int) + df) (ht : ((pc : Int) + df).toNat = tg) (k : Wp p e below s K N Q T (mkF m tg Ls st)) : Wp p e below s K N Q T (mkF m pc Ls (.int x :: st)) := by
  obtain ⟨d, -⟩ := hd; subst ht; exact Wp.go (fun t kk => X.lookupswitchMiss hx (g := mkF m pc Ls (.int x :: st)) rfl rfl (hb hby d) hs hf ho t kk) k
theorem w_tswIn (X : Stand p l e R s m args below meth c T locs cells slots) (hx : p.tables.exec = Jvm.exec) (hby : c.code = bs) {x : Int32} {df lo hi : Int} {os : Array Int} {len : Nat} {off : Int} (hd : In bs pc (.tableswitch df lo hi os) len nx) (hin : ¬ (x.toInt < lo ∨ x.toInt > hi)) (hoff : os[(x.toInt - lo).toNat]? = some off) (ho : 0 ≤ (pc : Int) + off) (ht : ((pc : Int) + off).toNat = tg) (k : Wp p e below s K N Q T (mkF m tg Ls st)) : Wp p e below s K N Q T (mkF m pc Ls (.int x :: st)) := by
  obtain ⟨d, -⟩ := hd; exact Wp.go (fun t kk => XS.tswIn X.here hx rfl rfl (hb hby d) rfl hin hoff ho ht kk) k
theorem w_tswOut (X : Stand p l e R s m args below meth c T locs cells slots) (hx : p.tables.exec = Jvm.exec) (hby : c.code = bs) {x : Int32} {df lo hi : Int} {os : Array Int} {len : Nat} (hd : In bs pc (.tableswitch df lo hi os) len nx) (hout : x.toInt < lo ∨ x.toInt > hi) (ho : 0 ≤ (pc : Int) + df) (ht : ((pc : Int) + df).toNat = tg) (k : Wp p e below s K N Q T (mkF m tg Ls st)) : Wp p e below s K N Q T (mkF m pc Ls (.int x :: st)) := by
  obtain ⟨d, -⟩ := hd; exact Wp.go (fun t kk => XS.tswOut X.here hx rfl rfl (hb hby d) rfl hout ho ht kk) k
theorem own_ne32 {x z : Int32} {i : Int} (h : ¬ x = z) (hz : z.toInt = i) : i ≠ x.toInt := fun q => h (Int32.toInt_inj.mp (by rw [hz, q]))
theorem w_ifnonnullRef (X : Stand p l e R s m args below meth c T locs cells slots) (hx : p.tables.exec = Jvm.exec) (hby : c.code = bs) {a : Addr} (hd : Jm bs pc (.ifnonnull o) o nx tg) (k : Wp p e below s K N Q T (mkF m tg Ls st)) : Wp p e below s K N Q T (mkF m pc Ls (.ref a :: st)) := by
  obtain ⟨d, -, q1, q2⟩ := hd; exact Wp.go (fun t kk => XS.ifnonnullYes X.here hx rfl rfl (hb hby d) rfl q1 q2 kk) k
theorem w_ifnonnullNull (X : Stand p l e R s m args below meth c T locs cells slots) (hx : p.tables.exec = Jvm.exec) (hby : c.code = bs) (hd : Jm bs pc (.ifnonnull o) o nx tg) (k : Wp p e below s K N Q T (mkF m nx Ls st)) : Wp p e below s K N Q T (mkF m pc Ls (.null :: st)) := by
  obtain ⟨d, rfl, q1, q2⟩ := hd; exact Wp.go (fun t kk => XS.ifnonnullNo X.here hx rfl (hb hby d) rfl kk) k
theorem w_ifnullRef (X : Stand p l e R s m args below meth c T locs cells slots) (hx : p.tables.exec = Jvm.exec) (hby : c.code = bs) {a : Addr} (hd : Jm bs pc (.ifnull o) o nx tg) (k : Wp p e below s K N Q T (mkF m nx Ls st)) : Wp p e below s K N Q T (mkF m pc Ls (.ref a :: st)) := by
  obtain ⟨d, rfl, q1, q2⟩ := hd; exact Wp.go (fun t kk => XS.ifnullNo X.here hx rfl (hb hby d) rfl kk) k
theorem w_ifnullNull (X : Stand p l e R s m args below meth c T locs cells slots) (hx : p.tables.exec = Jvm.exec) (hby : c.code = bs) (hd : Jm bs pc (.ifnull o) o nx tg) (k : Wp p e below s K N Q T (mkF m tg Ls st)) : Wp p e below s K N Q T (mkF m pc Ls (.null :: st)) := by
  obtain ⟨d, -, q1, q2⟩ := hd; exact Wp.go (fun t kk => XS.ifnullYes X.here hx rfl rfl (hb hby d) rfl q1 q2 kk) k
theorem w_ldcI (X : Stand p l e R s m args below meth c T locs cells slots) (hx : p.tables.exec = Jvm.exec) (hby : c.code = bs) (hZ : Z.Warmed39 s.vm) {own : String} (hown : s.vm.findClass own = some m.cls) {index : Nat} {v : Int32} (w : (Cond.constant own index v).before a0 Z = true) (hd : In bs pc (.ldc index) 2 nx) (k : Wp p e below s K N Q T (mkF m nx Ls (.int v :: st))) : Wp p e below s K N Q T (mkF m pc Ls st) := by
  obtain ⟨d, rfl⟩ := hd; exact Wp.go (fun t kk => X.ldcInt hx hown (mvT hZ w) (g := mkF m pc Ls st) rfl (hb hby d) t kk) k
theorem w_ldcwI (X : Stand p l e R s m args below meth c T locs cells slots) (hx : p.tables.exec = Jvm.exec) (hby : c.code = bs) (hZ : Z.Warmed39 s.vm) {own : String} (hown : s.vm.findClass own = some m.cls) {index : Nat} {v : Int32} (w : (Cond.constant own index v).before a0 Z = true) (hd : In bs pc (.ldc_w index) 3 nx) (k : Wp p e below s K N Q T (mkF m nx Ls (.int v :: st))) : Wp p e below s K N Q T (mkF m pc Ls st) := by
  obtain ⟨d, rfl⟩ := hd; exact Wp.go (fun t kk => X.ldcWI hx hown (mvT hZ w) (g := mkF m pc Ls st) rfl (hb hby d) kk) k
theorem w_ldc2J (X : Stand p l e R s m args below meth c T locs cells slots) (hx : p.tables.exec = Jvm.exec) (hby : c.code = bs) (hZ : Z.Warmed39 s.vm) {own : String} (hown : s.vm.findClass own = some m.cls) {index : Nat} {v : Int64} (w : (Cond.constantLong own index v).before a0 Z = true) (hd : In bs pc (.ldc2_w index) 3 nx) (k : Wp p e below s K N Q T (mkF m nx Ls (.long v :: st))) : Wp p e below s K N Q T (mkF m pc Ls st) := by
  obtain ⟨d, rfl⟩ := hd; exact Wp.go (fun t kk => X.ldc2Long hx hown (mvT hZ w) (g := mkF m pc Ls st) rfl (hb hby d) t kk) k
theorem w_getS (X : Stand p l e R s m args below meth c T locs cells slots) (hx : p.tables.exec = Jvm.exec) (hby : c.code = bs) (hZ : Z.Warmed39 s.vm) {own : String} (hown : s.vm.findClass own = some m.cls) {R0 C n d host : String} {index : Nat} (w : (Cond.fieldLink own index R0 n d).before a0 Z = true ∨ (Cond.fieldLinkNest own index R0 n d host).before a0 Z = true) (via : Via Z R0 C n d) (eT : T.heap = h) {v : Value} (F : Sta Z h C n d v) (hd : In bs pc (.getstatic index) 3 nx) (k : ∀ T', Stand p l e R s m args below meth c T' locs cells slots → T'.heap = h → Wp p e below s K N Q T' (mkF m nx Ls (v :: st))) : Wp p e below s K N Q T (mkF m pc Ls st) := by
  obtain ⟨d, rfl⟩ := hd; obtain ⟨T', X', e', st'⟩ := getS2 X hx hZ hown w via eT F (g := mkF m pc Ls st) rfl (hb hby d); exact Wp.go st' (k T' X' e')
theorem w_getF (X : Stand p l e R s m args below meth c T locs cells slots) (hx : p.tables.exec = Jvm.exec) (hby : c.code = bs) (hZ : Z.Warmed39 s.vm) {own : String} (hown : s.vm.findClass own = some m.cls) {R0 C n d host : String} {index : Nat} (w : (Cond.fieldLink own index R0 n d).before a0 Z = true ∨ (Cond.fieldLinkNest own index R0 n d host).before a0 Z = true) (via : Via Z R0 C n d) (eT : T.heap = h) {a : Addr} {v : Value} (F : Fld Z h a C n d v) (hd : In bs pc (.getfield index) 3 nx) (k : ∀ T', Stand p l e R s m args below meth c T' locs cells slots → T'.heap = h → Wp p e below s K N Q T' (mkF m nx Ls (v :: st))) : Wp p e below s K N Q T (mkF m pc Ls (.ref a :: st)) := by
  obtain ⟨d, rfl⟩ := hd; obtain ⟨T', X', e', st'⟩ := getF X hx hZ hown w via eT F (g := mkF m pc Ls (.ref a :: st)) rfl rfl (hb hby d); exact Wp.go st' (k T' X' e')
theorem w_putF (X : Stand p l e R s m args below meth c T locs cells slots) (hx : p.tables.exec = Jvm.exec) (hby : c.code = bs) (hZ : Z.Warmed39 s.vm) {own : String} (hown : s.vm.findClass own = some m.cls) {R0 C n d host D : String} {index kk : Nat} {ty : FieldType} (w : (Cond.fieldLink own index R0 n d).before a0 Z = true ∨ (Cond.fieldLinkNest own index R0 n d host).before a0 Z = true) (via : Via Z R0 C n d) (eT : T.heap = h) {a : Addr} {v old : Value} (F : Fld Z h a C n d old) (E : Exa Z h a D) (Lw : (Cond.lays D C n d).before a0 Z = true ∨ ((Cond.laysFinal D C n d).before a0 Z = true ∧ own = C ∧ meth.name = "<init>")) (wi : (Cond.instantiable D kk).before a0 Z = true) (hty : parseFieldDescriptor d = some ty) (hn : narrow ty v = v) (hf : fits ty v = true) (hd : In bs pc (.putfield index) 3 nx) (k : ∀ T' h', Stand p l e R s m args below meth c T' (locs ++ [⟨a, Jvm.RoadKit.slotOf Z C n d⟩]) cells slots → T'.heap = h' → Wr h h' a (Jvm.RoadKit.slotOf Z C n d) v → Wp p e below s K N Q T' (mkF m nx Ls st)) : Wp p e below s K N Q T (mkF m pc Ls (v :: .ref a :: st)) := by
  obtain ⟨d, rfl⟩ := hd; obtain ⟨T', h', X', e', W', st'⟩ := putF X hx hZ hown w via eT F E Lw wi hty hn hf (g := mkF m pc Ls (v :: .ref a :: st)) rfl rfl (hb hby d); exact Wp.go st' (k T' h' X' e' W')
theorem w_putFN (X : Stand p l e R s m args below meth c T locs cells slots) (hx : p.tables.exec = Jvm.exec) (hby : c.code = bs) (hZ : Z.Warmed39 s.vm) {own : String} (hown : s.vm.findClass own = some m.cls) {R0 C n d D : String} {index kk : Nat} {ty : FieldType} (w : (Cond.fieldLink own index R0 n d).before a0 Z = true) (via : Via Z R0 C n d) (eT : T.heap = h) {a : Addr} {v v' old : Value} (F : Fld Z h a C n d old) (E : Exa Z h a D) (Lw : (Cond.lays D C n d).before a0 Z = true ∨ ((Cond.laysFinal D C n d).before a0 Z = true ∧ own = C ∧ meth.name = "<init>")) (wi : (Cond.instantiable D kk).before a0 Z = true) (hty : parseFieldDescriptor d = some ty) (hn : narrow ty v = v') (hf : fits ty v' = true) (hd : In bs pc (.putfield index) 3 nx) (k : ∀ T' h', Stand p l e R s m args below meth c T' (locs ++ [⟨a, Jvm.RoadKit.slotOf Z C n d⟩]) cells slots → T'.heap = h' → Wr h h' a (Jvm.RoadKit.slotOf Z C n d) v' → Wp p e below s K N Q T' (mkF m nx Ls st)) : Wp p e below s K N Q T (mkF m pc Ls (v :: .ref a :: st)) := by
  obtain ⟨d, rfl⟩ := hd; obtain ⟨T', h', X', e', W', st'⟩ := putFN X hx hZ hown w via eT F E Lw wi hty hn hf (g := mkF m pc Ls (v :: .ref a :: st)) rfl rfl (hb hby d); exact Wp.go st' (k T' h' X' e' W')
theorem w_newO (X : Stand p l e R s m args below meth c T locs cells slots) (hx : p.tables.exec = Jvm.exec) (hby : c.code = bs) (hZ : Z.Warmed39 s.vm) {own : String} (hown : s.vm.findClass own = some m.cls) {C : String} {index n : Nat} (w : (Cond.classLink own index C).before a0 Z = true) (wi : (Cond.instantiable C n).before a0 Z = true) (wz : (Cond.initialized C).before a0 Z = true) (eT : T.heap = h) (hd : In bs pc (.new index) 3 nx) (hc : cells + 1 ≤ R.cells) (hl : slots + n ≤ R.slots) (k : ∀ T' h' a, a = h.size → Stand p l e R s m args below meth c T' locs (cells + 1) (slots + n) → T'.heap = h' → Ext h h' → Exa Z h' a C → (∀ {D nm d : String} {ty : FieldType}, Laid Z a0 C D nm d → parseFieldDescriptor d = some ty → Fld Z h' a D nm d (defaultValue ty)) → Wp p e below s K N Q T' (mkF m nx Ls (.ref a :: st))) : Wp p e below s K N Q T (mkF m pc Ls st) := by
  obtain ⟨d, rfl⟩ := hd; obtain ⟨T', h', X', e', E', A', D', -, st'⟩ := newO X hx hZ hown w wi wz eT (g := mkF m pc Ls st) rfl (hb hby d) hc hl; exact Wp.go st' (k T' h' _ rfl X' e' E' A' D')
theorem w_newP (X : Stand p l e R s m args below meth c T locs cells slots) (hx : p.tables.exec = Jvm.exec) (hby : c.code = bs) (hZ : Z.Warmed39 s.vm) {aty : ArrayType} (w : (Cond.arrayClass (newarray.typeOf aty)).before a0 Z = true) (eT : T.heap = h) {n : Int32} (hd : In bs pc (.newarray aty) 2 nx) (hn : ¬ n < 0) (cap : Nat) (hcap : n.toNatClampNeg ≤ cap) (hbig : cap * 8 ≤ 536870912) (hc : cells + 1 ≤ R.cells) (hl : slots + cap ≤ R.slots) (k : ∀ T' h' a kA, a = h.size → Stand p l e R s m args below meth c T' locs (cells + 1) (slots + cap) → T'.heap = h' → Ext h h' → Arr Z h' a (newA kA (newarray.typeOf aty) n) (newarray.typeOf aty) → Wp p e below s K N Q T' (mkF m nx Ls (.ref a :: st))) : Wp p e below s K N Q T (mkF m pc Ls (.int n :: st)) := by
  obtain ⟨d, rfl⟩ := hd; obtain ⟨T', h', kA, X', e', E', A', st'⟩ := newP X hx hZ w eT (g := mkF m pc Ls (.int n :: st)) rfl (hb hby d) rfl hn hcap hbig hc hl; exact Wp.go st' (k T' h' _ kA rfl X' e' E' A')
theorem w_newR (X : Stand p l e R s m args below meth c T locs cells slots) (hx : p.tables.exec = Jvm.exec) (hby : c.code = bs) (hZ : Z.Warmed39 s.vm) {own : String} (hown : s.vm.findClass own = some m.cls) {C : String} {index : Nat} (w1 : (Cond.classLink own index C).before a0 Z = true) (w2 : (Cond.arrayOver (.object C)).before a0 Z = true) (eT : T.heap = h) {n : Int32} (hd : In bs pc (.anewarray index) 3 nx) (hn : ¬ n < 0) (cap : Nat) (hcap : n.toNatClampNeg ≤ cap) (hbig : cap * 8 ≤ 536870912) (hc : cells + 1 ≤ R.cells) (hl : slots + cap ≤ R.slots) (k : ∀ T' h' a kA, a = h.size → Stand p l e R s m args below meth c T' locs (cells + 1) (slots + cap) → T'.heap = h' → Ext h h' → Arr Z h' a (newA kA (.object C) n) (.object C) → Ovr Z kA C → Wp p e below s K N Q T' (mkF m nx Ls (.ref a :: st))) : Wp p e below s K N Q T (mkF m pc Ls (.int n :: st)) := by
  obtain ⟨d, rfl⟩ := hd; obtain ⟨T', h', kA, X', e', E', A', O', st'⟩ := newR X hx hZ hown w1 w2 eT (g := mkF m pc Ls (.int n :: st)) rfl (hb hby d) rfl hn hcap hbig hc hl; exact Wp.go st' (k T' h' _ kA rfl X' e' E' A' O')
theorem w_stI (X : Stand p l e R s m args below meth c T locs cells slots) (hx : p.tables.exec = Jvm.exec) (hby : c.code = bs) (hZ : Z.Warmed39 s.vm) (eT : T.heap = h) {a : Addr} {cl : Cell} (A : Arr Z h a cl .int) {j : Int32} {x : Int32} (hj : ¬ (j < 0 ∨ cl.slots.size ≤ j.toNatClampNeg)) (hd : In bs pc .iastore 1 nx) (k : ∀ T' h', Stand p l e R s m args below meth c T' (locs ++ [⟨a, j.toNatClampNeg⟩]) cells slots → T'.heap = h' → Wr h h' a j.toNatClampNeg (.int x) → Wp p e below s K N Q T' (mkF m nx Ls st)) : Wp p e below s K N Q T (mkF m pc Ls (.int x :: .int j :: .ref a :: st)) := by
  obtain ⟨d, rfl⟩ := hd; obtain ⟨T', h', X', e', W', st'⟩ := stI X hx hZ eT A hj (g := mkF m pc Ls (.int x :: .int j :: .ref a :: st)) rfl rfl (hb hby d); exact Wp.go st' (k T' h' X' e' W')
theorem w_stJ (X : Stand p l e R s m args below meth c T locs cells slots) (hx : p.tables.exec = Jvm.exec) (hby : c.code = bs) (hZ : Z.Warmed39 s.vm) (eT : T.heap = h) {a : Addr} {cl : Cell} (A : Arr Z h a cl .long) {j : Int32} {x : Int64} (hj : ¬ (j < 0 ∨ cl.slots.size ≤ j.toNatClampNeg)) (hd : In bs pc .lastore 1 nx) (k : ∀ T' h', Stand p l e R s m args below meth c T' (locs ++ [⟨a, j.toNatClampNeg⟩]) cells slots → T'.heap = h' → Wr h h' a j.toNatClampNeg (.long x) → Wp p e below s K N Q T' (mkF m nx Ls st)) : Wp p e below s K N Q T (mkF m pc Ls (.long x :: .int j :: .ref a :: st)) := by
  obtain ⟨d, rfl⟩ := hd; obtain ⟨T', h', X', e', W', st'⟩ := stJ X hx hZ eT A hj (g := mkF m pc Ls (.long x :: .int j :: .ref a :: st)) rfl rfl (hb hby d); exact Wp.go st' (k T' h' X' e' W')
theorem w_stC (X : Stand p l e R s m args below meth c T locs cells slots) (hx : p.tables.exec = Jvm.exec) (hby : c.code = bs) (hZ : Z.Warmed39 s.vm) (eT : T.heap = h) {a : Addr} {cl : Cell} (A : Arr Z h a cl .char) {j : Int32} {x : Int32} (hj : ¬ (j < 0 ∨ cl.slots.size ≤ j.toNatClampNeg)) (hd : In bs pc .castore 1 nx) (k : ∀ T' h', Stand p l e R s m args below meth c T' (locs ++ [⟨a, j.toNatClampNeg⟩]) cells slots → T'.heap = h' → Wr h h' a j.toNatClampNeg (.int (nar .char x)) → Wp p e below s K N Q T' (mkF m nx Ls st)) : Wp p e below s K N Q T (mkF m pc Ls (.int x :: .int j :: .ref a :: st)) := by
  obtain ⟨d, rfl⟩ := hd; obtain ⟨T', h', X', e', W', st'⟩ := stC X hx hZ eT A hj (g := mkF m pc Ls (.int x :: .int j :: .ref a :: st)) rfl rfl (hb hby d); exact Wp.go st' (k T' h' X' e' W')
theorem w_stB (X : Stand p l e R s m args below meth c T locs cells slots) (hx : p.tables.exec = Jvm.exec) (hby : c.code = bs) (hZ : Z.Warmed39 s.vm) (eT : T.heap = h) {a : Addr} {cl : Cell} (A : Arr Z h a cl .byte) {j : Int32} {x : Int32} (hj : ¬ (j < 0 ∨ cl.slots.size ≤ j.toNatClampNeg)) (hd : In bs pc .bastore 1 nx) (k : ∀ T' h', Stand p l e R s m args below meth c T' (locs ++ [⟨a, j.toNatClampNeg⟩]) cells slots → T'.heap = h' → Wr h h' a j.toNatClampNeg (.int (nar .byte x)) → Wp p e below s K N Q T' (mkF m nx Ls st)) : Wp p e below s K N Q T (mkF m pc Ls (.int x :: .int j :: .ref a :: st)) := by
  obtain ⟨d, rfl⟩ := hd; obtain ⟨T', h', X', e', W', st'⟩ := stB X hx hZ eT A hj (g := mkF m pc Ls (.int x :: .int j :: .ref a :: st)) rfl rfl (hb hby d); exact Wp.go st' (k T' h' X' e' W')
theorem w_stZ (X : Stand p l e R s m args below meth c T locs cells slots) (hx : p.tables.exec = Jvm.exec) (hby : c.code = bs) (hZ : Z.Warmed39 s.vm) (eT : T.heap = h) {a : Addr} {cl : Cell} (A : Arr Z h a cl .boolean) {j : Int32} {x : Int32} (hj : ¬ (j < 0 ∨ cl.slots.size ≤ j.toNatClampNeg)) (hd : In bs pc .bastore 1 nx) (k : ∀ T' h', Stand p l e R s m args below meth c T' (locs ++ [⟨a, j.toNatClampNeg⟩]) cells slots → T'.heap = h' → Wr h h' a j.toNatClampNeg (.int (nar .boolean x)) → Wp p e below s K N Q T' (mkF m nx Ls st)) : Wp p e below s K N Q T (mkF m pc Ls (.int x :: .int j :: .ref a :: st)) := by
  obtain ⟨d, rfl⟩ := hd; obtain ⟨T', h', X', e', W', st'⟩ := stZ X hx hZ eT A hj (g := mkF m pc Ls (.int x :: .int j :: .ref a :: st)) rfl rfl (hb hby d); exact Wp.go st' (k T' h' X' e' W')
theorem w_stR (X : Stand p l e R s m args below meth c T locs cells slots) (hx : p.tables.exec = Jvm.exec) (hby : c.code = bs) (hZ : Z.Warmed39 s.vm) (eT : T.heap = h) {a : Addr} {cl : Cell} {ty : FieldType} (A : Arr Z h a cl ty) {j : Int32} {v : Value} (hj : ¬ (j < 0 ∨ cl.slots.size ≤ j.toNatClampNeg)) (hty : ty.isReference = true) (F : Sto Z h a v) (hd : In bs pc .aastore 1 nx) (k : ∀ T' h', Stand p l e R s m args below meth c T' (locs ++ [⟨a, j.toNatClampNeg⟩]) cells slots → T'.heap = h' → Wr h h' a j.toNatClampNeg v → Wp p e below s K N Q T' (mkF m nx Ls st)) : Wp p e below s K N Q T (mkF m pc Ls (v :: .int j :: .ref a :: st)) := by
  obtain ⟨d, rfl⟩ := hd; obtain ⟨T', h', X', e', W', st'⟩ := stR X hx hZ eT A hj hty F (g := mkF m pc Ls (v :: .int j :: .ref a :: st)) rfl rfl (hb hby d); exact Wp.go st' (k T' h' X' e' W')
theorem w_iaload (X : Stand p l e R s m args below meth c T locs cells slots) (hx : p.tables.exec = Jvm.exec) (hby : c.code = bs) (hZ : Z.Warmed39 s.vm) (eT : T.heap = h) {a : Addr} {cl : Cell} (A : Arr Z h a cl .int) {j : Int32} {v : Value} (hj : ¬ (j < 0 ∨ cl.slots.size ≤ j.toNatClampNeg)) (hv : cl.slots[j.toNatClampNeg]? = some v) (hd : In bs pc .iaload 1 nx) (k : Wp p e below s K N Q T (mkF m nx Ls (v :: st))) : Wp p e below s K N Q T (mkF m pc Ls (.int j :: .ref a :: st)) := by
  obtain ⟨d, rfl⟩ := hd; exact Wp.go (fun t kk => X.iaload hx (by rw [eT]; exact A.1) (State.isArrayOf_alike hZ.alike A.2.1) A.2.2 hj hv (g := mkF m pc Ls (.int j :: .ref a :: st)) rfl rfl (hb hby d) t kk) k
theorem w_laload (X : Stand p l e R s m args below meth c T locs cells slots) (hx : p.tables.exec = Jvm.exec) (hby : c.code = bs) (hZ : Z.Warmed39 s.vm) (eT : T.heap = h) {a : Addr} {cl : Cell} (A : Arr Z h a cl .long) {j : Int32} {v : Value} (hj : ¬ (j < 0 ∨ cl.slots.size ≤ j.toNatClampNeg)) (hv : cl.slots[j.toNatClampNeg]? = some v) (hd : In bs pc .laload 1 nx) (k : Wp p e below s K N Q T (mkF m nx Ls (v :: st))) : Wp p e below s K N Q T (mkF m pc Ls (.int j :: .ref a :: st)) := by
  obtain ⟨d, rfl⟩ := hd; exact Wp.go (fun t kk => X.laload hx (by rw [eT]; exact A.1) (State.isArrayOf_alike hZ.alike A.2.1) A.2.2 hj hv (g := mkF m pc Ls (.int j :: .ref a :: st)) rfl rfl (hb hby d) t kk) k
theorem w_caload (X : Stand p l e R s m args below meth c T locs cells slots) (hx : p.tables.exec = Jvm.exec) (hby : c.code = bs) (hZ : Z.Warmed39 s.vm) (eT : T.heap = h) {a : Addr} {cl : Cell} (A : Arr Z h a cl .char) {j : Int32} {v : Value} (hj : ¬ (j < 0 ∨ cl.slots.size ≤ j.toNatClampNeg)) (hv : cl.slots[j.toNatClampNeg]? = some v) (hd : In bs pc .caload 1 nx) (k : Wp p e below s K N Q T (mkF m nx Ls (v :: st))) : Wp p e below s K N Q T (mkF m pc Ls (.int j :: .ref a :: st)) := by
  obtain ⟨d, rfl⟩ := hd; exact Wp.go (fun t kk => X.caload hx (by rw [eT]; exact A.1) (State.isArrayOf_alike hZ.alike A.2.1) A.2.2 hj hv (g := mkF m pc Ls (.int j :: .ref a :: st)) rfl rfl (hb hby d) t kk) k
theorem w_baload (X : Stand p l e R s m args below meth c T locs cells slots) (hx : p.tables.exec = Jvm.exec) (hby : c.code = bs) (hZ : Z.Warmed39 s.vm) (eT : T.heap = h) {a : Addr} {cl : Cell} (A : Arr Z h a cl .byte) {j : Int32} {v : Value} (hj : ¬ (j < 0 ∨ cl.slots.size ≤ j.toNatClampNeg)) (hv : cl.slots[j.toNatClampNeg]? = some v) (hd : In bs pc .baload 1 nx) (k : Wp p e below s K N Q T (mkF m nx Ls (v :: st))) : Wp p e below s K N Q T (mkF m pc Ls (.int j :: .ref a :: st)) := by
  obtain ⟨d, rfl⟩ := hd; exact Wp.go (fun t kk => X.baloadBytes hx (by rw [eT]; exact A.1) (State.isArrayOf_alike hZ.alike A.2.1) A.2.2 hj hv (g := mkF m pc Ls (.int j :: .ref a :: st)) rfl rfl (hb hby d) t kk) k
theorem w_aaload (X : Stand p l e R s m args below meth c T locs cells slots) (hx : p.tables.exec = Jvm.exec) (hby : c.code = bs) (hZ : Z.Warmed39 s.vm) (eT : T.heap = h) {a : Addr} {cl : Cell} {ty : FieldType} (A : Arr Z h a cl ty) (hty : ty.isReference = true) {j : Int32} {v : Value} (hj : ¬ (j < 0 ∨ cl.slots.size ≤ j.toNatClampNeg)) (hv : cl.slots[j.toNatClampNeg]? = some v) (hd : In bs pc .aaload 1 nx) (k : Wp p e below s K N Q T (mkF m nx Ls (v :: st))) : Wp p e below s K N Q T (mkF m pc Ls (.int j :: .ref a :: st)) := by
  obtain ⟨d, rfl⟩ := hd; exact Wp.go (fun t kk => X.aaload hx (by rw [eT]; exact A.1) (State.isArrayOf_alike hZ.alike A.2.1) hty A.2.2 hj hv (g := mkF m pc Ls (.int j :: .ref a :: st)) rfl rfl (hb hby d) t kk) k
theorem w_arraylength (X : Stand p l e R s m args below meth c T locs cells slots) (hx : p.tables.exec = Jvm.exec) (hby : c.code = bs) (hZ : Z.Warmed39 s.vm) (eT : T.heap = h) {a : Addr} {cl : Cell} {ty : FieldType} (A : Arr Z h a cl ty) {z : Int32} (hz : cl.slots.size.toInt32 = z) (hd : In bs pc .arraylength 1 nx) (k : Wp p e below s K N Q T (mkF m nx Ls (.int z :: st))) : Wp p e below s K N Q T (mkF m pc Ls (.ref a :: st)) := by
  obtain ⟨d, rfl⟩ := hd; subst hz; exact Wp.go (fun t kk => X.arraylength hx (by rw [eT]; exact A.1) (State.isArrayOf_alike hZ.alike A.2.1) (g := mkF m pc Ls (.ref a :: st)) rfl rfl (hb hby d) t kk) k
theorem w_initO (X : Stand p l e R s m args below meth c T locs cells slots) (hx : p.tables.exec = Jvm.exec) (hby : c.code = bs) (hZ : Z.Warmed39 s.vm) {own : String} (hown : s.vm.findClass own = some m.cls) (hml : Ls.size = c.maxLocals) {idx : Nat} (w1 : (Cond.methodLink own idx Lib.objectInit).before a0 Z = true) (w2 : (Cond.instanceMethod Lib.objectInit).before a0 Z = true) (w3 : (Cond.code Lib.objectInit ⟨#[0xb1]⟩ 1 none).before a0 Z = true) (eT : T.heap = h) {a : Addr} (hd : In bs pc (.invokespecial idx) 3 nx) (hf : 1 ≤ R.frames) {Wd : Nat} (hW : (st.map fun v => v.category).sum = Wd) (hl : Wd + 12 ≤ R.locals) (k : ∀ T', Stand p l e R s m args below meth c T' locs cells slots → T'.heap = h → Wp p e below s K N Q T' (mkF m nx Ls st)) : Wp p e below s K N Q T (mkF m pc Ls (.ref a :: st)) := by
  obtain ⟨d, rfl⟩ := hd; obtain ⟨T', X', e', st'⟩ := initO X hx hZ hown w1 w2 w3 eT (g := mkF m pc Ls (.ref a :: st)) rfl hml rfl (hb hby d) hf (W := Wd) (by show 2 * 0 + _ ≤ _; omega) hl; exact Wp.go st' (k T' X' e')
/-- a body's contract: called on as' at the heap h it returns as Q says, within the room rm -/
def Con (l : Launch) (Z : State) (y : MethodName) (bs : ByteArray) (ml : Nat) (rt : Option FieldType) (rm : Room) (as' : Array Value) (h : Heap) (Q : Option Value → Heap → List Loc → Prop) : Prop :=
  ∀ ws : List Jvm.Cond, MetFree l y (head1 (Jvm.Cond.code y bs ml rt :: ws) rm) (fun a U => a = as' ∧ Z.Warmed39 U.vm ∧ U.heap = h) (fun _ _ _ _ _ => True) (fun _ U o U' => ∃ v L, o = .returned v ∧ Q v U'.heap L ∧ FrameEnd U o U' L rm.cells rm.slots)
theorem w_body {y : MethodName} {ml : Nat} {rt : Option FieldType} {rm : Room} {as' : Array Value} (hy : plainFor y = true) (hf : ∀ m, entryFrame m as' ml = mkF m 0 Ls [])
    (k : ∀ (p : Program) (e : Env) (s : State) (m : MethodId) (below : List Frame) (meth : Method) (c : Code) (T : State), Stand p l e rm s m as' below meth c T [] 0 0 → p.tables.exec = Jvm.exec → c.code = bs → c.maxLocals = ml → s.vm.findClass y.cls = some m.cls → meth.name = y.name → meth.sig.returnType = rt → meth.locks = false → Z.Warmed39 s.vm → T.heap = h → Wp p e below s rm.cells rm.slots Q T (mkF m 0 Ls [])) : Con l Z y bs ml rt rm as' h Q := by
  intro ws
  refine MetFree.of_bodySF hy hisR ?_
  intro p e s m args below meth c s₁ Bd hml0 hP hK
  obtain ⟨rfl, hZ, hh⟩ := hP
  have e0 : s₁.heap = h := by rw [← hh, Bd.state]; rfl
  rw [hf m]
  exact k p e s m below meth c s₁ (Stand.of_body Bd) Bd.exec Bd.bytes hml0 (findClass_of_methodNamed Bd.named) (name_of_methodNamed Bd.named Bd.method).1 Bd.returns (BodyLoose.notSynchronized Bd) hZ e0
/-- what a call leaves -/
def Called (p : Program) (l : Launch) (e : Env) (R : Room) (s : State) (m : MethodId) (args : Array Value) (below : List Frame) (meth : Method) (c : Code) (T : State) (locs : List Loc) (cells slots : Nat) (rm : Room) (Qc : Option Value → Heap → List Loc → Prop) (pc nx : Nat) (Ls : Array Slot) (stk rest : List Value) : Prop :=
  ∃ v T' L, Stand p l e R s m args below meth c T' (locs ++ L) (cells + rm.cells) (slots + rm.slots) ∧ Qc v T'.heap L ∧ Steps p.tables e below (T.setTop (mkF m pc Ls stk)) (T'.setTop (mkF m nx Ls (v.toList ++ rest)))
theorem call_S (X : Stand p l e R s m args below meth c T locs cells slots) (hx : p.tables.exec = Jvm.exec) (hby : c.code = bs) (hZ : Z.Warmed39 s.vm) {own : String} (hown : s.vm.findClass own = some m.cls) {y : MethodName} {ml : Nat} {rt : Option FieldType} {rm : Room} {as' : Array Value} {Qc : Option Value → Heap → List Loc → Prop} {index : Nat} {argsL rest : List Value} {Wd : Nat} {bs' : ByteArray} (w1 : (Cond.methodLink own index y).before a0 Z = true) (w2 : (Cond.static y).before a0 Z = true) (wz : (Cond.initialized y.cls).before a0 Z = true) (wc : (Cond.code y bs' ml rt).before a0 Z = true) (hy : y.cls ≠ "java/lang/invoke/MethodHandle" ∧ y.cls ≠ "java/lang/invoke/VarHandle") (con : Con l Z y bs' ml rt rm as' h Qc) (ha : argsL.toArray = as') (hd : In bs pc (.invokestatic index) 3 nx) (hsz : Ls.size = c.maxLocals) (hlen : ∀ sig, parseMethodDescriptor y.desc = some sig → argsL.length = sig.parameters.length) (hW : (rest.map fun v => v.category).sum = Wd) (hfr : rm.frames + 1 ≤ R.frames) (hlo : Wd + (ml + 11) + rm.locals ≤ R.locals) (hce : cells + rm.cells ≤ R.cells) (hso : slots + rm.slots ≤ R.slots) (eT : T.heap = h) : Called p l e R s m args below meth c T locs cells slots rm Qc pc nx Ls (argsL.reverse ++ rest) rest := by
  obtain ⟨d, rfl⟩ := hd
  obtain ⟨v, vm, ⟨T', L', k', n'⟩, -, X', ⟨L, q, l', y', z'⟩, st'⟩ := Jvm.LawKit.callS X hx (y := y) hown (mvT hZ w1) (mvT hZ w2) (mvT hZ wz) (mvT hZ wc) hy (backOf (W := Wd) (con []) hZ wc wz hfr hlo) (g := mkF m pc Ls (argsL.reverse ++ rest)) rfl hsz (argsL := argsL) (rest := rest) hlen rfl (by show 2 * 0 + _ ≤ _; omega) (hb hby d) (fun _ _ => ⟨ha, eT, hce, hso⟩)
  dsimp only [Pt.U, Pt.locs, Pt.cells, Pt.slots] at X' l' y' z' st' q
  subst l' y' z'
  exact ⟨v, T', L, X', q, st' _ (Steps.refl _)⟩
theorem call_N (X : Stand p l e R s m args below meth c T locs cells slots) (hx : p.tables.exec = Jvm.exec) (hby : c.code = bs) (hZ : Z.Warmed39 s.vm) {own : String} (hown : s.vm.findClass own = some m.cls) {y : MethodName} {ml : Nat} {rm : Room} {as' : Array Value} {Qc : Option Value → Heap → List Loc → Prop} {index : Nat} {argsL rest : List Value} {Wd : Nat} {bs' : ByteArray} {a : Addr} (hn : y.name = "<init>") (w1 : (Cond.methodLink own index y).before a0 Z = true) (w2 : (Cond.instanceMethod y).before a0 Z = true) (wz : (Cond.initialized y.cls).before a0 Z = true) (wc : (Cond.code y bs' ml none).before a0 Z = true) (hy : y.cls ≠ "java/lang/invoke/MethodHandle" ∧ y.cls ≠ "java/lang/invoke/VarHandle") (con : Con l Z y bs' ml none rm as' h Qc) (ha : (.ref a :: argsL).toArray = as') (hd : In bs pc (.invokespecial index) 3 nx) (hsz : Ls.size = c.maxLocals) (hlen : ∀ sig, parseMethodDescriptor y.desc = some sig → argsL.length = sig.parameters.length) (hW : (rest.map fun v => v.category).sum = Wd) (hfr : rm.frames + 1 ≤ R.frames) (hlo : Wd + (ml + 11) + rm.locals ≤ R.locals) (hce : cells + rm.cells ≤ R.cells) (hso : slots + rm.slots ≤ R.slots) (eT : T.heap = h) : Called p l e R s m args below meth c T locs cells slots rm Qc pc nx Ls (argsL.reverse ++ .ref a :: rest) rest := by
  obtain ⟨d, rfl⟩ := hd
  obtain ⟨v, vm, ⟨T', L', k', n'⟩, -, X', ⟨L, q, l', y', z'⟩, st'⟩ := X.specialBack hx (y := y) hn hown (mvT hZ w1) (mvT hZ w2) (mvT hZ wc) hy (backOf (W := Wd) (con []) hZ wc wz hfr hlo) (g := mkF m pc Ls (argsL.reverse ++ .ref a :: rest)) rfl hsz (Steps.refl _) (a := a) (argsL := argsL) (rest := rest) hlen rfl (by show 2 * 0 + _ ≤ _; omega) (hb hby d) (fun _ _ => ⟨ha, eT, hce, hso⟩)
  dsimp only [Pt.U, Pt.locs, Pt.cells, Pt.slots] at X' l' y' z' st' q
  subst l' y' z'
  exact ⟨v, T', L, X', q, st'⟩
theorem call_V (X : Stand p l e R s m args below meth c T locs cells slots) (hx : p.tables.exec = Jvm.exec) (hby : c.code = bs) (hZ : Z.Warmed39 s.vm) {own : String} (hown : s.vm.findClass own = some m.cls) {y : MethodName} {ml : Nat} {rt : Option FieldType} {rm : Room} {as' : Array Value} {Qc : Option Value → Heap → List Loc → Prop} {index : Nat} {argsL rest : List Value} {Wd : Nat} {bs' : ByteArray} {a : Addr} {C : String} (w1 : (Cond.methodLink own index y).before a0 Z = true) (w2 : (Cond.declares y).before a0 Z = true) (w3 : (Cond.selects C y y).before a0 Z = true) (w4 : (Cond.instanceMethod y).before a0 Z = true) (wz : (Cond.initialized y.cls).before a0 Z = true) (wc : (Cond.code y bs' ml rt).before a0 Z = true) (hy : y.cls ≠ "java/lang/invoke/MethodHandle" ∧ y.cls ≠ "java/lang/invoke/VarHandle") (E : Exa Z h a C) (con : Con l Z y bs' ml rt rm as' h Qc) (ha : (.ref a :: argsL).toArray = as') (hd : In bs pc (.invokevirtual index) 3 nx) (hsz : Ls.size = c.maxLocals) (hlen : ∀ sig, parseMethodDescriptor y.desc = some sig → argsL.length = sig.parameters.length) (hW : (rest.map fun v => v.category).sum = Wd) (hfr : rm.frames + 1 ≤ R.frames) (hlo : Wd + (ml + 11) + rm.locals ≤ R.locals) (hce : cells + rm.cells ≤ R.cells) (hso : slots + rm.slots ≤ R.slots) (eT : T.heap = h) : Called p l e R s m args below meth c T locs cells slots rm Qc pc nx Ls (argsL.reverse ++ .ref a :: rest) rest := by
  obtain ⟨d, rfl⟩ := hd
  obtain ⟨cq, kq, qa, qb, qc⟩ := isOf hZ eT E
  obtain ⟨v, vm, ⟨T', L', k', n'⟩, -, X', ⟨L, q, l', y', z'⟩, st'⟩ := X.virtualBack hx (y := y) (z := y) hown (mvT hZ w1) (mvT hZ w2) (notFace_of_selects (args := #[]) (mvT hZ w3)) (mvT hZ w3) (mvT hZ w4) hy (backOf (W := Wd) (con []) hZ wc wz hfr hlo) qa qc (g := mkF m pc Ls (argsL.reverse ++ .ref a :: rest)) rfl hsz (Steps.refl _) (argsL := argsL) (rest := rest) hlen rfl (by show 2 * 0 + _ ≤ _; omega) (hb hby d) (fun _ _ => ⟨ha, eT, hce, hso⟩)
  dsimp only [Pt.U, Pt.locs, Pt.cells, Pt.slots] at X' l' y' z' st' q
  subst l' y' z'
  exact ⟨v, T', L, X', q, st'⟩
theorem call_U (X : Stand p l e R s m args below meth c T locs cells slots) (hx : p.tables.exec = Jvm.exec) (hby : c.code = bs) (hZ : Z.Warmed39 s.vm) {own : String} (hown : s.vm.findClass own = some m.cls) {y : MethodName} {ml : Nat} {rt : Option FieldType} {rm : Room} {as' : Array Value} {Qc : Option Value → Heap → List Loc → Prop} {index : Nat} {argsL rest : List Value} {Wd : Nat} {bs' : ByteArray} {x : MethodName} {a : Addr} {C owner : String} (w1 : (Cond.methodLink own index x).before a0 Z = true) (w2 : (Cond.sameMethod x.cls owner x.name x.desc).before a0 Z = true) (w5 : (Cond.declares ⟨owner, x.name, x.desc⟩).before a0 Z = true) (ho : owner ≠ "java/lang/invoke/MethodHandle" ∧ owner ≠ "java/lang/invoke/VarHandle") (w3 : (Cond.selects C x y).before a0 Z = true) (w4 : (Cond.instanceMethod y).before a0 Z = true) (wz : (Cond.initialized y.cls).before a0 Z = true) (wc : (Cond.code y bs' ml rt).before a0 Z = true) (E : Exa Z h a C) (con : Con l Z y bs' ml rt rm as' h Qc) (ha : (.ref a :: argsL).toArray = as') (hd : In bs pc (.invokevirtual index) 3 nx) (hsz : Ls.size = c.maxLocals) (hlen : ∀ sig, parseMethodDescriptor x.desc = some sig → argsL.length = sig.parameters.length) (hW : (rest.map fun v => v.category).sum = Wd) (hfr : rm.frames + 1 ≤ R.frames) (hlo : Wd + (ml + 11) + rm.locals ≤ R.locals) (hce : cells + rm.cells ≤ R.cells) (hso : slots + rm.slots ≤ R.slots) (eT : T.heap = h) : Called p l e R s m args below meth c T locs cells slots rm Qc pc nx Ls (argsL.reverse ++ .ref a :: rest) rest := by
  obtain ⟨d, rfl⟩ := hd
  obtain ⟨cq, kq, qa, qb, qc⟩ := isOf hZ eT E
  obtain ⟨v, vm, ⟨T', L', k', n'⟩, -, X', ⟨L, q, l', y', z'⟩, st'⟩ := X.virtualBackUp hx (x := x) (y := y) hown (mvT hZ w1) (mvT hZ w2) (mvT hZ w5) ho (mvT hZ w3) (mvT hZ w4) (backOf (W := Wd) (con []) hZ wc wz hfr hlo) qa qc (g := mkF m pc Ls (argsL.reverse ++ .ref a :: rest)) rfl hsz (Steps.refl _) (argsL := argsL) (rest := rest) hlen rfl (by show 2 * 0 + _ ≤ _; omega) (hb hby d) (fun _ _ => ⟨ha, eT, hce, hso⟩)
  dsimp only [Pt.U, Pt.locs, Pt.cells, Pt.slots] at X' l' y' z' st' q
  subst l' y' z'
  exact ⟨v, T', L, X', q, st'⟩
/-- behind a call -/
theorem w_called {rm : Room} {Qc : Option Value → Heap → List Loc → Prop} {stk rest : List Value} (hc : Called p l e R s m args below meth c T locs cells slots rm Qc pc nx Ls stk rest)
    (k : ∀ v T' L, Stand p l e R s m args below meth c T' (locs ++ L) (cells + rm.cells) (slots + rm.slots) → Qc v T'.heap L → Wp p e below s K N Q T' (mkF m nx Ls (v.toList ++ rest))) : Wp p e below s K N Q T (mkF m pc Ls stk) := by
  obtain ⟨v, T', L, X', q, st'⟩ := hc; exact Wp.tr st' (k v T' L X' q)
/-- behind a call that writes nothing and makes nothing -/
theorem w_calledp {rm : Room} {w : Value} {stk rest : List Value} (hc : Called p l e R s m args below meth c T locs cells slots rm (fun v h' L => v = some w ∧ h' = h ∧ L = []) pc nx Ls stk rest) (h1 : rm.cells = 0) (h2 : rm.slots = 0)
    (k : ∀ T', Stand p l e R s m args below meth c T' locs cells slots → T'.heap = h → Wp p e below s K N Q T' (mkF m nx Ls (w :: rest))) : Wp p e below s K N Q T (mkF m pc Ls stk) := by
  obtain ⟨v, T', L, X', ⟨rfl, q, rfl⟩, st'⟩ := hc
  rw [h1, h2, List.append_nil] at X'
  exact Wp.tr st' (k T' X' q)
theorem w_retI (X : Stand p l e R s m args below meth c T locs cells slots) (hx : p.tables.exec = Jvm.exec) (hby : c.code = bs) (eT : T.heap = h) (hlk : meth.locks = false) {z : Int32} (hret : meth.sig.returnType = some .int) (hd : In bs pc .ireturn 1 nx) (hK : cells ≤ K) (hN : slots ≤ N) (q : Q (some (.int z)) h locs) : Wp p e below s K N Q T (mkF m pc Ls (.int z :: st)) := by
  obtain ⟨fs, hr, hrun, hended, hW, hsame⟩ := X.leave (v := some (.int z)) (fun h => by rw [hret] at h; cases h) hlk
  subst eT
  refine ⟨_, _, ?_, hrun, hended, _, _, rfl, q, ⟨_, rfl⟩, hW, hsame.mono hK hN⟩
  exact retOut X hx hret rfl (Or.inl ⟨rfl, Or.inl rfl, z, rfl⟩) (hb hby hd.1) hr
theorem w_retN (X : Stand p l e R s m args below meth c T locs cells slots) (hx : p.tables.exec = Jvm.exec) (hby : c.code = bs) (eT : T.heap = h) (hlk : meth.locks = false) {z : Int32} {t : FieldType} (hret : meth.sig.returnType = some t) (ht : t = .boolean ∨ t = .byte ∨ t = .char ∨ t = .short) (hd : In bs pc .ireturn 1 nx) (hK : cells ≤ K) (hN : slots ≤ N) (q : Q (some (.int (nar t z))) h locs) : Wp p e below s K N Q T (mkF m pc Ls (.int z :: st)) := by
  obtain ⟨fs, hr, hrun, hended, hW, hsame⟩ := X.leave (v := some (.int (nar t z))) (fun h => by rw [hret] at h; cases h) hlk
  subst eT
  refine ⟨_, _, ?_, hrun, hended, _, _, rfl, q, ⟨_, rfl⟩, hW, hsame.mono hK hN⟩
  exact retN X hx hret ht (hb hby hd.1) hr
theorem w_retJ (X : Stand p l e R s m args below meth c T locs cells slots) (hx : p.tables.exec = Jvm.exec) (hby : c.code = bs) (eT : T.heap = h) (hlk : meth.locks = false) {z : Int64} (hret : meth.sig.returnType = some .long) (hd : In bs pc .lreturn 1 nx) (hK : cells ≤ K) (hN : slots ≤ N) (q : Q (some (.long z)) h locs) : Wp p e below s K N Q T (mkF m pc Ls (.long z :: st)) := by
  obtain ⟨fs, hr, hrun, hended, hW, hsame⟩ := X.leave (v := some (.long z)) (fun h => by rw [hret] at h; cases h) hlk
  subst eT
  refine ⟨_, _, ?_, hrun, hended, _, _, rfl, q, ⟨_, rfl⟩, hW, hsame.mono hK hN⟩
  exact retOut X hx hret rfl (Or.inr (Or.inl ⟨rfl, rfl, z, rfl⟩)) (hb hby hd.1) hr
theorem w_retA (X : Stand p l e R s m args below meth c T locs cells slots) (hx : p.tables.exec = Jvm.exec) (hby : c.code = bs) (eT : T.heap = h) (hlk : meth.locks = false) {w : Value} {t : FieldType} (hret : meth.sig.returnType = some t) (ht : t.isReference = true) (hw : w.isRef = true) (hn : narrow t w = w) (hd : In bs pc .areturn 1 nx) (hK : cells ≤ K) (hN : slots ≤ N) (q : Q (some w) h locs) : Wp p e below s K N Q T (mkF m pc Ls (w :: st)) := by
  obtain ⟨fs, hr, hrun, hended, hW, hsame⟩ := X.leave (v := some w) (fun h => by rw [hret] at h; cases h) hlk
  subst eT
  refine ⟨_, _, ?_, hrun, hended, _, _, rfl, q, ⟨_, rfl⟩, hW, hsame.mono hK hN⟩
  exact retOut X hx hret hn (Or.inr (Or.inr (Or.inr (Or.inr ⟨rfl, ht, hw⟩)))) (hb hby hd.1) hr
theorem w_retV (X : Stand p l e R s m args below meth c T locs cells slots) (hx : p.tables.exec = Jvm.exec) (hby : c.code = bs) (eT : T.heap = h) (hlk : meth.locks = false) (hret : meth.sig.returnType = none) (hd : In bs pc .return_ 1 nx) (hK : cells ≤ K) (hN : slots ≤ N) (q : Q none h locs) : Wp p e below s K N Q T (mkF m pc Ls []) := by
  obtain ⟨fs, hr, hrun, hended, hW, hsame⟩ := X.leave (v := none) (fun _ => rfl) hlk
  subst eT
  refine ⟨_, _, ?_, hrun, hended, _, _, rfl, q, ⟨_, rfl⟩, hW, hsame.mono hK hN⟩
  exact X.returnOut hx hret (hb hby hd.1) hr
theorem own_ns {Z : State} {h : Heap} {a : Addr} {K : String} (E : Exa Z h a K) : ∃ c : Cell, h[a]? = some c ∧ c.vm.isStatics = false := by
  obtain ⟨c, _, h1, -, -, h4, -⟩ := E; exact ⟨c, h1, h4⟩
theorem own_nsV {Z : State} {h : Heap} {a : Addr} {k : ClassId} {ty : FieldType} {n : Int32} {vs : List Value} {dv : Value} (E : Arv Z h a k ty n vs dv) : ∃ c : Cell, h[a]? = some c ∧ c.vm.isStatics = false := by
  obtain ⟨c, A, -⟩ := E; exact ⟨c, A.1, A.plain⟩
theorem own_sta_keep {Z : State} {h h' : Heap} {C n d : String} {v : Value} {ws : List Addr} (F : Sta Z h C n d v) (K : Keep h h' ws) (q : ∀ x ∈ ws, ∃ c : Cell, h[x]? = some c ∧ c.vm.isStatics = false) : Sta Z h' C n d v := by
  obtain ⟨cf, i, k, f, st, cell, h1, h2, h3, h4, h5, h6, h7⟩ := F
  refine ⟨cf, i, k, f, st, cell, h1, h2, h3, h4, K.2.1 _ _ h5 (fun hm => ?_), h6, h7⟩
  obtain ⟨c, e1, e2⟩ := q st hm
  cases h5.symm.trans e1
  rw [h6] at e2; cases e2
theorem own_ext_keep {h h' : Heap} (E : Ext h h') : Keep h h' [] := (Keep.refl h []).ext E
theorem own_keep_ext {h h' : Heap} (K : Keep h h' []) : Ext h h' := ⟨K.1, fun a c q => K.2.1 a c q nin0⟩
end OwnKit
theorem t_0 : (Jvm.Cond.methodLink "com/example/valtab/valtab/sign/SignMeetPinLaw" (26 : Nat) ({ cls := "com/example/valtab/valtab/sign/SignMeetPinLaw", name := "pick", desc := "(I)Lcom/example/valtab/valtab/sign/Sign;" } : Jvm.MethodName)) ∈ tables_1 := List.mem_of_getElem? (i := 0) rfl
theorem t_1 : (Jvm.Cond.static ({ cls := "com/example/valtab/valtab/sign/SignMeetPinLaw", name := "pick", desc := "(I)Lcom/example/valtab/valtab/sign/Sign;" } : Jvm.MethodName)) ∈ tables_1 := List.mem_of_getElem? (i := 1) rfl
theorem t_2 : (Jvm.Cond.initialized "com/example/valtab/valtab/sign/SignMeetPinLaw") ∈ tables_1 := List.mem_of_getElem? (i := 2) rfl
theorem t_3 : (Jvm.Cond.code ({ cls := "com/example/valtab/valtab/sign/SignMeetPinLaw", name := "pick", desc := "(I)Lcom/example/valtab/valtab/sign/Sign;" } : Jvm.MethodName) method_2_code (2 : Nat) (Option.some (Jvm.ClassFile.FieldType.object "com/example/valtab/valtab/sign/Sign"))) ∈ tables_1 := List.mem_of_getElem? (i := 3) rfl
theorem t_4 : (Jvm.Cond.constant "com/example/valtab/valtab/sign/SignMeetPinLaw" (7 : Nat) (2147483647 : Int32)) ∈ tables_1 := List.mem_of_getElem? (i := 4) rfl
theorem t_5 : (Jvm.Cond.fieldLink "com/example/valtab/valtab/sign/SignMeetPinLaw" (8 : Nat) "com/example/valtab/valtab/sign/Sign" "TOP" "Lcom/example/valtab/valtab/sign/Sign;") ∈ tables_1 := List.mem_of_getElem? (i := 5) rfl
theorem t_6 : (Jvm.Cond.initialized "com/example/valtab/valtab/sign/Sign") ∈ tables_1 := List.mem_of_getElem? (i := 6) rfl
theorem t_7 : (Jvm.Cond.laysStatic "com/example/valtab/valtab/sign/Sign" "TOP" "Lcom/example/valtab/valtab/sign/Sign;") ∈ tables_1 := List.mem_of_getElem? (i := 7) rfl
theorem t_8 : (Jvm.Cond.fieldLink "com/example/valtab/valtab/sign/SignMeetPinLaw" (20 : Nat) "com/example/valtab/valtab/sign/Sign" "POSITIVE" "Lcom/example/valtab/valtab/sign/Sign;") ∈ tables_1 := List.mem_of_getElem? (i := 8) rfl
theorem t_9 : (Jvm.Cond.laysStatic "com/example/valtab/valtab/sign/Sign" "POSITIVE" "Lcom/example/valtab/valtab/sign/Sign;") ∈ tables_1 := List.mem_of_getElem? (i := 9) rfl
theorem t_10 : (Jvm.Cond.fieldLink "com/example/valtab/valtab/sign/SignMeetPinLaw" (17 : Nat) "com/example/valtab/valtab/sign/Sign" "ZERO" "Lcom/example/valtab/valtab/sign/Sign;") ∈ tables_1 := List.mem_of_getElem? (i := 10) rfl
theorem t_11 : (Jvm.Cond.laysStatic "com/example/valtab/valtab/sign/Sign" "ZERO" "Lcom/example/valtab/valtab/sign/Sign;") ∈ tables_1 := List.mem_of_getElem? (i := 11) rfl
theorem t_12 : (Jvm.Cond.methodLink "com/example/valtab/valtab/sign/SignMeetPinLaw" (32 : Nat) ({ cls := "com/example/valtab/valtab/sign/Sign", name := "meet", desc := "(Lcom/example/valtab/valtab/sign/Sign;)Lcom/example/valtab/valtab/sign/Sign;" } : Jvm.MethodName)) ∈ tables_1 := List.mem_of_getElem? (i := 12) rfl
theorem t_13 : (Jvm.Cond.declares ({ cls := "com/example/valtab/valtab/sign/Sign", name := "meet", desc := "(Lcom/example/valtab/valtab/sign/Sign;)Lcom/example/valtab/valtab/sign/Sign;" } : Jvm.MethodName)) ∈ tables_1 := List.mem_of_getElem? (i := 13) rfl
theorem t_14 : (Jvm.Cond.instanceMethod ({ cls := "com/example/valtab/valtab/sign/Sign", name := "meet", desc := "(Lcom/example/valtab/valtab/sign/Sign;)Lcom/example/valtab/valtab/sign/Sign;" } : Jvm.MethodName)) ∈ tables_1 := List.mem_of_getElem? (i := 14) rfl
theorem t_15 : (Jvm.Cond.selects "com/example/valtab/valtab/sign/Sign" ({ cls := "com/example/valtab/valtab/sign/Sign", name := "meet", desc := "(Lcom/example/valtab/valtab/sign/Sign;)Lcom/example/valtab/valtab/sign/Sign;" } : Jvm.MethodName) ({ cls := "com/example/valtab/valtab/sign/Sign", name := "meet", desc := "(Lcom/example/valtab/valtab/sign/Sign;)Lcom/example/valtab/valtab/sign/Sign;" } : Jvm.MethodName)) ∈ tables_1 := List.mem_of_getElem? (i := 15) rfl
theorem t_16 : (Jvm.Cond.code ({ cls := "com/example/valtab/valtab/sign/Sign", name := "meet", desc := "(Lcom/example/valtab/valtab/sign/Sign;)Lcom/example/valtab/valtab/sign/Sign;" } : Jvm.MethodName) prog_37_method_6_code (3 : Nat) (Option.some (Jvm.ClassFile.FieldType.object "com/example/valtab/valtab/sign/Sign"))) ∈ tables_1 := List.mem_of_getElem? (i := 16) rfl
theorem t_17 : (Jvm.Cond.fieldLink "com/example/valtab/valtab/sign/Sign" (3 : Nat) "com/example/valtab/valtab/sign/Sign" "TOP" "Lcom/example/valtab/valtab/sign/Sign;") ∈ tables_1 := List.mem_of_getElem? (i := 17) rfl
theorem t_18 : (Jvm.Cond.methodLink "com/example/valtab/valtab/sign/SignMeetPinLaw" (36 : Nat) ({ cls := "com/example/valtab/valtab/sign/SignMeetPinLaw", name := "leq", desc := "(Lcom/example/valtab/valtab/sign/Sign;Lcom/example/valtab/valtab/sign/Sign;)Z" } : Jvm.MethodName)) ∈ tables_1 := List.mem_of_getElem? (i := 18) rfl
theorem t_19 : (Jvm.Cond.static ({ cls := "com/example/valtab/valtab/sign/SignMeetPinLaw", name := "leq", desc := "(Lcom/example/valtab/valtab/sign/Sign;Lcom/example/valtab/valtab/sign/Sign;)Z" } : Jvm.MethodName)) ∈ tables_1 := List.mem_of_getElem? (i := 19) rfl
theorem t_20 : (Jvm.Cond.code ({ cls := "com/example/valtab/valtab/sign/SignMeetPinLaw", name := "leq", desc := "(Lcom/example/valtab/valtab/sign/Sign;Lcom/example/valtab/valtab/sign/Sign;)Z" } : Jvm.MethodName) method_3_code (2 : Nat) (Option.some Jvm.ClassFile.FieldType.boolean)) ∈ tables_1 := List.mem_of_getElem? (i := 20) rfl
theorem t_21 : (Jvm.Cond.fieldLink "com/example/valtab/valtab/sign/SignMeetPinLaw" (23 : Nat) "com/example/valtab/valtab/sign/Sign" "BOTTOM" "Lcom/example/valtab/valtab/sign/Sign;") ∈ tables_1 := List.mem_of_getElem? (i := 21) rfl
theorem t_22 : (Jvm.Cond.laysStatic "com/example/valtab/valtab/sign/Sign" "BOTTOM" "Lcom/example/valtab/valtab/sign/Sign;") ∈ tables_1 := List.mem_of_getElem? (i := 22) rfl
theorem t_23 : (Jvm.Cond.fieldLink "com/example/valtab/valtab/sign/SignMeetPinLaw" (14 : Nat) "com/example/valtab/valtab/sign/Sign" "NEGATIVE" "Lcom/example/valtab/valtab/sign/Sign;") ∈ tables_1 := List.mem_of_getElem? (i := 23) rfl
theorem t_24 : (Jvm.Cond.laysStatic "com/example/valtab/valtab/sign/Sign" "NEGATIVE" "Lcom/example/valtab/valtab/sign/Sign;") ∈ tables_1 := List.mem_of_getElem? (i := 24) rfl
theorem t_25 : (Jvm.Cond.fieldLink "com/example/valtab/valtab/sign/Sign" (16 : Nat) "com/example/valtab/valtab/sign/Sign" "BOTTOM" "Lcom/example/valtab/valtab/sign/Sign;") ∈ tables_1 := List.mem_of_getElem? (i := 25) rfl
theorem n1_0 : In method_2_code 0 (.iload_n 0) 1 1 := ⟨by decide +kernel, rfl⟩
theorem n1_1 : In method_2_code 1 (.ldc 7) 2 3 := ⟨by decide +kernel, rfl⟩
theorem n1_3 : In method_2_code 3 (.iand) 1 4 := ⟨by decide +kernel, rfl⟩
theorem n1_4 : In method_2_code 4 (.iconst 5) 1 5 := ⟨by decide +kernel, rfl⟩
theorem n1_5 : In method_2_code 5 (.irem) 1 6 := ⟨by decide +kernel, rfl⟩
theorem n1_6 : In method_2_code 6 (.istore_n 1) 1 7 := ⟨by decide +kernel, rfl⟩
theorem n1_7 : In method_2_code 7 (.iload_n 1) 1 8 := ⟨by decide +kernel, rfl⟩
theorem n1_8 : Jm method_2_code 8 (.ifCond .ne 7) 7 11 15 := ⟨by decide +kernel, rfl, by decide, by decide⟩
theorem n1_15 : In method_2_code 15 (.iload_n 1) 1 16 := ⟨by decide +kernel, rfl⟩
theorem n1_16 : In method_2_code 16 (.iconst 1) 1 17 := ⟨by decide +kernel, rfl⟩
theorem n1_17 : Jm method_2_code 17 (.if_icmp .ne 7) 7 20 24 := ⟨by decide +kernel, rfl, by decide, by decide⟩
theorem n1_24 : In method_2_code 24 (.iload_n 1) 1 25 := ⟨by decide +kernel, rfl⟩
theorem n1_25 : In method_2_code 25 (.iconst 2) 1 26 := ⟨by decide +kernel, rfl⟩
theorem n1_26 : Jm method_2_code 26 (.if_icmp .ne 7) 7 29 33 := ⟨by decide +kernel, rfl, by decide, by decide⟩
theorem n1_33 : In method_2_code 33 (.iload_n 1) 1 34 := ⟨by decide +kernel, rfl⟩
theorem n1_34 : In method_2_code 34 (.iconst 3) 1 35 := ⟨by decide +kernel, rfl⟩
theorem n1_35 : Jm method_2_code 35 (.if_icmp .ne 7) 7 38 42 := ⟨by decide +kernel, rfl, by decide, by decide⟩
theorem n1_42 : In method_2_code 42 (.getstatic 23) 3 45 := ⟨by decide +kernel, rfl⟩
theorem n1_45 : In method_2_code 45 (.areturn) 1 46 := ⟨by decide +kernel, rfl⟩
theorem n1_38 : In method_2_code 38 (.getstatic 20) 3 41 := ⟨by decide +kernel, rfl⟩
theorem n1_41 : In method_2_code 41 (.areturn) 1 42 := ⟨by decide +kernel, rfl⟩
theorem n1_29 : In method_2_code 29 (.getstatic 17) 3 32 := ⟨by decide +kernel, rfl⟩
theorem n1_32 : In method_2_code 32 (.areturn) 1 33 := ⟨by decide +kernel, rfl⟩
theorem n1_20 : In method_2_code 20 (.getstatic 14) 3 23 := ⟨by decide +kernel, rfl⟩
theorem n1_23 : In method_2_code 23 (.areturn) 1 24 := ⟨by decide +kernel, rfl⟩
theorem n1_11 : In method_2_code 11 (.getstatic 8) 3 14 := ⟨by decide +kernel, rfl⟩
theorem n1_14 : In method_2_code 14 (.areturn) 1 15 := ⟨by decide +kernel, rfl⟩
theorem pn_1 : plainFor (⟨"com/example/valtab/valtab/sign/SignMeetPinLaw", "pick", "(I)Lcom/example/valtab/valtab/sign/Sign;"⟩ : MethodName) = true := plainFor_of_name (by first | (simp [plainName, overriddenIn]; done) | decide +kernel)
theorem n2_0 : In prog_37_method_6_code 0 (.aload_n 0) 1 1 := ⟨by decide +kernel, rfl⟩
theorem n2_1 : In prog_37_method_6_code 1 (.getstatic 3) 3 4 := ⟨by decide +kernel, rfl⟩
theorem n2_4 : Jm prog_37_method_6_code 4 (.if_acmp .ne 8) 8 7 12 := ⟨by decide +kernel, rfl, by decide, by decide⟩
theorem n2_12 : In prog_37_method_6_code 12 (.aload_n 1) 1 13 := ⟨by decide +kernel, rfl⟩
theorem n2_13 : In prog_37_method_6_code 13 (.getstatic 3) 3 16 := ⟨by decide +kernel, rfl⟩
theorem n2_16 : Jm prog_37_method_6_code 16 (.if_acmp .eq 8) 8 19 24 := ⟨by decide +kernel, rfl, by decide, by decide⟩
theorem n2_24 : In prog_37_method_6_code 24 (.aload_n 0) 1 25 := ⟨by decide +kernel, rfl⟩
theorem n2_25 : In prog_37_method_6_code 25 (.astore_n 2) 1 26 := ⟨by decide +kernel, rfl⟩
theorem n2_26 : Jm prog_37_method_6_code 26 (.goto 7) 7 29 33 := ⟨by decide +kernel, rfl, by decide, by decide⟩
theorem n2_33 : In prog_37_method_6_code 33 (.aload_n 2) 1 34 := ⟨by decide +kernel, rfl⟩
theorem n2_34 : In prog_37_method_6_code 34 (.areturn) 1 35 := ⟨by decide +kernel, rfl⟩
theorem n2_19 : In prog_37_method_6_code 19 (.aload_n 1) 1 20 := ⟨by decide +kernel, rfl⟩
theorem n2_20 : In prog_37_method_6_code 20 (.aload_n 0) 1 21 := ⟨by decide +kernel, rfl⟩
theorem n2_21 : Jm prog_37_method_6_code 21 (.if_acmp .ne 8) 8 24 29 := ⟨by decide +kernel, rfl, by decide, by decide⟩
theorem n2_29 : In prog_37_method_6_code 29 (.getstatic 16) 3 32 := ⟨by decide +kernel, rfl⟩
theorem n2_32 : In prog_37_method_6_code 32 (.astore_n 2) 1 33 := ⟨by decide +kernel, rfl⟩
theorem n2_7 : In prog_37_method_6_code 7 (.aload_n 1) 1 8 := ⟨by decide +kernel, rfl⟩
theorem n2_8 : In prog_37_method_6_code 8 (.astore_n 2) 1 9 := ⟨by decide +kernel, rfl⟩
theorem n2_9 : Jm prog_37_method_6_code 9 (.goto 24) 24 12 33 := ⟨by decide +kernel, rfl, by decide, by decide⟩
theorem pn_2 : plainFor (⟨"com/example/valtab/valtab/sign/Sign", "meet", "(Lcom/example/valtab/valtab/sign/Sign;)Lcom/example/valtab/valtab/sign/Sign;"⟩ : MethodName) = true := plainFor_of_name (by first | (simp [plainName, overriddenIn]; done) | decide +kernel)
theorem n3_0 : In method_3_code 0 (.aload_n 0) 1 1 := ⟨by decide +kernel, rfl⟩
theorem n3_1 : In method_3_code 1 (.getstatic 23) 3 4 := ⟨by decide +kernel, rfl⟩
theorem n3_4 : Jm method_3_code 4 (.if_acmp .eq 15) 15 7 19 := ⟨by decide +kernel, rfl, by decide, by decide⟩
theorem n3_19 : In method_3_code 19 (.iconst 1) 1 20 := ⟨by decide +kernel, rfl⟩
theorem n3_20 : Jm method_3_code 20 (.goto 4) 4 23 24 := ⟨by decide +kernel, rfl, by decide, by decide⟩
theorem n3_24 : In method_3_code 24 (.ireturn) 1 25 := ⟨by decide +kernel, rfl⟩
theorem n3_7 : In method_3_code 7 (.aload_n 1) 1 8 := ⟨by decide +kernel, rfl⟩
theorem n3_8 : In method_3_code 8 (.getstatic 8) 3 11 := ⟨by decide +kernel, rfl⟩
theorem n3_11 : Jm method_3_code 11 (.if_acmp .eq 8) 8 14 19 := ⟨by decide +kernel, rfl, by decide, by decide⟩
theorem n3_14 : In method_3_code 14 (.aload_n 0) 1 15 := ⟨by decide +kernel, rfl⟩
theorem n3_15 : In method_3_code 15 (.aload_n 1) 1 16 := ⟨by decide +kernel, rfl⟩
theorem n3_16 : Jm method_3_code 16 (.if_acmp .ne 7) 7 19 23 := ⟨by decide +kernel, rfl, by decide, by decide⟩
theorem n3_23 : In method_3_code 23 (.iconst 0) 1 24 := ⟨by decide +kernel, rfl⟩
theorem pn_3 : plainFor (⟨"com/example/valtab/valtab/sign/SignMeetPinLaw", "leq", "(Lcom/example/valtab/valtab/sign/Sign;Lcom/example/valtab/valtab/sign/Sign;)Z"⟩ : MethodName) = true := plainFor_of_name (by first | (simp [plainName, overriddenIn]; done) | decide +kernel)
theorem n0_0 : In code 0 (.iload_n 0) 1 1 := ⟨at_0, rfl⟩
theorem n0_1 : In code 1 (.invokestatic 26) 3 4 := ⟨at_1, rfl⟩
theorem pd_99499 : parseMethodDescriptor "(I)Lcom/example/valtab/valtab/sign/Sign;" = some ⟨[.int], some (.object "com/example/valtab/valtab/sign/Sign")⟩ := by decide +kernel
theorem n0_4 : In code 4 (.astore_n 3) 1 5 := ⟨at_4, rfl⟩
theorem n0_5 : In code 5 (.iload_n 1) 1 6 := ⟨at_5, rfl⟩
theorem n0_6 : In code 6 (.invokestatic 26) 3 9 := ⟨at_6, rfl⟩
theorem n0_9 : In code 9 (.astore 4) 2 11 := ⟨at_9, rfl⟩
theorem n0_11 : In code 11 (.iload_n 2) 1 12 := ⟨at_11, rfl⟩
theorem n0_12 : In code 12 (.invokestatic 26) 3 15 := ⟨at_12, rfl⟩
theorem n0_15 : In code 15 (.astore 5) 2 17 := ⟨at_15, rfl⟩
theorem n0_17 : In code 17 (.aload_n 3) 1 18 := ⟨at_17, rfl⟩
theorem n0_18 : In code 18 (.aload 4) 2 20 := ⟨at_18, rfl⟩
theorem n0_20 : In code 20 (.invokevirtual 32) 3 23 := ⟨at_20, rfl⟩
theorem pd_318983 : parseMethodDescriptor "(Lcom/example/valtab/valtab/sign/Sign;)Lcom/example/valtab/valtab/sign/Sign;" = some ⟨[(.object "com/example/valtab/valtab/sign/Sign")], some (.object "com/example/valtab/valtab/sign/Sign")⟩ := by decide +kernel
theorem n0_23 : In code 23 (.astore 6) 2 25 := ⟨at_23, rfl⟩
theorem n0_25 : In code 25 (.aload 6) 2 27 := ⟨at_25, rfl⟩
theorem n0_27 : Jm code 27 (.ifnonnull 5) 5 30 32 := ⟨at_27, rfl, by decide, by decide⟩
theorem n0_32 : In code 32 (.aload 6) 2 34 := ⟨at_32, rfl⟩
theorem n0_34 : In code 34 (.aload_n 3) 1 35 := ⟨at_34, rfl⟩
theorem n0_35 : In code 35 (.invokestatic 36) 3 38 := ⟨at_35, rfl⟩
theorem pd_324431 : parseMethodDescriptor "(Lcom/example/valtab/valtab/sign/Sign;Lcom/example/valtab/valtab/sign/Sign;)Z" = some ⟨[(.object "com/example/valtab/valtab/sign/Sign"), (.object "com/example/valtab/valtab/sign/Sign")], some .boolean⟩ := by decide +kernel
theorem n0_38 : Jm code 38 (.ifCond .eq 17) 17 41 55 := ⟨at_38, rfl, by decide, by decide⟩
theorem n0_41 : In code 41 (.aload 6) 2 43 := ⟨at_41, rfl⟩
theorem n0_43 : In code 43 (.aload 4) 2 45 := ⟨at_43, rfl⟩
theorem n0_45 : In code 45 (.invokestatic 36) 3 48 := ⟨at_45, rfl⟩
theorem n0_48 : Jm code 48 (.ifCond .eq 7) 7 51 55 := ⟨at_48, rfl, by decide, by decide⟩
theorem n0_51 : In code 51 (.iconst 1) 1 52 := ⟨at_51, rfl⟩
theorem n0_52 : Jm code 52 (.goto 4) 4 55 56 := ⟨at_52, rfl, by decide, by decide⟩
theorem n0_56 : In code 56 (.istore 7) 2 58 := ⟨at_56, rfl⟩
theorem n0_58 : In code 58 (.aload 5) 2 60 := ⟨at_58, rfl⟩
theorem n0_60 : In code 60 (.aload_n 3) 1 61 := ⟨at_60, rfl⟩
theorem n0_61 : In code 61 (.invokestatic 36) 3 64 := ⟨at_61, rfl⟩
theorem n0_64 : Jm code 64 (.ifCond .eq 23) 23 67 87 := ⟨at_64, rfl, by decide, by decide⟩
theorem n0_87 : In code 87 (.iconst 1) 1 88 := ⟨at_87, rfl⟩
theorem n0_88 : Jm code 88 (.goto 4) 4 91 92 := ⟨at_88, rfl, by decide, by decide⟩
theorem n0_92 : In code 92 (.istore 8) 2 94 := ⟨at_92, rfl⟩
theorem n0_94 : In code 94 (.iload 7) 2 96 := ⟨at_94, rfl⟩
theorem n0_96 : Jm code 96 (.ifCond .eq 12) 12 99 108 := ⟨at_96, rfl, by decide, by decide⟩
theorem n0_99 : In code 99 (.iload 8) 2 101 := ⟨at_99, rfl⟩
theorem n0_101 : Jm code 101 (.ifCond .eq 7) 7 104 108 := ⟨at_101, rfl, by decide, by decide⟩
theorem n0_104 : In code 104 (.iconst 1) 1 105 := ⟨at_104, rfl⟩
theorem n0_105 : Jm code 105 (.goto 4) 4 108 109 := ⟨at_105, rfl, by decide, by decide⟩
theorem n0_109 : In code 109 (.ireturn) 1 110 := ⟨at_109, rfl⟩
theorem n0_67 : In code 67 (.aload 5) 2 69 := ⟨at_67, rfl⟩
theorem n0_69 : In code 69 (.aload 4) 2 71 := ⟨at_69, rfl⟩
theorem n0_71 : In code 71 (.invokestatic 36) 3 74 := ⟨at_71, rfl⟩
theorem n0_74 : Jm code 74 (.ifCond .eq 13) 13 77 87 := ⟨at_74, rfl, by decide, by decide⟩
theorem n0_77 : In code 77 (.aload 5) 2 79 := ⟨at_77, rfl⟩
theorem n0_79 : In code 79 (.aload 6) 2 81 := ⟨at_79, rfl⟩
theorem n0_81 : In code 81 (.invokestatic 36) 3 84 := ⟨at_81, rfl⟩
theorem n0_84 : Jm code 84 (.ifCond .eq 7) 7 87 91 := ⟨at_84, rfl, by decide, by decide⟩
theorem pn_0 : plainFor (⟨"com/example/valtab/valtab/sign/SignMeetPinLaw", "law", "(III)Z"⟩ : MethodName) = true := plainFor_of_name (by first | (simp [plainName, overriddenIn]; done) | decide +kernel)
theorem own_eqI {t : Term} {k : Int32} {args : Array Value} {s : State} (h : (Cond.eq t (.int k)).value args s none s [] = some true) : t.eval args s none [] s = some (.int k) := by
  obtain ⟨x, y, h1, h2, h3, -⟩ := cmp_v (Or.inl h)
  cases (Option.some.inj h2 : (Value.int k) = y)
  cases x <;> first | (have := gotT (Cond.eq_ints h1 h2) h; rw [h1, this]; done) | (simp [Kin, Value.isRef] at h3; done)
theorem own_eqL {t : Term} {k : Int64} {args : Array Value} {s : State} (h : (Cond.eq t (.long k)).value args s none s [] = some true) : t.eval args s none [] s = some (.long k) := by
  obtain ⟨x, y, h1, h2, h3, -⟩ := cmp_v (Or.inl h)
  cases (Option.some.inj h2 : (Value.long k) = y)
  cases x <;> first | (have := gotT (eq_L h1 h2) h; rw [h1, this]; done) | (simp [Kin, Value.isRef] at h3; done)
theorem own_eqR {a b : Term} {y : Addr} {args : Array Value} {s : State} (h : (Cond.eq a b).value args s none s [] = some true) (hb : b.eval args s none [] s = some (.ref y)) : a.eval args s none [] s = some (.ref y) := by
  obtain ⟨x, y', h1, h2, h3, h4⟩ := cmp_v (Or.inl h)
  cases h2.symm.trans hb
  have hx : x.isRef = true := h4.2
  have := gotT (eq_R h1 h2 hx rfl) h
  rw [h1, this]
theorem own_nar1 : nar .boolean 1 = 1 := rfl
theorem own_nar0 : nar .boolean 0 = 0 := rfl
def own_pk (tp ng ze po bo : Addr) (k : Int32) : Addr := if k = 0 then tp else if k = 1 then ng else if k = 2 then ze else if k = 3 then po else bo
def own_meet (tp bo x y : Addr) : Addr := if x = tp then y else if y = tp then x else if y = x then x else bo
def own_leq (tp bo x y : Addr) : Int32 := if x = bo then 1 else if y = tp then 1 else if x = y then 1 else 0
theorem own_pk_exa {Z : State} {h : Heap} {tp ng ze po bo : Addr} {K : String} (h0 : Exa Z h tp K) (h1 : Exa Z h ng K) (h2 : Exa Z h ze K) (h3 : Exa Z h po K) (h4 : Exa Z h bo K) (k : Int32) : Exa Z h (own_pk tp ng ze po bo k) K := by
  unfold own_pk; (repeat' split) <;> assumption
theorem own_lb1 (tp bo x y : Addr) : ¬ own_leq tp bo (own_meet tp bo x y) x = 0 := by
  unfold own_leq own_meet; repeat' split <;> simp_all
theorem own_lb2 (tp bo x y : Addr) : ¬ own_leq tp bo (own_meet tp bo x y) y = 0 := by
  unfold own_leq own_meet; repeat' split <;> simp_all
theorem own_leq_iff (tp bo x y : Addr) : ¬ own_leq tp bo x y = 0 ↔ x = bo ∨ y = tp ∨ x = y := by
  unfold own_leq; repeat' split <;> simp_all
theorem own_glb (tp bo x y c : Addr) (h1 : ¬ own_leq tp bo c x = 0) (h2 : ¬ own_leq tp bo c y = 0) : ¬ own_leq tp bo c (own_meet tp bo x y) = 0 := by
  rw [own_leq_iff] at *
  unfold own_meet
  repeat' split
  all_goals first | assumption | skip
  rename_i a b d
  rcases h1 with h1 | h1 | h1 <;> rcases h2 with h2 | h2 | h2 <;> simp_all

set_option maxRecDepth 65536 in
set_option maxHeartbeats 4000000 in
theorem ef_rm1 (m : MethodId) (x0 : Int32) : entryFrame m #[(.int x0)] 2 = mkF m 0 #[.val (.int x0), .unset] [] := by first | (simp [entryFrame, mkF, argsToLocals, Value.category]; done) | rfl
set_option maxRecDepth 65536 in
set_option maxHeartbeats 40000000 in
theorem rm1 (l : Launch) (Z : State) (a0 : Array Value) (hw : ∀ d ∈ tables_1, d.before a0 Z = true) (tp ng ze po bo : Addr) (k1 : Int32) (h0 : Heap) (S_TOP : Sta Z h0 "com/example/valtab/valtab/sign/Sign" "TOP" "Lcom/example/valtab/valtab/sign/Sign;" (.ref tp)) (S_NEGATIVE : Sta Z h0 "com/example/valtab/valtab/sign/Sign" "NEGATIVE" "Lcom/example/valtab/valtab/sign/Sign;" (.ref ng)) (S_ZERO : Sta Z h0 "com/example/valtab/valtab/sign/Sign" "ZERO" "Lcom/example/valtab/valtab/sign/Sign;" (.ref ze)) (S_POSITIVE : Sta Z h0 "com/example/valtab/valtab/sign/Sign" "POSITIVE" "Lcom/example/valtab/valtab/sign/Sign;" (.ref po)) (S_BOTTOM : Sta Z h0 "com/example/valtab/valtab/sign/Sign" "BOTTOM" "Lcom/example/valtab/valtab/sign/Sign;" (.ref bo)) : Con l Z (⟨"com/example/valtab/valtab/sign/SignMeetPinLaw", "pick", "(I)Lcom/example/valtab/valtab/sign/Sign;"⟩ : MethodName) method_2_code 2 (some (.object "com/example/valtab/valtab/sign/Sign")) ({ frames := 0, cells := 0, slots := 0, locals := 0 } : Room) #[(.int k1)] h0 (fun v h L => v = some (.ref (own_pk tp ng ze po bo ((k1 &&& (2147483647 : Int32)) % (5 : Int32)))) ∧ h = h0 ∧ L = []) := by
  refine w_body (Ls := #[.val (.int k1), .unset]) pn_1 (fun m => ef_rm1 m k1) ?_
  intro p e s m below meth c T0 X0 hx hby hml hown hnm hret hlk hZ e0
  refine w_iloadN X0 hx hby n1_0 rfl ?_
  refine w_ldcI X0 hx hby hZ hown (hw _ t_4) n1_1 ?_
  refine w_iand X0 hx hby n1_3 ?_
  refine w_iconst X0 hx hby (5 : Int32) n1_4 rfl ?_
  refine w_irem X0 hx hby n1_5 (by decide) ?_
  refine w_istoreN X0 hx hby #[.val (.int k1), .val (.int ((k1 &&& (2147483647 : Int32)) % (5 : Int32)))] n1_6 rfl ?_
  refine w_iloadN X0 hx hby n1_7 rfl ?_
  refine f_if_ne X0 hx hby n1_8 (fun q8 => ?_) (fun q8 => ?_)
  · refine w_iloadN X0 hx hby n1_15 rfl ?_
    refine w_iconst X0 hx hby (1 : Int32) n1_16 rfl ?_
    refine f_icmp_ne X0 hx hby n1_17 (fun q17 => ?_) (fun q17 => ?_)
    · refine w_iloadN X0 hx hby n1_24 rfl ?_
      refine w_iconst X0 hx hby (2 : Int32) n1_25 rfl ?_
      refine f_icmp_ne X0 hx hby n1_26 (fun q26 => ?_) (fun q26 => ?_)
      · refine w_iloadN X0 hx hby n1_33 rfl ?_
        refine w_iconst X0 hx hby (3 : Int32) n1_34 rfl ?_
        refine f_icmp_ne X0 hx hby n1_35 (fun q35 => ?_) (fun q35 => ?_)
        · refine w_getS X0 hx hby hZ hown (host := "") (Or.inl (hw _ t_21)) Via.refl e0 S_BOTTOM n1_42 fun T1 X1 e1 => ?_
          refine w_retA X1 hx hby e1 hlk hret rfl rfl rfl n1_45 (by decide) (by decide) ?_
          exact ⟨congrArg (fun q => some (Value.ref q)) (by first | (unfold own_pk; rw [if_neg q8, if_neg q17, if_neg q26, if_neg q35] <;> rfl) | simp [own_pk, own_nar1, own_nar0, q8, q17, q26, q35]), rfl, rfl⟩
        · refine w_getS X0 hx hby hZ hown (host := "") (Or.inl (hw _ t_8)) Via.refl e0 S_POSITIVE n1_38 fun T2 X2 e2 => ?_
          refine w_retA X2 hx hby e2 hlk hret rfl rfl rfl n1_41 (by decide) (by decide) ?_
          exact ⟨congrArg (fun q => some (Value.ref q)) (by first | (unfold own_pk; rw [if_neg q8, if_neg q17, if_neg q26, if_pos q35] <;> rfl) | simp [own_pk, own_nar1, own_nar0, q8, q17, q26, q35]), rfl, rfl⟩
      · refine w_getS X0 hx hby hZ hown (host := "") (Or.inl (hw _ t_10)) Via.refl e0 S_ZERO n1_29 fun T3 X3 e3 => ?_
        refine w_retA X3 hx hby e3 hlk hret rfl rfl rfl n1_32 (by decide) (by decide) ?_
        exact ⟨congrArg (fun q => some (Value.ref q)) (by first | (unfold own_pk; rw [if_neg q8, if_neg q17, if_pos q26] <;> rfl) | simp [own_pk, own_nar1, own_nar0, q8, q17, q26]), rfl, rfl⟩
    · refine w_getS X0 hx hby hZ hown (host := "") (Or.inl (hw _ t_23)) Via.refl e0 S_NEGATIVE n1_20 fun T4 X4 e4 => ?_
      refine w_retA X4 hx hby e4 hlk hret rfl rfl rfl n1_23 (by decide) (by decide) ?_
      exact ⟨congrArg (fun q => some (Value.ref q)) (by first | (unfold own_pk; rw [if_neg q8, if_pos q17] <;> rfl) | simp [own_pk, own_nar1, own_nar0, q8, q17]), rfl, rfl⟩
  · refine w_getS X0 hx hby hZ hown (host := "") (Or.inl (hw _ t_5)) Via.refl e0 S_TOP n1_11 fun T5 X5 e5 => ?_
    refine w_retA X5 hx hby e5 hlk hret rfl rfl rfl n1_14 (by decide) (by decide) ?_
    exact ⟨congrArg (fun q => some (Value.ref q)) (by first | (unfold own_pk; rw [if_pos q8] <;> rfl) | simp [own_pk, own_nar1, own_nar0, q8]), rfl, rfl⟩
set_option maxRecDepth 65536 in
set_option maxHeartbeats 4000000 in
theorem ef_rm2 (m : MethodId) (x0 : Addr) (x1 : Addr) : entryFrame m #[(.ref x0), (.ref x1)] 3 = mkF m 0 #[.val (.ref x0), .val (.ref x1), .unset] [] := by first | (simp [entryFrame, mkF, argsToLocals, Value.category]; done) | rfl
set_option maxRecDepth 65536 in
set_option maxHeartbeats 40000000 in
theorem rm2 (l : Launch) (Z : State) (a0 : Array Value) (hw : ∀ d ∈ tables_1, d.before a0 Z = true) (tp ng ze po bo : Addr) (y1 y2 : Addr) (h0 : Heap) (S_TOP : Sta Z h0 "com/example/valtab/valtab/sign/Sign" "TOP" "Lcom/example/valtab/valtab/sign/Sign;" (.ref tp)) (S_NEGATIVE : Sta Z h0 "com/example/valtab/valtab/sign/Sign" "NEGATIVE" "Lcom/example/valtab/valtab/sign/Sign;" (.ref ng)) (S_ZERO : Sta Z h0 "com/example/valtab/valtab/sign/Sign" "ZERO" "Lcom/example/valtab/valtab/sign/Sign;" (.ref ze)) (S_POSITIVE : Sta Z h0 "com/example/valtab/valtab/sign/Sign" "POSITIVE" "Lcom/example/valtab/valtab/sign/Sign;" (.ref po)) (S_BOTTOM : Sta Z h0 "com/example/valtab/valtab/sign/Sign" "BOTTOM" "Lcom/example/valtab/valtab/sign/Sign;" (.ref bo)) : Con l Z (⟨"com/example/valtab/valtab/sign/Sign", "meet", "(Lcom/example/valtab/valtab/sign/Sign;)Lcom/example/valtab/valtab/sign/Sign;"⟩ : MethodName) prog_37_method_6_code 3 (some (.object "com/example/valtab/valtab/sign/Sign")) ({ frames := 0, cells := 0, slots := 0, locals := 0 } : Room) #[(.ref y1), (.ref y2)] h0 (fun v h L => v = some (.ref (own_meet tp bo y1 y2)) ∧ h = h0 ∧ L = []) := by
  refine w_body (Ls := #[.val (.ref y1), .val (.ref y2), .unset]) pn_2 (fun m => ef_rm2 m y1 y2) ?_
  intro p e s m below meth c T0 X0 hx hby hml hown hnm hret hlk hZ e0
  refine w_aloadN X0 hx hby n2_0 rfl rfl ?_
  refine w_getS X0 hx hby hZ hown (host := "") (Or.inl (hw _ t_17)) Via.refl e0 S_TOP n2_1 fun T1 X1 e1 => ?_
  refine f_acmp_ne X1 hx hby n2_4 (fun q4 => ?_) (fun q4 => ?_)
  · refine w_aloadN X1 hx hby n2_12 rfl rfl ?_
    refine w_getS X1 hx hby hZ hown (host := "") (Or.inl (hw _ t_17)) Via.refl e1 S_TOP n2_13 fun T2 X2 e2 => ?_
    refine f_acmp_eq X2 hx hby n2_16 (fun q16 => ?_) (fun q16 => ?_)
    · refine w_aloadN X2 hx hby n2_24 rfl rfl ?_
      refine w_astoreN X2 hx hby #[.val (.ref y1), .val (.ref y2), .val (.ref y1)] n2_25 rfl rfl ?_
      refine w_goto X2 hx hby n2_26 ?_
      refine w_aloadN X2 hx hby n2_33 rfl rfl ?_
      refine w_retA X2 hx hby e2 hlk hret rfl rfl rfl n2_34 (by decide) (by decide) ?_
      exact ⟨congrArg (fun q => some (Value.ref q)) (by first | (unfold own_meet; rw [if_neg q4, if_pos q16] <;> rfl) | simp [own_meet, own_nar1, own_nar0, q4, q16]), rfl, rfl⟩
    · refine w_aloadN X2 hx hby n2_19 rfl rfl ?_
      refine w_aloadN X2 hx hby n2_20 rfl rfl ?_
      refine f_acmp_ne X2 hx hby n2_21 (fun q21 => ?_) (fun q21 => ?_)
      · refine w_getS X2 hx hby hZ hown (host := "") (Or.inl (hw _ t_25)) Via.refl e2 S_BOTTOM n2_29 fun T3 X3 e3 => ?_
        refine w_astoreN X3 hx hby #[.val (.ref y1), .val (.ref y2), .val (.ref bo)] n2_32 rfl rfl ?_
        refine w_aloadN X3 hx hby n2_33 rfl rfl ?_
        refine w_retA X3 hx hby e3 hlk hret rfl rfl rfl n2_34 (by decide) (by decide) ?_
        exact ⟨congrArg (fun q => some (Value.ref q)) (by first | (unfold own_meet; rw [if_neg q4, if_neg q16, if_neg q21] <;> rfl) | simp [own_meet, own_nar1, own_nar0, q4, q16, q21]), rfl, rfl⟩
      · refine w_aloadN X2 hx hby n2_24 rfl rfl ?_
        refine w_astoreN X2 hx hby #[.val (.ref y1), .val (.ref y2), .val (.ref y1)] n2_25 rfl rfl ?_
        refine w_goto X2 hx hby n2_26 ?_
        refine w_aloadN X2 hx hby n2_33 rfl rfl ?_
        refine w_retA X2 hx hby e2 hlk hret rfl rfl rfl n2_34 (by decide) (by decide) ?_
        exact ⟨congrArg (fun q => some (Value.ref q)) (by first | (unfold own_meet; rw [if_neg q4, if_neg q16, if_pos q21] <;> rfl) | simp [own_meet, own_nar1, own_nar0, q4, q16, q21]), rfl, rfl⟩
  · refine w_aloadN X1 hx hby n2_7 rfl rfl ?_
    refine w_astoreN X1 hx hby #[.val (.ref y1), .val (.ref y2), .val (.ref y2)] n2_8 rfl rfl ?_
    refine w_goto X1 hx hby n2_9 ?_
    refine w_aloadN X1 hx hby n2_33 rfl rfl ?_
    refine w_retA X1 hx hby e1 hlk hret rfl rfl rfl n2_34 (by decide) (by decide) ?_
    exact ⟨congrArg (fun q => some (Value.ref q)) (by first | (unfold own_meet; rw [if_pos q4] <;> rfl) | simp [own_meet, own_nar1, own_nar0, q4]), rfl, rfl⟩
set_option maxRecDepth 65536 in
set_option maxHeartbeats 4000000 in
theorem ef_rm3 (m : MethodId) (x0 : Addr) (x1 : Addr) : entryFrame m #[(.ref x0), (.ref x1)] 2 = mkF m 0 #[.val (.ref x0), .val (.ref x1)] [] := by first | (simp [entryFrame, mkF, argsToLocals, Value.category]; done) | rfl
set_option maxRecDepth 65536 in
set_option maxHeartbeats 40000000 in
theorem rm3 (l : Launch) (Z : State) (a0 : Array Value) (hw : ∀ d ∈ tables_1, d.before a0 Z = true) (tp ng ze po bo : Addr) (y1 y2 : Addr) (h0 : Heap) (S_TOP : Sta Z h0 "com/example/valtab/valtab/sign/Sign" "TOP" "Lcom/example/valtab/valtab/sign/Sign;" (.ref tp)) (S_NEGATIVE : Sta Z h0 "com/example/valtab/valtab/sign/Sign" "NEGATIVE" "Lcom/example/valtab/valtab/sign/Sign;" (.ref ng)) (S_ZERO : Sta Z h0 "com/example/valtab/valtab/sign/Sign" "ZERO" "Lcom/example/valtab/valtab/sign/Sign;" (.ref ze)) (S_POSITIVE : Sta Z h0 "com/example/valtab/valtab/sign/Sign" "POSITIVE" "Lcom/example/valtab/valtab/sign/Sign;" (.ref po)) (S_BOTTOM : Sta Z h0 "com/example/valtab/valtab/sign/Sign" "BOTTOM" "Lcom/example/valtab/valtab/sign/Sign;" (.ref bo)) : Con l Z (⟨"com/example/valtab/valtab/sign/SignMeetPinLaw", "leq", "(Lcom/example/valtab/valtab/sign/Sign;Lcom/example/valtab/valtab/sign/Sign;)Z"⟩ : MethodName) method_3_code 2 (some .boolean) ({ frames := 0, cells := 0, slots := 0, locals := 0 } : Room) #[(.ref y1), (.ref y2)] h0 (fun v h L => v = some (.int (own_leq tp bo y1 y2)) ∧ h = h0 ∧ L = []) := by
  refine w_body (Ls := #[.val (.ref y1), .val (.ref y2)]) pn_3 (fun m => ef_rm3 m y1 y2) ?_
  intro p e s m below meth c T0 X0 hx hby hml hown hnm hret hlk hZ e0
  refine w_aloadN X0 hx hby n3_0 rfl rfl ?_
  refine w_getS X0 hx hby hZ hown (host := "") (Or.inl (hw _ t_21)) Via.refl e0 S_BOTTOM n3_1 fun T1 X1 e1 => ?_
  refine f_acmp_eq X1 hx hby n3_4 (fun q4 => ?_) (fun q4 => ?_)
  · refine w_iconst X1 hx hby (1 : Int32) n3_19 rfl ?_
    refine w_goto X1 hx hby n3_20 ?_
    refine w_retN X1 hx hby e1 hlk hret (by simp) n3_24 (by decide) (by decide) ?_
    exact ⟨congrArg (fun q => some (Value.int q)) (by first | (unfold own_leq; rw [if_pos q4] <;> rfl) | simp [own_leq, own_nar1, own_nar0, q4]), rfl, rfl⟩
  · refine w_aloadN X1 hx hby n3_7 rfl rfl ?_
    refine w_getS X1 hx hby hZ hown (host := "") (Or.inl (hw _ t_5)) Via.refl e1 S_TOP n3_8 fun T2 X2 e2 => ?_
    refine f_acmp_eq X2 hx hby n3_11 (fun q11 => ?_) (fun q11 => ?_)
    · refine w_iconst X2 hx hby (1 : Int32) n3_19 rfl ?_
      refine w_goto X2 hx hby n3_20 ?_
      refine w_retN X2 hx hby e2 hlk hret (by simp) n3_24 (by decide) (by decide) ?_
      exact ⟨congrArg (fun q => some (Value.int q)) (by first | (unfold own_leq; rw [if_neg q4, if_pos q11] <;> rfl) | simp [own_leq, own_nar1, own_nar0, q4, q11]), rfl, rfl⟩
    · refine w_aloadN X2 hx hby n3_14 rfl rfl ?_
      refine w_aloadN X2 hx hby n3_15 rfl rfl ?_
      refine f_acmp_ne X2 hx hby n3_16 (fun q16 => ?_) (fun q16 => ?_)
      · refine w_iconst X2 hx hby (0 : Int32) n3_23 rfl ?_
        refine w_retN X2 hx hby e2 hlk hret (by simp) n3_24 (by decide) (by decide) ?_
        exact ⟨congrArg (fun q => some (Value.int q)) (by first | (unfold own_leq; rw [if_neg q4, if_neg q11, if_neg q16] <;> rfl) | simp [own_leq, own_nar1, own_nar0, q4, q11, q16]), rfl, rfl⟩
      · refine w_iconst X2 hx hby (1 : Int32) n3_19 rfl ?_
        refine w_goto X2 hx hby n3_20 ?_
        refine w_retN X2 hx hby e2 hlk hret (by simp) n3_24 (by decide) (by decide) ?_
        exact ⟨congrArg (fun q => some (Value.int q)) (by first | (unfold own_leq; rw [if_neg q4, if_neg q11, if_pos q16] <;> rfl) | simp [own_leq, own_nar1, own_nar0, q4, q11, q16]), rfl, rfl⟩
set_option maxRecDepth 65536 in
set_option maxHeartbeats 4000000 in
theorem ef_law0 (m : MethodId) (x0 : Int32) (x1 : Int32) (x2 : Int32) : entryFrame m #[(.int x0), (.int x1), (.int x2)] maxLocals = mkF m 0 #[.val (.int x0), .val (.int x1), .val (.int x2), .unset, .unset, .unset, .unset, .unset, .unset] [] := by first | (simp [entryFrame, mkF, argsToLocals, Value.category, maxLocals]; done) | rfl
set_option maxRecDepth 65536 in
set_option maxHeartbeats 40000000 in
theorem law0 (l : Launch) (Z : State) (a0 : Array Value) (hw : ∀ d ∈ tables_1, d.before a0 Z = true) (tp ng ze po bo : Addr) (k1 k2 k3 : Int32) (h0 : Heap) (S_TOP : Sta Z h0 "com/example/valtab/valtab/sign/Sign" "TOP" "Lcom/example/valtab/valtab/sign/Sign;" (.ref tp)) (S_NEGATIVE : Sta Z h0 "com/example/valtab/valtab/sign/Sign" "NEGATIVE" "Lcom/example/valtab/valtab/sign/Sign;" (.ref ng)) (S_ZERO : Sta Z h0 "com/example/valtab/valtab/sign/Sign" "ZERO" "Lcom/example/valtab/valtab/sign/Sign;" (.ref ze)) (S_POSITIVE : Sta Z h0 "com/example/valtab/valtab/sign/Sign" "POSITIVE" "Lcom/example/valtab/valtab/sign/Sign;" (.ref po)) (S_BOTTOM : Sta Z h0 "com/example/valtab/valtab/sign/Sign" "BOTTOM" "Lcom/example/valtab/valtab/sign/Sign;" (.ref bo)) (E_TOP : Exa Z h0 tp "com/example/valtab/valtab/sign/Sign") (E_NEGATIVE : Exa Z h0 ng "com/example/valtab/valtab/sign/Sign") (E_ZERO : Exa Z h0 ze "com/example/valtab/valtab/sign/Sign") (E_POSITIVE : Exa Z h0 po "com/example/valtab/valtab/sign/Sign") (E_BOTTOM : Exa Z h0 bo "com/example/valtab/valtab/sign/Sign") : Con l Z x code maxLocals ret room_1 #[(.int k1), (.int k2), (.int k3)] h0 (fun v h L => v = some (.int 1) ∧ Fr h0.size L) := by
  refine w_body (Ls := #[.val (.int k1), .val (.int k2), .val (.int k3), .unset, .unset, .unset, .unset, .unset, .unset]) pn_0 (fun m => ef_law0 m k1 k2 k3) ?_
  intro p e s m below meth c T0 X0 hx hby hml hown hnm hret hlk hZ e0
  have hml : c.maxLocals = 9 := hml
  refine w_iloadN X0 hx hby n0_0 rfl ?_
  refine w_calledp (call_S X0 hx hby hZ hown (argsL := [(.int k1)]) (rest := []) (Wd := 0) (hw _ t_0) (hw _ t_1) (hw _ t_2) (hw _ t_3) (by decide) (rm1 l Z a0 hw tp ng ze po bo k1 h0 S_TOP S_NEGATIVE S_ZERO S_POSITIVE S_BOTTOM) rfl n0_1 (by rw [hml]; rfl) (lenOf pd_99499 rfl) rfl (by decide) (by decide) (by decide) (by decide) e0) rfl rfl fun T1 X1 e1 => ?_
  refine w_astoreN X1 hx hby #[.val (.int k1), .val (.int k2), .val (.int k3), .val (.ref (own_pk tp ng ze po bo ((k1 &&& (2147483647 : Int32)) % (5 : Int32)))), .unset, .unset, .unset, .unset, .unset] n0_4 rfl rfl ?_
  refine w_iloadN X1 hx hby n0_5 rfl ?_
  refine w_calledp (call_S X1 hx hby hZ hown (argsL := [(.int k2)]) (rest := []) (Wd := 0) (hw _ t_0) (hw _ t_1) (hw _ t_2) (hw _ t_3) (by decide) (rm1 l Z a0 hw tp ng ze po bo k2 h0 S_TOP S_NEGATIVE S_ZERO S_POSITIVE S_BOTTOM) rfl n0_6 (by rw [hml]; rfl) (lenOf pd_99499 rfl) rfl (by decide) (by decide) (by decide) (by decide) e1) rfl rfl fun T2 X2 e2 => ?_
  refine w_astore X2 hx hby #[.val (.int k1), .val (.int k2), .val (.int k3), .val (.ref (own_pk tp ng ze po bo ((k1 &&& (2147483647 : Int32)) % (5 : Int32)))), .val (.ref (own_pk tp ng ze po bo ((k2 &&& (2147483647 : Int32)) % (5 : Int32)))), .unset, .unset, .unset, .unset] n0_9 rfl rfl ?_
  refine w_iloadN X2 hx hby n0_11 rfl ?_
  refine w_calledp (call_S X2 hx hby hZ hown (argsL := [(.int k3)]) (rest := []) (Wd := 0) (hw _ t_0) (hw _ t_1) (hw _ t_2) (hw _ t_3) (by decide) (rm1 l Z a0 hw tp ng ze po bo k3 h0 S_TOP S_NEGATIVE S_ZERO S_POSITIVE S_BOTTOM) rfl n0_12 (by rw [hml]; rfl) (lenOf pd_99499 rfl) rfl (by decide) (by decide) (by decide) (by decide) e2) rfl rfl fun T3 X3 e3 => ?_
  refine w_astore X3 hx hby #[.val (.int k1), .val (.int k2), .val (.int k3), .val (.ref (own_pk tp ng ze po bo ((k1 &&& (2147483647 : Int32)) % (5 : Int32)))), .val (.ref (own_pk tp ng ze po bo ((k2 &&& (2147483647 : Int32)) % (5 : Int32)))), .val (.ref (own_pk tp ng ze po bo ((k3 &&& (2147483647 : Int32)) % (5 : Int32)))), .unset, .unset, .unset] n0_15 rfl rfl ?_
  refine w_aloadN X3 hx hby n0_17 rfl rfl ?_
  refine w_aload X3 hx hby n0_18 rfl rfl ?_
  refine w_calledp (call_V X3 hx hby hZ hown (argsL := [(.ref (own_pk tp ng ze po bo ((k2 &&& (2147483647 : Int32)) % (5 : Int32))))]) (rest := []) (Wd := 0) (a := (own_pk tp ng ze po bo ((k1 &&& (2147483647 : Int32)) % (5 : Int32)))) (hw _ t_12) (hw _ t_13) (hw _ t_15) (hw _ t_14) (hw _ t_6) (hw _ t_16) (by decide) (own_pk_exa E_TOP E_NEGATIVE E_ZERO E_POSITIVE E_BOTTOM _) (rm2 l Z a0 hw tp ng ze po bo (own_pk tp ng ze po bo ((k1 &&& (2147483647 : Int32)) % (5 : Int32))) (own_pk tp ng ze po bo ((k2 &&& (2147483647 : Int32)) % (5 : Int32))) h0 S_TOP S_NEGATIVE S_ZERO S_POSITIVE S_BOTTOM) rfl n0_20 (by rw [hml]; rfl) (lenOf pd_318983 rfl) rfl (by decide) (by decide) (by decide) (by decide) e3) rfl rfl fun T4 X4 e4 => ?_
  refine w_astore X4 hx hby #[.val (.int k1), .val (.int k2), .val (.int k3), .val (.ref (own_pk tp ng ze po bo ((k1 &&& (2147483647 : Int32)) % (5 : Int32)))), .val (.ref (own_pk tp ng ze po bo ((k2 &&& (2147483647 : Int32)) % (5 : Int32)))), .val (.ref (own_pk tp ng ze po bo ((k3 &&& (2147483647 : Int32)) % (5 : Int32)))), .val (.ref (own_meet tp bo (own_pk tp ng ze po bo ((k1 &&& (2147483647 : Int32)) % (5 : Int32))) (own_pk tp ng ze po bo ((k2 &&& (2147483647 : Int32)) % (5 : Int32))))), .unset, .unset] n0_23 rfl rfl ?_
  refine w_aload X4 hx hby n0_25 rfl rfl ?_
  refine w_ifnonnullRef X4 hx hby n0_27 ?_
  refine w_aload X4 hx hby n0_32 rfl rfl ?_
  refine w_aloadN X4 hx hby n0_34 rfl rfl ?_
  refine w_calledp (call_S X4 hx hby hZ hown (argsL := [(.ref (own_meet tp bo (own_pk tp ng ze po bo ((k1 &&& (2147483647 : Int32)) % (5 : Int32))) (own_pk tp ng ze po bo ((k2 &&& (2147483647 : Int32)) % (5 : Int32))))), (.ref (own_pk tp ng ze po bo ((k1 &&& (2147483647 : Int32)) % (5 : Int32))))]) (rest := []) (Wd := 0) (hw _ t_18) (hw _ t_19) (hw _ t_2) (hw _ t_20) (by decide) (rm3 l Z a0 hw tp ng ze po bo (own_meet tp bo (own_pk tp ng ze po bo ((k1 &&& (2147483647 : Int32)) % (5 : Int32))) (own_pk tp ng ze po bo ((k2 &&& (2147483647 : Int32)) % (5 : Int32)))) (own_pk tp ng ze po bo ((k1 &&& (2147483647 : Int32)) % (5 : Int32))) h0 S_TOP S_NEGATIVE S_ZERO S_POSITIVE S_BOTTOM) rfl n0_35 (by rw [hml]; rfl) (lenOf pd_324431 rfl) rfl (by decide) (by decide) (by decide) (by decide) e4) rfl rfl fun T5 X5 e5 => ?_
  refine f_if_eq X5 hx hby n0_38 (fun q38 => by exact absurd q38 (own_lb1 _ _ _ _)) (fun q38 => ?_)
  refine w_aload X5 hx hby n0_41 rfl rfl ?_
  refine w_aload X5 hx hby n0_43 rfl rfl ?_
  refine w_calledp (call_S X5 hx hby hZ hown (argsL := [(.ref (own_meet tp bo (own_pk tp ng ze po bo ((k1 &&& (2147483647 : Int32)) % (5 : Int32))) (own_pk tp ng ze po bo ((k2 &&& (2147483647 : Int32)) % (5 : Int32))))), (.ref (own_pk tp ng ze po bo ((k2 &&& (2147483647 : Int32)) % (5 : Int32))))]) (rest := []) (Wd := 0) (hw _ t_18) (hw _ t_19) (hw _ t_2) (hw _ t_20) (by decide) (rm3 l Z a0 hw tp ng ze po bo (own_meet tp bo (own_pk tp ng ze po bo ((k1 &&& (2147483647 : Int32)) % (5 : Int32))) (own_pk tp ng ze po bo ((k2 &&& (2147483647 : Int32)) % (5 : Int32)))) (own_pk tp ng ze po bo ((k2 &&& (2147483647 : Int32)) % (5 : Int32))) h0 S_TOP S_NEGATIVE S_ZERO S_POSITIVE S_BOTTOM) rfl n0_45 (by rw [hml]; rfl) (lenOf pd_324431 rfl) rfl (by decide) (by decide) (by decide) (by decide) e5) rfl rfl fun T6 X6 e6 => ?_
  refine f_if_eq X6 hx hby n0_48 (fun q48 => by exact absurd q48 (own_lb2 _ _ _ _)) (fun q48 => ?_)
  refine w_iconst X6 hx hby (1 : Int32) n0_51 rfl ?_
  refine w_goto X6 hx hby n0_52 ?_
  refine w_istore X6 hx hby #[.val (.int k1), .val (.int k2), .val (.int k3), .val (.ref (own_pk tp ng ze po bo ((k1 &&& (2147483647 : Int32)) % (5 : Int32)))), .val (.ref (own_pk tp ng ze po bo ((k2 &&& (2147483647 : Int32)) % (5 : Int32)))), .val (.ref (own_pk tp ng ze po bo ((k3 &&& (2147483647 : Int32)) % (5 : Int32)))), .val (.ref (own_meet tp bo (own_pk tp ng ze po bo ((k1 &&& (2147483647 : Int32)) % (5 : Int32))) (own_pk tp ng ze po bo ((k2 &&& (2147483647 : Int32)) % (5 : Int32))))), .val (.int (1 : Int32)), .unset] n0_56 rfl ?_
  refine w_aload X6 hx hby n0_58 rfl rfl ?_
  refine w_aloadN X6 hx hby n0_60 rfl rfl ?_
  refine w_calledp (call_S X6 hx hby hZ hown (argsL := [(.ref (own_pk tp ng ze po bo ((k3 &&& (2147483647 : Int32)) % (5 : Int32)))), (.ref (own_pk tp ng ze po bo ((k1 &&& (2147483647 : Int32)) % (5 : Int32))))]) (rest := []) (Wd := 0) (hw _ t_18) (hw _ t_19) (hw _ t_2) (hw _ t_20) (by decide) (rm3 l Z a0 hw tp ng ze po bo (own_pk tp ng ze po bo ((k3 &&& (2147483647 : Int32)) % (5 : Int32))) (own_pk tp ng ze po bo ((k1 &&& (2147483647 : Int32)) % (5 : Int32))) h0 S_TOP S_NEGATIVE S_ZERO S_POSITIVE S_BOTTOM) rfl n0_61 (by rw [hml]; rfl) (lenOf pd_324431 rfl) rfl (by decide) (by decide) (by decide) (by decide) e6) rfl rfl fun T7 X7 e7 => ?_
  refine f_if_eq X7 hx hby n0_64 (fun q64 => ?_) (fun q64 => ?_)
  · refine w_iconst X7 hx hby (1 : Int32) n0_87 rfl ?_
    refine w_goto X7 hx hby n0_88 ?_
    refine w_istore X7 hx hby #[.val (.int k1), .val (.int k2), .val (.int k3), .val (.ref (own_pk tp ng ze po bo ((k1 &&& (2147483647 : Int32)) % (5 : Int32)))), .val (.ref (own_pk tp ng ze po bo ((k2 &&& (2147483647 : Int32)) % (5 : Int32)))), .val (.ref (own_pk tp ng ze po bo ((k3 &&& (2147483647 : Int32)) % (5 : Int32)))), .val (.ref (own_meet tp bo (own_pk tp ng ze po bo ((k1 &&& (2147483647 : Int32)) % (5 : Int32))) (own_pk tp ng ze po bo ((k2 &&& (2147483647 : Int32)) % (5 : Int32))))), .val (.int (1 : Int32)), .val (.int (1 : Int32))] n0_92 rfl ?_
    refine w_iload X7 hx hby n0_94 rfl ?_
    refine f_if_eq X7 hx hby n0_96 (fun q96 => by exact absurd q96 (by decide)) (fun q96 => ?_)
    refine w_iload X7 hx hby n0_99 rfl ?_
    refine f_if_eq X7 hx hby n0_101 (fun q101 => by exact absurd q101 (by decide)) (fun q101 => ?_)
    refine w_iconst X7 hx hby (1 : Int32) n0_104 rfl ?_
    refine w_goto X7 hx hby n0_105 ?_
    refine w_retN X7 hx hby e7 hlk hret (by simp) n0_109 (by decide) (by decide) ?_
    exact ⟨rfl, Fr.nil _⟩
  · refine w_aload X7 hx hby n0_67 rfl rfl ?_
    refine w_aload X7 hx hby n0_69 rfl rfl ?_
    refine w_calledp (call_S X7 hx hby hZ hown (argsL := [(.ref (own_pk tp ng ze po bo ((k3 &&& (2147483647 : Int32)) % (5 : Int32)))), (.ref (own_pk tp ng ze po bo ((k2 &&& (2147483647 : Int32)) % (5 : Int32))))]) (rest := []) (Wd := 0) (hw _ t_18) (hw _ t_19) (hw _ t_2) (hw _ t_20) (by decide) (rm3 l Z a0 hw tp ng ze po bo (own_pk tp ng ze po bo ((k3 &&& (2147483647 : Int32)) % (5 : Int32))) (own_pk tp ng ze po bo ((k2 &&& (2147483647 : Int32)) % (5 : Int32))) h0 S_TOP S_NEGATIVE S_ZERO S_POSITIVE S_BOTTOM) rfl n0_71 (by rw [hml]; rfl) (lenOf pd_324431 rfl) rfl (by decide) (by decide) (by decide) (by decide) e7) rfl rfl fun T8 X8 e8 => ?_
    refine f_if_eq X8 hx hby n0_74 (fun q74 => ?_) (fun q74 => ?_)
    · refine w_iconst X8 hx hby (1 : Int32) n0_87 rfl ?_
      refine w_goto X8 hx hby n0_88 ?_
      refine w_istore X8 hx hby #[.val (.int k1), .val (.int k2), .val (.int k3), .val (.ref (own_pk tp ng ze po bo ((k1 &&& (2147483647 : Int32)) % (5 : Int32)))), .val (.ref (own_pk tp ng ze po bo ((k2 &&& (2147483647 : Int32)) % (5 : Int32)))), .val (.ref (own_pk tp ng ze po bo ((k3 &&& (2147483647 : Int32)) % (5 : Int32)))), .val (.ref (own_meet tp bo (own_pk tp ng ze po bo ((k1 &&& (2147483647 : Int32)) % (5 : Int32))) (own_pk tp ng ze po bo ((k2 &&& (2147483647 : Int32)) % (5 : Int32))))), .val (.int (1 : Int32)), .val (.int (1 : Int32))] n0_92 rfl ?_
      refine w_iload X8 hx hby n0_94 rfl ?_
      refine f_if_eq X8 hx hby n0_96 (fun q96 => by exact absurd q96 (by decide)) (fun q96 => ?_)
      refine w_iload X8 hx hby n0_99 rfl ?_
      refine f_if_eq X8 hx hby n0_101 (fun q101 => by exact absurd q101 (by decide)) (fun q101 => ?_)
      refine w_iconst X8 hx hby (1 : Int32) n0_104 rfl ?_
      refine w_goto X8 hx hby n0_105 ?_
      refine w_retN X8 hx hby e8 hlk hret (by simp) n0_109 (by decide) (by decide) ?_
      exact ⟨rfl, Fr.nil _⟩
    · refine w_aload X8 hx hby n0_77 rfl rfl ?_
      refine w_aload X8 hx hby n0_79 rfl rfl ?_
      refine w_calledp (call_S X8 hx hby hZ hown (argsL := [(.ref (own_pk tp ng ze po bo ((k3 &&& (2147483647 : Int32)) % (5 : Int32)))), (.ref (own_meet tp bo (own_pk tp ng ze po bo ((k1 &&& (2147483647 : Int32)) % (5 : Int32))) (own_pk tp ng ze po bo ((k2 &&& (2147483647 : Int32)) % (5 : Int32)))))]) (rest := []) (Wd := 0) (hw _ t_18) (hw _ t_19) (hw _ t_2) (hw _ t_20) (by decide) (rm3 l Z a0 hw tp ng ze po bo (own_pk tp ng ze po bo ((k3 &&& (2147483647 : Int32)) % (5 : Int32))) (own_meet tp bo (own_pk tp ng ze po bo ((k1 &&& (2147483647 : Int32)) % (5 : Int32))) (own_pk tp ng ze po bo ((k2 &&& (2147483647 : Int32)) % (5 : Int32)))) h0 S_TOP S_NEGATIVE S_ZERO S_POSITIVE S_BOTTOM) rfl n0_81 (by rw [hml]; rfl) (lenOf pd_324431 rfl) rfl (by decide) (by decide) (by decide) (by decide) e8) rfl rfl fun T9 X9 e9 => ?_
      refine f_if_eq X9 hx hby n0_84 (fun q84 => by exact absurd q84 (own_glb _ _ _ _ _ q64 q74)) (fun q84 => ?_)
      refine w_iconst X9 hx hby (1 : Int32) n0_87 rfl ?_
      refine w_goto X9 hx hby n0_88 ?_
      refine w_istore X9 hx hby #[.val (.int k1), .val (.int k2), .val (.int k3), .val (.ref (own_pk tp ng ze po bo ((k1 &&& (2147483647 : Int32)) % (5 : Int32)))), .val (.ref (own_pk tp ng ze po bo ((k2 &&& (2147483647 : Int32)) % (5 : Int32)))), .val (.ref (own_pk tp ng ze po bo ((k3 &&& (2147483647 : Int32)) % (5 : Int32)))), .val (.ref (own_meet tp bo (own_pk tp ng ze po bo ((k1 &&& (2147483647 : Int32)) % (5 : Int32))) (own_pk tp ng ze po bo ((k2 &&& (2147483647 : Int32)) % (5 : Int32))))), .val (.int (1 : Int32)), .val (.int (1 : Int32))] n0_92 rfl ?_
      refine w_iload X9 hx hby n0_94 rfl ?_
      refine f_if_eq X9 hx hby n0_96 (fun q96 => by exact absurd q96 (by decide)) (fun q96 => ?_)
      refine w_iload X9 hx hby n0_99 rfl ?_
      refine f_if_eq X9 hx hby n0_101 (fun q101 => by exact absurd q101 (by decide)) (fun q101 => ?_)
      refine w_iconst X9 hx hby (1 : Int32) n0_104 rfl ?_
      refine w_goto X9 hx hby n0_105 ?_
      refine w_retN X9 hx hby e9 hlk hret (by simp) n0_109 (by decide) (by decide) ?_
      exact ⟨rfl, Fr.nil _⟩
set_option maxRecDepth 65536 in
set_option maxHeartbeats 40000000 in
theorem comes_1 {Post : Tables → Env → Array Value → State → Outcome → State → Prop} (hpost : ∀ tb e args s v u, (limb_1_1.after args s (.returned v) u = true ∧ limb_1_2.after args s (.returned v) u = true) → FrameEnd s (.returned v) u (Jvm.fieldLocs frame_1_writes args s ++ Jvm.arrayLocs frame_1_arrays args s ++ Jvm.staticLocs frame_1_statics s) 0 0 → Post tb e args s (.returned v) u) :
    ArmFor flags0 classFile x code maxLocals ret World_1 tables_1 room_1 Calls_1 rest_1 Pre_1 Post := by
  intro l hfl _ _ p e ha hc hk s m args below hf hA hF happ hP
  obtain ⟨hcalls, hrest, hpre⟩ := hP
  obtain ⟨-, -, -, hnamed, -, -, -, hat⟩ := (Spec.applies_iff hf).mp happ
  obtain ⟨hg, hn⟩ := and_e (Cond.before_iff.mp (show (Jvm.Cond.and given_1 narrow_1).before args s = true from hpre))
  obtain ⟨hcnt, hg⟩ := and_e hg
  obtain ⟨hg0, hg⟩ := and_e hg
  obtain ⟨hg1, hg⟩ := and_e hg
  have hg2 := hg
  obtain ⟨w0, w1, w2, rfl⟩ : ∃ w0 w1 w2 : Value, args = #[w0, w1, w2] := by
    have hs : args.size = 3 := by simpa [Cond.value, given_1] using hcnt
    obtain ⟨L⟩ := args
    match L, hs with
    | [w0, w1, w2], _ => exact ⟨w0, w1, w2, rfl⟩
  have hw := fun d (hd : d ∈ tables_1) => atoms_spec (ws := Jvm.Cond.code x code maxLocals ret :: tables_1) hat d (List.mem_cons_of_mem _ hd)
  have hfit : Fit s := fun {y c} hc i hi => by
    obtain ⟨ha, rfl⟩ := Array.getElem?_eq_some_iff.mp hc
    have q := List.all_eq_true.mp ((Array.all_eq_true_iff_forall_mem.mp hF) _ (Array.getElem_mem ha)) i (List.mem_range.mpr hi)
    simpa [Array.getElem?_eq_getElem hi] using q
  obtain ⟨i0, ei0⟩ := is_v hg0
  obtain rfl : w0 = (.int i0) := Option.some.inj ei0
  obtain ⟨i1, ei1⟩ := is_v hg1
  obtain rfl : w1 = (.int i1) := Option.some.inj ei1
  obtain ⟨i2, ei2⟩ := is_v hg2
  obtain rfl : w2 = (.int i2) := Option.some.inj ei2
  obtain ⟨hn0, hn⟩ := and_e hn
  obtain ⟨hn1, hn⟩ := and_e hn
  obtain ⟨hn2, hn⟩ := and_e hn
  obtain ⟨hn3, hn⟩ := and_e hn
  obtain ⟨hn4, hn⟩ := and_e hn
  obtain ⟨hn5, hn⟩ := and_e hn
  obtain ⟨hn6, hn⟩ := and_e hn
  obtain ⟨hn7, hn⟩ := and_e hn
  obtain ⟨hn8, hn⟩ := and_e hn
  have hn9 := hn
  obtain ⟨a_TOP, ev_TOP⟩ := exa_v hn0
  have E_TOP : Exa s s.heap a_TOP "com/example/valtab/valtab/sign/Sign" := Exa.start ev_TOP hn0
  have S_TOP : Sta s s.heap "com/example/valtab/valtab/sign/Sign" "TOP" "Lcom/example/valtab/valtab/sign/Sign;" (.ref a_TOP) := Sta.start ev_TOP (Or.inr ⟨hw _ t_6, hw _ t_7⟩)
  obtain ⟨a_POSITIVE, ev_POSITIVE⟩ := exa_v hn1
  have E_POSITIVE : Exa s s.heap a_POSITIVE "com/example/valtab/valtab/sign/Sign" := Exa.start ev_POSITIVE hn1
  have S_POSITIVE : Sta s s.heap "com/example/valtab/valtab/sign/Sign" "POSITIVE" "Lcom/example/valtab/valtab/sign/Sign;" (.ref a_POSITIVE) := Sta.start ev_POSITIVE (Or.inr ⟨hw _ t_6, hw _ t_9⟩)
  obtain ⟨a_ZERO, ev_ZERO⟩ := exa_v hn2
  have E_ZERO : Exa s s.heap a_ZERO "com/example/valtab/valtab/sign/Sign" := Exa.start ev_ZERO hn2
  have S_ZERO : Sta s s.heap "com/example/valtab/valtab/sign/Sign" "ZERO" "Lcom/example/valtab/valtab/sign/Sign;" (.ref a_ZERO) := Sta.start ev_ZERO (Or.inr ⟨hw _ t_6, hw _ t_11⟩)
  obtain ⟨a_BOTTOM, ev_BOTTOM⟩ := exa_v hn3
  have E_BOTTOM : Exa s s.heap a_BOTTOM "com/example/valtab/valtab/sign/Sign" := Exa.start ev_BOTTOM hn3
  have S_BOTTOM : Sta s s.heap "com/example/valtab/valtab/sign/Sign" "BOTTOM" "Lcom/example/valtab/valtab/sign/Sign;" (.ref a_BOTTOM) := Sta.start ev_BOTTOM (Or.inr ⟨hw _ t_6, hw _ t_22⟩)
  obtain ⟨a_NEGATIVE, ev_NEGATIVE⟩ := exa_v hn8
  have E_NEGATIVE : Exa s s.heap a_NEGATIVE "com/example/valtab/valtab/sign/Sign" := Exa.start ev_NEGATIVE hn8
  have S_NEGATIVE : Sta s s.heap "com/example/valtab/valtab/sign/Sign" "NEGATIVE" "Lcom/example/valtab/valtab/sign/Sign;" (.ref a_NEGATIVE) := Sta.start ev_NEGATIVE (Or.inr ⟨hw _ t_6, hw _ t_24⟩)
  have F_POSITIVE_ordinal : Fld s s.heap a_POSITIVE "java/lang/Enum" "ordinal" "I" (.int (3 : Int32)) := Fld.start ((fld_at ev_POSITIVE).symm.trans (own_eqI hn4))
  have F_BOTTOM_ordinal : Fld s s.heap a_BOTTOM "java/lang/Enum" "ordinal" "I" (.int (4 : Int32)) := Fld.start ((fld_at ev_BOTTOM).symm.trans (own_eqI hn5))
  have F_TOP_ordinal : Fld s s.heap a_TOP "java/lang/Enum" "ordinal" "I" (.int (0 : Int32)) := Fld.start ((fld_at ev_TOP).symm.trans (own_eqI hn6))
  have F_ZERO_ordinal : Fld s s.heap a_ZERO "java/lang/Enum" "ordinal" "I" (.int (2 : Int32)) := Fld.start ((fld_at ev_ZERO).symm.trans (own_eqI hn7))
  have F_NEGATIVE_ordinal : Fld s s.heap a_NEGATIVE "java/lang/Enum" "ordinal" "I" (.int (1 : Int32)) := Fld.start ((fld_at ev_NEGATIVE).symm.trans (own_eqI hn9))
  obtain ⟨n, o, h1, h2, h3, _, L, rfl, ⟨rfl, N⟩, hq⟩ := law0 l s _ hw a_TOP a_NEGATIVE a_ZERO a_POSITIVE a_BOTTOM i0 i1 i2 s.heap S_TOP S_NEGATIVE S_ZERO S_POSITIVE S_BOTTOM E_TOP E_NEGATIVE E_ZERO E_POSITIVE E_BOTTOM tables_1 p e ha hc hk s m _ below hf ((Spec.applies_iff_loose hf).mp happ).1 ⟨rfl, State.Warmed39.refl s, rfl⟩ trivial
  exact ⟨n, _, h1, h2, h3, hpost _ _ _ _ _ _ ⟨Cond.after_iff.mpr rfl, Cond.after_iff.mpr (eq_i res_at (Term.int_eval (1)) rfl)⟩ ⟨hq.1, hq.2.1, (hq.2.2.sift fun y hy => Or.inr (N y hy)).mono (by decide) (by decide)⟩⟩
theorem main_1_1 : Claimed_1_1 := comes_1 fun _ _ _ _ _ _ h hF => ⟨h.1, hF⟩
theorem main_1_2 : Claimed_1_2 := comes_1 fun _ _ _ _ _ _ h hF => ⟨h.2, hF⟩
end Jvm.Pilot.@@N@@
namespace Jvm.Pilot.@@N@@
open Jvm Jvm.ClassFile Sem Op Lib Jvm.Free Jvm.Stand Jvm.Pilot.@@N@@.Jvm.D
/-! MADE BY PROGRAM (witnessworld.py) out of the Statement's table words and the real class files: 12 classes; the members and pool entries that the words name. The judged class is class 1, her method 3. -/
namespace start1
open Jvm.ClassFile
def u (s : String) : CpInfo := .utf8 (stringToUtf16 s)
/-- a pool by its gaps: so many unusable entries, then the entry; so many at the end -/
def gap : Nat → List CpInfo → List CpInfo
  | 0, r => r
  | n + 1, r => .unusable :: gap n r
def poolList (es : List (Nat × CpInfo)) (last : Nat) : List CpInfo := es.foldr (fun e r => gap e.1 (e.2 :: r)) (gap last [])
def pool (es : List (Nat × CpInfo)) (last : Nat) : Array CpInfo := ⟨poolList es last⟩
def fileOf (pool : Array CpInfo) (this : Nat) (attrs : Array Attribute := #[]) (ms : Array MethodInfo := #[]) (fl : Nat := 33) (sup : Nat := 0) (ifs : Array Nat := #[]) (fds : Array FieldInfo := #[]) : ClassFile where
  minorVersion := 0
  majorVersion := 65
  constantPool := pool
  accessFlags := fl
  thisClass := this
  superClass := sup
  interfaces := ifs
  fields := fds
  methods := ms
  attributes := attrs
def plain (name : String) (sup : Option ClassId) : Class where
  name := name
  kind := .ordinary
  loader := none
  accessFlags := 33
  super := sup
  interfaces := #[]
  cf := none
  fields := #[]
  methods := #[]
  instanceTypes := #[]
  staticTypes := #[]
  resolved := #[]
  callSites := []
  init := .initialized
  statics := none
  mirror := none

def pool0 : Array CpInfo := pool [(5, u "<init>"), (0, u "()V"), (1, .class_ 10), (1, u "java/lang/Object")] 113

def k0m0 : Method := { name := "<init>", desc := "()V", sig := { parameters := [], returnType := none }, accessFlags := 1, code := none }
/-- java/lang/Object -/
def k0 : Class := { plain "java/lang/Object" none with
  accessFlags := 33
  interfaces := #[]
  cf := some (fileOf pool0 8 #[] #[{ accessFlags := 1, nameIndex := 5, descriptorIndex := 6, attributes := #[] }] 33 0 #[] #[])
  fields := #[]
  methods := #[k0m0]
  instanceTypes := #[]
  staticTypes := #[]
  resolved := Array.replicate 124 none
  statics := none }

def pool1 : Array CpInfo := pool [(2, .class_ 4), (1, u "java/lang/Object"), (0, u "<init>"), (0, u "()V"), (0, .integer 2147483647), (0, .fieldref 9 10), (0, .class_ 11), (0, .nameAndType 12 13), (0, u "com/example/valtab/valtab/sign/Sign"), (0, u "TOP"), (0, u "Lcom/example/valtab/valtab/sign/Sign;"), (0, .fieldref 9 15), (0, .nameAndType 16 13), (0, u "NEGATIVE"), (0, .fieldref 9 18), (0, .nameAndType 19 13), (0, u "ZERO"), (0, .fieldref 9 21), (0, .nameAndType 22 13), (0, u "POSITIVE"), (0, .fieldref 9 24), (0, .nameAndType 25 13), (0, u "BOTTOM"), (0, .methodref 27 28), (0, .class_ 29), (0, .nameAndType 30 31), (0, u "com/example/valtab/valtab/sign/SignMeetPinLaw"), (0, u "pick"), (0, u "(I)Lcom/example/valtab/valtab/sign/Sign;"), (0, .methodref 9 33), (0, .nameAndType 34 35), (0, u "meet"), (0, u "(Lcom/example/valtab/valtab/sign/Sign;)Lcom/example/valtab/valtab/sign/Sign;"), (0, .methodref 27 37), (0, .nameAndType 38 39), (0, u "leq"), (0, u "(Lcom/example/valtab/valtab/sign/Sign;Lcom/example/valtab/valtab/sign/Sign;)Z"), (3, u "law"), (0, u "(III)Z")] 2

def k1m0 : Method := { name := "<init>", desc := "()V", sig := { parameters := [], returnType := none }, accessFlags := 1, code := none }
def k1c1 : Code := { maxStack := 2, maxLocals := 2, code := method_2_code, exceptionTable := #[], attributes := #[] }
def k1m1 : Method := { name := "pick", desc := "(I)Lcom/example/valtab/valtab/sign/Sign;", sig := { parameters := [.int], returnType := some (.object "com/example/valtab/valtab/sign/Sign") }, accessFlags := 10, code := some k1c1 }
def k1c2 : Code := { maxStack := 2, maxLocals := 2, code := method_3_code, exceptionTable := #[], attributes := #[] }
def k1m2 : Method := { name := "leq", desc := "(Lcom/example/valtab/valtab/sign/Sign;Lcom/example/valtab/valtab/sign/Sign;)Z", sig := { parameters := [(.object "com/example/valtab/valtab/sign/Sign"), (.object "com/example/valtab/valtab/sign/Sign")], returnType := some .boolean }, accessFlags := 10, code := some k1c2 }
def k1c3 : Code := { maxStack := 2, maxLocals := 9, code := code, exceptionTable := #[], attributes := #[] }
def k1m3 : Method := { name := "law", desc := "(III)Z", sig := { parameters := [.int, .int, .int], returnType := some .boolean }, accessFlags := 9, code := some k1c3 }
/-- com/example/valtab/valtab/sign/SignMeetPinLaw -/
def k1 : Class := { plain "com/example/valtab/valtab/sign/SignMeetPinLaw" (some 0) with
  accessFlags := 49
  interfaces := #[]
  cf := some (fileOf pool1 27 #[] #[{ accessFlags := 1, nameIndex := 5, descriptorIndex := 6, attributes := #[] }, { accessFlags := 10, nameIndex := 30, descriptorIndex := 31, attributes := #[] }, { accessFlags := 10, nameIndex := 38, descriptorIndex := 39, attributes := #[] }, { accessFlags := 9, nameIndex := 43, descriptorIndex := 44, attributes := #[] }] 49 2 #[] #[])
  fields := #[]
  methods := #[k1m0, k1m1, k1m2, k1m3]
  instanceTypes := #[]
  staticTypes := #[]
  resolved := Array.replicate 47 none
  statics := none }

def pool2 : Array CpInfo := pool [(1, .class_ 2), (0, u "java/lang/constant/Constable"), (0, .class_ 4), (0, u "java/lang/Object")] 6

/-- java/lang/constant/Constable -/
def k2 : Class := { plain "java/lang/constant/Constable" (some 0) with
  accessFlags := 1537
  interfaces := #[]
  cf := some (fileOf pool2 1 #[] #[] 1537 3 #[] #[])
  fields := #[]
  methods := #[]
  instanceTypes := #[]
  staticTypes := #[]
  resolved := Array.replicate 11 none
  statics := none }

def pool3 : Array CpInfo := pool [(1, .class_ 2), (0, u "java/lang/Comparable"), (0, .class_ 4), (0, u "java/lang/Object")] 7

/-- java/lang/Comparable -/
def k3 : Class := { plain "java/lang/Comparable" (some 0) with
  accessFlags := 1537
  interfaces := #[]
  cf := some (fileOf pool3 1 #[] #[] 1537 3 #[] #[])
  fields := #[]
  methods := #[]
  instanceTypes := #[]
  staticTypes := #[]
  resolved := Array.replicate 12 none
  statics := none }

def pool4 : Array CpInfo := pool [(1, .class_ 2), (0, u "java/io/Serializable"), (0, .class_ 4), (0, u "java/lang/Object")] 2

/-- java/io/Serializable -/
def k4 : Class := { plain "java/io/Serializable" (some 0) with
  accessFlags := 1537
  interfaces := #[]
  cf := some (fileOf pool4 1 #[] #[] 1537 3 #[] #[])
  fields := #[]
  methods := #[]
  instanceTypes := #[]
  staticTypes := #[]
  resolved := Array.replicate 7 none
  statics := none }

def pool5 : Array CpInfo := pool [(2, .class_ 4), (1, u "java/lang/Enum"), (0, u "name"), (0, u "Ljava/lang/String;"), (2, u "ordinal"), (0, u "I"), (1, .class_ 14), (1, u "java/lang/Object"), (4, u "hash"), (86, .class_ 108), (1, u "java/lang/Enum$EnumDesc"), (2, .class_ 112), (0, u "java/lang/constant/Constable"), (0, .class_ 114), (0, u "java/lang/Comparable"), (0, .class_ 116), (0, u "java/io/Serializable")] 87

/-- java/lang/Enum -/
def k5 : Class := { plain "java/lang/Enum" (some 0) with
  accessFlags := 1057
  interfaces := #[2, 3, 4]
  cf := some (fileOf pool5 2 #[.nestMembers #[106]] #[] 1057 12 #[111, 113, 115] #[{ accessFlags := 18, nameIndex := 5, descriptorIndex := 6, attributes := #[] }, { accessFlags := 18, nameIndex := 9, descriptorIndex := 10, attributes := #[] }, { accessFlags := 2, nameIndex := 19, descriptorIndex := 10, attributes := #[] }])
  fields := #[{ name := "name", type := (.object "java/lang/String"), accessFlags := 18, slot := 0, constantValue := 0 }, { name := "ordinal", type := .int, accessFlags := 18, slot := 1, constantValue := 0 }, { name := "hash", type := .int, accessFlags := 2, slot := 2, constantValue := 0 }]
  methods := #[]
  instanceTypes := #[(.object "java/lang/String"), .int, .int]
  staticTypes := #[]
  resolved := Array.replicate 204 none
  statics := none }

def pool6 : Array CpInfo := pool [(1, .class_ 2), (0, u "com/example/valtab/valtab/sign/Sign"), (0, .fieldref 1 4), (0, .nameAndType 5 6), (0, u "TOP"), (0, u "Lcom/example/valtab/valtab/sign/Sign;"), (2, u "NEGATIVE"), (2, u "ZERO"), (2, u "POSITIVE"), (0, .fieldref 1 17), (0, .nameAndType 18 6), (0, u "BOTTOM"), (2, u "$VALUES"), (0, u "[Lcom/example/valtab/valtab/sign/Sign;"), (6, .class_ 31), (1, u "java/lang/Enum"), (8, u "symbol"), (0, u "Ljava/lang/String;"), (7, u "(Lcom/example/valtab/valtab/sign/Sign;)Lcom/example/valtab/valtab/sign/Sign;"), (33, u "meet")] 7

def k6c0 : Code := { maxStack := 2, maxLocals := 3, code := prog_37_method_6_code, exceptionTable := #[], attributes := #[] }
def k6m0 : Method := { name := "meet", desc := "(Lcom/example/valtab/valtab/sign/Sign;)Lcom/example/valtab/valtab/sign/Sign;", sig := { parameters := [(.object "com/example/valtab/valtab/sign/Sign")], returnType := some (.object "com/example/valtab/valtab/sign/Sign") }, accessFlags := 1, code := some k6c0 }
/-- com/example/valtab/valtab/sign/Sign -/
def k6 : Class := { plain "com/example/valtab/valtab/sign/Sign" (some 5) with
  accessFlags := 16433
  interfaces := #[]
  cf := some (fileOf pool6 1 #[] #[{ accessFlags := 1, nameIndex := 83, descriptorIndex := 49, attributes := #[] }] 16433 29 #[] #[{ accessFlags := 16409, nameIndex := 5, descriptorIndex := 6, attributes := #[] }, { accessFlags := 16409, nameIndex := 9, descriptorIndex := 6, attributes := #[] }, { accessFlags := 16409, nameIndex := 12, descriptorIndex := 6, attributes := #[] }, { accessFlags := 16409, nameIndex := 15, descriptorIndex := 6, attributes := #[] }, { accessFlags := 16409, nameIndex := 18, descriptorIndex := 6, attributes := #[] }, { accessFlags := 18, nameIndex := 40, descriptorIndex := 41, attributes := #[] }, { accessFlags := 4122, nameIndex := 21, descriptorIndex := 22, attributes := #[] }])
  fields := #[{ name := "TOP", type := (.object "com/example/valtab/valtab/sign/Sign"), accessFlags := 16409, slot := 0, constantValue := 0 }, { name := "NEGATIVE", type := (.object "com/example/valtab/valtab/sign/Sign"), accessFlags := 16409, slot := 1, constantValue := 0 }, { name := "ZERO", type := (.object "com/example/valtab/valtab/sign/Sign"), accessFlags := 16409, slot := 2, constantValue := 0 }, { name := "POSITIVE", type := (.object "com/example/valtab/valtab/sign/Sign"), accessFlags := 16409, slot := 3, constantValue := 0 }, { name := "BOTTOM", type := (.object "com/example/valtab/valtab/sign/Sign"), accessFlags := 16409, slot := 4, constantValue := 0 }, { name := "symbol", type := (.object "java/lang/String"), accessFlags := 18, slot := 3, constantValue := 0 }, { name := "$VALUES", type := (.array (.object "com/example/valtab/valtab/sign/Sign")), accessFlags := 4122, slot := 5, constantValue := 0 }]
  methods := #[k6m0]
  instanceTypes := #[(.object "java/lang/String"), .int, .int, (.object "java/lang/String")]
  staticTypes := #[(.object "com/example/valtab/valtab/sign/Sign"), (.object "com/example/valtab/valtab/sign/Sign"), (.object "com/example/valtab/valtab/sign/Sign"), (.object "com/example/valtab/valtab/sign/Sign"), (.object "com/example/valtab/valtab/sign/Sign"), (.array (.object "com/example/valtab/valtab/sign/Sign"))]
  resolved := Array.replicate 91 none
  statics := some 0 }

def pool7 : Array CpInfo := pool [(1, u "java/lang/Cloneable"), (0, .class_ 1), (0, u "java/lang/Object"), (0, .class_ 3)] 3

/-- java/lang/Cloneable -/
def k7 : Class := { plain "java/lang/Cloneable" (some 0) with
  accessFlags := 1537
  interfaces := #[]
  cf := some (fileOf pool7 2 #[] #[] 1537 4 #[] #[])
  fields := #[]
  methods := #[]
  instanceTypes := #[]
  staticTypes := #[]
  resolved := Array.replicate 8 none
  statics := none }

/-- the primitive byte -/
def k8 : Class := { plain "byte" none with kind := .primitive 'B', accessFlags := 0x411 }
/-- [B -/
def k9 : Class := { plain "[B" (some 0) with kind := .array 8 .byte, interfaces := #[7, 4], accessFlags := 1041 }

/-- the primitive int -/
def k10 : Class := { plain "int" none with kind := .primitive 'I', accessFlags := 0x411 }
/-- [I -/
def k11 : Class := { plain "[I" (some 0) with kind := .array 10 .int, interfaces := #[7, 4], accessFlags := 1041 }

def heap : Heap := #[{ cls := 6, slots := #[.ref 1, .ref 2, .ref 3, .ref 4, .ref 5, .null], vm := .statics 6 },
  { cls := 6, slots := #[.null, .int 0, .int 0, .null], vm := .none },
  { cls := 6, slots := #[.null, .int 1, .int 0, .null], vm := .none },
  { cls := 6, slots := #[.null, .int 2, .int 0, .null], vm := .none },
  { cls := 6, slots := #[.null, .int 3, .int 0, .null], vm := .none },
  { cls := 6, slots := #[.null, .int 4, .int 0, .null], vm := .none }]
def classes : Array Class := #[k0, k1, k2, k3, k4, k5, k6, k7, k8, k9, k10, k11]
def interned : List (Array UInt16 × Addr) := []
def slotsUsed : Nat := 26
def theMethod : MethodId := ⟨1, 3⟩
def args0 : Array Value := #[.int 1, .int 2, .int 3]
def aboutOver (below : List Frame) : State where
  vm := { classes := classes, interned := interned.toArray }
  heap := heap
  slotsUsed := slotsUsed
  threads := #[{ frames := .invoking theMethod args0 :: below }]
def below0 : List Frame := [.native { method := ⟨0, 0⟩, args := #[] }]
def about1 : State := aboutOver below0
def p0 : Program := .bare "" "" ""
def e0 : Env := launch0.env 0 0 0
theorem w_frames : about1.frames = Frame.invoking theMethod args0 :: below0 := rfl
set_option maxRecDepth 65536 in
theorem w_args : argsFit about1.vm theMethod args0 = true := by decide +kernel
set_option maxRecDepth 65536 in
theorem w_heap : heapFits about1 = true := by decide +kernel
set_option maxRecDepth 65536 in
theorem w_runnable : about1.curStatus? = some .runnable := by decide +kernel
set_option maxRecDepth 65536 in
theorem w_alone : about1.alone = true := by decide +kernel
set_option maxRecDepth 65536 in
theorem w_named : about1.methodNamed? x = some theMethod := by decide +kernel
set_option maxRecDepth 65536 in
theorem w_hears : about1.hears theMethod below0 = true := by decide +kernel
set_option maxRecDepth 65536 in
theorem w_ripe : about1.ripe theMethod args0 below0 = true := by decide +kernel
theorem w_running : about1.status = .running := rfl
set_option maxRecDepth 65536 in
theorem w_room : about1.hasRoom e0.platform room_1 = true :=
  launch0.hasRoom_least _ room_1 (by decide +kernel) (by decide +kernel) (by decide +kernel) (by decide +kernel) (by decide +kernel) (by decide +kernel)
theorem allAtoms_all (ts : List Jvm.Cond) (a : Array Jvm.Value) (st : Jvm.State) : (allAtoms ts).before a st = ts.all (fun c => c.before a st) := by
  induction ts with
  | nil => rfl
  | cons c t ih =>
    show (Jvm.Cond.and c (allAtoms t)).before a st = _
    rw [Jvm.Cond.before_and, ih, List.all_cons]
def words1 : List Jvm.Cond := Jvm.Cond.code x code maxLocals ret :: tables_1
/-- a 'code' word, met by the world's own term for the bytes: nothing is compared byte by byte -/
theorem code_word {y : MethodName} {bytes : ByteArray} {mx : Nat} {rt : Option FieldType} {a : Array Value} {s : State} {m : MethodId} {meth : Method} {c : Code} (h1 : s.methodNamed? y = some m) (h2 : s.vm.method? m = some meth) (h3 : meth.code = some c) (h4 : c.code = bytes)
    (h5 : (c.maxLocals == mx && c.exceptionTable.isEmpty && decide (c.maxStack ≤ mostOperands) && decide (meth.sig.returnType = rt) && !meth.locks && decide (parseMethodDescriptor y.desc = some meth.sig)) = true) : (Jvm.Cond.code y bytes mx rt).before a s = true := by
  simp only [Bool.and_eq_true, beq_iff_eq, Bool.not_eq_true', decide_eq_true_eq] at h5
  obtain ⟨⟨⟨⟨⟨g1, g2⟩, g3⟩, g4⟩, g5⟩, g6⟩ := h5
  simp [Cond.before, Cond.holds, Cond.value, h1, h2, h3, h4, g1, g2, g3, g4, g5, g6]
def isCode : Jvm.Cond → Bool
  | .code _ _ _ _ => true
  | _ => false
theorem all_split {L : List Jvm.Cond} {P : Jvm.Cond → Bool} (h1 : L.all (fun c => isCode c || P c) = true) (h2 : ∀ c ∈ L.filter isCode, P c = true) : L.all P = true := by
  refine List.all_eq_true.mpr fun c hc => ?_
  have h := List.all_eq_true.mp h1 c hc
  rcases Bool.eq_false_or_eq_true (isCode c) with hi | hi
  · exact h2 c (List.mem_filter.mpr ⟨hc, hi⟩)
  · simpa [hi] using h
set_option maxRecDepth 65536 in
theorem w_c0 : (Jvm.Cond.code x code maxLocals ret).before args0 about1 = true := code_word (m := ⟨1, 3⟩) (meth := k1m3) (c := k1c3) (by decide +kernel) rfl rfl rfl (by decide +kernel)
set_option maxRecDepth 65536 in
theorem w_c1 : (Jvm.Cond.code ({ cls := "com/example/valtab/valtab/sign/SignMeetPinLaw", name := "pick", desc := "(I)Lcom/example/valtab/valtab/sign/Sign;" } : Jvm.MethodName) method_2_code (2 : Nat) (Option.some (Jvm.ClassFile.FieldType.object "com/example/valtab/valtab/sign/Sign"))).before args0 about1 = true := code_word (m := ⟨1, 1⟩) (meth := k1m1) (c := k1c1) (by decide +kernel) rfl rfl rfl (by decide +kernel)
set_option maxRecDepth 65536 in
theorem w_c2 : (Jvm.Cond.code ({ cls := "com/example/valtab/valtab/sign/Sign", name := "meet", desc := "(Lcom/example/valtab/valtab/sign/Sign;)Lcom/example/valtab/valtab/sign/Sign;" } : Jvm.MethodName) prog_37_method_6_code (3 : Nat) (Option.some (Jvm.ClassFile.FieldType.object "com/example/valtab/valtab/sign/Sign"))).before args0 about1 = true := code_word (m := ⟨6, 0⟩) (meth := k6m0) (c := k6c0) (by decide +kernel) rfl rfl rfl (by decide +kernel)
set_option maxRecDepth 65536 in
theorem w_c3 : (Jvm.Cond.code ({ cls := "com/example/valtab/valtab/sign/SignMeetPinLaw", name := "leq", desc := "(Lcom/example/valtab/valtab/sign/Sign;Lcom/example/valtab/valtab/sign/Sign;)Z" } : Jvm.MethodName) method_3_code (2 : Nat) (Option.some Jvm.ClassFile.FieldType.boolean)).before args0 about1 = true := code_word (m := ⟨1, 2⟩) (meth := k1m2) (c := k1c2) (by decide +kernel) rfl rfl rfl (by decide +kernel)
def codes1 : List Jvm.Cond := [Jvm.Cond.code x code maxLocals ret, Jvm.Cond.code ({ cls := "com/example/valtab/valtab/sign/SignMeetPinLaw", name := "pick", desc := "(I)Lcom/example/valtab/valtab/sign/Sign;" } : Jvm.MethodName) method_2_code (2 : Nat) (Option.some (Jvm.ClassFile.FieldType.object "com/example/valtab/valtab/sign/Sign")), Jvm.Cond.code ({ cls := "com/example/valtab/valtab/sign/Sign", name := "meet", desc := "(Lcom/example/valtab/valtab/sign/Sign;)Lcom/example/valtab/valtab/sign/Sign;" } : Jvm.MethodName) prog_37_method_6_code (3 : Nat) (Option.some (Jvm.ClassFile.FieldType.object "com/example/valtab/valtab/sign/Sign")), Jvm.Cond.code ({ cls := "com/example/valtab/valtab/sign/SignMeetPinLaw", name := "leq", desc := "(Lcom/example/valtab/valtab/sign/Sign;Lcom/example/valtab/valtab/sign/Sign;)Z" } : Jvm.MethodName) method_3_code (2 : Nat) (Option.some Jvm.ClassFile.FieldType.boolean)]
set_option maxRecDepth 65536 in
theorem codes_eq : words1.filter isCode = codes1 := rfl
theorem w_codes : ∀ c ∈ words1.filter isCode, c.before args0 about1 = true := by
  rw [codes_eq]
  intro c hc
  simp only [codes1, List.mem_cons, List.not_mem_nil, or_false] at hc
  rcases hc with rfl | rfl | rfl | rfl
  · exact w_c0
  · exact w_c1
  · exact w_c2
  · exact w_c3
set_option maxRecDepth 65536 in
theorem w_t1 : (words1.take 24).all (fun c => isCode c || c.before args0 about1) = true := by decide +kernel
set_option maxRecDepth 65536 in
theorem w_t2 : (words1.drop 24).all (fun c => isCode c || c.before args0 about1) = true := by decide +kernel
theorem w_tables : (allAtoms (Jvm.Cond.code x code maxLocals ret :: tables_1)).before args0 about1 = true := by
  rw [allAtoms_all]
  show words1.all (fun c => c.before args0 about1) = true
  refine all_split ?_ w_codes
  rw [← List.take_append_drop 24 words1, List.all_append, w_t1, w_t2]
  rfl
set_option maxRecDepth 65536 in
theorem w_case : (Jvm.Cond.and given_1 narrow_1).before args0 about1 = true := by decide +kernel
theorem w_applies : (headSpec (Jvm.Cond.code x code maxLocals ret :: tables_1) room_1).applies x e0.platform about1 = true :=
  (Spec.applies_iff w_frames).mpr ⟨w_running, w_runnable, w_alone, w_named, w_hears, w_ripe, w_room, w_tables⟩
theorem atStart : AtStart classFile x code maxLocals ret World_1 tables_1 room_1 Calls_1 rest_1 Pre_1 launch0 p0 e0 about1 theMethod args0 below0 :=
  ⟨lists_1, trivial, launch0.admits_env _ _ _, launch0.least_env, fairChoices_fair.cas, fairChoices_fair.clock, w_frames, w_args, w_heap, w_applies, trivial, trivial, w_case⟩
end start1
theorem witness_1 : WitnessClaimed_1 := ⟨start1.p0, start1.e0, start1.about1, start1.theMethod, start1.args0, start1.below0, start1.atStart⟩
end Jvm.Pilot.@@N@@
