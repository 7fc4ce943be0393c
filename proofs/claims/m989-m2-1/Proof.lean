import JvmDerived
import JvmDerived.Pilot.@@N@@Statement
import JvmDerived.Pilot.@@N@@Code
set_option linter.unusedVariables false
set_option linter.unusedSimpArgs false
namespace Jvm.RoadKit
open Sem ClassFile Op Lib Jvm.Stand Jvm.Free Jvm.LawKit
theorem Ext.keep {h h' : Heap} (E : Ext h h') (ws : List Addr) : Keep h h' ws := (Keep.refl _ _).ext E
theorem Keep.toExt {h h' : Heap} (K : Keep h h' []) : Ext h h' := ⟨K.1, fun a c q => K.2.1 a c q nin0⟩
theorem Sta.keep {Z : State} {h : Heap} {C f d : String} {v : Value} {h' : Heap} {ws : List Addr} (F : Sta Z h C f d v) (K : Keep h h' ws) (q : ∀ x ∈ ws, ∃ c : Cell, h[x]? = some c ∧ c.vm.isStatics = false) : Sta Z h' C f d v := by
  obtain ⟨cf, i, k, f, st, cell, h1, h2, h3, h4, h5, h6, h7⟩ := F
  exact ⟨cf, i, k, f, st, cell, h1, h2, h3, h4, K.2.1 st cell h5 (fun z => by obtain ⟨c, e1, e2⟩ := q st z; cases e1.symm.trans h5; rw [e2] at h6; cases h6), h6, h7⟩
theorem Ins.keep {Z : State} {h : Heap} {a : Addr} {C : String} {b : Bool} {h' : Heap} {ws : List Addr} (F : Ins Z h a C b) (K : Keep h h' ws) : Ins Z h' a C b := by
  obtain ⟨cell, cT, h1, h2, h3⟩ := F
  obtain ⟨c', q, r1, r2, -⟩ := K.2.2 a cell h1
  exact ⟨c', cT, q, h2, by rw [r1, r2]; exact h3⟩
end Jvm.RoadKit
namespace Jvm.Pilot.@@N@@
open Jvm Jvm.ClassFile Sem Op Lib Jvm.Free Jvm.Stand Jvm.LawKit Jvm.RoadKit Bundle Jvm.Pilot.@@N@@.Jvm.D
/-- what a walk is about: all that is fixed while one body runs -/
abbrev Wk : Type := Program × Launch × Env × Room × State × MethodId × Array Value × List Frame × Method × Code × State × Nat
def Cx (w : Wk) (R : Room) (Z : State) (n0 : Nat) (own : String) (bytes : ByteArray) (mx : Nat) (rt : Option FieldType) (nm : String) : Prop :=
  match w with
  | ⟨p, _, _, R', s, m, _, _, meth, c, Z', k⟩ => p.tables.exec = Jvm.exec ∧ c.code = bytes ∧ c.maxLocals = mx ∧ s.vm.findClass own = some m.cls ∧ Z.Warmed39 s.vm ∧ meth.sig.returnType = rt ∧ meth.name = nm ∧ meth.locks = false ∧ R' = R ∧ Z' = Z ∧ k = n0 ∧ n0 ≤ s.heap.size
def At1 (w : Wk) (T : State) (h : Heap) (k n : Nat) : Prop :=
  match w with
  | ⟨p, l, e, R, s, m, args, below, meth, c, _, n0⟩ => ∃ locs, Stand p l e R s m args below meth c T locs k n ∧ T.heap = h ∧ Fr n0 locs
def Go (w : Wk) (Q : Option Value → Heap → Prop) (T : State) (pc : Nat) (L : Array Slot) (st : List Value) : Prop :=
  match w with
  | ⟨p, _, e, R, s, m, _, below, _, _, _, n0⟩ => ∃ s₂ o, Steps p.tables e below (T.setTop (mkF m pc L st)) s₂ ∧ s₂.status = .running ∧ Ended s₂ below o ∧ ∃ v Lc, o = .returned v ∧ (Q v s₂.heap ∧ Fr n0 Lc) ∧ FrameEnd s o s₂ Lc R.cells R.slots
def Dc (bytes : ByteArray) (pc : Nat) (i : Instr) (n pc' : Nat) : Prop := decode bytes pc = .ok (i, n) ∧ pc + n = pc'
/-- a callee's contract -/
def Con (l : Launch) (Z : State) (y : MethodName) (bytes : ByteArray) (mx : Nat) (rt : Option FieldType) (R : Room) (as' : Array Value) (h0 : Heap) (n0 : Nat) (Q : Option Value → Heap → Prop) : Prop :=
  ∀ ws, MetFree l y (head1 (Jvm.Cond.code y bytes mx rt :: ws) R) (fun a U => a = as' ∧ Z.Warmed39 U.vm ∧ U.heap = h0) (fun _ _ _ _ _ => True) (fun _ U o U' => ∃ v L, o = .returned v ∧ (Q v U'.heap ∧ Fr n0 L) ∧ FrameEnd U o U' L R.cells R.slots)
def RI (P : Int32 → Heap → Prop) : Option Value → Heap → Prop := fun v h => ∃ z : Int32, v = some (.int z) ∧ P z h
def RL (P : Int64 → Heap → Prop) : Option Value → Heap → Prop := fun v h => ∃ z : Int64, v = some (.long z) ∧ P z h
def RR (P : Value → Heap → Prop) : Option Value → Heap → Prop := fun v h => ∃ z : Value, v = some z ∧ z.isRef = true ∧ P z h
def RV (P : Heap → Prop) : Option Value → Heap → Prop := fun v h => v = none ∧ P h
/-- Java's x >>> y -/
def iU (x y : Int32) : Int32 := (x.toUInt32 >>> (y &&& 31).toUInt32).toInt32
def lU (x : Int64) (y : Int32) : Int64 := (x.toUInt64 >>> (y &&& 0x3f).toInt64.toUInt64).toInt64
section Own
variable {w : Wk} {R : Room} {Z : State} {n0 : Nat} {own : String} {bytes : ByteArray} {mx : Nat} {rt : Option FieldType} {nm : String} {T : State} {h : Heap} {k n : Nat} {Q : Option Value → Heap → Prop} {pc pc' : Nat} {L L' : Array Slot} {st st' : List Value}
theorem con_intro {l : Launch} {y : MethodName} {as' : Array Value} {h0 : Heap} (hp : plainFor y = true) (hef : ∀ m, entryFrame m as' mx = mkF m 0 L []) (hz : n0 ≤ h0.size)
    (body : ∀ w T, Cx w R Z n0 y.cls bytes mx rt y.name → At1 w T h0 0 0 → Go w Q T 0 L []) : Con l Z y bytes mx rt R as' h0 n0 Q := by
  intro ws
  refine MetFree.of_bodySF hp hisR ?_
  intro p e s m args below meth c s₁ Bd hml0 hP hK
  obtain ⟨rfl, hZ, hh⟩ := hP
  have X0 : Stand p l e R s m args below meth c s₁ [] 0 0 := Stand.of_body Bd
  have e0 : s₁.heap = h0 := by rw [← hh, Bd.state]; rfl
  have B := body ⟨p, l, e, R, s, m, args, below, meth, c, Z, n0⟩ s₁ ⟨Bd.exec, Bd.bytes, hml0, findClass_of_methodNamed Bd.named, hZ, Bd.returns, (name_of_methodNamed Bd.named Bd.method).1, Bd.notSynchronized, rfl, rfl, rfl, by rw [hh]; exact hz⟩ ⟨[], X0, e0, Fr.nil n0⟩
  obtain ⟨s₂, o, h1, h2⟩ := B
  exact ⟨s₂, o, castTop (hef m) h1, h2⟩
theorem go_step (K : Cx w R Z n0 own bytes mx rt nm) (H : At1 w T h k n)
    (hs : ∀ (p : Program) (e : Env) (m : MethodId) (below : List Frame) (c : Code), p.tables.exec = Jvm.exec → c.code = bytes → At T m c below → ∀ t, Steps p.tables e below (T.setTop (mkF m pc' L' st')) t → Steps p.tables e below (T.setTop (mkF m pc L st)) t)
    (G : Go w Q T pc' L' st') : Go w Q T pc L st := by
  obtain ⟨p, l, e, R', s, m, args, below, meth, c, Z', k0⟩ := w
  obtain ⟨hx, hby, -⟩ := K
  obtain ⟨locs, X, -⟩ := H
  obtain ⟨s₂, o, h1, h2⟩ := G
  exact ⟨s₂, o, hs p e m below c hx hby X.here _ h1, h2⟩
theorem dcb {c : Code} {i : Instr} {q : Nat} (hby : c.code = bytes) (d : Dc bytes pc i q pc') : decode c.code pc = .ok (i, q) := by rw [hby]; exact d.1
theorem go_iadd {x y : Int32} (K : Cx w R Z n0 own bytes mx rt nm) (H : At1 w T h k n) (d : Dc bytes pc .iadd 1 pc') (G : ∀ z : Int32, z = x + y → Go w Q T pc' L (.int z :: st)) : Go w Q T pc L (.int y :: .int x :: st) := by
  obtain ⟨d1, rfl⟩ := d
  exact go_step K H (fun p e m below c hx hby hA t kk => XS.iadd hA hx rfl (by rw [hby]; exact d1) rfl kk) (G _ rfl)
theorem go_ladd {x y : Int64} (K : Cx w R Z n0 own bytes mx rt nm) (H : At1 w T h k n) (d : Dc bytes pc .ladd 1 pc') (G : ∀ z : Int64, z = x + y → Go w Q T pc' L (.long z :: st)) : Go w Q T pc L (.long y :: .long x :: st) := by
  obtain ⟨d1, rfl⟩ := d
  exact go_step K H (fun p e m below c hx hby hA t kk => XS.ladd hA hx rfl (by rw [hby]; exact d1) rfl kk) (G _ rfl)
theorem go_isub {x y : Int32} (K : Cx w R Z n0 own bytes mx rt nm) (H : At1 w T h k n) (d : Dc bytes pc .isub 1 pc') (G : ∀ z : Int32, z = x - y → Go w Q T pc' L (.int z :: st)) : Go w Q T pc L (.int y :: .int x :: st) := by
  obtain ⟨d1, rfl⟩ := d
  exact go_step K H (fun p e m below c hx hby hA t kk => XS.isub hA hx rfl (by rw [hby]; exact d1) rfl kk) (G _ rfl)
theorem go_lsub {x y : Int64} (K : Cx w R Z n0 own bytes mx rt nm) (H : At1 w T h k n) (d : Dc bytes pc .lsub 1 pc') (G : ∀ z : Int64, z = x - y → Go w Q T pc' L (.long z :: st)) : Go w Q T pc L (.long y :: .long x :: st) := by
  obtain ⟨d1, rfl⟩ := d
  exact go_step K H (fun p e m below c hx hby hA t kk => XS.lsub hA hx rfl (by rw [hby]; exact d1) rfl kk) (G _ rfl)
theorem go_imul {x y : Int32} (K : Cx w R Z n0 own bytes mx rt nm) (H : At1 w T h k n) (d : Dc bytes pc .imul 1 pc') (G : ∀ z : Int32, z = x * y → Go w Q T pc' L (.int z :: st)) : Go w Q T pc L (.int y :: .int x :: st) := by
  obtain ⟨d1, rfl⟩ := d
  exact go_step K H (fun p e m below c hx hby hA t kk => XS.imul hA hx rfl (by rw [hby]; exact d1) rfl kk) (G _ rfl)
theorem go_lmul {x y : Int64} (K : Cx w R Z n0 own bytes mx rt nm) (H : At1 w T h k n) (d : Dc bytes pc .lmul 1 pc') (G : ∀ z : Int64, z = x * y → Go w Q T pc' L (.long z :: st)) : Go w Q T pc L (.long y :: .long x :: st) := by
  obtain ⟨d1, rfl⟩ := d
  exact go_step K H (fun p e m below c hx hby hA t kk => XS.lmul hA hx rfl (by rw [hby]; exact d1) rfl kk) (G _ rfl)
theorem go_iand {x y : Int32} (K : Cx w R Z n0 own bytes mx rt nm) (H : At1 w T h k n) (d : Dc bytes pc .iand 1 pc') (G : ∀ z : Int32, z = x &&& y → Go w Q T pc' L (.int z :: st)) : Go w Q T pc L (.int y :: .int x :: st) := by
  obtain ⟨d1, rfl⟩ := d
  exact go_step K H (fun p e m below c hx hby hA t kk => XS.iand hA hx rfl (by rw [hby]; exact d1) rfl kk) (G _ rfl)
theorem go_land {x y : Int64} (K : Cx w R Z n0 own bytes mx rt nm) (H : At1 w T h k n) (d : Dc bytes pc .land 1 pc') (G : ∀ z : Int64, z = x &&& y → Go w Q T pc' L (.long z :: st)) : Go w Q T pc L (.long y :: .long x :: st) := by
  obtain ⟨d1, rfl⟩ := d
  exact go_step K H (fun p e m below c hx hby hA t kk => XS.land hA hx rfl (by rw [hby]; exact d1) rfl kk) (G _ rfl)
theorem go_ior {x y : Int32} (K : Cx w R Z n0 own bytes mx rt nm) (H : At1 w T h k n) (d : Dc bytes pc .ior 1 pc') (G : ∀ z : Int32, z = x ||| y → Go w Q T pc' L (.int z :: st)) : Go w Q T pc L (.int y :: .int x :: st) := by
  obtain ⟨d1, rfl⟩ := d
  exact go_step K H (fun p e m below c hx hby hA t kk => XS.ior hA hx rfl (by rw [hby]; exact d1) rfl kk) (G _ rfl)
theorem go_lor {x y : Int64} (K : Cx w R Z n0 own bytes mx rt nm) (H : At1 w T h k n) (d : Dc bytes pc .lor 1 pc') (G : ∀ z : Int64, z = x ||| y → Go w Q T pc' L (.long z :: st)) : Go w Q T pc L (.long y :: .long x :: st) := by
  obtain ⟨d1, rfl⟩ := d
  exact go_step K H (fun p e m below c hx hby hA t kk => XS.lor hA hx rfl (by rw [hby]; exact d1) rfl kk) (G _ rfl)
theorem go_ixor {x y : Int32} (K : Cx w R Z n0 own bytes mx rt nm) (H : At1 w T h k n) (d : Dc bytes pc .ixor 1 pc') (G : ∀ z : Int32, z = x ^^^ y → Go w Q T pc' L (.int z :: st)) : Go w Q T pc L (.int y :: .int x :: st) := by
  obtain ⟨d1, rfl⟩ := d
  exact go_step K H (fun p e m below c hx hby hA t kk => XS.ixor hA hx rfl (by rw [hby]; exact d1) rfl kk) (G _ rfl)
theorem go_lxor {x y : Int64} (K : Cx w R Z n0 own bytes mx rt nm) (H : At1 w T h k n) (d : Dc bytes pc .lxor 1 pc') (G : ∀ z : Int64, z = x ^^^ y → Go w Q T pc' L (.long z :: st)) : Go w Q T pc L (.long y :: .long x :: st) := by
  obtain ⟨d1, rfl⟩ := d
  exact go_step K H (fun p e m below c hx hby hA t kk => XS.lxor hA hx rfl (by rw [hby]; exact d1) rfl kk) (G _ rfl)
theorem go_ishl {x y : Int32} (K : Cx w R Z n0 own bytes mx rt nm) (H : At1 w T h k n) (d : Dc bytes pc .ishl 1 pc') (G : ∀ z : Int32, z = x <<< (y &&& 31) → Go w Q T pc' L (.int z :: st)) : Go w Q T pc L (.int y :: .int x :: st) := by
  obtain ⟨d1, rfl⟩ := d
  exact go_step K H (fun p e m below c hx hby hA t kk => XS.ishl hA hx rfl (by rw [hby]; exact d1) rfl kk) (G _ rfl)
theorem go_ishr {x y : Int32} (K : Cx w R Z n0 own bytes mx rt nm) (H : At1 w T h k n) (d : Dc bytes pc .ishr 1 pc') (G : ∀ z : Int32, z = x >>> (y &&& 31) → Go w Q T pc' L (.int z :: st)) : Go w Q T pc L (.int y :: .int x :: st) := by
  obtain ⟨d1, rfl⟩ := d
  exact go_step K H (fun p e m below c hx hby hA t kk => XS.ishr hA hx rfl (by rw [hby]; exact d1) rfl kk) (G _ rfl)
theorem go_iushr {x y : Int32} (K : Cx w R Z n0 own bytes mx rt nm) (H : At1 w T h k n) (d : Dc bytes pc .iushr 1 pc') (G : ∀ z : Int32, z = iU x y → Go w Q T pc' L (.int z :: st)) : Go w Q T pc L (.int y :: .int x :: st) := by
  obtain ⟨d1, rfl⟩ := d
  exact go_step K H (fun p e m below c hx hby hA t kk => XS.iushr hA hx rfl (by rw [hby]; exact d1) rfl kk) (G _ rfl)
theorem go_lshl {x : Int64} {y : Int32} (K : Cx w R Z n0 own bytes mx rt nm) (H : At1 w T h k n) (d : Dc bytes pc .lshl 1 pc') (G : ∀ z : Int64, z = x <<< (y &&& 0x3f).toInt64 → Go w Q T pc' L (.long z :: st)) : Go w Q T pc L (.int y :: .long x :: st) := by
  obtain ⟨d1, rfl⟩ := d
  exact go_step K H (fun p e m below c hx hby hA t kk => XS.lshl hA hx rfl (by rw [hby]; exact d1) rfl kk) (G _ rfl)
theorem go_lshr {x : Int64} {y : Int32} (K : Cx w R Z n0 own bytes mx rt nm) (H : At1 w T h k n) (d : Dc bytes pc .lshr 1 pc') (G : ∀ z : Int64, z = x >>> (y &&& 0x3f).toInt64 → Go w Q T pc' L (.long z :: st)) : Go w Q T pc L (.int y :: .long x :: st) := by
  obtain ⟨d1, rfl⟩ := d
  exact go_step K H (fun p e m below c hx hby hA t kk => XS.lshr hA hx rfl (by rw [hby]; exact d1) rfl kk) (G _ rfl)
theorem go_lushr {x : Int64} {y : Int32} (K : Cx w R Z n0 own bytes mx rt nm) (H : At1 w T h k n) (d : Dc bytes pc .lushr 1 pc') (G : ∀ z : Int64, z = lU x y → Go w Q T pc' L (.long z :: st)) : Go w Q T pc L (.int y :: .long x :: st) := by
  obtain ⟨d1, rfl⟩ := d
  exact go_step K H (fun p e m below c hx hby hA t kk => XS.lushr hA hx rfl (by rw [hby]; exact d1) rfl kk) (G _ rfl)
theorem go_idiv {x y : Int32} (K : Cx w R Z n0 own bytes mx rt nm) (H : At1 w T h k n) (d : Dc bytes pc .idiv 1 pc') (hy : y ≠ 0) (G : ∀ z : Int32, z = x / y → Go w Q T pc' L (.int z :: st)) : Go w Q T pc L (.int y :: .int x :: st) := by
  obtain ⟨d1, rfl⟩ := d
  exact go_step K H (fun p e m below c hx hby hA t kk => XS.idiv hA hx rfl (by rw [hby]; exact d1) rfl hy kk) (G _ rfl)
theorem go_irem (K : Cx w R Z n0 own bytes mx rt nm) (H : At1 w T h k n) {x y : Int32} (d : Dc bytes pc .irem 1 pc') (hy : y ≠ 0) (G : ∀ z : Int32, z = x % y → Go w Q T pc' L (.int z :: st)) : Go w Q T pc L (.int y :: .int x :: st) := by
  obtain ⟨d1, rfl⟩ := d
  exact go_step K H (fun p e m below c hx hby hA t kk => XS.irem hA hx rfl (by rw [hby]; exact d1) rfl hy (by rw [irem_eq_mod]; exact kk)) (G _ rfl)
theorem go_ldiv {x y : Int64} (K : Cx w R Z n0 own bytes mx rt nm) (H : At1 w T h k n) (d : Dc bytes pc .ldiv 1 pc') (hy : y ≠ 0) (G : ∀ z : Int64, z = x / y → Go w Q T pc' L (.long z :: st)) : Go w Q T pc L (.long y :: .long x :: st) := by
  obtain ⟨d1, rfl⟩ := d
  exact go_step K H (fun p e m below c hx hby hA t kk => XS.ldiv hA hx rfl (by rw [hby]; exact d1) rfl hy kk) (G _ rfl)
theorem go_lrem {x y : Int64} (K : Cx w R Z n0 own bytes mx rt nm) (H : At1 w T h k n) (d : Dc bytes pc .lrem 1 pc') (hy : y ≠ 0) (G : ∀ z : Int64, z = x - (x / y) * y → Go w Q T pc' L (.long z :: st)) : Go w Q T pc L (.long y :: .long x :: st) := by
  obtain ⟨d1, rfl⟩ := d
  exact go_step K H (fun p e m below c hx hby hA t kk => XS.lrem hA hx rfl (by rw [hby]; exact d1) rfl hy kk) (G _ rfl)
theorem go_ineg {x : Int32} (K : Cx w R Z n0 own bytes mx rt nm) (H : At1 w T h k n) (d : Dc bytes pc .ineg 1 pc') (G : ∀ z : Int32, z = -x → Go w Q T pc' L (.int z :: st)) : Go w Q T pc L (.int x :: st) := by
  obtain ⟨d1, rfl⟩ := d
  exact go_step K H (fun p e m below c hx hby hA t kk => XS.ineg hA hx rfl (by rw [hby]; exact d1) rfl kk) (G _ rfl)
theorem go_lneg {x : Int64} (K : Cx w R Z n0 own bytes mx rt nm) (H : At1 w T h k n) (d : Dc bytes pc .lneg 1 pc') (G : ∀ z : Int64, z = -x → Go w Q T pc' L (.long z :: st)) : Go w Q T pc L (.long x :: st) := by
  obtain ⟨d1, rfl⟩ := d
  exact go_step K H (fun p e m below c hx hby hA t kk => XS.lneg hA hx rfl (by rw [hby]; exact d1) rfl kk) (G _ rfl)
theorem go_i2l {x : Int32} (K : Cx w R Z n0 own bytes mx rt nm) (H : At1 w T h k n) (d : Dc bytes pc .i2l 1 pc') (G : ∀ z : Int64, z = x.toInt64 → Go w Q T pc' L (.long z :: st)) : Go w Q T pc L (.int x :: st) := by
  obtain ⟨d1, rfl⟩ := d
  exact go_step K H (fun p e m below c hx hby hA t kk => XS.i2l hA hx rfl (by rw [hby]; exact d1) rfl kk) (G _ rfl)
theorem go_l2i {x : Int64} (K : Cx w R Z n0 own bytes mx rt nm) (H : At1 w T h k n) (d : Dc bytes pc .l2i 1 pc') (G : ∀ z : Int32, z = x.toInt32 → Go w Q T pc' L (.int z :: st)) : Go w Q T pc L (.long x :: st) := by
  obtain ⟨d1, rfl⟩ := d
  exact go_step K H (fun p e m below c hx hby hA t kk => XS.l2i hA hx rfl (by rw [hby]; exact d1) rfl kk) (G _ rfl)
theorem go_i2b {x : Int32} (K : Cx w R Z n0 own bytes mx rt nm) (H : At1 w T h k n) (d : Dc bytes pc .i2b 1 pc') (G : ∀ z : Int32, z = x.toInt8.toInt32 → Go w Q T pc' L (.int z :: st)) : Go w Q T pc L (.int x :: st) := by
  obtain ⟨d1, rfl⟩ := d
  exact go_step K H (fun p e m below c hx hby hA t kk => XS.i2b hA hx rfl (by rw [hby]; exact d1) rfl kk) (G _ rfl)
theorem go_i2c {x : Int32} (K : Cx w R Z n0 own bytes mx rt nm) (H : At1 w T h k n) (d : Dc bytes pc .i2c 1 pc') (G : ∀ z : Int32, z = x.toUInt32.toUInt16.toUInt32.toInt32 → Go w Q T pc' L (.int z :: st)) : Go w Q T pc L (.int x :: st) := by
  obtain ⟨d1, rfl⟩ := d
  exact go_step K H (fun p e m below c hx hby hA t kk => XS.i2c hA hx rfl (by rw [hby]; exact d1) rfl kk) (G _ rfl)
theorem go_i2s {x : Int32} (K : Cx w R Z n0 own bytes mx rt nm) (H : At1 w T h k n) (d : Dc bytes pc .i2s 1 pc') (G : ∀ z : Int32, z = x.toInt16.toInt32 → Go w Q T pc' L (.int z :: st)) : Go w Q T pc L (.int x :: st) := by
  obtain ⟨d1, rfl⟩ := d
  exact go_step K H (fun p e m below c hx hby hA t kk => XS.i2s hA hx rfl (by rw [hby]; exact d1) rfl kk) (G _ rfl)
theorem go_lcmp {x y : Int64} (K : Cx w R Z n0 own bytes mx rt nm) (H : At1 w T h k n) (d : Dc bytes pc .lcmp 1 pc') (G : ∀ z : Int32, z = lcmpW x y → Go w Q T pc' L (.int z :: st)) : Go w Q T pc L (.long y :: .long x :: st) := by
  obtain ⟨d1, rfl⟩ := d
  exact go_step K H (fun p e m below c hx hby hA t kk => XS.lcmp hA hx rfl (by rw [hby]; exact d1) rfl kk) (G _ rfl)
theorem go_iloadN {j : Fin 4} {v : Int32} (K : Cx w R Z n0 own bytes mx rt nm) (H : At1 w T h k n) (d : Dc bytes pc (.iload_n j) 1 pc') (hl : L[j.val]? = some (.val (.int v))) (G : Go w Q T pc' L (.int v :: st)) : Go w Q T pc L st := by
  obtain ⟨d1, rfl⟩ := d
  exact go_step K H (fun p e m below c hx hby hA t kk => XS.iloadN hA hx rfl (by rw [hby]; exact d1) hl kk) G
theorem go_iload {j : Nat} {v : Int32} (K : Cx w R Z n0 own bytes mx rt nm) (H : At1 w T h k n) (d : Dc bytes pc (.iload j) 2 pc') (hl : L[j]? = some (.val (.int v))) (G : Go w Q T pc' L (.int v :: st)) : Go w Q T pc L st := by
  obtain ⟨d1, rfl⟩ := d
  exact go_step K H (fun p e m below c hx hby hA t kk => XS.iload hA hx rfl (by rw [hby]; exact d1) hl kk) G
theorem go_lloadN {j : Fin 4} {v : Int64} (K : Cx w R Z n0 own bytes mx rt nm) (H : At1 w T h k n) (d : Dc bytes pc (.lload_n j) 1 pc') (hl : L[j.val]? = some (.val (.long v))) (G : Go w Q T pc' L (.long v :: st)) : Go w Q T pc L st := by
  obtain ⟨d1, rfl⟩ := d
  exact go_step K H (fun p e m below c hx hby hA t kk => XS.lloadN hA hx rfl (by rw [hby]; exact d1) hl kk) G
theorem go_lload {j : Nat} {v : Int64} (K : Cx w R Z n0 own bytes mx rt nm) (H : At1 w T h k n) (d : Dc bytes pc (.lload j) 2 pc') (hl : L[j]? = some (.val (.long v))) (G : Go w Q T pc' L (.long v :: st)) : Go w Q T pc L st := by
  obtain ⟨d1, rfl⟩ := d
  exact go_step K H (fun p e m below c hx hby hA t kk => XS.lload hA hx rfl (by rw [hby]; exact d1) hl kk) G
theorem go_aloadN {j : Fin 4} {v : Value} (K : Cx w R Z n0 own bytes mx rt nm) (H : At1 w T h k n) (d : Dc bytes pc (.aload_n j) 1 pc') (hl : L[j.val]? = some (.val v)) (hv : v.isRef = true) (G : Go w Q T pc' L (v :: st)) : Go w Q T pc L st := by
  obtain ⟨d1, rfl⟩ := d
  exact go_step K H (fun p e m below c hx hby hA t kk => XS.aloadN hA hx rfl (by rw [hby]; exact d1) hl hv kk) G
theorem go_aload {j : Nat} {v : Value} (K : Cx w R Z n0 own bytes mx rt nm) (H : At1 w T h k n) (d : Dc bytes pc (.aload j) 2 pc') (hl : L[j]? = some (.val v)) (hv : v.isRef = true) (G : Go w Q T pc' L (v :: st)) : Go w Q T pc L st := by
  obtain ⟨d1, rfl⟩ := d
  exact go_step K H (fun p e m below c hx hby hA t kk => XS.aload hA hx rfl (by rw [hby]; exact d1) hl hv kk) G
theorem go_istoreN {j : Fin 4} {v : Int32} (K : Cx w R Z n0 own bytes mx rt nm) (H : At1 w T h k n) (d : Dc bytes pc (.istore_n j) 1 pc') (hl : storeLocals L j.val (.int v) = some L') (G : Go w Q T pc' L' st) : Go w Q T pc L (.int v :: st) := by
  obtain ⟨d1, rfl⟩ := d
  exact go_step K H (fun p e m below c hx hby hA t kk => XS.istoreN hA hx rfl (by rw [hby]; exact d1) rfl hl kk) G
theorem go_istore {j : Nat} {v : Int32} (K : Cx w R Z n0 own bytes mx rt nm) (H : At1 w T h k n) (d : Dc bytes pc (.istore j) 2 pc') (hl : storeLocals L j (.int v) = some L') (G : Go w Q T pc' L' st) : Go w Q T pc L (.int v :: st) := by
  obtain ⟨d1, rfl⟩ := d
  exact go_step K H (fun p e m below c hx hby hA t kk => XS.istore hA hx rfl (by rw [hby]; exact d1) rfl hl kk) G
theorem go_lstoreN {j : Fin 4} {v : Int64} (K : Cx w R Z n0 own bytes mx rt nm) (H : At1 w T h k n) (d : Dc bytes pc (.lstore_n j) 1 pc') (hl : storeLocals L j.val (.long v) = some L') (G : Go w Q T pc' L' st) : Go w Q T pc L (.long v :: st) := by
  obtain ⟨d1, rfl⟩ := d
  exact go_step K H (fun p e m below c hx hby hA t kk => XS.lstoreN hA hx rfl (by rw [hby]; exact d1) rfl hl kk) G
theorem go_lstore {j : Nat} {v : Int64} (K : Cx w R Z n0 own bytes mx rt nm) (H : At1 w T h k n) (d : Dc bytes pc (.lstore j) 2 pc') (hl : storeLocals L j (.long v) = some L') (G : Go w Q T pc' L' st) : Go w Q T pc L (.long v :: st) := by
  obtain ⟨d1, rfl⟩ := d
  exact go_step K H (fun p e m below c hx hby hA t kk => XS.lstore hA hx rfl (by rw [hby]; exact d1) rfl hl kk) G
theorem go_astoreN {j : Fin 4} {v : Value} (K : Cx w R Z n0 own bytes mx rt nm) (H : At1 w T h k n) (d : Dc bytes pc (.astore_n j) 1 pc') (hv : v.isRef = true) (hl : storeLocals L j.val v = some L') (G : Go w Q T pc' L' st) : Go w Q T pc L (v :: st) := by
  obtain ⟨d1, rfl⟩ := d
  exact go_step K H (fun p e m below c hx hby hA t kk => XS.astoreN hA hx rfl (by rw [hby]; exact d1) rfl hv hl kk) G
theorem go_astore {j : Nat} {v : Value} (K : Cx w R Z n0 own bytes mx rt nm) (H : At1 w T h k n) (d : Dc bytes pc (.astore j) 2 pc') (hv : v.isRef = true) (hl : storeLocals L j v = some L') (G : Go w Q T pc' L' st) : Go w Q T pc L (v :: st) := by
  obtain ⟨d1, rfl⟩ := d
  exact go_step K H (fun p e m below c hx hby hA t kk => XS.astore hA hx rfl (by rw [hby]; exact d1) rfl hv hl kk) G
theorem go_iinc {j : Nat} {cst : Int} {x z : Int32} (K : Cx w R Z n0 own bytes mx rt nm) (H : At1 w T h k n) (d : Dc bytes pc (.iinc j cst) 3 pc') (hl : L[j]? = some (.val (.int x))) (hz : z = x + Int32.ofInt cst) (hl' : storeLocals L j (.int z) = some L') (G : Go w Q T pc' L' st) : Go w Q T pc L st := by
  obtain ⟨d1, rfl⟩ := d
  exact go_step K H (fun p e m below c hx hby hA t kk => XS.iinc hA hx rfl (by rw [hby]; exact d1) hl (by rw [← hz]; exact hl') kk) G
theorem go_iconst {i : Int} (z : Int32) (K : Cx w R Z n0 own bytes mx rt nm) (H : At1 w T h k n) (d : Dc bytes pc (.iconst i) 1 pc') (hz : Int32.ofInt i = z) (G : Go w Q T pc' L (.int z :: st)) : Go w Q T pc L st := by
  obtain ⟨d1, rfl⟩ := d
  exact go_step K H (fun p e m below c hx hby hA t kk => XS.iconst hA hx rfl (by rw [hby]; exact d1) (by rw [hz]; exact kk)) G
theorem go_bipush {i : Int} (z : Int32) (K : Cx w R Z n0 own bytes mx rt nm) (H : At1 w T h k n) (d : Dc bytes pc (.bipush i) 2 pc') (hz : (Int8.ofInt i).toInt32 = z) (G : Go w Q T pc' L (.int z :: st)) : Go w Q T pc L st := by
  obtain ⟨d1, rfl⟩ := d
  exact go_step K H (fun p e m below c hx hby hA t kk => XS.bipush hA hx rfl (by rw [hby]; exact d1) (by rw [hz]; exact kk)) G
theorem go_sipush {i : Int} (z : Int32) (K : Cx w R Z n0 own bytes mx rt nm) (H : At1 w T h k n) (d : Dc bytes pc (.sipush i) 3 pc') (hz : (Int16.ofInt i).toInt32 = z) (G : Go w Q T pc' L (.int z :: st)) : Go w Q T pc L st := by
  obtain ⟨d1, rfl⟩ := d
  exact go_step K H (fun p e m below c hx hby hA t kk => XS.sipush hA hx rfl (by rw [hby]; exact d1) (by rw [hz]; exact kk)) G
theorem go_lconst {i : Fin 2} (z : Int64) (K : Cx w R Z n0 own bytes mx rt nm) (H : At1 w T h k n) (d : Dc bytes pc (.lconst i) 1 pc') (hz : Int64.ofNat i = z) (G : Go w Q T pc' L (.long z :: st)) : Go w Q T pc L st := by
  obtain ⟨d1, rfl⟩ := d
  exact go_step K H (fun p e m below c hx hby hA t kk => XS.lconst hA hx rfl (by rw [hby]; exact d1) (by rw [hz]; exact kk)) G
theorem go_null  (K : Cx w R Z n0 own bytes mx rt nm) (H : At1 w T h k n) (d : Dc bytes pc .aconst_null 1 pc') (G : Go w Q T pc' L (.null :: st)) : Go w Q T pc L st := by
  obtain ⟨d1, rfl⟩ := d
  exact go_step K H (fun p e m below c hx hby hA t kk => XS.aconstNull hA hx rfl (by rw [hby]; exact d1) kk) G
theorem go_dup {x : Value} (K : Cx w R Z n0 own bytes mx rt nm) (H : At1 w T h k n) (d : Dc bytes pc .dup 1 pc') (hc : x.category = 1) (G : Go w Q T pc' L (x :: x :: st)) : Go w Q T pc L (x :: st) := by
  obtain ⟨d1, rfl⟩ := d
  exact go_step K H (fun p e m below c hx hby hA t kk => XS.dup hA hx rfl (by rw [hby]; exact d1) rfl hc kk) G
theorem go_pop {x : Value} (K : Cx w R Z n0 own bytes mx rt nm) (H : At1 w T h k n) (d : Dc bytes pc .pop 1 pc') (hc : x.category = 1) (G : Go w Q T pc' L st) : Go w Q T pc L (x :: st) := by
  obtain ⟨d1, rfl⟩ := d
  exact go_step K H (fun p e m below c hx hby hA t kk => XS.pop hA hx rfl (by rw [hby]; exact d1) rfl hc kk) G
theorem go_dupX1 {x y : Value} (K : Cx w R Z n0 own bytes mx rt nm) (H : At1 w T h k n) (d : Dc bytes pc .dup_x1 1 pc') (hc : x.category = 1) (hc' : y.category = 1) (G : Go w Q T pc' L (x :: y :: x :: st)) : Go w Q T pc L (x :: y :: st) := by
  obtain ⟨d1, rfl⟩ := d
  exact go_step K H (fun p e m below c hx hby hA t kk => XS.dupX1 hA hx rfl (by rw [hby]; exact d1) rfl hc hc' kk) G
theorem go_dup2 {x y : Value} (K : Cx w R Z n0 own bytes mx rt nm) (H : At1 w T h k n) (d : Dc bytes pc .dup2 1 pc') (hc : x.category = 1) (hc' : y.category = 1) (G : Go w Q T pc' L (x :: y :: x :: y :: st)) : Go w Q T pc L (x :: y :: st) := by
  obtain ⟨d1, rfl⟩ := d
  exact go_step K H (fun p e m below c hx hby hA t kk => Jvm.Free.XT.dup2 hA hx rfl (by rw [hby]; exact d1) rfl hc hc' kk) G
theorem go_dup2L {x : Int64} (K : Cx w R Z n0 own bytes mx rt nm) (H : At1 w T h k n) (d : Dc bytes pc .dup2 1 pc') (G : Go w Q T pc' L (.long x :: .long x :: st)) : Go w Q T pc L (.long x :: st) := by
  obtain ⟨d1, rfl⟩ := d
  exact go_step K H (fun p e m below c hx hby hA t kk => Jvm.Free.XT.dup2L hA hx rfl (by rw [hby]; exact d1) rfl kk) G
def Jp (bytes : ByteArray) (pc : Nat) (i : Int → Instr) (yes no : Nat) : Prop := ∃ o : Int, decode bytes pc = .ok (i o, 3) ∧ 0 ≤ (pc : Int) + o ∧ ((pc : Int) + o).toNat = yes ∧ pc + 3 = no
theorem go_goto (K : Cx w R Z n0 own bytes mx rt nm) (H : At1 w T h k n) {no : Nat} (d : Jp bytes pc .goto pc' no) (G : Go w Q T pc' L st) : Go w Q T pc L st := by
  obtain ⟨o, d1, d2, d3, d4⟩ := d
  exact go_step K H (fun p e m below c hx hby hA t kk => XS.goto hA hx rfl rfl (by rw [hby]; exact d1) d2 d3 kk) G
theorem go_icmp_lt (K : Cx w R Z n0 own bytes mx rt nm) (H : At1 w T h k n) {x y : Int32} {yes no : Nat} (d : Jp bytes pc (.if_icmp .lt) yes no) (G1 : x < y → Go w Q T yes L st) (G2 : ¬ x < y → Go w Q T no L st) : Go w Q T pc L (.int y :: .int x :: st) := by
  obtain ⟨o, d1, d2, d3, rfl⟩ := d
  by_cases q : x < y
  · exact go_step K H (fun p e m below c hx hby hA t kk => XS.icmpYes hA hx rfl rfl (by rw [hby]; exact d1) rfl (tlt q).1 d2 d3 kk) (G1 q)
  · exact go_step K H (fun p e m below c hx hby hA t kk => XS.icmpNo hA hx rfl (by rw [hby]; exact d1) rfl (flt q).1 kk) (G2 q)
theorem go_if_lt (K : Cx w R Z n0 own bytes mx rt nm) (H : At1 w T h k n) {x : Int32} {yes no : Nat} (d : Jp bytes pc (.ifCond .lt) yes no) (G1 : x < (0 : Int32) → Go w Q T yes L st) (G2 : ¬ x < (0 : Int32) → Go w Q T no L st) : Go w Q T pc L (.int x :: st) := by
  obtain ⟨o, d1, d2, d3, rfl⟩ := d
  by_cases q : x < (0 : Int32)
  · exact go_step K H (fun p e m below c hx hby hA t kk => XS.ifYes hA hx rfl rfl (by rw [hby]; exact d1) rfl ((if0 _ _).trans (tlt q).1) d2 d3 kk) (G1 q)
  · exact go_step K H (fun p e m below c hx hby hA t kk => XS.ifNo hA hx rfl (by rw [hby]; exact d1) rfl ((if0 _ _).trans (flt q).1) kk) (G2 q)
theorem go_icmp_ge (K : Cx w R Z n0 own bytes mx rt nm) (H : At1 w T h k n) {x y : Int32} {yes no : Nat} (d : Jp bytes pc (.if_icmp .ge) yes no) (G1 : ¬ x < y → Go w Q T yes L st) (G2 : x < y → Go w Q T no L st) : Go w Q T pc L (.int y :: .int x :: st) := by
  obtain ⟨o, d1, d2, d3, rfl⟩ := d
  by_cases q : ¬ x < y
  · exact go_step K H (fun p e m below c hx hby hA t kk => XS.icmpYes hA hx rfl rfl (by rw [hby]; exact d1) rfl (flt q).2.1 d2 d3 kk) (G1 q)
  · exact go_step K H (fun p e m below c hx hby hA t kk => XS.icmpNo hA hx rfl (by rw [hby]; exact d1) rfl (tlt (Decidable.not_not.mp q)).2.1 kk) (G2 (Decidable.not_not.mp q))
theorem go_if_ge (K : Cx w R Z n0 own bytes mx rt nm) (H : At1 w T h k n) {x : Int32} {yes no : Nat} (d : Jp bytes pc (.ifCond .ge) yes no) (G1 : ¬ x < (0 : Int32) → Go w Q T yes L st) (G2 : x < (0 : Int32) → Go w Q T no L st) : Go w Q T pc L (.int x :: st) := by
  obtain ⟨o, d1, d2, d3, rfl⟩ := d
  by_cases q : ¬ x < (0 : Int32)
  · exact go_step K H (fun p e m below c hx hby hA t kk => XS.ifYes hA hx rfl rfl (by rw [hby]; exact d1) rfl ((if0 _ _).trans (flt q).2.1) d2 d3 kk) (G1 q)
  · exact go_step K H (fun p e m below c hx hby hA t kk => XS.ifNo hA hx rfl (by rw [hby]; exact d1) rfl ((if0 _ _).trans (tlt (Decidable.not_not.mp q)).2.1) kk) (G2 (Decidable.not_not.mp q))
theorem go_icmp_gt (K : Cx w R Z n0 own bytes mx rt nm) (H : At1 w T h k n) {x y : Int32} {yes no : Nat} (d : Jp bytes pc (.if_icmp .gt) yes no) (G1 : y < x → Go w Q T yes L st) (G2 : ¬ y < x → Go w Q T no L st) : Go w Q T pc L (.int y :: .int x :: st) := by
  obtain ⟨o, d1, d2, d3, rfl⟩ := d
  by_cases q : y < x
  · exact go_step K H (fun p e m below c hx hby hA t kk => XS.icmpYes hA hx rfl rfl (by rw [hby]; exact d1) rfl (tlt q).2.2.1 d2 d3 kk) (G1 q)
  · exact go_step K H (fun p e m below c hx hby hA t kk => XS.icmpNo hA hx rfl (by rw [hby]; exact d1) rfl (flt q).2.2.1 kk) (G2 q)
theorem go_if_gt (K : Cx w R Z n0 own bytes mx rt nm) (H : At1 w T h k n) {x : Int32} {yes no : Nat} (d : Jp bytes pc (.ifCond .gt) yes no) (G1 : (0 : Int32) < x → Go w Q T yes L st) (G2 : ¬ (0 : Int32) < x → Go w Q T no L st) : Go w Q T pc L (.int x :: st) := by
  obtain ⟨o, d1, d2, d3, rfl⟩ := d
  by_cases q : (0 : Int32) < x
  · exact go_step K H (fun p e m below c hx hby hA t kk => XS.ifYes hA hx rfl rfl (by rw [hby]; exact d1) rfl ((if0 _ _).trans (tlt q).2.2.1) d2 d3 kk) (G1 q)
  · exact go_step K H (fun p e m below c hx hby hA t kk => XS.ifNo hA hx rfl (by rw [hby]; exact d1) rfl ((if0 _ _).trans (flt q).2.2.1) kk) (G2 q)
theorem go_icmp_le (K : Cx w R Z n0 own bytes mx rt nm) (H : At1 w T h k n) {x y : Int32} {yes no : Nat} (d : Jp bytes pc (.if_icmp .le) yes no) (G1 : ¬ y < x → Go w Q T yes L st) (G2 : y < x → Go w Q T no L st) : Go w Q T pc L (.int y :: .int x :: st) := by
  obtain ⟨o, d1, d2, d3, rfl⟩ := d
  by_cases q : ¬ y < x
  · exact go_step K H (fun p e m below c hx hby hA t kk => XS.icmpYes hA hx rfl rfl (by rw [hby]; exact d1) rfl (flt q).2.2.2 d2 d3 kk) (G1 q)
  · exact go_step K H (fun p e m below c hx hby hA t kk => XS.icmpNo hA hx rfl (by rw [hby]; exact d1) rfl (tlt (Decidable.not_not.mp q)).2.2.2 kk) (G2 (Decidable.not_not.mp q))
theorem go_if_le (K : Cx w R Z n0 own bytes mx rt nm) (H : At1 w T h k n) {x : Int32} {yes no : Nat} (d : Jp bytes pc (.ifCond .le) yes no) (G1 : ¬ (0 : Int32) < x → Go w Q T yes L st) (G2 : (0 : Int32) < x → Go w Q T no L st) : Go w Q T pc L (.int x :: st) := by
  obtain ⟨o, d1, d2, d3, rfl⟩ := d
  by_cases q : ¬ (0 : Int32) < x
  · exact go_step K H (fun p e m below c hx hby hA t kk => XS.ifYes hA hx rfl rfl (by rw [hby]; exact d1) rfl ((if0 _ _).trans (flt q).2.2.2) d2 d3 kk) (G1 q)
  · exact go_step K H (fun p e m below c hx hby hA t kk => XS.ifNo hA hx rfl (by rw [hby]; exact d1) rfl ((if0 _ _).trans (tlt (Decidable.not_not.mp q)).2.2.2) kk) (G2 (Decidable.not_not.mp q))
theorem go_icmp_eq (K : Cx w R Z n0 own bytes mx rt nm) (H : At1 w T h k n) {x y : Int32} {yes no : Nat} (d : Jp bytes pc (.if_icmp .eq) yes no) (G1 : x = y → Go w Q T yes L st) (G2 : ¬ x = y → Go w Q T no L st) : Go w Q T pc L (.int y :: .int x :: st) := by
  obtain ⟨o, d1, d2, d3, rfl⟩ := d
  by_cases q : x = y
  · exact go_step K H (fun p e m below c hx hby hA t kk => XS.icmpYes hA hx rfl rfl (by rw [hby]; exact d1) rfl (teq q).1 d2 d3 kk) (G1 q)
  · exact go_step K H (fun p e m below c hx hby hA t kk => XS.icmpNo hA hx rfl (by rw [hby]; exact d1) rfl (feq q).1 kk) (G2 q)
theorem go_if_eq (K : Cx w R Z n0 own bytes mx rt nm) (H : At1 w T h k n) {x : Int32} {yes no : Nat} (d : Jp bytes pc (.ifCond .eq) yes no) (G1 : x = (0 : Int32) → Go w Q T yes L st) (G2 : ¬ x = (0 : Int32) → Go w Q T no L st) : Go w Q T pc L (.int x :: st) := by
  obtain ⟨o, d1, d2, d3, rfl⟩ := d
  by_cases q : x = (0 : Int32)
  · exact go_step K H (fun p e m below c hx hby hA t kk => XS.ifYes hA hx rfl rfl (by rw [hby]; exact d1) rfl ((if0 _ _).trans (teq q).1) d2 d3 kk) (G1 q)
  · exact go_step K H (fun p e m below c hx hby hA t kk => XS.ifNo hA hx rfl (by rw [hby]; exact d1) rfl ((if0 _ _).trans (feq q).1) kk) (G2 q)
theorem go_icmp_ne (K : Cx w R Z n0 own bytes mx rt nm) (H : At1 w T h k n) {x y : Int32} {yes no : Nat} (d : Jp bytes pc (.if_icmp .ne) yes no) (G1 : ¬ x = y → Go w Q T yes L st) (G2 : x = y → Go w Q T no L st) : Go w Q T pc L (.int y :: .int x :: st) := by
  obtain ⟨o, d1, d2, d3, rfl⟩ := d
  by_cases q : ¬ x = y
  · exact go_step K H (fun p e m below c hx hby hA t kk => XS.icmpYes hA hx rfl rfl (by rw [hby]; exact d1) rfl (feq q).2 d2 d3 kk) (G1 q)
  · exact go_step K H (fun p e m below c hx hby hA t kk => XS.icmpNo hA hx rfl (by rw [hby]; exact d1) rfl (teq (Decidable.not_not.mp q)).2 kk) (G2 (Decidable.not_not.mp q))
theorem go_if_ne (K : Cx w R Z n0 own bytes mx rt nm) (H : At1 w T h k n) {x : Int32} {yes no : Nat} (d : Jp bytes pc (.ifCond .ne) yes no) (G1 : ¬ x = (0 : Int32) → Go w Q T yes L st) (G2 : x = (0 : Int32) → Go w Q T no L st) : Go w Q T pc L (.int x :: st) := by
  obtain ⟨o, d1, d2, d3, rfl⟩ := d
  by_cases q : ¬ x = (0 : Int32)
  · exact go_step K H (fun p e m below c hx hby hA t kk => XS.ifYes hA hx rfl rfl (by rw [hby]; exact d1) rfl ((if0 _ _).trans (feq q).2) d2 d3 kk) (G1 q)
  · exact go_step K H (fun p e m below c hx hby hA t kk => XS.ifNo hA hx rfl (by rw [hby]; exact d1) rfl ((if0 _ _).trans (teq (Decidable.not_not.mp q)).2) kk) (G2 (Decidable.not_not.mp q))
theorem go_ifnull_yes (K : Cx w R Z n0 own bytes mx rt nm) (H : At1 w T h k n) {yes no : Nat} (d : Jp bytes pc .ifnull yes no) (G : Go w Q T yes L st) : Go w Q T pc L (.null :: st) := by
  obtain ⟨o, d1, d2, d3, rfl⟩ := d
  exact go_step K H (fun p e m below c hx hby hA t kk => XS.ifnullYes hA hx rfl rfl (by rw [hby]; exact d1) rfl d2 d3 kk) G
theorem go_ifnull_no (K : Cx w R Z n0 own bytes mx rt nm) (H : At1 w T h k n) {a : Addr} {yes no : Nat} (d : Jp bytes pc .ifnull yes no) (G : Go w Q T no L st) : Go w Q T pc L (.ref a :: st) := by
  obtain ⟨o, d1, d2, d3, rfl⟩ := d
  exact go_step K H (fun p e m below c hx hby hA t kk => XS.ifnullNo hA hx rfl (by rw [hby]; exact d1) rfl kk) G
theorem go_ifnonnull_yes (K : Cx w R Z n0 own bytes mx rt nm) (H : At1 w T h k n) {a : Addr} {yes no : Nat} (d : Jp bytes pc .ifnonnull yes no) (G : Go w Q T yes L st) : Go w Q T pc L (.ref a :: st) := by
  obtain ⟨o, d1, d2, d3, rfl⟩ := d
  exact go_step K H (fun p e m below c hx hby hA t kk => XS.ifnonnullYes hA hx rfl rfl (by rw [hby]; exact d1) rfl d2 d3 kk) G
theorem go_ifnonnull_no (K : Cx w R Z n0 own bytes mx rt nm) (H : At1 w T h k n) {yes no : Nat} (d : Jp bytes pc .ifnonnull yes no) (G : Go w Q T no L st) : Go w Q T pc L (.null :: st) := by
  obtain ⟨o, d1, d2, d3, rfl⟩ := d
  exact go_step K H (fun p e m below c hx hby hA t kk => XS.ifnonnullNo hA hx rfl (by rw [hby]; exact d1) rfl kk) G
theorem go_acmp_eq (K : Cx w R Z n0 own bytes mx rt nm) (H : At1 w T h k n) {x y : Value} (h1 : x.isRef = true) (h2 : y.isRef = true) {yes no : Nat} (d : Jp bytes pc (.if_acmp .eq) yes no) (G1 : x = y → Go w Q T yes L st) (G2 : ¬ x = y → Go w Q T no L st) : Go w Q T pc L (y :: x :: st) := by
  obtain ⟨p, l, e, R', s, m, args, below, meth, c, Z', k0⟩ := w
  obtain ⟨hx, hby, -⟩ := K
  obtain ⟨locs, X, -⟩ := H
  obtain ⟨o, d1, d2, d3, rfl⟩ := d
  by_cases q : x = y
  · obtain ⟨s₂, o2, g1, g2⟩ := G1 q
    exact ⟨s₂, o2, Jvm.RoadKit.acmp X hx rfl h1 h2 (pc' := yes) (same := true) rfl (by rw [hby]; exact d1) rfl (decide_eq_true q) d2 (by simp [acV, d3]) g1, g2⟩
  · obtain ⟨s₂, o2, g1, g2⟩ := G2 q
    exact ⟨s₂, o2, Jvm.RoadKit.acmp X hx rfl h1 h2 (pc' := pc + 3) (same := false) rfl (by rw [hby]; exact d1) rfl (decide_eq_false q) d2 (by simp [acV]) g1, g2⟩
theorem go_acmp_ne (K : Cx w R Z n0 own bytes mx rt nm) (H : At1 w T h k n) {x y : Value} (h1 : x.isRef = true) (h2 : y.isRef = true) {yes no : Nat} (d : Jp bytes pc (.if_acmp .ne) yes no) (G1 : ¬ x = y → Go w Q T yes L st) (G2 : x = y → Go w Q T no L st) : Go w Q T pc L (y :: x :: st) := by
  obtain ⟨p, l, e, R', s, m, args, below, meth, c, Z', k0⟩ := w
  obtain ⟨hx, hby, -⟩ := K
  obtain ⟨locs, X, -⟩ := H
  obtain ⟨o, d1, d2, d3, rfl⟩ := d
  by_cases q : x = y
  · obtain ⟨s₂, o2, g1, g2⟩ := G2 q
    exact ⟨s₂, o2, Jvm.RoadKit.acmp X hx rfl h1 h2 (pc' := pc + 3) (same := true) rfl (by rw [hby]; exact d1) rfl (decide_eq_true q) d2 (by simp [acV]) g1, g2⟩
  · obtain ⟨s₂, o2, g1, g2⟩ := G1 q
    exact ⟨s₂, o2, Jvm.RoadKit.acmp X hx rfl h1 h2 (pc' := yes) (same := false) rfl (by rw [hby]; exact d1) rfl (decide_eq_false q) d2 (by simp [acV, d3]) g1, g2⟩
/-- a step that hands on to a new state of the walk -/
theorem go_move {T' : State} (K : Cx w R Z n0 own bytes mx rt nm)
    (hs : ∀ (p : Program) (e : Env) (m : MethodId) (below : List Frame), (∃ l s args meth c, w = ⟨p, l, e, R, s, m, args, below, meth, c, Z, n0⟩) → ∀ t, Steps p.tables e below (T'.setTop (mkF m pc' L' st')) t → Steps p.tables e below (T.setTop (mkF m pc L st)) t)
    (G : Go w Q T' pc' L' st') : Go w Q T pc L st := by
  obtain ⟨p, l, e, R', s, m, args, below, meth, c, Z', k0⟩ := w
  obtain ⟨-, -, -, -, -, -, -, -, rfl, rfl, rfl, -⟩ := K
  obtain ⟨s₂, o, h1, h2⟩ := G
  exact ⟨s₂, o, hs p e m below ⟨l, s, args, meth, c, rfl⟩ _ h1, h2⟩
/-- one law a body's end -/
theorem go_leave (K : Cx w R Z n0 own bytes mx rt nm) (H : At1 w T h k n) {v : Option Value} (hv : rt = none → v = none) (hk : k ≤ R.cells) (hn : n ≤ R.slots)
    (hs : ∀ (p : Program) (l : Launch) (e : Env) (s : State) (m : MethodId) (args : Array Value) (below : List Frame) (meth : Method) (c : Code) (locs : List Loc), Stand p l e R s m args below meth c T locs k n → p.tables.exec = Jvm.exec → c.code = bytes → meth.sig.returnType = rt → ∀ fs, (∀ (f : JFrame) (acts : List Action), f.method = m → f.locked = none → f.entered = [] → (doReturn e (T.setTop f) acts v).1 = T.setFrames fs) → Steps p.tables e below (T.setTop (mkF m pc L st)) (T.setFrames fs))
    (hq : Q v h) : Go w Q T pc L st := by
  obtain ⟨p, l, e, R', s, m, args, below, meth, c, Z', k0⟩ := w
  obtain ⟨hx, hby, hml, hown, hZ, hret, hnm, hlk, rfl, rfl, rfl, h00⟩ := K
  obtain ⟨locs, X, eT, N⟩ := H
  obtain ⟨fs, hr, hrun, hended, hW, hsame⟩ := X.leave (v := v) (fun q => hv (hret ▸ q)) hlk
  exact ⟨_, _, hs p l e s m args below meth c locs X hx hby hret fs hr, hrun, hended, v, locs, rfl, ⟨by show Q v T.heap; rw [eT]; exact hq, N⟩, ⟨v, rfl⟩, hW, hsame.mono hk hn⟩
theorem go_ret (K : Cx w R Z n0 own bytes mx rt nm) (H : At1 w T h k n) {P : Heap → Prop} (d : Dc bytes pc .return_ 1 pc') (hr : rt = none) (hk : k ≤ R.cells) (hn : n ≤ R.slots) (hq : P h) : Go w (RV P) T pc L [] :=
  go_leave K H (fun _ => rfl) hk hn (fun p l e s m args below meth c locs X hx hby hret fs hl => X.returnOut hx (hret.trans hr) (dcb hby d) hl) ⟨rfl, hq⟩
theorem go_retV (K : Cx w R Z n0 own bytes mx rt nm) (H : At1 w T h k n) {v : Value} {t : FieldType} {i : Instr} (d : Dc bytes pc i 1 pc') (hr : rt = some t) (hnar : narrow t v = v)
    (hi : (i = .ireturn ∧ (t = .int ∨ t = .boolean ∨ t = .byte ∨ t = .char ∨ t = .short) ∧ ∃ z, v = .int z) ∨ (i = .lreturn ∧ t = .long ∧ ∃ z, v = .long z) ∨ (i = .dreturn ∧ t = .double ∧ ∃ z, v = .double z) ∨ (i = .freturn ∧ t = .float ∧ ∃ z, v = .float z) ∨ (i = .areturn ∧ t.isReference = true ∧ v.isRef = true))
    (hk : k ≤ R.cells) (hn : n ≤ R.slots) (hq : Q (some v) h) : Go w Q T pc L (v :: st) :=
  go_leave K H (fun q => by rw [hr] at q; cases q) hk hn (fun p l e s m args below meth c locs X hx hby hret fs hl => retOut X hx (hret.trans hr) hnar hi (dcb hby d) hl) hq
theorem go_iret (K : Cx w R Z n0 own bytes mx rt nm) (H : At1 w T h k n) {P : Int32 → Heap → Prop} {z : Int32} (d : Dc bytes pc .ireturn 1 pc') (hr : rt = some .int) (hk : k ≤ R.cells) (hn : n ≤ R.slots) (hq : P z h) : Go w (RI P) T pc L (.int z :: st) :=
  go_retV K H d hr rfl (Or.inl ⟨rfl, Or.inl rfl, z, rfl⟩) hk hn ⟨z, rfl, hq⟩
theorem go_zret (K : Cx w R Z n0 own bytes mx rt nm) (H : At1 w T h k n) {P : Int32 → Heap → Prop} {z : Int32} (d : Dc bytes pc .ireturn 1 pc') (hr : rt = some .boolean) (hz : nar .boolean z = z) (hk : k ≤ R.cells) (hn : n ≤ R.slots) (hq : P z h) : Go w (RI P) T pc L (.int z :: st) :=
  go_retV K H d hr (by show Value.int (nar .boolean z) = _; rw [hz]) (Or.inl ⟨rfl, Or.inr (Or.inl rfl), z, rfl⟩) hk hn ⟨z, rfl, hq⟩
theorem go_lret (K : Cx w R Z n0 own bytes mx rt nm) (H : At1 w T h k n) {P : Int64 → Heap → Prop} {z : Int64} (d : Dc bytes pc .lreturn 1 pc') (hr : rt = some .long) (hk : k ≤ R.cells) (hn : n ≤ R.slots) (hq : P z h) : Go w (RL P) T pc L (.long z :: st) :=
  go_retV K H d hr rfl (Or.inr (Or.inl ⟨rfl, rfl, z, rfl⟩)) hk hn ⟨z, rfl, hq⟩
theorem go_aret (K : Cx w R Z n0 own bytes mx rt nm) (H : At1 w T h k n) {P : Value → Heap → Prop} {z : Value} {t : FieldType} (d : Dc bytes pc .areturn 1 pc') (hr : rt = some t) (ht : t.isReference = true) (hz : z.isRef = true) (hk : k ≤ R.cells) (hn : n ≤ R.slots) (hq : P z h) : Go w (RR P) T pc L (z :: st) :=
  go_retV K H d hr (by rcases ref_cases hz with rfl | ⟨a, rfl⟩ <;> (cases t <;> first | rfl | (simp [FieldType.isReference] at ht))) (Or.inr (Or.inr (Or.inr (Or.inr ⟨rfl, ht, hz⟩)))) hk hn ⟨z, rfl, hz, hq⟩
theorem go_ldcI {a0 : Array Value} {idx : Nat} (z : Int32) (K : Cx w R Z n0 own bytes mx rt nm) (H : At1 w T h k n) (d : Dc bytes pc (.ldc idx) 2 pc') (w1 : (Cond.constant own idx z).before a0 Z = true) (G : Go w Q T pc' L (.int z :: st)) : Go w Q T pc L st := by
  obtain ⟨p, l, e, R', s, m, args, below, meth, c, Z', k0⟩ := w
  obtain ⟨hx, hby, hml, hown, hZ, -⟩ := K
  obtain ⟨locs, X, -⟩ := H
  obtain ⟨s₂, o, g1, g2⟩ := G
  obtain ⟨d1, rfl⟩ := d
  exact ⟨s₂, o, X.ldcInt hx hown (mvT hZ w1) rfl (by rw [hby]; exact d1) _ g1, g2⟩
theorem go_ldcwI {a0 : Array Value} {idx : Nat} (z : Int32) (K : Cx w R Z n0 own bytes mx rt nm) (H : At1 w T h k n) (d : Dc bytes pc (.ldc_w idx) 3 pc') (w1 : (Cond.constant own idx z).before a0 Z = true) (G : Go w Q T pc' L (.int z :: st)) : Go w Q T pc L st := by
  obtain ⟨p, l, e, R', s, m, args, below, meth, c, Z', k0⟩ := w
  obtain ⟨hx, hby, hml, hown, hZ, -⟩ := K
  obtain ⟨locs, X, -⟩ := H
  obtain ⟨s₂, o, g1, g2⟩ := G
  obtain ⟨d1, rfl⟩ := d
  exact ⟨s₂, o, X.ldcwInt hx hown (mvT hZ w1) rfl (by rw [hby]; exact d1) _ g1, g2⟩
theorem go_ldcL {a0 : Array Value} {idx : Nat} (z : Int64) (K : Cx w R Z n0 own bytes mx rt nm) (H : At1 w T h k n) (d : Dc bytes pc (.ldc2_w idx) 3 pc') (w1 : (Cond.constantLong own idx z).before a0 Z = true) (G : Go w Q T pc' L (.long z :: st)) : Go w Q T pc L st := by
  obtain ⟨p, l, e, R', s, m, args, below, meth, c, Z', k0⟩ := w
  obtain ⟨hx, hby, hml, hown, hZ, -⟩ := K
  obtain ⟨locs, X, -⟩ := H
  obtain ⟨s₂, o, g1, g2⟩ := G
  obtain ⟨d1, rfl⟩ := d
  exact ⟨s₂, o, X.ldc2Long hx hown (mvT hZ w1) rfl (by rw [hby]; exact d1) _ g1, g2⟩
theorem go_getfield {a0 : Array Value} {R0 O f ds host : String} {idx : Nat} {a : Addr} {v : Value} (K : Cx w R Z n0 own bytes mx rt nm) (H : At1 w T h k n) (d : Dc bytes pc (.getfield idx) 3 pc') (w1 : (Cond.fieldLink own idx R0 f ds).before a0 Z = true ∨ (Cond.fieldLinkNest own idx R0 f ds host).before a0 Z = true) (via : Via Z R0 O f ds) (F : Fld Z h a O f ds v)
    (G : ∀ T', At1 w T' h k n → Go w Q T' pc' L (v :: st)) : Go w Q T pc L (.ref a :: st) := by
  obtain ⟨p, l, e, R', s, m, args, below, meth, c, Z', k0⟩ := w
  obtain ⟨hx, hby, hml, hown, hZ, -⟩ := K
  obtain ⟨locs, X, eT, N⟩ := H
  obtain ⟨d1, rfl⟩ := d
  obtain ⟨T', X', e', stp⟩ := getF X hx hZ hown w1 via eT F (g := mkF m pc L (.ref a :: st)) rfl rfl (by rw [hby]; exact d1)
  obtain ⟨s₂, o, g1, g2⟩ := G T' ⟨locs, X', e', N⟩
  exact ⟨s₂, o, stp _ g1, g2⟩
theorem go_getstatic {a0 : Array Value} {R0 O f ds host : String} {idx : Nat} {v : Value} (K : Cx w R Z n0 own bytes mx rt nm) (H : At1 w T h k n) (d : Dc bytes pc (.getstatic idx) 3 pc') (w1 : (Cond.fieldLink own idx R0 f ds).before a0 Z = true ∨ (Cond.fieldLinkNest own idx R0 f ds host).before a0 Z = true) (via : Via Z R0 O f ds) (F : Sta Z h O f ds v)
    (G : ∀ T', At1 w T' h k n → Go w Q T' pc' L (v :: st)) : Go w Q T pc L st := by
  obtain ⟨p, l, e, R', s, m, args, below, meth, c, Z', k0⟩ := w
  obtain ⟨hx, hby, hml, hown, hZ, -⟩ := K
  obtain ⟨locs, X, eT, N⟩ := H
  obtain ⟨d1, rfl⟩ := d
  obtain ⟨T', X', e', stp⟩ := getS2 X hx hZ hown w1 via eT F (g := mkF m pc L st) rfl (by rw [hby]; exact d1)
  obtain ⟨s₂, o, g1, g2⟩ := G T' ⟨locs, X', e', N⟩
  exact ⟨s₂, o, stp _ g1, g2⟩
theorem go_putfield {a0 : Array Value} {R0 O f ds host C : String} {idx kk : Nat} {a : Addr} {v old : Value} {ty : FieldType} (K : Cx w R Z n0 own bytes mx rt nm) (H : At1 w T h k n) (d : Dc bytes pc (.putfield idx) 3 pc') (w1 : (Cond.fieldLink own idx R0 f ds).before a0 Z = true ∨ (Cond.fieldLinkNest own idx R0 f ds host).before a0 Z = true) (via : Via Z R0 O f ds)
    (F : Fld Z h a O f ds old) (E : Exa Z h a C) (Ly : (Cond.lays C O f ds).before a0 Z = true ∨ ((Cond.laysFinal C O f ds).before a0 Z = true ∧ own = O ∧ nm = "<init>")) (wi : (Cond.instantiable C kk).before a0 Z = true)
    (hty : parseFieldDescriptor ds = some ty) (hn : narrow ty v = v) (hf : fits ty v = true) (ha : n0 ≤ a)
    (G : ∀ T' h', At1 w T' h' k n → Wr h h' a (Jvm.RoadKit.slotOf Z O f ds) v → Go w Q T' pc' L st) : Go w Q T pc L (v :: .ref a :: st) := by
  obtain ⟨p, l, e, R', s, m, args, below, meth, c, Z', k0⟩ := w
  obtain ⟨hx, hby, hml, hown, hZ, hret, hnm, hlk, rfl, rfl, rfl, h00⟩ := K
  obtain ⟨locs, X, eT, N⟩ := H
  obtain ⟨d1, rfl⟩ := d
  obtain ⟨T', h', X', e', W, stp⟩ := putF X hx hZ hown w1 via eT F E (Ly.imp id fun q => ⟨q.1, q.2.1, hnm.trans q.2.2⟩) wi hty hn hf (g := mkF m pc L (v :: .ref a :: st)) rfl rfl (by rw [hby]; exact d1)
  obtain ⟨s₂, o, g1, g2⟩ := G T' h' ⟨_, X', e', Fr.snoc X' N ha⟩ W
  exact ⟨s₂, o, stp _ g1, g2⟩
theorem go_putfieldN {a0 : Array Value} {R0 O f ds C : String} {idx kk : Nat} {a : Addr} {v v' old : Value} {ty : FieldType} (K : Cx w R Z n0 own bytes mx rt nm) (H : At1 w T h k n) (d : Dc bytes pc (.putfield idx) 3 pc') (w1 : (Cond.fieldLink own idx R0 f ds).before a0 Z = true) (via : Via Z R0 O f ds)
    (F : Fld Z h a O f ds old) (E : Exa Z h a C) (Ly : (Cond.lays C O f ds).before a0 Z = true ∨ ((Cond.laysFinal C O f ds).before a0 Z = true ∧ own = O ∧ nm = "<init>")) (wi : (Cond.instantiable C kk).before a0 Z = true)
    (hty : parseFieldDescriptor ds = some ty) (hn : narrow ty v = v') (hf : fits ty v' = true) (ha : n0 ≤ a)
    (G : ∀ T' h', At1 w T' h' k n → Wr h h' a (Jvm.RoadKit.slotOf Z O f ds) v' → Go w Q T' pc' L st) : Go w Q T pc L (v :: .ref a :: st) := by
  obtain ⟨p, l, e, R', s, m, args, below, meth, c, Z', k0⟩ := w
  obtain ⟨hx, hby, hml, hown, hZ, hret, hnm, hlk, rfl, rfl, rfl, h00⟩ := K
  obtain ⟨locs, X, eT, N⟩ := H
  obtain ⟨d1, rfl⟩ := d
  obtain ⟨T', h', X', e', W, stp⟩ := putFN X hx hZ hown w1 via eT F E (Ly.imp id fun q => ⟨q.1, q.2.1, hnm.trans q.2.2⟩) wi hty hn hf (g := mkF m pc L (v :: .ref a :: st)) rfl rfl (by rw [hby]; exact d1)
  obtain ⟨s₂, o, g1, g2⟩ := G T' h' ⟨_, X', e', Fr.snoc X' N ha⟩ W
  exact ⟨s₂, o, stp _ g1, g2⟩
theorem go_new {a0 : Array Value} {C : String} {idx sl : Nat} (K : Cx w R Z n0 own bytes mx rt nm) (H : At1 w T h k n) (d : Dc bytes pc (.new idx) 3 pc') (w1 : (Cond.classLink own idx C).before a0 Z = true) (w2 : (Cond.instantiable C sl).before a0 Z = true) (w3 : (Cond.initialized C).before a0 Z = true) (hk : k + 1 ≤ R.cells) (hn : n + sl ≤ R.slots)
    (G : ∀ T' h' a, At1 w T' h' (k + 1) (n + sl) → a = h.size → n0 ≤ a → Ext h h' → Exa Z h' a C → (∀ {O f ds : String} {ty : FieldType}, Laid Z a0 C O f ds → parseFieldDescriptor ds = some ty → Fld Z h' a O f ds (defaultValue ty)) → Go w Q T' pc' L (.ref a :: st)) : Go w Q T pc L st := by
  obtain ⟨p, l, e, R', s, m, args, below, meth, c, Z', k0⟩ := w
  obtain ⟨hx, hby, hml, hown, hZ, hret, hnm, hlk, rfl, rfl, rfl, h00⟩ := K
  obtain ⟨locs, X, eT, N⟩ := H
  obtain ⟨d1, rfl⟩ := d
  obtain ⟨T', h', X', e', E, A, D, -, stp⟩ := newO X hx hZ hown w1 w2 w3 eT (g := mkF m pc L st) rfl (by rw [hby]; exact d1) hk hn
  obtain ⟨s₂, o, g1, g2⟩ := G T' h' h.size ⟨_, X', e', N⟩ rfl (by rw [← eT]; exact Nat.le_trans h00 X.same.2.1) E A D
  exact ⟨s₂, o, stp _ g1, g2⟩
theorem go_initO {a0 : Array Value} {idx : Nat} {a : Addr} (K : Cx w R Z n0 own bytes mx rt nm) (H : At1 w T h k n) (d : Dc bytes pc (.invokespecial idx) 3 pc') (w1 : (Cond.methodLink own idx Lib.objectInit).before a0 Z = true) (w2 : (Cond.instanceMethod Lib.objectInit).before a0 Z = true) (w3 : (Cond.code Lib.objectInit ⟨#[0xb1]⟩ 1 none).before a0 Z = true)
    (hL : L.size = mx) (hf : 1 ≤ R.frames) {W : Nat} (hW : (st.map fun v => v.category).sum = W) (hl : W + 12 ≤ R.locals)
    (G : ∀ T', At1 w T' h k n → Go w Q T' pc' L st) : Go w Q T pc L (.ref a :: st) := by
  obtain ⟨p, l, e, R', s, m, args, below, meth, c, Z', k0⟩ := w
  obtain ⟨hx, hby, hml, hown, hZ, hret, hnm, hlk, rfl, rfl, rfl, h00⟩ := K
  obtain ⟨locs, X, eT, N⟩ := H
  obtain ⟨d1, rfl⟩ := d
  obtain ⟨T', X', e', stp⟩ := initO X hx hZ hown w1 w2 w3 eT (g := mkF m pc L (.ref a :: st)) rfl (hL.trans hml.symm) rfl (by rw [hby]; exact d1) hf (W := W) (by show 2 * 0 + _ ≤ _; rw [hW]; omega) hl
  obtain ⟨s₂, o, g1, g2⟩ := G T' ⟨locs, X', e', N⟩
  exact ⟨s₂, o, stp _ g1, g2⟩
/-- an array: all its components -/
def VA (Z : State) (h : Heap) (a : Addr) (ty : FieldType) (vs : List Value) : Prop := ∃ c : Cell, Arr Z h a c ty ∧ c.slots.toList = vs ∧ vs.length < 2 ^ 31
def IA (Z : State) (h : Heap) (a : Addr) (xs : List Int32) : Prop := VA Z h a .int (xs.map Value.int)
def JA (Z : State) (h : Heap) (a : Addr) (xs : List Int64) : Prop := VA Z h a .long (xs.map Value.long)
theorem VA.ext {a : Addr} {ty : FieldType} {vs : List Value} {h' : Heap} (A : VA Z h a ty vs) (E : Ext h h') : VA Z h' a ty vs := by obtain ⟨c, A, r⟩ := A; exact ⟨c, A.ext E, r⟩
theorem VA.other {a b : Addr} {ty : FieldType} {vs : List Value} {h' : Heap} {sl : Nat} {v : Value} (A : VA Z h a ty vs) (W : Wr h h' b sl v) (q : a ≠ b) : VA Z h' a ty vs := by obtain ⟨c, A, r⟩ := A; exact ⟨c, A.other W q, r⟩
theorem VA.keep {a : Addr} {ty : FieldType} {vs : List Value} {h' : Heap} {ws : List Addr} (A : VA Z h a ty vs) (K : Keep h h' ws) (q : a ∉ ws) : VA Z h' a ty vs := by obtain ⟨c, A, r⟩ := A; exact ⟨c, ⟨K.2.1 a c A.1 q, A.2⟩, r⟩
theorem VA.lt {a : Addr} {ty : FieldType} {vs : List Value} (A : VA Z h a ty vs) : a < h.size := by obtain ⟨c, A, r⟩ := A; exact A.lt
theorem VA.len {a : Addr} {ty : FieldType} {vs : List Value} (A : VA Z h a ty vs) : vs.length < 2 ^ 31 := by obtain ⟨c, A, r1, r2⟩ := A; exact r2
theorem VA.set {a : Addr} {ty : FieldType} {vs : List Value} {h' : Heap} {i : Nat} {v : Value} (A : VA Z h a ty vs) (W : Wr h h' a i v) : VA Z h' a ty (vs.set i v) := by
  obtain ⟨c, A, r1, r2⟩ := A
  exact ⟨_, A.same W, by simp [Cell.setSlot, r1], by simpa using r2⟩
theorem IA.ext {a : Addr} {xs : List Int32} {h' : Heap} (A : IA Z h a xs) (E : Ext h h') : IA Z h' a xs := VA.ext A E
theorem IA.other {a b : Addr} {xs : List Int32} {h' : Heap} {sl : Nat} {v : Value} (A : IA Z h a xs) (W : Wr h h' b sl v) (q : a ≠ b) : IA Z h' a xs := VA.other A W q
theorem IA.keep {a : Addr} {xs : List Int32} {h' : Heap} {ws : List Addr} (A : IA Z h a xs) (K : Keep h h' ws) (q : a ∉ ws) : IA Z h' a xs := VA.keep A K q
theorem IA.lt {a : Addr} {xs : List Int32} (A : IA Z h a xs) : a < h.size := VA.lt A
theorem IA.len {a : Addr} {xs : List Int32} (A : IA Z h a xs) : xs.length < 2 ^ 31 := by simpa using VA.len A
theorem IA.set {a : Addr} {xs : List Int32} {h' : Heap} {i : Nat} {x : Int32} (A : IA Z h a xs) (W : Wr h h' a i (.int x)) : IA Z h' a (xs.set i x) := by
  have q := VA.set A W
  rw [← List.map_set] at q; exact q
theorem JA.ext {a : Addr} {xs : List Int64} {h' : Heap} (A : JA Z h a xs) (E : Ext h h') : JA Z h' a xs := VA.ext A E
theorem JA.other {a b : Addr} {xs : List Int64} {h' : Heap} {sl : Nat} {v : Value} (A : JA Z h a xs) (W : Wr h h' b sl v) (q : a ≠ b) : JA Z h' a xs := VA.other A W q
theorem JA.keep {a : Addr} {xs : List Int64} {h' : Heap} {ws : List Addr} (A : JA Z h a xs) (K : Keep h h' ws) (q : a ∉ ws) : JA Z h' a xs := VA.keep A K q
theorem JA.lt {a : Addr} {xs : List Int64} (A : JA Z h a xs) : a < h.size := VA.lt A
theorem JA.len {a : Addr} {xs : List Int64} (A : JA Z h a xs) : xs.length < 2 ^ 31 := by simpa using VA.len A
theorem JA.set {a : Addr} {xs : List Int64} {h' : Heap} {i : Nat} {x : Int64} (A : JA Z h a xs) (W : Wr h h' a i (.long x)) : JA Z h' a (xs.set i x) := by
  have q := VA.set A W
  rw [← List.map_set] at q; exact q
theorem idx_nat {j : Int32} {i : Nat} (hj : j.toInt = (i : Int)) : ¬ j < 0 ∧ j.toNatClampNeg = i := by
  constructor
  · rw [Int32.lt_iff_toInt_lt, hj]; show ¬ ((i : Int) < 0); omega
  · simp only [Int32.toNatClampNeg, hj]; omega
theorem slot_at {c : Cell} {vs : List Value} {i : Nat} {v : Value} (r : c.slots.toList = vs) (hi : vs[i]? = some v) : c.slots[i]? = some v := by rw [← Array.getElem?_toList, r]; exact hi
theorem inb_at {c : Cell} {vs : List Value} {j : Int32} {i : Nat} (r : c.slots.toList = vs) (hj : j.toInt = (i : Int)) (hi : i < vs.length) : ¬ (j < 0 ∨ c.slots.size ≤ j.toNatClampNeg) := by
  obtain ⟨h1, h2⟩ := idx_nat hj
  have e : c.slots.size = vs.length := by rw [← r]; simp
  rw [h2, e]
  rintro (q | q)
  · exact h1 q
  · omega
theorem lt_of_at {α : Type} {vs : List α} {i : Nat} {v : α} (hi : vs[i]? = some v) : i < vs.length := (List.getElem?_eq_some_iff.mp hi).1
theorem go_newarray {a0 : Array Value} {aty : ArrayType} {m : Int32} (cap : Nat) (K : Cx w R Z n0 own bytes mx rt nm) (H : At1 w T h k n) (d : Dc bytes pc (.newarray aty) 2 pc') (w1 : (Cond.arrayClass (newarray.typeOf aty)).before a0 Z = true) (hm : ¬ m < 0) (hcap : m.toNatClampNeg ≤ cap) (hb : cap * 8 ≤ 536870912) (hk : k + 1 ≤ R.cells) (hn : n + cap ≤ R.slots)
    (G : ∀ T' h' a, At1 w T' h' (k + 1) (n + cap) → a = h.size → n0 ≤ a → Ext h h' → VA Z h' a (newarray.typeOf aty) (List.replicate m.toNatClampNeg (defaultValue (newarray.typeOf aty))) → Go w Q T' pc' L (.ref a :: st)) : Go w Q T pc L (.int m :: st) := by
  obtain ⟨p, l, e, R', s, mm, args, below, meth, c, Z', k0⟩ := w
  obtain ⟨hx, hby, hml, hown, hZ, hret, hnm, hlk, rfl, rfl, rfl, h00⟩ := K
  obtain ⟨locs, X, eT, N⟩ := H
  obtain ⟨d1, rfl⟩ := d
  obtain ⟨T', h', cA, X', e', E, A, stp⟩ := newP X hx hZ w1 eT (g := mkF mm pc L (.int m :: st)) rfl (by rw [hby]; exact d1) rfl hm hcap hb hk hn
  obtain ⟨s₂, o, g1, g2⟩ := G T' h' h.size ⟨_, X', e', N⟩ rfl (by rw [← eT]; exact Nat.le_trans h00 X.same.2.1) E ⟨_, A, by simp [newA], by simpa using (back32 hm).2⟩
  exact ⟨s₂, o, stp _ g1, g2⟩
theorem go_arraylength {a : Addr} {ty : FieldType} {vs : List Value} (K : Cx w R Z n0 own bytes mx rt nm) (H : At1 w T h k n) (d : Dc bytes pc .arraylength 1 pc') (A : VA Z h a ty vs) (G : ∀ z : Int32, z.toInt = (vs.length : Int) → Go w Q T pc' L (.int z :: st)) : Go w Q T pc L (.ref a :: st) := by
  obtain ⟨p, l, e, R', s, m, args, below, meth, c, Z', k0⟩ := w
  obtain ⟨hx, hby, hml, hown, hZ, -⟩ := K
  obtain ⟨locs, X, eT, N⟩ := H
  obtain ⟨d1, rfl⟩ := d
  obtain ⟨cl, A, r1, r2⟩ := A
  have e : cl.slots.size = vs.length := by rw [← r1]; simp
  obtain ⟨s₂, o, g1, g2⟩ := G cl.slots.size.toInt32 (by rw [e]; exact len_toInt r2)
  exact ⟨s₂, o, X.arraylength hx (by rw [eT]; exact A.1) (State.isArrayOf_alike hZ.alike A.2.1) (g := mkF m pc L (.ref a :: st)) rfl rfl (by rw [hby]; exact d1) _ g1, g2⟩
theorem go_iaload {a : Addr} {vs : List Value} {j : Int32} (i : Nat) {v : Value} (K : Cx w R Z n0 own bytes mx rt nm) (H : At1 w T h k n) (d : Dc bytes pc .iaload 1 pc') (A : VA Z h a .int vs) (hj : j.toInt = (i : Int)) (hi : vs[i]? = some v) (G : Go w Q T pc' L (v :: st)) : Go w Q T pc L (.int j :: .ref a :: st) := by
  obtain ⟨p, l, e, R', s, m, args, below, meth, c, Z', k0⟩ := w
  obtain ⟨hx, hby, hml, hown, hZ, -⟩ := K
  obtain ⟨locs, X, eT, N⟩ := H
  obtain ⟨d1, rfl⟩ := d
  obtain ⟨cl, A, r1, r2⟩ := A
  obtain ⟨s₂, o, g1, g2⟩ := G
  exact ⟨s₂, o, X.iaload hx (by rw [eT]; exact A.1) (State.isArrayOf_alike hZ.alike A.2.1) A.2.2 (inb_at r1 hj (lt_of_at hi)) (by rw [(idx_nat hj).2]; exact slot_at r1 hi) (g := mkF m pc L (.int j :: .ref a :: st)) rfl rfl (by rw [hby]; exact d1) _ g1, g2⟩
theorem go_laload {a : Addr} {vs : List Value} {j : Int32} (i : Nat) {v : Value} (K : Cx w R Z n0 own bytes mx rt nm) (H : At1 w T h k n) (d : Dc bytes pc .laload 1 pc') (A : VA Z h a .long vs) (hj : j.toInt = (i : Int)) (hi : vs[i]? = some v) (G : Go w Q T pc' L (v :: st)) : Go w Q T pc L (.int j :: .ref a :: st) := by
  obtain ⟨p, l, e, R', s, m, args, below, meth, c, Z', k0⟩ := w
  obtain ⟨hx, hby, hml, hown, hZ, -⟩ := K
  obtain ⟨locs, X, eT, N⟩ := H
  obtain ⟨d1, rfl⟩ := d
  obtain ⟨cl, A, r1, r2⟩ := A
  obtain ⟨s₂, o, g1, g2⟩ := G
  exact ⟨s₂, o, X.laload hx (by rw [eT]; exact A.1) (State.isArrayOf_alike hZ.alike A.2.1) A.2.2 (inb_at r1 hj (lt_of_at hi)) (by rw [(idx_nat hj).2]; exact slot_at r1 hi) (g := mkF m pc L (.int j :: .ref a :: st)) rfl rfl (by rw [hby]; exact d1) _ g1, g2⟩
theorem go_caload {a : Addr} {vs : List Value} {j : Int32} (i : Nat) {v : Value} (K : Cx w R Z n0 own bytes mx rt nm) (H : At1 w T h k n) (d : Dc bytes pc .caload 1 pc') (A : VA Z h a .char vs) (hj : j.toInt = (i : Int)) (hi : vs[i]? = some v) (G : Go w Q T pc' L (v :: st)) : Go w Q T pc L (.int j :: .ref a :: st) := by
  obtain ⟨p, l, e, R', s, m, args, below, meth, c, Z', k0⟩ := w
  obtain ⟨hx, hby, hml, hown, hZ, -⟩ := K
  obtain ⟨locs, X, eT, N⟩ := H
  obtain ⟨d1, rfl⟩ := d
  obtain ⟨cl, A, r1, r2⟩ := A
  obtain ⟨s₂, o, g1, g2⟩ := G
  exact ⟨s₂, o, X.caload hx (by rw [eT]; exact A.1) (State.isArrayOf_alike hZ.alike A.2.1) A.2.2 (inb_at r1 hj (lt_of_at hi)) (by rw [(idx_nat hj).2]; exact slot_at r1 hi) (g := mkF m pc L (.int j :: .ref a :: st)) rfl rfl (by rw [hby]; exact d1) _ g1, g2⟩
theorem go_baload {a : Addr} {vs : List Value} {j : Int32} (i : Nat) {v : Value} (K : Cx w R Z n0 own bytes mx rt nm) (H : At1 w T h k n) (d : Dc bytes pc .baload 1 pc') (A : VA Z h a .byte vs) (hj : j.toInt = (i : Int)) (hi : vs[i]? = some v) (G : Go w Q T pc' L (v :: st)) : Go w Q T pc L (.int j :: .ref a :: st) := by
  obtain ⟨p, l, e, R', s, m, args, below, meth, c, Z', k0⟩ := w
  obtain ⟨hx, hby, hml, hown, hZ, -⟩ := K
  obtain ⟨locs, X, eT, N⟩ := H
  obtain ⟨d1, rfl⟩ := d
  obtain ⟨cl, A, r1, r2⟩ := A
  obtain ⟨s₂, o, g1, g2⟩ := G
  exact ⟨s₂, o, X.baloadBytes hx (by rw [eT]; exact A.1) (State.isArrayOf_alike hZ.alike A.2.1) A.2.2 (inb_at r1 hj (lt_of_at hi)) (by rw [(idx_nat hj).2]; exact slot_at r1 hi) (g := mkF m pc L (.int j :: .ref a :: st)) rfl rfl (by rw [hby]; exact d1) _ g1, g2⟩
theorem go_aaload {a : Addr} {ty : FieldType} {vs : List Value} {j : Int32} (i : Nat) {v : Value} (K : Cx w R Z n0 own bytes mx rt nm) (H : At1 w T h k n) (d : Dc bytes pc .aaload 1 pc') (A : VA Z h a ty vs) (hty : ty.isReference = true) (hj : j.toInt = (i : Int)) (hi : vs[i]? = some v) (G : Go w Q T pc' L (v :: st)) : Go w Q T pc L (.int j :: .ref a :: st) := by
  obtain ⟨p, l, e, R', s, m, args, below, meth, c, Z', k0⟩ := w
  obtain ⟨hx, hby, hml, hown, hZ, -⟩ := K
  obtain ⟨locs, X, eT, N⟩ := H
  obtain ⟨d1, rfl⟩ := d
  obtain ⟨cl, A, r1, r2⟩ := A
  obtain ⟨s₂, o, g1, g2⟩ := G
  exact ⟨s₂, o, X.aaload hx (by rw [eT]; exact A.1) (State.isArrayOf_alike hZ.alike A.2.1) hty A.2.2 (inb_at r1 hj (lt_of_at hi)) (by rw [(idx_nat hj).2]; exact slot_at r1 hi) (g := mkF m pc L (.int j :: .ref a :: st)) rfl rfl (by rw [hby]; exact d1) _ g1, g2⟩
theorem go_iastore {a : Addr} {vs : List Value} {j : Int32} {x : Int32} (i : Nat) (K : Cx w R Z n0 own bytes mx rt nm) (H : At1 w T h k n) (d : Dc bytes pc .iastore 1 pc') (A : VA Z h a .int vs) (hj : j.toInt = (i : Int)) (hi : i < vs.length) (ha : n0 ≤ a) (G : ∀ T' h', At1 w T' h' k n → Wr h h' a i (.int x) → Go w Q T' pc' L st) : Go w Q T pc L (.int x :: .int j :: .ref a :: st) := by
  obtain ⟨p, l, e, R', s, m, args, below, meth, c, Z', k0⟩ := w
  obtain ⟨hx, hby, hml, hown, hZ, hret, hnm, hlk, rfl, rfl, rfl, h00⟩ := K
  obtain ⟨locs, X, eT, N⟩ := H
  obtain ⟨d1, rfl⟩ := d
  obtain ⟨cl, A, r1, r2⟩ := A
  obtain ⟨T', h', X', e', W, stp⟩ := stI X hx hZ eT A (inb_at r1 hj hi) (g := mkF m pc L (.int x :: .int j :: .ref a :: st)) rfl rfl (by rw [hby]; exact d1)
  obtain ⟨s₂, o, g1, g2⟩ := G T' h' ⟨_, X', e', Fr.snoc X' N ha⟩ (by rw [← (idx_nat hj).2]; exact W)
  exact ⟨s₂, o, stp _ g1, g2⟩
theorem go_lastore {a : Addr} {vs : List Value} {j : Int32} {x : Int64} (i : Nat) (K : Cx w R Z n0 own bytes mx rt nm) (H : At1 w T h k n) (d : Dc bytes pc .lastore 1 pc') (A : VA Z h a .long vs) (hj : j.toInt = (i : Int)) (hi : i < vs.length) (ha : n0 ≤ a) (G : ∀ T' h', At1 w T' h' k n → Wr h h' a i (.long x) → Go w Q T' pc' L st) : Go w Q T pc L (.long x :: .int j :: .ref a :: st) := by
  obtain ⟨p, l, e, R', s, m, args, below, meth, c, Z', k0⟩ := w
  obtain ⟨hx, hby, hml, hown, hZ, hret, hnm, hlk, rfl, rfl, rfl, h00⟩ := K
  obtain ⟨locs, X, eT, N⟩ := H
  obtain ⟨d1, rfl⟩ := d
  obtain ⟨cl, A, r1, r2⟩ := A
  obtain ⟨T', h', X', e', W, stp⟩ := stJ X hx hZ eT A (inb_at r1 hj hi) (g := mkF m pc L (.long x :: .int j :: .ref a :: st)) rfl rfl (by rw [hby]; exact d1)
  obtain ⟨s₂, o, g1, g2⟩ := G T' h' ⟨_, X', e', Fr.snoc X' N ha⟩ (by rw [← (idx_nat hj).2]; exact W)
  exact ⟨s₂, o, stp _ g1, g2⟩
theorem go_castore {a : Addr} {vs : List Value} {j : Int32} {x : Int32} (i : Nat) (K : Cx w R Z n0 own bytes mx rt nm) (H : At1 w T h k n) (d : Dc bytes pc .castore 1 pc') (A : VA Z h a .char vs) (hj : j.toInt = (i : Int)) (hi : i < vs.length) (ha : n0 ≤ a) (G : ∀ T' h', At1 w T' h' k n → Wr h h' a i (.int (nar .char x)) → Go w Q T' pc' L st) : Go w Q T pc L (.int x :: .int j :: .ref a :: st) := by
  obtain ⟨p, l, e, R', s, m, args, below, meth, c, Z', k0⟩ := w
  obtain ⟨hx, hby, hml, hown, hZ, hret, hnm, hlk, rfl, rfl, rfl, h00⟩ := K
  obtain ⟨locs, X, eT, N⟩ := H
  obtain ⟨d1, rfl⟩ := d
  obtain ⟨cl, A, r1, r2⟩ := A
  obtain ⟨T', h', X', e', W, stp⟩ := stC X hx hZ eT A (inb_at r1 hj hi) (g := mkF m pc L (.int x :: .int j :: .ref a :: st)) rfl rfl (by rw [hby]; exact d1)
  obtain ⟨s₂, o, g1, g2⟩ := G T' h' ⟨_, X', e', Fr.snoc X' N ha⟩ (by rw [← (idx_nat hj).2]; exact W)
  exact ⟨s₂, o, stp _ g1, g2⟩
theorem go_bastore {a : Addr} {vs : List Value} {j : Int32} {x : Int32} (i : Nat) (K : Cx w R Z n0 own bytes mx rt nm) (H : At1 w T h k n) (d : Dc bytes pc .bastore 1 pc') (A : VA Z h a .byte vs) (hj : j.toInt = (i : Int)) (hi : i < vs.length) (ha : n0 ≤ a) (G : ∀ T' h', At1 w T' h' k n → Wr h h' a i (.int x.toInt8.toInt32) → Go w Q T' pc' L st) : Go w Q T pc L (.int x :: .int j :: .ref a :: st) := by
  obtain ⟨p, l, e, R', s, m, args, below, meth, c, Z', k0⟩ := w
  obtain ⟨hx, hby, hml, hown, hZ, hret, hnm, hlk, rfl, rfl, rfl, h00⟩ := K
  obtain ⟨locs, X, eT, N⟩ := H
  obtain ⟨d1, rfl⟩ := d
  obtain ⟨cl, A, r1, r2⟩ := A
  obtain ⟨T', h', X', e', W, stp⟩ := stB X hx hZ eT A (inb_at r1 hj hi) (g := mkF m pc L (.int x :: .int j :: .ref a :: st)) rfl rfl (by rw [hby]; exact d1)
  obtain ⟨s₂, o, g1, g2⟩ := G T' h' ⟨_, X', e', Fr.snoc X' N ha⟩ (by rw [← (idx_nat hj).2]; exact W)
  exact ⟨s₂, o, stp _ g1, g2⟩
theorem at_nat {α : Type} {xs : List α} {j : Int32} (h0 : 0 ≤ j.toInt) (h1 : j.toInt < xs.length) : ∃ (i : Nat) (x : α), j.toInt = (i : Int) ∧ xs[i]? = some x :=
  ⟨j.toInt.toNat, _, (Int.toNat_of_nonneg h0).symm, List.getElem?_eq_getElem (by omega)⟩
theorem go_iaI {a : Addr} {xs : List Int32} {j : Int32} (K : Cx w R Z n0 own bytes mx rt nm) (H : At1 w T h k n) (d : Dc bytes pc .iaload 1 pc') (A : IA Z h a xs) (h0 : 0 ≤ j.toInt) (h1 : j.toInt < xs.length) (G : ∀ (i : Nat) (x : Int32), j.toInt = (i : Int) → xs[i]? = some x → Go w Q T pc' L (.int x :: st)) : Go w Q T pc L (.int j :: .ref a :: st) := by
  obtain ⟨i, x, e, hx⟩ := at_nat h0 h1
  exact go_iaload i K H d A e (by rw [List.getElem?_map, hx]; rfl) (G i x e hx)
theorem go_laJ {a : Addr} {xs : List Int64} {j : Int32} (K : Cx w R Z n0 own bytes mx rt nm) (H : At1 w T h k n) (d : Dc bytes pc .laload 1 pc') (A : JA Z h a xs) (h0 : 0 ≤ j.toInt) (h1 : j.toInt < xs.length) (G : ∀ (i : Nat) (x : Int64), j.toInt = (i : Int) → xs[i]? = some x → Go w Q T pc' L (.long x :: st)) : Go w Q T pc L (.int j :: .ref a :: st) := by
  obtain ⟨i, x, e, hx⟩ := at_nat h0 h1
  exact go_laload i K H d A e (by rw [List.getElem?_map, hx]; rfl) (G i x e hx)
theorem go_iasI {a : Addr} {xs : List Int32} {j x : Int32} (K : Cx w R Z n0 own bytes mx rt nm) (H : At1 w T h k n) (d : Dc bytes pc .iastore 1 pc') (A : IA Z h a xs) (h0 : 0 ≤ j.toInt) (h1 : j.toInt < xs.length) (ha : n0 ≤ a) (G : ∀ T' h' (i : Nat), At1 w T' h' k n → j.toInt = (i : Int) → Wr h h' a i (.int x) → IA Z h' a (xs.set i x) → Go w Q T' pc' L st) : Go w Q T pc L (.int x :: .int j :: .ref a :: st) := by
  have e : j.toInt = (j.toInt.toNat : Int) := (Int.toNat_of_nonneg h0).symm
  exact go_iastore j.toInt.toNat K H d A e (by rw [List.length_map]; omega) ha fun T' h' H' W => G T' h' _ H' e W (IA.set A W)
theorem go_lasJ {a : Addr} {xs : List Int64} {j : Int32} {x : Int64} (K : Cx w R Z n0 own bytes mx rt nm) (H : At1 w T h k n) (d : Dc bytes pc .lastore 1 pc') (A : JA Z h a xs) (h0 : 0 ≤ j.toInt) (h1 : j.toInt < xs.length) (ha : n0 ≤ a) (G : ∀ T' h' (i : Nat), At1 w T' h' k n → j.toInt = (i : Int) → Wr h h' a i (.long x) → JA Z h' a (xs.set i x) → Go w Q T' pc' L st) : Go w Q T pc L (.long x :: .int j :: .ref a :: st) := by
  have e : j.toInt = (j.toInt.toNat : Int) := (Int.toNat_of_nonneg h0).symm
  exact go_lastore j.toInt.toNat K H d A e (by rw [List.length_map]; omega) ha fun T' h' H' W => G T' h' _ H' e W (JA.set A W)
/-- an array of references over C: all its components -/
def OA (Z : State) (h : Heap) (a : Addr) (C : String) (vs : List Value) : Prop := ∃ c : Cell, Arr Z h a c (.object C) ∧ c.slots.toList = vs ∧ vs.length < 2 ^ 31 ∧ Ovr Z c.cls C
theorem OA.va {a : Addr} {C : String} {vs : List Value} (A : OA Z h a C vs) : VA Z h a (.object C) vs := by obtain ⟨c, A, r1, r2, -⟩ := A; exact ⟨c, A, r1, r2⟩
theorem OA.ext {a : Addr} {C : String} {vs : List Value} {h' : Heap} (A : OA Z h a C vs) (E : Ext h h') : OA Z h' a C vs := by obtain ⟨c, A, r⟩ := A; exact ⟨c, A.ext E, r⟩
theorem OA.other {a b : Addr} {C : String} {vs : List Value} {h' : Heap} {sl : Nat} {v : Value} (A : OA Z h a C vs) (W : Wr h h' b sl v) (q : a ≠ b) : OA Z h' a C vs := by obtain ⟨c, A, r⟩ := A; exact ⟨c, A.other W q, r⟩
theorem OA.keep {a : Addr} {C : String} {vs : List Value} {h' : Heap} {ws : List Addr} (A : OA Z h a C vs) (K : Keep h h' ws) (q : a ∉ ws) : OA Z h' a C vs := by obtain ⟨c, A, r⟩ := A; exact ⟨c, ⟨K.2.1 a c A.1 q, A.2⟩, r⟩
theorem OA.lt {a : Addr} {C : String} {vs : List Value} (A : OA Z h a C vs) : a < h.size := A.va.lt
theorem OA.set {a : Addr} {C : String} {vs : List Value} {h' : Heap} {i : Nat} {v : Value} (A : OA Z h a C vs) (W : Wr h h' a i v) : OA Z h' a C (vs.set i v) := by
  obtain ⟨c, A, r1, r2, r3⟩ := A
  exact ⟨_, A.same W, by simp [Cell.setSlot, r1], by simpa using r2, r3⟩
theorem go_anewarray {a0 : Array Value} {C : String} {idx : Nat} {m : Int32} (cap : Nat) (K : Cx w R Z n0 own bytes mx rt nm) (H : At1 w T h k n) (d : Dc bytes pc (.anewarray idx) 3 pc') (w1 : (Cond.classLink own idx C).before a0 Z = true) (w2 : (Cond.arrayOver (.object C)).before a0 Z = true) (hm : ¬ m < 0) (hcap : m.toNatClampNeg ≤ cap) (hb : cap * 8 ≤ 536870912) (hk : k + 1 ≤ R.cells) (hn : n + cap ≤ R.slots)
    (G : ∀ T' h' a, At1 w T' h' (k + 1) (n + cap) → a = h.size → n0 ≤ a → Ext h h' → OA Z h' a C (List.replicate m.toNatClampNeg .null) → Go w Q T' pc' L (.ref a :: st)) : Go w Q T pc L (.int m :: st) := by
  obtain ⟨p, l, e, R', s, mm, args, below, meth, c, Z', k0⟩ := w
  obtain ⟨hx, hby, hml, hown, hZ, hret, hnm, hlk, rfl, rfl, rfl, h00⟩ := K
  obtain ⟨locs, X, eT, N⟩ := H
  obtain ⟨d1, rfl⟩ := d
  obtain ⟨T', h', cA, X', e', E, A, O, stp⟩ := newR X hx hZ hown w1 w2 eT (g := mkF mm pc L (.int m :: st)) rfl (by rw [hby]; exact d1) rfl hm hcap hb hk hn
  obtain ⟨s₂, o, g1, g2⟩ := G T' h' h.size ⟨_, X', e', N⟩ rfl (by rw [← eT]; exact Nat.le_trans h00 X.same.2.1) E ⟨_, A, by simp [newA, defaultValue], by simpa using (back32 hm).2, O⟩
  exact ⟨s₂, o, stp _ g1, g2⟩
theorem go_aastore {a : Addr} {C : String} {vs : List Value} {j : Int32} {v : Value} (i : Nat) (K : Cx w R Z n0 own bytes mx rt nm) (H : At1 w T h k n) (d : Dc bytes pc .aastore 1 pc') (A : OA Z h a C vs) (hv : v = .null ∨ ∃ y, v = .ref y ∧ Ins Z h y C true) (hj : j.toInt = (i : Int)) (hi : i < vs.length) (ha : n0 ≤ a) (G : ∀ T' h', At1 w T' h' k n → Wr h h' a i v → OA Z h' a C (vs.set i v) → Go w Q T' pc' L st) : Go w Q T pc L (v :: .int j :: .ref a :: st) := by
  obtain ⟨p, l, e, R', s, m, args, below, meth, c, Z', k0⟩ := w
  obtain ⟨hx, hby, hml, hown, hZ, hret, hnm, hlk, rfl, rfl, rfl, h00⟩ := K
  obtain ⟨locs, X, eT, N⟩ := H
  obtain ⟨d1, rfl⟩ := d
  have A' := A
  obtain ⟨cl, A, r1, r2, r3⟩ := A
  have S : Sto Z' h a v := by
    rcases hv with rfl | ⟨y, rfl, I⟩
    · exact Or.inl rfl
    · exact Sto.of A r3 I
  obtain ⟨T', h', X', e', W, stp⟩ := stR X hx hZ eT A (inb_at r1 hj hi) rfl S (g := mkF m pc L (v :: .int j :: .ref a :: st)) rfl rfl (by rw [hby]; exact d1)
  have W' : Wr h h' a i v := by rw [← (idx_nat hj).2]; exact W
  obtain ⟨s₂, o, g1, g2⟩ := G T' h' ⟨_, X', e', Fr.snoc X' N ha⟩ W' (A'.set W')
  exact ⟨s₂, o, stp _ g1, g2⟩
theorem go_checkcast {a0 : Array Value} {C : String} {idx : Nat} {a : Addr} (K : Cx w R Z n0 own bytes mx rt nm) (H : At1 w T h k n) (d : Dc bytes pc (.checkcast idx) 3 pc') (w1 : (Cond.classLink own idx C).before a0 Z = true) (F : Ins Z h a C true)
    (G : ∀ T', At1 w T' h k n → Go w Q T' pc' L (.ref a :: st)) : Go w Q T pc L (.ref a :: st) := by
  obtain ⟨p, l, e, R', s, m, args, below, meth, c, Z', k0⟩ := w
  obtain ⟨hx, hby, hml, hown, hZ, -⟩ := K
  obtain ⟨locs, X, eT, N⟩ := H
  obtain ⟨d1, rfl⟩ := d
  obtain ⟨T', X', e', stp⟩ := castY X hx hZ hown w1 eT F (g := mkF m pc L (.ref a :: st)) rfl rfl (by rw [hby]; exact d1)
  obtain ⟨s₂, o, g1, g2⟩ := G T' ⟨locs, X', e', N⟩
  exact ⟨s₂, o, stp _ g1, g2⟩
theorem go_instY {a0 : Array Value} {C : String} {idx : Nat} {a : Addr} (K : Cx w R Z n0 own bytes mx rt nm) (H : At1 w T h k n) (d : Dc bytes pc (.instanceof idx) 3 pc') (w1 : (Cond.classLink own idx C).before a0 Z = true) (F : Ins Z h a C true)
    (G : ∀ T', At1 w T' h k n → Go w Q T' pc' L (.int 1 :: st)) : Go w Q T pc L (.ref a :: st) := by
  obtain ⟨p, l, e, R', s, m, args, below, meth, c, Z', k0⟩ := w
  obtain ⟨hx, hby, hml, hown, hZ, -⟩ := K
  obtain ⟨locs, X, eT, N⟩ := H
  obtain ⟨d1, rfl⟩ := d
  obtain ⟨T', X', e', stp⟩ := instY X hx hZ hown w1 eT F (g := mkF m pc L (.ref a :: st)) rfl rfl (by rw [hby]; exact d1)
  obtain ⟨s₂, o, g1, g2⟩ := G T' ⟨locs, X', e', N⟩
  exact ⟨s₂, o, stp _ g1, g2⟩
theorem eqI_v {t : Term} {z : Int32} {args : Array Value} {s : State} (h : (Cond.eq t (.int z)).value args s none s [] = some true) : t.eval args s none [] s = some (.int z) := by
  obtain ⟨x, y, h1, h2, k1, k2⟩ := cmp_v (Or.inl h)
  cases (Term.int_eval z).symm.trans h2
  obtain ⟨q, rfl⟩ := k2
  rw [h1, gotT (Cond.eq_ints h1 h2) h]
theorem len_size {t : Term} {z : Int32} {a : Addr} {c : Cell} {args : Array Value} {s : State} (h : (Term.length t).eval args s none [] s = some (.int z)) (ht : t.eval args s none [] s = some (.ref a)) (hc : s.heap[a]? = some c) : (c.slots.size : Int) = z.toInt := by
  obtain ⟨a', c', e1, e2, e3⟩ := Term.length_spec h
  cases ht.symm.trans e1
  cases hc.symm.trans (State.arrayAt?_spec e2).1
  by_cases q : c.slots.size < 2 ^ 31
  · cases e3; exact (len_toInt q).symm
  · simp [Term.eval, ht, e2, q] at h
theorem elem_val {t : Term} {z : Int32} {a : Addr} {c : Cell} {args : Array Value} {s : State} {j : Int32} (h : (Term.elem t (.int j)).eval args s none [] s = some (.int z)) (ht : t.eval args s none [] s = some (.ref a)) (hc : s.heap[a]? = some c) : c.slots[j.toNatClampNeg]? = some (.int z) := (elem_in h ht (Term.int_eval j) hc).2
theorem go_instNull {idx : Nat} (K : Cx w R Z n0 own bytes mx rt nm) (H : At1 w T h k n) (d : Dc bytes pc (.instanceof idx) 3 pc') (G : Go w Q T pc' L (.int 0 :: st)) : Go w Q T pc L (.null :: st) := by
  obtain ⟨p, l, e, R', s, m, args, below, meth, c, Z', k0⟩ := w
  obtain ⟨hx, hby, -⟩ := K
  obtain ⟨locs, X, eT, N⟩ := H
  obtain ⟨d1, rfl⟩ := d
  obtain ⟨s₂, o, g1, g2⟩ := G
  exact ⟨s₂, o, X.instanceofNull hx (g := mkF m pc L (.null :: st)) rfl rfl (by rw [hby]; exact d1) _ g1, g2⟩
theorem go_instNo {a0 : Array Value} {C C' : String} {idx : Nat} {a : Addr} (K : Cx w R Z n0 own bytes mx rt nm) (H : At1 w T h k n) (d : Dc bytes pc (.instanceof idx) 3 pc') (w1 : (Cond.classLink own idx C).before a0 Z = true) (E : Exa Z h a C') (F : ∃ c t, Z.vm.findClass C' = some c ∧ Z.vm.findClass C = some t ∧ Z.vm.assignable c t = false)
    (G : ∀ T', At1 w T' h k n → Go w Q T' pc' L (.int 0 :: st)) : Go w Q T pc L (.ref a :: st) := by
  obtain ⟨p, l, e, R', s, m, args, below, meth, c, Z', k0⟩ := w
  obtain ⟨hx, hby, hml, hown, hZ, -⟩ := K
  obtain ⟨locs, X, eT, N⟩ := H
  obtain ⟨d1, rfl⟩ := d
  obtain ⟨T', X', e', stp⟩ := instNo X hx hZ hown w1 eT E F (g := mkF m pc L (.ref a :: st)) rfl rfl (by rw [hby]; exact d1)
  obtain ⟨s₂, o, g1, g2⟩ := G T' ⟨locs, X', e', N⟩
  exact ⟨s₂, o, stp _ g1, g2⟩
theorem ns_root {a0 : Array Value} {O C : String} {j : Nat} (w1 : (Cond.noSuperclass O).before a0 Z = true) (wk : (Cond.instantiable C j).before a0 Z = true) (hn : O ≠ C) : NS Z O C := by
  obtain ⟨c, k, h1, h2, h3, -, -⟩ := Cond.noSuperclass_spec w1
  obtain ⟨t, kt, g1, -⟩ := Cond.instantiable_spec wk
  have ne := ids_ne h1 g1 hn
  refine ⟨c, t, h1, g1, fun fuel => ?_⟩
  cases fuel with
  | zero => rfl
  | succ f => simp [Vm.isSubclassAux, ne, h2, h3]
theorem ns_no {a0 : Array Value} {C S C' : String} {j : Nat} (w1 : (Cond.superclass C S).before a0 Z = true) (wk : (Cond.instantiable C' j).before a0 Z = true) (n : NS Z C C') (hn : C ≠ C') : ∃ c t, Z.vm.findClass C = some c ∧ Z.vm.findClass C' = some t ∧ Z.vm.assignable c t = false := by
  obtain ⟨c, t, h0, g0, n3⟩ := n
  obtain ⟨p, k, kp, h1, h2, h3, h4, h5, -, h7⟩ := Cond.superclass_spec h0 w1
  obtain ⟨q, k', g1, g2, g3, g4, -⟩ := Cond.instantiable_spec wk
  cases g0.symm.trans g1
  have ne := ids_ne h0 g0 hn
  refine ⟨c, _, h0, g0, ?_⟩
  show Z.vm.assignableAux (255 + 1) c _ = false
  simp [Vm.assignableAux, ne, h2, g2, h5, g3, (Bool.or_eq_false_iff.mp g4).1, Vm.isSubclass, n3]
theorem VA.arv {a : Addr} {ty : FieldType} {vs : List Value} (A : VA Z h a ty vs) (dv : Value) (hf : ∀ v ∈ vs, fits ty v = true) : ∃ cid, Arv Z h a cid ty (Nat.toInt32 vs.length) vs dv := by
  obtain ⟨c, A, r1, r2⟩ := A
  have hs : c.slots.size = vs.length := by rw [← r1]; simp
  have hn : (Nat.toInt32 vs.length).toNatClampNeg = vs.length := by simp only [Int32.toNatClampNeg, len_toInt r2]; rfl
  refine ⟨c.cls, c, A, rfl, by rw [hn, hs], ?_, fun i hi => ?_, fun i hi => ?_⟩
  · rw [Int32.lt_iff_toInt_lt, len_toInt r2]; show ¬ ((vs.length : Int) < 0); omega
  · rw [hs] at hi
    rw [← Array.getElem?_toList, r1, List.getD_eq_getElem?_getD, List.getElem?_eq_getElem hi]; rfl
  · rw [hs] at hi
    rw [List.getD_eq_getElem?_getD, List.getElem?_eq_getElem hi]; exact hf _ (List.getElem_mem hi)
theorem VA.of_arr {a : Addr} {ty : FieldType} {c : Cell} {vs : List Value} (A : Arr Z h a c ty) (hs : c.slots.size = vs.length) (hl : vs.length < 2 ^ 31) (he : ∀ i, i < vs.length → c.slots[i]? = vs[i]?) : VA Z h a ty vs := by
  refine ⟨c, A, List.ext_getElem? fun i => ?_, hl⟩
  rw [Array.getElem?_toList]
  by_cases q : i < vs.length
  · exact he i q
  · rw [List.getElem?_eq_none (by omega), Array.getElem?_eq_none (by omega)]
theorem VA.of_arv {a : Addr} {ty : FieldType} {cid : ClassId} {z : Int32} {vs : List Value} {dv : Value} (A : Arv Z h a cid ty z vs dv) (hl : vs.length = z.toNatClampNeg) (hz : vs.length < 2 ^ 31) : VA Z h a ty vs := by
  obtain ⟨c, A, -, hs, -, H, -⟩ := A
  refine VA.of_arr A (by rw [hs, hl]) hz fun i hi => ?_
  rw [H i (by rw [hs, ← hl]; exact hi), List.getD_eq_getElem?_getD, List.getElem?_eq_getElem hi]; rfl
theorem go_copyI {a0 : Array Value} {idx : Nat} {a b : Addr} {xs ys : List Int32} {sp dp nn : Int32} (i j l : Nat) (K : Cx w R Z n0 own bytes mx rt nm) (H : At1 w T h k n) (d : Dc bytes pc (.invokestatic idx) 3 pc') (w1 : (Cond.methodLink own idx Jvm.Stand.acN).before a0 Z = true) (w2 : (Cond.native Jvm.Stand.acN).before a0 Z = true) (w3 : (Cond.static Jvm.Stand.acN).before a0 Z = true) (w4 : (Cond.initialized "java/lang/System").before a0 Z = true)
    (A : IA Z h a xs) (B : IA Z h b ys) (e1 : sp.toInt = (i : Int)) (e2 : dp.toInt = (j : Int)) (e3 : nn.toInt = (l : Int)) (b1 : i + l ≤ xs.length) (b2 : j + l ≤ ys.length) (ge : n0 ≤ b) (hL : L.size = mx) (hf : 1 ≤ R.frames) {W : Nat} (hW : (st.map fun v => v.category).sum = W) (hl : W + (nativeFrameWords "java/lang/System" "arraycopy" 5 + 11) ≤ R.locals)
    (G : ∀ T' h', At1 w T' h' k n → Keep h h' [b] → IA Z h' b (ys.take j ++ (xs.drop i).take l ++ ys.drop (j + l)) → Go w Q T' pc' L st) : Go w Q T pc L (.int nn :: .int dp :: .ref b :: .int sp :: .ref a :: st) := by
  obtain ⟨p, l', e, R', s, m, args, below, meth, c, Z', k0⟩ := w
  obtain ⟨hx, hby, hml, hown, hZ, hret, hnm, hlk, rfl, rfl, rfl, h00⟩ := K
  obtain ⟨locs, X, eT, N⟩ := H
  obtain ⟨d1, rfl⟩ := d
  have ft : ∀ (zs : List Int32), ∀ v ∈ zs.map Value.int, fits .int v = true := fun zs v hv => by obtain ⟨y, -, rfl⟩ := List.mem_map.mp hv; rfl
  have la := A.len
  have lb := B.len
  obtain ⟨ca, VA1⟩ := VA.arv A (.int 0) (ft xs)
  obtain ⟨cb, VB1⟩ := VA.arv B (.int 0) (ft ys)
  have la' : (Nat.toInt32 (xs.map Value.int).length).toNatClampNeg = xs.length := by simp only [List.length_map, Int32.toNatClampNeg, len_toInt la]; rfl
  have lb' : (Nat.toInt32 (ys.map Value.int).length).toNatClampNeg = ys.length := by simp only [List.length_map, Int32.toNatClampNeg, len_toInt lb]; rfl
  have hus : ((xs.drop i).take l).map Value.int = (List.range nn.toNatClampNeg).map fun q => (xs.map Value.int).getD (sp.toNatClampNeg + q) (.int 0) := by
    rw [(idx_nat e3).2, (idx_nat e1).2]
    apply List.ext_getElem?
    intro q
    rw [List.getElem?_map, List.getElem?_map]
    by_cases hq : q < l
    · rw [List.getElem?_take_of_lt hq, List.getElem?_drop, List.getElem?_range hq, List.getElem?_eq_getElem (show i + q < xs.length by omega)]
      simp [List.getD_eq_getElem?_getD, List.getElem?_eq_getElem (show i + q < xs.length by omega)]
    · rw [List.getElem?_eq_none (by simp; omega), List.getElem?_eq_none (by simp; omega)]; rfl
  obtain ⟨T', h', L2, X', e', N', K', B', stp⟩ := cpA X hx hZ hown w1 w2 w3 w4 eT VA1 VB1 (Or.inl ⟨rfl, rfl⟩) (idx_nat e1).1 (idx_nat e2).1 (idx_nat e3).1 (by rw [(idx_nat e1).2, (idx_nat e3).2, la']; exact b1) (by rw [(idx_nat e2).2, (idx_nat e3).2, lb']; exact b2) hus (by rw [(idx_nat e2).2, (idx_nat e3).2, List.length_map]; exact b2) N ge (g := mkF m pc L (.int nn :: .int dp :: .ref b :: .int sp :: .ref a :: st)) rfl (hL.trans hml.symm) rfl (by rw [hby]; exact d1) hf (W := W) (by show 2 * 0 + _ ≤ _; rw [hW]; omega) hl
  rw [(idx_nat e2).2, (idx_nat e3).2] at B'
  have B2 : IA Z' h' b (ys.take j ++ (xs.drop i).take l ++ ys.drop (j + l)) := by
    have q := VA.of_arv B' (by rw [lb']; simp; omega) (by simp; omega)
    rw [← List.map_take, ← List.map_drop, ← List.map_append, ← List.map_append] at q
    exact q
  obtain ⟨s₂, o, g1, g2⟩ := G T' h' ⟨_, X', e', N'⟩ K' B2
  exact ⟨s₂, o, stp _ g1, g2⟩
theorem f_iadd {v x y : Int32} (e : v = x + y) : (v.toInt - (x.toInt + y.toInt)) % 4294967296 = 0 := e ▸ c_iadd x y
theorem f_isub {v x y : Int32} (e : v = x - y) : (v.toInt - (x.toInt - y.toInt)) % 4294967296 = 0 := e ▸ c_isub x y
theorem f_imul {v x y : Int32} (e : v = x * y) : (v.toInt - (x.toInt * y.toInt)) % 4294967296 = 0 := e ▸ c_imul x y
theorem f_ineg {v x : Int32} (e : v = -x) : (v.toInt - (-x.toInt)) % 4294967296 = 0 := e ▸ c_ineg x
theorem f_ladd {v x y : Int64} (e : v = x + y) : (v.toInt - (x.toInt + y.toInt)) % 18446744073709551616 = 0 := e ▸ c_ladd x y
theorem f_lsub {v x y : Int64} (e : v = x - y) : (v.toInt - (x.toInt - y.toInt)) % 18446744073709551616 = 0 := e ▸ c_lsub x y
theorem f_lmul {v x y : Int64} (e : v = x * y) : (v.toInt - (x.toInt * y.toInt)) % 18446744073709551616 = 0 := e ▸ c_lmul x y
theorem f_lneg {v x : Int64} (e : v = -x) : (v.toInt - (-x.toInt)) % 18446744073709551616 = 0 := e ▸ c_lneg x
theorem f_l2i {v : Int32} {x : Int64} (e : v = x.toInt32) : (v.toInt - x.toInt) % 4294967296 = 0 := e ▸ c_l2i x
theorem f_i2l {v : Int64} {x : Int32} (e : v = x.toInt64) : v.toInt = x.toInt := e ▸ c_i2l x
theorem f_i2b {v x : Int32} (e : v = x.toInt8.toInt32) : (v.toInt - x.toInt) % 256 = 0 ∧ -128 ≤ v.toInt ∧ v.toInt < 128 := e ▸ c_i2b x
theorem f_i2s {v x : Int32} (e : v = x.toInt16.toInt32) : (v.toInt - x.toInt) % 65536 = 0 ∧ -32768 ≤ v.toInt ∧ v.toInt < 32768 := e ▸ c_i2s x
theorem f_i2c {v x : Int32} (e : v = x.toUInt32.toUInt16.toUInt32.toInt32) : (v.toInt - x.toInt) % 65536 = 0 ∧ 0 ≤ v.toInt ∧ v.toInt < 65536 := e ▸ c_i2c x
theorem f_mask {v x m : Int32} (M : Nat) (k : Nat) (e : v = x &&& m) (hk : k ≤ 31) (hm : m.toBitVec.toNat = 2 ^ k - 1) (hM : 2 ^ k = M) : v.toInt = x.toInt % (M : Nat) := by rw [e, ← hM]; exact c_mask x m k hk hm
theorem f_maskL {v x m : Int64} (M : Nat) (k : Nat) (e : v = x &&& m) (hk : k ≤ 63) (hm : m.toBitVec.toNat = 2 ^ k - 1) (hM : 2 ^ k = M) : v.toInt = x.toInt % (M : Nat) := by rw [e, ← hM]; exact c_maskL x m k hk hm
theorem f_ishr {v x q : Int32} (M : Nat) (k : Nat) (e : v = x >>> (q &&& 31)) (hk : q.toBitVec.toNat % 32 = k) (hM : 2 ^ k = M) : v.toInt = x.toInt / (M : Nat) := by rw [e, ← hM]; exact c_ishr x q k hk
theorem f_ishl {v x q : Int32} (M : Nat) (k : Nat) (e : v = x <<< (q &&& 31)) (hk : q.toBitVec.toNat % 32 = k) (hM : 2 ^ k = M) : (v.toInt - x.toInt * (M : Nat)) % 4294967296 = 0 := by rw [e, ← hM]; exact c_ishl x q k hk
theorem f_iushr {v x q : Int32} (M : Nat) (k : Nat) (e : v = iU x q) (hk : q.toBitVec.toNat % 32 = k) (h0 : 0 < k) (hM : 2 ^ k = M) : v.toInt = (x.toInt % 4294967296) / (M : Nat) := by rw [e, ← hM]; exact c_iushr x q k hk h0
theorem f_lshr {v x : Int64} {q : Int32} (M : Nat) (k : Nat) (e : v = x >>> (q &&& 0x3f).toInt64) (hk : q.toBitVec.toNat % 64 = k) (hM : 2 ^ k = M) : v.toInt = x.toInt / (M : Nat) := by rw [e, ← hM]; exact c_lshr x q k hk
theorem f_lshl {v x : Int64} {q : Int32} (M : Nat) (k : Nat) (e : v = x <<< (q &&& 0x3f).toInt64) (hk : q.toBitVec.toNat % 64 = k) (hM : 2 ^ k = M) : (v.toInt - x.toInt * (M : Nat)) % 18446744073709551616 = 0 := by rw [e, ← hM]; exact c_lshl x q k hk
theorem f_lushr {v x : Int64} {q : Int32} (M : Nat) (k : Nat) (e : v = lU x q) (hk : q.toBitVec.toNat % 64 = k) (h0 : 0 < k) (hM : 2 ^ k = M) : v.toInt = (x.toInt % 18446744073709551616) / (M : Nat) := by rw [e, ← hM]; exact c_lushr x q k hk h0
theorem f_idiv {v x y : Int32} (d : Int) (e : v = x / y) (hy : y.toInt = d) (hd : y ≠ -1) : (0 ≤ x.toInt → v.toInt = x.toInt / d) ∧ (x.toInt < 0 → v.toInt = -((-x.toInt) / d)) := e ▸ c_idiv x y d hy hd
theorem f_irem {v x y : Int32} (d : Int) (e : v = x % y) (hy : y.toInt = d) : (0 ≤ x.toInt → v.toInt = x.toInt % d) ∧ (x.toInt < 0 → v.toInt = -((-x.toInt) % d)) := e ▸ c_irem x y d hy
theorem f_ldiv {v x y : Int64} (d : Int) (e : v = x / y) (hy : y.toInt = d) (hd : y ≠ -1) : (0 ≤ x.toInt → v.toInt = x.toInt / d) ∧ (x.toInt < 0 → v.toInt = -((-x.toInt) / d)) := e ▸ c_ldiv x y d hy hd
theorem f_lrem {v x y : Int64} (d : Int) (e : v = x - (x / y) * y) (hy : y.toInt = d) : (0 ≤ x.toInt → v.toInt = x.toInt % d) ∧ (x.toInt < 0 → v.toInt = -((-x.toInt) % d)) := e ▸ c_lrem x y d hy
theorem f_lcmp {v : Int32} {x y : Int64} (e : v = lcmpW x y) : (x.toInt < y.toInt → v.toInt = -1) ∧ (x.toInt = y.toInt → v.toInt = 0) ∧ (y.toInt < x.toInt → v.toInt = 1) := e ▸ c_lcmp x y
def bI (p : Prop) [Decidable p] : Int32 := if p then 1 else 0
theorem bI_t {p : Prop} [Decidable p] (h : p) : bI p = 1 := if_pos h
theorem bI_f {p : Prop} [Decidable p] (h : ¬ p) : bI p = 0 := if_neg h
theorem bI_nar {p : Prop} [Decidable p] : nar .boolean (bI p) = bI p := by unfold bI; split <;> decide
theorem bI_iff {p q : Prop} [Decidable p] [Decidable q] (h : p ↔ q) : bI p = bI q := by simp [bI, h]
theorem bI_eq0 {p : Prop} [Decidable p] : bI p = 0 ↔ ¬ p := by unfold bI; split <;> simp_all
theorem bI_eq1 {p : Prop} [Decidable p] : bI p = 1 ↔ p := by unfold bI; split <;> simp_all
theorem bI_inj {p q : Prop} [Decidable p] [Decidable q] : bI p = bI q ↔ (p ↔ q) := by unfold bI; split <;> split <;> simp_all
theorem bI_ne0 {p : Prop} [Decidable p] : ¬ bI p = 0 ↔ p := by unfold bI; split <;> simp_all
theorem go_lookup (K : Cx w R Z n0 own bytes mx rt nm) (H : At1 w T h k n) {x : Int32} {df off : Int} {ps : Array (Int × Int)} {q yes no : Nat} (d : Dc bytes pc (.lookupswitch df ps) q pc') (hs : (ps.toList.zip (ps.toList.drop 1)).all (fun (a, next) => a.1 < next.1) = true) (hall : ∀ p ∈ ps.toList, p.2 = off) (hy0 : 0 ≤ (pc : Int) + off) (hy : ((pc : Int) + off).toNat = yes) (hn0 : 0 ≤ (pc : Int) + df) (hn : ((pc : Int) + df).toNat = no)
    (G1 : x.toInt ∈ ps.toList.map (·.1) → Go w Q T yes L st) (G2 : x.toInt ∉ ps.toList.map (·.1) → Go w Q T no L st) : Go w Q T pc L (.int x :: st) := by
  obtain ⟨p, l, e, R', s, m, args, below, meth, c, Z', k0⟩ := w
  obtain ⟨hx, hby, -⟩ := K
  obtain ⟨locs, X, -⟩ := H
  subst hy hn
  cases hf : ps.find? (·.1 == x.toInt) with
  | none =>
    have : x.toInt ∉ ps.toList.map (·.1) := by
      intro hm
      obtain ⟨a, ha, e⟩ := List.mem_map.mp hm
      have := Array.find?_eq_none.mp hf a (Array.mem_toList_iff.mp ha)
      simp [e] at this
    obtain ⟨s₂, o, g1, g2⟩ := G2 this
    exact ⟨s₂, o, X.lookupswitchMiss hx (g := mkF m pc L (.int x :: st)) rfl rfl (by rw [hby]; exact d.1) hs hf hn0 _ g1, g2⟩
  | some a =>
    obtain ⟨b, off'⟩ := a
    have hm := Array.mem_toList_iff.mpr (Array.mem_of_find?_eq_some hf)
    have hb : b = x.toInt := by simpa using Array.find?_some hf
    obtain rfl : off' = off := hall _ hm
    obtain ⟨s₂, o, g1, g2⟩ := G1 (List.mem_map.mpr ⟨_, hm, hb⟩)
    exact ⟨s₂, o, X.lookupswitchHit hx (g := mkF m pc L (.int x :: st)) rfl rfl (by rw [hby]; exact d.1) hs hf hy0 _ g1, g2⟩
theorem con_back {l : Launch} {p : Program} {e : Env} {s : State} {args : Array Value} {below : List Frame} {a0 : Array Value} {y : MethodName} {yb : ByteArray} {ym : Nat} {yr : Option FieldType} {rm : Room} {as' : Array Value} {P : Option Value → Heap → Prop} {len W : Nat}
    (C : Con l Z y yb ym yr rm as' h n0 P) (hZ : Z.Warmed39 s.vm) (wc : (Cond.code y yb ym yr).before a0 Z = true) (wz : (Cond.initialized y.cls).before a0 Z = true) (hf : rm.frames + 1 ≤ R.frames) (hl : W + (ym + 11) + rm.locals ≤ R.locals) :
    Back l R p e below s args y len W (fun A a => a = as' ∧ A.U.heap = h ∧ A.cells + rm.cells ≤ R.cells ∧ A.slots + rm.slots ≤ R.slots)
      (fun A _ v B => ∃ Lc, (P v B.U.heap ∧ Fr n0 Lc) ∧ B.locs = A.locs ++ Lc ∧ B.cells = A.cells + rm.cells ∧ B.slots = A.slots + rm.slots) :=
  backOf (Q := fun v hh Lc => P v hh ∧ Fr n0 Lc) (C []) hZ wc wz hf hl
theorem at_size (K : Cx w R Z n0 own bytes mx rt nm) (H : At1 w T h k n) : n0 ≤ h.size := by
  obtain ⟨p, l, e, R', s, m, args, below, meth, c, Z', k0⟩ := w
  obtain ⟨hx, hby, hml, hown, hZ, hret, hnm, hlk, rfl, rfl, rfl, h00⟩ := K
  obtain ⟨locs, X, eT, N⟩ := H
  rw [← eT]; exact Nat.le_trans h00 X.same.2.1
theorem go_callS {a0 : Array Value} {idx : Nat} {y : MethodName} {yb : ByteArray} {ym : Nat} {yr : Option FieldType} {rm : Room} {P : Option Value → Heap → Prop} {ps : List FieldType} {rr : Option FieldType} (argsL : List Value)
    (K : Cx w R Z n0 own bytes mx rt nm) (H : At1 w T h k n) (d : Dc bytes pc (.invokestatic idx) 3 pc') (w1 : (Cond.methodLink own idx y).before a0 Z = true) (w2 : (Cond.static y).before a0 Z = true) (w3 : (Cond.initialized y.cls).before a0 Z = true) (w4 : (Cond.code y yb ym yr).before a0 Z = true)
    (hy : y.cls ≠ "java/lang/invoke/MethodHandle" ∧ y.cls ≠ "java/lang/invoke/VarHandle") (C : ∀ l, Con l Z y yb ym yr rm argsL.toArray h n0 P) (hd : parseMethodDescriptor y.desc = some ⟨ps, rr⟩) (hlen : argsL.length = ps.length) (hs : st = argsL.reverse ++ st')
    (hL : L.size = mx) (hf : rm.frames + 1 ≤ R.frames) {W : Nat} (hW : (st'.map fun v => v.category).sum = W) (hl : W + (ym + 11) + rm.locals ≤ R.locals) (hk : k + rm.cells ≤ R.cells) (hn : n + rm.slots ≤ R.slots)
    (G : ∀ T' h' v, At1 w T' h' (k + rm.cells) (n + rm.slots) → P v h' → Go w Q T' pc' L (v.toList ++ st')) : Go w Q T pc L st := by
  obtain ⟨p, l, e, R', s, m, args, below, meth, c, Z', k0⟩ := w
  obtain ⟨hx, hby, hml, hown, hZ, hret, hnm, hlk, rfl, rfl, rfl, h00⟩ := K
  obtain ⟨locs, X, eT, N⟩ := H
  obtain ⟨d1, rfl⟩ := d
  obtain ⟨v, vm₁, ⟨T', L1, k1, n1⟩, -, X', ⟨Lc, ⟨hQ, N'⟩, l1, y1, z1⟩, stp⟩ := Jvm.LawKit.callS X hx (y := y) hown (mvT hZ w1) (mvT hZ w2) (mvT hZ w3) (mvT hZ w4) hy (con_back (W := W) (C l) hZ w4 w3 hf hl) (g := mkF m pc L st) rfl (hL.trans hml.symm) (argsL := argsL) (rest := st') (lenOf hd hlen) hs (by show 2 * 0 + _ ≤ _; rw [hW]; omega) (by rw [hby]; exact d1) (fun _ _ => ⟨rfl, eT, hk, hn⟩)
  dsimp only [Pt.U, Pt.locs, Pt.cells, Pt.slots] at X' l1 y1 z1 stp hQ
  subst l1 y1 z1
  obtain ⟨s₂, o, g1, g2⟩ := G T' T'.heap v ⟨_, X', rfl, Fr.app N N'⟩ hQ
  exact ⟨s₂, o, stp _ g1, g2⟩
theorem go_callI {a0 : Array Value} {idx : Nat} {y : MethodName} {yb : ByteArray} {ym : Nat} {rm : Room} {P : Option Value → Heap → Prop} {ps : List FieldType} {rr : Option FieldType} {a : Addr} (argsL : List Value)
    (K : Cx w R Z n0 own bytes mx rt nm) (H : At1 w T h k n) (d : Dc bytes pc (.invokespecial idx) 3 pc') (hy1 : y.name = "<init>") (w1 : (Cond.methodLink own idx y).before a0 Z = true) (w2 : (Cond.instanceMethod y).before a0 Z = true) (w3 : (Cond.initialized y.cls).before a0 Z = true) (w4 : (Cond.code y yb ym none).before a0 Z = true)
    (hy : y.cls ≠ "java/lang/invoke/MethodHandle" ∧ y.cls ≠ "java/lang/invoke/VarHandle") (C : ∀ l, Con l Z y yb ym none rm (.ref a :: argsL).toArray h n0 P) (hd : parseMethodDescriptor y.desc = some ⟨ps, rr⟩) (hlen : argsL.length = ps.length) (hs : st = argsL.reverse ++ .ref a :: st')
    (hL : L.size = mx) (hf : rm.frames + 1 ≤ R.frames) {W : Nat} (hW : (st'.map fun v => v.category).sum = W) (hl : W + (ym + 11) + rm.locals ≤ R.locals) (hk : k + rm.cells ≤ R.cells) (hn : n + rm.slots ≤ R.slots)
    (G : ∀ T' h' v, At1 w T' h' (k + rm.cells) (n + rm.slots) → P v h' → Go w Q T' pc' L (v.toList ++ st')) : Go w Q T pc L st := by
  obtain ⟨p, l, e, R', s, m, args, below, meth, c, Z', k0⟩ := w
  obtain ⟨hx, hby, hml, hown, hZ, hret, hnm, hlk, rfl, rfl, rfl, h00⟩ := K
  obtain ⟨locs, X, eT, N⟩ := H
  obtain ⟨d1, rfl⟩ := d
  obtain ⟨v, vm₁, ⟨T', L1, k1, n1⟩, -, X', ⟨Lc, ⟨hQ, N'⟩, l1, y1, z1⟩, stp⟩ := X.specialBack hx (y := y) hy1 hown (mvT hZ w1) (mvT hZ w2) (mvT hZ w4) hy (con_back (W := W) (C l) hZ w4 w3 hf hl) (g := mkF m pc L st) rfl (hL.trans hml.symm) (Steps.refl _) (a := a) (argsL := argsL) (rest := st') (lenOf hd hlen) hs (by show 2 * 0 + _ ≤ _; rw [hW]; omega) (by rw [hby]; exact d1) (fun _ _ => ⟨rfl, eT, hk, hn⟩)
  dsimp only [Pt.U, Pt.locs, Pt.cells, Pt.slots] at X' l1 y1 z1 stp hQ
  subst l1 y1 z1
  obtain ⟨s₂, o, g1, g2⟩ := G T' T'.heap v ⟨_, X', rfl, Fr.app N N'⟩ hQ
  exact ⟨s₂, o, stp.trans g1, g2⟩
theorem go_callV {a0 : Array Value} {idx : Nat} {y z : MethodName} {yb : ByteArray} {ym : Nat} {yr : Option FieldType} {rm : Room} {P : Option Value → Heap → Prop} {ps : List FieldType} {rr : Option FieldType} {a : Addr} {CC : String} (argsL : List Value)
    (K : Cx w R Z n0 own bytes mx rt nm) (H : At1 w T h k n) (d : Dc bytes pc (.invokevirtual idx) 3 pc') (E : Exa Z h a CC) (w1 : (Cond.methodLink own idx y).before a0 Z = true) (wd : (Cond.declares y).before a0 Z = true) (hnf : ∀ s : State, Z.Warmed39 s.vm → NotFace s y) (ws : (Cond.selects CC y z).before a0 Z = true) (w2 : (Cond.instanceMethod z).before a0 Z = true) (w3 : (Cond.initialized z.cls).before a0 Z = true) (w4 : (Cond.code z yb ym yr).before a0 Z = true)
    (hy : y.cls ≠ "java/lang/invoke/MethodHandle" ∧ y.cls ≠ "java/lang/invoke/VarHandle") (C : ∀ l, Con l Z z yb ym yr rm (.ref a :: argsL).toArray h n0 P) (hd : parseMethodDescriptor y.desc = some ⟨ps, rr⟩) (hlen : argsL.length = ps.length) (hs : st = argsL.reverse ++ .ref a :: st')
    (hL : L.size = mx) (hf : rm.frames + 1 ≤ R.frames) {W : Nat} (hW : (st'.map fun v => v.category).sum = W) (hl : W + (ym + 11) + rm.locals ≤ R.locals) (hk : k + rm.cells ≤ R.cells) (hn : n + rm.slots ≤ R.slots)
    (G : ∀ T' h' v, At1 w T' h' (k + rm.cells) (n + rm.slots) → P v h' → Go w Q T' pc' L (v.toList ++ st')) : Go w Q T pc L st := by
  obtain ⟨p, l, e, R', s, m, args, below, meth, c, Z', k0⟩ := w
  obtain ⟨hx, hby, hml, hown, hZ, hret, hnm, hlk, rfl, rfl, rfl, h00⟩ := K
  obtain ⟨locs, X, eT, N⟩ := H
  obtain ⟨d1, rfl⟩ := d
  obtain ⟨cq, kq, q1, q2, q3⟩ := isOf hZ eT E
  obtain ⟨v, vm₁, ⟨T', L1, k1, n1⟩, -, X', ⟨Lc, ⟨hQ, N'⟩, l1, y1, z1⟩, stp⟩ := X.virtualBack hx (y := y) (z := z) hown (mvT hZ w1) (mvT hZ wd) (hnf s hZ) (mvT hZ ws) (mvT hZ w2) hy (con_back (W := W) (C l) hZ w4 w3 hf hl) q1 q3 (g := mkF m pc L st) rfl (hL.trans hml.symm) (Steps.refl _) (argsL := argsL) (rest := st') (lenOf hd hlen) hs (by show 2 * 0 + _ ≤ _; rw [hW]; omega) (by rw [hby]; exact d1) (fun _ _ => ⟨rfl, eT, hk, hn⟩)
  dsimp only [Pt.U, Pt.locs, Pt.cells, Pt.slots] at X' l1 y1 z1 stp hQ
  subst l1 y1 z1
  obtain ⟨s₂, o, g1, g2⟩ := G T' T'.heap v ⟨_, X', rfl, Fr.app N N'⟩ hQ
  exact ⟨s₂, o, stp.trans g1, g2⟩
theorem go_callP {a0 : Array Value} {idx : Nat} {y : MethodName} {yb : ByteArray} {ym : Nat} {yr : Option FieldType} {rm : Room} {P : Option Value → Heap → Prop} {ps : List FieldType} {rr : Option FieldType} {a : Addr} {CC : String} (argsL : List Value)
    (K : Cx w R Z n0 own bytes mx rt nm) (H : At1 w T h k n) (d : Dc bytes pc (.invokevirtual idx) 3 pc') (E : Exa Z h a CC) (w1 : (Cond.methodLink own idx y).before a0 Z = true) (w2 : (Cond.instanceMethod y).before a0 Z = true) (ws : (Cond.selects y.cls y y).before a0 Z = true) (wp : (Cond.privateMethod y).before a0 Z = true) (w3 : (Cond.initialized y.cls).before a0 Z = true) (w4 : (Cond.code y yb ym yr).before a0 Z = true)
    (hy : y.cls ≠ "java/lang/invoke/MethodHandle" ∧ y.cls ≠ "java/lang/invoke/VarHandle") (C : ∀ l, Con l Z y yb ym yr rm (.ref a :: argsL).toArray h n0 P) (hd : parseMethodDescriptor y.desc = some ⟨ps, rr⟩) (hlen : argsL.length = ps.length) (hs : st = argsL.reverse ++ .ref a :: st')
    (hL : L.size = mx) (hf : rm.frames + 1 ≤ R.frames) {W : Nat} (hW : (st'.map fun v => v.category).sum = W) (hl : W + (ym + 11) + rm.locals ≤ R.locals) (hk : k + rm.cells ≤ R.cells) (hn : n + rm.slots ≤ R.slots)
    (G : ∀ T' h' v, At1 w T' h' (k + rm.cells) (n + rm.slots) → P v h' → Go w Q T' pc' L (v.toList ++ st')) : Go w Q T pc L st := by
  obtain ⟨p, l, e, R', s, m, args, below, meth, c, Z', k0⟩ := w
  obtain ⟨hx, hby, hml, hown, hZ, hret, hnm, hlk, rfl, rfl, rfl, h00⟩ := K
  obtain ⟨locs, X, eT, N⟩ := H
  obtain ⟨d1, rfl⟩ := d
  obtain ⟨cq, q1, q2⟩ := E.cell
  obtain ⟨v, vm₁, ⟨T', L1, k1, n1⟩, -, X', ⟨Lc, ⟨hQ, N'⟩, l1, y1, z1⟩, stp⟩ := X.privateBack hx (y := y) hown (mvT hZ w1) (mvT hZ w2) (mvT hZ ws) (Cond.privateMethod_at (mvP hZ wp (args := #[]))) (mvT hZ w4) hy (con_back (W := W) (C l) hZ w4 w3 hf hl) (g := mkF m pc L st) rfl (hL.trans hml.symm) (Steps.refl _) (a := a) (by rw [eT]; exact q1) q2 (argsL := argsL) (rest := st') (lenOf hd hlen) hs (by show 2 * 0 + _ ≤ _; rw [hW]; omega) (by rw [hby]; exact d1) (fun _ _ => ⟨rfl, eT, hk, hn⟩)
  dsimp only [Pt.U, Pt.locs, Pt.cells, Pt.slots] at X' l1 y1 z1 stp hQ
  subst l1 y1 z1
  obtain ⟨s₂, o, g1, g2⟩ := G T' T'.heap v ⟨_, X', rfl, Fr.app N N'⟩ hQ
  exact ⟨s₂, o, stp.trans g1, g2⟩
theorem go_callF {a0 : Array Value} {idx cnt : Nat} {y z : MethodName} {yb : ByteArray} {ym : Nat} {yr : Option FieldType} {rm : Room} {P : Option Value → Heap → Prop} {ps : List FieldType} {rr : Option FieldType} {a : Addr} {CC : String} (argsL : List Value)
    (K : Cx w R Z n0 own bytes mx rt nm) (H : At1 w T h k n) (d : Dc bytes pc (.invokeinterface idx cnt) 5 pc') (E : Exa Z h a CC) (w1 : (Cond.methodLink own idx y).before a0 Z = true) (wd : (Cond.declares y).before a0 Z = true) (wf : (Cond.interfaceMethod y.cls y.cls y.name y.desc).before a0 Z = true) (ws : (Cond.selects CC y z).before a0 Z = true) (w2 : (Cond.instanceMethod z).before a0 Z = true) (wp : (Cond.publicMethod z).before a0 Z = true) (wu : (Cond.unhidden CC y.name y.desc).before a0 Z = true) (wc : (Cond.castable CC y.cls).before a0 Z = true) (w3 : (Cond.initialized z.cls).before a0 Z = true) (w4 : (Cond.code z yb ym yr).before a0 Z = true)
    (hy : y.cls ≠ "java/lang/invoke/MethodHandle" ∧ y.cls ≠ "java/lang/invoke/VarHandle") (C : ∀ l, Con l Z z yb ym yr rm (.ref a :: argsL).toArray h n0 P) (hd : parseMethodDescriptor y.desc = some ⟨ps, rr⟩) (hlen : argsL.length = ps.length) (hs : st = argsL.reverse ++ .ref a :: st')
    (hL : L.size = mx) (hf : rm.frames + 1 ≤ R.frames) {W : Nat} (hW : (st'.map fun v => v.category).sum = W) (hl : W + (ym + 11) + rm.locals ≤ R.locals) (hk : k + rm.cells ≤ R.cells) (hn : n + rm.slots ≤ R.slots)
    (G : ∀ T' h' v, At1 w T' h' (k + rm.cells) (n + rm.slots) → P v h' → Go w Q T' pc' L (v.toList ++ st')) : Go w Q T pc L st := by
  obtain ⟨p, l, e, R', s, m, args, below, meth, c, Z', k0⟩ := w
  obtain ⟨hx, hby, hml, hown, hZ, hret, hnm, hlk, rfl, rfl, rfl, h00⟩ := K
  obtain ⟨locs, X, eT, N⟩ := H
  obtain ⟨d1, rfl⟩ := d
  obtain ⟨cq, kq, q1, q2, q3⟩ := isOf hZ eT E
  obtain ⟨v, vm₁, ⟨T', L1, k1, n1⟩, -, X', ⟨Lc, ⟨hQ, N'⟩, l1, y1, z1⟩, stp⟩ := X.interfaceBack hx (xi := y) (y := z) hown (mvT hZ w1) (mvT hZ wd) (mvT hZ wf (by simp [Cond.onTables, Cond.keepsFace, Cond.keeps, Cond.steady, Cond.faceAtom, hy.1, hy.2])) (mvT hZ ws) (mvT hZ w2) (mvT hZ wp) (mvT hZ wu) (mvT hZ wc) hy (con_back (W := W) (C l) hZ w4 w3 hf hl) q1 q2 q3 (g := mkF m pc L st) rfl (hL.trans hml.symm) (Steps.refl _) (argsL := argsL) (rest := st') (lenOf hd hlen) hs (by show 2 * 0 + _ ≤ _; rw [hW]; omega) (by rw [hby]; exact d1) (fun _ _ => ⟨rfl, eT, hk, hn⟩)
  dsimp only [Pt.U, Pt.locs, Pt.cells, Pt.slots] at X' l1 y1 z1 stp hQ
  subst l1 y1 z1
  obtain ⟨s₂, o, g1, g2⟩ := G T' T'.heap v ⟨_, X', rfl, Fr.app N N'⟩ hQ
  exact ⟨s₂, o, stp.trans g1, g2⟩
theorem ref_at {a0 a1 : Array Value} {U : State} {idx : Nat} {y : MethodName} (hU : Z.Warmed39 U.vm) (hy : y.cls ≠ "java/lang/invoke/MethodHandle" ∧ y.cls ≠ "java/lang/invoke/VarHandle") (w2 : (Cond.instanceMethod y).before a0 Z = true) (w1 : (Cond.methodRef own idx y).before a0 Z = true) : (Cond.methodRef own idx y).before a1 U = true := by
  obtain ⟨mk, _, hn, -⟩ := Cond.instanceMethod_spec w2
  have q := Cond.methodRef_warmed39 hU hn hy w1
  simp only [Cond.before, Cond.holds, Cond.value] at q ⊢
  exact q
theorem go_callIR {a0 : Array Value} {idx : Nat} {y : MethodName} {yb : ByteArray} {ym : Nat} {rm : Room} {P : Option Value → Heap → Prop} {ps : List FieldType} {rr : Option FieldType} {a : Addr} (argsL : List Value)
    (K : Cx w R Z n0 own bytes mx rt nm) (H : At1 w T h k n) (d : Dc bytes pc (.invokespecial idx) 3 pc') (hy1 : y.name = "<init>") (w1 : (Cond.methodRef own idx y).before a0 Z = true) (w2 : (Cond.instanceMethod y).before a0 Z = true) (w3 : (Cond.initialized y.cls).before a0 Z = true) (w4 : (Cond.code y yb ym none).before a0 Z = true)
    (hy : y.cls ≠ "java/lang/invoke/MethodHandle" ∧ y.cls ≠ "java/lang/invoke/VarHandle") (C : ∀ l, Con l Z y yb ym none rm (.ref a :: argsL).toArray h n0 P) (hd : parseMethodDescriptor y.desc = some ⟨ps, rr⟩) (hlen : argsL.length = ps.length) (hs : st = argsL.reverse ++ .ref a :: st')
    (hL : L.size = mx) (hf : rm.frames + 1 ≤ R.frames) {W : Nat} (hW : (st'.map fun v => v.category).sum = W) (hl : W + (ym + 11) + rm.locals ≤ R.locals) (hk : k + rm.cells ≤ R.cells) (hn : n + rm.slots ≤ R.slots)
    (G : ∀ T' h' v, At1 w T' h' (k + rm.cells) (n + rm.slots) → P v h' → Go w Q T' pc' L (v.toList ++ st')) : Go w Q T pc L st := by
  obtain ⟨p, l, e, R', s, m, args, below, meth, c, Z', k0⟩ := w
  obtain ⟨hx, hby, hml, hown, hZ, hret, hnm, hlk, rfl, rfl, rfl, h00⟩ := K
  obtain ⟨locs, X, eT, N⟩ := H
  obtain ⟨d1, rfl⟩ := d
  have S : SCall p l e R' s m args below meth c idx y := SCall.of_ready hx hy1 (mvT hZ w2) (mvT hZ w4) (fun U r hU hnr => by
    have hA := hU.alike
    have hUZ : Z'.Warmed39 U.vm := wtrans hZ hU
    have hnU : U.methodNamed? y = some r := by
      have q : (s.setVm U.vm).methodNamed? y = some r := by rw [State.methodNamed?_setVm hA]; exact hnr
      exact q
    have hoU : U.vm.findClass own = some m.cls := by rw [hA.findClass]; exact hown
    obtain ⟨m', c', e1, e2, e3, e4⟩ := Cond.methodRef_named (first := U) (o := none) (idx := []) (args := args) e hoU (ref_at hUZ hy w2 w1)
    have e5 : U.methodFound? y.cls y.name y.desc = some r := State.methodFound?_of_named hnU hy
    cases e1.symm.trans e5
    cases e3.symm.trans (findClass_of_methodNamed hnU)
    exact ⟨e4, e2⟩)
  obtain ⟨v, vm₁, ⟨T', L1, k1, n1⟩, -, X', ⟨Lc, ⟨hQ, N'⟩, l1, y1, z1⟩, stp⟩ := S X (con_back (W := W) (C l) hZ w4 w3 hf hl) (g := mkF m pc L st) rfl (hL.trans hml.symm) (Steps.refl _) (a := a) (argsL := argsL) (rest := st') (lenOf hd hlen) hs (by show 2 * 0 + _ ≤ _; rw [hW]; omega) (by rw [hby]; exact d1) (fun _ _ => ⟨rfl, eT, hk, hn⟩)
  dsimp only [Pt.U, Pt.locs, Pt.cells, Pt.slots] at X' l1 y1 z1 stp hQ
  subst l1 y1 z1
  obtain ⟨s₂, o, g1, g2⟩ := G T' T'.heap v ⟨_, X', rfl, Fr.app N N'⟩ hQ
  exact ⟨s₂, o, stp.trans g1, g2⟩
theorem sel_priv {a0 : Array Value} {y : MethodName} {j : Nat} (wi : (Cond.instantiable y.cls j).before a0 Z = true) (wp : (Cond.privateMethod y).before a0 Z = true) (w2 : (Cond.instanceMethod y).before a0 Z = true) (hy : y.cls ≠ "java/lang/invoke/MethodHandle" ∧ y.cls ≠ "java/lang/invoke/VarHandle") : (Cond.selects y.cls y y).before a0 Z = true := by
  obtain ⟨c, k, h1, h2, h3, h4, -⟩ := Cond.instantiable_spec wi
  exact selects_self_of_private h1 h2 (Bool.or_eq_false_iff.mp h4).1 (Cond.privateMethod_at wp) w2 hy
theorem nf_sel {a0 : Array Value} {CC : String} {y : MethodName} (ws : (Cond.selects CC y y).before a0 Z = true) : ∀ s : State, Z.Warmed39 s.vm → NotFace s y := fun s hZ => notFace_of_selects (args := #[]) (mvT hZ ws)
theorem own_comes {Post : Tables → Env → Array Value → State → Outcome → State → Prop} {ck sk : Nat} (hpost : ∀ tb e args s v u, (limb_1_1.after args s (.returned v) u = true ∧ limb_1_2.after args s (.returned v) u = true) → FrameEnd s (.returned v) u (Jvm.fieldLocs frame_1_writes args s ++ Jvm.arrayLocs frame_1_arrays args s ++ Jvm.staticLocs frame_1_statics s) ck sk → Post tb e args s (.returned v) u) (h1 : room_1.cells ≤ ck) (h2 : room_1.slots ≤ sk)
    (hl : ∀ (l : Launch) (tb : Tables) (e : Env) (s : State) (args : Array Value), heapFits s = true → rest_1 tb e args s → (Jvm.Cond.and given_1 narrow_1).value args s none s [] = some true → (∀ d ∈ tables_1, d.before args s = true) → Con l s x code maxLocals ret room_1 args s.heap s.heap.size (RI fun z _ => z = 1)) :
    ArmFor flags0 classFile x code maxLocals ret World_1 tables_1 room_1 Calls_1 rest_1 Pre_1 Post := by
  intro l hfl _ _ p e ha hc hk s m args below hf hA hF happ hP
  obtain ⟨hcalls, hrest, hpre⟩ := hP
  obtain ⟨-, -, -, hnamed, -, -, -, hat⟩ := (Spec.applies_iff hf).mp happ
  have hg := Cond.before_iff.mp (show (Jvm.Cond.and given_1 narrow_1).before args s = true from hpre)
  have hw := fun d (hd : d ∈ tables_1) => atoms_spec (ws := Jvm.Cond.code x code maxLocals ret :: tables_1) hat d (List.mem_cons_of_mem _ hd)
  obtain ⟨n, o, g1, g2, g3, v, L, rfl, ⟨⟨z, rfl, rfl⟩, N⟩, hq⟩ := hl l _ _ s args hF hrest hg hw tables_1 p e ha hc hk s m _ below hf ((Spec.applies_iff_loose hf).mp happ).1 ⟨rfl, State.Warmed39.refl s, rfl⟩ trivial
  exact ⟨n, _, g1, g2, g3, hpost _ _ _ _ _ _ ⟨Cond.after_iff.mpr rfl, Cond.after_iff.mpr (eq_i res_at (Term.int_eval (1)) rfl)⟩ ⟨hq.1, hq.2.1, (hq.2.2.sift fun y hy => Or.inr (N y hy)).mono h1 h2⟩⟩
end Own
end Jvm.Pilot.@@N@@
namespace Jvm.Pilot.@@N@@
open Jvm Jvm.ClassFile Sem Op Lib Jvm.Free Jvm.Stand Jvm.LawKit Jvm.RoadKit Bundle Jvm.Pilot.@@N@@.Jvm.D
def oN (n : Nat) : Int32 := Int32.ofNat n
theorem oN_toInt {n : Nat} (h : n < 2 ^ 31) : (oN n).toInt = (n : Int) := Int32.toInt_ofNat_of_lt h
theorem oN_inj {a b : Nat} (ha : a < 2 ^ 31) (hb : b < 2 ^ 31) : oN a = oN b ↔ a = b := by
  rw [← Int32.toInt_inj, oN_toInt ha, oN_toInt hb]; omega
theorem oN_of {v : Int32} {N : Nat} (h0 : 0 ≤ v.toInt) (h1 : v.toInt < N) (hN : N ≤ 2 ^ 31) : ∃ j, j < N ∧ v = oN j := by
  refine ⟨v.toInt.toNat, by omega, Int32.toInt_inj.mp ?_⟩
  rw [oN_toInt (by omega)]; omega
def Rk (ns : List Nat) : Nat → Nat → Nat → Prop
  | 0, i, r => i = r ∧ ns[i]? = some i
  | k + 1, i, r => ∃ j, ns[i]? = some j ∧ j ≠ i ∧ Rk ns k j r
theorem Rk.root {ns : List Nat} : ∀ {k i r : Nat}, Rk ns k i r → ns[r]? = some r
  | 0, _, _, ⟨rfl, h⟩ => h
  | _ + 1, _, _, ⟨_, _, _, h⟩ => Rk.root h
theorem Rk.other {ns : List Nat} {a b : Nat} (ha : ns[a]? = some a) : ∀ {k i r : Nat}, Rk ns k i r → r ≠ a → Rk (ns.set a b) k i r
  | 0, i, r, ⟨e, h⟩, hr => ⟨e, by rw [List.getElem?_set_ne (by omega)]; exact h⟩
  | k + 1, i, r, ⟨j, h1, h2, h3⟩, hr => by
    refine ⟨j, ?_, h2, Rk.other ha h3 hr⟩
    by_cases q : a = i
    · subst q; rw [ha] at h1; cases h1; exact absurd rfl h2
    · rw [List.getElem?_set_ne q]; exact h1
theorem Rk.move {ns : List Nat} {a b : Nat} (hab : a ≠ b) (ha : ns[a]? = some a) (hb : ns[b]? = some b) : ∀ {k i : Nat}, Rk ns k i a → Rk (ns.set a b) (k + 1) i b
  | 0, i, ⟨e, h⟩ => by
    subst e
    refine ⟨b, ?_, fun q => hab q.symm, rfl, ?_⟩
    · rw [List.getElem?_set_self (List.getElem?_eq_some_iff.mp ha).1]
    · rw [List.getElem?_set_ne hab]; exact hb
  | k + 1, i, ⟨j, h1, h2, h3⟩ => by
    refine ⟨j, ?_, h2, Rk.move hab ha hb h3⟩
    by_cases q : a = i
    · subst q; rw [ha] at h1; cases h1; exact absurd rfl h2
    · rw [List.getElem?_set_ne q]; exact h1
def UF (N : Nat) (ns cs : List Nat) : Prop := ns.length = N ∧ cs.length = N ∧ ∀ i c, cs[i]? = some c → c < N ∧ ∃ k, Rk ns k i c
def rlb (a b x : Nat) : Nat := if x = a then b else x
theorem UF.step {N : Nat} {ns cs : List Nat} {i j ra rb : Nat} (I : UF N ns cs) (hi : cs[i]? = some ra) (hj : cs[j]? = some rb) : UF N (ns.set ra rb) (cs.map (rlb ra rb)) := by
  obtain ⟨l1, l2, F⟩ := I
  obtain ⟨-, k1, R1⟩ := F i ra hi
  obtain ⟨hb, k2, R2⟩ := F j rb hj
  have ha0 := R1.root
  have hb0 := R2.root
  by_cases e : ra = rb
  · subst e
    have e1 : ns.set ra ra = ns := by
      apply List.ext_getElem?
      intro m
      by_cases q : ra = m
      · subst q; rw [List.getElem?_set_self (List.getElem?_eq_some_iff.mp ha0).1, ha0]
      · rw [List.getElem?_set_ne q]
    have e2 : cs.map (rlb ra ra) = cs := by
      conv => rhs; rw [← List.map_id cs]
      apply List.map_congr_left
      intro x _
      unfold rlb; split <;> simp_all
    rw [e1, e2]; exact ⟨l1, l2, F⟩
  · refine ⟨by simpa using l1, by simpa using l2, fun m c hc => ?_⟩
    rw [List.getElem?_map] at hc
    cases hm : cs[m]? with
    | none => rw [hm] at hc; cases hc
    | some c0 =>
      rw [hm] at hc
      obtain ⟨hc0, k0, R0⟩ := F m c0 hm
      have hc' : rlb ra rb c0 = c := by simpa using hc
      subst hc'
      unfold rlb
      by_cases q : c0 = ra
      · subst q; rw [if_pos rfl]; exact ⟨hb, k0 + 1, Rk.move e ha0 hb0 R0⟩
      · rw [if_neg q]; exact ⟨hc0, k0, Rk.other ha0 R0 q⟩
theorem UF.start (N : Nat) : UF N (List.range N) (List.range N) := by
  refine ⟨by simp, by simp, fun i c h => ?_⟩
  have h1 : i < N ∧ i = c := by simpa [List.getElem?_range, List.getElem?_eq_some_iff] using h
  obtain ⟨h1, rfl⟩ := h1
  exact ⟨h1, 0, rfl, by simp [List.getElem?_range, h1]⟩
theorem UF.at {N : Nat} {ns cs : List Nat} (I : UF N ns cs) {i : Nat} (hi : i < N) : ∃ c k, cs[i]? = some c ∧ c < N ∧ Rk ns k i c := by
  obtain ⟨l1, l2, F⟩ := I
  have := List.getElem?_eq_getElem (l := cs) (i := i) (by omega)
  obtain ⟨h1, k, h2⟩ := F _ _ this
  exact ⟨_, k, this, h1, h2⟩
theorem map_rlb {cs : List Nat} {ra rb N : Nat} (hc : ∀ c ∈ cs, c < N) (ha : ra < N) (hN : N < 2 ^ 31) : (cs.map (rlb ra rb)).map oN = (cs.map oN).map (fun x => if x = oN ra then oN rb else x) := by
  rw [List.map_map, List.map_map]
  apply List.map_congr_left
  intro c h
  have := hc c h
  simp only [Function.comp, rlb]
  by_cases q : c = ra
  · rw [if_pos q, if_pos (by rw [q])]
  · rw [if_neg q, if_neg (fun z => q ((oN_inj (by omega) (by omega)).mp z))]
theorem UF.lt {N : Nat} {ns cs : List Nat} (I : UF N ns cs) : ∀ c ∈ cs, c < N := fun c h => by
  obtain ⟨i, hi⟩ := List.mem_iff_getElem?.mp h
  exact (I.2.2 i c hi).1
theorem Rk.lt {ns : List Nat} : ∀ {k i r : Nat}, Rk ns k i r → i < ns.length
  | 0, _, _, ⟨_, h⟩ => (List.getElem?_eq_some_iff.mp h).1
  | _ + 1, _, _, ⟨_, h, _⟩ => (List.getElem?_eq_some_iff.mp h).1
theorem at_map2 {ns : List Nat} {i j : Nat} (h : ns[i]? = some j) : ((ns.map oN).map Value.int)[i]? = some (.int (oN j)) := by rw [List.getElem?_map, List.getElem?_map, h]; rfl
theorem at_map1 {xs : List Int32} {i : Nat} {x : Int32} (h : xs[i]? = some x) : (xs.map Value.int)[i]? = some (.int x) := by rw [List.getElem?_map, h]; rfl
theorem UF.idem {N : Nat} {ns cs : List Nat} (I : UF N ns cs) {i c : Nat} (h : cs[i]? = some c) : cs[c]? = some c := by
  obtain ⟨hc, k, R⟩ := I.2.2 i c h
  obtain ⟨c', k', h', -, R'⟩ := I.at hc
  have hr := R.root
  cases k' with
  | zero => obtain ⟨rfl, _⟩ := R'; exact h'
  | succ k' =>
    obtain ⟨j, h1, h2, -⟩ := R'
    rw [hr] at h1; cases h1; exact absurd rfl h2
def LI (Z : State) (h : Heap) (a b : Addr) (ns : List Nat) : Prop := Exa Z h a "com/example/ramble/ramble/LinkedIndexes" ∧ Fld Z h a "com/example/ramble/ramble/LinkedIndexes" "linked" "[I" (.ref b) ∧ IA Z h b (ns.map oN) ∧ a ≠ b
theorem LI.keep {Z : State} {h h' : Heap} {a b c : Addr} {ns : List Nat} (O : LI Z h a b ns) (K : Keep h h' [c]) (q1 : a ≠ c) (q2 : b ≠ c) : LI Z h' a b ns := ⟨O.1.keep K, O.2.1.keep K (ninS q1 nin0), O.2.2.1.keep K (ninS q2 nin0), O.2.2.2⟩
theorem LI.len {Z : State} {h : Heap} {a b : Addr} {ns : List Nat} (O : LI Z h a b ns) : ns.length < 2 ^ 31 := by simpa using O.2.2.1.len
theorem d0_0 : Dc prog_3_method_1_code 0 (.aload_n 0) 1 1 := ⟨by decide +kernel, rfl⟩
theorem d0_1 : Dc prog_3_method_1_code 1 (.invokespecial 1) 3 4 := ⟨by decide +kernel, rfl⟩
theorem d0_4 : Dc prog_3_method_1_code 4 (.aload_n 0) 1 5 := ⟨by decide +kernel, rfl⟩
theorem d0_5 : Dc prog_3_method_1_code 5 (.iload_n 1) 1 6 := ⟨by decide +kernel, rfl⟩
theorem d0_6 : Dc prog_3_method_1_code 6 (.newarray .int) 2 8 := ⟨by decide +kernel, rfl⟩
theorem d0_8 : Dc prog_3_method_1_code 8 (.putfield 7) 3 11 := ⟨by decide +kernel, rfl⟩
theorem d0_11 : Dc prog_3_method_1_code 11 (.iconst 0) 1 12 := ⟨by decide +kernel, rfl⟩
theorem d0_12 : Dc prog_3_method_1_code 12 (.istore_n 2) 1 13 := ⟨by decide +kernel, rfl⟩
theorem d0_13 : Dc prog_3_method_1_code 13 (.iload_n 2) 1 14 := ⟨by decide +kernel, rfl⟩
theorem d0_14 : Dc prog_3_method_1_code 14 (.iload_n 1) 1 15 := ⟨by decide +kernel, rfl⟩
theorem d0_15 : Jp prog_3_method_1_code 15 (.if_icmp .ge) 31 18 := ⟨16, by decide +kernel, by decide, by decide, rfl⟩
theorem d0_18 : Dc prog_3_method_1_code 18 (.aload_n 0) 1 19 := ⟨by decide +kernel, rfl⟩
theorem d0_19 : Dc prog_3_method_1_code 19 (.getfield 7) 3 22 := ⟨by decide +kernel, rfl⟩
theorem d0_22 : Dc prog_3_method_1_code 22 (.iload_n 2) 1 23 := ⟨by decide +kernel, rfl⟩
theorem d0_23 : Dc prog_3_method_1_code 23 (.iload_n 2) 1 24 := ⟨by decide +kernel, rfl⟩
theorem d0_24 : Dc prog_3_method_1_code 24 .iastore 1 25 := ⟨by decide +kernel, rfl⟩
theorem d0_25 : Dc prog_3_method_1_code 25 (.iinc 2 1) 3 28 := ⟨by decide +kernel, rfl⟩
theorem d0_28 : Jp prog_3_method_1_code 28 .goto 13 31 := ⟨-15, by decide +kernel, by decide, by decide, rfl⟩
theorem d0_31 : Dc prog_3_method_1_code 31 .return_ 1 32 := ⟨by decide +kernel, rfl⟩
theorem d1_0 : Dc prog_3_method_3_code 0 (.iload_n 1) 1 1 := ⟨by decide +kernel, rfl⟩
theorem d1_1 : Dc prog_3_method_3_code 1 (.istore_n 2) 1 2 := ⟨by decide +kernel, rfl⟩
theorem d1_2 : Dc prog_3_method_3_code 2 (.aload_n 0) 1 3 := ⟨by decide +kernel, rfl⟩
theorem d1_3 : Dc prog_3_method_3_code 3 (.getfield 7) 3 6 := ⟨by decide +kernel, rfl⟩
theorem d1_6 : Dc prog_3_method_3_code 6 (.iload_n 2) 1 7 := ⟨by decide +kernel, rfl⟩
theorem d1_7 : Dc prog_3_method_3_code 7 .iaload 1 8 := ⟨by decide +kernel, rfl⟩
theorem d1_8 : Dc prog_3_method_3_code 8 (.iload_n 2) 1 9 := ⟨by decide +kernel, rfl⟩
theorem d1_9 : Jp prog_3_method_3_code 9 (.if_icmp .eq) 22 12 := ⟨13, by decide +kernel, by decide, by decide, rfl⟩
theorem d1_12 : Dc prog_3_method_3_code 12 (.aload_n 0) 1 13 := ⟨by decide +kernel, rfl⟩
theorem d1_13 : Dc prog_3_method_3_code 13 (.getfield 7) 3 16 := ⟨by decide +kernel, rfl⟩
theorem d1_16 : Dc prog_3_method_3_code 16 (.iload_n 2) 1 17 := ⟨by decide +kernel, rfl⟩
theorem d1_17 : Dc prog_3_method_3_code 17 .iaload 1 18 := ⟨by decide +kernel, rfl⟩
theorem d1_18 : Dc prog_3_method_3_code 18 (.istore_n 2) 1 19 := ⟨by decide +kernel, rfl⟩
theorem d1_19 : Jp prog_3_method_3_code 19 .goto 2 22 := ⟨-17, by decide +kernel, by decide, by decide, rfl⟩
theorem d1_22 : Dc prog_3_method_3_code 22 (.iload_n 2) 1 23 := ⟨by decide +kernel, rfl⟩
theorem d1_23 : Dc prog_3_method_3_code 23 .ireturn 1 24 := ⟨by decide +kernel, rfl⟩
theorem d2_0 : Dc prog_3_method_2_code 0 (.aload_n 0) 1 1 := ⟨by decide +kernel, rfl⟩
theorem d2_1 : Dc prog_3_method_2_code 1 (.getfield 7) 3 4 := ⟨by decide +kernel, rfl⟩
theorem d2_4 : Dc prog_3_method_2_code 4 (.aload_n 0) 1 5 := ⟨by decide +kernel, rfl⟩
theorem d2_5 : Dc prog_3_method_2_code 5 (.iload_n 1) 1 6 := ⟨by decide +kernel, rfl⟩
theorem d2_6 : Dc prog_3_method_2_code 6 (.invokevirtual 13) 3 9 := ⟨by decide +kernel, rfl⟩
theorem d2_9 : Dc prog_3_method_2_code 9 (.aload_n 0) 1 10 := ⟨by decide +kernel, rfl⟩
theorem d2_10 : Dc prog_3_method_2_code 10 (.iload_n 2) 1 11 := ⟨by decide +kernel, rfl⟩
theorem d2_11 : Dc prog_3_method_2_code 11 (.invokevirtual 13) 3 14 := ⟨by decide +kernel, rfl⟩
theorem d2_14 : Dc prog_3_method_2_code 14 .iastore 1 15 := ⟨by decide +kernel, rfl⟩
theorem d2_15 : Dc prog_3_method_2_code 15 .return_ 1 16 := ⟨by decide +kernel, rfl⟩
theorem d3_0 : Dc method_4_code 0 (.aload_n 0) 1 1 := ⟨by decide +kernel, rfl⟩
theorem d3_1 : Dc method_4_code 1 (.iload_n 1) 1 2 := ⟨by decide +kernel, rfl⟩
theorem d3_2 : Dc method_4_code 2 .iaload 1 3 := ⟨by decide +kernel, rfl⟩
theorem d3_3 : Dc method_4_code 3 (.istore_n 3) 1 4 := ⟨by decide +kernel, rfl⟩
theorem d3_4 : Dc method_4_code 4 (.aload_n 0) 1 5 := ⟨by decide +kernel, rfl⟩
theorem d3_5 : Dc method_4_code 5 (.iload_n 2) 1 6 := ⟨by decide +kernel, rfl⟩
theorem d3_6 : Dc method_4_code 6 .iaload 1 7 := ⟨by decide +kernel, rfl⟩
theorem d3_7 : Dc method_4_code 7 (.istore 4) 2 9 := ⟨by decide +kernel, rfl⟩
theorem d3_9 : Dc method_4_code 9 (.aload_n 0) 1 10 := ⟨by decide +kernel, rfl⟩
theorem d3_10 : Dc method_4_code 10 (.iconst 0) 1 11 := ⟨by decide +kernel, rfl⟩
theorem d3_11 : Dc method_4_code 11 .iaload 1 12 := ⟨by decide +kernel, rfl⟩
theorem d3_12 : Dc method_4_code 12 (.iload_n 3) 1 13 := ⟨by decide +kernel, rfl⟩
theorem d3_13 : Jp method_4_code 13 (.if_icmp .ne) 21 16 := ⟨8, by decide +kernel, by decide, by decide, rfl⟩
theorem d3_16 : Dc method_4_code 16 (.aload_n 0) 1 17 := ⟨by decide +kernel, rfl⟩
theorem d3_17 : Dc method_4_code 17 (.iconst 0) 1 18 := ⟨by decide +kernel, rfl⟩
theorem d3_18 : Dc method_4_code 18 (.iload 4) 2 20 := ⟨by decide +kernel, rfl⟩
theorem d3_20 : Dc method_4_code 20 .iastore 1 21 := ⟨by decide +kernel, rfl⟩
theorem d3_21 : Dc method_4_code 21 (.aload_n 0) 1 22 := ⟨by decide +kernel, rfl⟩
theorem d3_22 : Dc method_4_code 22 (.iconst 1) 1 23 := ⟨by decide +kernel, rfl⟩
theorem d3_23 : Dc method_4_code 23 .iaload 1 24 := ⟨by decide +kernel, rfl⟩
theorem d3_24 : Dc method_4_code 24 (.iload_n 3) 1 25 := ⟨by decide +kernel, rfl⟩
theorem d3_25 : Jp method_4_code 25 (.if_icmp .ne) 33 28 := ⟨8, by decide +kernel, by decide, by decide, rfl⟩
theorem d3_28 : Dc method_4_code 28 (.aload_n 0) 1 29 := ⟨by decide +kernel, rfl⟩
theorem d3_29 : Dc method_4_code 29 (.iconst 1) 1 30 := ⟨by decide +kernel, rfl⟩
theorem d3_30 : Dc method_4_code 30 (.iload 4) 2 32 := ⟨by decide +kernel, rfl⟩
theorem d3_32 : Dc method_4_code 32 .iastore 1 33 := ⟨by decide +kernel, rfl⟩
theorem d3_33 : Dc method_4_code 33 (.aload_n 0) 1 34 := ⟨by decide +kernel, rfl⟩
theorem d3_34 : Dc method_4_code 34 (.iconst 2) 1 35 := ⟨by decide +kernel, rfl⟩
theorem d3_35 : Dc method_4_code 35 .iaload 1 36 := ⟨by decide +kernel, rfl⟩
theorem d3_36 : Dc method_4_code 36 (.iload_n 3) 1 37 := ⟨by decide +kernel, rfl⟩
theorem d3_37 : Jp method_4_code 37 (.if_icmp .ne) 45 40 := ⟨8, by decide +kernel, by decide, by decide, rfl⟩
theorem d3_40 : Dc method_4_code 40 (.aload_n 0) 1 41 := ⟨by decide +kernel, rfl⟩
theorem d3_41 : Dc method_4_code 41 (.iconst 2) 1 42 := ⟨by decide +kernel, rfl⟩
theorem d3_42 : Dc method_4_code 42 (.iload 4) 2 44 := ⟨by decide +kernel, rfl⟩
theorem d3_44 : Dc method_4_code 44 .iastore 1 45 := ⟨by decide +kernel, rfl⟩
theorem d3_45 : Dc method_4_code 45 (.aload_n 0) 1 46 := ⟨by decide +kernel, rfl⟩
theorem d3_46 : Dc method_4_code 46 (.iconst 3) 1 47 := ⟨by decide +kernel, rfl⟩
theorem d3_47 : Dc method_4_code 47 .iaload 1 48 := ⟨by decide +kernel, rfl⟩
theorem d3_48 : Dc method_4_code 48 (.iload_n 3) 1 49 := ⟨by decide +kernel, rfl⟩
theorem d3_49 : Jp method_4_code 49 (.if_icmp .ne) 57 52 := ⟨8, by decide +kernel, by decide, by decide, rfl⟩
theorem d3_52 : Dc method_4_code 52 (.aload_n 0) 1 53 := ⟨by decide +kernel, rfl⟩
theorem d3_53 : Dc method_4_code 53 (.iconst 3) 1 54 := ⟨by decide +kernel, rfl⟩
theorem d3_54 : Dc method_4_code 54 (.iload 4) 2 56 := ⟨by decide +kernel, rfl⟩
theorem d3_56 : Dc method_4_code 56 .iastore 1 57 := ⟨by decide +kernel, rfl⟩
theorem d3_57 : Dc method_4_code 57 .return_ 1 58 := ⟨by decide +kernel, rfl⟩
theorem d4_0 : Dc method_3_code 0 (.iload_n 0) 1 1 := ⟨by decide +kernel, rfl⟩
theorem d4_1 : Jp method_3_code 1 (.ifCond .lt) 13 4 := ⟨12, by decide +kernel, by decide, by decide, rfl⟩
theorem d4_4 : Dc method_3_code 4 (.iload_n 0) 1 5 := ⟨by decide +kernel, rfl⟩
theorem d4_5 : Dc method_3_code 5 (.iconst 4) 1 6 := ⟨by decide +kernel, rfl⟩
theorem d4_6 : Jp method_3_code 6 (.if_icmp .ge) 13 9 := ⟨7, by decide +kernel, by decide, by decide, rfl⟩
theorem d4_9 : Dc method_3_code 9 (.iconst 1) 1 10 := ⟨by decide +kernel, rfl⟩
theorem d4_10 : Jp method_3_code 10 .goto 14 13 := ⟨4, by decide +kernel, by decide, by decide, rfl⟩
theorem d4_13 : Dc method_3_code 13 (.iconst 0) 1 14 := ⟨by decide +kernel, rfl⟩
theorem d4_14 : Dc method_3_code 14 .ireturn 1 15 := ⟨by decide +kernel, rfl⟩
theorem d5_0 : Dc method_5_code 0 (.aload_n 0) 1 1 := ⟨by decide +kernel, rfl⟩
theorem d5_1 : Dc method_5_code 1 (.iload_n 2) 1 2 := ⟨by decide +kernel, rfl⟩
theorem d5_2 : Dc method_5_code 2 .iaload 1 3 := ⟨by decide +kernel, rfl⟩
theorem d5_3 : Dc method_5_code 3 (.aload_n 0) 1 4 := ⟨by decide +kernel, rfl⟩
theorem d5_4 : Dc method_5_code 4 (.iload_n 3) 1 5 := ⟨by decide +kernel, rfl⟩
theorem d5_5 : Dc method_5_code 5 .iaload 1 6 := ⟨by decide +kernel, rfl⟩
theorem d5_6 : Jp method_5_code 6 (.if_icmp .ne) 13 9 := ⟨7, by decide +kernel, by decide, by decide, rfl⟩
theorem d5_9 : Dc method_5_code 9 (.iconst 1) 1 10 := ⟨by decide +kernel, rfl⟩
theorem d5_10 : Jp method_5_code 10 .goto 14 13 := ⟨4, by decide +kernel, by decide, by decide, rfl⟩
theorem d5_13 : Dc method_5_code 13 (.iconst 0) 1 14 := ⟨by decide +kernel, rfl⟩
theorem d5_14 : Dc method_5_code 14 (.aload_n 1) 1 15 := ⟨by decide +kernel, rfl⟩
theorem d5_15 : Dc method_5_code 15 (.iload_n 2) 1 16 := ⟨by decide +kernel, rfl⟩
theorem d5_16 : Dc method_5_code 16 .iaload 1 17 := ⟨by decide +kernel, rfl⟩
theorem d5_17 : Dc method_5_code 17 (.aload_n 1) 1 18 := ⟨by decide +kernel, rfl⟩
theorem d5_18 : Dc method_5_code 18 (.iload_n 3) 1 19 := ⟨by decide +kernel, rfl⟩
theorem d5_19 : Dc method_5_code 19 .iaload 1 20 := ⟨by decide +kernel, rfl⟩
theorem d5_20 : Jp method_5_code 20 (.if_icmp .ne) 27 23 := ⟨7, by decide +kernel, by decide, by decide, rfl⟩
theorem d5_23 : Dc method_5_code 23 (.iconst 1) 1 24 := ⟨by decide +kernel, rfl⟩
theorem d5_24 : Jp method_5_code 24 .goto 28 27 := ⟨4, by decide +kernel, by decide, by decide, rfl⟩
theorem d5_27 : Dc method_5_code 27 (.iconst 0) 1 28 := ⟨by decide +kernel, rfl⟩
theorem d5_28 : Jp method_5_code 28 (.if_icmp .ne) 35 31 := ⟨7, by decide +kernel, by decide, by decide, rfl⟩
theorem d5_31 : Dc method_5_code 31 (.iconst 1) 1 32 := ⟨by decide +kernel, rfl⟩
theorem d5_32 : Jp method_5_code 32 .goto 36 35 := ⟨4, by decide +kernel, by decide, by decide, rfl⟩
theorem d5_36 : Dc method_5_code 36 .ireturn 1 37 := ⟨by decide +kernel, rfl⟩
theorem d6_0 : Dc method_6_code 0 (.aload_n 1) 1 1 := ⟨by decide +kernel, rfl⟩
theorem d6_1 : Dc method_6_code 1 (.aload_n 0) 1 2 := ⟨by decide +kernel, rfl⟩
theorem d6_2 : Dc method_6_code 2 (.iload_n 2) 1 3 := ⟨by decide +kernel, rfl⟩
theorem d6_3 : Dc method_6_code 3 .iaload 1 4 := ⟨by decide +kernel, rfl⟩
theorem d6_4 : Dc method_6_code 4 .iaload 1 5 := ⟨by decide +kernel, rfl⟩
theorem d6_5 : Dc method_6_code 5 (.aload_n 1) 1 6 := ⟨by decide +kernel, rfl⟩
theorem d6_6 : Dc method_6_code 6 (.iload_n 2) 1 7 := ⟨by decide +kernel, rfl⟩
theorem d6_7 : Dc method_6_code 7 .iaload 1 8 := ⟨by decide +kernel, rfl⟩
theorem d6_8 : Jp method_6_code 8 (.if_icmp .ne) 26 11 := ⟨18, by decide +kernel, by decide, by decide, rfl⟩
theorem d6_11 : Dc method_6_code 11 (.aload_n 0) 1 12 := ⟨by decide +kernel, rfl⟩
theorem d6_12 : Dc method_6_code 12 (.aload_n 0) 1 13 := ⟨by decide +kernel, rfl⟩
theorem d6_13 : Dc method_6_code 13 (.iload_n 2) 1 14 := ⟨by decide +kernel, rfl⟩
theorem d6_14 : Dc method_6_code 14 .iaload 1 15 := ⟨by decide +kernel, rfl⟩
theorem d6_15 : Dc method_6_code 15 .iaload 1 16 := ⟨by decide +kernel, rfl⟩
theorem d6_16 : Dc method_6_code 16 (.aload_n 0) 1 17 := ⟨by decide +kernel, rfl⟩
theorem d6_17 : Dc method_6_code 17 (.iload_n 2) 1 18 := ⟨by decide +kernel, rfl⟩
theorem d6_18 : Dc method_6_code 18 .iaload 1 19 := ⟨by decide +kernel, rfl⟩
theorem d6_19 : Jp method_6_code 19 (.if_icmp .ne) 26 22 := ⟨7, by decide +kernel, by decide, by decide, rfl⟩
theorem d6_22 : Dc method_6_code 22 (.iconst 1) 1 23 := ⟨by decide +kernel, rfl⟩
theorem d6_23 : Jp method_6_code 23 .goto 27 26 := ⟨4, by decide +kernel, by decide, by decide, rfl⟩
theorem d6_27 : Dc method_6_code 27 .ireturn 1 28 := ⟨by decide +kernel, rfl⟩
theorem d7_0 : Dc code 0 (.new 7) 3 3 := ⟨by decide +kernel, rfl⟩
theorem d7_3 : Dc code 3 .dup 1 4 := ⟨by decide +kernel, rfl⟩
theorem d7_4 : Dc code 4 (.iconst 4) 1 5 := ⟨by decide +kernel, rfl⟩
theorem d7_5 : Dc code 5 (.invokespecial 9) 3 8 := ⟨by decide +kernel, rfl⟩
theorem d7_8 : Dc code 8 (.astore_n 3) 1 9 := ⟨by decide +kernel, rfl⟩
theorem d7_9 : Dc code 9 (.iconst 4) 1 10 := ⟨by decide +kernel, rfl⟩
theorem d7_10 : Dc code 10 (.newarray .int) 2 12 := ⟨by decide +kernel, rfl⟩
theorem d7_12 : Dc code 12 .dup 1 13 := ⟨by decide +kernel, rfl⟩
theorem d7_13 : Dc code 13 (.iconst 0) 1 14 := ⟨by decide +kernel, rfl⟩
theorem d7_14 : Dc code 14 (.iconst 0) 1 15 := ⟨by decide +kernel, rfl⟩
theorem d7_15 : Dc code 15 .iastore 1 16 := ⟨by decide +kernel, rfl⟩
theorem d7_16 : Dc code 16 .dup 1 17 := ⟨by decide +kernel, rfl⟩
theorem d7_17 : Dc code 17 (.iconst 1) 1 18 := ⟨by decide +kernel, rfl⟩
theorem d7_18 : Dc code 18 (.iconst 1) 1 19 := ⟨by decide +kernel, rfl⟩
theorem d7_19 : Dc code 19 .iastore 1 20 := ⟨by decide +kernel, rfl⟩
theorem d7_20 : Dc code 20 .dup 1 21 := ⟨by decide +kernel, rfl⟩
theorem d7_21 : Dc code 21 (.iconst 2) 1 22 := ⟨by decide +kernel, rfl⟩
theorem d7_22 : Dc code 22 (.iconst 2) 1 23 := ⟨by decide +kernel, rfl⟩
theorem d7_23 : Dc code 23 .iastore 1 24 := ⟨by decide +kernel, rfl⟩
theorem d7_24 : Dc code 24 .dup 1 25 := ⟨by decide +kernel, rfl⟩
theorem d7_25 : Dc code 25 (.iconst 3) 1 26 := ⟨by decide +kernel, rfl⟩
theorem d7_26 : Dc code 26 (.iconst 3) 1 27 := ⟨by decide +kernel, rfl⟩
theorem d7_27 : Dc code 27 .iastore 1 28 := ⟨by decide +kernel, rfl⟩
theorem d7_28 : Dc code 28 (.astore 4) 2 30 := ⟨by decide +kernel, rfl⟩
theorem d7_30 : Dc code 30 (.iload_n 0) 1 31 := ⟨by decide +kernel, rfl⟩
theorem d7_31 : Dc code 31 (.iconst 3) 1 32 := ⟨by decide +kernel, rfl⟩
theorem d7_32 : Dc code 32 .iand 1 33 := ⟨by decide +kernel, rfl⟩
theorem d7_33 : Dc code 33 (.istore 5) 2 35 := ⟨by decide +kernel, rfl⟩
theorem d7_35 : Dc code 35 (.iload_n 0) 1 36 := ⟨by decide +kernel, rfl⟩
theorem d7_36 : Dc code 36 (.iconst 2) 1 37 := ⟨by decide +kernel, rfl⟩
theorem d7_37 : Dc code 37 .iushr 1 38 := ⟨by decide +kernel, rfl⟩
theorem d7_38 : Dc code 38 (.iconst 3) 1 39 := ⟨by decide +kernel, rfl⟩
theorem d7_39 : Dc code 39 .iand 1 40 := ⟨by decide +kernel, rfl⟩
theorem d7_40 : Dc code 40 (.istore 6) 2 42 := ⟨by decide +kernel, rfl⟩
theorem d7_42 : Dc code 42 (.iload_n 1) 1 43 := ⟨by decide +kernel, rfl⟩
theorem d7_43 : Dc code 43 (.iconst 3) 1 44 := ⟨by decide +kernel, rfl⟩
theorem d7_44 : Dc code 44 .iand 1 45 := ⟨by decide +kernel, rfl⟩
theorem d7_45 : Dc code 45 (.istore 7) 2 47 := ⟨by decide +kernel, rfl⟩
theorem d7_47 : Dc code 47 (.iload_n 1) 1 48 := ⟨by decide +kernel, rfl⟩
theorem d7_48 : Dc code 48 (.iconst 2) 1 49 := ⟨by decide +kernel, rfl⟩
theorem d7_49 : Dc code 49 .iushr 1 50 := ⟨by decide +kernel, rfl⟩
theorem d7_50 : Dc code 50 (.iconst 3) 1 51 := ⟨by decide +kernel, rfl⟩
theorem d7_51 : Dc code 51 .iand 1 52 := ⟨by decide +kernel, rfl⟩
theorem d7_52 : Dc code 52 (.istore 8) 2 54 := ⟨by decide +kernel, rfl⟩
theorem d7_54 : Dc code 54 (.iload_n 2) 1 55 := ⟨by decide +kernel, rfl⟩
theorem d7_55 : Dc code 55 (.iconst 3) 1 56 := ⟨by decide +kernel, rfl⟩
theorem d7_56 : Dc code 56 .iand 1 57 := ⟨by decide +kernel, rfl⟩
theorem d7_57 : Dc code 57 (.istore 9) 2 59 := ⟨by decide +kernel, rfl⟩
theorem d7_59 : Dc code 59 (.iload_n 2) 1 60 := ⟨by decide +kernel, rfl⟩
theorem d7_60 : Dc code 60 (.iconst 2) 1 61 := ⟨by decide +kernel, rfl⟩
theorem d7_61 : Dc code 61 .iushr 1 62 := ⟨by decide +kernel, rfl⟩
theorem d7_62 : Dc code 62 (.iconst 3) 1 63 := ⟨by decide +kernel, rfl⟩
theorem d7_63 : Dc code 63 .iand 1 64 := ⟨by decide +kernel, rfl⟩
theorem d7_64 : Dc code 64 (.istore 10) 2 66 := ⟨by decide +kernel, rfl⟩
theorem d7_66 : Dc code 66 (.aload_n 3) 1 67 := ⟨by decide +kernel, rfl⟩
theorem d7_67 : Dc code 67 (.iload 5) 2 69 := ⟨by decide +kernel, rfl⟩
theorem d7_69 : Dc code 69 (.iload 6) 2 71 := ⟨by decide +kernel, rfl⟩
theorem d7_71 : Dc code 71 (.invokevirtual 12) 3 74 := ⟨by decide +kernel, rfl⟩
theorem d7_74 : Dc code 74 (.aload 4) 2 76 := ⟨by decide +kernel, rfl⟩
theorem d7_76 : Dc code 76 (.iload 5) 2 78 := ⟨by decide +kernel, rfl⟩
theorem d7_78 : Dc code 78 (.iload 6) 2 80 := ⟨by decide +kernel, rfl⟩
theorem d7_80 : Dc code 80 (.invokestatic 16) 3 83 := ⟨by decide +kernel, rfl⟩
theorem d7_83 : Dc code 83 (.aload_n 3) 1 84 := ⟨by decide +kernel, rfl⟩
theorem d7_84 : Dc code 84 (.iload 7) 2 86 := ⟨by decide +kernel, rfl⟩
theorem d7_86 : Dc code 86 (.iload 8) 2 88 := ⟨by decide +kernel, rfl⟩
theorem d7_88 : Dc code 88 (.invokevirtual 12) 3 91 := ⟨by decide +kernel, rfl⟩
theorem d7_91 : Dc code 91 (.aload 4) 2 93 := ⟨by decide +kernel, rfl⟩
theorem d7_93 : Dc code 93 (.iload 7) 2 95 := ⟨by decide +kernel, rfl⟩
theorem d7_95 : Dc code 95 (.iload 8) 2 97 := ⟨by decide +kernel, rfl⟩
theorem d7_97 : Dc code 97 (.invokestatic 16) 3 100 := ⟨by decide +kernel, rfl⟩
theorem d7_100 : Dc code 100 (.aload_n 3) 1 101 := ⟨by decide +kernel, rfl⟩
theorem d7_101 : Dc code 101 (.iload 9) 2 103 := ⟨by decide +kernel, rfl⟩
theorem d7_103 : Dc code 103 (.iload 10) 2 105 := ⟨by decide +kernel, rfl⟩
theorem d7_105 : Dc code 105 (.invokevirtual 12) 3 108 := ⟨by decide +kernel, rfl⟩
theorem d7_108 : Dc code 108 (.aload 4) 2 110 := ⟨by decide +kernel, rfl⟩
theorem d7_110 : Dc code 110 (.iload 9) 2 112 := ⟨by decide +kernel, rfl⟩
theorem d7_112 : Dc code 112 (.iload 10) 2 114 := ⟨by decide +kernel, rfl⟩
theorem d7_114 : Dc code 114 (.invokestatic 16) 3 117 := ⟨by decide +kernel, rfl⟩
theorem d7_117 : Dc code 117 (.aload_n 3) 1 118 := ⟨by decide +kernel, rfl⟩
theorem d7_118 : Dc code 118 (.iconst 0) 1 119 := ⟨by decide +kernel, rfl⟩
theorem d7_119 : Dc code 119 (.invokevirtual 22) 3 122 := ⟨by decide +kernel, rfl⟩
theorem d7_122 : Dc code 122 (.istore 11) 2 124 := ⟨by decide +kernel, rfl⟩
theorem d7_124 : Dc code 124 (.aload_n 3) 1 125 := ⟨by decide +kernel, rfl⟩
theorem d7_125 : Dc code 125 (.iconst 1) 1 126 := ⟨by decide +kernel, rfl⟩
theorem d7_126 : Dc code 126 (.invokevirtual 22) 3 129 := ⟨by decide +kernel, rfl⟩
theorem d7_129 : Dc code 129 (.istore 12) 2 131 := ⟨by decide +kernel, rfl⟩
theorem d7_131 : Dc code 131 (.aload_n 3) 1 132 := ⟨by decide +kernel, rfl⟩
theorem d7_132 : Dc code 132 (.iconst 2) 1 133 := ⟨by decide +kernel, rfl⟩
theorem d7_133 : Dc code 133 (.invokevirtual 22) 3 136 := ⟨by decide +kernel, rfl⟩
theorem d7_136 : Dc code 136 (.istore 13) 2 138 := ⟨by decide +kernel, rfl⟩
theorem d7_138 : Dc code 138 (.aload_n 3) 1 139 := ⟨by decide +kernel, rfl⟩
theorem d7_139 : Dc code 139 (.iconst 3) 1 140 := ⟨by decide +kernel, rfl⟩
theorem d7_140 : Dc code 140 (.invokevirtual 22) 3 143 := ⟨by decide +kernel, rfl⟩
theorem d7_143 : Dc code 143 (.istore 14) 2 145 := ⟨by decide +kernel, rfl⟩
theorem d7_145 : Dc code 145 (.iload 11) 2 147 := ⟨by decide +kernel, rfl⟩
theorem d7_147 : Dc code 147 (.invokestatic 26) 3 150 := ⟨by decide +kernel, rfl⟩
theorem d7_150 : Jp code 150 (.ifCond .eq) 177 153 := ⟨27, by decide +kernel, by decide, by decide, rfl⟩
theorem d7_153 : Dc code 153 (.iload 12) 2 155 := ⟨by decide +kernel, rfl⟩
theorem d7_155 : Dc code 155 (.invokestatic 26) 3 158 := ⟨by decide +kernel, rfl⟩
theorem d7_158 : Jp code 158 (.ifCond .eq) 177 161 := ⟨19, by decide +kernel, by decide, by decide, rfl⟩
theorem d7_161 : Dc code 161 (.iload 13) 2 163 := ⟨by decide +kernel, rfl⟩
theorem d7_163 : Dc code 163 (.invokestatic 26) 3 166 := ⟨by decide +kernel, rfl⟩
theorem d7_166 : Jp code 166 (.ifCond .eq) 177 169 := ⟨11, by decide +kernel, by decide, by decide, rfl⟩
theorem d7_169 : Dc code 169 (.iload 14) 2 171 := ⟨by decide +kernel, rfl⟩
theorem d7_171 : Dc code 171 (.invokestatic 26) 3 174 := ⟨by decide +kernel, rfl⟩
theorem d7_174 : Jp code 174 (.ifCond .ne) 179 177 := ⟨5, by decide +kernel, by decide, by decide, rfl⟩
theorem d7_179 : Dc code 179 (.iconst 4) 1 180 := ⟨by decide +kernel, rfl⟩
theorem d7_180 : Dc code 180 (.newarray .int) 2 182 := ⟨by decide +kernel, rfl⟩
theorem d7_182 : Dc code 182 .dup 1 183 := ⟨by decide +kernel, rfl⟩
theorem d7_183 : Dc code 183 (.iconst 0) 1 184 := ⟨by decide +kernel, rfl⟩
theorem d7_184 : Dc code 184 (.iload 11) 2 186 := ⟨by decide +kernel, rfl⟩
theorem d7_186 : Dc code 186 .iastore 1 187 := ⟨by decide +kernel, rfl⟩
theorem d7_187 : Dc code 187 .dup 1 188 := ⟨by decide +kernel, rfl⟩
theorem d7_188 : Dc code 188 (.iconst 1) 1 189 := ⟨by decide +kernel, rfl⟩
theorem d7_189 : Dc code 189 (.iload 12) 2 191 := ⟨by decide +kernel, rfl⟩
theorem d7_191 : Dc code 191 .iastore 1 192 := ⟨by decide +kernel, rfl⟩
theorem d7_192 : Dc code 192 .dup 1 193 := ⟨by decide +kernel, rfl⟩
theorem d7_193 : Dc code 193 (.iconst 2) 1 194 := ⟨by decide +kernel, rfl⟩
theorem d7_194 : Dc code 194 (.iload 13) 2 196 := ⟨by decide +kernel, rfl⟩
theorem d7_196 : Dc code 196 .iastore 1 197 := ⟨by decide +kernel, rfl⟩
theorem d7_197 : Dc code 197 .dup 1 198 := ⟨by decide +kernel, rfl⟩
theorem d7_198 : Dc code 198 (.iconst 3) 1 199 := ⟨by decide +kernel, rfl⟩
theorem d7_199 : Dc code 199 (.iload 14) 2 201 := ⟨by decide +kernel, rfl⟩
theorem d7_201 : Dc code 201 .iastore 1 202 := ⟨by decide +kernel, rfl⟩
theorem d7_202 : Dc code 202 (.astore 15) 2 204 := ⟨by decide +kernel, rfl⟩
theorem d7_204 : Dc code 204 (.aload 15) 2 206 := ⟨by decide +kernel, rfl⟩
theorem d7_206 : Dc code 206 (.aload 4) 2 208 := ⟨by decide +kernel, rfl⟩
theorem d7_208 : Dc code 208 (.iconst 0) 1 209 := ⟨by decide +kernel, rfl⟩
theorem d7_209 : Dc code 209 (.iconst 1) 1 210 := ⟨by decide +kernel, rfl⟩
theorem d7_210 : Dc code 210 (.invokestatic 30) 3 213 := ⟨by decide +kernel, rfl⟩
theorem d7_213 : Jp code 213 (.ifCond .eq) 324 216 := ⟨111, by decide +kernel, by decide, by decide, rfl⟩
theorem d7_216 : Dc code 216 (.aload 15) 2 218 := ⟨by decide +kernel, rfl⟩
theorem d7_218 : Dc code 218 (.aload 4) 2 220 := ⟨by decide +kernel, rfl⟩
theorem d7_220 : Dc code 220 (.iconst 0) 1 221 := ⟨by decide +kernel, rfl⟩
theorem d7_221 : Dc code 221 (.iconst 2) 1 222 := ⟨by decide +kernel, rfl⟩
theorem d7_222 : Dc code 222 (.invokestatic 30) 3 225 := ⟨by decide +kernel, rfl⟩
theorem d7_225 : Jp code 225 (.ifCond .eq) 324 228 := ⟨99, by decide +kernel, by decide, by decide, rfl⟩
theorem d7_228 : Dc code 228 (.aload 15) 2 230 := ⟨by decide +kernel, rfl⟩
theorem d7_230 : Dc code 230 (.aload 4) 2 232 := ⟨by decide +kernel, rfl⟩
theorem d7_232 : Dc code 232 (.iconst 0) 1 233 := ⟨by decide +kernel, rfl⟩
theorem d7_233 : Dc code 233 (.iconst 3) 1 234 := ⟨by decide +kernel, rfl⟩
theorem d7_234 : Dc code 234 (.invokestatic 30) 3 237 := ⟨by decide +kernel, rfl⟩
theorem d7_237 : Jp code 237 (.ifCond .eq) 324 240 := ⟨87, by decide +kernel, by decide, by decide, rfl⟩
theorem d7_240 : Dc code 240 (.aload 15) 2 242 := ⟨by decide +kernel, rfl⟩
theorem d7_242 : Dc code 242 (.aload 4) 2 244 := ⟨by decide +kernel, rfl⟩
theorem d7_244 : Dc code 244 (.iconst 1) 1 245 := ⟨by decide +kernel, rfl⟩
theorem d7_245 : Dc code 245 (.iconst 2) 1 246 := ⟨by decide +kernel, rfl⟩
theorem d7_246 : Dc code 246 (.invokestatic 30) 3 249 := ⟨by decide +kernel, rfl⟩
theorem d7_249 : Jp code 249 (.ifCond .eq) 324 252 := ⟨75, by decide +kernel, by decide, by decide, rfl⟩
theorem d7_252 : Dc code 252 (.aload 15) 2 254 := ⟨by decide +kernel, rfl⟩
theorem d7_254 : Dc code 254 (.aload 4) 2 256 := ⟨by decide +kernel, rfl⟩
theorem d7_256 : Dc code 256 (.iconst 1) 1 257 := ⟨by decide +kernel, rfl⟩
theorem d7_257 : Dc code 257 (.iconst 3) 1 258 := ⟨by decide +kernel, rfl⟩
theorem d7_258 : Dc code 258 (.invokestatic 30) 3 261 := ⟨by decide +kernel, rfl⟩
theorem d7_261 : Jp code 261 (.ifCond .eq) 324 264 := ⟨63, by decide +kernel, by decide, by decide, rfl⟩
theorem d7_264 : Dc code 264 (.aload 15) 2 266 := ⟨by decide +kernel, rfl⟩
theorem d7_266 : Dc code 266 (.aload 4) 2 268 := ⟨by decide +kernel, rfl⟩
theorem d7_268 : Dc code 268 (.iconst 2) 1 269 := ⟨by decide +kernel, rfl⟩
theorem d7_269 : Dc code 269 (.iconst 3) 1 270 := ⟨by decide +kernel, rfl⟩
theorem d7_270 : Dc code 270 (.invokestatic 30) 3 273 := ⟨by decide +kernel, rfl⟩
theorem d7_273 : Jp code 273 (.ifCond .eq) 324 276 := ⟨51, by decide +kernel, by decide, by decide, rfl⟩
theorem d7_276 : Dc code 276 (.aload 15) 2 278 := ⟨by decide +kernel, rfl⟩
theorem d7_278 : Dc code 278 (.aload 4) 2 280 := ⟨by decide +kernel, rfl⟩
theorem d7_280 : Dc code 280 (.iconst 0) 1 281 := ⟨by decide +kernel, rfl⟩
theorem d7_281 : Dc code 281 (.invokestatic 34) 3 284 := ⟨by decide +kernel, rfl⟩
theorem d7_284 : Jp code 284 (.ifCond .eq) 324 287 := ⟨40, by decide +kernel, by decide, by decide, rfl⟩
theorem d7_287 : Dc code 287 (.aload 15) 2 289 := ⟨by decide +kernel, rfl⟩
theorem d7_289 : Dc code 289 (.aload 4) 2 291 := ⟨by decide +kernel, rfl⟩
theorem d7_291 : Dc code 291 (.iconst 1) 1 292 := ⟨by decide +kernel, rfl⟩
theorem d7_292 : Dc code 292 (.invokestatic 34) 3 295 := ⟨by decide +kernel, rfl⟩
theorem d7_295 : Jp code 295 (.ifCond .eq) 324 298 := ⟨29, by decide +kernel, by decide, by decide, rfl⟩
theorem d7_298 : Dc code 298 (.aload 15) 2 300 := ⟨by decide +kernel, rfl⟩
theorem d7_300 : Dc code 300 (.aload 4) 2 302 := ⟨by decide +kernel, rfl⟩
theorem d7_302 : Dc code 302 (.iconst 2) 1 303 := ⟨by decide +kernel, rfl⟩
theorem d7_303 : Dc code 303 (.invokestatic 34) 3 306 := ⟨by decide +kernel, rfl⟩
theorem d7_306 : Jp code 306 (.ifCond .eq) 324 309 := ⟨18, by decide +kernel, by decide, by decide, rfl⟩
theorem d7_309 : Dc code 309 (.aload 15) 2 311 := ⟨by decide +kernel, rfl⟩
theorem d7_311 : Dc code 311 (.aload 4) 2 313 := ⟨by decide +kernel, rfl⟩
theorem d7_313 : Dc code 313 (.iconst 3) 1 314 := ⟨by decide +kernel, rfl⟩
theorem d7_314 : Dc code 314 (.invokestatic 34) 3 317 := ⟨by decide +kernel, rfl⟩
theorem d7_317 : Jp code 317 (.ifCond .eq) 324 320 := ⟨7, by decide +kernel, by decide, by decide, rfl⟩
theorem d7_320 : Dc code 320 (.iconst 1) 1 321 := ⟨by decide +kernel, rfl⟩
theorem d7_321 : Jp code 321 .goto 325 324 := ⟨4, by decide +kernel, by decide, by decide, rfl⟩
theorem d7_325 : Dc code 325 .ireturn 1 326 := ⟨by decide +kernel, rfl⟩
theorem pn0 : plainFor (⟨"com/example/ramble/ramble/LinkedIndexes", "<init>", "(I)V"⟩ : MethodName) = true := plainFor_of_name (by first | (simp [plainName, overriddenIn]; done) | decide +kernel)
theorem pn1 : plainFor (⟨"com/example/ramble/ramble/LinkedIndexes", "root", "(I)I"⟩ : MethodName) = true := plainFor_of_name (by first | (simp [plainName, overriddenIn]; done) | decide +kernel)
theorem pn2 : plainFor (⟨"com/example/ramble/ramble/LinkedIndexes", "link", "(II)V"⟩ : MethodName) = true := plainFor_of_name (by first | (simp [plainName, overriddenIn]; done) | decide +kernel)
theorem pd0 : parseMethodDescriptor "(I)I" = some ⟨[.int], some .int⟩ := by decide +kernel
theorem pn3 : plainFor (⟨"com/example/ramble/ramble/LinkedIndexesLinkPinLaw", "join", "([III)V"⟩ : MethodName) = true := plainFor_of_name (by first | (simp [plainName, overriddenIn]; done) | decide +kernel)
theorem pn4 : plainFor (⟨"com/example/ramble/ramble/LinkedIndexesLinkPinLaw", "in", "(I)Z"⟩ : MethodName) = true := plainFor_of_name (by first | (simp [plainName, overriddenIn]; done) | decide +kernel)
theorem pn5 : plainFor (⟨"com/example/ramble/ramble/LinkedIndexesLinkPinLaw", "same", "([I[III)Z"⟩ : MethodName) = true := plainFor_of_name (by first | (simp [plainName, overriddenIn]; done) | decide +kernel)
theorem pn6 : plainFor (⟨"com/example/ramble/ramble/LinkedIndexesLinkPinLaw", "good", "([I[II)Z"⟩ : MethodName) = true := plainFor_of_name (by first | (simp [plainName, overriddenIn]; done) | decide +kernel)
theorem pn7 : plainFor x = true := plainFor_of_name (by first | (simp [plainName, overriddenIn]; done) | decide +kernel)
theorem pd1 : parseMethodDescriptor "(I)V" = some ⟨[.int], none⟩ := by decide +kernel
theorem pd2 : parseMethodDescriptor "(II)V" = some ⟨[.int, .int], none⟩ := by decide +kernel
theorem pd3 : parseMethodDescriptor "([III)V" = some ⟨[(.array .int), .int, .int], none⟩ := by decide +kernel
theorem pd4 : parseMethodDescriptor "(I)Z" = some ⟨[.int], some .boolean⟩ := by decide +kernel
theorem pd5 : parseMethodDescriptor "([I[III)Z" = some ⟨[(.array .int), (.array .int), .int, .int], some .boolean⟩ := by decide +kernel
theorem pd6 : parseMethodDescriptor "([I[II)Z" = some ⟨[(.array .int), (.array .int), .int], some .boolean⟩ := by decide +kernel
set_option maxRecDepth 65536 in
set_option maxHeartbeats 40000000 in
theorem rmI (Z : State) (a0 : Array Value) (hw : ∀ d ∈ tables_1, d.before a0 Z = true) (a : Addr) (h0 : Heap) (n0 : Nat) (Z0 : n0 ≤ h0.size) (v0 : Value) (F0 : Fld Z h0 a "com/example/ramble/ramble/LinkedIndexes" "linked" "[I" v0) (E0 : Exa Z h0 a "com/example/ramble/ramble/LinkedIndexes") (g0 : n0 ≤ a) (l : Launch) :
    Con l Z (⟨"com/example/ramble/ramble/LinkedIndexes", "<init>", "(I)V"⟩ : MethodName) prog_3_method_1_code 3 none ({ frames := 1, cells := 1, slots := 4, locals := 12 } : Room) #[(.ref a), (.int 4)] h0 n0 (RV fun h => ∃ b, n0 ≤ b ∧ h0.size ≤ b ∧ LI Z h a b (List.range 4) ∧ Keep h0 h [a]) := by
  refine con_intro pn0 (L := #[.val (.ref a), .val (.int 4), .unset]) (fun m => by first | (simp [entryFrame, mkF, argsToLocals, Value.category, maxLocals]; done) | rfl) Z0 (fun w T K H => ?_)
  refine go_aloadN K H d0_0 rfl rfl ?_
  refine go_initO K H d0_1 (hw _ (List.mem_of_getElem? (i := 6) rfl)) (hw _ (List.mem_of_getElem? (i := 7) rfl)) (hw _ (List.mem_of_getElem? (i := 8) rfl)) rfl (by decide) (W := 0) rfl (by decide) fun T1 HT1 => ?_
  refine go_aloadN K HT1 d0_4 rfl rfl ?_
  refine go_iloadN K HT1 d0_5 rfl ?_
  refine go_newarray 4 K HT1 d0_6 (hw _ (List.mem_of_getElem? (i := 9) rfl)) (by decide) (by decide) (by decide) (by decide) (by decide) fun T2 h2 b H2 g2 l2 E2 A2 => ?_
  have ne : a ≠ b := Nat.ne_of_lt (g2 ▸ E0.lt)
  have B : IA Z h2 b [0, 0, 0, 0] := A2
  refine go_putfield K H2 d0_8 (host := "") (Or.inl (hw _ (List.mem_of_getElem? (i := 10) rfl))) Via.refl (F0.ext E2) (E0.ext E2) (Or.inr ⟨(hw _ (List.mem_of_getElem? (i := 11) rfl)), rfl, rfl⟩) (hw _ (List.mem_of_getElem? (i := 1) rfl)) (ty := (.array .int)) (by decide) rfl rfl (g0) fun T3 h3 H3 W3 => ?_
  have E1 := (E0.ext E2).wr W3
  have F1 := (F0.ext E2).same W3
  replace B := B.other W3 ne.symm
  have KK : Keep h0 h3 [a] := ((Keep.refl _ _).ext E2).wr W3 (Or.inl (List.mem_singleton.mpr rfl))
  refine go_iconst (0) K H3 d0_11 (by decide) ?_
  refine go_istoreN K H3 d0_12 (L' := #[.val (.ref a), .val (.int 4), .val (.int 0)]) rfl ?_
  refine go_iloadN K H3 d0_13 rfl ?_
  refine go_iloadN K H3 d0_14 rfl ?_
  refine go_icmp_ge K H3 d0_15 (fun c15 => False.elim (by exact c15 (by decide))) (fun c15 => ?_)
  refine go_aloadN K H3 d0_18 rfl rfl ?_
  refine go_getfield K H3 d0_19 (host := "") (Or.inl (hw _ (List.mem_of_getElem? (i := 10) rfl))) Via.refl (F1) fun T4 HT4 => ?_
  refine go_iloadN K HT4 d0_22 rfl ?_
  refine go_iloadN K HT4 d0_23 rfl ?_
  refine go_iastore (0) K HT4 d0_24 (B) (by decide) (by decide) (l2) fun T5 h5 H5 W5 => ?_
  replace B : IA Z h5 b [0, 0, 0, 0] := IA.set B W5
  replace F1 := F1.other W5 (Or.inl ne); replace E1 := E1.wr W5
  replace KK : Keep h0 h5 [a] := KK.wr W5 (Or.inr (by rw [g2]; exact Nat.le_refl _))
  refine go_iinc K H5 d0_25 rfl (z := 1) (by decide) (L' := #[.val (.ref a), .val (.int 4), .val (.int 1)]) rfl ?_
  refine go_goto K H5 d0_28 ?_
  refine go_iloadN K H5 d0_13 rfl ?_
  refine go_iloadN K H5 d0_14 rfl ?_
  refine go_icmp_ge K H5 d0_15 (fun c15 => False.elim (by exact c15 (by decide))) (fun c15 => ?_)
  refine go_aloadN K H5 d0_18 rfl rfl ?_
  refine go_getfield K H5 d0_19 (host := "") (Or.inl (hw _ (List.mem_of_getElem? (i := 10) rfl))) Via.refl (F1) fun T6 HT6 => ?_
  refine go_iloadN K HT6 d0_22 rfl ?_
  refine go_iloadN K HT6 d0_23 rfl ?_
  refine go_iastore (1) K HT6 d0_24 (B) (by decide) (by decide) (l2) fun T7 h7 H7 W7 => ?_
  replace B : IA Z h7 b [0, 1, 0, 0] := IA.set B W7
  replace F1 := F1.other W7 (Or.inl ne); replace E1 := E1.wr W7
  replace KK : Keep h0 h7 [a] := KK.wr W7 (Or.inr (by rw [g2]; exact Nat.le_refl _))
  refine go_iinc K H7 d0_25 rfl (z := 2) (by decide) (L' := #[.val (.ref a), .val (.int 4), .val (.int 2)]) rfl ?_
  refine go_goto K H7 d0_28 ?_
  refine go_iloadN K H7 d0_13 rfl ?_
  refine go_iloadN K H7 d0_14 rfl ?_
  refine go_icmp_ge K H7 d0_15 (fun c15 => False.elim (by exact c15 (by decide))) (fun c15 => ?_)
  refine go_aloadN K H7 d0_18 rfl rfl ?_
  refine go_getfield K H7 d0_19 (host := "") (Or.inl (hw _ (List.mem_of_getElem? (i := 10) rfl))) Via.refl (F1) fun T8 HT8 => ?_
  refine go_iloadN K HT8 d0_22 rfl ?_
  refine go_iloadN K HT8 d0_23 rfl ?_
  refine go_iastore (2) K HT8 d0_24 (B) (by decide) (by decide) (l2) fun T9 h9 H9 W9 => ?_
  replace B : IA Z h9 b [0, 1, 2, 0] := IA.set B W9
  replace F1 := F1.other W9 (Or.inl ne); replace E1 := E1.wr W9
  replace KK : Keep h0 h9 [a] := KK.wr W9 (Or.inr (by rw [g2]; exact Nat.le_refl _))
  refine go_iinc K H9 d0_25 rfl (z := 3) (by decide) (L' := #[.val (.ref a), .val (.int 4), .val (.int 3)]) rfl ?_
  refine go_goto K H9 d0_28 ?_
  refine go_iloadN K H9 d0_13 rfl ?_
  refine go_iloadN K H9 d0_14 rfl ?_
  refine go_icmp_ge K H9 d0_15 (fun c15 => False.elim (by exact c15 (by decide))) (fun c15 => ?_)
  refine go_aloadN K H9 d0_18 rfl rfl ?_
  refine go_getfield K H9 d0_19 (host := "") (Or.inl (hw _ (List.mem_of_getElem? (i := 10) rfl))) Via.refl (F1) fun T10 HT10 => ?_
  refine go_iloadN K HT10 d0_22 rfl ?_
  refine go_iloadN K HT10 d0_23 rfl ?_
  refine go_iastore (3) K HT10 d0_24 (B) (by decide) (by decide) (l2) fun T11 h11 H11 W11 => ?_
  replace B : IA Z h11 b [0, 1, 2, 3] := IA.set B W11
  replace F1 := F1.other W11 (Or.inl ne); replace E1 := E1.wr W11
  replace KK : Keep h0 h11 [a] := KK.wr W11 (Or.inr (by rw [g2]; exact Nat.le_refl _))
  refine go_iinc K H11 d0_25 rfl (z := 4) (by decide) (L' := #[.val (.ref a), .val (.int 4), .val (.int 4)]) rfl ?_
  refine go_goto K H11 d0_28 ?_
  refine go_iloadN K H11 d0_13 rfl ?_
  refine go_iloadN K H11 d0_14 rfl ?_
  refine go_icmp_ge K H11 d0_15 (fun c15 => ?_) (fun c15 => False.elim (by exact absurd c15 (by decide)))
  exact go_ret K H11 d0_31 rfl (by decide) (by decide) (⟨b, l2, (by rw [g2]; exact Nat.le_refl _ : h0.size ≤ b), ⟨E1, F1, (by rw [show (List.range 4).map oN = [0, 1, 2, 3] from by decide]; exact B), ne⟩, KK⟩)
set_option maxRecDepth 65536 in
set_option maxHeartbeats 40000000 in
theorem rmR (Z : State) (a0 : Array Value) (hw : ∀ d ∈ tables_1, d.before a0 Z = true) (a : Addr) (h0 : Heap) (n0 : Nat) (Z0 : n0 ≤ h0.size) (b : Addr) (ns : List Nat) (k0 i0 r : Nat) (O : LI Z h0 a b ns) (R0 : Rk ns k0 i0 r) (l : Launch) :
    Con l Z (⟨"com/example/ramble/ramble/LinkedIndexes", "root", "(I)I"⟩ : MethodName) prog_3_method_3_code 3 (some .int) ({ frames := 0, cells := 0, slots := 0, locals := 0 } : Room) #[(.ref a), (.int (oN i0))] h0 n0 (RI fun z h => z = oN r ∧ h0 = h) := by
  refine con_intro pn1 (L := #[.val (.ref a), .val (.int (oN i0)), .unset]) (fun m => by first | (simp [entryFrame, mkF, argsToLocals, Value.category, maxLocals]; done) | rfl) Z0 (fun w T K H => ?_)
  refine go_iloadN K H d1_0 rfl ?_
  refine go_istoreN K H d1_1 (L' := #[.val (.ref a), .val (.int (oN i0)), .val (.int (oN i0))]) rfl ?_
  have loop : ∀ (k i : Nat), Rk ns k i r → ∀ T, At1 w T h0 0 0 → Go w (RI fun z h => z = oN r ∧ h0 = h) T 2 #[.val (.ref a), .val (.int (oN i0)), .val (.int (oN i))] [] := by
    intro k
    induction k with
    | zero =>
      intro i R T H
      obtain ⟨e, hi⟩ := R
      subst e
      have il := Nat.lt_trans (lt_of_at hi) O.len
      refine go_aloadN K H d1_2 rfl rfl ?_
      refine go_getfield K H d1_3 (host := "") (Or.inl (hw _ (List.mem_of_getElem? (i := 10) rfl))) Via.refl (O.2.1) fun T1 HT1 => ?_
      refine go_iloadN K HT1 d1_6 rfl ?_
      refine go_iaload (i) K HT1 d1_7 (O.2.2.1) (oN_toInt il) (at_map2 hi) ?_
      refine go_iloadN K HT1 d1_8 rfl ?_
      refine go_icmp_eq K HT1 d1_9 (fun c9 => ?_) (fun c9 => False.elim (by exact c9 rfl))
      refine go_iloadN K HT1 d1_22 rfl ?_
      exact go_iret K HT1 d1_23 rfl (by decide) (by decide) (⟨rfl, rfl⟩)
    | succ k ih =>
      intro i R T H
      obtain ⟨j, h1, h2, h3⟩ := R
      have il := Nat.lt_trans (lt_of_at h1) O.len
      have jl := Nat.lt_trans h3.lt O.len
      refine go_aloadN K H d1_2 rfl rfl ?_
      refine go_getfield K H d1_3 (host := "") (Or.inl (hw _ (List.mem_of_getElem? (i := 10) rfl))) Via.refl (O.2.1) fun T2 HT2 => ?_
      refine go_iloadN K HT2 d1_6 rfl ?_
      refine go_iaload (i) K HT2 d1_7 (O.2.2.1) (oN_toInt il) (at_map2 h1) ?_
      refine go_iloadN K HT2 d1_8 rfl ?_
      refine go_icmp_eq K HT2 d1_9 (fun c9 => False.elim (by exact h2 ((oN_inj jl il).mp c9))) (fun c9 => ?_)
      refine go_aloadN K HT2 d1_12 rfl rfl ?_
      refine go_getfield K HT2 d1_13 (host := "") (Or.inl (hw _ (List.mem_of_getElem? (i := 10) rfl))) Via.refl (O.2.1) fun T3 HT3 => ?_
      refine go_iloadN K HT3 d1_16 rfl ?_
      refine go_iaload (i) K HT3 d1_17 (O.2.2.1) (oN_toInt il) (at_map2 h1) ?_
      refine go_istoreN K HT3 d1_18 (L' := #[.val (.ref a), .val (.int (oN i0)), .val (.int (oN j))]) rfl ?_
      refine go_goto K HT3 d1_19 ?_
      exact ih j h3 _ HT3
  exact loop _ _ R0 _ H
set_option maxRecDepth 65536 in
set_option maxHeartbeats 40000000 in
theorem rmL (Z : State) (a0 : Array Value) (hw : ∀ d ∈ tables_1, d.before a0 Z = true) (a : Addr) (h0 : Heap) (n0 : Nat) (Z0 : n0 ≤ h0.size) (b : Addr) (ns : List Nat) (k1 k2 i j ra rb : Nat) (O : LI Z h0 a b ns) (R1 : Rk ns k1 i ra) (R2 : Rk ns k2 j rb) (g1 : n0 ≤ b) (l : Launch) :
    Con l Z (⟨"com/example/ramble/ramble/LinkedIndexes", "link", "(II)V"⟩ : MethodName) prog_3_method_2_code 3 none ({ frames := 1, cells := 0, slots := 0, locals := 20 } : Room) #[(.ref a), (.int (oN i)), (.int (oN j))] h0 n0 (RV fun h => LI Z h a b (ns.set ra rb) ∧ Keep h0 h [b]) := by
  refine con_intro pn2 (L := #[.val (.ref a), .val (.int (oN i)), .val (.int (oN j))]) (fun m => by first | (simp [entryFrame, mkF, argsToLocals, Value.category, maxLocals]; done) | rfl) Z0 (fun w T K H => ?_)
  refine go_aloadN K H d2_0 rfl rfl ?_
  refine go_getfield K H d2_1 (host := "") (Or.inl (hw _ (List.mem_of_getElem? (i := 10) rfl))) Via.refl (O.2.1) fun T1 HT1 => ?_
  refine go_aloadN K HT1 d2_4 rfl rfl ?_
  refine go_iloadN K HT1 d2_5 rfl ?_
  refine go_callV [(.int (oN i))] K HT1 d2_6 (O.1) (hw _ (List.mem_of_getElem? (i := 17) rfl)) (hw _ (List.mem_of_getElem? (i := 18) rfl)) (nf_sel (hw _ (List.mem_of_getElem? (i := 20) rfl))) (hw _ (List.mem_of_getElem? (i := 20) rfl)) (hw _ (List.mem_of_getElem? (i := 19) rfl)) (hw _ (List.mem_of_getElem? (i := 2) rfl)) (hw _ (List.mem_of_getElem? (i := 21) rfl)) (st' := [(.ref b)]) (by decide) (rmR Z a0 hw _ _ n0 Z0 _ _ _ _ _ O R1) pd0 rfl rfl rfl (by decide) (W := 1) rfl (by decide) (by decide) (by decide) fun T2 h2 v2 H2 q2 => ?_
  obtain ⟨z2, rfl, b1, rfl⟩ := q2
  show Go w _ _ 9 #[.val (.ref a), .val (.int (oN i)), .val (.int (oN j))] [(.int z2), (.ref b)]
  refine go_aloadN K H2 d2_9 rfl rfl ?_
  refine go_iloadN K H2 d2_10 rfl ?_
  refine go_callV [(.int (oN j))] K H2 d2_11 (O.1) (hw _ (List.mem_of_getElem? (i := 17) rfl)) (hw _ (List.mem_of_getElem? (i := 18) rfl)) (nf_sel (hw _ (List.mem_of_getElem? (i := 20) rfl))) (hw _ (List.mem_of_getElem? (i := 20) rfl)) (hw _ (List.mem_of_getElem? (i := 19) rfl)) (hw _ (List.mem_of_getElem? (i := 2) rfl)) (hw _ (List.mem_of_getElem? (i := 21) rfl)) (st' := [(.int z2), (.ref b)]) (by decide) (rmR Z a0 hw _ _ n0 Z0 _ _ _ _ _ O R2) pd0 rfl rfl rfl (by decide) (W := 2) rfl (by decide) (by decide) (by decide) fun T3 h3 v3 H3 q3 => ?_
  obtain ⟨z3, rfl, b2, rfl⟩ := q3
  show Go w _ _ 14 #[.val (.ref a), .val (.int (oN i)), .val (.int (oN j))] [(.int z3), (.int z2), (.ref b)]
  have rl := Nat.lt_trans (lt_of_at R1.root) O.len
  refine go_iastore (ra) K H3 d2_14 (O.2.2.1) (by rw [b1]; exact oN_toInt rl) (by simpa using lt_of_at R1.root) (g1) fun T4 h4 H4 W4 => ?_
  exact go_ret K H4 d2_15 rfl (by decide) (by decide) (⟨⟨O.1.wr W4, O.2.1.other W4 (Or.inl O.2.2.2), (by have q := IA.set O.2.2.1 (b2 ▸ W4); rw [← List.map_set] at q; exact q), O.2.2.2⟩, Keep.of_wr W4⟩)
set_option maxRecDepth 65536 in
set_option maxHeartbeats 40000000 in
theorem rm4 (Z : State) (a0 : Array Value) (hw : ∀ d ∈ tables_1, d.before a0 Z = true) (a : Addr) (h0 : Heap) (n0 : Nat) (Z0 : n0 ≤ h0.size) (i j : Nat) (xs : List Int32) (va vb : Int32) (hl : xs.length = 4) (hi : xs[i]? = some va) (hj : xs[j]? = some vb) (B0 : IA Z h0 a xs) (g0 : n0 ≤ a) (l : Launch) :
    Con l Z (⟨"com/example/ramble/ramble/LinkedIndexesLinkPinLaw", "join", "([III)V"⟩ : MethodName) method_4_code 5 none ({ frames := 0, cells := 0, slots := 0, locals := 0 } : Room) #[(.ref a), (.int (oN i)), (.int (oN j))] h0 n0 (RV fun h => IA Z h a (xs.map fun x => if x = va then vb else x) ∧ Keep h0 h [a]) := by
  refine con_intro pn3 (L := #[.val (.ref a), .val (.int (oN i)), .val (.int (oN j)), .unset, .unset]) (fun m => by first | (simp [entryFrame, mkF, argsToLocals, Value.category, maxLocals]; done) | rfl) Z0 (fun w T K H => ?_)
  refine go_aloadN K H d3_0 rfl rfl ?_
  refine go_iloadN K H d3_1 rfl ?_
  refine go_iaload (i) K H d3_2 (B0) (oN_toInt (Nat.lt_trans (lt_of_at hi) B0.len)) (at_map1 hi) ?_
  refine go_istoreN K H d3_3 (L' := #[.val (.ref a), .val (.int (oN i)), .val (.int (oN j)), .val (.int va), .unset]) rfl ?_
  refine go_aloadN K H d3_4 rfl rfl ?_
  refine go_iloadN K H d3_5 rfl ?_
  refine go_iaload (j) K H d3_6 (B0) (oN_toInt (Nat.lt_trans (lt_of_at hj) B0.len)) (at_map1 hj) ?_
  refine go_istore K H d3_7 (L' := #[.val (.ref a), .val (.int (oN i)), .val (.int (oN j)), .val (.int va), .val (.int vb)]) rfl ?_
  obtain ⟨x0, x1, x2, x3, rfl⟩ : ∃ x0 x1 x2 x3, xs = [x0, x1, x2, x3] := by
    match xs, hl with
    | [x0, x1, x2, x3], _ => exact ⟨x0, x1, x2, x3, rfl⟩
  have J4 : ∀ T h, At1 w T h 0 0 → IA Z h a [(if x0 = va then vb else x0), (if x1 = va then vb else x1), (if x2 = va then vb else x2), (if x3 = va then vb else x3)] → Keep h0 h [a] → Go w (RV fun h => IA Z h a ([x0, x1, x2, x3].map fun x => if x = va then vb else x) ∧ Keep h0 h [a]) T 57 #[.val (.ref a), .val (.int (oN i)), .val (.int (oN j)), .val (.int va), .val (.int vb)] [] := by
    intro T h H B KK
    exact go_ret K H d3_57 rfl (by decide) (by decide) (⟨B, KK⟩)
  have J3 : ∀ T h, At1 w T h 0 0 → IA Z h a [(if x0 = va then vb else x0), (if x1 = va then vb else x1), (if x2 = va then vb else x2), x3] → Keep h0 h [a] → Go w (RV fun h => IA Z h a ([x0, x1, x2, x3].map fun x => if x = va then vb else x) ∧ Keep h0 h [a]) T 45 #[.val (.ref a), .val (.int (oN i)), .val (.int (oN j)), .val (.int va), .val (.int vb)] [] := by
    intro T h H B KK
    refine go_aloadN K H d3_45 rfl rfl ?_
    refine go_iconst (3) K H d3_46 (by decide) ?_
    refine go_iaload (3) K H d3_47 (B) (by decide) (rfl) ?_
    refine go_iloadN K H d3_48 rfl ?_
    refine go_icmp_ne K H d3_49 (fun c49 => ?_) (fun c49 => ?_)
    · exact J4 _ _ H (by rw [if_neg c49]; exact B) KK
    · refine go_aloadN K H d3_52 rfl rfl ?_
      refine go_iconst (3) K H d3_53 (by decide) ?_
      refine go_iload K H d3_54 rfl ?_
      refine go_iastore (3) K H d3_56 (B) (by decide) (by simp) (g0) fun T1 h1 H1 W1 => ?_
      exact J4 _ _ H1 (by rw [if_pos c49]; exact IA.set B W1) (KK.wr W1 (Or.inl (List.mem_singleton.mpr rfl)))
  have J2 : ∀ T h, At1 w T h 0 0 → IA Z h a [(if x0 = va then vb else x0), (if x1 = va then vb else x1), x2, x3] → Keep h0 h [a] → Go w (RV fun h => IA Z h a ([x0, x1, x2, x3].map fun x => if x = va then vb else x) ∧ Keep h0 h [a]) T 33 #[.val (.ref a), .val (.int (oN i)), .val (.int (oN j)), .val (.int va), .val (.int vb)] [] := by
    intro T h H B KK
    refine go_aloadN K H d3_33 rfl rfl ?_
    refine go_iconst (2) K H d3_34 (by decide) ?_
    refine go_iaload (2) K H d3_35 (B) (by decide) (rfl) ?_
    refine go_iloadN K H d3_36 rfl ?_
    refine go_icmp_ne K H d3_37 (fun c37 => ?_) (fun c37 => ?_)
    · exact J3 _ _ H (by rw [if_neg c37]; exact B) KK
    · refine go_aloadN K H d3_40 rfl rfl ?_
      refine go_iconst (2) K H d3_41 (by decide) ?_
      refine go_iload K H d3_42 rfl ?_
      refine go_iastore (2) K H d3_44 (B) (by decide) (by simp) (g0) fun T2 h2 H2 W2 => ?_
      exact J3 _ _ H2 (by rw [if_pos c37]; exact IA.set B W2) (KK.wr W2 (Or.inl (List.mem_singleton.mpr rfl)))
  have J1 : ∀ T h, At1 w T h 0 0 → IA Z h a [(if x0 = va then vb else x0), x1, x2, x3] → Keep h0 h [a] → Go w (RV fun h => IA Z h a ([x0, x1, x2, x3].map fun x => if x = va then vb else x) ∧ Keep h0 h [a]) T 21 #[.val (.ref a), .val (.int (oN i)), .val (.int (oN j)), .val (.int va), .val (.int vb)] [] := by
    intro T h H B KK
    refine go_aloadN K H d3_21 rfl rfl ?_
    refine go_iconst (1) K H d3_22 (by decide) ?_
    refine go_iaload (1) K H d3_23 (B) (by decide) (rfl) ?_
    refine go_iloadN K H d3_24 rfl ?_
    refine go_icmp_ne K H d3_25 (fun c25 => ?_) (fun c25 => ?_)
    · exact J2 _ _ H (by rw [if_neg c25]; exact B) KK
    · refine go_aloadN K H d3_28 rfl rfl ?_
      refine go_iconst (1) K H d3_29 (by decide) ?_
      refine go_iload K H d3_30 rfl ?_
      refine go_iastore (1) K H d3_32 (B) (by decide) (by simp) (g0) fun T3 h3 H3 W3 => ?_
      exact J2 _ _ H3 (by rw [if_pos c25]; exact IA.set B W3) (KK.wr W3 (Or.inl (List.mem_singleton.mpr rfl)))
  have J0 : ∀ T h, At1 w T h 0 0 → IA Z h a [x0, x1, x2, x3] → Keep h0 h [a] → Go w (RV fun h => IA Z h a ([x0, x1, x2, x3].map fun x => if x = va then vb else x) ∧ Keep h0 h [a]) T 9 #[.val (.ref a), .val (.int (oN i)), .val (.int (oN j)), .val (.int va), .val (.int vb)] [] := by
    intro T h H B KK
    refine go_aloadN K H d3_9 rfl rfl ?_
    refine go_iconst (0) K H d3_10 (by decide) ?_
    refine go_iaload (0) K H d3_11 (B) (by decide) (rfl) ?_
    refine go_iloadN K H d3_12 rfl ?_
    refine go_icmp_ne K H d3_13 (fun c13 => ?_) (fun c13 => ?_)
    · exact J1 _ _ H (by rw [if_neg c13]; exact B) KK
    · refine go_aloadN K H d3_16 rfl rfl ?_
      refine go_iconst (0) K H d3_17 (by decide) ?_
      refine go_iload K H d3_18 rfl ?_
      refine go_iastore (0) K H d3_20 (B) (by decide) (by simp) (g0) fun T4 h4 H4 W4 => ?_
      exact J1 _ _ H4 (by rw [if_pos c13]; exact IA.set B W4) (KK.wr W4 (Or.inl (List.mem_singleton.mpr rfl)))
  exact J0 _ _ H B0 (Keep.refl _ _)
set_option maxRecDepth 65536 in
set_option maxHeartbeats 40000000 in
theorem rm1 (Z : State) (a0 : Array Value) (hw : ∀ d ∈ tables_1, d.before a0 Z = true) (u0 : Int32) (h0 : Heap) (n0 : Nat) (Z0 : n0 ≤ h0.size)  (l : Launch) :
    Con l Z (⟨"com/example/ramble/ramble/LinkedIndexesLinkPinLaw", "in", "(I)Z"⟩ : MethodName) method_3_code 1 (some .boolean) ({ frames := 0, cells := 0, slots := 0, locals := 0 } : Room) #[(.int u0)] h0 n0 (RI fun z h => z = bI (0 ≤ u0.toInt ∧ u0.toInt < 4) ∧ h0 = h) := by
  refine con_intro pn4 (L := #[.val (.int u0)]) (fun m => by first | (simp [entryFrame, mkF, argsToLocals, Value.category, maxLocals]; done) | rfl) Z0 (fun w T K H => ?_)
  refine go_iloadN K H d4_0 rfl ?_
  refine go_if_lt K H d4_1 (fun c1 => ?_) (fun c1 => ?_)
  · refine go_iconst (0) K H d4_13 (by decide) ?_
    exact go_zret K H d4_14 rfl (by decide) (by decide) (by decide) (⟨by refine (bI_f ?_).symm; (try simp only [or_true, true_or, and_true, true_and, not_true_eq_false, not_false_eq_true, Int32.lt_iff_toInt_lt, Int32.le_iff_toInt_le, ← Int32.toInt_inj, Int64.lt_iff_toInt_lt, Int64.le_iff_toInt_le, ← Int64.toInt_inj, Int32.reduceToInt, Int64.reduceToInt, ne_eq] at *) <;> omega, rfl⟩)
  · refine go_iloadN K H d4_4 rfl ?_
    refine go_iconst (4) K H d4_5 (by decide) ?_
    refine go_icmp_ge K H d4_6 (fun c6 => ?_) (fun c6 => ?_)
    · refine go_iconst (0) K H d4_13 (by decide) ?_
      exact go_zret K H d4_14 rfl (by decide) (by decide) (by decide) (⟨by refine (bI_f ?_).symm; (try simp only [or_true, true_or, and_true, true_and, not_true_eq_false, not_false_eq_true, Int32.lt_iff_toInt_lt, Int32.le_iff_toInt_le, ← Int32.toInt_inj, Int64.lt_iff_toInt_lt, Int64.le_iff_toInt_le, ← Int64.toInt_inj, Int32.reduceToInt, Int64.reduceToInt, ne_eq] at *) <;> omega, rfl⟩)
    · refine go_iconst (1) K H d4_9 (by decide) ?_
      refine go_goto K H d4_10 ?_
      exact go_zret K H d4_14 rfl (by decide) (by decide) (by decide) (⟨by refine (bI_t ?_).symm; (try simp only [or_true, true_or, and_true, true_and, not_true_eq_false, not_false_eq_true, Int32.lt_iff_toInt_lt, Int32.le_iff_toInt_le, ← Int32.toInt_inj, Int64.lt_iff_toInt_lt, Int64.le_iff_toInt_le, ← Int64.toInt_inj, Int32.reduceToInt, Int64.reduceToInt, ne_eq] at *) <;> omega, rfl⟩)
set_option maxRecDepth 65536 in
set_option maxHeartbeats 40000000 in
theorem rm2 (Z : State) (a0 : Array Value) (hw : ∀ d ∈ tables_1, d.before a0 Z = true) (a : Addr) (b : Addr) (h0 : Heap) (n0 : Nat) (Z0 : n0 ≤ h0.size) (i j x y : Nat) (cs : List Nat) (A : IA Z h0 a (cs.map oN)) (B : IA Z h0 b (cs.map oN)) (hi : cs[i]? = some x) (hj : cs[j]? = some y) (l : Launch) :
    Con l Z (⟨"com/example/ramble/ramble/LinkedIndexesLinkPinLaw", "same", "([I[III)Z"⟩ : MethodName) method_5_code 4 (some .boolean) ({ frames := 0, cells := 0, slots := 0, locals := 0 } : Room) #[(.ref a), (.ref b), (.int (oN i)), (.int (oN j))] h0 n0 (RI fun z h => z = 1 ∧ h0 = h) := by
  refine con_intro pn5 (L := #[.val (.ref a), .val (.ref b), .val (.int (oN i)), .val (.int (oN j))]) (fun m => by first | (simp [entryFrame, mkF, argsToLocals, Value.category, maxLocals]; done) | rfl) Z0 (fun w T K H => ?_)
  refine go_aloadN K H d5_0 rfl rfl ?_
  refine go_iloadN K H d5_1 rfl ?_
  refine go_iaload (i) K H d5_2 (A) (oN_toInt (Nat.lt_trans (lt_of_at hi) (by simpa using A.len))) (at_map2 hi) ?_
  refine go_aloadN K H d5_3 rfl rfl ?_
  refine go_iloadN K H d5_4 rfl ?_
  refine go_iaload (j) K H d5_5 (A) (oN_toInt (Nat.lt_trans (lt_of_at hj) (by simpa using A.len))) (at_map2 hj) ?_
  refine go_icmp_ne K H d5_6 (fun c6 => ?_) (fun c6 => ?_)
  · refine go_iconst (0) K H d5_13 (by decide) ?_
    refine go_aloadN K H d5_14 rfl rfl ?_
    refine go_iloadN K H d5_15 rfl ?_
    refine go_iaload (i) K H d5_16 (B) (oN_toInt (Nat.lt_trans (lt_of_at hi) (by simpa using A.len))) (at_map2 hi) ?_
    refine go_aloadN K H d5_17 rfl rfl ?_
    refine go_iloadN K H d5_18 rfl ?_
    refine go_iaload (j) K H d5_19 (B) (oN_toInt (Nat.lt_trans (lt_of_at hj) (by simpa using A.len))) (at_map2 hj) ?_
    refine go_icmp_ne K H d5_20 (fun c20 => ?_) (fun c20 => False.elim (by exact c6 c20))
    refine go_iconst (0) K H d5_27 (by decide) ?_
    refine go_icmp_ne K H d5_28 (fun c28 => False.elim (by exact c28 rfl)) (fun c28 => ?_)
    refine go_iconst (1) K H d5_31 (by decide) ?_
    refine go_goto K H d5_32 ?_
    exact go_zret K H d5_36 rfl (by decide) (by decide) (by decide) (⟨rfl, rfl⟩)
  · refine go_iconst (1) K H d5_9 (by decide) ?_
    refine go_goto K H d5_10 ?_
    refine go_aloadN K H d5_14 rfl rfl ?_
    refine go_iloadN K H d5_15 rfl ?_
    refine go_iaload (i) K H d5_16 (B) (oN_toInt (Nat.lt_trans (lt_of_at hi) (by simpa using A.len))) (at_map2 hi) ?_
    refine go_aloadN K H d5_17 rfl rfl ?_
    refine go_iloadN K H d5_18 rfl ?_
    refine go_iaload (j) K H d5_19 (B) (oN_toInt (Nat.lt_trans (lt_of_at hj) (by simpa using A.len))) (at_map2 hj) ?_
    refine go_icmp_ne K H d5_20 (fun c20 => False.elim (by exact c20 c6)) (fun c20 => ?_)
    refine go_iconst (1) K H d5_23 (by decide) ?_
    refine go_goto K H d5_24 ?_
    refine go_icmp_ne K H d5_28 (fun c28 => False.elim (by exact c28 rfl)) (fun c28 => ?_)
    refine go_iconst (1) K H d5_31 (by decide) ?_
    refine go_goto K H d5_32 ?_
    exact go_zret K H d5_36 rfl (by decide) (by decide) (by decide) (⟨rfl, rfl⟩)
set_option maxRecDepth 65536 in
set_option maxHeartbeats 40000000 in
theorem rm3 (Z : State) (a0 : Array Value) (hw : ∀ d ∈ tables_1, d.before a0 Z = true) (a : Addr) (b : Addr) (h0 : Heap) (n0 : Nat) (Z0 : n0 ≤ h0.size) (i x : Nat) (cs : List Nat) (A : IA Z h0 a (cs.map oN)) (B : IA Z h0 b (cs.map oN)) (hi : cs[i]? = some x) (hx : cs[x]? = some x) (l : Launch) :
    Con l Z (⟨"com/example/ramble/ramble/LinkedIndexesLinkPinLaw", "good", "([I[II)Z"⟩ : MethodName) method_6_code 3 (some .boolean) ({ frames := 0, cells := 0, slots := 0, locals := 0 } : Room) #[(.ref a), (.ref b), (.int (oN i))] h0 n0 (RI fun z h => z = 1 ∧ h0 = h) := by
  refine con_intro pn6 (L := #[.val (.ref a), .val (.ref b), .val (.int (oN i))]) (fun m => by first | (simp [entryFrame, mkF, argsToLocals, Value.category, maxLocals]; done) | rfl) Z0 (fun w T K H => ?_)
  refine go_aloadN K H d6_0 rfl rfl ?_
  refine go_aloadN K H d6_1 rfl rfl ?_
  refine go_iloadN K H d6_2 rfl ?_
  refine go_iaload (i) K H d6_3 (A) (oN_toInt (Nat.lt_trans (lt_of_at hi) (by simpa using A.len))) (at_map2 hi) ?_
  refine go_iaload (x) K H d6_4 (B) (oN_toInt (Nat.lt_trans (lt_of_at hx) (by simpa using A.len))) (at_map2 hx) ?_
  refine go_aloadN K H d6_5 rfl rfl ?_
  refine go_iloadN K H d6_6 rfl ?_
  refine go_iaload (i) K H d6_7 (B) (oN_toInt (Nat.lt_trans (lt_of_at hi) (by simpa using A.len))) (at_map2 hi) ?_
  refine go_icmp_ne K H d6_8 (fun c8 => False.elim (by exact c8 rfl)) (fun c8 => ?_)
  refine go_aloadN K H d6_11 rfl rfl ?_
  refine go_aloadN K H d6_12 rfl rfl ?_
  refine go_iloadN K H d6_13 rfl ?_
  refine go_iaload (i) K H d6_14 (A) (oN_toInt (Nat.lt_trans (lt_of_at hi) (by simpa using A.len))) (at_map2 hi) ?_
  refine go_iaload (x) K H d6_15 (A) (oN_toInt (Nat.lt_trans (lt_of_at hx) (by simpa using A.len))) (at_map2 hx) ?_
  refine go_aloadN K H d6_16 rfl rfl ?_
  refine go_iloadN K H d6_17 rfl ?_
  refine go_iaload (i) K H d6_18 (A) (oN_toInt (Nat.lt_trans (lt_of_at hi) (by simpa using A.len))) (at_map2 hi) ?_
  refine go_icmp_ne K H d6_19 (fun c19 => False.elim (by exact c19 rfl)) (fun c19 => ?_)
  refine go_iconst (1) K H d6_22 (by decide) ?_
  refine go_goto K H d6_23 ?_
  exact go_zret K H d6_27 rfl (by decide) (by decide) (by decide) (⟨rfl, rfl⟩)
set_option maxRecDepth 65536 in
set_option maxHeartbeats 40000000 in
theorem rm0 (Z : State) (a0 : Array Value) (hw : ∀ d ∈ tables_1, d.before a0 Z = true) (u0 : Int32) (u1 : Int32) (u2 : Int32) (h0 : Heap) (n0 : Nat) (Z0 : n0 ≤ h0.size)  (l : Launch) :
    Con l Z x code maxLocals ret room_1 #[(.int u0), (.int u1), (.int u2)] h0 n0 (RI fun z _ => z = 1) := by
  refine con_intro pn7 (L := #[.val (.int u0), .val (.int u1), .val (.int u2), .unset, .unset, .unset, .unset, .unset, .unset, .unset, .unset, .unset, .unset, .unset, .unset, .unset]) (fun m => by first | (simp [entryFrame, mkF, argsToLocals, Value.category, maxLocals]; done) | rfl) Z0 (fun w T K H => ?_)
  refine go_new K H d7_0 (hw _ (List.mem_of_getElem? (i := 0) rfl)) (hw _ (List.mem_of_getElem? (i := 1) rfl)) (hw _ (List.mem_of_getElem? (i := 2) rfl)) (by decide) (by decide) fun T1 h1 a H1 g1 l1 E1 A1 D1 => ?_
  refine go_dup K H1 d7_3 rfl ?_
  refine go_iconst (4) K H1 d7_4 (by decide) ?_
  refine go_callI [(.int 4)] K H1 d7_5 rfl (hw _ (List.mem_of_getElem? (i := 3) rfl)) (hw _ (List.mem_of_getElem? (i := 4) rfl)) (hw _ (List.mem_of_getElem? (i := 2) rfl)) (hw _ (List.mem_of_getElem? (i := 5) rfl)) (st' := [(.ref a)]) (by decide) (rmI Z a0 hw _ _ n0 (at_size K H1) _ (D1 (Or.inr (hw _ (List.mem_of_getElem? (i := 11) rfl))) (ty := (.array .int)) (by decide)) A1 l1) pd1 rfl rfl rfl (by decide) (W := 1) rfl (by decide) (by decide) (by decide) fun T2 h2 v2 H2 q2 => ?_
  obtain ⟨rfl, b, gb, gb2, O, K1⟩ := q2
  show Go w _ _ 8 #[.val (.int u0), .val (.int u1), .val (.int u2), .unset, .unset, .unset, .unset, .unset, .unset, .unset, .unset, .unset, .unset, .unset, .unset, .unset] [(.ref a)]
  refine go_astoreN K H2 d7_8 rfl (L' := #[.val (.int u0), .val (.int u1), .val (.int u2), .val (.ref a), .unset, .unset, .unset, .unset, .unset, .unset, .unset, .unset, .unset, .unset, .unset, .unset]) rfl ?_
  refine go_iconst (4) K H2 d7_9 (by decide) ?_
  refine go_newarray 4 K H2 d7_10 (hw _ (List.mem_of_getElem? (i := 9) rfl)) (by decide) (by decide) (by decide) (by decide) (by decide) fun T3 h3 lab H3 g3 l3 E3 A3 => ?_
  have B3 : IA Z h3 lab [0, 0, 0, 0] := A3
  have nea : a ≠ lab := Nat.ne_of_lt (g3 ▸ O.1.lt)
  have neb : b ≠ lab := Nat.ne_of_lt (g3 ▸ O.2.2.1.lt)
  replace O : LI Z h3 a b _ := O.keep (E3.keep [lab]) nea neb
  refine go_dup K H3 d7_12 rfl ?_
  refine go_iconst (0) K H3 d7_13 (by decide) ?_
  refine go_iconst (0) K H3 d7_14 (by decide) ?_
  refine go_iastore (0) K H3 d7_15 (B3) (by decide) (by simp) (l3) fun T4 h4 H4 W4 => ?_
  have B4 : IA Z h4 lab [0, 0, 0, 0] := IA.set B3 W4
  replace O : LI Z h4 a b _ := O.keep (Keep.of_wr W4) nea neb
  refine go_dup K H4 d7_16 rfl ?_
  refine go_iconst (1) K H4 d7_17 (by decide) ?_
  refine go_iconst (1) K H4 d7_18 (by decide) ?_
  refine go_iastore (1) K H4 d7_19 (B4) (by decide) (by simp) (l3) fun T5 h5 H5 W5 => ?_
  have B5 : IA Z h5 lab [0, 1, 0, 0] := IA.set B4 W5
  replace O : LI Z h5 a b _ := O.keep (Keep.of_wr W5) nea neb
  refine go_dup K H5 d7_20 rfl ?_
  refine go_iconst (2) K H5 d7_21 (by decide) ?_
  refine go_iconst (2) K H5 d7_22 (by decide) ?_
  refine go_iastore (2) K H5 d7_23 (B5) (by decide) (by simp) (l3) fun T6 h6 H6 W6 => ?_
  have B6 : IA Z h6 lab [0, 1, 2, 0] := IA.set B5 W6
  replace O : LI Z h6 a b _ := O.keep (Keep.of_wr W6) nea neb
  refine go_dup K H6 d7_24 rfl ?_
  refine go_iconst (3) K H6 d7_25 (by decide) ?_
  refine go_iconst (3) K H6 d7_26 (by decide) ?_
  refine go_iastore (3) K H6 d7_27 (B6) (by decide) (by simp) (l3) fun T7 h7 H7 W7 => ?_
  have B7 : IA Z h7 lab [0, 1, 2, 3] := IA.set B6 W7
  replace O : LI Z h7 a b _ := O.keep (Keep.of_wr W7) nea neb
  have B : IA Z h7 lab ((List.range 4).map oN) := by rw [show (List.range 4).map oN = [0, 1, 2, 3] from by decide]; exact B7
  have I := UF.start 4
  refine go_astore K H7 d7_28 rfl (L' := #[.val (.int u0), .val (.int u1), .val (.int u2), .val (.ref a), .val (.ref lab), .unset, .unset, .unset, .unset, .unset, .unset, .unset, .unset, .unset, .unset, .unset]) rfl ?_
  refine go_iloadN K H7 d7_30 rfl ?_
  refine go_iconst (3) K H7 d7_31 (by decide) ?_
  refine go_iand K H7 d7_32 fun v8 ev8 => ?_
  have fv8 := f_mask 4 2 ev8 (by decide) (by decide) (by decide)
  refine go_istore K H7 d7_33 (L' := #[.val (.int u0), .val (.int u1), .val (.int u2), .val (.ref a), .val (.ref lab), .val (.int v8), .unset, .unset, .unset, .unset, .unset, .unset, .unset, .unset, .unset, .unset]) rfl ?_
  refine go_iloadN K H7 d7_35 rfl ?_
  refine go_iconst (2) K H7 d7_36 (by decide) ?_
  refine go_iushr K H7 d7_37 fun v9 ev9 => ?_
  have fv9 := f_iushr 4 2 ev9 (by decide) (by decide) (by decide)
  refine go_iconst (3) K H7 d7_38 (by decide) ?_
  refine go_iand K H7 d7_39 fun v10 ev10 => ?_
  have fv10 := f_mask 4 2 ev10 (by decide) (by decide) (by decide)
  refine go_istore K H7 d7_40 (L' := #[.val (.int u0), .val (.int u1), .val (.int u2), .val (.ref a), .val (.ref lab), .val (.int v8), .val (.int v10), .unset, .unset, .unset, .unset, .unset, .unset, .unset, .unset, .unset]) rfl ?_
  refine go_iloadN K H7 d7_42 rfl ?_
  refine go_iconst (3) K H7 d7_43 (by decide) ?_
  refine go_iand K H7 d7_44 fun v11 ev11 => ?_
  have fv11 := f_mask 4 2 ev11 (by decide) (by decide) (by decide)
  refine go_istore K H7 d7_45 (L' := #[.val (.int u0), .val (.int u1), .val (.int u2), .val (.ref a), .val (.ref lab), .val (.int v8), .val (.int v10), .val (.int v11), .unset, .unset, .unset, .unset, .unset, .unset, .unset, .unset]) rfl ?_
  refine go_iloadN K H7 d7_47 rfl ?_
  refine go_iconst (2) K H7 d7_48 (by decide) ?_
  refine go_iushr K H7 d7_49 fun v12 ev12 => ?_
  have fv12 := f_iushr 4 2 ev12 (by decide) (by decide) (by decide)
  refine go_iconst (3) K H7 d7_50 (by decide) ?_
  refine go_iand K H7 d7_51 fun v13 ev13 => ?_
  have fv13 := f_mask 4 2 ev13 (by decide) (by decide) (by decide)
  refine go_istore K H7 d7_52 (L' := #[.val (.int u0), .val (.int u1), .val (.int u2), .val (.ref a), .val (.ref lab), .val (.int v8), .val (.int v10), .val (.int v11), .val (.int v13), .unset, .unset, .unset, .unset, .unset, .unset, .unset]) rfl ?_
  refine go_iloadN K H7 d7_54 rfl ?_
  refine go_iconst (3) K H7 d7_55 (by decide) ?_
  refine go_iand K H7 d7_56 fun v14 ev14 => ?_
  have fv14 := f_mask 4 2 ev14 (by decide) (by decide) (by decide)
  refine go_istore K H7 d7_57 (L' := #[.val (.int u0), .val (.int u1), .val (.int u2), .val (.ref a), .val (.ref lab), .val (.int v8), .val (.int v10), .val (.int v11), .val (.int v13), .val (.int v14), .unset, .unset, .unset, .unset, .unset, .unset]) rfl ?_
  refine go_iloadN K H7 d7_59 rfl ?_
  refine go_iconst (2) K H7 d7_60 (by decide) ?_
  refine go_iushr K H7 d7_61 fun v15 ev15 => ?_
  have fv15 := f_iushr 4 2 ev15 (by decide) (by decide) (by decide)
  refine go_iconst (3) K H7 d7_62 (by decide) ?_
  refine go_iand K H7 d7_63 fun v16 ev16 => ?_
  have fv16 := f_mask 4 2 ev16 (by decide) (by decide) (by decide)
  refine go_istore K H7 d7_64 (L' := #[.val (.int u0), .val (.int u1), .val (.int u2), .val (.ref a), .val (.ref lab), .val (.int v8), .val (.int v10), .val (.int v11), .val (.int v13), .val (.int v14), .val (.int v16), .unset, .unset, .unset, .unset, .unset]) rfl ?_
  obtain ⟨i5, hi5, ei5⟩ := oN_of (v := v8) (N := 4) (by rw [fv8]; omega) (by rw [fv8]; omega) (by decide)
  obtain ⟨i6, hi6, ei6⟩ := oN_of (v := v10) (N := 4) (by rw [fv10]; omega) (by rw [fv10]; omega) (by decide)
  obtain ⟨i7, hi7, ei7⟩ := oN_of (v := v11) (N := 4) (by rw [fv11]; omega) (by rw [fv11]; omega) (by decide)
  obtain ⟨i8, hi8, ei8⟩ := oN_of (v := v13) (N := 4) (by rw [fv13]; omega) (by rw [fv13]; omega) (by decide)
  obtain ⟨i9, hi9, ei9⟩ := oN_of (v := v14) (N := 4) (by rw [fv14]; omega) (by rw [fv14]; omega) (by decide)
  obtain ⟨i10, hi10, ei10⟩ := oN_of (v := v16) (N := 4) (by rw [fv16]; omega) (by rw [fv16]; omega) (by decide)
  subst ei5
  subst ei6
  subst ei7
  subst ei8
  subst ei9
  subst ei10
  show Go w _ _ 66 #[.val (.int u0), .val (.int u1), .val (.int u2), .val (.ref a), .val (.ref lab), .val (.int (oN i5)), .val (.int (oN i6)), .val (.int (oN i7)), .val (.int (oN i8)), .val (.int (oN i9)), .val (.int (oN i10)), .unset, .unset, .unset, .unset, .unset] []
  refine go_aloadN K H7 d7_66 rfl rfl ?_
  refine go_iload K H7 d7_67 rfl ?_
  refine go_iload K H7 d7_69 rfl ?_
  obtain ⟨ra, k1, ha, hra, R1⟩ := I.at hi5; obtain ⟨rb, k2, hb, hrb, R2⟩ := I.at hi6
  refine go_callV [(.int (oN i5)), (.int (oN i6))] K H7 d7_71 (O.1) (hw _ (List.mem_of_getElem? (i := 12) rfl)) (hw _ (List.mem_of_getElem? (i := 13) rfl)) (nf_sel (hw _ (List.mem_of_getElem? (i := 15) rfl))) (hw _ (List.mem_of_getElem? (i := 15) rfl)) (hw _ (List.mem_of_getElem? (i := 14) rfl)) (hw _ (List.mem_of_getElem? (i := 2) rfl)) (hw _ (List.mem_of_getElem? (i := 16) rfl)) (st' := []) (by decide) (rmL Z a0 hw _ _ n0 (at_size K H7) _ _ _ _ _ _ _ _ O R1 R2 gb) pd2 rfl rfl rfl (by decide) (W := 0) rfl (by decide) (by decide) (by decide) fun T17 h17 v17 H17 q17 => ?_
  obtain ⟨rfl, O1, K1⟩ := q17
  show Go w _ _ 74 #[.val (.int u0), .val (.int u1), .val (.int u2), .val (.ref a), .val (.ref lab), .val (.int (oN i5)), .val (.int (oN i6)), .val (.int (oN i7)), .val (.int (oN i8)), .val (.int (oN i9)), .val (.int (oN i10)), .unset, .unset, .unset, .unset, .unset] []
  have B1 := B.keep K1 (ninS neb.symm nin0)
  refine go_aload K H17 d7_74 rfl rfl ?_
  refine go_iload K H17 d7_76 rfl ?_
  refine go_iload K H17 d7_78 rfl ?_
  refine go_callS [(.ref lab), (.int (oN i5)), (.int (oN i6))] K H17 d7_80 (hw _ (List.mem_of_getElem? (i := 22) rfl)) (hw _ (List.mem_of_getElem? (i := 23) rfl)) (hw _ (List.mem_of_getElem? (i := 24) rfl)) (hw _ (List.mem_of_getElem? (i := 25) rfl)) (st' := []) (by decide) (rm4 Z a0 hw _ _ n0 (at_size K H17) _ _ _ (oN ra) (oN rb) (by simpa using I.2.1) (by rw [List.getElem?_map, ha]; rfl) (by rw [List.getElem?_map, hb]; rfl) B1 l3) pd3 rfl rfl rfl (by decide) (W := 0) rfl (by decide) (by decide) (by decide) fun T18 h18 v18 H18 q18 => ?_
  obtain ⟨rfl, B2, K2⟩ := q18
  show Go w _ _ 83 #[.val (.int u0), .val (.int u1), .val (.int u2), .val (.ref a), .val (.ref lab), .val (.int (oN i5)), .val (.int (oN i6)), .val (.int (oN i7)), .val (.int (oN i8)), .val (.int (oN i9)), .val (.int (oN i10)), .unset, .unset, .unset, .unset, .unset] []
  rw [← map_rlb I.lt hra (by decide)] at B2
  replace O := O1.keep K2 nea neb
  replace I := I.step ha hb
  replace B := B2
  clear B1 B2 O1 K1 K2
  refine go_aloadN K H18 d7_83 rfl rfl ?_
  refine go_iload K H18 d7_84 rfl ?_
  refine go_iload K H18 d7_86 rfl ?_
  obtain ⟨ra, k1, ha, hra, R1⟩ := I.at hi7; obtain ⟨rb, k2, hb, hrb, R2⟩ := I.at hi8
  refine go_callV [(.int (oN i7)), (.int (oN i8))] K H18 d7_88 (O.1) (hw _ (List.mem_of_getElem? (i := 12) rfl)) (hw _ (List.mem_of_getElem? (i := 13) rfl)) (nf_sel (hw _ (List.mem_of_getElem? (i := 15) rfl))) (hw _ (List.mem_of_getElem? (i := 15) rfl)) (hw _ (List.mem_of_getElem? (i := 14) rfl)) (hw _ (List.mem_of_getElem? (i := 2) rfl)) (hw _ (List.mem_of_getElem? (i := 16) rfl)) (st' := []) (by decide) (rmL Z a0 hw _ _ n0 (at_size K H18) _ _ _ _ _ _ _ _ O R1 R2 gb) pd2 rfl rfl rfl (by decide) (W := 0) rfl (by decide) (by decide) (by decide) fun T19 h19 v19 H19 q19 => ?_
  obtain ⟨rfl, O1, K1⟩ := q19
  show Go w _ _ 91 #[.val (.int u0), .val (.int u1), .val (.int u2), .val (.ref a), .val (.ref lab), .val (.int (oN i5)), .val (.int (oN i6)), .val (.int (oN i7)), .val (.int (oN i8)), .val (.int (oN i9)), .val (.int (oN i10)), .unset, .unset, .unset, .unset, .unset] []
  have B1 := B.keep K1 (ninS neb.symm nin0)
  refine go_aload K H19 d7_91 rfl rfl ?_
  refine go_iload K H19 d7_93 rfl ?_
  refine go_iload K H19 d7_95 rfl ?_
  refine go_callS [(.ref lab), (.int (oN i7)), (.int (oN i8))] K H19 d7_97 (hw _ (List.mem_of_getElem? (i := 22) rfl)) (hw _ (List.mem_of_getElem? (i := 23) rfl)) (hw _ (List.mem_of_getElem? (i := 24) rfl)) (hw _ (List.mem_of_getElem? (i := 25) rfl)) (st' := []) (by decide) (rm4 Z a0 hw _ _ n0 (at_size K H19) _ _ _ (oN ra) (oN rb) (by simpa using I.2.1) (by rw [List.getElem?_map, ha]; rfl) (by rw [List.getElem?_map, hb]; rfl) B1 l3) pd3 rfl rfl rfl (by decide) (W := 0) rfl (by decide) (by decide) (by decide) fun T20 h20 v20 H20 q20 => ?_
  obtain ⟨rfl, B2, K2⟩ := q20
  show Go w _ _ 100 #[.val (.int u0), .val (.int u1), .val (.int u2), .val (.ref a), .val (.ref lab), .val (.int (oN i5)), .val (.int (oN i6)), .val (.int (oN i7)), .val (.int (oN i8)), .val (.int (oN i9)), .val (.int (oN i10)), .unset, .unset, .unset, .unset, .unset] []
  rw [← map_rlb I.lt hra (by decide)] at B2
  replace O := O1.keep K2 nea neb
  replace I := I.step ha hb
  replace B := B2
  clear B1 B2 O1 K1 K2
  refine go_aloadN K H20 d7_100 rfl rfl ?_
  refine go_iload K H20 d7_101 rfl ?_
  refine go_iload K H20 d7_103 rfl ?_
  obtain ⟨ra, k1, ha, hra, R1⟩ := I.at hi9; obtain ⟨rb, k2, hb, hrb, R2⟩ := I.at hi10
  refine go_callV [(.int (oN i9)), (.int (oN i10))] K H20 d7_105 (O.1) (hw _ (List.mem_of_getElem? (i := 12) rfl)) (hw _ (List.mem_of_getElem? (i := 13) rfl)) (nf_sel (hw _ (List.mem_of_getElem? (i := 15) rfl))) (hw _ (List.mem_of_getElem? (i := 15) rfl)) (hw _ (List.mem_of_getElem? (i := 14) rfl)) (hw _ (List.mem_of_getElem? (i := 2) rfl)) (hw _ (List.mem_of_getElem? (i := 16) rfl)) (st' := []) (by decide) (rmL Z a0 hw _ _ n0 (at_size K H20) _ _ _ _ _ _ _ _ O R1 R2 gb) pd2 rfl rfl rfl (by decide) (W := 0) rfl (by decide) (by decide) (by decide) fun T21 h21 v21 H21 q21 => ?_
  obtain ⟨rfl, O1, K1⟩ := q21
  show Go w _ _ 108 #[.val (.int u0), .val (.int u1), .val (.int u2), .val (.ref a), .val (.ref lab), .val (.int (oN i5)), .val (.int (oN i6)), .val (.int (oN i7)), .val (.int (oN i8)), .val (.int (oN i9)), .val (.int (oN i10)), .unset, .unset, .unset, .unset, .unset] []
  have B1 := B.keep K1 (ninS neb.symm nin0)
  refine go_aload K H21 d7_108 rfl rfl ?_
  refine go_iload K H21 d7_110 rfl ?_
  refine go_iload K H21 d7_112 rfl ?_
  refine go_callS [(.ref lab), (.int (oN i9)), (.int (oN i10))] K H21 d7_114 (hw _ (List.mem_of_getElem? (i := 22) rfl)) (hw _ (List.mem_of_getElem? (i := 23) rfl)) (hw _ (List.mem_of_getElem? (i := 24) rfl)) (hw _ (List.mem_of_getElem? (i := 25) rfl)) (st' := []) (by decide) (rm4 Z a0 hw _ _ n0 (at_size K H21) _ _ _ (oN ra) (oN rb) (by simpa using I.2.1) (by rw [List.getElem?_map, ha]; rfl) (by rw [List.getElem?_map, hb]; rfl) B1 l3) pd3 rfl rfl rfl (by decide) (W := 0) rfl (by decide) (by decide) (by decide) fun T22 h22 v22 H22 q22 => ?_
  obtain ⟨rfl, B2, K2⟩ := q22
  show Go w _ _ 117 #[.val (.int u0), .val (.int u1), .val (.int u2), .val (.ref a), .val (.ref lab), .val (.int (oN i5)), .val (.int (oN i6)), .val (.int (oN i7)), .val (.int (oN i8)), .val (.int (oN i9)), .val (.int (oN i10)), .unset, .unset, .unset, .unset, .unset] []
  rw [← map_rlb I.lt hra (by decide)] at B2
  replace O := O1.keep K2 nea neb
  replace I := I.step ha hb
  replace B := B2
  clear B1 B2 O1 K1 K2
  refine go_aloadN K H22 d7_117 rfl rfl ?_
  refine go_iconst (0) K H22 d7_118 (by decide) ?_
  revert O I B
  generalize List.map (rlb ra rb) _ = cs
  intro O I B
  obtain ⟨c0, k0, hc0, hl0, R0⟩ := I.at (i := 0) (by decide)
  show Go w _ _ 119 #[.val (.int u0), .val (.int u1), .val (.int u2), .val (.ref a), .val (.ref lab), .val (.int (oN i5)), .val (.int (oN i6)), .val (.int (oN i7)), .val (.int (oN i8)), .val (.int (oN i9)), .val (.int (oN i10)), .unset, .unset, .unset, .unset, .unset] [(.int (oN 0)), (.ref a)]
  refine go_callV [(.int (oN 0))] K H22 d7_119 (O.1) (hw _ (List.mem_of_getElem? (i := 26) rfl)) (hw _ (List.mem_of_getElem? (i := 18) rfl)) (nf_sel (hw _ (List.mem_of_getElem? (i := 20) rfl))) (hw _ (List.mem_of_getElem? (i := 20) rfl)) (hw _ (List.mem_of_getElem? (i := 19) rfl)) (hw _ (List.mem_of_getElem? (i := 2) rfl)) (hw _ (List.mem_of_getElem? (i := 21) rfl)) (st' := []) (by decide) (rmR Z a0 hw _ _ n0 (at_size K H22) _ _ _ _ _ O R0) pd0 rfl rfl rfl (by decide) (W := 0) rfl (by decide) (by decide) (by decide) fun T23 h23 v23 H23 q23 => ?_
  obtain ⟨z23, rfl, e0, rfl⟩ := q23
  show Go w _ _ 122 #[.val (.int u0), .val (.int u1), .val (.int u2), .val (.ref a), .val (.ref lab), .val (.int (oN i5)), .val (.int (oN i6)), .val (.int (oN i7)), .val (.int (oN i8)), .val (.int (oN i9)), .val (.int (oN i10)), .unset, .unset, .unset, .unset, .unset] [(.int z23)]
  subst e0
  refine go_istore K H23 d7_122 (L' := #[.val (.int u0), .val (.int u1), .val (.int u2), .val (.ref a), .val (.ref lab), .val (.int (oN i5)), .val (.int (oN i6)), .val (.int (oN i7)), .val (.int (oN i8)), .val (.int (oN i9)), .val (.int (oN i10)), .val (.int (oN c0)), .unset, .unset, .unset, .unset]) rfl ?_
  refine go_aloadN K H23 d7_124 rfl rfl ?_
  refine go_iconst (1) K H23 d7_125 (by decide) ?_
  obtain ⟨c1, k1, hc1, hl1, R1⟩ := I.at (i := 1) (by decide)
  show Go w _ _ 126 #[.val (.int u0), .val (.int u1), .val (.int u2), .val (.ref a), .val (.ref lab), .val (.int (oN i5)), .val (.int (oN i6)), .val (.int (oN i7)), .val (.int (oN i8)), .val (.int (oN i9)), .val (.int (oN i10)), .val (.int (oN c0)), .unset, .unset, .unset, .unset] [(.int (oN 1)), (.ref a)]
  refine go_callV [(.int (oN 1))] K H23 d7_126 (O.1) (hw _ (List.mem_of_getElem? (i := 26) rfl)) (hw _ (List.mem_of_getElem? (i := 18) rfl)) (nf_sel (hw _ (List.mem_of_getElem? (i := 20) rfl))) (hw _ (List.mem_of_getElem? (i := 20) rfl)) (hw _ (List.mem_of_getElem? (i := 19) rfl)) (hw _ (List.mem_of_getElem? (i := 2) rfl)) (hw _ (List.mem_of_getElem? (i := 21) rfl)) (st' := []) (by decide) (rmR Z a0 hw _ _ n0 (at_size K H23) _ _ _ _ _ O R1) pd0 rfl rfl rfl (by decide) (W := 0) rfl (by decide) (by decide) (by decide) fun T24 h24 v24 H24 q24 => ?_
  obtain ⟨z24, rfl, e1, rfl⟩ := q24
  show Go w _ _ 129 #[.val (.int u0), .val (.int u1), .val (.int u2), .val (.ref a), .val (.ref lab), .val (.int (oN i5)), .val (.int (oN i6)), .val (.int (oN i7)), .val (.int (oN i8)), .val (.int (oN i9)), .val (.int (oN i10)), .val (.int (oN c0)), .unset, .unset, .unset, .unset] [(.int z24)]
  subst e1
  refine go_istore K H24 d7_129 (L' := #[.val (.int u0), .val (.int u1), .val (.int u2), .val (.ref a), .val (.ref lab), .val (.int (oN i5)), .val (.int (oN i6)), .val (.int (oN i7)), .val (.int (oN i8)), .val (.int (oN i9)), .val (.int (oN i10)), .val (.int (oN c0)), .val (.int (oN c1)), .unset, .unset, .unset]) rfl ?_
  refine go_aloadN K H24 d7_131 rfl rfl ?_
  refine go_iconst (2) K H24 d7_132 (by decide) ?_
  obtain ⟨c2, k2, hc2, hl2, R2⟩ := I.at (i := 2) (by decide)
  show Go w _ _ 133 #[.val (.int u0), .val (.int u1), .val (.int u2), .val (.ref a), .val (.ref lab), .val (.int (oN i5)), .val (.int (oN i6)), .val (.int (oN i7)), .val (.int (oN i8)), .val (.int (oN i9)), .val (.int (oN i10)), .val (.int (oN c0)), .val (.int (oN c1)), .unset, .unset, .unset] [(.int (oN 2)), (.ref a)]
  refine go_callV [(.int (oN 2))] K H24 d7_133 (O.1) (hw _ (List.mem_of_getElem? (i := 26) rfl)) (hw _ (List.mem_of_getElem? (i := 18) rfl)) (nf_sel (hw _ (List.mem_of_getElem? (i := 20) rfl))) (hw _ (List.mem_of_getElem? (i := 20) rfl)) (hw _ (List.mem_of_getElem? (i := 19) rfl)) (hw _ (List.mem_of_getElem? (i := 2) rfl)) (hw _ (List.mem_of_getElem? (i := 21) rfl)) (st' := []) (by decide) (rmR Z a0 hw _ _ n0 (at_size K H24) _ _ _ _ _ O R2) pd0 rfl rfl rfl (by decide) (W := 0) rfl (by decide) (by decide) (by decide) fun T25 h25 v25 H25 q25 => ?_
  obtain ⟨z25, rfl, e2, rfl⟩ := q25
  show Go w _ _ 136 #[.val (.int u0), .val (.int u1), .val (.int u2), .val (.ref a), .val (.ref lab), .val (.int (oN i5)), .val (.int (oN i6)), .val (.int (oN i7)), .val (.int (oN i8)), .val (.int (oN i9)), .val (.int (oN i10)), .val (.int (oN c0)), .val (.int (oN c1)), .unset, .unset, .unset] [(.int z25)]
  subst e2
  refine go_istore K H25 d7_136 (L' := #[.val (.int u0), .val (.int u1), .val (.int u2), .val (.ref a), .val (.ref lab), .val (.int (oN i5)), .val (.int (oN i6)), .val (.int (oN i7)), .val (.int (oN i8)), .val (.int (oN i9)), .val (.int (oN i10)), .val (.int (oN c0)), .val (.int (oN c1)), .val (.int (oN c2)), .unset, .unset]) rfl ?_
  refine go_aloadN K H25 d7_138 rfl rfl ?_
  refine go_iconst (3) K H25 d7_139 (by decide) ?_
  obtain ⟨c3, k3, hc3, hl3, R3⟩ := I.at (i := 3) (by decide)
  show Go w _ _ 140 #[.val (.int u0), .val (.int u1), .val (.int u2), .val (.ref a), .val (.ref lab), .val (.int (oN i5)), .val (.int (oN i6)), .val (.int (oN i7)), .val (.int (oN i8)), .val (.int (oN i9)), .val (.int (oN i10)), .val (.int (oN c0)), .val (.int (oN c1)), .val (.int (oN c2)), .unset, .unset] [(.int (oN 3)), (.ref a)]
  refine go_callV [(.int (oN 3))] K H25 d7_140 (O.1) (hw _ (List.mem_of_getElem? (i := 26) rfl)) (hw _ (List.mem_of_getElem? (i := 18) rfl)) (nf_sel (hw _ (List.mem_of_getElem? (i := 20) rfl))) (hw _ (List.mem_of_getElem? (i := 20) rfl)) (hw _ (List.mem_of_getElem? (i := 19) rfl)) (hw _ (List.mem_of_getElem? (i := 2) rfl)) (hw _ (List.mem_of_getElem? (i := 21) rfl)) (st' := []) (by decide) (rmR Z a0 hw _ _ n0 (at_size K H25) _ _ _ _ _ O R3) pd0 rfl rfl rfl (by decide) (W := 0) rfl (by decide) (by decide) (by decide) fun T26 h26 v26 H26 q26 => ?_
  obtain ⟨z26, rfl, e3, rfl⟩ := q26
  show Go w _ _ 143 #[.val (.int u0), .val (.int u1), .val (.int u2), .val (.ref a), .val (.ref lab), .val (.int (oN i5)), .val (.int (oN i6)), .val (.int (oN i7)), .val (.int (oN i8)), .val (.int (oN i9)), .val (.int (oN i10)), .val (.int (oN c0)), .val (.int (oN c1)), .val (.int (oN c2)), .unset, .unset] [(.int z26)]
  subst e3
  refine go_istore K H26 d7_143 (L' := #[.val (.int u0), .val (.int u1), .val (.int u2), .val (.ref a), .val (.ref lab), .val (.int (oN i5)), .val (.int (oN i6)), .val (.int (oN i7)), .val (.int (oN i8)), .val (.int (oN i9)), .val (.int (oN i10)), .val (.int (oN c0)), .val (.int (oN c1)), .val (.int (oN c2)), .val (.int (oN c3)), .unset]) rfl ?_
  refine go_iload K H26 d7_145 rfl ?_
  refine go_callS [(.int (oN c0))] K H26 d7_147 (hw _ (List.mem_of_getElem? (i := 27) rfl)) (hw _ (List.mem_of_getElem? (i := 28) rfl)) (hw _ (List.mem_of_getElem? (i := 24) rfl)) (hw _ (List.mem_of_getElem? (i := 29) rfl)) (st' := []) (by decide) (rm1 Z a0 hw _ _ n0 (at_size K H26)) pd4 rfl rfl rfl (by decide) (W := 0) rfl (by decide) (by decide) (by decide) fun T27 h27 v27 H27 q27 => ?_
  obtain ⟨z27, rfl, q0, rfl⟩ := q27
  show Go w _ _ 150 #[.val (.int u0), .val (.int u1), .val (.int u2), .val (.ref a), .val (.ref lab), .val (.int (oN i5)), .val (.int (oN i6)), .val (.int (oN i7)), .val (.int (oN i8)), .val (.int (oN i9)), .val (.int (oN i10)), .val (.int (oN c0)), .val (.int (oN c1)), .val (.int (oN c2)), .val (.int (oN c3)), .unset] [(.int z27)]
  refine go_if_eq K H27 d7_150 (fun cc => False.elim (by rw [q0, bI_t (by rw [oN_toInt (by omega)]; omega)] at cc; exact absurd cc (by decide))) (fun cc => ?_)
  refine go_iload K H27 d7_153 rfl ?_
  refine go_callS [(.int (oN c1))] K H27 d7_155 (hw _ (List.mem_of_getElem? (i := 27) rfl)) (hw _ (List.mem_of_getElem? (i := 28) rfl)) (hw _ (List.mem_of_getElem? (i := 24) rfl)) (hw _ (List.mem_of_getElem? (i := 29) rfl)) (st' := []) (by decide) (rm1 Z a0 hw _ _ n0 (at_size K H27)) pd4 rfl rfl rfl (by decide) (W := 0) rfl (by decide) (by decide) (by decide) fun T28 h28 v28 H28 q28 => ?_
  obtain ⟨z28, rfl, q1, rfl⟩ := q28
  show Go w _ _ 158 #[.val (.int u0), .val (.int u1), .val (.int u2), .val (.ref a), .val (.ref lab), .val (.int (oN i5)), .val (.int (oN i6)), .val (.int (oN i7)), .val (.int (oN i8)), .val (.int (oN i9)), .val (.int (oN i10)), .val (.int (oN c0)), .val (.int (oN c1)), .val (.int (oN c2)), .val (.int (oN c3)), .unset] [(.int z28)]
  refine go_if_eq K H28 d7_158 (fun cc => False.elim (by rw [q1, bI_t (by rw [oN_toInt (by omega)]; omega)] at cc; exact absurd cc (by decide))) (fun cc => ?_)
  refine go_iload K H28 d7_161 rfl ?_
  refine go_callS [(.int (oN c2))] K H28 d7_163 (hw _ (List.mem_of_getElem? (i := 27) rfl)) (hw _ (List.mem_of_getElem? (i := 28) rfl)) (hw _ (List.mem_of_getElem? (i := 24) rfl)) (hw _ (List.mem_of_getElem? (i := 29) rfl)) (st' := []) (by decide) (rm1 Z a0 hw _ _ n0 (at_size K H28)) pd4 rfl rfl rfl (by decide) (W := 0) rfl (by decide) (by decide) (by decide) fun T29 h29 v29 H29 q29 => ?_
  obtain ⟨z29, rfl, q2, rfl⟩ := q29
  show Go w _ _ 166 #[.val (.int u0), .val (.int u1), .val (.int u2), .val (.ref a), .val (.ref lab), .val (.int (oN i5)), .val (.int (oN i6)), .val (.int (oN i7)), .val (.int (oN i8)), .val (.int (oN i9)), .val (.int (oN i10)), .val (.int (oN c0)), .val (.int (oN c1)), .val (.int (oN c2)), .val (.int (oN c3)), .unset] [(.int z29)]
  refine go_if_eq K H29 d7_166 (fun cc => False.elim (by rw [q2, bI_t (by rw [oN_toInt (by omega)]; omega)] at cc; exact absurd cc (by decide))) (fun cc => ?_)
  refine go_iload K H29 d7_169 rfl ?_
  refine go_callS [(.int (oN c3))] K H29 d7_171 (hw _ (List.mem_of_getElem? (i := 27) rfl)) (hw _ (List.mem_of_getElem? (i := 28) rfl)) (hw _ (List.mem_of_getElem? (i := 24) rfl)) (hw _ (List.mem_of_getElem? (i := 29) rfl)) (st' := []) (by decide) (rm1 Z a0 hw _ _ n0 (at_size K H29)) pd4 rfl rfl rfl (by decide) (W := 0) rfl (by decide) (by decide) (by decide) fun T30 h30 v30 H30 q30 => ?_
  obtain ⟨z30, rfl, q3, rfl⟩ := q30
  show Go w _ _ 174 #[.val (.int u0), .val (.int u1), .val (.int u2), .val (.ref a), .val (.ref lab), .val (.int (oN i5)), .val (.int (oN i6)), .val (.int (oN i7)), .val (.int (oN i8)), .val (.int (oN i9)), .val (.int (oN i10)), .val (.int (oN c0)), .val (.int (oN c1)), .val (.int (oN c2)), .val (.int (oN c3)), .unset] [(.int z30)]
  refine go_if_ne K H30 d7_174 (fun cc => ?_) (fun cc => False.elim (by rw [q3, bI_t (by rw [oN_toInt (by omega)]; omega)] at cc; exact absurd cc (by decide)))
  refine go_iconst (4) K H30 d7_179 (by decide) ?_
  obtain rfl : cs = [c0, c1, c2, c3] := by
    have hl := I.2.1
    match cs, hl with
    | [y0, y1, y2, y3], _ => simp at hc0 hc1 hc2 hc3; subst hc0 hc1 hc2 hc3; rfl
  refine go_newarray 4 K H30 d7_180 (hw _ (List.mem_of_getElem? (i := 9) rfl)) (by decide) (by decide) (by decide) (by decide) (by decide) fun T31 h31 a31 H31 g31 l31 E31 A31 => ?_
  have B31 : IA Z h31 a31 [0, 0, 0, 0] := A31
  have ner : lab ≠ a31 := Nat.ne_of_lt (g31 ▸ B.lt)
  replace B : IA Z h31 lab _ := B.ext E31
  refine go_dup K H31 d7_182 rfl ?_
  refine go_iconst (0) K H31 d7_183 (by decide) ?_
  refine go_iload K H31 d7_184 rfl ?_
  refine go_iastore (0) K H31 d7_186 (B31) (by decide) (by simp) (l31) fun T32 h32 H32 W32 => ?_
  have B32 : IA Z h32 a31 [(oN c0), 0, 0, 0] := IA.set B31 W32
  replace B : IA Z h32 lab _ := B.other W32 ner
  refine go_dup K H32 d7_187 rfl ?_
  refine go_iconst (1) K H32 d7_188 (by decide) ?_
  refine go_iload K H32 d7_189 rfl ?_
  refine go_iastore (1) K H32 d7_191 (B32) (by decide) (by simp) (l31) fun T33 h33 H33 W33 => ?_
  have B33 : IA Z h33 a31 [(oN c0), (oN c1), 0, 0] := IA.set B32 W33
  replace B : IA Z h33 lab _ := B.other W33 ner
  refine go_dup K H33 d7_192 rfl ?_
  refine go_iconst (2) K H33 d7_193 (by decide) ?_
  refine go_iload K H33 d7_194 rfl ?_
  refine go_iastore (2) K H33 d7_196 (B33) (by decide) (by simp) (l31) fun T34 h34 H34 W34 => ?_
  have B34 : IA Z h34 a31 [(oN c0), (oN c1), (oN c2), 0] := IA.set B33 W34
  replace B : IA Z h34 lab _ := B.other W34 ner
  refine go_dup K H34 d7_197 rfl ?_
  refine go_iconst (3) K H34 d7_198 (by decide) ?_
  refine go_iload K H34 d7_199 rfl ?_
  refine go_iastore (3) K H34 d7_201 (B34) (by decide) (by simp) (l31) fun T35 h35 H35 W35 => ?_
  have B35 : IA Z h35 a31 [(oN c0), (oN c1), (oN c2), (oN c3)] := IA.set B34 W35
  replace B : IA Z h35 lab _ := B.other W35 ner
  have A : IA Z h35 a31 ([c0, c1, c2, c3].map oN) := B35
  refine go_astore K H35 d7_202 rfl (L' := #[.val (.int u0), .val (.int u1), .val (.int u2), .val (.ref a), .val (.ref lab), .val (.int (oN i5)), .val (.int (oN i6)), .val (.int (oN i7)), .val (.int (oN i8)), .val (.int (oN i9)), .val (.int (oN i10)), .val (.int (oN c0)), .val (.int (oN c1)), .val (.int (oN c2)), .val (.int (oN c3)), .val (.ref a31)]) rfl ?_
  refine go_aload K H35 d7_204 rfl rfl ?_
  refine go_aload K H35 d7_206 rfl rfl ?_
  refine go_iconst (0) K H35 d7_208 (by decide) ?_
  refine go_iconst (1) K H35 d7_209 (by decide) ?_
  show Go w _ _ 210 #[.val (.int u0), .val (.int u1), .val (.int u2), .val (.ref a), .val (.ref lab), .val (.int (oN i5)), .val (.int (oN i6)), .val (.int (oN i7)), .val (.int (oN i8)), .val (.int (oN i9)), .val (.int (oN i10)), .val (.int (oN c0)), .val (.int (oN c1)), .val (.int (oN c2)), .val (.int (oN c3)), .val (.ref a31)] [(.int (oN 1)), (.int (oN 0)), (.ref lab), (.ref a31)]
  refine go_callS [(.ref a31), (.ref lab), (.int (oN 0)), (.int (oN 1))] K H35 d7_210 (hw _ (List.mem_of_getElem? (i := 30) rfl)) (hw _ (List.mem_of_getElem? (i := 31) rfl)) (hw _ (List.mem_of_getElem? (i := 24) rfl)) (hw _ (List.mem_of_getElem? (i := 32) rfl)) (st' := []) (by decide) (rm2 Z a0 hw _ _ _ n0 (at_size K H35) _ _ _ _ _ A B hc0 hc1) pd5 rfl rfl rfl (by decide) (W := 0) rfl (by decide) (by decide) (by decide) fun T36 h36 v36 H36 q36 => ?_
  obtain ⟨z36, rfl, e, rfl⟩ := q36
  show Go w _ _ 213 #[.val (.int u0), .val (.int u1), .val (.int u2), .val (.ref a), .val (.ref lab), .val (.int (oN i5)), .val (.int (oN i6)), .val (.int (oN i7)), .val (.int (oN i8)), .val (.int (oN i9)), .val (.int (oN i10)), .val (.int (oN c0)), .val (.int (oN c1)), .val (.int (oN c2)), .val (.int (oN c3)), .val (.ref a31)] [(.int z36)]
  refine go_if_eq K H36 d7_213 (fun cc => False.elim (by rw [e] at cc; exact absurd cc (by decide))) (fun cc => ?_)
  refine go_aload K H36 d7_216 rfl rfl ?_
  refine go_aload K H36 d7_218 rfl rfl ?_
  refine go_iconst (0) K H36 d7_220 (by decide) ?_
  refine go_iconst (2) K H36 d7_221 (by decide) ?_
  show Go w _ _ 222 #[.val (.int u0), .val (.int u1), .val (.int u2), .val (.ref a), .val (.ref lab), .val (.int (oN i5)), .val (.int (oN i6)), .val (.int (oN i7)), .val (.int (oN i8)), .val (.int (oN i9)), .val (.int (oN i10)), .val (.int (oN c0)), .val (.int (oN c1)), .val (.int (oN c2)), .val (.int (oN c3)), .val (.ref a31)] [(.int (oN 2)), (.int (oN 0)), (.ref lab), (.ref a31)]
  refine go_callS [(.ref a31), (.ref lab), (.int (oN 0)), (.int (oN 2))] K H36 d7_222 (hw _ (List.mem_of_getElem? (i := 30) rfl)) (hw _ (List.mem_of_getElem? (i := 31) rfl)) (hw _ (List.mem_of_getElem? (i := 24) rfl)) (hw _ (List.mem_of_getElem? (i := 32) rfl)) (st' := []) (by decide) (rm2 Z a0 hw _ _ _ n0 (at_size K H36) _ _ _ _ _ A B hc0 hc2) pd5 rfl rfl rfl (by decide) (W := 0) rfl (by decide) (by decide) (by decide) fun T37 h37 v37 H37 q37 => ?_
  obtain ⟨z37, rfl, e, rfl⟩ := q37
  show Go w _ _ 225 #[.val (.int u0), .val (.int u1), .val (.int u2), .val (.ref a), .val (.ref lab), .val (.int (oN i5)), .val (.int (oN i6)), .val (.int (oN i7)), .val (.int (oN i8)), .val (.int (oN i9)), .val (.int (oN i10)), .val (.int (oN c0)), .val (.int (oN c1)), .val (.int (oN c2)), .val (.int (oN c3)), .val (.ref a31)] [(.int z37)]
  refine go_if_eq K H37 d7_225 (fun cc => False.elim (by rw [e] at cc; exact absurd cc (by decide))) (fun cc => ?_)
  refine go_aload K H37 d7_228 rfl rfl ?_
  refine go_aload K H37 d7_230 rfl rfl ?_
  refine go_iconst (0) K H37 d7_232 (by decide) ?_
  refine go_iconst (3) K H37 d7_233 (by decide) ?_
  show Go w _ _ 234 #[.val (.int u0), .val (.int u1), .val (.int u2), .val (.ref a), .val (.ref lab), .val (.int (oN i5)), .val (.int (oN i6)), .val (.int (oN i7)), .val (.int (oN i8)), .val (.int (oN i9)), .val (.int (oN i10)), .val (.int (oN c0)), .val (.int (oN c1)), .val (.int (oN c2)), .val (.int (oN c3)), .val (.ref a31)] [(.int (oN 3)), (.int (oN 0)), (.ref lab), (.ref a31)]
  refine go_callS [(.ref a31), (.ref lab), (.int (oN 0)), (.int (oN 3))] K H37 d7_234 (hw _ (List.mem_of_getElem? (i := 30) rfl)) (hw _ (List.mem_of_getElem? (i := 31) rfl)) (hw _ (List.mem_of_getElem? (i := 24) rfl)) (hw _ (List.mem_of_getElem? (i := 32) rfl)) (st' := []) (by decide) (rm2 Z a0 hw _ _ _ n0 (at_size K H37) _ _ _ _ _ A B hc0 hc3) pd5 rfl rfl rfl (by decide) (W := 0) rfl (by decide) (by decide) (by decide) fun T38 h38 v38 H38 q38 => ?_
  obtain ⟨z38, rfl, e, rfl⟩ := q38
  show Go w _ _ 237 #[.val (.int u0), .val (.int u1), .val (.int u2), .val (.ref a), .val (.ref lab), .val (.int (oN i5)), .val (.int (oN i6)), .val (.int (oN i7)), .val (.int (oN i8)), .val (.int (oN i9)), .val (.int (oN i10)), .val (.int (oN c0)), .val (.int (oN c1)), .val (.int (oN c2)), .val (.int (oN c3)), .val (.ref a31)] [(.int z38)]
  refine go_if_eq K H38 d7_237 (fun cc => False.elim (by rw [e] at cc; exact absurd cc (by decide))) (fun cc => ?_)
  refine go_aload K H38 d7_240 rfl rfl ?_
  refine go_aload K H38 d7_242 rfl rfl ?_
  refine go_iconst (1) K H38 d7_244 (by decide) ?_
  refine go_iconst (2) K H38 d7_245 (by decide) ?_
  show Go w _ _ 246 #[.val (.int u0), .val (.int u1), .val (.int u2), .val (.ref a), .val (.ref lab), .val (.int (oN i5)), .val (.int (oN i6)), .val (.int (oN i7)), .val (.int (oN i8)), .val (.int (oN i9)), .val (.int (oN i10)), .val (.int (oN c0)), .val (.int (oN c1)), .val (.int (oN c2)), .val (.int (oN c3)), .val (.ref a31)] [(.int (oN 2)), (.int (oN 1)), (.ref lab), (.ref a31)]
  refine go_callS [(.ref a31), (.ref lab), (.int (oN 1)), (.int (oN 2))] K H38 d7_246 (hw _ (List.mem_of_getElem? (i := 30) rfl)) (hw _ (List.mem_of_getElem? (i := 31) rfl)) (hw _ (List.mem_of_getElem? (i := 24) rfl)) (hw _ (List.mem_of_getElem? (i := 32) rfl)) (st' := []) (by decide) (rm2 Z a0 hw _ _ _ n0 (at_size K H38) _ _ _ _ _ A B hc1 hc2) pd5 rfl rfl rfl (by decide) (W := 0) rfl (by decide) (by decide) (by decide) fun T39 h39 v39 H39 q39 => ?_
  obtain ⟨z39, rfl, e, rfl⟩ := q39
  show Go w _ _ 249 #[.val (.int u0), .val (.int u1), .val (.int u2), .val (.ref a), .val (.ref lab), .val (.int (oN i5)), .val (.int (oN i6)), .val (.int (oN i7)), .val (.int (oN i8)), .val (.int (oN i9)), .val (.int (oN i10)), .val (.int (oN c0)), .val (.int (oN c1)), .val (.int (oN c2)), .val (.int (oN c3)), .val (.ref a31)] [(.int z39)]
  refine go_if_eq K H39 d7_249 (fun cc => False.elim (by rw [e] at cc; exact absurd cc (by decide))) (fun cc => ?_)
  refine go_aload K H39 d7_252 rfl rfl ?_
  refine go_aload K H39 d7_254 rfl rfl ?_
  refine go_iconst (1) K H39 d7_256 (by decide) ?_
  refine go_iconst (3) K H39 d7_257 (by decide) ?_
  show Go w _ _ 258 #[.val (.int u0), .val (.int u1), .val (.int u2), .val (.ref a), .val (.ref lab), .val (.int (oN i5)), .val (.int (oN i6)), .val (.int (oN i7)), .val (.int (oN i8)), .val (.int (oN i9)), .val (.int (oN i10)), .val (.int (oN c0)), .val (.int (oN c1)), .val (.int (oN c2)), .val (.int (oN c3)), .val (.ref a31)] [(.int (oN 3)), (.int (oN 1)), (.ref lab), (.ref a31)]
  refine go_callS [(.ref a31), (.ref lab), (.int (oN 1)), (.int (oN 3))] K H39 d7_258 (hw _ (List.mem_of_getElem? (i := 30) rfl)) (hw _ (List.mem_of_getElem? (i := 31) rfl)) (hw _ (List.mem_of_getElem? (i := 24) rfl)) (hw _ (List.mem_of_getElem? (i := 32) rfl)) (st' := []) (by decide) (rm2 Z a0 hw _ _ _ n0 (at_size K H39) _ _ _ _ _ A B hc1 hc3) pd5 rfl rfl rfl (by decide) (W := 0) rfl (by decide) (by decide) (by decide) fun T40 h40 v40 H40 q40 => ?_
  obtain ⟨z40, rfl, e, rfl⟩ := q40
  show Go w _ _ 261 #[.val (.int u0), .val (.int u1), .val (.int u2), .val (.ref a), .val (.ref lab), .val (.int (oN i5)), .val (.int (oN i6)), .val (.int (oN i7)), .val (.int (oN i8)), .val (.int (oN i9)), .val (.int (oN i10)), .val (.int (oN c0)), .val (.int (oN c1)), .val (.int (oN c2)), .val (.int (oN c3)), .val (.ref a31)] [(.int z40)]
  refine go_if_eq K H40 d7_261 (fun cc => False.elim (by rw [e] at cc; exact absurd cc (by decide))) (fun cc => ?_)
  refine go_aload K H40 d7_264 rfl rfl ?_
  refine go_aload K H40 d7_266 rfl rfl ?_
  refine go_iconst (2) K H40 d7_268 (by decide) ?_
  refine go_iconst (3) K H40 d7_269 (by decide) ?_
  show Go w _ _ 270 #[.val (.int u0), .val (.int u1), .val (.int u2), .val (.ref a), .val (.ref lab), .val (.int (oN i5)), .val (.int (oN i6)), .val (.int (oN i7)), .val (.int (oN i8)), .val (.int (oN i9)), .val (.int (oN i10)), .val (.int (oN c0)), .val (.int (oN c1)), .val (.int (oN c2)), .val (.int (oN c3)), .val (.ref a31)] [(.int (oN 3)), (.int (oN 2)), (.ref lab), (.ref a31)]
  refine go_callS [(.ref a31), (.ref lab), (.int (oN 2)), (.int (oN 3))] K H40 d7_270 (hw _ (List.mem_of_getElem? (i := 30) rfl)) (hw _ (List.mem_of_getElem? (i := 31) rfl)) (hw _ (List.mem_of_getElem? (i := 24) rfl)) (hw _ (List.mem_of_getElem? (i := 32) rfl)) (st' := []) (by decide) (rm2 Z a0 hw _ _ _ n0 (at_size K H40) _ _ _ _ _ A B hc2 hc3) pd5 rfl rfl rfl (by decide) (W := 0) rfl (by decide) (by decide) (by decide) fun T41 h41 v41 H41 q41 => ?_
  obtain ⟨z41, rfl, e, rfl⟩ := q41
  show Go w _ _ 273 #[.val (.int u0), .val (.int u1), .val (.int u2), .val (.ref a), .val (.ref lab), .val (.int (oN i5)), .val (.int (oN i6)), .val (.int (oN i7)), .val (.int (oN i8)), .val (.int (oN i9)), .val (.int (oN i10)), .val (.int (oN c0)), .val (.int (oN c1)), .val (.int (oN c2)), .val (.int (oN c3)), .val (.ref a31)] [(.int z41)]
  refine go_if_eq K H41 d7_273 (fun cc => False.elim (by rw [e] at cc; exact absurd cc (by decide))) (fun cc => ?_)
  refine go_aload K H41 d7_276 rfl rfl ?_
  refine go_aload K H41 d7_278 rfl rfl ?_
  refine go_iconst (0) K H41 d7_280 (by decide) ?_
  show Go w _ _ 281 #[.val (.int u0), .val (.int u1), .val (.int u2), .val (.ref a), .val (.ref lab), .val (.int (oN i5)), .val (.int (oN i6)), .val (.int (oN i7)), .val (.int (oN i8)), .val (.int (oN i9)), .val (.int (oN i10)), .val (.int (oN c0)), .val (.int (oN c1)), .val (.int (oN c2)), .val (.int (oN c3)), .val (.ref a31)] [(.int (oN 0)), (.ref lab), (.ref a31)]
  refine go_callS [(.ref a31), (.ref lab), (.int (oN 0))] K H41 d7_281 (hw _ (List.mem_of_getElem? (i := 33) rfl)) (hw _ (List.mem_of_getElem? (i := 34) rfl)) (hw _ (List.mem_of_getElem? (i := 24) rfl)) (hw _ (List.mem_of_getElem? (i := 35) rfl)) (st' := []) (by decide) (rm3 Z a0 hw _ _ _ n0 (at_size K H41) _ _ _ A B hc0 (I.idem hc0)) pd6 rfl rfl rfl (by decide) (W := 0) rfl (by decide) (by decide) (by decide) fun T42 h42 v42 H42 q42 => ?_
  obtain ⟨z42, rfl, e, rfl⟩ := q42
  show Go w _ _ 284 #[.val (.int u0), .val (.int u1), .val (.int u2), .val (.ref a), .val (.ref lab), .val (.int (oN i5)), .val (.int (oN i6)), .val (.int (oN i7)), .val (.int (oN i8)), .val (.int (oN i9)), .val (.int (oN i10)), .val (.int (oN c0)), .val (.int (oN c1)), .val (.int (oN c2)), .val (.int (oN c3)), .val (.ref a31)] [(.int z42)]
  refine go_if_eq K H42 d7_284 (fun cc => False.elim (by rw [e] at cc; exact absurd cc (by decide))) (fun cc => ?_)
  refine go_aload K H42 d7_287 rfl rfl ?_
  refine go_aload K H42 d7_289 rfl rfl ?_
  refine go_iconst (1) K H42 d7_291 (by decide) ?_
  show Go w _ _ 292 #[.val (.int u0), .val (.int u1), .val (.int u2), .val (.ref a), .val (.ref lab), .val (.int (oN i5)), .val (.int (oN i6)), .val (.int (oN i7)), .val (.int (oN i8)), .val (.int (oN i9)), .val (.int (oN i10)), .val (.int (oN c0)), .val (.int (oN c1)), .val (.int (oN c2)), .val (.int (oN c3)), .val (.ref a31)] [(.int (oN 1)), (.ref lab), (.ref a31)]
  refine go_callS [(.ref a31), (.ref lab), (.int (oN 1))] K H42 d7_292 (hw _ (List.mem_of_getElem? (i := 33) rfl)) (hw _ (List.mem_of_getElem? (i := 34) rfl)) (hw _ (List.mem_of_getElem? (i := 24) rfl)) (hw _ (List.mem_of_getElem? (i := 35) rfl)) (st' := []) (by decide) (rm3 Z a0 hw _ _ _ n0 (at_size K H42) _ _ _ A B hc1 (I.idem hc1)) pd6 rfl rfl rfl (by decide) (W := 0) rfl (by decide) (by decide) (by decide) fun T43 h43 v43 H43 q43 => ?_
  obtain ⟨z43, rfl, e, rfl⟩ := q43
  show Go w _ _ 295 #[.val (.int u0), .val (.int u1), .val (.int u2), .val (.ref a), .val (.ref lab), .val (.int (oN i5)), .val (.int (oN i6)), .val (.int (oN i7)), .val (.int (oN i8)), .val (.int (oN i9)), .val (.int (oN i10)), .val (.int (oN c0)), .val (.int (oN c1)), .val (.int (oN c2)), .val (.int (oN c3)), .val (.ref a31)] [(.int z43)]
  refine go_if_eq K H43 d7_295 (fun cc => False.elim (by rw [e] at cc; exact absurd cc (by decide))) (fun cc => ?_)
  refine go_aload K H43 d7_298 rfl rfl ?_
  refine go_aload K H43 d7_300 rfl rfl ?_
  refine go_iconst (2) K H43 d7_302 (by decide) ?_
  show Go w _ _ 303 #[.val (.int u0), .val (.int u1), .val (.int u2), .val (.ref a), .val (.ref lab), .val (.int (oN i5)), .val (.int (oN i6)), .val (.int (oN i7)), .val (.int (oN i8)), .val (.int (oN i9)), .val (.int (oN i10)), .val (.int (oN c0)), .val (.int (oN c1)), .val (.int (oN c2)), .val (.int (oN c3)), .val (.ref a31)] [(.int (oN 2)), (.ref lab), (.ref a31)]
  refine go_callS [(.ref a31), (.ref lab), (.int (oN 2))] K H43 d7_303 (hw _ (List.mem_of_getElem? (i := 33) rfl)) (hw _ (List.mem_of_getElem? (i := 34) rfl)) (hw _ (List.mem_of_getElem? (i := 24) rfl)) (hw _ (List.mem_of_getElem? (i := 35) rfl)) (st' := []) (by decide) (rm3 Z a0 hw _ _ _ n0 (at_size K H43) _ _ _ A B hc2 (I.idem hc2)) pd6 rfl rfl rfl (by decide) (W := 0) rfl (by decide) (by decide) (by decide) fun T44 h44 v44 H44 q44 => ?_
  obtain ⟨z44, rfl, e, rfl⟩ := q44
  show Go w _ _ 306 #[.val (.int u0), .val (.int u1), .val (.int u2), .val (.ref a), .val (.ref lab), .val (.int (oN i5)), .val (.int (oN i6)), .val (.int (oN i7)), .val (.int (oN i8)), .val (.int (oN i9)), .val (.int (oN i10)), .val (.int (oN c0)), .val (.int (oN c1)), .val (.int (oN c2)), .val (.int (oN c3)), .val (.ref a31)] [(.int z44)]
  refine go_if_eq K H44 d7_306 (fun cc => False.elim (by rw [e] at cc; exact absurd cc (by decide))) (fun cc => ?_)
  refine go_aload K H44 d7_309 rfl rfl ?_
  refine go_aload K H44 d7_311 rfl rfl ?_
  refine go_iconst (3) K H44 d7_313 (by decide) ?_
  show Go w _ _ 314 #[.val (.int u0), .val (.int u1), .val (.int u2), .val (.ref a), .val (.ref lab), .val (.int (oN i5)), .val (.int (oN i6)), .val (.int (oN i7)), .val (.int (oN i8)), .val (.int (oN i9)), .val (.int (oN i10)), .val (.int (oN c0)), .val (.int (oN c1)), .val (.int (oN c2)), .val (.int (oN c3)), .val (.ref a31)] [(.int (oN 3)), (.ref lab), (.ref a31)]
  refine go_callS [(.ref a31), (.ref lab), (.int (oN 3))] K H44 d7_314 (hw _ (List.mem_of_getElem? (i := 33) rfl)) (hw _ (List.mem_of_getElem? (i := 34) rfl)) (hw _ (List.mem_of_getElem? (i := 24) rfl)) (hw _ (List.mem_of_getElem? (i := 35) rfl)) (st' := []) (by decide) (rm3 Z a0 hw _ _ _ n0 (at_size K H44) _ _ _ A B hc3 (I.idem hc3)) pd6 rfl rfl rfl (by decide) (W := 0) rfl (by decide) (by decide) (by decide) fun T45 h45 v45 H45 q45 => ?_
  obtain ⟨z45, rfl, e, rfl⟩ := q45
  show Go w _ _ 317 #[.val (.int u0), .val (.int u1), .val (.int u2), .val (.ref a), .val (.ref lab), .val (.int (oN i5)), .val (.int (oN i6)), .val (.int (oN i7)), .val (.int (oN i8)), .val (.int (oN i9)), .val (.int (oN i10)), .val (.int (oN c0)), .val (.int (oN c1)), .val (.int (oN c2)), .val (.int (oN c3)), .val (.ref a31)] [(.int z45)]
  refine go_if_eq K H45 d7_317 (fun cc => False.elim (by rw [e] at cc; exact absurd cc (by decide))) (fun cc => ?_)
  refine go_iconst (1) K H45 d7_320 (by decide) ?_
  refine go_goto K H45 d7_321 ?_
  exact go_zret K H45 d7_325 rfl (by decide) (by decide) (by decide) (rfl)
set_option maxRecDepth 65536 in
set_option maxHeartbeats 40000000 in
theorem own_law (l : Launch) (s : State) (args : Array Value) (hF : heapFits s = true) (hrest : True) (hg : (Jvm.Cond.and given_1 narrow_1).value args s none s [] = some true) (hw : ∀ d ∈ tables_1, d.before args s = true) : Con l s x code maxLocals ret room_1 args s.heap s.heap.size (RI fun z _ => z = 1) := by
  obtain ⟨hg, hn⟩ := and_e hg
  obtain ⟨g0, hg⟩ := and_e hg
  obtain ⟨w0, w1, w2, rfl⟩ : ∃ w0 w1 w2 : Value, args = #[w0, w1, w2] := by
    have hs : args.size = 3 := by simpa [Cond.value, given_1] using g0
    obtain ⟨L⟩ := args
    match L, hs with
    | [w0, w1, w2], _ => exact ⟨w0, w1, w2, rfl⟩
  obtain ⟨g1, hg⟩ := and_e hg
  obtain ⟨i0, ei0⟩ := is_v g1
  obtain rfl : w0 = (.int i0) := Option.some.inj ei0
  obtain ⟨g2, hg⟩ := and_e hg
  obtain ⟨i1, ei1⟩ := is_v g2
  obtain rfl : w1 = (.int i1) := Option.some.inj ei1
  obtain ⟨i2, ei2⟩ := is_v hg
  obtain rfl : w2 = (.int i2) := Option.some.inj ei2
  exact rm0 s _ hw i0 i1 i2 s.heap s.heap.size (Nat.le_refl _)  l
theorem main_1_1 : Claimed_1_1 := own_comes (ck := 16) (sk := 128) (fun _ _ _ _ _ _ h hF => ⟨h.1, hF⟩) (by decide) (by decide) fun l _ _ s args hF hr hg hw => own_law l s args hF trivial hg hw
theorem main_1_2 : Claimed_1_2 := own_comes (ck := 16) (sk := 128) (fun _ _ _ _ _ _ h hF => ⟨h.2, hF⟩) (by decide) (by decide) fun l _ _ s args hF hr hg hw => own_law l s args hF trivial hg hw
end Jvm.Pilot.@@N@@
namespace Jvm.Pilot.@@N@@
open Jvm Jvm.ClassFile Sem Op Lib Jvm.Free Jvm.Stand Jvm.Pilot.@@N@@.Jvm.D
/-! MADE BY PROGRAM (witnessworld.py) out of the Statement's table words and the real class files: 9 classes; the members and pool entries that the words name. The judged class is class 1, her method 1. -/
namespace start1
open Jvm.ClassFile
def u (s : String) : CpInfo := .utf8 (stringToUtf16 s)
/-- a pool by its gaps: so many unusable entries, then the entry; so many at the end -/
def gap : Nat → List CpInfo → List CpInfo
  | 0, r => r
  | n + 1, r => .unusable :: gap n r
def poolList (es : List (Nat × CpInfo)) (last : Nat) : List CpInfo := es.foldr (fun e r => gap e.1 (e.2 :: r)) (gap last [])
def pool (es : List (Nat × CpInfo)) (last : Nat) : Array CpInfo := ⟨poolList es last⟩
def fileOf (pool : Array CpInfo) (this : Nat) (attrs : Array Attribute := #[]) (ms : Array MethodInfo := #[]) (fl : Nat := 33) (sup : Nat := 0) (ifs : Array Nat := #[]) (fds : Array FieldInfo := #[]) : ClassFile where
  minorVersion := 0
  majorVersion := 65
  constantPool := pool
  accessFlags := fl
  thisClass := this
  superClass := sup
  interfaces := ifs
  fields := fds
  methods := ms
  attributes := attrs
def plain (name : String) (sup : Option ClassId) : Class where
  name := name
  kind := .ordinary
  loader := none
  accessFlags := 33
  super := sup
  interfaces := #[]
  cf := none
  fields := #[]
  methods := #[]
  instanceTypes := #[]
  staticTypes := #[]
  resolved := #[]
  callSites := []
  init := .initialized
  statics := none
  mirror := none

def pool0 : Array CpInfo := pool [(5, u "<init>"), (0, u "()V"), (1, .class_ 10), (1, u "java/lang/Object")] 113

def k0c0 : Code := { maxStack := 0, maxLocals := 1, code := object_method_1_code, exceptionTable := #[], attributes := #[] }
def k0m0 : Method := { name := "<init>", desc := "()V", sig := { parameters := [], returnType := none }, accessFlags := 1, code := some k0c0 }
/-- java/lang/Object -/
def k0 : Class := { plain "java/lang/Object" none with
  accessFlags := 33
  interfaces := #[]
  cf := some (fileOf pool0 8 #[] #[{ accessFlags := 1, nameIndex := 5, descriptorIndex := 6, attributes := #[] }] 33 0 #[] #[])
  fields := #[]
  methods := #[k0m0]
  instanceTypes := #[]
  staticTypes := #[]
  resolved := Array.replicate 124 none
  statics := none }

def pool1 : Array CpInfo := pool [(2, .class_ 4), (1, u "java/lang/Object"), (0, u "<init>"), (0, u "()V"), (0, .class_ 8), (0, u "com/example/ramble/ramble/LinkedIndexes"), (0, .methodref 7 10), (0, .nameAndType 5 11), (0, u "(I)V"), (0, .methodref 7 13), (0, .nameAndType 14 15), (0, u "link"), (0, u "(II)V"), (0, .methodref 17 18), (0, .class_ 19), (0, .nameAndType 20 21), (0, u "com/example/ramble/ramble/LinkedIndexesLinkPinLaw"), (0, u "join"), (0, u "([III)V"), (0, .methodref 7 23), (0, .nameAndType 24 25), (0, u "root"), (0, u "(I)I"), (0, .methodref 17 27), (0, .nameAndType 28 29), (0, u "in"), (0, u "(I)Z"), (0, .methodref 17 31), (0, .nameAndType 32 33), (0, u "same"), (0, u "([I[III)Z"), (0, .methodref 17 35), (0, .nameAndType 36 37), (0, u "good"), (0, u "([I[II)Z"), (2, u "law"), (0, u "(III)Z")] 5

def k1m0 : Method := { name := "<init>", desc := "()V", sig := { parameters := [], returnType := none }, accessFlags := 1, code := none }
def k1c1 : Code := { maxStack := 4, maxLocals := 16, code := code, exceptionTable := #[], attributes := #[] }
def k1m1 : Method := { name := "law", desc := "(III)Z", sig := { parameters := [.int, .int, .int], returnType := some .boolean }, accessFlags := 9, code := some k1c1 }
def k1c2 : Code := { maxStack := 2, maxLocals := 1, code := method_3_code, exceptionTable := #[], attributes := #[] }
def k1m2 : Method := { name := "in", desc := "(I)Z", sig := { parameters := [.int], returnType := some .boolean }, accessFlags := 10, code := some k1c2 }
def k1c3 : Code := { maxStack := 3, maxLocals := 5, code := method_4_code, exceptionTable := #[], attributes := #[] }
def k1m3 : Method := { name := "join", desc := "([III)V", sig := { parameters := [(.array .int), .int, .int], returnType := none }, accessFlags := 10, code := some k1c3 }
def k1c4 : Code := { maxStack := 4, maxLocals := 4, code := method_5_code, exceptionTable := #[], attributes := #[] }
def k1m4 : Method := { name := "same", desc := "([I[III)Z", sig := { parameters := [(.array .int), (.array .int), .int, .int], returnType := some .boolean }, accessFlags := 10, code := some k1c4 }
def k1c5 : Code := { maxStack := 3, maxLocals := 3, code := method_6_code, exceptionTable := #[], attributes := #[] }
def k1m5 : Method := { name := "good", desc := "([I[II)Z", sig := { parameters := [(.array .int), (.array .int), .int], returnType := some .boolean }, accessFlags := 10, code := some k1c5 }
/-- com/example/ramble/ramble/LinkedIndexesLinkPinLaw -/
def k1 : Class := { plain "com/example/ramble/ramble/LinkedIndexesLinkPinLaw" (some 0) with
  accessFlags := 49
  interfaces := #[]
  cf := some (fileOf pool1 17 #[] #[{ accessFlags := 1, nameIndex := 5, descriptorIndex := 6, attributes := #[] }, { accessFlags := 9, nameIndex := 40, descriptorIndex := 41, attributes := #[] }, { accessFlags := 10, nameIndex := 28, descriptorIndex := 29, attributes := #[] }, { accessFlags := 10, nameIndex := 20, descriptorIndex := 21, attributes := #[] }, { accessFlags := 10, nameIndex := 32, descriptorIndex := 33, attributes := #[] }, { accessFlags := 10, nameIndex := 36, descriptorIndex := 37, attributes := #[] }] 49 2 #[] #[])
  fields := #[]
  methods := #[k1m0, k1m1, k1m2, k1m3, k1m4, k1m5]
  instanceTypes := #[]
  staticTypes := #[]
  resolved := Array.replicate 47 none
  statics := none }

def pool2 : Array CpInfo := pool [(1, .methodref 2 3), (0, .class_ 4), (0, .nameAndType 5 6), (0, u "java/lang/Object"), (0, u "<init>"), (0, u "()V"), (0, .fieldref 8 9), (0, .class_ 10), (0, .nameAndType 11 12), (0, u "com/example/ramble/ramble/LinkedIndexes"), (0, u "linked"), (0, u "[I"), (0, .methodref 8 14), (0, .nameAndType 15 16), (0, u "root"), (0, u "(I)I"), (0, u "(I)V"), (3, u "link"), (0, u "(II)V")] 2

def k2c0 : Code := { maxStack := 3, maxLocals := 3, code := prog_3_method_1_code, exceptionTable := #[], attributes := #[] }
def k2m0 : Method := { name := "<init>", desc := "(I)V", sig := { parameters := [.int], returnType := none }, accessFlags := 0, code := some k2c0 }
def k2c1 : Code := { maxStack := 4, maxLocals := 3, code := prog_3_method_2_code, exceptionTable := #[], attributes := #[] }
def k2m1 : Method := { name := "link", desc := "(II)V", sig := { parameters := [.int, .int], returnType := none }, accessFlags := 0, code := some k2c1 }
def k2c2 : Code := { maxStack := 2, maxLocals := 3, code := prog_3_method_3_code, exceptionTable := #[], attributes := #[] }
def k2m2 : Method := { name := "root", desc := "(I)I", sig := { parameters := [.int], returnType := some .int }, accessFlags := 0, code := some k2c2 }
/-- com/example/ramble/ramble/LinkedIndexes -/
def k2 : Class := { plain "com/example/ramble/ramble/LinkedIndexes" (some 0) with
  accessFlags := 32
  interfaces := #[]
  cf := some (fileOf pool2 8 #[] #[{ accessFlags := 0, nameIndex := 5, descriptorIndex := 17, attributes := #[] }, { accessFlags := 0, nameIndex := 21, descriptorIndex := 22, attributes := #[] }, { accessFlags := 0, nameIndex := 15, descriptorIndex := 16, attributes := #[] }] 32 2 #[] #[{ accessFlags := 18, nameIndex := 11, descriptorIndex := 12, attributes := #[] }])
  fields := #[{ name := "linked", type := (.array .int), accessFlags := 18, slot := 0, constantValue := 0 }]
  methods := #[k2m0, k2m1, k2m2]
  instanceTypes := #[(.array .int)]
  staticTypes := #[]
  resolved := Array.replicate 25 none
  statics := none }

def pool3 : Array CpInfo := pool [(1, u "java/lang/Cloneable"), (0, .class_ 1), (0, u "java/lang/Object"), (0, .class_ 3)] 3

/-- java/lang/Cloneable -/
def k3 : Class := { plain "java/lang/Cloneable" (some 0) with
  accessFlags := 1537
  interfaces := #[]
  cf := some (fileOf pool3 2 #[] #[] 1537 4 #[] #[])
  fields := #[]
  methods := #[]
  instanceTypes := #[]
  staticTypes := #[]
  resolved := Array.replicate 8 none
  statics := none }

def pool4 : Array CpInfo := pool [(1, u "java/io/Serializable"), (0, .class_ 1), (0, u "java/lang/Object"), (0, .class_ 3)] 3

/-- java/io/Serializable -/
def k4 : Class := { plain "java/io/Serializable" (some 0) with
  accessFlags := 1537
  interfaces := #[]
  cf := some (fileOf pool4 2 #[] #[] 1537 4 #[] #[])
  fields := #[]
  methods := #[]
  instanceTypes := #[]
  staticTypes := #[]
  resolved := Array.replicate 8 none
  statics := none }

/-- the primitive byte -/
def k5 : Class := { plain "byte" none with kind := .primitive 'B', accessFlags := 0x411 }
/-- [B -/
def k6 : Class := { plain "[B" (some 0) with kind := .array 5 .byte, interfaces := #[3, 4], accessFlags := 1041 }

/-- the primitive int -/
def k7 : Class := { plain "int" none with kind := .primitive 'I', accessFlags := 0x411 }
/-- [I -/
def k8 : Class := { plain "[I" (some 0) with kind := .array 7 .int, interfaces := #[3, 4], accessFlags := 1041 }

def heap : Heap := #[]
def classes : Array Class := #[k0, k1, k2, k3, k4, k5, k6, k7, k8]
def interned : List (Array UInt16 × Addr) := []
def slotsUsed : Nat := 0
def theMethod : MethodId := ⟨1, 1⟩
def args0 : Array Value := #[.int 0, .int 1, .int 2]
def aboutOver (below : List Frame) : State where
  vm := { classes := classes, interned := interned.toArray }
  heap := heap
  slotsUsed := slotsUsed
  threads := #[{ frames := .invoking theMethod args0 :: below }]
def below0 : List Frame := [.native { method := ⟨0, 0⟩, args := #[] }]
def about1 : State := aboutOver below0
def p0 : Program := .bare "" "" ""
def e0 : Env := launch0.env 0 0 0
theorem w_frames : about1.frames = Frame.invoking theMethod args0 :: below0 := rfl
set_option maxRecDepth 65536 in
theorem w_args : argsFit about1.vm theMethod args0 = true := by decide +kernel
set_option maxRecDepth 65536 in
theorem w_heap : heapFits about1 = true := by decide +kernel
set_option maxRecDepth 65536 in
theorem w_runnable : about1.curStatus? = some .runnable := by decide +kernel
set_option maxRecDepth 65536 in
theorem w_alone : about1.alone = true := by decide +kernel
set_option maxRecDepth 65536 in
theorem w_named : about1.methodNamed? x = some theMethod := by decide +kernel
set_option maxRecDepth 65536 in
theorem w_hears : about1.hears theMethod below0 = true := by decide +kernel
set_option maxRecDepth 65536 in
theorem w_ripe : about1.ripe theMethod args0 below0 = true := by decide +kernel
theorem w_running : about1.status = .running := rfl
set_option maxRecDepth 65536 in
theorem w_room : about1.hasRoom e0.platform room_1 = true :=
  launch0.hasRoom_least _ room_1 (by decide +kernel) (by decide +kernel) (by decide +kernel) (by decide +kernel) (by decide +kernel) (by decide +kernel)
theorem allAtoms_all (ts : List Jvm.Cond) (a : Array Jvm.Value) (st : Jvm.State) : (allAtoms ts).before a st = ts.all (fun c => c.before a st) := by
  induction ts with
  | nil => rfl
  | cons c t ih =>
    show (Jvm.Cond.and c (allAtoms t)).before a st = _
    rw [Jvm.Cond.before_and, ih, List.all_cons]
def words1 : List Jvm.Cond := Jvm.Cond.code x code maxLocals ret :: tables_1
/-- a 'code' word, met by the world's own term for the bytes: nothing is compared byte by byte -/
theorem code_word {y : MethodName} {bytes : ByteArray} {mx : Nat} {rt : Option FieldType} {a : Array Value} {s : State} {m : MethodId} {meth : Method} {c : Code} (h1 : s.methodNamed? y = some m) (h2 : s.vm.method? m = some meth) (h3 : meth.code = some c) (h4 : c.code = bytes)
    (h5 : (c.maxLocals == mx && c.exceptionTable.isEmpty && decide (c.maxStack ≤ mostOperands) && decide (meth.sig.returnType = rt) && !meth.locks && decide (parseMethodDescriptor y.desc = some meth.sig)) = true) : (Jvm.Cond.code y bytes mx rt).before a s = true := by
  simp only [Bool.and_eq_true, beq_iff_eq, Bool.not_eq_true', decide_eq_true_eq] at h5
  obtain ⟨⟨⟨⟨⟨g1, g2⟩, g3⟩, g4⟩, g5⟩, g6⟩ := h5
  simp [Cond.before, Cond.holds, Cond.value, h1, h2, h3, h4, g1, g2, g3, g4, g5, g6]
def isCode : Jvm.Cond → Bool
  | .code _ _ _ _ => true
  | _ => false
theorem all_split {L : List Jvm.Cond} {P : Jvm.Cond → Bool} (h1 : L.all (fun c => isCode c || P c) = true) (h2 : ∀ c ∈ L.filter isCode, P c = true) : L.all P = true := by
  refine List.all_eq_true.mpr fun c hc => ?_
  have h := List.all_eq_true.mp h1 c hc
  rcases Bool.eq_false_or_eq_true (isCode c) with hi | hi
  · exact h2 c (List.mem_filter.mpr ⟨hc, hi⟩)
  · simpa [hi] using h
set_option maxRecDepth 65536 in
theorem w_c0 : (Jvm.Cond.code x code maxLocals ret).before args0 about1 = true := code_word (m := ⟨1, 1⟩) (meth := k1m1) (c := k1c1) (by decide +kernel) rfl rfl rfl (by decide +kernel)
set_option maxRecDepth 65536 in
theorem w_c1 : (Jvm.Cond.code ({ cls := "com/example/ramble/ramble/LinkedIndexes", name := "<init>", desc := "(I)V" } : Jvm.MethodName) prog_3_method_1_code (3 : Nat) (Option.none : Option Jvm.ClassFile.FieldType)).before args0 about1 = true := code_word (m := ⟨2, 0⟩) (meth := k2m0) (c := k2c0) (by decide +kernel) rfl rfl rfl (by decide +kernel)
set_option maxRecDepth 65536 in
theorem w_c2 : (Jvm.Cond.code ({ cls := "java/lang/Object", name := "<init>", desc := "()V" } : Jvm.MethodName) object_method_1_code (1 : Nat) (Option.none : Option Jvm.ClassFile.FieldType)).before args0 about1 = true := code_word (m := ⟨0, 0⟩) (meth := k0m0) (c := k0c0) (by decide +kernel) rfl rfl rfl (by decide +kernel)
set_option maxRecDepth 65536 in
theorem w_c3 : (Jvm.Cond.code ({ cls := "com/example/ramble/ramble/LinkedIndexes", name := "link", desc := "(II)V" } : Jvm.MethodName) prog_3_method_2_code (3 : Nat) (Option.none : Option Jvm.ClassFile.FieldType)).before args0 about1 = true := code_word (m := ⟨2, 1⟩) (meth := k2m1) (c := k2c1) (by decide +kernel) rfl rfl rfl (by decide +kernel)
set_option maxRecDepth 65536 in
theorem w_c4 : (Jvm.Cond.code ({ cls := "com/example/ramble/ramble/LinkedIndexes", name := "root", desc := "(I)I" } : Jvm.MethodName) prog_3_method_3_code (3 : Nat) (Option.some Jvm.ClassFile.FieldType.int)).before args0 about1 = true := code_word (m := ⟨2, 2⟩) (meth := k2m2) (c := k2c2) (by decide +kernel) rfl rfl rfl (by decide +kernel)
set_option maxRecDepth 65536 in
theorem w_c5 : (Jvm.Cond.code ({ cls := "com/example/ramble/ramble/LinkedIndexesLinkPinLaw", name := "join", desc := "([III)V" } : Jvm.MethodName) method_4_code (5 : Nat) (Option.none : Option Jvm.ClassFile.FieldType)).before args0 about1 = true := code_word (m := ⟨1, 3⟩) (meth := k1m3) (c := k1c3) (by decide +kernel) rfl rfl rfl (by decide +kernel)
set_option maxRecDepth 65536 in
theorem w_c6 : (Jvm.Cond.code ({ cls := "com/example/ramble/ramble/LinkedIndexesLinkPinLaw", name := "in", desc := "(I)Z" } : Jvm.MethodName) method_3_code (1 : Nat) (Option.some Jvm.ClassFile.FieldType.boolean)).before args0 about1 = true := code_word (m := ⟨1, 2⟩) (meth := k1m2) (c := k1c2) (by decide +kernel) rfl rfl rfl (by decide +kernel)
set_option maxRecDepth 65536 in
theorem w_c7 : (Jvm.Cond.code ({ cls := "com/example/ramble/ramble/LinkedIndexesLinkPinLaw", name := "same", desc := "([I[III)Z" } : Jvm.MethodName) method_5_code (4 : Nat) (Option.some Jvm.ClassFile.FieldType.boolean)).before args0 about1 = true := code_word (m := ⟨1, 4⟩) (meth := k1m4) (c := k1c4) (by decide +kernel) rfl rfl rfl (by decide +kernel)
set_option maxRecDepth 65536 in
theorem w_c8 : (Jvm.Cond.code ({ cls := "com/example/ramble/ramble/LinkedIndexesLinkPinLaw", name := "good", desc := "([I[II)Z" } : Jvm.MethodName) method_6_code (3 : Nat) (Option.some Jvm.ClassFile.FieldType.boolean)).before args0 about1 = true := code_word (m := ⟨1, 5⟩) (meth := k1m5) (c := k1c5) (by decide +kernel) rfl rfl rfl (by decide +kernel)
def codes1 : List Jvm.Cond := [Jvm.Cond.code x code maxLocals ret, Jvm.Cond.code ({ cls := "com/example/ramble/ramble/LinkedIndexes", name := "<init>", desc := "(I)V" } : Jvm.MethodName) prog_3_method_1_code (3 : Nat) (Option.none : Option Jvm.ClassFile.FieldType), Jvm.Cond.code ({ cls := "java/lang/Object", name := "<init>", desc := "()V" } : Jvm.MethodName) object_method_1_code (1 : Nat) (Option.none : Option Jvm.ClassFile.FieldType), Jvm.Cond.code ({ cls := "com/example/ramble/ramble/LinkedIndexes", name := "link", desc := "(II)V" } : Jvm.MethodName) prog_3_method_2_code (3 : Nat) (Option.none : Option Jvm.ClassFile.FieldType), Jvm.Cond.code ({ cls := "com/example/ramble/ramble/LinkedIndexes", name := "root", desc := "(I)I" } : Jvm.MethodName) prog_3_method_3_code (3 : Nat) (Option.some Jvm.ClassFile.FieldType.int), Jvm.Cond.code ({ cls := "com/example/ramble/ramble/LinkedIndexesLinkPinLaw", name := "join", desc := "([III)V" } : Jvm.MethodName) method_4_code (5 : Nat) (Option.none : Option Jvm.ClassFile.FieldType), Jvm.Cond.code ({ cls := "com/example/ramble/ramble/LinkedIndexesLinkPinLaw", name := "in", desc := "(I)Z" } : Jvm.MethodName) method_3_code (1 : Nat) (Option.some Jvm.ClassFile.FieldType.boolean), Jvm.Cond.code ({ cls := "com/example/ramble/ramble/LinkedIndexesLinkPinLaw", name := "same", desc := "([I[III)Z" } : Jvm.MethodName) method_5_code (4 : Nat) (Option.some Jvm.ClassFile.FieldType.boolean), Jvm.Cond.code ({ cls := "com/example/ramble/ramble/LinkedIndexesLinkPinLaw", name := "good", desc := "([I[II)Z" } : Jvm.MethodName) method_6_code (3 : Nat) (Option.some Jvm.ClassFile.FieldType.boolean)]
set_option maxRecDepth 65536 in
theorem codes_eq : words1.filter isCode = codes1 := rfl
theorem w_codes : ∀ c ∈ words1.filter isCode, c.before args0 about1 = true := by
  rw [codes_eq]
  intro c hc
  simp only [codes1, List.mem_cons, List.not_mem_nil, or_false] at hc
  rcases hc with rfl | rfl | rfl | rfl | rfl | rfl | rfl | rfl | rfl
  · exact w_c0
  · exact w_c1
  · exact w_c2
  · exact w_c3
  · exact w_c4
  · exact w_c5
  · exact w_c6
  · exact w_c7
  · exact w_c8
set_option maxRecDepth 65536 in
theorem w_t1 : (words1.take 24).all (fun c => isCode c || c.before args0 about1) = true := by decide +kernel
set_option maxRecDepth 65536 in
theorem w_t2 : (words1.drop 24).all (fun c => isCode c || c.before args0 about1) = true := by decide +kernel
theorem w_tables : (allAtoms (Jvm.Cond.code x code maxLocals ret :: tables_1)).before args0 about1 = true := by
  rw [allAtoms_all]
  show words1.all (fun c => c.before args0 about1) = true
  refine all_split ?_ w_codes
  rw [← List.take_append_drop 24 words1, List.all_append, w_t1, w_t2]
  rfl
set_option maxRecDepth 65536 in
theorem w_case : (Jvm.Cond.and given_1 narrow_1).before args0 about1 = true := by decide +kernel
theorem w_applies : (headSpec (Jvm.Cond.code x code maxLocals ret :: tables_1) room_1).applies x e0.platform about1 = true :=
  (Spec.applies_iff w_frames).mpr ⟨w_running, w_runnable, w_alone, w_named, w_hears, w_ripe, w_room, w_tables⟩
theorem atStart : AtStart classFile x code maxLocals ret World_1 tables_1 room_1 Calls_1 rest_1 Pre_1 launch0 p0 e0 about1 theMethod args0 below0 :=
  ⟨lists_1, trivial, launch0.admits_env _ _ _, launch0.least_env, fairChoices_fair.cas, fairChoices_fair.clock, w_frames, w_args, w_heap, w_applies, trivial, trivial, w_case⟩
end start1
theorem witness_1 : WitnessClaimed_1 := ⟨start1.p0, start1.e0, start1.about1, start1.theMethod, start1.args0, start1.below0, start1.atStart⟩
end Jvm.Pilot.@@N@@
