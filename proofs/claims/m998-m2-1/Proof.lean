import JvmDerived
import JvmDerived.Pilot.@@N@@Statement
import JvmDerived.Pilot.@@N@@Code
set_option linter.unusedVariables false
set_option linter.unusedSimpArgs false
namespace Jvm.RoadKit
open Sem ClassFile Op Lib Jvm.Stand Jvm.Free Jvm.LawKit
theorem Ext.keep {h h' : Heap} (E : Ext h h') (ws : List Addr) : Keep h h' ws := (Keep.refl _ _).ext E
theorem Keep.toExt {h h' : Heap} (K : Keep h h' []) : Ext h h' := ⟨K.1, fun a c q => K.2.1 a c q nin0⟩
theorem Sta.keep {Z : State} {h : Heap} {C f d : String} {v : Value} {h' : Heap} {ws : List Addr} (F : Sta Z h C f d v) (K : Keep h h' ws) (q : ∀ x ∈ ws, ∃ c : Cell, h[x]? = some c ∧ c.vm.isStatics = false) : Sta Z h' C f d v := by
  obtain ⟨cf, i, k, f, st, cell, h1, h2, h3, h4, h5, h6, h7⟩ := F
  exact ⟨cf, i, k, f, st, cell, h1, h2, h3, h4, K.2.1 st cell h5 (fun z => by obtain ⟨c, e1, e2⟩ := q st z; cases e1.symm.trans h5; rw [e2] at h6; cases h6), h6, h7⟩
theorem Ins.keep {Z : State} {h : Heap} {a : Addr} {C : String} {b : Bool} {h' : Heap} {ws : List Addr} (F : Ins Z h a C b) (K : Keep h h' ws) : Ins Z h' a C b := by
  obtain ⟨cell, cT, h1, h2, h3⟩ := F
  obtain ⟨c', q, r1, r2, -⟩ := K.2.2 a cell h1
  exact ⟨c', cT, q, h2, by rw [r1, r2]; exact h3⟩
end Jvm.RoadKit
namespace Jvm.Pilot.@@N@@
open Jvm Jvm.ClassFile Sem Op Lib Jvm.Free Jvm.Stand Jvm.LawKit Jvm.RoadKit Bundle Jvm.Pilot.@@N@@.Jvm.D
/-- what a walk is about: all that is fixed while one body runs -/
abbrev Wk : Type := Program × Launch × Env × Room × State × MethodId × Array Value × List Frame × Method × Code × State × Nat
def Cx (w : Wk) (R : Room) (Z : State) (n0 : Nat) (own : String) (bytes : ByteArray) (mx : Nat) (rt : Option FieldType) (nm : String) : Prop :=
  match w with
  | ⟨p, _, _, R', s, m, _, _, meth, c, Z', k⟩ => p.tables.exec = Jvm.exec ∧ c.code = bytes ∧ c.maxLocals = mx ∧ s.vm.findClass own = some m.cls ∧ Z.Warmed39 s.vm ∧ meth.sig.returnType = rt ∧ meth.name = nm ∧ meth.locks = false ∧ R' = R ∧ Z' = Z ∧ k = n0 ∧ n0 ≤ s.heap.size
def At1 (w : Wk) (T : State) (h : Heap) (k n : Nat) : Prop :=
  match w with
  | ⟨p, l, e, R, s, m, args, below, meth, c, _, n0⟩ => ∃ locs, Stand p l e R s m args below meth c T locs k n ∧ T.heap = h ∧ Fr n0 locs
def Go (w : Wk) (Q : Option Value → Heap → Prop) (T : State) (pc : Nat) (L : Array Slot) (st : List Value) : Prop :=
  match w with
  | ⟨p, _, e, R, s, m, _, below, _, _, _, n0⟩ => ∃ s₂ o, Steps p.tables e below (T.setTop (mkF m pc L st)) s₂ ∧ s₂.status = .running ∧ Ended s₂ below o ∧ ∃ v Lc, o = .returned v ∧ (Q v s₂.heap ∧ Fr n0 Lc) ∧ FrameEnd s o s₂ Lc R.cells R.slots
def Dc (bytes : ByteArray) (pc : Nat) (i : Instr) (n pc' : Nat) : Prop := decode bytes pc = .ok (i, n) ∧ pc + n = pc'
/-- a callee's contract -/
def Con (l : Launch) (Z : State) (y : MethodName) (bytes : ByteArray) (mx : Nat) (rt : Option FieldType) (R : Room) (as' : Array Value) (h0 : Heap) (n0 : Nat) (Q : Option Value → Heap → Prop) : Prop :=
  ∀ ws, MetFree l y (head1 (Jvm.Cond.code y bytes mx rt :: ws) R) (fun a U => a = as' ∧ Z.Warmed39 U.vm ∧ U.heap = h0) (fun _ _ _ _ _ => True) (fun _ U o U' => ∃ v L, o = .returned v ∧ (Q v U'.heap ∧ Fr n0 L) ∧ FrameEnd U o U' L R.cells R.slots)
def RI (P : Int32 → Heap → Prop) : Option Value → Heap → Prop := fun v h => ∃ z : Int32, v = some (.int z) ∧ P z h
def RL (P : Int64 → Heap → Prop) : Option Value → Heap → Prop := fun v h => ∃ z : Int64, v = some (.long z) ∧ P z h
def RR (P : Value → Heap → Prop) : Option Value → Heap → Prop := fun v h => ∃ z : Value, v = some z ∧ z.isRef = true ∧ P z h
def RV (P : Heap → Prop) : Option Value → Heap → Prop := fun v h => v = none ∧ P h
/-- Java's x >>> y -/
def iU (x y : Int32) : Int32 := (x.toUInt32 >>> (y &&& 31).toUInt32).toInt32
def lU (x : Int64) (y : Int32) : Int64 := (x.toUInt64 >>> (y &&& 0x3f).toInt64.toUInt64).toInt64
section Own
variable {w : Wk} {R : Room} {Z : State} {n0 : Nat} {own : String} {bytes : ByteArray} {mx : Nat} {rt : Option FieldType} {nm : String} {T : State} {h : Heap} {k n : Nat} {Q : Option Value → Heap → Prop} {pc pc' : Nat} {L L' : Array Slot} {st st' : List Value}
theorem con_intro {l : Launch} {y : MethodName} {as' : Array Value} {h0 : Heap} (hp : plainFor y = true) (hef : ∀ m, entryFrame m as' mx = mkF m 0 L []) (hz : n0 ≤ h0.size)
    (body : ∀ w T, Cx w R Z n0 y.cls bytes mx rt y.name → At1 w T h0 0 0 → Go w Q T 0 L []) : Con l Z y bytes mx rt R as' h0 n0 Q := by
  intro ws
  refine MetFree.of_bodySF hp hisR ?_
  intro p e s m args below meth c s₁ Bd hml0 hP hK
  obtain ⟨rfl, hZ, hh⟩ := hP
  have X0 : Stand p l e R s m args below meth c s₁ [] 0 0 := Stand.of_body Bd
  have e0 : s₁.heap = h0 := by rw [← hh, Bd.state]; rfl
  have B := body ⟨p, l, e, R, s, m, args, below, meth, c, Z, n0⟩ s₁ ⟨Bd.exec, Bd.bytes, hml0, findClass_of_methodNamed Bd.named, hZ, Bd.returns, (name_of_methodNamed Bd.named Bd.method).1, Bd.notSynchronized, rfl, rfl, rfl, by rw [hh]; exact hz⟩ ⟨[], X0, e0, Fr.nil n0⟩
  obtain ⟨s₂, o, h1, h2⟩ := B
  exact ⟨s₂, o, castTop (hef m) h1, h2⟩
theorem go_step (K : Cx w R Z n0 own bytes mx rt nm) (H : At1 w T h k n)
    (hs : ∀ (p : Program) (e : Env) (m : MethodId) (below : List Frame) (c : Code), p.tables.exec = Jvm.exec → c.code = bytes → At T m c below → ∀ t, Steps p.tables e below (T.setTop (mkF m pc' L' st')) t → Steps p.tables e below (T.setTop (mkF m pc L st)) t)
    (G : Go w Q T pc' L' st') : Go w Q T pc L st := by
  obtain ⟨p, l, e, R', s, m, args, below, meth, c, Z', k0⟩ := w
  obtain ⟨hx, hby, -⟩ := K
  obtain ⟨locs, X, -⟩ := H
  obtain ⟨s₂, o, h1, h2⟩ := G
  exact ⟨s₂, o, hs p e m below c hx hby X.here _ h1, h2⟩
theorem dcb {c : Code} {i : Instr} {q : Nat} (hby : c.code = bytes) (d : Dc bytes pc i q pc') : decode c.code pc = .ok (i, q) := by rw [hby]; exact d.1
theorem go_iadd {x y : Int32} (K : Cx w R Z n0 own bytes mx rt nm) (H : At1 w T h k n) (d : Dc bytes pc .iadd 1 pc') (G : ∀ z : Int32, z = x + y → Go w Q T pc' L (.int z :: st)) : Go w Q T pc L (.int y :: .int x :: st) := by
  obtain ⟨d1, rfl⟩ := d
  exact go_step K H (fun p e m below c hx hby hA t kk => XS.iadd hA hx rfl (by rw [hby]; exact d1) rfl kk) (G _ rfl)
theorem go_ladd {x y : Int64} (K : Cx w R Z n0 own bytes mx rt nm) (H : At1 w T h k n) (d : Dc bytes pc .ladd 1 pc') (G : ∀ z : Int64, z = x + y → Go w Q T pc' L (.long z :: st)) : Go w Q T pc L (.long y :: .long x :: st) := by
  obtain ⟨d1, rfl⟩ := d
  exact go_step K H (fun p e m below c hx hby hA t kk => XS.ladd hA hx rfl (by rw [hby]; exact d1) rfl kk) (G _ rfl)
theorem go_isub {x y : Int32} (K : Cx w R Z n0 own bytes mx rt nm) (H : At1 w T h k n) (d : Dc bytes pc .isub 1 pc') (G : ∀ z : Int32, z = x - y → Go w Q T pc' L (.int z :: st)) : Go w Q T pc L (.int y :: .int x :: st) := by
  obtain ⟨d1, rfl⟩ := d
  exact go_step K H (fun p e m below c hx hby hA t kk => XS.isub hA hx rfl (by rw [hby]; exact d1) rfl kk) (G _ rfl)
theorem go_lsub {x y : Int64} (K : Cx w R Z n0 own bytes mx rt nm) (H : At1 w T h k n) (d : Dc bytes pc .lsub 1 pc') (G : ∀ z : Int64, z = x - y → Go w Q T pc' L (.long z :: st)) : Go w Q T pc L (.long y :: .long x :: st) := by
  obtain ⟨d1, rfl⟩ := d
  exact go_step K H (fun p e m below c hx hby hA t kk => XS.lsub hA hx rfl (by rw [hby]; exact d1) rfl kk) (G _ rfl)
theorem go_imul {x y : Int32} (K : Cx w R Z n0 own bytes mx rt nm) (H : At1 w T h k n) (d : Dc bytes pc .imul 1 pc') (G : ∀ z : Int32, z = x * y → Go w Q T pc' L (.int z :: st)) : Go w Q T pc L (.int y :: .int x :: st) := by
  obtain ⟨d1, rfl⟩ := d
  exact go_step K H (fun p e m below c hx hby hA t kk => XS.imul hA hx rfl (by rw [hby]; exact d1) rfl kk) (G _ rfl)
theorem go_lmul {x y : Int64} (K : Cx w R Z n0 own bytes mx rt nm) (H : At1 w T h k n) (d : Dc bytes pc .lmul 1 pc') (G : ∀ z : Int64, z = x * y → Go w Q T pc' L (.long z :: st)) : Go w Q T pc L (.long y :: .long x :: st) := by
  obtain ⟨d1, rfl⟩ := d
  exact go_step K H (fun p e m below c hx hby hA t kk => XS.lmul hA hx rfl (by rw [hby]; exact d1) rfl kk) (G _ rfl)
theorem go_iand {x y : Int32} (K : Cx w R Z n0 own bytes mx rt nm) (H : At1 w T h k n) (d : Dc bytes pc .iand 1 pc') (G : ∀ z : Int32, z = x &&& y → Go w Q T pc' L (.int z :: st)) : Go w Q T pc L (.int y :: .int x :: st) := by
  obtain ⟨d1, rfl⟩ := d
  exact go_step K H (fun p e m below c hx hby hA t kk => XS.iand hA hx rfl (by rw [hby]; exact d1) rfl kk) (G _ rfl)
theorem go_land {x y : Int64} (K : Cx w R Z n0 own bytes mx rt nm) (H : At1 w T h k n) (d : Dc bytes pc .land 1 pc') (G : ∀ z : Int64, z = x &&& y → Go w Q T pc' L (.long z :: st)) : Go w Q T pc L (.long y :: .long x :: st) := by
  obtain ⟨d1, rfl⟩ := d
  exact go_step K H (fun p e m below c hx hby hA t kk => XS.land hA hx rfl (by rw [hby]; exact d1) rfl kk) (G _ rfl)
theorem go_ior {x y : Int32} (K : Cx w R Z n0 own bytes mx rt nm) (H : At1 w T h k n) (d : Dc bytes pc .ior 1 pc') (G : ∀ z : Int32, z = x ||| y → Go w Q T pc' L (.int z :: st)) : Go w Q T pc L (.int y :: .int x :: st) := by
  obtain ⟨d1, rfl⟩ := d
  exact go_step K H (fun p e m below c hx hby hA t kk => XS.ior hA hx rfl (by rw [hby]; exact d1) rfl kk) (G _ rfl)
theorem go_lor {x y : Int64} (K : Cx w R Z n0 own bytes mx rt nm) (H : At1 w T h k n) (d : Dc bytes pc .lor 1 pc') (G : ∀ z : Int64, z = x ||| y → Go w Q T pc' L (.long z :: st)) : Go w Q T pc L (.long y :: .long x :: st) := by
  obtain ⟨d1, rfl⟩ := d
  exact go_step K H (fun p e m below c hx hby hA t kk => XS.lor hA hx rfl (by rw [hby]; exact d1) rfl kk) (G _ rfl)
theorem go_ixor {x y : Int32} (K : Cx w R Z n0 own bytes mx rt nm) (H : At1 w T h k n) (d : Dc bytes pc .ixor 1 pc') (G : ∀ z : Int32, z = x ^^^ y → Go w Q T pc' L (.int z :: st)) : Go w Q T pc L (.int y :: .int x :: st) := by
  obtain ⟨d1, rfl⟩ := d
  exact go_step K H (fun p e m below c hx hby hA t kk => XS.ixor hA hx rfl (by rw [hby]; exact d1) rfl kk) (G _ rfl)
theorem go_lxor {x y : Int64} (K : Cx w R Z n0 own bytes mx rt nm) (H : At1 w T h k n) (d : Dc bytes pc .lxor 1 pc') (G : ∀ z : Int64, z = x ^^^ y → Go w Q T pc' L (.long z :: st)) : Go w Q T pc L (.long y :: .long x :: st) := by
  obtain ⟨d1, rfl⟩ := d
  exact go_step K H (fun p e m below c hx hby hA t kk => XS.lxor hA hx rfl (by rw [hby]; exact d1) rfl kk) (G _ rfl)
theorem go_ishl {x y : Int32} (K : Cx w R Z n0 own bytes mx rt nm) (H : At1 w T h k n) (d : Dc bytes pc .ishl 1 pc') (G : ∀ z : Int32, z = x <<< (y &&& 31) → Go w Q T pc' L (.int z :: st)) : Go w Q T pc L (.int y :: .int x :: st) := by
  obtain ⟨d1, rfl⟩ := d
  exact go_step K H (fun p e m below c hx hby hA t kk => XS.ishl hA hx rfl (by rw [hby]; exact d1) rfl kk) (G _ rfl)
theorem go_ishr {x y : Int32} (K : Cx w R Z n0 own bytes mx rt nm) (H : At1 w T h k n) (d : Dc bytes pc .ishr 1 pc') (G : ∀ z : Int32, z = x >>> (y &&& 31) → Go w Q T pc' L (.int z :: st)) : Go w Q T pc L (.int y :: .int x :: st) := by
  obtain ⟨d1, rfl⟩ := d
  exact go_step K H (fun p e m below c hx hby hA t kk => XS.ishr hA hx rfl (by rw [hby]; exact d1) rfl kk) (G _ rfl)
theorem go_iushr {x y : Int32} (K : Cx w R Z n0 own bytes mx rt nm) (H : At1 w T h k n) (d : Dc bytes pc .iushr 1 pc') (G : ∀ z : Int32, z = iU x y → Go w Q T pc' L (.int z :: st)) : Go w Q T pc L (.int y :: .int x :: st) := by
  obtain ⟨d1, rfl⟩ := d
  exact go_step K H (fun p e m below c hx hby hA t kk => XS.iushr hA hx rfl (by rw [hby]; exact d1) rfl kk) (G _ rfl)
theorem go_lshl {x : Int64} {y : Int32} (K : Cx w R Z n0 own bytes mx rt nm) (H : At1 w T h k n) (d : Dc bytes pc .lshl 1 pc') (G : ∀ z : Int64, z = x <<< (y &&& 0x3f).toInt64 → Go w Q T pc' L (.long z :: st)) : Go w Q T pc L (.int y :: .long x :: st) := by
  obtain ⟨d1, rfl⟩ := d
  exact go_step K H (fun p e m below c hx hby hA t kk => XS.lshl hA hx rfl (by rw [hby]; exact d1) rfl kk) (G _ rfl)
theorem go_lshr {x : Int64} {y : Int32} (K : Cx w R Z n0 own bytes mx rt nm) (H : At1 w T h k n) (d : Dc bytes pc .lshr 1 pc') (G : ∀ z : Int64, z = x >>> (y &&& 0x3f).toInt64 → Go w Q T pc' L (.long z :: st)) : Go w Q T pc L (.int y :: .long x :: st) := by
  obtain ⟨d1, rfl⟩ := d
  exact go_step K H (fun p e m below c hx hby hA t kk => XS.lshr hA hx rfl (by rw [hby]; exact d1) rfl kk) (G _ rfl)
theorem go_lushr {x : Int64} {y : Int32} (K : Cx w R Z n0 own bytes mx rt nm) (H : At1 w T h k n) (d : Dc bytes pc .lushr 1 pc') (G : ∀ z : Int64, z = lU x y → Go w Q T pc' L (.long z :: st)) : Go w Q T pc L (.int y :: .long x :: st) := by
  obtain ⟨d1, rfl⟩ := d
  exact go_step K H (fun p e m below c hx hby hA t kk => XS.lushr hA hx rfl (by rw [hby]; exact d1) rfl kk) (G _ rfl)
theorem go_idiv {x y : Int32} (K : Cx w R Z n0 own bytes mx rt nm) (H : At1 w T h k n) (d : Dc bytes pc .idiv 1 pc') (hy : y ≠ 0) (G : ∀ z : Int32, z = x / y → Go w Q T pc' L (.int z :: st)) : Go w Q T pc L (.int y :: .int x :: st) := by
  obtain ⟨d1, rfl⟩ := d
  exact go_step K H (fun p e m below c hx hby hA t kk => XS.idiv hA hx rfl (by rw [hby]; exact d1) rfl hy kk) (G _ rfl)
theorem go_irem (K : Cx w R Z n0 own bytes mx rt nm) (H : At1 w T h k n) {x y : Int32} (d : Dc bytes pc .irem 1 pc') (hy : y ≠ 0) (G : ∀ z : Int32, z = x % y → Go w Q T pc' L (.int z :: st)) : Go w Q T pc L (.int y :: .int x :: st) := by
  obtain ⟨d1, rfl⟩ := d
  exact go_step K H (fun p e m below c hx hby hA t kk => XS.irem hA hx rfl (by rw [hby]; exact d1) rfl hy (by rw [irem_eq_mod]; exact kk)) (G _ rfl)
theorem go_ldiv {x y : Int64} (K : Cx w R Z n0 own bytes mx rt nm) (H : At1 w T h k n) (d : Dc bytes pc .ldiv 1 pc') (hy : y ≠ 0) (G : ∀ z : Int64, z = x / y → Go w Q T pc' L (.long z :: st)) : Go w Q T pc L (.long y :: .long x :: st) := by
  obtain ⟨d1, rfl⟩ := d
  exact go_step K H (fun p e m below c hx hby hA t kk => XS.ldiv hA hx rfl (by rw [hby]; exact d1) rfl hy kk) (G _ rfl)
theorem go_lrem {x y : Int64} (K : Cx w R Z n0 own bytes mx rt nm) (H : At1 w T h k n) (d : Dc bytes pc .lrem 1 pc') (hy : y ≠ 0) (G : ∀ z : Int64, z = x - (x / y) * y → Go w Q T pc' L (.long z :: st)) : Go w Q T pc L (.long y :: .long x :: st) := by
  obtain ⟨d1, rfl⟩ := d
  exact go_step K H (fun p e m below c hx hby hA t kk => XS.lrem hA hx rfl (by rw [hby]; exact d1) rfl hy kk) (G _ rfl)
theorem go_ineg {x : Int32} (K : Cx w R Z n0 own bytes mx rt nm) (H : At1 w T h k n) (d : Dc bytes pc .ineg 1 pc') (G : ∀ z : Int32, z = -x → Go w Q T pc' L (.int z :: st)) : Go w Q T pc L (.int x :: st) := by
  obtain ⟨d1, rfl⟩ := d
  exact go_step K H (fun p e m below c hx hby hA t kk => XS.ineg hA hx rfl (by rw [hby]; exact d1) rfl kk) (G _ rfl)
theorem go_lneg {x : Int64} (K : Cx w R Z n0 own bytes mx rt nm) (H : At1 w T h k n) (d : Dc bytes pc .lneg 1 pc') (G : ∀ z : Int64, z = -x → Go w Q T pc' L (.long z :: st)) : Go w Q T pc L (.long x :: st) := by
  obtain ⟨d1, rfl⟩ := d
  exact go_step K H (fun p e m below c hx hby hA t kk => XS.lneg hA hx rfl (by rw [hby]; exact d1) rfl kk) (G _ rfl)
theorem go_i2l {x : Int32} (K : Cx w R Z n0 own bytes mx rt nm) (H : At1 w T h k n) (d : Dc bytes pc .i2l 1 pc') (G : ∀ z : Int64, z = x.toInt64 → Go w Q T pc' L (.long z :: st)) : Go w Q T pc L (.int x :: st) := by
  obtain ⟨d1, rfl⟩ := d
  exact go_step K H (fun p e m below c hx hby hA t kk => XS.i2l hA hx rfl (by rw [hby]; exact d1) rfl kk) (G _ rfl)
theorem go_l2i {x : Int64} (K : Cx w R Z n0 own bytes mx rt nm) (H : At1 w T h k n) (d : Dc bytes pc .l2i 1 pc') (G : ∀ z : Int32, z = x.toInt32 → Go w Q T pc' L (.int z :: st)) : Go w Q T pc L (.long x :: st) := by
  obtain ⟨d1, rfl⟩ := d
  exact go_step K H (fun p e m below c hx hby hA t kk => XS.l2i hA hx rfl (by rw [hby]; exact d1) rfl kk) (G _ rfl)
theorem go_i2b {x : Int32} (K : Cx w R Z n0 own bytes mx rt nm) (H : At1 w T h k n) (d : Dc bytes pc .i2b 1 pc') (G : ∀ z : Int32, z = x.toInt8.toInt32 → Go w Q T pc' L (.int z :: st)) : Go w Q T pc L (.int x :: st) := by
  obtain ⟨d1, rfl⟩ := d
  exact go_step K H (fun p e m below c hx hby hA t kk => XS.i2b hA hx rfl (by rw [hby]; exact d1) rfl kk) (G _ rfl)
theorem go_i2c {x : Int32} (K : Cx w R Z n0 own bytes mx rt nm) (H : At1 w T h k n) (d : Dc bytes pc .i2c 1 pc') (G : ∀ z : Int32, z = x.toUInt32.toUInt16.toUInt32.toInt32 → Go w Q T pc' L (.int z :: st)) : Go w Q T pc L (.int x :: st) := by
  obtain ⟨d1, rfl⟩ := d
  exact go_step K H (fun p e m below c hx hby hA t kk => XS.i2c hA hx rfl (by rw [hby]; exact d1) rfl kk) (G _ rfl)
theorem go_i2s {x : Int32} (K : Cx w R Z n0 own bytes mx rt nm) (H : At1 w T h k n) (d : Dc bytes pc .i2s 1 pc') (G : ∀ z : Int32, z = x.toInt16.toInt32 → Go w Q T pc' L (.int z :: st)) : Go w Q T pc L (.int x :: st) := by
  obtain ⟨d1, rfl⟩ := d
  exact go_step K H (fun p e m below c hx hby hA t kk => XS.i2s hA hx rfl (by rw [hby]; exact d1) rfl kk) (G _ rfl)
theorem go_lcmp {x y : Int64} (K : Cx w R Z n0 own bytes mx rt nm) (H : At1 w T h k n) (d : Dc bytes pc .lcmp 1 pc') (G : ∀ z : Int32, z = lcmpW x y → Go w Q T pc' L (.int z :: st)) : Go w Q T pc L (.long y :: .long x :: st) := by
  obtain ⟨d1, rfl⟩ := d
  exact go_step K H (fun p e m below c hx hby hA t kk => XS.lcmp hA hx rfl (by rw [hby]; exact d1) rfl kk) (G _ rfl)
theorem go_iloadN {j : Fin 4} {v : Int32} (K : Cx w R Z n0 own bytes mx rt nm) (H : At1 w T h k n) (d : Dc bytes pc (.iload_n j) 1 pc') (hl : L[j.val]? = some (.val (.int v))) (G : Go w Q T pc' L (.int v :: st)) : Go w Q T pc L st := by
  obtain ⟨d1, rfl⟩ := d
  exact go_step K H (fun p e m below c hx hby hA t kk => XS.iloadN hA hx rfl (by rw [hby]; exact d1) hl kk) G
theorem go_iload {j : Nat} {v : Int32} (K : Cx w R Z n0 own bytes mx rt nm) (H : At1 w T h k n) (d : Dc bytes pc (.iload j) 2 pc') (hl : L[j]? = some (.val (.int v))) (G : Go w Q T pc' L (.int v :: st)) : Go w Q T pc L st := by
  obtain ⟨d1, rfl⟩ := d
  exact go_step K H (fun p e m below c hx hby hA t kk => XS.iload hA hx rfl (by rw [hby]; exact d1) hl kk) G
theorem go_lloadN {j : Fin 4} {v : Int64} (K : Cx w R Z n0 own bytes mx rt nm) (H : At1 w T h k n) (d : Dc bytes pc (.lload_n j) 1 pc') (hl : L[j.val]? = some (.val (.long v))) (G : Go w Q T pc' L (.long v :: st)) : Go w Q T pc L st := by
  obtain ⟨d1, rfl⟩ := d
  exact go_step K H (fun p e m below c hx hby hA t kk => XS.lloadN hA hx rfl (by rw [hby]; exact d1) hl kk) G
theorem go_lload {j : Nat} {v : Int64} (K : Cx w R Z n0 own bytes mx rt nm) (H : At1 w T h k n) (d : Dc bytes pc (.lload j) 2 pc') (hl : L[j]? = some (.val (.long v))) (G : Go w Q T pc' L (.long v :: st)) : Go w Q T pc L st := by
  obtain ⟨d1, rfl⟩ := d
  exact go_step K H (fun p e m below c hx hby hA t kk => XS.lload hA hx rfl (by rw [hby]; exact d1) hl kk) G
theorem go_aloadN {j : Fin 4} {v : Value} (K : Cx w R Z n0 own bytes mx rt nm) (H : At1 w T h k n) (d : Dc bytes pc (.aload_n j) 1 pc') (hl : L[j.val]? = some (.val v)) (hv : v.isRef = true) (G : Go w Q T pc' L (v :: st)) : Go w Q T pc L st := by
  obtain ⟨d1, rfl⟩ := d
  exact go_step K H (fun p e m below c hx hby hA t kk => XS.aloadN hA hx rfl (by rw [hby]; exact d1) hl hv kk) G
theorem go_aload {j : Nat} {v : Value} (K : Cx w R Z n0 own bytes mx rt nm) (H : At1 w T h k n) (d : Dc bytes pc (.aload j) 2 pc') (hl : L[j]? = some (.val v)) (hv : v.isRef = true) (G : Go w Q T pc' L (v :: st)) : Go w Q T pc L st := by
  obtain ⟨d1, rfl⟩ := d
  exact go_step K H (fun p e m below c hx hby hA t kk => XS.aload hA hx rfl (by rw [hby]; exact d1) hl hv kk) G
theorem go_istoreN {j : Fin 4} {v : Int32} (K : Cx w R Z n0 own bytes mx rt nm) (H : At1 w T h k n) (d : Dc bytes pc (.istore_n j) 1 pc') (hl : storeLocals L j.val (.int v) = some L') (G : Go w Q T pc' L' st) : Go w Q T pc L (.int v :: st) := by
  obtain ⟨d1, rfl⟩ := d
  exact go_step K H (fun p e m below c hx hby hA t kk => XS.istoreN hA hx rfl (by rw [hby]; exact d1) rfl hl kk) G
theorem go_istore {j : Nat} {v : Int32} (K : Cx w R Z n0 own bytes mx rt nm) (H : At1 w T h k n) (d : Dc bytes pc (.istore j) 2 pc') (hl : storeLocals L j (.int v) = some L') (G : Go w Q T pc' L' st) : Go w Q T pc L (.int v :: st) := by
  obtain ⟨d1, rfl⟩ := d
  exact go_step K H (fun p e m below c hx hby hA t kk => XS.istore hA hx rfl (by rw [hby]; exact d1) rfl hl kk) G
theorem go_lstoreN {j : Fin 4} {v : Int64} (K : Cx w R Z n0 own bytes mx rt nm) (H : At1 w T h k n) (d : Dc bytes pc (.lstore_n j) 1 pc') (hl : storeLocals L j.val (.long v) = some L') (G : Go w Q T pc' L' st) : Go w Q T pc L (.long v :: st) := by
  obtain ⟨d1, rfl⟩ := d
  exact go_step K H (fun p e m below c hx hby hA t kk => XS.lstoreN hA hx rfl (by rw [hby]; exact d1) rfl hl kk) G
theorem go_lstore {j : Nat} {v : Int64} (K : Cx w R Z n0 own bytes mx rt nm) (H : At1 w T h k n) (d : Dc bytes pc (.lstore j) 2 pc') (hl : storeLocals L j (.long v) = some L') (G : Go w Q T pc' L' st) : Go w Q T pc L (.long v :: st) := by
  obtain ⟨d1, rfl⟩ := d
  exact go_step K H (fun p e m below c hx hby hA t kk => XS.lstore hA hx rfl (by rw [hby]; exact d1) rfl hl kk) G
theorem go_astoreN {j : Fin 4} {v : Value} (K : Cx w R Z n0 own bytes mx rt nm) (H : At1 w T h k n) (d : Dc bytes pc (.astore_n j) 1 pc') (hv : v.isRef = true) (hl : storeLocals L j.val v = some L') (G : Go w Q T pc' L' st) : Go w Q T pc L (v :: st) := by
  obtain ⟨d1, rfl⟩ := d
  exact go_step K H (fun p e m below c hx hby hA t kk => XS.astoreN hA hx rfl (by rw [hby]; exact d1) rfl hv hl kk) G
theorem go_astore {j : Nat} {v : Value} (K : Cx w R Z n0 own bytes mx rt nm) (H : At1 w T h k n) (d : Dc bytes pc (.astore j) 2 pc') (hv : v.isRef = true) (hl : storeLocals L j v = some L') (G : Go w Q T pc' L' st) : Go w Q T pc L (v :: st) := by
  obtain ⟨d1, rfl⟩ := d
  exact go_step K H (fun p e m below c hx hby hA t kk => XS.astore hA hx rfl (by rw [hby]; exact d1) rfl hv hl kk) G
theorem go_iinc {j : Nat} {cst : Int} {x z : Int32} (K : Cx w R Z n0 own bytes mx rt nm) (H : At1 w T h k n) (d : Dc bytes pc (.iinc j cst) 3 pc') (hl : L[j]? = some (.val (.int x))) (hz : z = x + Int32.ofInt cst) (hl' : storeLocals L j (.int z) = some L') (G : Go w Q T pc' L' st) : Go w Q T pc L st := by
  obtain ⟨d1, rfl⟩ := d
  exact go_step K H (fun p e m below c hx hby hA t kk => XS.iinc hA hx rfl (by rw [hby]; exact d1) hl (by rw [← hz]; exact hl') kk) G
theorem go_iconst {i : Int} (z : Int32) (K : Cx w R Z n0 own bytes mx rt nm) (H : At1 w T h k n) (d : Dc bytes pc (.iconst i) 1 pc') (hz : Int32.ofInt i = z) (G : Go w Q T pc' L (.int z :: st)) : Go w Q T pc L st := by
  obtain ⟨d1, rfl⟩ := d
  exact go_step K H (fun p e m below c hx hby hA t kk => XS.iconst hA hx rfl (by rw [hby]; exact d1) (by rw [hz]; exact kk)) G
theorem go_bipush {i : Int} (z : Int32) (K : Cx w R Z n0 own bytes mx rt nm) (H : At1 w T h k n) (d : Dc bytes pc (.bipush i) 2 pc') (hz : (Int8.ofInt i).toInt32 = z) (G : Go w Q T pc' L (.int z :: st)) : Go w Q T pc L st := by
  obtain ⟨d1, rfl⟩ := d
  exact go_step K H (fun p e m below c hx hby hA t kk => XS.bipush hA hx rfl (by rw [hby]; exact d1) (by rw [hz]; exact kk)) G
theorem go_sipush {i : Int} (z : Int32) (K : Cx w R Z n0 own bytes mx rt nm) (H : At1 w T h k n) (d : Dc bytes pc (.sipush i) 3 pc') (hz : (Int16.ofInt i).toInt32 = z) (G : Go w Q T pc' L (.int z :: st)) : Go w Q T pc L st := by
  obtain ⟨d1, rfl⟩ := d
  exact go_step K H (fun p e m below c hx hby hA t kk => XS.sipush hA hx rfl (by rw [hby]; exact d1) (by rw [hz]; exact kk)) G
theorem go_lconst {i : Fin 2} (z : Int64) (K : Cx w R Z n0 own bytes mx rt nm) (H : At1 w T h k n) (d : Dc bytes pc (.lconst i) 1 pc') (hz : Int64.ofNat i = z) (G : Go w Q T pc' L (.long z :: st)) : Go w Q T pc L st := by
  obtain ⟨d1, rfl⟩ := d
  exact go_step K H (fun p e m below c hx hby hA t kk => XS.lconst hA hx rfl (by rw [hby]; exact d1) (by rw [hz]; exact kk)) G
theorem go_null  (K : Cx w R Z n0 own bytes mx rt nm) (H : At1 w T h k n) (d : Dc bytes pc .aconst_null 1 pc') (G : Go w Q T pc' L (.null :: st)) : Go w Q T pc L st := by
  obtain ⟨d1, rfl⟩ := d
  exact go_step K H (fun p e m below c hx hby hA t kk => XS.aconstNull hA hx rfl (by rw [hby]; exact d1) kk) G
theorem go_dup {x : Value} (K : Cx w R Z n0 own bytes mx rt nm) (H : At1 w T h k n) (d : Dc bytes pc .dup 1 pc') (hc : x.category = 1) (G : Go w Q T pc' L (x :: x :: st)) : Go w Q T pc L (x :: st) := by
  obtain ⟨d1, rfl⟩ := d
  exact go_step K H (fun p e m below c hx hby hA t kk => XS.dup hA hx rfl (by rw [hby]; exact d1) rfl hc kk) G
theorem go_pop {x : Value} (K : Cx w R Z n0 own bytes mx rt nm) (H : At1 w T h k n) (d : Dc bytes pc .pop 1 pc') (hc : x.category = 1) (G : Go w Q T pc' L st) : Go w Q T pc L (x :: st) := by
  obtain ⟨d1, rfl⟩ := d
  exact go_step K H (fun p e m below c hx hby hA t kk => XS.pop hA hx rfl (by rw [hby]; exact d1) rfl hc kk) G
theorem go_dupX1 {x y : Value} (K : Cx w R Z n0 own bytes mx rt nm) (H : At1 w T h k n) (d : Dc bytes pc .dup_x1 1 pc') (hc : x.category = 1) (hc' : y.category = 1) (G : Go w Q T pc' L (x :: y :: x :: st)) : Go w Q T pc L (x :: y :: st) := by
  obtain ⟨d1, rfl⟩ := d
  exact go_step K H (fun p e m below c hx hby hA t kk => XS.dupX1 hA hx rfl (by rw [hby]; exact d1) rfl hc hc' kk) G
theorem go_dup2 {x y : Value} (K : Cx w R Z n0 own bytes mx rt nm) (H : At1 w T h k n) (d : Dc bytes pc .dup2 1 pc') (hc : x.category = 1) (hc' : y.category = 1) (G : Go w Q T pc' L (x :: y :: x :: y :: st)) : Go w Q T pc L (x :: y :: st) := by
  obtain ⟨d1, rfl⟩ := d
  exact go_step K H (fun p e m below c hx hby hA t kk => Jvm.Free.XT.dup2 hA hx rfl (by rw [hby]; exact d1) rfl hc hc' kk) G
theorem go_dup2L {x : Int64} (K : Cx w R Z n0 own bytes mx rt nm) (H : At1 w T h k n) (d : Dc bytes pc .dup2 1 pc') (G : Go w Q T pc' L (.long x :: .long x :: st)) : Go w Q T pc L (.long x :: st) := by
  obtain ⟨d1, rfl⟩ := d
  exact go_step K H (fun p e m below c hx hby hA t kk => Jvm.Free.XT.dup2L hA hx rfl (by rw [hby]; exact d1) rfl kk) G
def Jp (bytes : ByteArray) (pc : Nat) (i : Int → Instr) (yes no : Nat) : Prop := ∃ o : Int, decode bytes pc = .ok (i o, 3) ∧ 0 ≤ (pc : Int) + o ∧ ((pc : Int) + o).toNat = yes ∧ pc + 3 = no
theorem go_goto (K : Cx w R Z n0 own bytes mx rt nm) (H : At1 w T h k n) {no : Nat} (d : Jp bytes pc .goto pc' no) (G : Go w Q T pc' L st) : Go w Q T pc L st := by
  obtain ⟨o, d1, d2, d3, d4⟩ := d
  exact go_step K H (fun p e m below c hx hby hA t kk => XS.goto hA hx rfl rfl (by rw [hby]; exact d1) d2 d3 kk) G
theorem go_icmp_lt (K : Cx w R Z n0 own bytes mx rt nm) (H : At1 w T h k n) {x y : Int32} {yes no : Nat} (d : Jp bytes pc (.if_icmp .lt) yes no) (G1 : x < y → Go w Q T yes L st) (G2 : ¬ x < y → Go w Q T no L st) : Go w Q T pc L (.int y :: .int x :: st) := by
  obtain ⟨o, d1, d2, d3, rfl⟩ := d
  by_cases q : x < y
  · exact go_step K H (fun p e m below c hx hby hA t kk => XS.icmpYes hA hx rfl rfl (by rw [hby]; exact d1) rfl (tlt q).1 d2 d3 kk) (G1 q)
  · exact go_step K H (fun p e m below c hx hby hA t kk => XS.icmpNo hA hx rfl (by rw [hby]; exact d1) rfl (flt q).1 kk) (G2 q)
theorem go_if_lt (K : Cx w R Z n0 own bytes mx rt nm) (H : At1 w T h k n) {x : Int32} {yes no : Nat} (d : Jp bytes pc (.ifCond .lt) yes no) (G1 : x < (0 : Int32) → Go w Q T yes L st) (G2 : ¬ x < (0 : Int32) → Go w Q T no L st) : Go w Q T pc L (.int x :: st) := by
  obtain ⟨o, d1, d2, d3, rfl⟩ := d
  by_cases q : x < (0 : Int32)
  · exact go_step K H (fun p e m below c hx hby hA t kk => XS.ifYes hA hx rfl rfl (by rw [hby]; exact d1) rfl ((if0 _ _).trans (tlt q).1) d2 d3 kk) (G1 q)
  · exact go_step K H (fun p e m below c hx hby hA t kk => XS.ifNo hA hx rfl (by rw [hby]; exact d1) rfl ((if0 _ _).trans (flt q).1) kk) (G2 q)
theorem go_icmp_ge (K : Cx w R Z n0 own bytes mx rt nm) (H : At1 w T h k n) {x y : Int32} {yes no : Nat} (d : Jp bytes pc (.if_icmp .ge) yes no) (G1 : ¬ x < y → Go w Q T yes L st) (G2 : x < y → Go w Q T no L st) : Go w Q T pc L (.int y :: .int x :: st) := by
  obtain ⟨o, d1, d2, d3, rfl⟩ := d
  by_cases q : ¬ x < y
  · exact go_step K H (fun p e m below c hx hby hA t kk => XS.icmpYes hA hx rfl rfl (by rw [hby]; exact d1) rfl (flt q).2.1 d2 d3 kk) (G1 q)
  · exact go_step K H (fun p e m below c hx hby hA t kk => XS.icmpNo hA hx rfl (by rw [hby]; exact d1) rfl (tlt (Decidable.not_not.mp q)).2.1 kk) (G2 (Decidable.not_not.mp q))
theorem go_if_ge (K : Cx w R Z n0 own bytes mx rt nm) (H : At1 w T h k n) {x : Int32} {yes no : Nat} (d : Jp bytes pc (.ifCond .ge) yes no) (G1 : ¬ x < (0 : Int32) → Go w Q T yes L st) (G2 : x < (0 : Int32) → Go w Q T no L st) : Go w Q T pc L (.int x :: st) := by
  obtain ⟨o, d1, d2, d3, rfl⟩ := d
  by_cases q : ¬ x < (0 : Int32)
  · exact go_step K H (fun p e m below c hx hby hA t kk => XS.ifYes hA hx rfl rfl (by rw [hby]; exact d1) rfl ((if0 _ _).trans (flt q).2.1) d2 d3 kk) (G1 q)
  · exact go_step K H (fun p e m below c hx hby hA t kk => XS.ifNo hA hx rfl (by rw [hby]; exact d1) rfl ((if0 _ _).trans (tlt (Decidable.not_not.mp q)).2.1) kk) (G2 (Decidable.not_not.mp q))
theorem go_icmp_gt (K : Cx w R Z n0 own bytes mx rt nm) (H : At1 w T h k n) {x y : Int32} {yes no : Nat} (d : Jp bytes pc (.if_icmp .gt) yes no) (G1 : y < x → Go w Q T yes L st) (G2 : ¬ y < x → Go w Q T no L st) : Go w Q T pc L (.int y :: .int x :: st) := by
  obtain ⟨o, d1, d2, d3, rfl⟩ := d
  by_cases q : y < x
  · exact go_step K H (fun p e m below c hx hby hA t kk => XS.icmpYes hA hx rfl rfl (by rw [hby]; exact d1) rfl (tlt q).2.2.1 d2 d3 kk) (G1 q)
  · exact go_step K H (fun p e m below c hx hby hA t kk => XS.icmpNo hA hx rfl (by rw [hby]; exact d1) rfl (flt q).2.2.1 kk) (G2 q)
theorem go_if_gt (K : Cx w R Z n0 own bytes mx rt nm) (H : At1 w T h k n) {x : Int32} {yes no : Nat} (d : Jp bytes pc (.ifCond .gt) yes no) (G1 : (0 : Int32) < x → Go w Q T yes L st) (G2 : ¬ (0 : Int32) < x → Go w Q T no L st) : Go w Q T pc L (.int x :: st) := by
  obtain ⟨o, d1, d2, d3, rfl⟩ := d
  by_cases q : (0 : Int32) < x
  · exact go_step K H (fun p e m below c hx hby hA t kk => XS.ifYes hA hx rfl rfl (by rw [hby]; exact d1) rfl ((if0 _ _).trans (tlt q).2.2.1) d2 d3 kk) (G1 q)
  · exact go_step K H (fun p e m below c hx hby hA t kk => XS.ifNo hA hx rfl (by rw [hby]; exact d1) rfl ((if0 _ _).trans (flt q).2.2.1) kk) (G2 q)
theorem go_icmp_le (K : Cx w R Z n0 own bytes mx rt nm) (H : At1 w T h k n) {x y : Int32} {yes no : Nat} (d : Jp bytes pc (.if_icmp .le) yes no) (G1 : ¬ y < x → Go w Q T yes L st) (G2 : y < x → Go w Q T no L st) : Go w Q T pc L (.int y :: .int x :: st) := by
  obtain ⟨o, d1, d2, d3, rfl⟩ := d
  by_cases q : ¬ y < x
  · exact go_step K H (fun p e m below c hx hby hA t kk => XS.icmpYes hA hx rfl rfl (by rw [hby]; exact d1) rfl (flt q).2.2.2 d2 d3 kk) (G1 q)
  · exact go_step K H (fun p e m below c hx hby hA t kk => XS.icmpNo hA hx rfl (by rw [hby]; exact d1) rfl (tlt (Decidable.not_not.mp q)).2.2.2 kk) (G2 (Decidable.not_not.mp q))
theorem go_if_le (K : Cx w R Z n0 own bytes mx rt nm) (H : At1 w T h k n) {x : Int32} {yes no : Nat} (d : Jp bytes pc (.ifCond .le) yes no) (G1 : ¬ (0 : Int32) < x → Go w Q T yes L st) (G2 : (0 : Int32) < x → Go w Q T no L st) : Go w Q T pc L (.int x :: st) := by
  obtain ⟨o, d1, d2, d3, rfl⟩ := d
  by_cases q : ¬ (0 : Int32) < x
  · exact go_step K H (fun p e m below c hx hby hA t kk => XS.ifYes hA hx rfl rfl (by rw [hby]; exact d1) rfl ((if0 _ _).trans (flt q).2.2.2) d2 d3 kk) (G1 q)
  · exact go_step K H (fun p e m below c hx hby hA t kk => XS.ifNo hA hx rfl (by rw [hby]; exact d1) rfl ((if0 _ _).trans (tlt (Decidable.not_not.mp q)).2.2.2) kk) (G2 (Decidable.not_not.mp q))
theorem go_icmp_eq (K : Cx w R Z n0 own bytes mx rt nm) (H : At1 w T h k n) {x y : Int32} {yes no : Nat} (d : Jp bytes pc (.if_icmp .eq) yes no) (G1 : x = y → Go w Q T yes L st) (G2 : ¬ x = y → Go w Q T no L st) : Go w Q T pc L (.int y :: .int x :: st) := by
  obtain ⟨o, d1, d2, d3, rfl⟩ := d
  by_cases q : x = y
  · exact go_step K H (fun p e m below c hx hby hA t kk => XS.icmpYes hA hx rfl rfl (by rw [hby]; exact d1) rfl (teq q).1 d2 d3 kk) (G1 q)
  · exact go_step K H (fun p e m below c hx hby hA t kk => XS.icmpNo hA hx rfl (by rw [hby]; exact d1) rfl (feq q).1 kk) (G2 q)
theorem go_if_eq (K : Cx w R Z n0 own bytes mx rt nm) (H : At1 w T h k n) {x : Int32} {yes no : Nat} (d : Jp bytes pc (.ifCond .eq) yes no) (G1 : x = (0 : Int32) → Go w Q T yes L st) (G2 : ¬ x = (0 : Int32) → Go w Q T no L st) : Go w Q T pc L (.int x :: st) := by
  obtain ⟨o, d1, d2, d3, rfl⟩ := d
  by_cases q : x = (0 : Int32)
  · exact go_step K H (fun p e m below c hx hby hA t kk => XS.ifYes hA hx rfl rfl (by rw [hby]; exact d1) rfl ((if0 _ _).trans (teq q).1) d2 d3 kk) (G1 q)
  · exact go_step K H (fun p e m below c hx hby hA t kk => XS.ifNo hA hx rfl (by rw [hby]; exact d1) rfl ((if0 _ _).trans (feq q).1) kk) (G2 q)
theorem go_icmp_ne (K : Cx w R Z n0 own bytes mx rt nm) (H : At1 w T h k n) {x y : Int32} {yes no : Nat} (d : Jp bytes pc (.if_icmp .ne) yes no) (G1 : ¬ x = y → Go w Q T yes L st) (G2 : x = y → Go w Q T no L st) : Go w Q T pc L (.int y :: .int x :: st) := by
  obtain ⟨o, d1, d2, d3, rfl⟩ := d
  by_cases q : ¬ x = y
  · exact go_step K H (fun p e m below c hx hby hA t kk => XS.icmpYes hA hx rfl rfl (by rw [hby]; exact d1) rfl (feq q).2 d2 d3 kk) (G1 q)
  · exact go_step K H (fun p e m below c hx hby hA t kk => XS.icmpNo hA hx rfl (by rw [hby]; exact d1) rfl (teq (Decidable.not_not.mp q)).2 kk) (G2 (Decidable.not_not.mp q))
theorem go_if_ne (K : Cx w R Z n0 own bytes mx rt nm) (H : At1 w T h k n) {x : Int32} {yes no : Nat} (d : Jp bytes pc (.ifCond .ne) yes no) (G1 : ¬ x = (0 : Int32) → Go w Q T yes L st) (G2 : x = (0 : Int32) → Go w Q T no L st) : Go w Q T pc L (.int x :: st) := by
  obtain ⟨o, d1, d2, d3, rfl⟩ := d
  by_cases q : ¬ x = (0 : Int32)
  · exact go_step K H (fun p e m below c hx hby hA t kk => XS.ifYes hA hx rfl rfl (by rw [hby]; exact d1) rfl ((if0 _ _).trans (feq q).2) d2 d3 kk) (G1 q)
  · exact go_step K H (fun p e m below c hx hby hA t kk => XS.ifNo hA hx rfl (by rw [hby]; exact d1) rfl ((if0 _ _).trans (teq (Decidable.not_not.mp q)).2) kk) (G2 (Decidable.not_not.mp q))
theorem go_ifnull_yes (K : Cx w R Z n0 own bytes mx rt nm) (H : At1 w T h k n) {yes no : Nat} (d : Jp bytes pc .ifnull yes no) (G : Go w Q T yes L st) : Go w Q T pc L (.null :: st) := by
  obtain ⟨o, d1, d2, d3, rfl⟩ := d
  exact go_step K H (fun p e m below c hx hby hA t kk => XS.ifnullYes hA hx rfl rfl (by rw [hby]; exact d1) rfl d2 d3 kk) G
theorem go_ifnull_no (K : Cx w R Z n0 own bytes mx rt nm) (H : At1 w T h k n) {a : Addr} {yes no : Nat} (d : Jp bytes pc .ifnull yes no) (G : Go w Q T no L st) : Go w Q T pc L (.ref a :: st) := by
  obtain ⟨o, d1, d2, d3, rfl⟩ := d
  exact go_step K H (fun p e m below c hx hby hA t kk => XS.ifnullNo hA hx rfl (by rw [hby]; exact d1) rfl kk) G
theorem go_ifnonnull_yes (K : Cx w R Z n0 own bytes mx rt nm) (H : At1 w T h k n) {a : Addr} {yes no : Nat} (d : Jp bytes pc .ifnonnull yes no) (G : Go w Q T yes L st) : Go w Q T pc L (.ref a :: st) := by
  obtain ⟨o, d1, d2, d3, rfl⟩ := d
  exact go_step K H (fun p e m below c hx hby hA t kk => XS.ifnonnullYes hA hx rfl rfl (by rw [hby]; exact d1) rfl d2 d3 kk) G
theorem go_ifnonnull_no (K : Cx w R Z n0 own bytes mx rt nm) (H : At1 w T h k n) {yes no : Nat} (d : Jp bytes pc .ifnonnull yes no) (G : Go w Q T no L st) : Go w Q T pc L (.null :: st) := by
  obtain ⟨o, d1, d2, d3, rfl⟩ := d
  exact go_step K H (fun p e m below c hx hby hA t kk => XS.ifnonnullNo hA hx rfl (by rw [hby]; exact d1) rfl kk) G
theorem go_acmp_eq (K : Cx w R Z n0 own bytes mx rt nm) (H : At1 w T h k n) {x y : Value} (h1 : x.isRef = true) (h2 : y.isRef = true) {yes no : Nat} (d : Jp bytes pc (.if_acmp .eq) yes no) (G1 : x = y → Go w Q T yes L st) (G2 : ¬ x = y → Go w Q T no L st) : Go w Q T pc L (y :: x :: st) := by
  obtain ⟨p, l, e, R', s, m, args, below, meth, c, Z', k0⟩ := w
  obtain ⟨hx, hby, -⟩ := K
  obtain ⟨locs, X, -⟩ := H
  obtain ⟨o, d1, d2, d3, rfl⟩ := d
  by_cases q : x = y
  · obtain ⟨s₂, o2, g1, g2⟩ := G1 q
    exact ⟨s₂, o2, Jvm.RoadKit.acmp X hx rfl h1 h2 (pc' := yes) (same := true) rfl (by rw [hby]; exact d1) rfl (decide_eq_true q) d2 (by simp [acV, d3]) g1, g2⟩
  · obtain ⟨s₂, o2, g1, g2⟩ := G2 q
    exact ⟨s₂, o2, Jvm.RoadKit.acmp X hx rfl h1 h2 (pc' := pc + 3) (same := false) rfl (by rw [hby]; exact d1) rfl (decide_eq_false q) d2 (by simp [acV]) g1, g2⟩
theorem go_acmp_ne (K : Cx w R Z n0 own bytes mx rt nm) (H : At1 w T h k n) {x y : Value} (h1 : x.isRef = true) (h2 : y.isRef = true) {yes no : Nat} (d : Jp bytes pc (.if_acmp .ne) yes no) (G1 : ¬ x = y → Go w Q T yes L st) (G2 : x = y → Go w Q T no L st) : Go w Q T pc L (y :: x :: st) := by
  obtain ⟨p, l, e, R', s, m, args, below, meth, c, Z', k0⟩ := w
  obtain ⟨hx, hby, -⟩ := K
  obtain ⟨locs, X, -⟩ := H
  obtain ⟨o, d1, d2, d3, rfl⟩ := d
  by_cases q : x = y
  · obtain ⟨s₂, o2, g1, g2⟩ := G2 q
    exact ⟨s₂, o2, Jvm.RoadKit.acmp X hx rfl h1 h2 (pc' := pc + 3) (same := true) rfl (by rw [hby]; exact d1) rfl (decide_eq_true q) d2 (by simp [acV]) g1, g2⟩
  · obtain ⟨s₂, o2, g1, g2⟩ := G1 q
    exact ⟨s₂, o2, Jvm.RoadKit.acmp X hx rfl h1 h2 (pc' := yes) (same := false) rfl (by rw [hby]; exact d1) rfl (decide_eq_false q) d2 (by simp [acV, d3]) g1, g2⟩
/-- a step that hands on to a new state of the walk -/
theorem go_move {T' : State} (K : Cx w R Z n0 own bytes mx rt nm)
    (hs : ∀ (p : Program) (e : Env) (m : MethodId) (below : List Frame), (∃ l s args meth c, w = ⟨p, l, e, R, s, m, args, below, meth, c, Z, n0⟩) → ∀ t, Steps p.tables e below (T'.setTop (mkF m pc' L' st')) t → Steps p.tables e below (T.setTop (mkF m pc L st)) t)
    (G : Go w Q T' pc' L' st') : Go w Q T pc L st := by
  obtain ⟨p, l, e, R', s, m, args, below, meth, c, Z', k0⟩ := w
  obtain ⟨-, -, -, -, -, -, -, -, rfl, rfl, rfl, -⟩ := K
  obtain ⟨s₂, o, h1, h2⟩ := G
  exact ⟨s₂, o, hs p e m below ⟨l, s, args, meth, c, rfl⟩ _ h1, h2⟩
/-- one law a body's end -/
theorem go_leave (K : Cx w R Z n0 own bytes mx rt nm) (H : At1 w T h k n) {v : Option Value} (hv : rt = none → v = none) (hk : k ≤ R.cells) (hn : n ≤ R.slots)
    (hs : ∀ (p : Program) (l : Launch) (e : Env) (s : State) (m : MethodId) (args : Array Value) (below : List Frame) (meth : Method) (c : Code) (locs : List Loc), Stand p l e R s m args below meth c T locs k n → p.tables.exec = Jvm.exec → c.code = bytes → meth.sig.returnType = rt → ∀ fs, (∀ (f : JFrame) (acts : List Action), f.method = m → f.locked = none → f.entered = [] → (doReturn e (T.setTop f) acts v).1 = T.setFrames fs) → Steps p.tables e below (T.setTop (mkF m pc L st)) (T.setFrames fs))
    (hq : Q v h) : Go w Q T pc L st := by
  obtain ⟨p, l, e, R', s, m, args, below, meth, c, Z', k0⟩ := w
  obtain ⟨hx, hby, hml, hown, hZ, hret, hnm, hlk, rfl, rfl, rfl, h00⟩ := K
  obtain ⟨locs, X, eT, N⟩ := H
  obtain ⟨fs, hr, hrun, hended, hW, hsame⟩ := X.leave (v := v) (fun q => hv (hret ▸ q)) hlk
  exact ⟨_, _, hs p l e s m args below meth c locs X hx hby hret fs hr, hrun, hended, v, locs, rfl, ⟨by show Q v T.heap; rw [eT]; exact hq, N⟩, ⟨v, rfl⟩, hW, hsame.mono hk hn⟩
theorem go_ret (K : Cx w R Z n0 own bytes mx rt nm) (H : At1 w T h k n) {P : Heap → Prop} (d : Dc bytes pc .return_ 1 pc') (hr : rt = none) (hk : k ≤ R.cells) (hn : n ≤ R.slots) (hq : P h) : Go w (RV P) T pc L [] :=
  go_leave K H (fun _ => rfl) hk hn (fun p l e s m args below meth c locs X hx hby hret fs hl => X.returnOut hx (hret.trans hr) (dcb hby d) hl) ⟨rfl, hq⟩
theorem go_retV (K : Cx w R Z n0 own bytes mx rt nm) (H : At1 w T h k n) {v : Value} {t : FieldType} {i : Instr} (d : Dc bytes pc i 1 pc') (hr : rt = some t) (hnar : narrow t v = v)
    (hi : (i = .ireturn ∧ (t = .int ∨ t = .boolean ∨ t = .byte ∨ t = .char ∨ t = .short) ∧ ∃ z, v = .int z) ∨ (i = .lreturn ∧ t = .long ∧ ∃ z, v = .long z) ∨ (i = .dreturn ∧ t = .double ∧ ∃ z, v = .double z) ∨ (i = .freturn ∧ t = .float ∧ ∃ z, v = .float z) ∨ (i = .areturn ∧ t.isReference = true ∧ v.isRef = true))
    (hk : k ≤ R.cells) (hn : n ≤ R.slots) (hq : Q (some v) h) : Go w Q T pc L (v :: st) :=
  go_leave K H (fun q => by rw [hr] at q; cases q) hk hn (fun p l e s m args below meth c locs X hx hby hret fs hl => retOut X hx (hret.trans hr) hnar hi (dcb hby d) hl) hq
theorem go_iret (K : Cx w R Z n0 own bytes mx rt nm) (H : At1 w T h k n) {P : Int32 → Heap → Prop} {z : Int32} (d : Dc bytes pc .ireturn 1 pc') (hr : rt = some .int) (hk : k ≤ R.cells) (hn : n ≤ R.slots) (hq : P z h) : Go w (RI P) T pc L (.int z :: st) :=
  go_retV K H d hr rfl (Or.inl ⟨rfl, Or.inl rfl, z, rfl⟩) hk hn ⟨z, rfl, hq⟩
theorem go_zret (K : Cx w R Z n0 own bytes mx rt nm) (H : At1 w T h k n) {P : Int32 → Heap → Prop} {z : Int32} (d : Dc bytes pc .ireturn 1 pc') (hr : rt = some .boolean) (hz : nar .boolean z = z) (hk : k ≤ R.cells) (hn : n ≤ R.slots) (hq : P z h) : Go w (RI P) T pc L (.int z :: st) :=
  go_retV K H d hr (by show Value.int (nar .boolean z) = _; rw [hz]) (Or.inl ⟨rfl, Or.inr (Or.inl rfl), z, rfl⟩) hk hn ⟨z, rfl, hq⟩
theorem go_lret (K : Cx w R Z n0 own bytes mx rt nm) (H : At1 w T h k n) {P : Int64 → Heap → Prop} {z : Int64} (d : Dc bytes pc .lreturn 1 pc') (hr : rt = some .long) (hk : k ≤ R.cells) (hn : n ≤ R.slots) (hq : P z h) : Go w (RL P) T pc L (.long z :: st) :=
  go_retV K H d hr rfl (Or.inr (Or.inl ⟨rfl, rfl, z, rfl⟩)) hk hn ⟨z, rfl, hq⟩
theorem go_aret (K : Cx w R Z n0 own bytes mx rt nm) (H : At1 w T h k n) {P : Value → Heap → Prop} {z : Value} {t : FieldType} (d : Dc bytes pc .areturn 1 pc') (hr : rt = some t) (ht : t.isReference = true) (hz : z.isRef = true) (hk : k ≤ R.cells) (hn : n ≤ R.slots) (hq : P z h) : Go w (RR P) T pc L (z :: st) :=
  go_retV K H d hr (by rcases ref_cases hz with rfl | ⟨a, rfl⟩ <;> (cases t <;> first | rfl | (simp [FieldType.isReference] at ht))) (Or.inr (Or.inr (Or.inr (Or.inr ⟨rfl, ht, hz⟩)))) hk hn ⟨z, rfl, hz, hq⟩
theorem go_ldcI {a0 : Array Value} {idx : Nat} (z : Int32) (K : Cx w R Z n0 own bytes mx rt nm) (H : At1 w T h k n) (d : Dc bytes pc (.ldc idx) 2 pc') (w1 : (Cond.constant own idx z).before a0 Z = true) (G : Go w Q T pc' L (.int z :: st)) : Go w Q T pc L st := by
  obtain ⟨p, l, e, R', s, m, args, below, meth, c, Z', k0⟩ := w
  obtain ⟨hx, hby, hml, hown, hZ, -⟩ := K
  obtain ⟨locs, X, -⟩ := H
  obtain ⟨s₂, o, g1, g2⟩ := G
  obtain ⟨d1, rfl⟩ := d
  exact ⟨s₂, o, X.ldcInt hx hown (mvT hZ w1) rfl (by rw [hby]; exact d1) _ g1, g2⟩
theorem go_ldcwI {a0 : Array Value} {idx : Nat} (z : Int32) (K : Cx w R Z n0 own bytes mx rt nm) (H : At1 w T h k n) (d : Dc bytes pc (.ldc_w idx) 3 pc') (w1 : (Cond.constant own idx z).before a0 Z = true) (G : Go w Q T pc' L (.int z :: st)) : Go w Q T pc L st := by
  obtain ⟨p, l, e, R', s, m, args, below, meth, c, Z', k0⟩ := w
  obtain ⟨hx, hby, hml, hown, hZ, -⟩ := K
  obtain ⟨locs, X, -⟩ := H
  obtain ⟨s₂, o, g1, g2⟩ := G
  obtain ⟨d1, rfl⟩ := d
  exact ⟨s₂, o, X.ldcwInt hx hown (mvT hZ w1) rfl (by rw [hby]; exact d1) _ g1, g2⟩
theorem go_ldcL {a0 : Array Value} {idx : Nat} (z : Int64) (K : Cx w R Z n0 own bytes mx rt nm) (H : At1 w T h k n) (d : Dc bytes pc (.ldc2_w idx) 3 pc') (w1 : (Cond.constantLong own idx z).before a0 Z = true) (G : Go w Q T pc' L (.long z :: st)) : Go w Q T pc L st := by
  obtain ⟨p, l, e, R', s, m, args, below, meth, c, Z', k0⟩ := w
  obtain ⟨hx, hby, hml, hown, hZ, -⟩ := K
  obtain ⟨locs, X, -⟩ := H
  obtain ⟨s₂, o, g1, g2⟩ := G
  obtain ⟨d1, rfl⟩ := d
  exact ⟨s₂, o, X.ldc2Long hx hown (mvT hZ w1) rfl (by rw [hby]; exact d1) _ g1, g2⟩
theorem go_getfield {a0 : Array Value} {R0 O f ds host : String} {idx : Nat} {a : Addr} {v : Value} (K : Cx w R Z n0 own bytes mx rt nm) (H : At1 w T h k n) (d : Dc bytes pc (.getfield idx) 3 pc') (w1 : (Cond.fieldLink own idx R0 f ds).before a0 Z = true ∨ (Cond.fieldLinkNest own idx R0 f ds host).before a0 Z = true) (via : Via Z R0 O f ds) (F : Fld Z h a O f ds v)
    (G : ∀ T', At1 w T' h k n → Go w Q T' pc' L (v :: st)) : Go w Q T pc L (.ref a :: st) := by
  obtain ⟨p, l, e, R', s, m, args, below, meth, c, Z', k0⟩ := w
  obtain ⟨hx, hby, hml, hown, hZ, -⟩ := K
  obtain ⟨locs, X, eT, N⟩ := H
  obtain ⟨d1, rfl⟩ := d
  obtain ⟨T', X', e', stp⟩ := getF X hx hZ hown w1 via eT F (g := mkF m pc L (.ref a :: st)) rfl rfl (by rw [hby]; exact d1)
  obtain ⟨s₂, o, g1, g2⟩ := G T' ⟨locs, X', e', N⟩
  exact ⟨s₂, o, stp _ g1, g2⟩
theorem go_getstatic {a0 : Array Value} {R0 O f ds host : String} {idx : Nat} {v : Value} (K : Cx w R Z n0 own bytes mx rt nm) (H : At1 w T h k n) (d : Dc bytes pc (.getstatic idx) 3 pc') (w1 : (Cond.fieldLink own idx R0 f ds).before a0 Z = true ∨ (Cond.fieldLinkNest own idx R0 f ds host).before a0 Z = true) (via : Via Z R0 O f ds) (F : Sta Z h O f ds v)
    (G : ∀ T', At1 w T' h k n → Go w Q T' pc' L (v :: st)) : Go w Q T pc L st := by
  obtain ⟨p, l, e, R', s, m, args, below, meth, c, Z', k0⟩ := w
  obtain ⟨hx, hby, hml, hown, hZ, -⟩ := K
  obtain ⟨locs, X, eT, N⟩ := H
  obtain ⟨d1, rfl⟩ := d
  obtain ⟨T', X', e', stp⟩ := getS2 X hx hZ hown w1 via eT F (g := mkF m pc L st) rfl (by rw [hby]; exact d1)
  obtain ⟨s₂, o, g1, g2⟩ := G T' ⟨locs, X', e', N⟩
  exact ⟨s₂, o, stp _ g1, g2⟩
theorem go_putfield {a0 : Array Value} {R0 O f ds host C : String} {idx kk : Nat} {a : Addr} {v old : Value} {ty : FieldType} (K : Cx w R Z n0 own bytes mx rt nm) (H : At1 w T h k n) (d : Dc bytes pc (.putfield idx) 3 pc') (w1 : (Cond.fieldLink own idx R0 f ds).before a0 Z = true ∨ (Cond.fieldLinkNest own idx R0 f ds host).before a0 Z = true) (via : Via Z R0 O f ds)
    (F : Fld Z h a O f ds old) (E : Exa Z h a C) (Ly : (Cond.lays C O f ds).before a0 Z = true ∨ ((Cond.laysFinal C O f ds).before a0 Z = true ∧ own = O ∧ nm = "<init>")) (wi : (Cond.instantiable C kk).before a0 Z = true)
    (hty : parseFieldDescriptor ds = some ty) (hn : narrow ty v = v) (hf : fits ty v = true) (ha : n0 ≤ a)
    (G : ∀ T' h', At1 w T' h' k n → Wr h h' a (Jvm.RoadKit.slotOf Z O f ds) v → Go w Q T' pc' L st) : Go w Q T pc L (v :: .ref a :: st) := by
  obtain ⟨p, l, e, R', s, m, args, below, meth, c, Z', k0⟩ := w
  obtain ⟨hx, hby, hml, hown, hZ, hret, hnm, hlk, rfl, rfl, rfl, h00⟩ := K
  obtain ⟨locs, X, eT, N⟩ := H
  obtain ⟨d1, rfl⟩ := d
  obtain ⟨T', h', X', e', W, stp⟩ := putF X hx hZ hown w1 via eT F E (Ly.imp id fun q => ⟨q.1, q.2.1, hnm.trans q.2.2⟩) wi hty hn hf (g := mkF m pc L (v :: .ref a :: st)) rfl rfl (by rw [hby]; exact d1)
  obtain ⟨s₂, o, g1, g2⟩ := G T' h' ⟨_, X', e', Fr.snoc X' N ha⟩ W
  exact ⟨s₂, o, stp _ g1, g2⟩
theorem go_putfieldN {a0 : Array Value} {R0 O f ds C : String} {idx kk : Nat} {a : Addr} {v v' old : Value} {ty : FieldType} (K : Cx w R Z n0 own bytes mx rt nm) (H : At1 w T h k n) (d : Dc bytes pc (.putfield idx) 3 pc') (w1 : (Cond.fieldLink own idx R0 f ds).before a0 Z = true) (via : Via Z R0 O f ds)
    (F : Fld Z h a O f ds old) (E : Exa Z h a C) (Ly : (Cond.lays C O f ds).before a0 Z = true ∨ ((Cond.laysFinal C O f ds).before a0 Z = true ∧ own = O ∧ nm = "<init>")) (wi : (Cond.instantiable C kk).before a0 Z = true)
    (hty : parseFieldDescriptor ds = some ty) (hn : narrow ty v = v') (hf : fits ty v' = true) (ha : n0 ≤ a)
    (G : ∀ T' h', At1 w T' h' k n → Wr h h' a (Jvm.RoadKit.slotOf Z O f ds) v' → Go w Q T' pc' L st) : Go w Q T pc L (v :: .ref a :: st) := by
  obtain ⟨p, l, e, R', s, m, args, below, meth, c, Z', k0⟩ := w
  obtain ⟨hx, hby, hml, hown, hZ, hret, hnm, hlk, rfl, rfl, rfl, h00⟩ := K
  obtain ⟨locs, X, eT, N⟩ := H
  obtain ⟨d1, rfl⟩ := d
  obtain ⟨T', h', X', e', W, stp⟩ := putFN X hx hZ hown w1 via eT F E (Ly.imp id fun q => ⟨q.1, q.2.1, hnm.trans q.2.2⟩) wi hty hn hf (g := mkF m pc L (v :: .ref a :: st)) rfl rfl (by rw [hby]; exact d1)
  obtain ⟨s₂, o, g1, g2⟩ := G T' h' ⟨_, X', e', Fr.snoc X' N ha⟩ W
  exact ⟨s₂, o, stp _ g1, g2⟩
theorem go_new {a0 : Array Value} {C : String} {idx sl : Nat} (K : Cx w R Z n0 own bytes mx rt nm) (H : At1 w T h k n) (d : Dc bytes pc (.new idx) 3 pc') (w1 : (Cond.classLink own idx C).before a0 Z = true) (w2 : (Cond.instantiable C sl).before a0 Z = true) (w3 : (Cond.initialized C).before a0 Z = true) (hk : k + 1 ≤ R.cells) (hn : n + sl ≤ R.slots)
    (G : ∀ T' h' a, At1 w T' h' (k + 1) (n + sl) → a = h.size → n0 ≤ a → Ext h h' → Exa Z h' a C → (∀ {O f ds : String} {ty : FieldType}, Laid Z a0 C O f ds → parseFieldDescriptor ds = some ty → Fld Z h' a O f ds (defaultValue ty)) → Go w Q T' pc' L (.ref a :: st)) : Go w Q T pc L st := by
  obtain ⟨p, l, e, R', s, m, args, below, meth, c, Z', k0⟩ := w
  obtain ⟨hx, hby, hml, hown, hZ, hret, hnm, hlk, rfl, rfl, rfl, h00⟩ := K
  obtain ⟨locs, X, eT, N⟩ := H
  obtain ⟨d1, rfl⟩ := d
  obtain ⟨T', h', X', e', E, A, D, -, stp⟩ := newO X hx hZ hown w1 w2 w3 eT (g := mkF m pc L st) rfl (by rw [hby]; exact d1) hk hn
  obtain ⟨s₂, o, g1, g2⟩ := G T' h' h.size ⟨_, X', e', N⟩ rfl (by rw [← eT]; exact Nat.le_trans h00 X.same.2.1) E A D
  exact ⟨s₂, o, stp _ g1, g2⟩
theorem go_initO {a0 : Array Value} {idx : Nat} {a : Addr} (K : Cx w R Z n0 own bytes mx rt nm) (H : At1 w T h k n) (d : Dc bytes pc (.invokespecial idx) 3 pc') (w1 : (Cond.methodLink own idx Lib.objectInit).before a0 Z = true) (w2 : (Cond.instanceMethod Lib.objectInit).before a0 Z = true) (w3 : (Cond.code Lib.objectInit ⟨#[0xb1]⟩ 1 none).before a0 Z = true)
    (hL : L.size = mx) (hf : 1 ≤ R.frames) {W : Nat} (hW : (st.map fun v => v.category).sum = W) (hl : W + 12 ≤ R.locals)
    (G : ∀ T', At1 w T' h k n → Go w Q T' pc' L st) : Go w Q T pc L (.ref a :: st) := by
  obtain ⟨p, l, e, R', s, m, args, below, meth, c, Z', k0⟩ := w
  obtain ⟨hx, hby, hml, hown, hZ, hret, hnm, hlk, rfl, rfl, rfl, h00⟩ := K
  obtain ⟨locs, X, eT, N⟩ := H
  obtain ⟨d1, rfl⟩ := d
  obtain ⟨T', X', e', stp⟩ := initO X hx hZ hown w1 w2 w3 eT (g := mkF m pc L (.ref a :: st)) rfl (hL.trans hml.symm) rfl (by rw [hby]; exact d1) hf (W := W) (by show 2 * 0 + _ ≤ _; rw [hW]; omega) hl
  obtain ⟨s₂, o, g1, g2⟩ := G T' ⟨locs, X', e', N⟩
  exact ⟨s₂, o, stp _ g1, g2⟩
/-- an array: all its components -/
def VA (Z : State) (h : Heap) (a : Addr) (ty : FieldType) (vs : List Value) : Prop := ∃ c : Cell, Arr Z h a c ty ∧ c.slots.toList = vs ∧ vs.length < 2 ^ 31
def IA (Z : State) (h : Heap) (a : Addr) (xs : List Int32) : Prop := VA Z h a .int (xs.map Value.int)
def JA (Z : State) (h : Heap) (a : Addr) (xs : List Int64) : Prop := VA Z h a .long (xs.map Value.long)
theorem VA.ext {a : Addr} {ty : FieldType} {vs : List Value} {h' : Heap} (A : VA Z h a ty vs) (E : Ext h h') : VA Z h' a ty vs := by obtain ⟨c, A, r⟩ := A; exact ⟨c, A.ext E, r⟩
theorem VA.other {a b : Addr} {ty : FieldType} {vs : List Value} {h' : Heap} {sl : Nat} {v : Value} (A : VA Z h a ty vs) (W : Wr h h' b sl v) (q : a ≠ b) : VA Z h' a ty vs := by obtain ⟨c, A, r⟩ := A; exact ⟨c, A.other W q, r⟩
theorem VA.keep {a : Addr} {ty : FieldType} {vs : List Value} {h' : Heap} {ws : List Addr} (A : VA Z h a ty vs) (K : Keep h h' ws) (q : a ∉ ws) : VA Z h' a ty vs := by obtain ⟨c, A, r⟩ := A; exact ⟨c, ⟨K.2.1 a c A.1 q, A.2⟩, r⟩
theorem VA.lt {a : Addr} {ty : FieldType} {vs : List Value} (A : VA Z h a ty vs) : a < h.size := by obtain ⟨c, A, r⟩ := A; exact A.lt
theorem VA.len {a : Addr} {ty : FieldType} {vs : List Value} (A : VA Z h a ty vs) : vs.length < 2 ^ 31 := by obtain ⟨c, A, r1, r2⟩ := A; exact r2
theorem VA.set {a : Addr} {ty : FieldType} {vs : List Value} {h' : Heap} {i : Nat} {v : Value} (A : VA Z h a ty vs) (W : Wr h h' a i v) : VA Z h' a ty (vs.set i v) := by
  obtain ⟨c, A, r1, r2⟩ := A
  exact ⟨_, A.same W, by simp [Cell.setSlot, r1], by simpa using r2⟩
theorem IA.ext {a : Addr} {xs : List Int32} {h' : Heap} (A : IA Z h a xs) (E : Ext h h') : IA Z h' a xs := VA.ext A E
theorem IA.other {a b : Addr} {xs : List Int32} {h' : Heap} {sl : Nat} {v : Value} (A : IA Z h a xs) (W : Wr h h' b sl v) (q : a ≠ b) : IA Z h' a xs := VA.other A W q
theorem IA.keep {a : Addr} {xs : List Int32} {h' : Heap} {ws : List Addr} (A : IA Z h a xs) (K : Keep h h' ws) (q : a ∉ ws) : IA Z h' a xs := VA.keep A K q
theorem IA.lt {a : Addr} {xs : List Int32} (A : IA Z h a xs) : a < h.size := VA.lt A
theorem IA.len {a : Addr} {xs : List Int32} (A : IA Z h a xs) : xs.length < 2 ^ 31 := by simpa using VA.len A
theorem IA.set {a : Addr} {xs : List Int32} {h' : Heap} {i : Nat} {x : Int32} (A : IA Z h a xs) (W : Wr h h' a i (.int x)) : IA Z h' a (xs.set i x) := by
  have q := VA.set A W
  rw [← List.map_set] at q; exact q
theorem JA.ext {a : Addr} {xs : List Int64} {h' : Heap} (A : JA Z h a xs) (E : Ext h h') : JA Z h' a xs := VA.ext A E
theorem JA.other {a b : Addr} {xs : List Int64} {h' : Heap} {sl : Nat} {v : Value} (A : JA Z h a xs) (W : Wr h h' b sl v) (q : a ≠ b) : JA Z h' a xs := VA.other A W q
theorem JA.keep {a : Addr} {xs : List Int64} {h' : Heap} {ws : List Addr} (A : JA Z h a xs) (K : Keep h h' ws) (q : a ∉ ws) : JA Z h' a xs := VA.keep A K q
theorem JA.lt {a : Addr} {xs : List Int64} (A : JA Z h a xs) : a < h.size := VA.lt A
theorem JA.len {a : Addr} {xs : List Int64} (A : JA Z h a xs) : xs.length < 2 ^ 31 := by simpa using VA.len A
theorem JA.set {a : Addr} {xs : List Int64} {h' : Heap} {i : Nat} {x : Int64} (A : JA Z h a xs) (W : Wr h h' a i (.long x)) : JA Z h' a (xs.set i x) := by
  have q := VA.set A W
  rw [← List.map_set] at q; exact q
theorem idx_nat {j : Int32} {i : Nat} (hj : j.toInt = (i : Int)) : ¬ j < 0 ∧ j.toNatClampNeg = i := by
  constructor
  · rw [Int32.lt_iff_toInt_lt, hj]; show ¬ ((i : Int) < 0); omega
  · simp only [Int32.toNatClampNeg, hj]; omega
theorem slot_at {c : Cell} {vs : List Value} {i : Nat} {v : Value} (r : c.slots.toList = vs) (hi : vs[i]? = some v) : c.slots[i]? = some v := by rw [← Array.getElem?_toList, r]; exact hi
theorem inb_at {c : Cell} {vs : List Value} {j : Int32} {i : Nat} (r : c.slots.toList = vs) (hj : j.toInt = (i : Int)) (hi : i < vs.length) : ¬ (j < 0 ∨ c.slots.size ≤ j.toNatClampNeg) := by
  obtain ⟨h1, h2⟩ := idx_nat hj
  have e : c.slots.size = vs.length := by rw [← r]; simp
  rw [h2, e]
  rintro (q | q)
  · exact h1 q
  · omega
theorem lt_of_at {α : Type} {vs : List α} {i : Nat} {v : α} (hi : vs[i]? = some v) : i < vs.length := (List.getElem?_eq_some_iff.mp hi).1
theorem go_newarray {a0 : Array Value} {aty : ArrayType} {m : Int32} (cap : Nat) (K : Cx w R Z n0 own bytes mx rt nm) (H : At1 w T h k n) (d : Dc bytes pc (.newarray aty) 2 pc') (w1 : (Cond.arrayClass (newarray.typeOf aty)).before a0 Z = true) (hm : ¬ m < 0) (hcap : m.toNatClampNeg ≤ cap) (hb : cap * 8 ≤ 536870912) (hk : k + 1 ≤ R.cells) (hn : n + cap ≤ R.slots)
    (G : ∀ T' h' a, At1 w T' h' (k + 1) (n + cap) → a = h.size → n0 ≤ a → Ext h h' → VA Z h' a (newarray.typeOf aty) (List.replicate m.toNatClampNeg (defaultValue (newarray.typeOf aty))) → Go w Q T' pc' L (.ref a :: st)) : Go w Q T pc L (.int m :: st) := by
  obtain ⟨p, l, e, R', s, mm, args, below, meth, c, Z', k0⟩ := w
  obtain ⟨hx, hby, hml, hown, hZ, hret, hnm, hlk, rfl, rfl, rfl, h00⟩ := K
  obtain ⟨locs, X, eT, N⟩ := H
  obtain ⟨d1, rfl⟩ := d
  obtain ⟨T', h', cA, X', e', E, A, stp⟩ := newP X hx hZ w1 eT (g := mkF mm pc L (.int m :: st)) rfl (by rw [hby]; exact d1) rfl hm hcap hb hk hn
  obtain ⟨s₂, o, g1, g2⟩ := G T' h' h.size ⟨_, X', e', N⟩ rfl (by rw [← eT]; exact Nat.le_trans h00 X.same.2.1) E ⟨_, A, by simp [newA], by simpa using (back32 hm).2⟩
  exact ⟨s₂, o, stp _ g1, g2⟩
theorem go_arraylength {a : Addr} {ty : FieldType} {vs : List Value} (K : Cx w R Z n0 own bytes mx rt nm) (H : At1 w T h k n) (d : Dc bytes pc .arraylength 1 pc') (A : VA Z h a ty vs) (G : ∀ z : Int32, z.toInt = (vs.length : Int) → Go w Q T pc' L (.int z :: st)) : Go w Q T pc L (.ref a :: st) := by
  obtain ⟨p, l, e, R', s, m, args, below, meth, c, Z', k0⟩ := w
  obtain ⟨hx, hby, hml, hown, hZ, -⟩ := K
  obtain ⟨locs, X, eT, N⟩ := H
  obtain ⟨d1, rfl⟩ := d
  obtain ⟨cl, A, r1, r2⟩ := A
  have e : cl.slots.size = vs.length := by rw [← r1]; simp
  obtain ⟨s₂, o, g1, g2⟩ := G cl.slots.size.toInt32 (by rw [e]; exact len_toInt r2)
  exact ⟨s₂, o, X.arraylength hx (by rw [eT]; exact A.1) (State.isArrayOf_alike hZ.alike A.2.1) (g := mkF m pc L (.ref a :: st)) rfl rfl (by rw [hby]; exact d1) _ g1, g2⟩
theorem go_iaload {a : Addr} {vs : List Value} {j : Int32} (i : Nat) {v : Value} (K : Cx w R Z n0 own bytes mx rt nm) (H : At1 w T h k n) (d : Dc bytes pc .iaload 1 pc') (A : VA Z h a .int vs) (hj : j.toInt = (i : Int)) (hi : vs[i]? = some v) (G : Go w Q T pc' L (v :: st)) : Go w Q T pc L (.int j :: .ref a :: st) := by
  obtain ⟨p, l, e, R', s, m, args, below, meth, c, Z', k0⟩ := w
  obtain ⟨hx, hby, hml, hown, hZ, -⟩ := K
  obtain ⟨locs, X, eT, N⟩ := H
  obtain ⟨d1, rfl⟩ := d
  obtain ⟨cl, A, r1, r2⟩ := A
  obtain ⟨s₂, o, g1, g2⟩ := G
  exact ⟨s₂, o, X.iaload hx (by rw [eT]; exact A.1) (State.isArrayOf_alike hZ.alike A.2.1) A.2.2 (inb_at r1 hj (lt_of_at hi)) (by rw [(idx_nat hj).2]; exact slot_at r1 hi) (g := mkF m pc L (.int j :: .ref a :: st)) rfl rfl (by rw [hby]; exact d1) _ g1, g2⟩
theorem go_laload {a : Addr} {vs : List Value} {j : Int32} (i : Nat) {v : Value} (K : Cx w R Z n0 own bytes mx rt nm) (H : At1 w T h k n) (d : Dc bytes pc .laload 1 pc') (A : VA Z h a .long vs) (hj : j.toInt = (i : Int)) (hi : vs[i]? = some v) (G : Go w Q T pc' L (v :: st)) : Go w Q T pc L (.int j :: .ref a :: st) := by
  obtain ⟨p, l, e, R', s, m, args, below, meth, c, Z', k0⟩ := w
  obtain ⟨hx, hby, hml, hown, hZ, -⟩ := K
  obtain ⟨locs, X, eT, N⟩ := H
  obtain ⟨d1, rfl⟩ := d
  obtain ⟨cl, A, r1, r2⟩ := A
  obtain ⟨s₂, o, g1, g2⟩ := G
  exact ⟨s₂, o, X.laload hx (by rw [eT]; exact A.1) (State.isArrayOf_alike hZ.alike A.2.1) A.2.2 (inb_at r1 hj (lt_of_at hi)) (by rw [(idx_nat hj).2]; exact slot_at r1 hi) (g := mkF m pc L (.int j :: .ref a :: st)) rfl rfl (by rw [hby]; exact d1) _ g1, g2⟩
theorem go_caload {a : Addr} {vs : List Value} {j : Int32} (i : Nat) {v : Value} (K : Cx w R Z n0 own bytes mx rt nm) (H : At1 w T h k n) (d : Dc bytes pc .caload 1 pc') (A : VA Z h a .char vs) (hj : j.toInt = (i : Int)) (hi : vs[i]? = some v) (G : Go w Q T pc' L (v :: st)) : Go w Q T pc L (.int j :: .ref a :: st) := by
  obtain ⟨p, l, e, R', s, m, args, below, meth, c, Z', k0⟩ := w
  obtain ⟨hx, hby, hml, hown, hZ, -⟩ := K
  obtain ⟨locs, X, eT, N⟩ := H
  obtain ⟨d1, rfl⟩ := d
  obtain ⟨cl, A, r1, r2⟩ := A
  obtain ⟨s₂, o, g1, g2⟩ := G
  exact ⟨s₂, o, X.caload hx (by rw [eT]; exact A.1) (State.isArrayOf_alike hZ.alike A.2.1) A.2.2 (inb_at r1 hj (lt_of_at hi)) (by rw [(idx_nat hj).2]; exact slot_at r1 hi) (g := mkF m pc L (.int j :: .ref a :: st)) rfl rfl (by rw [hby]; exact d1) _ g1, g2⟩
theorem go_baload {a : Addr} {vs : List Value} {j : Int32} (i : Nat) {v : Value} (K : Cx w R Z n0 own bytes mx rt nm) (H : At1 w T h k n) (d : Dc bytes pc .baload 1 pc') (A : VA Z h a .byte vs) (hj : j.toInt = (i : Int)) (hi : vs[i]? = some v) (G : Go w Q T pc' L (v :: st)) : Go w Q T pc L (.int j :: .ref a :: st) := by
  obtain ⟨p, l, e, R', s, m, args, below, meth, c, Z', k0⟩ := w
  obtain ⟨hx, hby, hml, hown, hZ, -⟩ := K
  obtain ⟨locs, X, eT, N⟩ := H
  obtain ⟨d1, rfl⟩ := d
  obtain ⟨cl, A, r1, r2⟩ := A
  obtain ⟨s₂, o, g1, g2⟩ := G
  exact ⟨s₂, o, X.baloadBytes hx (by rw [eT]; exact A.1) (State.isArrayOf_alike hZ.alike A.2.1) A.2.2 (inb_at r1 hj (lt_of_at hi)) (by rw [(idx_nat hj).2]; exact slot_at r1 hi) (g := mkF m pc L (.int j :: .ref a :: st)) rfl rfl (by rw [hby]; exact d1) _ g1, g2⟩
theorem go_aaload {a : Addr} {ty : FieldType} {vs : List Value} {j : Int32} (i : Nat) {v : Value} (K : Cx w R Z n0 own bytes mx rt nm) (H : At1 w T h k n) (d : Dc bytes pc .aaload 1 pc') (A : VA Z h a ty vs) (hty : ty.isReference = true) (hj : j.toInt = (i : Int)) (hi : vs[i]? = some v) (G : Go w Q T pc' L (v :: st)) : Go w Q T pc L (.int j :: .ref a :: st) := by
  obtain ⟨p, l, e, R', s, m, args, below, meth, c, Z', k0⟩ := w
  obtain ⟨hx, hby, hml, hown, hZ, -⟩ := K
  obtain ⟨locs, X, eT, N⟩ := H
  obtain ⟨d1, rfl⟩ := d
  obtain ⟨cl, A, r1, r2⟩ := A
  obtain ⟨s₂, o, g1, g2⟩ := G
  exact ⟨s₂, o, X.aaload hx (by rw [eT]; exact A.1) (State.isArrayOf_alike hZ.alike A.2.1) hty A.2.2 (inb_at r1 hj (lt_of_at hi)) (by rw [(idx_nat hj).2]; exact slot_at r1 hi) (g := mkF m pc L (.int j :: .ref a :: st)) rfl rfl (by rw [hby]; exact d1) _ g1, g2⟩
theorem go_iastore {a : Addr} {vs : List Value} {j : Int32} {x : Int32} (i : Nat) (K : Cx w R Z n0 own bytes mx rt nm) (H : At1 w T h k n) (d : Dc bytes pc .iastore 1 pc') (A : VA Z h a .int vs) (hj : j.toInt = (i : Int)) (hi : i < vs.length) (ha : n0 ≤ a) (G : ∀ T' h', At1 w T' h' k n → Wr h h' a i (.int x) → Go w Q T' pc' L st) : Go w Q T pc L (.int x :: .int j :: .ref a :: st) := by
  obtain ⟨p, l, e, R', s, m, args, below, meth, c, Z', k0⟩ := w
  obtain ⟨hx, hby, hml, hown, hZ, hret, hnm, hlk, rfl, rfl, rfl, h00⟩ := K
  obtain ⟨locs, X, eT, N⟩ := H
  obtain ⟨d1, rfl⟩ := d
  obtain ⟨cl, A, r1, r2⟩ := A
  obtain ⟨T', h', X', e', W, stp⟩ := stI X hx hZ eT A (inb_at r1 hj hi) (g := mkF m pc L (.int x :: .int j :: .ref a :: st)) rfl rfl (by rw [hby]; exact d1)
  obtain ⟨s₂, o, g1, g2⟩ := G T' h' ⟨_, X', e', Fr.snoc X' N ha⟩ (by rw [← (idx_nat hj).2]; exact W)
  exact ⟨s₂, o, stp _ g1, g2⟩
theorem go_lastore {a : Addr} {vs : List Value} {j : Int32} {x : Int64} (i : Nat) (K : Cx w R Z n0 own bytes mx rt nm) (H : At1 w T h k n) (d : Dc bytes pc .lastore 1 pc') (A : VA Z h a .long vs) (hj : j.toInt = (i : Int)) (hi : i < vs.length) (ha : n0 ≤ a) (G : ∀ T' h', At1 w T' h' k n → Wr h h' a i (.long x) → Go w Q T' pc' L st) : Go w Q T pc L (.long x :: .int j :: .ref a :: st) := by
  obtain ⟨p, l, e, R', s, m, args, below, meth, c, Z', k0⟩ := w
  obtain ⟨hx, hby, hml, hown, hZ, hret, hnm, hlk, rfl, rfl, rfl, h00⟩ := K
  obtain ⟨locs, X, eT, N⟩ := H
  obtain ⟨d1, rfl⟩ := d
  obtain ⟨cl, A, r1, r2⟩ := A
  obtain ⟨T', h', X', e', W, stp⟩ := stJ X hx hZ eT A (inb_at r1 hj hi) (g := mkF m pc L (.long x :: .int j :: .ref a :: st)) rfl rfl (by rw [hby]; exact d1)
  obtain ⟨s₂, o, g1, g2⟩ := G T' h' ⟨_, X', e', Fr.snoc X' N ha⟩ (by rw [← (idx_nat hj).2]; exact W)
  exact ⟨s₂, o, stp _ g1, g2⟩
theorem go_castore {a : Addr} {vs : List Value} {j : Int32} {x : Int32} (i : Nat) (K : Cx w R Z n0 own bytes mx rt nm) (H : At1 w T h k n) (d : Dc bytes pc .castore 1 pc') (A : VA Z h a .char vs) (hj : j.toInt = (i : Int)) (hi : i < vs.length) (ha : n0 ≤ a) (G : ∀ T' h', At1 w T' h' k n → Wr h h' a i (.int (nar .char x)) → Go w Q T' pc' L st) : Go w Q T pc L (.int x :: .int j :: .ref a :: st) := by
  obtain ⟨p, l, e, R', s, m, args, below, meth, c, Z', k0⟩ := w
  obtain ⟨hx, hby, hml, hown, hZ, hret, hnm, hlk, rfl, rfl, rfl, h00⟩ := K
  obtain ⟨locs, X, eT, N⟩ := H
  obtain ⟨d1, rfl⟩ := d
  obtain ⟨cl, A, r1, r2⟩ := A
  obtain ⟨T', h', X', e', W, stp⟩ := stC X hx hZ eT A (inb_at r1 hj hi) (g := mkF m pc L (.int x :: .int j :: .ref a :: st)) rfl rfl (by rw [hby]; exact d1)
  obtain ⟨s₂, o, g1, g2⟩ := G T' h' ⟨_, X', e', Fr.snoc X' N ha⟩ (by rw [← (idx_nat hj).2]; exact W)
  exact ⟨s₂, o, stp _ g1, g2⟩
theorem go_bastore {a : Addr} {vs : List Value} {j : Int32} {x : Int32} (i : Nat) (K : Cx w R Z n0 own bytes mx rt nm) (H : At1 w T h k n) (d : Dc bytes pc .bastore 1 pc') (A : VA Z h a .byte vs) (hj : j.toInt = (i : Int)) (hi : i < vs.length) (ha : n0 ≤ a) (G : ∀ T' h', At1 w T' h' k n → Wr h h' a i (.int x.toInt8.toInt32) → Go w Q T' pc' L st) : Go w Q T pc L (.int x :: .int j :: .ref a :: st) := by
  obtain ⟨p, l, e, R', s, m, args, below, meth, c, Z', k0⟩ := w
  obtain ⟨hx, hby, hml, hown, hZ, hret, hnm, hlk, rfl, rfl, rfl, h00⟩ := K
  obtain ⟨locs, X, eT, N⟩ := H
  obtain ⟨d1, rfl⟩ := d
  obtain ⟨cl, A, r1, r2⟩ := A
  obtain ⟨T', h', X', e', W, stp⟩ := stB X hx hZ eT A (inb_at r1 hj hi) (g := mkF m pc L (.int x :: .int j :: .ref a :: st)) rfl rfl (by rw [hby]; exact d1)
  obtain ⟨s₂, o, g1, g2⟩ := G T' h' ⟨_, X', e', Fr.snoc X' N ha⟩ (by rw [← (idx_nat hj).2]; exact W)
  exact ⟨s₂, o, stp _ g1, g2⟩
theorem at_nat {α : Type} {xs : List α} {j : Int32} (h0 : 0 ≤ j.toInt) (h1 : j.toInt < xs.length) : ∃ (i : Nat) (x : α), j.toInt = (i : Int) ∧ xs[i]? = some x :=
  ⟨j.toInt.toNat, _, (Int.toNat_of_nonneg h0).symm, List.getElem?_eq_getElem (by omega)⟩
theorem go_iaI {a : Addr} {xs : List Int32} {j : Int32} (K : Cx w R Z n0 own bytes mx rt nm) (H : At1 w T h k n) (d : Dc bytes pc .iaload 1 pc') (A : IA Z h a xs) (h0 : 0 ≤ j.toInt) (h1 : j.toInt < xs.length) (G : ∀ (i : Nat) (x : Int32), j.toInt = (i : Int) → xs[i]? = some x → Go w Q T pc' L (.int x :: st)) : Go w Q T pc L (.int j :: .ref a :: st) := by
  obtain ⟨i, x, e, hx⟩ := at_nat h0 h1
  exact go_iaload i K H d A e (by rw [List.getElem?_map, hx]; rfl) (G i x e hx)
theorem go_laJ {a : Addr} {xs : List Int64} {j : Int32} (K : Cx w R Z n0 own bytes mx rt nm) (H : At1 w T h k n) (d : Dc bytes pc .laload 1 pc') (A : JA Z h a xs) (h0 : 0 ≤ j.toInt) (h1 : j.toInt < xs.length) (G : ∀ (i : Nat) (x : Int64), j.toInt = (i : Int) → xs[i]? = some x → Go w Q T pc' L (.long x :: st)) : Go w Q T pc L (.int j :: .ref a :: st) := by
  obtain ⟨i, x, e, hx⟩ := at_nat h0 h1
  exact go_laload i K H d A e (by rw [List.getElem?_map, hx]; rfl) (G i x e hx)
theorem go_iasI {a : Addr} {xs : List Int32} {j x : Int32} (K : Cx w R Z n0 own bytes mx rt nm) (H : At1 w T h k n) (d : Dc bytes pc .iastore 1 pc') (A : IA Z h a xs) (h0 : 0 ≤ j.toInt) (h1 : j.toInt < xs.length) (ha : n0 ≤ a) (G : ∀ T' h' (i : Nat), At1 w T' h' k n → j.toInt = (i : Int) → Wr h h' a i (.int x) → IA Z h' a (xs.set i x) → Go w Q T' pc' L st) : Go w Q T pc L (.int x :: .int j :: .ref a :: st) := by
  have e : j.toInt = (j.toInt.toNat : Int) := (Int.toNat_of_nonneg h0).symm
  exact go_iastore j.toInt.toNat K H d A e (by rw [List.length_map]; omega) ha fun T' h' H' W => G T' h' _ H' e W (IA.set A W)
theorem go_lasJ {a : Addr} {xs : List Int64} {j : Int32} {x : Int64} (K : Cx w R Z n0 own bytes mx rt nm) (H : At1 w T h k n) (d : Dc bytes pc .lastore 1 pc') (A : JA Z h a xs) (h0 : 0 ≤ j.toInt) (h1 : j.toInt < xs.length) (ha : n0 ≤ a) (G : ∀ T' h' (i : Nat), At1 w T' h' k n → j.toInt = (i : Int) → Wr h h' a i (.long x) → JA Z h' a (xs.set i x) → Go w Q T' pc' L st) : Go w Q T pc L (.long x :: .int j :: .ref a :: st) := by
  have e : j.toInt = (j.toInt.toNat : Int) := (Int.toNat_of_nonneg h0).symm
  exact go_lastore j.toInt.toNat K H d A e (by rw [List.length_map]; omega) ha fun T' h' H' W => G T' h' _ H' e W (JA.set A W)
/-- an array of references over C: all its components -/
def OA (Z : State) (h : Heap) (a : Addr) (C : String) (vs : List Value) : Prop := ∃ c : Cell, Arr Z h a c (.object C) ∧ c.slots.toList = vs ∧ vs.length < 2 ^ 31 ∧ Ovr Z c.cls C
theorem OA.va {a : Addr} {C : String} {vs : List Value} (A : OA Z h a C vs) : VA Z h a (.object C) vs := by obtain ⟨c, A, r1, r2, -⟩ := A; exact ⟨c, A, r1, r2⟩
theorem OA.ext {a : Addr} {C : String} {vs : List Value} {h' : Heap} (A : OA Z h a C vs) (E : Ext h h') : OA Z h' a C vs := by obtain ⟨c, A, r⟩ := A; exact ⟨c, A.ext E, r⟩
theorem OA.other {a b : Addr} {C : String} {vs : List Value} {h' : Heap} {sl : Nat} {v : Value} (A : OA Z h a C vs) (W : Wr h h' b sl v) (q : a ≠ b) : OA Z h' a C vs := by obtain ⟨c, A, r⟩ := A; exact ⟨c, A.other W q, r⟩
theorem OA.keep {a : Addr} {C : String} {vs : List Value} {h' : Heap} {ws : List Addr} (A : OA Z h a C vs) (K : Keep h h' ws) (q : a ∉ ws) : OA Z h' a C vs := by obtain ⟨c, A, r⟩ := A; exact ⟨c, ⟨K.2.1 a c A.1 q, A.2⟩, r⟩
theorem OA.lt {a : Addr} {C : String} {vs : List Value} (A : OA Z h a C vs) : a < h.size := A.va.lt
theorem OA.set {a : Addr} {C : String} {vs : List Value} {h' : Heap} {i : Nat} {v : Value} (A : OA Z h a C vs) (W : Wr h h' a i v) : OA Z h' a C (vs.set i v) := by
  obtain ⟨c, A, r1, r2, r3⟩ := A
  exact ⟨_, A.same W, by simp [Cell.setSlot, r1], by simpa using r2, r3⟩
theorem go_anewarray {a0 : Array Value} {C : String} {idx : Nat} {m : Int32} (cap : Nat) (K : Cx w R Z n0 own bytes mx rt nm) (H : At1 w T h k n) (d : Dc bytes pc (.anewarray idx) 3 pc') (w1 : (Cond.classLink own idx C).before a0 Z = true) (w2 : (Cond.arrayOver (.object C)).before a0 Z = true) (hm : ¬ m < 0) (hcap : m.toNatClampNeg ≤ cap) (hb : cap * 8 ≤ 536870912) (hk : k + 1 ≤ R.cells) (hn : n + cap ≤ R.slots)
    (G : ∀ T' h' a, At1 w T' h' (k + 1) (n + cap) → a = h.size → n0 ≤ a → Ext h h' → OA Z h' a C (List.replicate m.toNatClampNeg .null) → Go w Q T' pc' L (.ref a :: st)) : Go w Q T pc L (.int m :: st) := by
  obtain ⟨p, l, e, R', s, mm, args, below, meth, c, Z', k0⟩ := w
  obtain ⟨hx, hby, hml, hown, hZ, hret, hnm, hlk, rfl, rfl, rfl, h00⟩ := K
  obtain ⟨locs, X, eT, N⟩ := H
  obtain ⟨d1, rfl⟩ := d
  obtain ⟨T', h', cA, X', e', E, A, O, stp⟩ := newR X hx hZ hown w1 w2 eT (g := mkF mm pc L (.int m :: st)) rfl (by rw [hby]; exact d1) rfl hm hcap hb hk hn
  obtain ⟨s₂, o, g1, g2⟩ := G T' h' h.size ⟨_, X', e', N⟩ rfl (by rw [← eT]; exact Nat.le_trans h00 X.same.2.1) E ⟨_, A, by simp [newA, defaultValue], by simpa using (back32 hm).2, O⟩
  exact ⟨s₂, o, stp _ g1, g2⟩
theorem go_aastore {a : Addr} {C : String} {vs : List Value} {j : Int32} {v : Value} (i : Nat) (K : Cx w R Z n0 own bytes mx rt nm) (H : At1 w T h k n) (d : Dc bytes pc .aastore 1 pc') (A : OA Z h a C vs) (hv : v = .null ∨ ∃ y, v = .ref y ∧ Ins Z h y C true) (hj : j.toInt = (i : Int)) (hi : i < vs.length) (ha : n0 ≤ a) (G : ∀ T' h', At1 w T' h' k n → Wr h h' a i v → OA Z h' a C (vs.set i v) → Go w Q T' pc' L st) : Go w Q T pc L (v :: .int j :: .ref a :: st) := by
  obtain ⟨p, l, e, R', s, m, args, below, meth, c, Z', k0⟩ := w
  obtain ⟨hx, hby, hml, hown, hZ, hret, hnm, hlk, rfl, rfl, rfl, h00⟩ := K
  obtain ⟨locs, X, eT, N⟩ := H
  obtain ⟨d1, rfl⟩ := d
  have A' := A
  obtain ⟨cl, A, r1, r2, r3⟩ := A
  have S : Sto Z' h a v := by
    rcases hv with rfl | ⟨y, rfl, I⟩
    · exact Or.inl rfl
    · exact Sto.of A r3 I
  obtain ⟨T', h', X', e', W, stp⟩ := stR X hx hZ eT A (inb_at r1 hj hi) rfl S (g := mkF m pc L (v :: .int j :: .ref a :: st)) rfl rfl (by rw [hby]; exact d1)
  have W' : Wr h h' a i v := by rw [← (idx_nat hj).2]; exact W
  obtain ⟨s₂, o, g1, g2⟩ := G T' h' ⟨_, X', e', Fr.snoc X' N ha⟩ W' (A'.set W')
  exact ⟨s₂, o, stp _ g1, g2⟩
theorem go_checkcast {a0 : Array Value} {C : String} {idx : Nat} {a : Addr} (K : Cx w R Z n0 own bytes mx rt nm) (H : At1 w T h k n) (d : Dc bytes pc (.checkcast idx) 3 pc') (w1 : (Cond.classLink own idx C).before a0 Z = true) (F : Ins Z h a C true)
    (G : ∀ T', At1 w T' h k n → Go w Q T' pc' L (.ref a :: st)) : Go w Q T pc L (.ref a :: st) := by
  obtain ⟨p, l, e, R', s, m, args, below, meth, c, Z', k0⟩ := w
  obtain ⟨hx, hby, hml, hown, hZ, -⟩ := K
  obtain ⟨locs, X, eT, N⟩ := H
  obtain ⟨d1, rfl⟩ := d
  obtain ⟨T', X', e', stp⟩ := castY X hx hZ hown w1 eT F (g := mkF m pc L (.ref a :: st)) rfl rfl (by rw [hby]; exact d1)
  obtain ⟨s₂, o, g1, g2⟩ := G T' ⟨locs, X', e', N⟩
  exact ⟨s₂, o, stp _ g1, g2⟩
theorem go_instY {a0 : Array Value} {C : String} {idx : Nat} {a : Addr} (K : Cx w R Z n0 own bytes mx rt nm) (H : At1 w T h k n) (d : Dc bytes pc (.instanceof idx) 3 pc') (w1 : (Cond.classLink own idx C).before a0 Z = true) (F : Ins Z h a C true)
    (G : ∀ T', At1 w T' h k n → Go w Q T' pc' L (.int 1 :: st)) : Go w Q T pc L (.ref a :: st) := by
  obtain ⟨p, l, e, R', s, m, args, below, meth, c, Z', k0⟩ := w
  obtain ⟨hx, hby, hml, hown, hZ, -⟩ := K
  obtain ⟨locs, X, eT, N⟩ := H
  obtain ⟨d1, rfl⟩ := d
  obtain ⟨T', X', e', stp⟩ := instY X hx hZ hown w1 eT F (g := mkF m pc L (.ref a :: st)) rfl rfl (by rw [hby]; exact d1)
  obtain ⟨s₂, o, g1, g2⟩ := G T' ⟨locs, X', e', N⟩
  exact ⟨s₂, o, stp _ g1, g2⟩
theorem eqI_v {t : Term} {z : Int32} {args : Array Value} {s : State} (h : (Cond.eq t (.int z)).value args s none s [] = some true) : t.eval args s none [] s = some (.int z) := by
  obtain ⟨x, y, h1, h2, k1, k2⟩ := cmp_v (Or.inl h)
  cases (Term.int_eval z).symm.trans h2
  obtain ⟨q, rfl⟩ := k2
  rw [h1, gotT (Cond.eq_ints h1 h2) h]
theorem len_size {t : Term} {z : Int32} {a : Addr} {c : Cell} {args : Array Value} {s : State} (h : (Term.length t).eval args s none [] s = some (.int z)) (ht : t.eval args s none [] s = some (.ref a)) (hc : s.heap[a]? = some c) : (c.slots.size : Int) = z.toInt := by
  obtain ⟨a', c', e1, e2, e3⟩ := Term.length_spec h
  cases ht.symm.trans e1
  cases hc.symm.trans (State.arrayAt?_spec e2).1
  by_cases q : c.slots.size < 2 ^ 31
  · cases e3; exact (len_toInt q).symm
  · simp [Term.eval, ht, e2, q] at h
theorem elem_val {t : Term} {z : Int32} {a : Addr} {c : Cell} {args : Array Value} {s : State} {j : Int32} (h : (Term.elem t (.int j)).eval args s none [] s = some (.int z)) (ht : t.eval args s none [] s = some (.ref a)) (hc : s.heap[a]? = some c) : c.slots[j.toNatClampNeg]? = some (.int z) := (elem_in h ht (Term.int_eval j) hc).2
theorem go_instNull {idx : Nat} (K : Cx w R Z n0 own bytes mx rt nm) (H : At1 w T h k n) (d : Dc bytes pc (.instanceof idx) 3 pc') (G : Go w Q T pc' L (.int 0 :: st)) : Go w Q T pc L (.null :: st) := by
  obtain ⟨p, l, e, R', s, m, args, below, meth, c, Z', k0⟩ := w
  obtain ⟨hx, hby, -⟩ := K
  obtain ⟨locs, X, eT, N⟩ := H
  obtain ⟨d1, rfl⟩ := d
  obtain ⟨s₂, o, g1, g2⟩ := G
  exact ⟨s₂, o, X.instanceofNull hx (g := mkF m pc L (.null :: st)) rfl rfl (by rw [hby]; exact d1) _ g1, g2⟩
theorem go_instNo {a0 : Array Value} {C C' : String} {idx : Nat} {a : Addr} (K : Cx w R Z n0 own bytes mx rt nm) (H : At1 w T h k n) (d : Dc bytes pc (.instanceof idx) 3 pc') (w1 : (Cond.classLink own idx C).before a0 Z = true) (E : Exa Z h a C') (F : ∃ c t, Z.vm.findClass C' = some c ∧ Z.vm.findClass C = some t ∧ Z.vm.assignable c t = false)
    (G : ∀ T', At1 w T' h k n → Go w Q T' pc' L (.int 0 :: st)) : Go w Q T pc L (.ref a :: st) := by
  obtain ⟨p, l, e, R', s, m, args, below, meth, c, Z', k0⟩ := w
  obtain ⟨hx, hby, hml, hown, hZ, -⟩ := K
  obtain ⟨locs, X, eT, N⟩ := H
  obtain ⟨d1, rfl⟩ := d
  obtain ⟨T', X', e', stp⟩ := instNo X hx hZ hown w1 eT E F (g := mkF m pc L (.ref a :: st)) rfl rfl (by rw [hby]; exact d1)
  obtain ⟨s₂, o, g1, g2⟩ := G T' ⟨locs, X', e', N⟩
  exact ⟨s₂, o, stp _ g1, g2⟩
theorem ns_root {a0 : Array Value} {O C : String} {j : Nat} (w1 : (Cond.noSuperclass O).before a0 Z = true) (wk : (Cond.instantiable C j).before a0 Z = true) (hn : O ≠ C) : NS Z O C := by
  obtain ⟨c, k, h1, h2, h3, -, -⟩ := Cond.noSuperclass_spec w1
  obtain ⟨t, kt, g1, -⟩ := Cond.instantiable_spec wk
  have ne := ids_ne h1 g1 hn
  refine ⟨c, t, h1, g1, fun fuel => ?_⟩
  cases fuel with
  | zero => rfl
  | succ f => simp [Vm.isSubclassAux, ne, h2, h3]
theorem ns_no {a0 : Array Value} {C S C' : String} {j : Nat} (w1 : (Cond.superclass C S).before a0 Z = true) (wk : (Cond.instantiable C' j).before a0 Z = true) (n : NS Z C C') (hn : C ≠ C') : ∃ c t, Z.vm.findClass C = some c ∧ Z.vm.findClass C' = some t ∧ Z.vm.assignable c t = false := by
  obtain ⟨c, t, h0, g0, n3⟩ := n
  obtain ⟨p, k, kp, h1, h2, h3, h4, h5, -, h7⟩ := Cond.superclass_spec h0 w1
  obtain ⟨q, k', g1, g2, g3, g4, -⟩ := Cond.instantiable_spec wk
  cases g0.symm.trans g1
  have ne := ids_ne h0 g0 hn
  refine ⟨c, _, h0, g0, ?_⟩
  show Z.vm.assignableAux (255 + 1) c _ = false
  simp [Vm.assignableAux, ne, h2, g2, h5, g3, (Bool.or_eq_false_iff.mp g4).1, Vm.isSubclass, n3]
theorem VA.arv {a : Addr} {ty : FieldType} {vs : List Value} (A : VA Z h a ty vs) (dv : Value) (hf : ∀ v ∈ vs, fits ty v = true) : ∃ cid, Arv Z h a cid ty (Nat.toInt32 vs.length) vs dv := by
  obtain ⟨c, A, r1, r2⟩ := A
  have hs : c.slots.size = vs.length := by rw [← r1]; simp
  have hn : (Nat.toInt32 vs.length).toNatClampNeg = vs.length := by simp only [Int32.toNatClampNeg, len_toInt r2]; rfl
  refine ⟨c.cls, c, A, rfl, by rw [hn, hs], ?_, fun i hi => ?_, fun i hi => ?_⟩
  · rw [Int32.lt_iff_toInt_lt, len_toInt r2]; show ¬ ((vs.length : Int) < 0); omega
  · rw [hs] at hi
    rw [← Array.getElem?_toList, r1, List.getD_eq_getElem?_getD, List.getElem?_eq_getElem hi]; rfl
  · rw [hs] at hi
    rw [List.getD_eq_getElem?_getD, List.getElem?_eq_getElem hi]; exact hf _ (List.getElem_mem hi)
theorem VA.of_arr {a : Addr} {ty : FieldType} {c : Cell} {vs : List Value} (A : Arr Z h a c ty) (hs : c.slots.size = vs.length) (hl : vs.length < 2 ^ 31) (he : ∀ i, i < vs.length → c.slots[i]? = vs[i]?) : VA Z h a ty vs := by
  refine ⟨c, A, List.ext_getElem? fun i => ?_, hl⟩
  rw [Array.getElem?_toList]
  by_cases q : i < vs.length
  · exact he i q
  · rw [List.getElem?_eq_none (by omega), Array.getElem?_eq_none (by omega)]
theorem VA.of_arv {a : Addr} {ty : FieldType} {cid : ClassId} {z : Int32} {vs : List Value} {dv : Value} (A : Arv Z h a cid ty z vs dv) (hl : vs.length = z.toNatClampNeg) (hz : vs.length < 2 ^ 31) : VA Z h a ty vs := by
  obtain ⟨c, A, -, hs, -, H, -⟩ := A
  refine VA.of_arr A (by rw [hs, hl]) hz fun i hi => ?_
  rw [H i (by rw [hs, ← hl]; exact hi), List.getD_eq_getElem?_getD, List.getElem?_eq_getElem hi]; rfl
theorem go_copyI {a0 : Array Value} {idx : Nat} {a b : Addr} {xs ys : List Int32} {sp dp nn : Int32} (i j l : Nat) (K : Cx w R Z n0 own bytes mx rt nm) (H : At1 w T h k n) (d : Dc bytes pc (.invokestatic idx) 3 pc') (w1 : (Cond.methodLink own idx Jvm.Stand.acN).before a0 Z = true) (w2 : (Cond.native Jvm.Stand.acN).before a0 Z = true) (w3 : (Cond.static Jvm.Stand.acN).before a0 Z = true) (w4 : (Cond.initialized "java/lang/System").before a0 Z = true)
    (A : IA Z h a xs) (B : IA Z h b ys) (e1 : sp.toInt = (i : Int)) (e2 : dp.toInt = (j : Int)) (e3 : nn.toInt = (l : Int)) (b1 : i + l ≤ xs.length) (b2 : j + l ≤ ys.length) (ge : n0 ≤ b) (hL : L.size = mx) (hf : 1 ≤ R.frames) {W : Nat} (hW : (st.map fun v => v.category).sum = W) (hl : W + (nativeFrameWords "java/lang/System" "arraycopy" 5 + 11) ≤ R.locals)
    (G : ∀ T' h', At1 w T' h' k n → Keep h h' [b] → IA Z h' b (ys.take j ++ (xs.drop i).take l ++ ys.drop (j + l)) → Go w Q T' pc' L st) : Go w Q T pc L (.int nn :: .int dp :: .ref b :: .int sp :: .ref a :: st) := by
  obtain ⟨p, l', e, R', s, m, args, below, meth, c, Z', k0⟩ := w
  obtain ⟨hx, hby, hml, hown, hZ, hret, hnm, hlk, rfl, rfl, rfl, h00⟩ := K
  obtain ⟨locs, X, eT, N⟩ := H
  obtain ⟨d1, rfl⟩ := d
  have ft : ∀ (zs : List Int32), ∀ v ∈ zs.map Value.int, fits .int v = true := fun zs v hv => by obtain ⟨y, -, rfl⟩ := List.mem_map.mp hv; rfl
  have la := A.len
  have lb := B.len
  obtain ⟨ca, VA1⟩ := VA.arv A (.int 0) (ft xs)
  obtain ⟨cb, VB1⟩ := VA.arv B (.int 0) (ft ys)
  have la' : (Nat.toInt32 (xs.map Value.int).length).toNatClampNeg = xs.length := by simp only [List.length_map, Int32.toNatClampNeg, len_toInt la]; rfl
  have lb' : (Nat.toInt32 (ys.map Value.int).length).toNatClampNeg = ys.length := by simp only [List.length_map, Int32.toNatClampNeg, len_toInt lb]; rfl
  have hus : ((xs.drop i).take l).map Value.int = (List.range nn.toNatClampNeg).map fun q => (xs.map Value.int).getD (sp.toNatClampNeg + q) (.int 0) := by
    rw [(idx_nat e3).2, (idx_nat e1).2]
    apply List.ext_getElem?
    intro q
    rw [List.getElem?_map, List.getElem?_map]
    by_cases hq : q < l
    · rw [List.getElem?_take_of_lt hq, List.getElem?_drop, List.getElem?_range hq, List.getElem?_eq_getElem (show i + q < xs.length by omega)]
      simp [List.getD_eq_getElem?_getD, List.getElem?_eq_getElem (show i + q < xs.length by omega)]
    · rw [List.getElem?_eq_none (by simp; omega), List.getElem?_eq_none (by simp; omega)]; rfl
  obtain ⟨T', h', L2, X', e', N', K', B', stp⟩ := cpA X hx hZ hown w1 w2 w3 w4 eT VA1 VB1 (Or.inl ⟨rfl, rfl⟩) (idx_nat e1).1 (idx_nat e2).1 (idx_nat e3).1 (by rw [(idx_nat e1).2, (idx_nat e3).2, la']; exact b1) (by rw [(idx_nat e2).2, (idx_nat e3).2, lb']; exact b2) hus (by rw [(idx_nat e2).2, (idx_nat e3).2, List.length_map]; exact b2) N ge (g := mkF m pc L (.int nn :: .int dp :: .ref b :: .int sp :: .ref a :: st)) rfl (hL.trans hml.symm) rfl (by rw [hby]; exact d1) hf (W := W) (by show 2 * 0 + _ ≤ _; rw [hW]; omega) hl
  rw [(idx_nat e2).2, (idx_nat e3).2] at B'
  have B2 : IA Z' h' b (ys.take j ++ (xs.drop i).take l ++ ys.drop (j + l)) := by
    have q := VA.of_arv B' (by rw [lb']; simp; omega) (by simp; omega)
    rw [← List.map_take, ← List.map_drop, ← List.map_append, ← List.map_append] at q
    exact q
  obtain ⟨s₂, o, g1, g2⟩ := G T' h' ⟨_, X', e', N'⟩ K' B2
  exact ⟨s₂, o, stp _ g1, g2⟩
theorem f_iadd {v x y : Int32} (e : v = x + y) : (v.toInt - (x.toInt + y.toInt)) % 4294967296 = 0 := e ▸ c_iadd x y
theorem f_isub {v x y : Int32} (e : v = x - y) : (v.toInt - (x.toInt - y.toInt)) % 4294967296 = 0 := e ▸ c_isub x y
theorem f_imul {v x y : Int32} (e : v = x * y) : (v.toInt - (x.toInt * y.toInt)) % 4294967296 = 0 := e ▸ c_imul x y
theorem f_ineg {v x : Int32} (e : v = -x) : (v.toInt - (-x.toInt)) % 4294967296 = 0 := e ▸ c_ineg x
theorem f_ladd {v x y : Int64} (e : v = x + y) : (v.toInt - (x.toInt + y.toInt)) % 18446744073709551616 = 0 := e ▸ c_ladd x y
theorem f_lsub {v x y : Int64} (e : v = x - y) : (v.toInt - (x.toInt - y.toInt)) % 18446744073709551616 = 0 := e ▸ c_lsub x y
theorem f_lmul {v x y : Int64} (e : v = x * y) : (v.toInt - (x.toInt * y.toInt)) % 18446744073709551616 = 0 := e ▸ c_lmul x y
theorem f_lneg {v x : Int64} (e : v = -x) : (v.toInt - (-x.toInt)) % 18446744073709551616 = 0 := e ▸ c_lneg x
theorem f_l2i {v : Int32} {x : Int64} (e : v = x.toInt32) : (v.toInt - x.toInt) % 4294967296 = 0 := e ▸ c_l2i x
theorem f_i2l {v : Int64} {x : Int32} (e : v = x.toInt64) : v.toInt = x.toInt := e ▸ c_i2l x
theorem f_i2b {v x : Int32} (e : v = x.toInt8.toInt32) : (v.toInt - x.toInt) % 256 = 0 ∧ -128 ≤ v.toInt ∧ v.toInt < 128 := e ▸ c_i2b x
theorem f_i2s {v x : Int32} (e : v = x.toInt16.toInt32) : (v.toInt - x.toInt) % 65536 = 0 ∧ -32768 ≤ v.toInt ∧ v.toInt < 32768 := e ▸ c_i2s x
theorem f_i2c {v x : Int32} (e : v = x.toUInt32.toUInt16.toUInt32.toInt32) : (v.toInt - x.toInt) % 65536 = 0 ∧ 0 ≤ v.toInt ∧ v.toInt < 65536 := e ▸ c_i2c x
theorem f_mask {v x m : Int32} (M : Nat) (k : Nat) (e : v = x &&& m) (hk : k ≤ 31) (hm : m.toBitVec.toNat = 2 ^ k - 1) (hM : 2 ^ k = M) : v.toInt = x.toInt % (M : Nat) := by rw [e, ← hM]; exact c_mask x m k hk hm
theorem f_maskL {v x m : Int64} (M : Nat) (k : Nat) (e : v = x &&& m) (hk : k ≤ 63) (hm : m.toBitVec.toNat = 2 ^ k - 1) (hM : 2 ^ k = M) : v.toInt = x.toInt % (M : Nat) := by rw [e, ← hM]; exact c_maskL x m k hk hm
theorem f_ishr {v x q : Int32} (M : Nat) (k : Nat) (e : v = x >>> (q &&& 31)) (hk : q.toBitVec.toNat % 32 = k) (hM : 2 ^ k = M) : v.toInt = x.toInt / (M : Nat) := by rw [e, ← hM]; exact c_ishr x q k hk
theorem f_ishl {v x q : Int32} (M : Nat) (k : Nat) (e : v = x <<< (q &&& 31)) (hk : q.toBitVec.toNat % 32 = k) (hM : 2 ^ k = M) : (v.toInt - x.toInt * (M : Nat)) % 4294967296 = 0 := by rw [e, ← hM]; exact c_ishl x q k hk
theorem f_iushr {v x q : Int32} (M : Nat) (k : Nat) (e : v = iU x q) (hk : q.toBitVec.toNat % 32 = k) (h0 : 0 < k) (hM : 2 ^ k = M) : v.toInt = (x.toInt % 4294967296) / (M : Nat) := by rw [e, ← hM]; exact c_iushr x q k hk h0
theorem f_lshr {v x : Int64} {q : Int32} (M : Nat) (k : Nat) (e : v = x >>> (q &&& 0x3f).toInt64) (hk : q.toBitVec.toNat % 64 = k) (hM : 2 ^ k = M) : v.toInt = x.toInt / (M : Nat) := by rw [e, ← hM]; exact c_lshr x q k hk
theorem f_lshl {v x : Int64} {q : Int32} (M : Nat) (k : Nat) (e : v = x <<< (q &&& 0x3f).toInt64) (hk : q.toBitVec.toNat % 64 = k) (hM : 2 ^ k = M) : (v.toInt - x.toInt * (M : Nat)) % 18446744073709551616 = 0 := by rw [e, ← hM]; exact c_lshl x q k hk
theorem f_lushr {v x : Int64} {q : Int32} (M : Nat) (k : Nat) (e : v = lU x q) (hk : q.toBitVec.toNat % 64 = k) (h0 : 0 < k) (hM : 2 ^ k = M) : v.toInt = (x.toInt % 18446744073709551616) / (M : Nat) := by rw [e, ← hM]; exact c_lushr x q k hk h0
theorem f_idiv {v x y : Int32} (d : Int) (e : v = x / y) (hy : y.toInt = d) (hd : y ≠ -1) : (0 ≤ x.toInt → v.toInt = x.toInt / d) ∧ (x.toInt < 0 → v.toInt = -((-x.toInt) / d)) := e ▸ c_idiv x y d hy hd
theorem f_irem {v x y : Int32} (d : Int) (e : v = x % y) (hy : y.toInt = d) : (0 ≤ x.toInt → v.toInt = x.toInt % d) ∧ (x.toInt < 0 → v.toInt = -((-x.toInt) % d)) := e ▸ c_irem x y d hy
theorem f_ldiv {v x y : Int64} (d : Int) (e : v = x / y) (hy : y.toInt = d) (hd : y ≠ -1) : (0 ≤ x.toInt → v.toInt = x.toInt / d) ∧ (x.toInt < 0 → v.toInt = -((-x.toInt) / d)) := e ▸ c_ldiv x y d hy hd
theorem f_lrem {v x y : Int64} (d : Int) (e : v = x - (x / y) * y) (hy : y.toInt = d) : (0 ≤ x.toInt → v.toInt = x.toInt % d) ∧ (x.toInt < 0 → v.toInt = -((-x.toInt) % d)) := e ▸ c_lrem x y d hy
theorem f_lcmp {v : Int32} {x y : Int64} (e : v = lcmpW x y) : (x.toInt < y.toInt → v.toInt = -1) ∧ (x.toInt = y.toInt → v.toInt = 0) ∧ (y.toInt < x.toInt → v.toInt = 1) := e ▸ c_lcmp x y
def bI (p : Prop) [Decidable p] : Int32 := if p then 1 else 0
theorem bI_t {p : Prop} [Decidable p] (h : p) : bI p = 1 := if_pos h
theorem bI_f {p : Prop} [Decidable p] (h : ¬ p) : bI p = 0 := if_neg h
theorem bI_nar {p : Prop} [Decidable p] : nar .boolean (bI p) = bI p := by unfold bI; split <;> decide
theorem bI_iff {p q : Prop} [Decidable p] [Decidable q] (h : p ↔ q) : bI p = bI q := by simp [bI, h]
theorem bI_eq0 {p : Prop} [Decidable p] : bI p = 0 ↔ ¬ p := by unfold bI; split <;> simp_all
theorem bI_eq1 {p : Prop} [Decidable p] : bI p = 1 ↔ p := by unfold bI; split <;> simp_all
theorem cat_ref {v : Value} (h : v.isRef = true) : v.category = 1 := by cases v <;> first | rfl | cases h
theorem bI_inj {p q : Prop} [Decidable p] [Decidable q] : bI p = bI q ↔ (p ↔ q) := by unfold bI; split <;> split <;> simp_all
theorem bI_ne0 {p : Prop} [Decidable p] : ¬ bI p = 0 ↔ p := by unfold bI; split <;> simp_all
theorem go_lookup (K : Cx w R Z n0 own bytes mx rt nm) (H : At1 w T h k n) {x : Int32} {df off : Int} {ps : Array (Int × Int)} {q yes no : Nat} (d : Dc bytes pc (.lookupswitch df ps) q pc') (hs : (ps.toList.zip (ps.toList.drop 1)).all (fun (a, next) => a.1 < next.1) = true) (hall : ∀ p ∈ ps.toList, p.2 = off) (hy0 : 0 ≤ (pc : Int) + off) (hy : ((pc : Int) + off).toNat = yes) (hn0 : 0 ≤ (pc : Int) + df) (hn : ((pc : Int) + df).toNat = no)
    (G1 : x.toInt ∈ ps.toList.map (·.1) → Go w Q T yes L st) (G2 : x.toInt ∉ ps.toList.map (·.1) → Go w Q T no L st) : Go w Q T pc L (.int x :: st) := by
  obtain ⟨p, l, e, R', s, m, args, below, meth, c, Z', k0⟩ := w
  obtain ⟨hx, hby, -⟩ := K
  obtain ⟨locs, X, -⟩ := H
  subst hy hn
  cases hf : ps.find? (·.1 == x.toInt) with
  | none =>
    have : x.toInt ∉ ps.toList.map (·.1) := by
      intro hm
      obtain ⟨a, ha, e⟩ := List.mem_map.mp hm
      have := Array.find?_eq_none.mp hf a (Array.mem_toList_iff.mp ha)
      simp [e] at this
    obtain ⟨s₂, o, g1, g2⟩ := G2 this
    exact ⟨s₂, o, X.lookupswitchMiss hx (g := mkF m pc L (.int x :: st)) rfl rfl (by rw [hby]; exact d.1) hs hf hn0 _ g1, g2⟩
  | some a =>
    obtain ⟨b, off'⟩ := a
    have hm := Array.mem_toList_iff.mpr (Array.mem_of_find?_eq_some hf)
    have hb : b = x.toInt := by simpa using Array.find?_some hf
    obtain rfl : off' = off := hall _ hm
    obtain ⟨s₂, o, g1, g2⟩ := G1 (List.mem_map.mpr ⟨_, hm, hb⟩)
    exact ⟨s₂, o, X.lookupswitchHit hx (g := mkF m pc L (.int x :: st)) rfl rfl (by rw [hby]; exact d.1) hs hf hy0 _ g1, g2⟩
theorem con_back {l : Launch} {p : Program} {e : Env} {s : State} {args : Array Value} {below : List Frame} {a0 : Array Value} {y : MethodName} {yb : ByteArray} {ym : Nat} {yr : Option FieldType} {rm : Room} {as' : Array Value} {P : Option Value → Heap → Prop} {len W : Nat}
    (C : Con l Z y yb ym yr rm as' h n0 P) (hZ : Z.Warmed39 s.vm) (wc : (Cond.code y yb ym yr).before a0 Z = true) (wz : (Cond.initialized y.cls).before a0 Z = true) (hf : rm.frames + 1 ≤ R.frames) (hl : W + (ym + 11) + rm.locals ≤ R.locals) :
    Back l R p e below s args y len W (fun A a => a = as' ∧ A.U.heap = h ∧ A.cells + rm.cells ≤ R.cells ∧ A.slots + rm.slots ≤ R.slots)
      (fun A _ v B => ∃ Lc, (P v B.U.heap ∧ Fr n0 Lc) ∧ B.locs = A.locs ++ Lc ∧ B.cells = A.cells + rm.cells ∧ B.slots = A.slots + rm.slots) :=
  backOf (Q := fun v hh Lc => P v hh ∧ Fr n0 Lc) (C []) hZ wc wz hf hl
theorem at_size (K : Cx w R Z n0 own bytes mx rt nm) (H : At1 w T h k n) : n0 ≤ h.size := by
  obtain ⟨p, l, e, R', s, m, args, below, meth, c, Z', k0⟩ := w
  obtain ⟨hx, hby, hml, hown, hZ, hret, hnm, hlk, rfl, rfl, rfl, h00⟩ := K
  obtain ⟨locs, X, eT, N⟩ := H
  rw [← eT]; exact Nat.le_trans h00 X.same.2.1
theorem go_callS {a0 : Array Value} {idx : Nat} {y : MethodName} {yb : ByteArray} {ym : Nat} {yr : Option FieldType} {rm : Room} {P : Option Value → Heap → Prop} {ps : List FieldType} {rr : Option FieldType} (argsL : List Value)
    (K : Cx w R Z n0 own bytes mx rt nm) (H : At1 w T h k n) (d : Dc bytes pc (.invokestatic idx) 3 pc') (w1 : (Cond.methodLink own idx y).before a0 Z = true) (w2 : (Cond.static y).before a0 Z = true) (w3 : (Cond.initialized y.cls).before a0 Z = true) (w4 : (Cond.code y yb ym yr).before a0 Z = true)
    (hy : y.cls ≠ "java/lang/invoke/MethodHandle" ∧ y.cls ≠ "java/lang/invoke/VarHandle") (C : ∀ l, Con l Z y yb ym yr rm argsL.toArray h n0 P) (hd : parseMethodDescriptor y.desc = some ⟨ps, rr⟩) (hlen : argsL.length = ps.length) (hs : st = argsL.reverse ++ st')
    (hL : L.size = mx) (hf : rm.frames + 1 ≤ R.frames) {W : Nat} (hW : (st'.map fun v => v.category).sum = W) (hl : W + (ym + 11) + rm.locals ≤ R.locals) (hk : k + rm.cells ≤ R.cells) (hn : n + rm.slots ≤ R.slots)
    (G : ∀ T' h' v, At1 w T' h' (k + rm.cells) (n + rm.slots) → P v h' → Go w Q T' pc' L (v.toList ++ st')) : Go w Q T pc L st := by
  obtain ⟨p, l, e, R', s, m, args, below, meth, c, Z', k0⟩ := w
  obtain ⟨hx, hby, hml, hown, hZ, hret, hnm, hlk, rfl, rfl, rfl, h00⟩ := K
  obtain ⟨locs, X, eT, N⟩ := H
  obtain ⟨d1, rfl⟩ := d
  obtain ⟨v, vm₁, ⟨T', L1, k1, n1⟩, -, X', ⟨Lc, ⟨hQ, N'⟩, l1, y1, z1⟩, stp⟩ := Jvm.LawKit.callS X hx (y := y) hown (mvT hZ w1) (mvT hZ w2) (mvT hZ w3) (mvT hZ w4) hy (con_back (W := W) (C l) hZ w4 w3 hf hl) (g := mkF m pc L st) rfl (hL.trans hml.symm) (argsL := argsL) (rest := st') (lenOf hd hlen) hs (by show 2 * 0 + _ ≤ _; rw [hW]; omega) (by rw [hby]; exact d1) (fun _ _ => ⟨rfl, eT, hk, hn⟩)
  dsimp only [Pt.U, Pt.locs, Pt.cells, Pt.slots] at X' l1 y1 z1 stp hQ
  subst l1 y1 z1
  obtain ⟨s₂, o, g1, g2⟩ := G T' T'.heap v ⟨_, X', rfl, Fr.app N N'⟩ hQ
  exact ⟨s₂, o, stp _ g1, g2⟩
theorem go_callI {a0 : Array Value} {idx : Nat} {y : MethodName} {yb : ByteArray} {ym : Nat} {rm : Room} {P : Option Value → Heap → Prop} {ps : List FieldType} {rr : Option FieldType} {a : Addr} (argsL : List Value)
    (K : Cx w R Z n0 own bytes mx rt nm) (H : At1 w T h k n) (d : Dc bytes pc (.invokespecial idx) 3 pc') (hy1 : y.name = "<init>") (w1 : (Cond.methodLink own idx y).before a0 Z = true) (w2 : (Cond.instanceMethod y).before a0 Z = true) (w3 : (Cond.initialized y.cls).before a0 Z = true) (w4 : (Cond.code y yb ym none).before a0 Z = true)
    (hy : y.cls ≠ "java/lang/invoke/MethodHandle" ∧ y.cls ≠ "java/lang/invoke/VarHandle") (C : ∀ l, Con l Z y yb ym none rm (.ref a :: argsL).toArray h n0 P) (hd : parseMethodDescriptor y.desc = some ⟨ps, rr⟩) (hlen : argsL.length = ps.length) (hs : st = argsL.reverse ++ .ref a :: st')
    (hL : L.size = mx) (hf : rm.frames + 1 ≤ R.frames) {W : Nat} (hW : (st'.map fun v => v.category).sum = W) (hl : W + (ym + 11) + rm.locals ≤ R.locals) (hk : k + rm.cells ≤ R.cells) (hn : n + rm.slots ≤ R.slots)
    (G : ∀ T' h' v, At1 w T' h' (k + rm.cells) (n + rm.slots) → P v h' → Go w Q T' pc' L (v.toList ++ st')) : Go w Q T pc L st := by
  obtain ⟨p, l, e, R', s, m, args, below, meth, c, Z', k0⟩ := w
  obtain ⟨hx, hby, hml, hown, hZ, hret, hnm, hlk, rfl, rfl, rfl, h00⟩ := K
  obtain ⟨locs, X, eT, N⟩ := H
  obtain ⟨d1, rfl⟩ := d
  obtain ⟨v, vm₁, ⟨T', L1, k1, n1⟩, -, X', ⟨Lc, ⟨hQ, N'⟩, l1, y1, z1⟩, stp⟩ := X.specialBack hx (y := y) hy1 hown (mvT hZ w1) (mvT hZ w2) (mvT hZ w4) hy (con_back (W := W) (C l) hZ w4 w3 hf hl) (g := mkF m pc L st) rfl (hL.trans hml.symm) (Steps.refl _) (a := a) (argsL := argsL) (rest := st') (lenOf hd hlen) hs (by show 2 * 0 + _ ≤ _; rw [hW]; omega) (by rw [hby]; exact d1) (fun _ _ => ⟨rfl, eT, hk, hn⟩)
  dsimp only [Pt.U, Pt.locs, Pt.cells, Pt.slots] at X' l1 y1 z1 stp hQ
  subst l1 y1 z1
  obtain ⟨s₂, o, g1, g2⟩ := G T' T'.heap v ⟨_, X', rfl, Fr.app N N'⟩ hQ
  exact ⟨s₂, o, stp.trans g1, g2⟩
theorem go_callV {a0 : Array Value} {idx : Nat} {y z : MethodName} {yb : ByteArray} {ym : Nat} {yr : Option FieldType} {rm : Room} {P : Option Value → Heap → Prop} {ps : List FieldType} {rr : Option FieldType} {a : Addr} {CC : String} (argsL : List Value)
    (K : Cx w R Z n0 own bytes mx rt nm) (H : At1 w T h k n) (d : Dc bytes pc (.invokevirtual idx) 3 pc') (E : Exa Z h a CC) (w1 : (Cond.methodLink own idx y).before a0 Z = true) (wd : (Cond.declares y).before a0 Z = true) (hnf : ∀ s : State, Z.Warmed39 s.vm → NotFace s y) (ws : (Cond.selects CC y z).before a0 Z = true) (w2 : (Cond.instanceMethod z).before a0 Z = true) (w3 : (Cond.initialized z.cls).before a0 Z = true) (w4 : (Cond.code z yb ym yr).before a0 Z = true)
    (hy : y.cls ≠ "java/lang/invoke/MethodHandle" ∧ y.cls ≠ "java/lang/invoke/VarHandle") (C : ∀ l, Con l Z z yb ym yr rm (.ref a :: argsL).toArray h n0 P) (hd : parseMethodDescriptor y.desc = some ⟨ps, rr⟩) (hlen : argsL.length = ps.length) (hs : st = argsL.reverse ++ .ref a :: st')
    (hL : L.size = mx) (hf : rm.frames + 1 ≤ R.frames) {W : Nat} (hW : (st'.map fun v => v.category).sum = W) (hl : W + (ym + 11) + rm.locals ≤ R.locals) (hk : k + rm.cells ≤ R.cells) (hn : n + rm.slots ≤ R.slots)
    (G : ∀ T' h' v, At1 w T' h' (k + rm.cells) (n + rm.slots) → P v h' → Go w Q T' pc' L (v.toList ++ st')) : Go w Q T pc L st := by
  obtain ⟨p, l, e, R', s, m, args, below, meth, c, Z', k0⟩ := w
  obtain ⟨hx, hby, hml, hown, hZ, hret, hnm, hlk, rfl, rfl, rfl, h00⟩ := K
  obtain ⟨locs, X, eT, N⟩ := H
  obtain ⟨d1, rfl⟩ := d
  obtain ⟨cq, kq, q1, q2, q3⟩ := isOf hZ eT E
  obtain ⟨v, vm₁, ⟨T', L1, k1, n1⟩, -, X', ⟨Lc, ⟨hQ, N'⟩, l1, y1, z1⟩, stp⟩ := X.virtualBack hx (y := y) (z := z) hown (mvT hZ w1) (mvT hZ wd) (hnf s hZ) (mvT hZ ws) (mvT hZ w2) hy (con_back (W := W) (C l) hZ w4 w3 hf hl) q1 q3 (g := mkF m pc L st) rfl (hL.trans hml.symm) (Steps.refl _) (argsL := argsL) (rest := st') (lenOf hd hlen) hs (by show 2 * 0 + _ ≤ _; rw [hW]; omega) (by rw [hby]; exact d1) (fun _ _ => ⟨rfl, eT, hk, hn⟩)
  dsimp only [Pt.U, Pt.locs, Pt.cells, Pt.slots] at X' l1 y1 z1 stp hQ
  subst l1 y1 z1
  obtain ⟨s₂, o, g1, g2⟩ := G T' T'.heap v ⟨_, X', rfl, Fr.app N N'⟩ hQ
  exact ⟨s₂, o, stp.trans g1, g2⟩
theorem go_callP {a0 : Array Value} {idx : Nat} {y : MethodName} {yb : ByteArray} {ym : Nat} {yr : Option FieldType} {rm : Room} {P : Option Value → Heap → Prop} {ps : List FieldType} {rr : Option FieldType} {a : Addr} {CC : String} (argsL : List Value)
    (K : Cx w R Z n0 own bytes mx rt nm) (H : At1 w T h k n) (d : Dc bytes pc (.invokevirtual idx) 3 pc') (E : Exa Z h a CC) (w1 : (Cond.methodLink own idx y).before a0 Z = true) (w2 : (Cond.instanceMethod y).before a0 Z = true) (ws : (Cond.selects y.cls y y).before a0 Z = true) (wp : (Cond.privateMethod y).before a0 Z = true) (w3 : (Cond.initialized y.cls).before a0 Z = true) (w4 : (Cond.code y yb ym yr).before a0 Z = true)
    (hy : y.cls ≠ "java/lang/invoke/MethodHandle" ∧ y.cls ≠ "java/lang/invoke/VarHandle") (C : ∀ l, Con l Z y yb ym yr rm (.ref a :: argsL).toArray h n0 P) (hd : parseMethodDescriptor y.desc = some ⟨ps, rr⟩) (hlen : argsL.length = ps.length) (hs : st = argsL.reverse ++ .ref a :: st')
    (hL : L.size = mx) (hf : rm.frames + 1 ≤ R.frames) {W : Nat} (hW : (st'.map fun v => v.category).sum = W) (hl : W + (ym + 11) + rm.locals ≤ R.locals) (hk : k + rm.cells ≤ R.cells) (hn : n + rm.slots ≤ R.slots)
    (G : ∀ T' h' v, At1 w T' h' (k + rm.cells) (n + rm.slots) → P v h' → Go w Q T' pc' L (v.toList ++ st')) : Go w Q T pc L st := by
  obtain ⟨p, l, e, R', s, m, args, below, meth, c, Z', k0⟩ := w
  obtain ⟨hx, hby, hml, hown, hZ, hret, hnm, hlk, rfl, rfl, rfl, h00⟩ := K
  obtain ⟨locs, X, eT, N⟩ := H
  obtain ⟨d1, rfl⟩ := d
  obtain ⟨cq, q1, q2⟩ := E.cell
  obtain ⟨v, vm₁, ⟨T', L1, k1, n1⟩, -, X', ⟨Lc, ⟨hQ, N'⟩, l1, y1, z1⟩, stp⟩ := X.privateBack hx (y := y) hown (mvT hZ w1) (mvT hZ w2) (mvT hZ ws) (Cond.privateMethod_at (mvP hZ wp (args := #[]))) (mvT hZ w4) hy (con_back (W := W) (C l) hZ w4 w3 hf hl) (g := mkF m pc L st) rfl (hL.trans hml.symm) (Steps.refl _) (a := a) (by rw [eT]; exact q1) q2 (argsL := argsL) (rest := st') (lenOf hd hlen) hs (by show 2 * 0 + _ ≤ _; rw [hW]; omega) (by rw [hby]; exact d1) (fun _ _ => ⟨rfl, eT, hk, hn⟩)
  dsimp only [Pt.U, Pt.locs, Pt.cells, Pt.slots] at X' l1 y1 z1 stp hQ
  subst l1 y1 z1
  obtain ⟨s₂, o, g1, g2⟩ := G T' T'.heap v ⟨_, X', rfl, Fr.app N N'⟩ hQ
  exact ⟨s₂, o, stp.trans g1, g2⟩
theorem go_callF {a0 : Array Value} {idx cnt : Nat} {y z : MethodName} {yb : ByteArray} {ym : Nat} {yr : Option FieldType} {rm : Room} {P : Option Value → Heap → Prop} {ps : List FieldType} {rr : Option FieldType} {a : Addr} {CC : String} (argsL : List Value)
    (K : Cx w R Z n0 own bytes mx rt nm) (H : At1 w T h k n) (d : Dc bytes pc (.invokeinterface idx cnt) 5 pc') (E : Exa Z h a CC) (w1 : (Cond.methodLink own idx y).before a0 Z = true) (wd : (Cond.declares y).before a0 Z = true) (wf : (Cond.interfaceMethod y.cls y.cls y.name y.desc).before a0 Z = true) (ws : (Cond.selects CC y z).before a0 Z = true) (w2 : (Cond.instanceMethod z).before a0 Z = true) (wp : (Cond.publicMethod z).before a0 Z = true) (wu : (Cond.unhidden CC y.name y.desc).before a0 Z = true) (wc : (Cond.castable CC y.cls).before a0 Z = true) (w3 : (Cond.initialized z.cls).before a0 Z = true) (w4 : (Cond.code z yb ym yr).before a0 Z = true)
    (hy : y.cls ≠ "java/lang/invoke/MethodHandle" ∧ y.cls ≠ "java/lang/invoke/VarHandle") (C : ∀ l, Con l Z z yb ym yr rm (.ref a :: argsL).toArray h n0 P) (hd : parseMethodDescriptor y.desc = some ⟨ps, rr⟩) (hlen : argsL.length = ps.length) (hs : st = argsL.reverse ++ .ref a :: st')
    (hL : L.size = mx) (hf : rm.frames + 1 ≤ R.frames) {W : Nat} (hW : (st'.map fun v => v.category).sum = W) (hl : W + (ym + 11) + rm.locals ≤ R.locals) (hk : k + rm.cells ≤ R.cells) (hn : n + rm.slots ≤ R.slots)
    (G : ∀ T' h' v, At1 w T' h' (k + rm.cells) (n + rm.slots) → P v h' → Go w Q T' pc' L (v.toList ++ st')) : Go w Q T pc L st := by
  obtain ⟨p, l, e, R', s, m, args, below, meth, c, Z', k0⟩ := w
  obtain ⟨hx, hby, hml, hown, hZ, hret, hnm, hlk, rfl, rfl, rfl, h00⟩ := K
  obtain ⟨locs, X, eT, N⟩ := H
  obtain ⟨d1, rfl⟩ := d
  obtain ⟨cq, kq, q1, q2, q3⟩ := isOf hZ eT E
  obtain ⟨v, vm₁, ⟨T', L1, k1, n1⟩, -, X', ⟨Lc, ⟨hQ, N'⟩, l1, y1, z1⟩, stp⟩ := X.interfaceBack hx (xi := y) (y := z) hown (mvT hZ w1) (mvT hZ wd) (mvT hZ wf (by simp [Cond.onTables, Cond.keepsFace, Cond.keeps, Cond.steady, Cond.faceAtom, hy.1, hy.2])) (mvT hZ ws) (mvT hZ w2) (mvT hZ wp) (mvT hZ wu) (mvT hZ wc) hy (con_back (W := W) (C l) hZ w4 w3 hf hl) q1 q2 q3 (g := mkF m pc L st) rfl (hL.trans hml.symm) (Steps.refl _) (argsL := argsL) (rest := st') (lenOf hd hlen) hs (by show 2 * 0 + _ ≤ _; rw [hW]; omega) (by rw [hby]; exact d1) (fun _ _ => ⟨rfl, eT, hk, hn⟩)
  dsimp only [Pt.U, Pt.locs, Pt.cells, Pt.slots] at X' l1 y1 z1 stp hQ
  subst l1 y1 z1
  obtain ⟨s₂, o, g1, g2⟩ := G T' T'.heap v ⟨_, X', rfl, Fr.app N N'⟩ hQ
  exact ⟨s₂, o, stp.trans g1, g2⟩
theorem ref_at {a0 a1 : Array Value} {U : State} {idx : Nat} {y : MethodName} (hU : Z.Warmed39 U.vm) (hy : y.cls ≠ "java/lang/invoke/MethodHandle" ∧ y.cls ≠ "java/lang/invoke/VarHandle") (w2 : (Cond.instanceMethod y).before a0 Z = true) (w1 : (Cond.methodRef own idx y).before a0 Z = true) : (Cond.methodRef own idx y).before a1 U = true := by
  obtain ⟨mk, _, hn, -⟩ := Cond.instanceMethod_spec w2
  have q := Cond.methodRef_warmed39 hU hn hy w1
  simp only [Cond.before, Cond.holds, Cond.value] at q ⊢
  exact q
theorem go_callIR {a0 : Array Value} {idx : Nat} {y : MethodName} {yb : ByteArray} {ym : Nat} {rm : Room} {P : Option Value → Heap → Prop} {ps : List FieldType} {rr : Option FieldType} {a : Addr} (argsL : List Value)
    (K : Cx w R Z n0 own bytes mx rt nm) (H : At1 w T h k n) (d : Dc bytes pc (.invokespecial idx) 3 pc') (hy1 : y.name = "<init>") (w1 : (Cond.methodRef own idx y).before a0 Z = true) (w2 : (Cond.instanceMethod y).before a0 Z = true) (w3 : (Cond.initialized y.cls).before a0 Z = true) (w4 : (Cond.code y yb ym none).before a0 Z = true)
    (hy : y.cls ≠ "java/lang/invoke/MethodHandle" ∧ y.cls ≠ "java/lang/invoke/VarHandle") (C : ∀ l, Con l Z y yb ym none rm (.ref a :: argsL).toArray h n0 P) (hd : parseMethodDescriptor y.desc = some ⟨ps, rr⟩) (hlen : argsL.length = ps.length) (hs : st = argsL.reverse ++ .ref a :: st')
    (hL : L.size = mx) (hf : rm.frames + 1 ≤ R.frames) {W : Nat} (hW : (st'.map fun v => v.category).sum = W) (hl : W + (ym + 11) + rm.locals ≤ R.locals) (hk : k + rm.cells ≤ R.cells) (hn : n + rm.slots ≤ R.slots)
    (G : ∀ T' h' v, At1 w T' h' (k + rm.cells) (n + rm.slots) → P v h' → Go w Q T' pc' L (v.toList ++ st')) : Go w Q T pc L st := by
  obtain ⟨p, l, e, R', s, m, args, below, meth, c, Z', k0⟩ := w
  obtain ⟨hx, hby, hml, hown, hZ, hret, hnm, hlk, rfl, rfl, rfl, h00⟩ := K
  obtain ⟨locs, X, eT, N⟩ := H
  obtain ⟨d1, rfl⟩ := d
  have S : SCall p l e R' s m args below meth c idx y := SCall.of_ready hx hy1 (mvT hZ w2) (mvT hZ w4) (fun U r hU hnr => by
    have hA := hU.alike
    have hUZ : Z'.Warmed39 U.vm := wtrans hZ hU
    have hnU : U.methodNamed? y = some r := by
      have q : (s.setVm U.vm).methodNamed? y = some r := by rw [State.methodNamed?_setVm hA]; exact hnr
      exact q
    have hoU : U.vm.findClass own = some m.cls := by rw [hA.findClass]; exact hown
    obtain ⟨m', c', e1, e2, e3, e4⟩ := Cond.methodRef_named (first := U) (o := none) (idx := []) (args := args) e hoU (ref_at hUZ hy w2 w1)
    have e5 : U.methodFound? y.cls y.name y.desc = some r := State.methodFound?_of_named hnU hy
    cases e1.symm.trans e5
    cases e3.symm.trans (findClass_of_methodNamed hnU)
    exact ⟨e4, e2⟩)
  obtain ⟨v, vm₁, ⟨T', L1, k1, n1⟩, -, X', ⟨Lc, ⟨hQ, N'⟩, l1, y1, z1⟩, stp⟩ := S X (con_back (W := W) (C l) hZ w4 w3 hf hl) (g := mkF m pc L st) rfl (hL.trans hml.symm) (Steps.refl _) (a := a) (argsL := argsL) (rest := st') (lenOf hd hlen) hs (by show 2 * 0 + _ ≤ _; rw [hW]; omega) (by rw [hby]; exact d1) (fun _ _ => ⟨rfl, eT, hk, hn⟩)
  dsimp only [Pt.U, Pt.locs, Pt.cells, Pt.slots] at X' l1 y1 z1 stp hQ
  subst l1 y1 z1
  obtain ⟨s₂, o, g1, g2⟩ := G T' T'.heap v ⟨_, X', rfl, Fr.app N N'⟩ hQ
  exact ⟨s₂, o, stp.trans g1, g2⟩
theorem sel_priv {a0 : Array Value} {y : MethodName} {j : Nat} (wi : (Cond.instantiable y.cls j).before a0 Z = true) (wp : (Cond.privateMethod y).before a0 Z = true) (w2 : (Cond.instanceMethod y).before a0 Z = true) (hy : y.cls ≠ "java/lang/invoke/MethodHandle" ∧ y.cls ≠ "java/lang/invoke/VarHandle") : (Cond.selects y.cls y y).before a0 Z = true := by
  obtain ⟨c, k, h1, h2, h3, h4, -⟩ := Cond.instantiable_spec wi
  exact selects_self_of_private h1 h2 (Bool.or_eq_false_iff.mp h4).1 (Cond.privateMethod_at wp) w2 hy
theorem nf_sel {a0 : Array Value} {CC : String} {y : MethodName} (ws : (Cond.selects CC y y).before a0 Z = true) : ∀ s : State, Z.Warmed39 s.vm → NotFace s y := fun s hZ => notFace_of_selects (args := #[]) (mvT hZ ws)
theorem own_comes {Post : Tables → Env → Array Value → State → Outcome → State → Prop} {ck sk : Nat} (hpost : ∀ tb e args s v u, (limb_1_1.after args s (.returned v) u = true ∧ limb_1_2.after args s (.returned v) u = true) → FrameEnd s (.returned v) u (Jvm.fieldLocs frame_1_writes args s ++ Jvm.arrayLocs frame_1_arrays args s ++ Jvm.staticLocs frame_1_statics s) ck sk → Post tb e args s (.returned v) u) (h1 : room_1.cells ≤ ck) (h2 : room_1.slots ≤ sk)
    (hl : ∀ (l : Launch) (tb : Tables) (e : Env) (s : State) (args : Array Value), heapFits s = true → rest_1 tb e args s → (Jvm.Cond.and given_1 narrow_1).value args s none s [] = some true → (∀ d ∈ tables_1, d.before args s = true) → Con l s x code maxLocals ret room_1 args s.heap s.heap.size (RI fun z _ => z = 1)) :
    ArmFor flags0 classFile x code maxLocals ret World_1 tables_1 room_1 Calls_1 rest_1 Pre_1 Post := by
  intro l hfl _ _ p e ha hc hk s m args below hf hA hF happ hP
  obtain ⟨hcalls, hrest, hpre⟩ := hP
  obtain ⟨-, -, -, hnamed, -, -, -, hat⟩ := (Spec.applies_iff hf).mp happ
  have hg := Cond.before_iff.mp (show (Jvm.Cond.and given_1 narrow_1).before args s = true from hpre)
  have hw := fun d (hd : d ∈ tables_1) => atoms_spec (ws := Jvm.Cond.code x code maxLocals ret :: tables_1) hat d (List.mem_cons_of_mem _ hd)
  obtain ⟨n, o, g1, g2, g3, v, L, rfl, ⟨⟨z, rfl, rfl⟩, N⟩, hq⟩ := hl l _ _ s args hF hrest hg hw tables_1 p e ha hc hk s m _ below hf ((Spec.applies_iff_loose hf).mp happ).1 ⟨rfl, State.Warmed39.refl s, rfl⟩ trivial
  exact ⟨n, _, g1, g2, g3, hpost _ _ _ _ _ _ ⟨Cond.after_iff.mpr rfl, Cond.after_iff.mpr (eq_i res_at (Term.int_eval (1)) rfl)⟩ ⟨hq.1, hq.2.1, (hq.2.2.sift fun y hy => Or.inr (N y hy)).mono h1 h2⟩⟩
end Own
end Jvm.Pilot.@@N@@
namespace Jvm.Pilot.@@N@@
open Jvm Jvm.ClassFile Sem Op Lib Jvm.Free Jvm.Stand Jvm.LawKit Jvm.RoadKit Bundle Jvm.Pilot.@@N@@.Jvm.D
def oN (n : Nat) : Int32 := Int32.ofNat n
theorem oN_toInt {n : Nat} (h : n < 2 ^ 31) : (oN n).toInt = (n : Int) := Int32.toInt_ofNat_of_lt h
theorem oN_inj {a b : Nat} (ha : a < 2 ^ 31) (hb : b < 2 ^ 31) : oN a = oN b ↔ a = b := by
  rw [← Int32.toInt_inj, oN_toInt ha, oN_toInt hb]; omega
theorem oN_lt {a b : Nat} (ha : a < 2 ^ 31) (hb : b < 2 ^ 31) : oN a < oN b ↔ a < b := by
  rw [Int32.lt_iff_toInt_lt, oN_toInt ha, oN_toInt hb]; omega
theorem oN_of {v : Int32} {N : Nat} (h0 : 0 ≤ v.toInt) (h1 : v.toInt < N) (hN : N ≤ 2 ^ 31) : ∃ j, j < N ∧ v = oN j := by
  refine ⟨v.toInt.toNat, by omega, Int32.toInt_inj.mp ?_⟩
  rw [oN_toInt (by omega)]; omega
theorem at_map2 {ns : List Nat} {i j : Nat} (h : ns[i]? = some j) : ((ns.map oN).map Value.int)[i]? = some (.int (oN j)) := by rw [List.getElem?_map, List.getElem?_map, h]; rfl
theorem at_map1 {xs : List Int32} {i : Nat} {x : Int32} (h : xs[i]? = some x) : (xs.map Value.int)[i]? = some (.int x) := by rw [List.getElem?_map, h]; rfl
theorem at_mapJ {xs : List Int64} {i : Nat} (h : i < xs.length) : (xs.map Value.long)[i]? = some (.long (xs.getD i 0)) := by
  rw [List.getElem?_map, List.getElem?_eq_getElem h, List.getD_eq_getElem?_getD, List.getElem?_eq_getElem h]; rfl
theorem xor_neg (x y : Int64) (hy : 0 ≤ y.toInt) : (x ^^^ y).toInt < 0 ↔ x.toInt < 0 := by
  have h1 : (x ^^^ y).toBitVec.msb = (x.toBitVec.msb ^^ y.toBitVec.msb) := BitVec.msb_xor
  have e1 := BitVec.msb_eq_toInt (x := (x ^^^ y).toBitVec)
  have e2 := BitVec.msb_eq_toInt (x := x.toBitVec)
  have e3 := BitVec.msb_eq_toInt (x := y.toBitVec)
  have f1 : (x ^^^ y).toBitVec.toInt = (x ^^^ y).toInt := rfl
  have f2 : x.toBitVec.toInt = x.toInt := rfl
  have f3 : y.toBitVec.toInt = y.toInt := rfl
  rw [f1] at e1; rw [f2] at e2; rw [f3] at e3
  have : y.toBitVec.msb = false := by rw [e3]; simpa using hy
  rw [this, Bool.xor_false] at h1
  rw [e1, e2] at h1
  simpa using h1
theorem fdiv_pos {x y q : Int} (hy : 0 < y) (hq : q = x.tdiv y) : (x < 0 → ¬ q * y = x → x / y = q - 1) ∧ (x < 0 → q * y = x → x / y = q) ∧ (0 ≤ x → x / y = q) := by
  refine ⟨fun h1 h2 => ?_, fun h1 h2 => (Int.ediv_eq_of_eq_mul_left (by omega) h2.symm), fun h1 => by rw [hq]; exact (Int.tdiv_eq_ediv_of_nonneg h1).symm⟩
  have e : q = -((-x) / y) := by rw [hq, ← Int.tdiv_eq_ediv_of_nonneg (by omega), Int.neg_tdiv, Int.neg_neg]
  have a := Int.mul_ediv_add_emod (-x) y
  have b := Int.emod_nonneg (-x) (show y ≠ 0 by omega)
  have c := Int.emod_lt_of_pos (-x) hy
  generalize (-x) / y = Q at *
  generalize (-x) % y = r at *
  subst e
  have hm : -Q * y = -(y * Q) := by rw [Int.neg_mul, Int.mul_comm]
  have hr : r ≠ 0 := fun z => h2 (by rw [hm]; omega)
  apply Int.le_antisymm
  · have : x / y < -Q := by rw [Int.ediv_lt_iff_lt_mul hy, hm]; omega
    omega
  · rw [Int.le_ediv_iff_mul_le hy, Int.sub_mul, hm]; omega
theorem fmod_pos {x y r : Int} (hy : 0 < y) (hr : r = x.tmod y) : (x < 0 → r ≠ 0 → x % y = r + y) ∧ (x < 0 → r = 0 → x % y = r) ∧ (0 ≤ x → x % y = r) := by
  refine ⟨fun h1 h2 => ?_, fun h1 h2 => ?_, fun h1 => by rw [hr]; exact (Int.tmod_eq_emod_of_nonneg h1).symm⟩
  · have e : r = -((-x) % y) := by rw [hr, ← Int.tmod_eq_emod_of_nonneg (by omega), Int.neg_tmod, Int.neg_neg]
    have a := Int.mul_ediv_add_emod (-x) y
    have b := Int.emod_nonneg (-x) (show y ≠ 0 by omega)
    have c := Int.emod_lt_of_pos (-x) hy
    generalize (-x) / y = Q at *
    generalize (-x) % y = s at *
    have e3 : x = (y - s) + y * (-Q - 1) := by rw [Int.mul_sub, Int.mul_neg]; omega
    rw [e3, Int.add_mul_emod_self_left, Int.emod_eq_of_lt (by omega) (by omega)]; omega
  · rw [h2]
    have : y ∣ x := Int.dvd_of_tmod_eq_zero (by rw [← hr]; exact h2)
    exact Int.emod_eq_zero_of_dvd this

def AL1 (Z : State) (h : Heap) (l e : Addr) (n : Int32) (vs : List Value) : Prop := Exa Z h l "java/util/ArrayList" ∧ Fld Z h l "java/util/ArrayList" "elementData" "[Ljava/lang/Object;" (.ref e) ∧ Fld Z h l "java/util/ArrayList" "size" "I" (.int n) ∧ (∃ m, Fld Z h l "java/util/AbstractList" "modCount" "I" (.int m)) ∧ OA Z h e "java/lang/Object" vs ∧ l ≠ e
theorem AL1.ext {Z : State} {h h' : Heap} {l e : Addr} {n : Int32} {vs : List Value} (O : AL1 Z h l e n vs) (E : Ext h h') : AL1 Z h' l e n vs := ⟨O.1.ext E, O.2.1.ext E, O.2.2.1.ext E, (by obtain ⟨m, F⟩ := O.2.2.2.1; exact ⟨m, F.ext E⟩), O.2.2.2.2.1.ext E, O.2.2.2.2.2⟩
theorem AL1.other {Z : State} {h h' : Heap} {l e b : Addr} {n : Int32} {vs : List Value} {sl : Nat} {v : Value} (O : AL1 Z h l e n vs) (W : Wr h h' b sl v) (q1 : l ≠ b) (q2 : e ≠ b) : AL1 Z h' l e n vs := ⟨O.1.wr W, O.2.1.other W (Or.inl q1), O.2.2.1.other W (Or.inl q1), (by obtain ⟨m, F⟩ := O.2.2.2.1; exact ⟨m, F.other W (Or.inl q1)⟩), O.2.2.2.2.1.other W q2, O.2.2.2.2.2⟩
theorem AL1.keep {Z : State} {h h' : Heap} {l e : Addr} {n : Int32} {vs : List Value} {ws : List Addr} (O : AL1 Z h l e n vs) (K : Keep h h' ws) (q1 : l ∉ ws) (q2 : e ∉ ws) : AL1 Z h' l e n vs := ⟨O.1.keep K, O.2.1.keep K q1, O.2.2.1.keep K q1, (by obtain ⟨m, F⟩ := O.2.2.2.1; exact ⟨m, F.keep K q1⟩), O.2.2.2.2.1.keep K q2, O.2.2.2.2.2⟩
def Sg (Z : State) (h : Heap) (a : Addr) (x0 x1 x2 x3 : Int64) : Prop := Exa Z h a "com/example/bellwether/bellwether/testkit/SimulatedClock$Segment" ∧ Fld Z h a "com/example/bellwether/bellwether/testkit/SimulatedClock$Segment" "real" "J" (.long x0) ∧ Fld Z h a "com/example/bellwether/bellwether/testkit/SimulatedClock$Segment" "reading" "J" (.long x1) ∧ Fld Z h a "com/example/bellwether/bellwether/testkit/SimulatedClock$Segment" "fraction" "J" (.long x2) ∧ Fld Z h a "com/example/bellwether/bellwether/testkit/SimulatedClock$Segment" "rate" "J" (.long x3)
theorem Sg.ext {Z : State} {h h' : Heap} {a : Addr} {x0 x1 x2 x3 : Int64} (O : Sg Z h a x0 x1 x2 x3) (E : Ext h h') : Sg Z h' a x0 x1 x2 x3 := ⟨O.1.ext E, O.2.1.ext E, O.2.2.1.ext E, O.2.2.2.1.ext E, O.2.2.2.2.ext E⟩
theorem Sg.other {Z : State} {h h' : Heap} {a b : Addr} {x0 x1 x2 x3 : Int64} {sl : Nat} {v : Value} (O : Sg Z h a x0 x1 x2 x3) (W : Wr h h' b sl v) (q : a ≠ b) : Sg Z h' a x0 x1 x2 x3 := ⟨O.1.wr W, O.2.1.other W (Or.inl q), O.2.2.1.other W (Or.inl q), O.2.2.2.1.other W (Or.inl q), O.2.2.2.2.other W (Or.inl q)⟩
theorem Sg.keep {Z : State} {h h' : Heap} {a : Addr} {x0 x1 x2 x3 : Int64} {ws : List Addr} (O : Sg Z h a x0 x1 x2 x3) (K : Keep h h' ws) (q : a ∉ ws) : Sg Z h' a x0 x1 x2 x3 := ⟨O.1.keep K, O.2.1.keep K q, O.2.2.1.keep K q, O.2.2.2.1.keep K q, O.2.2.2.2.keep K q⟩
def CS (Z : State) (h : Heap) (c l e : Addr) (n : Nat) (vs : List Value) (s : Addr) (x0 x1 x2 x3 : Int64) : Prop := Exa Z h c "com/example/bellwether/bellwether/testkit/SimulatedClock" ∧ Fld Z h c "com/example/bellwether/bellwether/testkit/SimulatedClock" "segments" "Ljava/util/List;" (.ref l) ∧ AL1 Z h l e (oN n) vs ∧ vs.length = 10 ∧ 1 ≤ n ∧ n ≤ 9 ∧ vs[n - 1]? = some (.ref s) ∧ Sg Z h s x0 x1 x2 x3 ∧ c ≠ l ∧ c ≠ e ∧ s ≠ l ∧ s ≠ e ∧ s ≠ c
theorem CS.ext {Z : State} {h h' : Heap} {c l e s : Addr} {n : Nat} {vs : List Value} {x0 x1 x2 x3 : Int64} (O : CS Z h c l e n vs s x0 x1 x2 x3) (E : Ext h h') : CS Z h' c l e n vs s x0 x1 x2 x3 := by
  obtain ⟨a1, a2, a3, a4, a5, a6, a7, a8, r⟩ := O
  exact ⟨a1.ext E, a2.ext E, a3.ext E, a4, a5, a6, a7, a8.ext E, r⟩
theorem CS.other {Z : State} {h h' : Heap} {c l e s b : Addr} {n : Nat} {vs : List Value} {x0 x1 x2 x3 : Int64} {sl : Nat} {v : Value} (O : CS Z h c l e n vs s x0 x1 x2 x3) (W : Wr h h' b sl v) (q1 : c ≠ b) (q2 : l ≠ b) (q3 : e ≠ b) (q4 : s ≠ b) : CS Z h' c l e n vs s x0 x1 x2 x3 := by
  obtain ⟨a1, a2, a3, a4, a5, a6, a7, a8, r⟩ := O
  exact ⟨a1.wr W, a2.other W (Or.inl q1), a3.other W q2 q3, a4, a5, a6, a7, a8.other W q4, r⟩
theorem CS.keep {Z : State} {h h' : Heap} {c l e s : Addr} {n : Nat} {vs : List Value} {x0 x1 x2 x3 : Int64} {ws : List Addr} (O : CS Z h c l e n vs s x0 x1 x2 x3) (K : Keep h h' ws) (q1 : c ∉ ws) (q2 : l ∉ ws) (q3 : e ∉ ws) (q4 : s ∉ ws) : CS Z h' c l e n vs s x0 x1 x2 x3 := by
  obtain ⟨a1, a2, a3, a4, a5, a6, a7, a8, r⟩ := O
  exact ⟨a1.keep K, a2.keep K q1, a3.keep K q2 q3, a4, a5, a6, a7, a8.keep K q4, r⟩
theorem ne_lt {a b : Addr} {n : Nat} (h : a < n) (g : n ≤ b) : a ≠ b := Nat.ne_of_lt (Nat.lt_of_lt_of_le h g)
theorem oN_pred {n : Nat} (h1 : 1 ≤ n) (h9 : n ≤ 9) : (oN n - 1).toInt = ((n - 1 : Nat) : Int) := by
  have q1 := oN_toInt (n := n) (by omega); have q3 := c_isub (oN n) 1; have q4 := rng32 (oN n - 1)
  simp only [Int32.reduceToInt] at *; omega
theorem read_plain (D r f : Int) (hf : 0 ≤ f) : (D / 1000000000) * r + ((D % 1000000000) * r + f) / 1000000000 = (D * r + f) / 1000000000 := by
  have e : D * r + f = ((D % 1000000000) * r + f) + 1000000000 * ((D / 1000000000) * r) := by
    have q := Int.mul_ediv_add_emod D 1000000000
    have : D * r = (1000000000 * (D / 1000000000) + D % 1000000000) * r := by rw [q]
    rw [this, Int.add_mul, Int.mul_assoc]; omega
  rw [e, Int.add_mul_ediv_left _ _ (by decide)]; omega
theorem frac_plain (D r f : Int) : ((D % 1000000000) * r + f) % 1000000000 = (D * r + f) % 1000000000 := by
  have e : D * r + f = ((D % 1000000000) * r + f) + 1000000000 * ((D / 1000000000) * r) := by
    have q := Int.mul_ediv_add_emod D 1000000000
    have : D * r = (1000000000 * (D / 1000000000) + D % 1000000000) * r := by rw [q]
    rw [this, Int.add_mul, Int.mul_assoc]; omega
  rw [e, Int.add_mul_emod_self_left]
theorem carry_bd {D r f : Int} (hr : 1 ≤ r) (hr2 : r ≤ 4563402752) (hf : 0 ≤ f) (hf2 : f < 1000000000) : 0 ≤ (D % 1000000000) * r ∧ (D % 1000000000) * r ≤ 999999999 * 4563402752 := by
  have a := Int.emod_nonneg D (show (1000000000 : Int) ≠ 0 by decide)
  have b := Int.emod_lt_of_pos D (show (0 : Int) < 1000000000 by decide)
  refine ⟨Int.mul_nonneg a (by omega), ?_⟩
  have h1 : (D % 1000000000) * r ≤ 999999999 * r := Int.mul_le_mul_of_nonneg_right (by omega) (by omega)
  omega
theorem sixty_three {x : Int64} : -9223372036854775808 ≤ x.toInt ∧ x.toInt < 9223372036854775808 := rng64 x
theorem rt_q {w r : Int} (r0 : 268435456 ≤ r) (w0 : -4503599627370496 < w) (w1 : w < 4503599627370496) : -16777216 ≤ w / r ∧ w / r < 16777216 := by
  refine ⟨?_, ?_⟩
  · rw [Int.le_ediv_iff_mul_le (by omega)]; omega
  · exact Int.ediv_lt_of_lt_mul (by omega) (by omega)
theorem rt_c {m r f : Int} (r0 : 268435456 ≤ r) (m0 : 0 ≤ m) (m1 : m < r) (f0 : 0 ≤ f) (f1 : f < 1000000000) : -1000000000 ≤ (-(m * 1000000000 - f)) / r ∧ (-(m * 1000000000 - f)) / r < 4 := by
  refine ⟨?_, ?_⟩
  · rw [Int.le_ediv_iff_mul_le (by omega)]; omega
  · exact Int.ediv_lt_of_lt_mul (by omega) (by omega)
theorem rt_plain {w r f d : Int} (hr : 0 < r) (hd : d = (w / r) * 1000000000 - (-((w % r) * 1000000000 - f)) / r) : w * 1000000000 ≤ d * r + f ∧ (d - 1) * r + f < w * 1000000000 := by
  have e := Int.mul_ediv_add_emod w r
  generalize w / r = q at *; generalize w % r = m at *
  have a := Int.mul_ediv_add_emod (-(m * 1000000000 - f)) r
  have b := Int.emod_nonneg (-(m * 1000000000 - f)) (show r ≠ 0 by omega)
  have c := Int.emod_lt_of_pos (-(m * 1000000000 - f)) hr
  generalize (-(m * 1000000000 - f)) / r = k at *; generalize (-(m * 1000000000 - f)) % r = j at *
  have x : d * r = r * q * 1000000000 - r * k := by rw [hd, Int.sub_mul, Int.mul_comm k r, Int.mul_comm q 1000000000, Int.mul_assoc, Int.mul_comm q r, Int.mul_comm]
  have y : (d - 1) * r = d * r - r := by rw [Int.sub_mul, Int.one_mul]
  rw [y, x]; generalize r * q = P at *; generalize r * k = Q at *; omega
theorem rd_iff {x X1 D r f : Int} : (x ≤ X1 + (D * r + f) / 1000000000 ↔ (x - X1) * 1000000000 ≤ D * r + f) := by
  generalize D * r + f = P; omega
theorem mul_bd {D r B C : Int} (d0 : -B ≤ D) (d1 : D ≤ B) (r0 : 0 ≤ r) (r1 : r ≤ C) (hB : 0 ≤ B) : -(B * C) ≤ D * r ∧ D * r ≤ B * C := by
  have a := Int.mul_le_mul_of_nonneg_right d1 r0
  have b := Int.mul_le_mul_of_nonneg_right d0 r0
  have c := Int.mul_le_mul_of_nonneg_left r1 hB
  rw [Int.neg_mul] at b; omega

theorem rd_ge {x X1 D r f z : Int} (w0 : -4503599627370496 < x - X1) (w1 : x - X1 < 4503599627370496) (b0 : -4503599627370496 < X1) (b1 : X1 < 4503599627370496) (r1 : r ≤ 4563402752) (z0 : -9223372036854775808 ≤ z) (z1 : z < 9223372036854775808) (h : (z - (X1 + (D * r + f) / 1000000000)) % 18446744073709551616 = 0) (h1 : (x - X1) * 1000000000 ≤ D * r + f) (h2 : (D - 1) * r + f < (x - X1) * 1000000000) : x ≤ z := by
  rw [Int.sub_mul, Int.one_mul] at h2
  generalize D * r = P at *; omega
theorem rd_lt {x X1 D r f z : Int} (w0 : -4503599627370496 < x - X1) (w1 : x - X1 < 4503599627370496) (b0 : -4503599627370496 < X1) (b1 : X1 < 4503599627370496) (r1 : r ≤ 4563402752) (z0 : -9223372036854775808 ≤ z) (z1 : z < 9223372036854775808) (h : (z - (X1 + ((D - 1) * r + f) / 1000000000)) % 18446744073709551616 = 0) (h1 : (x - X1) * 1000000000 ≤ D * r + f) (h2 : (D - 1) * r + f < (x - X1) * 1000000000) : z < x := by
  rw [Int.sub_mul, Int.one_mul] at h2 h
  generalize D * r = P at *; omega
theorem hi_after {w D r f : Int} (hw : 1 ≤ w) (hr : 0 ≤ r) (hf : f < 1000000000) (h1 : w * 1000000000 ≤ D * r + f) : 0 < D := by
  rcases Int.lt_or_le 0 D with h | h
  · exact h
  · have := Int.mul_le_mul_of_nonneg_right h hr; rw [Int.zero_mul] at this; omega
theorem lo_before {w D r T : Int} (hr : 0 ≤ r) (hw : w ≤ (T * r) / 1000000000) (h2 : (D - 1) * r + 0 < w * 1000000000) : D ≤ T := by
  rcases Int.lt_or_le T D with h | h
  · have := Int.mul_le_mul_of_nonneg_right (show T ≤ D - 1 by omega) hr; generalize (D - 1) * r = P at *; generalize T * r = Q at *; omega
  · exact h
theorem nst_exa {Z : State} {h : Heap} {b : Addr} {D : String} (B : Exa Z h b D) : ∃ c : Cell, h[b]? = some c ∧ c.vm.isStatics = false := by
  obtain ⟨c, _, e1, -, -, e4, -⟩ := B; exact ⟨c, e1, e4⟩
theorem pr_keep {h h' h2 : Heap} {ws : List Addr} {n : Nat} (P : ∀ (x : Addr) (c : Cell), x < n → h[x]? = some c → h'[x]? = some c) (K : Keep h' h2 ws) (q : ∀ y ∈ ws, n ≤ y) : ∀ (x : Addr) (c : Cell), x < n → h[x]? = some c → h2[x]? = some c := fun x c hx hc => K.2.1 x c (P x c hx hc) (fun m => absurd (q x m) (Nat.not_le_of_lt hx))
theorem pr_ext {h h' h2 : Heap} {n : Nat} (P : ∀ (x : Addr) (c : Cell), x < n → h[x]? = some c → h'[x]? = some c) (K : Ext h' h2) : ∀ (x : Addr) (c : Cell), x < n → h[x]? = some c → h2[x]? = some c := fun x c hx hc => K.2 x c (P x c hx hc)
theorem all1 {a : Addr} {n : Nat} (q : n ≤ a) : ∀ y ∈ [a], n ≤ y := fun y m => by cases List.mem_singleton.mp m; exact q
theorem all2 {a b : Addr} {n : Nat} (q : n ≤ a) (r : n ≤ b) : ∀ y ∈ [a, b], n ≤ y := fun y m => by rcases List.mem_cons.mp m with e | e; rw [e]; exact q; exact all1 r y e
theorem sta_pr {Z : State} {h : Heap} {C f d : String} {v : Value} (S : Sta Z h C f d v) (h' : Heap) (P : ∀ (x : Addr) (c : Cell), x < h.size → h[x]? = some c → h'[x]? = some c) : Sta Z h' C f d v := by
  obtain ⟨cf, i, k, f, st, cell, h1, h2, h3, h4, h5, h6, h7⟩ := S
  exact ⟨cf, i, k, f, st, cell, h1, h2, h3, h4, P st cell (Array.getElem?_eq_some_iff.mp h5).1 h5, h6, h7⟩
theorem d0_0 : Dc jdk_29_method_52_code 0 (.lload_n 0) 1 1 := ⟨by decide +kernel, rfl⟩
theorem d0_1 : Dc jdk_29_method_52_code 1 (.lload_n 2) 1 2 := ⟨by decide +kernel, rfl⟩
theorem d0_2 : Dc jdk_29_method_52_code 2 .lrem 1 3 := ⟨by decide +kernel, rfl⟩
theorem d0_3 : Dc jdk_29_method_52_code 3 (.lstore 4) 2 5 := ⟨by decide +kernel, rfl⟩
theorem d0_5 : Dc jdk_29_method_52_code 5 (.lload_n 0) 1 6 := ⟨by decide +kernel, rfl⟩
theorem d0_6 : Dc jdk_29_method_52_code 6 (.lload_n 2) 1 7 := ⟨by decide +kernel, rfl⟩
theorem d0_7 : Dc jdk_29_method_52_code 7 .lxor 1 8 := ⟨by decide +kernel, rfl⟩
theorem d0_8 : Dc jdk_29_method_52_code 8 (.lconst 0) 1 9 := ⟨by decide +kernel, rfl⟩
theorem d0_9 : Dc jdk_29_method_52_code 9 .lcmp 1 10 := ⟨by decide +kernel, rfl⟩
theorem d0_10 : Jp jdk_29_method_52_code 10 (.ifCond .ge) 25 13 := ⟨15, by decide +kernel, by decide, by decide, rfl⟩
theorem d0_13 : Dc jdk_29_method_52_code 13 (.lload 4) 2 15 := ⟨by decide +kernel, rfl⟩
theorem d0_15 : Dc jdk_29_method_52_code 15 (.lconst 0) 1 16 := ⟨by decide +kernel, rfl⟩
theorem d0_16 : Dc jdk_29_method_52_code 16 .lcmp 1 17 := ⟨by decide +kernel, rfl⟩
theorem d0_17 : Jp jdk_29_method_52_code 17 (.ifCond .eq) 25 20 := ⟨8, by decide +kernel, by decide, by decide, rfl⟩
theorem d0_20 : Dc jdk_29_method_52_code 20 (.lload 4) 2 22 := ⟨by decide +kernel, rfl⟩
theorem d0_22 : Dc jdk_29_method_52_code 22 (.lload_n 2) 1 23 := ⟨by decide +kernel, rfl⟩
theorem d0_23 : Dc jdk_29_method_52_code 23 .ladd 1 24 := ⟨by decide +kernel, rfl⟩
theorem d0_24 : Dc jdk_29_method_52_code 24 .lreturn 1 25 := ⟨by decide +kernel, rfl⟩
theorem d0_25 : Dc jdk_29_method_52_code 25 (.lload 4) 2 27 := ⟨by decide +kernel, rfl⟩
theorem d0_27 : Dc jdk_29_method_52_code 27 .lreturn 1 28 := ⟨by decide +kernel, rfl⟩
theorem d1_0 : Dc jdk_29_method_49_code 0 (.lload_n 0) 1 1 := ⟨by decide +kernel, rfl⟩
theorem d1_1 : Dc jdk_29_method_49_code 1 (.lload_n 2) 1 2 := ⟨by decide +kernel, rfl⟩
theorem d1_2 : Dc jdk_29_method_49_code 2 .ldiv 1 3 := ⟨by decide +kernel, rfl⟩
theorem d1_3 : Dc jdk_29_method_49_code 3 (.lstore 4) 2 5 := ⟨by decide +kernel, rfl⟩
theorem d1_5 : Dc jdk_29_method_49_code 5 (.lload_n 0) 1 6 := ⟨by decide +kernel, rfl⟩
theorem d1_6 : Dc jdk_29_method_49_code 6 (.lload_n 2) 1 7 := ⟨by decide +kernel, rfl⟩
theorem d1_7 : Dc jdk_29_method_49_code 7 .lxor 1 8 := ⟨by decide +kernel, rfl⟩
theorem d1_8 : Dc jdk_29_method_49_code 8 (.lconst 0) 1 9 := ⟨by decide +kernel, rfl⟩
theorem d1_9 : Dc jdk_29_method_49_code 9 .lcmp 1 10 := ⟨by decide +kernel, rfl⟩
theorem d1_10 : Jp jdk_29_method_49_code 10 (.ifCond .ge) 27 13 := ⟨17, by decide +kernel, by decide, by decide, rfl⟩
theorem d1_13 : Dc jdk_29_method_49_code 13 (.lload 4) 2 15 := ⟨by decide +kernel, rfl⟩
theorem d1_15 : Dc jdk_29_method_49_code 15 (.lload_n 2) 1 16 := ⟨by decide +kernel, rfl⟩
theorem d1_16 : Dc jdk_29_method_49_code 16 .lmul 1 17 := ⟨by decide +kernel, rfl⟩
theorem d1_17 : Dc jdk_29_method_49_code 17 (.lload_n 0) 1 18 := ⟨by decide +kernel, rfl⟩
theorem d1_18 : Dc jdk_29_method_49_code 18 .lcmp 1 19 := ⟨by decide +kernel, rfl⟩
theorem d1_19 : Jp jdk_29_method_49_code 19 (.ifCond .eq) 27 22 := ⟨8, by decide +kernel, by decide, by decide, rfl⟩
theorem d1_22 : Dc jdk_29_method_49_code 22 (.lload 4) 2 24 := ⟨by decide +kernel, rfl⟩
theorem d1_24 : Dc jdk_29_method_49_code 24 (.lconst 1) 1 25 := ⟨by decide +kernel, rfl⟩
theorem d1_25 : Dc jdk_29_method_49_code 25 .lsub 1 26 := ⟨by decide +kernel, rfl⟩
theorem d1_26 : Dc jdk_29_method_49_code 26 .lreturn 1 27 := ⟨by decide +kernel, rfl⟩
theorem d1_27 : Dc jdk_29_method_49_code 27 (.lload 4) 2 29 := ⟨by decide +kernel, rfl⟩
theorem d1_29 : Dc jdk_29_method_49_code 29 .lreturn 1 30 := ⟨by decide +kernel, rfl⟩
theorem d2_0 : Dc jdk_29_method_61_code 0 (.lload_n 0) 1 1 := ⟨by decide +kernel, rfl⟩
theorem d2_1 : Dc jdk_29_method_61_code 1 (.lconst 0) 1 2 := ⟨by decide +kernel, rfl⟩
theorem d2_2 : Dc jdk_29_method_61_code 2 .lcmp 1 3 := ⟨by decide +kernel, rfl⟩
theorem d2_3 : Jp jdk_29_method_61_code 3 (.ifCond .ge) 11 6 := ⟨8, by decide +kernel, by decide, by decide, rfl⟩
theorem d2_6 : Dc jdk_29_method_61_code 6 (.lload_n 0) 1 7 := ⟨by decide +kernel, rfl⟩
theorem d2_7 : Dc jdk_29_method_61_code 7 .lneg 1 8 := ⟨by decide +kernel, rfl⟩
theorem d2_8 : Jp jdk_29_method_61_code 8 .goto 12 11 := ⟨4, by decide +kernel, by decide, by decide, rfl⟩
theorem d2_11 : Dc jdk_29_method_61_code 11 (.lload_n 0) 1 12 := ⟨by decide +kernel, rfl⟩
theorem d2_12 : Dc jdk_29_method_61_code 12 .lreturn 1 13 := ⟨by decide +kernel, rfl⟩
theorem d3_0 : Dc jdk_29_method_30_code 0 (.lload_n 0) 1 1 := ⟨by decide +kernel, rfl⟩
theorem d3_1 : Dc jdk_29_method_30_code 1 (.lload_n 2) 1 2 := ⟨by decide +kernel, rfl⟩
theorem d3_2 : Dc jdk_29_method_30_code 2 .lmul 1 3 := ⟨by decide +kernel, rfl⟩
theorem d3_3 : Dc jdk_29_method_30_code 3 (.lstore 4) 2 5 := ⟨by decide +kernel, rfl⟩
theorem d3_5 : Dc jdk_29_method_30_code 5 (.lload_n 0) 1 6 := ⟨by decide +kernel, rfl⟩
theorem d3_6 : Dc jdk_29_method_30_code 6 (.invokestatic 122) 3 9 := ⟨by decide +kernel, rfl⟩
theorem d3_9 : Dc jdk_29_method_30_code 9 (.lstore 6) 2 11 := ⟨by decide +kernel, rfl⟩
theorem d3_11 : Dc jdk_29_method_30_code 11 (.lload_n 2) 1 12 := ⟨by decide +kernel, rfl⟩
theorem d3_12 : Dc jdk_29_method_30_code 12 (.invokestatic 122) 3 15 := ⟨by decide +kernel, rfl⟩
theorem d3_15 : Dc jdk_29_method_30_code 15 (.lstore 8) 2 17 := ⟨by decide +kernel, rfl⟩
theorem d3_17 : Dc jdk_29_method_30_code 17 (.lload 6) 2 19 := ⟨by decide +kernel, rfl⟩
theorem d3_19 : Dc jdk_29_method_30_code 19 (.lload 8) 2 21 := ⟨by decide +kernel, rfl⟩
theorem d3_21 : Dc jdk_29_method_30_code 21 .lor 1 22 := ⟨by decide +kernel, rfl⟩
theorem d3_22 : Dc jdk_29_method_30_code 22 (.bipush 31) 2 24 := ⟨by decide +kernel, rfl⟩
theorem d3_24 : Dc jdk_29_method_30_code 24 .lushr 1 25 := ⟨by decide +kernel, rfl⟩
theorem d3_25 : Dc jdk_29_method_30_code 25 (.lconst 0) 1 26 := ⟨by decide +kernel, rfl⟩
theorem d3_26 : Dc jdk_29_method_30_code 26 .lcmp 1 27 := ⟨by decide +kernel, rfl⟩
theorem d3_27 : Jp jdk_29_method_30_code 27 (.ifCond .eq) 71 30 := ⟨44, by decide +kernel, by decide, by decide, rfl⟩
theorem d3_30 : Dc jdk_29_method_30_code 30 (.lload_n 2) 1 31 := ⟨by decide +kernel, rfl⟩
theorem d3_31 : Dc jdk_29_method_30_code 31 (.lconst 0) 1 32 := ⟨by decide +kernel, rfl⟩
theorem d3_32 : Dc jdk_29_method_30_code 32 .lcmp 1 33 := ⟨by decide +kernel, rfl⟩
theorem d3_33 : Jp jdk_29_method_30_code 33 (.ifCond .eq) 45 36 := ⟨12, by decide +kernel, by decide, by decide, rfl⟩
theorem d3_36 : Dc jdk_29_method_30_code 36 (.lload 4) 2 38 := ⟨by decide +kernel, rfl⟩
theorem d3_38 : Dc jdk_29_method_30_code 38 (.lload_n 2) 1 39 := ⟨by decide +kernel, rfl⟩
theorem d3_39 : Dc jdk_29_method_30_code 39 .ldiv 1 40 := ⟨by decide +kernel, rfl⟩
theorem d3_40 : Dc jdk_29_method_30_code 40 (.lload_n 0) 1 41 := ⟨by decide +kernel, rfl⟩
theorem d3_41 : Dc jdk_29_method_30_code 41 .lcmp 1 42 := ⟨by decide +kernel, rfl⟩
theorem d3_42 : Jp jdk_29_method_30_code 42 (.ifCond .ne) 61 45 := ⟨19, by decide +kernel, by decide, by decide, rfl⟩
theorem d3_45 : Dc jdk_29_method_30_code 45 (.lload_n 0) 1 46 := ⟨by decide +kernel, rfl⟩
theorem d3_46 : Dc jdk_29_method_30_code 46 (.ldc2_w 128) 3 49 := ⟨by decide +kernel, rfl⟩
theorem d3_49 : Dc jdk_29_method_30_code 49 .lcmp 1 50 := ⟨by decide +kernel, rfl⟩
theorem d3_50 : Jp jdk_29_method_30_code 50 (.ifCond .ne) 71 53 := ⟨21, by decide +kernel, by decide, by decide, rfl⟩
theorem d3_71 : Dc jdk_29_method_30_code 71 (.lload 4) 2 73 := ⟨by decide +kernel, rfl⟩
theorem d3_73 : Dc jdk_29_method_30_code 73 .lreturn 1 74 := ⟨by decide +kernel, rfl⟩
theorem d4_0 : Dc jdk_29_method_65_code 0 (.iload_n 0) 1 1 := ⟨by decide +kernel, rfl⟩
theorem d4_1 : Dc jdk_29_method_65_code 1 (.iload_n 1) 1 2 := ⟨by decide +kernel, rfl⟩
theorem d4_2 : Jp jdk_29_method_65_code 2 (.if_icmp .lt) 9 5 := ⟨7, by decide +kernel, by decide, by decide, rfl⟩
theorem d4_5 : Dc jdk_29_method_65_code 5 (.iload_n 0) 1 6 := ⟨by decide +kernel, rfl⟩
theorem d4_6 : Jp jdk_29_method_65_code 6 .goto 10 9 := ⟨4, by decide +kernel, by decide, by decide, rfl⟩
theorem d4_9 : Dc jdk_29_method_65_code 9 (.iload_n 1) 1 10 := ⟨by decide +kernel, rfl⟩
theorem d4_10 : Dc jdk_29_method_65_code 10 .ireturn 1 11 := ⟨by decide +kernel, rfl⟩
theorem d5_0 : Dc jdk_22_method_1_code 0 (.aload_n 0) 1 1 := ⟨by decide +kernel, rfl⟩
theorem d5_1 : Dc jdk_22_method_1_code 1 (.invokespecial 1) 3 4 := ⟨by decide +kernel, rfl⟩
theorem d5_4 : Dc jdk_22_method_1_code 4 .return_ 1 5 := ⟨by decide +kernel, rfl⟩
theorem d6_0 : Dc jdk_39_method_1_code 0 (.aload_n 0) 1 1 := ⟨by decide +kernel, rfl⟩
theorem d6_1 : Dc jdk_39_method_1_code 1 (.invokespecial 1) 3 4 := ⟨by decide +kernel, rfl⟩
theorem d6_4 : Dc jdk_39_method_1_code 4 (.aload_n 0) 1 5 := ⟨by decide +kernel, rfl⟩
theorem d6_5 : Dc jdk_39_method_1_code 5 (.iconst 0) 1 6 := ⟨by decide +kernel, rfl⟩
theorem d6_6 : Dc jdk_39_method_1_code 6 (.putfield 7) 3 9 := ⟨by decide +kernel, rfl⟩
theorem d6_9 : Dc jdk_39_method_1_code 9 .return_ 1 10 := ⟨by decide +kernel, rfl⟩
theorem d7_0 : Dc jdk_38_method_2_code 0 (.aload_n 0) 1 1 := ⟨by decide +kernel, rfl⟩
theorem d7_1 : Dc jdk_38_method_2_code 1 (.invokespecial 1) 3 4 := ⟨by decide +kernel, rfl⟩
theorem d7_4 : Dc jdk_38_method_2_code 4 (.aload_n 0) 1 5 := ⟨by decide +kernel, rfl⟩
theorem d7_5 : Dc jdk_38_method_2_code 5 (.getstatic 39) 3 8 := ⟨by decide +kernel, rfl⟩
theorem d7_8 : Dc jdk_38_method_2_code 8 (.putfield 9) 3 11 := ⟨by decide +kernel, rfl⟩
theorem d7_11 : Dc jdk_38_method_2_code 11 .return_ 1 12 := ⟨by decide +kernel, rfl⟩
theorem d8_0 : Dc jdk_38_method_6_code 0 (.aload_n 0) 1 1 := ⟨by decide +kernel, rfl⟩
theorem d8_1 : Dc jdk_38_method_6_code 1 (.getfield 9) 3 4 := ⟨by decide +kernel, rfl⟩
theorem d8_4 : Dc jdk_38_method_6_code 4 .arraylength 1 5 := ⟨by decide +kernel, rfl⟩
theorem d8_5 : Dc jdk_38_method_6_code 5 (.istore_n 2) 1 6 := ⟨by decide +kernel, rfl⟩
theorem d8_6 : Dc jdk_38_method_6_code 6 (.iload_n 2) 1 7 := ⟨by decide +kernel, rfl⟩
theorem d8_7 : Jp jdk_38_method_6_code 7 (.ifCond .gt) 20 10 := ⟨13, by decide +kernel, by decide, by decide, rfl⟩
theorem d8_10 : Dc jdk_38_method_6_code 10 (.aload_n 0) 1 11 := ⟨by decide +kernel, rfl⟩
theorem d8_11 : Dc jdk_38_method_6_code 11 (.getfield 9) 3 14 := ⟨by decide +kernel, rfl⟩
theorem d8_14 : Dc jdk_38_method_6_code 14 (.getstatic 39) 3 17 := ⟨by decide +kernel, rfl⟩
theorem d8_17 : Jp jdk_38_method_6_code 17 (.if_acmp .eq) 45 20 := ⟨28, by decide +kernel, by decide, by decide, rfl⟩
theorem d8_45 : Dc jdk_38_method_6_code 45 (.aload_n 0) 1 46 := ⟨by decide +kernel, rfl⟩
theorem d8_46 : Dc jdk_38_method_6_code 46 (.bipush 10) 2 48 := ⟨by decide +kernel, rfl⟩
theorem d8_48 : Dc jdk_38_method_6_code 48 (.iload_n 1) 1 49 := ⟨by decide +kernel, rfl⟩
theorem d8_49 : Dc jdk_38_method_6_code 49 (.invokestatic 79) 3 52 := ⟨by decide +kernel, rfl⟩
theorem d8_52 : Dc jdk_38_method_6_code 52 (.anewarray 7) 3 55 := ⟨by decide +kernel, rfl⟩
theorem d8_55 : Dc jdk_38_method_6_code 55 .dup_x1 1 56 := ⟨by decide +kernel, rfl⟩
theorem d8_56 : Dc jdk_38_method_6_code 56 (.putfield 9) 3 59 := ⟨by decide +kernel, rfl⟩
theorem d8_59 : Dc jdk_38_method_6_code 59 .areturn 1 60 := ⟨by decide +kernel, rfl⟩
theorem d9_0 : Dc jdk_38_method_7_code 0 (.aload_n 0) 1 1 := ⟨by decide +kernel, rfl⟩
theorem d9_1 : Dc jdk_38_method_7_code 1 (.aload_n 0) 1 2 := ⟨by decide +kernel, rfl⟩
theorem d9_2 : Dc jdk_38_method_7_code 2 (.getfield 48) 3 5 := ⟨by decide +kernel, rfl⟩
theorem d9_5 : Dc jdk_38_method_7_code 5 (.iconst 1) 1 6 := ⟨by decide +kernel, rfl⟩
theorem d9_6 : Dc jdk_38_method_7_code 6 .iadd 1 7 := ⟨by decide +kernel, rfl⟩
theorem d9_7 : Dc jdk_38_method_7_code 7 (.invokevirtual 69) 3 10 := ⟨by decide +kernel, rfl⟩
theorem d9_10 : Dc jdk_38_method_7_code 10 .areturn 1 11 := ⟨by decide +kernel, rfl⟩
theorem d10_0 : Dc jdk_38_method_24_code 0 (.iload_n 3) 1 1 := ⟨by decide +kernel, rfl⟩
theorem d10_1 : Dc jdk_38_method_24_code 1 (.aload_n 2) 1 2 := ⟨by decide +kernel, rfl⟩
theorem d10_2 : Dc jdk_38_method_24_code 2 .arraylength 1 3 := ⟨by decide +kernel, rfl⟩
theorem d10_3 : Jp jdk_38_method_24_code 3 (.if_icmp .ne) 11 6 := ⟨8, by decide +kernel, by decide, by decide, rfl⟩
theorem d10_6 : Dc jdk_38_method_24_code 6 (.aload_n 0) 1 7 := ⟨by decide +kernel, rfl⟩
theorem d10_7 : Dc jdk_38_method_24_code 7 (.invokevirtual 129) 3 10 := ⟨by decide +kernel, rfl⟩
theorem d10_10 : Dc jdk_38_method_24_code 10 (.astore_n 2) 1 11 := ⟨by decide +kernel, rfl⟩
theorem d10_11 : Dc jdk_38_method_24_code 11 (.aload_n 2) 1 12 := ⟨by decide +kernel, rfl⟩
theorem d10_12 : Dc jdk_38_method_24_code 12 (.iload_n 3) 1 13 := ⟨by decide +kernel, rfl⟩
theorem d10_13 : Dc jdk_38_method_24_code 13 (.aload_n 1) 1 14 := ⟨by decide +kernel, rfl⟩
theorem d10_14 : Dc jdk_38_method_24_code 14 .aastore 1 15 := ⟨by decide +kernel, rfl⟩
theorem d10_15 : Dc jdk_38_method_24_code 15 (.aload_n 0) 1 16 := ⟨by decide +kernel, rfl⟩
theorem d10_16 : Dc jdk_38_method_24_code 16 (.iload_n 3) 1 17 := ⟨by decide +kernel, rfl⟩
theorem d10_17 : Dc jdk_38_method_24_code 17 (.iconst 1) 1 18 := ⟨by decide +kernel, rfl⟩
theorem d10_18 : Dc jdk_38_method_24_code 18 .iadd 1 19 := ⟨by decide +kernel, rfl⟩
theorem d10_19 : Dc jdk_38_method_24_code 19 (.putfield 48) 3 22 := ⟨by decide +kernel, rfl⟩
theorem d10_22 : Dc jdk_38_method_24_code 22 .return_ 1 23 := ⟨by decide +kernel, rfl⟩
theorem d11_0 : Dc jdk_38_method_25_code 0 (.aload_n 0) 1 1 := ⟨by decide +kernel, rfl⟩
theorem d11_1 : Dc jdk_38_method_25_code 1 .dup 1 2 := ⟨by decide +kernel, rfl⟩
theorem d11_2 : Dc jdk_38_method_25_code 2 (.getfield 63) 3 5 := ⟨by decide +kernel, rfl⟩
theorem d11_5 : Dc jdk_38_method_25_code 5 (.iconst 1) 1 6 := ⟨by decide +kernel, rfl⟩
theorem d11_6 : Dc jdk_38_method_25_code 6 .iadd 1 7 := ⟨by decide +kernel, rfl⟩
theorem d11_7 : Dc jdk_38_method_25_code 7 (.putfield 63) 3 10 := ⟨by decide +kernel, rfl⟩
theorem d11_10 : Dc jdk_38_method_25_code 10 (.aload_n 0) 1 11 := ⟨by decide +kernel, rfl⟩
theorem d11_11 : Dc jdk_38_method_25_code 11 (.aload_n 1) 1 12 := ⟨by decide +kernel, rfl⟩
theorem d11_12 : Dc jdk_38_method_25_code 12 (.aload_n 0) 1 13 := ⟨by decide +kernel, rfl⟩
theorem d11_13 : Dc jdk_38_method_25_code 13 (.getfield 9) 3 16 := ⟨by decide +kernel, rfl⟩
theorem d11_16 : Dc jdk_38_method_25_code 16 (.aload_n 0) 1 17 := ⟨by decide +kernel, rfl⟩
theorem d11_17 : Dc jdk_38_method_25_code 17 (.getfield 48) 3 20 := ⟨by decide +kernel, rfl⟩
theorem d11_20 : Dc jdk_38_method_25_code 20 (.invokevirtual 131) 3 23 := ⟨by decide +kernel, rfl⟩
theorem d11_23 : Dc jdk_38_method_25_code 23 (.iconst 1) 1 24 := ⟨by decide +kernel, rfl⟩
theorem d11_24 : Dc jdk_38_method_25_code 24 .ireturn 1 25 := ⟨by decide +kernel, rfl⟩
theorem d12_0 : Dc jdk_38_method_8_code 0 (.aload_n 0) 1 1 := ⟨by decide +kernel, rfl⟩
theorem d12_1 : Dc jdk_38_method_8_code 1 (.getfield 48) 3 4 := ⟨by decide +kernel, rfl⟩
theorem d12_4 : Dc jdk_38_method_8_code 4 .ireturn 1 5 := ⟨by decide +kernel, rfl⟩
theorem d13_0 : Dc jdk_41_method_11_code 0 (.iload_n 0) 1 1 := ⟨by decide +kernel, rfl⟩
theorem d13_1 : Jp jdk_41_method_11_code 1 (.ifCond .lt) 9 4 := ⟨8, by decide +kernel, by decide, by decide, rfl⟩
theorem d13_4 : Dc jdk_41_method_11_code 4 (.iload_n 0) 1 5 := ⟨by decide +kernel, rfl⟩
theorem d13_5 : Dc jdk_41_method_11_code 5 (.iload_n 1) 1 6 := ⟨by decide +kernel, rfl⟩
theorem d13_6 : Jp jdk_41_method_11_code 6 (.if_icmp .lt) 16 9 := ⟨10, by decide +kernel, by decide, by decide, rfl⟩
theorem d13_16 : Dc jdk_41_method_11_code 16 (.iload_n 0) 1 17 := ⟨by decide +kernel, rfl⟩
theorem d13_17 : Dc jdk_41_method_11_code 17 .ireturn 1 18 := ⟨by decide +kernel, rfl⟩
theorem d14_0 : Dc jdk_31_method_17_code 0 (.iload_n 0) 1 1 := ⟨by decide +kernel, rfl⟩
theorem d14_1 : Dc jdk_31_method_17_code 1 (.iload_n 1) 1 2 := ⟨by decide +kernel, rfl⟩
theorem d14_2 : Dc jdk_31_method_17_code 2 .aconst_null 1 3 := ⟨by decide +kernel, rfl⟩
theorem d14_3 : Dc jdk_31_method_17_code 3 (.invokestatic 105) 3 6 := ⟨by decide +kernel, rfl⟩
theorem d14_6 : Dc jdk_31_method_17_code 6 .ireturn 1 7 := ⟨by decide +kernel, rfl⟩
theorem d15_0 : Dc jdk_38_method_18_code 0 (.aload_n 0) 1 1 := ⟨by decide +kernel, rfl⟩
theorem d15_1 : Dc jdk_38_method_18_code 1 (.getfield 9) 3 4 := ⟨by decide +kernel, rfl⟩
theorem d15_4 : Dc jdk_38_method_18_code 4 (.iload_n 1) 1 5 := ⟨by decide +kernel, rfl⟩
theorem d15_5 : Dc jdk_38_method_18_code 5 .aaload 1 6 := ⟨by decide +kernel, rfl⟩
theorem d15_6 : Dc jdk_38_method_18_code 6 .areturn 1 7 := ⟨by decide +kernel, rfl⟩
theorem d16_0 : Dc jdk_38_method_20_code 0 (.iload_n 1) 1 1 := ⟨by decide +kernel, rfl⟩
theorem d16_1 : Dc jdk_38_method_20_code 1 (.aload_n 0) 1 2 := ⟨by decide +kernel, rfl⟩
theorem d16_2 : Dc jdk_38_method_20_code 2 (.getfield 48) 3 5 := ⟨by decide +kernel, rfl⟩
theorem d16_5 : Dc jdk_38_method_20_code 5 (.invokestatic 118) 3 8 := ⟨by decide +kernel, rfl⟩
theorem d16_8 : Dc jdk_38_method_20_code 8 .pop 1 9 := ⟨by decide +kernel, rfl⟩
theorem d16_9 : Dc jdk_38_method_20_code 9 (.aload_n 0) 1 10 := ⟨by decide +kernel, rfl⟩
theorem d16_10 : Dc jdk_38_method_20_code 10 (.iload_n 1) 1 11 := ⟨by decide +kernel, rfl⟩
theorem d16_11 : Dc jdk_38_method_20_code 11 (.invokevirtual 123) 3 14 := ⟨by decide +kernel, rfl⟩
theorem d16_14 : Dc jdk_38_method_20_code 14 .areturn 1 15 := ⟨by decide +kernel, rfl⟩
theorem d17_0 : Dc jdk_38_method_23_code 0 (.iload_n 1) 1 1 := ⟨by decide +kernel, rfl⟩
theorem d17_1 : Dc jdk_38_method_23_code 1 (.aload_n 0) 1 2 := ⟨by decide +kernel, rfl⟩
theorem d17_2 : Dc jdk_38_method_23_code 2 (.getfield 48) 3 5 := ⟨by decide +kernel, rfl⟩
theorem d17_5 : Dc jdk_38_method_23_code 5 (.invokestatic 118) 3 8 := ⟨by decide +kernel, rfl⟩
theorem d17_8 : Dc jdk_38_method_23_code 8 .pop 1 9 := ⟨by decide +kernel, rfl⟩
theorem d17_9 : Dc jdk_38_method_23_code 9 (.aload_n 0) 1 10 := ⟨by decide +kernel, rfl⟩
theorem d17_10 : Dc jdk_38_method_23_code 10 (.iload_n 1) 1 11 := ⟨by decide +kernel, rfl⟩
theorem d17_11 : Dc jdk_38_method_23_code 11 (.invokevirtual 123) 3 14 := ⟨by decide +kernel, rfl⟩
theorem d17_14 : Dc jdk_38_method_23_code 14 (.astore_n 3) 1 15 := ⟨by decide +kernel, rfl⟩
theorem d17_15 : Dc jdk_38_method_23_code 15 (.aload_n 0) 1 16 := ⟨by decide +kernel, rfl⟩
theorem d17_16 : Dc jdk_38_method_23_code 16 (.getfield 9) 3 19 := ⟨by decide +kernel, rfl⟩
theorem d17_19 : Dc jdk_38_method_23_code 19 (.iload_n 1) 1 20 := ⟨by decide +kernel, rfl⟩
theorem d17_20 : Dc jdk_38_method_23_code 20 (.aload_n 2) 1 21 := ⟨by decide +kernel, rfl⟩
theorem d17_21 : Dc jdk_38_method_23_code 21 .aastore 1 22 := ⟨by decide +kernel, rfl⟩
theorem d17_22 : Dc jdk_38_method_23_code 22 (.aload_n 3) 1 23 := ⟨by decide +kernel, rfl⟩
theorem d17_23 : Dc jdk_38_method_23_code 23 .areturn 1 24 := ⟨by decide +kernel, rfl⟩
theorem d18_0 : Dc jdk_30_method_1_code 0 (.aload_n 0) 1 1 := ⟨by decide +kernel, rfl⟩
theorem d18_1 : Dc jdk_30_method_1_code 1 (.invokespecial 1) 3 4 := ⟨by decide +kernel, rfl⟩
theorem d18_4 : Dc jdk_30_method_1_code 4 .return_ 1 5 := ⟨by decide +kernel, rfl⟩
theorem d19_0 : Dc prog_18_method_1_code 0 (.aload_n 0) 1 1 := ⟨by decide +kernel, rfl⟩
theorem d19_1 : Dc prog_18_method_1_code 1 (.invokespecial 1) 3 4 := ⟨by decide +kernel, rfl⟩
theorem d19_4 : Dc prog_18_method_1_code 4 (.aload_n 0) 1 5 := ⟨by decide +kernel, rfl⟩
theorem d19_5 : Dc prog_18_method_1_code 5 (.lload_n 1) 1 6 := ⟨by decide +kernel, rfl⟩
theorem d19_6 : Dc prog_18_method_1_code 6 (.putfield 7) 3 9 := ⟨by decide +kernel, rfl⟩
theorem d19_9 : Dc prog_18_method_1_code 9 (.aload_n 0) 1 10 := ⟨by decide +kernel, rfl⟩
theorem d19_10 : Dc prog_18_method_1_code 10 (.lload_n 3) 1 11 := ⟨by decide +kernel, rfl⟩
theorem d19_11 : Dc prog_18_method_1_code 11 (.putfield 13) 3 14 := ⟨by decide +kernel, rfl⟩
theorem d19_14 : Dc prog_18_method_1_code 14 (.aload_n 0) 1 15 := ⟨by decide +kernel, rfl⟩
theorem d19_15 : Dc prog_18_method_1_code 15 (.lload 5) 2 17 := ⟨by decide +kernel, rfl⟩
theorem d19_17 : Dc prog_18_method_1_code 17 (.putfield 16) 3 20 := ⟨by decide +kernel, rfl⟩
theorem d19_20 : Dc prog_18_method_1_code 20 (.aload_n 0) 1 21 := ⟨by decide +kernel, rfl⟩
theorem d19_21 : Dc prog_18_method_1_code 21 (.lload 7) 2 23 := ⟨by decide +kernel, rfl⟩
theorem d19_23 : Dc prog_18_method_1_code 23 (.putfield 19) 3 26 := ⟨by decide +kernel, rfl⟩
theorem d19_26 : Dc prog_18_method_1_code 26 .return_ 1 27 := ⟨by decide +kernel, rfl⟩
theorem d20_0 : Dc prog_18_method_5_code 0 (.aload_n 0) 1 1 := ⟨by decide +kernel, rfl⟩
theorem d20_1 : Dc prog_18_method_5_code 1 (.getfield 7) 3 4 := ⟨by decide +kernel, rfl⟩
theorem d20_4 : Dc prog_18_method_5_code 4 .lreturn 1 5 := ⟨by decide +kernel, rfl⟩
theorem d21_0 : Dc prog_18_method_6_code 0 (.aload_n 0) 1 1 := ⟨by decide +kernel, rfl⟩
theorem d21_1 : Dc prog_18_method_6_code 1 (.getfield 13) 3 4 := ⟨by decide +kernel, rfl⟩
theorem d21_4 : Dc prog_18_method_6_code 4 .lreturn 1 5 := ⟨by decide +kernel, rfl⟩
theorem d22_0 : Dc prog_18_method_7_code 0 (.aload_n 0) 1 1 := ⟨by decide +kernel, rfl⟩
theorem d22_1 : Dc prog_18_method_7_code 1 (.getfield 16) 3 4 := ⟨by decide +kernel, rfl⟩
theorem d22_4 : Dc prog_18_method_7_code 4 .lreturn 1 5 := ⟨by decide +kernel, rfl⟩
theorem d23_0 : Dc prog_18_method_8_code 0 (.aload_n 0) 1 1 := ⟨by decide +kernel, rfl⟩
theorem d23_1 : Dc prog_18_method_8_code 1 (.getfield 19) 3 4 := ⟨by decide +kernel, rfl⟩
theorem d23_4 : Dc prog_18_method_8_code 4 .lreturn 1 5 := ⟨by decide +kernel, rfl⟩
theorem d24_0 : Dc prog_17_method_1_code 0 (.aload_n 0) 1 1 := ⟨by decide +kernel, rfl⟩
theorem d24_1 : Dc prog_17_method_1_code 1 (.invokespecial 1) 3 4 := ⟨by decide +kernel, rfl⟩
theorem d24_4 : Dc prog_17_method_1_code 4 (.aload_n 0) 1 5 := ⟨by decide +kernel, rfl⟩
theorem d24_5 : Dc prog_17_method_1_code 5 (.new 7) 3 8 := ⟨by decide +kernel, rfl⟩
theorem d24_8 : Dc prog_17_method_1_code 8 .dup 1 9 := ⟨by decide +kernel, rfl⟩
theorem d24_9 : Dc prog_17_method_1_code 9 (.invokespecial 9) 3 12 := ⟨by decide +kernel, rfl⟩
theorem d24_12 : Dc prog_17_method_1_code 12 (.putfield 10) 3 15 := ⟨by decide +kernel, rfl⟩
theorem d24_15 : Dc prog_17_method_1_code 15 (.aload_n 0) 1 16 := ⟨by decide +kernel, rfl⟩
theorem d24_16 : Dc prog_17_method_1_code 16 (.getfield 10) 3 19 := ⟨by decide +kernel, rfl⟩
theorem d24_19 : Dc prog_17_method_1_code 19 (.new 16) 3 22 := ⟨by decide +kernel, rfl⟩
theorem d24_22 : Dc prog_17_method_1_code 22 .dup 1 23 := ⟨by decide +kernel, rfl⟩
theorem d24_23 : Dc prog_17_method_1_code 23 (.lconst 0) 1 24 := ⟨by decide +kernel, rfl⟩
theorem d24_24 : Dc prog_17_method_1_code 24 (.lload_n 1) 1 25 := ⟨by decide +kernel, rfl⟩
theorem d24_25 : Dc prog_17_method_1_code 25 (.lconst 0) 1 26 := ⟨by decide +kernel, rfl⟩
theorem d24_26 : Dc prog_17_method_1_code 26 (.ldc2_w 18) 3 29 := ⟨by decide +kernel, rfl⟩
theorem d24_29 : Dc prog_17_method_1_code 29 (.invokespecial 20) 3 32 := ⟨by decide +kernel, rfl⟩
theorem d24_32 : Dc prog_17_method_1_code 32 (.invokeinterface 23 2) 5 37 := ⟨by decide +kernel, rfl⟩
theorem d24_37 : Dc prog_17_method_1_code 37 .pop 1 38 := ⟨by decide +kernel, rfl⟩
theorem d24_38 : Dc prog_17_method_1_code 38 .return_ 1 39 := ⟨by decide +kernel, rfl⟩
theorem d25_0 : Dc prog_17_method_3_code 0 (.aload_n 0) 1 1 := ⟨by decide +kernel, rfl⟩
theorem d25_1 : Dc prog_17_method_3_code 1 (.getfield 10) 3 4 := ⟨by decide +kernel, rfl⟩
theorem d25_4 : Dc prog_17_method_3_code 4 (.aload_n 0) 1 5 := ⟨by decide +kernel, rfl⟩
theorem d25_5 : Dc prog_17_method_3_code 5 (.getfield 10) 3 8 := ⟨by decide +kernel, rfl⟩
theorem d25_8 : Dc prog_17_method_3_code 8 (.invokeinterface 52 1) 5 13 := ⟨by decide +kernel, rfl⟩
theorem d25_13 : Dc prog_17_method_3_code 13 (.iconst 1) 1 14 := ⟨by decide +kernel, rfl⟩
theorem d25_14 : Dc prog_17_method_3_code 14 .isub 1 15 := ⟨by decide +kernel, rfl⟩
theorem d25_15 : Dc prog_17_method_3_code 15 (.invokeinterface 56 2) 5 20 := ⟨by decide +kernel, rfl⟩
theorem d25_20 : Dc prog_17_method_3_code 20 (.checkcast 16) 3 23 := ⟨by decide +kernel, rfl⟩
theorem d25_23 : Dc prog_17_method_3_code 23 (.astore_n 3) 1 24 := ⟨by decide +kernel, rfl⟩
theorem d25_24 : Dc prog_17_method_3_code 24 (.lload_n 1) 1 25 := ⟨by decide +kernel, rfl⟩
theorem d25_25 : Dc prog_17_method_3_code 25 (.aload_n 3) 1 26 := ⟨by decide +kernel, rfl⟩
theorem d25_26 : Dc prog_17_method_3_code 26 (.invokevirtual 60) 3 29 := ⟨by decide +kernel, rfl⟩
theorem d25_29 : Dc prog_17_method_3_code 29 .lsub 1 30 := ⟨by decide +kernel, rfl⟩
theorem d25_30 : Dc prog_17_method_3_code 30 (.lstore 4) 2 32 := ⟨by decide +kernel, rfl⟩
theorem d25_32 : Dc prog_17_method_3_code 32 (.lload 4) 2 34 := ⟨by decide +kernel, rfl⟩
theorem d25_34 : Dc prog_17_method_3_code 34 (.ldc2_w 18) 3 37 := ⟨by decide +kernel, rfl⟩
theorem d25_37 : Dc prog_17_method_3_code 37 (.invokestatic 63) 3 40 := ⟨by decide +kernel, rfl⟩
theorem d25_40 : Dc prog_17_method_3_code 40 (.aload_n 3) 1 41 := ⟨by decide +kernel, rfl⟩
theorem d25_41 : Dc prog_17_method_3_code 41 (.invokevirtual 69) 3 44 := ⟨by decide +kernel, rfl⟩
theorem d25_44 : Dc prog_17_method_3_code 44 .lmul 1 45 := ⟨by decide +kernel, rfl⟩
theorem d25_45 : Dc prog_17_method_3_code 45 (.aload_n 3) 1 46 := ⟨by decide +kernel, rfl⟩
theorem d25_46 : Dc prog_17_method_3_code 46 (.invokevirtual 72) 3 49 := ⟨by decide +kernel, rfl⟩
theorem d25_49 : Dc prog_17_method_3_code 49 .ladd 1 50 := ⟨by decide +kernel, rfl⟩
theorem d25_50 : Dc prog_17_method_3_code 50 (.lstore 6) 2 52 := ⟨by decide +kernel, rfl⟩
theorem d25_52 : Dc prog_17_method_3_code 52 (.aload_n 3) 1 53 := ⟨by decide +kernel, rfl⟩
theorem d25_53 : Dc prog_17_method_3_code 53 (.invokevirtual 75) 3 56 := ⟨by decide +kernel, rfl⟩
theorem d25_56 : Dc prog_17_method_3_code 56 (.lload 4) 2 58 := ⟨by decide +kernel, rfl⟩
theorem d25_58 : Dc prog_17_method_3_code 58 (.ldc2_w 18) 3 61 := ⟨by decide +kernel, rfl⟩
theorem d25_61 : Dc prog_17_method_3_code 61 (.invokestatic 78) 3 64 := ⟨by decide +kernel, rfl⟩
theorem d25_64 : Dc prog_17_method_3_code 64 (.aload_n 3) 1 65 := ⟨by decide +kernel, rfl⟩
theorem d25_65 : Dc prog_17_method_3_code 65 (.invokevirtual 69) 3 68 := ⟨by decide +kernel, rfl⟩
theorem d25_68 : Dc prog_17_method_3_code 68 (.invokestatic 81) 3 71 := ⟨by decide +kernel, rfl⟩
theorem d25_71 : Dc prog_17_method_3_code 71 .ladd 1 72 := ⟨by decide +kernel, rfl⟩
theorem d25_72 : Dc prog_17_method_3_code 72 (.lload 6) 2 74 := ⟨by decide +kernel, rfl⟩
theorem d25_74 : Dc prog_17_method_3_code 74 (.ldc2_w 18) 3 77 := ⟨by decide +kernel, rfl⟩
theorem d25_77 : Dc prog_17_method_3_code 77 .ldiv 1 78 := ⟨by decide +kernel, rfl⟩
theorem d25_78 : Dc prog_17_method_3_code 78 .ladd 1 79 := ⟨by decide +kernel, rfl⟩
theorem d25_79 : Dc prog_17_method_3_code 79 .lreturn 1 80 := ⟨by decide +kernel, rfl⟩
theorem d26_0 : Dc prog_17_method_4_code 0 (.aload_n 0) 1 1 := ⟨by decide +kernel, rfl⟩
theorem d26_1 : Dc prog_17_method_4_code 1 (.getfield 10) 3 4 := ⟨by decide +kernel, rfl⟩
theorem d26_4 : Dc prog_17_method_4_code 4 (.aload_n 0) 1 5 := ⟨by decide +kernel, rfl⟩
theorem d26_5 : Dc prog_17_method_4_code 5 (.getfield 10) 3 8 := ⟨by decide +kernel, rfl⟩
theorem d26_8 : Dc prog_17_method_4_code 8 (.invokeinterface 52 1) 5 13 := ⟨by decide +kernel, rfl⟩
theorem d26_13 : Dc prog_17_method_4_code 13 (.iconst 1) 1 14 := ⟨by decide +kernel, rfl⟩
theorem d26_14 : Dc prog_17_method_4_code 14 .isub 1 15 := ⟨by decide +kernel, rfl⟩
theorem d26_15 : Dc prog_17_method_4_code 15 (.invokeinterface 56 2) 5 20 := ⟨by decide +kernel, rfl⟩
theorem d26_20 : Dc prog_17_method_4_code 20 (.checkcast 16) 3 23 := ⟨by decide +kernel, rfl⟩
theorem d26_23 : Dc prog_17_method_4_code 23 (.astore 5) 2 25 := ⟨by decide +kernel, rfl⟩
theorem d26_25 : Dc prog_17_method_4_code 25 (.aload 5) 2 27 := ⟨by decide +kernel, rfl⟩
theorem d26_27 : Dc prog_17_method_4_code 27 (.invokevirtual 60) 3 30 := ⟨by decide +kernel, rfl⟩
theorem d26_30 : Dc prog_17_method_4_code 30 (.lload_n 1) 1 31 := ⟨by decide +kernel, rfl⟩
theorem d26_31 : Dc prog_17_method_4_code 31 .lcmp 1 32 := ⟨by decide +kernel, rfl⟩
theorem d26_32 : Jp prog_17_method_4_code 32 (.ifCond .ne) 78 35 := ⟨46, by decide +kernel, by decide, by decide, rfl⟩
theorem d26_35 : Dc prog_17_method_4_code 35 (.aload_n 0) 1 36 := ⟨by decide +kernel, rfl⟩
theorem d26_36 : Dc prog_17_method_4_code 36 (.getfield 10) 3 39 := ⟨by decide +kernel, rfl⟩
theorem d26_39 : Dc prog_17_method_4_code 39 (.aload_n 0) 1 40 := ⟨by decide +kernel, rfl⟩
theorem d26_40 : Dc prog_17_method_4_code 40 (.getfield 10) 3 43 := ⟨by decide +kernel, rfl⟩
theorem d26_43 : Dc prog_17_method_4_code 43 (.invokeinterface 52 1) 5 48 := ⟨by decide +kernel, rfl⟩
theorem d26_48 : Dc prog_17_method_4_code 48 (.iconst 1) 1 49 := ⟨by decide +kernel, rfl⟩
theorem d26_49 : Dc prog_17_method_4_code 49 .isub 1 50 := ⟨by decide +kernel, rfl⟩
theorem d26_50 : Dc prog_17_method_4_code 50 (.new 16) 3 53 := ⟨by decide +kernel, rfl⟩
theorem d26_53 : Dc prog_17_method_4_code 53 .dup 1 54 := ⟨by decide +kernel, rfl⟩
theorem d26_54 : Dc prog_17_method_4_code 54 (.lload_n 1) 1 55 := ⟨by decide +kernel, rfl⟩
theorem d26_55 : Dc prog_17_method_4_code 55 (.aload 5) 2 57 := ⟨by decide +kernel, rfl⟩
theorem d26_57 : Dc prog_17_method_4_code 57 (.invokevirtual 75) 3 60 := ⟨by decide +kernel, rfl⟩
theorem d26_60 : Dc prog_17_method_4_code 60 (.aload 5) 2 62 := ⟨by decide +kernel, rfl⟩
theorem d26_62 : Dc prog_17_method_4_code 62 (.invokevirtual 72) 3 65 := ⟨by decide +kernel, rfl⟩
theorem d26_65 : Dc prog_17_method_4_code 65 (.lload_n 3) 1 66 := ⟨by decide +kernel, rfl⟩
theorem d26_66 : Dc prog_17_method_4_code 66 (.invokespecial 20) 3 69 := ⟨by decide +kernel, rfl⟩
theorem d26_69 : Dc prog_17_method_4_code 69 (.invokeinterface 84 3) 5 74 := ⟨by decide +kernel, rfl⟩
theorem d26_74 : Dc prog_17_method_4_code 74 .pop 1 75 := ⟨by decide +kernel, rfl⟩
theorem d26_75 : Jp prog_17_method_4_code 75 .goto 135 78 := ⟨60, by decide +kernel, by decide, by decide, rfl⟩
theorem d26_78 : Dc prog_17_method_4_code 78 (.lload_n 1) 1 79 := ⟨by decide +kernel, rfl⟩
theorem d26_79 : Dc prog_17_method_4_code 79 (.aload 5) 2 81 := ⟨by decide +kernel, rfl⟩
theorem d26_81 : Dc prog_17_method_4_code 81 (.invokevirtual 60) 3 84 := ⟨by decide +kernel, rfl⟩
theorem d26_84 : Dc prog_17_method_4_code 84 .lsub 1 85 := ⟨by decide +kernel, rfl⟩
theorem d26_85 : Dc prog_17_method_4_code 85 (.ldc2_w 18) 3 88 := ⟨by decide +kernel, rfl⟩
theorem d26_88 : Dc prog_17_method_4_code 88 (.invokestatic 63) 3 91 := ⟨by decide +kernel, rfl⟩
theorem d26_91 : Dc prog_17_method_4_code 91 (.aload 5) 2 93 := ⟨by decide +kernel, rfl⟩
theorem d26_93 : Dc prog_17_method_4_code 93 (.invokevirtual 69) 3 96 := ⟨by decide +kernel, rfl⟩
theorem d26_96 : Dc prog_17_method_4_code 96 .lmul 1 97 := ⟨by decide +kernel, rfl⟩
theorem d26_97 : Dc prog_17_method_4_code 97 (.aload 5) 2 99 := ⟨by decide +kernel, rfl⟩
theorem d26_99 : Dc prog_17_method_4_code 99 (.invokevirtual 72) 3 102 := ⟨by decide +kernel, rfl⟩
theorem d26_102 : Dc prog_17_method_4_code 102 .ladd 1 103 := ⟨by decide +kernel, rfl⟩
theorem d26_103 : Dc prog_17_method_4_code 103 (.lstore 6) 2 105 := ⟨by decide +kernel, rfl⟩
theorem d26_105 : Dc prog_17_method_4_code 105 (.aload_n 0) 1 106 := ⟨by decide +kernel, rfl⟩
theorem d26_106 : Dc prog_17_method_4_code 106 (.getfield 10) 3 109 := ⟨by decide +kernel, rfl⟩
theorem d26_109 : Dc prog_17_method_4_code 109 (.new 16) 3 112 := ⟨by decide +kernel, rfl⟩
theorem d26_112 : Dc prog_17_method_4_code 112 .dup 1 113 := ⟨by decide +kernel, rfl⟩
theorem d26_113 : Dc prog_17_method_4_code 113 (.lload_n 1) 1 114 := ⟨by decide +kernel, rfl⟩
theorem d26_114 : Dc prog_17_method_4_code 114 (.aload_n 0) 1 115 := ⟨by decide +kernel, rfl⟩
theorem d26_115 : Dc prog_17_method_4_code 115 (.lload_n 1) 1 116 := ⟨by decide +kernel, rfl⟩
theorem d26_116 : Dc prog_17_method_4_code 116 (.invokevirtual 88) 3 119 := ⟨by decide +kernel, rfl⟩
theorem d26_119 : Dc prog_17_method_4_code 119 (.lload 6) 2 121 := ⟨by decide +kernel, rfl⟩
theorem d26_121 : Dc prog_17_method_4_code 121 (.ldc2_w 18) 3 124 := ⟨by decide +kernel, rfl⟩
theorem d26_124 : Dc prog_17_method_4_code 124 .lrem 1 125 := ⟨by decide +kernel, rfl⟩
theorem d26_125 : Dc prog_17_method_4_code 125 (.lload_n 3) 1 126 := ⟨by decide +kernel, rfl⟩
theorem d26_126 : Dc prog_17_method_4_code 126 (.invokespecial 20) 3 129 := ⟨by decide +kernel, rfl⟩
theorem d26_129 : Dc prog_17_method_4_code 129 (.invokeinterface 23 2) 5 134 := ⟨by decide +kernel, rfl⟩
theorem d26_134 : Dc prog_17_method_4_code 134 .pop 1 135 := ⟨by decide +kernel, rfl⟩
theorem d26_135 : Dc prog_17_method_4_code 135 .return_ 1 136 := ⟨by decide +kernel, rfl⟩
theorem d27_0 : Dc prog_17_method_5_code 0 (.iconst 0) 1 1 := ⟨by decide +kernel, rfl⟩
theorem d27_1 : Dc prog_17_method_5_code 1 (.istore_n 3) 1 2 := ⟨by decide +kernel, rfl⟩
theorem d27_2 : Dc prog_17_method_5_code 2 (.aload_n 0) 1 3 := ⟨by decide +kernel, rfl⟩
theorem d27_3 : Dc prog_17_method_5_code 3 (.getfield 10) 3 6 := ⟨by decide +kernel, rfl⟩
theorem d27_6 : Dc prog_17_method_5_code 6 (.invokeinterface 52 1) 5 11 := ⟨by decide +kernel, rfl⟩
theorem d27_11 : Dc prog_17_method_5_code 11 (.iconst 1) 1 12 := ⟨by decide +kernel, rfl⟩
theorem d27_12 : Dc prog_17_method_5_code 12 .isub 1 13 := ⟨by decide +kernel, rfl⟩
theorem d27_13 : Dc prog_17_method_5_code 13 (.istore 4) 2 15 := ⟨by decide +kernel, rfl⟩
theorem d27_15 : Dc prog_17_method_5_code 15 (.iload_n 3) 1 16 := ⟨by decide +kernel, rfl⟩
theorem d27_16 : Dc prog_17_method_5_code 16 (.iload 4) 2 18 := ⟨by decide +kernel, rfl⟩
theorem d27_18 : Jp prog_17_method_5_code 18 (.if_icmp .ge) 68 21 := ⟨50, by decide +kernel, by decide, by decide, rfl⟩
theorem d27_21 : Dc prog_17_method_5_code 21 (.iload_n 3) 1 22 := ⟨by decide +kernel, rfl⟩
theorem d27_22 : Dc prog_17_method_5_code 22 (.iload 4) 2 24 := ⟨by decide +kernel, rfl⟩
theorem d27_24 : Dc prog_17_method_5_code 24 .iadd 1 25 := ⟨by decide +kernel, rfl⟩
theorem d27_25 : Dc prog_17_method_5_code 25 (.iconst 1) 1 26 := ⟨by decide +kernel, rfl⟩
theorem d27_26 : Dc prog_17_method_5_code 26 .iadd 1 27 := ⟨by decide +kernel, rfl⟩
theorem d27_27 : Dc prog_17_method_5_code 27 (.iconst 1) 1 28 := ⟨by decide +kernel, rfl⟩
theorem d27_28 : Dc prog_17_method_5_code 28 .iushr 1 29 := ⟨by decide +kernel, rfl⟩
theorem d27_29 : Dc prog_17_method_5_code 29 (.istore 5) 2 31 := ⟨by decide +kernel, rfl⟩
theorem d27_31 : Dc prog_17_method_5_code 31 (.aload_n 0) 1 32 := ⟨by decide +kernel, rfl⟩
theorem d27_32 : Dc prog_17_method_5_code 32 (.getfield 10) 3 35 := ⟨by decide +kernel, rfl⟩
theorem d27_35 : Dc prog_17_method_5_code 35 (.iload 5) 2 37 := ⟨by decide +kernel, rfl⟩
theorem d27_37 : Dc prog_17_method_5_code 37 (.invokeinterface 56 2) 5 42 := ⟨by decide +kernel, rfl⟩
theorem d27_42 : Dc prog_17_method_5_code 42 (.checkcast 16) 3 45 := ⟨by decide +kernel, rfl⟩
theorem d27_45 : Dc prog_17_method_5_code 45 (.invokevirtual 75) 3 48 := ⟨by decide +kernel, rfl⟩
theorem d27_48 : Dc prog_17_method_5_code 48 (.lload_n 1) 1 49 := ⟨by decide +kernel, rfl⟩
theorem d27_49 : Dc prog_17_method_5_code 49 .lcmp 1 50 := ⟨by decide +kernel, rfl⟩
theorem d27_50 : Jp prog_17_method_5_code 50 (.ifCond .ge) 59 53 := ⟨9, by decide +kernel, by decide, by decide, rfl⟩
theorem d27_53 : Dc prog_17_method_5_code 53 (.iload 5) 2 55 := ⟨by decide +kernel, rfl⟩
theorem d27_55 : Dc prog_17_method_5_code 55 (.istore_n 3) 1 56 := ⟨by decide +kernel, rfl⟩
theorem d27_56 : Jp prog_17_method_5_code 56 .goto 65 59 := ⟨9, by decide +kernel, by decide, by decide, rfl⟩
theorem d27_59 : Dc prog_17_method_5_code 59 (.iload 5) 2 61 := ⟨by decide +kernel, rfl⟩
theorem d27_61 : Dc prog_17_method_5_code 61 (.iconst 1) 1 62 := ⟨by decide +kernel, rfl⟩
theorem d27_62 : Dc prog_17_method_5_code 62 .isub 1 63 := ⟨by decide +kernel, rfl⟩
theorem d27_63 : Dc prog_17_method_5_code 63 (.istore 4) 2 65 := ⟨by decide +kernel, rfl⟩
theorem d27_65 : Jp prog_17_method_5_code 65 .goto 15 68 := ⟨-50, by decide +kernel, by decide, by decide, rfl⟩
theorem d27_68 : Dc prog_17_method_5_code 68 (.aload_n 0) 1 69 := ⟨by decide +kernel, rfl⟩
theorem d27_69 : Dc prog_17_method_5_code 69 (.getfield 10) 3 72 := ⟨by decide +kernel, rfl⟩
theorem d27_72 : Dc prog_17_method_5_code 72 (.iload_n 3) 1 73 := ⟨by decide +kernel, rfl⟩
theorem d27_73 : Dc prog_17_method_5_code 73 (.invokeinterface 56 2) 5 78 := ⟨by decide +kernel, rfl⟩
theorem d27_78 : Dc prog_17_method_5_code 78 (.checkcast 16) 3 81 := ⟨by decide +kernel, rfl⟩
theorem d27_81 : Dc prog_17_method_5_code 81 (.astore 5) 2 83 := ⟨by decide +kernel, rfl⟩
theorem d27_83 : Dc prog_17_method_5_code 83 (.lload_n 1) 1 84 := ⟨by decide +kernel, rfl⟩
theorem d27_84 : Dc prog_17_method_5_code 84 (.aload 5) 2 86 := ⟨by decide +kernel, rfl⟩
theorem d27_86 : Dc prog_17_method_5_code 86 (.invokevirtual 75) 3 89 := ⟨by decide +kernel, rfl⟩
theorem d27_89 : Dc prog_17_method_5_code 89 .lsub 1 90 := ⟨by decide +kernel, rfl⟩
theorem d27_90 : Dc prog_17_method_5_code 90 (.lstore 6) 2 92 := ⟨by decide +kernel, rfl⟩
theorem d27_92 : Dc prog_17_method_5_code 92 (.lload 6) 2 94 := ⟨by decide +kernel, rfl⟩
theorem d27_94 : Dc prog_17_method_5_code 94 (.aload 5) 2 96 := ⟨by decide +kernel, rfl⟩
theorem d27_96 : Dc prog_17_method_5_code 96 (.invokevirtual 69) 3 99 := ⟨by decide +kernel, rfl⟩
theorem d27_99 : Dc prog_17_method_5_code 99 (.invokestatic 78) 3 102 := ⟨by decide +kernel, rfl⟩
theorem d27_102 : Dc prog_17_method_5_code 102 (.ldc2_w 18) 3 105 := ⟨by decide +kernel, rfl⟩
theorem d27_105 : Dc prog_17_method_5_code 105 (.invokestatic 81) 3 108 := ⟨by decide +kernel, rfl⟩
theorem d27_108 : Dc prog_17_method_5_code 108 (.lstore 8) 2 110 := ⟨by decide +kernel, rfl⟩
theorem d27_110 : Dc prog_17_method_5_code 110 (.lload 6) 2 112 := ⟨by decide +kernel, rfl⟩
theorem d27_112 : Dc prog_17_method_5_code 112 (.aload 5) 2 114 := ⟨by decide +kernel, rfl⟩
theorem d27_114 : Dc prog_17_method_5_code 114 (.invokevirtual 69) 3 117 := ⟨by decide +kernel, rfl⟩
theorem d27_117 : Dc prog_17_method_5_code 117 (.invokestatic 63) 3 120 := ⟨by decide +kernel, rfl⟩
theorem d27_120 : Dc prog_17_method_5_code 120 (.ldc2_w 18) 3 123 := ⟨by decide +kernel, rfl⟩
theorem d27_123 : Dc prog_17_method_5_code 123 .lmul 1 124 := ⟨by decide +kernel, rfl⟩
theorem d27_124 : Dc prog_17_method_5_code 124 (.aload 5) 2 126 := ⟨by decide +kernel, rfl⟩
theorem d27_126 : Dc prog_17_method_5_code 126 (.invokevirtual 72) 3 129 := ⟨by decide +kernel, rfl⟩
theorem d27_129 : Dc prog_17_method_5_code 129 .lsub 1 130 := ⟨by decide +kernel, rfl⟩
theorem d27_130 : Dc prog_17_method_5_code 130 (.lstore 10) 2 132 := ⟨by decide +kernel, rfl⟩
theorem d27_132 : Dc prog_17_method_5_code 132 (.aload 5) 2 134 := ⟨by decide +kernel, rfl⟩
theorem d27_134 : Dc prog_17_method_5_code 134 (.invokevirtual 60) 3 137 := ⟨by decide +kernel, rfl⟩
theorem d27_137 : Dc prog_17_method_5_code 137 (.lload 8) 2 139 := ⟨by decide +kernel, rfl⟩
theorem d27_139 : Dc prog_17_method_5_code 139 .ladd 1 140 := ⟨by decide +kernel, rfl⟩
theorem d27_140 : Dc prog_17_method_5_code 140 (.lload 10) 2 142 := ⟨by decide +kernel, rfl⟩
theorem d27_142 : Dc prog_17_method_5_code 142 .lneg 1 143 := ⟨by decide +kernel, rfl⟩
theorem d27_143 : Dc prog_17_method_5_code 143 (.aload 5) 2 145 := ⟨by decide +kernel, rfl⟩
theorem d27_145 : Dc prog_17_method_5_code 145 (.invokevirtual 69) 3 148 := ⟨by decide +kernel, rfl⟩
theorem d27_148 : Dc prog_17_method_5_code 148 (.invokestatic 78) 3 151 := ⟨by decide +kernel, rfl⟩
theorem d27_151 : Dc prog_17_method_5_code 151 .lsub 1 152 := ⟨by decide +kernel, rfl⟩
theorem d27_152 : Dc prog_17_method_5_code 152 .lreturn 1 153 := ⟨by decide +kernel, rfl⟩
theorem d28_0 : Dc code 0 (.lload_n 0) 1 1 := ⟨by decide +kernel, rfl⟩
theorem d28_1 : Dc code 1 (.bipush 14) 2 3 := ⟨by decide +kernel, rfl⟩
theorem d28_3 : Dc code 3 .lshl 1 4 := ⟨by decide +kernel, rfl⟩
theorem d28_4 : Dc code 4 (.bipush 14) 2 6 := ⟨by decide +kernel, rfl⟩
theorem d28_6 : Dc code 6 .lshr 1 7 := ⟨by decide +kernel, rfl⟩
theorem d28_7 : Dc code 7 (.lstore 11) 2 9 := ⟨by decide +kernel, rfl⟩
theorem d28_9 : Dc code 9 (.lconst 1) 1 10 := ⟨by decide +kernel, rfl⟩
theorem d28_10 : Dc code 10 (.lload_n 2) 1 11 := ⟨by decide +kernel, rfl⟩
theorem d28_11 : Dc code 11 (.ldc2_w 7) 3 14 := ⟨by decide +kernel, rfl⟩
theorem d28_14 : Dc code 14 .land 1 15 := ⟨by decide +kernel, rfl⟩
theorem d28_15 : Dc code 15 .ladd 1 16 := ⟨by decide +kernel, rfl⟩
theorem d28_16 : Dc code 16 (.lstore 13) 2 18 := ⟨by decide +kernel, rfl⟩
theorem d28_18 : Dc code 18 (.ldc2_w 9) 3 21 := ⟨by decide +kernel, rfl⟩
theorem d28_21 : Dc code 21 (.lload 4) 2 23 := ⟨by decide +kernel, rfl⟩
theorem d28_23 : Dc code 23 (.ldc2_w 11) 3 26 := ⟨by decide +kernel, rfl⟩
theorem d28_26 : Dc code 26 .land 1 27 := ⟨by decide +kernel, rfl⟩
theorem d28_27 : Dc code 27 .ladd 1 28 := ⟨by decide +kernel, rfl⟩
theorem d28_28 : Dc code 28 (.lstore 15) 2 30 := ⟨by decide +kernel, rfl⟩
theorem d28_30 : Dc code 30 (.ldc2_w 9) 3 33 := ⟨by decide +kernel, rfl⟩
theorem d28_33 : Dc code 33 (.lload 6) 2 35 := ⟨by decide +kernel, rfl⟩
theorem d28_35 : Dc code 35 (.ldc2_w 11) 3 38 := ⟨by decide +kernel, rfl⟩
theorem d28_38 : Dc code 38 .land 1 39 := ⟨by decide +kernel, rfl⟩
theorem d28_39 : Dc code 39 .ladd 1 40 := ⟨by decide +kernel, rfl⟩
theorem d28_40 : Dc code 40 (.lstore 17) 2 42 := ⟨by decide +kernel, rfl⟩
theorem d28_42 : Dc code 42 (.iload 10) 2 44 := ⟨by decide +kernel, rfl⟩
theorem d28_44 : Dc code 44 (.iconst 1) 1 45 := ⟨by decide +kernel, rfl⟩
theorem d28_45 : Dc code 45 .iand 1 46 := ⟨by decide +kernel, rfl⟩
theorem d28_46 : Jp code 46 (.ifCond .eq) 60 49 := ⟨14, by decide +kernel, by decide, by decide, rfl⟩
theorem d28_49 : Dc code 49 (.lload 8) 2 51 := ⟨by decide +kernel, rfl⟩
theorem d28_51 : Dc code 51 (.bipush 14) 2 53 := ⟨by decide +kernel, rfl⟩
theorem d28_53 : Dc code 53 .lshl 1 54 := ⟨by decide +kernel, rfl⟩
theorem d28_54 : Dc code 54 (.bipush 14) 2 56 := ⟨by decide +kernel, rfl⟩
theorem d28_56 : Dc code 56 .lshr 1 57 := ⟨by decide +kernel, rfl⟩
theorem d28_57 : Jp code 57 .goto 68 60 := ⟨11, by decide +kernel, by decide, by decide, rfl⟩
theorem d28_60 : Dc code 60 (.lload 8) 2 62 := ⟨by decide +kernel, rfl⟩
theorem d28_62 : Dc code 62 (.bipush 54) 2 64 := ⟨by decide +kernel, rfl⟩
theorem d28_64 : Dc code 64 .lshl 1 65 := ⟨by decide +kernel, rfl⟩
theorem d28_65 : Dc code 65 (.bipush 54) 2 67 := ⟨by decide +kernel, rfl⟩
theorem d28_67 : Dc code 67 .lshr 1 68 := ⟨by decide +kernel, rfl⟩
theorem d28_68 : Dc code 68 (.lstore 19) 2 70 := ⟨by decide +kernel, rfl⟩
theorem d28_70 : Dc code 70 (.new 13) 3 73 := ⟨by decide +kernel, rfl⟩
theorem d28_73 : Dc code 73 .dup 1 74 := ⟨by decide +kernel, rfl⟩
theorem d28_74 : Dc code 74 (.lload 11) 2 76 := ⟨by decide +kernel, rfl⟩
theorem d28_76 : Dc code 76 (.invokespecial 15) 3 79 := ⟨by decide +kernel, rfl⟩
theorem d28_79 : Dc code 79 (.astore 21) 2 81 := ⟨by decide +kernel, rfl⟩
theorem d28_81 : Dc code 81 (.aload 21) 2 83 := ⟨by decide +kernel, rfl⟩
theorem d28_83 : Dc code 83 (.lconst 0) 1 84 := ⟨by decide +kernel, rfl⟩
theorem d28_84 : Dc code 84 (.lload 15) 2 86 := ⟨by decide +kernel, rfl⟩
theorem d28_86 : Dc code 86 (.invokevirtual 18) 3 89 := ⟨by decide +kernel, rfl⟩
theorem d28_89 : Dc code 89 (.aload 21) 2 91 := ⟨by decide +kernel, rfl⟩
theorem d28_91 : Dc code 91 (.lload 13) 2 93 := ⟨by decide +kernel, rfl⟩
theorem d28_93 : Dc code 93 (.lload 17) 2 95 := ⟨by decide +kernel, rfl⟩
theorem d28_95 : Dc code 95 (.invokevirtual 18) 3 98 := ⟨by decide +kernel, rfl⟩
theorem d28_98 : Dc code 98 (.new 13) 3 101 := ⟨by decide +kernel, rfl⟩
theorem d28_101 : Dc code 101 .dup 1 102 := ⟨by decide +kernel, rfl⟩
theorem d28_102 : Dc code 102 (.lload 11) 2 104 := ⟨by decide +kernel, rfl⟩
theorem d28_104 : Dc code 104 (.invokespecial 15) 3 107 := ⟨by decide +kernel, rfl⟩
theorem d28_107 : Dc code 107 (.astore 22) 2 109 := ⟨by decide +kernel, rfl⟩
theorem d28_109 : Dc code 109 (.aload 22) 2 111 := ⟨by decide +kernel, rfl⟩
theorem d28_111 : Dc code 111 (.lconst 0) 1 112 := ⟨by decide +kernel, rfl⟩
theorem d28_112 : Dc code 112 (.lload 15) 2 114 := ⟨by decide +kernel, rfl⟩
theorem d28_114 : Dc code 114 (.invokevirtual 18) 3 117 := ⟨by decide +kernel, rfl⟩
theorem d28_117 : Dc code 117 (.aload 21) 2 119 := ⟨by decide +kernel, rfl⟩
theorem d28_119 : Dc code 119 (.lload 13) 2 121 := ⟨by decide +kernel, rfl⟩
theorem d28_121 : Dc code 121 (.invokevirtual 22) 3 124 := ⟨by decide +kernel, rfl⟩
theorem d28_124 : Dc code 124 (.lstore 23) 2 126 := ⟨by decide +kernel, rfl⟩
theorem d28_126 : Dc code 126 (.iload 10) 2 128 := ⟨by decide +kernel, rfl⟩
theorem d28_128 : Dc code 128 (.iconst 2) 1 129 := ⟨by decide +kernel, rfl⟩
theorem d28_129 : Dc code 129 .iand 1 130 := ⟨by decide +kernel, rfl⟩
theorem d28_130 : Jp code 130 (.ifCond .eq) 138 133 := ⟨8, by decide +kernel, by decide, by decide, rfl⟩
theorem d28_133 : Dc code 133 (.lload 23) 2 135 := ⟨by decide +kernel, rfl⟩
theorem d28_135 : Jp code 135 .goto 140 138 := ⟨5, by decide +kernel, by decide, by decide, rfl⟩
theorem d28_138 : Dc code 138 (.lload 11) 2 140 := ⟨by decide +kernel, rfl⟩
theorem d28_140 : Dc code 140 (.lload 19) 2 142 := ⟨by decide +kernel, rfl⟩
theorem d28_142 : Dc code 142 .ladd 1 143 := ⟨by decide +kernel, rfl⟩
theorem d28_143 : Dc code 143 (.lstore 25) 2 145 := ⟨by decide +kernel, rfl⟩
theorem d28_145 : Dc code 145 (.aload 21) 2 147 := ⟨by decide +kernel, rfl⟩
theorem d28_147 : Dc code 147 (.lload 25) 2 149 := ⟨by decide +kernel, rfl⟩
theorem d28_149 : Dc code 149 (.invokevirtual 26) 3 152 := ⟨by decide +kernel, rfl⟩
theorem d28_152 : Dc code 152 (.lstore 27) 2 154 := ⟨by decide +kernel, rfl⟩
theorem d28_154 : Dc code 154 (.lload 25) 2 156 := ⟨by decide +kernel, rfl⟩
theorem d28_156 : Dc code 156 (.lload 23) 2 158 := ⟨by decide +kernel, rfl⟩
theorem d28_158 : Dc code 158 .lcmp 1 159 := ⟨by decide +kernel, rfl⟩
theorem d28_159 : Jp code 159 (.ifCond .le) 204 162 := ⟨45, by decide +kernel, by decide, by decide, rfl⟩
theorem d28_162 : Dc code 162 (.lload 27) 2 164 := ⟨by decide +kernel, rfl⟩
theorem d28_164 : Dc code 164 (.lload 13) 2 166 := ⟨by decide +kernel, rfl⟩
theorem d28_166 : Dc code 166 .lcmp 1 167 := ⟨by decide +kernel, rfl⟩
theorem d28_167 : Jp code 167 (.ifCond .le) 202 170 := ⟨35, by decide +kernel, by decide, by decide, rfl⟩
theorem d28_170 : Dc code 170 (.aload 21) 2 172 := ⟨by decide +kernel, rfl⟩
theorem d28_172 : Dc code 172 (.lload 27) 2 174 := ⟨by decide +kernel, rfl⟩
theorem d28_174 : Dc code 174 (.invokevirtual 22) 3 177 := ⟨by decide +kernel, rfl⟩
theorem d28_177 : Dc code 177 (.lload 25) 2 179 := ⟨by decide +kernel, rfl⟩
theorem d28_179 : Dc code 179 .lcmp 1 180 := ⟨by decide +kernel, rfl⟩
theorem d28_180 : Jp code 180 (.ifCond .lt) 202 183 := ⟨22, by decide +kernel, by decide, by decide, rfl⟩
theorem d28_183 : Dc code 183 (.aload 21) 2 185 := ⟨by decide +kernel, rfl⟩
theorem d28_185 : Dc code 185 (.lload 27) 2 187 := ⟨by decide +kernel, rfl⟩
theorem d28_187 : Dc code 187 (.lconst 1) 1 188 := ⟨by decide +kernel, rfl⟩
theorem d28_188 : Dc code 188 .lsub 1 189 := ⟨by decide +kernel, rfl⟩
theorem d28_189 : Dc code 189 (.invokevirtual 22) 3 192 := ⟨by decide +kernel, rfl⟩
theorem d28_192 : Dc code 192 (.lload 25) 2 194 := ⟨by decide +kernel, rfl⟩
theorem d28_194 : Dc code 194 .lcmp 1 195 := ⟨by decide +kernel, rfl⟩
theorem d28_195 : Jp code 195 (.ifCond .ge) 202 198 := ⟨7, by decide +kernel, by decide, by decide, rfl⟩
theorem d28_198 : Dc code 198 (.iconst 1) 1 199 := ⟨by decide +kernel, rfl⟩
theorem d28_199 : Jp code 199 .goto 203 202 := ⟨4, by decide +kernel, by decide, by decide, rfl⟩
theorem d28_203 : Dc code 203 .ireturn 1 204 := ⟨by decide +kernel, rfl⟩
theorem d28_204 : Dc code 204 (.lload 27) 2 206 := ⟨by decide +kernel, rfl⟩
theorem d28_206 : Dc code 206 (.lload 13) 2 208 := ⟨by decide +kernel, rfl⟩
theorem d28_208 : Dc code 208 .lcmp 1 209 := ⟨by decide +kernel, rfl⟩
theorem d28_209 : Jp code 209 (.ifCond .gt) 244 212 := ⟨35, by decide +kernel, by decide, by decide, rfl⟩
theorem d28_212 : Dc code 212 (.aload 22) 2 214 := ⟨by decide +kernel, rfl⟩
theorem d28_214 : Dc code 214 (.lload 27) 2 216 := ⟨by decide +kernel, rfl⟩
theorem d28_216 : Dc code 216 (.invokevirtual 22) 3 219 := ⟨by decide +kernel, rfl⟩
theorem d28_219 : Dc code 219 (.lload 25) 2 221 := ⟨by decide +kernel, rfl⟩
theorem d28_221 : Dc code 221 .lcmp 1 222 := ⟨by decide +kernel, rfl⟩
theorem d28_222 : Jp code 222 (.ifCond .lt) 244 225 := ⟨22, by decide +kernel, by decide, by decide, rfl⟩
theorem d28_225 : Dc code 225 (.aload 22) 2 227 := ⟨by decide +kernel, rfl⟩
theorem d28_227 : Dc code 227 (.lload 27) 2 229 := ⟨by decide +kernel, rfl⟩
theorem d28_229 : Dc code 229 (.lconst 1) 1 230 := ⟨by decide +kernel, rfl⟩
theorem d28_230 : Dc code 230 .lsub 1 231 := ⟨by decide +kernel, rfl⟩
theorem d28_231 : Dc code 231 (.invokevirtual 22) 3 234 := ⟨by decide +kernel, rfl⟩
theorem d28_234 : Dc code 234 (.lload 25) 2 236 := ⟨by decide +kernel, rfl⟩
theorem d28_236 : Dc code 236 .lcmp 1 237 := ⟨by decide +kernel, rfl⟩
theorem d28_237 : Jp code 237 (.ifCond .ge) 244 240 := ⟨7, by decide +kernel, by decide, by decide, rfl⟩
theorem d28_240 : Dc code 240 (.iconst 1) 1 241 := ⟨by decide +kernel, rfl⟩
theorem d28_241 : Jp code 241 .goto 245 244 := ⟨4, by decide +kernel, by decide, by decide, rfl⟩
theorem d28_245 : Dc code 245 .ireturn 1 246 := ⟨by decide +kernel, rfl⟩
theorem pn0 : plainFor (⟨"java/lang/Math", "floorMod", "(JJ)J"⟩ : MethodName) = true := Jvm.Free.JP.mathPlain rfl (by decide +kernel)
theorem pn1 : plainFor (⟨"java/lang/Math", "floorDiv", "(JJ)J"⟩ : MethodName) = true := Jvm.Free.JP.mathPlain rfl (by decide +kernel)
theorem pn2 : plainFor (⟨"java/lang/Math", "abs", "(J)J"⟩ : MethodName) = true := Jvm.Free.JP.mathPlain rfl (by decide +kernel)
theorem pn3 : plainFor (⟨"java/lang/Math", "multiplyExact", "(JJ)J"⟩ : MethodName) = true := Jvm.Free.JP.mathPlain rfl (by decide +kernel)
theorem pd0 : parseMethodDescriptor "(J)J" = some ⟨[.long], some .long⟩ := by decide +kernel
theorem pn4 : plainFor (⟨"java/lang/Math", "max", "(II)I"⟩ : MethodName) = true := Jvm.Free.JP.mathPlain rfl (by decide +kernel)
theorem pn5 : plainFor (⟨"java/util/AbstractCollection", "<init>", "()V"⟩ : MethodName) = true := plainFor_of_name (by first | (simp [plainName, overriddenIn]; done) | decide +kernel)
theorem pn6 : plainFor (⟨"java/util/AbstractList", "<init>", "()V"⟩ : MethodName) = true := plainFor_of_name (by first | (simp [plainName, overriddenIn]; done) | decide +kernel)
theorem pd1 : parseMethodDescriptor "()V" = some ⟨[], none⟩ := by decide +kernel
theorem pn7 : plainFor (⟨"java/util/ArrayList", "<init>", "()V"⟩ : MethodName) = true := plainFor_of_name (by first | (simp [plainName, overriddenIn]; done) | decide +kernel)
theorem pn8 : plainFor (⟨"java/util/ArrayList", "grow", "(I)[Ljava/lang/Object;"⟩ : MethodName) = true := plainFor_of_name (by first | (simp [plainName, overriddenIn]; done) | decide +kernel)
theorem pd2 : parseMethodDescriptor "(II)I" = some ⟨[.int, .int], some .int⟩ := by decide +kernel
theorem pn9 : plainFor (⟨"java/util/ArrayList", "grow", "()[Ljava/lang/Object;"⟩ : MethodName) = true := plainFor_of_name (by first | (simp [plainName, overriddenIn]; done) | decide +kernel)
theorem pd3 : parseMethodDescriptor "(I)[Ljava/lang/Object;" = some ⟨[.int], some (.array (.object "java/lang/Object"))⟩ := by decide +kernel
theorem pn10 : plainFor (⟨"java/util/ArrayList", "add", "(Ljava/lang/Object;[Ljava/lang/Object;I)V"⟩ : MethodName) = true := plainFor_of_name (by first | (simp [plainName, overriddenIn]; done) | decide +kernel)
theorem pd4 : parseMethodDescriptor "()[Ljava/lang/Object;" = some ⟨[], some (.array (.object "java/lang/Object"))⟩ := by decide +kernel
theorem pn11 : plainFor (⟨"java/util/ArrayList", "add", "(Ljava/lang/Object;)Z"⟩ : MethodName) = true := plainFor_of_name (by first | (simp [plainName, overriddenIn]; done) | decide +kernel)
theorem pd5 : parseMethodDescriptor "(Ljava/lang/Object;[Ljava/lang/Object;I)V" = some ⟨[(.object "java/lang/Object"), (.array (.object "java/lang/Object")), .int], none⟩ := by decide +kernel
theorem pn12 : plainFor (⟨"java/util/ArrayList", "size", "()I"⟩ : MethodName) = true := plainFor_of_name (by first | (simp [plainName, overriddenIn]; done) | decide +kernel)
theorem pn13 : plainFor (⟨"jdk/internal/util/Preconditions", "checkIndex", "(IILjava/util/function/BiFunction;)I"⟩ : MethodName) = true := plainFor_of_name (by first | (simp [plainName, overriddenIn]; done) | decide +kernel)
theorem pn14 : plainFor (⟨"java/util/Objects", "checkIndex", "(II)I"⟩ : MethodName) = true := plainFor_of_name (by first | (simp [plainName, overriddenIn]; done) | decide +kernel)
theorem pd6 : parseMethodDescriptor "(IILjava/util/function/BiFunction;)I" = some ⟨[.int, .int, (.object "java/util/function/BiFunction")], some .int⟩ := by decide +kernel
theorem pn15 : plainFor (⟨"java/util/ArrayList", "elementData", "(I)Ljava/lang/Object;"⟩ : MethodName) = true := plainFor_of_name (by first | (simp [plainName, overriddenIn]; done) | decide +kernel)
theorem pn16 : plainFor (⟨"java/util/ArrayList", "get", "(I)Ljava/lang/Object;"⟩ : MethodName) = true := plainFor_of_name (by first | (simp [plainName, overriddenIn]; done) | decide +kernel)
theorem pd7 : parseMethodDescriptor "(I)Ljava/lang/Object;" = some ⟨[.int], some (.object "java/lang/Object")⟩ := by decide +kernel
theorem pn17 : plainFor (⟨"java/util/ArrayList", "set", "(ILjava/lang/Object;)Ljava/lang/Object;"⟩ : MethodName) = true := plainFor_of_name (by first | (simp [plainName, overriddenIn]; done) | decide +kernel)
theorem pn18 : plainFor (⟨"java/lang/Record", "<init>", "()V"⟩ : MethodName) = true := plainFor_of_name (by first | (simp [plainName, overriddenIn]; done) | decide +kernel)
theorem pn19 : plainFor (⟨"com/example/bellwether/bellwether/testkit/SimulatedClock$Segment", "<init>", "(JJJJ)V"⟩ : MethodName) = true := plainFor_of_name (by first | (simp [plainName, overriddenIn]; done) | decide +kernel)
theorem pn20 : plainFor (⟨"com/example/bellwether/bellwether/testkit/SimulatedClock$Segment", "real", "()J"⟩ : MethodName) = true := plainFor_of_name (by first | (simp [plainName, overriddenIn]; done) | decide +kernel)
theorem pn21 : plainFor (⟨"com/example/bellwether/bellwether/testkit/SimulatedClock$Segment", "reading", "()J"⟩ : MethodName) = true := plainFor_of_name (by first | (simp [plainName, overriddenIn]; done) | decide +kernel)
theorem pn22 : plainFor (⟨"com/example/bellwether/bellwether/testkit/SimulatedClock$Segment", "fraction", "()J"⟩ : MethodName) = true := plainFor_of_name (by first | (simp [plainName, overriddenIn]; done) | decide +kernel)
theorem pn23 : plainFor (⟨"com/example/bellwether/bellwether/testkit/SimulatedClock$Segment", "rate", "()J"⟩ : MethodName) = true := plainFor_of_name (by first | (simp [plainName, overriddenIn]; done) | decide +kernel)
theorem pn24 : plainFor (⟨"com/example/bellwether/bellwether/testkit/SimulatedClock", "<init>", "(J)V"⟩ : MethodName) = true := plainFor_of_name (by first | (simp [plainName, overriddenIn]; done) | decide +kernel)
theorem pd8 : parseMethodDescriptor "(JJJJ)V" = some ⟨[.long, .long, .long, .long], none⟩ := by decide +kernel
theorem pd9 : parseMethodDescriptor "(Ljava/lang/Object;)Z" = some ⟨[(.object "java/lang/Object")], some .boolean⟩ := by decide +kernel
theorem pn25 : plainFor (⟨"com/example/bellwether/bellwether/testkit/SimulatedClock", "reading", "(J)J"⟩ : MethodName) = true := plainFor_of_name (by first | (simp [plainName, overriddenIn]; done) | decide +kernel)
theorem pd10 : parseMethodDescriptor "()I" = some ⟨[], some .int⟩ := by decide +kernel
theorem pd11 : parseMethodDescriptor "()J" = some ⟨[], some .long⟩ := by decide +kernel
theorem pd12 : parseMethodDescriptor "(JJ)J" = some ⟨[.long, .long], some .long⟩ := by decide +kernel
theorem pn26 : plainFor (⟨"com/example/bellwether/bellwether/testkit/SimulatedClock", "rate", "(JJ)V"⟩ : MethodName) = true := plainFor_of_name (by first | (simp [plainName, overriddenIn]; done) | decide +kernel)
theorem pd13 : parseMethodDescriptor "(ILjava/lang/Object;)Ljava/lang/Object;" = some ⟨[.int, (.object "java/lang/Object")], some (.object "java/lang/Object")⟩ := by decide +kernel
theorem pn27 : plainFor (⟨"com/example/bellwether/bellwether/testkit/SimulatedClock", "realTime", "(J)J"⟩ : MethodName) = true := plainFor_of_name (by first | (simp [plainName, overriddenIn]; done) | decide +kernel)
theorem pn28 : plainFor x = true := plainFor_of_name (by first | (simp [plainName, overriddenIn]; done) | decide +kernel)
theorem pd14 : parseMethodDescriptor "(J)V" = some ⟨[.long], none⟩ := by decide +kernel
theorem pd15 : parseMethodDescriptor "(JJ)V" = some ⟨[.long, .long], none⟩ := by decide +kernel
set_option maxRecDepth 65536 in
set_option maxHeartbeats 40000000 in
theorem rmFM (Z : State) (a0 : Array Value) (hw : ∀ d ∈ tables_1, d.before a0 Z = true) (u0 : Int64) (u1 : Int64) (h0 : Heap) (n0 : Nat) (Z0 : n0 ≤ h0.size) (hy : 0 < u1.toInt) (lau : Launch) :
    Con lau Z (⟨"java/lang/Math", "floorMod", "(JJ)J"⟩ : MethodName) jdk_29_method_52_code 6 (some .long) ({ frames := 0, cells := 0, slots := 0, locals := 0 } : Room) #[(.long u0), (.long u1)] h0 n0 (RL fun z h => z.toInt = u0.toInt % u1.toInt ∧ h0 = h) := by
  refine con_intro pn0 (L := #[.val (.long u0), .second, .val (.long u1), .second, .unset, .unset]) (fun m => by first | (simp [entryFrame, mkF, argsToLocals, Value.category, maxLocals]; done) | rfl) Z0 (fun w T K H => ?_)
  refine go_lloadN K H d0_0 rfl ?_
  refine go_lloadN K H d0_1 rfl ?_
  refine go_lrem K H d0_2 (fun q => by rw [q] at hy; exact absurd hy (by decide)) fun v1 ev1 => ?_
  have hr : v1.toInt = u0.toInt.tmod u1.toInt := by rw [ev1, lrem_mod, Int64.toInt_mod]
  have hm := fmod_pos hy hr; have hx := xor_neg u0 u1 (by omega)
  have b1 := Int.emod_nonneg u0.toInt (show u1.toInt ≠ 0 by omega); have b2 := Int.emod_lt_of_pos u0.toInt hy; have b3 := rng64 u1; clear ev1
  refine go_lstore K H d0_3 (L' := #[.val (.long u0), .second, .val (.long u1), .second, .val (.long v1), .second]) rfl ?_
  refine go_lloadN K H d0_5 rfl ?_
  refine go_lloadN K H d0_6 rfl ?_
  refine go_lxor K H d0_7 fun v2 ev2 => ?_
  refine go_lconst 0 K H d0_8 (by decide) ?_
  refine go_lcmp K H d0_9 fun v3 ev3 => ?_
  have fv3 := f_lcmp ev3
  rw [← ev2] at hx
  refine go_if_ge K H d0_10 (fun c10 => ?_) (fun c10 => ?_)
  · refine go_lload K H d0_25 rfl ?_
    exact go_lret K H d0_27 rfl (by decide) (by decide) (⟨by (try simp only [or_true, true_or, and_true, true_and, not_true_eq_false, not_false_eq_true, Int32.lt_iff_toInt_lt, Int32.le_iff_toInt_le, ← Int32.toInt_inj, Int64.lt_iff_toInt_lt, Int64.le_iff_toInt_le, ← Int64.toInt_inj, Int32.reduceToInt, Int64.reduceToInt, ne_eq] at *) <;> omega, rfl⟩)
  · refine go_lload K H d0_13 rfl ?_
    refine go_lconst 0 K H d0_15 (by decide) ?_
    refine go_lcmp K H d0_16 fun v4 ev4 => ?_
    have fv4 := f_lcmp ev4
    refine go_if_eq K H d0_17 (fun c17 => ?_) (fun c17 => ?_)
    · refine go_lload K H d0_25 rfl ?_
      exact go_lret K H d0_27 rfl (by decide) (by decide) (⟨by (try simp only [or_true, true_or, and_true, true_and, not_true_eq_false, not_false_eq_true, Int32.lt_iff_toInt_lt, Int32.le_iff_toInt_le, ← Int32.toInt_inj, Int64.lt_iff_toInt_lt, Int64.le_iff_toInt_le, ← Int64.toInt_inj, Int32.reduceToInt, Int64.reduceToInt, ne_eq] at *) <;> omega, rfl⟩)
    · refine go_lload K H d0_20 rfl ?_
      refine go_lloadN K H d0_22 rfl ?_
      refine go_ladd K H d0_23 fun v5 ev5 => ?_
      have fv5 := f_ladd ev5
      have rv5 := rng64 v5
      exact go_lret K H d0_24 rfl (by decide) (by decide) (⟨by (try simp only [or_true, true_or, and_true, true_and, not_true_eq_false, not_false_eq_true, Int32.lt_iff_toInt_lt, Int32.le_iff_toInt_le, ← Int32.toInt_inj, Int64.lt_iff_toInt_lt, Int64.le_iff_toInt_le, ← Int64.toInt_inj, Int32.reduceToInt, Int64.reduceToInt, ne_eq] at *) <;> omega, rfl⟩)
set_option maxRecDepth 65536 in
set_option maxHeartbeats 40000000 in
theorem rmFD (Z : State) (a0 : Array Value) (hw : ∀ d ∈ tables_1, d.before a0 Z = true) (u0 : Int64) (u1 : Int64) (h0 : Heap) (n0 : Nat) (Z0 : n0 ≤ h0.size) (hy : 0 < u1.toInt) (lau : Launch) :
    Con lau Z (⟨"java/lang/Math", "floorDiv", "(JJ)J"⟩ : MethodName) jdk_29_method_49_code 6 (some .long) ({ frames := 0, cells := 0, slots := 0, locals := 0 } : Room) #[(.long u0), (.long u1)] h0 n0 (RL fun z h => z.toInt = u0.toInt / u1.toInt ∧ h0 = h) := by
  refine con_intro pn1 (L := #[.val (.long u0), .second, .val (.long u1), .second, .unset, .unset]) (fun m => by first | (simp [entryFrame, mkF, argsToLocals, Value.category, maxLocals]; done) | rfl) Z0 (fun w T K H => ?_)
  refine go_lloadN K H d1_0 rfl ?_
  refine go_lloadN K H d1_1 rfl ?_
  refine go_ldiv K H d1_2 (fun q => by rw [q] at hy; exact absurd hy (by decide)) fun v1 ev1 => ?_
  have hq : v1.toInt = u0.toInt.tdiv u1.toInt := by rw [ev1, Int64.toInt_div_of_ne_right _ _ (fun q => by rw [q] at hy; exact absurd hy (by decide))]
  have hm := fdiv_pos hy hq; have hx := xor_neg u0 u1 (by omega)
  have b0 := rng64 u0; have b3 := rng64 u1; clear ev1
  have hs : u0.toInt < 0 → u0.toInt ≤ v1.toInt * u1.toInt ∧ v1.toInt * u1.toInt ≤ 0 := by
    intro hn
    have e : v1.toInt = -((-u0.toInt) / u1.toInt) := by rw [hq]; exact (tq _ _).2 hn
    have a := Int.mul_ediv_add_emod (-u0.toInt) u1.toInt
    have b := Int.emod_nonneg (-u0.toInt) (show u1.toInt ≠ 0 by omega)
    have c := Int.ediv_nonneg (a := -u0.toInt) (b := u1.toInt) (by omega) (by omega)
    have d := Int.mul_nonneg (show 0 ≤ u1.toInt by omega) c
    rw [e, Int.neg_mul, Int.mul_comm]; omega
  have hl : u0.toInt < 0 → u0.toInt / u1.toInt ≤ -1 := fun hn => by have := (Int.ediv_lt_iff_lt_mul (a := u0.toInt) (b := 0) hy).mpr (by omega); omega
  have hg : u0.toInt < 0 → u0.toInt ≤ u0.toInt / u1.toInt := fun hn => by rw [Int.le_ediv_iff_mul_le hy]; have := Int.mul_le_mul_of_nonneg_left (show (1 : Int) ≤ u1.toInt by omega) (show 0 ≤ -u0.toInt by omega); rw [Int.neg_mul, Int.neg_mul, Int.mul_one] at this; generalize u0.toInt * u1.toInt = P at *; omega
  refine go_lstore K H d1_3 (L' := #[.val (.long u0), .second, .val (.long u1), .second, .val (.long v1), .second]) rfl ?_
  refine go_lloadN K H d1_5 rfl ?_
  refine go_lloadN K H d1_6 rfl ?_
  refine go_lxor K H d1_7 fun v2 ev2 => ?_
  refine go_lconst 0 K H d1_8 (by decide) ?_
  refine go_lcmp K H d1_9 fun v3 ev3 => ?_
  have fv3 := f_lcmp ev3
  rw [← ev2] at hx; clear hq
  refine go_if_ge K H d1_10 (fun c10 => ?_) (fun c10 => ?_)
  · refine go_lload K H d1_27 rfl ?_
    exact go_lret K H d1_29 rfl (by decide) (by decide) (⟨by (try simp only [or_true, true_or, and_true, true_and, not_true_eq_false, not_false_eq_true, Int32.lt_iff_toInt_lt, Int32.le_iff_toInt_le, ← Int32.toInt_inj, Int64.lt_iff_toInt_lt, Int64.le_iff_toInt_le, ← Int64.toInt_inj, Int32.reduceToInt, Int64.reduceToInt, ne_eq] at *) <;> omega, rfl⟩)
  · refine go_lload K H d1_13 rfl ?_
    refine go_lloadN K H d1_15 rfl ?_
    refine go_lmul K H d1_16 fun v4 ev4 => ?_
    have fv4 := f_lmul ev4
    have rv4 := rng64 v4
    refine go_lloadN K H d1_17 rfl ?_
    refine go_lcmp K H d1_18 fun v5 ev5 => ?_
    have fv5 := f_lcmp ev5
    refine go_if_eq K H d1_19 (fun c19 => ?_) (fun c19 => ?_)
    · refine go_lload K H d1_27 rfl ?_
      exact go_lret K H d1_29 rfl (by decide) (by decide) (⟨by (try simp only [or_true, true_or, and_true, true_and, not_true_eq_false, not_false_eq_true, Int32.lt_iff_toInt_lt, Int32.le_iff_toInt_le, ← Int32.toInt_inj, Int64.lt_iff_toInt_lt, Int64.le_iff_toInt_le, ← Int64.toInt_inj, Int32.reduceToInt, Int64.reduceToInt, ne_eq] at *) <;> omega, rfl⟩)
    · refine go_lload K H d1_22 rfl ?_
      refine go_lconst 1 K H d1_24 (by decide) ?_
      refine go_lsub K H d1_25 fun v6 ev6 => ?_
      have fv6 := f_lsub ev6
      have rv6 := rng64 v6
      exact go_lret K H d1_26 rfl (by decide) (by decide) (⟨by (try simp only [or_true, true_or, and_true, true_and, not_true_eq_false, not_false_eq_true, Int32.lt_iff_toInt_lt, Int32.le_iff_toInt_le, ← Int32.toInt_inj, Int64.lt_iff_toInt_lt, Int64.le_iff_toInt_le, ← Int64.toInt_inj, Int32.reduceToInt, Int64.reduceToInt, ne_eq] at *) <;> omega, rfl⟩)
set_option maxRecDepth 65536 in
set_option maxHeartbeats 40000000 in
theorem rmAB (Z : State) (a0 : Array Value) (hw : ∀ d ∈ tables_1, d.before a0 Z = true) (u0 : Int64) (h0 : Heap) (n0 : Nat) (Z0 : n0 ≤ h0.size)  (lau : Launch) :
    Con lau Z (⟨"java/lang/Math", "abs", "(J)J"⟩ : MethodName) jdk_29_method_61_code 2 (some .long) ({ frames := 0, cells := 0, slots := 0, locals := 0 } : Room) #[(.long u0)] h0 n0 (RL fun z h => h0 = h) := by
  refine con_intro pn2 (L := #[.val (.long u0), .second]) (fun m => by first | (simp [entryFrame, mkF, argsToLocals, Value.category, maxLocals]; done) | rfl) Z0 (fun w T K H => ?_)
  refine go_lloadN K H d2_0 rfl ?_
  refine go_lconst 0 K H d2_1 (by decide) ?_
  refine go_lcmp K H d2_2 fun v1 ev1 => ?_
  have fv1 := f_lcmp ev1
  refine go_if_ge K H d2_3 (fun c3 => ?_) (fun c3 => ?_)
  · refine go_lloadN K H d2_11 rfl ?_
    exact go_lret K H d2_12 rfl (by decide) (by decide) (rfl)
  · refine go_lloadN K H d2_6 rfl ?_
    refine go_lneg K H d2_7 fun v2 ev2 => ?_
    have fv2 := f_lneg ev2
    have rv2 := rng64 v2
    refine go_goto K H d2_8 ?_
    exact go_lret K H d2_12 rfl (by decide) (by decide) (rfl)
set_option maxRecDepth 65536 in
set_option maxHeartbeats 40000000 in
theorem rmMX (Z : State) (a0 : Array Value) (hw : ∀ d ∈ tables_1, d.before a0 Z = true) (u0 : Int64) (u1 : Int64) (h0 : Heap) (n0 : Nat) (Z0 : n0 ≤ h0.size) (hlo : -9223372036854775808 ≤ u0.toInt * u1.toInt) (hhi : u0.toInt * u1.toInt < 9223372036854775808) (hmin : u0.toInt ≠ -9223372036854775808) (lau : Launch) :
    Con lau Z (⟨"java/lang/Math", "multiplyExact", "(JJ)J"⟩ : MethodName) jdk_29_method_30_code 10 (some .long) ({ frames := 1, cells := 0, slots := 0, locals := 40 } : Room) #[(.long u0), (.long u1)] h0 n0 (RL fun z h => z.toInt = u0.toInt * u1.toInt ∧ h0 = h) := by
  refine con_intro pn3 (L := #[.val (.long u0), .second, .val (.long u1), .second, .unset, .unset, .unset, .unset, .unset, .unset]) (fun m => by first | (simp [entryFrame, mkF, argsToLocals, Value.category, maxLocals]; done) | rfl) Z0 (fun w T K H => ?_)
  refine go_lloadN K H d3_0 rfl ?_
  refine go_lloadN K H d3_1 rfl ?_
  refine go_lmul K H d3_2 fun v1 ev1 => ?_
  have fv1 := f_lmul ev1
  have rv1 := rng64 v1
  refine go_lstore K H d3_3 (L' := #[.val (.long u0), .second, .val (.long u1), .second, .val (.long v1), .second, .unset, .unset, .unset, .unset]) rfl ?_
  refine go_lloadN K H d3_5 rfl ?_
  refine go_callS [(.long u0)] K H d3_6 (hw _ (List.mem_of_getElem? (i := 171) rfl)) (hw _ (List.mem_of_getElem? (i := 172) rfl)) (hw _ (List.mem_of_getElem? (i := 89) rfl)) (hw _ (List.mem_of_getElem? (i := 173) rfl)) (st' := []) (by decide) (rmAB Z a0 hw _ _ n0 Z0) pd0 rfl rfl rfl (by decide) (W := 0) rfl (by decide) (by decide) (by decide) fun T2 h2 v2 H2 q2 => ?_
  obtain ⟨z2, rfl, rfl⟩ := q2
  show Go w _ _ 9 #[.val (.long u0), .second, .val (.long u1), .second, .val (.long v1), .second, .unset, .unset, .unset, .unset] [(.long z2)]
  refine go_lstore K H2 d3_9 (L' := #[.val (.long u0), .second, .val (.long u1), .second, .val (.long v1), .second, .val (.long z2), .second, .unset, .unset]) rfl ?_
  refine go_lloadN K H2 d3_11 rfl ?_
  refine go_callS [(.long u1)] K H2 d3_12 (hw _ (List.mem_of_getElem? (i := 171) rfl)) (hw _ (List.mem_of_getElem? (i := 172) rfl)) (hw _ (List.mem_of_getElem? (i := 89) rfl)) (hw _ (List.mem_of_getElem? (i := 173) rfl)) (st' := []) (by decide) (rmAB Z a0 hw _ _ n0 Z0) pd0 rfl rfl rfl (by decide) (W := 0) rfl (by decide) (by decide) (by decide) fun T3 h3 v3 H3 q3 => ?_
  obtain ⟨z3, rfl, rfl⟩ := q3
  show Go w _ _ 15 #[.val (.long u0), .second, .val (.long u1), .second, .val (.long v1), .second, .val (.long z2), .second, .unset, .unset] [(.long z3)]
  refine go_lstore K H3 d3_15 (L' := #[.val (.long u0), .second, .val (.long u1), .second, .val (.long v1), .second, .val (.long z2), .second, .val (.long z3), .second]) rfl ?_
  refine go_lload K H3 d3_17 rfl ?_
  refine go_lload K H3 d3_19 rfl ?_
  refine go_lor K H3 d3_21 fun v4 ev4 => ?_
  refine go_bipush (31) K H3 d3_22 (by decide) ?_
  refine go_lushr K H3 d3_24 fun v5 ev5 => ?_
  have fv5 := f_lushr 2147483648 31 ev5 (by decide) (by decide) (by decide)
  refine go_lconst 0 K H3 d3_25 (by decide) ?_
  refine go_lcmp K H3 d3_26 fun v6 ev6 => ?_
  have fv6 := f_lcmp ev6
  have hp : v1.toInt = u0.toInt * u1.toInt := by generalize u0.toInt * u1.toInt = P at *; have := rng64 v1; omega
  have hc : u1.toInt ≠ 0 → (u0.toInt * u1.toInt).tdiv u1.toInt = u0.toInt := fun q => Int.mul_tdiv_cancel _ q
  refine go_if_eq K H3 d3_27 (fun c27 => ?_) (fun c27 => ?_)
  · refine go_lload K H3 d3_71 rfl ?_
    exact go_lret K H3 d3_73 rfl (by decide) (by decide) (⟨hp, rfl⟩)
  · refine go_lloadN K H3 d3_30 rfl ?_
    refine go_lconst 0 K H3 d3_31 (by decide) ?_
    refine go_lcmp K H3 d3_32 fun v7 ev7 => ?_
    have fv7 := f_lcmp ev7
    refine go_if_eq K H3 d3_33 (fun c33 => ?_) (fun c33 => ?_)
    · refine go_lloadN K H3 d3_45 rfl ?_
      refine go_ldcL (-9223372036854775808) K H3 d3_46 (hw _ (List.mem_of_getElem? (i := 174) rfl)) ?_
      refine go_lcmp K H3 d3_49 fun v8 ev8 => ?_
      have fv8 := f_lcmp ev8
      refine go_if_ne K H3 d3_50 (fun c50 => ?_) (fun c50 => False.elim (by (try simp only [or_true, true_or, and_true, true_and, not_true_eq_false, not_false_eq_true, Int32.lt_iff_toInt_lt, Int32.le_iff_toInt_le, ← Int32.toInt_inj, Int64.lt_iff_toInt_lt, Int64.le_iff_toInt_le, ← Int64.toInt_inj, Int32.reduceToInt, Int64.reduceToInt, ne_eq] at *) <;> omega))
      refine go_lload K H3 d3_71 rfl ?_
      exact go_lret K H3 d3_73 rfl (by decide) (by decide) (⟨hp, rfl⟩)
    · have hnz : u1.toInt ≠ 0 := by (try simp only [or_true, true_or, and_true, true_and, not_true_eq_false, not_false_eq_true, Int32.lt_iff_toInt_lt, Int32.le_iff_toInt_le, ← Int32.toInt_inj, Int64.lt_iff_toInt_lt, Int64.le_iff_toInt_le, ← Int64.toInt_inj, Int32.reduceToInt, Int64.reduceToInt, ne_eq] at *) <;> omega
      refine go_lload K H3 d3_36 rfl ?_
      refine go_lloadN K H3 d3_38 rfl ?_
      refine go_ldiv K H3 d3_39 (fun q => by rw [q] at hnz; exact absurd rfl hnz) fun v9 ev9 => ?_
      have hqx : v9 = u0 := by
        apply Int64.toInt_inj.mp; rw [ev9]
        by_cases m1 : u1 = -1
        · subst m1; have e1 : (-1 : Int64).toInt = -1 := rfl
          have e2 : v1 = -u0 := by apply Int64.toInt_inj.mp; rw [hp, e1, Int64.toInt_neg]; have := rng64 u0; rw [Int.bmod_eq_of_le (by omega) (by omega)]; omega
          rw [e2]; have : (-u0) / (-1 : Int64) = u0 := by apply Int64.toInt_inj.mp; rw [Int64.toInt_div, Int64.toInt_neg, e1]; have := rng64 u0; rw [Int.bmod_eq_of_le (n := -u0.toInt) (by omega) (by omega), Int.tdiv_neg, Int.tdiv_one, Int.neg_neg, Int.bmod_eq_of_le (by omega) (by omega)]
          rw [this]
        · rw [Int64.toInt_div_of_ne_right _ _ m1, hp]; exact hc hnz
      refine go_lloadN K H3 d3_40 rfl ?_
      refine go_lcmp K H3 d3_41 fun v10 ev10 => ?_
      have fv10 := f_lcmp ev10
      refine go_if_ne K H3 d3_42 (fun cc => False.elim (by rw [hqx] at *; exact cc (by first | exact (lw_eq _ _).mpr rfl | (simp only [*]; exact (lw_eq _ _).mpr rfl)))) (fun cc => ?_)
      refine go_lloadN K H3 d3_45 rfl ?_
      refine go_ldcL (-9223372036854775808) K H3 d3_46 (hw _ (List.mem_of_getElem? (i := 174) rfl)) ?_
      refine go_lcmp K H3 d3_49 fun v11 ev11 => ?_
      have fv11 := f_lcmp ev11
      refine go_if_ne K H3 d3_50 (fun c50 => ?_) (fun c50 => False.elim (by (try simp only [or_true, true_or, and_true, true_and, not_true_eq_false, not_false_eq_true, Int32.lt_iff_toInt_lt, Int32.le_iff_toInt_le, ← Int32.toInt_inj, Int64.lt_iff_toInt_lt, Int64.le_iff_toInt_le, ← Int64.toInt_inj, Int32.reduceToInt, Int64.reduceToInt, ne_eq] at *) <;> omega))
      refine go_lload K H3 d3_71 rfl ?_
      exact go_lret K H3 d3_73 rfl (by decide) (by decide) (⟨hp, rfl⟩)
set_option maxRecDepth 65536 in
set_option maxHeartbeats 40000000 in
theorem rmMAX (Z : State) (a0 : Array Value) (hw : ∀ d ∈ tables_1, d.before a0 Z = true) (u0 : Int32) (u1 : Int32) (h0 : Heap) (n0 : Nat) (Z0 : n0 ≤ h0.size)  (lau : Launch) :
    Con lau Z (⟨"java/lang/Math", "max", "(II)I"⟩ : MethodName) jdk_29_method_65_code 2 (some .int) ({ frames := 0, cells := 0, slots := 0, locals := 0 } : Room) #[(.int u0), (.int u1)] h0 n0 (RI fun z h => (u0.toInt ≤ z.toInt ∧ u1.toInt ≤ z.toInt ∧ (z = u0 ∨ z = u1)) ∧ h0 = h) := by
  refine con_intro pn4 (L := #[.val (.int u0), .val (.int u1)]) (fun m => by first | (simp [entryFrame, mkF, argsToLocals, Value.category, maxLocals]; done) | rfl) Z0 (fun w T K H => ?_)
  refine go_iloadN K H d4_0 rfl ?_
  refine go_iloadN K H d4_1 rfl ?_
  refine go_icmp_lt K H d4_2 (fun c2 => ?_) (fun c2 => ?_)
  · refine go_iloadN K H d4_9 rfl ?_
    exact go_iret K H d4_10 rfl (by decide) (by decide) (⟨by (try simp only [or_true, true_or, and_true, true_and, not_true_eq_false, not_false_eq_true, Int32.lt_iff_toInt_lt, Int32.le_iff_toInt_le, ← Int32.toInt_inj, Int64.lt_iff_toInt_lt, Int64.le_iff_toInt_le, ← Int64.toInt_inj, Int32.reduceToInt, Int64.reduceToInt, ne_eq] at *) <;> omega, rfl⟩)
  · refine go_iloadN K H d4_5 rfl ?_
    refine go_goto K H d4_6 ?_
    exact go_iret K H d4_10 rfl (by decide) (by decide) (⟨by (try simp only [or_true, true_or, and_true, true_and, not_true_eq_false, not_false_eq_true, Int32.lt_iff_toInt_lt, Int32.le_iff_toInt_le, ← Int32.toInt_inj, Int64.lt_iff_toInt_lt, Int64.le_iff_toInt_le, ← Int64.toInt_inj, Int32.reduceToInt, Int64.reduceToInt, ne_eq] at *) <;> omega, rfl⟩)
set_option maxRecDepth 65536 in
set_option maxHeartbeats 40000000 in
theorem rmABC (Z : State) (a0 : Array Value) (hw : ∀ d ∈ tables_1, d.before a0 Z = true) (a : Addr) (h0 : Heap) (n0 : Nat) (Z0 : n0 ≤ h0.size)  (lau : Launch) :
    Con lau Z (⟨"java/util/AbstractCollection", "<init>", "()V"⟩ : MethodName) jdk_22_method_1_code 1 none ({ frames := 1, cells := 0, slots := 0, locals := 12 } : Room) #[(.ref a)] h0 n0 (RV fun h => h0 = h) := by
  refine con_intro pn5 (L := #[.val (.ref a)]) (fun m => by first | (simp [entryFrame, mkF, argsToLocals, Value.category, maxLocals]; done) | rfl) Z0 (fun w T K H => ?_)
  refine go_aloadN K H d5_0 rfl rfl ?_
  refine go_initO K H d5_1 (hw _ (List.mem_of_getElem? (i := 30) rfl)) (hw _ (List.mem_of_getElem? (i := 10) rfl)) (hw _ (List.mem_of_getElem? (i := 11) rfl)) rfl (by decide) (W := 0) rfl (by decide) fun T1 HT1 => ?_
  exact go_ret K HT1 d5_4 rfl (by decide) (by decide) (rfl)
set_option maxRecDepth 65536 in
set_option maxHeartbeats 40000000 in
theorem rmABL (Z : State) (a0 : Array Value) (hw : ∀ d ∈ tables_1, d.before a0 Z = true) (a : Addr) (h0 : Heap) (n0 : Nat) (Z0 : n0 ≤ h0.size) (v0 : Value) (F0 : Fld Z h0 a "java/util/AbstractList" "modCount" "I" v0) (E0 : Exa Z h0 a "java/util/ArrayList") (g0 : n0 ≤ a) (lau : Launch) :
    Con lau Z (⟨"java/util/AbstractList", "<init>", "()V"⟩ : MethodName) jdk_39_method_1_code 1 none ({ frames := 2, cells := 0, slots := 0, locals := 24 } : Room) #[(.ref a)] h0 n0 (RV fun h => Wr h0 h a (Jvm.RoadKit.slotOf Z "java/util/AbstractList" "modCount" "I") (.int 0)) := by
  refine con_intro pn6 (L := #[.val (.ref a)]) (fun m => by first | (simp [entryFrame, mkF, argsToLocals, Value.category, maxLocals]; done) | rfl) Z0 (fun w T K H => ?_)
  refine go_aloadN K H d6_0 rfl rfl ?_
  refine go_callI [] K H d6_1 rfl (hw _ (List.mem_of_getElem? (i := 24) rfl)) (hw _ (List.mem_of_getElem? (i := 25) rfl)) (hw _ (List.mem_of_getElem? (i := 28) rfl)) (hw _ (List.mem_of_getElem? (i := 29) rfl)) (st' := []) (by decide) (rmABC Z a0 hw _ _ n0 Z0) pd1 rfl rfl rfl (by decide) (W := 0) rfl (by decide) (by decide) (by decide) fun T1 h1 v1 H1 q1 => ?_
  obtain ⟨rfl, rfl⟩ := q1
  show Go w _ _ 4 #[.val (.ref a)] []
  refine go_aloadN K H1 d6_4 rfl rfl ?_
  refine go_iconst (0) K H1 d6_5 (by decide) ?_
  refine go_putfield K H1 d6_6 (host := "") (Or.inl (hw _ (List.mem_of_getElem? (i := 31) rfl))) Via.refl (F0) (E0) (Or.inl (hw _ (List.mem_of_getElem? (i := 32) rfl))) (hw _ (List.mem_of_getElem? (i := 13) rfl)) (ty := .int) (by decide) rfl rfl (g0) fun T2 h2 H2 W2 => ?_
  exact go_ret K H2 d6_9 rfl (by decide) (by decide) (W2)
set_option maxRecDepth 65536 in
set_option maxHeartbeats 40000000 in
theorem rmALI (Z : State) (a0 : Array Value) (hw : ∀ d ∈ tables_1, d.before a0 Z = true) (a : Addr) (h0 : Heap) (n0 : Nat) (Z0 : n0 ≤ h0.size) (v0 v1 : Value) (de : Addr) (FE : Fld Z h0 a "java/util/ArrayList" "elementData" "[Ljava/lang/Object;" v0) (FZ : Fld Z h0 a "java/util/ArrayList" "size" "I" (.int 0)) (FM : Fld Z h0 a "java/util/AbstractList" "modCount" "I" v1) (E0 : Exa Z h0 a "java/util/ArrayList") (S0 : Sta Z h0 "java/util/ArrayList" "DEFAULTCAPACITY_EMPTY_ELEMENTDATA" "[Ljava/lang/Object;" (.ref de)) (g0 : n0 ≤ a) (lau : Launch) :
    Con lau Z (⟨"java/util/ArrayList", "<init>", "()V"⟩ : MethodName) jdk_38_method_2_code 1 none ({ frames := 3, cells := 0, slots := 0, locals := 36 } : Room) #[(.ref a)] h0 n0 (RV fun h => Exa Z h a "java/util/ArrayList" ∧ Fld Z h a "java/util/ArrayList" "elementData" "[Ljava/lang/Object;" (.ref de) ∧ Fld Z h a "java/util/ArrayList" "size" "I" (.int 0) ∧ Fld Z h a "java/util/AbstractList" "modCount" "I" (.int 0) ∧ Keep h0 h [a]) := by
  refine con_intro pn7 (L := #[.val (.ref a)]) (fun m => by first | (simp [entryFrame, mkF, argsToLocals, Value.category, maxLocals]; done) | rfl) Z0 (fun w T K H => ?_)
  refine go_aloadN K H d7_0 rfl rfl ?_
  refine go_callI [] K H d7_1 rfl (hw _ (List.mem_of_getElem? (i := 18) rfl)) (hw _ (List.mem_of_getElem? (i := 19) rfl)) (hw _ (List.mem_of_getElem? (i := 22) rfl)) (hw _ (List.mem_of_getElem? (i := 23) rfl)) (st' := []) (by decide) (rmABL Z a0 hw _ _ n0 Z0 _ FM E0 g0) pd1 rfl rfl rfl (by decide) (W := 0) rfl (by decide) (by decide) (by decide) fun T1 h1 v1 H1 q1 => ?_
  obtain ⟨rfl, W1⟩ := q1
  show Go w _ _ 4 #[.val (.ref a)] []
  have FE1 := FE.other W1 (Or.inr (slot_ne (Z := Z) (a0 := a0) (Or.inl (hw _ (List.mem_of_getElem? (i := 35) rfl))) (Or.inl (hw _ (List.mem_of_getElem? (i := 32) rfl))) (by decide) (t := (.array (.object "java/lang/Object"))) (by decide) (t' := .int) (by decide))); have FZ1 := FZ.other W1 (Or.inr (slot_ne (Z := Z) (a0 := a0) (Or.inl (hw _ (List.mem_of_getElem? (i := 71) rfl))) (Or.inl (hw _ (List.mem_of_getElem? (i := 32) rfl))) (by decide) (t := .int) (by decide) (t' := .int) (by decide))); have FM1 := FM.same W1; have E1 := E0.wr W1; have S1 := S0.wr W1
  refine go_aloadN K H1 d7_4 rfl rfl ?_
  refine go_getstatic K H1 d7_5 (host := "") (Or.inl (hw _ (List.mem_of_getElem? (i := 33) rfl))) Via.refl (S1) fun T2 HT2 => ?_
  refine go_putfield K HT2 d7_8 (host := "") (Or.inl (hw _ (List.mem_of_getElem? (i := 34) rfl))) Via.refl (FE1) (E1) (Or.inl (hw _ (List.mem_of_getElem? (i := 35) rfl))) (hw _ (List.mem_of_getElem? (i := 13) rfl)) (ty := (.array (.object "java/lang/Object"))) (by decide) rfl rfl (g0) fun T3 h3 H3 W3 => ?_
  exact go_ret K H3 d7_11 rfl (by decide) (by decide) (⟨E1.wr W3, FE1.same W3, FZ1.other W3 (Or.inr (slot_ne (Z := Z) (a0 := a0) (Or.inl (hw _ (List.mem_of_getElem? (i := 71) rfl))) (Or.inl (hw _ (List.mem_of_getElem? (i := 35) rfl))) (by decide) (t := .int) (by decide) (t' := (.array (.object "java/lang/Object"))) (by decide))), FM1.other W3 (Or.inr (slot_ne (Z := Z) (a0 := a0) (Or.inl (hw _ (List.mem_of_getElem? (i := 32) rfl))) (Or.inl (hw _ (List.mem_of_getElem? (i := 35) rfl))) (by decide) (t := .int) (by decide) (t' := (.array (.object "java/lang/Object"))) (by decide))), (Keep.of_wr W1).wr W3 (Or.inl (List.mem_singleton.mpr rfl))⟩)
set_option maxRecDepth 65536 in
set_option maxHeartbeats 40000000 in
theorem rmG1 (Z : State) (a0 : Array Value) (hw : ∀ d ∈ tables_1, d.before a0 Z = true) (a : Addr) (h0 : Heap) (n0 : Nat) (Z0 : n0 ≤ h0.size) (de : Addr) (m : Int32) (FE : Fld Z h0 a "java/util/ArrayList" "elementData" "[Ljava/lang/Object;" (.ref de)) (FZ : Fld Z h0 a "java/util/ArrayList" "size" "I" (.int 0)) (FM : Fld Z h0 a "java/util/AbstractList" "modCount" "I" (.int m)) (E0 : Exa Z h0 a "java/util/ArrayList") (S0 : Sta Z h0 "java/util/ArrayList" "DEFAULTCAPACITY_EMPTY_ELEMENTDATA" "[Ljava/lang/Object;" (.ref de)) (AD : VA Z h0 de (.object "java/lang/Object") []) (g0 : n0 ≤ a) (lau : Launch) :
    Con lau Z (⟨"java/util/ArrayList", "grow", "(I)[Ljava/lang/Object;"⟩ : MethodName) jdk_38_method_6_code 4 (some (.array (.object "java/lang/Object"))) ({ frames := 1, cells := 1, slots := 10, locals := 24 } : Room) #[(.ref a), (.int 1)] h0 n0 (RR fun z h => ∃ e, z = .ref e ∧ n0 ≤ e ∧ h0.size ≤ e ∧ a ≠ e ∧ OA Z h e "java/lang/Object" (List.replicate 10 .null) ∧ Fld Z h a "java/util/ArrayList" "elementData" "[Ljava/lang/Object;" (.ref e) ∧ Exa Z h a "java/util/ArrayList" ∧ Fld Z h a "java/util/ArrayList" "size" "I" (.int 0) ∧ Fld Z h a "java/util/AbstractList" "modCount" "I" (.int m) ∧ Keep h0 h [a]) := by
  refine con_intro pn8 (L := #[.val (.ref a), .val (.int 1), .unset, .unset]) (fun m => by first | (simp [entryFrame, mkF, argsToLocals, Value.category, maxLocals]; done) | rfl) Z0 (fun w T K H => ?_)
  refine go_aloadN K H d8_0 rfl rfl ?_
  refine go_getfield K H d8_1 (host := "") (Or.inl (hw _ (List.mem_of_getElem? (i := 34) rfl))) Via.refl (FE) fun T1 HT1 => ?_
  refine go_arraylength K HT1 d8_4 (AD) fun v2 ev2 => ?_
  refine go_istoreN K HT1 d8_5 (L' := #[.val (.ref a), .val (.int 1), .val (.int v2), .unset]) rfl ?_
  refine go_iloadN K HT1 d8_6 rfl ?_
  refine go_if_gt K HT1 d8_7 (fun cc => False.elim (by have z : v2 = 0 := Int32.toInt_inj.mp ev2; rw [z] at cc; exact absurd cc (by decide))) (fun cc => ?_)
  refine go_aloadN K HT1 d8_10 rfl rfl ?_
  refine go_getfield K HT1 d8_11 (host := "") (Or.inl (hw _ (List.mem_of_getElem? (i := 34) rfl))) Via.refl (FE) fun T3 HT3 => ?_
  refine go_getstatic K HT3 d8_14 (host := "") (Or.inl (hw _ (List.mem_of_getElem? (i := 33) rfl))) Via.refl (S0) fun T4 HT4 => ?_
  refine go_acmp_eq K HT4 rfl rfl d8_17 (fun cc => ?_) (fun cc => False.elim (by exact cc rfl))
  refine go_aloadN K HT4 d8_45 rfl rfl ?_
  refine go_bipush (10) K HT4 d8_46 (by decide) ?_
  refine go_iloadN K HT4 d8_48 rfl ?_
  refine go_callS [(.int 10), (.int 1)] K HT4 d8_49 (hw _ (List.mem_of_getElem? (i := 87) rfl)) (hw _ (List.mem_of_getElem? (i := 88) rfl)) (hw _ (List.mem_of_getElem? (i := 89) rfl)) (hw _ (List.mem_of_getElem? (i := 90) rfl)) (st' := [(.ref a)]) (by decide) (rmMAX Z a0 hw _ _ _ n0 (at_size K HT4)) pd2 rfl rfl rfl (by decide) (W := 1) rfl (by decide) (by decide) (by decide) fun T5 h5 v5 H5 q5 => ?_
  obtain ⟨z5, rfl, ⟨q1, q2, q3⟩, rfl⟩ := q5
  show Go w _ _ 52 #[.val (.ref a), .val (.int 1), .val (.int v2), .unset] [(.int z5), (.ref a)]
  obtain rfl : z5 = 10 := by rcases q3 with q | q; exact q; rw [q] at q1; exact absurd q1 (by decide)
  show Go w _ _ 52 #[.val (.ref a), .val (.int 1), .val (.int v2), .unset] [(.int 10), (.ref a)]
  refine go_anewarray 10 K H5 d8_52 (hw _ (List.mem_of_getElem? (i := 91) rfl)) (hw _ (List.mem_of_getElem? (i := 92) rfl)) (by decide) (by decide) (by decide) (by decide) (by decide) fun T6 h6 e H6 g6 l6 E6 A6 => ?_
  have B : OA Z h6 e "java/lang/Object" (List.replicate 10 .null) := A6
  have ne : a ≠ e := Nat.ne_of_lt (g6 ▸ E0.lt)
  refine go_dupX1 K H6 d8_55 rfl rfl ?_
  refine go_putfield K H6 d8_56 (host := "") (Or.inl (hw _ (List.mem_of_getElem? (i := 34) rfl))) Via.refl (FE.ext E6) (E0.ext E6) (Or.inl (hw _ (List.mem_of_getElem? (i := 35) rfl))) (hw _ (List.mem_of_getElem? (i := 13) rfl)) (ty := (.array (.object "java/lang/Object"))) (by decide) rfl rfl (g0) fun T7 h7 H7 W7 => ?_
  exact go_aret K H7 d8_59 rfl rfl rfl (by decide) (by decide) (⟨e, rfl, l6, Nat.le_of_eq g6.symm, ne, B.other W7 ne.symm, (FE.ext E6).same W7, (E0.ext E6).wr W7, (FZ.ext E6).other W7 (Or.inr (slot_ne (Z := Z) (a0 := a0) (Or.inl (hw _ (List.mem_of_getElem? (i := 71) rfl))) (Or.inl (hw _ (List.mem_of_getElem? (i := 35) rfl))) (by decide) (t := .int) (by decide) (t' := (.array (.object "java/lang/Object"))) (by decide))), (FM.ext E6).other W7 (Or.inr (slot_ne (Z := Z) (a0 := a0) (Or.inl (hw _ (List.mem_of_getElem? (i := 32) rfl))) (Or.inl (hw _ (List.mem_of_getElem? (i := 35) rfl))) (by decide) (t := .int) (by decide) (t' := (.array (.object "java/lang/Object"))) (by decide))), (E6.keep [a]).wr W7 (Or.inl (List.mem_singleton.mpr rfl))⟩)
set_option maxRecDepth 65536 in
set_option maxHeartbeats 40000000 in
theorem rmG0 (Z : State) (a0 : Array Value) (hw : ∀ d ∈ tables_1, d.before a0 Z = true) (a : Addr) (h0 : Heap) (n0 : Nat) (Z0 : n0 ≤ h0.size) (de : Addr) (m : Int32) (FE : Fld Z h0 a "java/util/ArrayList" "elementData" "[Ljava/lang/Object;" (.ref de)) (FZ : Fld Z h0 a "java/util/ArrayList" "size" "I" (.int 0)) (FM : Fld Z h0 a "java/util/AbstractList" "modCount" "I" (.int m)) (E0 : Exa Z h0 a "java/util/ArrayList") (S0 : Sta Z h0 "java/util/ArrayList" "DEFAULTCAPACITY_EMPTY_ELEMENTDATA" "[Ljava/lang/Object;" (.ref de)) (AD : VA Z h0 de (.object "java/lang/Object") []) (g0 : n0 ≤ a) (lau : Launch) :
    Con lau Z (⟨"java/util/ArrayList", "grow", "()[Ljava/lang/Object;"⟩ : MethodName) jdk_38_method_7_code 1 (some (.array (.object "java/lang/Object"))) ({ frames := 2, cells := 1, slots := 10, locals := 48 } : Room) #[(.ref a)] h0 n0 (RR fun z h => ∃ e, z = .ref e ∧ n0 ≤ e ∧ h0.size ≤ e ∧ a ≠ e ∧ OA Z h e "java/lang/Object" (List.replicate 10 .null) ∧ Fld Z h a "java/util/ArrayList" "elementData" "[Ljava/lang/Object;" (.ref e) ∧ Exa Z h a "java/util/ArrayList" ∧ Fld Z h a "java/util/ArrayList" "size" "I" (.int 0) ∧ Fld Z h a "java/util/AbstractList" "modCount" "I" (.int m) ∧ Keep h0 h [a]) := by
  refine con_intro pn9 (L := #[.val (.ref a)]) (fun m => by first | (simp [entryFrame, mkF, argsToLocals, Value.category, maxLocals]; done) | rfl) Z0 (fun w T K H => ?_)
  refine go_aloadN K H d9_0 rfl rfl ?_
  refine go_aloadN K H d9_1 rfl rfl ?_
  refine go_getfield K H d9_2 (host := "") (Or.inl (hw _ (List.mem_of_getElem? (i := 70) rfl))) Via.refl (FZ) fun T1 HT1 => ?_
  refine go_iconst (1) K HT1 d9_5 (by decide) ?_
  refine go_iadd K HT1 d9_6 fun v2 ev2 => ?_
  obtain rfl : v2 = (1 : Int32) := ev2.trans (by decide)
  refine go_callP [(.int 1)] K HT1 d9_7 (E0) (hw _ (List.mem_of_getElem? (i := 82) rfl)) (hw _ (List.mem_of_getElem? (i := 83) rfl)) (hw _ (List.mem_of_getElem? (i := 85) rfl)) (hw _ (List.mem_of_getElem? (i := 84) rfl)) (hw _ (List.mem_of_getElem? (i := 14) rfl)) (hw _ (List.mem_of_getElem? (i := 86) rfl)) (st' := []) (by decide) (rmG1 Z a0 hw _ _ n0 (at_size K HT1) de m FE FZ FM E0 S0 AD g0) pd3 rfl rfl rfl (by decide) (W := 0) rfl (by decide) (by decide) (by decide) fun T3 h3 v3 H3 q3 => ?_
  obtain ⟨z3, rfl, hz3, q⟩ := q3
  show Go w _ _ 10 #[.val (.ref a)] [z3]
  exact go_aret K H3 d9_10 rfl rfl hz3 (by decide) (by decide) (q)
set_option maxRecDepth 65536 in
set_option maxHeartbeats 40000000 in
theorem rmA0 (Z : State) (a0 : Array Value) (hw : ∀ d ∈ tables_1, d.before a0 Z = true) (a : Addr) (x : Addr) (de : Addr) (h0 : Heap) (n0 : Nat) (Z0 : n0 ≤ h0.size) (m : Int32) (FE : Fld Z h0 a "java/util/ArrayList" "elementData" "[Ljava/lang/Object;" (.ref de)) (FZ : Fld Z h0 a "java/util/ArrayList" "size" "I" (.int 0)) (FM : Fld Z h0 a "java/util/AbstractList" "modCount" "I" (.int m)) (E0 : Exa Z h0 a "java/util/ArrayList") (S0 : Sta Z h0 "java/util/ArrayList" "DEFAULTCAPACITY_EMPTY_ELEMENTDATA" "[Ljava/lang/Object;" (.ref de)) (AD : VA Z h0 de (.object "java/lang/Object") []) (g0 : n0 ≤ a) (I0 : Ins Z h0 x "java/lang/Object" true) (lau : Launch) :
    Con lau Z (⟨"java/util/ArrayList", "add", "(Ljava/lang/Object;[Ljava/lang/Object;I)V"⟩ : MethodName) jdk_38_method_24_code 4 none ({ frames := 3, cells := 1, slots := 10, locals := 72 } : Room) #[(.ref a), (.ref x), (.ref de), (.int 0)] h0 n0 (RV fun h => ∃ e, n0 ≤ e ∧ h0.size ≤ e ∧ AL1 Z h a e (oN 1) ((List.replicate 10 Value.null).set 0 (.ref x)) ∧ Keep h0 h [a]) := by
  refine con_intro pn10 (L := #[.val (.ref a), .val (.ref x), .val (.ref de), .val (.int 0)]) (fun m => by first | (simp [entryFrame, mkF, argsToLocals, Value.category, maxLocals]; done) | rfl) Z0 (fun w T K H => ?_)
  refine go_iloadN K H d10_0 rfl ?_
  refine go_aloadN K H d10_1 rfl rfl ?_
  refine go_arraylength K H d10_2 (AD) fun v1 ev1 => ?_
  refine go_icmp_ne K H d10_3 (fun cc => False.elim (by exact cc (Int32.toInt_inj.mp ev1).symm)) (fun cc => ?_)
  refine go_aloadN K H d10_6 rfl rfl ?_
  refine go_callP [] K H d10_7 (E0) (hw _ (List.mem_of_getElem? (i := 77) rfl)) (hw _ (List.mem_of_getElem? (i := 78) rfl)) (hw _ (List.mem_of_getElem? (i := 80) rfl)) (hw _ (List.mem_of_getElem? (i := 79) rfl)) (hw _ (List.mem_of_getElem? (i := 14) rfl)) (hw _ (List.mem_of_getElem? (i := 81) rfl)) (st' := []) (by decide) (rmG0 Z a0 hw _ _ n0 (at_size K H) de m FE FZ FM E0 S0 AD g0) pd4 rfl rfl rfl (by decide) (W := 0) rfl (by decide) (by decide) (by decide) fun T2 h2 v2 H2 q2 => ?_
  obtain ⟨z2, rfl, hz2, e, rfl, ge, he, ne, B, FE1, E1, FZ1, FM1, K1⟩ := q2
  show Go w _ _ 10 #[.val (.ref a), .val (.ref x), .val (.ref de), .val (.int 0)] [(.ref e)]
  refine go_astoreN K H2 d10_10 rfl (L' := #[.val (.ref a), .val (.ref x), .val (.ref e), .val (.int 0)]) rfl ?_
  refine go_aloadN K H2 d10_11 rfl rfl ?_
  refine go_iloadN K H2 d10_12 rfl ?_
  refine go_aloadN K H2 d10_13 rfl rfl ?_
  refine go_aastore (0) K H2 d10_14 (B) (Or.inr ⟨_, rfl, I0.keep K1⟩) (by decide) (by decide) (ge) fun T3 h3 H3 W3 B3 => ?_
  refine go_aloadN K H3 d10_15 rfl rfl ?_
  refine go_iloadN K H3 d10_16 rfl ?_
  refine go_iconst (1) K H3 d10_17 (by decide) ?_
  refine go_iadd K H3 d10_18 fun v4 ev4 => ?_
  obtain rfl : v4 = (1 : Int32) := ev4.trans (by decide)
  refine go_putfield K H3 d10_19 (host := "") (Or.inl (hw _ (List.mem_of_getElem? (i := 70) rfl))) Via.refl (FZ1.other W3 (Or.inl ne)) (E1.wr W3) (Or.inl (hw _ (List.mem_of_getElem? (i := 71) rfl))) (hw _ (List.mem_of_getElem? (i := 13) rfl)) (ty := .int) (by decide) rfl rfl (g0) fun T5 h5 H5 W5 => ?_
  exact go_ret K H5 d10_22 rfl (by decide) (by decide) (⟨e, ge, he, ⟨(E1.wr W3).wr W5, (FE1.other W3 (Or.inl ne)).other W5 (Or.inr (slot_ne (Z := Z) (a0 := a0) (Or.inl (hw _ (List.mem_of_getElem? (i := 35) rfl))) (Or.inl (hw _ (List.mem_of_getElem? (i := 71) rfl))) (by decide) (t := (.array (.object "java/lang/Object"))) (by decide) (t' := .int) (by decide))), (FZ1.other W3 (Or.inl ne)).same W5, ⟨_, (FM1.other W3 (Or.inl ne)).other W5 (Or.inr (slot_ne (Z := Z) (a0 := a0) (Or.inl (hw _ (List.mem_of_getElem? (i := 32) rfl))) (Or.inl (hw _ (List.mem_of_getElem? (i := 71) rfl))) (by decide) (t := .int) (by decide) (t' := .int) (by decide)))⟩, B3.other W5 ne.symm, ne⟩, (K1.wr W3 (Or.inr he)).wr W5 (Or.inl (List.mem_singleton.mpr rfl))⟩)
set_option maxRecDepth 65536 in
set_option maxHeartbeats 40000000 in
theorem rmAdd0 (Z : State) (a0 : Array Value) (hw : ∀ d ∈ tables_1, d.before a0 Z = true) (a : Addr) (x : Addr) (h0 : Heap) (n0 : Nat) (Z0 : n0 ≤ h0.size) (de : Addr) (m : Int32) (FE : Fld Z h0 a "java/util/ArrayList" "elementData" "[Ljava/lang/Object;" (.ref de)) (FZ : Fld Z h0 a "java/util/ArrayList" "size" "I" (.int 0)) (FM : Fld Z h0 a "java/util/AbstractList" "modCount" "I" (.int m)) (E0 : Exa Z h0 a "java/util/ArrayList") (S0 : Sta Z h0 "java/util/ArrayList" "DEFAULTCAPACITY_EMPTY_ELEMENTDATA" "[Ljava/lang/Object;" (.ref de)) (AD : VA Z h0 de (.object "java/lang/Object") []) (g0 : n0 ≤ a) (nad : de ≠ a) (I0 : Ins Z h0 x "java/lang/Object" true) (lau : Launch) :
    Con lau Z (⟨"java/util/ArrayList", "add", "(Ljava/lang/Object;)Z"⟩ : MethodName) jdk_38_method_25_code 2 (some .boolean) ({ frames := 4, cells := 1, slots := 10, locals := 96 } : Room) #[(.ref a), (.ref x)] h0 n0 (RI fun z h => z = 1 ∧ ∃ e, n0 ≤ e ∧ h0.size ≤ e ∧ AL1 Z h a e (oN 1) ((List.replicate 10 Value.null).set 0 (.ref x)) ∧ Keep h0 h [a]) := by
  refine con_intro pn11 (L := #[.val (.ref a), .val (.ref x)]) (fun m => by first | (simp [entryFrame, mkF, argsToLocals, Value.category, maxLocals]; done) | rfl) Z0 (fun w T K H => ?_)
  refine go_aloadN K H d11_0 rfl rfl ?_
  refine go_dup K H d11_1 rfl ?_
  refine go_getfield K H d11_2 (host := "") (Or.inl (hw _ (List.mem_of_getElem? (i := 68) rfl))) (Via.of (hw _ (List.mem_of_getElem? (i := 69) rfl))) (FM) fun T1 HT1 => ?_
  refine go_iconst (1) K HT1 d11_5 (by decide) ?_
  refine go_iadd K HT1 d11_6 fun v2 ev2 => ?_
  refine go_putfield K HT1 d11_7 (host := "") (Or.inl (hw _ (List.mem_of_getElem? (i := 68) rfl))) (Via.of (hw _ (List.mem_of_getElem? (i := 69) rfl))) (FM) (E0) (Or.inl (hw _ (List.mem_of_getElem? (i := 32) rfl))) (hw _ (List.mem_of_getElem? (i := 13) rfl)) (ty := .int) (by decide) rfl rfl (g0) fun T3 h3 H3 W3 => ?_
  have FM1 := FM.same W3; have FE1 := FE.other W3 (Or.inr (slot_ne (Z := Z) (a0 := a0) (Or.inl (hw _ (List.mem_of_getElem? (i := 35) rfl))) (Or.inl (hw _ (List.mem_of_getElem? (i := 32) rfl))) (by decide) (t := (.array (.object "java/lang/Object"))) (by decide) (t' := .int) (by decide))); have FZ1 := FZ.other W3 (Or.inr (slot_ne (Z := Z) (a0 := a0) (Or.inl (hw _ (List.mem_of_getElem? (i := 71) rfl))) (Or.inl (hw _ (List.mem_of_getElem? (i := 32) rfl))) (by decide) (t := .int) (by decide) (t' := .int) (by decide))); have E1 := E0.wr W3; have S1 := S0.wr W3; have AD1 := AD.other W3 nad; have I1 := I0.wr W3
  refine go_aloadN K H3 d11_10 rfl rfl ?_
  refine go_aloadN K H3 d11_11 rfl rfl ?_
  refine go_aloadN K H3 d11_12 rfl rfl ?_
  refine go_getfield K H3 d11_13 (host := "") (Or.inl (hw _ (List.mem_of_getElem? (i := 34) rfl))) Via.refl (FE1) fun T4 HT4 => ?_
  refine go_aloadN K HT4 d11_16 rfl rfl ?_
  refine go_getfield K HT4 d11_17 (host := "") (Or.inl (hw _ (List.mem_of_getElem? (i := 70) rfl))) Via.refl (FZ1) fun T5 HT5 => ?_
  refine go_callP [(.ref x), (.ref de), (.int 0)] K HT5 d11_20 (E1) (hw _ (List.mem_of_getElem? (i := 72) rfl)) (hw _ (List.mem_of_getElem? (i := 73) rfl)) (hw _ (List.mem_of_getElem? (i := 75) rfl)) (hw _ (List.mem_of_getElem? (i := 74) rfl)) (hw _ (List.mem_of_getElem? (i := 14) rfl)) (hw _ (List.mem_of_getElem? (i := 76) rfl)) (st' := []) (by decide) (rmA0 Z a0 hw _ _ _ _ n0 (at_size K HT5) _ FE1 FZ1 FM1 E1 S1 AD1 g0 I1) pd5 rfl rfl rfl (by decide) (W := 0) rfl (by decide) (by decide) (by decide) fun T6 h6 v6 H6 q6 => ?_
  obtain ⟨rfl, e, ge, he, O, K1⟩ := q6
  show Go w _ _ 23 #[.val (.ref a), .val (.ref x)] []
  refine go_iconst (1) K H6 d11_23 (by decide) ?_
  exact go_zret K H6 d11_24 rfl (by decide) (by decide) (by decide) (⟨rfl, e, ge, W3.size ▸ he, O, (Keep.of_wr W3).trans K1 (fun x q => Or.inl q)⟩)
set_option maxRecDepth 65536 in
set_option maxHeartbeats 40000000 in
theorem rmA (Z : State) (a0 : Array Value) (hw : ∀ d ∈ tables_1, d.before a0 Z = true) (a : Addr) (x : Addr) (e : Addr) (h0 : Heap) (n0 : Nat) (Z0 : n0 ≤ h0.size) (n : Nat) (vs : List Value) (O : AL1 Z h0 a e (oN n) vs) (hl : vs.length = 10) (hn9 : n < 10) (g0 : n0 ≤ a) (ge : n0 ≤ e) (I0 : Ins Z h0 x "java/lang/Object" true) (lau : Launch) :
    Con lau Z (⟨"java/util/ArrayList", "add", "(Ljava/lang/Object;[Ljava/lang/Object;I)V"⟩ : MethodName) jdk_38_method_24_code 4 none ({ frames := 0, cells := 0, slots := 0, locals := 0 } : Room) #[(.ref a), (.ref x), (.ref e), (.int (oN n))] h0 n0 (RV fun h => AL1 Z h a e (oN (n + 1)) (vs.set n (.ref x)) ∧ Keep h0 h [a, e]) := by
  refine con_intro pn10 (L := #[.val (.ref a), .val (.ref x), .val (.ref e), .val (.int (oN n))]) (fun m => by first | (simp [entryFrame, mkF, argsToLocals, Value.category, maxLocals]; done) | rfl) Z0 (fun w T K H => ?_)
  refine go_iloadN K H d10_0 rfl ?_
  refine go_aloadN K H d10_1 rfl rfl ?_
  refine go_arraylength K H d10_2 (O.2.2.2.2.1.va) fun v1 ev1 => ?_
  refine go_icmp_ne K H d10_3 (fun cc => ?_) (fun cc => False.elim (by rw [← cc, oN_toInt (by omega), hl] at ev1; omega))
  refine go_aloadN K H d10_11 rfl rfl ?_
  refine go_iloadN K H d10_12 rfl ?_
  refine go_aloadN K H d10_13 rfl rfl ?_
  refine go_aastore (n) K H d10_14 (O.2.2.2.2.1) (Or.inr ⟨_, rfl, I0⟩) (oN_toInt (by omega)) (by rw [hl]; omega) (ge) fun T2 h2 H2 W2 B2 => ?_
  refine go_aloadN K H2 d10_15 rfl rfl ?_
  refine go_iloadN K H2 d10_16 rfl ?_
  refine go_iconst (1) K H2 d10_17 (by decide) ?_
  refine go_iadd K H2 d10_18 fun v3 ev3 => ?_
  have fv3 := f_iadd ev3
  have rv3 := rng32 v3
  have hz : v3 = oN (n + 1) := by rw [ev3]; apply Int32.toInt_inj.mp; have q1 := oN_toInt (n := n) (by omega); have q2 := oN_toInt (n := n + 1) (by omega); have q3 := c_iadd (oN n) 1; have q4 := rng32 (oN n + 1); simp only [Int32.reduceToInt] at *; omega
  refine go_putfield K H2 d10_19 (host := "") (Or.inl (hw _ (List.mem_of_getElem? (i := 70) rfl))) Via.refl (O.2.2.1.other W2 (Or.inl O.2.2.2.2.2)) (O.1.wr W2) (Or.inl (hw _ (List.mem_of_getElem? (i := 71) rfl))) (hw _ (List.mem_of_getElem? (i := 13) rfl)) (ty := .int) (by decide) rfl rfl (g0) fun T4 h4 H4 W4 => ?_
  rw [hz] at W4
  obtain ⟨mc, FMx⟩ := O.2.2.2.1
  exact go_ret K H4 d10_22 rfl (by decide) (by decide) (⟨⟨(O.1.wr W2).wr W4, (O.2.1.other W2 (Or.inl O.2.2.2.2.2)).other W4 (Or.inr (slot_ne (Z := Z) (a0 := a0) (Or.inl (hw _ (List.mem_of_getElem? (i := 35) rfl))) (Or.inl (hw _ (List.mem_of_getElem? (i := 71) rfl))) (by decide) (t := (.array (.object "java/lang/Object"))) (by decide) (t' := .int) (by decide))), (O.2.2.1.other W2 (Or.inl O.2.2.2.2.2)).same W4, ⟨_, (FMx.other W2 (Or.inl O.2.2.2.2.2)).other W4 (Or.inr (slot_ne (Z := Z) (a0 := a0) (Or.inl (hw _ (List.mem_of_getElem? (i := 32) rfl))) (Or.inl (hw _ (List.mem_of_getElem? (i := 71) rfl))) (by decide) (t := .int) (by decide) (t' := .int) (by decide)))⟩, B2.other W4 (Ne.symm O.2.2.2.2.2), O.2.2.2.2.2⟩, ((Keep.refl _ _).wr W2 (Or.inl (by simp))).wr W4 (Or.inl (by simp))⟩)
set_option maxRecDepth 65536 in
set_option maxHeartbeats 40000000 in
theorem rmAdd (Z : State) (a0 : Array Value) (hw : ∀ d ∈ tables_1, d.before a0 Z = true) (a : Addr) (x : Addr) (h0 : Heap) (n0 : Nat) (Z0 : n0 ≤ h0.size) (e : Addr) (n : Nat) (vs : List Value) (O : AL1 Z h0 a e (oN n) vs) (hl : vs.length = 10) (hn9 : n < 10) (g0 : n0 ≤ a) (ge : n0 ≤ e) (I0 : Ins Z h0 x "java/lang/Object" true) (lau : Launch) :
    Con lau Z (⟨"java/util/ArrayList", "add", "(Ljava/lang/Object;)Z"⟩ : MethodName) jdk_38_method_25_code 2 (some .boolean) ({ frames := 1, cells := 0, slots := 0, locals := 24 } : Room) #[(.ref a), (.ref x)] h0 n0 (RI fun z h => z = 1 ∧ AL1 Z h a e (oN (n + 1)) (vs.set n (.ref x)) ∧ Keep h0 h [a, e]) := by
  refine con_intro pn11 (L := #[.val (.ref a), .val (.ref x)]) (fun m => by first | (simp [entryFrame, mkF, argsToLocals, Value.category, maxLocals]; done) | rfl) Z0 (fun w T K H => ?_)
  obtain ⟨mc, FMx⟩ := O.2.2.2.1
  refine go_aloadN K H d11_0 rfl rfl ?_
  refine go_dup K H d11_1 rfl ?_
  refine go_getfield K H d11_2 (host := "") (Or.inl (hw _ (List.mem_of_getElem? (i := 68) rfl))) (Via.of (hw _ (List.mem_of_getElem? (i := 69) rfl))) (FMx) fun T1 HT1 => ?_
  refine go_iconst (1) K HT1 d11_5 (by decide) ?_
  refine go_iadd K HT1 d11_6 fun v2 ev2 => ?_
  refine go_putfield K HT1 d11_7 (host := "") (Or.inl (hw _ (List.mem_of_getElem? (i := 68) rfl))) (Via.of (hw _ (List.mem_of_getElem? (i := 69) rfl))) (FMx) (O.1) (Or.inl (hw _ (List.mem_of_getElem? (i := 32) rfl))) (hw _ (List.mem_of_getElem? (i := 13) rfl)) (ty := .int) (by decide) rfl rfl (g0) fun T3 h3 H3 W3 => ?_
  have O1 : AL1 Z h3 a e (oN n) vs := ⟨O.1.wr W3, O.2.1.other W3 (Or.inr (slot_ne (Z := Z) (a0 := a0) (Or.inl (hw _ (List.mem_of_getElem? (i := 35) rfl))) (Or.inl (hw _ (List.mem_of_getElem? (i := 32) rfl))) (by decide) (t := (.array (.object "java/lang/Object"))) (by decide) (t' := .int) (by decide))), O.2.2.1.other W3 (Or.inr (slot_ne (Z := Z) (a0 := a0) (Or.inl (hw _ (List.mem_of_getElem? (i := 71) rfl))) (Or.inl (hw _ (List.mem_of_getElem? (i := 32) rfl))) (by decide) (t := .int) (by decide) (t' := .int) (by decide))), ⟨_, FMx.same W3⟩, O.2.2.2.2.1.other W3 (Ne.symm O.2.2.2.2.2), O.2.2.2.2.2⟩
  refine go_aloadN K H3 d11_10 rfl rfl ?_
  refine go_aloadN K H3 d11_11 rfl rfl ?_
  refine go_aloadN K H3 d11_12 rfl rfl ?_
  refine go_getfield K H3 d11_13 (host := "") (Or.inl (hw _ (List.mem_of_getElem? (i := 34) rfl))) Via.refl (O1.2.1) fun T4 HT4 => ?_
  refine go_aloadN K HT4 d11_16 rfl rfl ?_
  refine go_getfield K HT4 d11_17 (host := "") (Or.inl (hw _ (List.mem_of_getElem? (i := 70) rfl))) Via.refl (O1.2.2.1) fun T5 HT5 => ?_
  refine go_callP [(.ref x), (.ref e), (.int (oN n))] K HT5 d11_20 (O1.1) (hw _ (List.mem_of_getElem? (i := 72) rfl)) (hw _ (List.mem_of_getElem? (i := 73) rfl)) (hw _ (List.mem_of_getElem? (i := 75) rfl)) (hw _ (List.mem_of_getElem? (i := 74) rfl)) (hw _ (List.mem_of_getElem? (i := 14) rfl)) (hw _ (List.mem_of_getElem? (i := 76) rfl)) (st' := []) (by decide) (rmA Z a0 hw _ _ _ _ n0 (at_size K HT5) _ _ O1 hl hn9 g0 ge (I0.wr W3)) pd5 rfl rfl rfl (by decide) (W := 0) rfl (by decide) (by decide) (by decide) fun T6 h6 v6 H6 q6 => ?_
  obtain ⟨rfl, O2, K2⟩ := q6
  show Go w _ _ 23 #[.val (.ref a), .val (.ref x)] []
  refine go_iconst (1) K H6 d11_23 (by decide) ?_
  exact go_zret K H6 d11_24 rfl (by decide) (by decide) (by decide) (⟨rfl, O2, ((Keep.refl _ _).wr W3 (Or.inl (by simp))).trans K2 (fun x q => Or.inl q)⟩)
set_option maxRecDepth 65536 in
set_option maxHeartbeats 40000000 in
theorem rmSz (Z : State) (a0 : Array Value) (hw : ∀ d ∈ tables_1, d.before a0 Z = true) (a : Addr) (h0 : Heap) (n0 : Nat) (Z0 : n0 ≤ h0.size) (e : Addr) (n : Int32) (vs : List Value) (O : AL1 Z h0 a e n vs) (lau : Launch) :
    Con lau Z (⟨"java/util/ArrayList", "size", "()I"⟩ : MethodName) jdk_38_method_8_code 1 (some .int) ({ frames := 0, cells := 0, slots := 0, locals := 0 } : Room) #[(.ref a)] h0 n0 (RI fun z h => z = n ∧ h0 = h) := by
  refine con_intro pn12 (L := #[.val (.ref a)]) (fun m => by first | (simp [entryFrame, mkF, argsToLocals, Value.category, maxLocals]; done) | rfl) Z0 (fun w T K H => ?_)
  refine go_aloadN K H d12_0 rfl rfl ?_
  refine go_getfield K H d12_1 (host := "") (Or.inl (hw _ (List.mem_of_getElem? (i := 70) rfl))) Via.refl (O.2.2.1) fun T1 HT1 => ?_
  exact go_iret K HT1 d12_4 rfl (by decide) (by decide) (⟨rfl, rfl⟩)
set_option maxRecDepth 65536 in
set_option maxHeartbeats 40000000 in
theorem rmPC (Z : State) (a0 : Array Value) (hw : ∀ d ∈ tables_1, d.before a0 Z = true) (u0 : Int32) (u1 : Int32) (h0 : Heap) (n0 : Nat) (Z0 : n0 ≤ h0.size) (h1 : 0 ≤ u0.toInt) (h2 : u0.toInt < u1.toInt) (lau : Launch) :
    Con lau Z (⟨"jdk/internal/util/Preconditions", "checkIndex", "(IILjava/util/function/BiFunction;)I"⟩ : MethodName) jdk_41_method_11_code 3 (some .int) ({ frames := 0, cells := 0, slots := 0, locals := 0 } : Room) #[(.int u0), (.int u1), .null] h0 n0 (RI fun z h => z = u0 ∧ h0 = h) := by
  refine con_intro pn13 (L := #[.val (.int u0), .val (.int u1), .val .null]) (fun m => by first | (simp [entryFrame, mkF, argsToLocals, Value.category, maxLocals]; done) | rfl) Z0 (fun w T K H => ?_)
  refine go_iloadN K H d13_0 rfl ?_
  refine go_if_lt K H d13_1 (fun cc => False.elim (by (try simp only [or_true, true_or, and_true, true_and, not_true_eq_false, not_false_eq_true, Int32.lt_iff_toInt_lt, Int32.le_iff_toInt_le, ← Int32.toInt_inj, Int64.lt_iff_toInt_lt, Int64.le_iff_toInt_le, ← Int64.toInt_inj, Int32.reduceToInt, Int64.reduceToInt, ne_eq] at *) <;> omega)) (fun cc => ?_)
  refine go_iloadN K H d13_4 rfl ?_
  refine go_iloadN K H d13_5 rfl ?_
  refine go_icmp_lt K H d13_6 (fun cc => ?_) (fun cc => False.elim (by (try simp only [or_true, true_or, and_true, true_and, not_true_eq_false, not_false_eq_true, Int32.lt_iff_toInt_lt, Int32.le_iff_toInt_le, ← Int32.toInt_inj, Int64.lt_iff_toInt_lt, Int64.le_iff_toInt_le, ← Int64.toInt_inj, Int32.reduceToInt, Int64.reduceToInt, ne_eq] at *) <;> omega))
  refine go_iloadN K H d13_16 rfl ?_
  exact go_iret K H d13_17 rfl (by decide) (by decide) (⟨rfl, rfl⟩)
set_option maxRecDepth 65536 in
set_option maxHeartbeats 40000000 in
theorem rmOC (Z : State) (a0 : Array Value) (hw : ∀ d ∈ tables_1, d.before a0 Z = true) (u0 : Int32) (u1 : Int32) (h0 : Heap) (n0 : Nat) (Z0 : n0 ≤ h0.size) (h1 : 0 ≤ u0.toInt) (h2 : u0.toInt < u1.toInt) (lau : Launch) :
    Con lau Z (⟨"java/util/Objects", "checkIndex", "(II)I"⟩ : MethodName) jdk_31_method_17_code 2 (some .int) ({ frames := 1, cells := 0, slots := 0, locals := 24 } : Room) #[(.int u0), (.int u1)] h0 n0 (RI fun z h => z = u0 ∧ h0 = h) := by
  refine con_intro pn14 (L := #[.val (.int u0), .val (.int u1)]) (fun m => by first | (simp [entryFrame, mkF, argsToLocals, Value.category, maxLocals]; done) | rfl) Z0 (fun w T K H => ?_)
  refine go_iloadN K H d14_0 rfl ?_
  refine go_iloadN K H d14_1 rfl ?_
  refine go_null K H d14_2 ?_
  refine go_callS [(.int u0), (.int u1), .null] K H d14_3 (hw _ (List.mem_of_getElem? (i := 119) rfl)) (hw _ (List.mem_of_getElem? (i := 120) rfl)) (hw _ (List.mem_of_getElem? (i := 121) rfl)) (hw _ (List.mem_of_getElem? (i := 122) rfl)) (st' := []) (by decide) (rmPC Z a0 hw _ _ _ n0 Z0 h1 h2) pd6 rfl rfl rfl (by decide) (W := 0) rfl (by decide) (by decide) (by decide) fun T1 h1 v1 H1 q1 => ?_
  obtain ⟨z1, rfl, q, rfl⟩ := q1
  show Go w _ _ 6 #[.val (.int u0), .val (.int u1)] [(.int z1)]
  exact go_iret K H1 d14_6 rfl (by decide) (by decide) (⟨q, rfl⟩)
set_option maxRecDepth 65536 in
set_option maxHeartbeats 40000000 in
theorem rmEl (Z : State) (a0 : Array Value) (hw : ∀ d ∈ tables_1, d.before a0 Z = true) (a : Addr) (u0 : Int32) (h0 : Heap) (n0 : Nat) (Z0 : n0 ≤ h0.size) (e : Addr) (n : Int32) (vs : List Value) (O : AL1 Z h0 a e n vs) (i : Nat) (y : Addr) (hi : vs[i]? = some (.ref y)) (hj : u0.toInt = (i : Int)) (hn : u0.toInt < n.toInt) (lau : Launch) :
    Con lau Z (⟨"java/util/ArrayList", "elementData", "(I)Ljava/lang/Object;"⟩ : MethodName) jdk_38_method_18_code 2 (some (.object "java/lang/Object")) ({ frames := 0, cells := 0, slots := 0, locals := 0 } : Room) #[(.ref a), (.int u0)] h0 n0 (RR fun z h => z = .ref y ∧ h0 = h) := by
  refine con_intro pn15 (L := #[.val (.ref a), .val (.int u0)]) (fun m => by first | (simp [entryFrame, mkF, argsToLocals, Value.category, maxLocals]; done) | rfl) Z0 (fun w T K H => ?_)
  refine go_aloadN K H d15_0 rfl rfl ?_
  refine go_getfield K H d15_1 (host := "") (Or.inl (hw _ (List.mem_of_getElem? (i := 34) rfl))) Via.refl (O.2.1) fun T1 HT1 => ?_
  refine go_iloadN K HT1 d15_4 rfl ?_
  refine go_aaload (i) K HT1 d15_5 (O.2.2.2.2.1.va) rfl (hj) (hi) ?_
  exact go_aret K HT1 d15_6 rfl rfl rfl (by decide) (by decide) (⟨rfl, rfl⟩)
set_option maxRecDepth 65536 in
set_option maxHeartbeats 40000000 in
theorem rmGet (Z : State) (a0 : Array Value) (hw : ∀ d ∈ tables_1, d.before a0 Z = true) (a : Addr) (u0 : Int32) (h0 : Heap) (n0 : Nat) (Z0 : n0 ≤ h0.size) (e : Addr) (n : Int32) (vs : List Value) (O : AL1 Z h0 a e n vs) (i : Nat) (y : Addr) (hi : vs[i]? = some (.ref y)) (hj : u0.toInt = (i : Int)) (hn : u0.toInt < n.toInt) (lau : Launch) :
    Con lau Z (⟨"java/util/ArrayList", "get", "(I)Ljava/lang/Object;"⟩ : MethodName) jdk_38_method_20_code 2 (some (.object "java/lang/Object")) ({ frames := 2, cells := 0, slots := 0, locals := 48 } : Room) #[(.ref a), (.int u0)] h0 n0 (RR fun z h => z = .ref y ∧ h0 = h) := by
  refine con_intro pn16 (L := #[.val (.ref a), .val (.int u0)]) (fun m => by first | (simp [entryFrame, mkF, argsToLocals, Value.category, maxLocals]; done) | rfl) Z0 (fun w T K H => ?_)
  refine go_iloadN K H d16_0 rfl ?_
  refine go_aloadN K H d16_1 rfl rfl ?_
  refine go_getfield K H d16_2 (host := "") (Or.inl (hw _ (List.mem_of_getElem? (i := 70) rfl))) Via.refl (O.2.2.1) fun T1 HT1 => ?_
  refine go_callS [(.int u0), (.int n)] K HT1 d16_5 (hw _ (List.mem_of_getElem? (i := 115) rfl)) (hw _ (List.mem_of_getElem? (i := 116) rfl)) (hw _ (List.mem_of_getElem? (i := 117) rfl)) (hw _ (List.mem_of_getElem? (i := 118) rfl)) (st' := []) (by decide) (rmOC Z a0 hw _ _ _ n0 Z0 (by omega) hn) pd2 rfl rfl rfl (by decide) (W := 0) rfl (by decide) (by decide) (by decide) fun T2 h2 v2 H2 q2 => ?_
  obtain ⟨z2, rfl, q, rfl⟩ := q2
  show Go w _ _ 8 #[.val (.ref a), .val (.int u0)] [(.int z2)]
  refine go_pop K H2 d16_8 rfl ?_
  refine go_aloadN K H2 d16_9 rfl rfl ?_
  refine go_iloadN K H2 d16_10 rfl ?_
  refine go_callV [(.int u0)] K H2 d16_11 (O.1) (hw _ (List.mem_of_getElem? (i := 123) rfl)) (hw _ (List.mem_of_getElem? (i := 124) rfl)) (nf_sel (hw _ (List.mem_of_getElem? (i := 126) rfl))) (hw _ (List.mem_of_getElem? (i := 126) rfl)) (hw _ (List.mem_of_getElem? (i := 125) rfl)) (hw _ (List.mem_of_getElem? (i := 14) rfl)) (hw _ (List.mem_of_getElem? (i := 127) rfl)) (st' := []) (by decide) (rmEl Z a0 hw _ _ _ n0 Z0 _ _ _ O _ _ hi hj hn) pd7 rfl rfl rfl (by decide) (W := 0) rfl (by decide) (by decide) (by decide) fun T3 h3 v3 H3 q3 => ?_
  obtain ⟨z3, rfl, hz3, q2, rfl⟩ := q3
  show Go w _ _ 14 #[.val (.ref a), .val (.int u0)] [z3]
  exact go_aret K H3 d16_14 rfl rfl hz3 (by decide) (by decide) (⟨q2, rfl⟩)
set_option maxRecDepth 65536 in
set_option maxHeartbeats 40000000 in
theorem rmSet (Z : State) (a0 : Array Value) (hw : ∀ d ∈ tables_1, d.before a0 Z = true) (a : Addr) (u0 : Int32) (x : Addr) (h0 : Heap) (n0 : Nat) (Z0 : n0 ≤ h0.size) (e : Addr) (n : Int32) (vs : List Value) (O : AL1 Z h0 a e n vs) (i : Nat) (y : Addr) (hi : vs[i]? = some (.ref y)) (hj : u0.toInt = (i : Int)) (hn : u0.toInt < n.toInt) (ge : n0 ≤ e) (I0 : Ins Z h0 x "java/lang/Object" true) (lau : Launch) :
    Con lau Z (⟨"java/util/ArrayList", "set", "(ILjava/lang/Object;)Ljava/lang/Object;"⟩ : MethodName) jdk_38_method_23_code 4 (some (.object "java/lang/Object")) ({ frames := 2, cells := 0, slots := 0, locals := 48 } : Room) #[(.ref a), (.int u0), (.ref x)] h0 n0 (RR fun z h => AL1 Z h a e n (vs.set i (.ref x)) ∧ Keep h0 h [e]) := by
  refine con_intro pn17 (L := #[.val (.ref a), .val (.int u0), .val (.ref x), .unset]) (fun m => by first | (simp [entryFrame, mkF, argsToLocals, Value.category, maxLocals]; done) | rfl) Z0 (fun w T K H => ?_)
  refine go_iloadN K H d17_0 rfl ?_
  refine go_aloadN K H d17_1 rfl rfl ?_
  refine go_getfield K H d17_2 (host := "") (Or.inl (hw _ (List.mem_of_getElem? (i := 70) rfl))) Via.refl (O.2.2.1) fun T1 HT1 => ?_
  refine go_callS [(.int u0), (.int n)] K HT1 d17_5 (hw _ (List.mem_of_getElem? (i := 115) rfl)) (hw _ (List.mem_of_getElem? (i := 116) rfl)) (hw _ (List.mem_of_getElem? (i := 117) rfl)) (hw _ (List.mem_of_getElem? (i := 118) rfl)) (st' := []) (by decide) (rmOC Z a0 hw _ _ _ n0 Z0 (by omega) hn) pd2 rfl rfl rfl (by decide) (W := 0) rfl (by decide) (by decide) (by decide) fun T2 h2 v2 H2 q2 => ?_
  obtain ⟨z2, rfl, q, rfl⟩ := q2
  show Go w _ _ 8 #[.val (.ref a), .val (.int u0), .val (.ref x), .unset] [(.int z2)]
  refine go_pop K H2 d17_8 rfl ?_
  refine go_aloadN K H2 d17_9 rfl rfl ?_
  refine go_iloadN K H2 d17_10 rfl ?_
  refine go_callV [(.int u0)] K H2 d17_11 (O.1) (hw _ (List.mem_of_getElem? (i := 123) rfl)) (hw _ (List.mem_of_getElem? (i := 124) rfl)) (nf_sel (hw _ (List.mem_of_getElem? (i := 126) rfl))) (hw _ (List.mem_of_getElem? (i := 126) rfl)) (hw _ (List.mem_of_getElem? (i := 125) rfl)) (hw _ (List.mem_of_getElem? (i := 14) rfl)) (hw _ (List.mem_of_getElem? (i := 127) rfl)) (st' := []) (by decide) (rmEl Z a0 hw _ _ _ n0 Z0 _ _ _ O _ _ hi hj hn) pd7 rfl rfl rfl (by decide) (W := 0) rfl (by decide) (by decide) (by decide) fun T3 h3 v3 H3 q3 => ?_
  obtain ⟨z3, rfl, hz3, q2, rfl⟩ := q3
  show Go w _ _ 14 #[.val (.ref a), .val (.int u0), .val (.ref x), .unset] [z3]
  subst q2
  show Go w _ _ 14 #[.val (.ref a), .val (.int u0), .val (.ref x), .unset] [(.ref y)]
  refine go_astoreN K H3 d17_14 rfl (L' := #[.val (.ref a), .val (.int u0), .val (.ref x), .val (.ref y)]) rfl ?_
  refine go_aloadN K H3 d17_15 rfl rfl ?_
  refine go_getfield K H3 d17_16 (host := "") (Or.inl (hw _ (List.mem_of_getElem? (i := 34) rfl))) Via.refl (O.2.1) fun T4 HT4 => ?_
  refine go_iloadN K HT4 d17_19 rfl ?_
  refine go_aloadN K HT4 d17_20 rfl rfl ?_
  refine go_aastore (i) K HT4 d17_21 (O.2.2.2.2.1) (Or.inr ⟨_, rfl, I0⟩) (hj) (lt_of_at hi) (ge) fun T5 h5 H5 W5 B5 => ?_
  refine go_aloadN K H5 d17_22 rfl rfl ?_
  obtain ⟨mc, FMx⟩ := O.2.2.2.1
  exact go_aret K H5 d17_23 rfl rfl rfl (by decide) (by decide) (⟨⟨O.1.wr W5, O.2.1.other W5 (Or.inl O.2.2.2.2.2), O.2.2.1.other W5 (Or.inl O.2.2.2.2.2), ⟨_, FMx.other W5 (Or.inl O.2.2.2.2.2)⟩, B5, O.2.2.2.2.2⟩, Keep.of_wr W5⟩)
set_option maxRecDepth 65536 in
set_option maxHeartbeats 40000000 in
theorem rmREC (Z : State) (a0 : Array Value) (hw : ∀ d ∈ tables_1, d.before a0 Z = true) (a : Addr) (h0 : Heap) (n0 : Nat) (Z0 : n0 ≤ h0.size)  (lau : Launch) :
    Con lau Z (⟨"java/lang/Record", "<init>", "()V"⟩ : MethodName) jdk_30_method_1_code 1 none ({ frames := 1, cells := 0, slots := 0, locals := 12 } : Room) #[(.ref a)] h0 n0 (RV fun h => h0 = h) := by
  refine con_intro pn18 (L := #[.val (.ref a)]) (fun m => by first | (simp [entryFrame, mkF, argsToLocals, Value.category, maxLocals]; done) | rfl) Z0 (fun w T K H => ?_)
  refine go_aloadN K H d18_0 rfl rfl ?_
  refine go_initO K H d18_1 (hw _ (List.mem_of_getElem? (i := 50) rfl)) (hw _ (List.mem_of_getElem? (i := 10) rfl)) (hw _ (List.mem_of_getElem? (i := 11) rfl)) rfl (by decide) (W := 0) rfl (by decide) fun T1 HT1 => ?_
  exact go_ret K HT1 d18_4 rfl (by decide) (by decide) (rfl)
set_option maxRecDepth 65536 in
set_option maxHeartbeats 40000000 in
theorem rmSG (Z : State) (a0 : Array Value) (hw : ∀ d ∈ tables_1, d.before a0 Z = true) (a : Addr) (u0 : Int64) (u1 : Int64) (u2 : Int64) (u3 : Int64) (h0 : Heap) (n0 : Nat) (Z0 : n0 ≤ h0.size) (v0 v1 v2 v3 : Value) (F0 : Fld Z h0 a "com/example/bellwether/bellwether/testkit/SimulatedClock$Segment" "real" "J" v0) (F1 : Fld Z h0 a "com/example/bellwether/bellwether/testkit/SimulatedClock$Segment" "reading" "J" v1) (F2 : Fld Z h0 a "com/example/bellwether/bellwether/testkit/SimulatedClock$Segment" "fraction" "J" v2) (F3 : Fld Z h0 a "com/example/bellwether/bellwether/testkit/SimulatedClock$Segment" "rate" "J" v3) (E0 : Exa Z h0 a "com/example/bellwether/bellwether/testkit/SimulatedClock$Segment") (g0 : n0 ≤ a) (lau : Launch) :
    Con lau Z (⟨"com/example/bellwether/bellwether/testkit/SimulatedClock$Segment", "<init>", "(JJJJ)V"⟩ : MethodName) prog_18_method_1_code 9 none ({ frames := 2, cells := 0, slots := 0, locals := 24 } : Room) #[(.ref a), (.long u0), (.long u1), (.long u2), (.long u3)] h0 n0 (RV fun h => Sg Z h a u0 u1 u2 u3 ∧ Keep h0 h [a]) := by
  refine con_intro pn19 (L := #[.val (.ref a), .val (.long u0), .second, .val (.long u1), .second, .val (.long u2), .second, .val (.long u3), .second]) (fun m => by first | (simp [entryFrame, mkF, argsToLocals, Value.category, maxLocals]; done) | rfl) Z0 (fun w T K H => ?_)
  refine go_aloadN K H d19_0 rfl rfl ?_
  refine go_callI [] K H d19_1 rfl (hw _ (List.mem_of_getElem? (i := 45) rfl)) (hw _ (List.mem_of_getElem? (i := 46) rfl)) (hw _ (List.mem_of_getElem? (i := 48) rfl)) (hw _ (List.mem_of_getElem? (i := 49) rfl)) (st' := []) (by decide) (rmREC Z a0 hw _ _ n0 Z0) pd1 rfl rfl rfl (by decide) (W := 0) rfl (by decide) (by decide) (by decide) fun T1 h1 v1 H1 q1 => ?_
  obtain ⟨rfl, rfl⟩ := q1
  show Go w _ _ 4 #[.val (.ref a), .val (.long u0), .second, .val (.long u1), .second, .val (.long u2), .second, .val (.long u3), .second] []
  have EE := E0; have KK : Keep h0 h0 [a] := Keep.refl _ _
  refine go_aloadN K H1 d19_4 rfl rfl ?_
  refine go_lloadN K H1 d19_5 rfl ?_
  refine go_putfield K H1 d19_6 (host := "") (Or.inl (hw _ (List.mem_of_getElem? (i := 51) rfl))) Via.refl (F0) (EE) (Or.inr ⟨(hw _ (List.mem_of_getElem? (i := 52) rfl)), rfl, rfl⟩) (hw _ (List.mem_of_getElem? (i := 39) rfl)) (ty := .long) (by decide) rfl rfl (g0) fun T2 h2 H2 W2 => ?_
  replace F0 := F0.same W2
  replace F1 := F1.other W2 (Or.inr (slot_ne (Z := Z) (a0 := a0) (Or.inr (hw _ (List.mem_of_getElem? (i := 54) rfl))) (Or.inr (hw _ (List.mem_of_getElem? (i := 52) rfl))) (by decide) (t := .long) (by decide) (t' := .long) (by decide)))
  replace F2 := F2.other W2 (Or.inr (slot_ne (Z := Z) (a0 := a0) (Or.inr (hw _ (List.mem_of_getElem? (i := 56) rfl))) (Or.inr (hw _ (List.mem_of_getElem? (i := 52) rfl))) (by decide) (t := .long) (by decide) (t' := .long) (by decide)))
  replace F3 := F3.other W2 (Or.inr (slot_ne (Z := Z) (a0 := a0) (Or.inr (hw _ (List.mem_of_getElem? (i := 58) rfl))) (Or.inr (hw _ (List.mem_of_getElem? (i := 52) rfl))) (by decide) (t := .long) (by decide) (t' := .long) (by decide)))
  replace EE := EE.wr W2; replace KK : Keep h0 h2 [a] := KK.wr W2 (Or.inl (List.mem_singleton.mpr rfl))
  refine go_aloadN K H2 d19_9 rfl rfl ?_
  refine go_lloadN K H2 d19_10 rfl ?_
  refine go_putfield K H2 d19_11 (host := "") (Or.inl (hw _ (List.mem_of_getElem? (i := 53) rfl))) Via.refl (F1) (EE) (Or.inr ⟨(hw _ (List.mem_of_getElem? (i := 54) rfl)), rfl, rfl⟩) (hw _ (List.mem_of_getElem? (i := 39) rfl)) (ty := .long) (by decide) rfl rfl (g0) fun T3 h3 H3 W3 => ?_
  replace F0 := F0.other W3 (Or.inr (slot_ne (Z := Z) (a0 := a0) (Or.inr (hw _ (List.mem_of_getElem? (i := 52) rfl))) (Or.inr (hw _ (List.mem_of_getElem? (i := 54) rfl))) (by decide) (t := .long) (by decide) (t' := .long) (by decide)))
  replace F1 := F1.same W3
  replace F2 := F2.other W3 (Or.inr (slot_ne (Z := Z) (a0 := a0) (Or.inr (hw _ (List.mem_of_getElem? (i := 56) rfl))) (Or.inr (hw _ (List.mem_of_getElem? (i := 54) rfl))) (by decide) (t := .long) (by decide) (t' := .long) (by decide)))
  replace F3 := F3.other W3 (Or.inr (slot_ne (Z := Z) (a0 := a0) (Or.inr (hw _ (List.mem_of_getElem? (i := 58) rfl))) (Or.inr (hw _ (List.mem_of_getElem? (i := 54) rfl))) (by decide) (t := .long) (by decide) (t' := .long) (by decide)))
  replace EE := EE.wr W3; replace KK : Keep h0 h3 [a] := KK.wr W3 (Or.inl (List.mem_singleton.mpr rfl))
  refine go_aloadN K H3 d19_14 rfl rfl ?_
  refine go_lload K H3 d19_15 rfl ?_
  refine go_putfield K H3 d19_17 (host := "") (Or.inl (hw _ (List.mem_of_getElem? (i := 55) rfl))) Via.refl (F2) (EE) (Or.inr ⟨(hw _ (List.mem_of_getElem? (i := 56) rfl)), rfl, rfl⟩) (hw _ (List.mem_of_getElem? (i := 39) rfl)) (ty := .long) (by decide) rfl rfl (g0) fun T4 h4 H4 W4 => ?_
  replace F0 := F0.other W4 (Or.inr (slot_ne (Z := Z) (a0 := a0) (Or.inr (hw _ (List.mem_of_getElem? (i := 52) rfl))) (Or.inr (hw _ (List.mem_of_getElem? (i := 56) rfl))) (by decide) (t := .long) (by decide) (t' := .long) (by decide)))
  replace F1 := F1.other W4 (Or.inr (slot_ne (Z := Z) (a0 := a0) (Or.inr (hw _ (List.mem_of_getElem? (i := 54) rfl))) (Or.inr (hw _ (List.mem_of_getElem? (i := 56) rfl))) (by decide) (t := .long) (by decide) (t' := .long) (by decide)))
  replace F2 := F2.same W4
  replace F3 := F3.other W4 (Or.inr (slot_ne (Z := Z) (a0 := a0) (Or.inr (hw _ (List.mem_of_getElem? (i := 58) rfl))) (Or.inr (hw _ (List.mem_of_getElem? (i := 56) rfl))) (by decide) (t := .long) (by decide) (t' := .long) (by decide)))
  replace EE := EE.wr W4; replace KK : Keep h0 h4 [a] := KK.wr W4 (Or.inl (List.mem_singleton.mpr rfl))
  refine go_aloadN K H4 d19_20 rfl rfl ?_
  refine go_lload K H4 d19_21 rfl ?_
  refine go_putfield K H4 d19_23 (host := "") (Or.inl (hw _ (List.mem_of_getElem? (i := 57) rfl))) Via.refl (F3) (EE) (Or.inr ⟨(hw _ (List.mem_of_getElem? (i := 58) rfl)), rfl, rfl⟩) (hw _ (List.mem_of_getElem? (i := 39) rfl)) (ty := .long) (by decide) rfl rfl (g0) fun T5 h5 H5 W5 => ?_
  replace F0 := F0.other W5 (Or.inr (slot_ne (Z := Z) (a0 := a0) (Or.inr (hw _ (List.mem_of_getElem? (i := 52) rfl))) (Or.inr (hw _ (List.mem_of_getElem? (i := 58) rfl))) (by decide) (t := .long) (by decide) (t' := .long) (by decide)))
  replace F1 := F1.other W5 (Or.inr (slot_ne (Z := Z) (a0 := a0) (Or.inr (hw _ (List.mem_of_getElem? (i := 54) rfl))) (Or.inr (hw _ (List.mem_of_getElem? (i := 58) rfl))) (by decide) (t := .long) (by decide) (t' := .long) (by decide)))
  replace F2 := F2.other W5 (Or.inr (slot_ne (Z := Z) (a0 := a0) (Or.inr (hw _ (List.mem_of_getElem? (i := 56) rfl))) (Or.inr (hw _ (List.mem_of_getElem? (i := 58) rfl))) (by decide) (t := .long) (by decide) (t' := .long) (by decide)))
  replace F3 := F3.same W5
  replace EE := EE.wr W5; replace KK : Keep h0 h5 [a] := KK.wr W5 (Or.inl (List.mem_singleton.mpr rfl))
  exact go_ret K H5 d19_26 rfl (by decide) (by decide) (⟨⟨EE, F0, F1, F2, F3⟩, KK⟩)
set_option maxRecDepth 65536 in
set_option maxHeartbeats 40000000 in
theorem rmS0 (Z : State) (a0 : Array Value) (hw : ∀ d ∈ tables_1, d.before a0 Z = true) (a : Addr) (h0 : Heap) (n0 : Nat) (Z0 : n0 ≤ h0.size) (x0 x1 x2 x3 : Int64) (O : Sg Z h0 a x0 x1 x2 x3) (lau : Launch) :
    Con lau Z (⟨"com/example/bellwether/bellwether/testkit/SimulatedClock$Segment", "real", "()J"⟩ : MethodName) prog_18_method_5_code 1 (some .long) ({ frames := 0, cells := 0, slots := 0, locals := 0 } : Room) #[(.ref a)] h0 n0 (RL fun z h => z = x0 ∧ h0 = h) := by
  refine con_intro pn20 (L := #[.val (.ref a)]) (fun m => by first | (simp [entryFrame, mkF, argsToLocals, Value.category, maxLocals]; done) | rfl) Z0 (fun w T K H => ?_)
  refine go_aloadN K H d20_0 rfl rfl ?_
  refine go_getfield K H d20_1 (host := "") (Or.inl (hw _ (List.mem_of_getElem? (i := 51) rfl))) Via.refl (O.2.1) fun T1 HT1 => ?_
  exact go_lret K HT1 d20_4 rfl (by decide) (by decide) (⟨rfl, rfl⟩)
set_option maxRecDepth 65536 in
set_option maxHeartbeats 40000000 in
theorem rmS1 (Z : State) (a0 : Array Value) (hw : ∀ d ∈ tables_1, d.before a0 Z = true) (a : Addr) (h0 : Heap) (n0 : Nat) (Z0 : n0 ≤ h0.size) (x0 x1 x2 x3 : Int64) (O : Sg Z h0 a x0 x1 x2 x3) (lau : Launch) :
    Con lau Z (⟨"com/example/bellwether/bellwether/testkit/SimulatedClock$Segment", "reading", "()J"⟩ : MethodName) prog_18_method_6_code 1 (some .long) ({ frames := 0, cells := 0, slots := 0, locals := 0 } : Room) #[(.ref a)] h0 n0 (RL fun z h => z = x1 ∧ h0 = h) := by
  refine con_intro pn21 (L := #[.val (.ref a)]) (fun m => by first | (simp [entryFrame, mkF, argsToLocals, Value.category, maxLocals]; done) | rfl) Z0 (fun w T K H => ?_)
  refine go_aloadN K H d21_0 rfl rfl ?_
  refine go_getfield K H d21_1 (host := "") (Or.inl (hw _ (List.mem_of_getElem? (i := 53) rfl))) Via.refl (O.2.2.1) fun T1 HT1 => ?_
  exact go_lret K HT1 d21_4 rfl (by decide) (by decide) (⟨rfl, rfl⟩)
set_option maxRecDepth 65536 in
set_option maxHeartbeats 40000000 in
theorem rmS2 (Z : State) (a0 : Array Value) (hw : ∀ d ∈ tables_1, d.before a0 Z = true) (a : Addr) (h0 : Heap) (n0 : Nat) (Z0 : n0 ≤ h0.size) (x0 x1 x2 x3 : Int64) (O : Sg Z h0 a x0 x1 x2 x3) (lau : Launch) :
    Con lau Z (⟨"com/example/bellwether/bellwether/testkit/SimulatedClock$Segment", "fraction", "()J"⟩ : MethodName) prog_18_method_7_code 1 (some .long) ({ frames := 0, cells := 0, slots := 0, locals := 0 } : Room) #[(.ref a)] h0 n0 (RL fun z h => z = x2 ∧ h0 = h) := by
  refine con_intro pn22 (L := #[.val (.ref a)]) (fun m => by first | (simp [entryFrame, mkF, argsToLocals, Value.category, maxLocals]; done) | rfl) Z0 (fun w T K H => ?_)
  refine go_aloadN K H d22_0 rfl rfl ?_
  refine go_getfield K H d22_1 (host := "") (Or.inl (hw _ (List.mem_of_getElem? (i := 55) rfl))) Via.refl (O.2.2.2.1) fun T1 HT1 => ?_
  exact go_lret K HT1 d22_4 rfl (by decide) (by decide) (⟨rfl, rfl⟩)
set_option maxRecDepth 65536 in
set_option maxHeartbeats 40000000 in
theorem rmS3 (Z : State) (a0 : Array Value) (hw : ∀ d ∈ tables_1, d.before a0 Z = true) (a : Addr) (h0 : Heap) (n0 : Nat) (Z0 : n0 ≤ h0.size) (x0 x1 x2 x3 : Int64) (O : Sg Z h0 a x0 x1 x2 x3) (lau : Launch) :
    Con lau Z (⟨"com/example/bellwether/bellwether/testkit/SimulatedClock$Segment", "rate", "()J"⟩ : MethodName) prog_18_method_8_code 1 (some .long) ({ frames := 0, cells := 0, slots := 0, locals := 0 } : Room) #[(.ref a)] h0 n0 (RL fun z h => z = x3 ∧ h0 = h) := by
  refine con_intro pn23 (L := #[.val (.ref a)]) (fun m => by first | (simp [entryFrame, mkF, argsToLocals, Value.category, maxLocals]; done) | rfl) Z0 (fun w T K H => ?_)
  refine go_aloadN K H d23_0 rfl rfl ?_
  refine go_getfield K H d23_1 (host := "") (Or.inl (hw _ (List.mem_of_getElem? (i := 57) rfl))) Via.refl (O.2.2.2.2) fun T1 HT1 => ?_
  exact go_lret K HT1 d23_4 rfl (by decide) (by decide) (⟨rfl, rfl⟩)
set_option maxRecDepth 65536 in
set_option maxHeartbeats 40000000 in
theorem rmCI (Z : State) (a0 : Array Value) (hw : ∀ d ∈ tables_1, d.before a0 Z = true) (c : Addr) (u0 : Int64) (h0 : Heap) (n0 : Nat) (Z0 : n0 ≤ h0.size) (v0 : Value) (de : Addr) (F0 : Fld Z h0 c "com/example/bellwether/bellwether/testkit/SimulatedClock" "segments" "Ljava/util/List;" v0) (E0 : Exa Z h0 c "com/example/bellwether/bellwether/testkit/SimulatedClock") (S0 : Sta Z h0 "java/util/ArrayList" "DEFAULTCAPACITY_EMPTY_ELEMENTDATA" "[Ljava/lang/Object;" (.ref de)) (AD : VA Z h0 de (.object "java/lang/Object") []) (hde : de < n0) (g0 : n0 ≤ c) (lau : Launch) :
    Con lau Z (⟨"com/example/bellwether/bellwether/testkit/SimulatedClock", "<init>", "(J)V"⟩ : MethodName) prog_17_method_1_code 3 none ({ frames := 5, cells := 3, slots := 17, locals := 140 } : Room) #[(.ref c), (.long u0)] h0 n0 (RV fun h => ∃ l e s, n0 ≤ l ∧ n0 ≤ e ∧ h0.size ≤ l ∧ h0.size ≤ e ∧ h0.size ≤ s ∧ CS Z h c l e 1 ((List.replicate 10 Value.null).set 0 (.ref s)) s 0 u0 0 1000000000 ∧ Keep h0 h [c]) := by
  refine con_intro pn24 (L := #[.val (.ref c), .val (.long u0), .second]) (fun m => by first | (simp [entryFrame, mkF, argsToLocals, Value.category, maxLocals]; done) | rfl) Z0 (fun w T K H => ?_)
  refine go_aloadN K H d24_0 rfl rfl ?_
  refine go_initO K H d24_1 (hw _ (List.mem_of_getElem? (i := 9) rfl)) (hw _ (List.mem_of_getElem? (i := 10) rfl)) (hw _ (List.mem_of_getElem? (i := 11) rfl)) rfl (by decide) (W := 0) rfl (by decide) fun T1 HT1 => ?_
  refine go_aloadN K HT1 d24_4 rfl rfl ?_
  refine go_new K HT1 d24_5 (hw _ (List.mem_of_getElem? (i := 12) rfl)) (hw _ (List.mem_of_getElem? (i := 13) rfl)) (hw _ (List.mem_of_getElem? (i := 14) rfl)) (by decide) (by decide) fun T2 h2 l H2 g2 l2 E2 A2 D2 => ?_
  have ncl : c ≠ l := Nat.ne_of_lt (g2 ▸ E0.lt); have EC := E0.ext E2; have FC := F0.ext E2; have S1 := S0.ext E2; have AD1 := AD.ext E2
  refine go_dup K H2 d24_8 rfl ?_
  refine go_callI [] K H2 d24_9 rfl (hw _ (List.mem_of_getElem? (i := 15) rfl)) (hw _ (List.mem_of_getElem? (i := 16) rfl)) (hw _ (List.mem_of_getElem? (i := 14) rfl)) (hw _ (List.mem_of_getElem? (i := 17) rfl)) (st' := [(.ref l), (.ref c)]) (by decide) (rmALI Z a0 hw _ _ n0 (at_size K H2) _ _ de (D2 (Or.inl (hw _ (List.mem_of_getElem? (i := 35) rfl))) (ty := (.array (.object "java/lang/Object"))) (by decide)) (D2 (Or.inl (hw _ (List.mem_of_getElem? (i := 71) rfl))) (ty := .int) (by decide)) (D2 (Or.inl (hw _ (List.mem_of_getElem? (i := 32) rfl))) (ty := .int) (by decide)) A2 S1 l2) pd1 rfl rfl rfl (by decide) (W := 2) rfl (by decide) (by decide) (by decide) fun T3 h3 v3 H3 q3 => ?_
  obtain ⟨rfl, EL, FEl, FZl, FMl, K1⟩ := q3
  show Go w _ _ 12 #[.val (.ref c), .val (.long u0), .second] [(.ref l), (.ref c)]
  have EC1 := EC.keep K1; have FC1 := FC.keep K1 (ninS ncl nin0); have AD2 := AD1.keep K1 (ninS (ne_lt hde l2) nin0); have S2 := S1.keep K1 (fun x q => by cases List.mem_singleton.mp q; obtain ⟨c, e1, e2⟩ := A2.cell; exact ⟨c, e1, by cases hq : c.vm <;> first | rfl | exact absurd hq (e2 _)⟩)
  have KK : Keep h0 h3 [c] := (E2.keep [c]).trans K1 (fun x q => by cases List.mem_singleton.mp q; exact Or.inr (Nat.le_of_eq g2.symm))
  refine go_putfield K H3 d24_12 (host := "") (Or.inl (hw _ (List.mem_of_getElem? (i := 36) rfl))) Via.refl (FC1) (EC1) (Or.inr ⟨(hw _ (List.mem_of_getElem? (i := 37) rfl)), rfl, rfl⟩) (hw _ (List.mem_of_getElem? (i := 4) rfl)) (ty := (.object "java/util/List")) (by decide) rfl rfl (g0) fun T4 h4 H4 W4 => ?_
  replace EC1 := EC1.wr W4; replace FC1 := FC1.same W4; replace EL := EL.wr W4; replace FEl := FEl.other W4 (Or.inl ncl.symm); replace FZl := FZl.other W4 (Or.inl ncl.symm); replace FMl := FMl.other W4 (Or.inl ncl.symm); replace AD2 := AD2.other W4 (ne_lt hde g0); replace S2 := S2.wr W4
  replace KK : Keep h0 h4 [c] := KK.wr W4 (Or.inl (List.mem_singleton.mpr rfl))
  refine go_aloadN K H4 d24_15 rfl rfl ?_
  refine go_getfield K H4 d24_16 (host := "") (Or.inl (hw _ (List.mem_of_getElem? (i := 36) rfl))) Via.refl (FC1) fun T5 HT5 => ?_
  refine go_new K HT5 d24_19 (hw _ (List.mem_of_getElem? (i := 38) rfl)) (hw _ (List.mem_of_getElem? (i := 39) rfl)) (hw _ (List.mem_of_getElem? (i := 40) rfl)) (by decide) (by decide) fun T6 h6 s H6 g6 l6 E6 A6 D6 => ?_
  have nls : l ≠ s := Nat.ne_of_lt (g6 ▸ EL.lt); have ncs : c ≠ s := Nat.ne_of_lt (g6 ▸ EC1.lt)
  replace EC1 := EC1.ext E6; replace FC1 := FC1.ext E6; replace EL := EL.ext E6; replace FEl := FEl.ext E6; replace FZl := FZl.ext E6; replace FMl := FMl.ext E6; replace AD2 := AD2.ext E6; replace S2 := S2.ext E6
  have hs0 : h0.size ≤ s := by rw [g6]; exact KK.1
  replace KK := KK.ext E6
  refine go_dup K H6 d24_22 rfl ?_
  refine go_lconst 0 K H6 d24_23 (by decide) ?_
  refine go_lloadN K H6 d24_24 rfl ?_
  refine go_lconst 0 K H6 d24_25 (by decide) ?_
  refine go_ldcL (1000000000) K H6 d24_26 (hw _ (List.mem_of_getElem? (i := 41) rfl)) ?_
  refine go_callIR [(.long 0), (.long u0), (.long 0), (.long (1000000000))] K H6 d24_29 rfl (hw _ (List.mem_of_getElem? (i := 42) rfl)) (hw _ (List.mem_of_getElem? (i := 43) rfl)) (hw _ (List.mem_of_getElem? (i := 40) rfl)) (hw _ (List.mem_of_getElem? (i := 44) rfl)) (st' := [(.ref s), (.ref l)]) (by decide) (rmSG Z a0 hw _ _ _ _ _ _ n0 (at_size K H6) _ _ _ _ (D6 (Or.inr (hw _ (List.mem_of_getElem? (i := 52) rfl))) (ty := .long) (by decide)) (D6 (Or.inr (hw _ (List.mem_of_getElem? (i := 54) rfl))) (ty := .long) (by decide)) (D6 (Or.inr (hw _ (List.mem_of_getElem? (i := 56) rfl))) (ty := .long) (by decide)) (D6 (Or.inr (hw _ (List.mem_of_getElem? (i := 58) rfl))) (ty := .long) (by decide)) A6 l6) pd8 rfl rfl rfl (by decide) (W := 2) rfl (by decide) (by decide) (by decide) fun T7 h7 v7 H7 q7 => ?_
  obtain ⟨rfl, G, K2⟩ := q7
  show Go w _ _ 32 #[.val (.ref c), .val (.long u0), .second] [(.ref s), (.ref l)]
  replace EC1 := EC1.keep K2; replace FC1 := FC1.keep K2 (ninS ncs nin0); replace EL := EL.keep K2; replace FEl := FEl.keep K2 (ninS nls nin0); replace FZl := FZl.keep K2 (ninS nls nin0); replace FMl := FMl.keep K2 (ninS nls nin0); replace AD2 := AD2.keep K2 (ninS (ne_lt hde l6) nin0); replace S2 := S2.keep K2 (fun x q => by cases List.mem_singleton.mp q; obtain ⟨c, e1, e2⟩ := A6.cell; exact ⟨c, e1, by cases hq : c.vm <;> first | rfl | exact absurd hq (e2 _)⟩)
  replace KK := KK.trans K2 (fun x q => by cases List.mem_singleton.mp q; exact Or.inr hs0)
  have hl0 : h0.size ≤ l := Nat.le_of_eq g2.symm; have KK0 := KK.1
  refine go_callF [(.ref s)] K H7 d24_32 (EL) (hw _ (List.mem_of_getElem? (i := 59) rfl)) (hw _ (List.mem_of_getElem? (i := 60) rfl)) (hw _ (List.mem_of_getElem? (i := 61) rfl)) (hw _ (List.mem_of_getElem? (i := 62) rfl)) (hw _ (List.mem_of_getElem? (i := 63) rfl)) (hw _ (List.mem_of_getElem? (i := 64) rfl)) (hw _ (List.mem_of_getElem? (i := 65) rfl)) (hw _ (List.mem_of_getElem? (i := 66) rfl)) (hw _ (List.mem_of_getElem? (i := 14) rfl)) (hw _ (List.mem_of_getElem? (i := 67) rfl)) (st' := []) (by decide) (rmAdd0 Z a0 hw _ _ _ n0 (at_size K H7) de _ FEl FZl FMl EL S2 AD2 l2 (ne_lt hde l2) (Ins.of_exa G.1 (hw _ (List.mem_of_getElem? (i := 93) rfl)))) pd9 rfl rfl rfl (by decide) (W := 0) rfl (by decide) (by decide) (by decide) fun T8 h8 v8 H8 q8 => ?_
  obtain ⟨z8, rfl, q, e, ge, he, O, K3⟩ := q8
  show Go w _ _ 37 #[.val (.ref c), .val (.long u0), .second] [(.int z8)]
  have nse : s ≠ e := Nat.ne_of_lt (Nat.lt_of_lt_of_le G.1.lt he); have nce : c ≠ e := Nat.ne_of_lt (Nat.lt_of_lt_of_le EC1.lt he)
  replace KK := KK.trans K3 (fun x q => by cases List.mem_singleton.mp q; exact Or.inr hl0)
  refine go_pop K H8 d24_37 rfl ?_
  exact go_ret K H8 d24_38 rfl (by decide) (by decide) (⟨l, e, s, l2, ge, hl0, (Nat.le_trans KK0 he), hs0, ⟨EC1.keep K3, FC1.keep K3 (ninS ncl nin0), O, by simp, by decide, by decide, rfl, G.keep K3 (ninS nls.symm nin0), ncl, nce, nls.symm, nse, ncs.symm⟩, KK⟩)
set_option maxRecDepth 65536 in
set_option maxHeartbeats 40000000 in
theorem rmRd (Z : State) (a0 : Array Value) (hw : ∀ d ∈ tables_1, d.before a0 Z = true) (c : Addr) (u0 : Int64) (h0 : Heap) (n0 : Nat) (Z0 : n0 ≤ h0.size) (l e : Addr) (n : Nat) (vs : List Value) (s : Addr) (x0 x1 x2 x3 : Int64) (O : CS Z h0 c l e n vs s x0 x1 x2 x3) (r0 : 1 ≤ x3.toInt) (r1 : x3.toInt ≤ 4563402752) (f0 : 0 ≤ x2.toInt) (f1 : x2.toInt < 1000000000) (d0 : -9223372036854775808 ≤ u0.toInt - x0.toInt) (d1 : u0.toInt - x0.toInt < 9223372036854775808) (p0 : -9223372036854775808 ≤ (u0.toInt - x0.toInt) / 1000000000 * x3.toInt) (p1 : (u0.toInt - x0.toInt) / 1000000000 * x3.toInt < 9223372036854775808) (lau : Launch) :
    Con lau Z (⟨"com/example/bellwether/bellwether/testkit/SimulatedClock", "reading", "(J)J"⟩ : MethodName) prog_17_method_3_code 8 (some .long) ({ frames := 3, cells := 0, slots := 0, locals := 100 } : Room) #[(.ref c), (.long u0)] h0 n0 (RL fun z h => (z.toInt - (x1.toInt + ((u0.toInt - x0.toInt) * x3.toInt + x2.toInt) / 1000000000)) % 18446744073709551616 = 0 ∧ h0 = h) := by
  refine con_intro pn25 (L := #[.val (.ref c), .val (.long u0), .second, .unset, .unset, .unset, .unset, .unset]) (fun m => by first | (simp [entryFrame, mkF, argsToLocals, Value.category, maxLocals]; done) | rfl) Z0 (fun w T K H => ?_)
  refine go_aloadN K H d25_0 rfl rfl ?_
  refine go_getfield K H d25_1 (host := "") (Or.inl (hw _ (List.mem_of_getElem? (i := 36) rfl))) Via.refl (O.2.1) fun T1 HT1 => ?_
  refine go_aloadN K HT1 d25_4 rfl rfl ?_
  refine go_getfield K HT1 d25_5 (host := "") (Or.inl (hw _ (List.mem_of_getElem? (i := 36) rfl))) Via.refl (O.2.1) fun T2 HT2 => ?_
  refine go_callF [] K HT2 d25_8 ((O.2.2.1).1) (hw _ (List.mem_of_getElem? (i := 99) rfl)) (hw _ (List.mem_of_getElem? (i := 100) rfl)) (hw _ (List.mem_of_getElem? (i := 101) rfl)) (hw _ (List.mem_of_getElem? (i := 102) rfl)) (hw _ (List.mem_of_getElem? (i := 103) rfl)) (hw _ (List.mem_of_getElem? (i := 104) rfl)) (hw _ (List.mem_of_getElem? (i := 105) rfl)) (hw _ (List.mem_of_getElem? (i := 66) rfl)) (hw _ (List.mem_of_getElem? (i := 14) rfl)) (hw _ (List.mem_of_getElem? (i := 106) rfl)) (st' := [(.ref l)]) (by decide) (rmSz Z a0 hw _ _ n0 (at_size K HT2) _ _ _ (O.2.2.1)) pd10 rfl rfl rfl (by decide) (W := 1) rfl (by decide) (by decide) (by decide) fun T3 h3 v3 H3 q3 => ?_
  obtain ⟨z3, rfl, q0, rfl⟩ := q3
  show Go w _ _ 13 #[.val (.ref c), .val (.long u0), .second, .unset, .unset, .unset, .unset, .unset] [(.int z3), (.ref l)]
  replace q0 := q0.symm; subst q0
  show Go w _ _ 13 #[.val (.ref c), .val (.long u0), .second, .unset, .unset, .unset, .unset, .unset] [(.int (oN n)), (.ref l)]
  refine go_iconst (1) K H3 d25_13 (by decide) ?_
  refine go_isub K H3 d25_14 fun v4 ev4 => ?_
  have fv4 := f_isub ev4
  have rv4 := rng32 v4
  have hv : v4.toInt = ((n - 1 : Nat) : Int) := by rw [ev4]; exact oN_pred O.2.2.2.2.1 O.2.2.2.2.2.1
  refine go_callF [(.int v4)] K H3 d25_15 ((O.2.2.1).1) (hw _ (List.mem_of_getElem? (i := 107) rfl)) (hw _ (List.mem_of_getElem? (i := 108) rfl)) (hw _ (List.mem_of_getElem? (i := 109) rfl)) (hw _ (List.mem_of_getElem? (i := 110) rfl)) (hw _ (List.mem_of_getElem? (i := 111) rfl)) (hw _ (List.mem_of_getElem? (i := 112) rfl)) (hw _ (List.mem_of_getElem? (i := 113) rfl)) (hw _ (List.mem_of_getElem? (i := 66) rfl)) (hw _ (List.mem_of_getElem? (i := 14) rfl)) (hw _ (List.mem_of_getElem? (i := 114) rfl)) (st' := []) (by decide) (rmGet Z a0 hw _ _ _ n0 (at_size K H3) _ _ _ (O.2.2.1) _ _ O.2.2.2.2.2.2.1 hv (by rw [hv, oN_toInt (by have := O.2.2.2.2.2.1; omega)]; have := O.2.2.2.2.1; omega)) pd7 rfl rfl rfl (by decide) (W := 0) rfl (by decide) (by decide) (by decide) fun T5 h5 v5 H5 q5 => ?_
  obtain ⟨z5, rfl, hz5, q1, rfl⟩ := q5
  show Go w _ _ 20 #[.val (.ref c), .val (.long u0), .second, .unset, .unset, .unset, .unset, .unset] [z5]
  replace q1 := q1.symm; subst q1
  show Go w _ _ 20 #[.val (.ref c), .val (.long u0), .second, .unset, .unset, .unset, .unset, .unset] [(.ref s)]
  refine go_checkcast K H5 d25_20 (hw _ (List.mem_of_getElem? (i := 38) rfl)) (Ins.self O.2.2.2.2.2.2.2.1.1) fun T6 HT6 => ?_
  refine go_astoreN K HT6 d25_23 rfl (L' := #[.val (.ref c), .val (.long u0), .second, .val (.ref s), .unset, .unset, .unset, .unset]) rfl ?_
  refine go_lloadN K HT6 d25_24 rfl ?_
  refine go_aloadN K HT6 d25_25 rfl rfl ?_
  refine go_callV [] K HT6 d25_26 ((O.2.2.2.2.2.2.2.1).1) (hw _ (List.mem_of_getElem? (i := 129) rfl)) (hw _ (List.mem_of_getElem? (i := 130) rfl)) (nf_sel (hw _ (List.mem_of_getElem? (i := 132) rfl))) (hw _ (List.mem_of_getElem? (i := 132) rfl)) (hw _ (List.mem_of_getElem? (i := 131) rfl)) (hw _ (List.mem_of_getElem? (i := 40) rfl)) (hw _ (List.mem_of_getElem? (i := 133) rfl)) (st' := [(.long u0)]) (by decide) (rmS0 Z a0 hw _ _ n0 (at_size K HT6) _ _ _ _ (O.2.2.2.2.2.2.2.1)) pd11 rfl rfl rfl (by decide) (W := 2) rfl (by decide) (by decide) (by decide) fun T7 h7 v7 H7 q7 => ?_
  obtain ⟨z7, rfl, b0, rfl⟩ := q7
  show Go w _ _ 29 #[.val (.ref c), .val (.long u0), .second, .val (.ref s), .unset, .unset, .unset, .unset] [(.long z7), (.long u0)]
  replace b0 := b0.symm; subst b0
  show Go w _ _ 29 #[.val (.ref c), .val (.long u0), .second, .val (.ref s), .unset, .unset, .unset, .unset] [(.long x0), (.long u0)]
  refine go_lsub K H7 d25_29 fun v8 ev8 => ?_
  have fv8 := f_lsub ev8
  have rv8 := rng64 v8
  refine go_lstore K H7 d25_30 (L' := #[.val (.ref c), .val (.long u0), .second, .val (.ref s), .val (.long v8), .second, .unset, .unset]) rfl ?_
  refine go_lload K H7 d25_32 rfl ?_
  refine go_ldcL (1000000000) K H7 d25_34 (hw _ (List.mem_of_getElem? (i := 41) rfl)) ?_
  have hd : v8.toInt = u0.toInt - x0.toInt := by have := rng64 v8; omega
  generalize hD : u0.toInt - x0.toInt = D at *
  have cb := carry_bd (D := D) r0 r1 f0 f1
  refine go_callS [(.long v8), (.long (1000000000))] K H7 d25_37 (hw _ (List.mem_of_getElem? (i := 152) rfl)) (hw _ (List.mem_of_getElem? (i := 153) rfl)) (hw _ (List.mem_of_getElem? (i := 89) rfl)) (hw _ (List.mem_of_getElem? (i := 154) rfl)) (st' := []) (by decide) (rmFM Z a0 hw _ _ _ n0 (at_size K H7) (by decide)) pd12 rfl rfl rfl (by decide) (W := 0) rfl (by decide) (by decide) (by decide) fun T9 h9 v9 H9 q9 => ?_
  obtain ⟨z9, rfl, m1, rfl⟩ := q9
  show Go w _ _ 40 #[.val (.ref c), .val (.long u0), .second, .val (.ref s), .val (.long v8), .second, .unset, .unset] [(.long z9)]
  refine go_aloadN K H9 d25_40 rfl rfl ?_
  refine go_callV [] K H9 d25_41 ((O.2.2.2.2.2.2.2.1).1) (hw _ (List.mem_of_getElem? (i := 155) rfl)) (hw _ (List.mem_of_getElem? (i := 156) rfl)) (nf_sel (hw _ (List.mem_of_getElem? (i := 158) rfl))) (hw _ (List.mem_of_getElem? (i := 158) rfl)) (hw _ (List.mem_of_getElem? (i := 157) rfl)) (hw _ (List.mem_of_getElem? (i := 40) rfl)) (hw _ (List.mem_of_getElem? (i := 159) rfl)) (st' := [(.long z9)]) (by decide) (rmS3 Z a0 hw _ _ n0 (at_size K H9) _ _ _ _ (O.2.2.2.2.2.2.2.1)) pd11 rfl rfl rfl (by decide) (W := 2) rfl (by decide) (by decide) (by decide) fun T10 h10 v10 H10 q10 => ?_
  obtain ⟨z10, rfl, b3, rfl⟩ := q10
  show Go w _ _ 44 #[.val (.ref c), .val (.long u0), .second, .val (.ref s), .val (.long v8), .second, .unset, .unset] [(.long z10), (.long z9)]
  replace b3 := b3.symm; subst b3
  show Go w _ _ 44 #[.val (.ref c), .val (.long u0), .second, .val (.ref s), .val (.long v8), .second, .unset, .unset] [(.long x3), (.long z9)]
  refine go_lmul K H10 d25_44 fun v11 ev11 => ?_
  have fv11 := f_lmul ev11
  have rv11 := rng64 v11
  refine go_aloadN K H10 d25_45 rfl rfl ?_
  refine go_callV [] K H10 d25_46 ((O.2.2.2.2.2.2.2.1).1) (hw _ (List.mem_of_getElem? (i := 139) rfl)) (hw _ (List.mem_of_getElem? (i := 140) rfl)) (nf_sel (hw _ (List.mem_of_getElem? (i := 142) rfl))) (hw _ (List.mem_of_getElem? (i := 142) rfl)) (hw _ (List.mem_of_getElem? (i := 141) rfl)) (hw _ (List.mem_of_getElem? (i := 40) rfl)) (hw _ (List.mem_of_getElem? (i := 143) rfl)) (st' := [(.long v11)]) (by decide) (rmS2 Z a0 hw _ _ n0 (at_size K H10) _ _ _ _ (O.2.2.2.2.2.2.2.1)) pd11 rfl rfl rfl (by decide) (W := 2) rfl (by decide) (by decide) (by decide) fun T12 h12 v12 H12 q12 => ?_
  obtain ⟨z12, rfl, b2, rfl⟩ := q12
  show Go w _ _ 49 #[.val (.ref c), .val (.long u0), .second, .val (.ref s), .val (.long v8), .second, .unset, .unset] [(.long z12), (.long v11)]
  replace b2 := b2.symm; subst b2
  show Go w _ _ 49 #[.val (.ref c), .val (.long u0), .second, .val (.ref s), .val (.long v8), .second, .unset, .unset] [(.long x2), (.long v11)]
  refine go_ladd K H12 d25_49 fun v13 ev13 => ?_
  have fv13 := f_ladd ev13
  have rv13 := rng64 v13
  refine go_lstore K H12 d25_50 (L' := #[.val (.ref c), .val (.long u0), .second, .val (.ref s), .val (.long v8), .second, .val (.long v13), .second]) rfl ?_
  refine go_aloadN K H12 d25_52 rfl rfl ?_
  have m1' : z9.toInt = D % 1000000000 := by rw [m1, hd]; rfl
  have hc : v13.toInt = (D % 1000000000) * x3.toInt + x2.toInt := by have q := fv11; rw [m1'] at q; generalize (D % 1000000000) * x3.toInt = P at *; have := rng64 v13; omega
  refine go_callV [] K H12 d25_53 ((O.2.2.2.2.2.2.2.1).1) (hw _ (List.mem_of_getElem? (i := 134) rfl)) (hw _ (List.mem_of_getElem? (i := 135) rfl)) (nf_sel (hw _ (List.mem_of_getElem? (i := 137) rfl))) (hw _ (List.mem_of_getElem? (i := 137) rfl)) (hw _ (List.mem_of_getElem? (i := 136) rfl)) (hw _ (List.mem_of_getElem? (i := 40) rfl)) (hw _ (List.mem_of_getElem? (i := 138) rfl)) (st' := []) (by decide) (rmS1 Z a0 hw _ _ n0 (at_size K H12) _ _ _ _ (O.2.2.2.2.2.2.2.1)) pd11 rfl rfl rfl (by decide) (W := 0) rfl (by decide) (by decide) (by decide) fun T14 h14 v14 H14 q14 => ?_
  obtain ⟨z14, rfl, b1, rfl⟩ := q14
  show Go w _ _ 56 #[.val (.ref c), .val (.long u0), .second, .val (.ref s), .val (.long v8), .second, .val (.long v13), .second] [(.long z14)]
  replace b1 := b1.symm; subst b1
  show Go w _ _ 56 #[.val (.ref c), .val (.long u0), .second, .val (.ref s), .val (.long v8), .second, .val (.long v13), .second] [(.long x1)]
  refine go_lload K H14 d25_56 rfl ?_
  refine go_ldcL (1000000000) K H14 d25_58 (hw _ (List.mem_of_getElem? (i := 41) rfl)) ?_
  refine go_callS [(.long v8), (.long (1000000000))] K H14 d25_61 (hw _ (List.mem_of_getElem? (i := 165) rfl)) (hw _ (List.mem_of_getElem? (i := 166) rfl)) (hw _ (List.mem_of_getElem? (i := 89) rfl)) (hw _ (List.mem_of_getElem? (i := 167) rfl)) (st' := [(.long x1)]) (by decide) (rmFD Z a0 hw _ _ _ n0 (at_size K H14) (by decide)) pd12 rfl rfl rfl (by decide) (W := 2) rfl (by decide) (by decide) (by decide) fun T15 h15 v15 H15 q15 => ?_
  obtain ⟨z15, rfl, m2, rfl⟩ := q15
  show Go w _ _ 64 #[.val (.ref c), .val (.long u0), .second, .val (.ref s), .val (.long v8), .second, .val (.long v13), .second] [(.long z15), (.long x1)]
  refine go_aloadN K H15 d25_64 rfl rfl ?_
  have m2' : z15.toInt = D / 1000000000 := by rw [m2, hd]; rfl
  refine go_callV [] K H15 d25_65 ((O.2.2.2.2.2.2.2.1).1) (hw _ (List.mem_of_getElem? (i := 155) rfl)) (hw _ (List.mem_of_getElem? (i := 156) rfl)) (nf_sel (hw _ (List.mem_of_getElem? (i := 158) rfl))) (hw _ (List.mem_of_getElem? (i := 158) rfl)) (hw _ (List.mem_of_getElem? (i := 157) rfl)) (hw _ (List.mem_of_getElem? (i := 40) rfl)) (hw _ (List.mem_of_getElem? (i := 159) rfl)) (st' := [(.long z15), (.long x1)]) (by decide) (rmS3 Z a0 hw _ _ n0 (at_size K H15) _ _ _ _ (O.2.2.2.2.2.2.2.1)) pd11 rfl rfl rfl (by decide) (W := 4) rfl (by decide) (by decide) (by decide) fun T16 h16 v16 H16 q16 => ?_
  obtain ⟨z16, rfl, b4, rfl⟩ := q16
  show Go w _ _ 68 #[.val (.ref c), .val (.long u0), .second, .val (.ref s), .val (.long v8), .second, .val (.long v13), .second] [(.long z16), (.long z15), (.long x1)]
  replace b4 := b4.symm; subst b4
  show Go w _ _ 68 #[.val (.ref c), .val (.long u0), .second, .val (.ref s), .val (.long v8), .second, .val (.long v13), .second] [(.long x3), (.long z15), (.long x1)]
  refine go_callS [(.long z15), (.long x3)] K H16 d25_68 (hw _ (List.mem_of_getElem? (i := 168) rfl)) (hw _ (List.mem_of_getElem? (i := 169) rfl)) (hw _ (List.mem_of_getElem? (i := 89) rfl)) (hw _ (List.mem_of_getElem? (i := 170) rfl)) (st' := [(.long x1)]) (by decide) (rmMX Z a0 hw _ _ _ n0 (at_size K H16) (by rw [m2']; exact p0) (by rw [m2']; exact p1) (by rw [m2']; omega)) pd12 rfl rfl rfl (by decide) (W := 2) rfl (by decide) (by decide) (by decide) fun T17 h17 v17 H17 q17 => ?_
  obtain ⟨z17, rfl, m3, rfl⟩ := q17
  show Go w _ _ 71 #[.val (.ref c), .val (.long u0), .second, .val (.ref s), .val (.long v8), .second, .val (.long v13), .second] [(.long z17), (.long x1)]
  rw [m2'] at m3
  refine go_ladd K H17 d25_71 fun v18 ev18 => ?_
  have fv18 := f_ladd ev18
  have rv18 := rng64 v18
  refine go_lload K H17 d25_72 rfl ?_
  refine go_ldcL (1000000000) K H17 d25_74 (hw _ (List.mem_of_getElem? (i := 41) rfl)) ?_
  refine go_ldiv K H17 d25_77 (by decide) fun v19 ev19 => ?_
  have fv19 := f_ldiv 1000000000 ev19 (by decide) (by decide)
  refine go_ladd K H17 d25_78 fun v20 ev20 => ?_
  have fv20 := f_ladd ev20
  have rv20 := rng64 v20
  have rp := read_plain D x3.toInt x2.toInt f0
  exact go_lret K H17 d25_79 rfl (by decide) (by decide) (⟨by rw [← rp]; rw [hc] at *; generalize (D % 1000000000) * x3.toInt = P at *; generalize D / 1000000000 * x3.toInt = P2 at *; (try simp only [or_true, true_or, and_true, true_and, not_true_eq_false, not_false_eq_true, Int32.lt_iff_toInt_lt, Int32.le_iff_toInt_le, ← Int32.toInt_inj, Int64.lt_iff_toInt_lt, Int64.le_iff_toInt_le, ← Int64.toInt_inj, Int32.reduceToInt, Int64.reduceToInt, ne_eq] at *) <;> omega, rfl⟩)
set_option maxRecDepth 65536 in
set_option maxHeartbeats 40000000 in
theorem rmRS (Z : State) (a0 : Array Value) (hw : ∀ d ∈ tables_1, d.before a0 Z = true) (c : Addr) (u0 : Int64) (u1 : Int64) (h0 : Heap) (n0 : Nat) (Z0 : n0 ≤ h0.size) (l e : Addr) (n : Nat) (vs : List Value) (s : Addr) (x0 x1 x2 x3 : Int64) (O : CS Z h0 c l e n vs s x0 x1 x2 x3) (hux : u0 = x0) (ge : n0 ≤ e) (lau : Launch) :
    Con lau Z (⟨"com/example/bellwether/bellwether/testkit/SimulatedClock", "rate", "(JJ)V"⟩ : MethodName) prog_17_method_4_code 8 none ({ frames := 3, cells := 1, slots := 4, locals := 100 } : Room) #[(.ref c), (.long u0), (.long u1)] h0 n0 (RV fun h => ∃ t, h0.size ≤ t ∧ CS Z h c l e n (vs.set (n - 1) (.ref t)) t u0 x1 x2 u1 ∧ Keep h0 h [e]) := by
  refine con_intro pn26 (L := #[.val (.ref c), .val (.long u0), .second, .val (.long u1), .second, .unset, .unset, .unset]) (fun m => by first | (simp [entryFrame, mkF, argsToLocals, Value.category, maxLocals]; done) | rfl) Z0 (fun w T K H => ?_)
  refine go_aloadN K H d26_0 rfl rfl ?_
  refine go_getfield K H d26_1 (host := "") (Or.inl (hw _ (List.mem_of_getElem? (i := 36) rfl))) Via.refl (O.2.1) fun T1 HT1 => ?_
  refine go_aloadN K HT1 d26_4 rfl rfl ?_
  refine go_getfield K HT1 d26_5 (host := "") (Or.inl (hw _ (List.mem_of_getElem? (i := 36) rfl))) Via.refl (O.2.1) fun T2 HT2 => ?_
  refine go_callF [] K HT2 d26_8 ((O.2.2.1).1) (hw _ (List.mem_of_getElem? (i := 99) rfl)) (hw _ (List.mem_of_getElem? (i := 100) rfl)) (hw _ (List.mem_of_getElem? (i := 101) rfl)) (hw _ (List.mem_of_getElem? (i := 102) rfl)) (hw _ (List.mem_of_getElem? (i := 103) rfl)) (hw _ (List.mem_of_getElem? (i := 104) rfl)) (hw _ (List.mem_of_getElem? (i := 105) rfl)) (hw _ (List.mem_of_getElem? (i := 66) rfl)) (hw _ (List.mem_of_getElem? (i := 14) rfl)) (hw _ (List.mem_of_getElem? (i := 106) rfl)) (st' := [(.ref l)]) (by decide) (rmSz Z a0 hw _ _ n0 (at_size K HT2) _ _ _ (O.2.2.1)) pd10 rfl rfl rfl (by decide) (W := 1) rfl (by decide) (by decide) (by decide) fun T3 h3 v3 H3 q3 => ?_
  obtain ⟨z3, rfl, q0, rfl⟩ := q3
  show Go w _ _ 13 #[.val (.ref c), .val (.long u0), .second, .val (.long u1), .second, .unset, .unset, .unset] [(.int z3), (.ref l)]
  replace q0 := q0.symm; subst q0
  show Go w _ _ 13 #[.val (.ref c), .val (.long u0), .second, .val (.long u1), .second, .unset, .unset, .unset] [(.int (oN n)), (.ref l)]
  refine go_iconst (1) K H3 d26_13 (by decide) ?_
  refine go_isub K H3 d26_14 fun v4 ev4 => ?_
  have hv : v4.toInt = ((n - 1 : Nat) : Int) := by rw [ev4]; exact oN_pred O.2.2.2.2.1 O.2.2.2.2.2.1
  refine go_callF [(.int v4)] K H3 d26_15 ((O.2.2.1).1) (hw _ (List.mem_of_getElem? (i := 107) rfl)) (hw _ (List.mem_of_getElem? (i := 108) rfl)) (hw _ (List.mem_of_getElem? (i := 109) rfl)) (hw _ (List.mem_of_getElem? (i := 110) rfl)) (hw _ (List.mem_of_getElem? (i := 111) rfl)) (hw _ (List.mem_of_getElem? (i := 112) rfl)) (hw _ (List.mem_of_getElem? (i := 113) rfl)) (hw _ (List.mem_of_getElem? (i := 66) rfl)) (hw _ (List.mem_of_getElem? (i := 14) rfl)) (hw _ (List.mem_of_getElem? (i := 114) rfl)) (st' := []) (by decide) (rmGet Z a0 hw _ _ _ n0 (at_size K H3) _ _ _ (O.2.2.1) _ _ O.2.2.2.2.2.2.1 hv (by rw [hv, oN_toInt (by have := O.2.2.2.2.2.1; omega)]; have := O.2.2.2.2.1; omega)) pd7 rfl rfl rfl (by decide) (W := 0) rfl (by decide) (by decide) (by decide) fun T5 h5 v5 H5 q5 => ?_
  obtain ⟨z5, rfl, hz5, q1, rfl⟩ := q5
  show Go w _ _ 20 #[.val (.ref c), .val (.long u0), .second, .val (.long u1), .second, .unset, .unset, .unset] [z5]
  replace q1 := q1.symm; subst q1
  show Go w _ _ 20 #[.val (.ref c), .val (.long u0), .second, .val (.long u1), .second, .unset, .unset, .unset] [(.ref s)]
  refine go_checkcast K H5 d26_20 (hw _ (List.mem_of_getElem? (i := 38) rfl)) (Ins.self O.2.2.2.2.2.2.2.1.1) fun T6 HT6 => ?_
  refine go_astore K HT6 d26_23 rfl (L' := #[.val (.ref c), .val (.long u0), .second, .val (.long u1), .second, .val (.ref s), .unset, .unset]) rfl ?_
  refine go_aload K HT6 d26_25 rfl rfl ?_
  refine go_callV [] K HT6 d26_27 ((O.2.2.2.2.2.2.2.1).1) (hw _ (List.mem_of_getElem? (i := 129) rfl)) (hw _ (List.mem_of_getElem? (i := 130) rfl)) (nf_sel (hw _ (List.mem_of_getElem? (i := 132) rfl))) (hw _ (List.mem_of_getElem? (i := 132) rfl)) (hw _ (List.mem_of_getElem? (i := 131) rfl)) (hw _ (List.mem_of_getElem? (i := 40) rfl)) (hw _ (List.mem_of_getElem? (i := 133) rfl)) (st' := []) (by decide) (rmS0 Z a0 hw _ _ n0 (at_size K HT6) _ _ _ _ (O.2.2.2.2.2.2.2.1)) pd11 rfl rfl rfl (by decide) (W := 0) rfl (by decide) (by decide) (by decide) fun T7 h7 v7 H7 q7 => ?_
  obtain ⟨z7, rfl, b0, rfl⟩ := q7
  show Go w _ _ 30 #[.val (.ref c), .val (.long u0), .second, .val (.long u1), .second, .val (.ref s), .unset, .unset] [(.long z7)]
  replace b0 := b0.symm; subst b0
  show Go w _ _ 30 #[.val (.ref c), .val (.long u0), .second, .val (.long u1), .second, .val (.ref s), .unset, .unset] [(.long x0)]
  refine go_lloadN K H7 d26_30 rfl ?_
  refine go_lcmp K H7 d26_31 fun v8 ev8 => ?_
  refine go_if_ne K H7 d26_32 (fun cc => False.elim (by exact cc (by first | exact (lw_eq _ _).mpr hux.symm | (simp only [*]; exact (lw_eq _ _).mpr rfl)))) (fun cc => ?_)
  refine go_aloadN K H7 d26_35 rfl rfl ?_
  refine go_getfield K H7 d26_36 (host := "") (Or.inl (hw _ (List.mem_of_getElem? (i := 36) rfl))) Via.refl (O.2.1) fun T9 HT9 => ?_
  refine go_aloadN K HT9 d26_39 rfl rfl ?_
  refine go_getfield K HT9 d26_40 (host := "") (Or.inl (hw _ (List.mem_of_getElem? (i := 36) rfl))) Via.refl (O.2.1) fun T10 HT10 => ?_
  refine go_callF [] K HT10 d26_43 ((O.2.2.1).1) (hw _ (List.mem_of_getElem? (i := 99) rfl)) (hw _ (List.mem_of_getElem? (i := 100) rfl)) (hw _ (List.mem_of_getElem? (i := 101) rfl)) (hw _ (List.mem_of_getElem? (i := 102) rfl)) (hw _ (List.mem_of_getElem? (i := 103) rfl)) (hw _ (List.mem_of_getElem? (i := 104) rfl)) (hw _ (List.mem_of_getElem? (i := 105) rfl)) (hw _ (List.mem_of_getElem? (i := 66) rfl)) (hw _ (List.mem_of_getElem? (i := 14) rfl)) (hw _ (List.mem_of_getElem? (i := 106) rfl)) (st' := [(.ref l)]) (by decide) (rmSz Z a0 hw _ _ n0 (at_size K HT10) _ _ _ (O.2.2.1)) pd10 rfl rfl rfl (by decide) (W := 1) rfl (by decide) (by decide) (by decide) fun T11 h11 v11 H11 q11 => ?_
  obtain ⟨z11, rfl, q9, rfl⟩ := q11
  show Go w _ _ 48 #[.val (.ref c), .val (.long u0), .second, .val (.long u1), .second, .val (.ref s), .unset, .unset] [(.int z11), (.ref l)]
  replace q9 := q9.symm; subst q9
  show Go w _ _ 48 #[.val (.ref c), .val (.long u0), .second, .val (.long u1), .second, .val (.ref s), .unset, .unset] [(.int (oN n)), (.ref l)]
  refine go_iconst (1) K H11 d26_48 (by decide) ?_
  refine go_isub K H11 d26_49 fun v12 ev12 => ?_
  have hv9 : v12.toInt = ((n - 1 : Nat) : Int) := by rw [ev12]; exact oN_pred O.2.2.2.2.1 O.2.2.2.2.2.1
  refine go_new K H11 d26_50 (hw _ (List.mem_of_getElem? (i := 38) rfl)) (hw _ (List.mem_of_getElem? (i := 39) rfl)) (hw _ (List.mem_of_getElem? (i := 40) rfl)) (by decide) (by decide) fun T13 h13 t H13 g13 l13 E13 A13 D13 => ?_
  have nct : c ≠ t := Nat.ne_of_lt (g13 ▸ O.1.lt); have nlt : l ≠ t := Nat.ne_of_lt (g13 ▸ O.2.2.1.1.lt); have net : e ≠ t := Nat.ne_of_lt (g13 ▸ O.2.2.1.2.2.2.2.1.lt); have nst : s ≠ t := Nat.ne_of_lt (g13 ▸ O.2.2.2.2.2.2.2.1.1.lt)
  replace O := O.ext E13
  have gt0 : h0.size ≤ t := Nat.le_of_eq g13.symm
  have KK := E13.keep [e]
  refine go_dup K H13 d26_53 rfl ?_
  refine go_lloadN K H13 d26_54 rfl ?_
  refine go_aload K H13 d26_55 rfl rfl ?_
  refine go_callV [] K H13 d26_57 ((O.2.2.2.2.2.2.2.1).1) (hw _ (List.mem_of_getElem? (i := 134) rfl)) (hw _ (List.mem_of_getElem? (i := 135) rfl)) (nf_sel (hw _ (List.mem_of_getElem? (i := 137) rfl))) (hw _ (List.mem_of_getElem? (i := 137) rfl)) (hw _ (List.mem_of_getElem? (i := 136) rfl)) (hw _ (List.mem_of_getElem? (i := 40) rfl)) (hw _ (List.mem_of_getElem? (i := 138) rfl)) (st' := [(.long u0), (.ref t), (.ref t), (.int v12), (.ref l)]) (by decide) (rmS1 Z a0 hw _ _ n0 (at_size K H13) _ _ _ _ (O.2.2.2.2.2.2.2.1)) pd11 rfl rfl rfl (by decide) (W := 6) rfl (by decide) (by decide) (by decide) fun T14 h14 v14 H14 q14 => ?_
  obtain ⟨z14, rfl, b1, rfl⟩ := q14
  show Go w _ _ 60 #[.val (.ref c), .val (.long u0), .second, .val (.long u1), .second, .val (.ref s), .unset, .unset] [(.long z14), (.long u0), (.ref t), (.ref t), (.int v12), (.ref l)]
  replace b1 := b1.symm; subst b1
  show Go w _ _ 60 #[.val (.ref c), .val (.long u0), .second, .val (.long u1), .second, .val (.ref s), .unset, .unset] [(.long x1), (.long u0), (.ref t), (.ref t), (.int v12), (.ref l)]
  refine go_aload K H14 d26_60 rfl rfl ?_
  refine go_callV [] K H14 d26_62 ((O.2.2.2.2.2.2.2.1).1) (hw _ (List.mem_of_getElem? (i := 139) rfl)) (hw _ (List.mem_of_getElem? (i := 140) rfl)) (nf_sel (hw _ (List.mem_of_getElem? (i := 142) rfl))) (hw _ (List.mem_of_getElem? (i := 142) rfl)) (hw _ (List.mem_of_getElem? (i := 141) rfl)) (hw _ (List.mem_of_getElem? (i := 40) rfl)) (hw _ (List.mem_of_getElem? (i := 143) rfl)) (st' := [(.long x1), (.long u0), (.ref t), (.ref t), (.int v12), (.ref l)]) (by decide) (rmS2 Z a0 hw _ _ n0 (at_size K H14) _ _ _ _ (O.2.2.2.2.2.2.2.1)) pd11 rfl rfl rfl (by decide) (W := 8) rfl (by decide) (by decide) (by decide) fun T15 h15 v15 H15 q15 => ?_
  obtain ⟨z15, rfl, b2, rfl⟩ := q15
  show Go w _ _ 65 #[.val (.ref c), .val (.long u0), .second, .val (.long u1), .second, .val (.ref s), .unset, .unset] [(.long z15), (.long x1), (.long u0), (.ref t), (.ref t), (.int v12), (.ref l)]
  replace b2 := b2.symm; subst b2
  show Go w _ _ 65 #[.val (.ref c), .val (.long u0), .second, .val (.long u1), .second, .val (.ref s), .unset, .unset] [(.long x2), (.long x1), (.long u0), (.ref t), (.ref t), (.int v12), (.ref l)]
  refine go_lloadN K H15 d26_65 rfl ?_
  refine go_callIR [(.long u0), (.long x1), (.long x2), (.long u1)] K H15 d26_66 rfl (hw _ (List.mem_of_getElem? (i := 42) rfl)) (hw _ (List.mem_of_getElem? (i := 43) rfl)) (hw _ (List.mem_of_getElem? (i := 40) rfl)) (hw _ (List.mem_of_getElem? (i := 44) rfl)) (st' := [(.ref t), (.int v12), (.ref l)]) (by decide) (rmSG Z a0 hw _ _ _ _ _ _ n0 (at_size K H15) _ _ _ _ (D13 (Or.inr (hw _ (List.mem_of_getElem? (i := 52) rfl))) (ty := .long) (by decide)) (D13 (Or.inr (hw _ (List.mem_of_getElem? (i := 54) rfl))) (ty := .long) (by decide)) (D13 (Or.inr (hw _ (List.mem_of_getElem? (i := 56) rfl))) (ty := .long) (by decide)) (D13 (Or.inr (hw _ (List.mem_of_getElem? (i := 58) rfl))) (ty := .long) (by decide)) A13 l13) pd8 rfl rfl rfl (by decide) (W := 3) rfl (by decide) (by decide) (by decide) fun T16 h16 v16 H16 q16 => ?_
  obtain ⟨rfl, G, K2⟩ := q16
  show Go w _ _ 69 #[.val (.ref c), .val (.long u0), .second, .val (.long u1), .second, .val (.ref s), .unset, .unset] [(.ref t), (.int v12), (.ref l)]
  replace O := O.keep K2 (ninS nct nin0) (ninS nlt nin0) (ninS net nin0) (ninS nst nin0)
  replace KK := KK.trans K2 (fun x q => by cases List.mem_singleton.mp q; exact Or.inr gt0)
  refine go_callF [(.int v12), (.ref t)] K H16 d26_69 ((O.2.2.1).1) (hw _ (List.mem_of_getElem? (i := 144) rfl)) (hw _ (List.mem_of_getElem? (i := 145) rfl)) (hw _ (List.mem_of_getElem? (i := 146) rfl)) (hw _ (List.mem_of_getElem? (i := 147) rfl)) (hw _ (List.mem_of_getElem? (i := 148) rfl)) (hw _ (List.mem_of_getElem? (i := 149) rfl)) (hw _ (List.mem_of_getElem? (i := 150) rfl)) (hw _ (List.mem_of_getElem? (i := 66) rfl)) (hw _ (List.mem_of_getElem? (i := 14) rfl)) (hw _ (List.mem_of_getElem? (i := 151) rfl)) (st' := []) (by decide) (rmSet Z a0 hw _ _ _ _ n0 (at_size K H16) _ _ _ (O.2.2.1) _ _ O.2.2.2.2.2.2.1 hv9 (by rw [hv9, oN_toInt (by have := O.2.2.2.2.2.1; omega)]; have := O.2.2.2.2.1; omega) ge (Ins.of_exa G.1 (hw _ (List.mem_of_getElem? (i := 93) rfl)))) pd13 rfl rfl rfl (by decide) (W := 0) rfl (by decide) (by decide) (by decide) fun T17 h17 v17 H17 q17 => ?_
  obtain ⟨z17, rfl, hz17, OL, K3⟩ := q17
  show Go w _ _ 74 #[.val (.ref c), .val (.long u0), .second, .val (.long u1), .second, .val (.ref s), .unset, .unset] [z17]
  replace KK := KK.trans K3 (fun x q => Or.inl q)
  obtain ⟨a1, a2, a3, a4, a5, a6, a7, a8, b1, b2, b3, b4, b5⟩ := O
  refine go_pop K H17 d26_74 (cat_ref hz17) ?_
  refine go_goto K H17 d26_75 ?_
  exact go_ret K H17 d26_135 rfl (by decide) (by decide) (⟨t, gt0, ⟨a1.keep K3, a2.keep K3 (ninS b2 nin0), OL, by simpa using a4, a5, a6, (by rw [List.getElem?_set_self (lt_of_at a7)]), G.keep K3 (ninS net.symm nin0), b1, b2, nlt.symm, net.symm, nct.symm⟩, KK⟩)
set_option maxRecDepth 65536 in
set_option maxHeartbeats 40000000 in
theorem rmRA (Z : State) (a0 : Array Value) (hw : ∀ d ∈ tables_1, d.before a0 Z = true) (c : Addr) (u0 : Int64) (u1 : Int64) (h0 : Heap) (n0 : Nat) (Z0 : n0 ≤ h0.size) (l e : Addr) (n : Nat) (vs : List Value) (s : Addr) (x0 x1 x2 x3 : Int64) (O : CS Z h0 c l e n vs s x0 x1 x2 x3) (hux : u0 ≠ x0) (hn9 : n < 9) (gl : n0 ≤ l) (ge : n0 ≤ e) (r0 : 1 ≤ x3.toInt) (r1 : x3.toInt ≤ 4563402752) (f0 : 0 ≤ x2.toInt) (f1 : x2.toInt < 1000000000) (d0 : -9223372036854775808 ≤ u0.toInt - x0.toInt) (d1 : u0.toInt - x0.toInt < 9223372036854775808) (p0 : -9223372036854775808 ≤ (u0.toInt - x0.toInt) / 1000000000 * x3.toInt) (p1 : (u0.toInt - x0.toInt) / 1000000000 * x3.toInt < 9223372036854775808) (lau : Launch) :
    Con lau Z (⟨"com/example/bellwether/bellwether/testkit/SimulatedClock", "rate", "(JJ)V"⟩ : MethodName) prog_17_method_4_code 8 none ({ frames := 4, cells := 1, slots := 4, locals := 140 } : Room) #[(.ref c), (.long u0), (.long u1)] h0 n0 (RV fun h => ∃ t y1 y2, h0.size ≤ t ∧ CS Z h c l e (n + 1) (vs.set n (.ref t)) t u0 y1 y2 u1 ∧ (y1.toInt - (x1.toInt + ((u0.toInt - x0.toInt) * x3.toInt + x2.toInt) / 1000000000)) % 18446744073709551616 = 0 ∧ y2.toInt = ((u0.toInt - x0.toInt) * x3.toInt + x2.toInt) % 1000000000 ∧ Keep h0 h [l, e]) := by
  refine con_intro pn26 (L := #[.val (.ref c), .val (.long u0), .second, .val (.long u1), .second, .unset, .unset, .unset]) (fun m => by first | (simp [entryFrame, mkF, argsToLocals, Value.category, maxLocals]; done) | rfl) Z0 (fun w T K H => ?_)
  refine go_aloadN K H d26_0 rfl rfl ?_
  refine go_getfield K H d26_1 (host := "") (Or.inl (hw _ (List.mem_of_getElem? (i := 36) rfl))) Via.refl (O.2.1) fun T1 HT1 => ?_
  refine go_aloadN K HT1 d26_4 rfl rfl ?_
  refine go_getfield K HT1 d26_5 (host := "") (Or.inl (hw _ (List.mem_of_getElem? (i := 36) rfl))) Via.refl (O.2.1) fun T2 HT2 => ?_
  refine go_callF [] K HT2 d26_8 ((O.2.2.1).1) (hw _ (List.mem_of_getElem? (i := 99) rfl)) (hw _ (List.mem_of_getElem? (i := 100) rfl)) (hw _ (List.mem_of_getElem? (i := 101) rfl)) (hw _ (List.mem_of_getElem? (i := 102) rfl)) (hw _ (List.mem_of_getElem? (i := 103) rfl)) (hw _ (List.mem_of_getElem? (i := 104) rfl)) (hw _ (List.mem_of_getElem? (i := 105) rfl)) (hw _ (List.mem_of_getElem? (i := 66) rfl)) (hw _ (List.mem_of_getElem? (i := 14) rfl)) (hw _ (List.mem_of_getElem? (i := 106) rfl)) (st' := [(.ref l)]) (by decide) (rmSz Z a0 hw _ _ n0 (at_size K HT2) _ _ _ (O.2.2.1)) pd10 rfl rfl rfl (by decide) (W := 1) rfl (by decide) (by decide) (by decide) fun T3 h3 v3 H3 q3 => ?_
  obtain ⟨z3, rfl, q0, rfl⟩ := q3
  show Go w _ _ 13 #[.val (.ref c), .val (.long u0), .second, .val (.long u1), .second, .unset, .unset, .unset] [(.int z3), (.ref l)]
  replace q0 := q0.symm; subst q0
  show Go w _ _ 13 #[.val (.ref c), .val (.long u0), .second, .val (.long u1), .second, .unset, .unset, .unset] [(.int (oN n)), (.ref l)]
  refine go_iconst (1) K H3 d26_13 (by decide) ?_
  refine go_isub K H3 d26_14 fun v4 ev4 => ?_
  have fv4 := f_isub ev4
  have rv4 := rng32 v4
  have hv : v4.toInt = ((n - 1 : Nat) : Int) := by rw [ev4]; exact oN_pred O.2.2.2.2.1 O.2.2.2.2.2.1
  refine go_callF [(.int v4)] K H3 d26_15 ((O.2.2.1).1) (hw _ (List.mem_of_getElem? (i := 107) rfl)) (hw _ (List.mem_of_getElem? (i := 108) rfl)) (hw _ (List.mem_of_getElem? (i := 109) rfl)) (hw _ (List.mem_of_getElem? (i := 110) rfl)) (hw _ (List.mem_of_getElem? (i := 111) rfl)) (hw _ (List.mem_of_getElem? (i := 112) rfl)) (hw _ (List.mem_of_getElem? (i := 113) rfl)) (hw _ (List.mem_of_getElem? (i := 66) rfl)) (hw _ (List.mem_of_getElem? (i := 14) rfl)) (hw _ (List.mem_of_getElem? (i := 114) rfl)) (st' := []) (by decide) (rmGet Z a0 hw _ _ _ n0 (at_size K H3) _ _ _ (O.2.2.1) _ _ O.2.2.2.2.2.2.1 hv (by rw [hv, oN_toInt (by have := O.2.2.2.2.2.1; omega)]; have := O.2.2.2.2.1; omega)) pd7 rfl rfl rfl (by decide) (W := 0) rfl (by decide) (by decide) (by decide) fun T5 h5 v5 H5 q5 => ?_
  obtain ⟨z5, rfl, hz5, q1, rfl⟩ := q5
  show Go w _ _ 20 #[.val (.ref c), .val (.long u0), .second, .val (.long u1), .second, .unset, .unset, .unset] [z5]
  replace q1 := q1.symm; subst q1
  show Go w _ _ 20 #[.val (.ref c), .val (.long u0), .second, .val (.long u1), .second, .unset, .unset, .unset] [(.ref s)]
  refine go_checkcast K H5 d26_20 (hw _ (List.mem_of_getElem? (i := 38) rfl)) (Ins.self O.2.2.2.2.2.2.2.1.1) fun T6 HT6 => ?_
  refine go_astore K HT6 d26_23 rfl (L' := #[.val (.ref c), .val (.long u0), .second, .val (.long u1), .second, .val (.ref s), .unset, .unset]) rfl ?_
  refine go_aload K HT6 d26_25 rfl rfl ?_
  refine go_callV [] K HT6 d26_27 ((O.2.2.2.2.2.2.2.1).1) (hw _ (List.mem_of_getElem? (i := 129) rfl)) (hw _ (List.mem_of_getElem? (i := 130) rfl)) (nf_sel (hw _ (List.mem_of_getElem? (i := 132) rfl))) (hw _ (List.mem_of_getElem? (i := 132) rfl)) (hw _ (List.mem_of_getElem? (i := 131) rfl)) (hw _ (List.mem_of_getElem? (i := 40) rfl)) (hw _ (List.mem_of_getElem? (i := 133) rfl)) (st' := []) (by decide) (rmS0 Z a0 hw _ _ n0 (at_size K HT6) _ _ _ _ (O.2.2.2.2.2.2.2.1)) pd11 rfl rfl rfl (by decide) (W := 0) rfl (by decide) (by decide) (by decide) fun T7 h7 v7 H7 q7 => ?_
  obtain ⟨z7, rfl, b0, rfl⟩ := q7
  show Go w _ _ 30 #[.val (.ref c), .val (.long u0), .second, .val (.long u1), .second, .val (.ref s), .unset, .unset] [(.long z7)]
  replace b0 := b0.symm; subst b0
  show Go w _ _ 30 #[.val (.ref c), .val (.long u0), .second, .val (.long u1), .second, .val (.ref s), .unset, .unset] [(.long x0)]
  refine go_lloadN K H7 d26_30 rfl ?_
  refine go_lcmp K H7 d26_31 fun v8 ev8 => ?_
  have fv8 := f_lcmp ev8
  refine go_if_ne K H7 d26_32 (fun cc => ?_) (fun cc => False.elim (by apply hux; apply Int64.toInt_inj.mp; (try simp only [or_true, true_or, and_true, true_and, not_true_eq_false, not_false_eq_true, Int32.lt_iff_toInt_lt, Int32.le_iff_toInt_le, ← Int32.toInt_inj, Int64.lt_iff_toInt_lt, Int64.le_iff_toInt_le, ← Int64.toInt_inj, Int32.reduceToInt, Int64.reduceToInt, ne_eq] at *) <;> omega))
  refine go_lloadN K H7 d26_78 rfl ?_
  refine go_aload K H7 d26_79 rfl rfl ?_
  refine go_callV [] K H7 d26_81 ((O.2.2.2.2.2.2.2.1).1) (hw _ (List.mem_of_getElem? (i := 129) rfl)) (hw _ (List.mem_of_getElem? (i := 130) rfl)) (nf_sel (hw _ (List.mem_of_getElem? (i := 132) rfl))) (hw _ (List.mem_of_getElem? (i := 132) rfl)) (hw _ (List.mem_of_getElem? (i := 131) rfl)) (hw _ (List.mem_of_getElem? (i := 40) rfl)) (hw _ (List.mem_of_getElem? (i := 133) rfl)) (st' := [(.long u0)]) (by decide) (rmS0 Z a0 hw _ _ n0 (at_size K H7) _ _ _ _ (O.2.2.2.2.2.2.2.1)) pd11 rfl rfl rfl (by decide) (W := 2) rfl (by decide) (by decide) (by decide) fun T9 h9 v9 H9 q9 => ?_
  obtain ⟨z9, rfl, b7, rfl⟩ := q9
  show Go w _ _ 84 #[.val (.ref c), .val (.long u0), .second, .val (.long u1), .second, .val (.ref s), .unset, .unset] [(.long z9), (.long u0)]
  replace b7 := b7.symm; subst b7
  show Go w _ _ 84 #[.val (.ref c), .val (.long u0), .second, .val (.long u1), .second, .val (.ref s), .unset, .unset] [(.long x0), (.long u0)]
  refine go_lsub K H9 d26_84 fun v10 ev10 => ?_
  have fv10 := f_lsub ev10
  have rv10 := rng64 v10
  refine go_ldcL (1000000000) K H9 d26_85 (hw _ (List.mem_of_getElem? (i := 41) rfl)) ?_
  have hd : v10.toInt = u0.toInt - x0.toInt := by have := rng64 v10; omega
  have cb := carry_bd (D := u0.toInt - x0.toInt) r0 r1 f0 f1
  refine go_callS [(.long v10), (.long (1000000000))] K H9 d26_88 (hw _ (List.mem_of_getElem? (i := 152) rfl)) (hw _ (List.mem_of_getElem? (i := 153) rfl)) (hw _ (List.mem_of_getElem? (i := 89) rfl)) (hw _ (List.mem_of_getElem? (i := 154) rfl)) (st' := []) (by decide) (rmFM Z a0 hw _ _ _ n0 (at_size K H9) (by decide)) pd12 rfl rfl rfl (by decide) (W := 0) rfl (by decide) (by decide) (by decide) fun T11 h11 v11 H11 q11 => ?_
  obtain ⟨z11, rfl, m1, rfl⟩ := q11
  show Go w _ _ 91 #[.val (.ref c), .val (.long u0), .second, .val (.long u1), .second, .val (.ref s), .unset, .unset] [(.long z11)]
  refine go_aload K H11 d26_91 rfl rfl ?_
  refine go_callV [] K H11 d26_93 ((O.2.2.2.2.2.2.2.1).1) (hw _ (List.mem_of_getElem? (i := 155) rfl)) (hw _ (List.mem_of_getElem? (i := 156) rfl)) (nf_sel (hw _ (List.mem_of_getElem? (i := 158) rfl))) (hw _ (List.mem_of_getElem? (i := 158) rfl)) (hw _ (List.mem_of_getElem? (i := 157) rfl)) (hw _ (List.mem_of_getElem? (i := 40) rfl)) (hw _ (List.mem_of_getElem? (i := 159) rfl)) (st' := [(.long z11)]) (by decide) (rmS3 Z a0 hw _ _ n0 (at_size K H11) _ _ _ _ (O.2.2.2.2.2.2.2.1)) pd11 rfl rfl rfl (by decide) (W := 2) rfl (by decide) (by decide) (by decide) fun T12 h12 v12 H12 q12 => ?_
  obtain ⟨z12, rfl, b3, rfl⟩ := q12
  show Go w _ _ 96 #[.val (.ref c), .val (.long u0), .second, .val (.long u1), .second, .val (.ref s), .unset, .unset] [(.long z12), (.long z11)]
  replace b3 := b3.symm; subst b3
  show Go w _ _ 96 #[.val (.ref c), .val (.long u0), .second, .val (.long u1), .second, .val (.ref s), .unset, .unset] [(.long x3), (.long z11)]
  refine go_lmul K H12 d26_96 fun v13 ev13 => ?_
  have fv13 := f_lmul ev13
  have rv13 := rng64 v13
  refine go_aload K H12 d26_97 rfl rfl ?_
  refine go_callV [] K H12 d26_99 ((O.2.2.2.2.2.2.2.1).1) (hw _ (List.mem_of_getElem? (i := 139) rfl)) (hw _ (List.mem_of_getElem? (i := 140) rfl)) (nf_sel (hw _ (List.mem_of_getElem? (i := 142) rfl))) (hw _ (List.mem_of_getElem? (i := 142) rfl)) (hw _ (List.mem_of_getElem? (i := 141) rfl)) (hw _ (List.mem_of_getElem? (i := 40) rfl)) (hw _ (List.mem_of_getElem? (i := 143) rfl)) (st' := [(.long v13)]) (by decide) (rmS2 Z a0 hw _ _ n0 (at_size K H12) _ _ _ _ (O.2.2.2.2.2.2.2.1)) pd11 rfl rfl rfl (by decide) (W := 2) rfl (by decide) (by decide) (by decide) fun T14 h14 v14 H14 q14 => ?_
  obtain ⟨z14, rfl, b2, rfl⟩ := q14
  show Go w _ _ 102 #[.val (.ref c), .val (.long u0), .second, .val (.long u1), .second, .val (.ref s), .unset, .unset] [(.long z14), (.long v13)]
  replace b2 := b2.symm; subst b2
  show Go w _ _ 102 #[.val (.ref c), .val (.long u0), .second, .val (.long u1), .second, .val (.ref s), .unset, .unset] [(.long x2), (.long v13)]
  refine go_ladd K H14 d26_102 fun v15 ev15 => ?_
  have fv15 := f_ladd ev15
  have rv15 := rng64 v15
  refine go_lstore K H14 d26_103 (L' := #[.val (.ref c), .val (.long u0), .second, .val (.long u1), .second, .val (.ref s), .val (.long v15), .second]) rfl ?_
  refine go_aloadN K H14 d26_105 rfl rfl ?_
  have m1' : z11.toInt = (u0.toInt - x0.toInt) % 1000000000 := by rw [m1, hd]; rfl
  have hc : v15.toInt = ((u0.toInt - x0.toInt) % 1000000000) * x3.toInt + x2.toInt := by have q := fv13; rw [m1'] at q; generalize ((u0.toInt - x0.toInt) % 1000000000) * x3.toInt = P at *; have := rng64 v15; omega
  refine go_getfield K H14 d26_106 (host := "") (Or.inl (hw _ (List.mem_of_getElem? (i := 36) rfl))) Via.refl (O.2.1) fun T16 HT16 => ?_
  refine go_new K HT16 d26_109 (hw _ (List.mem_of_getElem? (i := 38) rfl)) (hw _ (List.mem_of_getElem? (i := 39) rfl)) (hw _ (List.mem_of_getElem? (i := 40) rfl)) (by decide) (by decide) fun T17 h17 t H17 g17 l17 E17 A17 D17 => ?_
  have nct : c ≠ t := Nat.ne_of_lt (g17 ▸ O.1.lt); have nlt : l ≠ t := Nat.ne_of_lt (g17 ▸ O.2.2.1.1.lt); have net : e ≠ t := Nat.ne_of_lt (g17 ▸ O.2.2.1.2.2.2.2.1.lt); have nst : s ≠ t := Nat.ne_of_lt (g17 ▸ O.2.2.2.2.2.2.2.1.1.lt)
  replace O := O.ext E17
  have gt0 : h0.size ≤ t := Nat.le_of_eq g17.symm
  have KK := E17.keep [l, e]
  refine go_dup K H17 d26_112 rfl ?_
  refine go_lloadN K H17 d26_113 rfl ?_
  refine go_aloadN K H17 d26_114 rfl rfl ?_
  refine go_lloadN K H17 d26_115 rfl ?_
  refine go_callV [(.long u0)] K H17 d26_116 (O.1) (hw _ (List.mem_of_getElem? (i := 160) rfl)) (hw _ (List.mem_of_getElem? (i := 161) rfl)) (nf_sel (hw _ (List.mem_of_getElem? (i := 163) rfl))) (hw _ (List.mem_of_getElem? (i := 163) rfl)) (hw _ (List.mem_of_getElem? (i := 162) rfl)) (hw _ (List.mem_of_getElem? (i := 5) rfl)) (hw _ (List.mem_of_getElem? (i := 164) rfl)) (st' := [(.long u0), (.ref t), (.ref t), (.ref l)]) (by decide) (rmRd Z a0 hw _ _ _ n0 (at_size K H17) _ _ _ _ _ _ _ _ _ O r0 r1 f0 f1 d0 d1 p0 p1) pd0 rfl rfl rfl (by decide) (W := 5) rfl (by decide) (by decide) (by decide) fun T18 h18 v18 H18 q18 => ?_
  obtain ⟨z18, rfl, m4, rfl⟩ := q18
  show Go w _ _ 119 #[.val (.ref c), .val (.long u0), .second, .val (.long u1), .second, .val (.ref s), .val (.long v15), .second] [(.long z18), (.long u0), (.ref t), (.ref t), (.ref l)]
  refine go_lload K H18 d26_119 rfl ?_
  refine go_ldcL (1000000000) K H18 d26_121 (hw _ (List.mem_of_getElem? (i := 41) rfl)) ?_
  refine go_lrem K H18 d26_124 (by decide) fun v19 ev19 => ?_
  have fv19 := f_lrem 1000000000 ev19 (by decide)
  refine go_lloadN K H18 d26_125 rfl ?_
  have h5 : v19.toInt = ((u0.toInt - x0.toInt) * x3.toInt + x2.toInt) % 1000000000 := by rw [← frac_plain, ← hc]; exact fv19.1 (by rw [hc]; omega)
  refine go_callIR [(.long u0), (.long z18), (.long v19), (.long u1)] K H18 d26_126 rfl (hw _ (List.mem_of_getElem? (i := 42) rfl)) (hw _ (List.mem_of_getElem? (i := 43) rfl)) (hw _ (List.mem_of_getElem? (i := 40) rfl)) (hw _ (List.mem_of_getElem? (i := 44) rfl)) (st' := [(.ref t), (.ref l)]) (by decide) (rmSG Z a0 hw _ _ _ _ _ _ n0 (at_size K H18) _ _ _ _ (D17 (Or.inr (hw _ (List.mem_of_getElem? (i := 52) rfl))) (ty := .long) (by decide)) (D17 (Or.inr (hw _ (List.mem_of_getElem? (i := 54) rfl))) (ty := .long) (by decide)) (D17 (Or.inr (hw _ (List.mem_of_getElem? (i := 56) rfl))) (ty := .long) (by decide)) (D17 (Or.inr (hw _ (List.mem_of_getElem? (i := 58) rfl))) (ty := .long) (by decide)) A17 l17) pd8 rfl rfl rfl (by decide) (W := 2) rfl (by decide) (by decide) (by decide) fun T20 h20 v20 H20 q20 => ?_
  obtain ⟨rfl, G, K2⟩ := q20
  show Go w _ _ 129 #[.val (.ref c), .val (.long u0), .second, .val (.long u1), .second, .val (.ref s), .val (.long v15), .second] [(.ref t), (.ref l)]
  replace O := O.keep K2 (ninS nct nin0) (ninS nlt nin0) (ninS net nin0) (ninS nst nin0)
  replace KK := KK.trans K2 (fun x q => by cases List.mem_singleton.mp q; exact Or.inr gt0)
  refine go_callF [(.ref t)] K H20 d26_129 (O.2.2.1.1) (hw _ (List.mem_of_getElem? (i := 59) rfl)) (hw _ (List.mem_of_getElem? (i := 60) rfl)) (hw _ (List.mem_of_getElem? (i := 61) rfl)) (hw _ (List.mem_of_getElem? (i := 62) rfl)) (hw _ (List.mem_of_getElem? (i := 63) rfl)) (hw _ (List.mem_of_getElem? (i := 64) rfl)) (hw _ (List.mem_of_getElem? (i := 65) rfl)) (hw _ (List.mem_of_getElem? (i := 66) rfl)) (hw _ (List.mem_of_getElem? (i := 14) rfl)) (hw _ (List.mem_of_getElem? (i := 67) rfl)) (st' := []) (by decide) (rmAdd Z a0 hw _ _ _ n0 (at_size K H20) _ _ _ O.2.2.1 O.2.2.2.1 (by omega) gl ge (Ins.of_exa G.1 (hw _ (List.mem_of_getElem? (i := 93) rfl)))) pd9 rfl rfl rfl (by decide) (W := 0) rfl (by decide) (by decide) (by decide) fun T21 h21 v21 H21 q21 => ?_
  obtain ⟨z21, rfl, q8, OL, K3⟩ := q21
  show Go w _ _ 134 #[.val (.ref c), .val (.long u0), .second, .val (.long u1), .second, .val (.ref s), .val (.long v15), .second] [(.int z21)]
  replace KK := KK.trans K3 (fun x q => Or.inl q)
  obtain ⟨a1, a2, a3, a4, a5, a6, a7, a8, b1, b2, b3, b4, b5⟩ := O
  refine go_pop K H21 d26_134 rfl ?_
  exact go_ret K H21 d26_135 rfl (by decide) (by decide) (⟨t, _, _, gt0, ⟨a1.keep K3, a2.keep K3 (ninS b1 (ninS b2 nin0)), OL, by simpa using a4, by omega, by omega, (by rw [Nat.add_sub_cancel, List.getElem?_set_self (by omega)]), G.keep K3 (ninS nlt.symm (ninS net.symm nin0)), b1, b2, nlt.symm, net.symm, nct.symm⟩, m4, h5, KK⟩)
set_option maxRecDepth 65536 in
set_option maxHeartbeats 40000000 in
theorem rmT1 (Z : State) (a0 : Array Value) (hw : ∀ d ∈ tables_1, d.before a0 Z = true) (c : Addr) (u0 : Int64) (h0 : Heap) (n0 : Nat) (Z0 : n0 ≤ h0.size) (l e : Addr) (vs : List Value) (F : Fld Z h0 c "com/example/bellwether/bellwether/testkit/SimulatedClock" "segments" "Ljava/util/List;" (.ref l)) (A : AL1 Z h0 l e 1 vs) (s : Addr) (hi0 : vs[0]? = some (.ref s)) (z0 z1 z2 z3 : Int64)(G : Sg Z h0 s z0 z1 z2 z3) (r0 : 268435456 ≤ z3.toInt) (r1 : z3.toInt ≤ 4563402752) (f0 : 0 ≤ z2.toInt) (f1 : z2.toInt < 1000000000) (w0 : -4503599627370496 < u0.toInt - z1.toInt) (w1 : u0.toInt - z1.toInt < 4503599627370496) (b0 : 0 ≤ z0.toInt) (b1 : z0.toInt ≤ 1099511627776) (lau : Launch) :
    Con lau Z (⟨"com/example/bellwether/bellwether/testkit/SimulatedClock", "realTime", "(J)J"⟩ : MethodName) prog_17_method_5_code 12 (some .long) ({ frames := 3, cells := 0, slots := 0, locals := 100 } : Room) #[(.ref c), (.long u0)] h0 n0 (RL fun z h => (∃ dd : Int, z.toInt = z0.toInt + dd ∧ (u0.toInt - z1.toInt) * 1000000000 ≤ dd * z3.toInt + z2.toInt ∧ (dd - 1) * z3.toInt + z2.toInt < (u0.toInt - z1.toInt) * 1000000000 ∧ -17000000000000000 < dd ∧ dd < 17000000000000000) ∧ h0 = h) := by
  refine con_intro pn27 (L := #[.val (.ref c), .val (.long u0), .second, .unset, .unset, .unset, .unset, .unset, .unset, .unset, .unset, .unset]) (fun m => by first | (simp [entryFrame, mkF, argsToLocals, Value.category, maxLocals]; done) | rfl) Z0 (fun w T K H => ?_)
  refine go_iconst (0) K H d27_0 (by decide) ?_
  refine go_istoreN K H d27_1 (L' := #[.val (.ref c), .val (.long u0), .second, .val (.int 0), .unset, .unset, .unset, .unset, .unset, .unset, .unset, .unset]) rfl ?_
  refine go_aloadN K H d27_2 rfl rfl ?_
  refine go_getfield K H d27_3 (host := "") (Or.inl (hw _ (List.mem_of_getElem? (i := 36) rfl))) Via.refl (F) fun T1 HT1 => ?_
  refine go_callF [] K HT1 d27_6 (A.1) (hw _ (List.mem_of_getElem? (i := 99) rfl)) (hw _ (List.mem_of_getElem? (i := 100) rfl)) (hw _ (List.mem_of_getElem? (i := 101) rfl)) (hw _ (List.mem_of_getElem? (i := 102) rfl)) (hw _ (List.mem_of_getElem? (i := 103) rfl)) (hw _ (List.mem_of_getElem? (i := 104) rfl)) (hw _ (List.mem_of_getElem? (i := 105) rfl)) (hw _ (List.mem_of_getElem? (i := 66) rfl)) (hw _ (List.mem_of_getElem? (i := 14) rfl)) (hw _ (List.mem_of_getElem? (i := 106) rfl)) (st' := []) (by decide) (rmSz Z a0 hw _ _ n0 (at_size K HT1) _ _ _ A) pd10 rfl rfl rfl (by decide) (W := 0) rfl (by decide) (by decide) (by decide) fun T2 h2 v2 H2 q2 => ?_
  obtain ⟨z2, rfl, q0, rfl⟩ := q2
  show Go w _ _ 11 #[.val (.ref c), .val (.long u0), .second, .val (.int 0), .unset, .unset, .unset, .unset, .unset, .unset, .unset, .unset] [(.int z2)]
  replace q0 := q0.symm; subst q0
  show Go w _ _ 11 #[.val (.ref c), .val (.long u0), .second, .val (.int 0), .unset, .unset, .unset, .unset, .unset, .unset, .unset, .unset] [(.int 1)]
  refine go_iconst (1) K H2 d27_11 (by decide) ?_
  refine go_isub K H2 d27_12 fun v3 ev3 => ?_
  obtain rfl : v3 = (0 : Int32) := ev3.trans (by decide)
  refine go_istore K H2 d27_13 (L' := #[.val (.ref c), .val (.long u0), .second, .val (.int 0), .val (.int 0), .unset, .unset, .unset, .unset, .unset, .unset, .unset]) rfl ?_
  refine go_iloadN K H2 d27_15 rfl ?_
  refine go_iload K H2 d27_16 rfl ?_
  refine go_icmp_ge K H2 d27_18 (fun cc => ?_) (fun cc => False.elim (by revert cc; decide))
  refine go_aloadN K H2 d27_68 rfl rfl ?_
  refine go_getfield K H2 d27_69 (host := "") (Or.inl (hw _ (List.mem_of_getElem? (i := 36) rfl))) Via.refl (F) fun T4 HT4 => ?_
  refine go_iloadN K HT4 d27_72 rfl ?_
  refine go_callF [(.int 0)] K HT4 d27_73 (A.1) (hw _ (List.mem_of_getElem? (i := 107) rfl)) (hw _ (List.mem_of_getElem? (i := 108) rfl)) (hw _ (List.mem_of_getElem? (i := 109) rfl)) (hw _ (List.mem_of_getElem? (i := 110) rfl)) (hw _ (List.mem_of_getElem? (i := 111) rfl)) (hw _ (List.mem_of_getElem? (i := 112) rfl)) (hw _ (List.mem_of_getElem? (i := 113) rfl)) (hw _ (List.mem_of_getElem? (i := 66) rfl)) (hw _ (List.mem_of_getElem? (i := 14) rfl)) (hw _ (List.mem_of_getElem? (i := 114) rfl)) (st' := []) (by decide) (rmGet Z a0 hw _ _ _ n0 (at_size K HT4) _ _ _ A _ _ hi0 (by decide) (by decide)) pd7 rfl rfl rfl (by decide) (W := 0) rfl (by decide) (by decide) (by decide) fun T5 h5 v5 H5 q5 => ?_
  obtain ⟨z5, rfl, hz5, q1, rfl⟩ := q5
  show Go w _ _ 78 #[.val (.ref c), .val (.long u0), .second, .val (.int 0), .val (.int 0), .unset, .unset, .unset, .unset, .unset, .unset, .unset] [z5]
  replace q1 := q1.symm; subst q1
  show Go w _ _ 78 #[.val (.ref c), .val (.long u0), .second, .val (.int 0), .val (.int 0), .unset, .unset, .unset, .unset, .unset, .unset, .unset] [(.ref s)]
  refine go_checkcast K H5 d27_78 (hw _ (List.mem_of_getElem? (i := 38) rfl)) (Ins.self G.1) fun T6 HT6 => ?_
  refine go_astore K HT6 d27_81 rfl (L' := #[.val (.ref c), .val (.long u0), .second, .val (.int 0), .val (.int 0), .val (.ref s), .unset, .unset, .unset, .unset, .unset, .unset]) rfl ?_
  refine go_lloadN K HT6 d27_83 rfl ?_
  refine go_aload K HT6 d27_84 rfl rfl ?_
  refine go_callV [] K HT6 d27_86 (G.1) (hw _ (List.mem_of_getElem? (i := 134) rfl)) (hw _ (List.mem_of_getElem? (i := 135) rfl)) (nf_sel (hw _ (List.mem_of_getElem? (i := 137) rfl))) (hw _ (List.mem_of_getElem? (i := 137) rfl)) (hw _ (List.mem_of_getElem? (i := 136) rfl)) (hw _ (List.mem_of_getElem? (i := 40) rfl)) (hw _ (List.mem_of_getElem? (i := 138) rfl)) (st' := [(.long u0)]) (by decide) (rmS1 Z a0 hw _ _ n0 (at_size K HT6) _ _ _ _ G) pd11 rfl rfl rfl (by decide) (W := 2) rfl (by decide) (by decide) (by decide) fun T7 h7 v7 H7 q7 => ?_
  obtain ⟨z7, rfl, b1_, rfl⟩ := q7
  show Go w _ _ 89 #[.val (.ref c), .val (.long u0), .second, .val (.int 0), .val (.int 0), .val (.ref s), .unset, .unset, .unset, .unset, .unset, .unset] [(.long z7), (.long u0)]
  replace b1_ := b1_.symm; subst b1_
  show Go w _ _ 89 #[.val (.ref c), .val (.long u0), .second, .val (.int 0), .val (.int 0), .val (.ref s), .unset, .unset, .unset, .unset, .unset, .unset] [(.long z1), (.long u0)]
  refine go_lsub K H7 d27_89 fun v8 ev8 => ?_
  have fv8 := f_lsub ev8
  have rv8 := rng64 v8
  refine go_lstore K H7 d27_90 (L' := #[.val (.ref c), .val (.long u0), .second, .val (.int 0), .val (.int 0), .val (.ref s), .val (.long v8), .second, .unset, .unset, .unset, .unset]) rfl ?_
  refine go_lload K H7 d27_92 rfl ?_
  refine go_aload K H7 d27_94 rfl rfl ?_
  have hwv : v8.toInt = u0.toInt - z1.toInt := by have := rng64 v8; omega
  generalize hW : u0.toInt - z1.toInt = W at *
  have bq := rt_q r0 w0 w1; have bm0 := Int.emod_nonneg W (show z3.toInt ≠ 0 by omega); have bm1 := Int.emod_lt_of_pos W (show 0 < z3.toInt by omega); have bc := rt_c r0 bm0 bm1 f0 f1
  refine go_callV [] K H7 d27_96 (G.1) (hw _ (List.mem_of_getElem? (i := 155) rfl)) (hw _ (List.mem_of_getElem? (i := 156) rfl)) (nf_sel (hw _ (List.mem_of_getElem? (i := 158) rfl))) (hw _ (List.mem_of_getElem? (i := 158) rfl)) (hw _ (List.mem_of_getElem? (i := 157) rfl)) (hw _ (List.mem_of_getElem? (i := 40) rfl)) (hw _ (List.mem_of_getElem? (i := 159) rfl)) (st' := [(.long v8)]) (by decide) (rmS3 Z a0 hw _ _ n0 (at_size K H7) _ _ _ _ G) pd11 rfl rfl rfl (by decide) (W := 2) rfl (by decide) (by decide) (by decide) fun T9 h9 v9 H9 q9 => ?_
  obtain ⟨z9, rfl, b3_, rfl⟩ := q9
  show Go w _ _ 99 #[.val (.ref c), .val (.long u0), .second, .val (.int 0), .val (.int 0), .val (.ref s), .val (.long v8), .second, .unset, .unset, .unset, .unset] [(.long z9), (.long v8)]
  replace b3_ := b3_.symm; subst b3_
  show Go w _ _ 99 #[.val (.ref c), .val (.long u0), .second, .val (.int 0), .val (.int 0), .val (.ref s), .val (.long v8), .second, .unset, .unset, .unset, .unset] [(.long z3), (.long v8)]
  refine go_callS [(.long v8), (.long z3)] K H9 d27_99 (hw _ (List.mem_of_getElem? (i := 165) rfl)) (hw _ (List.mem_of_getElem? (i := 166) rfl)) (hw _ (List.mem_of_getElem? (i := 89) rfl)) (hw _ (List.mem_of_getElem? (i := 167) rfl)) (st' := []) (by decide) (rmFD Z a0 hw _ _ _ n0 (at_size K H9) (by omega)) pd12 rfl rfl rfl (by decide) (W := 0) rfl (by decide) (by decide) (by decide) fun T10 h10 v10 H10 q10 => ?_
  obtain ⟨z10, rfl, m1, rfl⟩ := q10
  show Go w _ _ 102 #[.val (.ref c), .val (.long u0), .second, .val (.int 0), .val (.int 0), .val (.ref s), .val (.long v8), .second, .unset, .unset, .unset, .unset] [(.long z10)]
  rw [hwv] at m1
  refine go_ldcL (1000000000) K H10 d27_102 (hw _ (List.mem_of_getElem? (i := 41) rfl)) ?_
  refine go_callS [(.long z10), (.long (1000000000))] K H10 d27_105 (hw _ (List.mem_of_getElem? (i := 168) rfl)) (hw _ (List.mem_of_getElem? (i := 169) rfl)) (hw _ (List.mem_of_getElem? (i := 89) rfl)) (hw _ (List.mem_of_getElem? (i := 170) rfl)) (st' := []) (by decide) (rmMX Z a0 hw _ _ _ n0 (at_size K H10) (by rw [m1, show (1000000000 : Int64).toInt = 1000000000 from rfl]; omega) (by rw [m1, show (1000000000 : Int64).toInt = 1000000000 from rfl]; omega) (by omega)) pd12 rfl rfl rfl (by decide) (W := 0) rfl (by decide) (by decide) (by decide) fun T11 h11 v11 H11 q11 => ?_
  obtain ⟨z11, rfl, m2, rfl⟩ := q11
  show Go w _ _ 108 #[.val (.ref c), .val (.long u0), .second, .val (.int 0), .val (.int 0), .val (.ref s), .val (.long v8), .second, .unset, .unset, .unset, .unset] [(.long z11)]
  rw [m1, show (1000000000 : Int64).toInt = 1000000000 from rfl] at m2
  refine go_lstore K H11 d27_108 (L' := #[.val (.ref c), .val (.long u0), .second, .val (.int 0), .val (.int 0), .val (.ref s), .val (.long v8), .second, .val (.long z11), .second, .unset, .unset]) rfl ?_
  refine go_lload K H11 d27_110 rfl ?_
  refine go_aload K H11 d27_112 rfl rfl ?_
  refine go_callV [] K H11 d27_114 (G.1) (hw _ (List.mem_of_getElem? (i := 155) rfl)) (hw _ (List.mem_of_getElem? (i := 156) rfl)) (nf_sel (hw _ (List.mem_of_getElem? (i := 158) rfl))) (hw _ (List.mem_of_getElem? (i := 158) rfl)) (hw _ (List.mem_of_getElem? (i := 157) rfl)) (hw _ (List.mem_of_getElem? (i := 40) rfl)) (hw _ (List.mem_of_getElem? (i := 159) rfl)) (st' := [(.long v8)]) (by decide) (rmS3 Z a0 hw _ _ n0 (at_size K H11) _ _ _ _ G) pd11 rfl rfl rfl (by decide) (W := 2) rfl (by decide) (by decide) (by decide) fun T12 h12 v12 H12 q12 => ?_
  obtain ⟨z12, rfl, b4_, rfl⟩ := q12
  show Go w _ _ 117 #[.val (.ref c), .val (.long u0), .second, .val (.int 0), .val (.int 0), .val (.ref s), .val (.long v8), .second, .val (.long z11), .second, .unset, .unset] [(.long z12), (.long v8)]
  replace b4_ := b4_.symm; subst b4_
  show Go w _ _ 117 #[.val (.ref c), .val (.long u0), .second, .val (.int 0), .val (.int 0), .val (.ref s), .val (.long v8), .second, .val (.long z11), .second, .unset, .unset] [(.long z3), (.long v8)]
  refine go_callS [(.long v8), (.long z3)] K H12 d27_117 (hw _ (List.mem_of_getElem? (i := 152) rfl)) (hw _ (List.mem_of_getElem? (i := 153) rfl)) (hw _ (List.mem_of_getElem? (i := 89) rfl)) (hw _ (List.mem_of_getElem? (i := 154) rfl)) (st' := []) (by decide) (rmFM Z a0 hw _ _ _ n0 (at_size K H12) (by omega)) pd12 rfl rfl rfl (by decide) (W := 0) rfl (by decide) (by decide) (by decide) fun T13 h13 v13 H13 q13 => ?_
  obtain ⟨z13, rfl, m3, rfl⟩ := q13
  show Go w _ _ 120 #[.val (.ref c), .val (.long u0), .second, .val (.int 0), .val (.int 0), .val (.ref s), .val (.long v8), .second, .val (.long z11), .second, .unset, .unset] [(.long z13)]
  rw [hwv] at m3
  refine go_ldcL (1000000000) K H13 d27_120 (hw _ (List.mem_of_getElem? (i := 41) rfl)) ?_
  refine go_lmul K H13 d27_123 fun v14 ev14 => ?_
  have fv14 := f_lmul ev14
  have rv14 := rng64 v14
  refine go_aload K H13 d27_124 rfl rfl ?_
  refine go_callV [] K H13 d27_126 (G.1) (hw _ (List.mem_of_getElem? (i := 139) rfl)) (hw _ (List.mem_of_getElem? (i := 140) rfl)) (nf_sel (hw _ (List.mem_of_getElem? (i := 142) rfl))) (hw _ (List.mem_of_getElem? (i := 142) rfl)) (hw _ (List.mem_of_getElem? (i := 141) rfl)) (hw _ (List.mem_of_getElem? (i := 40) rfl)) (hw _ (List.mem_of_getElem? (i := 143) rfl)) (st' := [(.long v14)]) (by decide) (rmS2 Z a0 hw _ _ n0 (at_size K H13) _ _ _ _ G) pd11 rfl rfl rfl (by decide) (W := 2) rfl (by decide) (by decide) (by decide) fun T15 h15 v15 H15 q15 => ?_
  obtain ⟨z15, rfl, b5_, rfl⟩ := q15
  show Go w _ _ 129 #[.val (.ref c), .val (.long u0), .second, .val (.int 0), .val (.int 0), .val (.ref s), .val (.long v8), .second, .val (.long z11), .second, .unset, .unset] [(.long z15), (.long v14)]
  replace b5_ := b5_.symm; subst b5_
  show Go w _ _ 129 #[.val (.ref c), .val (.long u0), .second, .val (.int 0), .val (.int 0), .val (.ref s), .val (.long v8), .second, .val (.long z11), .second, .unset, .unset] [(.long z2), (.long v14)]
  refine go_lsub K H15 d27_129 fun v16 ev16 => ?_
  have fv16 := f_lsub ev16
  have rv16 := rng64 v16
  refine go_lstore K H15 d27_130 (L' := #[.val (.ref c), .val (.long u0), .second, .val (.int 0), .val (.int 0), .val (.ref s), .val (.long v8), .second, .val (.long z11), .second, .val (.long v16), .second]) rfl ?_
  refine go_aload K H15 d27_132 rfl rfl ?_
  have hpt : v16.toInt = W % z3.toInt * 1000000000 - z2.toInt := by simp only [Int64.reduceToInt] at *; have := rng64 v16; omega
  refine go_callV [] K H15 d27_134 (G.1) (hw _ (List.mem_of_getElem? (i := 129) rfl)) (hw _ (List.mem_of_getElem? (i := 130) rfl)) (nf_sel (hw _ (List.mem_of_getElem? (i := 132) rfl))) (hw _ (List.mem_of_getElem? (i := 132) rfl)) (hw _ (List.mem_of_getElem? (i := 131) rfl)) (hw _ (List.mem_of_getElem? (i := 40) rfl)) (hw _ (List.mem_of_getElem? (i := 133) rfl)) (st' := []) (by decide) (rmS0 Z a0 hw _ _ n0 (at_size K H15) _ _ _ _ G) pd11 rfl rfl rfl (by decide) (W := 0) rfl (by decide) (by decide) (by decide) fun T17 h17 v17 H17 q17 => ?_
  obtain ⟨z17, rfl, b6_, rfl⟩ := q17
  show Go w _ _ 137 #[.val (.ref c), .val (.long u0), .second, .val (.int 0), .val (.int 0), .val (.ref s), .val (.long v8), .second, .val (.long z11), .second, .val (.long v16), .second] [(.long z17)]
  replace b6_ := b6_.symm; subst b6_
  show Go w _ _ 137 #[.val (.ref c), .val (.long u0), .second, .val (.int 0), .val (.int 0), .val (.ref s), .val (.long v8), .second, .val (.long z11), .second, .val (.long v16), .second] [(.long z0)]
  refine go_lload K H17 d27_137 rfl ?_
  refine go_ladd K H17 d27_139 fun v18 ev18 => ?_
  have fv18 := f_ladd ev18
  have rv18 := rng64 v18
  refine go_lload K H17 d27_140 rfl ?_
  refine go_lneg K H17 d27_142 fun v19 ev19 => ?_
  have fv19 := f_lneg ev19
  have rv19 := rng64 v19
  refine go_aload K H17 d27_143 rfl rfl ?_
  have hng : v19.toInt = -(W % z3.toInt * 1000000000 - z2.toInt) := by have := rng64 v19; omega
  refine go_callV [] K H17 d27_145 (G.1) (hw _ (List.mem_of_getElem? (i := 155) rfl)) (hw _ (List.mem_of_getElem? (i := 156) rfl)) (nf_sel (hw _ (List.mem_of_getElem? (i := 158) rfl))) (hw _ (List.mem_of_getElem? (i := 158) rfl)) (hw _ (List.mem_of_getElem? (i := 157) rfl)) (hw _ (List.mem_of_getElem? (i := 40) rfl)) (hw _ (List.mem_of_getElem? (i := 159) rfl)) (st' := [(.long v19), (.long v18)]) (by decide) (rmS3 Z a0 hw _ _ n0 (at_size K H17) _ _ _ _ G) pd11 rfl rfl rfl (by decide) (W := 4) rfl (by decide) (by decide) (by decide) fun T20 h20 v20 H20 q20 => ?_
  obtain ⟨z20, rfl, b7_, rfl⟩ := q20
  show Go w _ _ 148 #[.val (.ref c), .val (.long u0), .second, .val (.int 0), .val (.int 0), .val (.ref s), .val (.long v8), .second, .val (.long z11), .second, .val (.long v16), .second] [(.long z20), (.long v19), (.long v18)]
  replace b7_ := b7_.symm; subst b7_
  show Go w _ _ 148 #[.val (.ref c), .val (.long u0), .second, .val (.int 0), .val (.int 0), .val (.ref s), .val (.long v8), .second, .val (.long z11), .second, .val (.long v16), .second] [(.long z3), (.long v19), (.long v18)]
  refine go_callS [(.long v19), (.long z3)] K H20 d27_148 (hw _ (List.mem_of_getElem? (i := 165) rfl)) (hw _ (List.mem_of_getElem? (i := 166) rfl)) (hw _ (List.mem_of_getElem? (i := 89) rfl)) (hw _ (List.mem_of_getElem? (i := 167) rfl)) (st' := [(.long v18)]) (by decide) (rmFD Z a0 hw _ _ _ n0 (at_size K H20) (by omega)) pd12 rfl rfl rfl (by decide) (W := 2) rfl (by decide) (by decide) (by decide) fun T21 h21 v21 H21 q21 => ?_
  obtain ⟨z21, rfl, m4, rfl⟩ := q21
  show Go w _ _ 151 #[.val (.ref c), .val (.long u0), .second, .val (.int 0), .val (.int 0), .val (.ref s), .val (.long v8), .second, .val (.long z11), .second, .val (.long v16), .second] [(.long z21), (.long v18)]
  rw [hng] at m4
  refine go_lsub K H21 d27_151 fun v22 ev22 => ?_
  have fv22 := f_lsub ev22
  have rv22 := rng64 v22
  have pl := rt_plain (w := W) (r := z3.toInt) (f := z2.toInt) (by omega) rfl
  have hr9 : v22.toInt = z0.toInt + (W / z3.toInt * 1000000000 - (-(W % z3.toInt * 1000000000 - z2.toInt)) / z3.toInt) := by have := rng64 v22; omega
  exact go_lret K H21 d27_152 rfl (by decide) (by decide) (⟨⟨_, hr9, pl.1, pl.2, by omega, by omega⟩, rfl⟩)
set_option maxRecDepth 65536 in
set_option maxHeartbeats 40000000 in
theorem rmT2 (Z : State) (a0 : Array Value) (hw : ∀ d ∈ tables_1, d.before a0 Z = true) (c : Addr) (u0 : Int64) (h0 : Heap) (n0 : Nat) (Z0 : n0 ≤ h0.size) (l e : Addr) (vs : List Value) (F : Fld Z h0 c "com/example/bellwether/bellwether/testkit/SimulatedClock" "segments" "Ljava/util/List;" (.ref l)) (A : AL1 Z h0 l e 2 vs) (s : Addr) (hi0 : vs[0]? = some (.ref s)) (z0 z1 z2 z3 : Int64)(G : Sg Z h0 s z0 z1 z2 z3) (s1 : Addr) (hi1 : vs[1]? = some (.ref s1)) (y0 y1 y2 y3 : Int64) (G1 : Sg Z h0 s1 y0 y1 y2 y3) (hge : u0.toInt ≤ y1.toInt) (r0 : 268435456 ≤ z3.toInt) (r1 : z3.toInt ≤ 4563402752) (f0 : 0 ≤ z2.toInt) (f1 : z2.toInt < 1000000000) (w0 : -4503599627370496 < u0.toInt - z1.toInt) (w1 : u0.toInt - z1.toInt < 4503599627370496) (b0 : 0 ≤ z0.toInt) (b1 : z0.toInt ≤ 1099511627776) (lau : Launch) :
    Con lau Z (⟨"com/example/bellwether/bellwether/testkit/SimulatedClock", "realTime", "(J)J"⟩ : MethodName) prog_17_method_5_code 12 (some .long) ({ frames := 3, cells := 0, slots := 0, locals := 100 } : Room) #[(.ref c), (.long u0)] h0 n0 (RL fun z h => (∃ dd : Int, z.toInt = z0.toInt + dd ∧ (u0.toInt - z1.toInt) * 1000000000 ≤ dd * z3.toInt + z2.toInt ∧ (dd - 1) * z3.toInt + z2.toInt < (u0.toInt - z1.toInt) * 1000000000 ∧ -17000000000000000 < dd ∧ dd < 17000000000000000) ∧ h0 = h) := by
  refine con_intro pn27 (L := #[.val (.ref c), .val (.long u0), .second, .unset, .unset, .unset, .unset, .unset, .unset, .unset, .unset, .unset]) (fun m => by first | (simp [entryFrame, mkF, argsToLocals, Value.category, maxLocals]; done) | rfl) Z0 (fun w T K H => ?_)
  refine go_iconst (0) K H d27_0 (by decide) ?_
  refine go_istoreN K H d27_1 (L' := #[.val (.ref c), .val (.long u0), .second, .val (.int 0), .unset, .unset, .unset, .unset, .unset, .unset, .unset, .unset]) rfl ?_
  refine go_aloadN K H d27_2 rfl rfl ?_
  refine go_getfield K H d27_3 (host := "") (Or.inl (hw _ (List.mem_of_getElem? (i := 36) rfl))) Via.refl (F) fun T1 HT1 => ?_
  refine go_callF [] K HT1 d27_6 (A.1) (hw _ (List.mem_of_getElem? (i := 99) rfl)) (hw _ (List.mem_of_getElem? (i := 100) rfl)) (hw _ (List.mem_of_getElem? (i := 101) rfl)) (hw _ (List.mem_of_getElem? (i := 102) rfl)) (hw _ (List.mem_of_getElem? (i := 103) rfl)) (hw _ (List.mem_of_getElem? (i := 104) rfl)) (hw _ (List.mem_of_getElem? (i := 105) rfl)) (hw _ (List.mem_of_getElem? (i := 66) rfl)) (hw _ (List.mem_of_getElem? (i := 14) rfl)) (hw _ (List.mem_of_getElem? (i := 106) rfl)) (st' := []) (by decide) (rmSz Z a0 hw _ _ n0 (at_size K HT1) _ _ _ A) pd10 rfl rfl rfl (by decide) (W := 0) rfl (by decide) (by decide) (by decide) fun T2 h2 v2 H2 q2 => ?_
  obtain ⟨z2, rfl, q0, rfl⟩ := q2
  show Go w _ _ 11 #[.val (.ref c), .val (.long u0), .second, .val (.int 0), .unset, .unset, .unset, .unset, .unset, .unset, .unset, .unset] [(.int z2)]
  replace q0 := q0.symm; subst q0
  show Go w _ _ 11 #[.val (.ref c), .val (.long u0), .second, .val (.int 0), .unset, .unset, .unset, .unset, .unset, .unset, .unset, .unset] [(.int 2)]
  refine go_iconst (1) K H2 d27_11 (by decide) ?_
  refine go_isub K H2 d27_12 fun v3 ev3 => ?_
  obtain rfl : v3 = (1 : Int32) := ev3.trans (by decide)
  refine go_istore K H2 d27_13 (L' := #[.val (.ref c), .val (.long u0), .second, .val (.int 0), .val (.int 1), .unset, .unset, .unset, .unset, .unset, .unset, .unset]) rfl ?_
  refine go_iloadN K H2 d27_15 rfl ?_
  refine go_iload K H2 d27_16 rfl ?_
  refine go_icmp_ge K H2 d27_18 (fun cc => False.elim (by revert cc; decide)) (fun cc => ?_)
  refine go_iloadN K H2 d27_21 rfl ?_
  refine go_iload K H2 d27_22 rfl ?_
  refine go_iadd K H2 d27_24 fun v4 ev4 => ?_
  obtain rfl : v4 = (1 : Int32) := ev4.trans (by decide)
  refine go_iconst (1) K H2 d27_25 (by decide) ?_
  refine go_iadd K H2 d27_26 fun v5 ev5 => ?_
  obtain rfl : v5 = (2 : Int32) := ev5.trans (by decide)
  refine go_iconst (1) K H2 d27_27 (by decide) ?_
  refine go_iushr K H2 d27_28 fun v6 ev6 => ?_
  obtain rfl : v6 = (1 : Int32) := ev6.trans (by decide)
  refine go_istore K H2 d27_29 (L' := #[.val (.ref c), .val (.long u0), .second, .val (.int 0), .val (.int 1), .val (.int 1), .unset, .unset, .unset, .unset, .unset, .unset]) rfl ?_
  refine go_aloadN K H2 d27_31 rfl rfl ?_
  refine go_getfield K H2 d27_32 (host := "") (Or.inl (hw _ (List.mem_of_getElem? (i := 36) rfl))) Via.refl (F) fun T7 HT7 => ?_
  refine go_iload K HT7 d27_35 rfl ?_
  refine go_callF [(.int 1)] K HT7 d27_37 (A.1) (hw _ (List.mem_of_getElem? (i := 107) rfl)) (hw _ (List.mem_of_getElem? (i := 108) rfl)) (hw _ (List.mem_of_getElem? (i := 109) rfl)) (hw _ (List.mem_of_getElem? (i := 110) rfl)) (hw _ (List.mem_of_getElem? (i := 111) rfl)) (hw _ (List.mem_of_getElem? (i := 112) rfl)) (hw _ (List.mem_of_getElem? (i := 113) rfl)) (hw _ (List.mem_of_getElem? (i := 66) rfl)) (hw _ (List.mem_of_getElem? (i := 14) rfl)) (hw _ (List.mem_of_getElem? (i := 114) rfl)) (st' := []) (by decide) (rmGet Z a0 hw _ _ _ n0 (at_size K HT7) _ _ _ A _ _ hi1 (by decide) (by decide)) pd7 rfl rfl rfl (by decide) (W := 0) rfl (by decide) (by decide) (by decide) fun T8 h8 v8 H8 q8 => ?_
  obtain ⟨z8, rfl, hz8, q1, rfl⟩ := q8
  show Go w _ _ 42 #[.val (.ref c), .val (.long u0), .second, .val (.int 0), .val (.int 1), .val (.int 1), .unset, .unset, .unset, .unset, .unset, .unset] [z8]
  replace q1 := q1.symm; subst q1
  show Go w _ _ 42 #[.val (.ref c), .val (.long u0), .second, .val (.int 0), .val (.int 1), .val (.int 1), .unset, .unset, .unset, .unset, .unset, .unset] [(.ref s1)]
  refine go_checkcast K H8 d27_42 (hw _ (List.mem_of_getElem? (i := 38) rfl)) (Ins.self G1.1) fun T9 HT9 => ?_
  refine go_callV [] K HT9 d27_45 (G1.1) (hw _ (List.mem_of_getElem? (i := 134) rfl)) (hw _ (List.mem_of_getElem? (i := 135) rfl)) (nf_sel (hw _ (List.mem_of_getElem? (i := 137) rfl))) (hw _ (List.mem_of_getElem? (i := 137) rfl)) (hw _ (List.mem_of_getElem? (i := 136) rfl)) (hw _ (List.mem_of_getElem? (i := 40) rfl)) (hw _ (List.mem_of_getElem? (i := 138) rfl)) (st' := []) (by decide) (rmS1 Z a0 hw _ _ n0 (at_size K HT9) _ _ _ _ G1) pd11 rfl rfl rfl (by decide) (W := 0) rfl (by decide) (by decide) (by decide) fun T10 h10 v10 H10 q10 => ?_
  obtain ⟨z10, rfl, b9, rfl⟩ := q10
  show Go w _ _ 48 #[.val (.ref c), .val (.long u0), .second, .val (.int 0), .val (.int 1), .val (.int 1), .unset, .unset, .unset, .unset, .unset, .unset] [(.long z10)]
  replace b9 := b9.symm; subst b9
  show Go w _ _ 48 #[.val (.ref c), .val (.long u0), .second, .val (.int 0), .val (.int 1), .val (.int 1), .unset, .unset, .unset, .unset, .unset, .unset] [(.long y1)]
  refine go_lloadN K H10 d27_48 rfl ?_
  refine go_lcmp K H10 d27_49 fun v11 ev11 => ?_
  have fv11 := f_lcmp ev11
  refine go_if_ge K H10 d27_50 (fun cc => ?_) (fun cc => False.elim (by (try simp only [or_true, true_or, and_true, true_and, not_true_eq_false, not_false_eq_true, Int32.lt_iff_toInt_lt, Int32.le_iff_toInt_le, ← Int32.toInt_inj, Int64.lt_iff_toInt_lt, Int64.le_iff_toInt_le, ← Int64.toInt_inj, Int32.reduceToInt, Int64.reduceToInt, ne_eq] at *) <;> omega))
  refine go_iload K H10 d27_59 rfl ?_
  refine go_iconst (1) K H10 d27_61 (by decide) ?_
  refine go_isub K H10 d27_62 fun v12 ev12 => ?_
  obtain rfl : v12 = (0 : Int32) := ev12.trans (by decide)
  refine go_istore K H10 d27_63 (L' := #[.val (.ref c), .val (.long u0), .second, .val (.int 0), .val (.int 0), .val (.int 1), .unset, .unset, .unset, .unset, .unset, .unset]) rfl ?_
  refine go_goto K H10 d27_65 ?_
  refine go_iloadN K H10 d27_15 rfl ?_
  refine go_iload K H10 d27_16 rfl ?_
  refine go_icmp_ge K H10 d27_18 (fun cc => ?_) (fun cc => False.elim (by revert cc; decide))
  refine go_aloadN K H10 d27_68 rfl rfl ?_
  refine go_getfield K H10 d27_69 (host := "") (Or.inl (hw _ (List.mem_of_getElem? (i := 36) rfl))) Via.refl (F) fun T13 HT13 => ?_
  refine go_iloadN K HT13 d27_72 rfl ?_
  refine go_callF [(.int 0)] K HT13 d27_73 (A.1) (hw _ (List.mem_of_getElem? (i := 107) rfl)) (hw _ (List.mem_of_getElem? (i := 108) rfl)) (hw _ (List.mem_of_getElem? (i := 109) rfl)) (hw _ (List.mem_of_getElem? (i := 110) rfl)) (hw _ (List.mem_of_getElem? (i := 111) rfl)) (hw _ (List.mem_of_getElem? (i := 112) rfl)) (hw _ (List.mem_of_getElem? (i := 113) rfl)) (hw _ (List.mem_of_getElem? (i := 66) rfl)) (hw _ (List.mem_of_getElem? (i := 14) rfl)) (hw _ (List.mem_of_getElem? (i := 114) rfl)) (st' := []) (by decide) (rmGet Z a0 hw _ _ _ n0 (at_size K HT13) _ _ _ A _ _ hi0 (by decide) (by decide)) pd7 rfl rfl rfl (by decide) (W := 0) rfl (by decide) (by decide) (by decide) fun T14 h14 v14 H14 q14 => ?_
  obtain ⟨z14, rfl, hz14, q1, rfl⟩ := q14
  show Go w _ _ 78 #[.val (.ref c), .val (.long u0), .second, .val (.int 0), .val (.int 0), .val (.int 1), .unset, .unset, .unset, .unset, .unset, .unset] [z14]
  replace q1 := q1.symm; subst q1
  show Go w _ _ 78 #[.val (.ref c), .val (.long u0), .second, .val (.int 0), .val (.int 0), .val (.int 1), .unset, .unset, .unset, .unset, .unset, .unset] [(.ref s)]
  refine go_checkcast K H14 d27_78 (hw _ (List.mem_of_getElem? (i := 38) rfl)) (Ins.self G.1) fun T15 HT15 => ?_
  refine go_astore K HT15 d27_81 rfl (L' := #[.val (.ref c), .val (.long u0), .second, .val (.int 0), .val (.int 0), .val (.ref s), .unset, .unset, .unset, .unset, .unset, .unset]) rfl ?_
  refine go_lloadN K HT15 d27_83 rfl ?_
  refine go_aload K HT15 d27_84 rfl rfl ?_
  refine go_callV [] K HT15 d27_86 (G.1) (hw _ (List.mem_of_getElem? (i := 134) rfl)) (hw _ (List.mem_of_getElem? (i := 135) rfl)) (nf_sel (hw _ (List.mem_of_getElem? (i := 137) rfl))) (hw _ (List.mem_of_getElem? (i := 137) rfl)) (hw _ (List.mem_of_getElem? (i := 136) rfl)) (hw _ (List.mem_of_getElem? (i := 40) rfl)) (hw _ (List.mem_of_getElem? (i := 138) rfl)) (st' := [(.long u0)]) (by decide) (rmS1 Z a0 hw _ _ n0 (at_size K HT15) _ _ _ _ G) pd11 rfl rfl rfl (by decide) (W := 2) rfl (by decide) (by decide) (by decide) fun T16 h16 v16 H16 q16 => ?_
  obtain ⟨z16, rfl, b1_, rfl⟩ := q16
  show Go w _ _ 89 #[.val (.ref c), .val (.long u0), .second, .val (.int 0), .val (.int 0), .val (.ref s), .unset, .unset, .unset, .unset, .unset, .unset] [(.long z16), (.long u0)]
  replace b1_ := b1_.symm; subst b1_
  show Go w _ _ 89 #[.val (.ref c), .val (.long u0), .second, .val (.int 0), .val (.int 0), .val (.ref s), .unset, .unset, .unset, .unset, .unset, .unset] [(.long z1), (.long u0)]
  refine go_lsub K H16 d27_89 fun v17 ev17 => ?_
  have fv17 := f_lsub ev17
  have rv17 := rng64 v17
  refine go_lstore K H16 d27_90 (L' := #[.val (.ref c), .val (.long u0), .second, .val (.int 0), .val (.int 0), .val (.ref s), .val (.long v17), .second, .unset, .unset, .unset, .unset]) rfl ?_
  refine go_lload K H16 d27_92 rfl ?_
  refine go_aload K H16 d27_94 rfl rfl ?_
  have hwv : v17.toInt = u0.toInt - z1.toInt := by have := rng64 v17; omega
  generalize hW : u0.toInt - z1.toInt = W at *
  have bq := rt_q r0 w0 w1; have bm0 := Int.emod_nonneg W (show z3.toInt ≠ 0 by omega); have bm1 := Int.emod_lt_of_pos W (show 0 < z3.toInt by omega); have bc := rt_c r0 bm0 bm1 f0 f1
  refine go_callV [] K H16 d27_96 (G.1) (hw _ (List.mem_of_getElem? (i := 155) rfl)) (hw _ (List.mem_of_getElem? (i := 156) rfl)) (nf_sel (hw _ (List.mem_of_getElem? (i := 158) rfl))) (hw _ (List.mem_of_getElem? (i := 158) rfl)) (hw _ (List.mem_of_getElem? (i := 157) rfl)) (hw _ (List.mem_of_getElem? (i := 40) rfl)) (hw _ (List.mem_of_getElem? (i := 159) rfl)) (st' := [(.long v17)]) (by decide) (rmS3 Z a0 hw _ _ n0 (at_size K H16) _ _ _ _ G) pd11 rfl rfl rfl (by decide) (W := 2) rfl (by decide) (by decide) (by decide) fun T18 h18 v18 H18 q18 => ?_
  obtain ⟨z18, rfl, b3_, rfl⟩ := q18
  show Go w _ _ 99 #[.val (.ref c), .val (.long u0), .second, .val (.int 0), .val (.int 0), .val (.ref s), .val (.long v17), .second, .unset, .unset, .unset, .unset] [(.long z18), (.long v17)]
  replace b3_ := b3_.symm; subst b3_
  show Go w _ _ 99 #[.val (.ref c), .val (.long u0), .second, .val (.int 0), .val (.int 0), .val (.ref s), .val (.long v17), .second, .unset, .unset, .unset, .unset] [(.long z3), (.long v17)]
  refine go_callS [(.long v17), (.long z3)] K H18 d27_99 (hw _ (List.mem_of_getElem? (i := 165) rfl)) (hw _ (List.mem_of_getElem? (i := 166) rfl)) (hw _ (List.mem_of_getElem? (i := 89) rfl)) (hw _ (List.mem_of_getElem? (i := 167) rfl)) (st' := []) (by decide) (rmFD Z a0 hw _ _ _ n0 (at_size K H18) (by omega)) pd12 rfl rfl rfl (by decide) (W := 0) rfl (by decide) (by decide) (by decide) fun T19 h19 v19 H19 q19 => ?_
  obtain ⟨z19, rfl, m1, rfl⟩ := q19
  show Go w _ _ 102 #[.val (.ref c), .val (.long u0), .second, .val (.int 0), .val (.int 0), .val (.ref s), .val (.long v17), .second, .unset, .unset, .unset, .unset] [(.long z19)]
  rw [hwv] at m1
  refine go_ldcL (1000000000) K H19 d27_102 (hw _ (List.mem_of_getElem? (i := 41) rfl)) ?_
  refine go_callS [(.long z19), (.long (1000000000))] K H19 d27_105 (hw _ (List.mem_of_getElem? (i := 168) rfl)) (hw _ (List.mem_of_getElem? (i := 169) rfl)) (hw _ (List.mem_of_getElem? (i := 89) rfl)) (hw _ (List.mem_of_getElem? (i := 170) rfl)) (st' := []) (by decide) (rmMX Z a0 hw _ _ _ n0 (at_size K H19) (by rw [m1, show (1000000000 : Int64).toInt = 1000000000 from rfl]; omega) (by rw [m1, show (1000000000 : Int64).toInt = 1000000000 from rfl]; omega) (by omega)) pd12 rfl rfl rfl (by decide) (W := 0) rfl (by decide) (by decide) (by decide) fun T20 h20 v20 H20 q20 => ?_
  obtain ⟨z20, rfl, m2, rfl⟩ := q20
  show Go w _ _ 108 #[.val (.ref c), .val (.long u0), .second, .val (.int 0), .val (.int 0), .val (.ref s), .val (.long v17), .second, .unset, .unset, .unset, .unset] [(.long z20)]
  rw [m1, show (1000000000 : Int64).toInt = 1000000000 from rfl] at m2
  refine go_lstore K H20 d27_108 (L' := #[.val (.ref c), .val (.long u0), .second, .val (.int 0), .val (.int 0), .val (.ref s), .val (.long v17), .second, .val (.long z20), .second, .unset, .unset]) rfl ?_
  refine go_lload K H20 d27_110 rfl ?_
  refine go_aload K H20 d27_112 rfl rfl ?_
  refine go_callV [] K H20 d27_114 (G.1) (hw _ (List.mem_of_getElem? (i := 155) rfl)) (hw _ (List.mem_of_getElem? (i := 156) rfl)) (nf_sel (hw _ (List.mem_of_getElem? (i := 158) rfl))) (hw _ (List.mem_of_getElem? (i := 158) rfl)) (hw _ (List.mem_of_getElem? (i := 157) rfl)) (hw _ (List.mem_of_getElem? (i := 40) rfl)) (hw _ (List.mem_of_getElem? (i := 159) rfl)) (st' := [(.long v17)]) (by decide) (rmS3 Z a0 hw _ _ n0 (at_size K H20) _ _ _ _ G) pd11 rfl rfl rfl (by decide) (W := 2) rfl (by decide) (by decide) (by decide) fun T21 h21 v21 H21 q21 => ?_
  obtain ⟨z21, rfl, b4_, rfl⟩ := q21
  show Go w _ _ 117 #[.val (.ref c), .val (.long u0), .second, .val (.int 0), .val (.int 0), .val (.ref s), .val (.long v17), .second, .val (.long z20), .second, .unset, .unset] [(.long z21), (.long v17)]
  replace b4_ := b4_.symm; subst b4_
  show Go w _ _ 117 #[.val (.ref c), .val (.long u0), .second, .val (.int 0), .val (.int 0), .val (.ref s), .val (.long v17), .second, .val (.long z20), .second, .unset, .unset] [(.long z3), (.long v17)]
  refine go_callS [(.long v17), (.long z3)] K H21 d27_117 (hw _ (List.mem_of_getElem? (i := 152) rfl)) (hw _ (List.mem_of_getElem? (i := 153) rfl)) (hw _ (List.mem_of_getElem? (i := 89) rfl)) (hw _ (List.mem_of_getElem? (i := 154) rfl)) (st' := []) (by decide) (rmFM Z a0 hw _ _ _ n0 (at_size K H21) (by omega)) pd12 rfl rfl rfl (by decide) (W := 0) rfl (by decide) (by decide) (by decide) fun T22 h22 v22 H22 q22 => ?_
  obtain ⟨z22, rfl, m3, rfl⟩ := q22
  show Go w _ _ 120 #[.val (.ref c), .val (.long u0), .second, .val (.int 0), .val (.int 0), .val (.ref s), .val (.long v17), .second, .val (.long z20), .second, .unset, .unset] [(.long z22)]
  rw [hwv] at m3
  refine go_ldcL (1000000000) K H22 d27_120 (hw _ (List.mem_of_getElem? (i := 41) rfl)) ?_
  refine go_lmul K H22 d27_123 fun v23 ev23 => ?_
  have fv23 := f_lmul ev23
  have rv23 := rng64 v23
  refine go_aload K H22 d27_124 rfl rfl ?_
  refine go_callV [] K H22 d27_126 (G.1) (hw _ (List.mem_of_getElem? (i := 139) rfl)) (hw _ (List.mem_of_getElem? (i := 140) rfl)) (nf_sel (hw _ (List.mem_of_getElem? (i := 142) rfl))) (hw _ (List.mem_of_getElem? (i := 142) rfl)) (hw _ (List.mem_of_getElem? (i := 141) rfl)) (hw _ (List.mem_of_getElem? (i := 40) rfl)) (hw _ (List.mem_of_getElem? (i := 143) rfl)) (st' := [(.long v23)]) (by decide) (rmS2 Z a0 hw _ _ n0 (at_size K H22) _ _ _ _ G) pd11 rfl rfl rfl (by decide) (W := 2) rfl (by decide) (by decide) (by decide) fun T24 h24 v24 H24 q24 => ?_
  obtain ⟨z24, rfl, b5_, rfl⟩ := q24
  show Go w _ _ 129 #[.val (.ref c), .val (.long u0), .second, .val (.int 0), .val (.int 0), .val (.ref s), .val (.long v17), .second, .val (.long z20), .second, .unset, .unset] [(.long z24), (.long v23)]
  replace b5_ := b5_.symm; subst b5_
  show Go w _ _ 129 #[.val (.ref c), .val (.long u0), .second, .val (.int 0), .val (.int 0), .val (.ref s), .val (.long v17), .second, .val (.long z20), .second, .unset, .unset] [(.long z2), (.long v23)]
  refine go_lsub K H24 d27_129 fun v25 ev25 => ?_
  have fv25 := f_lsub ev25
  have rv25 := rng64 v25
  refine go_lstore K H24 d27_130 (L' := #[.val (.ref c), .val (.long u0), .second, .val (.int 0), .val (.int 0), .val (.ref s), .val (.long v17), .second, .val (.long z20), .second, .val (.long v25), .second]) rfl ?_
  refine go_aload K H24 d27_132 rfl rfl ?_
  have hpt : v25.toInt = W % z3.toInt * 1000000000 - z2.toInt := by simp only [Int64.reduceToInt] at *; have := rng64 v25; omega
  refine go_callV [] K H24 d27_134 (G.1) (hw _ (List.mem_of_getElem? (i := 129) rfl)) (hw _ (List.mem_of_getElem? (i := 130) rfl)) (nf_sel (hw _ (List.mem_of_getElem? (i := 132) rfl))) (hw _ (List.mem_of_getElem? (i := 132) rfl)) (hw _ (List.mem_of_getElem? (i := 131) rfl)) (hw _ (List.mem_of_getElem? (i := 40) rfl)) (hw _ (List.mem_of_getElem? (i := 133) rfl)) (st' := []) (by decide) (rmS0 Z a0 hw _ _ n0 (at_size K H24) _ _ _ _ G) pd11 rfl rfl rfl (by decide) (W := 0) rfl (by decide) (by decide) (by decide) fun T26 h26 v26 H26 q26 => ?_
  obtain ⟨z26, rfl, b6_, rfl⟩ := q26
  show Go w _ _ 137 #[.val (.ref c), .val (.long u0), .second, .val (.int 0), .val (.int 0), .val (.ref s), .val (.long v17), .second, .val (.long z20), .second, .val (.long v25), .second] [(.long z26)]
  replace b6_ := b6_.symm; subst b6_
  show Go w _ _ 137 #[.val (.ref c), .val (.long u0), .second, .val (.int 0), .val (.int 0), .val (.ref s), .val (.long v17), .second, .val (.long z20), .second, .val (.long v25), .second] [(.long z0)]
  refine go_lload K H26 d27_137 rfl ?_
  refine go_ladd K H26 d27_139 fun v27 ev27 => ?_
  have fv27 := f_ladd ev27
  have rv27 := rng64 v27
  refine go_lload K H26 d27_140 rfl ?_
  refine go_lneg K H26 d27_142 fun v28 ev28 => ?_
  have fv28 := f_lneg ev28
  have rv28 := rng64 v28
  refine go_aload K H26 d27_143 rfl rfl ?_
  have hng : v28.toInt = -(W % z3.toInt * 1000000000 - z2.toInt) := by have := rng64 v28; omega
  refine go_callV [] K H26 d27_145 (G.1) (hw _ (List.mem_of_getElem? (i := 155) rfl)) (hw _ (List.mem_of_getElem? (i := 156) rfl)) (nf_sel (hw _ (List.mem_of_getElem? (i := 158) rfl))) (hw _ (List.mem_of_getElem? (i := 158) rfl)) (hw _ (List.mem_of_getElem? (i := 157) rfl)) (hw _ (List.mem_of_getElem? (i := 40) rfl)) (hw _ (List.mem_of_getElem? (i := 159) rfl)) (st' := [(.long v28), (.long v27)]) (by decide) (rmS3 Z a0 hw _ _ n0 (at_size K H26) _ _ _ _ G) pd11 rfl rfl rfl (by decide) (W := 4) rfl (by decide) (by decide) (by decide) fun T29 h29 v29 H29 q29 => ?_
  obtain ⟨z29, rfl, b7_, rfl⟩ := q29
  show Go w _ _ 148 #[.val (.ref c), .val (.long u0), .second, .val (.int 0), .val (.int 0), .val (.ref s), .val (.long v17), .second, .val (.long z20), .second, .val (.long v25), .second] [(.long z29), (.long v28), (.long v27)]
  replace b7_ := b7_.symm; subst b7_
  show Go w _ _ 148 #[.val (.ref c), .val (.long u0), .second, .val (.int 0), .val (.int 0), .val (.ref s), .val (.long v17), .second, .val (.long z20), .second, .val (.long v25), .second] [(.long z3), (.long v28), (.long v27)]
  refine go_callS [(.long v28), (.long z3)] K H29 d27_148 (hw _ (List.mem_of_getElem? (i := 165) rfl)) (hw _ (List.mem_of_getElem? (i := 166) rfl)) (hw _ (List.mem_of_getElem? (i := 89) rfl)) (hw _ (List.mem_of_getElem? (i := 167) rfl)) (st' := [(.long v27)]) (by decide) (rmFD Z a0 hw _ _ _ n0 (at_size K H29) (by omega)) pd12 rfl rfl rfl (by decide) (W := 2) rfl (by decide) (by decide) (by decide) fun T30 h30 v30 H30 q30 => ?_
  obtain ⟨z30, rfl, m4, rfl⟩ := q30
  show Go w _ _ 151 #[.val (.ref c), .val (.long u0), .second, .val (.int 0), .val (.int 0), .val (.ref s), .val (.long v17), .second, .val (.long z20), .second, .val (.long v25), .second] [(.long z30), (.long v27)]
  rw [hng] at m4
  refine go_lsub K H30 d27_151 fun v31 ev31 => ?_
  have fv31 := f_lsub ev31
  have rv31 := rng64 v31
  have pl := rt_plain (w := W) (r := z3.toInt) (f := z2.toInt) (by omega) rfl
  have hr9 : v31.toInt = z0.toInt + (W / z3.toInt * 1000000000 - (-(W % z3.toInt * 1000000000 - z2.toInt)) / z3.toInt) := by have := rng64 v31; omega
  exact go_lret K H30 d27_152 rfl (by decide) (by decide) (⟨⟨_, hr9, pl.1, pl.2, by omega, by omega⟩, rfl⟩)
set_option maxRecDepth 65536 in
set_option maxHeartbeats 40000000 in
theorem rmT3 (Z : State) (a0 : Array Value) (hw : ∀ d ∈ tables_1, d.before a0 Z = true) (c : Addr) (u0 : Int64) (h0 : Heap) (n0 : Nat) (Z0 : n0 ≤ h0.size) (l e : Addr) (vs : List Value) (F : Fld Z h0 c "com/example/bellwether/bellwether/testkit/SimulatedClock" "segments" "Ljava/util/List;" (.ref l)) (A : AL1 Z h0 l e 2 vs) (s : Addr) (hi0 : vs[0]? = some (.ref s)) (z0 z1 z2 z3 : Int64)(s1 : Addr) (hi1 : vs[1]? = some (.ref s1)) (G1 : Sg Z h0 s1 z0 z1 z2 z3) (hlt : z1.toInt < u0.toInt) (r0 : 268435456 ≤ z3.toInt) (r1 : z3.toInt ≤ 4563402752) (f0 : 0 ≤ z2.toInt) (f1 : z2.toInt < 1000000000) (w0 : -4503599627370496 < u0.toInt - z1.toInt) (w1 : u0.toInt - z1.toInt < 4503599627370496) (b0 : 0 ≤ z0.toInt) (b1 : z0.toInt ≤ 1099511627776) (lau : Launch) :
    Con lau Z (⟨"com/example/bellwether/bellwether/testkit/SimulatedClock", "realTime", "(J)J"⟩ : MethodName) prog_17_method_5_code 12 (some .long) ({ frames := 3, cells := 0, slots := 0, locals := 100 } : Room) #[(.ref c), (.long u0)] h0 n0 (RL fun z h => (∃ dd : Int, z.toInt = z0.toInt + dd ∧ (u0.toInt - z1.toInt) * 1000000000 ≤ dd * z3.toInt + z2.toInt ∧ (dd - 1) * z3.toInt + z2.toInt < (u0.toInt - z1.toInt) * 1000000000 ∧ -17000000000000000 < dd ∧ dd < 17000000000000000) ∧ h0 = h) := by
  refine con_intro pn27 (L := #[.val (.ref c), .val (.long u0), .second, .unset, .unset, .unset, .unset, .unset, .unset, .unset, .unset, .unset]) (fun m => by first | (simp [entryFrame, mkF, argsToLocals, Value.category, maxLocals]; done) | rfl) Z0 (fun w T K H => ?_)
  refine go_iconst (0) K H d27_0 (by decide) ?_
  refine go_istoreN K H d27_1 (L' := #[.val (.ref c), .val (.long u0), .second, .val (.int 0), .unset, .unset, .unset, .unset, .unset, .unset, .unset, .unset]) rfl ?_
  refine go_aloadN K H d27_2 rfl rfl ?_
  refine go_getfield K H d27_3 (host := "") (Or.inl (hw _ (List.mem_of_getElem? (i := 36) rfl))) Via.refl (F) fun T1 HT1 => ?_
  refine go_callF [] K HT1 d27_6 (A.1) (hw _ (List.mem_of_getElem? (i := 99) rfl)) (hw _ (List.mem_of_getElem? (i := 100) rfl)) (hw _ (List.mem_of_getElem? (i := 101) rfl)) (hw _ (List.mem_of_getElem? (i := 102) rfl)) (hw _ (List.mem_of_getElem? (i := 103) rfl)) (hw _ (List.mem_of_getElem? (i := 104) rfl)) (hw _ (List.mem_of_getElem? (i := 105) rfl)) (hw _ (List.mem_of_getElem? (i := 66) rfl)) (hw _ (List.mem_of_getElem? (i := 14) rfl)) (hw _ (List.mem_of_getElem? (i := 106) rfl)) (st' := []) (by decide) (rmSz Z a0 hw _ _ n0 (at_size K HT1) _ _ _ A) pd10 rfl rfl rfl (by decide) (W := 0) rfl (by decide) (by decide) (by decide) fun T2 h2 v2 H2 q2 => ?_
  obtain ⟨z2, rfl, q0, rfl⟩ := q2
  show Go w _ _ 11 #[.val (.ref c), .val (.long u0), .second, .val (.int 0), .unset, .unset, .unset, .unset, .unset, .unset, .unset, .unset] [(.int z2)]
  replace q0 := q0.symm; subst q0
  show Go w _ _ 11 #[.val (.ref c), .val (.long u0), .second, .val (.int 0), .unset, .unset, .unset, .unset, .unset, .unset, .unset, .unset] [(.int 2)]
  refine go_iconst (1) K H2 d27_11 (by decide) ?_
  refine go_isub K H2 d27_12 fun v3 ev3 => ?_
  obtain rfl : v3 = (1 : Int32) := ev3.trans (by decide)
  refine go_istore K H2 d27_13 (L' := #[.val (.ref c), .val (.long u0), .second, .val (.int 0), .val (.int 1), .unset, .unset, .unset, .unset, .unset, .unset, .unset]) rfl ?_
  refine go_iloadN K H2 d27_15 rfl ?_
  refine go_iload K H2 d27_16 rfl ?_
  refine go_icmp_ge K H2 d27_18 (fun cc => False.elim (by revert cc; decide)) (fun cc => ?_)
  refine go_iloadN K H2 d27_21 rfl ?_
  refine go_iload K H2 d27_22 rfl ?_
  refine go_iadd K H2 d27_24 fun v4 ev4 => ?_
  obtain rfl : v4 = (1 : Int32) := ev4.trans (by decide)
  refine go_iconst (1) K H2 d27_25 (by decide) ?_
  refine go_iadd K H2 d27_26 fun v5 ev5 => ?_
  obtain rfl : v5 = (2 : Int32) := ev5.trans (by decide)
  refine go_iconst (1) K H2 d27_27 (by decide) ?_
  refine go_iushr K H2 d27_28 fun v6 ev6 => ?_
  obtain rfl : v6 = (1 : Int32) := ev6.trans (by decide)
  refine go_istore K H2 d27_29 (L' := #[.val (.ref c), .val (.long u0), .second, .val (.int 0), .val (.int 1), .val (.int 1), .unset, .unset, .unset, .unset, .unset, .unset]) rfl ?_
  refine go_aloadN K H2 d27_31 rfl rfl ?_
  refine go_getfield K H2 d27_32 (host := "") (Or.inl (hw _ (List.mem_of_getElem? (i := 36) rfl))) Via.refl (F) fun T7 HT7 => ?_
  refine go_iload K HT7 d27_35 rfl ?_
  refine go_callF [(.int 1)] K HT7 d27_37 (A.1) (hw _ (List.mem_of_getElem? (i := 107) rfl)) (hw _ (List.mem_of_getElem? (i := 108) rfl)) (hw _ (List.mem_of_getElem? (i := 109) rfl)) (hw _ (List.mem_of_getElem? (i := 110) rfl)) (hw _ (List.mem_of_getElem? (i := 111) rfl)) (hw _ (List.mem_of_getElem? (i := 112) rfl)) (hw _ (List.mem_of_getElem? (i := 113) rfl)) (hw _ (List.mem_of_getElem? (i := 66) rfl)) (hw _ (List.mem_of_getElem? (i := 14) rfl)) (hw _ (List.mem_of_getElem? (i := 114) rfl)) (st' := []) (by decide) (rmGet Z a0 hw _ _ _ n0 (at_size K HT7) _ _ _ A _ _ hi1 (by decide) (by decide)) pd7 rfl rfl rfl (by decide) (W := 0) rfl (by decide) (by decide) (by decide) fun T8 h8 v8 H8 q8 => ?_
  obtain ⟨z8, rfl, hz8, q1, rfl⟩ := q8
  show Go w _ _ 42 #[.val (.ref c), .val (.long u0), .second, .val (.int 0), .val (.int 1), .val (.int 1), .unset, .unset, .unset, .unset, .unset, .unset] [z8]
  replace q1 := q1.symm; subst q1
  show Go w _ _ 42 #[.val (.ref c), .val (.long u0), .second, .val (.int 0), .val (.int 1), .val (.int 1), .unset, .unset, .unset, .unset, .unset, .unset] [(.ref s1)]
  refine go_checkcast K H8 d27_42 (hw _ (List.mem_of_getElem? (i := 38) rfl)) (Ins.self G1.1) fun T9 HT9 => ?_
  refine go_callV [] K HT9 d27_45 (G1.1) (hw _ (List.mem_of_getElem? (i := 134) rfl)) (hw _ (List.mem_of_getElem? (i := 135) rfl)) (nf_sel (hw _ (List.mem_of_getElem? (i := 137) rfl))) (hw _ (List.mem_of_getElem? (i := 137) rfl)) (hw _ (List.mem_of_getElem? (i := 136) rfl)) (hw _ (List.mem_of_getElem? (i := 40) rfl)) (hw _ (List.mem_of_getElem? (i := 138) rfl)) (st' := []) (by decide) (rmS1 Z a0 hw _ _ n0 (at_size K HT9) _ _ _ _ G1) pd11 rfl rfl rfl (by decide) (W := 0) rfl (by decide) (by decide) (by decide) fun T10 h10 v10 H10 q10 => ?_
  obtain ⟨z10, rfl, b9, rfl⟩ := q10
  show Go w _ _ 48 #[.val (.ref c), .val (.long u0), .second, .val (.int 0), .val (.int 1), .val (.int 1), .unset, .unset, .unset, .unset, .unset, .unset] [(.long z10)]
  replace b9 := b9.symm; subst b9
  show Go w _ _ 48 #[.val (.ref c), .val (.long u0), .second, .val (.int 0), .val (.int 1), .val (.int 1), .unset, .unset, .unset, .unset, .unset, .unset] [(.long z1)]
  refine go_lloadN K H10 d27_48 rfl ?_
  refine go_lcmp K H10 d27_49 fun v11 ev11 => ?_
  have fv11 := f_lcmp ev11
  refine go_if_ge K H10 d27_50 (fun cc => False.elim (by (try simp only [or_true, true_or, and_true, true_and, not_true_eq_false, not_false_eq_true, Int32.lt_iff_toInt_lt, Int32.le_iff_toInt_le, ← Int32.toInt_inj, Int64.lt_iff_toInt_lt, Int64.le_iff_toInt_le, ← Int64.toInt_inj, Int32.reduceToInt, Int64.reduceToInt, ne_eq] at *) <;> omega)) (fun cc => ?_)
  refine go_iload K H10 d27_53 rfl ?_
  refine go_istoreN K H10 d27_55 (L' := #[.val (.ref c), .val (.long u0), .second, .val (.int 1), .val (.int 1), .val (.int 1), .unset, .unset, .unset, .unset, .unset, .unset]) rfl ?_
  refine go_goto K H10 d27_56 ?_
  refine go_goto K H10 d27_65 ?_
  refine go_iloadN K H10 d27_15 rfl ?_
  refine go_iload K H10 d27_16 rfl ?_
  refine go_icmp_ge K H10 d27_18 (fun cc => ?_) (fun cc => False.elim (by revert cc; decide))
  refine go_aloadN K H10 d27_68 rfl rfl ?_
  refine go_getfield K H10 d27_69 (host := "") (Or.inl (hw _ (List.mem_of_getElem? (i := 36) rfl))) Via.refl (F) fun T12 HT12 => ?_
  refine go_iloadN K HT12 d27_72 rfl ?_
  refine go_callF [(.int 1)] K HT12 d27_73 (A.1) (hw _ (List.mem_of_getElem? (i := 107) rfl)) (hw _ (List.mem_of_getElem? (i := 108) rfl)) (hw _ (List.mem_of_getElem? (i := 109) rfl)) (hw _ (List.mem_of_getElem? (i := 110) rfl)) (hw _ (List.mem_of_getElem? (i := 111) rfl)) (hw _ (List.mem_of_getElem? (i := 112) rfl)) (hw _ (List.mem_of_getElem? (i := 113) rfl)) (hw _ (List.mem_of_getElem? (i := 66) rfl)) (hw _ (List.mem_of_getElem? (i := 14) rfl)) (hw _ (List.mem_of_getElem? (i := 114) rfl)) (st' := []) (by decide) (rmGet Z a0 hw _ _ _ n0 (at_size K HT12) _ _ _ A _ _ hi1 (by decide) (by decide)) pd7 rfl rfl rfl (by decide) (W := 0) rfl (by decide) (by decide) (by decide) fun T13 h13 v13 H13 q13 => ?_
  obtain ⟨z13, rfl, hz13, q1, rfl⟩ := q13
  show Go w _ _ 78 #[.val (.ref c), .val (.long u0), .second, .val (.int 1), .val (.int 1), .val (.int 1), .unset, .unset, .unset, .unset, .unset, .unset] [z13]
  replace q1 := q1.symm; subst q1
  show Go w _ _ 78 #[.val (.ref c), .val (.long u0), .second, .val (.int 1), .val (.int 1), .val (.int 1), .unset, .unset, .unset, .unset, .unset, .unset] [(.ref s1)]
  refine go_checkcast K H13 d27_78 (hw _ (List.mem_of_getElem? (i := 38) rfl)) (Ins.self G1.1) fun T14 HT14 => ?_
  have G := G1
  refine go_astore K HT14 d27_81 rfl (L' := #[.val (.ref c), .val (.long u0), .second, .val (.int 1), .val (.int 1), .val (.ref s1), .unset, .unset, .unset, .unset, .unset, .unset]) rfl ?_
  refine go_lloadN K HT14 d27_83 rfl ?_
  refine go_aload K HT14 d27_84 rfl rfl ?_
  refine go_callV [] K HT14 d27_86 (G.1) (hw _ (List.mem_of_getElem? (i := 134) rfl)) (hw _ (List.mem_of_getElem? (i := 135) rfl)) (nf_sel (hw _ (List.mem_of_getElem? (i := 137) rfl))) (hw _ (List.mem_of_getElem? (i := 137) rfl)) (hw _ (List.mem_of_getElem? (i := 136) rfl)) (hw _ (List.mem_of_getElem? (i := 40) rfl)) (hw _ (List.mem_of_getElem? (i := 138) rfl)) (st' := [(.long u0)]) (by decide) (rmS1 Z a0 hw _ _ n0 (at_size K HT14) _ _ _ _ G) pd11 rfl rfl rfl (by decide) (W := 2) rfl (by decide) (by decide) (by decide) fun T15 h15 v15 H15 q15 => ?_
  obtain ⟨z15, rfl, b1_, rfl⟩ := q15
  show Go w _ _ 89 #[.val (.ref c), .val (.long u0), .second, .val (.int 1), .val (.int 1), .val (.ref s1), .unset, .unset, .unset, .unset, .unset, .unset] [(.long z15), (.long u0)]
  replace b1_ := b1_.symm; subst b1_
  show Go w _ _ 89 #[.val (.ref c), .val (.long u0), .second, .val (.int 1), .val (.int 1), .val (.ref s1), .unset, .unset, .unset, .unset, .unset, .unset] [(.long z1), (.long u0)]
  refine go_lsub K H15 d27_89 fun v16 ev16 => ?_
  have fv16 := f_lsub ev16
  have rv16 := rng64 v16
  refine go_lstore K H15 d27_90 (L' := #[.val (.ref c), .val (.long u0), .second, .val (.int 1), .val (.int 1), .val (.ref s1), .val (.long v16), .second, .unset, .unset, .unset, .unset]) rfl ?_
  refine go_lload K H15 d27_92 rfl ?_
  refine go_aload K H15 d27_94 rfl rfl ?_
  have hwv : v16.toInt = u0.toInt - z1.toInt := by have := rng64 v16; omega
  generalize hW : u0.toInt - z1.toInt = W at *
  have bq := rt_q r0 w0 w1; have bm0 := Int.emod_nonneg W (show z3.toInt ≠ 0 by omega); have bm1 := Int.emod_lt_of_pos W (show 0 < z3.toInt by omega); have bc := rt_c r0 bm0 bm1 f0 f1
  refine go_callV [] K H15 d27_96 (G.1) (hw _ (List.mem_of_getElem? (i := 155) rfl)) (hw _ (List.mem_of_getElem? (i := 156) rfl)) (nf_sel (hw _ (List.mem_of_getElem? (i := 158) rfl))) (hw _ (List.mem_of_getElem? (i := 158) rfl)) (hw _ (List.mem_of_getElem? (i := 157) rfl)) (hw _ (List.mem_of_getElem? (i := 40) rfl)) (hw _ (List.mem_of_getElem? (i := 159) rfl)) (st' := [(.long v16)]) (by decide) (rmS3 Z a0 hw _ _ n0 (at_size K H15) _ _ _ _ G) pd11 rfl rfl rfl (by decide) (W := 2) rfl (by decide) (by decide) (by decide) fun T17 h17 v17 H17 q17 => ?_
  obtain ⟨z17, rfl, b3_, rfl⟩ := q17
  show Go w _ _ 99 #[.val (.ref c), .val (.long u0), .second, .val (.int 1), .val (.int 1), .val (.ref s1), .val (.long v16), .second, .unset, .unset, .unset, .unset] [(.long z17), (.long v16)]
  replace b3_ := b3_.symm; subst b3_
  show Go w _ _ 99 #[.val (.ref c), .val (.long u0), .second, .val (.int 1), .val (.int 1), .val (.ref s1), .val (.long v16), .second, .unset, .unset, .unset, .unset] [(.long z3), (.long v16)]
  refine go_callS [(.long v16), (.long z3)] K H17 d27_99 (hw _ (List.mem_of_getElem? (i := 165) rfl)) (hw _ (List.mem_of_getElem? (i := 166) rfl)) (hw _ (List.mem_of_getElem? (i := 89) rfl)) (hw _ (List.mem_of_getElem? (i := 167) rfl)) (st' := []) (by decide) (rmFD Z a0 hw _ _ _ n0 (at_size K H17) (by omega)) pd12 rfl rfl rfl (by decide) (W := 0) rfl (by decide) (by decide) (by decide) fun T18 h18 v18 H18 q18 => ?_
  obtain ⟨z18, rfl, m1, rfl⟩ := q18
  show Go w _ _ 102 #[.val (.ref c), .val (.long u0), .second, .val (.int 1), .val (.int 1), .val (.ref s1), .val (.long v16), .second, .unset, .unset, .unset, .unset] [(.long z18)]
  rw [hwv] at m1
  refine go_ldcL (1000000000) K H18 d27_102 (hw _ (List.mem_of_getElem? (i := 41) rfl)) ?_
  refine go_callS [(.long z18), (.long (1000000000))] K H18 d27_105 (hw _ (List.mem_of_getElem? (i := 168) rfl)) (hw _ (List.mem_of_getElem? (i := 169) rfl)) (hw _ (List.mem_of_getElem? (i := 89) rfl)) (hw _ (List.mem_of_getElem? (i := 170) rfl)) (st' := []) (by decide) (rmMX Z a0 hw _ _ _ n0 (at_size K H18) (by rw [m1, show (1000000000 : Int64).toInt = 1000000000 from rfl]; omega) (by rw [m1, show (1000000000 : Int64).toInt = 1000000000 from rfl]; omega) (by omega)) pd12 rfl rfl rfl (by decide) (W := 0) rfl (by decide) (by decide) (by decide) fun T19 h19 v19 H19 q19 => ?_
  obtain ⟨z19, rfl, m2, rfl⟩ := q19
  show Go w _ _ 108 #[.val (.ref c), .val (.long u0), .second, .val (.int 1), .val (.int 1), .val (.ref s1), .val (.long v16), .second, .unset, .unset, .unset, .unset] [(.long z19)]
  rw [m1, show (1000000000 : Int64).toInt = 1000000000 from rfl] at m2
  refine go_lstore K H19 d27_108 (L' := #[.val (.ref c), .val (.long u0), .second, .val (.int 1), .val (.int 1), .val (.ref s1), .val (.long v16), .second, .val (.long z19), .second, .unset, .unset]) rfl ?_
  refine go_lload K H19 d27_110 rfl ?_
  refine go_aload K H19 d27_112 rfl rfl ?_
  refine go_callV [] K H19 d27_114 (G.1) (hw _ (List.mem_of_getElem? (i := 155) rfl)) (hw _ (List.mem_of_getElem? (i := 156) rfl)) (nf_sel (hw _ (List.mem_of_getElem? (i := 158) rfl))) (hw _ (List.mem_of_getElem? (i := 158) rfl)) (hw _ (List.mem_of_getElem? (i := 157) rfl)) (hw _ (List.mem_of_getElem? (i := 40) rfl)) (hw _ (List.mem_of_getElem? (i := 159) rfl)) (st' := [(.long v16)]) (by decide) (rmS3 Z a0 hw _ _ n0 (at_size K H19) _ _ _ _ G) pd11 rfl rfl rfl (by decide) (W := 2) rfl (by decide) (by decide) (by decide) fun T20 h20 v20 H20 q20 => ?_
  obtain ⟨z20, rfl, b4_, rfl⟩ := q20
  show Go w _ _ 117 #[.val (.ref c), .val (.long u0), .second, .val (.int 1), .val (.int 1), .val (.ref s1), .val (.long v16), .second, .val (.long z19), .second, .unset, .unset] [(.long z20), (.long v16)]
  replace b4_ := b4_.symm; subst b4_
  show Go w _ _ 117 #[.val (.ref c), .val (.long u0), .second, .val (.int 1), .val (.int 1), .val (.ref s1), .val (.long v16), .second, .val (.long z19), .second, .unset, .unset] [(.long z3), (.long v16)]
  refine go_callS [(.long v16), (.long z3)] K H20 d27_117 (hw _ (List.mem_of_getElem? (i := 152) rfl)) (hw _ (List.mem_of_getElem? (i := 153) rfl)) (hw _ (List.mem_of_getElem? (i := 89) rfl)) (hw _ (List.mem_of_getElem? (i := 154) rfl)) (st' := []) (by decide) (rmFM Z a0 hw _ _ _ n0 (at_size K H20) (by omega)) pd12 rfl rfl rfl (by decide) (W := 0) rfl (by decide) (by decide) (by decide) fun T21 h21 v21 H21 q21 => ?_
  obtain ⟨z21, rfl, m3, rfl⟩ := q21
  show Go w _ _ 120 #[.val (.ref c), .val (.long u0), .second, .val (.int 1), .val (.int 1), .val (.ref s1), .val (.long v16), .second, .val (.long z19), .second, .unset, .unset] [(.long z21)]
  rw [hwv] at m3
  refine go_ldcL (1000000000) K H21 d27_120 (hw _ (List.mem_of_getElem? (i := 41) rfl)) ?_
  refine go_lmul K H21 d27_123 fun v22 ev22 => ?_
  have fv22 := f_lmul ev22
  have rv22 := rng64 v22
  refine go_aload K H21 d27_124 rfl rfl ?_
  refine go_callV [] K H21 d27_126 (G.1) (hw _ (List.mem_of_getElem? (i := 139) rfl)) (hw _ (List.mem_of_getElem? (i := 140) rfl)) (nf_sel (hw _ (List.mem_of_getElem? (i := 142) rfl))) (hw _ (List.mem_of_getElem? (i := 142) rfl)) (hw _ (List.mem_of_getElem? (i := 141) rfl)) (hw _ (List.mem_of_getElem? (i := 40) rfl)) (hw _ (List.mem_of_getElem? (i := 143) rfl)) (st' := [(.long v22)]) (by decide) (rmS2 Z a0 hw _ _ n0 (at_size K H21) _ _ _ _ G) pd11 rfl rfl rfl (by decide) (W := 2) rfl (by decide) (by decide) (by decide) fun T23 h23 v23 H23 q23 => ?_
  obtain ⟨z23, rfl, b5_, rfl⟩ := q23
  show Go w _ _ 129 #[.val (.ref c), .val (.long u0), .second, .val (.int 1), .val (.int 1), .val (.ref s1), .val (.long v16), .second, .val (.long z19), .second, .unset, .unset] [(.long z23), (.long v22)]
  replace b5_ := b5_.symm; subst b5_
  show Go w _ _ 129 #[.val (.ref c), .val (.long u0), .second, .val (.int 1), .val (.int 1), .val (.ref s1), .val (.long v16), .second, .val (.long z19), .second, .unset, .unset] [(.long z2), (.long v22)]
  refine go_lsub K H23 d27_129 fun v24 ev24 => ?_
  have fv24 := f_lsub ev24
  have rv24 := rng64 v24
  refine go_lstore K H23 d27_130 (L' := #[.val (.ref c), .val (.long u0), .second, .val (.int 1), .val (.int 1), .val (.ref s1), .val (.long v16), .second, .val (.long z19), .second, .val (.long v24), .second]) rfl ?_
  refine go_aload K H23 d27_132 rfl rfl ?_
  have hpt : v24.toInt = W % z3.toInt * 1000000000 - z2.toInt := by simp only [Int64.reduceToInt] at *; have := rng64 v24; omega
  refine go_callV [] K H23 d27_134 (G.1) (hw _ (List.mem_of_getElem? (i := 129) rfl)) (hw _ (List.mem_of_getElem? (i := 130) rfl)) (nf_sel (hw _ (List.mem_of_getElem? (i := 132) rfl))) (hw _ (List.mem_of_getElem? (i := 132) rfl)) (hw _ (List.mem_of_getElem? (i := 131) rfl)) (hw _ (List.mem_of_getElem? (i := 40) rfl)) (hw _ (List.mem_of_getElem? (i := 133) rfl)) (st' := []) (by decide) (rmS0 Z a0 hw _ _ n0 (at_size K H23) _ _ _ _ G) pd11 rfl rfl rfl (by decide) (W := 0) rfl (by decide) (by decide) (by decide) fun T25 h25 v25 H25 q25 => ?_
  obtain ⟨z25, rfl, b6_, rfl⟩ := q25
  show Go w _ _ 137 #[.val (.ref c), .val (.long u0), .second, .val (.int 1), .val (.int 1), .val (.ref s1), .val (.long v16), .second, .val (.long z19), .second, .val (.long v24), .second] [(.long z25)]
  replace b6_ := b6_.symm; subst b6_
  show Go w _ _ 137 #[.val (.ref c), .val (.long u0), .second, .val (.int 1), .val (.int 1), .val (.ref s1), .val (.long v16), .second, .val (.long z19), .second, .val (.long v24), .second] [(.long z0)]
  refine go_lload K H25 d27_137 rfl ?_
  refine go_ladd K H25 d27_139 fun v26 ev26 => ?_
  have fv26 := f_ladd ev26
  have rv26 := rng64 v26
  refine go_lload K H25 d27_140 rfl ?_
  refine go_lneg K H25 d27_142 fun v27 ev27 => ?_
  have fv27 := f_lneg ev27
  have rv27 := rng64 v27
  refine go_aload K H25 d27_143 rfl rfl ?_
  have hng : v27.toInt = -(W % z3.toInt * 1000000000 - z2.toInt) := by have := rng64 v27; omega
  refine go_callV [] K H25 d27_145 (G.1) (hw _ (List.mem_of_getElem? (i := 155) rfl)) (hw _ (List.mem_of_getElem? (i := 156) rfl)) (nf_sel (hw _ (List.mem_of_getElem? (i := 158) rfl))) (hw _ (List.mem_of_getElem? (i := 158) rfl)) (hw _ (List.mem_of_getElem? (i := 157) rfl)) (hw _ (List.mem_of_getElem? (i := 40) rfl)) (hw _ (List.mem_of_getElem? (i := 159) rfl)) (st' := [(.long v27), (.long v26)]) (by decide) (rmS3 Z a0 hw _ _ n0 (at_size K H25) _ _ _ _ G) pd11 rfl rfl rfl (by decide) (W := 4) rfl (by decide) (by decide) (by decide) fun T28 h28 v28 H28 q28 => ?_
  obtain ⟨z28, rfl, b7_, rfl⟩ := q28
  show Go w _ _ 148 #[.val (.ref c), .val (.long u0), .second, .val (.int 1), .val (.int 1), .val (.ref s1), .val (.long v16), .second, .val (.long z19), .second, .val (.long v24), .second] [(.long z28), (.long v27), (.long v26)]
  replace b7_ := b7_.symm; subst b7_
  show Go w _ _ 148 #[.val (.ref c), .val (.long u0), .second, .val (.int 1), .val (.int 1), .val (.ref s1), .val (.long v16), .second, .val (.long z19), .second, .val (.long v24), .second] [(.long z3), (.long v27), (.long v26)]
  refine go_callS [(.long v27), (.long z3)] K H28 d27_148 (hw _ (List.mem_of_getElem? (i := 165) rfl)) (hw _ (List.mem_of_getElem? (i := 166) rfl)) (hw _ (List.mem_of_getElem? (i := 89) rfl)) (hw _ (List.mem_of_getElem? (i := 167) rfl)) (st' := [(.long v26)]) (by decide) (rmFD Z a0 hw _ _ _ n0 (at_size K H28) (by omega)) pd12 rfl rfl rfl (by decide) (W := 2) rfl (by decide) (by decide) (by decide) fun T29 h29 v29 H29 q29 => ?_
  obtain ⟨z29, rfl, m4, rfl⟩ := q29
  show Go w _ _ 151 #[.val (.ref c), .val (.long u0), .second, .val (.int 1), .val (.int 1), .val (.ref s1), .val (.long v16), .second, .val (.long z19), .second, .val (.long v24), .second] [(.long z29), (.long v26)]
  rw [hng] at m4
  refine go_lsub K H29 d27_151 fun v30 ev30 => ?_
  have fv30 := f_lsub ev30
  have rv30 := rng64 v30
  have pl := rt_plain (w := W) (r := z3.toInt) (f := z2.toInt) (by omega) rfl
  have hr9 : v30.toInt = z0.toInt + (W / z3.toInt * 1000000000 - (-(W % z3.toInt * 1000000000 - z2.toInt)) / z3.toInt) := by have := rng64 v30; omega
  exact go_lret K H29 d27_152 rfl (by decide) (by decide) (⟨⟨_, hr9, pl.1, pl.2, by omega, by omega⟩, rfl⟩)
set_option maxRecDepth 65536 in
set_option maxHeartbeats 40000000 in
theorem rm0 (Z : State) (a0 : Array Value) (hw : ∀ d ∈ tables_1, d.before a0 Z = true) (u0 : Int64) (u1 : Int64) (u2 : Int64) (u3 : Int64) (u4 : Int64) (u5 : Int32) (h0 : Heap) (n0 : Nat) (Z0 : n0 ≤ h0.size) (de : Addr) (S9 : ∀ hh : Heap, (∀ (x : Addr) (c : Cell), x < n0 → h0[x]? = some c → hh[x]? = some c) → Sta Z hh "java/util/ArrayList" "DEFAULTCAPACITY_EMPTY_ELEMENTDATA" "[Ljava/lang/Object;" (.ref de)) (AD : VA Z h0 de (.object "java/lang/Object") []) (hde : de < n0) (lau : Launch) :
    Con lau Z x code maxLocals ret room_1 #[(.long u0), (.long u1), (.long u2), (.long u3), (.long u4), (.int u5)] h0 n0 (RI fun z _ => z = 1) := by
  refine con_intro pn28 (L := #[.val (.long u0), .second, .val (.long u1), .second, .val (.long u2), .second, .val (.long u3), .second, .val (.long u4), .second, .val (.int u5), .unset, .unset, .unset, .unset, .unset, .unset, .unset, .unset, .unset, .unset, .unset, .unset, .unset, .unset, .unset, .unset, .unset, .unset]) (fun m => by first | (simp [entryFrame, mkF, argsToLocals, Value.category, maxLocals]; done) | rfl) Z0 (fun w T K H => ?_)
  refine go_lloadN K H d28_0 rfl ?_
  refine go_bipush (14) K H d28_1 (by decide) ?_
  refine go_lshl K H d28_3 fun v1 ev1 => ?_
  have fv1 := f_lshl 16384 14 ev1 (by decide) (by decide)
  have rv1 := rng64 v1
  refine go_bipush (14) K H d28_4 (by decide) ?_
  refine go_lshr K H d28_6 fun v2 ev2 => ?_
  have fv2 := f_lshr 16384 14 ev2 (by decide) (by decide)
  refine go_lstore K H d28_7 (L' := #[.val (.long u0), .second, .val (.long u1), .second, .val (.long u2), .second, .val (.long u3), .second, .val (.long u4), .second, .val (.int u5), .val (.long v2), .second, .unset, .unset, .unset, .unset, .unset, .unset, .unset, .unset, .unset, .unset, .unset, .unset, .unset, .unset, .unset, .unset]) rfl ?_
  refine go_lconst 1 K H d28_9 (by decide) ?_
  refine go_lloadN K H d28_10 rfl ?_
  refine go_ldcL (1099511627775) K H d28_11 (hw _ (List.mem_of_getElem? (i := 0) rfl)) ?_
  refine go_land K H d28_14 fun v3 ev3 => ?_
  have fv3 := f_maskL 1099511627776 40 ev3 (by decide) (by decide) (by decide)
  refine go_ladd K H d28_15 fun v4 ev4 => ?_
  have fv4 := f_ladd ev4
  have rv4 := rng64 v4
  refine go_lstore K H d28_16 (L' := #[.val (.long u0), .second, .val (.long u1), .second, .val (.long u2), .second, .val (.long u3), .second, .val (.long u4), .second, .val (.int u5), .val (.long v2), .second, .val (.long v4), .second, .unset, .unset, .unset, .unset, .unset, .unset, .unset, .unset, .unset, .unset, .unset, .unset, .unset, .unset]) rfl ?_
  refine go_ldcL (268435456) K H d28_18 (hw _ (List.mem_of_getElem? (i := 1) rfl)) ?_
  refine go_lload K H d28_21 rfl ?_
  refine go_ldcL (4294967295) K H d28_23 (hw _ (List.mem_of_getElem? (i := 2) rfl)) ?_
  refine go_land K H d28_26 fun v5 ev5 => ?_
  have fv5 := f_maskL 4294967296 32 ev5 (by decide) (by decide) (by decide)
  refine go_ladd K H d28_27 fun v6 ev6 => ?_
  have fv6 := f_ladd ev6
  have rv6 := rng64 v6
  refine go_lstore K H d28_28 (L' := #[.val (.long u0), .second, .val (.long u1), .second, .val (.long u2), .second, .val (.long u3), .second, .val (.long u4), .second, .val (.int u5), .val (.long v2), .second, .val (.long v4), .second, .val (.long v6), .second, .unset, .unset, .unset, .unset, .unset, .unset, .unset, .unset, .unset, .unset, .unset, .unset]) rfl ?_
  refine go_ldcL (268435456) K H d28_30 (hw _ (List.mem_of_getElem? (i := 1) rfl)) ?_
  refine go_lload K H d28_33 rfl ?_
  refine go_ldcL (4294967295) K H d28_35 (hw _ (List.mem_of_getElem? (i := 2) rfl)) ?_
  refine go_land K H d28_38 fun v7 ev7 => ?_
  have fv7 := f_maskL 4294967296 32 ev7 (by decide) (by decide) (by decide)
  refine go_ladd K H d28_39 fun v8 ev8 => ?_
  have fv8 := f_ladd ev8
  have rv8 := rng64 v8
  refine go_lstore K H d28_40 (L' := #[.val (.long u0), .second, .val (.long u1), .second, .val (.long u2), .second, .val (.long u3), .second, .val (.long u4), .second, .val (.int u5), .val (.long v2), .second, .val (.long v4), .second, .val (.long v6), .second, .val (.long v8), .second, .unset, .unset, .unset, .unset, .unset, .unset, .unset, .unset, .unset, .unset]) rfl ?_
  refine go_iload K H d28_42 rfl ?_
  refine go_iconst (1) K H d28_44 (by decide) ?_
  refine go_iand K H d28_45 fun v9 ev9 => ?_
  have fv9 := f_mask 2 1 ev9 (by decide) (by decide) (by decide)
  have bP : -562949953421312 ≤ v2.toInt ∧ v2.toInt < 562949953421312 := by have := rng64 v2; have := fv2; omega
  have bT : 1 ≤ v4.toInt ∧ v4.toInt ≤ 1099511627776 := by (try simp only [or_true, true_or, and_true, true_and, not_true_eq_false, not_false_eq_true, Int32.lt_iff_toInt_lt, Int32.le_iff_toInt_le, ← Int32.toInt_inj, Int64.lt_iff_toInt_lt, Int64.le_iff_toInt_le, ← Int64.toInt_inj, Int32.reduceToInt, Int64.reduceToInt, ne_eq] at *) <;> omega
  have bv6 : 268435456 ≤ v6.toInt ∧ v6.toInt < 4563402752 := by (try simp only [or_true, true_or, and_true, true_and, not_true_eq_false, not_false_eq_true, Int32.lt_iff_toInt_lt, Int32.le_iff_toInt_le, ← Int32.toInt_inj, Int64.lt_iff_toInt_lt, Int64.le_iff_toInt_le, ← Int64.toInt_inj, Int32.reduceToInt, Int64.reduceToInt, ne_eq] at *) <;> omega
  have bv8 : 268435456 ≤ v8.toInt ∧ v8.toInt < 4563402752 := by (try simp only [or_true, true_or, and_true, true_and, not_true_eq_false, not_false_eq_true, Int32.lt_iff_toInt_lt, Int32.le_iff_toInt_le, ← Int32.toInt_inj, Int64.lt_iff_toInt_lt, Int64.le_iff_toInt_le, ← Int64.toInt_inj, Int32.reduceToInt, Int64.reduceToInt, ne_eq] at *) <;> omega
  have J68 : ∀ (dd : Int64) (hdd0 : -562949953421312 ≤ dd.toInt) (hdd1 : dd.toInt < 562949953421312), Go w (RI fun z _ => z = 1) T 68 #[.val (.long u0), .second, .val (.long u1), .second, .val (.long u2), .second, .val (.long u3), .second, .val (.long u4), .second, .val (.int u5), .val (.long v2), .second, .val (.long v4), .second, .val (.long v6), .second, .val (.long v8), .second, .unset, .unset, .unset, .unset, .unset, .unset, .unset, .unset, .unset, .unset] [(.long dd)] := by
    intro dd hdd0 hdd1
    refine go_lstore K H d28_68 (L' := #[.val (.long u0), .second, .val (.long u1), .second, .val (.long u2), .second, .val (.long u3), .second, .val (.long u4), .second, .val (.int u5), .val (.long v2), .second, .val (.long v4), .second, .val (.long v6), .second, .val (.long v8), .second, .val (.long dd), .second, .unset, .unset, .unset, .unset, .unset, .unset, .unset, .unset]) rfl ?_
    refine go_new K H d28_70 (hw _ (List.mem_of_getElem? (i := 3) rfl)) (hw _ (List.mem_of_getElem? (i := 4) rfl)) (hw _ (List.mem_of_getElem? (i := 5) rfl)) (by decide) (by decide) fun T10 h10 c H10 g10 l10 E10 A10 D10 => ?_
    have PR := pr_ext (fun x c _ q => q : ∀ (x : Addr) (c : Cell), x < n0 → h0[x]? = some c → h0[x]? = some c) E10; have S1 := S9 _ PR; have AD1 := AD.ext E10
    refine go_dup K H10 d28_73 rfl ?_
    refine go_lload K H10 d28_74 rfl ?_
    refine go_callI [(.long v2)] K H10 d28_76 rfl (hw _ (List.mem_of_getElem? (i := 6) rfl)) (hw _ (List.mem_of_getElem? (i := 7) rfl)) (hw _ (List.mem_of_getElem? (i := 5) rfl)) (hw _ (List.mem_of_getElem? (i := 8) rfl)) (st' := [(.ref c)]) (by decide) (rmCI Z a0 hw _ _ _ n0 (at_size K H10) _ de (D10 (Or.inr (hw _ (List.mem_of_getElem? (i := 37) rfl))) (ty := (.object "java/util/List")) (by decide)) A10 S1 AD1 hde l10) pd14 rfl rfl rfl (by decide) (W := 1) rfl (by decide) (by decide) (by decide) fun T11 h11 v11 H11 q11 => ?_
    obtain ⟨rfl, l, e, s, gl, ge, hl0, he0, hs0, O, K1⟩ := q11
    show Go w _ _ 79 #[.val (.long u0), .second, .val (.long u1), .second, .val (.long u2), .second, .val (.long u3), .second, .val (.long u4), .second, .val (.int u5), .val (.long v2), .second, .val (.long v4), .second, .val (.long v6), .second, .val (.long v8), .second, .val (.long dd), .second, .unset, .unset, .unset, .unset, .unset, .unset, .unset, .unset] [(.ref c)]
    have gc := l10
    replace PR := pr_keep PR K1 (all1 l10); replace AD1 := AD1.keep K1 (ninS (ne_lt hde l10) nin0)
    refine go_astore K H11 d28_79 rfl (L' := #[.val (.long u0), .second, .val (.long u1), .second, .val (.long u2), .second, .val (.long u3), .second, .val (.long u4), .second, .val (.int u5), .val (.long v2), .second, .val (.long v4), .second, .val (.long v6), .second, .val (.long v8), .second, .val (.long dd), .second, .val (.ref c), .unset, .unset, .unset, .unset, .unset, .unset, .unset]) rfl ?_
    refine go_aload K H11 d28_81 rfl rfl ?_
    refine go_lconst 0 K H11 d28_83 (by decide) ?_
    refine go_lload K H11 d28_84 rfl ?_
    refine go_callV [(.long 0), (.long v6)] K H11 d28_86 (O.1) (hw _ (List.mem_of_getElem? (i := 94) rfl)) (hw _ (List.mem_of_getElem? (i := 95) rfl)) (nf_sel (hw _ (List.mem_of_getElem? (i := 97) rfl))) (hw _ (List.mem_of_getElem? (i := 97) rfl)) (hw _ (List.mem_of_getElem? (i := 96) rfl)) (hw _ (List.mem_of_getElem? (i := 5) rfl)) (hw _ (List.mem_of_getElem? (i := 98) rfl)) (st' := []) (by decide) (rmRS Z a0 hw _ _ _ _ n0 (at_size K H11) _ _ _ _ _ _ _ _ _ O rfl ge) pd15 rfl rfl rfl (by decide) (W := 0) rfl (by decide) (by decide) (by decide) fun T12 h12 v12 H12 q12 => ?_
    obtain ⟨rfl, s1, hs1, O1, K2⟩ := q12
    show Go w _ _ 89 #[.val (.long u0), .second, .val (.long u1), .second, .val (.long u2), .second, .val (.long u3), .second, .val (.long u4), .second, .val (.int u5), .val (.long v2), .second, .val (.long v4), .second, .val (.long v6), .second, .val (.long v8), .second, .val (.long dd), .second, .val (.ref c), .unset, .unset, .unset, .unset, .unset, .unset, .unset] []
    replace PR := pr_keep PR K2 (all1 ge); replace AD1 := AD1.keep K2 (ninS (ne_lt hde ge) nin0)
    refine go_aload K H12 d28_89 rfl rfl ?_
    refine go_lload K H12 d28_91 rfl ?_
    refine go_lload K H12 d28_93 rfl ?_
    have hTn : v4 ≠ 0 := fun q => by rw [q] at bT; exact absurd bT.1 (by decide)
    have mb := mul_bd (D := v4.toInt / 1000000000) (r := v6.toInt) (B := 1100) (C := 4563402752) (by omega) (by omega) (by omega) (by omega) (by decide)
    have mT := mul_bd (D := v4.toInt) (r := v6.toInt) (B := 1099511627776) (C := 4563402752) (by omega) (by omega) (by omega) (by omega) (by decide)
    have mT0 := Int.mul_nonneg (show 0 ≤ v4.toInt by omega) (show 0 ≤ v6.toInt by omega)
    refine go_callV [(.long v4), (.long v8)] K H12 d28_95 (O1.1) (hw _ (List.mem_of_getElem? (i := 94) rfl)) (hw _ (List.mem_of_getElem? (i := 95) rfl)) (nf_sel (hw _ (List.mem_of_getElem? (i := 97) rfl))) (hw _ (List.mem_of_getElem? (i := 97) rfl)) (hw _ (List.mem_of_getElem? (i := 96) rfl)) (hw _ (List.mem_of_getElem? (i := 5) rfl)) (hw _ (List.mem_of_getElem? (i := 98) rfl)) (st' := []) (by decide) (rmRA Z a0 hw _ _ _ _ n0 (at_size K H12) _ _ _ _ _ _ _ _ _ O1 hTn (by decide) gl ge (by omega) (by omega) (by decide) (by decide) (by simp only [Int64.reduceToInt, Int.sub_zero] at *; omega) (by simp only [Int64.reduceToInt, Int.sub_zero] at *; omega) (by simp only [Int64.reduceToInt, Int.sub_zero] at *; omega) (by simp only [Int64.reduceToInt, Int.sub_zero] at *; omega)) pd15 rfl rfl rfl (by decide) (W := 0) rfl (by decide) (by decide) (by decide) fun T13 h13 v13 H13 q13 => ?_
    obtain ⟨rfl, s2, X2, F2, hs2, O2, hx2, hf2, K3⟩ := q13
    show Go w _ _ 98 #[.val (.long u0), .second, .val (.long u1), .second, .val (.long u2), .second, .val (.long u3), .second, .val (.long u4), .second, .val (.int u5), .val (.long v2), .second, .val (.long v4), .second, .val (.long v6), .second, .val (.long v8), .second, .val (.long dd), .second, .val (.ref c), .unset, .unset, .unset, .unset, .unset, .unset, .unset] []
    replace PR := pr_keep PR K3 (all2 gl ge); replace AD1 := AD1.keep K3 (ninS (ne_lt hde gl) (ninS (ne_lt hde ge) nin0))
    have G1 := O1.2.2.2.2.2.2.2.1.keep K3 (ninS O1.2.2.2.2.2.2.2.2.2.2.1 (ninS O1.2.2.2.2.2.2.2.2.2.2.2.1 nin0))
    simp only [Int64.reduceToInt, Int.sub_zero, Int.add_zero] at hx2 hf2
    have hX2 : X2.toInt = v2.toInt + (v4.toInt * v6.toInt) / 1000000000 := by have := rng64 X2; generalize v4.toInt * v6.toInt = Q at *; omega
    have bF2 : 0 ≤ F2.toInt ∧ F2.toInt < 1000000000 := by generalize v4.toInt * v6.toInt = Q at *; omega
    have bX2 : v2.toInt ≤ X2.toInt ∧ X2.toInt < v2.toInt + 6000000000000 := by generalize v4.toInt * v6.toInt = Q at *; omega
    refine go_new K H13 d28_98 (hw _ (List.mem_of_getElem? (i := 3) rfl)) (hw _ (List.mem_of_getElem? (i := 4) rfl)) (hw _ (List.mem_of_getElem? (i := 5) rfl)) (by decide) (by decide) fun T14 h14 d H14 g14 l14 E14 A14 D14 => ?_
    have ncd : c ≠ d := Nat.ne_of_lt (g14 ▸ O2.1.lt); have nld : l ≠ d := Nat.ne_of_lt (g14 ▸ O2.2.2.1.1.lt); have ned : e ≠ d := Nat.ne_of_lt (g14 ▸ O2.2.2.1.2.2.2.2.1.lt); have nsd : s2 ≠ d := Nat.ne_of_lt (g14 ▸ O2.2.2.2.2.2.2.2.1.1.lt); have nsd1 : s1 ≠ d := Nat.ne_of_lt (g14 ▸ G1.1.lt)
    replace O2 := O2.ext E14; replace G1 := G1.ext E14; replace PR := pr_ext PR E14; clear S1; have S1 := S9 _ PR; replace AD1 := AD1.ext E14
    refine go_dup K H14 d28_101 rfl ?_
    refine go_lload K H14 d28_102 rfl ?_
    have z1 := O2.1.lt; have z2 := O2.2.2.1.1.lt; have z3 := O2.2.2.1.2.2.2.2.1.lt; have z4 := O2.2.2.2.2.2.2.2.1.1.lt; have z5 := G1.1.lt
    refine go_callI [(.long v2)] K H14 d28_104 rfl (hw _ (List.mem_of_getElem? (i := 6) rfl)) (hw _ (List.mem_of_getElem? (i := 7) rfl)) (hw _ (List.mem_of_getElem? (i := 5) rfl)) (hw _ (List.mem_of_getElem? (i := 8) rfl)) (st' := [(.ref d)]) (by decide) (rmCI Z a0 hw _ _ _ n0 (at_size K H14) _ de (D14 (Or.inr (hw _ (List.mem_of_getElem? (i := 37) rfl))) (ty := (.object "java/util/List")) (by decide)) A14 S1 AD1 hde l14) pd14 rfl rfl rfl (by decide) (W := 1) rfl (by decide) (by decide) (by decide) fun T15 h15 v15 H15 q15 => ?_
    obtain ⟨rfl, l', e', s', gl', ge', hl0', he0', hs0', O', K4⟩ := q15
    show Go w _ _ 107 #[.val (.long u0), .second, .val (.long u1), .second, .val (.long u2), .second, .val (.long u3), .second, .val (.long u4), .second, .val (.int u5), .val (.long v2), .second, .val (.long v4), .second, .val (.long v6), .second, .val (.long v8), .second, .val (.long dd), .second, .val (.ref c), .unset, .unset, .unset, .unset, .unset, .unset, .unset] [(.ref d)]
    replace O2 := O2.keep K4 (ninS ncd nin0) (ninS nld nin0) (ninS ned nin0) (ninS nsd nin0); replace G1 := G1.keep K4 (ninS nsd1 nin0)
    refine go_astore K H15 d28_107 rfl (L' := #[.val (.long u0), .second, .val (.long u1), .second, .val (.long u2), .second, .val (.long u3), .second, .val (.long u4), .second, .val (.int u5), .val (.long v2), .second, .val (.long v4), .second, .val (.long v6), .second, .val (.long v8), .second, .val (.long dd), .second, .val (.ref c), .val (.ref d), .unset, .unset, .unset, .unset, .unset, .unset]) rfl ?_
    refine go_aload K H15 d28_109 rfl rfl ?_
    refine go_lconst 0 K H15 d28_111 (by decide) ?_
    refine go_lload K H15 d28_112 rfl ?_
    refine go_callV [(.long 0), (.long v6)] K H15 d28_114 (O'.1) (hw _ (List.mem_of_getElem? (i := 94) rfl)) (hw _ (List.mem_of_getElem? (i := 95) rfl)) (nf_sel (hw _ (List.mem_of_getElem? (i := 97) rfl))) (hw _ (List.mem_of_getElem? (i := 97) rfl)) (hw _ (List.mem_of_getElem? (i := 96) rfl)) (hw _ (List.mem_of_getElem? (i := 5) rfl)) (hw _ (List.mem_of_getElem? (i := 98) rfl)) (st' := []) (by decide) (rmRS Z a0 hw _ _ _ _ n0 (at_size K H15) _ _ _ _ _ _ _ _ _ O' rfl ge') pd15 rfl rfl rfl (by decide) (W := 0) rfl (by decide) (by decide) (by decide) fun T16 h16 v16 H16 q16 => ?_
    obtain ⟨rfl, s1', hs1', O3, K5⟩ := q16
    show Go w _ _ 117 #[.val (.long u0), .second, .val (.long u1), .second, .val (.long u2), .second, .val (.long u3), .second, .val (.long u4), .second, .val (.int u5), .val (.long v2), .second, .val (.long v4), .second, .val (.long v6), .second, .val (.long v8), .second, .val (.long dd), .second, .val (.ref c), .val (.ref d), .unset, .unset, .unset, .unset, .unset, .unset] []
    replace O2 := O2.keep K5 (ninS (ne_lt z1 he0') nin0) (ninS (ne_lt z2 he0') nin0) (ninS (ne_lt z3 he0') nin0) (ninS (ne_lt z4 he0') nin0); replace G1 := G1.keep K5 (ninS (ne_lt z5 he0') nin0)
    refine go_aload K H16 d28_117 rfl rfl ?_
    refine go_lload K H16 d28_119 rfl ?_
    refine go_callV [(.long v4)] K H16 d28_121 (O2.1) (hw _ (List.mem_of_getElem? (i := 175) rfl)) (hw _ (List.mem_of_getElem? (i := 161) rfl)) (nf_sel (hw _ (List.mem_of_getElem? (i := 163) rfl))) (hw _ (List.mem_of_getElem? (i := 163) rfl)) (hw _ (List.mem_of_getElem? (i := 162) rfl)) (hw _ (List.mem_of_getElem? (i := 5) rfl)) (hw _ (List.mem_of_getElem? (i := 164) rfl)) (st' := []) (by decide) (rmRd Z a0 hw _ _ _ n0 (at_size K H16) _ _ _ _ _ _ _ _ _ O2 (by omega) (by omega) bF2.1 bF2.2 (by rw [Int.sub_self]; decide) (by rw [Int.sub_self]; decide) (by rw [Int.sub_self, Int.zero_ediv, Int.zero_mul]; decide) (by rw [Int.sub_self, Int.zero_ediv, Int.zero_mul]; decide)) pd0 rfl rfl rfl (by decide) (W := 0) rfl (by decide) (by decide) (by decide) fun T17 h17 v17 H17 q17 => ?_
    obtain ⟨z17, rfl, hg, rfl⟩ := q17
    show Go w _ _ 124 #[.val (.long u0), .second, .val (.long u1), .second, .val (.long u2), .second, .val (.long u3), .second, .val (.long u4), .second, .val (.int u5), .val (.long v2), .second, .val (.long v4), .second, .val (.long v6), .second, .val (.long v8), .second, .val (.long dd), .second, .val (.ref c), .val (.ref d), .unset, .unset, .unset, .unset, .unset, .unset] [(.long z17)]
    replace hg : z17 = X2 := by apply Int64.toInt_inj.mp; rw [Int.sub_self, Int.zero_mul] at hg; have := rng64 z17; have := rng64 X2; omega
    replace hg := hg.symm; subst hg
    show Go w _ _ 124 #[.val (.long u0), .second, .val (.long u1), .second, .val (.long u2), .second, .val (.long u3), .second, .val (.long u4), .second, .val (.int u5), .val (.long v2), .second, .val (.long v4), .second, .val (.long v6), .second, .val (.long v8), .second, .val (.long dd), .second, .val (.ref c), .val (.ref d), .unset, .unset, .unset, .unset, .unset, .unset] [(.long X2)]
    refine go_lstore K H17 d28_124 (L' := #[.val (.long u0), .second, .val (.long u1), .second, .val (.long u2), .second, .val (.long u3), .second, .val (.long u4), .second, .val (.int u5), .val (.long v2), .second, .val (.long v4), .second, .val (.long v6), .second, .val (.long v8), .second, .val (.long dd), .second, .val (.ref c), .val (.ref d), .val (.long X2), .second, .unset, .unset, .unset, .unset]) rfl ?_
    refine go_iload K H17 d28_126 rfl ?_
    refine go_iconst (2) K H17 d28_128 (by decide) ?_
    refine go_iand K H17 d28_129 fun v18 ev18 => ?_
    have J143 : ∀ (xx : Int64) (hxx0 : -1200000000000000 ≤ xx.toInt) (hxx1 : xx.toInt < 1200000000000000), Go w (RI fun z _ => z = 1) T17 143 #[.val (.long u0), .second, .val (.long u1), .second, .val (.long u2), .second, .val (.long u3), .second, .val (.long u4), .second, .val (.int u5), .val (.long v2), .second, .val (.long v4), .second, .val (.long v6), .second, .val (.long v8), .second, .val (.long dd), .second, .val (.ref c), .val (.ref d), .val (.long X2), .second, .unset, .unset, .unset, .unset] [(.long xx)] := by
      intro xx hxx0 hxx1
      refine go_lstore K H17 d28_143 (L' := #[.val (.long u0), .second, .val (.long u1), .second, .val (.long u2), .second, .val (.long u3), .second, .val (.long u4), .second, .val (.int u5), .val (.long v2), .second, .val (.long v4), .second, .val (.long v6), .second, .val (.long v8), .second, .val (.long dd), .second, .val (.ref c), .val (.ref d), .val (.long X2), .second, .val (.long xx), .second, .unset, .unset]) rfl ?_
      refine go_aload K H17 d28_145 rfl rfl ?_
      refine go_lload K H17 d28_147 rfl ?_
      by_cases hy : X2.toInt < xx.toInt
      · refine go_callV [(.long xx)] K H17 d28_149 (O2.1) (hw _ (List.mem_of_getElem? (i := 176) rfl)) (hw _ (List.mem_of_getElem? (i := 177) rfl)) (nf_sel (hw _ (List.mem_of_getElem? (i := 179) rfl))) (hw _ (List.mem_of_getElem? (i := 179) rfl)) (hw _ (List.mem_of_getElem? (i := 178) rfl)) (hw _ (List.mem_of_getElem? (i := 5) rfl)) (hw _ (List.mem_of_getElem? (i := 180) rfl)) (st' := []) (by decide) (rmT3 Z a0 hw _ _ _ n0 (at_size K H17) _ _ _ O2.2.1 (show AL1 Z _ l e 2 _ from O2.2.2.1) s1 rfl _ _ _ _ s2 rfl O2.2.2.2.2.2.2.2.1 hy (by omega) (by omega) bF2.1 bF2.2 (by omega) (by omega) (by omega) (by omega)) pd0 rfl rfl rfl (by decide) (W := 0) rfl (by decide) (by decide) (by decide) fun T19 h19 v19 H19 q19 => ?_
        obtain ⟨z19, rfl, ⟨D, hz, p1, p2, p3, p4⟩, rfl⟩ := q19
        show Go w _ _ 152 #[.val (.long u0), .second, .val (.long u1), .second, .val (.long u2), .second, .val (.long u3), .second, .val (.long u4), .second, .val (.int u5), .val (.long v2), .second, .val (.long v4), .second, .val (.long v6), .second, .val (.long v8), .second, .val (.long dd), .second, .val (.ref c), .val (.ref d), .val (.long X2), .second, .val (.long xx), .second, .unset, .unset] [(.long z19)]
        have ha := hi_after (by omega) (by omega) bF2.2 p1
        refine go_lstore K H19 d28_152 (L' := #[.val (.long u0), .second, .val (.long u1), .second, .val (.long u2), .second, .val (.long u3), .second, .val (.long u4), .second, .val (.int u5), .val (.long v2), .second, .val (.long v4), .second, .val (.long v6), .second, .val (.long v8), .second, .val (.long dd), .second, .val (.ref c), .val (.ref d), .val (.long X2), .second, .val (.long xx), .second, .val (.long z19), .second]) rfl ?_
        refine go_lload K H19 d28_154 rfl ?_
        refine go_lload K H19 d28_156 rfl ?_
        refine go_lcmp K H19 d28_158 fun v20 ev20 => ?_
        have fv20 := f_lcmp ev20
        refine go_if_le K H19 d28_159 (fun cc => False.elim (by (try simp only [or_true, true_or, and_true, true_and, not_true_eq_false, not_false_eq_true, Int32.lt_iff_toInt_lt, Int32.le_iff_toInt_le, ← Int32.toInt_inj, Int64.lt_iff_toInt_lt, Int64.le_iff_toInt_le, ← Int64.toInt_inj, Int32.reduceToInt, Int64.reduceToInt, ne_eq] at *) <;> omega)) (fun cc => ?_)
        refine go_lload K H19 d28_162 rfl ?_
        refine go_lload K H19 d28_164 rfl ?_
        refine go_lcmp K H19 d28_166 fun v21 ev21 => ?_
        have fv21 := f_lcmp ev21
        refine go_if_le K H19 d28_167 (fun cc1 => False.elim (by (try simp only [or_true, true_or, and_true, true_and, not_true_eq_false, not_false_eq_true, Int32.lt_iff_toInt_lt, Int32.le_iff_toInt_le, ← Int32.toInt_inj, Int64.lt_iff_toInt_lt, Int64.le_iff_toInt_le, ← Int64.toInt_inj, Int32.reduceToInt, Int64.reduceToInt, ne_eq] at *) <;> omega)) (fun cc1 => ?_)
        refine go_aload K H19 d28_170 rfl rfl ?_
        refine go_lload K H19 d28_172 rfl ?_
        have hD0 : z19.toInt - v4.toInt = D := by have := rng64 z19; have := rng64 z19; simp only [Int64.reduceToInt] at *; omega
        have mq0 := mul_bd (D := (D) / 1000000000) (r := v8.toInt) (B := 17000001) (C := 4563402752) (by omega) (by omega) (by omega) (by omega) (by decide)
        refine go_callV [(.long z19)] K H19 d28_174 (O2.1) (hw _ (List.mem_of_getElem? (i := 175) rfl)) (hw _ (List.mem_of_getElem? (i := 161) rfl)) (nf_sel (hw _ (List.mem_of_getElem? (i := 163) rfl))) (hw _ (List.mem_of_getElem? (i := 163) rfl)) (hw _ (List.mem_of_getElem? (i := 162) rfl)) (hw _ (List.mem_of_getElem? (i := 5) rfl)) (hw _ (List.mem_of_getElem? (i := 164) rfl)) (st' := []) (by decide) (rmRd Z a0 hw _ _ _ n0 (at_size K H19) _ _ _ _ _ _ _ _ _ O2 (by omega) (by omega) bF2.1 bF2.2 (by rw [hD0]; omega) (by rw [hD0]; omega) (by rw [hD0]; omega) (by rw [hD0]; omega)) pd0 rfl rfl rfl (by decide) (W := 0) rfl (by decide) (by decide) (by decide) fun T22 h22 v22 H22 q22 => ?_
        obtain ⟨z22, rfl, hg0, rfl⟩ := q22
        show Go w _ _ 177 #[.val (.long u0), .second, .val (.long u1), .second, .val (.long u2), .second, .val (.long u3), .second, .val (.long u4), .second, .val (.int u5), .val (.long v2), .second, .val (.long v4), .second, .val (.long v6), .second, .val (.long v8), .second, .val (.long dd), .second, .val (.ref c), .val (.ref d), .val (.long X2), .second, .val (.long xx), .second, .val (.long z19), .second] [(.long z22)]
        rw [hD0] at hg0
        have fin0 := rd_ge (x := xx.toInt) (by omega) (by omega) (by omega) (by omega) (by omega) (rng64 z22).1 (rng64 z22).2 hg0 p1 p2
        refine go_lload K H22 d28_177 rfl ?_
        refine go_lcmp K H22 d28_179 fun v23 ev23 => ?_
        have fv23 := f_lcmp ev23
        refine go_if_lt K H22 d28_180 (fun cd0 => False.elim (by clear p1 p2 hg0 ; (try simp only [or_true, true_or, and_true, true_and, not_true_eq_false, not_false_eq_true, Int32.lt_iff_toInt_lt, Int32.le_iff_toInt_le, ← Int32.toInt_inj, Int64.lt_iff_toInt_lt, Int64.le_iff_toInt_le, ← Int64.toInt_inj, Int32.reduceToInt, Int64.reduceToInt, ne_eq] at *) <;> omega)) (fun cd0 => ?_)
        refine go_aload K H22 d28_183 rfl rfl ?_
        refine go_lload K H22 d28_185 rfl ?_
        refine go_lconst 1 K H22 d28_187 (by decide) ?_
        refine go_lsub K H22 d28_188 fun v24 ev24 => ?_
        have fv24 := f_lsub ev24
        have rv24 := rng64 v24
        have hD1 : v24.toInt - v4.toInt = D - 1 := by have := rng64 v24; have := rng64 z19; simp only [Int64.reduceToInt] at *; omega
        have mq1 := mul_bd (D := (D - 1) / 1000000000) (r := v8.toInt) (B := 17000001) (C := 4563402752) (by omega) (by omega) (by omega) (by omega) (by decide)
        refine go_callV [(.long v24)] K H22 d28_189 (O2.1) (hw _ (List.mem_of_getElem? (i := 175) rfl)) (hw _ (List.mem_of_getElem? (i := 161) rfl)) (nf_sel (hw _ (List.mem_of_getElem? (i := 163) rfl))) (hw _ (List.mem_of_getElem? (i := 163) rfl)) (hw _ (List.mem_of_getElem? (i := 162) rfl)) (hw _ (List.mem_of_getElem? (i := 5) rfl)) (hw _ (List.mem_of_getElem? (i := 164) rfl)) (st' := []) (by decide) (rmRd Z a0 hw _ _ _ n0 (at_size K H22) _ _ _ _ _ _ _ _ _ O2 (by omega) (by omega) bF2.1 bF2.2 (by rw [hD1]; omega) (by rw [hD1]; omega) (by rw [hD1]; omega) (by rw [hD1]; omega)) pd0 rfl rfl rfl (by decide) (W := 0) rfl (by decide) (by decide) (by decide) fun T25 h25 v25 H25 q25 => ?_
        obtain ⟨z25, rfl, hg1, rfl⟩ := q25
        show Go w _ _ 192 #[.val (.long u0), .second, .val (.long u1), .second, .val (.long u2), .second, .val (.long u3), .second, .val (.long u4), .second, .val (.int u5), .val (.long v2), .second, .val (.long v4), .second, .val (.long v6), .second, .val (.long v8), .second, .val (.long dd), .second, .val (.ref c), .val (.ref d), .val (.long X2), .second, .val (.long xx), .second, .val (.long z19), .second] [(.long z25)]
        rw [hD1] at hg1
        have fin1 := rd_lt (x := xx.toInt) (by omega) (by omega) (by omega) (by omega) (by omega) (rng64 z25).1 (rng64 z25).2 hg1 p1 p2
        refine go_lload K H25 d28_192 rfl ?_
        refine go_lcmp K H25 d28_194 fun v26 ev26 => ?_
        have fv26 := f_lcmp ev26
        refine go_if_ge K H25 d28_195 (fun cd1 => False.elim (by clear p1 p2 hg0 hg1; (try simp only [or_true, true_or, and_true, true_and, not_true_eq_false, not_false_eq_true, Int32.lt_iff_toInt_lt, Int32.le_iff_toInt_le, ← Int32.toInt_inj, Int64.lt_iff_toInt_lt, Int64.le_iff_toInt_le, ← Int64.toInt_inj, Int32.reduceToInt, Int64.reduceToInt, ne_eq] at *) <;> omega)) (fun cd1 => ?_)
        refine go_iconst (1) K H25 d28_198 (by decide) ?_
        refine go_goto K H25 d28_199 ?_
        exact go_zret K H25 d28_203 rfl (by decide) (by decide) (by decide) (rfl)
      · refine go_callV [(.long xx)] K H17 d28_149 (O2.1) (hw _ (List.mem_of_getElem? (i := 176) rfl)) (hw _ (List.mem_of_getElem? (i := 177) rfl)) (nf_sel (hw _ (List.mem_of_getElem? (i := 179) rfl))) (hw _ (List.mem_of_getElem? (i := 179) rfl)) (hw _ (List.mem_of_getElem? (i := 178) rfl)) (hw _ (List.mem_of_getElem? (i := 5) rfl)) (hw _ (List.mem_of_getElem? (i := 180) rfl)) (st' := []) (by decide) (rmT2 Z a0 hw _ _ _ n0 (at_size K H17) _ _ _ O2.2.1 (show AL1 Z _ l e 2 _ from O2.2.2.1) s1 rfl _ _ _ _ G1 s2 rfl _ _ _ _ O2.2.2.2.2.2.2.2.1 (by omega) (by omega) (by omega) (by decide) (by decide) (by omega) (by omega) (by decide) (by decide)) pd0 rfl rfl rfl (by decide) (W := 0) rfl (by decide) (by decide) (by decide) fun T27 h27 v27 H27 q27 => ?_
        obtain ⟨z27, rfl, ⟨D, hz, p1, p2, p3, p4⟩, rfl⟩ := q27
        show Go w _ _ 152 #[.val (.long u0), .second, .val (.long u1), .second, .val (.long u2), .second, .val (.long u3), .second, .val (.long u4), .second, .val (.int u5), .val (.long v2), .second, .val (.long v4), .second, .val (.long v6), .second, .val (.long v8), .second, .val (.long dd), .second, .val (.ref c), .val (.ref d), .val (.long X2), .second, .val (.long xx), .second, .unset, .unset] [(.long z27)]
        simp only [Int64.reduceToInt, Int.zero_add] at hz p1 p2
        have hb := lo_before (T := v4.toInt) (by omega) (by omega) p2
        refine go_lstore K H27 d28_152 (L' := #[.val (.long u0), .second, .val (.long u1), .second, .val (.long u2), .second, .val (.long u3), .second, .val (.long u4), .second, .val (.int u5), .val (.long v2), .second, .val (.long v4), .second, .val (.long v6), .second, .val (.long v8), .second, .val (.long dd), .second, .val (.ref c), .val (.ref d), .val (.long X2), .second, .val (.long xx), .second, .val (.long z27), .second]) rfl ?_
        refine go_lload K H27 d28_154 rfl ?_
        refine go_lload K H27 d28_156 rfl ?_
        refine go_lcmp K H27 d28_158 fun v28 ev28 => ?_
        have fv28 := f_lcmp ev28
        refine go_if_le K H27 d28_159 (fun cc => ?_) (fun cc => False.elim (by (try simp only [or_true, true_or, and_true, true_and, not_true_eq_false, not_false_eq_true, Int32.lt_iff_toInt_lt, Int32.le_iff_toInt_le, ← Int32.toInt_inj, Int64.lt_iff_toInt_lt, Int64.le_iff_toInt_le, ← Int64.toInt_inj, Int32.reduceToInt, Int64.reduceToInt, ne_eq] at *) <;> omega))
        refine go_lload K H27 d28_204 rfl ?_
        refine go_lload K H27 d28_206 rfl ?_
        refine go_lcmp K H27 d28_208 fun v29 ev29 => ?_
        have fv29 := f_lcmp ev29
        refine go_if_gt K H27 d28_209 (fun cc1 => False.elim (by (try simp only [or_true, true_or, and_true, true_and, not_true_eq_false, not_false_eq_true, Int32.lt_iff_toInt_lt, Int32.le_iff_toInt_le, ← Int32.toInt_inj, Int64.lt_iff_toInt_lt, Int64.le_iff_toInt_le, ← Int64.toInt_inj, Int32.reduceToInt, Int64.reduceToInt, ne_eq] at *) <;> omega)) (fun cc1 => ?_)
        refine go_aload K H27 d28_212 rfl rfl ?_
        refine go_lload K H27 d28_214 rfl ?_
        have hD0 : z27.toInt - (0 : Int64).toInt = D := by have := rng64 z27; have := rng64 z27; simp only [Int64.reduceToInt] at *; omega
        have mq0 := mul_bd (D := (D) / 1000000000) (r := v6.toInt) (B := 17000001) (C := 4563402752) (by omega) (by omega) (by omega) (by omega) (by decide)
        refine go_callV [(.long z27)] K H27 d28_216 (O3.1) (hw _ (List.mem_of_getElem? (i := 175) rfl)) (hw _ (List.mem_of_getElem? (i := 161) rfl)) (nf_sel (hw _ (List.mem_of_getElem? (i := 163) rfl))) (hw _ (List.mem_of_getElem? (i := 163) rfl)) (hw _ (List.mem_of_getElem? (i := 162) rfl)) (hw _ (List.mem_of_getElem? (i := 5) rfl)) (hw _ (List.mem_of_getElem? (i := 164) rfl)) (st' := []) (by decide) (rmRd Z a0 hw _ _ _ n0 (at_size K H27) _ _ _ _ _ _ _ _ _ O3 (by omega) (by omega) (by decide) (by decide) (by rw [hD0]; omega) (by rw [hD0]; omega) (by rw [hD0]; omega) (by rw [hD0]; omega)) pd0 rfl rfl rfl (by decide) (W := 0) rfl (by decide) (by decide) (by decide) fun T30 h30 v30 H30 q30 => ?_
        obtain ⟨z30, rfl, hg0, rfl⟩ := q30
        show Go w _ _ 219 #[.val (.long u0), .second, .val (.long u1), .second, .val (.long u2), .second, .val (.long u3), .second, .val (.long u4), .second, .val (.int u5), .val (.long v2), .second, .val (.long v4), .second, .val (.long v6), .second, .val (.long v8), .second, .val (.long dd), .second, .val (.ref c), .val (.ref d), .val (.long X2), .second, .val (.long xx), .second, .val (.long z27), .second] [(.long z30)]
        rw [hD0] at hg0
        rw [show (0 : Int64).toInt = 0 from rfl] at hg0
        have fin0 := rd_ge (x := xx.toInt) (by omega) (by omega) (by omega) (by omega) (by omega) (rng64 z30).1 (rng64 z30).2 hg0 p1 p2
        refine go_lload K H30 d28_219 rfl ?_
        refine go_lcmp K H30 d28_221 fun v31 ev31 => ?_
        have fv31 := f_lcmp ev31
        refine go_if_lt K H30 d28_222 (fun cd0 => False.elim (by clear p1 p2 hg0 ; (try simp only [or_true, true_or, and_true, true_and, not_true_eq_false, not_false_eq_true, Int32.lt_iff_toInt_lt, Int32.le_iff_toInt_le, ← Int32.toInt_inj, Int64.lt_iff_toInt_lt, Int64.le_iff_toInt_le, ← Int64.toInt_inj, Int32.reduceToInt, Int64.reduceToInt, ne_eq] at *) <;> omega)) (fun cd0 => ?_)
        refine go_aload K H30 d28_225 rfl rfl ?_
        refine go_lload K H30 d28_227 rfl ?_
        refine go_lconst 1 K H30 d28_229 (by decide) ?_
        refine go_lsub K H30 d28_230 fun v32 ev32 => ?_
        have fv32 := f_lsub ev32
        have rv32 := rng64 v32
        have hD1 : v32.toInt - (0 : Int64).toInt = D - 1 := by have := rng64 v32; have := rng64 z27; simp only [Int64.reduceToInt] at *; omega
        have mq1 := mul_bd (D := (D - 1) / 1000000000) (r := v6.toInt) (B := 17000001) (C := 4563402752) (by omega) (by omega) (by omega) (by omega) (by decide)
        refine go_callV [(.long v32)] K H30 d28_231 (O3.1) (hw _ (List.mem_of_getElem? (i := 175) rfl)) (hw _ (List.mem_of_getElem? (i := 161) rfl)) (nf_sel (hw _ (List.mem_of_getElem? (i := 163) rfl))) (hw _ (List.mem_of_getElem? (i := 163) rfl)) (hw _ (List.mem_of_getElem? (i := 162) rfl)) (hw _ (List.mem_of_getElem? (i := 5) rfl)) (hw _ (List.mem_of_getElem? (i := 164) rfl)) (st' := []) (by decide) (rmRd Z a0 hw _ _ _ n0 (at_size K H30) _ _ _ _ _ _ _ _ _ O3 (by omega) (by omega) (by decide) (by decide) (by rw [hD1]; omega) (by rw [hD1]; omega) (by rw [hD1]; omega) (by rw [hD1]; omega)) pd0 rfl rfl rfl (by decide) (W := 0) rfl (by decide) (by decide) (by decide) fun T33 h33 v33 H33 q33 => ?_
        obtain ⟨z33, rfl, hg1, rfl⟩ := q33
        show Go w _ _ 234 #[.val (.long u0), .second, .val (.long u1), .second, .val (.long u2), .second, .val (.long u3), .second, .val (.long u4), .second, .val (.int u5), .val (.long v2), .second, .val (.long v4), .second, .val (.long v6), .second, .val (.long v8), .second, .val (.long dd), .second, .val (.ref c), .val (.ref d), .val (.long X2), .second, .val (.long xx), .second, .val (.long z27), .second] [(.long z33)]
        rw [hD1] at hg1
        rw [show (0 : Int64).toInt = 0 from rfl] at hg1
        have fin1 := rd_lt (x := xx.toInt) (by omega) (by omega) (by omega) (by omega) (by omega) (rng64 z33).1 (rng64 z33).2 hg1 p1 p2
        refine go_lload K H33 d28_234 rfl ?_
        refine go_lcmp K H33 d28_236 fun v34 ev34 => ?_
        have fv34 := f_lcmp ev34
        refine go_if_ge K H33 d28_237 (fun cd1 => False.elim (by clear p1 p2 hg0 hg1; (try simp only [or_true, true_or, and_true, true_and, not_true_eq_false, not_false_eq_true, Int32.lt_iff_toInt_lt, Int32.le_iff_toInt_le, ← Int32.toInt_inj, Int64.lt_iff_toInt_lt, Int64.le_iff_toInt_le, ← Int64.toInt_inj, Int32.reduceToInt, Int64.reduceToInt, ne_eq] at *) <;> omega)) (fun cd1 => ?_)
        refine go_iconst (1) K H33 d28_240 (by decide) ?_
        refine go_goto K H33 d28_241 ?_
        exact go_zret K H33 d28_245 rfl (by decide) (by decide) (by decide) (rfl)
    refine go_if_eq K H17 d28_130 (fun c130 => ?_) (fun c130 => ?_)
    · refine go_lload K H17 d28_138 rfl ?_
      refine go_lload K H17 d28_140 rfl ?_
      refine go_ladd K H17 d28_142 fun v35 ev35 => ?_
      have fv35 := f_ladd ev35
      have rv35 := rng64 v35
      exact J143 _ (by have := rng64 v35; (try simp only [or_true, true_or, and_true, true_and, not_true_eq_false, not_false_eq_true, Int32.lt_iff_toInt_lt, Int32.le_iff_toInt_le, ← Int32.toInt_inj, Int64.lt_iff_toInt_lt, Int64.le_iff_toInt_le, ← Int64.toInt_inj, Int32.reduceToInt, Int64.reduceToInt, ne_eq] at *) <;> omega) (by have := rng64 v35; (try simp only [or_true, true_or, and_true, true_and, not_true_eq_false, not_false_eq_true, Int32.lt_iff_toInt_lt, Int32.le_iff_toInt_le, ← Int32.toInt_inj, Int64.lt_iff_toInt_lt, Int64.le_iff_toInt_le, ← Int64.toInt_inj, Int32.reduceToInt, Int64.reduceToInt, ne_eq] at *) <;> omega)
    · refine go_lload K H17 d28_133 rfl ?_
      refine go_goto K H17 d28_135 ?_
      refine go_lload K H17 d28_140 rfl ?_
      refine go_ladd K H17 d28_142 fun v36 ev36 => ?_
      have fv36 := f_ladd ev36
      have rv36 := rng64 v36
      exact J143 _ (by have := rng64 v36; (try simp only [or_true, true_or, and_true, true_and, not_true_eq_false, not_false_eq_true, Int32.lt_iff_toInt_lt, Int32.le_iff_toInt_le, ← Int32.toInt_inj, Int64.lt_iff_toInt_lt, Int64.le_iff_toInt_le, ← Int64.toInt_inj, Int32.reduceToInt, Int64.reduceToInt, ne_eq] at *) <;> omega) (by have := rng64 v36; (try simp only [or_true, true_or, and_true, true_and, not_true_eq_false, not_false_eq_true, Int32.lt_iff_toInt_lt, Int32.le_iff_toInt_le, ← Int32.toInt_inj, Int64.lt_iff_toInt_lt, Int64.le_iff_toInt_le, ← Int64.toInt_inj, Int32.reduceToInt, Int64.reduceToInt, ne_eq] at *) <;> omega)
  refine go_if_eq K H d28_46 (fun c46 => ?_) (fun c46 => ?_)
  · refine go_lload K H d28_60 rfl ?_
    refine go_bipush (54) K H d28_62 (by decide) ?_
    refine go_lshl K H d28_64 fun v37 ev37 => ?_
    have fv37 := f_lshl 18014398509481984 54 ev37 (by decide) (by decide)
    have rv37 := rng64 v37
    refine go_bipush (54) K H d28_65 (by decide) ?_
    refine go_lshr K H d28_67 fun v38 ev38 => ?_
    have fv38 := f_lshr 18014398509481984 54 ev38 (by decide) (by decide)
    exact J68 _ (by have := rng64 v38; (try simp only [or_true, true_or, and_true, true_and, not_true_eq_false, not_false_eq_true, Int32.lt_iff_toInt_lt, Int32.le_iff_toInt_le, ← Int32.toInt_inj, Int64.lt_iff_toInt_lt, Int64.le_iff_toInt_le, ← Int64.toInt_inj, Int32.reduceToInt, Int64.reduceToInt, ne_eq] at *) <;> omega) (by have := rng64 v38; (try simp only [or_true, true_or, and_true, true_and, not_true_eq_false, not_false_eq_true, Int32.lt_iff_toInt_lt, Int32.le_iff_toInt_le, ← Int32.toInt_inj, Int64.lt_iff_toInt_lt, Int64.le_iff_toInt_le, ← Int64.toInt_inj, Int32.reduceToInt, Int64.reduceToInt, ne_eq] at *) <;> omega)
  · refine go_lload K H d28_49 rfl ?_
    refine go_bipush (14) K H d28_51 (by decide) ?_
    refine go_lshl K H d28_53 fun v39 ev39 => ?_
    have fv39 := f_lshl 16384 14 ev39 (by decide) (by decide)
    have rv39 := rng64 v39
    refine go_bipush (14) K H d28_54 (by decide) ?_
    refine go_lshr K H d28_56 fun v40 ev40 => ?_
    have fv40 := f_lshr 16384 14 ev40 (by decide) (by decide)
    refine go_goto K H d28_57 ?_
    exact J68 _ (by have := rng64 v40; (try simp only [or_true, true_or, and_true, true_and, not_true_eq_false, not_false_eq_true, Int32.lt_iff_toInt_lt, Int32.le_iff_toInt_le, ← Int32.toInt_inj, Int64.lt_iff_toInt_lt, Int64.le_iff_toInt_le, ← Int64.toInt_inj, Int32.reduceToInt, Int64.reduceToInt, ne_eq] at *) <;> omega) (by have := rng64 v40; (try simp only [or_true, true_or, and_true, true_and, not_true_eq_false, not_false_eq_true, Int32.lt_iff_toInt_lt, Int32.le_iff_toInt_le, ← Int32.toInt_inj, Int64.lt_iff_toInt_lt, Int64.le_iff_toInt_le, ← Int64.toInt_inj, Int32.reduceToInt, Int64.reduceToInt, ne_eq] at *) <;> omega)
set_option maxRecDepth 65536 in
set_option maxHeartbeats 40000000 in
theorem own_law (l : Launch) (s : State) (args : Array Value) (hF : heapFits s = true) (hrest : (∀ d ∈ jdkStatics_1, d.before args s = true)) (hg : (Jvm.Cond.and given_1 narrow_1).value args s none s [] = some true) (hw : ∀ d ∈ tables_1, d.before args s = true) : Con l s x code maxLocals ret room_1 args s.heap s.heap.size (RI fun z _ => z = 1) := by
  obtain ⟨hg, hn⟩ := and_e hg
  obtain ⟨g0, hg⟩ := and_e hg
  obtain ⟨w0, w1, w2, w3, w4, w5, rfl⟩ : ∃ w0 w1 w2 w3 w4 w5 : Value, args = #[w0, w1, w2, w3, w4, w5] := by
    have hs : args.size = 6 := by simpa [Cond.value, given_1] using g0
    obtain ⟨L⟩ := args
    match L, hs with
    | [w0, w1, w2, w3, w4, w5], _ => exact ⟨w0, w1, w2, w3, w4, w5, rfl⟩
  obtain ⟨g1, hg⟩ := and_e hg
  obtain ⟨i0, ei0⟩ := isL_v g1
  obtain rfl : w0 = (.long i0) := Option.some.inj ei0
  obtain ⟨g2, hg⟩ := and_e hg
  obtain ⟨i1, ei1⟩ := isL_v g2
  obtain rfl : w1 = (.long i1) := Option.some.inj ei1
  obtain ⟨g3, hg⟩ := and_e hg
  obtain ⟨i2, ei2⟩ := isL_v g3
  obtain rfl : w2 = (.long i2) := Option.some.inj ei2
  obtain ⟨g4, hg⟩ := and_e hg
  obtain ⟨i3, ei3⟩ := isL_v g4
  obtain rfl : w3 = (.long i3) := Option.some.inj ei3
  obtain ⟨g5, hg⟩ := and_e hg
  obtain ⟨i4, ei4⟩ := isL_v g5
  obtain rfl : w4 = (.long i4) := Option.some.inj ei4
  obtain ⟨i5, ei5⟩ := is_v hg
  obtain rfl : w5 = (.int i5) := Option.some.inj ei5
  have j2 := (hrest _ (List.mem_of_getElem? (i := 2) rfl))
  have j6 := Cond.before_iff.mp (hrest _ (List.mem_of_getElem? (i := 6) rfl))
  have j8 := Cond.before_iff.mp (hrest _ (List.mem_of_getElem? (i := 8) rfl))
  obtain ⟨de, ev⟩ := arr_v j6
  obtain ⟨c, A⟩ := Arr.start ev j6
  have hs := len_size (eqI_v j8) ev A.1
  have AD : VA s s.heap de (.object "java/lang/Object") [] := VA.of_arr A (Int.ofNat.inj hs) (by decide) (fun i hi => absurd hi (Nat.not_lt_zero i))
  exact rm0 s _ hw i0 i1 i2 i3 i4 i5 s.heap s.heap.size (Nat.le_refl _) de (sta_pr (Sta.start ev (Or.inr ⟨(hw _ (List.mem_of_getElem? (i := 14) rfl)), j2⟩))) AD A.lt l
theorem rest_all {ws : List Jvm.Cond} {c : Jvm.Cond} {args : Array Value} {s : State} (h : (ws.foldr Jvm.Cond.and c).before args s = true) : ∀ d ∈ ws, d.before args s = true := by
  induction ws with
  | nil => intro d hd; cases hd
  | cons a l ih =>
    intro d hd
    have h' : (Jvm.Cond.and a (l.foldr Jvm.Cond.and c)).before args s = true := h
    rw [Cond.before_and, Bool.and_eq_true] at h'
    rcases List.mem_cons.mp hd with rfl | hd
    · exact h'.1
    · exact ih h'.2 d hd
theorem rest_spec {tb : Tables} {e : Env} {args : Array Value} {s : State} (h : rest_1 tb e args s) : ∀ d ∈ jdkStatics_1, d.before args s = true := rest_all (c := restOwn_1) (by rw [← rest_1_c_eq]; exact h)
theorem main_1_1 : Claimed_1_1 := own_comes (ck := 32) (sk := 192) (fun _ _ _ _ _ _ h hF => ⟨h.1, hF⟩) (by decide) (by decide) fun l _ _ s args hF hr hg hw => own_law l s args hF (rest_spec hr) hg hw
theorem main_1_2 : Claimed_1_2 := own_comes (ck := 32) (sk := 192) (fun _ _ _ _ _ _ h hF => ⟨h.2, hF⟩) (by decide) (by decide) fun l _ _ s args hF hr hg hw => own_law l s args hF (rest_spec hr) hg hw
end Jvm.Pilot.@@N@@
namespace Jvm.Pilot.@@N@@
open Jvm Jvm.ClassFile Sem Op Lib Jvm.Free Jvm.Stand Jvm.Pilot.@@N@@.Jvm.D
/-! MADE BY PROGRAM (witnessworld.py) out of the Statement's table words and the real class files: 23 classes; the members and pool entries that the words name. The judged class is class 1, her method 1. -/
namespace start1
open Jvm.ClassFile
def u (s : String) : CpInfo := .utf8 (stringToUtf16 s)
/-- a pool by its gaps: so many unusable entries, then the entry; so many at the end -/
def gap : Nat → List CpInfo → List CpInfo
  | 0, r => r
  | n + 1, r => .unusable :: gap n r
def poolList (es : List (Nat × CpInfo)) (last : Nat) : List CpInfo := es.foldr (fun e r => gap e.1 (e.2 :: r)) (gap last [])
def pool (es : List (Nat × CpInfo)) (last : Nat) : Array CpInfo := ⟨poolList es last⟩
def fileOf (pool : Array CpInfo) (this : Nat) (attrs : Array Attribute := #[]) (ms : Array MethodInfo := #[]) (fl : Nat := 33) (sup : Nat := 0) (ifs : Array Nat := #[]) (fds : Array FieldInfo := #[]) : ClassFile where
  minorVersion := 0
  majorVersion := 65
  constantPool := pool
  accessFlags := fl
  thisClass := this
  superClass := sup
  interfaces := ifs
  fields := fds
  methods := ms
  attributes := attrs
def plain (name : String) (sup : Option ClassId) : Class where
  name := name
  kind := .ordinary
  loader := none
  accessFlags := 33
  super := sup
  interfaces := #[]
  cf := none
  fields := #[]
  methods := #[]
  instanceTypes := #[]
  staticTypes := #[]
  resolved := #[]
  callSites := []
  init := .initialized
  statics := none
  mirror := none

def pool0 : Array CpInfo := pool [(5, u "<init>"), (0, u "()V"), (1, .class_ 10), (1, u "java/lang/Object")] 113

def k0c0 : Code := { maxStack := 0, maxLocals := 1, code := object_method_1_code, exceptionTable := #[], attributes := #[] }
def k0m0 : Method := { name := "<init>", desc := "()V", sig := { parameters := [], returnType := none }, accessFlags := 1, code := some k0c0 }
/-- java/lang/Object -/
def k0 : Class := { plain "java/lang/Object" none with
  accessFlags := 33
  interfaces := #[]
  cf := some (fileOf pool0 8 #[] #[{ accessFlags := 1, nameIndex := 5, descriptorIndex := 6, attributes := #[] }] 33 0 #[] #[])
  fields := #[]
  methods := #[k0m0]
  instanceTypes := #[]
  staticTypes := #[]
  resolved := Array.replicate 124 none
  statics := none }

def pool1 : Array CpInfo := pool [(2, .class_ 4), (1, u "java/lang/Object"), (0, u "<init>"), (0, u "()V"), (0, .long 1099511627775), (1, .long 268435456), (1, .long 4294967295), (1, .class_ 14), (0, u "com/example/bellwether/bellwether/testkit/SimulatedClock"), (0, .methodref 13 16), (0, .nameAndType 5 17), (0, u "(J)V"), (0, .methodref 13 19), (0, .nameAndType 20 21), (0, u "rate"), (0, u "(JJ)V"), (0, .methodref 13 23), (0, .nameAndType 24 25), (0, u "reading"), (0, u "(J)J"), (0, .methodref 13 27), (0, .nameAndType 28 25), (0, u "realTime"), (0, .class_ 30), (0, u "com/example/bellwether/bellwether/testkit/SimulatedClockRealTimePinLaw"), (2, u "law"), (0, u "(JJJJJI)Z")] 3

def k1m0 : Method := { name := "<init>", desc := "()V", sig := { parameters := [], returnType := none }, accessFlags := 1, code := none }
def k1c1 : Code := { maxStack := 6, maxLocals := 29, code := code, exceptionTable := #[], attributes := #[] }
def k1m1 : Method := { name := "law", desc := "(JJJJJI)Z", sig := { parameters := [.long, .long, .long, .long, .long, .int], returnType := some .boolean }, accessFlags := 9, code := some k1c1 }
/-- com/example/bellwether/bellwether/testkit/SimulatedClockRealTimePinLaw -/
def k1 : Class := { plain "com/example/bellwether/bellwether/testkit/SimulatedClockRealTimePinLaw" (some 0) with
  accessFlags := 49
  interfaces := #[]
  cf := some (fileOf pool1 29 #[] #[{ accessFlags := 1, nameIndex := 5, descriptorIndex := 6, attributes := #[] }, { accessFlags := 9, nameIndex := 33, descriptorIndex := 34, attributes := #[] }] 49 2 #[] #[])
  fields := #[]
  methods := #[k1m0, k1m1]
  instanceTypes := #[]
  staticTypes := #[]
  resolved := Array.replicate 38 none
  statics := none }

def pool2 : Array CpInfo := pool [(1, .methodref 2 3), (0, .class_ 4), (0, .nameAndType 5 6), (0, u "java/lang/Object"), (0, u "<init>"), (0, u "()V"), (0, .class_ 8), (0, u "java/util/ArrayList"), (0, .methodref 7 3), (0, .fieldref 11 12), (0, .class_ 13), (0, .nameAndType 14 15), (0, u "com/example/bellwether/bellwether/testkit/SimulatedClock"), (0, u "segments"), (0, u "Ljava/util/List;"), (0, .class_ 17), (0, u "com/example/bellwether/bellwether/testkit/SimulatedClock$Segment"), (0, .long 1000000000), (1, .methodref 16 21), (0, .nameAndType 5 22), (0, u "(JJJJ)V"), (0, .interfaceMethodref 24 25), (0, .class_ 26), (0, .nameAndType 27 28), (0, u "java/util/List"), (0, u "add"), (0, u "(Ljava/lang/Object;)Z"), (22, u "()J"), (0, .interfaceMethodref 24 53), (0, .nameAndType 54 55), (0, u "size"), (0, u "()I"), (0, .interfaceMethodref 24 57), (0, .nameAndType 58 59), (0, u "get"), (0, u "(I)Ljava/lang/Object;"), (0, .methodref 16 61), (0, .nameAndType 62 51), (0, u "real"), (0, .methodref 64 65), (0, .class_ 66), (0, .nameAndType 67 68), (0, u "java/lang/Math"), (0, u "floorMod"), (0, u "(JJ)J"), (0, .methodref 16 70), (0, .nameAndType 71 51), (0, u "rate"), (0, .methodref 16 73), (0, .nameAndType 74 51), (0, u "fraction"), (0, .methodref 16 76), (0, .nameAndType 77 51), (0, u "reading"), (0, .methodref 64 79), (0, .nameAndType 80 68), (0, u "floorDiv"), (0, .methodref 64 82), (0, .nameAndType 83 68), (0, u "multiplyExact"), (0, .interfaceMethodref 24 85), (0, .nameAndType 86 87), (0, u "set"), (0, u "(ILjava/lang/Object;)Ljava/lang/Object;"), (0, .methodref 11 89), (0, .nameAndType 77 90), (0, u "(J)J"), (0, u "BILLION"), (0, u "J"), (3, u "(J)V"), (4, u "(JJ)V"), (1, u "realTime")] 5

def k2c0 : Code := { maxStack := 11, maxLocals := 3, code := prog_17_method_1_code, exceptionTable := #[], attributes := #[] }
def k2m0 : Method := { name := "<init>", desc := "(J)V", sig := { parameters := [.long], returnType := none }, accessFlags := 0, code := some k2c0 }
def k2c1 : Code := { maxStack := 6, maxLocals := 8, code := prog_17_method_3_code, exceptionTable := #[], attributes := #[] }
def k2m1 : Method := { name := "reading", desc := "(J)J", sig := { parameters := [.long], returnType := some .long }, accessFlags := 0, code := some k2c1 }
def k2c2 : Code := { maxStack := 12, maxLocals := 8, code := prog_17_method_4_code, exceptionTable := #[], attributes := #[] }
def k2m2 : Method := { name := "rate", desc := "(JJ)V", sig := { parameters := [.long, .long], returnType := none }, accessFlags := 0, code := some k2c2 }
def k2c3 : Code := { maxStack := 6, maxLocals := 12, code := prog_17_method_5_code, exceptionTable := #[], attributes := #[] }
def k2m3 : Method := { name := "realTime", desc := "(J)J", sig := { parameters := [.long], returnType := some .long }, accessFlags := 0, code := some k2c3 }
/-- com/example/bellwether/bellwether/testkit/SimulatedClock -/
def k2 : Class := { plain "com/example/bellwether/bellwether/testkit/SimulatedClock" (some 0) with
  accessFlags := 32
  interfaces := #[]
  cf := some (fileOf pool2 11 #[.nestMembers #[16]] #[{ accessFlags := 0, nameIndex := 5, descriptorIndex := 96, attributes := #[] }, { accessFlags := 0, nameIndex := 77, descriptorIndex := 90, attributes := #[] }, { accessFlags := 0, nameIndex := 71, descriptorIndex := 101, attributes := #[] }, { accessFlags := 0, nameIndex := 103, descriptorIndex := 90, attributes := #[] }] 32 2 #[] #[{ accessFlags := 24, nameIndex := 91, descriptorIndex := 92, attributes := #[] }, { accessFlags := 18, nameIndex := 14, descriptorIndex := 15, attributes := #[] }])
  fields := #[{ name := "BILLION", type := .long, accessFlags := 24, slot := 0, constantValue := 0 }, { name := "segments", type := (.object "java/util/List"), accessFlags := 18, slot := 0, constantValue := 0 }]
  methods := #[k2m0, k2m1, k2m2, k2m3]
  instanceTypes := #[(.object "java/util/List")]
  staticTypes := #[.long]
  resolved := ((Array.replicate 109 none).set! 20 (some (.method ⟨14, 0⟩))).set! 16 (some (.cls 14))
  statics := none }

def pool3 : Array CpInfo := pool [(8, .class_ 10), (1, u "java/lang/Iterable"), (24, .class_ 36), (0, u "java/lang/Object")] 25

/-- java/lang/Iterable -/
def k3 : Class := { plain "java/lang/Iterable" (some 0) with
  accessFlags := 1537
  interfaces := #[]
  cf := some (fileOf pool3 8 #[] #[] 1537 35 #[] #[])
  fields := #[]
  methods := #[]
  instanceTypes := #[]
  staticTypes := #[]
  resolved := Array.replicate 62 none
  statics := none }

def pool4 : Array CpInfo := pool [(10, .class_ 12), (1, u "java/util/Collection"), (47, .class_ 61), (0, u "java/lang/Object"), (0, .class_ 63), (0, u "java/lang/Iterable")] 51

/-- java/util/Collection -/
def k4 : Class := { plain "java/util/Collection" (some 0) with
  accessFlags := 1537
  interfaces := #[3]
  cf := some (fileOf pool4 10 #[] #[] 1537 60 #[62] #[])
  fields := #[]
  methods := #[]
  instanceTypes := #[]
  staticTypes := #[]
  resolved := Array.replicate 115 none
  statics := none }

def pool5 : Array CpInfo := pool [(1, .methodref 2 3), (0, .class_ 4), (0, .nameAndType 5 6), (0, u "java/lang/Object"), (0, u "<init>"), (0, u "()V"), (1, .class_ 10), (1, u "java/util/AbstractCollection"), (66, .class_ 78), (0, u "java/util/Collection")] 81

def k5c0 : Code := { maxStack := 1, maxLocals := 1, code := jdk_22_method_1_code, exceptionTable := #[], attributes := #[] }
def k5m0 : Method := { name := "<init>", desc := "()V", sig := { parameters := [], returnType := none }, accessFlags := 4, code := some k5c0 }
/-- java/util/AbstractCollection -/
def k5 : Class := { plain "java/util/AbstractCollection" (some 0) with
  accessFlags := 1057
  interfaces := #[4]
  cf := some (fileOf pool5 8 #[] #[{ accessFlags := 4, nameIndex := 5, descriptorIndex := 6, attributes := #[] }] 1057 2 #[77] #[])
  fields := #[]
  methods := #[k5m0]
  instanceTypes := #[]
  staticTypes := #[]
  resolved := Array.replicate 160 none
  statics := none }

def pool6 : Array CpInfo := pool [(8, .class_ 10), (1, u "java/util/SequencedCollection"), (15, .class_ 27), (0, u "java/lang/Object"), (0, .class_ 29), (0, u "java/util/Collection")] 27

/-- java/util/SequencedCollection -/
def k6 : Class := { plain "java/util/SequencedCollection" (some 0) with
  accessFlags := 1537
  interfaces := #[4]
  cf := some (fileOf pool6 8 #[] #[] 1537 26 #[28] #[])
  fields := #[]
  methods := #[]
  instanceTypes := #[]
  staticTypes := #[]
  resolved := Array.replicate 57 none
  statics := none }

def pool7 : Array CpInfo := pool [(8, .class_ 10), (1, u "java/util/List"), (19, u "set"), (29, u "add"), (3, u "(Ljava/lang/Object;)Z"), (10, u "get"), (0, u "(I)Ljava/lang/Object;"), (2, u "size"), (0, u "()I"), (22, .class_ 104), (0, u "java/lang/Object"), (15, .class_ 121), (0, u "java/util/SequencedCollection"), (51, u "(ILjava/lang/Object;)Ljava/lang/Object;")] 77

def k7m0 : Method := { name := "size", desc := "()I", sig := { parameters := [], returnType := some .int }, accessFlags := 1025, code := none }
def k7m1 : Method := { name := "add", desc := "(Ljava/lang/Object;)Z", sig := { parameters := [(.object "java/lang/Object")], returnType := some .boolean }, accessFlags := 1025, code := none }
def k7m2 : Method := { name := "get", desc := "(I)Ljava/lang/Object;", sig := { parameters := [.int], returnType := some (.object "java/lang/Object") }, accessFlags := 1025, code := none }
def k7m3 : Method := { name := "set", desc := "(ILjava/lang/Object;)Ljava/lang/Object;", sig := { parameters := [.int, (.object "java/lang/Object")], returnType := some (.object "java/lang/Object") }, accessFlags := 1025, code := none }
/-- java/util/List -/
def k7 : Class := { plain "java/util/List" (some 0) with
  accessFlags := 1537
  interfaces := #[6]
  cf := some (fileOf pool7 8 #[] #[{ accessFlags := 1025, nameIndex := 79, descriptorIndex := 80, attributes := #[] }, { accessFlags := 1025, nameIndex := 60, descriptorIndex := 64, attributes := #[] }, { accessFlags := 1025, nameIndex := 75, descriptorIndex := 76, attributes := #[] }, { accessFlags := 1025, nameIndex := 30, descriptorIndex := 173, attributes := #[] }] 1537 103 #[120] #[])
  fields := #[]
  methods := #[k7m0, k7m1, k7m2, k7m3]
  instanceTypes := #[]
  staticTypes := #[]
  resolved := Array.replicate 251 none
  statics := none }

def pool8 : Array CpInfo := pool [(1, .methodref 2 3), (0, .class_ 4), (0, .nameAndType 5 6), (0, u "java/util/AbstractCollection"), (0, u "<init>"), (0, u "()V"), (0, .fieldref 8 9), (0, .class_ 10), (0, .nameAndType 11 12), (0, u "java/util/AbstractList"), (0, u "modCount"), (0, u "I"), (64, .class_ 78), (0, u "java/util/AbstractList$Itr"), (3, .class_ 83), (0, u "java/util/AbstractList$ListItr"), (9, .class_ 94), (0, u "java/util/AbstractList$RandomAccessSubList"), (3, .class_ 99), (0, u "java/util/AbstractList$SubList"), (33, .class_ 134), (0, u "java/util/List"), (73, .class_ 209), (0, u "java/util/AbstractList$SubList$1"), (0, .class_ 211), (0, u "java/util/AbstractList$RandomAccessSpliterator")] 6

def k8c0 : Code := { maxStack := 2, maxLocals := 1, code := jdk_39_method_1_code, exceptionTable := #[], attributes := #[] }
def k8m0 : Method := { name := "<init>", desc := "()V", sig := { parameters := [], returnType := none }, accessFlags := 4, code := some k8c0 }
/-- java/util/AbstractList -/
def k8 : Class := { plain "java/util/AbstractList" (some 5) with
  accessFlags := 1057
  interfaces := #[7]
  cf := some (fileOf pool8 8 #[.nestMembers #[93, 98, 208, 210, 82, 77]] #[{ accessFlags := 4, nameIndex := 5, descriptorIndex := 6, attributes := #[] }] 1057 2 #[133] #[{ accessFlags := 132, nameIndex := 11, descriptorIndex := 12, attributes := #[] }])
  fields := #[{ name := "modCount", type := .int, accessFlags := 132, slot := 0, constantValue := 0 }]
  methods := #[k8m0]
  instanceTypes := #[.int]
  staticTypes := #[]
  resolved := Array.replicate 218 none
  statics := none }

def pool9 : Array CpInfo := pool [(1, .class_ 2), (0, u "java/util/RandomAccess"), (0, .class_ 4), (0, u "java/lang/Object")] 2

/-- java/util/RandomAccess -/
def k9 : Class := { plain "java/util/RandomAccess" (some 0) with
  accessFlags := 1537
  interfaces := #[]
  cf := some (fileOf pool9 1 #[] #[] 1537 3 #[] #[])
  fields := #[]
  methods := #[]
  instanceTypes := #[]
  staticTypes := #[]
  resolved := Array.replicate 7 none
  statics := none }

def pool10 : Array CpInfo := pool [(1, .class_ 2), (0, u "java/lang/Cloneable"), (0, .class_ 4), (0, u "java/lang/Object")] 2

/-- java/lang/Cloneable -/
def k10 : Class := { plain "java/lang/Cloneable" (some 0) with
  accessFlags := 1537
  interfaces := #[]
  cf := some (fileOf pool10 1 #[] #[] 1537 3 #[] #[])
  fields := #[]
  methods := #[]
  instanceTypes := #[]
  staticTypes := #[]
  resolved := Array.replicate 7 none
  statics := none }

def pool11 : Array CpInfo := pool [(1, .class_ 2), (0, u "java/io/Serializable"), (0, .class_ 4), (0, u "java/lang/Object")] 2

/-- java/io/Serializable -/
def k11 : Class := { plain "java/io/Serializable" (some 0) with
  accessFlags := 1537
  interfaces := #[]
  cf := some (fileOf pool11 1 #[] #[] 1537 3 #[] #[])
  fields := #[]
  methods := #[]
  instanceTypes := #[]
  staticTypes := #[]
  resolved := Array.replicate 7 none
  statics := none }

def pool12 : Array CpInfo := pool [(1, .methodref 2 3), (0, .class_ 4), (0, .nameAndType 5 6), (0, u "java/util/AbstractList"), (0, u "<init>"), (0, u "()V"), (0, .class_ 8), (0, u "java/lang/Object"), (0, .fieldref 10 11), (0, .class_ 12), (0, .nameAndType 13 14), (0, u "java/util/ArrayList"), (0, u "elementData"), (0, u "[Ljava/lang/Object;"), (2, u "EMPTY_ELEMENTDATA"), (21, .fieldref 10 40), (0, .nameAndType 41 14), (0, u "DEFAULTCAPACITY_EMPTY_ELEMENTDATA"), (5, u "()[Ljava/lang/Object;"), (0, .fieldref 10 49), (0, .nameAndType 50 51), (0, u "size"), (0, u "I"), (11, .fieldref 10 64), (0, .nameAndType 65 51), (0, u "modCount"), (3, .methodref 10 70), (0, .nameAndType 71 72), (0, u "grow"), (0, u "(I)[Ljava/lang/Object;"), (6, .methodref 80 81), (0, .class_ 82), (0, .nameAndType 83 84), (0, u "java/lang/Math"), (0, u "max"), (0, u "(II)I"), (11, u "(Ljava/lang/Object;)Z"), (21, .methodref 119 120), (0, .class_ 121), (0, .nameAndType 122 84), (0, u "java/util/Objects"), (0, u "checkIndex"), (0, .methodref 10 124), (0, .nameAndType 13 125), (0, u "(I)Ljava/lang/Object;"), (3, .methodref 10 130), (0, .nameAndType 71 47), (0, .methodref 10 132), (0, .nameAndType 133 134), (0, u "add"), (0, u "(Ljava/lang/Object;[Ljava/lang/Object;I)V"), (13, .class_ 149), (0, u "java/util/List"), (36, u "()I"), (75, .class_ 263), (0, u "java/util/ArrayList$ListItr"), (3, .class_ 268), (0, u "java/util/ArrayList$Itr"), (7, .class_ 277), (0, u "java/util/ArrayList$SubList"), (12, .class_ 291), (0, u "java/util/ArrayList$ArrayListSpliterator"), (37, .class_ 330), (0, u "java/util/RandomAccess"), (0, .class_ 332), (0, u "java/lang/Cloneable"), (0, .class_ 334), (0, u "java/io/Serializable"), (0, u "serialVersionUID"), (0, u "J"), (3, u "DEFAULT_CAPACITY"), (40, u "get"), (4, u "set"), (0, u "(ILjava/lang/Object;)Ljava/lang/Object;"), (112, .class_ 501), (0, u "java/util/ArrayList$SubList$2"), (0, .class_ 503), (0, u "java/util/ArrayList$SubList$1")] 5

def k12c0 : Code := { maxStack := 2, maxLocals := 1, code := jdk_38_method_2_code, exceptionTable := #[], attributes := #[] }
def k12m0 : Method := { name := "<init>", desc := "()V", sig := { parameters := [], returnType := none }, accessFlags := 1, code := some k12c0 }
def k12c1 : Code := { maxStack := 4, maxLocals := 4, code := jdk_38_method_6_code, exceptionTable := #[], attributes := #[] }
def k12m1 : Method := { name := "grow", desc := "(I)[Ljava/lang/Object;", sig := { parameters := [.int], returnType := some (.array (.object "java/lang/Object")) }, accessFlags := 2, code := some k12c1 }
def k12c2 : Code := { maxStack := 3, maxLocals := 1, code := jdk_38_method_7_code, exceptionTable := #[], attributes := #[] }
def k12m2 : Method := { name := "grow", desc := "()[Ljava/lang/Object;", sig := { parameters := [], returnType := some (.array (.object "java/lang/Object")) }, accessFlags := 2, code := some k12c2 }
def k12c3 : Code := { maxStack := 1, maxLocals := 1, code := jdk_38_method_8_code, exceptionTable := #[], attributes := #[] }
def k12m3 : Method := { name := "size", desc := "()I", sig := { parameters := [], returnType := some .int }, accessFlags := 1, code := some k12c3 }
def k12c4 : Code := { maxStack := 2, maxLocals := 2, code := jdk_38_method_18_code, exceptionTable := #[], attributes := #[] }
def k12m4 : Method := { name := "elementData", desc := "(I)Ljava/lang/Object;", sig := { parameters := [.int], returnType := some (.object "java/lang/Object") }, accessFlags := 0, code := some k12c4 }
def k12c5 : Code := { maxStack := 2, maxLocals := 2, code := jdk_38_method_20_code, exceptionTable := #[], attributes := #[] }
def k12m5 : Method := { name := "get", desc := "(I)Ljava/lang/Object;", sig := { parameters := [.int], returnType := some (.object "java/lang/Object") }, accessFlags := 1, code := some k12c5 }
def k12c6 : Code := { maxStack := 3, maxLocals := 4, code := jdk_38_method_23_code, exceptionTable := #[], attributes := #[] }
def k12m6 : Method := { name := "set", desc := "(ILjava/lang/Object;)Ljava/lang/Object;", sig := { parameters := [.int, (.object "java/lang/Object")], returnType := some (.object "java/lang/Object") }, accessFlags := 1, code := some k12c6 }
def k12c7 : Code := { maxStack := 3, maxLocals := 4, code := jdk_38_method_24_code, exceptionTable := #[], attributes := #[] }
def k12m7 : Method := { name := "add", desc := "(Ljava/lang/Object;[Ljava/lang/Object;I)V", sig := { parameters := [(.object "java/lang/Object"), (.array (.object "java/lang/Object")), .int], returnType := none }, accessFlags := 2, code := some k12c7 }
def k12c8 : Code := { maxStack := 4, maxLocals := 2, code := jdk_38_method_25_code, exceptionTable := #[], attributes := #[] }
def k12m8 : Method := { name := "add", desc := "(Ljava/lang/Object;)Z", sig := { parameters := [(.object "java/lang/Object")], returnType := some .boolean }, accessFlags := 1, code := some k12c8 }
/-- java/util/ArrayList -/
def k12 : Class := { plain "java/util/ArrayList" (some 8) with
  accessFlags := 33
  interfaces := #[7, 9, 10, 11]
  cf := some (fileOf pool12 10 #[.nestMembers #[290, 276, 500, 502, 262, 267]] #[{ accessFlags := 1, nameIndex := 5, descriptorIndex := 6, attributes := #[] }, { accessFlags := 2, nameIndex := 71, descriptorIndex := 72, attributes := #[] }, { accessFlags := 2, nameIndex := 71, descriptorIndex := 47, attributes := #[] }, { accessFlags := 1, nameIndex := 50, descriptorIndex := 186, attributes := #[] }, { accessFlags := 0, nameIndex := 13, descriptorIndex := 125, attributes := #[] }, { accessFlags := 1, nameIndex := 381, descriptorIndex := 125, attributes := #[] }, { accessFlags := 1, nameIndex := 386, descriptorIndex := 387, attributes := #[] }, { accessFlags := 2, nameIndex := 133, descriptorIndex := 134, attributes := #[] }, { accessFlags := 1, nameIndex := 133, descriptorIndex := 96, attributes := #[] }] 33 2 #[148, 329, 331, 333] #[{ accessFlags := 26, nameIndex := 335, descriptorIndex := 336, attributes := #[] }, { accessFlags := 26, nameIndex := 340, descriptorIndex := 51, attributes := #[] }, { accessFlags := 26, nameIndex := 17, descriptorIndex := 14, attributes := #[] }, { accessFlags := 26, nameIndex := 41, descriptorIndex := 14, attributes := #[] }, { accessFlags := 128, nameIndex := 13, descriptorIndex := 14, attributes := #[] }, { accessFlags := 2, nameIndex := 50, descriptorIndex := 51, attributes := #[] }])
  fields := #[{ name := "serialVersionUID", type := .long, accessFlags := 26, slot := 0, constantValue := 0 }, { name := "DEFAULT_CAPACITY", type := .int, accessFlags := 26, slot := 1, constantValue := 0 }, { name := "EMPTY_ELEMENTDATA", type := (.array (.object "java/lang/Object")), accessFlags := 26, slot := 2, constantValue := 0 }, { name := "DEFAULTCAPACITY_EMPTY_ELEMENTDATA", type := (.array (.object "java/lang/Object")), accessFlags := 26, slot := 3, constantValue := 0 }, { name := "elementData", type := (.array (.object "java/lang/Object")), accessFlags := 128, slot := 1, constantValue := 0 }, { name := "size", type := .int, accessFlags := 2, slot := 2, constantValue := 0 }]
  methods := #[k12m0, k12m1, k12m2, k12m3, k12m4, k12m5, k12m6, k12m7, k12m8]
  instanceTypes := #[.int, (.array (.object "java/lang/Object")), .int]
  staticTypes := #[.long, .int, (.array (.object "java/lang/Object")), (.array (.object "java/lang/Object"))]
  resolved := Array.replicate 509 none
  statics := some 0 }

def pool13 : Array CpInfo := pool [(1, .methodref 2 3), (0, .class_ 4), (0, .nameAndType 5 6), (0, u "java/lang/Object"), (0, u "<init>"), (0, u "()V"), (0, .class_ 8), (0, u "java/lang/Record")] 13

def k13c0 : Code := { maxStack := 1, maxLocals := 1, code := jdk_30_method_1_code, exceptionTable := #[], attributes := #[] }
def k13m0 : Method := { name := "<init>", desc := "()V", sig := { parameters := [], returnType := none }, accessFlags := 4, code := some k13c0 }
/-- java/lang/Record -/
def k13 : Class := { plain "java/lang/Record" (some 0) with
  accessFlags := 1057
  interfaces := #[]
  cf := some (fileOf pool13 7 #[] #[{ accessFlags := 4, nameIndex := 5, descriptorIndex := 6, attributes := #[] }] 1057 2 #[] #[])
  fields := #[]
  methods := #[k13m0]
  instanceTypes := #[]
  staticTypes := #[]
  resolved := Array.replicate 22 none
  statics := none }

def pool14 : Array CpInfo := pool [(1, .methodref 2 3), (0, .class_ 4), (0, .nameAndType 5 6), (0, u "java/lang/Record"), (0, u "<init>"), (0, u "()V"), (0, .fieldref 8 9), (0, .class_ 10), (0, .nameAndType 11 12), (0, u "com/example/bellwether/bellwether/testkit/SimulatedClock$Segment"), (0, u "real"), (0, u "J"), (0, .fieldref 8 14), (0, .nameAndType 15 12), (0, u "reading"), (0, .fieldref 8 17), (0, .nameAndType 18 12), (0, u "fraction"), (0, .fieldref 8 20), (0, .nameAndType 21 12), (0, u "rate"), (12, u "(JJJJ)V"), (6, u "()J"), (3, .class_ 46), (0, u "com/example/bellwether/bellwether/testkit/SimulatedClock")] 22

def k14c0 : Code := { maxStack := 3, maxLocals := 9, code := prog_18_method_1_code, exceptionTable := #[], attributes := #[] }
def k14m0 : Method := { name := "<init>", desc := "(JJJJ)V", sig := { parameters := [.long, .long, .long, .long], returnType := none }, accessFlags := 2, code := some k14c0 }
def k14c1 : Code := { maxStack := 2, maxLocals := 1, code := prog_18_method_5_code, exceptionTable := #[], attributes := #[] }
def k14m1 : Method := { name := "real", desc := "()J", sig := { parameters := [], returnType := some .long }, accessFlags := 1, code := some k14c1 }
def k14c2 : Code := { maxStack := 2, maxLocals := 1, code := prog_18_method_6_code, exceptionTable := #[], attributes := #[] }
def k14m2 : Method := { name := "reading", desc := "()J", sig := { parameters := [], returnType := some .long }, accessFlags := 1, code := some k14c2 }
def k14c3 : Code := { maxStack := 2, maxLocals := 1, code := prog_18_method_7_code, exceptionTable := #[], attributes := #[] }
def k14m3 : Method := { name := "fraction", desc := "()J", sig := { parameters := [], returnType := some .long }, accessFlags := 1, code := some k14c3 }
def k14c4 : Code := { maxStack := 2, maxLocals := 1, code := prog_18_method_8_code, exceptionTable := #[], attributes := #[] }
def k14m4 : Method := { name := "rate", desc := "()J", sig := { parameters := [], returnType := some .long }, accessFlags := 1, code := some k14c4 }
/-- com/example/bellwether/bellwether/testkit/SimulatedClock$Segment -/
def k14 : Class := { plain "com/example/bellwether/bellwether/testkit/SimulatedClock$Segment" (some 13) with
  accessFlags := 48
  interfaces := #[]
  cf := some (fileOf pool14 8 #[.nestHost 45] #[{ accessFlags := 2, nameIndex := 5, descriptorIndex := 34, attributes := #[] }, { accessFlags := 1, nameIndex := 11, descriptorIndex := 41, attributes := #[] }, { accessFlags := 1, nameIndex := 15, descriptorIndex := 41, attributes := #[] }, { accessFlags := 1, nameIndex := 18, descriptorIndex := 41, attributes := #[] }, { accessFlags := 1, nameIndex := 21, descriptorIndex := 41, attributes := #[] }] 48 2 #[] #[{ accessFlags := 18, nameIndex := 11, descriptorIndex := 12, attributes := #[] }, { accessFlags := 18, nameIndex := 15, descriptorIndex := 12, attributes := #[] }, { accessFlags := 18, nameIndex := 18, descriptorIndex := 12, attributes := #[] }, { accessFlags := 18, nameIndex := 21, descriptorIndex := 12, attributes := #[] }])
  fields := #[{ name := "real", type := .long, accessFlags := 18, slot := 0, constantValue := 0 }, { name := "reading", type := .long, accessFlags := 18, slot := 1, constantValue := 0 }, { name := "fraction", type := .long, accessFlags := 18, slot := 2, constantValue := 0 }, { name := "rate", type := .long, accessFlags := 18, slot := 3, constantValue := 0 }]
  methods := #[k14m0, k14m1, k14m2, k14m3, k14m4]
  instanceTypes := #[.long, .long, .long, .long]
  staticTypes := #[]
  resolved := Array.replicate 69 none
  statics := none }

def pool15 : Array CpInfo := pool [(1, .class_ 2), (0, u "java/lang/Math"), (1, .class_ 6), (1, u "java/lang/Object"), (0, u "<init>"), (0, u "()V"), (89, .class_ 100), (1, u "java/lang/Math$RandomNumberGeneratorHolder"), (19, u "multiplyExact"), (0, u "(JJ)J"), (0, .methodref 1 123), (0, .nameAndType 124 125), (0, u "abs"), (0, u "(J)J"), (2, .long 9223372036854775808), (16, u "floorDiv"), (2, u "floorMod"), (23, u "negativeZeroFloatBits"), (0, u "J"), (2, u "negativeZeroDoubleBits"), (21, u "max"), (46, u "$assertionsDisabled"), (0, u "Z"), (88, u "(II)I"), (2, u "twoToTheDoubleScaleDown"), (0, u "D"), (4, u "twoToTheDoubleScaleUp"), (9, u "E"), (3, u "PI"), (2, u "TAU"), (2, u "DEGREES_TO_RADIANS"), (0, u "RADIANS_TO_DEGREES")] 94

def k15m0 : Method := { name := "<init>", desc := "()V", sig := { parameters := [], returnType := none }, accessFlags := 2, code := none }
def k15c1 : Code := { maxStack := 4, maxLocals := 10, code := jdk_29_method_30_code, exceptionTable := #[], attributes := #[] }
def k15m1 : Method := { name := "multiplyExact", desc := "(JJ)J", sig := { parameters := [.long, .long], returnType := some .long }, accessFlags := 9, code := some k15c1 }
def k15c2 : Code := { maxStack := 4, maxLocals := 6, code := jdk_29_method_49_code, exceptionTable := #[], attributes := #[] }
def k15m2 : Method := { name := "floorDiv", desc := "(JJ)J", sig := { parameters := [.long, .long], returnType := some .long }, accessFlags := 9, code := some k15c2 }
def k15c3 : Code := { maxStack := 4, maxLocals := 6, code := jdk_29_method_52_code, exceptionTable := #[], attributes := #[] }
def k15m3 : Method := { name := "floorMod", desc := "(JJ)J", sig := { parameters := [.long, .long], returnType := some .long }, accessFlags := 9, code := some k15c3 }
def k15c4 : Code := { maxStack := 4, maxLocals := 2, code := jdk_29_method_61_code, exceptionTable := #[], attributes := #[] }
def k15m4 : Method := { name := "abs", desc := "(J)J", sig := { parameters := [.long], returnType := some .long }, accessFlags := 9, code := some k15c4 }
def k15c5 : Code := { maxStack := 2, maxLocals := 2, code := jdk_29_method_65_code, exceptionTable := #[], attributes := #[] }
def k15m5 : Method := { name := "max", desc := "(II)I", sig := { parameters := [.int, .int], returnType := some .int }, accessFlags := 9, code := some k15c5 }
/-- java/lang/Math -/
def k15 : Class := { plain "java/lang/Math" (some 0) with
  accessFlags := 49
  interfaces := #[]
  cf := some (fileOf pool15 1 #[.nestMembers #[98]] #[{ accessFlags := 2, nameIndex := 7, descriptorIndex := 8, attributes := #[] }, { accessFlags := 9, nameIndex := 120, descriptorIndex := 121, attributes := #[] }, { accessFlags := 9, nameIndex := 145, descriptorIndex := 121, attributes := #[] }, { accessFlags := 9, nameIndex := 148, descriptorIndex := 121, attributes := #[] }, { accessFlags := 9, nameIndex := 124, descriptorIndex := 125, attributes := #[] }, { accessFlags := 9, nameIndex := 198, descriptorIndex := 335, attributes := #[] }] 49 4 #[] #[{ accessFlags := 25, nameIndex := 354, descriptorIndex := 339, attributes := #[] }, { accessFlags := 25, nameIndex := 358, descriptorIndex := 339, attributes := #[] }, { accessFlags := 25, nameIndex := 361, descriptorIndex := 339, attributes := #[] }, { accessFlags := 26, nameIndex := 364, descriptorIndex := 339, attributes := #[] }, { accessFlags := 26, nameIndex := 365, descriptorIndex := 339, attributes := #[] }, { accessFlags := 26, nameIndex := 172, descriptorIndex := 173, attributes := #[] }, { accessFlags := 26, nameIndex := 176, descriptorIndex := 173, attributes := #[] }, { accessFlags := 8, nameIndex := 344, descriptorIndex := 339, attributes := #[] }, { accessFlags := 8, nameIndex := 338, descriptorIndex := 339, attributes := #[] }, { accessFlags := 4120, nameIndex := 245, descriptorIndex := 246, attributes := #[] }])
  fields := #[{ name := "E", type := .double, accessFlags := 25, slot := 0, constantValue := 0 }, { name := "PI", type := .double, accessFlags := 25, slot := 1, constantValue := 0 }, { name := "TAU", type := .double, accessFlags := 25, slot := 2, constantValue := 0 }, { name := "DEGREES_TO_RADIANS", type := .double, accessFlags := 26, slot := 3, constantValue := 0 }, { name := "RADIANS_TO_DEGREES", type := .double, accessFlags := 26, slot := 4, constantValue := 0 }, { name := "negativeZeroFloatBits", type := .long, accessFlags := 26, slot := 5, constantValue := 0 }, { name := "negativeZeroDoubleBits", type := .long, accessFlags := 26, slot := 6, constantValue := 0 }, { name := "twoToTheDoubleScaleUp", type := .double, accessFlags := 8, slot := 7, constantValue := 0 }, { name := "twoToTheDoubleScaleDown", type := .double, accessFlags := 8, slot := 8, constantValue := 0 }, { name := "$assertionsDisabled", type := .boolean, accessFlags := 4120, slot := 9, constantValue := 0 }]
  methods := #[k15m0, k15m1, k15m2, k15m3, k15m4, k15m5]
  instanceTypes := #[]
  staticTypes := #[.double, .double, .double, .double, .double, .long, .long, .double, .double, .boolean]
  resolved := Array.replicate 460 none
  statics := none }

def pool16 : Array CpInfo := pool [(2, .class_ 4), (1, u "java/lang/Object"), (0, u "<init>"), (0, u "()V"), (35, .class_ 44), (1, u "java/util/Objects"), (60, .methodref 106 107), (0, .class_ 108), (0, .nameAndType 109 110), (0, u "jdk/internal/util/Preconditions"), (0, u "checkIndex"), (0, u "(IILjava/util/function/BiFunction;)I"), (60, u "(II)I")] 12

def k16m0 : Method := { name := "<init>", desc := "()V", sig := { parameters := [], returnType := none }, accessFlags := 2, code := none }
def k16c1 : Code := { maxStack := 3, maxLocals := 2, code := jdk_31_method_17_code, exceptionTable := #[], attributes := #[] }
def k16m1 : Method := { name := "checkIndex", desc := "(II)I", sig := { parameters := [.int, .int], returnType := some .int }, accessFlags := 9, code := some k16c1 }
/-- java/util/Objects -/
def k16 : Class := { plain "java/util/Objects" (some 0) with
  accessFlags := 49
  interfaces := #[]
  cf := some (fileOf pool16 42 #[] #[{ accessFlags := 2, nameIndex := 5, descriptorIndex := 6, attributes := #[] }, { accessFlags := 9, nameIndex := 109, descriptorIndex := 171, attributes := #[] }] 49 2 #[] #[])
  fields := #[]
  methods := #[k16m0, k16m1]
  instanceTypes := #[]
  staticTypes := #[]
  resolved := Array.replicate 184 none
  statics := none }

def pool17 : Array CpInfo := pool [(2, .class_ 4), (1, u "java/lang/Object"), (0, u "<init>"), (0, u "()V"), (17, .class_ 26), (1, u "jdk/internal/util/Preconditions"), (6, u "checkIndex"), (21, .class_ 56), (0, u "jdk/internal/util/Preconditions$4"), (57, .class_ 115), (0, u "jdk/internal/util/Preconditions$1"), (7, u "SIOOBE_FORMATTER"), (0, u "Ljava/util/function/BiFunction;"), (0, .class_ 126), (0, u "jdk/internal/util/Preconditions$2"), (3, u "AIOOBE_FORMATTER"), (0, .class_ 132), (0, u "jdk/internal/util/Preconditions$3"), (3, u "IOOBE_FORMATTER"), (41, u "(IILjava/util/function/BiFunction;)I")] 15

def k17m0 : Method := { name := "<init>", desc := "()V", sig := { parameters := [], returnType := none }, accessFlags := 1, code := none }
def k17c1 : Code := { maxStack := 3, maxLocals := 3, code := jdk_41_method_11_code, exceptionTable := #[], attributes := #[] }
def k17m1 : Method := { name := "checkIndex", desc := "(IILjava/util/function/BiFunction;)I", sig := { parameters := [.int, .int, (.object "java/util/function/BiFunction")], returnType := some .int }, accessFlags := 9, code := some k17c1 }
/-- jdk/internal/util/Preconditions -/
def k17 : Class := { plain "jdk/internal/util/Preconditions" (some 0) with
  accessFlags := 33
  interfaces := #[]
  cf := some (fileOf pool17 24 #[.nestMembers #[55, 131, 125, 114]] #[{ accessFlags := 1, nameIndex := 5, descriptorIndex := 6, attributes := #[] }, { accessFlags := 9, nameIndex := 33, descriptorIndex := 178, attributes := #[] }] 33 2 #[] #[{ accessFlags := 25, nameIndex := 123, descriptorIndex := 124, attributes := #[] }, { accessFlags := 25, nameIndex := 130, descriptorIndex := 124, attributes := #[] }, { accessFlags := 25, nameIndex := 136, descriptorIndex := 124, attributes := #[] }])
  fields := #[{ name := "SIOOBE_FORMATTER", type := (.object "java/util/function/BiFunction"), accessFlags := 25, slot := 0, constantValue := 0 }, { name := "AIOOBE_FORMATTER", type := (.object "java/util/function/BiFunction"), accessFlags := 25, slot := 1, constantValue := 0 }, { name := "IOOBE_FORMATTER", type := (.object "java/util/function/BiFunction"), accessFlags := 25, slot := 2, constantValue := 0 }]
  methods := #[k17m0, k17m1]
  instanceTypes := #[]
  staticTypes := #[(.object "java/util/function/BiFunction"), (.object "java/util/function/BiFunction"), (.object "java/util/function/BiFunction")]
  resolved := Array.replicate 194 none
  statics := none }

/-- the primitive byte -/
def k18 : Class := { plain "byte" none with kind := .primitive 'B', accessFlags := 0x411 }
/-- [B -/
def k19 : Class := { plain "[B" (some 0) with kind := .array 18 .byte, interfaces := #[10, 11], accessFlags := 1041 }

/-- the primitive int -/
def k20 : Class := { plain "int" none with kind := .primitive 'I', accessFlags := 0x411 }
/-- [I -/
def k21 : Class := { plain "[I" (some 0) with kind := .array 20 .int, interfaces := #[10, 11], accessFlags := 1041 }

/-- [Ljava/lang/Object; -/
def k22 : Class := { plain "[Ljava/lang/Object;" (some 0) with kind := .array 0 (.object "java/lang/Object"), interfaces := #[10, 11], accessFlags := 1041 }

def heap : Heap := #[{ cls := 12, slots := #[.long 0, .int 0, .ref 1, .ref 2], vm := .statics 12 },
  { cls := 22, slots := #[], vm := .none },
  { cls := 22, slots := #[], vm := .none }]
def classes : Array Class := #[k0, k1, k2, k3, k4, k5, k6, k7, k8, k9, k10, k11, k12, k13, k14, k15, k16, k17, k18, k19, k20, k21, k22]
def interned : List (Array UInt16 × Addr) := []
def slotsUsed : Nat := 4
def theMethod : MethodId := ⟨1, 1⟩
def args0 : Array Value := #[.long 0, .long 1, .long 2, .long 3, .long 4, .int 1]
def aboutOver (below : List Frame) : State where
  vm := { classes := classes, interned := interned.toArray }
  heap := heap
  slotsUsed := slotsUsed
  threads := #[{ frames := .invoking theMethod args0 :: below }]
def below0 : List Frame := [.native { method := ⟨0, 0⟩, args := #[] }]
def about1 : State := aboutOver below0
def p0 : Program := .bare "" "" ""
def e0 : Env := launch0.env 0 0 0
theorem w_frames : about1.frames = Frame.invoking theMethod args0 :: below0 := rfl
set_option maxRecDepth 65536 in
theorem w_args : argsFit about1.vm theMethod args0 = true := by decide +kernel
set_option maxRecDepth 65536 in
theorem w_heap : heapFits about1 = true := by decide +kernel
set_option maxRecDepth 65536 in
theorem w_runnable : about1.curStatus? = some .runnable := by decide +kernel
set_option maxRecDepth 65536 in
theorem w_alone : about1.alone = true := by decide +kernel
set_option maxRecDepth 65536 in
theorem w_named : about1.methodNamed? x = some theMethod := by decide +kernel
set_option maxRecDepth 65536 in
theorem w_hears : about1.hears theMethod below0 = true := by decide +kernel
set_option maxRecDepth 65536 in
theorem w_ripe : about1.ripe theMethod args0 below0 = true := by decide +kernel
theorem w_running : about1.status = .running := rfl
set_option maxRecDepth 65536 in
theorem w_room : about1.hasRoom e0.platform room_1 = true :=
  launch0.hasRoom_least _ room_1 (by decide +kernel) (by decide +kernel) (by decide +kernel) (by decide +kernel) (by decide +kernel) (by decide +kernel)
theorem allAtoms_all (ts : List Jvm.Cond) (a : Array Jvm.Value) (st : Jvm.State) : (allAtoms ts).before a st = ts.all (fun c => c.before a st) := by
  induction ts with
  | nil => rfl
  | cons c t ih =>
    show (Jvm.Cond.and c (allAtoms t)).before a st = _
    rw [Jvm.Cond.before_and, ih, List.all_cons]
def words1 : List Jvm.Cond := Jvm.Cond.code x code maxLocals ret :: tables_1
/-- a 'code' word, met by the world's own term for the bytes: nothing is compared byte by byte -/
theorem code_word {y : MethodName} {bytes : ByteArray} {mx : Nat} {rt : Option FieldType} {a : Array Value} {s : State} {m : MethodId} {meth : Method} {c : Code} (h1 : s.methodNamed? y = some m) (h2 : s.vm.method? m = some meth) (h3 : meth.code = some c) (h4 : c.code = bytes)
    (h5 : (c.maxLocals == mx && c.exceptionTable.isEmpty && decide (c.maxStack ≤ mostOperands) && decide (meth.sig.returnType = rt) && !meth.locks && decide (parseMethodDescriptor y.desc = some meth.sig)) = true) : (Jvm.Cond.code y bytes mx rt).before a s = true := by
  simp only [Bool.and_eq_true, beq_iff_eq, Bool.not_eq_true', decide_eq_true_eq] at h5
  obtain ⟨⟨⟨⟨⟨g1, g2⟩, g3⟩, g4⟩, g5⟩, g6⟩ := h5
  simp [Cond.before, Cond.holds, Cond.value, h1, h2, h3, h4, g1, g2, g3, g4, g5, g6]
def isCode : Jvm.Cond → Bool
  | .code _ _ _ _ => true
  | _ => false
theorem all_split {L : List Jvm.Cond} {P : Jvm.Cond → Bool} (h1 : L.all (fun c => isCode c || P c) = true) (h2 : ∀ c ∈ L.filter isCode, P c = true) : L.all P = true := by
  refine List.all_eq_true.mpr fun c hc => ?_
  have h := List.all_eq_true.mp h1 c hc
  rcases Bool.eq_false_or_eq_true (isCode c) with hi | hi
  · exact h2 c (List.mem_filter.mpr ⟨hc, hi⟩)
  · simpa [hi] using h
set_option maxRecDepth 65536 in
theorem w_c0 : (Jvm.Cond.code x code maxLocals ret).before args0 about1 = true := code_word (m := ⟨1, 1⟩) (meth := k1m1) (c := k1c1) (by decide +kernel) rfl rfl rfl (by decide +kernel)
set_option maxRecDepth 65536 in
theorem w_c1 : (Jvm.Cond.code ({ cls := "com/example/bellwether/bellwether/testkit/SimulatedClock", name := "<init>", desc := "(J)V" } : Jvm.MethodName) prog_17_method_1_code (3 : Nat) (Option.none : Option Jvm.ClassFile.FieldType)).before args0 about1 = true := code_word (m := ⟨2, 0⟩) (meth := k2m0) (c := k2c0) (by decide +kernel) rfl rfl rfl (by decide +kernel)
set_option maxRecDepth 65536 in
theorem w_c2 : (Jvm.Cond.code ({ cls := "java/lang/Object", name := "<init>", desc := "()V" } : Jvm.MethodName) object_method_1_code (1 : Nat) (Option.none : Option Jvm.ClassFile.FieldType)).before args0 about1 = true := code_word (m := ⟨0, 0⟩) (meth := k0m0) (c := k0c0) (by decide +kernel) rfl rfl rfl (by decide +kernel)
set_option maxRecDepth 65536 in
theorem w_c3 : (Jvm.Cond.code ({ cls := "java/util/ArrayList", name := "<init>", desc := "()V" } : Jvm.MethodName) jdk_38_method_2_code (1 : Nat) (Option.none : Option Jvm.ClassFile.FieldType)).before args0 about1 = true := code_word (m := ⟨12, 0⟩) (meth := k12m0) (c := k12c0) (by decide +kernel) rfl rfl rfl (by decide +kernel)
set_option maxRecDepth 65536 in
theorem w_c4 : (Jvm.Cond.code ({ cls := "java/util/AbstractList", name := "<init>", desc := "()V" } : Jvm.MethodName) jdk_39_method_1_code (1 : Nat) (Option.none : Option Jvm.ClassFile.FieldType)).before args0 about1 = true := code_word (m := ⟨8, 0⟩) (meth := k8m0) (c := k8c0) (by decide +kernel) rfl rfl rfl (by decide +kernel)
set_option maxRecDepth 65536 in
theorem w_c5 : (Jvm.Cond.code ({ cls := "java/util/AbstractCollection", name := "<init>", desc := "()V" } : Jvm.MethodName) jdk_22_method_1_code (1 : Nat) (Option.none : Option Jvm.ClassFile.FieldType)).before args0 about1 = true := code_word (m := ⟨5, 0⟩) (meth := k5m0) (c := k5c0) (by decide +kernel) rfl rfl rfl (by decide +kernel)
set_option maxRecDepth 65536 in
theorem w_c6 : (Jvm.Cond.code ({ cls := "com/example/bellwether/bellwether/testkit/SimulatedClock$Segment", name := "<init>", desc := "(JJJJ)V" } : Jvm.MethodName) prog_18_method_1_code (9 : Nat) (Option.none : Option Jvm.ClassFile.FieldType)).before args0 about1 = true := code_word (m := ⟨14, 0⟩) (meth := k14m0) (c := k14c0) (by decide +kernel) rfl rfl rfl (by decide +kernel)
set_option maxRecDepth 65536 in
theorem w_c7 : (Jvm.Cond.code ({ cls := "java/lang/Record", name := "<init>", desc := "()V" } : Jvm.MethodName) jdk_30_method_1_code (1 : Nat) (Option.none : Option Jvm.ClassFile.FieldType)).before args0 about1 = true := code_word (m := ⟨13, 0⟩) (meth := k13m0) (c := k13c0) (by decide +kernel) rfl rfl rfl (by decide +kernel)
set_option maxRecDepth 65536 in
theorem w_c8 : (Jvm.Cond.code ({ cls := "java/util/ArrayList", name := "add", desc := "(Ljava/lang/Object;)Z" } : Jvm.MethodName) jdk_38_method_25_code (2 : Nat) (Option.some Jvm.ClassFile.FieldType.boolean)).before args0 about1 = true := code_word (m := ⟨12, 8⟩) (meth := k12m8) (c := k12c8) (by decide +kernel) rfl rfl rfl (by decide +kernel)
set_option maxRecDepth 65536 in
theorem w_c9 : (Jvm.Cond.code ({ cls := "java/util/ArrayList", name := "add", desc := "(Ljava/lang/Object;[Ljava/lang/Object;I)V" } : Jvm.MethodName) jdk_38_method_24_code (4 : Nat) (Option.none : Option Jvm.ClassFile.FieldType)).before args0 about1 = true := code_word (m := ⟨12, 7⟩) (meth := k12m7) (c := k12c7) (by decide +kernel) rfl rfl rfl (by decide +kernel)
set_option maxRecDepth 65536 in
theorem w_c10 : (Jvm.Cond.code ({ cls := "java/util/ArrayList", name := "grow", desc := "()[Ljava/lang/Object;" } : Jvm.MethodName) jdk_38_method_7_code (1 : Nat) (Option.some (Jvm.ClassFile.FieldType.array (Jvm.ClassFile.FieldType.object "java/lang/Object")))).before args0 about1 = true := code_word (m := ⟨12, 2⟩) (meth := k12m2) (c := k12c2) (by decide +kernel) rfl rfl rfl (by decide +kernel)
set_option maxRecDepth 65536 in
theorem w_c11 : (Jvm.Cond.code ({ cls := "java/util/ArrayList", name := "grow", desc := "(I)[Ljava/lang/Object;" } : Jvm.MethodName) jdk_38_method_6_code (4 : Nat) (Option.some (Jvm.ClassFile.FieldType.array (Jvm.ClassFile.FieldType.object "java/lang/Object")))).before args0 about1 = true := code_word (m := ⟨12, 1⟩) (meth := k12m1) (c := k12c1) (by decide +kernel) rfl rfl rfl (by decide +kernel)
set_option maxRecDepth 65536 in
theorem w_c12 : (Jvm.Cond.code ({ cls := "java/lang/Math", name := "max", desc := "(II)I" } : Jvm.MethodName) jdk_29_method_65_code (2 : Nat) (Option.some Jvm.ClassFile.FieldType.int)).before args0 about1 = true := code_word (m := ⟨15, 5⟩) (meth := k15m5) (c := k15c5) (by decide +kernel) rfl rfl rfl (by decide +kernel)
set_option maxRecDepth 65536 in
theorem w_c13 : (Jvm.Cond.code ({ cls := "com/example/bellwether/bellwether/testkit/SimulatedClock", name := "rate", desc := "(JJ)V" } : Jvm.MethodName) prog_17_method_4_code (8 : Nat) (Option.none : Option Jvm.ClassFile.FieldType)).before args0 about1 = true := code_word (m := ⟨2, 2⟩) (meth := k2m2) (c := k2c2) (by decide +kernel) rfl rfl rfl (by decide +kernel)
set_option maxRecDepth 65536 in
theorem w_c14 : (Jvm.Cond.code ({ cls := "java/util/ArrayList", name := "size", desc := "()I" } : Jvm.MethodName) jdk_38_method_8_code (1 : Nat) (Option.some Jvm.ClassFile.FieldType.int)).before args0 about1 = true := code_word (m := ⟨12, 3⟩) (meth := k12m3) (c := k12c3) (by decide +kernel) rfl rfl rfl (by decide +kernel)
set_option maxRecDepth 65536 in
theorem w_c15 : (Jvm.Cond.code ({ cls := "java/util/ArrayList", name := "get", desc := "(I)Ljava/lang/Object;" } : Jvm.MethodName) jdk_38_method_20_code (2 : Nat) (Option.some (Jvm.ClassFile.FieldType.object "java/lang/Object"))).before args0 about1 = true := code_word (m := ⟨12, 5⟩) (meth := k12m5) (c := k12c5) (by decide +kernel) rfl rfl rfl (by decide +kernel)
set_option maxRecDepth 65536 in
theorem w_c16 : (Jvm.Cond.code ({ cls := "java/util/Objects", name := "checkIndex", desc := "(II)I" } : Jvm.MethodName) jdk_31_method_17_code (2 : Nat) (Option.some Jvm.ClassFile.FieldType.int)).before args0 about1 = true := code_word (m := ⟨16, 1⟩) (meth := k16m1) (c := k16c1) (by decide +kernel) rfl rfl rfl (by decide +kernel)
set_option maxRecDepth 65536 in
theorem w_c17 : (Jvm.Cond.code ({ cls := "jdk/internal/util/Preconditions", name := "checkIndex", desc := "(IILjava/util/function/BiFunction;)I" } : Jvm.MethodName) jdk_41_method_11_code (3 : Nat) (Option.some Jvm.ClassFile.FieldType.int)).before args0 about1 = true := code_word (m := ⟨17, 1⟩) (meth := k17m1) (c := k17c1) (by decide +kernel) rfl rfl rfl (by decide +kernel)
set_option maxRecDepth 65536 in
theorem w_c18 : (Jvm.Cond.code ({ cls := "java/util/ArrayList", name := "elementData", desc := "(I)Ljava/lang/Object;" } : Jvm.MethodName) jdk_38_method_18_code (2 : Nat) (Option.some (Jvm.ClassFile.FieldType.object "java/lang/Object"))).before args0 about1 = true := code_word (m := ⟨12, 4⟩) (meth := k12m4) (c := k12c4) (by decide +kernel) rfl rfl rfl (by decide +kernel)
set_option maxRecDepth 65536 in
theorem w_c19 : (Jvm.Cond.code ({ cls := "com/example/bellwether/bellwether/testkit/SimulatedClock$Segment", name := "real", desc := "()J" } : Jvm.MethodName) prog_18_method_5_code (1 : Nat) (Option.some Jvm.ClassFile.FieldType.long)).before args0 about1 = true := code_word (m := ⟨14, 1⟩) (meth := k14m1) (c := k14c1) (by decide +kernel) rfl rfl rfl (by decide +kernel)
set_option maxRecDepth 65536 in
theorem w_c20 : (Jvm.Cond.code ({ cls := "com/example/bellwether/bellwether/testkit/SimulatedClock$Segment", name := "reading", desc := "()J" } : Jvm.MethodName) prog_18_method_6_code (1 : Nat) (Option.some Jvm.ClassFile.FieldType.long)).before args0 about1 = true := code_word (m := ⟨14, 2⟩) (meth := k14m2) (c := k14c2) (by decide +kernel) rfl rfl rfl (by decide +kernel)
set_option maxRecDepth 65536 in
theorem w_c21 : (Jvm.Cond.code ({ cls := "com/example/bellwether/bellwether/testkit/SimulatedClock$Segment", name := "fraction", desc := "()J" } : Jvm.MethodName) prog_18_method_7_code (1 : Nat) (Option.some Jvm.ClassFile.FieldType.long)).before args0 about1 = true := code_word (m := ⟨14, 3⟩) (meth := k14m3) (c := k14c3) (by decide +kernel) rfl rfl rfl (by decide +kernel)
set_option maxRecDepth 65536 in
theorem w_c22 : (Jvm.Cond.code ({ cls := "java/util/ArrayList", name := "set", desc := "(ILjava/lang/Object;)Ljava/lang/Object;" } : Jvm.MethodName) jdk_38_method_23_code (4 : Nat) (Option.some (Jvm.ClassFile.FieldType.object "java/lang/Object"))).before args0 about1 = true := code_word (m := ⟨12, 6⟩) (meth := k12m6) (c := k12c6) (by decide +kernel) rfl rfl rfl (by decide +kernel)
set_option maxRecDepth 65536 in
theorem w_c23 : (Jvm.Cond.code ({ cls := "java/lang/Math", name := "floorMod", desc := "(JJ)J" } : Jvm.MethodName) jdk_29_method_52_code (6 : Nat) (Option.some Jvm.ClassFile.FieldType.long)).before args0 about1 = true := code_word (m := ⟨15, 3⟩) (meth := k15m3) (c := k15c3) (by decide +kernel) rfl rfl rfl (by decide +kernel)
set_option maxRecDepth 65536 in
theorem w_c24 : (Jvm.Cond.code ({ cls := "com/example/bellwether/bellwether/testkit/SimulatedClock$Segment", name := "rate", desc := "()J" } : Jvm.MethodName) prog_18_method_8_code (1 : Nat) (Option.some Jvm.ClassFile.FieldType.long)).before args0 about1 = true := code_word (m := ⟨14, 4⟩) (meth := k14m4) (c := k14c4) (by decide +kernel) rfl rfl rfl (by decide +kernel)
set_option maxRecDepth 65536 in
theorem w_c25 : (Jvm.Cond.code ({ cls := "com/example/bellwether/bellwether/testkit/SimulatedClock", name := "reading", desc := "(J)J" } : Jvm.MethodName) prog_17_method_3_code (8 : Nat) (Option.some Jvm.ClassFile.FieldType.long)).before args0 about1 = true := code_word (m := ⟨2, 1⟩) (meth := k2m1) (c := k2c1) (by decide +kernel) rfl rfl rfl (by decide +kernel)
set_option maxRecDepth 65536 in
theorem w_c26 : (Jvm.Cond.code ({ cls := "java/lang/Math", name := "floorDiv", desc := "(JJ)J" } : Jvm.MethodName) jdk_29_method_49_code (6 : Nat) (Option.some Jvm.ClassFile.FieldType.long)).before args0 about1 = true := code_word (m := ⟨15, 2⟩) (meth := k15m2) (c := k15c2) (by decide +kernel) rfl rfl rfl (by decide +kernel)
set_option maxRecDepth 65536 in
theorem w_c27 : (Jvm.Cond.code ({ cls := "java/lang/Math", name := "multiplyExact", desc := "(JJ)J" } : Jvm.MethodName) jdk_29_method_30_code (10 : Nat) (Option.some Jvm.ClassFile.FieldType.long)).before args0 about1 = true := code_word (m := ⟨15, 1⟩) (meth := k15m1) (c := k15c1) (by decide +kernel) rfl rfl rfl (by decide +kernel)
set_option maxRecDepth 65536 in
theorem w_c28 : (Jvm.Cond.code ({ cls := "java/lang/Math", name := "abs", desc := "(J)J" } : Jvm.MethodName) jdk_29_method_61_code (2 : Nat) (Option.some Jvm.ClassFile.FieldType.long)).before args0 about1 = true := code_word (m := ⟨15, 4⟩) (meth := k15m4) (c := k15c4) (by decide +kernel) rfl rfl rfl (by decide +kernel)
set_option maxRecDepth 65536 in
theorem w_c29 : (Jvm.Cond.code ({ cls := "com/example/bellwether/bellwether/testkit/SimulatedClock", name := "realTime", desc := "(J)J" } : Jvm.MethodName) prog_17_method_5_code (12 : Nat) (Option.some Jvm.ClassFile.FieldType.long)).before args0 about1 = true := code_word (m := ⟨2, 3⟩) (meth := k2m3) (c := k2c3) (by decide +kernel) rfl rfl rfl (by decide +kernel)
def codes1 : List Jvm.Cond := [Jvm.Cond.code x code maxLocals ret, Jvm.Cond.code ({ cls := "com/example/bellwether/bellwether/testkit/SimulatedClock", name := "<init>", desc := "(J)V" } : Jvm.MethodName) prog_17_method_1_code (3 : Nat) (Option.none : Option Jvm.ClassFile.FieldType), Jvm.Cond.code ({ cls := "java/lang/Object", name := "<init>", desc := "()V" } : Jvm.MethodName) object_method_1_code (1 : Nat) (Option.none : Option Jvm.ClassFile.FieldType), Jvm.Cond.code ({ cls := "java/util/ArrayList", name := "<init>", desc := "()V" } : Jvm.MethodName) jdk_38_method_2_code (1 : Nat) (Option.none : Option Jvm.ClassFile.FieldType), Jvm.Cond.code ({ cls := "java/util/AbstractList", name := "<init>", desc := "()V" } : Jvm.MethodName) jdk_39_method_1_code (1 : Nat) (Option.none : Option Jvm.ClassFile.FieldType), Jvm.Cond.code ({ cls := "java/util/AbstractCollection", name := "<init>", desc := "()V" } : Jvm.MethodName) jdk_22_method_1_code (1 : Nat) (Option.none : Option Jvm.ClassFile.FieldType), Jvm.Cond.code ({ cls := "com/example/bellwether/bellwether/testkit/SimulatedClock$Segment", name := "<init>", desc := "(JJJJ)V" } : Jvm.MethodName) prog_18_method_1_code (9 : Nat) (Option.none : Option Jvm.ClassFile.FieldType), Jvm.Cond.code ({ cls := "java/lang/Record", name := "<init>", desc := "()V" } : Jvm.MethodName) jdk_30_method_1_code (1 : Nat) (Option.none : Option Jvm.ClassFile.FieldType), Jvm.Cond.code ({ cls := "java/util/ArrayList", name := "add", desc := "(Ljava/lang/Object;)Z" } : Jvm.MethodName) jdk_38_method_25_code (2 : Nat) (Option.some Jvm.ClassFile.FieldType.boolean), Jvm.Cond.code ({ cls := "java/util/ArrayList", name := "add", desc := "(Ljava/lang/Object;[Ljava/lang/Object;I)V" } : Jvm.MethodName) jdk_38_method_24_code (4 : Nat) (Option.none : Option Jvm.ClassFile.FieldType), Jvm.Cond.code ({ cls := "java/util/ArrayList", name := "grow", desc := "()[Ljava/lang/Object;" } : Jvm.MethodName) jdk_38_method_7_code (1 : Nat) (Option.some (Jvm.ClassFile.FieldType.array (Jvm.ClassFile.FieldType.object "java/lang/Object"))), Jvm.Cond.code ({ cls := "java/util/ArrayList", name := "grow", desc := "(I)[Ljava/lang/Object;" } : Jvm.MethodName) jdk_38_method_6_code (4 : Nat) (Option.some (Jvm.ClassFile.FieldType.array (Jvm.ClassFile.FieldType.object "java/lang/Object"))), Jvm.Cond.code ({ cls := "java/lang/Math", name := "max", desc := "(II)I" } : Jvm.MethodName) jdk_29_method_65_code (2 : Nat) (Option.some Jvm.ClassFile.FieldType.int), Jvm.Cond.code ({ cls := "com/example/bellwether/bellwether/testkit/SimulatedClock", name := "rate", desc := "(JJ)V" } : Jvm.MethodName) prog_17_method_4_code (8 : Nat) (Option.none : Option Jvm.ClassFile.FieldType), Jvm.Cond.code ({ cls := "java/util/ArrayList", name := "size", desc := "()I" } : Jvm.MethodName) jdk_38_method_8_code (1 : Nat) (Option.some Jvm.ClassFile.FieldType.int), Jvm.Cond.code ({ cls := "java/util/ArrayList", name := "get", desc := "(I)Ljava/lang/Object;" } : Jvm.MethodName) jdk_38_method_20_code (2 : Nat) (Option.some (Jvm.ClassFile.FieldType.object "java/lang/Object")), Jvm.Cond.code ({ cls := "java/util/Objects", name := "checkIndex", desc := "(II)I" } : Jvm.MethodName) jdk_31_method_17_code (2 : Nat) (Option.some Jvm.ClassFile.FieldType.int), Jvm.Cond.code ({ cls := "jdk/internal/util/Preconditions", name := "checkIndex", desc := "(IILjava/util/function/BiFunction;)I" } : Jvm.MethodName) jdk_41_method_11_code (3 : Nat) (Option.some Jvm.ClassFile.FieldType.int), Jvm.Cond.code ({ cls := "java/util/ArrayList", name := "elementData", desc := "(I)Ljava/lang/Object;" } : Jvm.MethodName) jdk_38_method_18_code (2 : Nat) (Option.some (Jvm.ClassFile.FieldType.object "java/lang/Object")), Jvm.Cond.code ({ cls := "com/example/bellwether/bellwether/testkit/SimulatedClock$Segment", name := "real", desc := "()J" } : Jvm.MethodName) prog_18_method_5_code (1 : Nat) (Option.some Jvm.ClassFile.FieldType.long), Jvm.Cond.code ({ cls := "com/example/bellwether/bellwether/testkit/SimulatedClock$Segment", name := "reading", desc := "()J" } : Jvm.MethodName) prog_18_method_6_code (1 : Nat) (Option.some Jvm.ClassFile.FieldType.long), Jvm.Cond.code ({ cls := "com/example/bellwether/bellwether/testkit/SimulatedClock$Segment", name := "fraction", desc := "()J" } : Jvm.MethodName) prog_18_method_7_code (1 : Nat) (Option.some Jvm.ClassFile.FieldType.long), Jvm.Cond.code ({ cls := "java/util/ArrayList", name := "set", desc := "(ILjava/lang/Object;)Ljava/lang/Object;" } : Jvm.MethodName) jdk_38_method_23_code (4 : Nat) (Option.some (Jvm.ClassFile.FieldType.object "java/lang/Object")), Jvm.Cond.code ({ cls := "java/lang/Math", name := "floorMod", desc := "(JJ)J" } : Jvm.MethodName) jdk_29_method_52_code (6 : Nat) (Option.some Jvm.ClassFile.FieldType.long), Jvm.Cond.code ({ cls := "com/example/bellwether/bellwether/testkit/SimulatedClock$Segment", name := "rate", desc := "()J" } : Jvm.MethodName) prog_18_method_8_code (1 : Nat) (Option.some Jvm.ClassFile.FieldType.long), Jvm.Cond.code ({ cls := "com/example/bellwether/bellwether/testkit/SimulatedClock", name := "reading", desc := "(J)J" } : Jvm.MethodName) prog_17_method_3_code (8 : Nat) (Option.some Jvm.ClassFile.FieldType.long), Jvm.Cond.code ({ cls := "java/lang/Math", name := "floorDiv", desc := "(JJ)J" } : Jvm.MethodName) jdk_29_method_49_code (6 : Nat) (Option.some Jvm.ClassFile.FieldType.long), Jvm.Cond.code ({ cls := "java/lang/Math", name := "multiplyExact", desc := "(JJ)J" } : Jvm.MethodName) jdk_29_method_30_code (10 : Nat) (Option.some Jvm.ClassFile.FieldType.long), Jvm.Cond.code ({ cls := "java/lang/Math", name := "abs", desc := "(J)J" } : Jvm.MethodName) jdk_29_method_61_code (2 : Nat) (Option.some Jvm.ClassFile.FieldType.long), Jvm.Cond.code ({ cls := "com/example/bellwether/bellwether/testkit/SimulatedClock", name := "realTime", desc := "(J)J" } : Jvm.MethodName) prog_17_method_5_code (12 : Nat) (Option.some Jvm.ClassFile.FieldType.long)]
set_option maxRecDepth 65536 in
theorem codes_eq : words1.filter isCode = codes1 := rfl
theorem w_codes : ∀ c ∈ words1.filter isCode, c.before args0 about1 = true := by
  rw [codes_eq]
  intro c hc
  simp only [codes1, List.mem_cons, List.not_mem_nil, or_false] at hc
  rcases hc with rfl | rfl | rfl | rfl | rfl | rfl | rfl | rfl | rfl | rfl | rfl | rfl | rfl | rfl | rfl | rfl | rfl | rfl | rfl | rfl | rfl | rfl | rfl | rfl | rfl | rfl | rfl | rfl | rfl | rfl
  · exact w_c0
  · exact w_c1
  · exact w_c2
  · exact w_c3
  · exact w_c4
  · exact w_c5
  · exact w_c6
  · exact w_c7
  · exact w_c8
  · exact w_c9
  · exact w_c10
  · exact w_c11
  · exact w_c12
  · exact w_c13
  · exact w_c14
  · exact w_c15
  · exact w_c16
  · exact w_c17
  · exact w_c18
  · exact w_c19
  · exact w_c20
  · exact w_c21
  · exact w_c22
  · exact w_c23
  · exact w_c24
  · exact w_c25
  · exact w_c26
  · exact w_c27
  · exact w_c28
  · exact w_c29
set_option maxRecDepth 65536 in
theorem w_t1 : (words1.take 24).all (fun c => isCode c || c.before args0 about1) = true := by decide +kernel
set_option maxRecDepth 65536 in
theorem w_t2 : ((words1.drop 24).take 24).all (fun c => isCode c || c.before args0 about1) = true := by decide +kernel
set_option maxRecDepth 65536 in
theorem w_t3 : (((words1.drop 24).drop 24).take 24).all (fun c => isCode c || c.before args0 about1) = true := by decide +kernel
set_option maxRecDepth 65536 in
theorem w_t4 : ((((words1.drop 24).drop 24).drop 24).take 24).all (fun c => isCode c || c.before args0 about1) = true := by decide +kernel
set_option maxRecDepth 65536 in
theorem w_t5 : (((((words1.drop 24).drop 24).drop 24).drop 24).take 24).all (fun c => isCode c || c.before args0 about1) = true := by decide +kernel
set_option maxRecDepth 65536 in
theorem w_t6 : ((((((words1.drop 24).drop 24).drop 24).drop 24).drop 24).take 24).all (fun c => isCode c || c.before args0 about1) = true := by decide +kernel
set_option maxRecDepth 65536 in
theorem w_t7 : (((((((words1.drop 24).drop 24).drop 24).drop 24).drop 24).drop 24).take 24).all (fun c => isCode c || c.before args0 about1) = true := by decide +kernel
set_option maxRecDepth 65536 in
theorem w_t8 : (((((((words1.drop 24).drop 24).drop 24).drop 24).drop 24).drop 24).drop 24).all (fun c => isCode c || c.before args0 about1) = true := by decide +kernel
theorem w_tables : (allAtoms (Jvm.Cond.code x code maxLocals ret :: tables_1)).before args0 about1 = true := by
  rw [allAtoms_all]
  show words1.all (fun c => c.before args0 about1) = true
  refine all_split ?_ w_codes
  rw [← List.take_append_drop 24 words1, List.all_append, w_t1, ← List.take_append_drop 24 (words1.drop 24), List.all_append, w_t2, ← List.take_append_drop 24 ((words1.drop 24).drop 24), List.all_append, w_t3, ← List.take_append_drop 24 (((words1.drop 24).drop 24).drop 24), List.all_append, w_t4, ← List.take_append_drop 24 ((((words1.drop 24).drop 24).drop 24).drop 24), List.all_append, w_t5, ← List.take_append_drop 24 (((((words1.drop 24).drop 24).drop 24).drop 24).drop 24), List.all_append, w_t6, ← List.take_append_drop 24 ((((((words1.drop 24).drop 24).drop 24).drop 24).drop 24).drop 24), List.all_append, w_t7, w_t8]
  rfl
set_option maxRecDepth 65536 in
theorem w_rest : rest_1_c.before args0 about1 = true := by decide +kernel
set_option maxRecDepth 65536 in
theorem w_case : (Jvm.Cond.and given_1 narrow_1).before args0 about1 = true := by decide +kernel
theorem w_applies : (headSpec (Jvm.Cond.code x code maxLocals ret :: tables_1) room_1).applies x e0.platform about1 = true :=
  (Spec.applies_iff w_frames).mpr ⟨w_running, w_runnable, w_alone, w_named, w_hears, w_ripe, w_room, w_tables⟩
theorem atStart : AtStart classFile x code maxLocals ret World_1 tables_1 room_1 Calls_1 rest_1 Pre_1 launch0 p0 e0 about1 theMethod args0 below0 :=
  ⟨lists_1, trivial, launch0.admits_env _ _ _, launch0.least_env, fairChoices_fair.cas, fairChoices_fair.clock, w_frames, w_args, w_heap, w_applies, trivial, w_rest, w_case⟩
end start1
theorem witness_1 : WitnessClaimed_1 := ⟨start1.p0, start1.e0, start1.about1, start1.theMethod, start1.args0, start1.below0, start1.atStart⟩
end Jvm.Pilot.@@N@@
