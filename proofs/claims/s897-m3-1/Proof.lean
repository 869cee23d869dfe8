import JvmDerived
import JvmDerived.Pilot.@@N@@Statement
import JvmDerived.Pilot.@@N@@Code
set_option linter.unusedVariables false
set_option linter.unusedSimpArgs false

namespace Jvm.OwnW
open Sem ClassFile Op Lib Jvm.Stand Jvm.Free Jvm.LawKit Jvm.RoadKit
/-- what the walk of one body stands on -/
def Ctx (p : Program) (l : Launch) (e : Env) (R : Room) (s : State) (m : MethodId) (args : Array Value) (below : List Frame) (meth : Method) (c : Code) (Z : State) (own : String) (code : ByteArray) (maxL : Nat) (ret : Option FieldType) (nm : String) : Prop :=
  p.tables.exec = Jvm.exec ∧ c.code = code ∧ c.maxLocals = maxL ∧ s.vm.findClass own = some m.cls ∧ Z.Warmed39 s.vm ∧ meth.sig.returnType = ret ∧ meth.locks = false ∧ meth.name = nm
/-- from here the body returns, and G holds of what it returns and of the heap -/
def WP (p : Program) (l : Launch) (e : Env) (R : Room) (s : State) (m : MethodId) (args : Array Value) (below : List Frame) (meth : Method) (c : Code) (n0 : Nat) (G : Option Value → Heap → Prop)
    (h : Heap) (k n pc : Nat) (Ls : Array Slot) (st : List Value) : Prop :=
  ∀ (T : State) (locs : List Loc) (k' n' : Nat), k' ≤ k → n' ≤ n → Stand p l e R s m args below meth c T locs k' n' → T.heap = h → Fr n0 locs →
    ∃ s₂ o, Steps p.tables e below (T.setTop (mkF m pc Ls st)) s₂ ∧ s₂.status = .running ∧ Ended s₂ below o ∧ ∃ v L, o = .returned v ∧ (Fr n0 L ∧ G v s₂.heap) ∧ FrameEnd s o s₂ L R.cells R.slots
abbrev WT : Type := Heap → Nat → Nat → Nat → Array Slot → List Value → Prop
def Ru (l : Launch) (Z : State) (own : String) (code : ByteArray) (maxL : Nat) (ret : Option FieldType) (nm : String) (R : Room) (n0 : Nat) (G : Option Value → Heap → Prop) (W : WT) : Prop :=
  ∃ (p : Program) (e : Env) (s : State) (m : MethodId) (args : Array Value) (below : List Frame) (meth : Method) (c : Code), Ctx p l e R s m args below meth c Z own code maxL ret nm ∧ W = WP p l e R s m args below meth c n0 G
/-- a body's contract -/
def MeetsW (l : Launch) (Z : State) (n0 : Nat) (y : MethodName) (bytes : ByteArray) (maxL : Nat) (ret : Option FieldType) (rm : Room) (as : Array Value) (h : Heap) (G : Option Value → Heap → Prop) : Prop :=
  ∀ ws : List Cond, MetFree l y (head1 (Cond.code y bytes maxL ret :: ws) rm) (fun a U => a = as ∧ Z.Warmed39 U.vm ∧ U.heap = h) (fun _ _ _ _ _ => True)
    (fun _ U o U' => ∃ v L, o = .returned v ∧ (Fr n0 L ∧ G v U'.heap) ∧ FrameEnd U o U' L rm.cells rm.slots)
theorem MeetsW.intro {l : Launch} {Z : State} {n0 : Nat} {y : MethodName} {bytes : ByteArray} {maxL : Nat} {ret : Option FieldType} {rm : Room} {as : Array Value} {h : Heap} {G : Option Value → Heap → Prop} {Ls : Array Slot}
    (hp : plainFor y = true) (hef : ∀ m, entryFrame m as maxL = mkF m 0 Ls [])
    (body : ∀ W, Ru l Z y.cls bytes maxL ret y.name rm n0 G W → W h 0 0 0 Ls []) : MeetsW l Z n0 y bytes maxL ret rm as h G := by
  intro ws
  refine MetFree.of_bodySF hp hisR ?_
  intro p e s m args below meth c s₁ Bd hml0 hP hK
  obtain ⟨rfl, hZ, hh⟩ := hP
  have X0 : Stand p l e rm s m args below meth c s₁ [] 0 0 := Stand.of_body Bd
  have e0 : s₁.heap = h := by rw [← hh, Bd.state]; rfl
  have C : Ctx p l e rm s m args below meth c Z y.cls bytes maxL ret y.name := ⟨Bd.exec, Bd.bytes, hml0, findClass_of_methodNamed Bd.named, hZ, Bd.returns, Bd.notSynchronized, (name_of_methodNamed Bd.named Bd.method).1⟩
  have q := body _ ⟨p, e, s, m, args, below, meth, c, C, rfl⟩ s₁ [] 0 0 (Nat.le_refl _) (Nat.le_refl _) X0 e0 (Fr.nil n0)
  rw [hef]
  exact q

/-! shifts, by how many places -/
def sh5 (y : Int32) : Nat := y.toBitVec.toNat % 32
def sh6 (y : Int32) : Nat := y.toBitVec.toNat % 64
def shlI (x : Int32) (k : Nat) : Int32 := Int32.ofBitVec (x.toBitVec <<< k)
def shrI (x : Int32) (k : Nat) : Int32 := Int32.ofBitVec (x.toBitVec >>> k)
def sarI (x : Int32) (k : Nat) : Int32 := Int32.ofBitVec (x.toBitVec.sshiftRight k)
def shlL (x : Int64) (k : Nat) : Int64 := Int64.ofBitVec (x.toBitVec <<< k)
def shrL (x : Int64) (k : Nat) : Int64 := Int64.ofBitVec (x.toBitVec >>> k)
def sarL (x : Int64) (k : Nat) : Int64 := Int64.ofBitVec (x.toBitVec.sshiftRight k)
theorem and31 (y : Int32) : (y &&& 31).toBitVec.toNat = sh5 y := by
  show (y.toBitVec &&& (31 : Int32).toBitVec).toNat = _
  rw [BitVec.toNat_and, show (31 : Int32).toBitVec.toNat = 2 ^ 5 - 1 from by decide, Nat.and_two_pow_sub_one_eq_mod]; rfl
theorem and63 (y : Int32) : (y.toInt64 &&& 63).toBitVec = BitVec.ofNat 64 (sh6 y) := by
  apply BitVec.eq_of_toNat_eq
  show (y.toBitVec.signExtend 64 &&& (63 : Int64).toBitVec).toNat = _
  rw [BitVec.toNat_and, show (63 : Int64).toBitVec.toNat = 2 ^ 6 - 1 from by decide, Nat.and_two_pow_sub_one_eq_mod, BitVec.toNat_ofNat, BitVec.toNat_signExtend]
  have h1 := y.toBitVec.isLt
  have h2 : (BitVec.setWidth 64 y.toBitVec).toNat = y.toBitVec.toNat := by rw [BitVec.toNat_setWidth]; omega
  rw [h2]
  unfold sh6
  split <;> omega
theorem ishl_eq (x y : Int32) : x <<< (y &&& 31) = shlI x (sh5 y) := by
  apply Int32.toBitVec_inj.mp
  show x.toBitVec <<< ((y &&& 31).toBitVec.smod 32) = x.toBitVec <<< (sh5 y)
  rw [BitVec.shiftLeft_eq', sm32 y _ rfl]; rfl
theorem ishr_eq (x y : Int32) : x >>> (y &&& 31) = sarI x (sh5 y) := by
  apply Int32.toBitVec_inj.mp
  show x.toBitVec.sshiftRight (((y &&& 31).toBitVec.smod 32).toNat) = x.toBitVec.sshiftRight (sh5 y)
  rw [sm32 y _ rfl]; rfl
theorem iushr_eq (x y : Int32) : XT.ushr x y = shrI x (sh5 y) := by
  apply Int32.toBitVec_inj.mp
  show x.toBitVec >>> ((y &&& 31).toBitVec % 32) = x.toBitVec >>> (sh5 y)
  rw [BitVec.ushiftRight_eq', BitVec.toNat_umod, and31]
  congr 1
  show sh5 y % 32 = sh5 y
  unfold sh5; omega
theorem lshl_eq (x : Int64) (y : Int32) : x <<< (y.toInt64 &&& 63) = shlL x (sh6 y) := by
  apply Int64.toBitVec_inj.mp
  show x.toBitVec <<< ((y.toInt64 &&& 63).toBitVec.smod 64) = x.toBitVec <<< (sh6 y)
  rw [BitVec.shiftLeft_eq', and63, smod64 _ (by unfold sh6; omega)]
theorem lshr_eq (x : Int64) (y : Int32) : x >>> (y.toInt64 &&& 63) = sarL x (sh6 y) := by
  apply Int64.toBitVec_inj.mp
  show x.toBitVec.sshiftRight (((y.toInt64 &&& 63).toBitVec.smod 64).toNat) = x.toBitVec.sshiftRight (sh6 y)
  rw [and63, smod64 _ (by unfold sh6; omega)]
theorem lushr_eq (x : Int64) (y : Int32) : XT.ushrL x y = shrL x (sh6 y) := by
  apply Int64.toBitVec_inj.mp
  show x.toBitVec >>> ((y.toInt64 &&& 63).toBitVec % 64) = x.toBitVec >>> (sh6 y)
  rw [BitVec.ushiftRight_eq', BitVec.toNat_umod, and63, BitVec.toNat_ofNat]
  congr 1
  show sh6 y % 2 ^ 64 % 64 = sh6 y
  unfold sh6; omega
section Steps
variable {l : Launch} {Z : State} {own : String} {code : ByteArray} {maxL : Nat} {ret : Option FieldType} {nm : String} {R : Room} {n0 : Nat} {G : Option Value → Heap → Prop} {W : WT} {h : Heap} {k n pc pc' : Nat} {Ls : Array Slot} {st rest : List Value}
theorem Ru.mono (C : Ru l Z own code maxL ret nm R n0 G W) {k2 n2 : Nat} (hk : k ≤ k2) (hn : n ≤ n2) (q : W h k2 n2 pc Ls st) : W h k n pc Ls st := by
  obtain ⟨p, e, s, m, args, below, meth, c, C, rfl⟩ := C
  intro T locs k' n' q1 q2 X eT N
  exact q T locs k' n' (Nat.le_trans q1 hk) (Nat.le_trans q2 hn) X eT N
theorem Ru.atPc (C : Ru l Z own code maxL ret nm R n0 G W) {pc2 : Nat} (hp : pc2 = pc) (q : W h k n pc2 Ls st) : W h k n pc Ls st := hp ▸ q
theorem Ru.iadd (C : Ru l Z own code maxL ret nm R n0 G W) {x y : Int32} (hd : decode code pc = .ok (.iadd, 1)) (hp : pc + 1 = pc') (q : W h k n pc' Ls (.int (x + y) :: rest)) : W h k n pc Ls (.int y :: .int x :: rest) := by
  obtain ⟨p, e, s, m, args, below, meth, c, ⟨hx, hby, hml, hown, hZ, hre, hlk, hnm⟩, rfl⟩ := C
  subst hp
  intro T locs k' n' q1 q2 X eT N
  obtain ⟨s2, o, st2, r⟩ := q T locs k' n' q1 q2 X eT N
  exact ⟨s2, o, XS.iadd (X.here) hx rfl (hb hby hd) rfl st2, r⟩
theorem Ru.isub (C : Ru l Z own code maxL ret nm R n0 G W) {x y : Int32} (hd : decode code pc = .ok (.isub, 1)) (hp : pc + 1 = pc') (q : W h k n pc' Ls (.int (x - y) :: rest)) : W h k n pc Ls (.int y :: .int x :: rest) := by
  obtain ⟨p, e, s, m, args, below, meth, c, ⟨hx, hby, hml, hown, hZ, hre, hlk, hnm⟩, rfl⟩ := C
  subst hp
  intro T locs k' n' q1 q2 X eT N
  obtain ⟨s2, o, st2, r⟩ := q T locs k' n' q1 q2 X eT N
  exact ⟨s2, o, XS.isub (X.here) hx rfl (hb hby hd) rfl st2, r⟩
theorem Ru.iand (C : Ru l Z own code maxL ret nm R n0 G W) {x y : Int32} (hd : decode code pc = .ok (.iand, 1)) (hp : pc + 1 = pc') (q : W h k n pc' Ls (.int (x &&& y) :: rest)) : W h k n pc Ls (.int y :: .int x :: rest) := by
  obtain ⟨p, e, s, m, args, below, meth, c, ⟨hx, hby, hml, hown, hZ, hre, hlk, hnm⟩, rfl⟩ := C
  subst hp
  intro T locs k' n' q1 q2 X eT N
  obtain ⟨s2, o, st2, r⟩ := q T locs k' n' q1 q2 X eT N
  exact ⟨s2, o, XS.iand (X.here) hx rfl (hb hby hd) rfl st2, r⟩
theorem Ru.imul (C : Ru l Z own code maxL ret nm R n0 G W) {x y : Int32} (hd : decode code pc = .ok (.imul, 1)) (hp : pc + 1 = pc') (q : W h k n pc' Ls (.int (x * y) :: rest)) : W h k n pc Ls (.int y :: .int x :: rest) := by
  obtain ⟨p, e, s, m, args, below, meth, c, ⟨hx, hby, hml, hown, hZ, hre, hlk, hnm⟩, rfl⟩ := C
  subst hp
  intro T locs k' n' q1 q2 X eT N
  obtain ⟨s2, o, st2, r⟩ := q T locs k' n' q1 q2 X eT N
  exact ⟨s2, o, XS.imul (X.here) hx rfl (hb hby hd) rfl st2, r⟩
theorem Ru.ixor (C : Ru l Z own code maxL ret nm R n0 G W) {x y : Int32} (hd : decode code pc = .ok (.ixor, 1)) (hp : pc + 1 = pc') (q : W h k n pc' Ls (.int (x ^^^ y) :: rest)) : W h k n pc Ls (.int y :: .int x :: rest) := by
  obtain ⟨p, e, s, m, args, below, meth, c, ⟨hx, hby, hml, hown, hZ, hre, hlk, hnm⟩, rfl⟩ := C
  subst hp
  intro T locs k' n' q1 q2 X eT N
  obtain ⟨s2, o, st2, r⟩ := q T locs k' n' q1 q2 X eT N
  exact ⟨s2, o, XT.ixor (X.here) hx rfl (hb hby hd) rfl st2, r⟩
theorem Ru.ior (C : Ru l Z own code maxL ret nm R n0 G W) {x y : Int32} (hd : decode code pc = .ok (.ior, 1)) (hp : pc + 1 = pc') (q : W h k n pc' Ls (.int (x ||| y) :: rest)) : W h k n pc Ls (.int y :: .int x :: rest) := by
  obtain ⟨p, e, s, m, args, below, meth, c, ⟨hx, hby, hml, hown, hZ, hre, hlk, hnm⟩, rfl⟩ := C
  subst hp
  intro T locs k' n' q1 q2 X eT N
  obtain ⟨s2, o, st2, r⟩ := q T locs k' n' q1 q2 X eT N
  exact ⟨s2, o, XT.ior (X.here) hx rfl (hb hby hd) rfl st2, r⟩
theorem Ru.idiv (C : Ru l Z own code maxL ret nm R n0 G W) {x y : Int32} (hd : decode code pc = .ok (.idiv, 1)) (hp : pc + 1 = pc') (hy : y ≠ 0) (q : W h k n pc' Ls (.int (x / y) :: rest)) : W h k n pc Ls (.int y :: .int x :: rest) := by
  obtain ⟨p, e, s, m, args, below, meth, c, ⟨hx, hby, hml, hown, hZ, hre, hlk, hnm⟩, rfl⟩ := C
  subst hp
  intro T locs k' n' q1 q2 X eT N
  obtain ⟨s2, o, st2, r⟩ := q T locs k' n' q1 q2 X eT N
  exact ⟨s2, o, XS.idiv (X.here) hx rfl (hb hby hd) rfl hy st2, r⟩
theorem Ru.irem (C : Ru l Z own code maxL ret nm R n0 G W) {x y : Int32} (hd : decode code pc = .ok (.irem, 1)) (hp : pc + 1 = pc') (hy : y ≠ 0) (q : W h k n pc' Ls (.int (x % y) :: rest)) : W h k n pc Ls (.int y :: .int x :: rest) := by
  obtain ⟨p, e, s, m, args, below, meth, c, ⟨hx, hby, hml, hown, hZ, hre, hlk, hnm⟩, rfl⟩ := C
  subst hp
  intro T locs k' n' q1 q2 X eT N
  obtain ⟨s2, o, st2, r⟩ := q T locs k' n' q1 q2 X eT N
  exact ⟨s2, o, iremM (X) hx rfl (hb hby hd) rfl hy st2, r⟩
theorem Ru.ineg (C : Ru l Z own code maxL ret nm R n0 G W) {x : Int32} (hd : decode code pc = .ok (.ineg, 1)) (hp : pc + 1 = pc') (q : W h k n pc' Ls (.int (-x) :: rest)) : W h k n pc Ls (.int x :: rest) := by
  obtain ⟨p, e, s, m, args, below, meth, c, ⟨hx, hby, hml, hown, hZ, hre, hlk, hnm⟩, rfl⟩ := C
  subst hp
  intro T locs k' n' q1 q2 X eT N
  obtain ⟨s2, o, st2, r⟩ := q T locs k' n' q1 q2 X eT N
  exact ⟨s2, o, XS.ineg (X.here) hx rfl (hb hby hd) rfl st2, r⟩
theorem Ru.ladd (C : Ru l Z own code maxL ret nm R n0 G W) {x y : Int64} (hd : decode code pc = .ok (.ladd, 1)) (hp : pc + 1 = pc') (q : W h k n pc' Ls (.long (x + y) :: rest)) : W h k n pc Ls (.long y :: .long x :: rest) := by
  obtain ⟨p, e, s, m, args, below, meth, c, ⟨hx, hby, hml, hown, hZ, hre, hlk, hnm⟩, rfl⟩ := C
  subst hp
  intro T locs k' n' q1 q2 X eT N
  obtain ⟨s2, o, st2, r⟩ := q T locs k' n' q1 q2 X eT N
  exact ⟨s2, o, XT.ladd (X.here) hx rfl (hb hby hd) rfl st2, r⟩
theorem Ru.lsub (C : Ru l Z own code maxL ret nm R n0 G W) {x y : Int64} (hd : decode code pc = .ok (.lsub, 1)) (hp : pc + 1 = pc') (q : W h k n pc' Ls (.long (x - y) :: rest)) : W h k n pc Ls (.long y :: .long x :: rest) := by
  obtain ⟨p, e, s, m, args, below, meth, c, ⟨hx, hby, hml, hown, hZ, hre, hlk, hnm⟩, rfl⟩ := C
  subst hp
  intro T locs k' n' q1 q2 X eT N
  obtain ⟨s2, o, st2, r⟩ := q T locs k' n' q1 q2 X eT N
  exact ⟨s2, o, XT.lsub (X.here) hx rfl (hb hby hd) rfl st2, r⟩
theorem Ru.lmul (C : Ru l Z own code maxL ret nm R n0 G W) {x y : Int64} (hd : decode code pc = .ok (.lmul, 1)) (hp : pc + 1 = pc') (q : W h k n pc' Ls (.long (x * y) :: rest)) : W h k n pc Ls (.long y :: .long x :: rest) := by
  obtain ⟨p, e, s, m, args, below, meth, c, ⟨hx, hby, hml, hown, hZ, hre, hlk, hnm⟩, rfl⟩ := C
  subst hp
  intro T locs k' n' q1 q2 X eT N
  obtain ⟨s2, o, st2, r⟩ := q T locs k' n' q1 q2 X eT N
  exact ⟨s2, o, XT.lmul (X.here) hx rfl (hb hby hd) rfl st2, r⟩
theorem Ru.land (C : Ru l Z own code maxL ret nm R n0 G W) {x y : Int64} (hd : decode code pc = .ok (.land, 1)) (hp : pc + 1 = pc') (q : W h k n pc' Ls (.long (x &&& y) :: rest)) : W h k n pc Ls (.long y :: .long x :: rest) := by
  obtain ⟨p, e, s, m, args, below, meth, c, ⟨hx, hby, hml, hown, hZ, hre, hlk, hnm⟩, rfl⟩ := C
  subst hp
  intro T locs k' n' q1 q2 X eT N
  obtain ⟨s2, o, st2, r⟩ := q T locs k' n' q1 q2 X eT N
  exact ⟨s2, o, XT.land (X.here) hx rfl (hb hby hd) rfl st2, r⟩
theorem Ru.lor (C : Ru l Z own code maxL ret nm R n0 G W) {x y : Int64} (hd : decode code pc = .ok (.lor, 1)) (hp : pc + 1 = pc') (q : W h k n pc' Ls (.long (x ||| y) :: rest)) : W h k n pc Ls (.long y :: .long x :: rest) := by
  obtain ⟨p, e, s, m, args, below, meth, c, ⟨hx, hby, hml, hown, hZ, hre, hlk, hnm⟩, rfl⟩ := C
  subst hp
  intro T locs k' n' q1 q2 X eT N
  obtain ⟨s2, o, st2, r⟩ := q T locs k' n' q1 q2 X eT N
  exact ⟨s2, o, XT.lor (X.here) hx rfl (hb hby hd) rfl st2, r⟩
theorem Ru.lxor (C : Ru l Z own code maxL ret nm R n0 G W) {x y : Int64} (hd : decode code pc = .ok (.lxor, 1)) (hp : pc + 1 = pc') (q : W h k n pc' Ls (.long (x ^^^ y) :: rest)) : W h k n pc Ls (.long y :: .long x :: rest) := by
  obtain ⟨p, e, s, m, args, below, meth, c, ⟨hx, hby, hml, hown, hZ, hre, hlk, hnm⟩, rfl⟩ := C
  subst hp
  intro T locs k' n' q1 q2 X eT N
  obtain ⟨s2, o, st2, r⟩ := q T locs k' n' q1 q2 X eT N
  exact ⟨s2, o, XT.lxor (X.here) hx rfl (hb hby hd) rfl st2, r⟩
theorem Ru.ldiv (C : Ru l Z own code maxL ret nm R n0 G W) {x y : Int64} (hd : decode code pc = .ok (.ldiv, 1)) (hp : pc + 1 = pc') (hy : y ≠ 0) (q : W h k n pc' Ls (.long (x / y) :: rest)) : W h k n pc Ls (.long y :: .long x :: rest) := by
  obtain ⟨p, e, s, m, args, below, meth, c, ⟨hx, hby, hml, hown, hZ, hre, hlk, hnm⟩, rfl⟩ := C
  subst hp
  intro T locs k' n' q1 q2 X eT N
  obtain ⟨s2, o, st2, r⟩ := q T locs k' n' q1 q2 X eT N
  exact ⟨s2, o, XT.ldiv (X.here) hx rfl (hb hby hd) rfl hy st2, r⟩
theorem Ru.ishl (C : Ru l Z own code maxL ret nm R n0 G W) {x : Int32} {y : Int32} {s : Nat} (hd : decode code pc = .ok (.ishl, 1)) (hp : pc + 1 = pc') (hs : sh5 y = s) (q : W h k n pc' Ls (.int (shlI x s) :: rest)) : W h k n pc Ls (.int y :: .int x :: rest) := by
  obtain ⟨p, e, s', m, args, below, meth, c, ⟨hx, hby, hml, hown, hZ, hre, hlk, hnm⟩, rfl⟩ := C
  subst hp hs
  intro T locs k' n' q1 q2 X eT N
  obtain ⟨s2, o, st2, r⟩ := q T locs k' n' q1 q2 X eT N
  exact ⟨s2, o, XT.ishl X.here hx rfl (hb hby hd) rfl (by rw [ishl_eq]; exact st2), r⟩
theorem Ru.ishr (C : Ru l Z own code maxL ret nm R n0 G W) {x : Int32} {y : Int32} {s : Nat} (hd : decode code pc = .ok (.ishr, 1)) (hp : pc + 1 = pc') (hs : sh5 y = s) (q : W h k n pc' Ls (.int (sarI x s) :: rest)) : W h k n pc Ls (.int y :: .int x :: rest) := by
  obtain ⟨p, e, s', m, args, below, meth, c, ⟨hx, hby, hml, hown, hZ, hre, hlk, hnm⟩, rfl⟩ := C
  subst hp hs
  intro T locs k' n' q1 q2 X eT N
  obtain ⟨s2, o, st2, r⟩ := q T locs k' n' q1 q2 X eT N
  exact ⟨s2, o, XT.ishr X.here hx rfl (hb hby hd) rfl (by rw [ishr_eq]; exact st2), r⟩
theorem Ru.iushr (C : Ru l Z own code maxL ret nm R n0 G W) {x : Int32} {y : Int32} {s : Nat} (hd : decode code pc = .ok (.iushr, 1)) (hp : pc + 1 = pc') (hs : sh5 y = s) (q : W h k n pc' Ls (.int (shrI x s) :: rest)) : W h k n pc Ls (.int y :: .int x :: rest) := by
  obtain ⟨p, e, s', m, args, below, meth, c, ⟨hx, hby, hml, hown, hZ, hre, hlk, hnm⟩, rfl⟩ := C
  subst hp hs
  intro T locs k' n' q1 q2 X eT N
  obtain ⟨s2, o, st2, r⟩ := q T locs k' n' q1 q2 X eT N
  exact ⟨s2, o, XT.iushr X.here hx rfl (hb hby hd) rfl (by rw [iushr_eq]; exact st2), r⟩
theorem Ru.lshl (C : Ru l Z own code maxL ret nm R n0 G W) {x : Int64} {y : Int32} {s : Nat} (hd : decode code pc = .ok (.lshl, 1)) (hp : pc + 1 = pc') (hs : sh6 y = s) (q : W h k n pc' Ls (.long (shlL x s) :: rest)) : W h k n pc Ls (.int y :: .long x :: rest) := by
  obtain ⟨p, e, s', m, args, below, meth, c, ⟨hx, hby, hml, hown, hZ, hre, hlk, hnm⟩, rfl⟩ := C
  subst hp hs
  intro T locs k' n' q1 q2 X eT N
  obtain ⟨s2, o, st2, r⟩ := q T locs k' n' q1 q2 X eT N
  exact ⟨s2, o, XT.lshl X.here hx rfl (hb hby hd) rfl (by rw [lshl_eq]; exact st2), r⟩
theorem Ru.lshr (C : Ru l Z own code maxL ret nm R n0 G W) {x : Int64} {y : Int32} {s : Nat} (hd : decode code pc = .ok (.lshr, 1)) (hp : pc + 1 = pc') (hs : sh6 y = s) (q : W h k n pc' Ls (.long (sarL x s) :: rest)) : W h k n pc Ls (.int y :: .long x :: rest) := by
  obtain ⟨p, e, s', m, args, below, meth, c, ⟨hx, hby, hml, hown, hZ, hre, hlk, hnm⟩, rfl⟩ := C
  subst hp hs
  intro T locs k' n' q1 q2 X eT N
  obtain ⟨s2, o, st2, r⟩ := q T locs k' n' q1 q2 X eT N
  exact ⟨s2, o, XT.lshr X.here hx rfl (hb hby hd) rfl (by rw [lshr_eq]; exact st2), r⟩
theorem Ru.lushr (C : Ru l Z own code maxL ret nm R n0 G W) {x : Int64} {y : Int32} {s : Nat} (hd : decode code pc = .ok (.lushr, 1)) (hp : pc + 1 = pc') (hs : sh6 y = s) (q : W h k n pc' Ls (.long (shrL x s) :: rest)) : W h k n pc Ls (.int y :: .long x :: rest) := by
  obtain ⟨p, e, s', m, args, below, meth, c, ⟨hx, hby, hml, hown, hZ, hre, hlk, hnm⟩, rfl⟩ := C
  subst hp hs
  intro T locs k' n' q1 q2 X eT N
  obtain ⟨s2, o, st2, r⟩ := q T locs k' n' q1 q2 X eT N
  exact ⟨s2, o, XT.lushr X.here hx rfl (hb hby hd) rfl (by rw [lushr_eq]; exact st2), r⟩
theorem Ru.i2l (C : Ru l Z own code maxL ret nm R n0 G W) {x : Int32} (hd : decode code pc = .ok (.i2l, 1)) (hp : pc + 1 = pc') (q : W h k n pc' Ls (.long x.toInt64 :: rest)) : W h k n pc Ls (.int x :: rest) := by
  obtain ⟨p, e, s, m, args, below, meth, c, ⟨hx, hby, hml, hown, hZ, hre, hlk, hnm⟩, rfl⟩ := C
  subst hp
  intro T locs k' n' q1 q2 X eT N
  obtain ⟨s2, o, st2, r⟩ := q T locs k' n' q1 q2 X eT N
  exact ⟨s2, o, XT.i2l (X.here) hx rfl (hb hby hd) rfl st2, r⟩
theorem Ru.l2i (C : Ru l Z own code maxL ret nm R n0 G W) {x : Int64} (hd : decode code pc = .ok (.l2i, 1)) (hp : pc + 1 = pc') (q : W h k n pc' Ls (.int x.toInt32 :: rest)) : W h k n pc Ls (.long x :: rest) := by
  obtain ⟨p, e, s, m, args, below, meth, c, ⟨hx, hby, hml, hown, hZ, hre, hlk, hnm⟩, rfl⟩ := C
  subst hp
  intro T locs k' n' q1 q2 X eT N
  obtain ⟨s2, o, st2, r⟩ := q T locs k' n' q1 q2 X eT N
  exact ⟨s2, o, XT.l2i (X.here) hx rfl (hb hby hd) rfl st2, r⟩
theorem Ru.i2b (C : Ru l Z own code maxL ret nm R n0 G W) {x : Int32} (hd : decode code pc = .ok (.i2b, 1)) (hp : pc + 1 = pc') (q : W h k n pc' Ls (.int x.toInt8.toInt32 :: rest)) : W h k n pc Ls (.int x :: rest) := by
  obtain ⟨p, e, s, m, args, below, meth, c, ⟨hx, hby, hml, hown, hZ, hre, hlk, hnm⟩, rfl⟩ := C
  subst hp
  intro T locs k' n' q1 q2 X eT N
  obtain ⟨s2, o, st2, r⟩ := q T locs k' n' q1 q2 X eT N
  exact ⟨s2, o, XT.i2b (X.here) hx rfl (hb hby hd) rfl st2, r⟩
theorem Ru.iconst (C : Ru l Z own code maxL ret nm R n0 G W) {i : Int} {v : Int32} (hd : decode code pc = .ok (.iconst i, 1)) (hp : pc + 1 = pc') (hv : Int32.ofInt i = v) (q : W h k n pc' Ls (.int v :: st)) : W h k n pc Ls (st) := by
  obtain ⟨p, e, s, m, args, below, meth, c, ⟨hx, hby, hml, hown, hZ, hre, hlk, hnm⟩, rfl⟩ := C
  subst hp hv
  intro T locs k' n' q1 q2 X eT N
  obtain ⟨s2, o, st2, r⟩ := q T locs k' n' q1 q2 X eT N
  exact ⟨s2, o, XS.iconst (X.here) hx rfl (hb hby hd)  st2, r⟩
theorem Ru.bipush (C : Ru l Z own code maxL ret nm R n0 G W) {i : Int} {v : Int32} (hd : decode code pc = .ok (.bipush i, 2)) (hp : pc + 2 = pc') (hv : (Int8.ofInt i).toInt32 = v) (q : W h k n pc' Ls (.int v :: st)) : W h k n pc Ls (st) := by
  obtain ⟨p, e, s, m, args, below, meth, c, ⟨hx, hby, hml, hown, hZ, hre, hlk, hnm⟩, rfl⟩ := C
  subst hp hv
  intro T locs k' n' q1 q2 X eT N
  obtain ⟨s2, o, st2, r⟩ := q T locs k' n' q1 q2 X eT N
  exact ⟨s2, o, XS.bipush (X.here) hx rfl (hb hby hd)  st2, r⟩
theorem Ru.sipush (C : Ru l Z own code maxL ret nm R n0 G W) {i : Int} {v : Int32} (hd : decode code pc = .ok (.sipush i, 3)) (hp : pc + 3 = pc') (hv : (Int16.ofInt i).toInt32 = v) (q : W h k n pc' Ls (.int v :: st)) : W h k n pc Ls (st) := by
  obtain ⟨p, e, s, m, args, below, meth, c, ⟨hx, hby, hml, hown, hZ, hre, hlk, hnm⟩, rfl⟩ := C
  subst hp hv
  intro T locs k' n' q1 q2 X eT N
  obtain ⟨s2, o, st2, r⟩ := q T locs k' n' q1 q2 X eT N
  exact ⟨s2, o, XS.sipush (X.here) hx rfl (hb hby hd)  st2, r⟩
theorem Ru.lconst (C : Ru l Z own code maxL ret nm R n0 G W) {i : Fin 2} {v : Int64} (hd : decode code pc = .ok (.lconst i, 1)) (hp : pc + 1 = pc') (hv : Int64.ofNat i = v) (q : W h k n pc' Ls (.long v :: st)) : W h k n pc Ls (st) := by
  obtain ⟨p, e, s, m, args, below, meth, c, ⟨hx, hby, hml, hown, hZ, hre, hlk, hnm⟩, rfl⟩ := C
  subst hp hv
  intro T locs k' n' q1 q2 X eT N
  obtain ⟨s2, o, st2, r⟩ := q T locs k' n' q1 q2 X eT N
  exact ⟨s2, o, XT.lconst (X.here) hx rfl (hb hby hd)  st2, r⟩
theorem Ru.aconstNull (C : Ru l Z own code maxL ret nm R n0 G W)  (hd : decode code pc = .ok (.aconst_null, 1)) (hp : pc + 1 = pc') (q : W h k n pc' Ls (.null :: st)) : W h k n pc Ls (st) := by
  obtain ⟨p, e, s, m, args, below, meth, c, ⟨hx, hby, hml, hown, hZ, hre, hlk, hnm⟩, rfl⟩ := C
  subst hp
  intro T locs k' n' q1 q2 X eT N
  obtain ⟨s2, o, st2, r⟩ := q T locs k' n' q1 q2 X eT N
  exact ⟨s2, o, XS.aconstNull (X.here) hx rfl (hb hby hd)  st2, r⟩
theorem Ru.dup (C : Ru l Z own code maxL ret nm R n0 G W) {x : Value} (hd : decode code pc = .ok (.dup, 1)) (hp : pc + 1 = pc') (hc : x.category = 1) (q : W h k n pc' Ls (x :: x :: rest)) : W h k n pc Ls (x :: rest) := by
  obtain ⟨p, e, s, m, args, below, meth, c, ⟨hx, hby, hml, hown, hZ, hre, hlk, hnm⟩, rfl⟩ := C
  subst hp
  intro T locs k' n' q1 q2 X eT N
  obtain ⟨s2, o, st2, r⟩ := q T locs k' n' q1 q2 X eT N
  exact ⟨s2, o, XS.dup (X.here) hx rfl (hb hby hd) rfl hc st2, r⟩
theorem Ru.pop (C : Ru l Z own code maxL ret nm R n0 G W) {x : Value} (hd : decode code pc = .ok (.pop, 1)) (hp : pc + 1 = pc') (hc : x.category = 1) (q : W h k n pc' Ls (rest)) : W h k n pc Ls (x :: rest) := by
  obtain ⟨p, e, s, m, args, below, meth, c, ⟨hx, hby, hml, hown, hZ, hre, hlk, hnm⟩, rfl⟩ := C
  subst hp
  intro T locs k' n' q1 q2 X eT N
  obtain ⟨s2, o, st2, r⟩ := q T locs k' n' q1 q2 X eT N
  exact ⟨s2, o, XT.pop (X.here) hx rfl (hb hby hd) rfl hc st2, r⟩
theorem Ru.dup2 (C : Ru l Z own code maxL ret nm R n0 G W) {x y : Value} (hd : decode code pc = .ok (.dup2, 1)) (hp : pc + 1 = pc') (hc : x.category = 1) (hc' : y.category = 1) (q : W h k n pc' Ls (x :: y :: x :: y :: rest)) : W h k n pc Ls (x :: y :: rest) := by
  obtain ⟨p, e, s, m, args, below, meth, c, ⟨hx, hby, hml, hown, hZ, hre, hlk, hnm⟩, rfl⟩ := C
  subst hp
  intro T locs k' n' q1 q2 X eT N
  obtain ⟨s2, o, st2, r⟩ := q T locs k' n' q1 q2 X eT N
  exact ⟨s2, o, XT.dup2 (X.here) hx rfl (hb hby hd) rfl hc hc' st2, r⟩
theorem Ru.dup2L (C : Ru l Z own code maxL ret nm R n0 G W) {x : Int64} (hd : decode code pc = .ok (.dup2, 1)) (hp : pc + 1 = pc') (q : W h k n pc' Ls (.long x :: .long x :: rest)) : W h k n pc Ls (.long x :: rest) := by
  obtain ⟨p, e, s, m, args, below, meth, c, ⟨hx, hby, hml, hown, hZ, hre, hlk, hnm⟩, rfl⟩ := C
  subst hp
  intro T locs k' n' q1 q2 X eT N
  obtain ⟨s2, o, st2, r⟩ := q T locs k' n' q1 q2 X eT N
  exact ⟨s2, o, XT.dup2L (X.here) hx rfl (hb hby hd) rfl st2, r⟩
theorem Ru.dupX1 (C : Ru l Z own code maxL ret nm R n0 G W) {x y : Value} (hd : decode code pc = .ok (.dup_x1, 1)) (hp : pc + 1 = pc') (hc : x.category = 1) (hc' : y.category = 1) (q : W h k n pc' Ls (x :: y :: x :: rest)) : W h k n pc Ls (x :: y :: rest) := by
  obtain ⟨p, e, s, m, args, below, meth, c, ⟨hx, hby, hml, hown, hZ, hre, hlk, hnm⟩, rfl⟩ := C
  subst hp
  intro T locs k' n' q1 q2 X eT N
  obtain ⟨s2, o, st2, r⟩ := q T locs k' n' q1 q2 X eT N
  exact ⟨s2, o, XT.dupX1 (X.here) hx rfl (hb hby hd) rfl hc hc' st2, r⟩
theorem Ru.iload (C : Ru l Z own code maxL ret nm R n0 G W) {j : Nat} {v : Int32} (hd : decode code pc = .ok (.iload j, 2)) (hp : pc + 2 = pc') (hl : Ls[j]? = some (.val (.int v))) (q : W h k n pc' Ls (.int v :: st)) : W h k n pc Ls (st) := by
  obtain ⟨p, e, s, m, args, below, meth, c, ⟨hx, hby, hml, hown, hZ, hre, hlk, hnm⟩, rfl⟩ := C
  subst hp
  intro T locs k' n' q1 q2 X eT N
  obtain ⟨s2, o, st2, r⟩ := q T locs k' n' q1 q2 X eT N
  exact ⟨s2, o, XS.iload (X.here) hx rfl (hb hby hd) hl st2, r⟩
theorem Ru.iloadN (C : Ru l Z own code maxL ret nm R n0 G W) {j : Fin 4} {v : Int32} (hd : decode code pc = .ok (.iload_n j, 1)) (hp : pc + 1 = pc') (hl : Ls[j.val]? = some (.val (.int v))) (q : W h k n pc' Ls (.int v :: st)) : W h k n pc Ls (st) := by
  obtain ⟨p, e, s, m, args, below, meth, c, ⟨hx, hby, hml, hown, hZ, hre, hlk, hnm⟩, rfl⟩ := C
  subst hp
  intro T locs k' n' q1 q2 X eT N
  obtain ⟨s2, o, st2, r⟩ := q T locs k' n' q1 q2 X eT N
  exact ⟨s2, o, XS.iloadN (X.here) hx rfl (hb hby hd) hl st2, r⟩
theorem Ru.lload (C : Ru l Z own code maxL ret nm R n0 G W) {j : Nat} {v : Int64} (hd : decode code pc = .ok (.lload j, 2)) (hp : pc + 2 = pc') (hl : Ls[j]? = some (.val (.long v))) (q : W h k n pc' Ls (.long v :: st)) : W h k n pc Ls (st) := by
  obtain ⟨p, e, s, m, args, below, meth, c, ⟨hx, hby, hml, hown, hZ, hre, hlk, hnm⟩, rfl⟩ := C
  subst hp
  intro T locs k' n' q1 q2 X eT N
  obtain ⟨s2, o, st2, r⟩ := q T locs k' n' q1 q2 X eT N
  exact ⟨s2, o, XT.lload (X.here) hx rfl (hb hby hd) hl st2, r⟩
theorem Ru.lloadN (C : Ru l Z own code maxL ret nm R n0 G W) {j : Fin 4} {v : Int64} (hd : decode code pc = .ok (.lload_n j, 1)) (hp : pc + 1 = pc') (hl : Ls[j.val]? = some (.val (.long v))) (q : W h k n pc' Ls (.long v :: st)) : W h k n pc Ls (st) := by
  obtain ⟨p, e, s, m, args, below, meth, c, ⟨hx, hby, hml, hown, hZ, hre, hlk, hnm⟩, rfl⟩ := C
  subst hp
  intro T locs k' n' q1 q2 X eT N
  obtain ⟨s2, o, st2, r⟩ := q T locs k' n' q1 q2 X eT N
  exact ⟨s2, o, XT.lloadN (X.here) hx rfl (hb hby hd) hl st2, r⟩
theorem Ru.aload (C : Ru l Z own code maxL ret nm R n0 G W) {j : Nat} {v : Value} (hd : decode code pc = .ok (.aload j, 2)) (hp : pc + 2 = pc') (hl : Ls[j]? = some (.val v)) (hv : v.isRef = true) (q : W h k n pc' Ls (v :: st)) : W h k n pc Ls (st) := by
  obtain ⟨p, e, s, m, args, below, meth, c, ⟨hx, hby, hml, hown, hZ, hre, hlk, hnm⟩, rfl⟩ := C
  subst hp
  intro T locs k' n' q1 q2 X eT N
  obtain ⟨s2, o, st2, r⟩ := q T locs k' n' q1 q2 X eT N
  exact ⟨s2, o, XS.aload (X.here) hx rfl (hb hby hd) hl hv st2, r⟩
theorem Ru.aloadN (C : Ru l Z own code maxL ret nm R n0 G W) {j : Fin 4} {v : Value} (hd : decode code pc = .ok (.aload_n j, 1)) (hp : pc + 1 = pc') (hl : Ls[j.val]? = some (.val v)) (hv : v.isRef = true) (q : W h k n pc' Ls (v :: st)) : W h k n pc Ls (st) := by
  obtain ⟨p, e, s, m, args, below, meth, c, ⟨hx, hby, hml, hown, hZ, hre, hlk, hnm⟩, rfl⟩ := C
  subst hp
  intro T locs k' n' q1 q2 X eT N
  obtain ⟨s2, o, st2, r⟩ := q T locs k' n' q1 q2 X eT N
  exact ⟨s2, o, XS.aloadN (X.here) hx rfl (hb hby hd) hl hv st2, r⟩
theorem Ru.istoreX (C : Ru l Z own code maxL ret nm R n0 G W) {j : Nat} {x : Int32} {l' : Array Slot} (hd : decode code pc = .ok (.istore j, 2)) (hp : pc + 2 = pc') (hl : storeLocals Ls j (.int x) = some l') (q : W h k n pc' l' rest) : W h k n pc Ls (.int x :: rest) := by
  obtain ⟨p, e, s, m, args, below, meth, c, ⟨hx, hby, hml, hown, hZ, hre, hlk, hnm⟩, rfl⟩ := C
  subst hp
  intro T locs k' n' q1 q2 X eT N
  obtain ⟨s2, o, st2, r⟩ := q T locs k' n' q1 q2 X eT N
  exact ⟨s2, o, XS.istore X.here hx rfl (hb hby hd) rfl hl st2, r⟩
theorem Ru.istoreNX (C : Ru l Z own code maxL ret nm R n0 G W) {j : Fin 4} {x : Int32} {l' : Array Slot} (hd : decode code pc = .ok (.istore_n j, 1)) (hp : pc + 1 = pc') (hl : storeLocals Ls j.val (.int x) = some l') (q : W h k n pc' l' rest) : W h k n pc Ls (.int x :: rest) := by
  obtain ⟨p, e, s, m, args, below, meth, c, ⟨hx, hby, hml, hown, hZ, hre, hlk, hnm⟩, rfl⟩ := C
  subst hp
  intro T locs k' n' q1 q2 X eT N
  obtain ⟨s2, o, st2, r⟩ := q T locs k' n' q1 q2 X eT N
  exact ⟨s2, o, XS.istoreN X.here hx rfl (hb hby hd) rfl hl st2, r⟩
theorem Ru.lstoreX (C : Ru l Z own code maxL ret nm R n0 G W) {j : Nat} {x : Int64} {l' : Array Slot} (hd : decode code pc = .ok (.lstore j, 2)) (hp : pc + 2 = pc') (hl : storeLocals Ls j (.long x) = some l') (q : W h k n pc' l' rest) : W h k n pc Ls (.long x :: rest) := by
  obtain ⟨p, e, s, m, args, below, meth, c, ⟨hx, hby, hml, hown, hZ, hre, hlk, hnm⟩, rfl⟩ := C
  subst hp
  intro T locs k' n' q1 q2 X eT N
  obtain ⟨s2, o, st2, r⟩ := q T locs k' n' q1 q2 X eT N
  exact ⟨s2, o, XT.lstore X.here hx rfl (hb hby hd) rfl hl st2, r⟩
theorem Ru.lstoreNX (C : Ru l Z own code maxL ret nm R n0 G W) {j : Fin 4} {x : Int64} {l' : Array Slot} (hd : decode code pc = .ok (.lstore_n j, 1)) (hp : pc + 1 = pc') (hl : storeLocals Ls j.val (.long x) = some l') (q : W h k n pc' l' rest) : W h k n pc Ls (.long x :: rest) := by
  obtain ⟨p, e, s, m, args, below, meth, c, ⟨hx, hby, hml, hown, hZ, hre, hlk, hnm⟩, rfl⟩ := C
  subst hp
  intro T locs k' n' q1 q2 X eT N
  obtain ⟨s2, o, st2, r⟩ := q T locs k' n' q1 q2 X eT N
  exact ⟨s2, o, XT.lstoreN X.here hx rfl (hb hby hd) rfl hl st2, r⟩
theorem Ru.istore (C : Ru l Z own code maxL ret nm R n0 G W) {j : Nat} {x : Int32} {f : Int32 → Array Slot} (hd : decode code pc = .ok (.istore j, 2)) (hp : pc + 2 = pc') (hl : ∀ v, storeLocals Ls j (.int v) = some (f v)) (q : ∀ v, v = x → W h k n pc' (f v) rest) : W h k n pc Ls (.int x :: rest) := by
  obtain ⟨p, e, s, m, args, below, meth, c, ⟨hx, hby, hml, hown, hZ, hre, hlk, hnm⟩, rfl⟩ := C
  subst hp
  intro T locs k' n' q1 q2 X eT N
  obtain ⟨s2, o, st2, r⟩ := q x rfl T locs k' n' q1 q2 X eT N
  exact ⟨s2, o, XS.istore X.here hx rfl (hb hby hd) rfl (hl x) st2, r⟩
theorem Ru.istoreN (C : Ru l Z own code maxL ret nm R n0 G W) {j : Fin 4} {x : Int32} {f : Int32 → Array Slot} (hd : decode code pc = .ok (.istore_n j, 1)) (hp : pc + 1 = pc') (hl : ∀ v, storeLocals Ls j.val (.int v) = some (f v)) (q : ∀ v, v = x → W h k n pc' (f v) rest) : W h k n pc Ls (.int x :: rest) := by
  obtain ⟨p, e, s, m, args, below, meth, c, ⟨hx, hby, hml, hown, hZ, hre, hlk, hnm⟩, rfl⟩ := C
  subst hp
  intro T locs k' n' q1 q2 X eT N
  obtain ⟨s2, o, st2, r⟩ := q x rfl T locs k' n' q1 q2 X eT N
  exact ⟨s2, o, XS.istoreN X.here hx rfl (hb hby hd) rfl (hl x) st2, r⟩
theorem Ru.lstore (C : Ru l Z own code maxL ret nm R n0 G W) {j : Nat} {x : Int64} {f : Int64 → Array Slot} (hd : decode code pc = .ok (.lstore j, 2)) (hp : pc + 2 = pc') (hl : ∀ v, storeLocals Ls j (.long v) = some (f v)) (q : ∀ v, v = x → W h k n pc' (f v) rest) : W h k n pc Ls (.long x :: rest) := by
  obtain ⟨p, e, s, m, args, below, meth, c, ⟨hx, hby, hml, hown, hZ, hre, hlk, hnm⟩, rfl⟩ := C
  subst hp
  intro T locs k' n' q1 q2 X eT N
  obtain ⟨s2, o, st2, r⟩ := q x rfl T locs k' n' q1 q2 X eT N
  exact ⟨s2, o, XT.lstore X.here hx rfl (hb hby hd) rfl (hl x) st2, r⟩
theorem Ru.lstoreN (C : Ru l Z own code maxL ret nm R n0 G W) {j : Fin 4} {x : Int64} {f : Int64 → Array Slot} (hd : decode code pc = .ok (.lstore_n j, 1)) (hp : pc + 1 = pc') (hl : ∀ v, storeLocals Ls j.val (.long v) = some (f v)) (q : ∀ v, v = x → W h k n pc' (f v) rest) : W h k n pc Ls (.long x :: rest) := by
  obtain ⟨p, e, s, m, args, below, meth, c, ⟨hx, hby, hml, hown, hZ, hre, hlk, hnm⟩, rfl⟩ := C
  subst hp
  intro T locs k' n' q1 q2 X eT N
  obtain ⟨s2, o, st2, r⟩ := q x rfl T locs k' n' q1 q2 X eT N
  exact ⟨s2, o, XT.lstoreN X.here hx rfl (hb hby hd) rfl (hl x) st2, r⟩
theorem Ru.astore (C : Ru l Z own code maxL ret nm R n0 G W) {j : Nat} {x : Value} {l' : Array Slot} (hd : decode code pc = .ok (.astore j, 2)) (hp : pc + 2 = pc') (hv : x.isRef = true) (hl : storeLocals Ls j x = some l') (q : W h k n pc' l' rest) : W h k n pc Ls (x :: rest) := by
  obtain ⟨p, e, s, m, args, below, meth, c, ⟨hx, hby, hml, hown, hZ, hre, hlk, hnm⟩, rfl⟩ := C
  subst hp
  intro T locs k' n' q1 q2 X eT N
  obtain ⟨s2, o, st2, r⟩ := q T locs k' n' q1 q2 X eT N
  exact ⟨s2, o, XS.astore X.here hx rfl (hb hby hd) rfl hv hl st2, r⟩
theorem Ru.astoreN (C : Ru l Z own code maxL ret nm R n0 G W) {j : Fin 4} {x : Value} {l' : Array Slot} (hd : decode code pc = .ok (.astore_n j, 1)) (hp : pc + 1 = pc') (hv : x.isRef = true) (hl : storeLocals Ls j.val x = some l') (q : W h k n pc' l' rest) : W h k n pc Ls (x :: rest) := by
  obtain ⟨p, e, s, m, args, below, meth, c, ⟨hx, hby, hml, hown, hZ, hre, hlk, hnm⟩, rfl⟩ := C
  subst hp
  intro T locs k' n' q1 q2 X eT N
  obtain ⟨s2, o, st2, r⟩ := q T locs k' n' q1 q2 X eT N
  exact ⟨s2, o, XS.astoreN X.here hx rfl (hb hby hd) rfl hv hl st2, r⟩
theorem Ru.iinc (C : Ru l Z own code maxL ret nm R n0 G W) {j : Nat} {cst : Int} {x d : Int32} {f : Int32 → Array Slot} (hd : decode code pc = .ok (.iinc j cst, 3)) (hp : pc + 3 = pc') (hl : Ls[j]? = some (.val (.int x))) (hc : Int32.ofInt cst = d) (hl' : ∀ v, storeLocals Ls j (.int v) = some (f v)) (q : ∀ v, v = x + d → W h k n pc' (f v) st) : W h k n pc Ls st := by
  obtain ⟨p, e, s, m, args, below, meth, c, ⟨hx, hby, hml, hown, hZ, hre, hlk, hnm⟩, rfl⟩ := C
  subst hp hc
  intro T locs k' n' q1 q2 X eT N
  obtain ⟨s2, o, st2, r⟩ := q _ rfl T locs k' n' q1 q2 X eT N
  exact ⟨s2, o, XS.iinc X.here hx rfl (hb hby hd) hl (hl' _) st2, r⟩
theorem Ru.goto (C : Ru l Z own code maxL ret nm R n0 G W) {o : Int} (hd : decode code pc = .ok (.goto o, 3)) (hp : (pc : Int) + o = (pc' : Int)) (q : W h k n pc' Ls st) : W h k n pc Ls st := by
  obtain ⟨p, e, s, m, args, below, meth, c, ⟨hx, hby, hml, hown, hZ, hre, hlk, hnm⟩, rfl⟩ := C
  intro T locs k' n' q1 q2 X eT N
  obtain ⟨s2, o2, st2, r⟩ := q T locs k' n' q1 q2 X eT N
  exact ⟨s2, o2, XS.goto X.here hx rfl (pc0 := pc) (pc' := pc') rfl (hb hby hd) (by omega) (by omega) st2, r⟩
theorem Ru.ifAny (C : Ru l Z own code maxL ret nm R n0 G W) {cd : ClassFile.Cond} {o : Int} {x : Int32} {pt : Nat} (hd : decode code pc = .ok (.ifCond cd o, 3)) (hp : pc + 3 = pc') (ht : (pc : Int) + o = (pt : Int)) (q1 : ifCond.holds cd x = true → W h k n pt Ls rest) (q2 : ifCond.holds cd x = false → W h k n pc' Ls rest) : W h k n pc Ls (.int x :: rest) := by
  obtain ⟨p, e, s, m, args, below, meth, c, ⟨hx, hby, hml, hown, hZ, hre, hlk, hnm⟩, rfl⟩ := C
  subst hp
  intro T locs k' n' u1 u2 X eT N
  cases hc : ifCond.holds cd x
  · obtain ⟨s2, o2, st2, r⟩ := q2 hc T locs k' n' u1 u2 X eT N
    exact ⟨s2, o2, XS.ifNo X.here hx rfl (hb hby hd) rfl hc st2, r⟩
  · obtain ⟨s2, o2, st2, r⟩ := q1 hc T locs k' n' u1 u2 X eT N
    exact ⟨s2, o2, XS.ifYes X.here hx rfl (pc0 := pc) (pc' := pt) rfl (hb hby hd) rfl hc (by omega) (by omega) st2, r⟩
theorem Ru.icmpAny (C : Ru l Z own code maxL ret nm R n0 G W) {cd : ClassFile.Cond} {o : Int} {x y : Int32} {pt : Nat} (hd : decode code pc = .ok (.if_icmp cd o, 3)) (hp : pc + 3 = pc') (ht : (pc : Int) + o = (pt : Int)) (q1 : if_icmp.holds cd x y = true → W h k n pt Ls rest) (q2 : if_icmp.holds cd x y = false → W h k n pc' Ls rest) : W h k n pc Ls (.int y :: .int x :: rest) := by
  obtain ⟨p, e, s, m, args, below, meth, c, ⟨hx, hby, hml, hown, hZ, hre, hlk, hnm⟩, rfl⟩ := C
  subst hp
  intro T locs k' n' u1 u2 X eT N
  cases hc : if_icmp.holds cd x y
  · obtain ⟨s2, o2, st2, r⟩ := q2 hc T locs k' n' u1 u2 X eT N
    exact ⟨s2, o2, XS.icmpNo X.here hx rfl (hb hby hd) rfl hc st2, r⟩
  · obtain ⟨s2, o2, st2, r⟩ := q1 hc T locs k' n' u1 u2 X eT N
    exact ⟨s2, o2, XS.icmpYes X.here hx rfl (pc0 := pc) (pc' := pt) rfl (hb hby hd) rfl hc (by omega) (by omega) st2, r⟩
theorem Ru.lcmp (C : Ru l Z own code maxL ret nm R n0 G W) {x y : Int64} (hd : decode code pc = .ok (.lcmp, 1)) (hp : pc + 1 = pc') (q : W h k n pc' Ls (.int (XT.cmpL x y) :: rest)) : W h k n pc Ls (.long y :: .long x :: rest) := by
  obtain ⟨p, e, s, m, args, below, meth, c, ⟨hx, hby, hml, hown, hZ, hre, hlk, hnm⟩, rfl⟩ := C
  subst hp
  intro T locs k' n' q1 q2 X eT N
  obtain ⟨s2, o, st2, r⟩ := q T locs k' n' q1 q2 X eT N
  exact ⟨s2, o, XT.lcmp X.here hx rfl (hb hby hd) rfl st2, r⟩
theorem cmpL_lt (x y : Int64) : XT.cmpL x y < 0 ↔ x < y := by
  have e : XT.cmpL x y = lcmpV x y := by simp only [XT.cmpL, lcmpV]; split <;> simp_all
  rw [e]; exact lc_lt x y
theorem cmpL_gt (x y : Int64) : 0 < XT.cmpL x y ↔ y < x := by
  have e : XT.cmpL x y = lcmpV x y := by simp only [XT.cmpL, lcmpV]; split <;> simp_all
  rw [e]; exact lc_gt x y
theorem cmpL_eq (x y : Int64) : XT.cmpL x y = 0 ↔ x = y := by
  have e : XT.cmpL x y = lcmpV x y := by simp only [XT.cmpL, lcmpV]; split <;> simp_all
  rw [e]; exact lc_eq x y
theorem Ru.if_eq (C : Ru l Z own code maxL ret nm R n0 G W) {o : Int} {x : Int32} {pt : Nat} (hd : decode code pc = .ok (.ifCond .eq o, 3)) (hp : pc + 3 = pc') (ht : (pc : Int) + o = (pt : Int)) (q1 : x = 0 → W h k n pt Ls rest) (q2 : ¬ x = 0 → W h k n pc' Ls rest) : W h k n pc Ls (.int x :: rest) :=
  C.ifAny hd hp ht (fun q => q1 (by simpa [ifCond.holds] using q)) (fun q => q2 (by simpa [ifCond.holds] using q))
theorem Ru.icmp_eq (C : Ru l Z own code maxL ret nm R n0 G W) {o : Int} {x y : Int32} {pt : Nat} (hd : decode code pc = .ok (.if_icmp .eq o, 3)) (hp : pc + 3 = pc') (ht : (pc : Int) + o = (pt : Int)) (q1 : x = y → W h k n pt Ls rest) (q2 : ¬ x = y → W h k n pc' Ls rest) : W h k n pc Ls (.int y :: .int x :: rest) :=
  C.icmpAny hd hp ht (fun q => q1 (by simpa [if_icmp.holds] using q)) (fun q => q2 (by simpa [if_icmp.holds] using q))
theorem Ru.lif_eq (C : Ru l Z own code maxL ret nm R n0 G W) {o : Int} {x y : Int64} {pi pt : Nat} (hd : decode code pc = .ok (.lcmp, 1)) (hi : pc + 1 = pi) (hd2 : decode code pi = .ok (.ifCond .eq o, 3)) (hp : pi + 3 = pc') (ht : (pi : Int) + o = (pt : Int)) (q1 : x = y → W h k n pt Ls rest) (q2 : ¬ x = y → W h k n pc' Ls rest) : W h k n pc Ls (.long y :: .long x :: rest) :=
  C.lcmp hd hi (C.if_eq hd2 hp ht (fun q => q1 (by simpa only [cmpL_eq, cmpL_lt, cmpL_gt] using q)) (fun q => q2 (by simpa only [cmpL_eq, cmpL_lt, cmpL_gt] using q)))
theorem Ru.if_ne (C : Ru l Z own code maxL ret nm R n0 G W) {o : Int} {x : Int32} {pt : Nat} (hd : decode code pc = .ok (.ifCond .ne o, 3)) (hp : pc + 3 = pc') (ht : (pc : Int) + o = (pt : Int)) (q1 : ¬ x = 0 → W h k n pt Ls rest) (q2 : x = 0 → W h k n pc' Ls rest) : W h k n pc Ls (.int x :: rest) :=
  C.ifAny hd hp ht (fun q => q1 (by simpa [ifCond.holds] using q)) (fun q => q2 (by simpa [ifCond.holds] using q))
theorem Ru.icmp_ne (C : Ru l Z own code maxL ret nm R n0 G W) {o : Int} {x y : Int32} {pt : Nat} (hd : decode code pc = .ok (.if_icmp .ne o, 3)) (hp : pc + 3 = pc') (ht : (pc : Int) + o = (pt : Int)) (q1 : ¬ x = y → W h k n pt Ls rest) (q2 : x = y → W h k n pc' Ls rest) : W h k n pc Ls (.int y :: .int x :: rest) :=
  C.icmpAny hd hp ht (fun q => q1 (by simpa [if_icmp.holds] using q)) (fun q => q2 (by simpa [if_icmp.holds] using q))
theorem Ru.lif_ne (C : Ru l Z own code maxL ret nm R n0 G W) {o : Int} {x y : Int64} {pi pt : Nat} (hd : decode code pc = .ok (.lcmp, 1)) (hi : pc + 1 = pi) (hd2 : decode code pi = .ok (.ifCond .ne o, 3)) (hp : pi + 3 = pc') (ht : (pi : Int) + o = (pt : Int)) (q1 : ¬ x = y → W h k n pt Ls rest) (q2 : x = y → W h k n pc' Ls rest) : W h k n pc Ls (.long y :: .long x :: rest) :=
  C.lcmp hd hi (C.if_ne hd2 hp ht (fun q => q1 (by simpa only [cmpL_eq, cmpL_lt, cmpL_gt] using q)) (fun q => q2 (by simpa only [cmpL_eq, cmpL_lt, cmpL_gt] using q)))
theorem Ru.if_lt (C : Ru l Z own code maxL ret nm R n0 G W) {o : Int} {x : Int32} {pt : Nat} (hd : decode code pc = .ok (.ifCond .lt o, 3)) (hp : pc + 3 = pc') (ht : (pc : Int) + o = (pt : Int)) (q1 : x < 0 → W h k n pt Ls rest) (q2 : ¬ x < 0 → W h k n pc' Ls rest) : W h k n pc Ls (.int x :: rest) :=
  C.ifAny hd hp ht (fun q => q1 (by simpa [ifCond.holds] using q)) (fun q => q2 (by simpa [ifCond.holds] using q))
theorem Ru.icmp_lt (C : Ru l Z own code maxL ret nm R n0 G W) {o : Int} {x y : Int32} {pt : Nat} (hd : decode code pc = .ok (.if_icmp .lt o, 3)) (hp : pc + 3 = pc') (ht : (pc : Int) + o = (pt : Int)) (q1 : x < y → W h k n pt Ls rest) (q2 : ¬ x < y → W h k n pc' Ls rest) : W h k n pc Ls (.int y :: .int x :: rest) :=
  C.icmpAny hd hp ht (fun q => q1 (by simpa [if_icmp.holds] using q)) (fun q => q2 (by simpa [if_icmp.holds] using q))
theorem Ru.lif_lt (C : Ru l Z own code maxL ret nm R n0 G W) {o : Int} {x y : Int64} {pi pt : Nat} (hd : decode code pc = .ok (.lcmp, 1)) (hi : pc + 1 = pi) (hd2 : decode code pi = .ok (.ifCond .lt o, 3)) (hp : pi + 3 = pc') (ht : (pi : Int) + o = (pt : Int)) (q1 : x < y → W h k n pt Ls rest) (q2 : ¬ x < y → W h k n pc' Ls rest) : W h k n pc Ls (.long y :: .long x :: rest) :=
  C.lcmp hd hi (C.if_lt hd2 hp ht (fun q => q1 (by simpa only [cmpL_eq, cmpL_lt, cmpL_gt] using q)) (fun q => q2 (by simpa only [cmpL_eq, cmpL_lt, cmpL_gt] using q)))
theorem Ru.if_ge (C : Ru l Z own code maxL ret nm R n0 G W) {o : Int} {x : Int32} {pt : Nat} (hd : decode code pc = .ok (.ifCond .ge o, 3)) (hp : pc + 3 = pc') (ht : (pc : Int) + o = (pt : Int)) (q1 : ¬ x < 0 → W h k n pt Ls rest) (q2 : x < 0 → W h k n pc' Ls rest) : W h k n pc Ls (.int x :: rest) :=
  C.ifAny hd hp ht (fun q => q1 (by simpa [ifCond.holds] using q)) (fun q => q2 (by simpa [ifCond.holds] using q))
theorem Ru.icmp_ge (C : Ru l Z own code maxL ret nm R n0 G W) {o : Int} {x y : Int32} {pt : Nat} (hd : decode code pc = .ok (.if_icmp .ge o, 3)) (hp : pc + 3 = pc') (ht : (pc : Int) + o = (pt : Int)) (q1 : ¬ x < y → W h k n pt Ls rest) (q2 : x < y → W h k n pc' Ls rest) : W h k n pc Ls (.int y :: .int x :: rest) :=
  C.icmpAny hd hp ht (fun q => q1 (by simpa [if_icmp.holds] using q)) (fun q => q2 (by simpa [if_icmp.holds] using q))
theorem Ru.lif_ge (C : Ru l Z own code maxL ret nm R n0 G W) {o : Int} {x y : Int64} {pi pt : Nat} (hd : decode code pc = .ok (.lcmp, 1)) (hi : pc + 1 = pi) (hd2 : decode code pi = .ok (.ifCond .ge o, 3)) (hp : pi + 3 = pc') (ht : (pi : Int) + o = (pt : Int)) (q1 : ¬ x < y → W h k n pt Ls rest) (q2 : x < y → W h k n pc' Ls rest) : W h k n pc Ls (.long y :: .long x :: rest) :=
  C.lcmp hd hi (C.if_ge hd2 hp ht (fun q => q1 (by simpa only [cmpL_eq, cmpL_lt, cmpL_gt] using q)) (fun q => q2 (by simpa only [cmpL_eq, cmpL_lt, cmpL_gt] using q)))
theorem Ru.if_gt (C : Ru l Z own code maxL ret nm R n0 G W) {o : Int} {x : Int32} {pt : Nat} (hd : decode code pc = .ok (.ifCond .gt o, 3)) (hp : pc + 3 = pc') (ht : (pc : Int) + o = (pt : Int)) (q1 : 0 < x → W h k n pt Ls rest) (q2 : ¬ 0 < x → W h k n pc' Ls rest) : W h k n pc Ls (.int x :: rest) :=
  C.ifAny hd hp ht (fun q => q1 (by simpa [ifCond.holds] using q)) (fun q => q2 (by simpa [ifCond.holds] using q))
theorem Ru.icmp_gt (C : Ru l Z own code maxL ret nm R n0 G W) {o : Int} {x y : Int32} {pt : Nat} (hd : decode code pc = .ok (.if_icmp .gt o, 3)) (hp : pc + 3 = pc') (ht : (pc : Int) + o = (pt : Int)) (q1 : y < x → W h k n pt Ls rest) (q2 : ¬ y < x → W h k n pc' Ls rest) : W h k n pc Ls (.int y :: .int x :: rest) :=
  C.icmpAny hd hp ht (fun q => q1 (by simpa [if_icmp.holds] using q)) (fun q => q2 (by simpa [if_icmp.holds] using q))
theorem Ru.lif_gt (C : Ru l Z own code maxL ret nm R n0 G W) {o : Int} {x y : Int64} {pi pt : Nat} (hd : decode code pc = .ok (.lcmp, 1)) (hi : pc + 1 = pi) (hd2 : decode code pi = .ok (.ifCond .gt o, 3)) (hp : pi + 3 = pc') (ht : (pi : Int) + o = (pt : Int)) (q1 : y < x → W h k n pt Ls rest) (q2 : ¬ y < x → W h k n pc' Ls rest) : W h k n pc Ls (.long y :: .long x :: rest) :=
  C.lcmp hd hi (C.if_gt hd2 hp ht (fun q => q1 (by simpa only [cmpL_eq, cmpL_lt, cmpL_gt] using q)) (fun q => q2 (by simpa only [cmpL_eq, cmpL_lt, cmpL_gt] using q)))
theorem Ru.if_le (C : Ru l Z own code maxL ret nm R n0 G W) {o : Int} {x : Int32} {pt : Nat} (hd : decode code pc = .ok (.ifCond .le o, 3)) (hp : pc + 3 = pc') (ht : (pc : Int) + o = (pt : Int)) (q1 : ¬ 0 < x → W h k n pt Ls rest) (q2 : 0 < x → W h k n pc' Ls rest) : W h k n pc Ls (.int x :: rest) :=
  C.ifAny hd hp ht (fun q => q1 (by simpa [ifCond.holds] using q)) (fun q => q2 (by simpa [ifCond.holds] using q))
theorem Ru.icmp_le (C : Ru l Z own code maxL ret nm R n0 G W) {o : Int} {x y : Int32} {pt : Nat} (hd : decode code pc = .ok (.if_icmp .le o, 3)) (hp : pc + 3 = pc') (ht : (pc : Int) + o = (pt : Int)) (q1 : ¬ y < x → W h k n pt Ls rest) (q2 : y < x → W h k n pc' Ls rest) : W h k n pc Ls (.int y :: .int x :: rest) :=
  C.icmpAny hd hp ht (fun q => q1 (by simpa [if_icmp.holds] using q)) (fun q => q2 (by simpa [if_icmp.holds] using q))
theorem Ru.lif_le (C : Ru l Z own code maxL ret nm R n0 G W) {o : Int} {x y : Int64} {pi pt : Nat} (hd : decode code pc = .ok (.lcmp, 1)) (hi : pc + 1 = pi) (hd2 : decode code pi = .ok (.ifCond .le o, 3)) (hp : pi + 3 = pc') (ht : (pi : Int) + o = (pt : Int)) (q1 : ¬ y < x → W h k n pt Ls rest) (q2 : y < x → W h k n pc' Ls rest) : W h k n pc Ls (.long y :: .long x :: rest) :=
  C.lcmp hd hi (C.if_le hd2 hp ht (fun q => q1 (by simpa only [cmpL_eq, cmpL_lt, cmpL_gt] using q)) (fun q => q2 (by simpa only [cmpL_eq, cmpL_lt, cmpL_gt] using q)))
theorem Ru.ifnullYes (C : Ru l Z own code maxL ret nm R n0 G W) {o : Int}  (hd : decode code pc = .ok (.ifnull o, 3)) (hp : (pc : Int) + o = (pc' : Int)) (q : W h k n pc' Ls rest) : W h k n pc Ls (.null :: rest) := by
  obtain ⟨p, e, s, m, args, below, meth, c, ⟨hx, hby, hml, hown, hZ, hre, hlk, hnm⟩, rfl⟩ := C
  intro T locs k' n' q1 q2 X eT N
  obtain ⟨s2, o2, st2, r⟩ := q T locs k' n' q1 q2 X eT N
  exact ⟨s2, o2, XS.ifnullYes X.here hx rfl (pc0 := pc) (pc' := pc') rfl (hb hby hd) rfl (by omega) (by omega) st2, r⟩
theorem Ru.ifnullNo (C : Ru l Z own code maxL ret nm R n0 G W) {o : Int} {b : Addr} (hd : decode code pc = .ok (.ifnull o, 3)) (hp : pc + 3 = pc') (q : W h k n pc' Ls rest) : W h k n pc Ls (.ref b :: rest) := by
  obtain ⟨p, e, s, m, args, below, meth, c, ⟨hx, hby, hml, hown, hZ, hre, hlk, hnm⟩, rfl⟩ := C
  subst hp
  intro T locs k' n' q1 q2 X eT N
  obtain ⟨s2, o2, st2, r⟩ := q T locs k' n' q1 q2 X eT N
  exact ⟨s2, o2, XS.ifnullNo X.here hx rfl (hb hby hd) rfl st2, r⟩
theorem Ru.ifnonnullYes (C : Ru l Z own code maxL ret nm R n0 G W) {o : Int} {b : Addr} (hd : decode code pc = .ok (.ifnonnull o, 3)) (hp : (pc : Int) + o = (pc' : Int)) (q : W h k n pc' Ls rest) : W h k n pc Ls (.ref b :: rest) := by
  obtain ⟨p, e, s, m, args, below, meth, c, ⟨hx, hby, hml, hown, hZ, hre, hlk, hnm⟩, rfl⟩ := C
  intro T locs k' n' q1 q2 X eT N
  obtain ⟨s2, o2, st2, r⟩ := q T locs k' n' q1 q2 X eT N
  exact ⟨s2, o2, XT.ifnonnullYes X.here hx rfl (pc0 := pc) (pc' := pc') rfl (hb hby hd) rfl (by omega) (by omega) st2, r⟩
theorem Ru.ifnonnullNo (C : Ru l Z own code maxL ret nm R n0 G W) {o : Int}  (hd : decode code pc = .ok (.ifnonnull o, 3)) (hp : pc + 3 = pc') (q : W h k n pc' Ls rest) : W h k n pc Ls (.null :: rest) := by
  obtain ⟨p, e, s, m, args, below, meth, c, ⟨hx, hby, hml, hown, hZ, hre, hlk, hnm⟩, rfl⟩ := C
  subst hp
  intro T locs k' n' q1 q2 X eT N
  obtain ⟨s2, o2, st2, r⟩ := q T locs k' n' q1 q2 X eT N
  exact ⟨s2, o2, XT.ifnonnullNo X.here hx rfl (hb hby hd) rfl st2, r⟩
theorem lrem_eq (x y : Int64) : x - (x / y) * y = x % y := lrem_mod x y
theorem Ru.lrem (C : Ru l Z own code maxL ret nm R n0 G W) {x y : Int64} (hd : decode code pc = .ok (.lrem, 1)) (hp : pc + 1 = pc') (hy : y ≠ 0) (q : W h k n pc' Ls (.long (x % y) :: rest)) : W h k n pc Ls (.long y :: .long x :: rest) := by
  obtain ⟨p, e, s, m, args, below, meth, c, ⟨hx, hby, hml, hown, hZ, hre, hlk, hnm⟩, rfl⟩ := C
  subst hp
  intro T locs k' n' q1 q2 X eT N
  obtain ⟨s2, o, st2, r⟩ := q T locs k' n' q1 q2 X eT N
  exact ⟨s2, o, XT.lrem X.here hx rfl (hb hby hd) rfl hy (by rw [lrem_mod]; exact st2), r⟩
theorem Ru.ldcI (C : Ru l Z own code maxL ret nm R n0 G W) {a0 : Array Value} {i : Nat} {v : Int32} (w : (Cond.constant own i v).before a0 Z = true) (hd : decode code pc = .ok (.ldc i, 2)) (hp : pc + 2 = pc') (q : W h k n pc' Ls (.int v :: st)) : W h k n pc Ls st := by
  obtain ⟨p, e, s, m, args, below, meth, c, ⟨hx, hby, hml, hown, hZ, hre, hlk, hnm⟩, rfl⟩ := C
  subst hp
  intro T locs k' n' q1 q2 X eT N
  obtain ⟨s2, o, st2, r⟩ := q T locs k' n' q1 q2 X eT N
  exact ⟨s2, o, X.ldcInt hx hown (mvT hZ w) (g := mkF m pc Ls st) rfl (hb hby hd) _ st2, r⟩
theorem Ru.ldcJ (C : Ru l Z own code maxL ret nm R n0 G W) {a0 : Array Value} {i : Nat} {v : Int64} (w : (Cond.constantLong own i v).before a0 Z = true) (hd : decode code pc = .ok (.ldc2_w i, 3)) (hp : pc + 3 = pc') (q : W h k n pc' Ls (.long v :: st)) : W h k n pc Ls st := by
  obtain ⟨p, e, s, m, args, below, meth, c, ⟨hx, hby, hml, hown, hZ, hre, hlk, hnm⟩, rfl⟩ := C
  subst hp
  intro T locs k' n' q1 q2 X eT N
  obtain ⟨s2, o, st2, r⟩ := q T locs k' n' q1 q2 X eT N
  exact ⟨s2, o, X.ldc2Long hx hown (mvT hZ w) (g := mkF m pc Ls st) rfl (hb hby hd) _ st2, r⟩
/-! the heap -/
theorem Ru.getf (C : Ru l Z own code maxL ret nm R n0 G W) {a0 : Array Value} {R0 O f d : String} {i : Nat} {a : Addr} {v : Value} (w : (Cond.fieldLink own i R0 f d).before a0 Z = true) (via : Via Z R0 O f d) (F : Fld Z h a O f d v) (hd : decode code pc = .ok (.getfield i, 3)) (hp : pc + 3 = pc') (q : W h k n pc' Ls (v :: rest)) : W h k n pc Ls (.ref a :: rest) := by
  obtain ⟨p, e, s, m, args, below, meth, c, ⟨hx, hby, hml, hown, hZ, hre, hlk, hnm⟩, rfl⟩ := C
  subst hp
  intro T locs k' n' q1 q2 X eT N
  obtain ⟨T', X', e', st'⟩ := getF X hx hZ hown (host := "") (Or.inl w) via eT F (g := mkF m pc Ls (.ref a :: rest)) rfl rfl (hb hby hd)
  obtain ⟨s2, o, st2, r⟩ := q T' locs k' n' q1 q2 X' e' N
  exact ⟨s2, o, st' _ st2, r⟩
theorem Ru.gets (C : Ru l Z own code maxL ret nm R n0 G W) {a0 : Array Value} {R0 O f d : String} {i : Nat} {v : Value} (w : (Cond.fieldLink own i R0 f d).before a0 Z = true) (via : Via Z R0 O f d) (F : Sta Z h O f d v) (hd : decode code pc = .ok (.getstatic i, 3)) (hp : pc + 3 = pc') (q : W h k n pc' Ls (v :: st)) : W h k n pc Ls st := by
  obtain ⟨p, e, s, m, args, below, meth, c, ⟨hx, hby, hml, hown, hZ, hre, hlk, hnm⟩, rfl⟩ := C
  subst hp
  intro T locs k' n' q1 q2 X eT N
  obtain ⟨T', X', e', st'⟩ := getS X hx hZ (host := "") hown w via eT F (g := mkF m pc Ls st) rfl (hb hby hd)
  obtain ⟨s2, o, st2, r⟩ := q T' locs k' n' q1 q2 X' e' N
  exact ⟨s2, o, st' _ st2, r⟩
theorem Ru.putf (C : Ru l Z own code maxL ret nm R n0 G W) {a0 : Array Value} {R0 O f d D : String} {i kk : Nat} {ty : FieldType} {a : Addr} {v old : Value} (w : (Cond.fieldLink own i R0 f d).before a0 Z = true) (via : Via Z R0 O f d) (F : Fld Z h a O f d old) (E : Exa Z h a D)
    (L : (Cond.lays D O f d).before a0 Z = true ∨ ((Cond.laysFinal D O f d).before a0 Z = true ∧ own = O ∧ nm = "<init>")) (wi : (Cond.instantiable D kk).before a0 Z = true) (hty : parseFieldDescriptor d = some ty) (hn : narrow ty v = v) (hf : fits ty v = true) (hg : n0 ≤ a)
    (hd : decode code pc = .ok (.putfield i, 3)) (hp : pc + 3 = pc') (q : ∀ h', Wr h h' a (Jvm.RoadKit.slotOf Z O f d) v → W h' k n pc' Ls rest) : W h k n pc Ls (v :: .ref a :: rest) := by
  obtain ⟨p, e, s, m, args, below, meth, c, ⟨hx, hby, hml, hown, hZ, hre, hlk, hnm⟩, rfl⟩ := C
  subst hp
  intro T locs k' n' q1 q2 X eT N
  obtain ⟨T', h', X', e', W', st'⟩ := putF X hx hZ hown (host := "") (Or.inl w) via eT F E (L.imp id fun u => ⟨u.1, u.2.1, hnm.trans u.2.2⟩) wi hty hn hf (g := mkF m pc Ls (v :: .ref a :: rest)) rfl rfl (hb hby hd)
  obtain ⟨s2, o, st2, r⟩ := q h' W' T' _ k' n' q1 q2 X' e' (Fr.snoc X' N hg)
  exact ⟨s2, o, st' _ st2, r⟩
theorem Ru.putfN (C : Ru l Z own code maxL ret nm R n0 G W) {a0 : Array Value} {R0 O f d D : String} {i kk : Nat} {ty : FieldType} {a : Addr} {v v' old : Value} (w : (Cond.fieldLink own i R0 f d).before a0 Z = true) (via : Via Z R0 O f d) (F : Fld Z h a O f d old) (E : Exa Z h a D)
    (L : (Cond.lays D O f d).before a0 Z = true ∨ ((Cond.laysFinal D O f d).before a0 Z = true ∧ own = O ∧ nm = "<init>")) (wi : (Cond.instantiable D kk).before a0 Z = true) (hty : parseFieldDescriptor d = some ty) (hn : narrow ty v = v') (hf : fits ty v' = true) (hg : n0 ≤ a)
    (hd : decode code pc = .ok (.putfield i, 3)) (hp : pc + 3 = pc') (q : ∀ h', Wr h h' a (Jvm.RoadKit.slotOf Z O f d) v' → W h' k n pc' Ls rest) : W h k n pc Ls (v :: .ref a :: rest) := by
  obtain ⟨p, e, s, m, args, below, meth, c, ⟨hx, hby, hml, hown, hZ, hre, hlk, hnm⟩, rfl⟩ := C
  subst hp
  intro T locs k' n' q1 q2 X eT N
  obtain ⟨T', h', X', e', W', st'⟩ := putFN X hx hZ hown w via eT F E (L.imp id fun u => ⟨u.1, u.2.1, hnm.trans u.2.2⟩) wi hty hn hf (g := mkF m pc Ls (v :: .ref a :: rest)) rfl rfl (hb hby hd)
  obtain ⟨s2, o, st2, r⟩ := q h' W' T' _ k' n' q1 q2 X' e' (Fr.snoc X' N hg)
  exact ⟨s2, o, st' _ st2, r⟩
theorem Ru.new (C : Ru l Z own code maxL ret nm R n0 G W) {a0 : Array Value} {D : String} {i sl : Nat} (w : (Cond.classLink own i D).before a0 Z = true) (wi : (Cond.instantiable D sl).before a0 Z = true) (wz : (Cond.initialized D).before a0 Z = true)
    (hd : decode code pc = .ok (.new i, 3)) (hp : pc + 3 = pc') (hk : k + 1 ≤ R.cells) (hn : n + sl ≤ R.slots)
    (q : ∀ h' b, b = h.size → Ext h h' → Exa Z h' b D → (∀ {O nm d : String} {ty : FieldType}, Laid Z a0 D O nm d → parseFieldDescriptor d = some ty → Fld Z h' b O nm d (defaultValue ty)) → W h' (k + 1) (n + sl) pc' Ls (.ref b :: st)) : W h k n pc Ls st := by
  obtain ⟨p, e, s, m, args, below, meth, c, ⟨hx, hby, hml, hown, hZ, hre, hlk, hnm⟩, rfl⟩ := C
  subst hp
  intro T locs k' n' q1 q2 X eT N
  obtain ⟨T', h', X', e', E', A', D', -, st'⟩ := newO X hx hZ hown w wi wz eT (g := mkF m pc Ls st) rfl (hb hby hd) (by omega) (by omega)
  obtain ⟨s2, o, st2, r⟩ := q h' _ rfl E' A' D' T' locs (k' + 1) (n' + sl) (by omega) (by omega) X' e' N
  exact ⟨s2, o, st' _ st2, r⟩
/-- an int array with just these elements -/
def AI (Z : State) (h : Heap) (a : Addr) (vs : List Int32) : Prop := ∃ c : Cell, Arr Z h a c .int ∧ c.slots = (vs.map Value.int).toArray ∧ vs.length < 2 ^ 31
def AJ (Z : State) (h : Heap) (a : Addr) (vs : List Int64) : Prop := ∃ c : Cell, Arr Z h a c .long ∧ c.slots = (vs.map Value.long).toArray ∧ vs.length < 2 ^ 31
/-- a byte array of this length -/
def AB (Z : State) (h : Heap) (a : Addr) (z : Nat) : Prop := ∃ c : Cell, Arr Z h a c .byte ∧ c.slots.size = z ∧ z < 2 ^ 31
theorem AI.lt {Z : State} {h : Heap} {a : Addr} {vs : List Int32} (F : AI Z h a vs) : a < h.size := by obtain ⟨c, A, -⟩ := F; exact A.lt
theorem AI.ext {Z : State} {h h' : Heap} {a : Addr} {vs : List Int32} (F : AI Z h a vs) (E : Ext h h') : AI Z h' a vs := by obtain ⟨c, A, r⟩ := F; exact ⟨c, A.ext E, r⟩
theorem AI.other {Z : State} {h h' : Heap} {a b : Addr} {sl : Nat} {v : Value} {vs : List Int32} (F : AI Z h b vs) (W : Wr h h' a sl v) (q : b ≠ a) : AI Z h' b vs := by obtain ⟨c, A, r⟩ := F; exact ⟨c, A.other W q, r⟩
theorem AI.keep {Z : State} {h h' : Heap} {a : Addr} {ws : List Addr} {vs : List Int32} (F : AI Z h a vs) (K : Keep h h' ws) (q : a ∉ ws) : AI Z h' a vs := by obtain ⟨c, A, r⟩ := F; exact ⟨c, ⟨K.2.1 a c A.1 q, A.2⟩, r⟩
theorem AI.set {Z : State} {h h' : Heap} {a : Addr} {j : Nat} {v : Int32} {vs : List Int32} (F : AI Z h a vs) (W : Wr h h' a j (.int v)) : AI Z h' a (vs.set j v) := by
  obtain ⟨c, A, e, r⟩ := F
  refine ⟨_, A.same W, ?_, by rw [List.length_set]; exact r⟩
  have q : (c.setSlot j (.int v)).slots = c.slots.setIfInBounds j (.int v) := rfl
  rw [q, e]
  apply Array.ext'
  simp [List.map_set]
theorem Ru.newAI (C : Ru l Z own code maxL ret nm R n0 G W) {a0 : Array Value} {z : Int32} {N cap : Nat} (w : (Cond.arrayClass .int).before a0 Z = true) (hd : decode code pc = .ok (.newarray .int, 2)) (hp : pc + 2 = pc') (hz : z.toInt = (N : Int)) (hcap : N ≤ cap) (hb8 : cap * 8 ≤ 536870912) (hk : k + 1 ≤ R.cells) (hn : n + cap ≤ R.slots)
    (q : ∀ h' b, b = h.size → Ext h h' → AI Z h' b (List.replicate N 0) → W h' (k + 1) (n + cap) pc' Ls (.ref b :: rest)) : W h k n pc Ls (.int z :: rest) := by
  obtain ⟨p, e, s, m, args, below, meth, c, ⟨hx, hby, hml, hown, hZ, hre, hlk, hnm⟩, rfl⟩ := C
  subst hp
  intro T locs k' n' q1 q2 X eT Nf
  have hnn : ¬ z < 0 := by rw [Int32.lt_iff_toInt_lt]; show ¬ z.toInt < 0; omega
  have hzn : z.toNatClampNeg = N := by show z.toInt.toNat = N; omega
  have hlt : N < 2 ^ 31 := by have := (rng32 z).2; omega
  obtain ⟨T', h', cA, X', e', E', A', st'⟩ := newP X hx hZ (aty := .int) w eT (g := mkF m pc Ls (.int z :: rest)) rfl (hb hby hd) rfl hnn (cap := cap) (by omega) hb8 (by omega) (by omega)
  have F : AI Z h' h.size (List.replicate N 0) := by
    refine ⟨_, A', ?_, by rw [List.length_replicate]; exact hlt⟩
    simp only [newA, hzn]
    apply Array.ext'
    simp [defaultValue, newarray.typeOf]
  obtain ⟨s2, o, st2, r⟩ := q h' _ rfl E' F T' locs (k' + 1) (n' + cap) (by omega) (by omega) X' e' Nf
  exact ⟨s2, o, st' _ st2, r⟩
theorem Ru.ldAI (C : Ru l Z own code maxL ret nm R n0 G W) {a : Addr} {j : Int32} {i : Nat} {v : Int32} {vs : List Int32} (F : AI Z h a vs) (hj : j.toInt = (i : Int)) (hv : vs[i]? = some v) (hd : decode code pc = .ok (.iaload, 1)) (hp : pc + 1 = pc') (q : W h k n pc' Ls (.int v :: rest)) : W h k n pc Ls (.int j :: .ref a :: rest) := by
  obtain ⟨p, e, s, m, args, below, meth, c, ⟨hx, hby, hml, hown, hZ, hre, hlk, hnm⟩, rfl⟩ := C
  subst hp
  intro T locs k' n' q1 q2 X eT N
  obtain ⟨cl, A, es, hl⟩ := F
  have hjn : j.toNatClampNeg = i := by show j.toInt.toNat = i; omega
  have hlt : i < vs.length := (List.getElem?_eq_some_iff.mp hv).1
  have hin : ¬ (j < 0 ∨ cl.slots.size ≤ j.toNatClampNeg) := by
    rw [Int32.lt_iff_toInt_lt, es, hjn]
    simp only [List.size_toArray, List.length_map]
    show ¬ (j.toInt < 0 ∨ _); omega
  have hat : cl.slots[j.toNatClampNeg]? = some (.int v) := by rw [es, hjn]; simp [hv]
  obtain ⟨s2, o, st2, r⟩ := q T locs k' n' q1 q2 X eT N
  exact ⟨s2, o, X.iaload hx (by rw [eT]; exact A.1) (State.isArrayOf_alike hZ.alike A.2.1) A.2.2 hin hat (g := mkF m pc Ls (.int j :: .ref a :: rest)) rfl rfl (hb hby hd) _ st2, r⟩
theorem Ru.stAI (C : Ru l Z own code maxL ret nm R n0 G W) {a : Addr} {j : Int32} {i : Nat} {v : Int32} {vs : List Int32} (F : AI Z h a vs) (hj : j.toInt = (i : Int)) (hlt : i < vs.length) (hg : n0 ≤ a) (hd : decode code pc = .ok (.iastore, 1)) (hp : pc + 1 = pc') (q : ∀ h', Wr h h' a i (.int v) → AI Z h' a (vs.set i v) → W h' k n pc' Ls rest) : W h k n pc Ls (.int v :: .int j :: .ref a :: rest) := by
  obtain ⟨p, e, s, m, args, below, meth, c, ⟨hx, hby, hml, hown, hZ, hre, hlk, hnm⟩, rfl⟩ := C
  subst hp
  intro T locs k' n' q1 q2 X eT N
  have F0 := F
  obtain ⟨cl, A, es, hl⟩ := F
  have hjn : j.toNatClampNeg = i := by show j.toInt.toNat = i; omega
  have hin : ¬ (j < 0 ∨ cl.slots.size ≤ j.toNatClampNeg) := by
    rw [Int32.lt_iff_toInt_lt, es, hjn]
    simp only [List.size_toArray, List.length_map]
    show ¬ (j.toInt < 0 ∨ _); omega
  obtain ⟨T', h', X', e', W', st'⟩ := stI X hx hZ eT A (j := j) hin (g := mkF m pc Ls (.int v :: .int j :: .ref a :: rest)) rfl rfl (hb hby hd)
  rw [hjn] at W'
  obtain ⟨s2, o, st2, r⟩ := q h' W' (F0.set W') T' _ k' n' q1 q2 X' e' (Fr.snoc X' N hg)
  exact ⟨s2, o, st' _ st2, r⟩
theorem Ru.lenAI (C : Ru l Z own code maxL ret nm R n0 G W) {a : Addr} {vs : List Int32} {z : Int32} (F : AI Z h a vs) (hz : z.toInt = (vs.length : Int)) (hd : decode code pc = .ok (.arraylength, 1)) (hp : pc + 1 = pc') (q : W h k n pc' Ls (.int z :: rest)) : W h k n pc Ls (.ref a :: rest) := by
  obtain ⟨p, e, s, m, args, below, meth, c, ⟨hx, hby, hml, hown, hZ, hre, hlk, hnm⟩, rfl⟩ := C
  subst hp
  intro T locs k' n' q1 q2 X eT N
  obtain ⟨cl, A, es, hl⟩ := F
  have e1 : cl.slots.size.toInt32 = z := by
    apply Int32.toInt_inj.mp
    rw [es, hz]
    simp only [List.size_toArray, List.length_map]
    exact len_toInt hl
  obtain ⟨s2, o, st2, r⟩ := q T locs k' n' q1 q2 X eT N
  exact ⟨s2, o, X.arraylength hx (by rw [eT]; exact A.1) (State.isArrayOf_alike hZ.alike A.2.1) (g := mkF m pc Ls (.ref a :: rest)) rfl rfl (hb hby hd) _ (by rw [e1]; exact st2), r⟩
theorem AJ.lt {Z : State} {h : Heap} {a : Addr} {vs : List Int64} (F : AJ Z h a vs) : a < h.size := by obtain ⟨c, A, -⟩ := F; exact A.lt
theorem AJ.ext {Z : State} {h h' : Heap} {a : Addr} {vs : List Int64} (F : AJ Z h a vs) (E : Ext h h') : AJ Z h' a vs := by obtain ⟨c, A, r⟩ := F; exact ⟨c, A.ext E, r⟩
theorem AJ.other {Z : State} {h h' : Heap} {a b : Addr} {sl : Nat} {v : Value} {vs : List Int64} (F : AJ Z h b vs) (W : Wr h h' a sl v) (q : b ≠ a) : AJ Z h' b vs := by obtain ⟨c, A, r⟩ := F; exact ⟨c, A.other W q, r⟩
theorem AJ.keep {Z : State} {h h' : Heap} {a : Addr} {ws : List Addr} {vs : List Int64} (F : AJ Z h a vs) (K : Keep h h' ws) (q : a ∉ ws) : AJ Z h' a vs := by obtain ⟨c, A, r⟩ := F; exact ⟨c, ⟨K.2.1 a c A.1 q, A.2⟩, r⟩
theorem AJ.set {Z : State} {h h' : Heap} {a : Addr} {j : Nat} {v : Int64} {vs : List Int64} (F : AJ Z h a vs) (W : Wr h h' a j (.long v)) : AJ Z h' a (vs.set j v) := by
  obtain ⟨c, A, e, r⟩ := F
  refine ⟨_, A.same W, ?_, by rw [List.length_set]; exact r⟩
  have q : (c.setSlot j (.long v)).slots = c.slots.setIfInBounds j (.long v) := rfl
  rw [q, e]
  apply Array.ext'
  simp [List.map_set]
theorem Ru.newAJ (C : Ru l Z own code maxL ret nm R n0 G W) {a0 : Array Value} {z : Int32} {N cap : Nat} (w : (Cond.arrayClass .long).before a0 Z = true) (hd : decode code pc = .ok (.newarray .long, 2)) (hp : pc + 2 = pc') (hz : z.toInt = (N : Int)) (hcap : N ≤ cap) (hb8 : cap * 8 ≤ 536870912) (hk : k + 1 ≤ R.cells) (hn : n + cap ≤ R.slots)
    (q : ∀ h' b, b = h.size → Ext h h' → AJ Z h' b (List.replicate N 0) → W h' (k + 1) (n + cap) pc' Ls (.ref b :: rest)) : W h k n pc Ls (.int z :: rest) := by
  obtain ⟨p, e, s, m, args, below, meth, c, ⟨hx, hby, hml, hown, hZ, hre, hlk, hnm⟩, rfl⟩ := C
  subst hp
  intro T locs k' n' q1 q2 X eT Nf
  have hnn : ¬ z < 0 := by rw [Int32.lt_iff_toInt_lt]; show ¬ z.toInt < 0; omega
  have hzn : z.toNatClampNeg = N := by show z.toInt.toNat = N; omega
  have hlt : N < 2 ^ 31 := by have := (rng32 z).2; omega
  obtain ⟨T', h', cA, X', e', E', A', st'⟩ := newP X hx hZ (aty := .long) w eT (g := mkF m pc Ls (.int z :: rest)) rfl (hb hby hd) rfl hnn (cap := cap) (by omega) hb8 (by omega) (by omega)
  have F : AJ Z h' h.size (List.replicate N 0) := by
    refine ⟨_, A', ?_, by rw [List.length_replicate]; exact hlt⟩
    simp only [newA, hzn]
    apply Array.ext'
    simp [defaultValue, newarray.typeOf]
  obtain ⟨s2, o, st2, r⟩ := q h' _ rfl E' F T' locs (k' + 1) (n' + cap) (by omega) (by omega) X' e' Nf
  exact ⟨s2, o, st' _ st2, r⟩
theorem Ru.ldAJ (C : Ru l Z own code maxL ret nm R n0 G W) {a : Addr} {j : Int32} {i : Nat} {v : Int64} {vs : List Int64} (F : AJ Z h a vs) (hj : j.toInt = (i : Int)) (hv : vs[i]? = some v) (hd : decode code pc = .ok (.laload, 1)) (hp : pc + 1 = pc') (q : W h k n pc' Ls (.long v :: rest)) : W h k n pc Ls (.int j :: .ref a :: rest) := by
  obtain ⟨p, e, s, m, args, below, meth, c, ⟨hx, hby, hml, hown, hZ, hre, hlk, hnm⟩, rfl⟩ := C
  subst hp
  intro T locs k' n' q1 q2 X eT N
  obtain ⟨cl, A, es, hl⟩ := F
  have hjn : j.toNatClampNeg = i := by show j.toInt.toNat = i; omega
  have hlt : i < vs.length := (List.getElem?_eq_some_iff.mp hv).1
  have hin : ¬ (j < 0 ∨ cl.slots.size ≤ j.toNatClampNeg) := by
    rw [Int32.lt_iff_toInt_lt, es, hjn]
    simp only [List.size_toArray, List.length_map]
    show ¬ (j.toInt < 0 ∨ _); omega
  have hat : cl.slots[j.toNatClampNeg]? = some (.long v) := by rw [es, hjn]; simp [hv]
  obtain ⟨s2, o, st2, r⟩ := q T locs k' n' q1 q2 X eT N
  exact ⟨s2, o, X.laload hx (by rw [eT]; exact A.1) (State.isArrayOf_alike hZ.alike A.2.1) A.2.2 hin hat (g := mkF m pc Ls (.int j :: .ref a :: rest)) rfl rfl (hb hby hd) _ st2, r⟩
theorem Ru.stAJ (C : Ru l Z own code maxL ret nm R n0 G W) {a : Addr} {j : Int32} {i : Nat} {v : Int64} {vs : List Int64} (F : AJ Z h a vs) (hj : j.toInt = (i : Int)) (hlt : i < vs.length) (hg : n0 ≤ a) (hd : decode code pc = .ok (.lastore, 1)) (hp : pc + 1 = pc') (q : ∀ h', Wr h h' a i (.long v) → AJ Z h' a (vs.set i v) → W h' k n pc' Ls rest) : W h k n pc Ls (.long v :: .int j :: .ref a :: rest) := by
  obtain ⟨p, e, s, m, args, below, meth, c, ⟨hx, hby, hml, hown, hZ, hre, hlk, hnm⟩, rfl⟩ := C
  subst hp
  intro T locs k' n' q1 q2 X eT N
  have F0 := F
  obtain ⟨cl, A, es, hl⟩ := F
  have hjn : j.toNatClampNeg = i := by show j.toInt.toNat = i; omega
  have hin : ¬ (j < 0 ∨ cl.slots.size ≤ j.toNatClampNeg) := by
    rw [Int32.lt_iff_toInt_lt, es, hjn]
    simp only [List.size_toArray, List.length_map]
    show ¬ (j.toInt < 0 ∨ _); omega
  obtain ⟨T', h', X', e', W', st'⟩ := stJ X hx hZ eT A (j := j) hin (g := mkF m pc Ls (.long v :: .int j :: .ref a :: rest)) rfl rfl (hb hby hd)
  rw [hjn] at W'
  obtain ⟨s2, o, st2, r⟩ := q h' W' (F0.set W') T' _ k' n' q1 q2 X' e' (Fr.snoc X' N hg)
  exact ⟨s2, o, st' _ st2, r⟩
theorem Ru.lenAJ (C : Ru l Z own code maxL ret nm R n0 G W) {a : Addr} {vs : List Int64} {z : Int32} (F : AJ Z h a vs) (hz : z.toInt = (vs.length : Int)) (hd : decode code pc = .ok (.arraylength, 1)) (hp : pc + 1 = pc') (q : W h k n pc' Ls (.int z :: rest)) : W h k n pc Ls (.ref a :: rest) := by
  obtain ⟨p, e, s, m, args, below, meth, c, ⟨hx, hby, hml, hown, hZ, hre, hlk, hnm⟩, rfl⟩ := C
  subst hp
  intro T locs k' n' q1 q2 X eT N
  obtain ⟨cl, A, es, hl⟩ := F
  have e1 : cl.slots.size.toInt32 = z := by
    apply Int32.toInt_inj.mp
    rw [es, hz]
    simp only [List.size_toArray, List.length_map]
    exact len_toInt hl
  obtain ⟨s2, o, st2, r⟩ := q T locs k' n' q1 q2 X eT N
  exact ⟨s2, o, X.arraylength hx (by rw [eT]; exact A.1) (State.isArrayOf_alike hZ.alike A.2.1) (g := mkF m pc Ls (.ref a :: rest)) rfl rfl (hb hby hd) _ (by rw [e1]; exact st2), r⟩
theorem AB.lt {Z : State} {h : Heap} {a : Addr} {z : Nat} (F : AB Z h a z) : a < h.size := by obtain ⟨c, A, -⟩ := F; exact A.lt
theorem AB.ext {Z : State} {h h' : Heap} {a : Addr} {z : Nat} (F : AB Z h a z) (E : Ext h h') : AB Z h' a z := by obtain ⟨c, A, r⟩ := F; exact ⟨c, A.ext E, r⟩
theorem AB.other {Z : State} {h h' : Heap} {a b : Addr} {sl : Nat} {v : Value} {z : Nat} (F : AB Z h b z) (W : Wr h h' a sl v) (q : b ≠ a) : AB Z h' b z := by obtain ⟨c, A, r⟩ := F; exact ⟨c, A.other W q, r⟩
theorem AB.keep {Z : State} {h h' : Heap} {a : Addr} {ws : List Addr} {z : Nat} (F : AB Z h a z) (K : Keep h h' ws) (q : a ∉ ws) : AB Z h' a z := by obtain ⟨c, A, r⟩ := F; exact ⟨c, ⟨K.2.1 a c A.1 q, A.2⟩, r⟩
theorem Ru.newAB (C : Ru l Z own code maxL ret nm R n0 G W) {a0 : Array Value} {z : Int32} {N cap : Nat} (w : (Cond.arrayClass .byte).before a0 Z = true) (hd : decode code pc = .ok (.newarray .byte, 2)) (hp : pc + 2 = pc') (hz : z.toInt = (N : Int)) (hcap : N ≤ cap) (hb8 : cap * 8 ≤ 536870912) (hk : k + 1 ≤ R.cells) (hn : n + cap ≤ R.slots)
    (q : ∀ h' b, b = h.size → Ext h h' → AB Z h' b N → W h' (k + 1) (n + cap) pc' Ls (.ref b :: rest)) : W h k n pc Ls (.int z :: rest) := by
  obtain ⟨p, e, s, m, args, below, meth, c, ⟨hx, hby, hml, hown, hZ, hre, hlk, hnm⟩, rfl⟩ := C
  subst hp
  intro T locs k' n' q1 q2 X eT Nf
  have hnn : ¬ z < 0 := by rw [Int32.lt_iff_toInt_lt]; show ¬ z.toInt < 0; omega
  have hzn : z.toNatClampNeg = N := by show z.toInt.toNat = N; omega
  have hlt : N < 2 ^ 31 := by have := (rng32 z).2; omega
  obtain ⟨T', h', cA, X', e', E', A', st'⟩ := newP X hx hZ (aty := .byte) w eT (g := mkF m pc Ls (.int z :: rest)) rfl (hb hby hd) rfl hnn (cap := cap) (by omega) hb8 (by omega) (by omega)
  have F : AB Z h' h.size N := ⟨_, A', by rw [sz_new]; exact hzn, hlt⟩
  obtain ⟨s2, o, st2, r⟩ := q h' _ rfl E' F T' locs (k' + 1) (n' + cap) (by omega) (by omega) X' e' Nf
  exact ⟨s2, o, st' _ st2, r⟩
theorem Ru.stAB (C : Ru l Z own code maxL ret nm R n0 G W) {a : Addr} {j : Int32} {i : Nat} {v : Int32} {z : Nat} (F : AB Z h a z) (hj : j.toInt = (i : Int)) (hlt : i < z) (hg : n0 ≤ a) (hd : decode code pc = .ok (.bastore, 1)) (hp : pc + 1 = pc') (q : ∀ h', Wr h h' a i (.int (nar .byte v)) → AB Z h' a z → W h' k n pc' Ls rest) : W h k n pc Ls (.int v :: .int j :: .ref a :: rest) := by
  obtain ⟨p, e, s, m, args, below, meth, c, ⟨hx, hby, hml, hown, hZ, hre, hlk, hnm⟩, rfl⟩ := C
  subst hp
  intro T locs k' n' q1 q2 X eT N
  obtain ⟨cl, A, es, hl⟩ := F
  have hjn : j.toNatClampNeg = i := by show j.toInt.toNat = i; omega
  have hin : ¬ (j < 0 ∨ cl.slots.size ≤ j.toNatClampNeg) := by
    rw [Int32.lt_iff_toInt_lt, es, hjn]
    show ¬ (j.toInt < 0 ∨ _); omega
  obtain ⟨T', h', X', e', W', st'⟩ := stB X hx hZ eT A (j := j) hin (g := mkF m pc Ls (.int v :: .int j :: .ref a :: rest)) rfl rfl (hb hby hd)
  rw [hjn] at W'
  obtain ⟨s2, o, st2, r⟩ := q h' W' ⟨_, A.same W', by rw [sz_set]; exact es, hl⟩ T' _ k' n' q1 q2 X' e' (Fr.snoc X' N hg)
  exact ⟨s2, o, st' _ st2, r⟩
theorem Ru.lenAB (C : Ru l Z own code maxL ret nm R n0 G W) {a : Addr} {N : Nat} {z : Int32} (F : AB Z h a N) (hz : z.toInt = (N : Int)) (hd : decode code pc = .ok (.arraylength, 1)) (hp : pc + 1 = pc') (q : W h k n pc' Ls (.int z :: rest)) : W h k n pc Ls (.ref a :: rest) := by
  obtain ⟨p, e, s, m, args, below, meth, c, ⟨hx, hby, hml, hown, hZ, hre, hlk, hnm⟩, rfl⟩ := C
  subst hp
  intro T locs k' n' q1 q2 X eT Nf
  obtain ⟨cl, A, es, hl⟩ := F
  have e1 : cl.slots.size.toInt32 = z := by
    apply Int32.toInt_inj.mp
    rw [es, hz]
    exact len_toInt hl
  obtain ⟨s2, o, st2, r⟩ := q T locs k' n' q1 q2 X eT Nf
  exact ⟨s2, o, X.arraylength hx (by rw [eT]; exact A.1) (State.isArrayOf_alike hZ.alike A.2.1) (g := mkF m pc Ls (.ref a :: rest)) rfl rfl (hb hby hd) _ (by rw [e1]; exact st2), r⟩
/-! calls -/
/-- what a stack weighs -/
def wt (st : List Value) : Nat := (st.map fun v => v.category).sum
/-- Object.<init> -/
theorem Ru.initObj (C : Ru l Z own code maxL ret nm R n0 G W) {a0 : Array Value} {i w : Nat} {a : Addr} (w1 : (Cond.methodLink own i Lib.objectInit).before a0 Z = true) (w2 : (Cond.instanceMethod Lib.objectInit).before a0 Z = true) (w3 : (Cond.code Lib.objectInit ⟨#[0xb1]⟩ 1 none).before a0 Z = true)
    (hd : decode code pc = .ok (.invokespecial i, 3)) (hp : pc + 3 = pc') (hs : Ls.size = maxL) (hf : 1 ≤ R.frames) (hw : wt rest ≤ w) (hl : w + 12 ≤ R.locals) (q : W h k n pc' Ls rest) : W h k n pc Ls (.ref a :: rest) := by
  obtain ⟨p, e, s, m, args, below, meth, c, ⟨hx, hby, hml, hown, hZ, hre, hlk, hnm⟩, rfl⟩ := C
  subst hp
  intro T locs k' n' q1 q2 X eT N
  obtain ⟨T', X', e', st'⟩ := initO X hx hZ hown w1 w2 w3 eT (g := mkF m pc Ls (.ref a :: rest)) rfl (by rw [hml]; exact hs) rfl (hb hby hd) hf (W := w) (by show 2 * 0 + _ ≤ _; simpa [wt] using hw) hl
  obtain ⟨s2, o, st2, r⟩ := q T' locs k' n' q1 q2 X' e' N
  exact ⟨s2, o, st' _ st2, r⟩
theorem Ru.calls (C : Ru l Z own code maxL ret nm R n0 G W) {a0 : Array Value} {i w : Nat} {y : MethodName} {bytes : ByteArray} {mx : Nat} {rt : Option FieldType} {rm : Room} {GC : Option Value → Heap → Prop} {argsL : List Value} {ps : List FieldType} {rt' : Option FieldType}
    (M : MeetsW l Z n0 y bytes mx rt rm argsL.toArray h GC) (w1 : (Cond.methodLink own i y).before a0 Z = true) (w2 : (Cond.static y).before a0 Z = true) (w3 : (Cond.initialized y.cls).before a0 Z = true) (w4 : (Cond.code y bytes mx rt).before a0 Z = true)
    (hd : decode code pc = .ok (.invokestatic i, 3)) (hp : pc + 3 = pc') (hs : Ls.size = maxL) (hst : st = argsL.reverse ++ rest) (hy : y.cls ≠ "java/lang/invoke/MethodHandle" ∧ y.cls ≠ "java/lang/invoke/VarHandle")
    (hdesc : parseMethodDescriptor y.desc = some ⟨ps, rt'⟩) (hlen : argsL.length = ps.length) (hf : rm.frames + 1 ≤ R.frames) (hw : wt rest ≤ w) (hl : w + (mx + 11) + rm.locals ≤ R.locals) (hk : k + rm.cells ≤ R.cells) (hn : n + rm.slots ≤ R.slots)
    (q : ∀ v h', GC v h' → W h' (k + rm.cells) (n + rm.slots) pc' Ls (v.toList ++ rest)) : W h k n pc Ls st := by
  obtain ⟨p, e, s, m, args, below, meth, c, ⟨hx, hby, hml, hown, hZ, hre, hlk, hnm⟩, rfl⟩ := C
  subst hp hst
  intro T locs k' n' q1 q2 X eT N
  obtain ⟨v, _, ⟨T', L', k2, n2⟩, -, X', ⟨Lc, ⟨N', hQ⟩, hl', hk', hn'⟩, st'⟩ := Jvm.LawKit.callS X hx (y := y) hown (mvT hZ w1) (mvT hZ w2) (mvT hZ w3) (mvT hZ w4) hy (backOf (W := w) (Q := fun v h L => Fr n0 L ∧ GC v h) (M []) hZ w4 w3 hf hl) (g := mkF m pc Ls (argsL.reverse ++ rest)) rfl (by rw [hml]; exact hs) (argsL := argsL) (rest := rest) (lenOf hdesc hlen) rfl (by show 2 * 0 + _ ≤ _; simpa [wt] using hw) (hb hby hd) (fun _ _ => ⟨rfl, eT, (by show k' + rm.cells ≤ _; omega), (by show n' + rm.slots ≤ _; omega)⟩)
  dsimp only [Pt.U, Pt.locs, Pt.cells, Pt.slots] at X' hl' hk' hn' st' hQ
  subst hl' hk' hn'
  obtain ⟨s2, o, st2, r⟩ := q v T'.heap hQ T' _ _ _ (by omega) (by omega) X' rfl (Fr.app N N')
  exact ⟨s2, o, st' _ st2, r⟩
theorem Ru.callc (C : Ru l Z own code maxL ret nm R n0 G W) {a0 : Array Value} {i w : Nat} {y : MethodName} {bytes : ByteArray} {mx : Nat} {rm : Room} {GC : Option Value → Heap → Prop} {a : Addr} {argsL : List Value} {ps : List FieldType} {rt' : Option FieldType}
    (M : MeetsW l Z n0 y bytes mx none rm (.ref a :: argsL).toArray h GC) (hy1 : y.name = "<init>") (w1 : (Cond.methodLink own i y).before a0 Z = true) (w2 : (Cond.instanceMethod y).before a0 Z = true) (w3 : (Cond.initialized y.cls).before a0 Z = true) (w4 : (Cond.code y bytes mx none).before a0 Z = true)
    (hd : decode code pc = .ok (.invokespecial i, 3)) (hp : pc + 3 = pc') (hs : Ls.size = maxL) (hst : st = argsL.reverse ++ .ref a :: rest) (hy : y.cls ≠ "java/lang/invoke/MethodHandle" ∧ y.cls ≠ "java/lang/invoke/VarHandle")
    (hdesc : parseMethodDescriptor y.desc = some ⟨ps, rt'⟩) (hlen : argsL.length = ps.length) (hf : rm.frames + 1 ≤ R.frames) (hw : wt rest ≤ w) (hl : w + (mx + 11) + rm.locals ≤ R.locals) (hk : k + rm.cells ≤ R.cells) (hn : n + rm.slots ≤ R.slots)
    (q : ∀ v h', GC v h' → W h' (k + rm.cells) (n + rm.slots) pc' Ls (v.toList ++ rest)) : W h k n pc Ls st := by
  obtain ⟨p, e, s, m, args, below, meth, c, ⟨hx, hby, hml, hown, hZ, hre, hlk, hnm⟩, rfl⟩ := C
  subst hp hst
  intro T locs k' n' q1 q2 X eT N
  obtain ⟨v, _, ⟨T', L', k2, n2⟩, -, X', ⟨Lc, ⟨N', hQ⟩, hl', hk', hn'⟩, st'⟩ := X.specialBack hx (y := y) hy1 hown (mvT hZ w1) (mvT hZ w2) (mvT hZ w4) hy (backOf (W := w) (Q := fun v h L => Fr n0 L ∧ GC v h) (M []) hZ w4 w3 hf hl) (g := mkF m pc Ls (argsL.reverse ++ .ref a :: rest)) rfl (by rw [hml]; exact hs) (Steps.refl _) (a := a) (argsL := argsL) (rest := rest) (lenOf hdesc hlen) rfl (by show 2 * 0 + _ ≤ _; simpa [wt] using hw) (hb hby hd) (fun _ _ => ⟨rfl, eT, (by show k' + rm.cells ≤ _; omega), (by show n' + rm.slots ≤ _; omega)⟩)
  dsimp only [Pt.U, Pt.locs, Pt.cells, Pt.slots] at X' hl' hk' hn' st' hQ
  subst hl' hk' hn'
  obtain ⟨s2, o, st2, r⟩ := q v T'.heap hQ T' _ _ _ (by omega) (by omega) X' rfl (Fr.app N N')
  exact ⟨s2, o, st'.trans st2, r⟩
theorem Ru.callv (C : Ru l Z own code maxL ret nm R n0 G W) {a0 : Array Value} {i w : Nat} {y : MethodName} {bytes : ByteArray} {mx : Nat} {rt : Option FieldType} {rm : Room} {GC : Option Value → Heap → Prop} {a : Addr} {argsL : List Value} {ps : List FieldType} {rt' : Option FieldType} {D : String}
    (M : MeetsW l Z n0 y bytes mx rt rm (.ref a :: argsL).toArray h GC) (E : Exa Z h a D) (w1 : (Cond.methodLink own i y).before a0 Z = true) (w2 : (Cond.declares y).before a0 Z = true) (w5 : (Cond.selects D y y).before a0 Z = true) (w6 : (Cond.instanceMethod y).before a0 Z = true) (w3 : (Cond.initialized y.cls).before a0 Z = true) (w4 : (Cond.code y bytes mx rt).before a0 Z = true)
    (hd : decode code pc = .ok (.invokevirtual i, 3)) (hp : pc + 3 = pc') (hs : Ls.size = maxL) (hst : st = argsL.reverse ++ .ref a :: rest) (hy : y.cls ≠ "java/lang/invoke/MethodHandle" ∧ y.cls ≠ "java/lang/invoke/VarHandle")
    (hdesc : parseMethodDescriptor y.desc = some ⟨ps, rt'⟩) (hlen : argsL.length = ps.length) (hf : rm.frames + 1 ≤ R.frames) (hw : wt rest ≤ w) (hl : w + (mx + 11) + rm.locals ≤ R.locals) (hk : k + rm.cells ≤ R.cells) (hn : n + rm.slots ≤ R.slots)
    (q : ∀ v h', GC v h' → W h' (k + rm.cells) (n + rm.slots) pc' Ls (v.toList ++ rest)) : W h k n pc Ls st := by
  obtain ⟨p, e, s, m, args, below, meth, c, ⟨hx, hby, hml, hown, hZ, hre, hlk, hnm⟩, rfl⟩ := C
  subst hp hst
  intro T locs k' n' q1 q2 X eT N
  obtain ⟨cq, kq, qa, qb, qc⟩ := isOf hZ eT E
  obtain ⟨v, _, ⟨T', L', k2, n2⟩, -, X', ⟨Lc, ⟨N', hQ⟩, hl', hk', hn'⟩, st'⟩ := X.virtualBack hx (y := y) (z := y) hown (mvT hZ w1) (mvT hZ w2) (notFace_of_selects (args := #[]) (mvT hZ w5)) (mvT hZ w5) (mvT hZ w6) hy (backOf (W := w) (Q := fun v h L => Fr n0 L ∧ GC v h) (M []) hZ w4 w3 hf hl) qa qc (g := mkF m pc Ls (argsL.reverse ++ .ref a :: rest)) rfl (by rw [hml]; exact hs) (Steps.refl _) (argsL := argsL) (rest := rest) (lenOf hdesc hlen) rfl (by show 2 * 0 + _ ≤ _; simpa [wt] using hw) (hb hby hd) (fun _ _ => ⟨rfl, eT, (by show k' + rm.cells ≤ _; omega), (by show n' + rm.slots ≤ _; omega)⟩)
  dsimp only [Pt.U, Pt.locs, Pt.cells, Pt.slots] at X' hl' hk' hn' st' hQ
  subst hl' hk' hn'
  obtain ⟨s2, o, st2, r⟩ := q v T'.heap hQ T' _ _ _ (by omega) (by omega) X' rfl (Fr.app N N')
  exact ⟨s2, o, st'.trans st2, r⟩
theorem Ru.callp (C : Ru l Z own code maxL ret nm R n0 G W) {a0 : Array Value} {i w : Nat} {y : MethodName} {bytes : ByteArray} {mx : Nat} {rt : Option FieldType} {rm : Room} {GC : Option Value → Heap → Prop} {a : Addr} {argsL : List Value} {ps : List FieldType} {rt' : Option FieldType} {D : String}
    (M : MeetsW l Z n0 y bytes mx rt rm (.ref a :: argsL).toArray h GC) (E : Exa Z h a D) (w1 : (Cond.methodLink own i y).before a0 Z = true) (w6 : (Cond.instanceMethod y).before a0 Z = true) (w5 : (Cond.selects y.cls y y).before a0 Z = true) (w7 : (Cond.privateMethod y).before a0 Z = true) (w3 : (Cond.initialized y.cls).before a0 Z = true) (w4 : (Cond.code y bytes mx rt).before a0 Z = true)
    (hd : decode code pc = .ok (.invokevirtual i, 3)) (hp : pc + 3 = pc') (hs : Ls.size = maxL) (hst : st = argsL.reverse ++ .ref a :: rest) (hy : y.cls ≠ "java/lang/invoke/MethodHandle" ∧ y.cls ≠ "java/lang/invoke/VarHandle")
    (hdesc : parseMethodDescriptor y.desc = some ⟨ps, rt'⟩) (hlen : argsL.length = ps.length) (hf : rm.frames + 1 ≤ R.frames) (hw : wt rest ≤ w) (hl : w + (mx + 11) + rm.locals ≤ R.locals) (hk : k + rm.cells ≤ R.cells) (hn : n + rm.slots ≤ R.slots)
    (q : ∀ v h', GC v h' → W h' (k + rm.cells) (n + rm.slots) pc' Ls (v.toList ++ rest)) : W h k n pc Ls st := by
  obtain ⟨p, e, s, m, args, below, meth, c, ⟨hx, hby, hml, hown, hZ, hre, hlk, hnm⟩, rfl⟩ := C
  subst hp hst
  intro T locs k' n' q1 q2 X eT N
  obtain ⟨cq, qa, qb⟩ := E.cell
  obtain ⟨v, _, ⟨T', L', k2, n2⟩, -, X', ⟨Lc, ⟨N', hQ⟩, hl', hk', hn'⟩, st'⟩ := X.privateBack hx (y := y) hown (mvT hZ w1) (mvT hZ w6) (mvT hZ w5) (Cond.privateMethod_at (mvP hZ w7 (args := #[]))) (mvT hZ w4) hy (backOf (W := w) (Q := fun v h L => Fr n0 L ∧ GC v h) (M []) hZ w4 w3 hf hl) (g := mkF m pc Ls (argsL.reverse ++ .ref a :: rest)) rfl (by rw [hml]; exact hs) (Steps.refl _) (a := a) (by rw [eT]; exact qa) qb (argsL := argsL) (rest := rest) (lenOf hdesc hlen) rfl (by show 2 * 0 + _ ≤ _; simpa [wt] using hw) (hb hby hd) (fun _ _ => ⟨rfl, eT, (by show k' + rm.cells ≤ _; omega), (by show n' + rm.slots ≤ _; omega)⟩)
  dsimp only [Pt.U, Pt.locs, Pt.cells, Pt.slots] at X' hl' hk' hn' st' hQ
  subst hl' hk' hn'
  obtain ⟨s2, o, st2, r⟩ := q v T'.heap hQ T' _ _ _ (by omega) (by omega) X' rfl (Fr.app N N')
  exact ⟨s2, o, st'.trans st2, r⟩
theorem Ru.castY (C : Ru l Z own code maxL ret nm R n0 G W) {a0 : Array Value} {D : String} {i : Nat} {a : Addr} (w : (Cond.classLink own i D).before a0 Z = true) (F : Ins Z h a D true) (hd : decode code pc = .ok (.checkcast i, 3)) (hp : pc + 3 = pc') (q : W h k n pc' Ls (.ref a :: rest)) : W h k n pc Ls (.ref a :: rest) := by
  obtain ⟨p, e, s, m, args, below, meth, c, ⟨hx, hby, hml, hown, hZ, hre, hlk, hnm⟩, rfl⟩ := C
  subst hp
  intro T locs k' n' q1 q2 X eT N
  obtain ⟨T', X', e', st'⟩ := castY X hx hZ hown w eT F (g := mkF m pc Ls (.ref a :: rest)) rfl rfl (hb hby hd)
  obtain ⟨s2, o, st2, r⟩ := q T' locs k' n' q1 q2 X' e' N
  exact ⟨s2, o, st' _ st2, r⟩
theorem Ru.newAIE (C : Ru l Z own code maxL ret nm R n0 G W) {a0 : Array Value} {z : Int32} {N cap : Nat} (w : (Cond.arrayClass .int).before a0 Z = true) (hd : decode code pc = .ok (.newarray .int, 2)) (hp : pc + 2 = pc') (hz : z.toInt = (N : Int)) (hcap : N ≤ cap) (hb8 : cap * 8 ≤ 536870912) (hk : k + 1 ≤ R.cells) (hn : n + cap ≤ R.slots)
    (q : ∀ h' b, b = h.size → Ext h h' → AI Z h' b (List.replicate N 0) → Exa Z h' b "[I" → W h' (k + 1) (n + cap) pc' Ls (.ref b :: rest)) : W h k n pc Ls (.int z :: rest) := by
  obtain ⟨p, e, s, m, args, below, meth, c, ⟨hx, hby, hml, hown, hZ, hre, hlk, hnm⟩, rfl⟩ := C
  subst hp
  intro T locs k' n' q1 q2 X eT Nf
  have hnn : ¬ z < 0 := by rw [Int32.lt_iff_toInt_lt]; show ¬ z.toInt < 0; omega
  have hzn : z.toNatClampNeg = N := by show z.toInt.toNat = N; omega
  have hlt : N < 2 ^ 31 := by have := (rng32 z).2; omega
  obtain ⟨T', h', cA, X', e', E', A', B', st'⟩ := newPE X hx hZ (aty := .int) w eT (g := mkF m pc Ls (.int z :: rest)) rfl (hb hby hd) rfl hnn (cap := cap) (by omega) hb8 (by omega) (by omega) (ad := "[I") (by decide)
  have F : AI Z h' h.size (List.replicate N 0) := by
    refine ⟨_, A', ?_, by rw [List.length_replicate]; exact hlt⟩
    simp only [newA, hzn]
    apply Array.ext'
    simp [defaultValue, newarray.typeOf]
  obtain ⟨s2, o, st2, r⟩ := q h' _ rfl E' F B' T' locs (k' + 1) (n' + cap) (by omega) (by omega) X' e' Nf
  exact ⟨s2, o, st' _ st2, r⟩
theorem Ru.cloneAI (C : Ru l Z own code maxL ret nm R n0 G W) {a0 : Array Value} {i w cap : Nat} {a : Addr} {vs : List Int32}
    (w1 : (Cond.methodLink own i ⟨"[I", "clone", "()Ljava/lang/Object;"⟩).before a0 Z = true) (w2 : (Cond.sameMethod "[I" "java/lang/Object" "clone" "()Ljava/lang/Object;").before a0 Z = true) (w3 : (Cond.native ⟨"java/lang/Object", "clone", "()Ljava/lang/Object;"⟩).before a0 Z = true)
    (w4 : (Cond.instanceMethod ⟨"java/lang/Object", "clone", "()Ljava/lang/Object;"⟩).before a0 Z = true) (w5 : (Cond.selects "[I" ⟨"[I", "clone", "()Ljava/lang/Object;"⟩ ⟨"java/lang/Object", "clone", "()Ljava/lang/Object;"⟩).before a0 Z = true) (w6 : (Cond.castable "[I" "java/lang/Cloneable").before a0 Z = true)
    (F : AI Z h a vs) (E : Exa Z h a "[I") (hd : decode code pc = .ok (.invokevirtual i, 3)) (hp : pc + 3 = pc') (hs : Ls.size = maxL) (hf : 1 ≤ R.frames) (hw : wt rest ≤ w) (hl : w + 14 ≤ R.locals) (hcap : vs.length ≤ cap) (hk : k + 1 ≤ R.cells) (hn : n + cap ≤ R.slots)
    (q : ∀ h' b, b = h.size → Ext h h' → AI Z h' b vs → Exa Z h' b "[I" → W h' (k + 1) (n + cap) pc' Ls (.ref b :: rest)) : W h k n pc Ls (.ref a :: rest) := by
  obtain ⟨p, e, s, m, args, below, meth, c, ⟨hx, hby, hml, hown, hZ, hre, hlk, hnm⟩, rfl⟩ := C
  subst hp
  intro T locs k' n' q1 q2 X eT Nf
  obtain ⟨cl, A, es, hlen⟩ := F
  have hsz : cl.slots.size = vs.length := by rw [es]; simp
  have FC : FitC Z cl := fitC_of A fun j hj v hv => by
    rw [es] at hv
    simp only [List.getElem?_toArray, List.getElem?_map, Option.map_eq_some_iff] at hv
    obtain ⟨y, -, rfl⟩ := hv
    rfl
  obtain ⟨T', h', X', e', E', A', B', st'⟩ := cloneA X hx hZ hown w1 w2 w3 w4 w5 w6 eT A E FC (g := mkF m pc Ls (.ref a :: rest)) rfl (by rw [hml]; exact hs) rfl (hb hby hd) hf (W := w) (cap := cap) (by show 2 * 0 + _ ≤ _; simpa [wt] using hw) hl (by omega) (by omega) (by omega)
  obtain ⟨s2, o, st2, r⟩ := q h' _ rfl E' ⟨_, A', es, hlen⟩ B' T' locs (k' + 1) (n' + cap) (by omega) (by omega) X' e' Nf
  exact ⟨s2, o, st' _ st2, r⟩
/-! returns -/
theorem Ru.retV (C : Ru l Z own code maxL ret nm R n0 G W) (hr : ret = none) (hd : decode code pc = .ok (.return_, 1)) (hk : k ≤ R.cells) (hn : n ≤ R.slots) (q : G none h) : W h k n pc Ls [] := by
  obtain ⟨p, e, s, m, args, below, meth, c, ⟨hx, hby, hml, hown, hZ, hre, hlk, hnm⟩, rfl⟩ := C
  intro T locs k' n' q1 q2 X eT N
  obtain ⟨fs, hrr, hrun, hended, hW, hsame⟩ := X.leave (v := none) (fun _ => rfl)
  exact ⟨_, _, X.returnOut hx (hre.trans hr) (hb hby hd) hrr, hrun, hended, _, _, rfl, ⟨N, by show G none T.heap; rw [eT]; exact q⟩, ⟨_, rfl⟩, hW, hsame.mono (by omega) (by omega)⟩
theorem Ru.retI (C : Ru l Z own code maxL ret nm R n0 G W) {z : Int32} (hr : ret = some .int) (hd : decode code pc = .ok (.ireturn, 1)) (hk : k ≤ R.cells) (hn : n ≤ R.slots) (q : G (some (.int z)) h) : W h k n pc Ls (.int z :: rest) := by
  obtain ⟨p, e, s, m, args, below, meth, c, ⟨hx, hby, hml, hown, hZ, hre, hlk, hnm⟩, rfl⟩ := C
  intro T locs k' n' q1 q2 X eT N
  obtain ⟨fs, hrr, hrun, hended, hW, hsame⟩ := X.leave (v := some (.int z)) (fun h => by rw [hre, hr] at h; cases h)
  exact ⟨_, _, retOut X hx (hre.trans hr) rfl (Or.inl ⟨rfl, Or.inl rfl, z, rfl⟩) (hb hby hd) hrr, hrun, hended, _, _, rfl, ⟨N, by show G _ T.heap; rw [eT]; exact q⟩, ⟨_, rfl⟩, hW, hsame.mono (by omega) (by omega)⟩
theorem Ru.retZ (C : Ru l Z own code maxL ret nm R n0 G W) {z : Int32} (hr : ret = some .boolean) (hz : z = 0 ∨ z = 1) (hd : decode code pc = .ok (.ireturn, 1)) (hk : k ≤ R.cells) (hn : n ≤ R.slots) (q : G (some (.int z)) h) : W h k n pc Ls (.int z :: rest) := by
  obtain ⟨p, e, s, m, args, below, meth, c, ⟨hx, hby, hml, hown, hZ, hre, hlk, hnm⟩, rfl⟩ := C
  intro T locs k' n' q1 q2 X eT N
  obtain ⟨fs, hrr, hrun, hended, hW, hsame⟩ := X.leave (v := some (.int z)) (fun h => by rw [hre, hr] at h; cases h)
  have hnr : narrow .boolean (.int z) = .int z := by rcases hz with rfl | rfl <;> decide
  exact ⟨_, _, retOut X hx (hre.trans hr) hnr (Or.inl ⟨rfl, Or.inr (Or.inl rfl), z, rfl⟩) (hb hby hd) hrr, hrun, hended, _, _, rfl, ⟨N, by show G _ T.heap; rw [eT]; exact q⟩, ⟨_, rfl⟩, hW, hsame.mono (by omega) (by omega)⟩
theorem Ru.retJ (C : Ru l Z own code maxL ret nm R n0 G W) {z : Int64} (hr : ret = some .long) (hd : decode code pc = .ok (.lreturn, 1)) (hk : k ≤ R.cells) (hn : n ≤ R.slots) (q : G (some (.long z)) h) : W h k n pc Ls (.long z :: rest) := by
  obtain ⟨p, e, s, m, args, below, meth, c, ⟨hx, hby, hml, hown, hZ, hre, hlk, hnm⟩, rfl⟩ := C
  intro T locs k' n' q1 q2 X eT N
  obtain ⟨fs, hrr, hrun, hended, hW, hsame⟩ := X.leave (v := some (.long z)) (fun h => by rw [hre, hr] at h; cases h)
  exact ⟨_, _, retOut X hx (hre.trans hr) rfl (Or.inr (Or.inl ⟨rfl, rfl, z, rfl⟩)) (hb hby hd) hrr, hrun, hended, _, _, rfl, ⟨N, by show G _ T.heap; rw [eT]; exact q⟩, ⟨_, rfl⟩, hW, hsame.mono (by omega) (by omega)⟩
theorem Ru.retA (C : Ru l Z own code maxL ret nm R n0 G W) {a : Addr} {t : FieldType} (hr : ret = some t) (ht : t.isReference = true) (hd : decode code pc = .ok (.areturn, 1)) (hk : k ≤ R.cells) (hn : n ≤ R.slots) (q : G (some (.ref a)) h) : W h k n pc Ls (.ref a :: rest) := by
  obtain ⟨p, e, s, m, args, below, meth, c, ⟨hx, hby, hml, hown, hZ, hre, hlk, hnm⟩, rfl⟩ := C
  intro T locs k' n' q1 q2 X eT N
  obtain ⟨fs, hrr, hrun, hended, hW, hsame⟩ := X.leave (v := some (.ref a)) (fun h => by rw [hre, hr] at h; cases h)
  have hnr : narrow t (.ref a) = .ref a := by cases t <;> first | rfl | cases ht
  exact ⟨_, _, retOut X hx (hre.trans hr) hnr (Or.inr (Or.inr (Or.inr (Or.inr ⟨rfl, ht, rfl⟩)))) (hb hby hd) hrr, hrun, hended, _, _, rfl, ⟨N, by show G _ T.heap; rw [eT]; exact q⟩, ⟨_, rfl⟩, hW, hsame.mono (by omega) (by omega)⟩
end Steps
/-! kinds of results -/
def RI (P : Int32 → Heap → Prop) : Option Value → Heap → Prop := fun v h => ∃ r, v = some (.int r) ∧ P r h
def RJ (P : Int64 → Heap → Prop) : Option Value → Heap → Prop := fun v h => ∃ r, v = some (.long r) ∧ P r h
def RA (P : Addr → Heap → Prop) : Option Value → Heap → Prop := fun v h => ∃ r, v = some (.ref r) ∧ P r h
def RV (P : Heap → Prop) : Option Value → Heap → Prop := fun v h => v = none ∧ P h
theorem kI {P : Int32 → Heap → Prop} {W : WT} {k n pc : Nat} {Ls : Array Slot} {rest : List Value} (q : ∀ r h, P r h → W h k n pc Ls (.int r :: rest)) : ∀ v h, RI P v h → W h k n pc Ls (v.toList ++ rest) := by
  rintro _ h ⟨r, rfl, p⟩; exact q r h p
theorem kJ {P : Int64 → Heap → Prop} {W : WT} {k n pc : Nat} {Ls : Array Slot} {rest : List Value} (q : ∀ r h, P r h → W h k n pc Ls (.long r :: rest)) : ∀ v h, RJ P v h → W h k n pc Ls (v.toList ++ rest) := by
  rintro _ h ⟨r, rfl, p⟩; exact q r h p
theorem kA {P : Addr → Heap → Prop} {W : WT} {k n pc : Nat} {Ls : Array Slot} {rest : List Value} (q : ∀ r h, P r h → W h k n pc Ls (.ref r :: rest)) : ∀ v h, RA P v h → W h k n pc Ls (v.toList ++ rest) := by
  rintro _ h ⟨r, rfl, p⟩; exact q r h p
theorem kV {P : Heap → Prop} {W : WT} {k n pc : Nat} {Ls : Array Slot} {rest : List Value} (q : ∀ h, P h → W h k n pc Ls rest) : ∀ v h, RV P v h → W h k n pc Ls (v.toList ++ rest) := by
  rintro _ h ⟨rfl, p⟩; exact q h p
/-- the same, for a callee that leaves the heap as it was and returns just this -/
theorem kI0 {P : Int32 → Prop} {h0 : Heap} {W : WT} {k n pc : Nat} {Ls : Array Slot} {rest : List Value} (q : ∀ r, P r → W h0 k n pc Ls (.int r :: rest)) : ∀ v h, RI (fun r h => P r ∧ h = h0) v h → W h k n pc Ls (v.toList ++ rest) := by
  rintro _ h ⟨r, rfl, p, rfl⟩; exact q r p
theorem kJ0 {P : Int64 → Prop} {h0 : Heap} {W : WT} {k n pc : Nat} {Ls : Array Slot} {rest : List Value} (q : ∀ r, P r → W h0 k n pc Ls (.long r :: rest)) : ∀ v h, RJ (fun r h => P r ∧ h = h0) v h → W h k n pc Ls (v.toList ++ rest) := by
  rintro _ h ⟨r, rfl, p, rfl⟩; exact q r p
theorem kIe {x : Int32} {h0 : Heap} {W : WT} {k n pc : Nat} {Ls : Array Slot} {rest : List Value} (q : W h0 k n pc Ls (.int x :: rest)) : ∀ v h, RI (fun r h => r = x ∧ h = h0) v h → W h k n pc Ls (v.toList ++ rest) := by
  rintro _ h ⟨r, rfl, rfl, rfl⟩; exact q
theorem kJe {x : Int64} {h0 : Heap} {W : WT} {k n pc : Nat} {Ls : Array Slot} {rest : List Value} (q : W h0 k n pc Ls (.long x :: rest)) : ∀ v h, RJ (fun r h => r = x ∧ h = h0) v h → W h k n pc Ls (v.toList ++ rest) := by
  rintro _ h ⟨r, rfl, rfl, rfl⟩; exact q
theorem exaLt {Z : State} {h : Heap} {a : Addr} {C : String} (F : Exa Z h a C) : a < h.size := by obtain ⟨c, _, h1, -⟩ := F; exact (Array.getElem?_eq_some_iff.mp h1).1
end Jvm.OwnW

namespace Jvm.Pilot.@@N@@
open Jvm Jvm.ClassFile Sem Op Lib Jvm.Free Jvm.Stand Jvm.LawKit Jvm.RoadKit Bundle Jvm.Pilot.@@N@@.Jvm.D Jvm.OwnW
end Jvm.Pilot.@@N@@
namespace Jvm.OwnP
open Jvm.RoadKit
theorem nn_toInt {j : Int32} (h : ¬ j < 0) : j.toInt = (j.toInt.toNat : Int) := by
  rw [Int32.lt_iff_toInt_lt] at h
  have : ¬ j.toInt < 0 := h
  omega
theorem getD_some {α : Type} {vs : List α} {i : Nat} {d : α} (h : i < vs.length) : vs[i]? = some (vs.getD i d) := by
  rw [List.getD_eq_getElem?_getD, List.getElem?_eq_getElem h]; rfl
theorem and3 (c : Int32) : c &&& 3 = 0 ∨ c &&& 3 = 1 ∨ c &&& 3 = 2 ∨ c &&& 3 = 3 := by
  have m := c_mask c 3 2 (by decide) (by decide)
  have h : (c &&& 3).toInt = 0 ∨ (c &&& 3).toInt = 1 ∨ (c &&& 3).toInt = 2 ∨ (c &&& 3).toInt = 3 := by omega
  rcases h with h | h | h | h
  · exact Or.inl (Int32.toInt_inj.mp h)
  · exact Or.inr (Or.inl (Int32.toInt_inj.mp h))
  · exact Or.inr (Or.inr (Or.inl (Int32.toInt_inj.mp h)))
  · exact Or.inr (Or.inr (Or.inr (Int32.toInt_inj.mp h)))
theorem fill_step {α : Type} {L M : List α} {i : Nat} (hl : L.length = M.length) (h : ∀ j, j < i → L[j]? = M[j]?) {v : α} (hv : M[i]? = some v) : (L.set i v).length = M.length ∧ ∀ j, j < i + 1 → (L.set i v)[j]? = M[j]? := by
  have hi : i < L.length := by rw [hl]; exact (List.getElem?_eq_some_iff.mp hv).1
  refine ⟨by rw [List.length_set]; exact hl, fun j hj => ?_⟩
  by_cases e : j = i
  · subst e; rw [List.getElem?_set_self hi, hv]
  · rw [List.getElem?_set_ne (Ne.symm e)]; exact h j (by omega)
theorem fill_done {α : Type} {L M : List α} {i : Nat} (hl : L.length = M.length) (h : ∀ j, j < i → L[j]? = M[j]?) (hi : M.length ≤ i) : L = M := by
  apply List.ext_getElem?
  intro j
  by_cases e : j < i
  · exact h j e
  · rw [List.getElem?_eq_none (by omega), List.getElem?_eq_none (by omega)]
theorem lt_iff {x y : Int32} {a b : Nat} (hx : x.toInt = (a : Int)) (hy : y.toInt = (b : Int)) : x < y ↔ a < b := by
  rw [Int32.lt_iff_toInt_lt, hx, hy]; omega
theorem inc_toInt {x v : Int32} {a : Nat} (hx : x.toInt = (a : Int)) (h : a < 2147483647) (e : v = x + 1) : v.toInt = ((a + 1 : Nat) : Int) := by
  have s := c_iadd x 1; have b := rng32 (x + 1); have o : (1 : Int32).toInt = 1 := by decide
  rw [e]; omega
theorem narZ {x : Int32} (h : x = 0 ∨ x = 1) : Jvm.narrow .boolean (.int x) = .int x ∧ Jvm.fits .boolean (.int x) = true := by
  rcases h with rfl | rfl <;> exact ⟨by decide, by decide⟩
theorem rem3 {c : Int32} (h : ¬ c < 0) : c % 3 = 0 ∨ c % 3 = 1 ∨ c % 3 = 2 := by
  rw [Int32.lt_iff_toInt_lt] at h
  have h0 : ¬ c.toInt < 0 := h
  have m := (c_irem c 3 3 (by decide)).1 (by omega)
  have h : (c % 3).toInt = 0 ∨ (c % 3).toInt = 1 ∨ (c % 3).toInt = 2 := by omega
  rcases h with h | h | h
  · exact Or.inl (Int32.toInt_inj.mp h)
  · exact Or.inr (Or.inl (Int32.toInt_inj.mp h))
  · exact Or.inr (Or.inr (Int32.toInt_inj.mp h))
end Jvm.OwnP
namespace Jvm.Pilot.@@N@@
open Jvm Jvm.ClassFile Sem Op Lib Jvm.Free Jvm.Stand Jvm.LawKit Jvm.RoadKit Bundle Jvm.Pilot.@@N@@.Jvm.D Jvm.OwnW

theorem own_k {p v : Int32} (e : v = (p &&& 3) + 1) : v = 1 ∨ v = 2 ∨ v = 3 ∨ v = 4 := by
  rcases Jvm.OwnP.and3 p with q | q | q | q <;> rw [q] at e <;> subst e <;> decide
theorem own_nz {p v : Int32} (e : v = (p &&& 3) + 1) : v ≠ 0 := by
  rcases own_k e with rfl | rfl | rfl | rfl <;> decide
theorem own_j {p q v j : Int32} (e : v = (p &&& 3) + 1) (f : j = (q &&& 3) % v) : (v = 1 → j = 0) ∧ (v = 2 → j = 0 ∨ j = 1) ∧ (v = 3 → j = 0 ∨ j = 1 ∨ j = 2) ∧ (v = 4 → j = 0 ∨ j = 1 ∨ j = 2 ∨ j = 3) := by
  refine ⟨?_, ?_, ?_, ?_⟩ <;> intro h <;> subst h <;> rcases Jvm.OwnP.and3 q with r | r | r | r <;> rw [r] at f <;> subst f <;> decide
theorem own_04 {j : Int32} (h : j = 0 ∨ j = 1 ∨ j = 2 ∨ j = 3) : 2 * j.toInt.toNat + 1 < 8 ∧ ((2 : Int32) * j).toInt = ((2 * j.toInt.toNat : Nat) : Int) ∧ ((2 : Int32) * j + 1).toInt = ((2 * j.toInt.toNat + 1 : Nat) : Int) := by
  rcases h with rfl | rfl | rfl | rfl <;> decide

theorem own_v1 {p v : Int32} (e : v = (p &&& 3) + 1) (c : v < 2) : v = 1 := by rcases own_k e with rfl | rfl | rfl | rfl <;> first | rfl | exact absurd c (by decide)
theorem own_v2 {p v : Int32} (e : v = (p &&& 3) + 1) (c : ¬ v < 2) (d : v < 3) : v = 2 := by rcases own_k e with rfl | rfl | rfl | rfl <;> first | rfl | exact absurd d (by decide) | exact absurd (by decide) c
theorem own_v3 {p v : Int32} (e : v = (p &&& 3) + 1) (c : ¬ v < 3) (d : v < 4) : v = 3 := by rcases own_k e with rfl | rfl | rfl | rfl <;> first | rfl | exact absurd d (by decide) | exact absurd (by decide) c
theorem own_v4 {p v : Int32} (e : v = (p &&& 3) + 1) (c : ¬ v < 4) : v = 4 := by rcases own_k e with rfl | rfl | rfl | rfl <;> first | rfl | exact absurd (by decide) c

theorem own_all1 {v j : Int32} (h : (v = 1 → j = 0) ∧ (v = 2 → j = 0 ∨ j = 1) ∧ (v = 3 → j = 0 ∨ j = 1 ∨ j = 2) ∧ (v = 4 → j = 0 ∨ j = 1 ∨ j = 2 ∨ j = 3)) (e : v = 1) : j = 0 := h.1 e
theorem own_up1 {j : Int32} (h : j = 0) : j = 0 ∨ j = 1 ∨ j = 2 ∨ j = 3 := by subst h; simp
theorem own_f1 {j f0 f1 f2 f3 t0 : Int32} (h : j = 0) : ([f0, t0, (0 : Int32), (0 : Int32), (0 : Int32), (0 : Int32), (0 : Int32), (0 : Int32)] : List Int32).getD (2 * j.toInt.toNat) 0 = (if j = 0 then f0 else if j = 1 then f1 else if j = 2 then f2 else f3) := by
  subst h; rfl

theorem own_t1 {j f0 t0 t1 t2 t3 : Int32} (h : j = 0) : ([f0, t0, (0 : Int32), (0 : Int32), (0 : Int32), (0 : Int32), (0 : Int32), (0 : Int32)] : List Int32).getD (2 * j.toInt.toNat + 1) 0 = (if j = 0 then t0 else if j = 1 then t1 else if j = 2 then t2 else t3) := by
  subst h; rfl

theorem own_all2 {v j : Int32} (h : (v = 1 → j = 0) ∧ (v = 2 → j = 0 ∨ j = 1) ∧ (v = 3 → j = 0 ∨ j = 1 ∨ j = 2) ∧ (v = 4 → j = 0 ∨ j = 1 ∨ j = 2 ∨ j = 3)) (e : v = 2) : j = 0 ∨ j = 1 := h.2.1 e
theorem own_up2 {j : Int32} (h : j = 0 ∨ j = 1) : j = 0 ∨ j = 1 ∨ j = 2 ∨ j = 3 := by rcases h with rfl | rfl <;> simp
theorem own_f2 {j f0 f1 f2 f3 t0 t1 : Int32} (h : j = 0 ∨ j = 1) : ([f0, t0, f1, t1, (0 : Int32), (0 : Int32), (0 : Int32), (0 : Int32)] : List Int32).getD (2 * j.toInt.toNat) 0 = (if j = 0 then f0 else if j = 1 then f1 else if j = 2 then f2 else f3) := by
  rcases h with rfl | rfl <;> rfl

theorem own_t2 {j f0 f1 t0 t1 t2 t3 : Int32} (h : j = 0 ∨ j = 1) : ([f0, t0, f1, t1, (0 : Int32), (0 : Int32), (0 : Int32), (0 : Int32)] : List Int32).getD (2 * j.toInt.toNat + 1) 0 = (if j = 0 then t0 else if j = 1 then t1 else if j = 2 then t2 else t3) := by
  rcases h with rfl | rfl <;> rfl

theorem own_all3 {v j : Int32} (h : (v = 1 → j = 0) ∧ (v = 2 → j = 0 ∨ j = 1) ∧ (v = 3 → j = 0 ∨ j = 1 ∨ j = 2) ∧ (v = 4 → j = 0 ∨ j = 1 ∨ j = 2 ∨ j = 3)) (e : v = 3) : j = 0 ∨ j = 1 ∨ j = 2 := h.2.2.1 e
theorem own_up3 {j : Int32} (h : j = 0 ∨ j = 1 ∨ j = 2) : j = 0 ∨ j = 1 ∨ j = 2 ∨ j = 3 := by rcases h with rfl | rfl | rfl <;> simp
theorem own_f3 {j f0 f1 f2 f3 t0 t1 t2 : Int32} (h : j = 0 ∨ j = 1 ∨ j = 2) : ([f0, t0, f1, t1, f2, t2, (0 : Int32), (0 : Int32)] : List Int32).getD (2 * j.toInt.toNat) 0 = (if j = 0 then f0 else if j = 1 then f1 else if j = 2 then f2 else f3) := by
  rcases h with rfl | rfl | rfl <;> rfl

theorem own_t3 {j f0 f1 f2 t0 t1 t2 t3 : Int32} (h : j = 0 ∨ j = 1 ∨ j = 2) : ([f0, t0, f1, t1, f2, t2, (0 : Int32), (0 : Int32)] : List Int32).getD (2 * j.toInt.toNat + 1) 0 = (if j = 0 then t0 else if j = 1 then t1 else if j = 2 then t2 else t3) := by
  rcases h with rfl | rfl | rfl <;> rfl

theorem own_all4 {v j : Int32} (h : (v = 1 → j = 0) ∧ (v = 2 → j = 0 ∨ j = 1) ∧ (v = 3 → j = 0 ∨ j = 1 ∨ j = 2) ∧ (v = 4 → j = 0 ∨ j = 1 ∨ j = 2 ∨ j = 3)) (e : v = 4) : j = 0 ∨ j = 1 ∨ j = 2 ∨ j = 3 := h.2.2.2 e
theorem own_up4 {j : Int32} (h : j = 0 ∨ j = 1 ∨ j = 2 ∨ j = 3) : j = 0 ∨ j = 1 ∨ j = 2 ∨ j = 3 := by rcases h with rfl | rfl | rfl | rfl <;> simp
theorem own_f4 {j f0 f1 f2 f3 t0 t1 t2 t3 : Int32} (h : j = 0 ∨ j = 1 ∨ j = 2 ∨ j = 3) : ([f0, t0, f1, t1, f2, t2, f3, t3] : List Int32).getD (2 * j.toInt.toNat) 0 = (if j = 0 then f0 else if j = 1 then f1 else if j = 2 then f2 else f3) := by
  rcases h with rfl | rfl | rfl | rfl <;> rfl

theorem own_t4 {j f0 f1 f2 f3 t0 t1 t2 t3 : Int32} (h : j = 0 ∨ j = 1 ∨ j = 2 ∨ j = 3) : ([f0, t0, f1, t1, f2, t2, f3, t3] : List Int32).getD (2 * j.toInt.toNat + 1) 0 = (if j = 0 then t0 else if j = 1 then t1 else if j = 2 then t2 else t3) := by
  rcases h with rfl | rfl | rfl | rfl <;> rfl

theorem od1_0 : decode prog_19_method_1_code 0 = .ok (.aload_n 0, 1) := by decide +kernel
theorem od1_1 : decode prog_19_method_1_code 1 = .ok (.invokespecial 1, 3) := by decide +kernel
theorem ow6 {a0 : Array Value} {Z : State} (hw : ∀ d ∈ tables_1, d.before a0 Z = true) : (Jvm.Cond.methodLink "com/example/gapstride/gapstride/PartitionScheme$Parts" (1 : Nat) ({ cls := "java/lang/Object", name := "<init>", desc := "()V" } : Jvm.MethodName)).before a0 Z = true := hw _ (List.mem_of_getElem? (i := 6) rfl)
theorem ow7 {a0 : Array Value} {Z : State} (hw : ∀ d ∈ tables_1, d.before a0 Z = true) : (Jvm.Cond.instanceMethod ({ cls := "java/lang/Object", name := "<init>", desc := "()V" } : Jvm.MethodName)).before a0 Z = true := hw _ (List.mem_of_getElem? (i := 7) rfl)
theorem ow8 {a0 : Array Value} {Z : State} (hw : ∀ d ∈ tables_1, d.before a0 Z = true) : (Jvm.Cond.code ({ cls := "java/lang/Object", name := "<init>", desc := "()V" } : Jvm.MethodName) object_method_1_code (1 : Nat) (Option.none : Option Jvm.ClassFile.FieldType)).before a0 Z = true := hw _ (List.mem_of_getElem? (i := 8) rfl)
theorem od1_4 : decode prog_19_method_1_code 4 = .ok (.aload_n 0, 1) := by decide +kernel
theorem od1_5 : decode prog_19_method_1_code 5 = .ok (.bipush 8, 2) := by decide +kernel
theorem ow9 {a0 : Array Value} {Z : State} (hw : ∀ d ∈ tables_1, d.before a0 Z = true) : (Jvm.Cond.arrayClass Jvm.ClassFile.FieldType.int).before a0 Z = true := hw _ (List.mem_of_getElem? (i := 9) rfl)
theorem od1_7 : decode prog_19_method_1_code 7 = .ok (.newarray .int, 2) := by decide +kernel
theorem ow11 {a0 : Array Value} {Z : State} (hw : ∀ d ∈ tables_1, d.before a0 Z = true) : (Jvm.Cond.laysFinal "com/example/gapstride/gapstride/PartitionScheme$Parts" "com/example/gapstride/gapstride/PartitionScheme$Parts" "bounds" "[I").before a0 Z = true := hw _ (List.mem_of_getElem? (i := 11) rfl)
theorem ow10 {a0 : Array Value} {Z : State} (hw : ∀ d ∈ tables_1, d.before a0 Z = true) : (Jvm.Cond.fieldLink "com/example/gapstride/gapstride/PartitionScheme$Parts" (7 : Nat) "com/example/gapstride/gapstride/PartitionScheme$Parts" "bounds" "[I").before a0 Z = true := hw _ (List.mem_of_getElem? (i := 10) rfl)
theorem ow1 {a0 : Array Value} {Z : State} (hw : ∀ d ∈ tables_1, d.before a0 Z = true) : (Jvm.Cond.instantiable "com/example/gapstride/gapstride/PartitionScheme$Parts" (4 : Nat)).before a0 Z = true := hw _ (List.mem_of_getElem? (i := 1) rfl)
theorem pf__I : parseFieldDescriptor "[I" = some (.array .int) := by decide
theorem od1_9 : decode prog_19_method_1_code 9 = .ok (.putfield 7, 3) := by decide +kernel
theorem ow18 {a0 : Array Value} {Z : State} (hw : ∀ d ∈ tables_1, d.before a0 Z = true) : (Jvm.Cond.lays "com/example/gapstride/gapstride/PartitionScheme$Parts" "com/example/gapstride/gapstride/PartitionScheme$Parts" "rangeFrom" "I").before a0 Z = true := hw _ (List.mem_of_getElem? (i := 18) rfl)
theorem pf_I : parseFieldDescriptor "I" = some .int := by decide
theorem sne_18_11 {a0 : Array Value} {Z : State} (hw : ∀ d ∈ tables_1, d.before a0 Z = true) : Jvm.RoadKit.slotOf Z "com/example/gapstride/gapstride/PartitionScheme$Parts" "rangeFrom" "I" ≠ Jvm.RoadKit.slotOf Z "com/example/gapstride/gapstride/PartitionScheme$Parts" "bounds" "[I" := slot_ne (C := "com/example/gapstride/gapstride/PartitionScheme$Parts") (a0 := a0) (Or.inl (ow18 hw)) (Or.inr (ow11 hw)) (by decide) pf_I pf__I
theorem ow20 {a0 : Array Value} {Z : State} (hw : ∀ d ∈ tables_1, d.before a0 Z = true) : (Jvm.Cond.lays "com/example/gapstride/gapstride/PartitionScheme$Parts" "com/example/gapstride/gapstride/PartitionScheme$Parts" "rangeTo" "I").before a0 Z = true := hw _ (List.mem_of_getElem? (i := 20) rfl)
theorem sne_20_11 {a0 : Array Value} {Z : State} (hw : ∀ d ∈ tables_1, d.before a0 Z = true) : Jvm.RoadKit.slotOf Z "com/example/gapstride/gapstride/PartitionScheme$Parts" "rangeTo" "I" ≠ Jvm.RoadKit.slotOf Z "com/example/gapstride/gapstride/PartitionScheme$Parts" "bounds" "[I" := slot_ne (C := "com/example/gapstride/gapstride/PartitionScheme$Parts") (a0 := a0) (Or.inl (ow20 hw)) (Or.inr (ow11 hw)) (by decide) pf_I pf__I
theorem ow22 {a0 : Array Value} {Z : State} (hw : ∀ d ∈ tables_1, d.before a0 Z = true) : (Jvm.Cond.lays "com/example/gapstride/gapstride/PartitionScheme$Parts" "com/example/gapstride/gapstride/PartitionScheme$Parts" "count" "I").before a0 Z = true := hw _ (List.mem_of_getElem? (i := 22) rfl)
theorem sne_22_11 {a0 : Array Value} {Z : State} (hw : ∀ d ∈ tables_1, d.before a0 Z = true) : Jvm.RoadKit.slotOf Z "com/example/gapstride/gapstride/PartitionScheme$Parts" "count" "I" ≠ Jvm.RoadKit.slotOf Z "com/example/gapstride/gapstride/PartitionScheme$Parts" "bounds" "[I" := slot_ne (C := "com/example/gapstride/gapstride/PartitionScheme$Parts") (a0 := a0) (Or.inl (ow22 hw)) (Or.inr (ow11 hw)) (by decide) pf_I pf__I
theorem od1_12 : decode prog_19_method_1_code 12 = .ok (.return_, 1) := by decide +kernel
theorem ef_own_rm1 (m : MethodId) (x0 : Addr) : entryFrame m #[(.ref x0)] 1 = mkF m 0 #[.val (.ref x0)] [] := by first | (simp [entryFrame, mkF, argsToLocals, Value.category]; done) | rfl
theorem pn_com_example_gapstride_gapstride_PartitionScheme_Parts__init____V : plainFor (⟨"com/example/gapstride/gapstride/PartitionScheme$Parts", "<init>", "()V"⟩ : MethodName) = true := plainFor_of_name (by first | (simp [plainName, overriddenIn]; done) | decide +kernel)
set_option maxRecDepth 65536 in
set_option maxHeartbeats 40000000 in
theorem own_rm1 (l : Launch) (Z : State) (a0 : Array Value) (hw : ∀ d ∈ tables_1, d.before a0 Z = true) (n0 : Nat) (hO : Heap) (a : Addr) (Z0 : n0 ≤ hO.size) (E_a : Exa Z hO a "com/example/gapstride/gapstride/PartitionScheme$Parts") (F_a_bounds : Fld Z hO a "com/example/gapstride/gapstride/PartitionScheme$Parts" "bounds" "[I" .null) (F_a_rangeFrom : Fld Z hO a "com/example/gapstride/gapstride/PartitionScheme$Parts" "rangeFrom" "I" (.int (0 : Int32))) (F_a_rangeTo : Fld Z hO a "com/example/gapstride/gapstride/PartitionScheme$Parts" "rangeTo" "I" (.int (0 : Int32))) (F_a_count : Fld Z hO a "com/example/gapstride/gapstride/PartitionScheme$Parts" "count" "I" (.int (0 : Int32))) (g_a : n0 ≤ a) :
    MeetsW l Z n0 (⟨"com/example/gapstride/gapstride/PartitionScheme$Parts", "<init>", "()V"⟩ : MethodName) prog_19_method_1_code 1 none ({ frames := 1, cells := 1, slots := 8, locals := 12 } : Room) #[(.ref a)] hO (RV fun h => ∃ b : Addr, Keep hO h [a] ∧ hO.size ≤ b ∧ Fld Z h a "com/example/gapstride/gapstride/PartitionScheme$Parts" "bounds" "[I" (.ref b) ∧ Fld Z h a "com/example/gapstride/gapstride/PartitionScheme$Parts" "rangeFrom" "I" (.int (0 : Int32)) ∧ Fld Z h a "com/example/gapstride/gapstride/PartitionScheme$Parts" "rangeTo" "I" (.int (0 : Int32)) ∧ Fld Z h a "com/example/gapstride/gapstride/PartitionScheme$Parts" "count" "I" (.int (0 : Int32)) ∧ AI Z h b [(0 : Int32), (0 : Int32), (0 : Int32), (0 : Int32), (0 : Int32), (0 : Int32), (0 : Int32), (0 : Int32)]) := by
  refine MeetsW.intro pn_com_example_gapstride_gapstride_PartitionScheme_Parts__init____V (fun m => ef_own_rm1 m a) ?_
  intro W C
  replace C : Ru l Z "com/example/gapstride/gapstride/PartitionScheme$Parts" prog_19_method_1_code 1 none "<init>" ({ frames := 1, cells := 1, slots := 8, locals := 12 } : Room) n0 (RV fun h => ∃ b : Addr, Keep hO h [a] ∧ hO.size ≤ b ∧ Fld Z h a "com/example/gapstride/gapstride/PartitionScheme$Parts" "bounds" "[I" (.ref b) ∧ Fld Z h a "com/example/gapstride/gapstride/PartitionScheme$Parts" "rangeFrom" "I" (.int (0 : Int32)) ∧ Fld Z h a "com/example/gapstride/gapstride/PartitionScheme$Parts" "rangeTo" "I" (.int (0 : Int32)) ∧ Fld Z h a "com/example/gapstride/gapstride/PartitionScheme$Parts" "count" "I" (.int (0 : Int32)) ∧ AI Z h b [(0 : Int32), (0 : Int32), (0 : Int32), (0 : Int32), (0 : Int32), (0 : Int32), (0 : Int32), (0 : Int32)]) W := C
  have K : Keep hO hO [a] := Keep.refl _ _
  refine C.aloadN (pc' := 1) od1_0 rfl rfl rfl ?_
  refine C.initObj (w := 0) (ow6 hw) (ow7 hw) (ow8 hw) (pc' := 4) od1_1 rfl rfl (by decide) (Nat.le_of_eq rfl) (by decide) ?_
  refine C.aloadN (pc' := 5) od1_4 rfl rfl rfl ?_
  refine C.bipush (v := 8) (pc' := 7) od1_5 rfl rfl ?_
  refine C.newAI (N := 8) (cap := 8) (ow9 hw) (pc' := 9) od1_7 rfl (by decide) (by decide) (by decide) (by decide) (by decide) (fun h7 b7 hb7 X7 A_b7 => ?_)
  have ne_a_b7 : a ≠ b7 := by rw [hb7]; exact Nat.ne_of_lt (exaLt E_a)
  have sz_b7 : hO.size ≤ b7 := by rw [hb7]; exact K.1
  have g_b7 : n0 ≤ b7 := Nat.le_trans Z0 sz_b7
  replace E_a := E_a.ext X7
  replace F_a_bounds := F_a_bounds.ext X7
  replace F_a_rangeFrom := F_a_rangeFrom.ext X7
  replace F_a_rangeTo := F_a_rangeTo.ext X7
  replace F_a_count := F_a_count.ext X7
  replace K := K.ext X7
  replace A_b7 : AI Z h7 b7 [(0 : Int32), (0 : Int32), (0 : Int32), (0 : Int32), (0 : Int32), (0 : Int32), (0 : Int32), (0 : Int32)] := A_b7
  refine C.putf (ow10 hw) Via.refl F_a_bounds E_a (Or.inr ⟨(ow11 hw), rfl, rfl⟩) (ow1 hw) pf__I rfl rfl g_a (pc' := 12) od1_9 rfl (fun h9 X9 => ?_)
  replace F_a_bounds := F_a_bounds.same X9
  replace E_a := E_a.wr X9
  replace F_a_rangeFrom := F_a_rangeFrom.other X9 (Or.inr (sne_18_11 hw))
  replace F_a_rangeTo := F_a_rangeTo.other X9 (Or.inr (sne_20_11 hw))
  replace F_a_count := F_a_count.other X9 (Or.inr (sne_22_11 hw))
  replace A_b7 := A_b7.other X9 (Ne.symm ne_a_b7)
  replace K := K.wr X9 (Or.inl (List.mem_of_getElem? (i := 0) rfl))
  refine C.retV rfl od1_12 (by decide) (by decide) ⟨rfl, ?_⟩
  exact ⟨b7, K, sz_b7, F_a_bounds, F_a_rangeFrom, F_a_rangeTo, F_a_count, A_b7⟩
theorem od3_0 : decode prog_19_method_2_code 0 = .ok (.aload_n 0, 1) := by decide +kernel
theorem od3_1 : decode prog_19_method_2_code 1 = .ok (.iload_n 1, 1) := by decide +kernel
theorem ow17 {a0 : Array Value} {Z : State} (hw : ∀ d ∈ tables_1, d.before a0 Z = true) : (Jvm.Cond.fieldLink "com/example/gapstride/gapstride/PartitionScheme$Parts" (13 : Nat) "com/example/gapstride/gapstride/PartitionScheme$Parts" "rangeFrom" "I").before a0 Z = true := hw _ (List.mem_of_getElem? (i := 17) rfl)
theorem od3_2 : decode prog_19_method_2_code 2 = .ok (.putfield 13, 3) := by decide +kernel
theorem sne_11_18 {a0 : Array Value} {Z : State} (hw : ∀ d ∈ tables_1, d.before a0 Z = true) : Jvm.RoadKit.slotOf Z "com/example/gapstride/gapstride/PartitionScheme$Parts" "bounds" "[I" ≠ Jvm.RoadKit.slotOf Z "com/example/gapstride/gapstride/PartitionScheme$Parts" "rangeFrom" "I" := slot_ne (C := "com/example/gapstride/gapstride/PartitionScheme$Parts") (a0 := a0) (Or.inr (ow11 hw)) (Or.inl (ow18 hw)) (by decide) pf__I pf_I
theorem sne_20_18 {a0 : Array Value} {Z : State} (hw : ∀ d ∈ tables_1, d.before a0 Z = true) : Jvm.RoadKit.slotOf Z "com/example/gapstride/gapstride/PartitionScheme$Parts" "rangeTo" "I" ≠ Jvm.RoadKit.slotOf Z "com/example/gapstride/gapstride/PartitionScheme$Parts" "rangeFrom" "I" := slot_ne (C := "com/example/gapstride/gapstride/PartitionScheme$Parts") (a0 := a0) (Or.inl (ow20 hw)) (Or.inl (ow18 hw)) (by decide) pf_I pf_I
theorem sne_22_18 {a0 : Array Value} {Z : State} (hw : ∀ d ∈ tables_1, d.before a0 Z = true) : Jvm.RoadKit.slotOf Z "com/example/gapstride/gapstride/PartitionScheme$Parts" "count" "I" ≠ Jvm.RoadKit.slotOf Z "com/example/gapstride/gapstride/PartitionScheme$Parts" "rangeFrom" "I" := slot_ne (C := "com/example/gapstride/gapstride/PartitionScheme$Parts") (a0 := a0) (Or.inl (ow22 hw)) (Or.inl (ow18 hw)) (by decide) pf_I pf_I
theorem od3_5 : decode prog_19_method_2_code 5 = .ok (.aload_n 0, 1) := by decide +kernel
theorem od3_6 : decode prog_19_method_2_code 6 = .ok (.iload_n 2, 1) := by decide +kernel
theorem ow19 {a0 : Array Value} {Z : State} (hw : ∀ d ∈ tables_1, d.before a0 Z = true) : (Jvm.Cond.fieldLink "com/example/gapstride/gapstride/PartitionScheme$Parts" (17 : Nat) "com/example/gapstride/gapstride/PartitionScheme$Parts" "rangeTo" "I").before a0 Z = true := hw _ (List.mem_of_getElem? (i := 19) rfl)
theorem od3_7 : decode prog_19_method_2_code 7 = .ok (.putfield 17, 3) := by decide +kernel
theorem sne_11_20 {a0 : Array Value} {Z : State} (hw : ∀ d ∈ tables_1, d.before a0 Z = true) : Jvm.RoadKit.slotOf Z "com/example/gapstride/gapstride/PartitionScheme$Parts" "bounds" "[I" ≠ Jvm.RoadKit.slotOf Z "com/example/gapstride/gapstride/PartitionScheme$Parts" "rangeTo" "I" := slot_ne (C := "com/example/gapstride/gapstride/PartitionScheme$Parts") (a0 := a0) (Or.inr (ow11 hw)) (Or.inl (ow20 hw)) (by decide) pf__I pf_I
theorem sne_22_20 {a0 : Array Value} {Z : State} (hw : ∀ d ∈ tables_1, d.before a0 Z = true) : Jvm.RoadKit.slotOf Z "com/example/gapstride/gapstride/PartitionScheme$Parts" "count" "I" ≠ Jvm.RoadKit.slotOf Z "com/example/gapstride/gapstride/PartitionScheme$Parts" "rangeTo" "I" := slot_ne (C := "com/example/gapstride/gapstride/PartitionScheme$Parts") (a0 := a0) (Or.inl (ow22 hw)) (Or.inl (ow20 hw)) (by decide) pf_I pf_I
theorem sne_18_20 {a0 : Array Value} {Z : State} (hw : ∀ d ∈ tables_1, d.before a0 Z = true) : Jvm.RoadKit.slotOf Z "com/example/gapstride/gapstride/PartitionScheme$Parts" "rangeFrom" "I" ≠ Jvm.RoadKit.slotOf Z "com/example/gapstride/gapstride/PartitionScheme$Parts" "rangeTo" "I" := slot_ne (C := "com/example/gapstride/gapstride/PartitionScheme$Parts") (a0 := a0) (Or.inl (ow18 hw)) (Or.inl (ow20 hw)) (by decide) pf_I pf_I
theorem od3_10 : decode prog_19_method_2_code 10 = .ok (.aload_n 0, 1) := by decide +kernel
theorem od3_11 : decode prog_19_method_2_code 11 = .ok (.iconst 0, 1) := by decide +kernel
theorem ow21 {a0 : Array Value} {Z : State} (hw : ∀ d ∈ tables_1, d.before a0 Z = true) : (Jvm.Cond.fieldLink "com/example/gapstride/gapstride/PartitionScheme$Parts" (20 : Nat) "com/example/gapstride/gapstride/PartitionScheme$Parts" "count" "I").before a0 Z = true := hw _ (List.mem_of_getElem? (i := 21) rfl)
theorem od3_12 : decode prog_19_method_2_code 12 = .ok (.putfield 20, 3) := by decide +kernel
theorem sne_11_22 {a0 : Array Value} {Z : State} (hw : ∀ d ∈ tables_1, d.before a0 Z = true) : Jvm.RoadKit.slotOf Z "com/example/gapstride/gapstride/PartitionScheme$Parts" "bounds" "[I" ≠ Jvm.RoadKit.slotOf Z "com/example/gapstride/gapstride/PartitionScheme$Parts" "count" "I" := slot_ne (C := "com/example/gapstride/gapstride/PartitionScheme$Parts") (a0 := a0) (Or.inr (ow11 hw)) (Or.inl (ow22 hw)) (by decide) pf__I pf_I
theorem sne_18_22 {a0 : Array Value} {Z : State} (hw : ∀ d ∈ tables_1, d.before a0 Z = true) : Jvm.RoadKit.slotOf Z "com/example/gapstride/gapstride/PartitionScheme$Parts" "rangeFrom" "I" ≠ Jvm.RoadKit.slotOf Z "com/example/gapstride/gapstride/PartitionScheme$Parts" "count" "I" := slot_ne (C := "com/example/gapstride/gapstride/PartitionScheme$Parts") (a0 := a0) (Or.inl (ow18 hw)) (Or.inl (ow22 hw)) (by decide) pf_I pf_I
theorem sne_20_22 {a0 : Array Value} {Z : State} (hw : ∀ d ∈ tables_1, d.before a0 Z = true) : Jvm.RoadKit.slotOf Z "com/example/gapstride/gapstride/PartitionScheme$Parts" "rangeTo" "I" ≠ Jvm.RoadKit.slotOf Z "com/example/gapstride/gapstride/PartitionScheme$Parts" "count" "I" := slot_ne (C := "com/example/gapstride/gapstride/PartitionScheme$Parts") (a0 := a0) (Or.inl (ow20 hw)) (Or.inl (ow22 hw)) (by decide) pf_I pf_I
theorem od3_15 : decode prog_19_method_2_code 15 = .ok (.return_, 1) := by decide +kernel
theorem ef_own_rm3 (m : MethodId) (x0 : Addr) (x1 : Int32) (x2 : Int32) : entryFrame m #[(.ref x0), (.int x1), (.int x2)] 3 = mkF m 0 #[.val (.ref x0), .val (.int x1), .val (.int x2)] [] := by first | (simp [entryFrame, mkF, argsToLocals, Value.category]; done) | rfl
theorem pn_com_example_gapstride_gapstride_PartitionScheme_Parts_reset__II_V : plainFor (⟨"com/example/gapstride/gapstride/PartitionScheme$Parts", "reset", "(II)V"⟩ : MethodName) = true := plainFor_of_name (by first | (simp [plainName, overriddenIn]; done) | decide +kernel)
set_option maxRecDepth 65536 in
set_option maxHeartbeats 40000000 in
theorem own_rm3 (l : Launch) (Z : State) (a0 : Array Value) (hw : ∀ d ∈ tables_1, d.before a0 Z = true) (n0 : Nat) (hO : Heap) (a : Addr) (b : Addr) (x : Int32) (y : Int32) (u1 : Int32) (u2 : Int32) (u3 : Int32) (Z0 : n0 ≤ hO.size) (E_a : Exa Z hO a "com/example/gapstride/gapstride/PartitionScheme$Parts") (F_a_bounds : Fld Z hO a "com/example/gapstride/gapstride/PartitionScheme$Parts" "bounds" "[I" (.ref b)) (F_a_rangeFrom : Fld Z hO a "com/example/gapstride/gapstride/PartitionScheme$Parts" "rangeFrom" "I" (.int u1)) (F_a_rangeTo : Fld Z hO a "com/example/gapstride/gapstride/PartitionScheme$Parts" "rangeTo" "I" (.int u2)) (F_a_count : Fld Z hO a "com/example/gapstride/gapstride/PartitionScheme$Parts" "count" "I" (.int u3)) (g_a : n0 ≤ a) :
    MeetsW l Z n0 (⟨"com/example/gapstride/gapstride/PartitionScheme$Parts", "reset", "(II)V"⟩ : MethodName) prog_19_method_2_code 3 none ({ frames := 0, cells := 0, slots := 0, locals := 0 } : Room) #[(.ref a), (.int x), (.int y)] hO (RV fun h => Keep hO h [a] ∧ Fld Z h a "com/example/gapstride/gapstride/PartitionScheme$Parts" "bounds" "[I" (.ref b) ∧ Fld Z h a "com/example/gapstride/gapstride/PartitionScheme$Parts" "rangeFrom" "I" (.int x) ∧ Fld Z h a "com/example/gapstride/gapstride/PartitionScheme$Parts" "rangeTo" "I" (.int y) ∧ Fld Z h a "com/example/gapstride/gapstride/PartitionScheme$Parts" "count" "I" (.int (0 : Int32))) := by
  refine MeetsW.intro pn_com_example_gapstride_gapstride_PartitionScheme_Parts_reset__II_V (fun m => ef_own_rm3 m a x y) ?_
  intro W C
  replace C : Ru l Z "com/example/gapstride/gapstride/PartitionScheme$Parts" prog_19_method_2_code 3 none "reset" ({ frames := 0, cells := 0, slots := 0, locals := 0 } : Room) n0 (RV fun h => Keep hO h [a] ∧ Fld Z h a "com/example/gapstride/gapstride/PartitionScheme$Parts" "bounds" "[I" (.ref b) ∧ Fld Z h a "com/example/gapstride/gapstride/PartitionScheme$Parts" "rangeFrom" "I" (.int x) ∧ Fld Z h a "com/example/gapstride/gapstride/PartitionScheme$Parts" "rangeTo" "I" (.int y) ∧ Fld Z h a "com/example/gapstride/gapstride/PartitionScheme$Parts" "count" "I" (.int (0 : Int32))) W := C
  have K : Keep hO hO [a] := Keep.refl _ _
  refine C.aloadN (pc' := 1) od3_0 rfl rfl rfl ?_
  refine C.iloadN (pc' := 2) od3_1 rfl rfl ?_
  refine C.putf (ow17 hw) Via.refl F_a_rangeFrom E_a (Or.inl (ow18 hw)) (ow1 hw) pf_I rfl rfl g_a (pc' := 5) od3_2 rfl (fun h2 X2 => ?_)
  replace F_a_rangeFrom := F_a_rangeFrom.same X2
  replace E_a := E_a.wr X2
  replace F_a_bounds := F_a_bounds.other X2 (Or.inr (sne_11_18 hw))
  replace F_a_rangeTo := F_a_rangeTo.other X2 (Or.inr (sne_20_18 hw))
  replace F_a_count := F_a_count.other X2 (Or.inr (sne_22_18 hw))
  replace K := K.wr X2 (Or.inl (List.mem_of_getElem? (i := 0) rfl))
  refine C.aloadN (pc' := 6) od3_5 rfl rfl rfl ?_
  refine C.iloadN (pc' := 7) od3_6 rfl rfl ?_
  refine C.putf (ow19 hw) Via.refl F_a_rangeTo E_a (Or.inl (ow20 hw)) (ow1 hw) pf_I rfl rfl g_a (pc' := 10) od3_7 rfl (fun h7 X7 => ?_)
  replace F_a_rangeTo := F_a_rangeTo.same X7
  replace E_a := E_a.wr X7
  replace F_a_bounds := F_a_bounds.other X7 (Or.inr (sne_11_20 hw))
  replace F_a_count := F_a_count.other X7 (Or.inr (sne_22_20 hw))
  replace F_a_rangeFrom := F_a_rangeFrom.other X7 (Or.inr (sne_18_20 hw))
  replace K := K.wr X7 (Or.inl (List.mem_of_getElem? (i := 0) rfl))
  refine C.aloadN (pc' := 11) od3_10 rfl rfl rfl ?_
  refine C.iconst (v := 0) (pc' := 12) od3_11 rfl rfl ?_
  refine C.putf (ow21 hw) Via.refl F_a_count E_a (Or.inl (ow22 hw)) (ow1 hw) pf_I rfl rfl g_a (pc' := 15) od3_12 rfl (fun h12 X12 => ?_)
  replace F_a_count := F_a_count.same X12
  replace E_a := E_a.wr X12
  replace F_a_bounds := F_a_bounds.other X12 (Or.inr (sne_11_22 hw))
  replace F_a_rangeFrom := F_a_rangeFrom.other X12 (Or.inr (sne_18_22 hw))
  replace F_a_rangeTo := F_a_rangeTo.other X12 (Or.inr (sne_20_22 hw))
  replace K := K.wr X12 (Or.inl (List.mem_of_getElem? (i := 0) rfl))
  refine C.retV rfl od3_15 (by decide) (by decide) ⟨rfl, ?_⟩
  exact ⟨K, F_a_bounds, F_a_rangeFrom, F_a_rangeTo, F_a_count⟩
theorem od4_0 : decode prog_19_method_5_code 0 = .ok (.aload_n 0, 1) := by decide +kernel
theorem od4_1 : decode prog_19_method_5_code 1 = .ok (.getfield 7, 3) := by decide +kernel
theorem od4_4 : decode prog_19_method_5_code 4 = .ok (.iconst 2, 1) := by decide +kernel
theorem od4_5 : decode prog_19_method_5_code 5 = .ok (.aload_n 0, 1) := by decide +kernel
theorem od4_6 : decode prog_19_method_5_code 6 = .ok (.getfield 20, 3) := by decide +kernel
theorem od4_9 : decode prog_19_method_5_code 9 = .ok (.imul, 1) := by decide +kernel
theorem od4_10 : decode prog_19_method_5_code 10 = .ok (.iload_n 1, 1) := by decide +kernel
theorem od4_11 : decode prog_19_method_5_code 11 = .ok (.iastore, 1) := by decide +kernel
theorem od4_12 : decode prog_19_method_5_code 12 = .ok (.aload_n 0, 1) := by decide +kernel
theorem od4_13 : decode prog_19_method_5_code 13 = .ok (.getfield 7, 3) := by decide +kernel
theorem od4_16 : decode prog_19_method_5_code 16 = .ok (.iconst 2, 1) := by decide +kernel
theorem od4_17 : decode prog_19_method_5_code 17 = .ok (.aload_n 0, 1) := by decide +kernel
theorem od4_18 : decode prog_19_method_5_code 18 = .ok (.getfield 20, 3) := by decide +kernel
theorem od4_21 : decode prog_19_method_5_code 21 = .ok (.imul, 1) := by decide +kernel
theorem od4_22 : decode prog_19_method_5_code 22 = .ok (.iconst 1, 1) := by decide +kernel
theorem od4_23 : decode prog_19_method_5_code 23 = .ok (.iadd, 1) := by decide +kernel
theorem od4_24 : decode prog_19_method_5_code 24 = .ok (.iload_n 2, 1) := by decide +kernel
theorem od4_25 : decode prog_19_method_5_code 25 = .ok (.iastore, 1) := by decide +kernel
theorem od4_26 : decode prog_19_method_5_code 26 = .ok (.aload_n 0, 1) := by decide +kernel
theorem od4_27 : decode prog_19_method_5_code 27 = .ok (.dup, 1) := by decide +kernel
theorem od4_28 : decode prog_19_method_5_code 28 = .ok (.getfield 20, 3) := by decide +kernel
theorem od4_31 : decode prog_19_method_5_code 31 = .ok (.iconst 1, 1) := by decide +kernel
theorem od4_32 : decode prog_19_method_5_code 32 = .ok (.iadd, 1) := by decide +kernel
theorem od4_33 : decode prog_19_method_5_code 33 = .ok (.putfield 20, 3) := by decide +kernel
theorem od4_36 : decode prog_19_method_5_code 36 = .ok (.return_, 1) := by decide +kernel
theorem ef_own_rm4 (m : MethodId) (x0 : Addr) (x1 : Int32) (x2 : Int32) : entryFrame m #[(.ref x0), (.int x1), (.int x2)] 3 = mkF m 0 #[.val (.ref x0), .val (.int x1), .val (.int x2)] [] := by first | (simp [entryFrame, mkF, argsToLocals, Value.category]; done) | rfl
theorem pn_com_example_gapstride_gapstride_PartitionScheme_Parts_add__II_V : plainFor (⟨"com/example/gapstride/gapstride/PartitionScheme$Parts", "add", "(II)V"⟩ : MethodName) = true := plainFor_of_name (by first | (simp [plainName, overriddenIn]; done) | decide +kernel)
set_option maxRecDepth 65536 in
set_option maxHeartbeats 40000000 in
theorem own_rm4 (l : Launch) (Z : State) (a0 : Array Value) (hw : ∀ d ∈ tables_1, d.before a0 Z = true) (n0 : Nat) (hO : Heap) (a : Addr) (b : Addr) (x : Int32) (y : Int32) (u1 : Int32) (u2 : Int32) (c : Int32) (vs : List Int32) (i : Nat) (Z0 : n0 ≤ hO.size) (E_a : Exa Z hO a "com/example/gapstride/gapstride/PartitionScheme$Parts") (F_a_bounds : Fld Z hO a "com/example/gapstride/gapstride/PartitionScheme$Parts" "bounds" "[I" (.ref b)) (F_a_rangeFrom : Fld Z hO a "com/example/gapstride/gapstride/PartitionScheme$Parts" "rangeFrom" "I" (.int u1)) (F_a_rangeTo : Fld Z hO a "com/example/gapstride/gapstride/PartitionScheme$Parts" "rangeTo" "I" (.int u2)) (F_a_count : Fld Z hO a "com/example/gapstride/gapstride/PartitionScheme$Parts" "count" "I" (.int c)) (A_b : AI Z hO b vs) (g_a : n0 ≤ a) (g_b : n0 ≤ b) (ne_a_b : a ≠ b) (hi : 2 * i + 1 < vs.length) (h1 : ((2 : Int32) * c).toInt = ((2 * i : Nat) : Int)) (h2 : ((2 : Int32) * c + 1).toInt = ((2 * i + 1 : Nat) : Int)) :
    MeetsW l Z n0 (⟨"com/example/gapstride/gapstride/PartitionScheme$Parts", "add", "(II)V"⟩ : MethodName) prog_19_method_5_code 3 none ({ frames := 0, cells := 0, slots := 0, locals := 0 } : Room) #[(.ref a), (.int x), (.int y)] hO (RV fun h => Keep hO h [a, b] ∧ Fld Z h a "com/example/gapstride/gapstride/PartitionScheme$Parts" "bounds" "[I" (.ref b) ∧ Fld Z h a "com/example/gapstride/gapstride/PartitionScheme$Parts" "rangeFrom" "I" (.int u1) ∧ Fld Z h a "com/example/gapstride/gapstride/PartitionScheme$Parts" "rangeTo" "I" (.int u2) ∧ Fld Z h a "com/example/gapstride/gapstride/PartitionScheme$Parts" "count" "I" (.int (c + (1 : Int32))) ∧ AI Z h b ((vs.set (2 * i) x).set (2 * i + 1) y)) := by
  refine MeetsW.intro pn_com_example_gapstride_gapstride_PartitionScheme_Parts_add__II_V (fun m => ef_own_rm4 m a x y) ?_
  intro W C
  replace C : Ru l Z "com/example/gapstride/gapstride/PartitionScheme$Parts" prog_19_method_5_code 3 none "add" ({ frames := 0, cells := 0, slots := 0, locals := 0 } : Room) n0 (RV fun h => Keep hO h [a, b] ∧ Fld Z h a "com/example/gapstride/gapstride/PartitionScheme$Parts" "bounds" "[I" (.ref b) ∧ Fld Z h a "com/example/gapstride/gapstride/PartitionScheme$Parts" "rangeFrom" "I" (.int u1) ∧ Fld Z h a "com/example/gapstride/gapstride/PartitionScheme$Parts" "rangeTo" "I" (.int u2) ∧ Fld Z h a "com/example/gapstride/gapstride/PartitionScheme$Parts" "count" "I" (.int (c + (1 : Int32))) ∧ AI Z h b ((vs.set (2 * i) x).set (2 * i + 1) y)) W := C
  have K : Keep hO hO [a, b] := Keep.refl _ _
  refine C.aloadN (pc' := 1) od4_0 rfl rfl rfl ?_
  refine C.getf (ow10 hw) Via.refl F_a_bounds (pc' := 4) od4_1 rfl ?_
  refine C.iconst (v := 2) (pc' := 5) od4_4 rfl rfl ?_
  refine C.aloadN (pc' := 6) od4_5 rfl rfl rfl ?_
  refine C.getf (ow21 hw) Via.refl F_a_count (pc' := 9) od4_6 rfl ?_
  refine C.imul (pc' := 10) od4_9 rfl ?_
  refine C.iloadN (pc' := 11) od4_10 rfl rfl ?_
  refine C.stAI (i := (2 * i)) A_b h1 (Nat.lt_of_succ_lt hi) g_b (pc' := 12) od4_11 rfl (fun h11 X11 B11 => ?_)
  replace E_a := E_a.wr X11
  replace F_a_bounds := F_a_bounds.other X11 (Or.inl ne_a_b)
  replace F_a_rangeFrom := F_a_rangeFrom.other X11 (Or.inl ne_a_b)
  replace F_a_rangeTo := F_a_rangeTo.other X11 (Or.inl ne_a_b)
  replace F_a_count := F_a_count.other X11 (Or.inl ne_a_b)
  have A_b : AI Z h11 b (vs.set (2 * i) x) := B11
  replace K := K.wr X11 (Or.inl (List.mem_of_getElem? (i := 1) rfl))
  refine C.aloadN (pc' := 13) od4_12 rfl rfl rfl ?_
  refine C.getf (ow10 hw) Via.refl F_a_bounds (pc' := 16) od4_13 rfl ?_
  refine C.iconst (v := 2) (pc' := 17) od4_16 rfl rfl ?_
  refine C.aloadN (pc' := 18) od4_17 rfl rfl rfl ?_
  refine C.getf (ow21 hw) Via.refl F_a_count (pc' := 21) od4_18 rfl ?_
  refine C.imul (pc' := 22) od4_21 rfl ?_
  refine C.iconst (v := 1) (pc' := 23) od4_22 rfl rfl ?_
  refine C.iadd (pc' := 24) od4_23 rfl ?_
  refine C.iloadN (pc' := 25) od4_24 rfl rfl ?_
  refine C.stAI (i := (2 * i + 1)) A_b h2 (by rw [List.length_set]; exact hi) g_b (pc' := 26) od4_25 rfl (fun h25 X25 B25 => ?_)
  replace E_a := E_a.wr X25
  replace F_a_bounds := F_a_bounds.other X25 (Or.inl ne_a_b)
  replace F_a_rangeFrom := F_a_rangeFrom.other X25 (Or.inl ne_a_b)
  replace F_a_rangeTo := F_a_rangeTo.other X25 (Or.inl ne_a_b)
  replace F_a_count := F_a_count.other X25 (Or.inl ne_a_b)
  have A_b : AI Z h25 b ((vs.set (2 * i) x).set (2 * i + 1) y) := B25
  replace K := K.wr X25 (Or.inl (List.mem_of_getElem? (i := 1) rfl))
  refine C.aloadN (pc' := 27) od4_26 rfl rfl rfl ?_
  refine C.dup (pc' := 28) od4_27 rfl rfl ?_
  refine C.getf (ow21 hw) Via.refl F_a_count (pc' := 31) od4_28 rfl ?_
  refine C.iconst (v := 1) (pc' := 32) od4_31 rfl rfl ?_
  refine C.iadd (pc' := 33) od4_32 rfl ?_
  refine C.putf (ow21 hw) Via.refl F_a_count E_a (Or.inl (ow22 hw)) (ow1 hw) pf_I rfl rfl g_a (pc' := 36) od4_33 rfl (fun h33 X33 => ?_)
  replace F_a_count := F_a_count.same X33
  replace E_a := E_a.wr X33
  replace F_a_bounds := F_a_bounds.other X33 (Or.inr (sne_11_22 hw))
  replace F_a_rangeFrom := F_a_rangeFrom.other X33 (Or.inr (sne_18_22 hw))
  replace F_a_rangeTo := F_a_rangeTo.other X33 (Or.inr (sne_20_22 hw))
  replace A_b := A_b.other X33 (Ne.symm ne_a_b)
  replace K := K.wr X33 (Or.inl (List.mem_of_getElem? (i := 0) rfl))
  refine C.retV rfl od4_36 (by decide) (by decide) ⟨rfl, ?_⟩
  exact ⟨K, F_a_bounds, F_a_rangeFrom, F_a_rangeTo, F_a_count, A_b⟩
theorem od5_0 : decode method_2_code 0 = .ok (.iload_n 0, 1) := by decide +kernel
theorem od5_1 : decode method_2_code 1 = .ok (.ifCond .ne 5, 3) := by decide +kernel
theorem od5_6 : decode method_2_code 6 = .ok (.iload_n 0, 1) := by decide +kernel
theorem od5_7 : decode method_2_code 7 = .ok (.iconst 1, 1) := by decide +kernel
theorem od5_8 : decode method_2_code 8 = .ok (.if_icmp .ne 5, 3) := by decide +kernel
theorem od5_13 : decode method_2_code 13 = .ok (.iload_n 0, 1) := by decide +kernel
theorem od5_14 : decode method_2_code 14 = .ok (.iconst 2, 1) := by decide +kernel
theorem od5_15 : decode method_2_code 15 = .ok (.if_icmp .ne 5, 3) := by decide +kernel
theorem od5_20 : decode method_2_code 20 = .ok (.iload 4, 2) := by decide +kernel
theorem od5_22 : decode method_2_code 22 = .ok (.ireturn, 1) := by decide +kernel
theorem od5_18 : decode method_2_code 18 = .ok (.iload_n 3, 1) := by decide +kernel
theorem od5_19 : decode method_2_code 19 = .ok (.ireturn, 1) := by decide +kernel
theorem od5_11 : decode method_2_code 11 = .ok (.iload_n 2, 1) := by decide +kernel
theorem od5_12 : decode method_2_code 12 = .ok (.ireturn, 1) := by decide +kernel
theorem od5_4 : decode method_2_code 4 = .ok (.iload_n 1, 1) := by decide +kernel
theorem od5_5 : decode method_2_code 5 = .ok (.ireturn, 1) := by decide +kernel
theorem ef_own_rm5 (m : MethodId) (x0 : Int32) (x1 : Int32) (x2 : Int32) (x3 : Int32) (x4 : Int32) : entryFrame m #[(.int x0), (.int x1), (.int x2), (.int x3), (.int x4)] 5 = mkF m 0 #[.val (.int x0), .val (.int x1), .val (.int x2), .val (.int x3), .val (.int x4)] [] := by first | (simp [entryFrame, mkF, argsToLocals, Value.category]; done) | rfl
theorem pn_com_example_gapstride_gapstride_PartsAddPinLaw_pick__IIIII_I : plainFor (⟨"com/example/gapstride/gapstride/PartsAddPinLaw", "pick", "(IIIII)I"⟩ : MethodName) = true := plainFor_of_name (by first | (simp [plainName, overriddenIn]; done) | decide +kernel)
set_option maxRecDepth 65536 in
set_option maxHeartbeats 40000000 in
theorem own_rm5 (l : Launch) (Z : State) (a0 : Array Value) (hw : ∀ d ∈ tables_1, d.before a0 Z = true) (n0 : Nat) (hO : Heap) (j : Int32) (x0 : Int32) (x1 : Int32) (x2 : Int32) (x3 : Int32) :
    MeetsW l Z n0 (⟨"com/example/gapstride/gapstride/PartsAddPinLaw", "pick", "(IIIII)I"⟩ : MethodName) method_2_code 5 (some .int) ({ frames := 0, cells := 0, slots := 0, locals := 0 } : Room) #[(.int j), (.int x0), (.int x1), (.int x2), (.int x3)] hO (RI fun r h => r = (if j = 0 then x0 else if j = 1 then x1 else if j = 2 then x2 else x3) ∧ h = hO) := by
  refine MeetsW.intro pn_com_example_gapstride_gapstride_PartsAddPinLaw_pick__IIIII_I (fun m => ef_own_rm5 m j x0 x1 x2 x3) ?_
  intro W C
  replace C : Ru l Z "com/example/gapstride/gapstride/PartsAddPinLaw" method_2_code 5 (some .int) "pick" ({ frames := 0, cells := 0, slots := 0, locals := 0 } : Room) n0 (RI fun r h => r = (if j = 0 then x0 else if j = 1 then x1 else if j = 2 then x2 else x3) ∧ h = hO) W := C
  refine C.iloadN (pc' := 1) od5_0 rfl rfl ?_
  refine C.if_ne (pc' := 4) (pt := 6) od5_1 rfl rfl (fun c1 => ?_) (fun c1 => ?_)
  · skip
    refine C.iloadN (pc' := 7) od5_6 rfl rfl ?_
    refine C.iconst (v := 1) (pc' := 8) od5_7 rfl rfl ?_
    refine C.icmp_ne (pc' := 11) (pt := 13) od5_8 rfl rfl (fun c8 => ?_) (fun c8 => ?_)
    · skip
      refine C.iloadN (pc' := 14) od5_13 rfl rfl ?_
      refine C.iconst (v := 2) (pc' := 15) od5_14 rfl rfl ?_
      refine C.icmp_ne (pc' := 18) (pt := 20) od5_15 rfl rfl (fun c15 => ?_) (fun c15 => ?_)
      · skip
        refine C.iload (pc' := 22) od5_20 rfl rfl ?_
        refine C.retI rfl od5_22 (by decide) (by decide) ⟨_, rfl, ?_⟩
        exact ⟨by simp [c1, c8, c15], rfl⟩
      · skip
        refine C.iloadN (pc' := 19) od5_18 rfl rfl ?_
        refine C.retI rfl od5_19 (by decide) (by decide) ⟨_, rfl, ?_⟩
        exact ⟨by simp [c1, c8, c15], rfl⟩
    · skip
      refine C.iloadN (pc' := 12) od5_11 rfl rfl ?_
      refine C.retI rfl od5_12 (by decide) (by decide) ⟨_, rfl, ?_⟩
      exact ⟨by simp [c1, c8], rfl⟩
  · skip
    refine C.iloadN (pc' := 5) od5_4 rfl rfl ?_
    refine C.retI rfl od5_5 (by decide) (by decide) ⟨_, rfl, ?_⟩
    exact ⟨by simp [c1], rfl⟩
theorem od6_0 : decode prog_19_method_6_code 0 = .ok (.aload_n 0, 1) := by decide +kernel
theorem od6_1 : decode prog_19_method_6_code 1 = .ok (.getfield 20, 3) := by decide +kernel
theorem od6_4 : decode prog_19_method_6_code 4 = .ok (.ireturn, 1) := by decide +kernel
theorem ef_own_rm6 (m : MethodId) (x0 : Addr) : entryFrame m #[(.ref x0)] 1 = mkF m 0 #[.val (.ref x0)] [] := by first | (simp [entryFrame, mkF, argsToLocals, Value.category]; done) | rfl
theorem pn_com_example_gapstride_gapstride_PartitionScheme_Parts_count___I : plainFor (⟨"com/example/gapstride/gapstride/PartitionScheme$Parts", "count", "()I"⟩ : MethodName) = true := plainFor_of_name (by first | (simp [plainName, overriddenIn]; done) | decide +kernel)
set_option maxRecDepth 65536 in
set_option maxHeartbeats 40000000 in
theorem own_rm6 (l : Launch) (Z : State) (a0 : Array Value) (hw : ∀ d ∈ tables_1, d.before a0 Z = true) (n0 : Nat) (hO : Heap) (a : Addr) (x : Int32) (F_a_count : Fld Z hO a "com/example/gapstride/gapstride/PartitionScheme$Parts" "count" "I" (.int x)) :
    MeetsW l Z n0 (⟨"com/example/gapstride/gapstride/PartitionScheme$Parts", "count", "()I"⟩ : MethodName) prog_19_method_6_code 1 (some .int) ({ frames := 0, cells := 0, slots := 0, locals := 0 } : Room) #[(.ref a)] hO (RI fun r h => r = x ∧ h = hO) := by
  refine MeetsW.intro pn_com_example_gapstride_gapstride_PartitionScheme_Parts_count___I (fun m => ef_own_rm6 m a) ?_
  intro W C
  replace C : Ru l Z "com/example/gapstride/gapstride/PartitionScheme$Parts" prog_19_method_6_code 1 (some .int) "count" ({ frames := 0, cells := 0, slots := 0, locals := 0 } : Room) n0 (RI fun r h => r = x ∧ h = hO) W := C
  refine C.aloadN (pc' := 1) od6_0 rfl rfl rfl ?_
  refine C.getf (ow21 hw) Via.refl F_a_count (pc' := 4) od6_1 rfl ?_
  refine C.retI rfl od6_4 (by decide) (by decide) ⟨_, rfl, ?_⟩
  exact ⟨(by subst_vars; rfl), rfl⟩
theorem od9_0 : decode prog_19_method_3_code 0 = .ok (.aload_n 0, 1) := by decide +kernel
theorem od9_1 : decode prog_19_method_3_code 1 = .ok (.getfield 13, 3) := by decide +kernel
theorem od9_4 : decode prog_19_method_3_code 4 = .ok (.ireturn, 1) := by decide +kernel
theorem ef_own_rm9 (m : MethodId) (x0 : Addr) : entryFrame m #[(.ref x0)] 1 = mkF m 0 #[.val (.ref x0)] [] := by first | (simp [entryFrame, mkF, argsToLocals, Value.category]; done) | rfl
theorem pn_com_example_gapstride_gapstride_PartitionScheme_Parts_rangeFrom___I : plainFor (⟨"com/example/gapstride/gapstride/PartitionScheme$Parts", "rangeFrom", "()I"⟩ : MethodName) = true := plainFor_of_name (by first | (simp [plainName, overriddenIn]; done) | decide +kernel)
set_option maxRecDepth 65536 in
set_option maxHeartbeats 40000000 in
theorem own_rm9 (l : Launch) (Z : State) (a0 : Array Value) (hw : ∀ d ∈ tables_1, d.before a0 Z = true) (n0 : Nat) (hO : Heap) (a : Addr) (x : Int32) (F_a_rangeFrom : Fld Z hO a "com/example/gapstride/gapstride/PartitionScheme$Parts" "rangeFrom" "I" (.int x)) :
    MeetsW l Z n0 (⟨"com/example/gapstride/gapstride/PartitionScheme$Parts", "rangeFrom", "()I"⟩ : MethodName) prog_19_method_3_code 1 (some .int) ({ frames := 0, cells := 0, slots := 0, locals := 0 } : Room) #[(.ref a)] hO (RI fun r h => r = x ∧ h = hO) := by
  refine MeetsW.intro pn_com_example_gapstride_gapstride_PartitionScheme_Parts_rangeFrom___I (fun m => ef_own_rm9 m a) ?_
  intro W C
  replace C : Ru l Z "com/example/gapstride/gapstride/PartitionScheme$Parts" prog_19_method_3_code 1 (some .int) "rangeFrom" ({ frames := 0, cells := 0, slots := 0, locals := 0 } : Room) n0 (RI fun r h => r = x ∧ h = hO) W := C
  refine C.aloadN (pc' := 1) od9_0 rfl rfl rfl ?_
  refine C.getf (ow17 hw) Via.refl F_a_rangeFrom (pc' := 4) od9_1 rfl ?_
  refine C.retI rfl od9_4 (by decide) (by decide) ⟨_, rfl, ?_⟩
  exact ⟨(by subst_vars; rfl), rfl⟩
theorem od10_0 : decode prog_19_method_4_code 0 = .ok (.aload_n 0, 1) := by decide +kernel
theorem od10_1 : decode prog_19_method_4_code 1 = .ok (.getfield 17, 3) := by decide +kernel
theorem od10_4 : decode prog_19_method_4_code 4 = .ok (.ireturn, 1) := by decide +kernel
theorem ef_own_rm10 (m : MethodId) (x0 : Addr) : entryFrame m #[(.ref x0)] 1 = mkF m 0 #[.val (.ref x0)] [] := by first | (simp [entryFrame, mkF, argsToLocals, Value.category]; done) | rfl
theorem pn_com_example_gapstride_gapstride_PartitionScheme_Parts_rangeTo___I : plainFor (⟨"com/example/gapstride/gapstride/PartitionScheme$Parts", "rangeTo", "()I"⟩ : MethodName) = true := plainFor_of_name (by first | (simp [plainName, overriddenIn]; done) | decide +kernel)
set_option maxRecDepth 65536 in
set_option maxHeartbeats 40000000 in
theorem own_rm10 (l : Launch) (Z : State) (a0 : Array Value) (hw : ∀ d ∈ tables_1, d.before a0 Z = true) (n0 : Nat) (hO : Heap) (a : Addr) (x : Int32) (F_a_rangeTo : Fld Z hO a "com/example/gapstride/gapstride/PartitionScheme$Parts" "rangeTo" "I" (.int x)) :
    MeetsW l Z n0 (⟨"com/example/gapstride/gapstride/PartitionScheme$Parts", "rangeTo", "()I"⟩ : MethodName) prog_19_method_4_code 1 (some .int) ({ frames := 0, cells := 0, slots := 0, locals := 0 } : Room) #[(.ref a)] hO (RI fun r h => r = x ∧ h = hO) := by
  refine MeetsW.intro pn_com_example_gapstride_gapstride_PartitionScheme_Parts_rangeTo___I (fun m => ef_own_rm10 m a) ?_
  intro W C
  replace C : Ru l Z "com/example/gapstride/gapstride/PartitionScheme$Parts" prog_19_method_4_code 1 (some .int) "rangeTo" ({ frames := 0, cells := 0, slots := 0, locals := 0 } : Room) n0 (RI fun r h => r = x ∧ h = hO) W := C
  refine C.aloadN (pc' := 1) od10_0 rfl rfl rfl ?_
  refine C.getf (ow19 hw) Via.refl F_a_rangeTo (pc' := 4) od10_1 rfl ?_
  refine C.retI rfl od10_4 (by decide) (by decide) ⟨_, rfl, ?_⟩
  exact ⟨(by subst_vars; rfl), rfl⟩
theorem od7_0 : decode prog_19_method_7_code 0 = .ok (.aload_n 0, 1) := by decide +kernel
theorem od7_1 : decode prog_19_method_7_code 1 = .ok (.getfield 7, 3) := by decide +kernel
theorem od7_4 : decode prog_19_method_7_code 4 = .ok (.iconst 2, 1) := by decide +kernel
theorem od7_5 : decode prog_19_method_7_code 5 = .ok (.iload_n 1, 1) := by decide +kernel
theorem od7_6 : decode prog_19_method_7_code 6 = .ok (.imul, 1) := by decide +kernel
theorem od7_7 : decode prog_19_method_7_code 7 = .ok (.iaload, 1) := by decide +kernel
theorem od7_8 : decode prog_19_method_7_code 8 = .ok (.ireturn, 1) := by decide +kernel
theorem ef_own_rm7 (m : MethodId) (x0 : Addr) (x1 : Int32) : entryFrame m #[(.ref x0), (.int x1)] 2 = mkF m 0 #[.val (.ref x0), .val (.int x1)] [] := by first | (simp [entryFrame, mkF, argsToLocals, Value.category]; done) | rfl
theorem pn_com_example_gapstride_gapstride_PartitionScheme_Parts_from__I_I : plainFor (⟨"com/example/gapstride/gapstride/PartitionScheme$Parts", "from", "(I)I"⟩ : MethodName) = true := plainFor_of_name (by first | (simp [plainName, overriddenIn]; done) | decide +kernel)
set_option maxRecDepth 65536 in
set_option maxHeartbeats 40000000 in
theorem own_rm7 (l : Launch) (Z : State) (a0 : Array Value) (hw : ∀ d ∈ tables_1, d.before a0 Z = true) (n0 : Nat) (hO : Heap) (a : Addr) (b : Addr) (j : Int32) (vs : List Int32) (i : Nat) (F_a_bounds : Fld Z hO a "com/example/gapstride/gapstride/PartitionScheme$Parts" "bounds" "[I" (.ref b)) (A_b : AI Z hO b vs) (hi : (2 * i) < vs.length) (h1 : ((2 : Int32) * j).toInt = (((2 * i) : Nat) : Int)) :
    MeetsW l Z n0 (⟨"com/example/gapstride/gapstride/PartitionScheme$Parts", "from", "(I)I"⟩ : MethodName) prog_19_method_7_code 2 (some .int) ({ frames := 0, cells := 0, slots := 0, locals := 0 } : Room) #[(.ref a), (.int j)] hO (RI fun r h => r = (vs.getD (2 * i) 0) ∧ h = hO) := by
  refine MeetsW.intro pn_com_example_gapstride_gapstride_PartitionScheme_Parts_from__I_I (fun m => ef_own_rm7 m a j) ?_
  intro W C
  replace C : Ru l Z "com/example/gapstride/gapstride/PartitionScheme$Parts" prog_19_method_7_code 2 (some .int) "from" ({ frames := 0, cells := 0, slots := 0, locals := 0 } : Room) n0 (RI fun r h => r = (vs.getD (2 * i) 0) ∧ h = hO) W := C
  refine C.aloadN (pc' := 1) od7_0 rfl rfl rfl ?_
  refine C.getf (ow10 hw) Via.refl F_a_bounds (pc' := 4) od7_1 rfl ?_
  refine C.iconst (v := 2) (pc' := 5) od7_4 rfl rfl ?_
  refine C.iloadN (pc' := 6) od7_5 rfl rfl ?_
  refine C.imul (pc' := 7) od7_6 rfl ?_
  refine C.ldAI (i := (2 * i)) (v := (vs.getD (2 * i) 0)) A_b h1 (Jvm.OwnP.getD_some hi) (pc' := 8) od7_7 rfl ?_
  refine C.retI rfl od7_8 (by decide) (by decide) ⟨_, rfl, ?_⟩
  exact ⟨rfl, rfl⟩
theorem od8_0 : decode prog_19_method_8_code 0 = .ok (.aload_n 0, 1) := by decide +kernel
theorem od8_1 : decode prog_19_method_8_code 1 = .ok (.getfield 7, 3) := by decide +kernel
theorem od8_4 : decode prog_19_method_8_code 4 = .ok (.iconst 2, 1) := by decide +kernel
theorem od8_5 : decode prog_19_method_8_code 5 = .ok (.iload_n 1, 1) := by decide +kernel
theorem od8_6 : decode prog_19_method_8_code 6 = .ok (.imul, 1) := by decide +kernel
theorem od8_7 : decode prog_19_method_8_code 7 = .ok (.iconst 1, 1) := by decide +kernel
theorem od8_8 : decode prog_19_method_8_code 8 = .ok (.iadd, 1) := by decide +kernel
theorem od8_9 : decode prog_19_method_8_code 9 = .ok (.iaload, 1) := by decide +kernel
theorem od8_10 : decode prog_19_method_8_code 10 = .ok (.ireturn, 1) := by decide +kernel
theorem ef_own_rm8 (m : MethodId) (x0 : Addr) (x1 : Int32) : entryFrame m #[(.ref x0), (.int x1)] 2 = mkF m 0 #[.val (.ref x0), .val (.int x1)] [] := by first | (simp [entryFrame, mkF, argsToLocals, Value.category]; done) | rfl
theorem pn_com_example_gapstride_gapstride_PartitionScheme_Parts_to__I_I : plainFor (⟨"com/example/gapstride/gapstride/PartitionScheme$Parts", "to", "(I)I"⟩ : MethodName) = true := plainFor_of_name (by first | (simp [plainName, overriddenIn]; done) | decide +kernel)
set_option maxRecDepth 65536 in
set_option maxHeartbeats 40000000 in
theorem own_rm8 (l : Launch) (Z : State) (a0 : Array Value) (hw : ∀ d ∈ tables_1, d.before a0 Z = true) (n0 : Nat) (hO : Heap) (a : Addr) (b : Addr) (j : Int32) (vs : List Int32) (i : Nat) (F_a_bounds : Fld Z hO a "com/example/gapstride/gapstride/PartitionScheme$Parts" "bounds" "[I" (.ref b)) (A_b : AI Z hO b vs) (hi : (2 * i + 1) < vs.length) (h1 : ((2 : Int32) * j + 1).toInt = (((2 * i + 1) : Nat) : Int)) :
    MeetsW l Z n0 (⟨"com/example/gapstride/gapstride/PartitionScheme$Parts", "to", "(I)I"⟩ : MethodName) prog_19_method_8_code 2 (some .int) ({ frames := 0, cells := 0, slots := 0, locals := 0 } : Room) #[(.ref a), (.int j)] hO (RI fun r h => r = (vs.getD (2 * i + 1) 0) ∧ h = hO) := by
  refine MeetsW.intro pn_com_example_gapstride_gapstride_PartitionScheme_Parts_to__I_I (fun m => ef_own_rm8 m a j) ?_
  intro W C
  replace C : Ru l Z "com/example/gapstride/gapstride/PartitionScheme$Parts" prog_19_method_8_code 2 (some .int) "to" ({ frames := 0, cells := 0, slots := 0, locals := 0 } : Room) n0 (RI fun r h => r = (vs.getD (2 * i + 1) 0) ∧ h = hO) W := C
  refine C.aloadN (pc' := 1) od8_0 rfl rfl rfl ?_
  refine C.getf (ow10 hw) Via.refl F_a_bounds (pc' := 4) od8_1 rfl ?_
  refine C.iconst (v := 2) (pc' := 5) od8_4 rfl rfl ?_
  refine C.iloadN (pc' := 6) od8_5 rfl rfl ?_
  refine C.imul (pc' := 7) od8_6 rfl ?_
  refine C.iconst (v := 1) (pc' := 8) od8_7 rfl rfl ?_
  refine C.iadd (pc' := 9) od8_8 rfl ?_
  refine C.ldAI (i := (2 * i + 1)) (v := (vs.getD (2 * i + 1) 0)) A_b h1 (Jvm.OwnP.getD_some hi) (pc' := 10) od8_9 rfl ?_
  refine C.retI rfl od8_10 (by decide) (by decide) ⟨_, rfl, ?_⟩
  exact ⟨rfl, rfl⟩
theorem ow0 {a0 : Array Value} {Z : State} (hw : ∀ d ∈ tables_1, d.before a0 Z = true) : (Jvm.Cond.classLink "com/example/gapstride/gapstride/PartsAddPinLaw" (7 : Nat) "com/example/gapstride/gapstride/PartitionScheme$Parts").before a0 Z = true := hw _ (List.mem_of_getElem? (i := 0) rfl)
theorem ow2 {a0 : Array Value} {Z : State} (hw : ∀ d ∈ tables_1, d.before a0 Z = true) : (Jvm.Cond.initialized "com/example/gapstride/gapstride/PartitionScheme$Parts").before a0 Z = true := hw _ (List.mem_of_getElem? (i := 2) rfl)
theorem pd___V : parseMethodDescriptor "()V" = some ⟨[], none⟩ := by decide +kernel
theorem ow5 {a0 : Array Value} {Z : State} (hw : ∀ d ∈ tables_1, d.before a0 Z = true) : (Jvm.Cond.code ({ cls := "com/example/gapstride/gapstride/PartitionScheme$Parts", name := "<init>", desc := "()V" } : Jvm.MethodName) prog_19_method_1_code (1 : Nat) (Option.none : Option Jvm.ClassFile.FieldType)).before a0 Z = true := hw _ (List.mem_of_getElem? (i := 5) rfl)
theorem ow3 {a0 : Array Value} {Z : State} (hw : ∀ d ∈ tables_1, d.before a0 Z = true) : (Jvm.Cond.methodLink "com/example/gapstride/gapstride/PartsAddPinLaw" (9 : Nat) ({ cls := "com/example/gapstride/gapstride/PartitionScheme$Parts", name := "<init>", desc := "()V" } : Jvm.MethodName)).before a0 Z = true := hw _ (List.mem_of_getElem? (i := 3) rfl)
theorem ow4 {a0 : Array Value} {Z : State} (hw : ∀ d ∈ tables_1, d.before a0 Z = true) : (Jvm.Cond.instanceMethod ({ cls := "com/example/gapstride/gapstride/PartitionScheme$Parts", name := "<init>", desc := "()V" } : Jvm.MethodName)).before a0 Z = true := hw _ (List.mem_of_getElem? (i := 4) rfl)
theorem pd__II_V : parseMethodDescriptor "(II)V" = some ⟨[.int, .int], none⟩ := by decide +kernel
theorem ow16 {a0 : Array Value} {Z : State} (hw : ∀ d ∈ tables_1, d.before a0 Z = true) : (Jvm.Cond.code ({ cls := "com/example/gapstride/gapstride/PartitionScheme$Parts", name := "reset", desc := "(II)V" } : Jvm.MethodName) prog_19_method_2_code (3 : Nat) (Option.none : Option Jvm.ClassFile.FieldType)).before a0 Z = true := hw _ (List.mem_of_getElem? (i := 16) rfl)
theorem ow12 {a0 : Array Value} {Z : State} (hw : ∀ d ∈ tables_1, d.before a0 Z = true) : (Jvm.Cond.methodLink "com/example/gapstride/gapstride/PartsAddPinLaw" (10 : Nat) ({ cls := "com/example/gapstride/gapstride/PartitionScheme$Parts", name := "reset", desc := "(II)V" } : Jvm.MethodName)).before a0 Z = true := hw _ (List.mem_of_getElem? (i := 12) rfl)
theorem ow13 {a0 : Array Value} {Z : State} (hw : ∀ d ∈ tables_1, d.before a0 Z = true) : (Jvm.Cond.declares ({ cls := "com/example/gapstride/gapstride/PartitionScheme$Parts", name := "reset", desc := "(II)V" } : Jvm.MethodName)).before a0 Z = true := hw _ (List.mem_of_getElem? (i := 13) rfl)
theorem ow15 {a0 : Array Value} {Z : State} (hw : ∀ d ∈ tables_1, d.before a0 Z = true) : (Jvm.Cond.selects "com/example/gapstride/gapstride/PartitionScheme$Parts" ({ cls := "com/example/gapstride/gapstride/PartitionScheme$Parts", name := "reset", desc := "(II)V" } : Jvm.MethodName) ({ cls := "com/example/gapstride/gapstride/PartitionScheme$Parts", name := "reset", desc := "(II)V" } : Jvm.MethodName)).before a0 Z = true := hw _ (List.mem_of_getElem? (i := 15) rfl)
theorem ow14 {a0 : Array Value} {Z : State} (hw : ∀ d ∈ tables_1, d.before a0 Z = true) : (Jvm.Cond.instanceMethod ({ cls := "com/example/gapstride/gapstride/PartitionScheme$Parts", name := "reset", desc := "(II)V" } : Jvm.MethodName)).before a0 Z = true := hw _ (List.mem_of_getElem? (i := 14) rfl)
theorem ow27 {a0 : Array Value} {Z : State} (hw : ∀ d ∈ tables_1, d.before a0 Z = true) : (Jvm.Cond.code ({ cls := "com/example/gapstride/gapstride/PartitionScheme$Parts", name := "add", desc := "(II)V" } : Jvm.MethodName) prog_19_method_5_code (3 : Nat) (Option.none : Option Jvm.ClassFile.FieldType)).before a0 Z = true := hw _ (List.mem_of_getElem? (i := 27) rfl)
theorem ow23 {a0 : Array Value} {Z : State} (hw : ∀ d ∈ tables_1, d.before a0 Z = true) : (Jvm.Cond.methodLink "com/example/gapstride/gapstride/PartsAddPinLaw" (14 : Nat) ({ cls := "com/example/gapstride/gapstride/PartitionScheme$Parts", name := "add", desc := "(II)V" } : Jvm.MethodName)).before a0 Z = true := hw _ (List.mem_of_getElem? (i := 23) rfl)
theorem ow24 {a0 : Array Value} {Z : State} (hw : ∀ d ∈ tables_1, d.before a0 Z = true) : (Jvm.Cond.declares ({ cls := "com/example/gapstride/gapstride/PartitionScheme$Parts", name := "add", desc := "(II)V" } : Jvm.MethodName)).before a0 Z = true := hw _ (List.mem_of_getElem? (i := 24) rfl)
theorem ow26 {a0 : Array Value} {Z : State} (hw : ∀ d ∈ tables_1, d.before a0 Z = true) : (Jvm.Cond.selects "com/example/gapstride/gapstride/PartitionScheme$Parts" ({ cls := "com/example/gapstride/gapstride/PartitionScheme$Parts", name := "add", desc := "(II)V" } : Jvm.MethodName) ({ cls := "com/example/gapstride/gapstride/PartitionScheme$Parts", name := "add", desc := "(II)V" } : Jvm.MethodName)).before a0 Z = true := hw _ (List.mem_of_getElem? (i := 26) rfl)
theorem ow25 {a0 : Array Value} {Z : State} (hw : ∀ d ∈ tables_1, d.before a0 Z = true) : (Jvm.Cond.instanceMethod ({ cls := "com/example/gapstride/gapstride/PartitionScheme$Parts", name := "add", desc := "(II)V" } : Jvm.MethodName)).before a0 Z = true := hw _ (List.mem_of_getElem? (i := 25) rfl)
theorem pd__IIIII_I : parseMethodDescriptor "(IIIII)I" = some ⟨[.int, .int, .int, .int, .int], some .int⟩ := by decide +kernel
theorem ow31 {a0 : Array Value} {Z : State} (hw : ∀ d ∈ tables_1, d.before a0 Z = true) : (Jvm.Cond.code ({ cls := "com/example/gapstride/gapstride/PartsAddPinLaw", name := "pick", desc := "(IIIII)I" } : Jvm.MethodName) method_2_code (5 : Nat) (Option.some Jvm.ClassFile.FieldType.int)).before a0 Z = true := hw _ (List.mem_of_getElem? (i := 31) rfl)
theorem ow30 {a0 : Array Value} {Z : State} (hw : ∀ d ∈ tables_1, d.before a0 Z = true) : (Jvm.Cond.initialized "com/example/gapstride/gapstride/PartsAddPinLaw").before a0 Z = true := hw _ (List.mem_of_getElem? (i := 30) rfl)
theorem ow28 {a0 : Array Value} {Z : State} (hw : ∀ d ∈ tables_1, d.before a0 Z = true) : (Jvm.Cond.methodLink "com/example/gapstride/gapstride/PartsAddPinLaw" (17 : Nat) ({ cls := "com/example/gapstride/gapstride/PartsAddPinLaw", name := "pick", desc := "(IIIII)I" } : Jvm.MethodName)).before a0 Z = true := hw _ (List.mem_of_getElem? (i := 28) rfl)
theorem ow29 {a0 : Array Value} {Z : State} (hw : ∀ d ∈ tables_1, d.before a0 Z = true) : (Jvm.Cond.static ({ cls := "com/example/gapstride/gapstride/PartsAddPinLaw", name := "pick", desc := "(IIIII)I" } : Jvm.MethodName)).before a0 Z = true := hw _ (List.mem_of_getElem? (i := 29) rfl)
theorem pd___I : parseMethodDescriptor "()I" = some ⟨[], some .int⟩ := by decide +kernel
theorem ow36 {a0 : Array Value} {Z : State} (hw : ∀ d ∈ tables_1, d.before a0 Z = true) : (Jvm.Cond.code ({ cls := "com/example/gapstride/gapstride/PartitionScheme$Parts", name := "count", desc := "()I" } : Jvm.MethodName) prog_19_method_6_code (1 : Nat) (Option.some Jvm.ClassFile.FieldType.int)).before a0 Z = true := hw _ (List.mem_of_getElem? (i := 36) rfl)
theorem ow32 {a0 : Array Value} {Z : State} (hw : ∀ d ∈ tables_1, d.before a0 Z = true) : (Jvm.Cond.methodLink "com/example/gapstride/gapstride/PartsAddPinLaw" (23 : Nat) ({ cls := "com/example/gapstride/gapstride/PartitionScheme$Parts", name := "count", desc := "()I" } : Jvm.MethodName)).before a0 Z = true := hw _ (List.mem_of_getElem? (i := 32) rfl)
theorem ow33 {a0 : Array Value} {Z : State} (hw : ∀ d ∈ tables_1, d.before a0 Z = true) : (Jvm.Cond.declares ({ cls := "com/example/gapstride/gapstride/PartitionScheme$Parts", name := "count", desc := "()I" } : Jvm.MethodName)).before a0 Z = true := hw _ (List.mem_of_getElem? (i := 33) rfl)
theorem ow35 {a0 : Array Value} {Z : State} (hw : ∀ d ∈ tables_1, d.before a0 Z = true) : (Jvm.Cond.selects "com/example/gapstride/gapstride/PartitionScheme$Parts" ({ cls := "com/example/gapstride/gapstride/PartitionScheme$Parts", name := "count", desc := "()I" } : Jvm.MethodName) ({ cls := "com/example/gapstride/gapstride/PartitionScheme$Parts", name := "count", desc := "()I" } : Jvm.MethodName)).before a0 Z = true := hw _ (List.mem_of_getElem? (i := 35) rfl)
theorem ow34 {a0 : Array Value} {Z : State} (hw : ∀ d ∈ tables_1, d.before a0 Z = true) : (Jvm.Cond.instanceMethod ({ cls := "com/example/gapstride/gapstride/PartitionScheme$Parts", name := "count", desc := "()I" } : Jvm.MethodName)).before a0 Z = true := hw _ (List.mem_of_getElem? (i := 34) rfl)
theorem pd__I_I : parseMethodDescriptor "(I)I" = some ⟨[.int], some .int⟩ := by decide +kernel
theorem ow41 {a0 : Array Value} {Z : State} (hw : ∀ d ∈ tables_1, d.before a0 Z = true) : (Jvm.Cond.code ({ cls := "com/example/gapstride/gapstride/PartitionScheme$Parts", name := "from", desc := "(I)I" } : Jvm.MethodName) prog_19_method_7_code (2 : Nat) (Option.some Jvm.ClassFile.FieldType.int)).before a0 Z = true := hw _ (List.mem_of_getElem? (i := 41) rfl)
theorem ow37 {a0 : Array Value} {Z : State} (hw : ∀ d ∈ tables_1, d.before a0 Z = true) : (Jvm.Cond.methodLink "com/example/gapstride/gapstride/PartsAddPinLaw" (27 : Nat) ({ cls := "com/example/gapstride/gapstride/PartitionScheme$Parts", name := "from", desc := "(I)I" } : Jvm.MethodName)).before a0 Z = true := hw _ (List.mem_of_getElem? (i := 37) rfl)
theorem ow38 {a0 : Array Value} {Z : State} (hw : ∀ d ∈ tables_1, d.before a0 Z = true) : (Jvm.Cond.declares ({ cls := "com/example/gapstride/gapstride/PartitionScheme$Parts", name := "from", desc := "(I)I" } : Jvm.MethodName)).before a0 Z = true := hw _ (List.mem_of_getElem? (i := 38) rfl)
theorem ow40 {a0 : Array Value} {Z : State} (hw : ∀ d ∈ tables_1, d.before a0 Z = true) : (Jvm.Cond.selects "com/example/gapstride/gapstride/PartitionScheme$Parts" ({ cls := "com/example/gapstride/gapstride/PartitionScheme$Parts", name := "from", desc := "(I)I" } : Jvm.MethodName) ({ cls := "com/example/gapstride/gapstride/PartitionScheme$Parts", name := "from", desc := "(I)I" } : Jvm.MethodName)).before a0 Z = true := hw _ (List.mem_of_getElem? (i := 40) rfl)
theorem ow39 {a0 : Array Value} {Z : State} (hw : ∀ d ∈ tables_1, d.before a0 Z = true) : (Jvm.Cond.instanceMethod ({ cls := "com/example/gapstride/gapstride/PartitionScheme$Parts", name := "from", desc := "(I)I" } : Jvm.MethodName)).before a0 Z = true := hw _ (List.mem_of_getElem? (i := 39) rfl)
theorem ow46 {a0 : Array Value} {Z : State} (hw : ∀ d ∈ tables_1, d.before a0 Z = true) : (Jvm.Cond.code ({ cls := "com/example/gapstride/gapstride/PartitionScheme$Parts", name := "to", desc := "(I)I" } : Jvm.MethodName) prog_19_method_8_code (2 : Nat) (Option.some Jvm.ClassFile.FieldType.int)).before a0 Z = true := hw _ (List.mem_of_getElem? (i := 46) rfl)
theorem ow42 {a0 : Array Value} {Z : State} (hw : ∀ d ∈ tables_1, d.before a0 Z = true) : (Jvm.Cond.methodLink "com/example/gapstride/gapstride/PartsAddPinLaw" (31 : Nat) ({ cls := "com/example/gapstride/gapstride/PartitionScheme$Parts", name := "to", desc := "(I)I" } : Jvm.MethodName)).before a0 Z = true := hw _ (List.mem_of_getElem? (i := 42) rfl)
theorem ow43 {a0 : Array Value} {Z : State} (hw : ∀ d ∈ tables_1, d.before a0 Z = true) : (Jvm.Cond.declares ({ cls := "com/example/gapstride/gapstride/PartitionScheme$Parts", name := "to", desc := "(I)I" } : Jvm.MethodName)).before a0 Z = true := hw _ (List.mem_of_getElem? (i := 43) rfl)
theorem ow45 {a0 : Array Value} {Z : State} (hw : ∀ d ∈ tables_1, d.before a0 Z = true) : (Jvm.Cond.selects "com/example/gapstride/gapstride/PartitionScheme$Parts" ({ cls := "com/example/gapstride/gapstride/PartitionScheme$Parts", name := "to", desc := "(I)I" } : Jvm.MethodName) ({ cls := "com/example/gapstride/gapstride/PartitionScheme$Parts", name := "to", desc := "(I)I" } : Jvm.MethodName)).before a0 Z = true := hw _ (List.mem_of_getElem? (i := 45) rfl)
theorem ow44 {a0 : Array Value} {Z : State} (hw : ∀ d ∈ tables_1, d.before a0 Z = true) : (Jvm.Cond.instanceMethod ({ cls := "com/example/gapstride/gapstride/PartitionScheme$Parts", name := "to", desc := "(I)I" } : Jvm.MethodName)).before a0 Z = true := hw _ (List.mem_of_getElem? (i := 44) rfl)
theorem ow51 {a0 : Array Value} {Z : State} (hw : ∀ d ∈ tables_1, d.before a0 Z = true) : (Jvm.Cond.code ({ cls := "com/example/gapstride/gapstride/PartitionScheme$Parts", name := "rangeFrom", desc := "()I" } : Jvm.MethodName) prog_19_method_3_code (1 : Nat) (Option.some Jvm.ClassFile.FieldType.int)).before a0 Z = true := hw _ (List.mem_of_getElem? (i := 51) rfl)
theorem ow47 {a0 : Array Value} {Z : State} (hw : ∀ d ∈ tables_1, d.before a0 Z = true) : (Jvm.Cond.methodLink "com/example/gapstride/gapstride/PartsAddPinLaw" (34 : Nat) ({ cls := "com/example/gapstride/gapstride/PartitionScheme$Parts", name := "rangeFrom", desc := "()I" } : Jvm.MethodName)).before a0 Z = true := hw _ (List.mem_of_getElem? (i := 47) rfl)
theorem ow48 {a0 : Array Value} {Z : State} (hw : ∀ d ∈ tables_1, d.before a0 Z = true) : (Jvm.Cond.declares ({ cls := "com/example/gapstride/gapstride/PartitionScheme$Parts", name := "rangeFrom", desc := "()I" } : Jvm.MethodName)).before a0 Z = true := hw _ (List.mem_of_getElem? (i := 48) rfl)
theorem ow50 {a0 : Array Value} {Z : State} (hw : ∀ d ∈ tables_1, d.before a0 Z = true) : (Jvm.Cond.selects "com/example/gapstride/gapstride/PartitionScheme$Parts" ({ cls := "com/example/gapstride/gapstride/PartitionScheme$Parts", name := "rangeFrom", desc := "()I" } : Jvm.MethodName) ({ cls := "com/example/gapstride/gapstride/PartitionScheme$Parts", name := "rangeFrom", desc := "()I" } : Jvm.MethodName)).before a0 Z = true := hw _ (List.mem_of_getElem? (i := 50) rfl)
theorem ow49 {a0 : Array Value} {Z : State} (hw : ∀ d ∈ tables_1, d.before a0 Z = true) : (Jvm.Cond.instanceMethod ({ cls := "com/example/gapstride/gapstride/PartitionScheme$Parts", name := "rangeFrom", desc := "()I" } : Jvm.MethodName)).before a0 Z = true := hw _ (List.mem_of_getElem? (i := 49) rfl)
theorem ow56 {a0 : Array Value} {Z : State} (hw : ∀ d ∈ tables_1, d.before a0 Z = true) : (Jvm.Cond.code ({ cls := "com/example/gapstride/gapstride/PartitionScheme$Parts", name := "rangeTo", desc := "()I" } : Jvm.MethodName) prog_19_method_4_code (1 : Nat) (Option.some Jvm.ClassFile.FieldType.int)).before a0 Z = true := hw _ (List.mem_of_getElem? (i := 56) rfl)
theorem ow52 {a0 : Array Value} {Z : State} (hw : ∀ d ∈ tables_1, d.before a0 Z = true) : (Jvm.Cond.methodLink "com/example/gapstride/gapstride/PartsAddPinLaw" (37 : Nat) ({ cls := "com/example/gapstride/gapstride/PartitionScheme$Parts", name := "rangeTo", desc := "()I" } : Jvm.MethodName)).before a0 Z = true := hw _ (List.mem_of_getElem? (i := 52) rfl)
theorem ow53 {a0 : Array Value} {Z : State} (hw : ∀ d ∈ tables_1, d.before a0 Z = true) : (Jvm.Cond.declares ({ cls := "com/example/gapstride/gapstride/PartitionScheme$Parts", name := "rangeTo", desc := "()I" } : Jvm.MethodName)).before a0 Z = true := hw _ (List.mem_of_getElem? (i := 53) rfl)
theorem ow55 {a0 : Array Value} {Z : State} (hw : ∀ d ∈ tables_1, d.before a0 Z = true) : (Jvm.Cond.selects "com/example/gapstride/gapstride/PartitionScheme$Parts" ({ cls := "com/example/gapstride/gapstride/PartitionScheme$Parts", name := "rangeTo", desc := "()I" } : Jvm.MethodName) ({ cls := "com/example/gapstride/gapstride/PartitionScheme$Parts", name := "rangeTo", desc := "()I" } : Jvm.MethodName)).before a0 Z = true := hw _ (List.mem_of_getElem? (i := 55) rfl)
theorem ow54 {a0 : Array Value} {Z : State} (hw : ∀ d ∈ tables_1, d.before a0 Z = true) : (Jvm.Cond.instanceMethod ({ cls := "com/example/gapstride/gapstride/PartitionScheme$Parts", name := "rangeTo", desc := "()I" } : Jvm.MethodName)).before a0 Z = true := hw _ (List.mem_of_getElem? (i := 54) rfl)
theorem ef_own_rm0 (m : MethodId) (x0 : Int64) (x1 : Int64) (x2 : Int64) (x3 : Int64) (x4 : Int64) (x5 : Int32) : entryFrame m #[(.long x0), (.long x1), (.long x2), (.long x3), (.long x4), (.int x5)] maxLocals = mkF m 0 #[.val (.long x0), .second, .val (.long x1), .second, .val (.long x2), .second, .val (.long x3), .second, .val (.long x4), .second, .val (.int x5), .unset, .unset, .unset, .unset, .unset, .unset, .unset, .unset, .unset, .unset, .unset, .unset, .unset, .unset, .unset] [] := by first | (simp [entryFrame, mkF, argsToLocals, Value.category, maxLocals]; done) | rfl
theorem pn_com_example_gapstride_gapstride_PartsAddPinLaw_law__JJJJJI_Z : plainFor (⟨"com/example/gapstride/gapstride/PartsAddPinLaw", "law", "(JJJJJI)Z"⟩ : MethodName) = true := plainFor_of_name (by first | (simp [plainName, overriddenIn]; done) | decide +kernel)
set_option maxRecDepth 65536 in
set_option maxHeartbeats 40000000 in
theorem own_rm0 (l : Launch) (Z : State) (a0 : Array Value) (hw : ∀ d ∈ tables_1, d.before a0 Z = true) (n0 : Nat) (hO : Heap) (p1 : Int64) (p2 : Int64) (p3 : Int64) (p4 : Int64) (p5 : Int64) (p6 : Int32) (Z0 : n0 ≤ hO.size) :
    MeetsW l Z n0 x code maxLocals ret room_1 #[(.long p1), (.long p2), (.long p3), (.long p4), (.long p5), (.int p6)] hO (RI fun r h => r = 1) := by
  refine MeetsW.intro (show plainFor x = true from pn_com_example_gapstride_gapstride_PartsAddPinLaw_law__JJJJJI_Z) (fun m => ef_own_rm0 m p1 p2 p3 p4 p5 p6) ?_
  intro W C
  replace C : Ru l Z "com/example/gapstride/gapstride/PartsAddPinLaw" code maxLocals ret "law" room_1 n0 (RI fun r h => r = 1) W := C
  have K : Keep hO hO [] := Keep.refl _ _
  refine C.lloadN (pc' := 1) at_0 rfl rfl ?_
  refine C.l2i (pc' := 2) at_1 rfl ?_
  refine C.istore (f := fun v_ => #[.val (.long p1), .second, .val (.long p2), .second, .val (.long p3), .second, .val (.long p4), .second, .val (.long p5), .second, .val (.int p6), .val (.int v_), .unset, .unset, .unset, .unset, .unset, .unset, .unset, .unset, .unset, .unset, .unset, .unset, .unset, .unset]) (pc' := 4) at_2 rfl (fun _ => rfl) (fun v2 e2 => ?_)
  refine C.lloadN (pc' := 5) at_4 rfl rfl ?_
  refine C.bipush (v := 32) (pc' := 7) at_5 rfl rfl ?_
  refine C.lushr (s := 32) (pc' := 8) at_7 rfl (by decide) ?_
  refine C.l2i (pc' := 9) at_8 rfl ?_
  refine C.istore (f := fun v_ => #[.val (.long p1), .second, .val (.long p2), .second, .val (.long p3), .second, .val (.long p4), .second, .val (.long p5), .second, .val (.int p6), .val (.int v2), .val (.int v_), .unset, .unset, .unset, .unset, .unset, .unset, .unset, .unset, .unset, .unset, .unset, .unset, .unset]) (pc' := 11) at_9 rfl (fun _ => rfl) (fun v9 e9 => ?_)
  refine C.lloadN (pc' := 12) at_11 rfl rfl ?_
  refine C.l2i (pc' := 13) at_12 rfl ?_
  refine C.istore (f := fun v_ => #[.val (.long p1), .second, .val (.long p2), .second, .val (.long p3), .second, .val (.long p4), .second, .val (.long p5), .second, .val (.int p6), .val (.int v2), .val (.int v9), .val (.int v_), .unset, .unset, .unset, .unset, .unset, .unset, .unset, .unset, .unset, .unset, .unset, .unset]) (pc' := 15) at_13 rfl (fun _ => rfl) (fun v13 e13 => ?_)
  refine C.lloadN (pc' := 16) at_15 rfl rfl ?_
  refine C.bipush (v := 32) (pc' := 18) at_16 rfl rfl ?_
  refine C.lushr (s := 32) (pc' := 19) at_18 rfl (by decide) ?_
  refine C.l2i (pc' := 20) at_19 rfl ?_
  refine C.istore (f := fun v_ => #[.val (.long p1), .second, .val (.long p2), .second, .val (.long p3), .second, .val (.long p4), .second, .val (.long p5), .second, .val (.int p6), .val (.int v2), .val (.int v9), .val (.int v13), .val (.int v_), .unset, .unset, .unset, .unset, .unset, .unset, .unset, .unset, .unset, .unset, .unset]) (pc' := 22) at_20 rfl (fun _ => rfl) (fun v20 e20 => ?_)
  refine C.lload (pc' := 24) at_22 rfl rfl ?_
  refine C.l2i (pc' := 25) at_24 rfl ?_
  refine C.istore (f := fun v_ => #[.val (.long p1), .second, .val (.long p2), .second, .val (.long p3), .second, .val (.long p4), .second, .val (.long p5), .second, .val (.int p6), .val (.int v2), .val (.int v9), .val (.int v13), .val (.int v20), .val (.int v_), .unset, .unset, .unset, .unset, .unset, .unset, .unset, .unset, .unset, .unset]) (pc' := 27) at_25 rfl (fun _ => rfl) (fun v25 e25 => ?_)
  refine C.lload (pc' := 29) at_27 rfl rfl ?_
  refine C.bipush (v := 32) (pc' := 31) at_29 rfl rfl ?_
  refine C.lushr (s := 32) (pc' := 32) at_31 rfl (by decide) ?_
  refine C.l2i (pc' := 33) at_32 rfl ?_
  refine C.istore (f := fun v_ => #[.val (.long p1), .second, .val (.long p2), .second, .val (.long p3), .second, .val (.long p4), .second, .val (.long p5), .second, .val (.int p6), .val (.int v2), .val (.int v9), .val (.int v13), .val (.int v20), .val (.int v25), .val (.int v_), .unset, .unset, .unset, .unset, .unset, .unset, .unset, .unset, .unset]) (pc' := 35) at_33 rfl (fun _ => rfl) (fun v33 e33 => ?_)
  refine C.lload (pc' := 37) at_35 rfl rfl ?_
  refine C.l2i (pc' := 38) at_37 rfl ?_
  refine C.istore (f := fun v_ => #[.val (.long p1), .second, .val (.long p2), .second, .val (.long p3), .second, .val (.long p4), .second, .val (.long p5), .second, .val (.int p6), .val (.int v2), .val (.int v9), .val (.int v13), .val (.int v20), .val (.int v25), .val (.int v33), .val (.int v_), .unset, .unset, .unset, .unset, .unset, .unset, .unset, .unset]) (pc' := 40) at_38 rfl (fun _ => rfl) (fun v38 e38 => ?_)
  refine C.lload (pc' := 42) at_40 rfl rfl ?_
  refine C.bipush (v := 32) (pc' := 44) at_42 rfl rfl ?_
  refine C.lushr (s := 32) (pc' := 45) at_44 rfl (by decide) ?_
  refine C.l2i (pc' := 46) at_45 rfl ?_
  refine C.istore (f := fun v_ => #[.val (.long p1), .second, .val (.long p2), .second, .val (.long p3), .second, .val (.long p4), .second, .val (.long p5), .second, .val (.int p6), .val (.int v2), .val (.int v9), .val (.int v13), .val (.int v20), .val (.int v25), .val (.int v33), .val (.int v38), .val (.int v_), .unset, .unset, .unset, .unset, .unset, .unset, .unset]) (pc' := 48) at_46 rfl (fun _ => rfl) (fun v46 e46 => ?_)
  refine C.lload (pc' := 50) at_48 rfl rfl ?_
  refine C.l2i (pc' := 51) at_50 rfl ?_
  refine C.istore (f := fun v_ => #[.val (.long p1), .second, .val (.long p2), .second, .val (.long p3), .second, .val (.long p4), .second, .val (.long p5), .second, .val (.int p6), .val (.int v2), .val (.int v9), .val (.int v13), .val (.int v20), .val (.int v25), .val (.int v33), .val (.int v38), .val (.int v46), .val (.int v_), .unset, .unset, .unset, .unset, .unset, .unset]) (pc' := 53) at_51 rfl (fun _ => rfl) (fun v51 e51 => ?_)
  refine C.lload (pc' := 55) at_53 rfl rfl ?_
  refine C.bipush (v := 32) (pc' := 57) at_55 rfl rfl ?_
  refine C.lushr (s := 32) (pc' := 58) at_57 rfl (by decide) ?_
  refine C.l2i (pc' := 59) at_58 rfl ?_
  refine C.istore (f := fun v_ => #[.val (.long p1), .second, .val (.long p2), .second, .val (.long p3), .second, .val (.long p4), .second, .val (.long p5), .second, .val (.int p6), .val (.int v2), .val (.int v9), .val (.int v13), .val (.int v20), .val (.int v25), .val (.int v33), .val (.int v38), .val (.int v46), .val (.int v51), .val (.int v_), .unset, .unset, .unset, .unset, .unset]) (pc' := 61) at_59 rfl (fun _ => rfl) (fun v59 e59 => ?_)
  refine C.iload (pc' := 63) at_61 rfl rfl ?_
  refine C.iconst (v := 3) (pc' := 64) at_63 rfl rfl ?_
  refine C.iand (pc' := 65) at_64 rfl ?_
  refine C.iconst (v := 1) (pc' := 66) at_65 rfl rfl ?_
  refine C.iadd (pc' := 67) at_66 rfl ?_
  refine C.istore (f := fun v_ => #[.val (.long p1), .second, .val (.long p2), .second, .val (.long p3), .second, .val (.long p4), .second, .val (.long p5), .second, .val (.int p6), .val (.int v2), .val (.int v9), .val (.int v13), .val (.int v20), .val (.int v25), .val (.int v33), .val (.int v38), .val (.int v46), .val (.int v51), .val (.int v59), .val (.int v_), .unset, .unset, .unset, .unset]) (pc' := 69) at_67 rfl (fun _ => rfl) (fun v67 e67 => ?_)
  refine C.iload (pc' := 71) at_69 rfl rfl ?_
  refine C.iconst (v := 2) (pc' := 72) at_71 rfl rfl ?_
  refine C.iushr (s := 2) (pc' := 73) at_72 rfl (by decide) ?_
  refine C.iconst (v := 3) (pc' := 74) at_73 rfl rfl ?_
  refine C.iand (pc' := 75) at_74 rfl ?_
  refine C.iload (pc' := 77) at_75 rfl rfl ?_
  refine C.irem (pc' := 78) at_77 rfl (own_nz e67) ?_
  refine C.istore (f := fun v_ => #[.val (.long p1), .second, .val (.long p2), .second, .val (.long p3), .second, .val (.long p4), .second, .val (.long p5), .second, .val (.int p6), .val (.int v2), .val (.int v9), .val (.int v13), .val (.int v20), .val (.int v25), .val (.int v33), .val (.int v38), .val (.int v46), .val (.int v51), .val (.int v59), .val (.int v67), .val (.int v_), .unset, .unset, .unset]) (pc' := 80) at_78 rfl (fun _ => rfl) (fun v78 e78 => ?_)
  refine C.new (ow0 hw) (ow1 hw) (ow2 hw) (pc' := 83) at_80 rfl (by decide) (by decide) (fun h80 b80 hb80 X80 E_b80 D80 => ?_)
  have sz_b80 : hO.size ≤ b80 := by rw [hb80]; exact K.1
  have g_b80 : n0 ≤ b80 := Nat.le_trans Z0 sz_b80
  replace K := K.ext X80
  have F_b80_bounds : Fld Z h80 b80 "com/example/gapstride/gapstride/PartitionScheme$Parts" "bounds" "[I" .null := D80 (Or.inr (ow11 hw)) pf__I
  have F_b80_rangeFrom : Fld Z h80 b80 "com/example/gapstride/gapstride/PartitionScheme$Parts" "rangeFrom" "I" (.int (0 : Int32)) := D80 (Or.inl (ow18 hw)) pf_I
  have F_b80_rangeTo : Fld Z h80 b80 "com/example/gapstride/gapstride/PartitionScheme$Parts" "rangeTo" "I" (.int (0 : Int32)) := D80 (Or.inl (ow20 hw)) pf_I
  have F_b80_count : Fld Z h80 b80 "com/example/gapstride/gapstride/PartitionScheme$Parts" "count" "I" (.int (0 : Int32)) := D80 (Or.inl (ow22 hw)) pf_I
  refine C.dup (pc' := 84) at_83 rfl rfl ?_
  refine C.callc (w := 1) (own_rm1 l Z a0 hw n0 h80 b80 (Nat.le_trans Z0 K.1) E_b80 F_b80_bounds F_b80_rangeFrom F_b80_rangeTo F_b80_count g_b80) rfl (ow3 hw) (ow4 hw) (ow2 hw) (ow5 hw) (pc' := 87) at_84 rfl rfl rfl (by decide) pd___V rfl (by decide) (Nat.le_of_eq rfl) (by decide) (by decide) (by decide) (kV fun h84 q84 => ?_)
  obtain ⟨b84, K84, z84_b84, N84_0, N84_1, N84_2, N84_3, N84_4⟩ := q84
  have ne_b80_b84 : b80 ≠ b84 := Nat.ne_of_lt (Nat.lt_of_lt_of_le (exaLt E_b80) z84_b84)
  have sz_b84 : hO.size ≤ b84 := Nat.le_trans K.1 z84_b84
  have g_b84 : n0 ≤ b84 := Nat.le_trans Z0 sz_b84
  replace E_b80 := E_b80.keep K84
  have F_b80_bounds : Fld Z h84 b80 "com/example/gapstride/gapstride/PartitionScheme$Parts" "bounds" "[I" (.ref b84) := N84_0
  have F_b80_rangeFrom : Fld Z h84 b80 "com/example/gapstride/gapstride/PartitionScheme$Parts" "rangeFrom" "I" (.int (0 : Int32)) := N84_1
  have F_b80_rangeTo : Fld Z h84 b80 "com/example/gapstride/gapstride/PartitionScheme$Parts" "rangeTo" "I" (.int (0 : Int32)) := N84_2
  have F_b80_count : Fld Z h84 b80 "com/example/gapstride/gapstride/PartitionScheme$Parts" "count" "I" (.int (0 : Int32)) := N84_3
  have A_b84 : AI Z h84 b84 [(0 : Int32), (0 : Int32), (0 : Int32), (0 : Int32), (0 : Int32), (0 : Int32), (0 : Int32), (0 : Int32)] := N84_4
  replace K := K.trans K84 (allS (Or.inr sz_b80) all0)
  refine C.astore (l' := #[.val (.long p1), .second, .val (.long p2), .second, .val (.long p3), .second, .val (.long p4), .second, .val (.long p5), .second, .val (.int p6), .val (.int v2), .val (.int v9), .val (.int v13), .val (.int v20), .val (.int v25), .val (.int v33), .val (.int v38), .val (.int v46), .val (.int v51), .val (.int v59), .val (.int v67), .val (.int v78), .val (.ref b80), .unset, .unset]) (pc' := 89) at_87 rfl rfl rfl ?_
  refine C.aload (pc' := 91) at_89 rfl rfl rfl ?_
  refine C.iload (pc' := 93) at_91 rfl rfl ?_
  refine C.iload (pc' := 95) at_93 rfl rfl ?_
  refine C.callv (w := 0) (own_rm3 l Z a0 hw n0 h84 b80 b84 v51 v59 (0 : Int32) (0 : Int32) (0 : Int32) (Nat.le_trans Z0 K.1) E_b80 F_b80_bounds F_b80_rangeFrom F_b80_rangeTo F_b80_count g_b80) E_b80 (ow12 hw) (ow13 hw) (ow15 hw) (ow14 hw) (ow2 hw) (ow16 hw) (pc' := 98) at_95 rfl rfl rfl (by decide) pd__II_V rfl (by decide) (Nat.le_of_eq rfl) (by decide) (by decide) (by decide) (kV fun h95 q95 => ?_)
  obtain ⟨K95, N95_0, N95_1, N95_2, N95_3⟩ := q95
  replace E_b80 := E_b80.keep K95
  replace A_b84 := A_b84.keep K95 (ninS (Ne.symm ne_b80_b84) nin0)
  have F_b80_bounds : Fld Z h95 b80 "com/example/gapstride/gapstride/PartitionScheme$Parts" "bounds" "[I" (.ref b84) := N95_0
  have F_b80_rangeFrom : Fld Z h95 b80 "com/example/gapstride/gapstride/PartitionScheme$Parts" "rangeFrom" "I" (.int v51) := N95_1
  have F_b80_rangeTo : Fld Z h95 b80 "com/example/gapstride/gapstride/PartitionScheme$Parts" "rangeTo" "I" (.int v59) := N95_2
  have F_b80_count : Fld Z h95 b80 "com/example/gapstride/gapstride/PartitionScheme$Parts" "count" "I" (.int (0 : Int32)) := N95_3
  replace K := K.trans K95 (allS (Or.inr sz_b80) all0)
  refine C.aload (pc' := 100) at_98 rfl rfl rfl ?_
  refine C.iload (pc' := 102) at_100 rfl rfl ?_
  refine C.iload (pc' := 104) at_102 rfl rfl ?_
  refine C.callv (w := 0) (own_rm4 l Z a0 hw n0 h95 b80 b84 v2 v9 v51 v59 (0 : Int32) [(0 : Int32), (0 : Int32), (0 : Int32), (0 : Int32), (0 : Int32), (0 : Int32), (0 : Int32), (0 : Int32)] 0 (Nat.le_trans Z0 K.1) E_b80 F_b80_bounds F_b80_rangeFrom F_b80_rangeTo F_b80_count A_b84 g_b80 g_b84 ne_b80_b84 (by show 2 * 0 + 1 < 8; decide) (by decide) (by decide)) E_b80 (ow23 hw) (ow24 hw) (ow26 hw) (ow25 hw) (ow2 hw) (ow27 hw) (pc' := 107) at_104 rfl rfl rfl (by decide) pd__II_V rfl (by decide) (Nat.le_of_eq rfl) (by decide) (by decide) (by decide) (kV fun h104 q104 => ?_)
  obtain ⟨K104, N104_0, N104_1, N104_2, N104_3, N104_4⟩ := q104
  replace E_b80 := E_b80.keep K104
  have F_b80_bounds : Fld Z h104 b80 "com/example/gapstride/gapstride/PartitionScheme$Parts" "bounds" "[I" (.ref b84) := N104_0
  have F_b80_rangeFrom : Fld Z h104 b80 "com/example/gapstride/gapstride/PartitionScheme$Parts" "rangeFrom" "I" (.int v51) := N104_1
  have F_b80_rangeTo : Fld Z h104 b80 "com/example/gapstride/gapstride/PartitionScheme$Parts" "rangeTo" "I" (.int v59) := N104_2
  have F_b80_count : Fld Z h104 b80 "com/example/gapstride/gapstride/PartitionScheme$Parts" "count" "I" (.int ((0 : Int32) + (1 : Int32))) := N104_3
  have A_b84 : AI Z h104 b84 [v2, v9, (0 : Int32), (0 : Int32), (0 : Int32), (0 : Int32), (0 : Int32), (0 : Int32)] := N104_4
  replace K := K.trans K104 (allS (Or.inr sz_b80) (allS (Or.inr sz_b84) all0))
  refine C.iload (pc' := 109) at_107 rfl rfl ?_
  refine C.iconst (v := 2) (pc' := 110) at_109 rfl rfl ?_
  refine C.icmp_lt (pc' := 113) (pt := 122) at_110 rfl rfl (fun c110 => ?_) (fun c110 => ?_)
  · skip
    refine C.iload (pc' := 124) at_122 rfl rfl ?_
    refine C.iconst (v := 3) (pc' := 125) at_124 rfl rfl ?_
    refine C.icmp_lt (pc' := 128) (pt := 137) at_125 rfl rfl (fun c125 => ?_) (fun c125 => absurd (by rw [(own_v1 e67 c110)]; decide) c125)
    refine C.iload (pc' := 139) at_137 rfl rfl ?_
    refine C.iconst (v := 4) (pc' := 140) at_139 rfl rfl ?_
    refine C.icmp_lt (pc' := 143) (pt := 152) at_140 rfl rfl (fun c140 => ?_) (fun c140 => absurd (by rw [(own_v1 e67 c110)]; decide) c140)
    refine C.iload (pc' := 154) at_152 rfl rfl ?_
    refine C.iload (pc' := 156) at_154 rfl rfl ?_
    refine C.iload (pc' := 158) at_156 rfl rfl ?_
    refine C.iload (pc' := 160) at_158 rfl rfl ?_
    refine C.iload (pc' := 162) at_160 rfl rfl ?_
    refine C.calls (w := 0) (own_rm5 l Z a0 hw n0 h104 v78 v2 v13 v25 v38) (ow28 hw) (ow29 hw) (ow30 hw) (ow31 hw) (pc' := 165) at_162 rfl rfl rfl (by decide) pd__IIIII_I rfl (by decide) (Nat.le_of_eq rfl) (by decide) (by decide) (by decide) (kIe ?_)
    refine C.istore (f := fun v_ => #[.val (.long p1), .second, .val (.long p2), .second, .val (.long p3), .second, .val (.long p4), .second, .val (.long p5), .second, .val (.int p6), .val (.int v2), .val (.int v9), .val (.int v13), .val (.int v20), .val (.int v25), .val (.int v33), .val (.int v38), .val (.int v46), .val (.int v51), .val (.int v59), .val (.int v67), .val (.int v78), .val (.ref b80), .val (.int v_), .unset]) (pc' := 167) at_165 rfl (fun _ => rfl) (fun v165 e165 => ?_)
    refine C.iload (pc' := 169) at_167 rfl rfl ?_
    refine C.iload (pc' := 171) at_169 rfl rfl ?_
    refine C.iload (pc' := 173) at_171 rfl rfl ?_
    refine C.iload (pc' := 175) at_173 rfl rfl ?_
    refine C.iload (pc' := 177) at_175 rfl rfl ?_
    refine C.calls (w := 0) (own_rm5 l Z a0 hw n0 h104 v78 v9 v20 v33 v46) (ow28 hw) (ow29 hw) (ow30 hw) (ow31 hw) (pc' := 180) at_177 rfl rfl rfl (by decide) pd__IIIII_I rfl (by decide) (Nat.le_of_eq rfl) (by decide) (by decide) (by decide) (kIe ?_)
    refine C.istore (f := fun v_ => #[.val (.long p1), .second, .val (.long p2), .second, .val (.long p3), .second, .val (.long p4), .second, .val (.long p5), .second, .val (.int p6), .val (.int v2), .val (.int v9), .val (.int v13), .val (.int v20), .val (.int v25), .val (.int v33), .val (.int v38), .val (.int v46), .val (.int v51), .val (.int v59), .val (.int v67), .val (.int v78), .val (.ref b80), .val (.int v165), .val (.int v_)]) (pc' := 182) at_180 rfl (fun _ => rfl) (fun v180 e180 => ?_)
    refine C.aload (pc' := 184) at_182 rfl rfl rfl ?_
    refine C.callv (w := 0) (own_rm6 l Z a0 hw n0 h104 b80 ((0 : Int32) + (1 : Int32)) F_b80_count) E_b80 (ow32 hw) (ow33 hw) (ow35 hw) (ow34 hw) (ow2 hw) (ow36 hw) (pc' := 187) at_184 rfl rfl rfl (by decide) pd___I rfl (by decide) (Nat.le_of_eq rfl) (by decide) (by decide) (by decide) (kIe ?_)
    refine C.iload (pc' := 189) at_187 rfl rfl ?_
    refine C.icmp_ne (pc' := 192) (pt := 240) at_189 rfl rfl (fun c189 => absurd (by rw [(own_v1 e67 c110)]; decide) c189) (fun c189 => ?_)
    refine C.aload (pc' := 194) at_192 rfl rfl rfl ?_
    refine C.iload (pc' := 196) at_194 rfl rfl ?_
    refine C.callv (w := 0) (own_rm7 l Z a0 hw n0 h104 b80 b84 v78 [v2, v9, (0 : Int32), (0 : Int32), (0 : Int32), (0 : Int32), (0 : Int32), (0 : Int32)] v78.toInt.toNat F_b80_bounds A_b84 (Nat.lt_of_succ_lt (own_04 (own_up1 (own_all1 (own_j e67 e78) (own_v1 e67 c110)))).1) (own_04 (own_up1 (own_all1 (own_j e67 e78) (own_v1 e67 c110)))).2.1) E_b80 (ow37 hw) (ow38 hw) (ow40 hw) (ow39 hw) (ow2 hw) (ow41 hw) (pc' := 199) at_196 rfl rfl rfl (by decide) pd__I_I rfl (by decide) (Nat.le_of_eq rfl) (by decide) (by decide) (by decide) (kIe ?_)
    refine C.iload (pc' := 201) at_199 rfl rfl ?_
    refine C.icmp_ne (pc' := 204) (pt := 240) at_201 rfl rfl (fun c201 => absurd (by rw [e165]; exact own_f1 (own_all1 (own_j e67 e78) (own_v1 e67 c110))) c201) (fun c201 => ?_)
    refine C.aload (pc' := 206) at_204 rfl rfl rfl ?_
    refine C.iload (pc' := 208) at_206 rfl rfl ?_
    refine C.callv (w := 0) (own_rm8 l Z a0 hw n0 h104 b80 b84 v78 [v2, v9, (0 : Int32), (0 : Int32), (0 : Int32), (0 : Int32), (0 : Int32), (0 : Int32)] v78.toInt.toNat F_b80_bounds A_b84 (own_04 (own_up1 (own_all1 (own_j e67 e78) (own_v1 e67 c110)))).1 (own_04 (own_up1 (own_all1 (own_j e67 e78) (own_v1 e67 c110)))).2.2) E_b80 (ow42 hw) (ow43 hw) (ow45 hw) (ow44 hw) (ow2 hw) (ow46 hw) (pc' := 211) at_208 rfl rfl rfl (by decide) pd__I_I rfl (by decide) (Nat.le_of_eq rfl) (by decide) (by decide) (by decide) (kIe ?_)
    refine C.iload (pc' := 213) at_211 rfl rfl ?_
    refine C.icmp_ne (pc' := 216) (pt := 240) at_213 rfl rfl (fun c213 => absurd (by rw [e180]; exact own_t1 (own_all1 (own_j e67 e78) (own_v1 e67 c110))) c213) (fun c213 => ?_)
    refine C.aload (pc' := 218) at_216 rfl rfl rfl ?_
    refine C.callv (w := 0) (own_rm9 l Z a0 hw n0 h104 b80 v51 F_b80_rangeFrom) E_b80 (ow47 hw) (ow48 hw) (ow50 hw) (ow49 hw) (ow2 hw) (ow51 hw) (pc' := 221) at_218 rfl rfl rfl (by decide) pd___I rfl (by decide) (Nat.le_of_eq rfl) (by decide) (by decide) (by decide) (kIe ?_)
    refine C.iload (pc' := 223) at_221 rfl rfl ?_
    refine C.icmp_ne (pc' := 226) (pt := 240) at_223 rfl rfl (fun c223 => absurd rfl c223) (fun c223 => ?_)
    refine C.aload (pc' := 228) at_226 rfl rfl rfl ?_
    refine C.callv (w := 0) (own_rm10 l Z a0 hw n0 h104 b80 v59 F_b80_rangeTo) E_b80 (ow52 hw) (ow53 hw) (ow55 hw) (ow54 hw) (ow2 hw) (ow56 hw) (pc' := 231) at_228 rfl rfl rfl (by decide) pd___I rfl (by decide) (Nat.le_of_eq rfl) (by decide) (by decide) (by decide) (kIe ?_)
    refine C.iload (pc' := 233) at_231 rfl rfl ?_
    refine C.icmp_ne (pc' := 236) (pt := 240) at_233 rfl rfl (fun c233 => absurd rfl c233) (fun c233 => ?_)
    refine C.iconst (v := 1) (pc' := 237) at_236 rfl rfl ?_
    refine C.goto (pc' := 241) at_237 rfl ?_
    refine C.retZ (show ret = some .boolean from rfl) (by decide) at_241 (by decide) (by decide) ⟨_, rfl, rfl⟩
  · skip
    refine C.aload (pc' := 115) at_113 rfl rfl rfl ?_
    refine C.iload (pc' := 117) at_115 rfl rfl ?_
    refine C.iload (pc' := 119) at_117 rfl rfl ?_
    refine C.callv (w := 0) (own_rm4 l Z a0 hw n0 h104 b80 b84 v13 v20 v51 v59 ((0 : Int32) + (1 : Int32)) [v2, v9, (0 : Int32), (0 : Int32), (0 : Int32), (0 : Int32), (0 : Int32), (0 : Int32)] 1 (Nat.le_trans Z0 K.1) E_b80 F_b80_bounds F_b80_rangeFrom F_b80_rangeTo F_b80_count A_b84 g_b80 g_b84 ne_b80_b84 (by show 2 * 1 + 1 < 8; decide) (by decide) (by decide)) E_b80 (ow23 hw) (ow24 hw) (ow26 hw) (ow25 hw) (ow2 hw) (ow27 hw) (pc' := 122) at_119 rfl rfl rfl (by decide) pd__II_V rfl (by decide) (Nat.le_of_eq rfl) (by decide) (by decide) (by decide) (kV fun h119 q119 => ?_)
    obtain ⟨K119, N119_0, N119_1, N119_2, N119_3, N119_4⟩ := q119
    replace E_b80 := E_b80.keep K119
    have F_b80_bounds : Fld Z h119 b80 "com/example/gapstride/gapstride/PartitionScheme$Parts" "bounds" "[I" (.ref b84) := N119_0
    have F_b80_rangeFrom : Fld Z h119 b80 "com/example/gapstride/gapstride/PartitionScheme$Parts" "rangeFrom" "I" (.int v51) := N119_1
    have F_b80_rangeTo : Fld Z h119 b80 "com/example/gapstride/gapstride/PartitionScheme$Parts" "rangeTo" "I" (.int v59) := N119_2
    have F_b80_count : Fld Z h119 b80 "com/example/gapstride/gapstride/PartitionScheme$Parts" "count" "I" (.int (((0 : Int32) + (1 : Int32)) + (1 : Int32))) := N119_3
    have A_b84 : AI Z h119 b84 [v2, v9, v13, v20, (0 : Int32), (0 : Int32), (0 : Int32), (0 : Int32)] := N119_4
    replace K := K.trans K119 (allS (Or.inr sz_b80) (allS (Or.inr sz_b84) all0))
    refine C.iload (pc' := 124) at_122 rfl rfl ?_
    refine C.iconst (v := 3) (pc' := 125) at_124 rfl rfl ?_
    refine C.icmp_lt (pc' := 128) (pt := 137) at_125 rfl rfl (fun c125 => ?_) (fun c125 => ?_)
    · skip
      refine C.iload (pc' := 139) at_137 rfl rfl ?_
      refine C.iconst (v := 4) (pc' := 140) at_139 rfl rfl ?_
      refine C.icmp_lt (pc' := 143) (pt := 152) at_140 rfl rfl (fun c140 => ?_) (fun c140 => absurd (by rw [(own_v2 e67 c110 c125)]; decide) c140)
      refine C.iload (pc' := 154) at_152 rfl rfl ?_
      refine C.iload (pc' := 156) at_154 rfl rfl ?_
      refine C.iload (pc' := 158) at_156 rfl rfl ?_
      refine C.iload (pc' := 160) at_158 rfl rfl ?_
      refine C.iload (pc' := 162) at_160 rfl rfl ?_
      refine C.calls (w := 0) (own_rm5 l Z a0 hw n0 h119 v78 v2 v13 v25 v38) (ow28 hw) (ow29 hw) (ow30 hw) (ow31 hw) (pc' := 165) at_162 rfl rfl rfl (by decide) pd__IIIII_I rfl (by decide) (Nat.le_of_eq rfl) (by decide) (by decide) (by decide) (kIe ?_)
      refine C.istore (f := fun v_ => #[.val (.long p1), .second, .val (.long p2), .second, .val (.long p3), .second, .val (.long p4), .second, .val (.long p5), .second, .val (.int p6), .val (.int v2), .val (.int v9), .val (.int v13), .val (.int v20), .val (.int v25), .val (.int v33), .val (.int v38), .val (.int v46), .val (.int v51), .val (.int v59), .val (.int v67), .val (.int v78), .val (.ref b80), .val (.int v_), .unset]) (pc' := 167) at_165 rfl (fun _ => rfl) (fun v165 e165 => ?_)
      refine C.iload (pc' := 169) at_167 rfl rfl ?_
      refine C.iload (pc' := 171) at_169 rfl rfl ?_
      refine C.iload (pc' := 173) at_171 rfl rfl ?_
      refine C.iload (pc' := 175) at_173 rfl rfl ?_
      refine C.iload (pc' := 177) at_175 rfl rfl ?_
      refine C.calls (w := 0) (own_rm5 l Z a0 hw n0 h119 v78 v9 v20 v33 v46) (ow28 hw) (ow29 hw) (ow30 hw) (ow31 hw) (pc' := 180) at_177 rfl rfl rfl (by decide) pd__IIIII_I rfl (by decide) (Nat.le_of_eq rfl) (by decide) (by decide) (by decide) (kIe ?_)
      refine C.istore (f := fun v_ => #[.val (.long p1), .second, .val (.long p2), .second, .val (.long p3), .second, .val (.long p4), .second, .val (.long p5), .second, .val (.int p6), .val (.int v2), .val (.int v9), .val (.int v13), .val (.int v20), .val (.int v25), .val (.int v33), .val (.int v38), .val (.int v46), .val (.int v51), .val (.int v59), .val (.int v67), .val (.int v78), .val (.ref b80), .val (.int v165), .val (.int v_)]) (pc' := 182) at_180 rfl (fun _ => rfl) (fun v180 e180 => ?_)
      refine C.aload (pc' := 184) at_182 rfl rfl rfl ?_
      refine C.callv (w := 0) (own_rm6 l Z a0 hw n0 h119 b80 (((0 : Int32) + (1 : Int32)) + (1 : Int32)) F_b80_count) E_b80 (ow32 hw) (ow33 hw) (ow35 hw) (ow34 hw) (ow2 hw) (ow36 hw) (pc' := 187) at_184 rfl rfl rfl (by decide) pd___I rfl (by decide) (Nat.le_of_eq rfl) (by decide) (by decide) (by decide) (kIe ?_)
      refine C.iload (pc' := 189) at_187 rfl rfl ?_
      refine C.icmp_ne (pc' := 192) (pt := 240) at_189 rfl rfl (fun c189 => absurd (by rw [(own_v2 e67 c110 c125)]; decide) c189) (fun c189 => ?_)
      refine C.aload (pc' := 194) at_192 rfl rfl rfl ?_
      refine C.iload (pc' := 196) at_194 rfl rfl ?_
      refine C.callv (w := 0) (own_rm7 l Z a0 hw n0 h119 b80 b84 v78 [v2, v9, v13, v20, (0 : Int32), (0 : Int32), (0 : Int32), (0 : Int32)] v78.toInt.toNat F_b80_bounds A_b84 (Nat.lt_of_succ_lt (own_04 (own_up2 (own_all2 (own_j e67 e78) (own_v2 e67 c110 c125)))).1) (own_04 (own_up2 (own_all2 (own_j e67 e78) (own_v2 e67 c110 c125)))).2.1) E_b80 (ow37 hw) (ow38 hw) (ow40 hw) (ow39 hw) (ow2 hw) (ow41 hw) (pc' := 199) at_196 rfl rfl rfl (by decide) pd__I_I rfl (by decide) (Nat.le_of_eq rfl) (by decide) (by decide) (by decide) (kIe ?_)
      refine C.iload (pc' := 201) at_199 rfl rfl ?_
      refine C.icmp_ne (pc' := 204) (pt := 240) at_201 rfl rfl (fun c201 => absurd (by rw [e165]; exact own_f2 (own_all2 (own_j e67 e78) (own_v2 e67 c110 c125))) c201) (fun c201 => ?_)
      refine C.aload (pc' := 206) at_204 rfl rfl rfl ?_
      refine C.iload (pc' := 208) at_206 rfl rfl ?_
      refine C.callv (w := 0) (own_rm8 l Z a0 hw n0 h119 b80 b84 v78 [v2, v9, v13, v20, (0 : Int32), (0 : Int32), (0 : Int32), (0 : Int32)] v78.toInt.toNat F_b80_bounds A_b84 (own_04 (own_up2 (own_all2 (own_j e67 e78) (own_v2 e67 c110 c125)))).1 (own_04 (own_up2 (own_all2 (own_j e67 e78) (own_v2 e67 c110 c125)))).2.2) E_b80 (ow42 hw) (ow43 hw) (ow45 hw) (ow44 hw) (ow2 hw) (ow46 hw) (pc' := 211) at_208 rfl rfl rfl (by decide) pd__I_I rfl (by decide) (Nat.le_of_eq rfl) (by decide) (by decide) (by decide) (kIe ?_)
      refine C.iload (pc' := 213) at_211 rfl rfl ?_
      refine C.icmp_ne (pc' := 216) (pt := 240) at_213 rfl rfl (fun c213 => absurd (by rw [e180]; exact own_t2 (own_all2 (own_j e67 e78) (own_v2 e67 c110 c125))) c213) (fun c213 => ?_)
      refine C.aload (pc' := 218) at_216 rfl rfl rfl ?_
      refine C.callv (w := 0) (own_rm9 l Z a0 hw n0 h119 b80 v51 F_b80_rangeFrom) E_b80 (ow47 hw) (ow48 hw) (ow50 hw) (ow49 hw) (ow2 hw) (ow51 hw) (pc' := 221) at_218 rfl rfl rfl (by decide) pd___I rfl (by decide) (Nat.le_of_eq rfl) (by decide) (by decide) (by decide) (kIe ?_)
      refine C.iload (pc' := 223) at_221 rfl rfl ?_
      refine C.icmp_ne (pc' := 226) (pt := 240) at_223 rfl rfl (fun c223 => absurd rfl c223) (fun c223 => ?_)
      refine C.aload (pc' := 228) at_226 rfl rfl rfl ?_
      refine C.callv (w := 0) (own_rm10 l Z a0 hw n0 h119 b80 v59 F_b80_rangeTo) E_b80 (ow52 hw) (ow53 hw) (ow55 hw) (ow54 hw) (ow2 hw) (ow56 hw) (pc' := 231) at_228 rfl rfl rfl (by decide) pd___I rfl (by decide) (Nat.le_of_eq rfl) (by decide) (by decide) (by decide) (kIe ?_)
      refine C.iload (pc' := 233) at_231 rfl rfl ?_
      refine C.icmp_ne (pc' := 236) (pt := 240) at_233 rfl rfl (fun c233 => absurd rfl c233) (fun c233 => ?_)
      refine C.iconst (v := 1) (pc' := 237) at_236 rfl rfl ?_
      refine C.goto (pc' := 241) at_237 rfl ?_
      refine C.retZ (show ret = some .boolean from rfl) (by decide) at_241 (by decide) (by decide) ⟨_, rfl, rfl⟩
    · skip
      refine C.aload (pc' := 130) at_128 rfl rfl rfl ?_
      refine C.iload (pc' := 132) at_130 rfl rfl ?_
      refine C.iload (pc' := 134) at_132 rfl rfl ?_
      refine C.callv (w := 0) (own_rm4 l Z a0 hw n0 h119 b80 b84 v25 v33 v51 v59 (((0 : Int32) + (1 : Int32)) + (1 : Int32)) [v2, v9, v13, v20, (0 : Int32), (0 : Int32), (0 : Int32), (0 : Int32)] 2 (Nat.le_trans Z0 K.1) E_b80 F_b80_bounds F_b80_rangeFrom F_b80_rangeTo F_b80_count A_b84 g_b80 g_b84 ne_b80_b84 (by show 2 * 2 + 1 < 8; decide) (by decide) (by decide)) E_b80 (ow23 hw) (ow24 hw) (ow26 hw) (ow25 hw) (ow2 hw) (ow27 hw) (pc' := 137) at_134 rfl rfl rfl (by decide) pd__II_V rfl (by decide) (Nat.le_of_eq rfl) (by decide) (by decide) (by decide) (kV fun h134 q134 => ?_)
      obtain ⟨K134, N134_0, N134_1, N134_2, N134_3, N134_4⟩ := q134
      replace E_b80 := E_b80.keep K134
      have F_b80_bounds : Fld Z h134 b80 "com/example/gapstride/gapstride/PartitionScheme$Parts" "bounds" "[I" (.ref b84) := N134_0
      have F_b80_rangeFrom : Fld Z h134 b80 "com/example/gapstride/gapstride/PartitionScheme$Parts" "rangeFrom" "I" (.int v51) := N134_1
      have F_b80_rangeTo : Fld Z h134 b80 "com/example/gapstride/gapstride/PartitionScheme$Parts" "rangeTo" "I" (.int v59) := N134_2
      have F_b80_count : Fld Z h134 b80 "com/example/gapstride/gapstride/PartitionScheme$Parts" "count" "I" (.int ((((0 : Int32) + (1 : Int32)) + (1 : Int32)) + (1 : Int32))) := N134_3
      have A_b84 : AI Z h134 b84 [v2, v9, v13, v20, v25, v33, (0 : Int32), (0 : Int32)] := N134_4
      replace K := K.trans K134 (allS (Or.inr sz_b80) (allS (Or.inr sz_b84) all0))
      refine C.iload (pc' := 139) at_137 rfl rfl ?_
      refine C.iconst (v := 4) (pc' := 140) at_139 rfl rfl ?_
      refine C.icmp_lt (pc' := 143) (pt := 152) at_140 rfl rfl (fun c140 => ?_) (fun c140 => ?_)
      · skip
        refine C.iload (pc' := 154) at_152 rfl rfl ?_
        refine C.iload (pc' := 156) at_154 rfl rfl ?_
        refine C.iload (pc' := 158) at_156 rfl rfl ?_
        refine C.iload (pc' := 160) at_158 rfl rfl ?_
        refine C.iload (pc' := 162) at_160 rfl rfl ?_
        refine C.calls (w := 0) (own_rm5 l Z a0 hw n0 h134 v78 v2 v13 v25 v38) (ow28 hw) (ow29 hw) (ow30 hw) (ow31 hw) (pc' := 165) at_162 rfl rfl rfl (by decide) pd__IIIII_I rfl (by decide) (Nat.le_of_eq rfl) (by decide) (by decide) (by decide) (kIe ?_)
        refine C.istore (f := fun v_ => #[.val (.long p1), .second, .val (.long p2), .second, .val (.long p3), .second, .val (.long p4), .second, .val (.long p5), .second, .val (.int p6), .val (.int v2), .val (.int v9), .val (.int v13), .val (.int v20), .val (.int v25), .val (.int v33), .val (.int v38), .val (.int v46), .val (.int v51), .val (.int v59), .val (.int v67), .val (.int v78), .val (.ref b80), .val (.int v_), .unset]) (pc' := 167) at_165 rfl (fun _ => rfl) (fun v165 e165 => ?_)
        refine C.iload (pc' := 169) at_167 rfl rfl ?_
        refine C.iload (pc' := 171) at_169 rfl rfl ?_
        refine C.iload (pc' := 173) at_171 rfl rfl ?_
        refine C.iload (pc' := 175) at_173 rfl rfl ?_
        refine C.iload (pc' := 177) at_175 rfl rfl ?_
        refine C.calls (w := 0) (own_rm5 l Z a0 hw n0 h134 v78 v9 v20 v33 v46) (ow28 hw) (ow29 hw) (ow30 hw) (ow31 hw) (pc' := 180) at_177 rfl rfl rfl (by decide) pd__IIIII_I rfl (by decide) (Nat.le_of_eq rfl) (by decide) (by decide) (by decide) (kIe ?_)
        refine C.istore (f := fun v_ => #[.val (.long p1), .second, .val (.long p2), .second, .val (.long p3), .second, .val (.long p4), .second, .val (.long p5), .second, .val (.int p6), .val (.int v2), .val (.int v9), .val (.int v13), .val (.int v20), .val (.int v25), .val (.int v33), .val (.int v38), .val (.int v46), .val (.int v51), .val (.int v59), .val (.int v67), .val (.int v78), .val (.ref b80), .val (.int v165), .val (.int v_)]) (pc' := 182) at_180 rfl (fun _ => rfl) (fun v180 e180 => ?_)
        refine C.aload (pc' := 184) at_182 rfl rfl rfl ?_
        refine C.callv (w := 0) (own_rm6 l Z a0 hw n0 h134 b80 ((((0 : Int32) + (1 : Int32)) + (1 : Int32)) + (1 : Int32)) F_b80_count) E_b80 (ow32 hw) (ow33 hw) (ow35 hw) (ow34 hw) (ow2 hw) (ow36 hw) (pc' := 187) at_184 rfl rfl rfl (by decide) pd___I rfl (by decide) (Nat.le_of_eq rfl) (by decide) (by decide) (by decide) (kIe ?_)
        refine C.iload (pc' := 189) at_187 rfl rfl ?_
        refine C.icmp_ne (pc' := 192) (pt := 240) at_189 rfl rfl (fun c189 => absurd (by rw [(own_v3 e67 c125 c140)]; decide) c189) (fun c189 => ?_)
        refine C.aload (pc' := 194) at_192 rfl rfl rfl ?_
        refine C.iload (pc' := 196) at_194 rfl rfl ?_
        refine C.callv (w := 0) (own_rm7 l Z a0 hw n0 h134 b80 b84 v78 [v2, v9, v13, v20, v25, v33, (0 : Int32), (0 : Int32)] v78.toInt.toNat F_b80_bounds A_b84 (Nat.lt_of_succ_lt (own_04 (own_up3 (own_all3 (own_j e67 e78) (own_v3 e67 c125 c140)))).1) (own_04 (own_up3 (own_all3 (own_j e67 e78) (own_v3 e67 c125 c140)))).2.1) E_b80 (ow37 hw) (ow38 hw) (ow40 hw) (ow39 hw) (ow2 hw) (ow41 hw) (pc' := 199) at_196 rfl rfl rfl (by decide) pd__I_I rfl (by decide) (Nat.le_of_eq rfl) (by decide) (by decide) (by decide) (kIe ?_)
        refine C.iload (pc' := 201) at_199 rfl rfl ?_
        refine C.icmp_ne (pc' := 204) (pt := 240) at_201 rfl rfl (fun c201 => absurd (by rw [e165]; exact own_f3 (own_all3 (own_j e67 e78) (own_v3 e67 c125 c140))) c201) (fun c201 => ?_)
        refine C.aload (pc' := 206) at_204 rfl rfl rfl ?_
        refine C.iload (pc' := 208) at_206 rfl rfl ?_
        refine C.callv (w := 0) (own_rm8 l Z a0 hw n0 h134 b80 b84 v78 [v2, v9, v13, v20, v25, v33, (0 : Int32), (0 : Int32)] v78.toInt.toNat F_b80_bounds A_b84 (own_04 (own_up3 (own_all3 (own_j e67 e78) (own_v3 e67 c125 c140)))).1 (own_04 (own_up3 (own_all3 (own_j e67 e78) (own_v3 e67 c125 c140)))).2.2) E_b80 (ow42 hw) (ow43 hw) (ow45 hw) (ow44 hw) (ow2 hw) (ow46 hw) (pc' := 211) at_208 rfl rfl rfl (by decide) pd__I_I rfl (by decide) (Nat.le_of_eq rfl) (by decide) (by decide) (by decide) (kIe ?_)
        refine C.iload (pc' := 213) at_211 rfl rfl ?_
        refine C.icmp_ne (pc' := 216) (pt := 240) at_213 rfl rfl (fun c213 => absurd (by rw [e180]; exact own_t3 (own_all3 (own_j e67 e78) (own_v3 e67 c125 c140))) c213) (fun c213 => ?_)
        refine C.aload (pc' := 218) at_216 rfl rfl rfl ?_
        refine C.callv (w := 0) (own_rm9 l Z a0 hw n0 h134 b80 v51 F_b80_rangeFrom) E_b80 (ow47 hw) (ow48 hw) (ow50 hw) (ow49 hw) (ow2 hw) (ow51 hw) (pc' := 221) at_218 rfl rfl rfl (by decide) pd___I rfl (by decide) (Nat.le_of_eq rfl) (by decide) (by decide) (by decide) (kIe ?_)
        refine C.iload (pc' := 223) at_221 rfl rfl ?_
        refine C.icmp_ne (pc' := 226) (pt := 240) at_223 rfl rfl (fun c223 => absurd rfl c223) (fun c223 => ?_)
        refine C.aload (pc' := 228) at_226 rfl rfl rfl ?_
        refine C.callv (w := 0) (own_rm10 l Z a0 hw n0 h134 b80 v59 F_b80_rangeTo) E_b80 (ow52 hw) (ow53 hw) (ow55 hw) (ow54 hw) (ow2 hw) (ow56 hw) (pc' := 231) at_228 rfl rfl rfl (by decide) pd___I rfl (by decide) (Nat.le_of_eq rfl) (by decide) (by decide) (by decide) (kIe ?_)
        refine C.iload (pc' := 233) at_231 rfl rfl ?_
        refine C.icmp_ne (pc' := 236) (pt := 240) at_233 rfl rfl (fun c233 => absurd rfl c233) (fun c233 => ?_)
        refine C.iconst (v := 1) (pc' := 237) at_236 rfl rfl ?_
        refine C.goto (pc' := 241) at_237 rfl ?_
        refine C.retZ (show ret = some .boolean from rfl) (by decide) at_241 (by decide) (by decide) ⟨_, rfl, rfl⟩
      · skip
        refine C.aload (pc' := 145) at_143 rfl rfl rfl ?_
        refine C.iload (pc' := 147) at_145 rfl rfl ?_
        refine C.iload (pc' := 149) at_147 rfl rfl ?_
        refine C.callv (w := 0) (own_rm4 l Z a0 hw n0 h134 b80 b84 v38 v46 v51 v59 ((((0 : Int32) + (1 : Int32)) + (1 : Int32)) + (1 : Int32)) [v2, v9, v13, v20, v25, v33, (0 : Int32), (0 : Int32)] 3 (Nat.le_trans Z0 K.1) E_b80 F_b80_bounds F_b80_rangeFrom F_b80_rangeTo F_b80_count A_b84 g_b80 g_b84 ne_b80_b84 (by show 2 * 3 + 1 < 8; decide) (by decide) (by decide)) E_b80 (ow23 hw) (ow24 hw) (ow26 hw) (ow25 hw) (ow2 hw) (ow27 hw) (pc' := 152) at_149 rfl rfl rfl (by decide) pd__II_V rfl (by decide) (Nat.le_of_eq rfl) (by decide) (by decide) (by decide) (kV fun h149 q149 => ?_)
        obtain ⟨K149, N149_0, N149_1, N149_2, N149_3, N149_4⟩ := q149
        replace E_b80 := E_b80.keep K149
        have F_b80_bounds : Fld Z h149 b80 "com/example/gapstride/gapstride/PartitionScheme$Parts" "bounds" "[I" (.ref b84) := N149_0
        have F_b80_rangeFrom : Fld Z h149 b80 "com/example/gapstride/gapstride/PartitionScheme$Parts" "rangeFrom" "I" (.int v51) := N149_1
        have F_b80_rangeTo : Fld Z h149 b80 "com/example/gapstride/gapstride/PartitionScheme$Parts" "rangeTo" "I" (.int v59) := N149_2
        have F_b80_count : Fld Z h149 b80 "com/example/gapstride/gapstride/PartitionScheme$Parts" "count" "I" (.int (((((0 : Int32) + (1 : Int32)) + (1 : Int32)) + (1 : Int32)) + (1 : Int32))) := N149_3
        have A_b84 : AI Z h149 b84 [v2, v9, v13, v20, v25, v33, v38, v46] := N149_4
        replace K := K.trans K149 (allS (Or.inr sz_b80) (allS (Or.inr sz_b84) all0))
        refine C.iload (pc' := 154) at_152 rfl rfl ?_
        refine C.iload (pc' := 156) at_154 rfl rfl ?_
        refine C.iload (pc' := 158) at_156 rfl rfl ?_
        refine C.iload (pc' := 160) at_158 rfl rfl ?_
        refine C.iload (pc' := 162) at_160 rfl rfl ?_
        refine C.calls (w := 0) (own_rm5 l Z a0 hw n0 h149 v78 v2 v13 v25 v38) (ow28 hw) (ow29 hw) (ow30 hw) (ow31 hw) (pc' := 165) at_162 rfl rfl rfl (by decide) pd__IIIII_I rfl (by decide) (Nat.le_of_eq rfl) (by decide) (by decide) (by decide) (kIe ?_)
        refine C.istore (f := fun v_ => #[.val (.long p1), .second, .val (.long p2), .second, .val (.long p3), .second, .val (.long p4), .second, .val (.long p5), .second, .val (.int p6), .val (.int v2), .val (.int v9), .val (.int v13), .val (.int v20), .val (.int v25), .val (.int v33), .val (.int v38), .val (.int v46), .val (.int v51), .val (.int v59), .val (.int v67), .val (.int v78), .val (.ref b80), .val (.int v_), .unset]) (pc' := 167) at_165 rfl (fun _ => rfl) (fun v165 e165 => ?_)
        refine C.iload (pc' := 169) at_167 rfl rfl ?_
        refine C.iload (pc' := 171) at_169 rfl rfl ?_
        refine C.iload (pc' := 173) at_171 rfl rfl ?_
        refine C.iload (pc' := 175) at_173 rfl rfl ?_
        refine C.iload (pc' := 177) at_175 rfl rfl ?_
        refine C.calls (w := 0) (own_rm5 l Z a0 hw n0 h149 v78 v9 v20 v33 v46) (ow28 hw) (ow29 hw) (ow30 hw) (ow31 hw) (pc' := 180) at_177 rfl rfl rfl (by decide) pd__IIIII_I rfl (by decide) (Nat.le_of_eq rfl) (by decide) (by decide) (by decide) (kIe ?_)
        refine C.istore (f := fun v_ => #[.val (.long p1), .second, .val (.long p2), .second, .val (.long p3), .second, .val (.long p4), .second, .val (.long p5), .second, .val (.int p6), .val (.int v2), .val (.int v9), .val (.int v13), .val (.int v20), .val (.int v25), .val (.int v33), .val (.int v38), .val (.int v46), .val (.int v51), .val (.int v59), .val (.int v67), .val (.int v78), .val (.ref b80), .val (.int v165), .val (.int v_)]) (pc' := 182) at_180 rfl (fun _ => rfl) (fun v180 e180 => ?_)
        refine C.aload (pc' := 184) at_182 rfl rfl rfl ?_
        refine C.callv (w := 0) (own_rm6 l Z a0 hw n0 h149 b80 (((((0 : Int32) + (1 : Int32)) + (1 : Int32)) + (1 : Int32)) + (1 : Int32)) F_b80_count) E_b80 (ow32 hw) (ow33 hw) (ow35 hw) (ow34 hw) (ow2 hw) (ow36 hw) (pc' := 187) at_184 rfl rfl rfl (by decide) pd___I rfl (by decide) (Nat.le_of_eq rfl) (by decide) (by decide) (by decide) (kIe ?_)
        refine C.iload (pc' := 189) at_187 rfl rfl ?_
        refine C.icmp_ne (pc' := 192) (pt := 240) at_189 rfl rfl (fun c189 => absurd (by rw [(own_v4 e67 c140)]; decide) c189) (fun c189 => ?_)
        refine C.aload (pc' := 194) at_192 rfl rfl rfl ?_
        refine C.iload (pc' := 196) at_194 rfl rfl ?_
        refine C.callv (w := 0) (own_rm7 l Z a0 hw n0 h149 b80 b84 v78 [v2, v9, v13, v20, v25, v33, v38, v46] v78.toInt.toNat F_b80_bounds A_b84 (Nat.lt_of_succ_lt (own_04 (own_up4 (own_all4 (own_j e67 e78) (own_v4 e67 c140)))).1) (own_04 (own_up4 (own_all4 (own_j e67 e78) (own_v4 e67 c140)))).2.1) E_b80 (ow37 hw) (ow38 hw) (ow40 hw) (ow39 hw) (ow2 hw) (ow41 hw) (pc' := 199) at_196 rfl rfl rfl (by decide) pd__I_I rfl (by decide) (Nat.le_of_eq rfl) (by decide) (by decide) (by decide) (kIe ?_)
        refine C.iload (pc' := 201) at_199 rfl rfl ?_
        refine C.icmp_ne (pc' := 204) (pt := 240) at_201 rfl rfl (fun c201 => absurd (by rw [e165]; exact own_f4 (own_all4 (own_j e67 e78) (own_v4 e67 c140))) c201) (fun c201 => ?_)
        refine C.aload (pc' := 206) at_204 rfl rfl rfl ?_
        refine C.iload (pc' := 208) at_206 rfl rfl ?_
        refine C.callv (w := 0) (own_rm8 l Z a0 hw n0 h149 b80 b84 v78 [v2, v9, v13, v20, v25, v33, v38, v46] v78.toInt.toNat F_b80_bounds A_b84 (own_04 (own_up4 (own_all4 (own_j e67 e78) (own_v4 e67 c140)))).1 (own_04 (own_up4 (own_all4 (own_j e67 e78) (own_v4 e67 c140)))).2.2) E_b80 (ow42 hw) (ow43 hw) (ow45 hw) (ow44 hw) (ow2 hw) (ow46 hw) (pc' := 211) at_208 rfl rfl rfl (by decide) pd__I_I rfl (by decide) (Nat.le_of_eq rfl) (by decide) (by decide) (by decide) (kIe ?_)
        refine C.iload (pc' := 213) at_211 rfl rfl ?_
        refine C.icmp_ne (pc' := 216) (pt := 240) at_213 rfl rfl (fun c213 => absurd (by rw [e180]; exact own_t4 (own_all4 (own_j e67 e78) (own_v4 e67 c140))) c213) (fun c213 => ?_)
        refine C.aload (pc' := 218) at_216 rfl rfl rfl ?_
        refine C.callv (w := 0) (own_rm9 l Z a0 hw n0 h149 b80 v51 F_b80_rangeFrom) E_b80 (ow47 hw) (ow48 hw) (ow50 hw) (ow49 hw) (ow2 hw) (ow51 hw) (pc' := 221) at_218 rfl rfl rfl (by decide) pd___I rfl (by decide) (Nat.le_of_eq rfl) (by decide) (by decide) (by decide) (kIe ?_)
        refine C.iload (pc' := 223) at_221 rfl rfl ?_
        refine C.icmp_ne (pc' := 226) (pt := 240) at_223 rfl rfl (fun c223 => absurd rfl c223) (fun c223 => ?_)
        refine C.aload (pc' := 228) at_226 rfl rfl rfl ?_
        refine C.callv (w := 0) (own_rm10 l Z a0 hw n0 h149 b80 v59 F_b80_rangeTo) E_b80 (ow52 hw) (ow53 hw) (ow55 hw) (ow54 hw) (ow2 hw) (ow56 hw) (pc' := 231) at_228 rfl rfl rfl (by decide) pd___I rfl (by decide) (Nat.le_of_eq rfl) (by decide) (by decide) (by decide) (kIe ?_)
        refine C.iload (pc' := 233) at_231 rfl rfl ?_
        refine C.icmp_ne (pc' := 236) (pt := 240) at_233 rfl rfl (fun c233 => absurd rfl c233) (fun c233 => ?_)
        refine C.iconst (v := 1) (pc' := 237) at_236 rfl rfl ?_
        refine C.goto (pc' := 241) at_237 rfl ?_
        refine C.retZ (show ret = some .boolean from rfl) (by decide) at_241 (by decide) (by decide) ⟨_, rfl, rfl⟩
set_option maxRecDepth 65536 in
set_option maxHeartbeats 40000000 in
theorem comes_1 {Post : Tables → Env → Array Value → State → Outcome → State → Prop} (hpost : ∀ tb e args s v u, (limb_1_1.after args s (.returned v) u = true ∧ limb_1_2.after args s (.returned v) u = true ∧ True) → FrameEnd s (.returned v) u (Jvm.fieldLocs frame_1_writes args s ++ Jvm.arrayLocs frame_1_arrays args s ++ Jvm.staticLocs frame_1_statics s) 16 128 → Post tb e args s (.returned v) u) :
    ArmFor flags0 classFile x code maxLocals ret World_1 tables_1 room_1 Calls_1 rest_1 Pre_1 Post := by
  intro l hfl _ _ p e ha hc hk s m args below hf hA hF happ hP
  obtain ⟨hcalls, hrest, hpre⟩ := hP
  obtain ⟨-, -, -, hnamed, -, -, -, hat⟩ := (Spec.applies_iff hf).mp happ
  obtain ⟨hg, hn⟩ := and_e (Cond.before_iff.mp (show (Jvm.Cond.and given_1 narrow_1).before args s = true from hpre))
  obtain ⟨g0, t0⟩ := and_e hg
  obtain ⟨k0, t1⟩ := and_e t0
  obtain ⟨k1, t2⟩ := and_e t1
  obtain ⟨k2, t3⟩ := and_e t2
  obtain ⟨k3, t4⟩ := and_e t3
  obtain ⟨k4, t5⟩ := and_e t4
  obtain ⟨w0_, w1_, w2_, w3_, w4_, w5_, rfl⟩ : ∃ w0_ w1_ w2_ w3_ w4_ w5_ : Value, args = #[w0_, w1_, w2_, w3_, w4_, w5_] := by
    have hs : args.size = 6 := by simpa [Cond.value, given_1] using g0
    obtain ⟨L⟩ := args
    match L, hs with
    | [w0_, w1_, w2_, w3_, w4_, w5_], _ => exact ⟨w0_, w1_, w2_, w3_, w4_, w5_, rfl⟩
  have hw := fun d (hd : d ∈ tables_1) => atoms_spec (ws := Jvm.Cond.code x code maxLocals ret :: tables_1) hat d (List.mem_cons_of_mem _ hd)
  obtain ⟨i0_, e0_⟩ := isL_v k0
  obtain rfl : w0_ = (.long i0_) := Option.some.inj e0_
  obtain ⟨i1_, e1_⟩ := isL_v k1
  obtain rfl : w1_ = (.long i1_) := Option.some.inj e1_
  obtain ⟨i2_, e2_⟩ := isL_v k2
  obtain rfl : w2_ = (.long i2_) := Option.some.inj e2_
  obtain ⟨i3_, e3_⟩ := isL_v k3
  obtain rfl : w3_ = (.long i3_) := Option.some.inj e3_
  obtain ⟨i4_, e4_⟩ := isL_v k4
  obtain rfl : w4_ = (.long i4_) := Option.some.inj e4_
  obtain ⟨i5_, e5_⟩ := is_v t5
  obtain rfl : w5_ = (.int i5_) := Option.some.inj e5_
  obtain ⟨n, o, h1, h2, h3, _, L, rfl, ⟨N, _, rfl, rfl⟩, hq⟩ := own_rm0 l s _ hw s.heap.size s.heap i0_ i1_ i2_ i3_ i4_ i5_  (Nat.le_refl _)  tables_1 p e ha hc hk s m _ below hf ((Spec.applies_iff_loose hf).mp happ).1 ⟨rfl, State.Warmed39.refl s, rfl⟩ trivial
  refine ⟨n, _, h1, h2, h3, hpost _ _ _ _ _ _ ⟨Cond.after_iff.mpr rfl, Cond.after_iff.mpr (eq_i res_at (Term.int_eval (1)) rfl), trivial⟩ ⟨hq.1, hq.2.1, (hq.2.2.sift fun y hy => Or.inr (N y hy)).mono (by decide) (by decide)⟩⟩
theorem main_1_1 : Claimed_1_1 := comes_1 fun _ _ _ _ _ _ h hF => ⟨h.1, hF⟩
theorem main_1_2 : Claimed_1_2 := comes_1 fun _ _ _ _ _ _ h hF => ⟨h.2.1, hF⟩
end Jvm.Pilot.@@N@@
namespace Jvm.Pilot.@@N@@
open Jvm Jvm.ClassFile Sem Op Lib Jvm.Free Jvm.Stand Jvm.Pilot.@@N@@.Jvm.D
/-! MADE BY PROGRAM (witnessworld.py) out of the Statement's table words and the real class files: 9 classes; the members and pool entries that the words name. The judged class is class 1, her method 2. -/
namespace start1
open Jvm.ClassFile
def u (s : String) : CpInfo := .utf8 (stringToUtf16 s)
/-- a pool by its gaps: so many unusable entries, then the entry; so many at the end -/
def gap : Nat → List CpInfo → List CpInfo
  | 0, r => r
  | n + 1, r => .unusable :: gap n r
def poolList (es : List (Nat × CpInfo)) (last : Nat) : List CpInfo := es.foldr (fun e r => gap e.1 (e.2 :: r)) (gap last [])
def pool (es : List (Nat × CpInfo)) (last : Nat) : Array CpInfo := ⟨poolList es last⟩
def fileOf (pool : Array CpInfo) (this : Nat) (attrs : Array Attribute := #[]) (ms : Array MethodInfo := #[]) (fl : Nat := 33) (sup : Nat := 0) (ifs : Array Nat := #[]) (fds : Array FieldInfo := #[]) : ClassFile where
  minorVersion := 0
  majorVersion := 65
  constantPool := pool
  accessFlags := fl
  thisClass := this
  superClass := sup
  interfaces := ifs
  fields := fds
  methods := ms
  attributes := attrs
def plain (name : String) (sup : Option ClassId) : Class where
  name := name
  kind := .ordinary
  loader := none
  accessFlags := 33
  super := sup
  interfaces := #[]
  cf := none
  fields := #[]
  methods := #[]
  instanceTypes := #[]
  staticTypes := #[]
  resolved := #[]
  callSites := []
  init := .initialized
  statics := none
  mirror := none

def pool0 : Array CpInfo := pool [(5, u "<init>"), (0, u "()V"), (1, .class_ 10), (1, u "java/lang/Object")] 113

def k0c0 : Code := { maxStack := 0, maxLocals := 1, code := object_method_1_code, exceptionTable := #[], attributes := #[] }
def k0m0 : Method := { name := "<init>", desc := "()V", sig := { parameters := [], returnType := none }, accessFlags := 1, code := some k0c0 }
/-- java/lang/Object -/
def k0 : Class := { plain "java/lang/Object" none with
  accessFlags := 33
  interfaces := #[]
  cf := some (fileOf pool0 8 #[] #[{ accessFlags := 1, nameIndex := 5, descriptorIndex := 6, attributes := #[] }] 33 0 #[] #[])
  fields := #[]
  methods := #[k0m0]
  instanceTypes := #[]
  staticTypes := #[]
  resolved := Array.replicate 124 none
  statics := none }

def pool1 : Array CpInfo := pool [(2, .class_ 4), (0, .nameAndType 5 6), (0, u "java/lang/Object"), (0, u "<init>"), (0, u "()V"), (0, .class_ 8), (0, u "com/example/gapstride/gapstride/PartitionScheme$Parts"), (0, .methodref 7 3), (0, .methodref 7 11), (0, .nameAndType 12 13), (0, u "reset"), (0, u "(II)V"), (0, .methodref 7 15), (0, .nameAndType 16 13), (0, u "add"), (0, .methodref 18 19), (0, .class_ 20), (0, .nameAndType 21 22), (0, u "com/example/gapstride/gapstride/PartsAddPinLaw"), (0, u "pick"), (0, u "(IIIII)I"), (0, .methodref 7 24), (0, .nameAndType 25 26), (0, u "count"), (0, u "()I"), (0, .methodref 7 28), (0, .nameAndType 29 30), (0, u "from"), (0, u "(I)I"), (0, .methodref 7 32), (0, .nameAndType 33 30), (0, u "to"), (0, .methodref 7 35), (0, .nameAndType 36 26), (0, u "rangeFrom"), (0, .methodref 7 38), (0, .nameAndType 39 26), (0, u "rangeTo"), (3, u "law"), (0, u "(JJJJJI)Z")] 6

def k1m0 : Method := { name := "<init>", desc := "()V", sig := { parameters := [], returnType := none }, accessFlags := 2, code := none }
def k1c1 : Code := { maxStack := 2, maxLocals := 5, code := method_2_code, exceptionTable := #[], attributes := #[] }
def k1m1 : Method := { name := "pick", desc := "(IIIII)I", sig := { parameters := [.int, .int, .int, .int, .int], returnType := some .int }, accessFlags := 10, code := some k1c1 }
def k1c2 : Code := { maxStack := 5, maxLocals := 26, code := code, exceptionTable := #[], attributes := #[] }
def k1m2 : Method := { name := "law", desc := "(JJJJJI)Z", sig := { parameters := [.long, .long, .long, .long, .long, .int], returnType := some .boolean }, accessFlags := 9, code := some k1c2 }
/-- com/example/gapstride/gapstride/PartsAddPinLaw -/
def k1 : Class := { plain "com/example/gapstride/gapstride/PartsAddPinLaw" (some 0) with
  accessFlags := 49
  interfaces := #[]
  cf := some (fileOf pool1 18 #[] #[{ accessFlags := 2, nameIndex := 5, descriptorIndex := 6, attributes := #[] }, { accessFlags := 10, nameIndex := 21, descriptorIndex := 22, attributes := #[] }, { accessFlags := 9, nameIndex := 43, descriptorIndex := 44, attributes := #[] }] 49 2 #[] #[])
  fields := #[]
  methods := #[k1m0, k1m1, k1m2]
  instanceTypes := #[]
  staticTypes := #[]
  resolved := Array.replicate 51 none
  statics := none }

def pool2 : Array CpInfo := pool [(1, .methodref 2 3), (0, .class_ 4), (0, .nameAndType 5 6), (0, u "java/lang/Object"), (0, u "<init>"), (0, u "()V"), (0, .fieldref 8 9), (0, .class_ 10), (0, .nameAndType 11 12), (0, u "com/example/gapstride/gapstride/PartitionScheme$Parts"), (0, u "bounds"), (0, u "[I"), (0, .fieldref 8 14), (0, .nameAndType 15 16), (0, u "rangeFrom"), (0, u "I"), (0, .fieldref 8 18), (0, .nameAndType 19 16), (0, u "rangeTo"), (0, .fieldref 8 21), (0, .nameAndType 22 16), (0, u "count"), (2, u "to"), (0, u "(I)I"), (2, u "from"), (2, u "reset"), (0, u "(II)V"), (0, u "()I"), (0, u "add"), (5, .class_ 42), (0, u "com/example/gapstride/gapstride/PartitionScheme")] 2

def k2c0 : Code := { maxStack := 2, maxLocals := 1, code := prog_19_method_1_code, exceptionTable := #[], attributes := #[] }
def k2m0 : Method := { name := "<init>", desc := "()V", sig := { parameters := [], returnType := none }, accessFlags := 0, code := some k2c0 }
def k2c1 : Code := { maxStack := 2, maxLocals := 3, code := prog_19_method_2_code, exceptionTable := #[], attributes := #[] }
def k2m1 : Method := { name := "reset", desc := "(II)V", sig := { parameters := [.int, .int], returnType := none }, accessFlags := 0, code := some k2c1 }
def k2c2 : Code := { maxStack := 1, maxLocals := 1, code := prog_19_method_3_code, exceptionTable := #[], attributes := #[] }
def k2m2 : Method := { name := "rangeFrom", desc := "()I", sig := { parameters := [], returnType := some .int }, accessFlags := 0, code := some k2c2 }
def k2c3 : Code := { maxStack := 1, maxLocals := 1, code := prog_19_method_4_code, exceptionTable := #[], attributes := #[] }
def k2m3 : Method := { name := "rangeTo", desc := "()I", sig := { parameters := [], returnType := some .int }, accessFlags := 0, code := some k2c3 }
def k2c4 : Code := { maxStack := 3, maxLocals := 3, code := prog_19_method_5_code, exceptionTable := #[], attributes := #[] }
def k2m4 : Method := { name := "add", desc := "(II)V", sig := { parameters := [.int, .int], returnType := none }, accessFlags := 0, code := some k2c4 }
def k2c5 : Code := { maxStack := 1, maxLocals := 1, code := prog_19_method_6_code, exceptionTable := #[], attributes := #[] }
def k2m5 : Method := { name := "count", desc := "()I", sig := { parameters := [], returnType := some .int }, accessFlags := 0, code := some k2c5 }
def k2c6 : Code := { maxStack := 3, maxLocals := 2, code := prog_19_method_7_code, exceptionTable := #[], attributes := #[] }
def k2m6 : Method := { name := "from", desc := "(I)I", sig := { parameters := [.int], returnType := some .int }, accessFlags := 0, code := some k2c6 }
def k2c7 : Code := { maxStack := 3, maxLocals := 2, code := prog_19_method_8_code, exceptionTable := #[], attributes := #[] }
def k2m7 : Method := { name := "to", desc := "(I)I", sig := { parameters := [.int], returnType := some .int }, accessFlags := 0, code := some k2c7 }
/-- com/example/gapstride/gapstride/PartitionScheme$Parts -/
def k2 : Class := { plain "com/example/gapstride/gapstride/PartitionScheme$Parts" (some 0) with
  accessFlags := 48
  interfaces := #[]
  cf := some (fileOf pool2 8 #[.nestHost 41] #[{ accessFlags := 0, nameIndex := 5, descriptorIndex := 6, attributes := #[] }, { accessFlags := 0, nameIndex := 32, descriptorIndex := 33, attributes := #[] }, { accessFlags := 0, nameIndex := 15, descriptorIndex := 34, attributes := #[] }, { accessFlags := 0, nameIndex := 19, descriptorIndex := 34, attributes := #[] }, { accessFlags := 0, nameIndex := 35, descriptorIndex := 33, attributes := #[] }, { accessFlags := 0, nameIndex := 22, descriptorIndex := 34, attributes := #[] }, { accessFlags := 0, nameIndex := 29, descriptorIndex := 26, attributes := #[] }, { accessFlags := 0, nameIndex := 25, descriptorIndex := 26, attributes := #[] }] 48 2 #[] #[{ accessFlags := 18, nameIndex := 11, descriptorIndex := 12, attributes := #[] }, { accessFlags := 2, nameIndex := 22, descriptorIndex := 16, attributes := #[] }, { accessFlags := 2, nameIndex := 15, descriptorIndex := 16, attributes := #[] }, { accessFlags := 2, nameIndex := 19, descriptorIndex := 16, attributes := #[] }])
  fields := #[{ name := "bounds", type := (.array .int), accessFlags := 18, slot := 0, constantValue := 0 }, { name := "count", type := .int, accessFlags := 2, slot := 1, constantValue := 0 }, { name := "rangeFrom", type := .int, accessFlags := 2, slot := 2, constantValue := 0 }, { name := "rangeTo", type := .int, accessFlags := 2, slot := 3, constantValue := 0 }]
  methods := #[k2m0, k2m1, k2m2, k2m3, k2m4, k2m5, k2m6, k2m7]
  instanceTypes := #[(.array .int), .int, .int, .int]
  staticTypes := #[]
  resolved := Array.replicate 45 none
  statics := none }

def pool3 : Array CpInfo := pool [(1, u "java/lang/Cloneable"), (0, .class_ 1), (0, u "java/lang/Object"), (0, .class_ 3)] 3

/-- java/lang/Cloneable -/
def k3 : Class := { plain "java/lang/Cloneable" (some 0) with
  accessFlags := 1537
  interfaces := #[]
  cf := some (fileOf pool3 2 #[] #[] 1537 4 #[] #[])
  fields := #[]
  methods := #[]
  instanceTypes := #[]
  staticTypes := #[]
  resolved := Array.replicate 8 none
  statics := none }

def pool4 : Array CpInfo := pool [(1, u "java/io/Serializable"), (0, .class_ 1), (0, u "java/lang/Object"), (0, .class_ 3)] 3

/-- java/io/Serializable -/
def k4 : Class := { plain "java/io/Serializable" (some 0) with
  accessFlags := 1537
  interfaces := #[]
  cf := some (fileOf pool4 2 #[] #[] 1537 4 #[] #[])
  fields := #[]
  methods := #[]
  instanceTypes := #[]
  staticTypes := #[]
  resolved := Array.replicate 8 none
  statics := none }

/-- the primitive byte -/
def k5 : Class := { plain "byte" none with kind := .primitive 'B', accessFlags := 0x411 }
/-- [B -/
def k6 : Class := { plain "[B" (some 0) with kind := .array 5 .byte, interfaces := #[3, 4], accessFlags := 1041 }

/-- the primitive int -/
def k7 : Class := { plain "int" none with kind := .primitive 'I', accessFlags := 0x411 }
/-- [I -/
def k8 : Class := { plain "[I" (some 0) with kind := .array 7 .int, interfaces := #[3, 4], accessFlags := 1041 }

def heap : Heap := #[]
def classes : Array Class := #[k0, k1, k2, k3, k4, k5, k6, k7, k8]
def interned : List (Array UInt16 × Addr) := []
def slotsUsed : Nat := 0
def theMethod : MethodId := ⟨1, 2⟩
def args0 : Array Value := #[.long 5, .long 5, .long 5, .long 5, .long 5, .int 3]
def aboutOver (below : List Frame) : State where
  vm := { classes := classes, interned := interned.toArray }
  heap := heap
  slotsUsed := slotsUsed
  threads := #[{ frames := .invoking theMethod args0 :: below }]
def below0 : List Frame := [.native { method := ⟨0, 0⟩, args := #[] }]
def about1 : State := aboutOver below0
def p0 : Program := .bare "" "" ""
def e0 : Env := launch0.env 0 0 0
theorem w_frames : about1.frames = Frame.invoking theMethod args0 :: below0 := rfl
set_option maxRecDepth 65536 in
theorem w_args : argsFit about1.vm theMethod args0 = true := by decide +kernel
set_option maxRecDepth 65536 in
theorem w_heap : heapFits about1 = true := by decide +kernel
set_option maxRecDepth 65536 in
theorem w_runnable : about1.curStatus? = some .runnable := by decide +kernel
set_option maxRecDepth 65536 in
theorem w_alone : about1.alone = true := by decide +kernel
set_option maxRecDepth 65536 in
theorem w_named : about1.methodNamed? x = some theMethod := by decide +kernel
set_option maxRecDepth 65536 in
theorem w_hears : about1.hears theMethod below0 = true := by decide +kernel
set_option maxRecDepth 65536 in
theorem w_ripe : about1.ripe theMethod args0 below0 = true := by decide +kernel
theorem w_running : about1.status = .running := rfl
set_option maxRecDepth 65536 in
theorem w_room : about1.hasRoom e0.platform room_1 = true :=
  launch0.hasRoom_least _ room_1 (by decide +kernel) (by decide +kernel) (by decide +kernel) (by decide +kernel) (by decide +kernel) (by decide +kernel)
theorem allAtoms_all (ts : List Jvm.Cond) (a : Array Jvm.Value) (st : Jvm.State) : (allAtoms ts).before a st = ts.all (fun c => c.before a st) := by
  induction ts with
  | nil => rfl
  | cons c t ih =>
    show (Jvm.Cond.and c (allAtoms t)).before a st = _
    rw [Jvm.Cond.before_and, ih, List.all_cons]
def words1 : List Jvm.Cond := Jvm.Cond.code x code maxLocals ret :: tables_1
/-- a 'code' word, met by the world's own term for the bytes: nothing is compared byte by byte -/
theorem code_word {y : MethodName} {bytes : ByteArray} {mx : Nat} {rt : Option FieldType} {a : Array Value} {s : State} {m : MethodId} {meth : Method} {c : Code} (h1 : s.methodNamed? y = some m) (h2 : s.vm.method? m = some meth) (h3 : meth.code = some c) (h4 : c.code = bytes)
    (h5 : (c.maxLocals == mx && c.exceptionTable.isEmpty && decide (c.maxStack ≤ mostOperands) && decide (meth.sig.returnType = rt) && !meth.locks && decide (parseMethodDescriptor y.desc = some meth.sig)) = true) : (Jvm.Cond.code y bytes mx rt).before a s = true := by
  simp only [Bool.and_eq_true, beq_iff_eq, Bool.not_eq_true', decide_eq_true_eq] at h5
  obtain ⟨⟨⟨⟨⟨g1, g2⟩, g3⟩, g4⟩, g5⟩, g6⟩ := h5
  simp [Cond.before, Cond.holds, Cond.value, h1, h2, h3, h4, g1, g2, g3, g4, g5, g6]
def isCode : Jvm.Cond → Bool
  | .code _ _ _ _ => true
  | _ => false
theorem all_split {L : List Jvm.Cond} {P : Jvm.Cond → Bool} (h1 : L.all (fun c => isCode c || P c) = true) (h2 : ∀ c ∈ L.filter isCode, P c = true) : L.all P = true := by
  refine List.all_eq_true.mpr fun c hc => ?_
  have h := List.all_eq_true.mp h1 c hc
  rcases Bool.eq_false_or_eq_true (isCode c) with hi | hi
  · exact h2 c (List.mem_filter.mpr ⟨hc, hi⟩)
  · simpa [hi] using h
set_option maxRecDepth 65536 in
theorem w_c0 : (Jvm.Cond.code x code maxLocals ret).before args0 about1 = true := code_word (m := ⟨1, 2⟩) (meth := k1m2) (c := k1c2) (by decide +kernel) rfl rfl rfl (by decide +kernel)
set_option maxRecDepth 65536 in
theorem w_c1 : (Jvm.Cond.code ({ cls := "com/example/gapstride/gapstride/PartitionScheme$Parts", name := "<init>", desc := "()V" } : Jvm.MethodName) prog_19_method_1_code (1 : Nat) (Option.none : Option Jvm.ClassFile.FieldType)).before args0 about1 = true := code_word (m := ⟨2, 0⟩) (meth := k2m0) (c := k2c0) (by decide +kernel) rfl rfl rfl (by decide +kernel)
set_option maxRecDepth 65536 in
theorem w_c2 : (Jvm.Cond.code ({ cls := "java/lang/Object", name := "<init>", desc := "()V" } : Jvm.MethodName) object_method_1_code (1 : Nat) (Option.none : Option Jvm.ClassFile.FieldType)).before args0 about1 = true := code_word (m := ⟨0, 0⟩) (meth := k0m0) (c := k0c0) (by decide +kernel) rfl rfl rfl (by decide +kernel)
set_option maxRecDepth 65536 in
theorem w_c3 : (Jvm.Cond.code ({ cls := "com/example/gapstride/gapstride/PartitionScheme$Parts", name := "reset", desc := "(II)V" } : Jvm.MethodName) prog_19_method_2_code (3 : Nat) (Option.none : Option Jvm.ClassFile.FieldType)).before args0 about1 = true := code_word (m := ⟨2, 1⟩) (meth := k2m1) (c := k2c1) (by decide +kernel) rfl rfl rfl (by decide +kernel)
set_option maxRecDepth 65536 in
theorem w_c4 : (Jvm.Cond.code ({ cls := "com/example/gapstride/gapstride/PartitionScheme$Parts", name := "add", desc := "(II)V" } : Jvm.MethodName) prog_19_method_5_code (3 : Nat) (Option.none : Option Jvm.ClassFile.FieldType)).before args0 about1 = true := code_word (m := ⟨2, 4⟩) (meth := k2m4) (c := k2c4) (by decide +kernel) rfl rfl rfl (by decide +kernel)
set_option maxRecDepth 65536 in
theorem w_c5 : (Jvm.Cond.code ({ cls := "com/example/gapstride/gapstride/PartsAddPinLaw", name := "pick", desc := "(IIIII)I" } : Jvm.MethodName) method_2_code (5 : Nat) (Option.some Jvm.ClassFile.FieldType.int)).before args0 about1 = true := code_word (m := ⟨1, 1⟩) (meth := k1m1) (c := k1c1) (by decide +kernel) rfl rfl rfl (by decide +kernel)
set_option maxRecDepth 65536 in
theorem w_c6 : (Jvm.Cond.code ({ cls := "com/example/gapstride/gapstride/PartitionScheme$Parts", name := "count", desc := "()I" } : Jvm.MethodName) prog_19_method_6_code (1 : Nat) (Option.some Jvm.ClassFile.FieldType.int)).before args0 about1 = true := code_word (m := ⟨2, 5⟩) (meth := k2m5) (c := k2c5) (by decide +kernel) rfl rfl rfl (by decide +kernel)
set_option maxRecDepth 65536 in
theorem w_c7 : (Jvm.Cond.code ({ cls := "com/example/gapstride/gapstride/PartitionScheme$Parts", name := "from", desc := "(I)I" } : Jvm.MethodName) prog_19_method_7_code (2 : Nat) (Option.some Jvm.ClassFile.FieldType.int)).before args0 about1 = true := code_word (m := ⟨2, 6⟩) (meth := k2m6) (c := k2c6) (by decide +kernel) rfl rfl rfl (by decide +kernel)
set_option maxRecDepth 65536 in
theorem w_c8 : (Jvm.Cond.code ({ cls := "com/example/gapstride/gapstride/PartitionScheme$Parts", name := "to", desc := "(I)I" } : Jvm.MethodName) prog_19_method_8_code (2 : Nat) (Option.some Jvm.ClassFile.FieldType.int)).before args0 about1 = true := code_word (m := ⟨2, 7⟩) (meth := k2m7) (c := k2c7) (by decide +kernel) rfl rfl rfl (by decide +kernel)
set_option maxRecDepth 65536 in
theorem w_c9 : (Jvm.Cond.code ({ cls := "com/example/gapstride/gapstride/PartitionScheme$Parts", name := "rangeFrom", desc := "()I" } : Jvm.MethodName) prog_19_method_3_code (1 : Nat) (Option.some Jvm.ClassFile.FieldType.int)).before args0 about1 = true := code_word (m := ⟨2, 2⟩) (meth := k2m2) (c := k2c2) (by decide +kernel) rfl rfl rfl (by decide +kernel)
set_option maxRecDepth 65536 in
theorem w_c10 : (Jvm.Cond.code ({ cls := "com/example/gapstride/gapstride/PartitionScheme$Parts", name := "rangeTo", desc := "()I" } : Jvm.MethodName) prog_19_method_4_code (1 : Nat) (Option.some Jvm.ClassFile.FieldType.int)).before args0 about1 = true := code_word (m := ⟨2, 3⟩) (meth := k2m3) (c := k2c3) (by decide +kernel) rfl rfl rfl (by decide +kernel)
def codes1 : List Jvm.Cond := [Jvm.Cond.code x code maxLocals ret, Jvm.Cond.code ({ cls := "com/example/gapstride/gapstride/PartitionScheme$Parts", name := "<init>", desc := "()V" } : Jvm.MethodName) prog_19_method_1_code (1 : Nat) (Option.none : Option Jvm.ClassFile.FieldType), Jvm.Cond.code ({ cls := "java/lang/Object", name := "<init>", desc := "()V" } : Jvm.MethodName) object_method_1_code (1 : Nat) (Option.none : Option Jvm.ClassFile.FieldType), Jvm.Cond.code ({ cls := "com/example/gapstride/gapstride/PartitionScheme$Parts", name := "reset", desc := "(II)V" } : Jvm.MethodName) prog_19_method_2_code (3 : Nat) (Option.none : Option Jvm.ClassFile.FieldType), Jvm.Cond.code ({ cls := "com/example/gapstride/gapstride/PartitionScheme$Parts", name := "add", desc := "(II)V" } : Jvm.MethodName) prog_19_method_5_code (3 : Nat) (Option.none : Option Jvm.ClassFile.FieldType), Jvm.Cond.code ({ cls := "com/example/gapstride/gapstride/PartsAddPinLaw", name := "pick", desc := "(IIIII)I" } : Jvm.MethodName) method_2_code (5 : Nat) (Option.some Jvm.ClassFile.FieldType.int), Jvm.Cond.code ({ cls := "com/example/gapstride/gapstride/PartitionScheme$Parts", name := "count", desc := "()I" } : Jvm.MethodName) prog_19_method_6_code (1 : Nat) (Option.some Jvm.ClassFile.FieldType.int), Jvm.Cond.code ({ cls := "com/example/gapstride/gapstride/PartitionScheme$Parts", name := "from", desc := "(I)I" } : Jvm.MethodName) prog_19_method_7_code (2 : Nat) (Option.some Jvm.ClassFile.FieldType.int), Jvm.Cond.code ({ cls := "com/example/gapstride/gapstride/PartitionScheme$Parts", name := "to", desc := "(I)I" } : Jvm.MethodName) prog_19_method_8_code (2 : Nat) (Option.some Jvm.ClassFile.FieldType.int), Jvm.Cond.code ({ cls := "com/example/gapstride/gapstride/PartitionScheme$Parts", name := "rangeFrom", desc := "()I" } : Jvm.MethodName) prog_19_method_3_code (1 : Nat) (Option.some Jvm.ClassFile.FieldType.int), Jvm.Cond.code ({ cls := "com/example/gapstride/gapstride/PartitionScheme$Parts", name := "rangeTo", desc := "()I" } : Jvm.MethodName) prog_19_method_4_code (1 : Nat) (Option.some Jvm.ClassFile.FieldType.int)]
set_option maxRecDepth 65536 in
theorem codes_eq : words1.filter isCode = codes1 := rfl
theorem w_codes : ∀ c ∈ words1.filter isCode, c.before args0 about1 = true := by
  rw [codes_eq]
  intro c hc
  simp only [codes1, List.mem_cons, List.not_mem_nil, or_false] at hc
  rcases hc with rfl | rfl | rfl | rfl | rfl | rfl | rfl | rfl | rfl | rfl | rfl
  · exact w_c0
  · exact w_c1
  · exact w_c2
  · exact w_c3
  · exact w_c4
  · exact w_c5
  · exact w_c6
  · exact w_c7
  · exact w_c8
  · exact w_c9
  · exact w_c10
set_option maxRecDepth 65536 in
theorem w_t1 : (words1.take 24).all (fun c => isCode c || c.before args0 about1) = true := by decide +kernel
set_option maxRecDepth 65536 in
theorem w_t2 : ((words1.drop 24).take 24).all (fun c => isCode c || c.before args0 about1) = true := by decide +kernel
set_option maxRecDepth 65536 in
theorem w_t3 : ((words1.drop 24).drop 24).all (fun c => isCode c || c.before args0 about1) = true := by decide +kernel
theorem w_tables : (allAtoms (Jvm.Cond.code x code maxLocals ret :: tables_1)).before args0 about1 = true := by
  rw [allAtoms_all]
  show words1.all (fun c => c.before args0 about1) = true
  refine all_split ?_ w_codes
  rw [← List.take_append_drop 24 words1, List.all_append, w_t1, ← List.take_append_drop 24 (words1.drop 24), List.all_append, w_t2, w_t3]
  rfl
set_option maxRecDepth 65536 in
theorem w_case : (Jvm.Cond.and given_1 narrow_1).before args0 about1 = true := by decide +kernel
theorem w_applies : (headSpec (Jvm.Cond.code x code maxLocals ret :: tables_1) room_1).applies x e0.platform about1 = true :=
  (Spec.applies_iff w_frames).mpr ⟨w_running, w_runnable, w_alone, w_named, w_hears, w_ripe, w_room, w_tables⟩
theorem atStart : AtStart classFile x code maxLocals ret World_1 tables_1 room_1 Calls_1 rest_1 Pre_1 launch0 p0 e0 about1 theMethod args0 below0 :=
  ⟨lists_1, trivial, launch0.admits_env _ _ _, launch0.least_env, fairChoices_fair.cas, fairChoices_fair.clock, w_frames, w_args, w_heap, w_applies, trivial, trivial, w_case⟩
end start1
theorem witness_1 : WitnessClaimed_1 := ⟨start1.p0, start1.e0, start1.about1, start1.theMethod, start1.args0, start1.below0, start1.atStart⟩
end Jvm.Pilot.@@N@@
