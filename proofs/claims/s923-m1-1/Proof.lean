import JvmDerived
import JvmDerived.Pilot.@@N@@Statement
import JvmDerived.Pilot.@@N@@Code
set_option linter.unusedVariables false
set_option linter.unusedSimpArgs false

namespace Jvm.OwnW
open Sem ClassFile Op Lib Jvm.Stand Jvm.Free Jvm.LawKit Jvm.RoadKit
/-- what the walk of one body stands on -/
def Ctx (p : Program) (l : Launch) (e : Env) (R : Room) (s : State) (m : MethodId) (args : Array Value) (below : List Frame) (meth : Method) (c : Code) (Z : State) (own : String) (code : ByteArray) (maxL : Nat) (ret : Option FieldType) (nm : String) : Prop :=
  p.tables.exec = Jvm.exec ∧ c.code = code ∧ c.maxLocals = maxL ∧ s.vm.findClass own = some m.cls ∧ Z.Warmed39 s.vm ∧ meth.sig.returnType = ret ∧ meth.locks = false ∧ meth.name = nm
/-- from here the body returns, and G holds of what it returns and of the heap -/
def WP (p : Program) (l : Launch) (e : Env) (R : Room) (s : State) (m : MethodId) (args : Array Value) (below : List Frame) (meth : Method) (c : Code) (n0 : Nat) (G : Option Value → Heap → Prop)
    (h : Heap) (k n pc : Nat) (Ls : Array Slot) (st : List Value) : Prop :=
  ∀ (T : State) (locs : List Loc) (k' n' : Nat), k' ≤ k → n' ≤ n → Stand p l e R s m args below meth c T locs k' n' → T.heap = h → Fr n0 locs →
    ∃ s₂ o, Steps p.tables e below (T.setTop (mkF m pc Ls st)) s₂ ∧ s₂.status = .running ∧ Ended s₂ below o ∧ ∃ v L, o = .returned v ∧ (Fr n0 L ∧ G v s₂.heap) ∧ FrameEnd s o s₂ L R.cells R.slots
abbrev WT : Type := Heap → Nat → Nat → Nat → Array Slot → List Value → Prop
def Ru (l : Launch) (Z : State) (own : String) (code : ByteArray) (maxL : Nat) (ret : Option FieldType) (nm : String) (R : Room) (n0 : Nat) (G : Option Value → Heap → Prop) (W : WT) : Prop :=
  ∃ (p : Program) (e : Env) (s : State) (m : MethodId) (args : Array Value) (below : List Frame) (meth : Method) (c : Code), Ctx p l e R s m args below meth c Z own code maxL ret nm ∧ W = WP p l e R s m args below meth c n0 G
/-- a body's contract -/
def MeetsW (l : Launch) (Z : State) (n0 : Nat) (y : MethodName) (bytes : ByteArray) (maxL : Nat) (ret : Option FieldType) (rm : Room) (as : Array Value) (h : Heap) (G : Option Value → Heap → Prop) : Prop :=
  ∀ ws : List Cond, MetFree l y (head1 (Cond.code y bytes maxL ret :: ws) rm) (fun a U => a = as ∧ Z.Warmed39 U.vm ∧ U.heap = h) (fun _ _ _ _ _ => True)
    (fun _ U o U' => ∃ v L, o = .returned v ∧ (Fr n0 L ∧ G v U'.heap) ∧ FrameEnd U o U' L rm.cells rm.slots)
theorem MeetsW.intro {l : Launch} {Z : State} {n0 : Nat} {y : MethodName} {bytes : ByteArray} {maxL : Nat} {ret : Option FieldType} {rm : Room} {as : Array Value} {h : Heap} {G : Option Value → Heap → Prop} {Ls : Array Slot}
    (hp : plainFor y = true) (hef : ∀ m, entryFrame m as maxL = mkF m 0 Ls [])
    (body : ∀ W, Ru l Z y.cls bytes maxL ret y.name rm n0 G W → W h 0 0 0 Ls []) : MeetsW l Z n0 y bytes maxL ret rm as h G := by
  intro ws
  refine MetFree.of_bodySF hp hisR ?_
  intro p e s m args below meth c s₁ Bd hml0 hP hK
  obtain ⟨rfl, hZ, hh⟩ := hP
  have X0 : Stand p l e rm s m args below meth c s₁ [] 0 0 := Stand.of_body Bd
  have e0 : s₁.heap = h := by rw [← hh, Bd.state]; rfl
  have C : Ctx p l e rm s m args below meth c Z y.cls bytes maxL ret y.name := ⟨Bd.exec, Bd.bytes, hml0, findClass_of_methodNamed Bd.named, hZ, Bd.returns, Bd.notSynchronized, (name_of_methodNamed Bd.named Bd.method).1⟩
  have q := body _ ⟨p, e, s, m, args, below, meth, c, C, rfl⟩ s₁ [] 0 0 (Nat.le_refl _) (Nat.le_refl _) X0 e0 (Fr.nil n0)
  rw [hef]
  exact q

/-! shifts, by how many places -/
def sh5 (y : Int32) : Nat := y.toBitVec.toNat % 32
def sh6 (y : Int32) : Nat := y.toBitVec.toNat % 64
def shlI (x : Int32) (k : Nat) : Int32 := Int32.ofBitVec (x.toBitVec <<< k)
def shrI (x : Int32) (k : Nat) : Int32 := Int32.ofBitVec (x.toBitVec >>> k)
def sarI (x : Int32) (k : Nat) : Int32 := Int32.ofBitVec (x.toBitVec.sshiftRight k)
def shlL (x : Int64) (k : Nat) : Int64 := Int64.ofBitVec (x.toBitVec <<< k)
def shrL (x : Int64) (k : Nat) : Int64 := Int64.ofBitVec (x.toBitVec >>> k)
def sarL (x : Int64) (k : Nat) : Int64 := Int64.ofBitVec (x.toBitVec.sshiftRight k)
theorem and31 (y : Int32) : (y &&& 31).toBitVec.toNat = sh5 y := by
  show (y.toBitVec &&& (31 : Int32).toBitVec).toNat = _
  rw [BitVec.toNat_and, show (31 : Int32).toBitVec.toNat = 2 ^ 5 - 1 from by decide, Nat.and_two_pow_sub_one_eq_mod]; rfl
theorem and63 (y : Int32) : (y.toInt64 &&& 63).toBitVec = BitVec.ofNat 64 (sh6 y) := by
  apply BitVec.eq_of_toNat_eq
  show (y.toBitVec.signExtend 64 &&& (63 : Int64).toBitVec).toNat = _
  rw [BitVec.toNat_and, show (63 : Int64).toBitVec.toNat = 2 ^ 6 - 1 from by decide, Nat.and_two_pow_sub_one_eq_mod, BitVec.toNat_ofNat, BitVec.toNat_signExtend]
  have h1 := y.toBitVec.isLt
  have h2 : (BitVec.setWidth 64 y.toBitVec).toNat = y.toBitVec.toNat := by rw [BitVec.toNat_setWidth]; omega
  rw [h2]
  unfold sh6
  split <;> omega
theorem ishl_eq (x y : Int32) : x <<< (y &&& 31) = shlI x (sh5 y) := by
  apply Int32.toBitVec_inj.mp
  show x.toBitVec <<< ((y &&& 31).toBitVec.smod 32) = x.toBitVec <<< (sh5 y)
  rw [BitVec.shiftLeft_eq', sm32 y _ rfl]; rfl
theorem ishr_eq (x y : Int32) : x >>> (y &&& 31) = sarI x (sh5 y) := by
  apply Int32.toBitVec_inj.mp
  show x.toBitVec.sshiftRight (((y &&& 31).toBitVec.smod 32).toNat) = x.toBitVec.sshiftRight (sh5 y)
  rw [sm32 y _ rfl]; rfl
theorem iushr_eq (x y : Int32) : XT.ushr x y = shrI x (sh5 y) := by
  apply Int32.toBitVec_inj.mp
  show x.toBitVec >>> ((y &&& 31).toBitVec % 32) = x.toBitVec >>> (sh5 y)
  rw [BitVec.ushiftRight_eq', BitVec.toNat_umod, and31]
  congr 1
  show sh5 y % 32 = sh5 y
  unfold sh5; omega
theorem lshl_eq (x : Int64) (y : Int32) : x <<< (y.toInt64 &&& 63) = shlL x (sh6 y) := by
  apply Int64.toBitVec_inj.mp
  show x.toBitVec <<< ((y.toInt64 &&& 63).toBitVec.smod 64) = x.toBitVec <<< (sh6 y)
  rw [BitVec.shiftLeft_eq', and63, smod64 _ (by unfold sh6; omega)]
theorem lshr_eq (x : Int64) (y : Int32) : x >>> (y.toInt64 &&& 63) = sarL x (sh6 y) := by
  apply Int64.toBitVec_inj.mp
  show x.toBitVec.sshiftRight (((y.toInt64 &&& 63).toBitVec.smod 64).toNat) = x.toBitVec.sshiftRight (sh6 y)
  rw [and63, smod64 _ (by unfold sh6; omega)]
theorem lushr_eq (x : Int64) (y : Int32) : XT.ushrL x y = shrL x (sh6 y) := by
  apply Int64.toBitVec_inj.mp
  show x.toBitVec >>> ((y.toInt64 &&& 63).toBitVec % 64) = x.toBitVec >>> (sh6 y)
  rw [BitVec.ushiftRight_eq', BitVec.toNat_umod, and63, BitVec.toNat_ofNat]
  congr 1
  show sh6 y % 2 ^ 64 % 64 = sh6 y
  unfold sh6; omega
section Steps
variable {l : Launch} {Z : State} {own : String} {code : ByteArray} {maxL : Nat} {ret : Option FieldType} {nm : String} {R : Room} {n0 : Nat} {G : Option Value → Heap → Prop} {W : WT} {h : Heap} {k n pc pc' : Nat} {Ls : Array Slot} {st rest : List Value}
theorem Ru.mono (C : Ru l Z own code maxL ret nm R n0 G W) {k2 n2 : Nat} (hk : k ≤ k2) (hn : n ≤ n2) (q : W h k2 n2 pc Ls st) : W h k n pc Ls st := by
  obtain ⟨p, e, s, m, args, below, meth, c, C, rfl⟩ := C
  intro T locs k' n' q1 q2 X eT N
  exact q T locs k' n' (Nat.le_trans q1 hk) (Nat.le_trans q2 hn) X eT N
theorem Ru.atPc (C : Ru l Z own code maxL ret nm R n0 G W) {pc2 : Nat} (hp : pc2 = pc) (q : W h k n pc2 Ls st) : W h k n pc Ls st := hp ▸ q
theorem Ru.iadd (C : Ru l Z own code maxL ret nm R n0 G W) {x y : Int32} (hd : decode code pc = .ok (.iadd, 1)) (hp : pc + 1 = pc') (q : W h k n pc' Ls (.int (x + y) :: rest)) : W h k n pc Ls (.int y :: .int x :: rest) := by
  obtain ⟨p, e, s, m, args, below, meth, c, ⟨hx, hby, hml, hown, hZ, hre, hlk, hnm⟩, rfl⟩ := C
  subst hp
  intro T locs k' n' q1 q2 X eT N
  obtain ⟨s2, o, st2, r⟩ := q T locs k' n' q1 q2 X eT N
  exact ⟨s2, o, XS.iadd (X.here) hx rfl (hb hby hd) rfl st2, r⟩
theorem Ru.isub (C : Ru l Z own code maxL ret nm R n0 G W) {x y : Int32} (hd : decode code pc = .ok (.isub, 1)) (hp : pc + 1 = pc') (q : W h k n pc' Ls (.int (x - y) :: rest)) : W h k n pc Ls (.int y :: .int x :: rest) := by
  obtain ⟨p, e, s, m, args, below, meth, c, ⟨hx, hby, hml, hown, hZ, hre, hlk, hnm⟩, rfl⟩ := C
  subst hp
  intro T locs k' n' q1 q2 X eT N
  obtain ⟨s2, o, st2, r⟩ := q T locs k' n' q1 q2 X eT N
  exact ⟨s2, o, XS.isub (X.here) hx rfl (hb hby hd) rfl st2, r⟩
theorem Ru.iand (C : Ru l Z own code maxL ret nm R n0 G W) {x y : Int32} (hd : decode code pc = .ok (.iand, 1)) (hp : pc + 1 = pc') (q : W h k n pc' Ls (.int (x &&& y) :: rest)) : W h k n pc Ls (.int y :: .int x :: rest) := by
  obtain ⟨p, e, s, m, args, below, meth, c, ⟨hx, hby, hml, hown, hZ, hre, hlk, hnm⟩, rfl⟩ := C
  subst hp
  intro T locs k' n' q1 q2 X eT N
  obtain ⟨s2, o, st2, r⟩ := q T locs k' n' q1 q2 X eT N
  exact ⟨s2, o, XS.iand (X.here) hx rfl (hb hby hd) rfl st2, r⟩
theorem Ru.imul (C : Ru l Z own code maxL ret nm R n0 G W) {x y : Int32} (hd : decode code pc = .ok (.imul, 1)) (hp : pc + 1 = pc') (q : W h k n pc' Ls (.int (x * y) :: rest)) : W h k n pc Ls (.int y :: .int x :: rest) := by
  obtain ⟨p, e, s, m, args, below, meth, c, ⟨hx, hby, hml, hown, hZ, hre, hlk, hnm⟩, rfl⟩ := C
  subst hp
  intro T locs k' n' q1 q2 X eT N
  obtain ⟨s2, o, st2, r⟩ := q T locs k' n' q1 q2 X eT N
  exact ⟨s2, o, XS.imul (X.here) hx rfl (hb hby hd) rfl st2, r⟩
theorem Ru.ixor (C : Ru l Z own code maxL ret nm R n0 G W) {x y : Int32} (hd : decode code pc = .ok (.ixor, 1)) (hp : pc + 1 = pc') (q : W h k n pc' Ls (.int (x ^^^ y) :: rest)) : W h k n pc Ls (.int y :: .int x :: rest) := by
  obtain ⟨p, e, s, m, args, below, meth, c, ⟨hx, hby, hml, hown, hZ, hre, hlk, hnm⟩, rfl⟩ := C
  subst hp
  intro T locs k' n' q1 q2 X eT N
  obtain ⟨s2, o, st2, r⟩ := q T locs k' n' q1 q2 X eT N
  exact ⟨s2, o, XT.ixor (X.here) hx rfl (hb hby hd) rfl st2, r⟩
theorem Ru.ior (C : Ru l Z own code maxL ret nm R n0 G W) {x y : Int32} (hd : decode code pc = .ok (.ior, 1)) (hp : pc + 1 = pc') (q : W h k n pc' Ls (.int (x ||| y) :: rest)) : W h k n pc Ls (.int y :: .int x :: rest) := by
  obtain ⟨p, e, s, m, args, below, meth, c, ⟨hx, hby, hml, hown, hZ, hre, hlk, hnm⟩, rfl⟩ := C
  subst hp
  intro T locs k' n' q1 q2 X eT N
  obtain ⟨s2, o, st2, r⟩ := q T locs k' n' q1 q2 X eT N
  exact ⟨s2, o, XT.ior (X.here) hx rfl (hb hby hd) rfl st2, r⟩
theorem Ru.idiv (C : Ru l Z own code maxL ret nm R n0 G W) {x y : Int32} (hd : decode code pc = .ok (.idiv, 1)) (hp : pc + 1 = pc') (hy : y ≠ 0) (q : W h k n pc' Ls (.int (x / y) :: rest)) : W h k n pc Ls (.int y :: .int x :: rest) := by
  obtain ⟨p, e, s, m, args, below, meth, c, ⟨hx, hby, hml, hown, hZ, hre, hlk, hnm⟩, rfl⟩ := C
  subst hp
  intro T locs k' n' q1 q2 X eT N
  obtain ⟨s2, o, st2, r⟩ := q T locs k' n' q1 q2 X eT N
  exact ⟨s2, o, XS.idiv (X.here) hx rfl (hb hby hd) rfl hy st2, r⟩
theorem Ru.irem (C : Ru l Z own code maxL ret nm R n0 G W) {x y : Int32} (hd : decode code pc = .ok (.irem, 1)) (hp : pc + 1 = pc') (hy : y ≠ 0) (q : W h k n pc' Ls (.int (x % y) :: rest)) : W h k n pc Ls (.int y :: .int x :: rest) := by
  obtain ⟨p, e, s, m, args, below, meth, c, ⟨hx, hby, hml, hown, hZ, hre, hlk, hnm⟩, rfl⟩ := C
  subst hp
  intro T locs k' n' q1 q2 X eT N
  obtain ⟨s2, o, st2, r⟩ := q T locs k' n' q1 q2 X eT N
  exact ⟨s2, o, iremM (X) hx rfl (hb hby hd) rfl hy st2, r⟩
theorem Ru.ineg (C : Ru l Z own code maxL ret nm R n0 G W) {x : Int32} (hd : decode code pc = .ok (.ineg, 1)) (hp : pc + 1 = pc') (q : W h k n pc' Ls (.int (-x) :: rest)) : W h k n pc Ls (.int x :: rest) := by
  obtain ⟨p, e, s, m, args, below, meth, c, ⟨hx, hby, hml, hown, hZ, hre, hlk, hnm⟩, rfl⟩ := C
  subst hp
  intro T locs k' n' q1 q2 X eT N
  obtain ⟨s2, o, st2, r⟩ := q T locs k' n' q1 q2 X eT N
  exact ⟨s2, o, XS.ineg (X.here) hx rfl (hb hby hd) rfl st2, r⟩
theorem Ru.ladd (C : Ru l Z own code maxL ret nm R n0 G W) {x y : Int64} (hd : decode code pc = .ok (.ladd, 1)) (hp : pc + 1 = pc') (q : W h k n pc' Ls (.long (x + y) :: rest)) : W h k n pc Ls (.long y :: .long x :: rest) := by
  obtain ⟨p, e, s, m, args, below, meth, c, ⟨hx, hby, hml, hown, hZ, hre, hlk, hnm⟩, rfl⟩ := C
  subst hp
  intro T locs k' n' q1 q2 X eT N
  obtain ⟨s2, o, st2, r⟩ := q T locs k' n' q1 q2 X eT N
  exact ⟨s2, o, XT.ladd (X.here) hx rfl (hb hby hd) rfl st2, r⟩
theorem Ru.lsub (C : Ru l Z own code maxL ret nm R n0 G W) {x y : Int64} (hd : decode code pc = .ok (.lsub, 1)) (hp : pc + 1 = pc') (q : W h k n pc' Ls (.long (x - y) :: rest)) : W h k n pc Ls (.long y :: .long x :: rest) := by
  obtain ⟨p, e, s, m, args, below, meth, c, ⟨hx, hby, hml, hown, hZ, hre, hlk, hnm⟩, rfl⟩ := C
  subst hp
  intro T locs k' n' q1 q2 X eT N
  obtain ⟨s2, o, st2, r⟩ := q T locs k' n' q1 q2 X eT N
  exact ⟨s2, o, XT.lsub (X.here) hx rfl (hb hby hd) rfl st2, r⟩
theorem Ru.lmul (C : Ru l Z own code maxL ret nm R n0 G W) {x y : Int64} (hd : decode code pc = .ok (.lmul, 1)) (hp : pc + 1 = pc') (q : W h k n pc' Ls (.long (x * y) :: rest)) : W h k n pc Ls (.long y :: .long x :: rest) := by
  obtain ⟨p, e, s, m, args, below, meth, c, ⟨hx, hby, hml, hown, hZ, hre, hlk, hnm⟩, rfl⟩ := C
  subst hp
  intro T locs k' n' q1 q2 X eT N
  obtain ⟨s2, o, st2, r⟩ := q T locs k' n' q1 q2 X eT N
  exact ⟨s2, o, XT.lmul (X.here) hx rfl (hb hby hd) rfl st2, r⟩
theorem Ru.land (C : Ru l Z own code maxL ret nm R n0 G W) {x y : Int64} (hd : decode code pc = .ok (.land, 1)) (hp : pc + 1 = pc') (q : W h k n pc' Ls (.long (x &&& y) :: rest)) : W h k n pc Ls (.long y :: .long x :: rest) := by
  obtain ⟨p, e, s, m, args, below, meth, c, ⟨hx, hby, hml, hown, hZ, hre, hlk, hnm⟩, rfl⟩ := C
  subst hp
  intro T locs k' n' q1 q2 X eT N
  obtain ⟨s2, o, st2, r⟩ := q T locs k' n' q1 q2 X eT N
  exact ⟨s2, o, XT.land (X.here) hx rfl (hb hby hd) rfl st2, r⟩
theorem Ru.lor (C : Ru l Z own code maxL ret nm R n0 G W) {x y : Int64} (hd : decode code pc = .ok (.lor, 1)) (hp : pc + 1 = pc') (q : W h k n pc' Ls (.long (x ||| y) :: rest)) : W h k n pc Ls (.long y :: .long x :: rest) := by
  obtain ⟨p, e, s, m, args, below, meth, c, ⟨hx, hby, hml, hown, hZ, hre, hlk, hnm⟩, rfl⟩ := C
  subst hp
  intro T locs k' n' q1 q2 X eT N
  obtain ⟨s2, o, st2, r⟩ := q T locs k' n' q1 q2 X eT N
  exact ⟨s2, o, XT.lor (X.here) hx rfl (hb hby hd) rfl st2, r⟩
theorem Ru.lxor (C : Ru l Z own code maxL ret nm R n0 G W) {x y : Int64} (hd : decode code pc = .ok (.lxor, 1)) (hp : pc + 1 = pc') (q : W h k n pc' Ls (.long (x ^^^ y) :: rest)) : W h k n pc Ls (.long y :: .long x :: rest) := by
  obtain ⟨p, e, s, m, args, below, meth, c, ⟨hx, hby, hml, hown, hZ, hre, hlk, hnm⟩, rfl⟩ := C
  subst hp
  intro T locs k' n' q1 q2 X eT N
  obtain ⟨s2, o, st2, r⟩ := q T locs k' n' q1 q2 X eT N
  exact ⟨s2, o, XT.lxor (X.here) hx rfl (hb hby hd) rfl st2, r⟩
theorem Ru.ldiv (C : Ru l Z own code maxL ret nm R n0 G W) {x y : Int64} (hd : decode code pc = .ok (.ldiv, 1)) (hp : pc + 1 = pc') (hy : y ≠ 0) (q : W h k n pc' Ls (.long (x / y) :: rest)) : W h k n pc Ls (.long y :: .long x :: rest) := by
  obtain ⟨p, e, s, m, args, below, meth, c, ⟨hx, hby, hml, hown, hZ, hre, hlk, hnm⟩, rfl⟩ := C
  subst hp
  intro T locs k' n' q1 q2 X eT N
  obtain ⟨s2, o, st2, r⟩ := q T locs k' n' q1 q2 X eT N
  exact ⟨s2, o, XT.ldiv (X.here) hx rfl (hb hby hd) rfl hy st2, r⟩
theorem Ru.ishl (C : Ru l Z own code maxL ret nm R n0 G W) {x : Int32} {y : Int32} {s : Nat} (hd : decode code pc = .ok (.ishl, 1)) (hp : pc + 1 = pc') (hs : sh5 y = s) (q : W h k n pc' Ls (.int (shlI x s) :: rest)) : W h k n pc Ls (.int y :: .int x :: rest) := by
  obtain ⟨p, e, s', m, args, below, meth, c, ⟨hx, hby, hml, hown, hZ, hre, hlk, hnm⟩, rfl⟩ := C
  subst hp hs
  intro T locs k' n' q1 q2 X eT N
  obtain ⟨s2, o, st2, r⟩ := q T locs k' n' q1 q2 X eT N
  exact ⟨s2, o, XT.ishl X.here hx rfl (hb hby hd) rfl (by rw [ishl_eq]; exact st2), r⟩
theorem Ru.ishr (C : Ru l Z own code maxL ret nm R n0 G W) {x : Int32} {y : Int32} {s : Nat} (hd : decode code pc = .ok (.ishr, 1)) (hp : pc + 1 = pc') (hs : sh5 y = s) (q : W h k n pc' Ls (.int (sarI x s) :: rest)) : W h k n pc Ls (.int y :: .int x :: rest) := by
  obtain ⟨p, e, s', m, args, below, meth, c, ⟨hx, hby, hml, hown, hZ, hre, hlk, hnm⟩, rfl⟩ := C
  subst hp hs
  intro T locs k' n' q1 q2 X eT N
  obtain ⟨s2, o, st2, r⟩ := q T locs k' n' q1 q2 X eT N
  exact ⟨s2, o, XT.ishr X.here hx rfl (hb hby hd) rfl (by rw [ishr_eq]; exact st2), r⟩
theorem Ru.iushr (C : Ru l Z own code maxL ret nm R n0 G W) {x : Int32} {y : Int32} {s : Nat} (hd : decode code pc = .ok (.iushr, 1)) (hp : pc + 1 = pc') (hs : sh5 y = s) (q : W h k n pc' Ls (.int (shrI x s) :: rest)) : W h k n pc Ls (.int y :: .int x :: rest) := by
  obtain ⟨p, e, s', m, args, below, meth, c, ⟨hx, hby, hml, hown, hZ, hre, hlk, hnm⟩, rfl⟩ := C
  subst hp hs
  intro T locs k' n' q1 q2 X eT N
  obtain ⟨s2, o, st2, r⟩ := q T locs k' n' q1 q2 X eT N
  exact ⟨s2, o, XT.iushr X.here hx rfl (hb hby hd) rfl (by rw [iushr_eq]; exact st2), r⟩
theorem Ru.lshl (C : Ru l Z own code maxL ret nm R n0 G W) {x : Int64} {y : Int32} {s : Nat} (hd : decode code pc = .ok (.lshl, 1)) (hp : pc + 1 = pc') (hs : sh6 y = s) (q : W h k n pc' Ls (.long (shlL x s) :: rest)) : W h k n pc Ls (.int y :: .long x :: rest) := by
  obtain ⟨p, e, s', m, args, below, meth, c, ⟨hx, hby, hml, hown, hZ, hre, hlk, hnm⟩, rfl⟩ := C
  subst hp hs
  intro T locs k' n' q1 q2 X eT N
  obtain ⟨s2, o, st2, r⟩ := q T locs k' n' q1 q2 X eT N
  exact ⟨s2, o, XT.lshl X.here hx rfl (hb hby hd) rfl (by rw [lshl_eq]; exact st2), r⟩
theorem Ru.lshr (C : Ru l Z own code maxL ret nm R n0 G W) {x : Int64} {y : Int32} {s : Nat} (hd : decode code pc = .ok (.lshr, 1)) (hp : pc + 1 = pc') (hs : sh6 y = s) (q : W h k n pc' Ls (.long (sarL x s) :: rest)) : W h k n pc Ls (.int y :: .long x :: rest) := by
  obtain ⟨p, e, s', m, args, below, meth, c, ⟨hx, hby, hml, hown, hZ, hre, hlk, hnm⟩, rfl⟩ := C
  subst hp hs
  intro T locs k' n' q1 q2 X eT N
  obtain ⟨s2, o, st2, r⟩ := q T locs k' n' q1 q2 X eT N
  exact ⟨s2, o, XT.lshr X.here hx rfl (hb hby hd) rfl (by rw [lshr_eq]; exact st2), r⟩
theorem Ru.lushr (C : Ru l Z own code maxL ret nm R n0 G W) {x : Int64} {y : Int32} {s : Nat} (hd : decode code pc = .ok (.lushr, 1)) (hp : pc + 1 = pc') (hs : sh6 y = s) (q : W h k n pc' Ls (.long (shrL x s) :: rest)) : W h k n pc Ls (.int y :: .long x :: rest) := by
  obtain ⟨p, e, s', m, args, below, meth, c, ⟨hx, hby, hml, hown, hZ, hre, hlk, hnm⟩, rfl⟩ := C
  subst hp hs
  intro T locs k' n' q1 q2 X eT N
  obtain ⟨s2, o, st2, r⟩ := q T locs k' n' q1 q2 X eT N
  exact ⟨s2, o, XT.lushr X.here hx rfl (hb hby hd) rfl (by rw [lushr_eq]; exact st2), r⟩
theorem Ru.i2l (C : Ru l Z own code maxL ret nm R n0 G W) {x : Int32} (hd : decode code pc = .ok (.i2l, 1)) (hp : pc + 1 = pc') (q : W h k n pc' Ls (.long x.toInt64 :: rest)) : W h k n pc Ls (.int x :: rest) := by
  obtain ⟨p, e, s, m, args, below, meth, c, ⟨hx, hby, hml, hown, hZ, hre, hlk, hnm⟩, rfl⟩ := C
  subst hp
  intro T locs k' n' q1 q2 X eT N
  obtain ⟨s2, o, st2, r⟩ := q T locs k' n' q1 q2 X eT N
  exact ⟨s2, o, XT.i2l (X.here) hx rfl (hb hby hd) rfl st2, r⟩
theorem Ru.l2i (C : Ru l Z own code maxL ret nm R n0 G W) {x : Int64} (hd : decode code pc = .ok (.l2i, 1)) (hp : pc + 1 = pc') (q : W h k n pc' Ls (.int x.toInt32 :: rest)) : W h k n pc Ls (.long x :: rest) := by
  obtain ⟨p, e, s, m, args, below, meth, c, ⟨hx, hby, hml, hown, hZ, hre, hlk, hnm⟩, rfl⟩ := C
  subst hp
  intro T locs k' n' q1 q2 X eT N
  obtain ⟨s2, o, st2, r⟩ := q T locs k' n' q1 q2 X eT N
  exact ⟨s2, o, XT.l2i (X.here) hx rfl (hb hby hd) rfl st2, r⟩
theorem Ru.i2b (C : Ru l Z own code maxL ret nm R n0 G W) {x : Int32} (hd : decode code pc = .ok (.i2b, 1)) (hp : pc + 1 = pc') (q : W h k n pc' Ls (.int x.toInt8.toInt32 :: rest)) : W h k n pc Ls (.int x :: rest) := by
  obtain ⟨p, e, s, m, args, below, meth, c, ⟨hx, hby, hml, hown, hZ, hre, hlk, hnm⟩, rfl⟩ := C
  subst hp
  intro T locs k' n' q1 q2 X eT N
  obtain ⟨s2, o, st2, r⟩ := q T locs k' n' q1 q2 X eT N
  exact ⟨s2, o, XT.i2b (X.here) hx rfl (hb hby hd) rfl st2, r⟩
theorem Ru.iconst (C : Ru l Z own code maxL ret nm R n0 G W) {i : Int} {v : Int32} (hd : decode code pc = .ok (.iconst i, 1)) (hp : pc + 1 = pc') (hv : Int32.ofInt i = v) (q : W h k n pc' Ls (.int v :: st)) : W h k n pc Ls (st) := by
  obtain ⟨p, e, s, m, args, below, meth, c, ⟨hx, hby, hml, hown, hZ, hre, hlk, hnm⟩, rfl⟩ := C
  subst hp hv
  intro T locs k' n' q1 q2 X eT N
  obtain ⟨s2, o, st2, r⟩ := q T locs k' n' q1 q2 X eT N
  exact ⟨s2, o, XS.iconst (X.here) hx rfl (hb hby hd)  st2, r⟩
theorem Ru.bipush (C : Ru l Z own code maxL ret nm R n0 G W) {i : Int} {v : Int32} (hd : decode code pc = .ok (.bipush i, 2)) (hp : pc + 2 = pc') (hv : (Int8.ofInt i).toInt32 = v) (q : W h k n pc' Ls (.int v :: st)) : W h k n pc Ls (st) := by
  obtain ⟨p, e, s, m, args, below, meth, c, ⟨hx, hby, hml, hown, hZ, hre, hlk, hnm⟩, rfl⟩ := C
  subst hp hv
  intro T locs k' n' q1 q2 X eT N
  obtain ⟨s2, o, st2, r⟩ := q T locs k' n' q1 q2 X eT N
  exact ⟨s2, o, XS.bipush (X.here) hx rfl (hb hby hd)  st2, r⟩
theorem Ru.sipush (C : Ru l Z own code maxL ret nm R n0 G W) {i : Int} {v : Int32} (hd : decode code pc = .ok (.sipush i, 3)) (hp : pc + 3 = pc') (hv : (Int16.ofInt i).toInt32 = v) (q : W h k n pc' Ls (.int v :: st)) : W h k n pc Ls (st) := by
  obtain ⟨p, e, s, m, args, below, meth, c, ⟨hx, hby, hml, hown, hZ, hre, hlk, hnm⟩, rfl⟩ := C
  subst hp hv
  intro T locs k' n' q1 q2 X eT N
  obtain ⟨s2, o, st2, r⟩ := q T locs k' n' q1 q2 X eT N
  exact ⟨s2, o, XS.sipush (X.here) hx rfl (hb hby hd)  st2, r⟩
theorem Ru.lconst (C : Ru l Z own code maxL ret nm R n0 G W) {i : Fin 2} {v : Int64} (hd : decode code pc = .ok (.lconst i, 1)) (hp : pc + 1 = pc') (hv : Int64.ofNat i = v) (q : W h k n pc' Ls (.long v :: st)) : W h k n pc Ls (st) := by
  obtain ⟨p, e, s, m, args, below, meth, c, ⟨hx, hby, hml, hown, hZ, hre, hlk, hnm⟩, rfl⟩ := C
  subst hp hv
  intro T locs k' n' q1 q2 X eT N
  obtain ⟨s2, o, st2, r⟩ := q T locs k' n' q1 q2 X eT N
  exact ⟨s2, o, XT.lconst (X.here) hx rfl (hb hby hd)  st2, r⟩
theorem Ru.aconstNull (C : Ru l Z own code maxL ret nm R n0 G W)  (hd : decode code pc = .ok (.aconst_null, 1)) (hp : pc + 1 = pc') (q : W h k n pc' Ls (.null :: st)) : W h k n pc Ls (st) := by
  obtain ⟨p, e, s, m, args, below, meth, c, ⟨hx, hby, hml, hown, hZ, hre, hlk, hnm⟩, rfl⟩ := C
  subst hp
  intro T locs k' n' q1 q2 X eT N
  obtain ⟨s2, o, st2, r⟩ := q T locs k' n' q1 q2 X eT N
  exact ⟨s2, o, XS.aconstNull (X.here) hx rfl (hb hby hd)  st2, r⟩
theorem Ru.dup (C : Ru l Z own code maxL ret nm R n0 G W) {x : Value} (hd : decode code pc = .ok (.dup, 1)) (hp : pc + 1 = pc') (hc : x.category = 1) (q : W h k n pc' Ls (x :: x :: rest)) : W h k n pc Ls (x :: rest) := by
  obtain ⟨p, e, s, m, args, below, meth, c, ⟨hx, hby, hml, hown, hZ, hre, hlk, hnm⟩, rfl⟩ := C
  subst hp
  intro T locs k' n' q1 q2 X eT N
  obtain ⟨s2, o, st2, r⟩ := q T locs k' n' q1 q2 X eT N
  exact ⟨s2, o, XS.dup (X.here) hx rfl (hb hby hd) rfl hc st2, r⟩
theorem Ru.pop (C : Ru l Z own code maxL ret nm R n0 G W) {x : Value} (hd : decode code pc = .ok (.pop, 1)) (hp : pc + 1 = pc') (hc : x.category = 1) (q : W h k n pc' Ls (rest)) : W h k n pc Ls (x :: rest) := by
  obtain ⟨p, e, s, m, args, below, meth, c, ⟨hx, hby, hml, hown, hZ, hre, hlk, hnm⟩, rfl⟩ := C
  subst hp
  intro T locs k' n' q1 q2 X eT N
  obtain ⟨s2, o, st2, r⟩ := q T locs k' n' q1 q2 X eT N
  exact ⟨s2, o, XT.pop (X.here) hx rfl (hb hby hd) rfl hc st2, r⟩
theorem Ru.dup2 (C : Ru l Z own code maxL ret nm R n0 G W) {x y : Value} (hd : decode code pc = .ok (.dup2, 1)) (hp : pc + 1 = pc') (hc : x.category = 1) (hc' : y.category = 1) (q : W h k n pc' Ls (x :: y :: x :: y :: rest)) : W h k n pc Ls (x :: y :: rest) := by
  obtain ⟨p, e, s, m, args, below, meth, c, ⟨hx, hby, hml, hown, hZ, hre, hlk, hnm⟩, rfl⟩ := C
  subst hp
  intro T locs k' n' q1 q2 X eT N
  obtain ⟨s2, o, st2, r⟩ := q T locs k' n' q1 q2 X eT N
  exact ⟨s2, o, XT.dup2 (X.here) hx rfl (hb hby hd) rfl hc hc' st2, r⟩
theorem Ru.dup2L (C : Ru l Z own code maxL ret nm R n0 G W) {x : Int64} (hd : decode code pc = .ok (.dup2, 1)) (hp : pc + 1 = pc') (q : W h k n pc' Ls (.long x :: .long x :: rest)) : W h k n pc Ls (.long x :: rest) := by
  obtain ⟨p, e, s, m, args, below, meth, c, ⟨hx, hby, hml, hown, hZ, hre, hlk, hnm⟩, rfl⟩ := C
  subst hp
  intro T locs k' n' q1 q2 X eT N
  obtain ⟨s2, o, st2, r⟩ := q T locs k' n' q1 q2 X eT N
  exact ⟨s2, o, XT.dup2L (X.here) hx rfl (hb hby hd) rfl st2, r⟩
theorem Ru.dupX1 (C : Ru l Z own code maxL ret nm R n0 G W) {x y : Value} (hd : decode code pc = .ok (.dup_x1, 1)) (hp : pc + 1 = pc') (hc : x.category = 1) (hc' : y.category = 1) (q : W h k n pc' Ls (x :: y :: x :: rest)) : W h k n pc Ls (x :: y :: rest) := by
  obtain ⟨p, e, s, m, args, below, meth, c, ⟨hx, hby, hml, hown, hZ, hre, hlk, hnm⟩, rfl⟩ := C
  subst hp
  intro T locs k' n' q1 q2 X eT N
  obtain ⟨s2, o, st2, r⟩ := q T locs k' n' q1 q2 X eT N
  exact ⟨s2, o, XT.dupX1 (X.here) hx rfl (hb hby hd) rfl hc hc' st2, r⟩
theorem Ru.iload (C : Ru l Z own code maxL ret nm R n0 G W) {j : Nat} {v : Int32} (hd : decode code pc = .ok (.iload j, 2)) (hp : pc + 2 = pc') (hl : Ls[j]? = some (.val (.int v))) (q : W h k n pc' Ls (.int v :: st)) : W h k n pc Ls (st) := by
  obtain ⟨p, e, s, m, args, below, meth, c, ⟨hx, hby, hml, hown, hZ, hre, hlk, hnm⟩, rfl⟩ := C
  subst hp
  intro T locs k' n' q1 q2 X eT N
  obtain ⟨s2, o, st2, r⟩ := q T locs k' n' q1 q2 X eT N
  exact ⟨s2, o, XS.iload (X.here) hx rfl (hb hby hd) hl st2, r⟩
theorem Ru.iloadN (C : Ru l Z own code maxL ret nm R n0 G W) {j : Fin 4} {v : Int32} (hd : decode code pc = .ok (.iload_n j, 1)) (hp : pc + 1 = pc') (hl : Ls[j.val]? = some (.val (.int v))) (q : W h k n pc' Ls (.int v :: st)) : W h k n pc Ls (st) := by
  obtain ⟨p, e, s, m, args, below, meth, c, ⟨hx, hby, hml, hown, hZ, hre, hlk, hnm⟩, rfl⟩ := C
  subst hp
  intro T locs k' n' q1 q2 X eT N
  obtain ⟨s2, o, st2, r⟩ := q T locs k' n' q1 q2 X eT N
  exact ⟨s2, o, XS.iloadN (X.here) hx rfl (hb hby hd) hl st2, r⟩
theorem Ru.lload (C : Ru l Z own code maxL ret nm R n0 G W) {j : Nat} {v : Int64} (hd : decode code pc = .ok (.lload j, 2)) (hp : pc + 2 = pc') (hl : Ls[j]? = some (.val (.long v))) (q : W h k n pc' Ls (.long v :: st)) : W h k n pc Ls (st) := by
  obtain ⟨p, e, s, m, args, below, meth, c, ⟨hx, hby, hml, hown, hZ, hre, hlk, hnm⟩, rfl⟩ := C
  subst hp
  intro T locs k' n' q1 q2 X eT N
  obtain ⟨s2, o, st2, r⟩ := q T locs k' n' q1 q2 X eT N
  exact ⟨s2, o, XT.lload (X.here) hx rfl (hb hby hd) hl st2, r⟩
theorem Ru.lloadN (C : Ru l Z own code maxL ret nm R n0 G W) {j : Fin 4} {v : Int64} (hd : decode code pc = .ok (.lload_n j, 1)) (hp : pc + 1 = pc') (hl : Ls[j.val]? = some (.val (.long v))) (q : W h k n pc' Ls (.long v :: st)) : W h k n pc Ls (st) := by
  obtain ⟨p, e, s, m, args, below, meth, c, ⟨hx, hby, hml, hown, hZ, hre, hlk, hnm⟩, rfl⟩ := C
  subst hp
  intro T locs k' n' q1 q2 X eT N
  obtain ⟨s2, o, st2, r⟩ := q T locs k' n' q1 q2 X eT N
  exact ⟨s2, o, XT.lloadN (X.here) hx rfl (hb hby hd) hl st2, r⟩
theorem Ru.aload (C : Ru l Z own code maxL ret nm R n0 G W) {j : Nat} {v : Value} (hd : decode code pc = .ok (.aload j, 2)) (hp : pc + 2 = pc') (hl : Ls[j]? = some (.val v)) (hv : v.isRef = true) (q : W h k n pc' Ls (v :: st)) : W h k n pc Ls (st) := by
  obtain ⟨p, e, s, m, args, below, meth, c, ⟨hx, hby, hml, hown, hZ, hre, hlk, hnm⟩, rfl⟩ := C
  subst hp
  intro T locs k' n' q1 q2 X eT N
  obtain ⟨s2, o, st2, r⟩ := q T locs k' n' q1 q2 X eT N
  exact ⟨s2, o, XS.aload (X.here) hx rfl (hb hby hd) hl hv st2, r⟩
theorem Ru.aloadN (C : Ru l Z own code maxL ret nm R n0 G W) {j : Fin 4} {v : Value} (hd : decode code pc = .ok (.aload_n j, 1)) (hp : pc + 1 = pc') (hl : Ls[j.val]? = some (.val v)) (hv : v.isRef = true) (q : W h k n pc' Ls (v :: st)) : W h k n pc Ls (st) := by
  obtain ⟨p, e, s, m, args, below, meth, c, ⟨hx, hby, hml, hown, hZ, hre, hlk, hnm⟩, rfl⟩ := C
  subst hp
  intro T locs k' n' q1 q2 X eT N
  obtain ⟨s2, o, st2, r⟩ := q T locs k' n' q1 q2 X eT N
  exact ⟨s2, o, XS.aloadN (X.here) hx rfl (hb hby hd) hl hv st2, r⟩
theorem Ru.istoreX (C : Ru l Z own code maxL ret nm R n0 G W) {j : Nat} {x : Int32} {l' : Array Slot} (hd : decode code pc = .ok (.istore j, 2)) (hp : pc + 2 = pc') (hl : storeLocals Ls j (.int x) = some l') (q : W h k n pc' l' rest) : W h k n pc Ls (.int x :: rest) := by
  obtain ⟨p, e, s, m, args, below, meth, c, ⟨hx, hby, hml, hown, hZ, hre, hlk, hnm⟩, rfl⟩ := C
  subst hp
  intro T locs k' n' q1 q2 X eT N
  obtain ⟨s2, o, st2, r⟩ := q T locs k' n' q1 q2 X eT N
  exact ⟨s2, o, XS.istore X.here hx rfl (hb hby hd) rfl hl st2, r⟩
theorem Ru.istoreNX (C : Ru l Z own code maxL ret nm R n0 G W) {j : Fin 4} {x : Int32} {l' : Array Slot} (hd : decode code pc = .ok (.istore_n j, 1)) (hp : pc + 1 = pc') (hl : storeLocals Ls j.val (.int x) = some l') (q : W h k n pc' l' rest) : W h k n pc Ls (.int x :: rest) := by
  obtain ⟨p, e, s, m, args, below, meth, c, ⟨hx, hby, hml, hown, hZ, hre, hlk, hnm⟩, rfl⟩ := C
  subst hp
  intro T locs k' n' q1 q2 X eT N
  obtain ⟨s2, o, st2, r⟩ := q T locs k' n' q1 q2 X eT N
  exact ⟨s2, o, XS.istoreN X.here hx rfl (hb hby hd) rfl hl st2, r⟩
theorem Ru.lstoreX (C : Ru l Z own code maxL ret nm R n0 G W) {j : Nat} {x : Int64} {l' : Array Slot} (hd : decode code pc = .ok (.lstore j, 2)) (hp : pc + 2 = pc') (hl : storeLocals Ls j (.long x) = some l') (q : W h k n pc' l' rest) : W h k n pc Ls (.long x :: rest) := by
  obtain ⟨p, e, s, m, args, below, meth, c, ⟨hx, hby, hml, hown, hZ, hre, hlk, hnm⟩, rfl⟩ := C
  subst hp
  intro T locs k' n' q1 q2 X eT N
  obtain ⟨s2, o, st2, r⟩ := q T locs k' n' q1 q2 X eT N
  exact ⟨s2, o, XT.lstore X.here hx rfl (hb hby hd) rfl hl st2, r⟩
theorem Ru.lstoreNX (C : Ru l Z own code maxL ret nm R n0 G W) {j : Fin 4} {x : Int64} {l' : Array Slot} (hd : decode code pc = .ok (.lstore_n j, 1)) (hp : pc + 1 = pc') (hl : storeLocals Ls j.val (.long x) = some l') (q : W h k n pc' l' rest) : W h k n pc Ls (.long x :: rest) := by
  obtain ⟨p, e, s, m, args, below, meth, c, ⟨hx, hby, hml, hown, hZ, hre, hlk, hnm⟩, rfl⟩ := C
  subst hp
  intro T locs k' n' q1 q2 X eT N
  obtain ⟨s2, o, st2, r⟩ := q T locs k' n' q1 q2 X eT N
  exact ⟨s2, o, XT.lstoreN X.here hx rfl (hb hby hd) rfl hl st2, r⟩
theorem Ru.istore (C : Ru l Z own code maxL ret nm R n0 G W) {j : Nat} {x : Int32} {f : Int32 → Array Slot} (hd : decode code pc = .ok (.istore j, 2)) (hp : pc + 2 = pc') (hl : ∀ v, storeLocals Ls j (.int v) = some (f v)) (q : ∀ v, v = x → W h k n pc' (f v) rest) : W h k n pc Ls (.int x :: rest) := by
  obtain ⟨p, e, s, m, args, below, meth, c, ⟨hx, hby, hml, hown, hZ, hre, hlk, hnm⟩, rfl⟩ := C
  subst hp
  intro T locs k' n' q1 q2 X eT N
  obtain ⟨s2, o, st2, r⟩ := q x rfl T locs k' n' q1 q2 X eT N
  exact ⟨s2, o, XS.istore X.here hx rfl (hb hby hd) rfl (hl x) st2, r⟩
theorem Ru.istoreN (C : Ru l Z own code maxL ret nm R n0 G W) {j : Fin 4} {x : Int32} {f : Int32 → Array Slot} (hd : decode code pc = .ok (.istore_n j, 1)) (hp : pc + 1 = pc') (hl : ∀ v, storeLocals Ls j.val (.int v) = some (f v)) (q : ∀ v, v = x → W h k n pc' (f v) rest) : W h k n pc Ls (.int x :: rest) := by
  obtain ⟨p, e, s, m, args, below, meth, c, ⟨hx, hby, hml, hown, hZ, hre, hlk, hnm⟩, rfl⟩ := C
  subst hp
  intro T locs k' n' q1 q2 X eT N
  obtain ⟨s2, o, st2, r⟩ := q x rfl T locs k' n' q1 q2 X eT N
  exact ⟨s2, o, XS.istoreN X.here hx rfl (hb hby hd) rfl (hl x) st2, r⟩
theorem Ru.lstore (C : Ru l Z own code maxL ret nm R n0 G W) {j : Nat} {x : Int64} {f : Int64 → Array Slot} (hd : decode code pc = .ok (.lstore j, 2)) (hp : pc + 2 = pc') (hl : ∀ v, storeLocals Ls j (.long v) = some (f v)) (q : ∀ v, v = x → W h k n pc' (f v) rest) : W h k n pc Ls (.long x :: rest) := by
  obtain ⟨p, e, s, m, args, below, meth, c, ⟨hx, hby, hml, hown, hZ, hre, hlk, hnm⟩, rfl⟩ := C
  subst hp
  intro T locs k' n' q1 q2 X eT N
  obtain ⟨s2, o, st2, r⟩ := q x rfl T locs k' n' q1 q2 X eT N
  exact ⟨s2, o, XT.lstore X.here hx rfl (hb hby hd) rfl (hl x) st2, r⟩
theorem Ru.lstoreN (C : Ru l Z own code maxL ret nm R n0 G W) {j : Fin 4} {x : Int64} {f : Int64 → Array Slot} (hd : decode code pc = .ok (.lstore_n j, 1)) (hp : pc + 1 = pc') (hl : ∀ v, storeLocals Ls j.val (.long v) = some (f v)) (q : ∀ v, v = x → W h k n pc' (f v) rest) : W h k n pc Ls (.long x :: rest) := by
  obtain ⟨p, e, s, m, args, below, meth, c, ⟨hx, hby, hml, hown, hZ, hre, hlk, hnm⟩, rfl⟩ := C
  subst hp
  intro T locs k' n' q1 q2 X eT N
  obtain ⟨s2, o, st2, r⟩ := q x rfl T locs k' n' q1 q2 X eT N
  exact ⟨s2, o, XT.lstoreN X.here hx rfl (hb hby hd) rfl (hl x) st2, r⟩
theorem Ru.astore (C : Ru l Z own code maxL ret nm R n0 G W) {j : Nat} {x : Value} {l' : Array Slot} (hd : decode code pc = .ok (.astore j, 2)) (hp : pc + 2 = pc') (hv : x.isRef = true) (hl : storeLocals Ls j x = some l') (q : W h k n pc' l' rest) : W h k n pc Ls (x :: rest) := by
  obtain ⟨p, e, s, m, args, below, meth, c, ⟨hx, hby, hml, hown, hZ, hre, hlk, hnm⟩, rfl⟩ := C
  subst hp
  intro T locs k' n' q1 q2 X eT N
  obtain ⟨s2, o, st2, r⟩ := q T locs k' n' q1 q2 X eT N
  exact ⟨s2, o, XS.astore X.here hx rfl (hb hby hd) rfl hv hl st2, r⟩
theorem Ru.astoreN (C : Ru l Z own code maxL ret nm R n0 G W) {j : Fin 4} {x : Value} {l' : Array Slot} (hd : decode code pc = .ok (.astore_n j, 1)) (hp : pc + 1 = pc') (hv : x.isRef = true) (hl : storeLocals Ls j.val x = some l') (q : W h k n pc' l' rest) : W h k n pc Ls (x :: rest) := by
  obtain ⟨p, e, s, m, args, below, meth, c, ⟨hx, hby, hml, hown, hZ, hre, hlk, hnm⟩, rfl⟩ := C
  subst hp
  intro T locs k' n' q1 q2 X eT N
  obtain ⟨s2, o, st2, r⟩ := q T locs k' n' q1 q2 X eT N
  exact ⟨s2, o, XS.astoreN X.here hx rfl (hb hby hd) rfl hv hl st2, r⟩
theorem Ru.iinc (C : Ru l Z own code maxL ret nm R n0 G W) {j : Nat} {cst : Int} {x d : Int32} {f : Int32 → Array Slot} (hd : decode code pc = .ok (.iinc j cst, 3)) (hp : pc + 3 = pc') (hl : Ls[j]? = some (.val (.int x))) (hc : Int32.ofInt cst = d) (hl' : ∀ v, storeLocals Ls j (.int v) = some (f v)) (q : ∀ v, v = x + d → W h k n pc' (f v) st) : W h k n pc Ls st := by
  obtain ⟨p, e, s, m, args, below, meth, c, ⟨hx, hby, hml, hown, hZ, hre, hlk, hnm⟩, rfl⟩ := C
  subst hp hc
  intro T locs k' n' q1 q2 X eT N
  obtain ⟨s2, o, st2, r⟩ := q _ rfl T locs k' n' q1 q2 X eT N
  exact ⟨s2, o, XS.iinc X.here hx rfl (hb hby hd) hl (hl' _) st2, r⟩
theorem Ru.goto (C : Ru l Z own code maxL ret nm R n0 G W) {o : Int} (hd : decode code pc = .ok (.goto o, 3)) (hp : (pc : Int) + o = (pc' : Int)) (q : W h k n pc' Ls st) : W h k n pc Ls st := by
  obtain ⟨p, e, s, m, args, below, meth, c, ⟨hx, hby, hml, hown, hZ, hre, hlk, hnm⟩, rfl⟩ := C
  intro T locs k' n' q1 q2 X eT N
  obtain ⟨s2, o2, st2, r⟩ := q T locs k' n' q1 q2 X eT N
  exact ⟨s2, o2, XS.goto X.here hx rfl (pc0 := pc) (pc' := pc') rfl (hb hby hd) (by omega) (by omega) st2, r⟩
theorem Ru.ifAny (C : Ru l Z own code maxL ret nm R n0 G W) {cd : ClassFile.Cond} {o : Int} {x : Int32} {pt : Nat} (hd : decode code pc = .ok (.ifCond cd o, 3)) (hp : pc + 3 = pc') (ht : (pc : Int) + o = (pt : Int)) (q1 : ifCond.holds cd x = true → W h k n pt Ls rest) (q2 : ifCond.holds cd x = false → W h k n pc' Ls rest) : W h k n pc Ls (.int x :: rest) := by
  obtain ⟨p, e, s, m, args, below, meth, c, ⟨hx, hby, hml, hown, hZ, hre, hlk, hnm⟩, rfl⟩ := C
  subst hp
  intro T locs k' n' u1 u2 X eT N
  cases hc : ifCond.holds cd x
  · obtain ⟨s2, o2, st2, r⟩ := q2 hc T locs k' n' u1 u2 X eT N
    exact ⟨s2, o2, XS.ifNo X.here hx rfl (hb hby hd) rfl hc st2, r⟩
  · obtain ⟨s2, o2, st2, r⟩ := q1 hc T locs k' n' u1 u2 X eT N
    exact ⟨s2, o2, XS.ifYes X.here hx rfl (pc0 := pc) (pc' := pt) rfl (hb hby hd) rfl hc (by omega) (by omega) st2, r⟩
theorem Ru.icmpAny (C : Ru l Z own code maxL ret nm R n0 G W) {cd : ClassFile.Cond} {o : Int} {x y : Int32} {pt : Nat} (hd : decode code pc = .ok (.if_icmp cd o, 3)) (hp : pc + 3 = pc') (ht : (pc : Int) + o = (pt : Int)) (q1 : if_icmp.holds cd x y = true → W h k n pt Ls rest) (q2 : if_icmp.holds cd x y = false → W h k n pc' Ls rest) : W h k n pc Ls (.int y :: .int x :: rest) := by
  obtain ⟨p, e, s, m, args, below, meth, c, ⟨hx, hby, hml, hown, hZ, hre, hlk, hnm⟩, rfl⟩ := C
  subst hp
  intro T locs k' n' u1 u2 X eT N
  cases hc : if_icmp.holds cd x y
  · obtain ⟨s2, o2, st2, r⟩ := q2 hc T locs k' n' u1 u2 X eT N
    exact ⟨s2, o2, XS.icmpNo X.here hx rfl (hb hby hd) rfl hc st2, r⟩
  · obtain ⟨s2, o2, st2, r⟩ := q1 hc T locs k' n' u1 u2 X eT N
    exact ⟨s2, o2, XS.icmpYes X.here hx rfl (pc0 := pc) (pc' := pt) rfl (hb hby hd) rfl hc (by omega) (by omega) st2, r⟩
theorem Ru.lcmp (C : Ru l Z own code maxL ret nm R n0 G W) {x y : Int64} (hd : decode code pc = .ok (.lcmp, 1)) (hp : pc + 1 = pc') (q : W h k n pc' Ls (.int (XT.cmpL x y) :: rest)) : W h k n pc Ls (.long y :: .long x :: rest) := by
  obtain ⟨p, e, s, m, args, below, meth, c, ⟨hx, hby, hml, hown, hZ, hre, hlk, hnm⟩, rfl⟩ := C
  subst hp
  intro T locs k' n' q1 q2 X eT N
  obtain ⟨s2, o, st2, r⟩ := q T locs k' n' q1 q2 X eT N
  exact ⟨s2, o, XT.lcmp X.here hx rfl (hb hby hd) rfl st2, r⟩
theorem cmpL_lt (x y : Int64) : XT.cmpL x y < 0 ↔ x < y := by
  have e : XT.cmpL x y = lcmpV x y := by simp only [XT.cmpL, lcmpV]; split <;> simp_all
  rw [e]; exact lc_lt x y
theorem cmpL_gt (x y : Int64) : 0 < XT.cmpL x y ↔ y < x := by
  have e : XT.cmpL x y = lcmpV x y := by simp only [XT.cmpL, lcmpV]; split <;> simp_all
  rw [e]; exact lc_gt x y
theorem cmpL_eq (x y : Int64) : XT.cmpL x y = 0 ↔ x = y := by
  have e : XT.cmpL x y = lcmpV x y := by simp only [XT.cmpL, lcmpV]; split <;> simp_all
  rw [e]; exact lc_eq x y
theorem Ru.if_eq (C : Ru l Z own code maxL ret nm R n0 G W) {o : Int} {x : Int32} {pt : Nat} (hd : decode code pc = .ok (.ifCond .eq o, 3)) (hp : pc + 3 = pc') (ht : (pc : Int) + o = (pt : Int)) (q1 : x = 0 → W h k n pt Ls rest) (q2 : ¬ x = 0 → W h k n pc' Ls rest) : W h k n pc Ls (.int x :: rest) :=
  C.ifAny hd hp ht (fun q => q1 (by simpa [ifCond.holds] using q)) (fun q => q2 (by simpa [ifCond.holds] using q))
theorem Ru.icmp_eq (C : Ru l Z own code maxL ret nm R n0 G W) {o : Int} {x y : Int32} {pt : Nat} (hd : decode code pc = .ok (.if_icmp .eq o, 3)) (hp : pc + 3 = pc') (ht : (pc : Int) + o = (pt : Int)) (q1 : x = y → W h k n pt Ls rest) (q2 : ¬ x = y → W h k n pc' Ls rest) : W h k n pc Ls (.int y :: .int x :: rest) :=
  C.icmpAny hd hp ht (fun q => q1 (by simpa [if_icmp.holds] using q)) (fun q => q2 (by simpa [if_icmp.holds] using q))
theorem Ru.lif_eq (C : Ru l Z own code maxL ret nm R n0 G W) {o : Int} {x y : Int64} {pi pt : Nat} (hd : decode code pc = .ok (.lcmp, 1)) (hi : pc + 1 = pi) (hd2 : decode code pi = .ok (.ifCond .eq o, 3)) (hp : pi + 3 = pc') (ht : (pi : Int) + o = (pt : Int)) (q1 : x = y → W h k n pt Ls rest) (q2 : ¬ x = y → W h k n pc' Ls rest) : W h k n pc Ls (.long y :: .long x :: rest) :=
  C.lcmp hd hi (C.if_eq hd2 hp ht (fun q => q1 (by simpa only [cmpL_eq, cmpL_lt, cmpL_gt] using q)) (fun q => q2 (by simpa only [cmpL_eq, cmpL_lt, cmpL_gt] using q)))
theorem Ru.if_ne (C : Ru l Z own code maxL ret nm R n0 G W) {o : Int} {x : Int32} {pt : Nat} (hd : decode code pc = .ok (.ifCond .ne o, 3)) (hp : pc + 3 = pc') (ht : (pc : Int) + o = (pt : Int)) (q1 : ¬ x = 0 → W h k n pt Ls rest) (q2 : x = 0 → W h k n pc' Ls rest) : W h k n pc Ls (.int x :: rest) :=
  C.ifAny hd hp ht (fun q => q1 (by simpa [ifCond.holds] using q)) (fun q => q2 (by simpa [ifCond.holds] using q))
theorem Ru.icmp_ne (C : Ru l Z own code maxL ret nm R n0 G W) {o : Int} {x y : Int32} {pt : Nat} (hd : decode code pc = .ok (.if_icmp .ne o, 3)) (hp : pc + 3 = pc') (ht : (pc : Int) + o = (pt : Int)) (q1 : ¬ x = y → W h k n pt Ls rest) (q2 : x = y → W h k n pc' Ls rest) : W h k n pc Ls (.int y :: .int x :: rest) :=
  C.icmpAny hd hp ht (fun q => q1 (by simpa [if_icmp.holds] using q)) (fun q => q2 (by simpa [if_icmp.holds] using q))
theorem Ru.lif_ne (C : Ru l Z own code maxL ret nm R n0 G W) {o : Int} {x y : Int64} {pi pt : Nat} (hd : decode code pc = .ok (.lcmp, 1)) (hi : pc + 1 = pi) (hd2 : decode code pi = .ok (.ifCond .ne o, 3)) (hp : pi + 3 = pc') (ht : (pi : Int) + o = (pt : Int)) (q1 : ¬ x = y → W h k n pt Ls rest) (q2 : x = y → W h k n pc' Ls rest) : W h k n pc Ls (.long y :: .long x :: rest) :=
  C.lcmp hd hi (C.if_ne hd2 hp ht (fun q => q1 (by simpa only [cmpL_eq, cmpL_lt, cmpL_gt] using q)) (fun q => q2 (by simpa only [cmpL_eq, cmpL_lt, cmpL_gt] using q)))
theorem Ru.if_lt (C : Ru l Z own code maxL ret nm R n0 G W) {o : Int} {x : Int32} {pt : Nat} (hd : decode code pc = .ok (.ifCond .lt o, 3)) (hp : pc + 3 = pc') (ht : (pc : Int) + o = (pt : Int)) (q1 : x < 0 → W h k n pt Ls rest) (q2 : ¬ x < 0 → W h k n pc' Ls rest) : W h k n pc Ls (.int x :: rest) :=
  C.ifAny hd hp ht (fun q => q1 (by simpa [ifCond.holds] using q)) (fun q => q2 (by simpa [ifCond.holds] using q))
theorem Ru.icmp_lt (C : Ru l Z own code maxL ret nm R n0 G W) {o : Int} {x y : Int32} {pt : Nat} (hd : decode code pc = .ok (.if_icmp .lt o, 3)) (hp : pc + 3 = pc') (ht : (pc : Int) + o = (pt : Int)) (q1 : x < y → W h k n pt Ls rest) (q2 : ¬ x < y → W h k n pc' Ls rest) : W h k n pc Ls (.int y :: .int x :: rest) :=
  C.icmpAny hd hp ht (fun q => q1 (by simpa [if_icmp.holds] using q)) (fun q => q2 (by simpa [if_icmp.holds] using q))
theorem Ru.lif_lt (C : Ru l Z own code maxL ret nm R n0 G W) {o : Int} {x y : Int64} {pi pt : Nat} (hd : decode code pc = .ok (.lcmp, 1)) (hi : pc + 1 = pi) (hd2 : decode code pi = .ok (.ifCond .lt o, 3)) (hp : pi + 3 = pc') (ht : (pi : Int) + o = (pt : Int)) (q1 : x < y → W h k n pt Ls rest) (q2 : ¬ x < y → W h k n pc' Ls rest) : W h k n pc Ls (.long y :: .long x :: rest) :=
  C.lcmp hd hi (C.if_lt hd2 hp ht (fun q => q1 (by simpa only [cmpL_eq, cmpL_lt, cmpL_gt] using q)) (fun q => q2 (by simpa only [cmpL_eq, cmpL_lt, cmpL_gt] using q)))
theorem Ru.if_ge (C : Ru l Z own code maxL ret nm R n0 G W) {o : Int} {x : Int32} {pt : Nat} (hd : decode code pc = .ok (.ifCond .ge o, 3)) (hp : pc + 3 = pc') (ht : (pc : Int) + o = (pt : Int)) (q1 : ¬ x < 0 → W h k n pt Ls rest) (q2 : x < 0 → W h k n pc' Ls rest) : W h k n pc Ls (.int x :: rest) :=
  C.ifAny hd hp ht (fun q => q1 (by simpa [ifCond.holds] using q)) (fun q => q2 (by simpa [ifCond.holds] using q))
theorem Ru.icmp_ge (C : Ru l Z own code maxL ret nm R n0 G W) {o : Int} {x y : Int32} {pt : Nat} (hd : decode code pc = .ok (.if_icmp .ge o, 3)) (hp : pc + 3 = pc') (ht : (pc : Int) + o = (pt : Int)) (q1 : ¬ x < y → W h k n pt Ls rest) (q2 : x < y → W h k n pc' Ls rest) : W h k n pc Ls (.int y :: .int x :: rest) :=
  C.icmpAny hd hp ht (fun q => q1 (by simpa [if_icmp.holds] using q)) (fun q => q2 (by simpa [if_icmp.holds] using q))
theorem Ru.lif_ge (C : Ru l Z own code maxL ret nm R n0 G W) {o : Int} {x y : Int64} {pi pt : Nat} (hd : decode code pc = .ok (.lcmp, 1)) (hi : pc + 1 = pi) (hd2 : decode code pi = .ok (.ifCond .ge o, 3)) (hp : pi + 3 = pc') (ht : (pi : Int) + o = (pt : Int)) (q1 : ¬ x < y → W h k n pt Ls rest) (q2 : x < y → W h k n pc' Ls rest) : W h k n pc Ls (.long y :: .long x :: rest) :=
  C.lcmp hd hi (C.if_ge hd2 hp ht (fun q => q1 (by simpa only [cmpL_eq, cmpL_lt, cmpL_gt] using q)) (fun q => q2 (by simpa only [cmpL_eq, cmpL_lt, cmpL_gt] using q)))
theorem Ru.if_gt (C : Ru l Z own code maxL ret nm R n0 G W) {o : Int} {x : Int32} {pt : Nat} (hd : decode code pc = .ok (.ifCond .gt o, 3)) (hp : pc + 3 = pc') (ht : (pc : Int) + o = (pt : Int)) (q1 : 0 < x → W h k n pt Ls rest) (q2 : ¬ 0 < x → W h k n pc' Ls rest) : W h k n pc Ls (.int x :: rest) :=
  C.ifAny hd hp ht (fun q => q1 (by simpa [ifCond.holds] using q)) (fun q => q2 (by simpa [ifCond.holds] using q))
theorem Ru.icmp_gt (C : Ru l Z own code maxL ret nm R n0 G W) {o : Int} {x y : Int32} {pt : Nat} (hd : decode code pc = .ok (.if_icmp .gt o, 3)) (hp : pc + 3 = pc') (ht : (pc : Int) + o = (pt : Int)) (q1 : y < x → W h k n pt Ls rest) (q2 : ¬ y < x → W h k n pc' Ls rest) : W h k n pc Ls (.int y :: .int x :: rest) :=
  C.icmpAny hd hp ht (fun q => q1 (by simpa [if_icmp.holds] using q)) (fun q => q2 (by simpa [if_icmp.holds] using q))
theorem Ru.lif_gt (C : Ru l Z own code maxL ret nm R n0 G W) {o : Int} {x y : Int64} {pi pt : Nat} (hd : decode code pc = .ok (.lcmp, 1)) (hi : pc + 1 = pi) (hd2 : decode code pi = .ok (.ifCond .gt o, 3)) (hp : pi + 3 = pc') (ht : (pi : Int) + o = (pt : Int)) (q1 : y < x → W h k n pt Ls rest) (q2 : ¬ y < x → W h k n pc' Ls rest) : W h k n pc Ls (.long y :: .long x :: rest) :=
  C.lcmp hd hi (C.if_gt hd2 hp ht (fun q => q1 (by simpa only [cmpL_eq, cmpL_lt, cmpL_gt] using q)) (fun q => q2 (by simpa only [cmpL_eq, cmpL_lt, cmpL_gt] using q)))
theorem Ru.if_le (C : Ru l Z own code maxL ret nm R n0 G W) {o : Int} {x : Int32} {pt : Nat} (hd : decode code pc = .ok (.ifCond .le o, 3)) (hp : pc + 3 = pc') (ht : (pc : Int) + o = (pt : Int)) (q1 : ¬ 0 < x → W h k n pt Ls rest) (q2 : 0 < x → W h k n pc' Ls rest) : W h k n pc Ls (.int x :: rest) :=
  C.ifAny hd hp ht (fun q => q1 (by simpa [ifCond.holds] using q)) (fun q => q2 (by simpa [ifCond.holds] using q))
theorem Ru.icmp_le (C : Ru l Z own code maxL ret nm R n0 G W) {o : Int} {x y : Int32} {pt : Nat} (hd : decode code pc = .ok (.if_icmp .le o, 3)) (hp : pc + 3 = pc') (ht : (pc : Int) + o = (pt : Int)) (q1 : ¬ y < x → W h k n pt Ls rest) (q2 : y < x → W h k n pc' Ls rest) : W h k n pc Ls (.int y :: .int x :: rest) :=
  C.icmpAny hd hp ht (fun q => q1 (by simpa [if_icmp.holds] using q)) (fun q => q2 (by simpa [if_icmp.holds] using q))
theorem Ru.lif_le (C : Ru l Z own code maxL ret nm R n0 G W) {o : Int} {x y : Int64} {pi pt : Nat} (hd : decode code pc = .ok (.lcmp, 1)) (hi : pc + 1 = pi) (hd2 : decode code pi = .ok (.ifCond .le o, 3)) (hp : pi + 3 = pc') (ht : (pi : Int) + o = (pt : Int)) (q1 : ¬ y < x → W h k n pt Ls rest) (q2 : y < x → W h k n pc' Ls rest) : W h k n pc Ls (.long y :: .long x :: rest) :=
  C.lcmp hd hi (C.if_le hd2 hp ht (fun q => q1 (by simpa only [cmpL_eq, cmpL_lt, cmpL_gt] using q)) (fun q => q2 (by simpa only [cmpL_eq, cmpL_lt, cmpL_gt] using q)))
theorem Ru.ifnullYes (C : Ru l Z own code maxL ret nm R n0 G W) {o : Int}  (hd : decode code pc = .ok (.ifnull o, 3)) (hp : (pc : Int) + o = (pc' : Int)) (q : W h k n pc' Ls rest) : W h k n pc Ls (.null :: rest) := by
  obtain ⟨p, e, s, m, args, below, meth, c, ⟨hx, hby, hml, hown, hZ, hre, hlk, hnm⟩, rfl⟩ := C
  intro T locs k' n' q1 q2 X eT N
  obtain ⟨s2, o2, st2, r⟩ := q T locs k' n' q1 q2 X eT N
  exact ⟨s2, o2, XS.ifnullYes X.here hx rfl (pc0 := pc) (pc' := pc') rfl (hb hby hd) rfl (by omega) (by omega) st2, r⟩
theorem Ru.ifnullNo (C : Ru l Z own code maxL ret nm R n0 G W) {o : Int} {b : Addr} (hd : decode code pc = .ok (.ifnull o, 3)) (hp : pc + 3 = pc') (q : W h k n pc' Ls rest) : W h k n pc Ls (.ref b :: rest) := by
  obtain ⟨p, e, s, m, args, below, meth, c, ⟨hx, hby, hml, hown, hZ, hre, hlk, hnm⟩, rfl⟩ := C
  subst hp
  intro T locs k' n' q1 q2 X eT N
  obtain ⟨s2, o2, st2, r⟩ := q T locs k' n' q1 q2 X eT N
  exact ⟨s2, o2, XS.ifnullNo X.here hx rfl (hb hby hd) rfl st2, r⟩
theorem Ru.ifnonnullYes (C : Ru l Z own code maxL ret nm R n0 G W) {o : Int} {b : Addr} (hd : decode code pc = .ok (.ifnonnull o, 3)) (hp : (pc : Int) + o = (pc' : Int)) (q : W h k n pc' Ls rest) : W h k n pc Ls (.ref b :: rest) := by
  obtain ⟨p, e, s, m, args, below, meth, c, ⟨hx, hby, hml, hown, hZ, hre, hlk, hnm⟩, rfl⟩ := C
  intro T locs k' n' q1 q2 X eT N
  obtain ⟨s2, o2, st2, r⟩ := q T locs k' n' q1 q2 X eT N
  exact ⟨s2, o2, XT.ifnonnullYes X.here hx rfl (pc0 := pc) (pc' := pc') rfl (hb hby hd) rfl (by omega) (by omega) st2, r⟩
theorem Ru.ifnonnullNo (C : Ru l Z own code maxL ret nm R n0 G W) {o : Int}  (hd : decode code pc = .ok (.ifnonnull o, 3)) (hp : pc + 3 = pc') (q : W h k n pc' Ls rest) : W h k n pc Ls (.null :: rest) := by
  obtain ⟨p, e, s, m, args, below, meth, c, ⟨hx, hby, hml, hown, hZ, hre, hlk, hnm⟩, rfl⟩ := C
  subst hp
  intro T locs k' n' q1 q2 X eT N
  obtain ⟨s2, o2, st2, r⟩ := q T locs k' n' q1 q2 X eT N
  exact ⟨s2, o2, XT.ifnonnullNo X.here hx rfl (hb hby hd) rfl st2, r⟩
theorem lrem_eq (x y : Int64) : x - (x / y) * y = x % y := lrem_mod x y
theorem Ru.lrem (C : Ru l Z own code maxL ret nm R n0 G W) {x y : Int64} (hd : decode code pc = .ok (.lrem, 1)) (hp : pc + 1 = pc') (hy : y ≠ 0) (q : W h k n pc' Ls (.long (x % y) :: rest)) : W h k n pc Ls (.long y :: .long x :: rest) := by
  obtain ⟨p, e, s, m, args, below, meth, c, ⟨hx, hby, hml, hown, hZ, hre, hlk, hnm⟩, rfl⟩ := C
  subst hp
  intro T locs k' n' q1 q2 X eT N
  obtain ⟨s2, o, st2, r⟩ := q T locs k' n' q1 q2 X eT N
  exact ⟨s2, o, XT.lrem X.here hx rfl (hb hby hd) rfl hy (by rw [lrem_mod]; exact st2), r⟩
theorem Ru.ldcI (C : Ru l Z own code maxL ret nm R n0 G W) {a0 : Array Value} {i : Nat} {v : Int32} (w : (Cond.constant own i v).before a0 Z = true) (hd : decode code pc = .ok (.ldc i, 2)) (hp : pc + 2 = pc') (q : W h k n pc' Ls (.int v :: st)) : W h k n pc Ls st := by
  obtain ⟨p, e, s, m, args, below, meth, c, ⟨hx, hby, hml, hown, hZ, hre, hlk, hnm⟩, rfl⟩ := C
  subst hp
  intro T locs k' n' q1 q2 X eT N
  obtain ⟨s2, o, st2, r⟩ := q T locs k' n' q1 q2 X eT N
  exact ⟨s2, o, X.ldcInt hx hown (mvT hZ w) (g := mkF m pc Ls st) rfl (hb hby hd) _ st2, r⟩
theorem Ru.ldcJ (C : Ru l Z own code maxL ret nm R n0 G W) {a0 : Array Value} {i : Nat} {v : Int64} (w : (Cond.constantLong own i v).before a0 Z = true) (hd : decode code pc = .ok (.ldc2_w i, 3)) (hp : pc + 3 = pc') (q : W h k n pc' Ls (.long v :: st)) : W h k n pc Ls st := by
  obtain ⟨p, e, s, m, args, below, meth, c, ⟨hx, hby, hml, hown, hZ, hre, hlk, hnm⟩, rfl⟩ := C
  subst hp
  intro T locs k' n' q1 q2 X eT N
  obtain ⟨s2, o, st2, r⟩ := q T locs k' n' q1 q2 X eT N
  exact ⟨s2, o, X.ldc2Long hx hown (mvT hZ w) (g := mkF m pc Ls st) rfl (hb hby hd) _ st2, r⟩
/-! the heap -/
theorem Ru.getf (C : Ru l Z own code maxL ret nm R n0 G W) {a0 : Array Value} {R0 O f d : String} {i : Nat} {a : Addr} {v : Value} (w : (Cond.fieldLink own i R0 f d).before a0 Z = true) (via : Via Z R0 O f d) (F : Fld Z h a O f d v) (hd : decode code pc = .ok (.getfield i, 3)) (hp : pc + 3 = pc') (q : W h k n pc' Ls (v :: rest)) : W h k n pc Ls (.ref a :: rest) := by
  obtain ⟨p, e, s, m, args, below, meth, c, ⟨hx, hby, hml, hown, hZ, hre, hlk, hnm⟩, rfl⟩ := C
  subst hp
  intro T locs k' n' q1 q2 X eT N
  obtain ⟨T', X', e', st'⟩ := getF X hx hZ hown (host := "") (Or.inl w) via eT F (g := mkF m pc Ls (.ref a :: rest)) rfl rfl (hb hby hd)
  obtain ⟨s2, o, st2, r⟩ := q T' locs k' n' q1 q2 X' e' N
  exact ⟨s2, o, st' _ st2, r⟩
theorem Ru.gets (C : Ru l Z own code maxL ret nm R n0 G W) {a0 : Array Value} {R0 O f d : String} {i : Nat} {v : Value} (w : (Cond.fieldLink own i R0 f d).before a0 Z = true) (via : Via Z R0 O f d) (F : Sta Z h O f d v) (hd : decode code pc = .ok (.getstatic i, 3)) (hp : pc + 3 = pc') (q : W h k n pc' Ls (v :: st)) : W h k n pc Ls st := by
  obtain ⟨p, e, s, m, args, below, meth, c, ⟨hx, hby, hml, hown, hZ, hre, hlk, hnm⟩, rfl⟩ := C
  subst hp
  intro T locs k' n' q1 q2 X eT N
  obtain ⟨T', X', e', st'⟩ := getS X hx hZ (host := "") hown w via eT F (g := mkF m pc Ls st) rfl (hb hby hd)
  obtain ⟨s2, o, st2, r⟩ := q T' locs k' n' q1 q2 X' e' N
  exact ⟨s2, o, st' _ st2, r⟩
theorem Ru.putf (C : Ru l Z own code maxL ret nm R n0 G W) {a0 : Array Value} {R0 O f d D : String} {i kk : Nat} {ty : FieldType} {a : Addr} {v old : Value} (w : (Cond.fieldLink own i R0 f d).before a0 Z = true) (via : Via Z R0 O f d) (F : Fld Z h a O f d old) (E : Exa Z h a D)
    (L : (Cond.lays D O f d).before a0 Z = true ∨ ((Cond.laysFinal D O f d).before a0 Z = true ∧ own = O ∧ nm = "<init>")) (wi : (Cond.instantiable D kk).before a0 Z = true) (hty : parseFieldDescriptor d = some ty) (hn : narrow ty v = v) (hf : fits ty v = true) (hg : n0 ≤ a)
    (hd : decode code pc = .ok (.putfield i, 3)) (hp : pc + 3 = pc') (q : ∀ h', Wr h h' a (Jvm.RoadKit.slotOf Z O f d) v → W h' k n pc' Ls rest) : W h k n pc Ls (v :: .ref a :: rest) := by
  obtain ⟨p, e, s, m, args, below, meth, c, ⟨hx, hby, hml, hown, hZ, hre, hlk, hnm⟩, rfl⟩ := C
  subst hp
  intro T locs k' n' q1 q2 X eT N
  obtain ⟨T', h', X', e', W', st'⟩ := putF X hx hZ hown (host := "") (Or.inl w) via eT F E (L.imp id fun u => ⟨u.1, u.2.1, hnm.trans u.2.2⟩) wi hty hn hf (g := mkF m pc Ls (v :: .ref a :: rest)) rfl rfl (hb hby hd)
  obtain ⟨s2, o, st2, r⟩ := q h' W' T' _ k' n' q1 q2 X' e' (Fr.snoc X' N hg)
  exact ⟨s2, o, st' _ st2, r⟩
theorem Ru.putfN (C : Ru l Z own code maxL ret nm R n0 G W) {a0 : Array Value} {R0 O f d D : String} {i kk : Nat} {ty : FieldType} {a : Addr} {v v' old : Value} (w : (Cond.fieldLink own i R0 f d).before a0 Z = true) (via : Via Z R0 O f d) (F : Fld Z h a O f d old) (E : Exa Z h a D)
    (L : (Cond.lays D O f d).before a0 Z = true ∨ ((Cond.laysFinal D O f d).before a0 Z = true ∧ own = O ∧ nm = "<init>")) (wi : (Cond.instantiable D kk).before a0 Z = true) (hty : parseFieldDescriptor d = some ty) (hn : narrow ty v = v') (hf : fits ty v' = true) (hg : n0 ≤ a)
    (hd : decode code pc = .ok (.putfield i, 3)) (hp : pc + 3 = pc') (q : ∀ h', Wr h h' a (Jvm.RoadKit.slotOf Z O f d) v' → W h' k n pc' Ls rest) : W h k n pc Ls (v :: .ref a :: rest) := by
  obtain ⟨p, e, s, m, args, below, meth, c, ⟨hx, hby, hml, hown, hZ, hre, hlk, hnm⟩, rfl⟩ := C
  subst hp
  intro T locs k' n' q1 q2 X eT N
  obtain ⟨T', h', X', e', W', st'⟩ := putFN X hx hZ hown w via eT F E (L.imp id fun u => ⟨u.1, u.2.1, hnm.trans u.2.2⟩) wi hty hn hf (g := mkF m pc Ls (v :: .ref a :: rest)) rfl rfl (hb hby hd)
  obtain ⟨s2, o, st2, r⟩ := q h' W' T' _ k' n' q1 q2 X' e' (Fr.snoc X' N hg)
  exact ⟨s2, o, st' _ st2, r⟩
theorem Ru.new (C : Ru l Z own code maxL ret nm R n0 G W) {a0 : Array Value} {D : String} {i sl : Nat} (w : (Cond.classLink own i D).before a0 Z = true) (wi : (Cond.instantiable D sl).before a0 Z = true) (wz : (Cond.initialized D).before a0 Z = true)
    (hd : decode code pc = .ok (.new i, 3)) (hp : pc + 3 = pc') (hk : k + 1 ≤ R.cells) (hn : n + sl ≤ R.slots)
    (q : ∀ h' b, b = h.size → Ext h h' → Exa Z h' b D → (∀ {O nm d : String} {ty : FieldType}, Laid Z a0 D O nm d → parseFieldDescriptor d = some ty → Fld Z h' b O nm d (defaultValue ty)) → W h' (k + 1) (n + sl) pc' Ls (.ref b :: st)) : W h k n pc Ls st := by
  obtain ⟨p, e, s, m, args, below, meth, c, ⟨hx, hby, hml, hown, hZ, hre, hlk, hnm⟩, rfl⟩ := C
  subst hp
  intro T locs k' n' q1 q2 X eT N
  obtain ⟨T', h', X', e', E', A', D', -, st'⟩ := newO X hx hZ hown w wi wz eT (g := mkF m pc Ls st) rfl (hb hby hd) (by omega) (by omega)
  obtain ⟨s2, o, st2, r⟩ := q h' _ rfl E' A' D' T' locs (k' + 1) (n' + sl) (by omega) (by omega) X' e' N
  exact ⟨s2, o, st' _ st2, r⟩
/-- an int array with just these elements -/
def AI (Z : State) (h : Heap) (a : Addr) (vs : List Int32) : Prop := ∃ c : Cell, Arr Z h a c .int ∧ c.slots = (vs.map Value.int).toArray ∧ vs.length < 2 ^ 31
def AJ (Z : State) (h : Heap) (a : Addr) (vs : List Int64) : Prop := ∃ c : Cell, Arr Z h a c .long ∧ c.slots = (vs.map Value.long).toArray ∧ vs.length < 2 ^ 31
/-- a byte array of this length -/
def AB (Z : State) (h : Heap) (a : Addr) (z : Nat) : Prop := ∃ c : Cell, Arr Z h a c .byte ∧ c.slots.size = z ∧ z < 2 ^ 31
theorem AI.lt {Z : State} {h : Heap} {a : Addr} {vs : List Int32} (F : AI Z h a vs) : a < h.size := by obtain ⟨c, A, -⟩ := F; exact A.lt
theorem AI.ext {Z : State} {h h' : Heap} {a : Addr} {vs : List Int32} (F : AI Z h a vs) (E : Ext h h') : AI Z h' a vs := by obtain ⟨c, A, r⟩ := F; exact ⟨c, A.ext E, r⟩
theorem AI.other {Z : State} {h h' : Heap} {a b : Addr} {sl : Nat} {v : Value} {vs : List Int32} (F : AI Z h b vs) (W : Wr h h' a sl v) (q : b ≠ a) : AI Z h' b vs := by obtain ⟨c, A, r⟩ := F; exact ⟨c, A.other W q, r⟩
theorem AI.keep {Z : State} {h h' : Heap} {a : Addr} {ws : List Addr} {vs : List Int32} (F : AI Z h a vs) (K : Keep h h' ws) (q : a ∉ ws) : AI Z h' a vs := by obtain ⟨c, A, r⟩ := F; exact ⟨c, ⟨K.2.1 a c A.1 q, A.2⟩, r⟩
theorem AI.set {Z : State} {h h' : Heap} {a : Addr} {j : Nat} {v : Int32} {vs : List Int32} (F : AI Z h a vs) (W : Wr h h' a j (.int v)) : AI Z h' a (vs.set j v) := by
  obtain ⟨c, A, e, r⟩ := F
  refine ⟨_, A.same W, ?_, by rw [List.length_set]; exact r⟩
  have q : (c.setSlot j (.int v)).slots = c.slots.setIfInBounds j (.int v) := rfl
  rw [q, e]
  apply Array.ext'
  simp [List.map_set]
theorem Ru.newAI (C : Ru l Z own code maxL ret nm R n0 G W) {a0 : Array Value} {z : Int32} {N cap : Nat} (w : (Cond.arrayClass .int).before a0 Z = true) (hd : decode code pc = .ok (.newarray .int, 2)) (hp : pc + 2 = pc') (hz : z.toInt = (N : Int)) (hcap : N ≤ cap) (hb8 : cap * 8 ≤ 536870912) (hk : k + 1 ≤ R.cells) (hn : n + cap ≤ R.slots)
    (q : ∀ h' b, b = h.size → Ext h h' → AI Z h' b (List.replicate N 0) → W h' (k + 1) (n + cap) pc' Ls (.ref b :: rest)) : W h k n pc Ls (.int z :: rest) := by
  obtain ⟨p, e, s, m, args, below, meth, c, ⟨hx, hby, hml, hown, hZ, hre, hlk, hnm⟩, rfl⟩ := C
  subst hp
  intro T locs k' n' q1 q2 X eT Nf
  have hnn : ¬ z < 0 := by rw [Int32.lt_iff_toInt_lt]; show ¬ z.toInt < 0; omega
  have hzn : z.toNatClampNeg = N := by show z.toInt.toNat = N; omega
  have hlt : N < 2 ^ 31 := by have := (rng32 z).2; omega
  obtain ⟨T', h', cA, X', e', E', A', st'⟩ := newP X hx hZ (aty := .int) w eT (g := mkF m pc Ls (.int z :: rest)) rfl (hb hby hd) rfl hnn (cap := cap) (by omega) hb8 (by omega) (by omega)
  have F : AI Z h' h.size (List.replicate N 0) := by
    refine ⟨_, A', ?_, by rw [List.length_replicate]; exact hlt⟩
    simp only [newA, hzn]
    apply Array.ext'
    simp [defaultValue, newarray.typeOf]
  obtain ⟨s2, o, st2, r⟩ := q h' _ rfl E' F T' locs (k' + 1) (n' + cap) (by omega) (by omega) X' e' Nf
  exact ⟨s2, o, st' _ st2, r⟩
theorem Ru.ldAI (C : Ru l Z own code maxL ret nm R n0 G W) {a : Addr} {j : Int32} {i : Nat} {v : Int32} {vs : List Int32} (F : AI Z h a vs) (hj : j.toInt = (i : Int)) (hv : vs[i]? = some v) (hd : decode code pc = .ok (.iaload, 1)) (hp : pc + 1 = pc') (q : W h k n pc' Ls (.int v :: rest)) : W h k n pc Ls (.int j :: .ref a :: rest) := by
  obtain ⟨p, e, s, m, args, below, meth, c, ⟨hx, hby, hml, hown, hZ, hre, hlk, hnm⟩, rfl⟩ := C
  subst hp
  intro T locs k' n' q1 q2 X eT N
  obtain ⟨cl, A, es, hl⟩ := F
  have hjn : j.toNatClampNeg = i := by show j.toInt.toNat = i; omega
  have hlt : i < vs.length := (List.getElem?_eq_some_iff.mp hv).1
  have hin : ¬ (j < 0 ∨ cl.slots.size ≤ j.toNatClampNeg) := by
    rw [Int32.lt_iff_toInt_lt, es, hjn]
    simp only [List.size_toArray, List.length_map]
    show ¬ (j.toInt < 0 ∨ _); omega
  have hat : cl.slots[j.toNatClampNeg]? = some (.int v) := by rw [es, hjn]; simp [hv]
  obtain ⟨s2, o, st2, r⟩ := q T locs k' n' q1 q2 X eT N
  exact ⟨s2, o, X.iaload hx (by rw [eT]; exact A.1) (State.isArrayOf_alike hZ.alike A.2.1) A.2.2 hin hat (g := mkF m pc Ls (.int j :: .ref a :: rest)) rfl rfl (hb hby hd) _ st2, r⟩
theorem Ru.stAI (C : Ru l Z own code maxL ret nm R n0 G W) {a : Addr} {j : Int32} {i : Nat} {v : Int32} {vs : List Int32} (F : AI Z h a vs) (hj : j.toInt = (i : Int)) (hlt : i < vs.length) (hg : n0 ≤ a) (hd : decode code pc = .ok (.iastore, 1)) (hp : pc + 1 = pc') (q : ∀ h', Wr h h' a i (.int v) → AI Z h' a (vs.set i v) → W h' k n pc' Ls rest) : W h k n pc Ls (.int v :: .int j :: .ref a :: rest) := by
  obtain ⟨p, e, s, m, args, below, meth, c, ⟨hx, hby, hml, hown, hZ, hre, hlk, hnm⟩, rfl⟩ := C
  subst hp
  intro T locs k' n' q1 q2 X eT N
  have F0 := F
  obtain ⟨cl, A, es, hl⟩ := F
  have hjn : j.toNatClampNeg = i := by show j.toInt.toNat = i; omega
  have hin : ¬ (j < 0 ∨ cl.slots.size ≤ j.toNatClampNeg) := by
    rw [Int32.lt_iff_toInt_lt, es, hjn]
    simp only [List.size_toArray, List.length_map]
    show ¬ (j.toInt < 0 ∨ _); omega
  obtain ⟨T', h', X', e', W', st'⟩ := stI X hx hZ eT A (j := j) hin (g := mkF m pc Ls (.int v :: .int j :: .ref a :: rest)) rfl rfl (hb hby hd)
  rw [hjn] at W'
  obtain ⟨s2, o, st2, r⟩ := q h' W' (F0.set W') T' _ k' n' q1 q2 X' e' (Fr.snoc X' N hg)
  exact ⟨s2, o, st' _ st2, r⟩
theorem Ru.lenAI (C : Ru l Z own code maxL ret nm R n0 G W) {a : Addr} {vs : List Int32} {z : Int32} (F : AI Z h a vs) (hz : z.toInt = (vs.length : Int)) (hd : decode code pc = .ok (.arraylength, 1)) (hp : pc + 1 = pc') (q : W h k n pc' Ls (.int z :: rest)) : W h k n pc Ls (.ref a :: rest) := by
  obtain ⟨p, e, s, m, args, below, meth, c, ⟨hx, hby, hml, hown, hZ, hre, hlk, hnm⟩, rfl⟩ := C
  subst hp
  intro T locs k' n' q1 q2 X eT N
  obtain ⟨cl, A, es, hl⟩ := F
  have e1 : cl.slots.size.toInt32 = z := by
    apply Int32.toInt_inj.mp
    rw [es, hz]
    simp only [List.size_toArray, List.length_map]
    exact len_toInt hl
  obtain ⟨s2, o, st2, r⟩ := q T locs k' n' q1 q2 X eT N
  exact ⟨s2, o, X.arraylength hx (by rw [eT]; exact A.1) (State.isArrayOf_alike hZ.alike A.2.1) (g := mkF m pc Ls (.ref a :: rest)) rfl rfl (hb hby hd) _ (by rw [e1]; exact st2), r⟩
theorem AJ.lt {Z : State} {h : Heap} {a : Addr} {vs : List Int64} (F : AJ Z h a vs) : a < h.size := by obtain ⟨c, A, -⟩ := F; exact A.lt
theorem AJ.ext {Z : State} {h h' : Heap} {a : Addr} {vs : List Int64} (F : AJ Z h a vs) (E : Ext h h') : AJ Z h' a vs := by obtain ⟨c, A, r⟩ := F; exact ⟨c, A.ext E, r⟩
theorem AJ.other {Z : State} {h h' : Heap} {a b : Addr} {sl : Nat} {v : Value} {vs : List Int64} (F : AJ Z h b vs) (W : Wr h h' a sl v) (q : b ≠ a) : AJ Z h' b vs := by obtain ⟨c, A, r⟩ := F; exact ⟨c, A.other W q, r⟩
theorem AJ.keep {Z : State} {h h' : Heap} {a : Addr} {ws : List Addr} {vs : List Int64} (F : AJ Z h a vs) (K : Keep h h' ws) (q : a ∉ ws) : AJ Z h' a vs := by obtain ⟨c, A, r⟩ := F; exact ⟨c, ⟨K.2.1 a c A.1 q, A.2⟩, r⟩
theorem AJ.set {Z : State} {h h' : Heap} {a : Addr} {j : Nat} {v : Int64} {vs : List Int64} (F : AJ Z h a vs) (W : Wr h h' a j (.long v)) : AJ Z h' a (vs.set j v) := by
  obtain ⟨c, A, e, r⟩ := F
  refine ⟨_, A.same W, ?_, by rw [List.length_set]; exact r⟩
  have q : (c.setSlot j (.long v)).slots = c.slots.setIfInBounds j (.long v) := rfl
  rw [q, e]
  apply Array.ext'
  simp [List.map_set]
theorem Ru.newAJ (C : Ru l Z own code maxL ret nm R n0 G W) {a0 : Array Value} {z : Int32} {N cap : Nat} (w : (Cond.arrayClass .long).before a0 Z = true) (hd : decode code pc = .ok (.newarray .long, 2)) (hp : pc + 2 = pc') (hz : z.toInt = (N : Int)) (hcap : N ≤ cap) (hb8 : cap * 8 ≤ 536870912) (hk : k + 1 ≤ R.cells) (hn : n + cap ≤ R.slots)
    (q : ∀ h' b, b = h.size → Ext h h' → AJ Z h' b (List.replicate N 0) → W h' (k + 1) (n + cap) pc' Ls (.ref b :: rest)) : W h k n pc Ls (.int z :: rest) := by
  obtain ⟨p, e, s, m, args, below, meth, c, ⟨hx, hby, hml, hown, hZ, hre, hlk, hnm⟩, rfl⟩ := C
  subst hp
  intro T locs k' n' q1 q2 X eT Nf
  have hnn : ¬ z < 0 := by rw [Int32.lt_iff_toInt_lt]; show ¬ z.toInt < 0; omega
  have hzn : z.toNatClampNeg = N := by show z.toInt.toNat = N; omega
  have hlt : N < 2 ^ 31 := by have := (rng32 z).2; omega
  obtain ⟨T', h', cA, X', e', E', A', st'⟩ := newP X hx hZ (aty := .long) w eT (g := mkF m pc Ls (.int z :: rest)) rfl (hb hby hd) rfl hnn (cap := cap) (by omega) hb8 (by omega) (by omega)
  have F : AJ Z h' h.size (List.replicate N 0) := by
    refine ⟨_, A', ?_, by rw [List.length_replicate]; exact hlt⟩
    simp only [newA, hzn]
    apply Array.ext'
    simp [defaultValue, newarray.typeOf]
  obtain ⟨s2, o, st2, r⟩ := q h' _ rfl E' F T' locs (k' + 1) (n' + cap) (by omega) (by omega) X' e' Nf
  exact ⟨s2, o, st' _ st2, r⟩
theorem Ru.ldAJ (C : Ru l Z own code maxL ret nm R n0 G W) {a : Addr} {j : Int32} {i : Nat} {v : Int64} {vs : List Int64} (F : AJ Z h a vs) (hj : j.toInt = (i : Int)) (hv : vs[i]? = some v) (hd : decode code pc = .ok (.laload, 1)) (hp : pc + 1 = pc') (q : W h k n pc' Ls (.long v :: rest)) : W h k n pc Ls (.int j :: .ref a :: rest) := by
  obtain ⟨p, e, s, m, args, below, meth, c, ⟨hx, hby, hml, hown, hZ, hre, hlk, hnm⟩, rfl⟩ := C
  subst hp
  intro T locs k' n' q1 q2 X eT N
  obtain ⟨cl, A, es, hl⟩ := F
  have hjn : j.toNatClampNeg = i := by show j.toInt.toNat = i; omega
  have hlt : i < vs.length := (List.getElem?_eq_some_iff.mp hv).1
  have hin : ¬ (j < 0 ∨ cl.slots.size ≤ j.toNatClampNeg) := by
    rw [Int32.lt_iff_toInt_lt, es, hjn]
    simp only [List.size_toArray, List.length_map]
    show ¬ (j.toInt < 0 ∨ _); omega
  have hat : cl.slots[j.toNatClampNeg]? = some (.long v) := by rw [es, hjn]; simp [hv]
  obtain ⟨s2, o, st2, r⟩ := q T locs k' n' q1 q2 X eT N
  exact ⟨s2, o, X.laload hx (by rw [eT]; exact A.1) (State.isArrayOf_alike hZ.alike A.2.1) A.2.2 hin hat (g := mkF m pc Ls (.int j :: .ref a :: rest)) rfl rfl (hb hby hd) _ st2, r⟩
theorem Ru.stAJ (C : Ru l Z own code maxL ret nm R n0 G W) {a : Addr} {j : Int32} {i : Nat} {v : Int64} {vs : List Int64} (F : AJ Z h a vs) (hj : j.toInt = (i : Int)) (hlt : i < vs.length) (hg : n0 ≤ a) (hd : decode code pc = .ok (.lastore, 1)) (hp : pc + 1 = pc') (q : ∀ h', Wr h h' a i (.long v) → AJ Z h' a (vs.set i v) → W h' k n pc' Ls rest) : W h k n pc Ls (.long v :: .int j :: .ref a :: rest) := by
  obtain ⟨p, e, s, m, args, below, meth, c, ⟨hx, hby, hml, hown, hZ, hre, hlk, hnm⟩, rfl⟩ := C
  subst hp
  intro T locs k' n' q1 q2 X eT N
  have F0 := F
  obtain ⟨cl, A, es, hl⟩ := F
  have hjn : j.toNatClampNeg = i := by show j.toInt.toNat = i; omega
  have hin : ¬ (j < 0 ∨ cl.slots.size ≤ j.toNatClampNeg) := by
    rw [Int32.lt_iff_toInt_lt, es, hjn]
    simp only [List.size_toArray, List.length_map]
    show ¬ (j.toInt < 0 ∨ _); omega
  obtain ⟨T', h', X', e', W', st'⟩ := stJ X hx hZ eT A (j := j) hin (g := mkF m pc Ls (.long v :: .int j :: .ref a :: rest)) rfl rfl (hb hby hd)
  rw [hjn] at W'
  obtain ⟨s2, o, st2, r⟩ := q h' W' (F0.set W') T' _ k' n' q1 q2 X' e' (Fr.snoc X' N hg)
  exact ⟨s2, o, st' _ st2, r⟩
theorem Ru.lenAJ (C : Ru l Z own code maxL ret nm R n0 G W) {a : Addr} {vs : List Int64} {z : Int32} (F : AJ Z h a vs) (hz : z.toInt = (vs.length : Int)) (hd : decode code pc = .ok (.arraylength, 1)) (hp : pc + 1 = pc') (q : W h k n pc' Ls (.int z :: rest)) : W h k n pc Ls (.ref a :: rest) := by
  obtain ⟨p, e, s, m, args, below, meth, c, ⟨hx, hby, hml, hown, hZ, hre, hlk, hnm⟩, rfl⟩ := C
  subst hp
  intro T locs k' n' q1 q2 X eT N
  obtain ⟨cl, A, es, hl⟩ := F
  have e1 : cl.slots.size.toInt32 = z := by
    apply Int32.toInt_inj.mp
    rw [es, hz]
    simp only [List.size_toArray, List.length_map]
    exact len_toInt hl
  obtain ⟨s2, o, st2, r⟩ := q T locs k' n' q1 q2 X eT N
  exact ⟨s2, o, X.arraylength hx (by rw [eT]; exact A.1) (State.isArrayOf_alike hZ.alike A.2.1) (g := mkF m pc Ls (.ref a :: rest)) rfl rfl (hb hby hd) _ (by rw [e1]; exact st2), r⟩
theorem AB.lt {Z : State} {h : Heap} {a : Addr} {z : Nat} (F : AB Z h a z) : a < h.size := by obtain ⟨c, A, -⟩ := F; exact A.lt
theorem AB.ext {Z : State} {h h' : Heap} {a : Addr} {z : Nat} (F : AB Z h a z) (E : Ext h h') : AB Z h' a z := by obtain ⟨c, A, r⟩ := F; exact ⟨c, A.ext E, r⟩
theorem AB.other {Z : State} {h h' : Heap} {a b : Addr} {sl : Nat} {v : Value} {z : Nat} (F : AB Z h b z) (W : Wr h h' a sl v) (q : b ≠ a) : AB Z h' b z := by obtain ⟨c, A, r⟩ := F; exact ⟨c, A.other W q, r⟩
theorem AB.keep {Z : State} {h h' : Heap} {a : Addr} {ws : List Addr} {z : Nat} (F : AB Z h a z) (K : Keep h h' ws) (q : a ∉ ws) : AB Z h' a z := by obtain ⟨c, A, r⟩ := F; exact ⟨c, ⟨K.2.1 a c A.1 q, A.2⟩, r⟩
theorem Ru.newAB (C : Ru l Z own code maxL ret nm R n0 G W) {a0 : Array Value} {z : Int32} {N cap : Nat} (w : (Cond.arrayClass .byte).before a0 Z = true) (hd : decode code pc = .ok (.newarray .byte, 2)) (hp : pc + 2 = pc') (hz : z.toInt = (N : Int)) (hcap : N ≤ cap) (hb8 : cap * 8 ≤ 536870912) (hk : k + 1 ≤ R.cells) (hn : n + cap ≤ R.slots)
    (q : ∀ h' b, b = h.size → Ext h h' → AB Z h' b N → W h' (k + 1) (n + cap) pc' Ls (.ref b :: rest)) : W h k n pc Ls (.int z :: rest) := by
  obtain ⟨p, e, s, m, args, below, meth, c, ⟨hx, hby, hml, hown, hZ, hre, hlk, hnm⟩, rfl⟩ := C
  subst hp
  intro T locs k' n' q1 q2 X eT Nf
  have hnn : ¬ z < 0 := by rw [Int32.lt_iff_toInt_lt]; show ¬ z.toInt < 0; omega
  have hzn : z.toNatClampNeg = N := by show z.toInt.toNat = N; omega
  have hlt : N < 2 ^ 31 := by have := (rng32 z).2; omega
  obtain ⟨T', h', cA, X', e', E', A', st'⟩ := newP X hx hZ (aty := .byte) w eT (g := mkF m pc Ls (.int z :: rest)) rfl (hb hby hd) rfl hnn (cap := cap) (by omega) hb8 (by omega) (by omega)
  have F : AB Z h' h.size N := ⟨_, A', by rw [sz_new]; exact hzn, hlt⟩
  obtain ⟨s2, o, st2, r⟩ := q h' _ rfl E' F T' locs (k' + 1) (n' + cap) (by omega) (by omega) X' e' Nf
  exact ⟨s2, o, st' _ st2, r⟩
theorem Ru.stAB (C : Ru l Z own code maxL ret nm R n0 G W) {a : Addr} {j : Int32} {i : Nat} {v : Int32} {z : Nat} (F : AB Z h a z) (hj : j.toInt = (i : Int)) (hlt : i < z) (hg : n0 ≤ a) (hd : decode code pc = .ok (.bastore, 1)) (hp : pc + 1 = pc') (q : ∀ h', Wr h h' a i (.int (nar .byte v)) → AB Z h' a z → W h' k n pc' Ls rest) : W h k n pc Ls (.int v :: .int j :: .ref a :: rest) := by
  obtain ⟨p, e, s, m, args, below, meth, c, ⟨hx, hby, hml, hown, hZ, hre, hlk, hnm⟩, rfl⟩ := C
  subst hp
  intro T locs k' n' q1 q2 X eT N
  obtain ⟨cl, A, es, hl⟩ := F
  have hjn : j.toNatClampNeg = i := by show j.toInt.toNat = i; omega
  have hin : ¬ (j < 0 ∨ cl.slots.size ≤ j.toNatClampNeg) := by
    rw [Int32.lt_iff_toInt_lt, es, hjn]
    show ¬ (j.toInt < 0 ∨ _); omega
  obtain ⟨T', h', X', e', W', st'⟩ := stB X hx hZ eT A (j := j) hin (g := mkF m pc Ls (.int v :: .int j :: .ref a :: rest)) rfl rfl (hb hby hd)
  rw [hjn] at W'
  obtain ⟨s2, o, st2, r⟩ := q h' W' ⟨_, A.same W', by rw [sz_set]; exact es, hl⟩ T' _ k' n' q1 q2 X' e' (Fr.snoc X' N hg)
  exact ⟨s2, o, st' _ st2, r⟩
theorem Ru.lenAB (C : Ru l Z own code maxL ret nm R n0 G W) {a : Addr} {N : Nat} {z : Int32} (F : AB Z h a N) (hz : z.toInt = (N : Int)) (hd : decode code pc = .ok (.arraylength, 1)) (hp : pc + 1 = pc') (q : W h k n pc' Ls (.int z :: rest)) : W h k n pc Ls (.ref a :: rest) := by
  obtain ⟨p, e, s, m, args, below, meth, c, ⟨hx, hby, hml, hown, hZ, hre, hlk, hnm⟩, rfl⟩ := C
  subst hp
  intro T locs k' n' q1 q2 X eT Nf
  obtain ⟨cl, A, es, hl⟩ := F
  have e1 : cl.slots.size.toInt32 = z := by
    apply Int32.toInt_inj.mp
    rw [es, hz]
    exact len_toInt hl
  obtain ⟨s2, o, st2, r⟩ := q T locs k' n' q1 q2 X eT Nf
  exact ⟨s2, o, X.arraylength hx (by rw [eT]; exact A.1) (State.isArrayOf_alike hZ.alike A.2.1) (g := mkF m pc Ls (.ref a :: rest)) rfl rfl (hb hby hd) _ (by rw [e1]; exact st2), r⟩
/-! calls -/
/-- what a stack weighs -/
def wt (st : List Value) : Nat := (st.map fun v => v.category).sum
/-- Object.<init> -/
theorem Ru.initObj (C : Ru l Z own code maxL ret nm R n0 G W) {a0 : Array Value} {i w : Nat} {a : Addr} (w1 : (Cond.methodLink own i Lib.objectInit).before a0 Z = true) (w2 : (Cond.instanceMethod Lib.objectInit).before a0 Z = true) (w3 : (Cond.code Lib.objectInit ⟨#[0xb1]⟩ 1 none).before a0 Z = true)
    (hd : decode code pc = .ok (.invokespecial i, 3)) (hp : pc + 3 = pc') (hs : Ls.size = maxL) (hf : 1 ≤ R.frames) (hw : wt rest ≤ w) (hl : w + 12 ≤ R.locals) (q : W h k n pc' Ls rest) : W h k n pc Ls (.ref a :: rest) := by
  obtain ⟨p, e, s, m, args, below, meth, c, ⟨hx, hby, hml, hown, hZ, hre, hlk, hnm⟩, rfl⟩ := C
  subst hp
  intro T locs k' n' q1 q2 X eT N
  obtain ⟨T', X', e', st'⟩ := initO X hx hZ hown w1 w2 w3 eT (g := mkF m pc Ls (.ref a :: rest)) rfl (by rw [hml]; exact hs) rfl (hb hby hd) hf (W := w) (by show 2 * 0 + _ ≤ _; simpa [wt] using hw) hl
  obtain ⟨s2, o, st2, r⟩ := q T' locs k' n' q1 q2 X' e' N
  exact ⟨s2, o, st' _ st2, r⟩
theorem Ru.calls (C : Ru l Z own code maxL ret nm R n0 G W) {a0 : Array Value} {i w : Nat} {y : MethodName} {bytes : ByteArray} {mx : Nat} {rt : Option FieldType} {rm : Room} {GC : Option Value → Heap → Prop} {argsL : List Value} {ps : List FieldType} {rt' : Option FieldType}
    (M : MeetsW l Z n0 y bytes mx rt rm argsL.toArray h GC) (w1 : (Cond.methodLink own i y).before a0 Z = true) (w2 : (Cond.static y).before a0 Z = true) (w3 : (Cond.initialized y.cls).before a0 Z = true) (w4 : (Cond.code y bytes mx rt).before a0 Z = true)
    (hd : decode code pc = .ok (.invokestatic i, 3)) (hp : pc + 3 = pc') (hs : Ls.size = maxL) (hst : st = argsL.reverse ++ rest) (hy : y.cls ≠ "java/lang/invoke/MethodHandle" ∧ y.cls ≠ "java/lang/invoke/VarHandle")
    (hdesc : parseMethodDescriptor y.desc = some ⟨ps, rt'⟩) (hlen : argsL.length = ps.length) (hf : rm.frames + 1 ≤ R.frames) (hw : wt rest ≤ w) (hl : w + (mx + 11) + rm.locals ≤ R.locals) (hk : k + rm.cells ≤ R.cells) (hn : n + rm.slots ≤ R.slots)
    (q : ∀ v h', GC v h' → W h' (k + rm.cells) (n + rm.slots) pc' Ls (v.toList ++ rest)) : W h k n pc Ls st := by
  obtain ⟨p, e, s, m, args, below, meth, c, ⟨hx, hby, hml, hown, hZ, hre, hlk, hnm⟩, rfl⟩ := C
  subst hp hst
  intro T locs k' n' q1 q2 X eT N
  obtain ⟨v, _, ⟨T', L', k2, n2⟩, -, X', ⟨Lc, ⟨N', hQ⟩, hl', hk', hn'⟩, st'⟩ := Jvm.LawKit.callS X hx (y := y) hown (mvT hZ w1) (mvT hZ w2) (mvT hZ w3) (mvT hZ w4) hy (backOf (W := w) (Q := fun v h L => Fr n0 L ∧ GC v h) (M []) hZ w4 w3 hf hl) (g := mkF m pc Ls (argsL.reverse ++ rest)) rfl (by rw [hml]; exact hs) (argsL := argsL) (rest := rest) (lenOf hdesc hlen) rfl (by show 2 * 0 + _ ≤ _; simpa [wt] using hw) (hb hby hd) (fun _ _ => ⟨rfl, eT, (by show k' + rm.cells ≤ _; omega), (by show n' + rm.slots ≤ _; omega)⟩)
  dsimp only [Pt.U, Pt.locs, Pt.cells, Pt.slots] at X' hl' hk' hn' st' hQ
  subst hl' hk' hn'
  obtain ⟨s2, o, st2, r⟩ := q v T'.heap hQ T' _ _ _ (by omega) (by omega) X' rfl (Fr.app N N')
  exact ⟨s2, o, st' _ st2, r⟩
theorem Ru.callc (C : Ru l Z own code maxL ret nm R n0 G W) {a0 : Array Value} {i w : Nat} {y : MethodName} {bytes : ByteArray} {mx : Nat} {rm : Room} {GC : Option Value → Heap → Prop} {a : Addr} {argsL : List Value} {ps : List FieldType} {rt' : Option FieldType}
    (M : MeetsW l Z n0 y bytes mx none rm (.ref a :: argsL).toArray h GC) (hy1 : y.name = "<init>") (w1 : (Cond.methodLink own i y).before a0 Z = true) (w2 : (Cond.instanceMethod y).before a0 Z = true) (w3 : (Cond.initialized y.cls).before a0 Z = true) (w4 : (Cond.code y bytes mx none).before a0 Z = true)
    (hd : decode code pc = .ok (.invokespecial i, 3)) (hp : pc + 3 = pc') (hs : Ls.size = maxL) (hst : st = argsL.reverse ++ .ref a :: rest) (hy : y.cls ≠ "java/lang/invoke/MethodHandle" ∧ y.cls ≠ "java/lang/invoke/VarHandle")
    (hdesc : parseMethodDescriptor y.desc = some ⟨ps, rt'⟩) (hlen : argsL.length = ps.length) (hf : rm.frames + 1 ≤ R.frames) (hw : wt rest ≤ w) (hl : w + (mx + 11) + rm.locals ≤ R.locals) (hk : k + rm.cells ≤ R.cells) (hn : n + rm.slots ≤ R.slots)
    (q : ∀ v h', GC v h' → W h' (k + rm.cells) (n + rm.slots) pc' Ls (v.toList ++ rest)) : W h k n pc Ls st := by
  obtain ⟨p, e, s, m, args, below, meth, c, ⟨hx, hby, hml, hown, hZ, hre, hlk, hnm⟩, rfl⟩ := C
  subst hp hst
  intro T locs k' n' q1 q2 X eT N
  obtain ⟨v, _, ⟨T', L', k2, n2⟩, -, X', ⟨Lc, ⟨N', hQ⟩, hl', hk', hn'⟩, st'⟩ := X.specialBack hx (y := y) hy1 hown (mvT hZ w1) (mvT hZ w2) (mvT hZ w4) hy (backOf (W := w) (Q := fun v h L => Fr n0 L ∧ GC v h) (M []) hZ w4 w3 hf hl) (g := mkF m pc Ls (argsL.reverse ++ .ref a :: rest)) rfl (by rw [hml]; exact hs) (Steps.refl _) (a := a) (argsL := argsL) (rest := rest) (lenOf hdesc hlen) rfl (by show 2 * 0 + _ ≤ _; simpa [wt] using hw) (hb hby hd) (fun _ _ => ⟨rfl, eT, (by show k' + rm.cells ≤ _; omega), (by show n' + rm.slots ≤ _; omega)⟩)
  dsimp only [Pt.U, Pt.locs, Pt.cells, Pt.slots] at X' hl' hk' hn' st' hQ
  subst hl' hk' hn'
  obtain ⟨s2, o, st2, r⟩ := q v T'.heap hQ T' _ _ _ (by omega) (by omega) X' rfl (Fr.app N N')
  exact ⟨s2, o, st'.trans st2, r⟩
theorem Ru.callv (C : Ru l Z own code maxL ret nm R n0 G W) {a0 : Array Value} {i w : Nat} {y : MethodName} {bytes : ByteArray} {mx : Nat} {rt : Option FieldType} {rm : Room} {GC : Option Value → Heap → Prop} {a : Addr} {argsL : List Value} {ps : List FieldType} {rt' : Option FieldType} {D : String}
    (M : MeetsW l Z n0 y bytes mx rt rm (.ref a :: argsL).toArray h GC) (E : Exa Z h a D) (w1 : (Cond.methodLink own i y).before a0 Z = true) (w2 : (Cond.declares y).before a0 Z = true) (w5 : (Cond.selects D y y).before a0 Z = true) (w6 : (Cond.instanceMethod y).before a0 Z = true) (w3 : (Cond.initialized y.cls).before a0 Z = true) (w4 : (Cond.code y bytes mx rt).before a0 Z = true)
    (hd : decode code pc = .ok (.invokevirtual i, 3)) (hp : pc + 3 = pc') (hs : Ls.size = maxL) (hst : st = argsL.reverse ++ .ref a :: rest) (hy : y.cls ≠ "java/lang/invoke/MethodHandle" ∧ y.cls ≠ "java/lang/invoke/VarHandle")
    (hdesc : parseMethodDescriptor y.desc = some ⟨ps, rt'⟩) (hlen : argsL.length = ps.length) (hf : rm.frames + 1 ≤ R.frames) (hw : wt rest ≤ w) (hl : w + (mx + 11) + rm.locals ≤ R.locals) (hk : k + rm.cells ≤ R.cells) (hn : n + rm.slots ≤ R.slots)
    (q : ∀ v h', GC v h' → W h' (k + rm.cells) (n + rm.slots) pc' Ls (v.toList ++ rest)) : W h k n pc Ls st := by
  obtain ⟨p, e, s, m, args, below, meth, c, ⟨hx, hby, hml, hown, hZ, hre, hlk, hnm⟩, rfl⟩ := C
  subst hp hst
  intro T locs k' n' q1 q2 X eT N
  obtain ⟨cq, kq, qa, qb, qc⟩ := isOf hZ eT E
  obtain ⟨v, _, ⟨T', L', k2, n2⟩, -, X', ⟨Lc, ⟨N', hQ⟩, hl', hk', hn'⟩, st'⟩ := X.virtualBack hx (y := y) (z := y) hown (mvT hZ w1) (mvT hZ w2) (notFace_of_selects (args := #[]) (mvT hZ w5)) (mvT hZ w5) (mvT hZ w6) hy (backOf (W := w) (Q := fun v h L => Fr n0 L ∧ GC v h) (M []) hZ w4 w3 hf hl) qa qc (g := mkF m pc Ls (argsL.reverse ++ .ref a :: rest)) rfl (by rw [hml]; exact hs) (Steps.refl _) (argsL := argsL) (rest := rest) (lenOf hdesc hlen) rfl (by show 2 * 0 + _ ≤ _; simpa [wt] using hw) (hb hby hd) (fun _ _ => ⟨rfl, eT, (by show k' + rm.cells ≤ _; omega), (by show n' + rm.slots ≤ _; omega)⟩)
  dsimp only [Pt.U, Pt.locs, Pt.cells, Pt.slots] at X' hl' hk' hn' st' hQ
  subst hl' hk' hn'
  obtain ⟨s2, o, st2, r⟩ := q v T'.heap hQ T' _ _ _ (by omega) (by omega) X' rfl (Fr.app N N')
  exact ⟨s2, o, st'.trans st2, r⟩
theorem Ru.callp (C : Ru l Z own code maxL ret nm R n0 G W) {a0 : Array Value} {i w : Nat} {y : MethodName} {bytes : ByteArray} {mx : Nat} {rt : Option FieldType} {rm : Room} {GC : Option Value → Heap → Prop} {a : Addr} {argsL : List Value} {ps : List FieldType} {rt' : Option FieldType} {D : String}
    (M : MeetsW l Z n0 y bytes mx rt rm (.ref a :: argsL).toArray h GC) (E : Exa Z h a D) (w1 : (Cond.methodLink own i y).before a0 Z = true) (w6 : (Cond.instanceMethod y).before a0 Z = true) (w5 : (Cond.selects y.cls y y).before a0 Z = true) (w7 : (Cond.privateMethod y).before a0 Z = true) (w3 : (Cond.initialized y.cls).before a0 Z = true) (w4 : (Cond.code y bytes mx rt).before a0 Z = true)
    (hd : decode code pc = .ok (.invokevirtual i, 3)) (hp : pc + 3 = pc') (hs : Ls.size = maxL) (hst : st = argsL.reverse ++ .ref a :: rest) (hy : y.cls ≠ "java/lang/invoke/MethodHandle" ∧ y.cls ≠ "java/lang/invoke/VarHandle")
    (hdesc : parseMethodDescriptor y.desc = some ⟨ps, rt'⟩) (hlen : argsL.length = ps.length) (hf : rm.frames + 1 ≤ R.frames) (hw : wt rest ≤ w) (hl : w + (mx + 11) + rm.locals ≤ R.locals) (hk : k + rm.cells ≤ R.cells) (hn : n + rm.slots ≤ R.slots)
    (q : ∀ v h', GC v h' → W h' (k + rm.cells) (n + rm.slots) pc' Ls (v.toList ++ rest)) : W h k n pc Ls st := by
  obtain ⟨p, e, s, m, args, below, meth, c, ⟨hx, hby, hml, hown, hZ, hre, hlk, hnm⟩, rfl⟩ := C
  subst hp hst
  intro T locs k' n' q1 q2 X eT N
  obtain ⟨cq, qa, qb⟩ := E.cell
  obtain ⟨v, _, ⟨T', L', k2, n2⟩, -, X', ⟨Lc, ⟨N', hQ⟩, hl', hk', hn'⟩, st'⟩ := X.privateBack hx (y := y) hown (mvT hZ w1) (mvT hZ w6) (mvT hZ w5) (Cond.privateMethod_at (mvP hZ w7 (args := #[]))) (mvT hZ w4) hy (backOf (W := w) (Q := fun v h L => Fr n0 L ∧ GC v h) (M []) hZ w4 w3 hf hl) (g := mkF m pc Ls (argsL.reverse ++ .ref a :: rest)) rfl (by rw [hml]; exact hs) (Steps.refl _) (a := a) (by rw [eT]; exact qa) qb (argsL := argsL) (rest := rest) (lenOf hdesc hlen) rfl (by show 2 * 0 + _ ≤ _; simpa [wt] using hw) (hb hby hd) (fun _ _ => ⟨rfl, eT, (by show k' + rm.cells ≤ _; omega), (by show n' + rm.slots ≤ _; omega)⟩)
  dsimp only [Pt.U, Pt.locs, Pt.cells, Pt.slots] at X' hl' hk' hn' st' hQ
  subst hl' hk' hn'
  obtain ⟨s2, o, st2, r⟩ := q v T'.heap hQ T' _ _ _ (by omega) (by omega) X' rfl (Fr.app N N')
  exact ⟨s2, o, st'.trans st2, r⟩
theorem Ru.castY (C : Ru l Z own code maxL ret nm R n0 G W) {a0 : Array Value} {D : String} {i : Nat} {a : Addr} (w : (Cond.classLink own i D).before a0 Z = true) (F : Ins Z h a D true) (hd : decode code pc = .ok (.checkcast i, 3)) (hp : pc + 3 = pc') (q : W h k n pc' Ls (.ref a :: rest)) : W h k n pc Ls (.ref a :: rest) := by
  obtain ⟨p, e, s, m, args, below, meth, c, ⟨hx, hby, hml, hown, hZ, hre, hlk, hnm⟩, rfl⟩ := C
  subst hp
  intro T locs k' n' q1 q2 X eT N
  obtain ⟨T', X', e', st'⟩ := castY X hx hZ hown w eT F (g := mkF m pc Ls (.ref a :: rest)) rfl rfl (hb hby hd)
  obtain ⟨s2, o, st2, r⟩ := q T' locs k' n' q1 q2 X' e' N
  exact ⟨s2, o, st' _ st2, r⟩
theorem Ru.newAIE (C : Ru l Z own code maxL ret nm R n0 G W) {a0 : Array Value} {z : Int32} {N cap : Nat} (w : (Cond.arrayClass .int).before a0 Z = true) (hd : decode code pc = .ok (.newarray .int, 2)) (hp : pc + 2 = pc') (hz : z.toInt = (N : Int)) (hcap : N ≤ cap) (hb8 : cap * 8 ≤ 536870912) (hk : k + 1 ≤ R.cells) (hn : n + cap ≤ R.slots)
    (q : ∀ h' b, b = h.size → Ext h h' → AI Z h' b (List.replicate N 0) → Exa Z h' b "[I" → W h' (k + 1) (n + cap) pc' Ls (.ref b :: rest)) : W h k n pc Ls (.int z :: rest) := by
  obtain ⟨p, e, s, m, args, below, meth, c, ⟨hx, hby, hml, hown, hZ, hre, hlk, hnm⟩, rfl⟩ := C
  subst hp
  intro T locs k' n' q1 q2 X eT Nf
  have hnn : ¬ z < 0 := by rw [Int32.lt_iff_toInt_lt]; show ¬ z.toInt < 0; omega
  have hzn : z.toNatClampNeg = N := by show z.toInt.toNat = N; omega
  have hlt : N < 2 ^ 31 := by have := (rng32 z).2; omega
  obtain ⟨T', h', cA, X', e', E', A', B', st'⟩ := newPE X hx hZ (aty := .int) w eT (g := mkF m pc Ls (.int z :: rest)) rfl (hb hby hd) rfl hnn (cap := cap) (by omega) hb8 (by omega) (by omega) (ad := "[I") (by decide)
  have F : AI Z h' h.size (List.replicate N 0) := by
    refine ⟨_, A', ?_, by rw [List.length_replicate]; exact hlt⟩
    simp only [newA, hzn]
    apply Array.ext'
    simp [defaultValue, newarray.typeOf]
  obtain ⟨s2, o, st2, r⟩ := q h' _ rfl E' F B' T' locs (k' + 1) (n' + cap) (by omega) (by omega) X' e' Nf
  exact ⟨s2, o, st' _ st2, r⟩
theorem Ru.cloneAI (C : Ru l Z own code maxL ret nm R n0 G W) {a0 : Array Value} {i w cap : Nat} {a : Addr} {vs : List Int32}
    (w1 : (Cond.methodLink own i ⟨"[I", "clone", "()Ljava/lang/Object;"⟩).before a0 Z = true) (w2 : (Cond.sameMethod "[I" "java/lang/Object" "clone" "()Ljava/lang/Object;").before a0 Z = true) (w3 : (Cond.native ⟨"java/lang/Object", "clone", "()Ljava/lang/Object;"⟩).before a0 Z = true)
    (w4 : (Cond.instanceMethod ⟨"java/lang/Object", "clone", "()Ljava/lang/Object;"⟩).before a0 Z = true) (w5 : (Cond.selects "[I" ⟨"[I", "clone", "()Ljava/lang/Object;"⟩ ⟨"java/lang/Object", "clone", "()Ljava/lang/Object;"⟩).before a0 Z = true) (w6 : (Cond.castable "[I" "java/lang/Cloneable").before a0 Z = true)
    (F : AI Z h a vs) (E : Exa Z h a "[I") (hd : decode code pc = .ok (.invokevirtual i, 3)) (hp : pc + 3 = pc') (hs : Ls.size = maxL) (hf : 1 ≤ R.frames) (hw : wt rest ≤ w) (hl : w + 14 ≤ R.locals) (hcap : vs.length ≤ cap) (hk : k + 1 ≤ R.cells) (hn : n + cap ≤ R.slots)
    (q : ∀ h' b, b = h.size → Ext h h' → AI Z h' b vs → Exa Z h' b "[I" → W h' (k + 1) (n + cap) pc' Ls (.ref b :: rest)) : W h k n pc Ls (.ref a :: rest) := by
  obtain ⟨p, e, s, m, args, below, meth, c, ⟨hx, hby, hml, hown, hZ, hre, hlk, hnm⟩, rfl⟩ := C
  subst hp
  intro T locs k' n' q1 q2 X eT Nf
  obtain ⟨cl, A, es, hlen⟩ := F
  have hsz : cl.slots.size = vs.length := by rw [es]; simp
  have FC : FitC Z cl := fitC_of A fun j hj v hv => by
    rw [es] at hv
    simp only [List.getElem?_toArray, List.getElem?_map, Option.map_eq_some_iff] at hv
    obtain ⟨y, -, rfl⟩ := hv
    rfl
  obtain ⟨T', h', X', e', E', A', B', st'⟩ := cloneA X hx hZ hown w1 w2 w3 w4 w5 w6 eT A E FC (g := mkF m pc Ls (.ref a :: rest)) rfl (by rw [hml]; exact hs) rfl (hb hby hd) hf (W := w) (cap := cap) (by show 2 * 0 + _ ≤ _; simpa [wt] using hw) hl (by omega) (by omega) (by omega)
  obtain ⟨s2, o, st2, r⟩ := q h' _ rfl E' ⟨_, A', es, hlen⟩ B' T' locs (k' + 1) (n' + cap) (by omega) (by omega) X' e' Nf
  exact ⟨s2, o, st' _ st2, r⟩
/-! returns -/
theorem Ru.retV (C : Ru l Z own code maxL ret nm R n0 G W) (hr : ret = none) (hd : decode code pc = .ok (.return_, 1)) (hk : k ≤ R.cells) (hn : n ≤ R.slots) (q : G none h) : W h k n pc Ls [] := by
  obtain ⟨p, e, s, m, args, below, meth, c, ⟨hx, hby, hml, hown, hZ, hre, hlk, hnm⟩, rfl⟩ := C
  intro T locs k' n' q1 q2 X eT N
  obtain ⟨fs, hrr, hrun, hended, hW, hsame⟩ := X.leave (v := none) (fun _ => rfl)
  exact ⟨_, _, X.returnOut hx (hre.trans hr) (hb hby hd) hrr, hrun, hended, _, _, rfl, ⟨N, by show G none T.heap; rw [eT]; exact q⟩, ⟨_, rfl⟩, hW, hsame.mono (by omega) (by omega)⟩
theorem Ru.retI (C : Ru l Z own code maxL ret nm R n0 G W) {z : Int32} (hr : ret = some .int) (hd : decode code pc = .ok (.ireturn, 1)) (hk : k ≤ R.cells) (hn : n ≤ R.slots) (q : G (some (.int z)) h) : W h k n pc Ls (.int z :: rest) := by
  obtain ⟨p, e, s, m, args, below, meth, c, ⟨hx, hby, hml, hown, hZ, hre, hlk, hnm⟩, rfl⟩ := C
  intro T locs k' n' q1 q2 X eT N
  obtain ⟨fs, hrr, hrun, hended, hW, hsame⟩ := X.leave (v := some (.int z)) (fun h => by rw [hre, hr] at h; cases h)
  exact ⟨_, _, retOut X hx (hre.trans hr) rfl (Or.inl ⟨rfl, Or.inl rfl, z, rfl⟩) (hb hby hd) hrr, hrun, hended, _, _, rfl, ⟨N, by show G _ T.heap; rw [eT]; exact q⟩, ⟨_, rfl⟩, hW, hsame.mono (by omega) (by omega)⟩
theorem Ru.retZ (C : Ru l Z own code maxL ret nm R n0 G W) {z : Int32} (hr : ret = some .boolean) (hz : z = 0 ∨ z = 1) (hd : decode code pc = .ok (.ireturn, 1)) (hk : k ≤ R.cells) (hn : n ≤ R.slots) (q : G (some (.int z)) h) : W h k n pc Ls (.int z :: rest) := by
  obtain ⟨p, e, s, m, args, below, meth, c, ⟨hx, hby, hml, hown, hZ, hre, hlk, hnm⟩, rfl⟩ := C
  intro T locs k' n' q1 q2 X eT N
  obtain ⟨fs, hrr, hrun, hended, hW, hsame⟩ := X.leave (v := some (.int z)) (fun h => by rw [hre, hr] at h; cases h)
  have hnr : narrow .boolean (.int z) = .int z := by rcases hz with rfl | rfl <;> decide
  exact ⟨_, _, retOut X hx (hre.trans hr) hnr (Or.inl ⟨rfl, Or.inr (Or.inl rfl), z, rfl⟩) (hb hby hd) hrr, hrun, hended, _, _, rfl, ⟨N, by show G _ T.heap; rw [eT]; exact q⟩, ⟨_, rfl⟩, hW, hsame.mono (by omega) (by omega)⟩
theorem Ru.retJ (C : Ru l Z own code maxL ret nm R n0 G W) {z : Int64} (hr : ret = some .long) (hd : decode code pc = .ok (.lreturn, 1)) (hk : k ≤ R.cells) (hn : n ≤ R.slots) (q : G (some (.long z)) h) : W h k n pc Ls (.long z :: rest) := by
  obtain ⟨p, e, s, m, args, below, meth, c, ⟨hx, hby, hml, hown, hZ, hre, hlk, hnm⟩, rfl⟩ := C
  intro T locs k' n' q1 q2 X eT N
  obtain ⟨fs, hrr, hrun, hended, hW, hsame⟩ := X.leave (v := some (.long z)) (fun h => by rw [hre, hr] at h; cases h)
  exact ⟨_, _, retOut X hx (hre.trans hr) rfl (Or.inr (Or.inl ⟨rfl, rfl, z, rfl⟩)) (hb hby hd) hrr, hrun, hended, _, _, rfl, ⟨N, by show G _ T.heap; rw [eT]; exact q⟩, ⟨_, rfl⟩, hW, hsame.mono (by omega) (by omega)⟩
theorem Ru.retA (C : Ru l Z own code maxL ret nm R n0 G W) {a : Addr} {t : FieldType} (hr : ret = some t) (ht : t.isReference = true) (hd : decode code pc = .ok (.areturn, 1)) (hk : k ≤ R.cells) (hn : n ≤ R.slots) (q : G (some (.ref a)) h) : W h k n pc Ls (.ref a :: rest) := by
  obtain ⟨p, e, s, m, args, below, meth, c, ⟨hx, hby, hml, hown, hZ, hre, hlk, hnm⟩, rfl⟩ := C
  intro T locs k' n' q1 q2 X eT N
  obtain ⟨fs, hrr, hrun, hended, hW, hsame⟩ := X.leave (v := some (.ref a)) (fun h => by rw [hre, hr] at h; cases h)
  have hnr : narrow t (.ref a) = .ref a := by cases t <;> first | rfl | cases ht
  exact ⟨_, _, retOut X hx (hre.trans hr) hnr (Or.inr (Or.inr (Or.inr (Or.inr ⟨rfl, ht, rfl⟩)))) (hb hby hd) hrr, hrun, hended, _, _, rfl, ⟨N, by show G _ T.heap; rw [eT]; exact q⟩, ⟨_, rfl⟩, hW, hsame.mono (by omega) (by omega)⟩
end Steps
/-! kinds of results -/
def RI (P : Int32 → Heap → Prop) : Option Value → Heap → Prop := fun v h => ∃ r, v = some (.int r) ∧ P r h
def RJ (P : Int64 → Heap → Prop) : Option Value → Heap → Prop := fun v h => ∃ r, v = some (.long r) ∧ P r h
def RA (P : Addr → Heap → Prop) : Option Value → Heap → Prop := fun v h => ∃ r, v = some (.ref r) ∧ P r h
def RV (P : Heap → Prop) : Option Value → Heap → Prop := fun v h => v = none ∧ P h
theorem kI {P : Int32 → Heap → Prop} {W : WT} {k n pc : Nat} {Ls : Array Slot} {rest : List Value} (q : ∀ r h, P r h → W h k n pc Ls (.int r :: rest)) : ∀ v h, RI P v h → W h k n pc Ls (v.toList ++ rest) := by
  rintro _ h ⟨r, rfl, p⟩; exact q r h p
theorem kJ {P : Int64 → Heap → Prop} {W : WT} {k n pc : Nat} {Ls : Array Slot} {rest : List Value} (q : ∀ r h, P r h → W h k n pc Ls (.long r :: rest)) : ∀ v h, RJ P v h → W h k n pc Ls (v.toList ++ rest) := by
  rintro _ h ⟨r, rfl, p⟩; exact q r h p
theorem kA {P : Addr → Heap → Prop} {W : WT} {k n pc : Nat} {Ls : Array Slot} {rest : List Value} (q : ∀ r h, P r h → W h k n pc Ls (.ref r :: rest)) : ∀ v h, RA P v h → W h k n pc Ls (v.toList ++ rest) := by
  rintro _ h ⟨r, rfl, p⟩; exact q r h p
theorem kV {P : Heap → Prop} {W : WT} {k n pc : Nat} {Ls : Array Slot} {rest : List Value} (q : ∀ h, P h → W h k n pc Ls rest) : ∀ v h, RV P v h → W h k n pc Ls (v.toList ++ rest) := by
  rintro _ h ⟨rfl, p⟩; exact q h p
/-- the same, for a callee that leaves the heap as it was and returns just this -/
theorem kI0 {P : Int32 → Prop} {h0 : Heap} {W : WT} {k n pc : Nat} {Ls : Array Slot} {rest : List Value} (q : ∀ r, P r → W h0 k n pc Ls (.int r :: rest)) : ∀ v h, RI (fun r h => P r ∧ h = h0) v h → W h k n pc Ls (v.toList ++ rest) := by
  rintro _ h ⟨r, rfl, p, rfl⟩; exact q r p
theorem kJ0 {P : Int64 → Prop} {h0 : Heap} {W : WT} {k n pc : Nat} {Ls : Array Slot} {rest : List Value} (q : ∀ r, P r → W h0 k n pc Ls (.long r :: rest)) : ∀ v h, RJ (fun r h => P r ∧ h = h0) v h → W h k n pc Ls (v.toList ++ rest) := by
  rintro _ h ⟨r, rfl, p, rfl⟩; exact q r p
theorem kIe {x : Int32} {h0 : Heap} {W : WT} {k n pc : Nat} {Ls : Array Slot} {rest : List Value} (q : W h0 k n pc Ls (.int x :: rest)) : ∀ v h, RI (fun r h => r = x ∧ h = h0) v h → W h k n pc Ls (v.toList ++ rest) := by
  rintro _ h ⟨r, rfl, rfl, rfl⟩; exact q
theorem kJe {x : Int64} {h0 : Heap} {W : WT} {k n pc : Nat} {Ls : Array Slot} {rest : List Value} (q : W h0 k n pc Ls (.long x :: rest)) : ∀ v h, RJ (fun r h => r = x ∧ h = h0) v h → W h k n pc Ls (v.toList ++ rest) := by
  rintro _ h ⟨r, rfl, rfl, rfl⟩; exact q
theorem exaLt {Z : State} {h : Heap} {a : Addr} {C : String} (F : Exa Z h a C) : a < h.size := by obtain ⟨c, _, h1, -⟩ := F; exact (Array.getElem?_eq_some_iff.mp h1).1
end Jvm.OwnW

namespace Jvm.Pilot.@@N@@
open Jvm Jvm.ClassFile Sem Op Lib Jvm.Free Jvm.Stand Jvm.LawKit Jvm.RoadKit Bundle Jvm.Pilot.@@N@@.Jvm.D Jvm.OwnW

theorem own_rate {p r a : Int64} (e : r = p &&& 72057594037927935) (ha : -4 ≤ a.toInt ∧ a.toInt ≤ 72057594037927939) : (100 : Int64) * a < (99 : Int64) * r ↔ r / 100 < r - a := by
  have m := c_maskL p 72057594037927935 56 (by decide) (by decide)
  rw [← e] at m
  have k1 := c_lmul 100 a; have k2 := c_lmul 99 r; have k3 := (c_ldiv r 100 100 (by decide) (by decide)).1 (by omega); have k4 := c_lsub r a
  have o1 : (100 : Int64).toInt = 100 := by decide
  have o2 : (99 : Int64).toInt = 99 := by decide
  have b1 := rng64 ((100 : Int64) * a); have b2 := rng64 ((99 : Int64) * r); have b4 := rng64 (r - a)
  rw [Int64.lt_iff_toInt_lt, Int64.lt_iff_toInt_lt]
  rw [o1] at k1; rw [o2] at k2
  have j1 : ((100 : Int64) * a).toInt = 100 * a.toInt := by omega
  have j2 : ((99 : Int64) * r).toInt = 99 * r.toInt := by omega
  have j4 : (r - a).toInt = r.toInt - a.toInt := by omega
  rw [j1, j2, j4, k3]
  omega
theorem own_off {m : Int32} {o : Int64} (e : o = ((sarI m 3 &&& 7) - 4).toInt64) : -4 ≤ o.toInt ∧ o.toInt ≤ 3 := by
  have k := c_mask (sarI m 3) 7 3 (by decide) (by decide)
  have s := c_isub (sarI m 3 &&& 7) 4; have b := rng32 ((sarI m 3 &&& 7) - 4)
  have o4 : (4 : Int32).toInt = 4 := by decide
  rw [e, Int32.toInt_toInt64]
  omega
theorem own_ach {p1 p2 r o a : Int64} {s : Int32} {m : Int32} (e : r = p1 &&& 72057594037927935) (eo : o = ((sarI m 3 &&& 7) - 4).toInt64) (h : (s = (0 : Int32) ∧ a = (p2 &&& (72057594037927935 : Int64))) ∨ (¬ (s = (0 : Int32)) ∧ a = ((r - (r / (100 : Int64))) + o))) : -4 ≤ a.toInt ∧ a.toInt ≤ 72057594037927939 := by
  rcases h with ⟨-, rfl⟩ | ⟨-, rfl⟩
  · have m := c_maskL p2 72057594037927935 56 (by decide) (by decide)
    omega
  · have m := c_maskL p1 72057594037927935 56 (by decide) (by decide)
    rw [← e] at m
    have k3 := (c_ldiv r 100 100 (by decide) (by decide)).1 (by omega)
    have k4 := c_lsub r (r / 100); have k5 := c_ladd (r - r / 100) o
    have b4 := rng64 (r - r / 100); have b5 := rng64 (r - r / 100 + o); have bo := own_off eo
    have j4 : (r - r / 100).toInt = r.toInt - r.toInt / 100 := by omega
    have j5 : (r - r / 100 + o).toInt = r.toInt - r.toInt / 100 + o.toInt := by omega
    rw [j5]
    omega
theorem own_req {f c d : Int64} : f + c = f + c + d ↔ d = 0 := by
  constructor
  · intro h
    have e := congrArg (fun z => z - (f + c)) h
    have e1 : (f + c) - (f + c) = (f + c + d) - (f + c) := e
    rw [Int64.sub_self, Int64.add_comm (f + c) d, Int64.add_sub_cancel] at e1
    exact e1.symm
  · rintro rfl; rw [Int64.add_zero]
theorem own_i2l {d : Int32} : d.toInt64 = 0 ↔ d = 0 := by
  rw [← Int64.toInt_inj, ← Int32.toInt_inj, Int32.toInt_toInt64]; rfl
theorem own_law {p1 p2 q f c r o a req : Int64} {s m d early u : Int32} (e5 : r = p1 &&& 72057594037927935) (e41 : o = ((sarI m 3 &&& 7) - 4).toInt64) (x75 : (s = (0 : Int32) ∧ a = (p2 &&& (72057594037927935 : Int64))) ∨ (¬ (s = (0 : Int32)) ∧ a = ((r - (r / (100 : Int64))) + o))) (e86 : req = (f + c) + d.toInt64)
    (h : ((r / (100 : Int64)) < (r - a) ∧ u = (0 : Int32)) ∨ (¬ ((r / (100 : Int64)) < (r - a)) ∧ (200 : Int64) < q ∧ u = (0 : Int32)) ∨ (¬ ((r / (100 : Int64)) < (r - a)) ∧ ¬ ((200 : Int64) < q) ∧ ¬ (early = (0 : Int32)) ∧ u = (0 : Int32)) ∨ (¬ ((r / (100 : Int64)) < (r - a)) ∧ ¬ ((200 : Int64) < q) ∧ early = (0 : Int32) ∧ ¬ (d = (0 : Int32)) ∧ u = (0 : Int32)) ∨ (¬ ((r / (100 : Int64)) < (r - a)) ∧ ¬ ((200 : Int64) < q) ∧ early = (0 : Int32) ∧ d = (0 : Int32) ∧ u = (1 : Int32))) :
    (if (100 : Int64) * a < (99 : Int64) * r ∨ (200 : Int64) < q ∨ ¬ (early = 0) ∨ ¬ (f + c = req) then (0 : Int32) else 1) = u := by
  subst e86
  simp only [own_rate e5 (own_ach e5 e41 x75), own_req, own_i2l]
  rcases h with ⟨h1, rfl⟩ | ⟨h1, h2, rfl⟩ | ⟨h1, h2, h3, rfl⟩ | ⟨h1, h2, h3, h4, rfl⟩ | ⟨h1, h2, h3, h4, rfl⟩
  · rw [if_pos (Or.inl h1)]
  · rw [if_pos (Or.inr (Or.inl h2))]
  · rw [if_pos (Or.inr (Or.inr (Or.inl h3)))]
  · rw [if_pos (Or.inr (Or.inr (Or.inr h4)))]
  · rw [if_neg (fun z => z.elim h1 (fun z => z.elim h2 (fun z => z.elim (fun q => q h3) (fun q => q h4))))]

theorem od2_0 : decode jdk_30_method_1_code 0 = .ok (.aload_n 0, 1) := by decide +kernel
theorem od2_1 : decode jdk_30_method_1_code 1 = .ok (.invokespecial 1, 3) := by decide +kernel
theorem ow12 {a0 : Array Value} {Z : State} (hw : ∀ d ∈ tables_1, d.before a0 Z = true) : (Jvm.Cond.methodLink "java/lang/Record" (1 : Nat) ({ cls := "java/lang/Object", name := "<init>", desc := "()V" } : Jvm.MethodName)).before a0 Z = true := hw _ (List.mem_of_getElem? (i := 12) rfl)
theorem ow13 {a0 : Array Value} {Z : State} (hw : ∀ d ∈ tables_1, d.before a0 Z = true) : (Jvm.Cond.instanceMethod ({ cls := "java/lang/Object", name := "<init>", desc := "()V" } : Jvm.MethodName)).before a0 Z = true := hw _ (List.mem_of_getElem? (i := 13) rfl)
theorem ow14 {a0 : Array Value} {Z : State} (hw : ∀ d ∈ tables_1, d.before a0 Z = true) : (Jvm.Cond.code ({ cls := "java/lang/Object", name := "<init>", desc := "()V" } : Jvm.MethodName) object_method_1_code (1 : Nat) (Option.none : Option Jvm.ClassFile.FieldType)).before a0 Z = true := hw _ (List.mem_of_getElem? (i := 14) rfl)
theorem od2_4 : decode jdk_30_method_1_code 4 = .ok (.return_, 1) := by decide +kernel
theorem ef_own_rm2 (m : MethodId) (x0 : Addr) : entryFrame m #[(.ref x0)] 1 = mkF m 0 #[.val (.ref x0)] [] := by first | (simp [entryFrame, mkF, argsToLocals, Value.category]; done) | rfl
theorem pn_java_lang_Record__init____V : plainFor (⟨"java/lang/Record", "<init>", "()V"⟩ : MethodName) = true := plainFor_of_name (by first | (simp [plainName, overriddenIn]; done) | decide +kernel)
set_option maxRecDepth 65536 in
set_option maxHeartbeats 40000000 in
theorem own_rm2 (l : Launch) (Z : State) (a0 : Array Value) (hw : ∀ d ∈ tables_1, d.before a0 Z = true) (n0 : Nat) (hO : Heap) (a : Addr) :
    MeetsW l Z n0 (⟨"java/lang/Record", "<init>", "()V"⟩ : MethodName) jdk_30_method_1_code 1 none ({ frames := 1, cells := 0, slots := 0, locals := 12 } : Room) #[(.ref a)] hO (RV fun h => h = hO) := by
  refine MeetsW.intro pn_java_lang_Record__init____V (fun m => ef_own_rm2 m a) ?_
  intro W C
  replace C : Ru l Z "java/lang/Record" jdk_30_method_1_code 1 none "<init>" ({ frames := 1, cells := 0, slots := 0, locals := 12 } : Room) n0 (RV fun h => h = hO) W := C
  refine C.aloadN (pc' := 1) od2_0 rfl rfl rfl ?_
  refine C.initObj (w := 0) (ow12 hw) (ow13 hw) (ow14 hw) (pc' := 4) od2_1 rfl rfl (by decide) (Nat.le_of_eq rfl) (by decide) ?_
  refine C.retV rfl od2_4 (by decide) (by decide) ⟨rfl, ?_⟩
  exact rfl
theorem od1_0 : decode prog_38_method_1_code 0 = .ok (.aload_n 0, 1) := by decide +kernel
theorem od1_1 : decode prog_38_method_1_code 1 = .ok (.invokespecial 1, 3) := by decide +kernel
theorem pd___V : parseMethodDescriptor "()V" = some ⟨[], none⟩ := by decide +kernel
theorem ow11 {a0 : Array Value} {Z : State} (hw : ∀ d ∈ tables_1, d.before a0 Z = true) : (Jvm.Cond.code ({ cls := "java/lang/Record", name := "<init>", desc := "()V" } : Jvm.MethodName) jdk_30_method_1_code (1 : Nat) (Option.none : Option Jvm.ClassFile.FieldType)).before a0 Z = true := hw _ (List.mem_of_getElem? (i := 11) rfl)
theorem ow10 {a0 : Array Value} {Z : State} (hw : ∀ d ∈ tables_1, d.before a0 Z = true) : (Jvm.Cond.initialized "java/lang/Record").before a0 Z = true := hw _ (List.mem_of_getElem? (i := 10) rfl)
theorem ow7 {a0 : Array Value} {Z : State} (hw : ∀ d ∈ tables_1, d.before a0 Z = true) : (Jvm.Cond.methodLink "com/example/elapse/elapse/load/Lateness$Summary" (1 : Nat) ({ cls := "java/lang/Record", name := "<init>", desc := "()V" } : Jvm.MethodName)).before a0 Z = true := hw _ (List.mem_of_getElem? (i := 7) rfl)
theorem ow8 {a0 : Array Value} {Z : State} (hw : ∀ d ∈ tables_1, d.before a0 Z = true) : (Jvm.Cond.instanceMethod ({ cls := "java/lang/Record", name := "<init>", desc := "()V" } : Jvm.MethodName)).before a0 Z = true := hw _ (List.mem_of_getElem? (i := 8) rfl)
theorem od1_4 : decode prog_38_method_1_code 4 = .ok (.aload_n 0, 1) := by decide +kernel
theorem od1_5 : decode prog_38_method_1_code 5 = .ok (.iload_n 1, 1) := by decide +kernel
theorem ow16 {a0 : Array Value} {Z : State} (hw : ∀ d ∈ tables_1, d.before a0 Z = true) : (Jvm.Cond.laysFinal "com/example/elapse/elapse/load/Lateness$Summary" "com/example/elapse/elapse/load/Lateness$Summary" "early" "I").before a0 Z = true := hw _ (List.mem_of_getElem? (i := 16) rfl)
theorem ow15 {a0 : Array Value} {Z : State} (hw : ∀ d ∈ tables_1, d.before a0 Z = true) : (Jvm.Cond.fieldLink "com/example/elapse/elapse/load/Lateness$Summary" (7 : Nat) "com/example/elapse/elapse/load/Lateness$Summary" "early" "I").before a0 Z = true := hw _ (List.mem_of_getElem? (i := 15) rfl)
theorem ow2 {a0 : Array Value} {Z : State} (hw : ∀ d ∈ tables_1, d.before a0 Z = true) : (Jvm.Cond.instantiable "com/example/elapse/elapse/load/Lateness$Summary" (4 : Nat)).before a0 Z = true := hw _ (List.mem_of_getElem? (i := 2) rfl)
theorem pf_I : parseFieldDescriptor "I" = some .int := by decide
theorem od1_6 : decode prog_38_method_1_code 6 = .ok (.putfield 7, 3) := by decide +kernel
theorem ow18 {a0 : Array Value} {Z : State} (hw : ∀ d ∈ tables_1, d.before a0 Z = true) : (Jvm.Cond.laysFinal "com/example/elapse/elapse/load/Lateness$Summary" "com/example/elapse/elapse/load/Lateness$Summary" "p50" "J").before a0 Z = true := hw _ (List.mem_of_getElem? (i := 18) rfl)
theorem pf_J : parseFieldDescriptor "J" = some .long := by decide
theorem sne_18_16 {a0 : Array Value} {Z : State} (hw : ∀ d ∈ tables_1, d.before a0 Z = true) : Jvm.RoadKit.slotOf Z "com/example/elapse/elapse/load/Lateness$Summary" "p50" "J" ≠ Jvm.RoadKit.slotOf Z "com/example/elapse/elapse/load/Lateness$Summary" "early" "I" := slot_ne (C := "com/example/elapse/elapse/load/Lateness$Summary") (a0 := a0) (Or.inr (ow18 hw)) (Or.inr (ow16 hw)) (by decide) pf_J pf_I
theorem ow20 {a0 : Array Value} {Z : State} (hw : ∀ d ∈ tables_1, d.before a0 Z = true) : (Jvm.Cond.laysFinal "com/example/elapse/elapse/load/Lateness$Summary" "com/example/elapse/elapse/load/Lateness$Summary" "p99" "J").before a0 Z = true := hw _ (List.mem_of_getElem? (i := 20) rfl)
theorem sne_20_16 {a0 : Array Value} {Z : State} (hw : ∀ d ∈ tables_1, d.before a0 Z = true) : Jvm.RoadKit.slotOf Z "com/example/elapse/elapse/load/Lateness$Summary" "p99" "J" ≠ Jvm.RoadKit.slotOf Z "com/example/elapse/elapse/load/Lateness$Summary" "early" "I" := slot_ne (C := "com/example/elapse/elapse/load/Lateness$Summary") (a0 := a0) (Or.inr (ow20 hw)) (Or.inr (ow16 hw)) (by decide) pf_J pf_I
theorem ow22 {a0 : Array Value} {Z : State} (hw : ∀ d ∈ tables_1, d.before a0 Z = true) : (Jvm.Cond.laysFinal "com/example/elapse/elapse/load/Lateness$Summary" "com/example/elapse/elapse/load/Lateness$Summary" "max" "J").before a0 Z = true := hw _ (List.mem_of_getElem? (i := 22) rfl)
theorem sne_22_16 {a0 : Array Value} {Z : State} (hw : ∀ d ∈ tables_1, d.before a0 Z = true) : Jvm.RoadKit.slotOf Z "com/example/elapse/elapse/load/Lateness$Summary" "max" "J" ≠ Jvm.RoadKit.slotOf Z "com/example/elapse/elapse/load/Lateness$Summary" "early" "I" := slot_ne (C := "com/example/elapse/elapse/load/Lateness$Summary") (a0 := a0) (Or.inr (ow22 hw)) (Or.inr (ow16 hw)) (by decide) pf_J pf_I
theorem od1_9 : decode prog_38_method_1_code 9 = .ok (.aload_n 0, 1) := by decide +kernel
theorem od1_10 : decode prog_38_method_1_code 10 = .ok (.lload_n 2, 1) := by decide +kernel
theorem ow17 {a0 : Array Value} {Z : State} (hw : ∀ d ∈ tables_1, d.before a0 Z = true) : (Jvm.Cond.fieldLink "com/example/elapse/elapse/load/Lateness$Summary" (13 : Nat) "com/example/elapse/elapse/load/Lateness$Summary" "p50" "J").before a0 Z = true := hw _ (List.mem_of_getElem? (i := 17) rfl)
theorem od1_11 : decode prog_38_method_1_code 11 = .ok (.putfield 13, 3) := by decide +kernel
theorem sne_20_18 {a0 : Array Value} {Z : State} (hw : ∀ d ∈ tables_1, d.before a0 Z = true) : Jvm.RoadKit.slotOf Z "com/example/elapse/elapse/load/Lateness$Summary" "p99" "J" ≠ Jvm.RoadKit.slotOf Z "com/example/elapse/elapse/load/Lateness$Summary" "p50" "J" := slot_ne (C := "com/example/elapse/elapse/load/Lateness$Summary") (a0 := a0) (Or.inr (ow20 hw)) (Or.inr (ow18 hw)) (by decide) pf_J pf_J
theorem sne_22_18 {a0 : Array Value} {Z : State} (hw : ∀ d ∈ tables_1, d.before a0 Z = true) : Jvm.RoadKit.slotOf Z "com/example/elapse/elapse/load/Lateness$Summary" "max" "J" ≠ Jvm.RoadKit.slotOf Z "com/example/elapse/elapse/load/Lateness$Summary" "p50" "J" := slot_ne (C := "com/example/elapse/elapse/load/Lateness$Summary") (a0 := a0) (Or.inr (ow22 hw)) (Or.inr (ow18 hw)) (by decide) pf_J pf_J
theorem sne_16_18 {a0 : Array Value} {Z : State} (hw : ∀ d ∈ tables_1, d.before a0 Z = true) : Jvm.RoadKit.slotOf Z "com/example/elapse/elapse/load/Lateness$Summary" "early" "I" ≠ Jvm.RoadKit.slotOf Z "com/example/elapse/elapse/load/Lateness$Summary" "p50" "J" := slot_ne (C := "com/example/elapse/elapse/load/Lateness$Summary") (a0 := a0) (Or.inr (ow16 hw)) (Or.inr (ow18 hw)) (by decide) pf_I pf_J
theorem od1_14 : decode prog_38_method_1_code 14 = .ok (.aload_n 0, 1) := by decide +kernel
theorem od1_15 : decode prog_38_method_1_code 15 = .ok (.lload 4, 2) := by decide +kernel
theorem ow19 {a0 : Array Value} {Z : State} (hw : ∀ d ∈ tables_1, d.before a0 Z = true) : (Jvm.Cond.fieldLink "com/example/elapse/elapse/load/Lateness$Summary" (17 : Nat) "com/example/elapse/elapse/load/Lateness$Summary" "p99" "J").before a0 Z = true := hw _ (List.mem_of_getElem? (i := 19) rfl)
theorem od1_17 : decode prog_38_method_1_code 17 = .ok (.putfield 17, 3) := by decide +kernel
theorem sne_22_20 {a0 : Array Value} {Z : State} (hw : ∀ d ∈ tables_1, d.before a0 Z = true) : Jvm.RoadKit.slotOf Z "com/example/elapse/elapse/load/Lateness$Summary" "max" "J" ≠ Jvm.RoadKit.slotOf Z "com/example/elapse/elapse/load/Lateness$Summary" "p99" "J" := slot_ne (C := "com/example/elapse/elapse/load/Lateness$Summary") (a0 := a0) (Or.inr (ow22 hw)) (Or.inr (ow20 hw)) (by decide) pf_J pf_J
theorem sne_16_20 {a0 : Array Value} {Z : State} (hw : ∀ d ∈ tables_1, d.before a0 Z = true) : Jvm.RoadKit.slotOf Z "com/example/elapse/elapse/load/Lateness$Summary" "early" "I" ≠ Jvm.RoadKit.slotOf Z "com/example/elapse/elapse/load/Lateness$Summary" "p99" "J" := slot_ne (C := "com/example/elapse/elapse/load/Lateness$Summary") (a0 := a0) (Or.inr (ow16 hw)) (Or.inr (ow20 hw)) (by decide) pf_I pf_J
theorem sne_18_20 {a0 : Array Value} {Z : State} (hw : ∀ d ∈ tables_1, d.before a0 Z = true) : Jvm.RoadKit.slotOf Z "com/example/elapse/elapse/load/Lateness$Summary" "p50" "J" ≠ Jvm.RoadKit.slotOf Z "com/example/elapse/elapse/load/Lateness$Summary" "p99" "J" := slot_ne (C := "com/example/elapse/elapse/load/Lateness$Summary") (a0 := a0) (Or.inr (ow18 hw)) (Or.inr (ow20 hw)) (by decide) pf_J pf_J
theorem od1_20 : decode prog_38_method_1_code 20 = .ok (.aload_n 0, 1) := by decide +kernel
theorem od1_21 : decode prog_38_method_1_code 21 = .ok (.lload 6, 2) := by decide +kernel
theorem ow21 {a0 : Array Value} {Z : State} (hw : ∀ d ∈ tables_1, d.before a0 Z = true) : (Jvm.Cond.fieldLink "com/example/elapse/elapse/load/Lateness$Summary" (20 : Nat) "com/example/elapse/elapse/load/Lateness$Summary" "max" "J").before a0 Z = true := hw _ (List.mem_of_getElem? (i := 21) rfl)
theorem od1_23 : decode prog_38_method_1_code 23 = .ok (.putfield 20, 3) := by decide +kernel
theorem sne_16_22 {a0 : Array Value} {Z : State} (hw : ∀ d ∈ tables_1, d.before a0 Z = true) : Jvm.RoadKit.slotOf Z "com/example/elapse/elapse/load/Lateness$Summary" "early" "I" ≠ Jvm.RoadKit.slotOf Z "com/example/elapse/elapse/load/Lateness$Summary" "max" "J" := slot_ne (C := "com/example/elapse/elapse/load/Lateness$Summary") (a0 := a0) (Or.inr (ow16 hw)) (Or.inr (ow22 hw)) (by decide) pf_I pf_J
theorem sne_18_22 {a0 : Array Value} {Z : State} (hw : ∀ d ∈ tables_1, d.before a0 Z = true) : Jvm.RoadKit.slotOf Z "com/example/elapse/elapse/load/Lateness$Summary" "p50" "J" ≠ Jvm.RoadKit.slotOf Z "com/example/elapse/elapse/load/Lateness$Summary" "max" "J" := slot_ne (C := "com/example/elapse/elapse/load/Lateness$Summary") (a0 := a0) (Or.inr (ow18 hw)) (Or.inr (ow22 hw)) (by decide) pf_J pf_J
theorem sne_20_22 {a0 : Array Value} {Z : State} (hw : ∀ d ∈ tables_1, d.before a0 Z = true) : Jvm.RoadKit.slotOf Z "com/example/elapse/elapse/load/Lateness$Summary" "p99" "J" ≠ Jvm.RoadKit.slotOf Z "com/example/elapse/elapse/load/Lateness$Summary" "max" "J" := slot_ne (C := "com/example/elapse/elapse/load/Lateness$Summary") (a0 := a0) (Or.inr (ow20 hw)) (Or.inr (ow22 hw)) (by decide) pf_J pf_J
theorem od1_26 : decode prog_38_method_1_code 26 = .ok (.return_, 1) := by decide +kernel
theorem ef_own_rm1 (m : MethodId) (x0 : Addr) (x1 : Int32) (x2 : Int64) (x3 : Int64) (x4 : Int64) : entryFrame m #[(.ref x0), (.int x1), (.long x2), (.long x3), (.long x4)] 8 = mkF m 0 #[.val (.ref x0), .val (.int x1), .val (.long x2), .second, .val (.long x3), .second, .val (.long x4), .second] [] := by first | (simp [entryFrame, mkF, argsToLocals, Value.category]; done) | rfl
theorem pn_com_example_elapse_elapse_load_Lateness_Summary__init___IJJJ_V : plainFor (⟨"com/example/elapse/elapse/load/Lateness$Summary", "<init>", "(IJJJ)V"⟩ : MethodName) = true := plainFor_of_name (by first | (simp [plainName, overriddenIn]; done) | decide +kernel)
set_option maxRecDepth 65536 in
set_option maxHeartbeats 40000000 in
theorem own_rm1 (l : Launch) (Z : State) (a0 : Array Value) (hw : ∀ d ∈ tables_1, d.before a0 Z = true) (n0 : Nat) (hO : Heap) (a : Addr) (x1 : Int32) (x2 : Int64) (x3 : Int64) (x4 : Int64) (Z0 : n0 ≤ hO.size) (E_a : Exa Z hO a "com/example/elapse/elapse/load/Lateness$Summary") (F_a_early : Fld Z hO a "com/example/elapse/elapse/load/Lateness$Summary" "early" "I" (.int (0 : Int32))) (F_a_p50 : Fld Z hO a "com/example/elapse/elapse/load/Lateness$Summary" "p50" "J" (.long (0 : Int64))) (F_a_p99 : Fld Z hO a "com/example/elapse/elapse/load/Lateness$Summary" "p99" "J" (.long (0 : Int64))) (F_a_max : Fld Z hO a "com/example/elapse/elapse/load/Lateness$Summary" "max" "J" (.long (0 : Int64))) (g_a : n0 ≤ a) :
    MeetsW l Z n0 (⟨"com/example/elapse/elapse/load/Lateness$Summary", "<init>", "(IJJJ)V"⟩ : MethodName) prog_38_method_1_code 8 none ({ frames := 2, cells := 0, slots := 0, locals := 24 } : Room) #[(.ref a), (.int x1), (.long x2), (.long x3), (.long x4)] hO (RV fun h => Keep hO h [a] ∧ Fld Z h a "com/example/elapse/elapse/load/Lateness$Summary" "early" "I" (.int x1) ∧ Fld Z h a "com/example/elapse/elapse/load/Lateness$Summary" "p99" "J" (.long x3)) := by
  refine MeetsW.intro pn_com_example_elapse_elapse_load_Lateness_Summary__init___IJJJ_V (fun m => ef_own_rm1 m a x1 x2 x3 x4) ?_
  intro W C
  replace C : Ru l Z "com/example/elapse/elapse/load/Lateness$Summary" prog_38_method_1_code 8 none "<init>" ({ frames := 2, cells := 0, slots := 0, locals := 24 } : Room) n0 (RV fun h => Keep hO h [a] ∧ Fld Z h a "com/example/elapse/elapse/load/Lateness$Summary" "early" "I" (.int x1) ∧ Fld Z h a "com/example/elapse/elapse/load/Lateness$Summary" "p99" "J" (.long x3)) W := C
  have K : Keep hO hO [a] := Keep.refl _ _
  refine C.aloadN (pc' := 1) od1_0 rfl rfl rfl ?_
  refine C.callc (w := 0) (own_rm2 l Z a0 hw n0 hO a) rfl (ow7 hw) (ow8 hw) (ow10 hw) (ow11 hw) (pc' := 4) od1_1 rfl rfl rfl (by decide) pd___V rfl (by decide) (Nat.le_of_eq rfl) (by decide) (by decide) (by decide) (kV fun h1 q1 => ?_)
  obtain ⟨rfl⟩ := q1
  refine C.aloadN (pc' := 5) od1_4 rfl rfl rfl ?_
  refine C.iloadN (pc' := 6) od1_5 rfl rfl ?_
  refine C.putf (ow15 hw) Via.refl F_a_early E_a (Or.inr ⟨(ow16 hw), rfl, rfl⟩) (ow2 hw) pf_I rfl rfl g_a (pc' := 9) od1_6 rfl (fun h6 X6 => ?_)
  replace F_a_early := F_a_early.same X6
  replace E_a := E_a.wr X6
  replace F_a_p50 := F_a_p50.other X6 (Or.inr (sne_18_16 hw))
  replace F_a_p99 := F_a_p99.other X6 (Or.inr (sne_20_16 hw))
  replace F_a_max := F_a_max.other X6 (Or.inr (sne_22_16 hw))
  replace K := K.wr X6 (Or.inl (List.mem_of_getElem? (i := 0) rfl))
  refine C.aloadN (pc' := 10) od1_9 rfl rfl rfl ?_
  refine C.lloadN (pc' := 11) od1_10 rfl rfl ?_
  refine C.putf (ow17 hw) Via.refl F_a_p50 E_a (Or.inr ⟨(ow18 hw), rfl, rfl⟩) (ow2 hw) pf_J rfl rfl g_a (pc' := 14) od1_11 rfl (fun h11 X11 => ?_)
  replace F_a_p50 := F_a_p50.same X11
  replace E_a := E_a.wr X11
  replace F_a_p99 := F_a_p99.other X11 (Or.inr (sne_20_18 hw))
  replace F_a_max := F_a_max.other X11 (Or.inr (sne_22_18 hw))
  replace F_a_early := F_a_early.other X11 (Or.inr (sne_16_18 hw))
  replace K := K.wr X11 (Or.inl (List.mem_of_getElem? (i := 0) rfl))
  refine C.aloadN (pc' := 15) od1_14 rfl rfl rfl ?_
  refine C.lload (pc' := 17) od1_15 rfl rfl ?_
  refine C.putf (ow19 hw) Via.refl F_a_p99 E_a (Or.inr ⟨(ow20 hw), rfl, rfl⟩) (ow2 hw) pf_J rfl rfl g_a (pc' := 20) od1_17 rfl (fun h17 X17 => ?_)
  replace F_a_p99 := F_a_p99.same X17
  replace E_a := E_a.wr X17
  replace F_a_max := F_a_max.other X17 (Or.inr (sne_22_20 hw))
  replace F_a_early := F_a_early.other X17 (Or.inr (sne_16_20 hw))
  replace F_a_p50 := F_a_p50.other X17 (Or.inr (sne_18_20 hw))
  replace K := K.wr X17 (Or.inl (List.mem_of_getElem? (i := 0) rfl))
  refine C.aloadN (pc' := 21) od1_20 rfl rfl rfl ?_
  refine C.lload (pc' := 23) od1_21 rfl rfl ?_
  refine C.putf (ow21 hw) Via.refl F_a_max E_a (Or.inr ⟨(ow22 hw), rfl, rfl⟩) (ow2 hw) pf_J rfl rfl g_a (pc' := 26) od1_23 rfl (fun h23 X23 => ?_)
  replace F_a_max := F_a_max.same X23
  replace E_a := E_a.wr X23
  replace F_a_early := F_a_early.other X23 (Or.inr (sne_16_22 hw))
  replace F_a_p50 := F_a_p50.other X23 (Or.inr (sne_18_22 hw))
  replace F_a_p99 := F_a_p99.other X23 (Or.inr (sne_20_22 hw))
  replace K := K.wr X23 (Or.inl (List.mem_of_getElem? (i := 0) rfl))
  refine C.retV rfl od1_26 (by decide) (by decide) ⟨rfl, ?_⟩
  exact ⟨K, F_a_early, F_a_p99⟩
theorem od4_0 : decode prog_50_method_1_code 0 = .ok (.aload_n 0, 1) := by decide +kernel
theorem od4_1 : decode prog_50_method_1_code 1 = .ok (.invokespecial 1, 3) := by decide +kernel
theorem ow29 {a0 : Array Value} {Z : State} (hw : ∀ d ∈ tables_1, d.before a0 Z = true) : (Jvm.Cond.methodLink "com/example/elapse/elapse/load/PurgatoryResult" (1 : Nat) ({ cls := "java/lang/Record", name := "<init>", desc := "()V" } : Jvm.MethodName)).before a0 Z = true := hw _ (List.mem_of_getElem? (i := 29) rfl)
theorem od4_4 : decode prog_50_method_1_code 4 = .ok (.aload_n 0, 1) := by decide +kernel
theorem od4_5 : decode prog_50_method_1_code 5 = .ok (.aload_n 1, 1) := by decide +kernel
theorem ow31 {a0 : Array Value} {Z : State} (hw : ∀ d ∈ tables_1, d.before a0 Z = true) : (Jvm.Cond.laysFinal "com/example/elapse/elapse/load/PurgatoryResult" "com/example/elapse/elapse/load/PurgatoryResult" "timer" "Lcom/example/elapse/elapse/load/Contender;").before a0 Z = true := hw _ (List.mem_of_getElem? (i := 31) rfl)
theorem ow30 {a0 : Array Value} {Z : State} (hw : ∀ d ∈ tables_1, d.before a0 Z = true) : (Jvm.Cond.fieldLink "com/example/elapse/elapse/load/PurgatoryResult" (7 : Nat) "com/example/elapse/elapse/load/PurgatoryResult" "timer" "Lcom/example/elapse/elapse/load/Contender;").before a0 Z = true := hw _ (List.mem_of_getElem? (i := 30) rfl)
theorem ow24 {a0 : Array Value} {Z : State} (hw : ∀ d ∈ tables_1, d.before a0 Z = true) : (Jvm.Cond.instantiable "com/example/elapse/elapse/load/PurgatoryResult" (9 : Nat)).before a0 Z = true := hw _ (List.mem_of_getElem? (i := 24) rfl)
theorem pf_Lcom_example_elapse_elapse_load_Contender_ : parseFieldDescriptor "Lcom/example/elapse/elapse/load/Contender;" = some (.object "com/example/elapse/elapse/load/Contender") := by decide
theorem od4_6 : decode prog_50_method_1_code 6 = .ok (.putfield 7, 3) := by decide +kernel
theorem ow33 {a0 : Array Value} {Z : State} (hw : ∀ d ∈ tables_1, d.before a0 Z = true) : (Jvm.Cond.laysFinal "com/example/elapse/elapse/load/PurgatoryResult" "com/example/elapse/elapse/load/PurgatoryResult" "rate" "J").before a0 Z = true := hw _ (List.mem_of_getElem? (i := 33) rfl)
theorem sne_33_31 {a0 : Array Value} {Z : State} (hw : ∀ d ∈ tables_1, d.before a0 Z = true) : Jvm.RoadKit.slotOf Z "com/example/elapse/elapse/load/PurgatoryResult" "rate" "J" ≠ Jvm.RoadKit.slotOf Z "com/example/elapse/elapse/load/PurgatoryResult" "timer" "Lcom/example/elapse/elapse/load/Contender;" := slot_ne (C := "com/example/elapse/elapse/load/PurgatoryResult") (a0 := a0) (Or.inr (ow33 hw)) (Or.inr (ow31 hw)) (by decide) pf_J pf_Lcom_example_elapse_elapse_load_Contender_
theorem ow35 {a0 : Array Value} {Z : State} (hw : ∀ d ∈ tables_1, d.before a0 Z = true) : (Jvm.Cond.laysFinal "com/example/elapse/elapse/load/PurgatoryResult" "com/example/elapse/elapse/load/PurgatoryResult" "seconds" "J").before a0 Z = true := hw _ (List.mem_of_getElem? (i := 35) rfl)
theorem sne_35_31 {a0 : Array Value} {Z : State} (hw : ∀ d ∈ tables_1, d.before a0 Z = true) : Jvm.RoadKit.slotOf Z "com/example/elapse/elapse/load/PurgatoryResult" "seconds" "J" ≠ Jvm.RoadKit.slotOf Z "com/example/elapse/elapse/load/PurgatoryResult" "timer" "Lcom/example/elapse/elapse/load/Contender;" := slot_ne (C := "com/example/elapse/elapse/load/PurgatoryResult") (a0 := a0) (Or.inr (ow35 hw)) (Or.inr (ow31 hw)) (by decide) pf_J pf_Lcom_example_elapse_elapse_load_Contender_
theorem ow37 {a0 : Array Value} {Z : State} (hw : ∀ d ∈ tables_1, d.before a0 Z = true) : (Jvm.Cond.laysFinal "com/example/elapse/elapse/load/PurgatoryResult" "com/example/elapse/elapse/load/PurgatoryResult" "producers" "I").before a0 Z = true := hw _ (List.mem_of_getElem? (i := 37) rfl)
theorem sne_37_31 {a0 : Array Value} {Z : State} (hw : ∀ d ∈ tables_1, d.before a0 Z = true) : Jvm.RoadKit.slotOf Z "com/example/elapse/elapse/load/PurgatoryResult" "producers" "I" ≠ Jvm.RoadKit.slotOf Z "com/example/elapse/elapse/load/PurgatoryResult" "timer" "Lcom/example/elapse/elapse/load/Contender;" := slot_ne (C := "com/example/elapse/elapse/load/PurgatoryResult") (a0 := a0) (Or.inr (ow37 hw)) (Or.inr (ow31 hw)) (by decide) pf_I pf_Lcom_example_elapse_elapse_load_Contender_
theorem ow39 {a0 : Array Value} {Z : State} (hw : ∀ d ∈ tables_1, d.before a0 Z = true) : (Jvm.Cond.laysFinal "com/example/elapse/elapse/load/PurgatoryResult" "com/example/elapse/elapse/load/PurgatoryResult" "requests" "J").before a0 Z = true := hw _ (List.mem_of_getElem? (i := 39) rfl)
theorem sne_39_31 {a0 : Array Value} {Z : State} (hw : ∀ d ∈ tables_1, d.before a0 Z = true) : Jvm.RoadKit.slotOf Z "com/example/elapse/elapse/load/PurgatoryResult" "requests" "J" ≠ Jvm.RoadKit.slotOf Z "com/example/elapse/elapse/load/PurgatoryResult" "timer" "Lcom/example/elapse/elapse/load/Contender;" := slot_ne (C := "com/example/elapse/elapse/load/PurgatoryResult") (a0 := a0) (Or.inr (ow39 hw)) (Or.inr (ow31 hw)) (by decide) pf_J pf_Lcom_example_elapse_elapse_load_Contender_
theorem ow41 {a0 : Array Value} {Z : State} (hw : ∀ d ∈ tables_1, d.before a0 Z = true) : (Jvm.Cond.laysFinal "com/example/elapse/elapse/load/PurgatoryResult" "com/example/elapse/elapse/load/PurgatoryResult" "achievedRate" "J").before a0 Z = true := hw _ (List.mem_of_getElem? (i := 41) rfl)
theorem sne_41_31 {a0 : Array Value} {Z : State} (hw : ∀ d ∈ tables_1, d.before a0 Z = true) : Jvm.RoadKit.slotOf Z "com/example/elapse/elapse/load/PurgatoryResult" "achievedRate" "J" ≠ Jvm.RoadKit.slotOf Z "com/example/elapse/elapse/load/PurgatoryResult" "timer" "Lcom/example/elapse/elapse/load/Contender;" := slot_ne (C := "com/example/elapse/elapse/load/PurgatoryResult") (a0 := a0) (Or.inr (ow41 hw)) (Or.inr (ow31 hw)) (by decide) pf_J pf_Lcom_example_elapse_elapse_load_Contender_
theorem ow43 {a0 : Array Value} {Z : State} (hw : ∀ d ∈ tables_1, d.before a0 Z = true) : (Jvm.Cond.laysFinal "com/example/elapse/elapse/load/PurgatoryResult" "com/example/elapse/elapse/load/PurgatoryResult" "cancelled" "J").before a0 Z = true := hw _ (List.mem_of_getElem? (i := 43) rfl)
theorem sne_43_31 {a0 : Array Value} {Z : State} (hw : ∀ d ∈ tables_1, d.before a0 Z = true) : Jvm.RoadKit.slotOf Z "com/example/elapse/elapse/load/PurgatoryResult" "cancelled" "J" ≠ Jvm.RoadKit.slotOf Z "com/example/elapse/elapse/load/PurgatoryResult" "timer" "Lcom/example/elapse/elapse/load/Contender;" := slot_ne (C := "com/example/elapse/elapse/load/PurgatoryResult") (a0 := a0) (Or.inr (ow43 hw)) (Or.inr (ow31 hw)) (by decide) pf_J pf_Lcom_example_elapse_elapse_load_Contender_
theorem ow45 {a0 : Array Value} {Z : State} (hw : ∀ d ∈ tables_1, d.before a0 Z = true) : (Jvm.Cond.laysFinal "com/example/elapse/elapse/load/PurgatoryResult" "com/example/elapse/elapse/load/PurgatoryResult" "fired" "J").before a0 Z = true := hw _ (List.mem_of_getElem? (i := 45) rfl)
theorem sne_45_31 {a0 : Array Value} {Z : State} (hw : ∀ d ∈ tables_1, d.before a0 Z = true) : Jvm.RoadKit.slotOf Z "com/example/elapse/elapse/load/PurgatoryResult" "fired" "J" ≠ Jvm.RoadKit.slotOf Z "com/example/elapse/elapse/load/PurgatoryResult" "timer" "Lcom/example/elapse/elapse/load/Contender;" := slot_ne (C := "com/example/elapse/elapse/load/PurgatoryResult") (a0 := a0) (Or.inr (ow45 hw)) (Or.inr (ow31 hw)) (by decide) pf_J pf_Lcom_example_elapse_elapse_load_Contender_
theorem ow47 {a0 : Array Value} {Z : State} (hw : ∀ d ∈ tables_1, d.before a0 Z = true) : (Jvm.Cond.laysFinal "com/example/elapse/elapse/load/PurgatoryResult" "com/example/elapse/elapse/load/PurgatoryResult" "lateness" "Lcom/example/elapse/elapse/load/Lateness$Summary;").before a0 Z = true := hw _ (List.mem_of_getElem? (i := 47) rfl)
theorem pf_Lcom_example_elapse_elapse_load_Lateness_Summary_ : parseFieldDescriptor "Lcom/example/elapse/elapse/load/Lateness$Summary;" = some (.object "com/example/elapse/elapse/load/Lateness$Summary") := by decide
theorem sne_47_31 {a0 : Array Value} {Z : State} (hw : ∀ d ∈ tables_1, d.before a0 Z = true) : Jvm.RoadKit.slotOf Z "com/example/elapse/elapse/load/PurgatoryResult" "lateness" "Lcom/example/elapse/elapse/load/Lateness$Summary;" ≠ Jvm.RoadKit.slotOf Z "com/example/elapse/elapse/load/PurgatoryResult" "timer" "Lcom/example/elapse/elapse/load/Contender;" := slot_ne (C := "com/example/elapse/elapse/load/PurgatoryResult") (a0 := a0) (Or.inr (ow47 hw)) (Or.inr (ow31 hw)) (by decide) pf_Lcom_example_elapse_elapse_load_Lateness_Summary_ pf_Lcom_example_elapse_elapse_load_Contender_
theorem od4_9 : decode prog_50_method_1_code 9 = .ok (.aload_n 0, 1) := by decide +kernel
theorem od4_10 : decode prog_50_method_1_code 10 = .ok (.lload_n 2, 1) := by decide +kernel
theorem ow32 {a0 : Array Value} {Z : State} (hw : ∀ d ∈ tables_1, d.before a0 Z = true) : (Jvm.Cond.fieldLink "com/example/elapse/elapse/load/PurgatoryResult" (13 : Nat) "com/example/elapse/elapse/load/PurgatoryResult" "rate" "J").before a0 Z = true := hw _ (List.mem_of_getElem? (i := 32) rfl)
theorem od4_11 : decode prog_50_method_1_code 11 = .ok (.putfield 13, 3) := by decide +kernel
theorem sne_35_33 {a0 : Array Value} {Z : State} (hw : ∀ d ∈ tables_1, d.before a0 Z = true) : Jvm.RoadKit.slotOf Z "com/example/elapse/elapse/load/PurgatoryResult" "seconds" "J" ≠ Jvm.RoadKit.slotOf Z "com/example/elapse/elapse/load/PurgatoryResult" "rate" "J" := slot_ne (C := "com/example/elapse/elapse/load/PurgatoryResult") (a0 := a0) (Or.inr (ow35 hw)) (Or.inr (ow33 hw)) (by decide) pf_J pf_J
theorem sne_37_33 {a0 : Array Value} {Z : State} (hw : ∀ d ∈ tables_1, d.before a0 Z = true) : Jvm.RoadKit.slotOf Z "com/example/elapse/elapse/load/PurgatoryResult" "producers" "I" ≠ Jvm.RoadKit.slotOf Z "com/example/elapse/elapse/load/PurgatoryResult" "rate" "J" := slot_ne (C := "com/example/elapse/elapse/load/PurgatoryResult") (a0 := a0) (Or.inr (ow37 hw)) (Or.inr (ow33 hw)) (by decide) pf_I pf_J
theorem sne_39_33 {a0 : Array Value} {Z : State} (hw : ∀ d ∈ tables_1, d.before a0 Z = true) : Jvm.RoadKit.slotOf Z "com/example/elapse/elapse/load/PurgatoryResult" "requests" "J" ≠ Jvm.RoadKit.slotOf Z "com/example/elapse/elapse/load/PurgatoryResult" "rate" "J" := slot_ne (C := "com/example/elapse/elapse/load/PurgatoryResult") (a0 := a0) (Or.inr (ow39 hw)) (Or.inr (ow33 hw)) (by decide) pf_J pf_J
theorem sne_41_33 {a0 : Array Value} {Z : State} (hw : ∀ d ∈ tables_1, d.before a0 Z = true) : Jvm.RoadKit.slotOf Z "com/example/elapse/elapse/load/PurgatoryResult" "achievedRate" "J" ≠ Jvm.RoadKit.slotOf Z "com/example/elapse/elapse/load/PurgatoryResult" "rate" "J" := slot_ne (C := "com/example/elapse/elapse/load/PurgatoryResult") (a0 := a0) (Or.inr (ow41 hw)) (Or.inr (ow33 hw)) (by decide) pf_J pf_J
theorem sne_43_33 {a0 : Array Value} {Z : State} (hw : ∀ d ∈ tables_1, d.before a0 Z = true) : Jvm.RoadKit.slotOf Z "com/example/elapse/elapse/load/PurgatoryResult" "cancelled" "J" ≠ Jvm.RoadKit.slotOf Z "com/example/elapse/elapse/load/PurgatoryResult" "rate" "J" := slot_ne (C := "com/example/elapse/elapse/load/PurgatoryResult") (a0 := a0) (Or.inr (ow43 hw)) (Or.inr (ow33 hw)) (by decide) pf_J pf_J
theorem sne_45_33 {a0 : Array Value} {Z : State} (hw : ∀ d ∈ tables_1, d.before a0 Z = true) : Jvm.RoadKit.slotOf Z "com/example/elapse/elapse/load/PurgatoryResult" "fired" "J" ≠ Jvm.RoadKit.slotOf Z "com/example/elapse/elapse/load/PurgatoryResult" "rate" "J" := slot_ne (C := "com/example/elapse/elapse/load/PurgatoryResult") (a0 := a0) (Or.inr (ow45 hw)) (Or.inr (ow33 hw)) (by decide) pf_J pf_J
theorem sne_47_33 {a0 : Array Value} {Z : State} (hw : ∀ d ∈ tables_1, d.before a0 Z = true) : Jvm.RoadKit.slotOf Z "com/example/elapse/elapse/load/PurgatoryResult" "lateness" "Lcom/example/elapse/elapse/load/Lateness$Summary;" ≠ Jvm.RoadKit.slotOf Z "com/example/elapse/elapse/load/PurgatoryResult" "rate" "J" := slot_ne (C := "com/example/elapse/elapse/load/PurgatoryResult") (a0 := a0) (Or.inr (ow47 hw)) (Or.inr (ow33 hw)) (by decide) pf_Lcom_example_elapse_elapse_load_Lateness_Summary_ pf_J
theorem sne_31_33 {a0 : Array Value} {Z : State} (hw : ∀ d ∈ tables_1, d.before a0 Z = true) : Jvm.RoadKit.slotOf Z "com/example/elapse/elapse/load/PurgatoryResult" "timer" "Lcom/example/elapse/elapse/load/Contender;" ≠ Jvm.RoadKit.slotOf Z "com/example/elapse/elapse/load/PurgatoryResult" "rate" "J" := slot_ne (C := "com/example/elapse/elapse/load/PurgatoryResult") (a0 := a0) (Or.inr (ow31 hw)) (Or.inr (ow33 hw)) (by decide) pf_Lcom_example_elapse_elapse_load_Contender_ pf_J
theorem od4_14 : decode prog_50_method_1_code 14 = .ok (.aload_n 0, 1) := by decide +kernel
theorem od4_15 : decode prog_50_method_1_code 15 = .ok (.lload 4, 2) := by decide +kernel
theorem ow34 {a0 : Array Value} {Z : State} (hw : ∀ d ∈ tables_1, d.before a0 Z = true) : (Jvm.Cond.fieldLink "com/example/elapse/elapse/load/PurgatoryResult" (17 : Nat) "com/example/elapse/elapse/load/PurgatoryResult" "seconds" "J").before a0 Z = true := hw _ (List.mem_of_getElem? (i := 34) rfl)
theorem od4_17 : decode prog_50_method_1_code 17 = .ok (.putfield 17, 3) := by decide +kernel
theorem sne_37_35 {a0 : Array Value} {Z : State} (hw : ∀ d ∈ tables_1, d.before a0 Z = true) : Jvm.RoadKit.slotOf Z "com/example/elapse/elapse/load/PurgatoryResult" "producers" "I" ≠ Jvm.RoadKit.slotOf Z "com/example/elapse/elapse/load/PurgatoryResult" "seconds" "J" := slot_ne (C := "com/example/elapse/elapse/load/PurgatoryResult") (a0 := a0) (Or.inr (ow37 hw)) (Or.inr (ow35 hw)) (by decide) pf_I pf_J
theorem sne_39_35 {a0 : Array Value} {Z : State} (hw : ∀ d ∈ tables_1, d.before a0 Z = true) : Jvm.RoadKit.slotOf Z "com/example/elapse/elapse/load/PurgatoryResult" "requests" "J" ≠ Jvm.RoadKit.slotOf Z "com/example/elapse/elapse/load/PurgatoryResult" "seconds" "J" := slot_ne (C := "com/example/elapse/elapse/load/PurgatoryResult") (a0 := a0) (Or.inr (ow39 hw)) (Or.inr (ow35 hw)) (by decide) pf_J pf_J
theorem sne_41_35 {a0 : Array Value} {Z : State} (hw : ∀ d ∈ tables_1, d.before a0 Z = true) : Jvm.RoadKit.slotOf Z "com/example/elapse/elapse/load/PurgatoryResult" "achievedRate" "J" ≠ Jvm.RoadKit.slotOf Z "com/example/elapse/elapse/load/PurgatoryResult" "seconds" "J" := slot_ne (C := "com/example/elapse/elapse/load/PurgatoryResult") (a0 := a0) (Or.inr (ow41 hw)) (Or.inr (ow35 hw)) (by decide) pf_J pf_J
theorem sne_43_35 {a0 : Array Value} {Z : State} (hw : ∀ d ∈ tables_1, d.before a0 Z = true) : Jvm.RoadKit.slotOf Z "com/example/elapse/elapse/load/PurgatoryResult" "cancelled" "J" ≠ Jvm.RoadKit.slotOf Z "com/example/elapse/elapse/load/PurgatoryResult" "seconds" "J" := slot_ne (C := "com/example/elapse/elapse/load/PurgatoryResult") (a0 := a0) (Or.inr (ow43 hw)) (Or.inr (ow35 hw)) (by decide) pf_J pf_J
theorem sne_45_35 {a0 : Array Value} {Z : State} (hw : ∀ d ∈ tables_1, d.before a0 Z = true) : Jvm.RoadKit.slotOf Z "com/example/elapse/elapse/load/PurgatoryResult" "fired" "J" ≠ Jvm.RoadKit.slotOf Z "com/example/elapse/elapse/load/PurgatoryResult" "seconds" "J" := slot_ne (C := "com/example/elapse/elapse/load/PurgatoryResult") (a0 := a0) (Or.inr (ow45 hw)) (Or.inr (ow35 hw)) (by decide) pf_J pf_J
theorem sne_47_35 {a0 : Array Value} {Z : State} (hw : ∀ d ∈ tables_1, d.before a0 Z = true) : Jvm.RoadKit.slotOf Z "com/example/elapse/elapse/load/PurgatoryResult" "lateness" "Lcom/example/elapse/elapse/load/Lateness$Summary;" ≠ Jvm.RoadKit.slotOf Z "com/example/elapse/elapse/load/PurgatoryResult" "seconds" "J" := slot_ne (C := "com/example/elapse/elapse/load/PurgatoryResult") (a0 := a0) (Or.inr (ow47 hw)) (Or.inr (ow35 hw)) (by decide) pf_Lcom_example_elapse_elapse_load_Lateness_Summary_ pf_J
theorem sne_31_35 {a0 : Array Value} {Z : State} (hw : ∀ d ∈ tables_1, d.before a0 Z = true) : Jvm.RoadKit.slotOf Z "com/example/elapse/elapse/load/PurgatoryResult" "timer" "Lcom/example/elapse/elapse/load/Contender;" ≠ Jvm.RoadKit.slotOf Z "com/example/elapse/elapse/load/PurgatoryResult" "seconds" "J" := slot_ne (C := "com/example/elapse/elapse/load/PurgatoryResult") (a0 := a0) (Or.inr (ow31 hw)) (Or.inr (ow35 hw)) (by decide) pf_Lcom_example_elapse_elapse_load_Contender_ pf_J
theorem sne_33_35 {a0 : Array Value} {Z : State} (hw : ∀ d ∈ tables_1, d.before a0 Z = true) : Jvm.RoadKit.slotOf Z "com/example/elapse/elapse/load/PurgatoryResult" "rate" "J" ≠ Jvm.RoadKit.slotOf Z "com/example/elapse/elapse/load/PurgatoryResult" "seconds" "J" := slot_ne (C := "com/example/elapse/elapse/load/PurgatoryResult") (a0 := a0) (Or.inr (ow33 hw)) (Or.inr (ow35 hw)) (by decide) pf_J pf_J
theorem od4_20 : decode prog_50_method_1_code 20 = .ok (.aload_n 0, 1) := by decide +kernel
theorem od4_21 : decode prog_50_method_1_code 21 = .ok (.iload 6, 2) := by decide +kernel
theorem ow36 {a0 : Array Value} {Z : State} (hw : ∀ d ∈ tables_1, d.before a0 Z = true) : (Jvm.Cond.fieldLink "com/example/elapse/elapse/load/PurgatoryResult" (20 : Nat) "com/example/elapse/elapse/load/PurgatoryResult" "producers" "I").before a0 Z = true := hw _ (List.mem_of_getElem? (i := 36) rfl)
theorem od4_23 : decode prog_50_method_1_code 23 = .ok (.putfield 20, 3) := by decide +kernel
theorem sne_39_37 {a0 : Array Value} {Z : State} (hw : ∀ d ∈ tables_1, d.before a0 Z = true) : Jvm.RoadKit.slotOf Z "com/example/elapse/elapse/load/PurgatoryResult" "requests" "J" ≠ Jvm.RoadKit.slotOf Z "com/example/elapse/elapse/load/PurgatoryResult" "producers" "I" := slot_ne (C := "com/example/elapse/elapse/load/PurgatoryResult") (a0 := a0) (Or.inr (ow39 hw)) (Or.inr (ow37 hw)) (by decide) pf_J pf_I
theorem sne_41_37 {a0 : Array Value} {Z : State} (hw : ∀ d ∈ tables_1, d.before a0 Z = true) : Jvm.RoadKit.slotOf Z "com/example/elapse/elapse/load/PurgatoryResult" "achievedRate" "J" ≠ Jvm.RoadKit.slotOf Z "com/example/elapse/elapse/load/PurgatoryResult" "producers" "I" := slot_ne (C := "com/example/elapse/elapse/load/PurgatoryResult") (a0 := a0) (Or.inr (ow41 hw)) (Or.inr (ow37 hw)) (by decide) pf_J pf_I
theorem sne_43_37 {a0 : Array Value} {Z : State} (hw : ∀ d ∈ tables_1, d.before a0 Z = true) : Jvm.RoadKit.slotOf Z "com/example/elapse/elapse/load/PurgatoryResult" "cancelled" "J" ≠ Jvm.RoadKit.slotOf Z "com/example/elapse/elapse/load/PurgatoryResult" "producers" "I" := slot_ne (C := "com/example/elapse/elapse/load/PurgatoryResult") (a0 := a0) (Or.inr (ow43 hw)) (Or.inr (ow37 hw)) (by decide) pf_J pf_I
theorem sne_45_37 {a0 : Array Value} {Z : State} (hw : ∀ d ∈ tables_1, d.before a0 Z = true) : Jvm.RoadKit.slotOf Z "com/example/elapse/elapse/load/PurgatoryResult" "fired" "J" ≠ Jvm.RoadKit.slotOf Z "com/example/elapse/elapse/load/PurgatoryResult" "producers" "I" := slot_ne (C := "com/example/elapse/elapse/load/PurgatoryResult") (a0 := a0) (Or.inr (ow45 hw)) (Or.inr (ow37 hw)) (by decide) pf_J pf_I
theorem sne_47_37 {a0 : Array Value} {Z : State} (hw : ∀ d ∈ tables_1, d.before a0 Z = true) : Jvm.RoadKit.slotOf Z "com/example/elapse/elapse/load/PurgatoryResult" "lateness" "Lcom/example/elapse/elapse/load/Lateness$Summary;" ≠ Jvm.RoadKit.slotOf Z "com/example/elapse/elapse/load/PurgatoryResult" "producers" "I" := slot_ne (C := "com/example/elapse/elapse/load/PurgatoryResult") (a0 := a0) (Or.inr (ow47 hw)) (Or.inr (ow37 hw)) (by decide) pf_Lcom_example_elapse_elapse_load_Lateness_Summary_ pf_I
theorem sne_31_37 {a0 : Array Value} {Z : State} (hw : ∀ d ∈ tables_1, d.before a0 Z = true) : Jvm.RoadKit.slotOf Z "com/example/elapse/elapse/load/PurgatoryResult" "timer" "Lcom/example/elapse/elapse/load/Contender;" ≠ Jvm.RoadKit.slotOf Z "com/example/elapse/elapse/load/PurgatoryResult" "producers" "I" := slot_ne (C := "com/example/elapse/elapse/load/PurgatoryResult") (a0 := a0) (Or.inr (ow31 hw)) (Or.inr (ow37 hw)) (by decide) pf_Lcom_example_elapse_elapse_load_Contender_ pf_I
theorem sne_33_37 {a0 : Array Value} {Z : State} (hw : ∀ d ∈ tables_1, d.before a0 Z = true) : Jvm.RoadKit.slotOf Z "com/example/elapse/elapse/load/PurgatoryResult" "rate" "J" ≠ Jvm.RoadKit.slotOf Z "com/example/elapse/elapse/load/PurgatoryResult" "producers" "I" := slot_ne (C := "com/example/elapse/elapse/load/PurgatoryResult") (a0 := a0) (Or.inr (ow33 hw)) (Or.inr (ow37 hw)) (by decide) pf_J pf_I
theorem sne_35_37 {a0 : Array Value} {Z : State} (hw : ∀ d ∈ tables_1, d.before a0 Z = true) : Jvm.RoadKit.slotOf Z "com/example/elapse/elapse/load/PurgatoryResult" "seconds" "J" ≠ Jvm.RoadKit.slotOf Z "com/example/elapse/elapse/load/PurgatoryResult" "producers" "I" := slot_ne (C := "com/example/elapse/elapse/load/PurgatoryResult") (a0 := a0) (Or.inr (ow35 hw)) (Or.inr (ow37 hw)) (by decide) pf_J pf_I
theorem od4_26 : decode prog_50_method_1_code 26 = .ok (.aload_n 0, 1) := by decide +kernel
theorem od4_27 : decode prog_50_method_1_code 27 = .ok (.lload 7, 2) := by decide +kernel
theorem ow38 {a0 : Array Value} {Z : State} (hw : ∀ d ∈ tables_1, d.before a0 Z = true) : (Jvm.Cond.fieldLink "com/example/elapse/elapse/load/PurgatoryResult" (24 : Nat) "com/example/elapse/elapse/load/PurgatoryResult" "requests" "J").before a0 Z = true := hw _ (List.mem_of_getElem? (i := 38) rfl)
theorem od4_29 : decode prog_50_method_1_code 29 = .ok (.putfield 24, 3) := by decide +kernel
theorem sne_41_39 {a0 : Array Value} {Z : State} (hw : ∀ d ∈ tables_1, d.before a0 Z = true) : Jvm.RoadKit.slotOf Z "com/example/elapse/elapse/load/PurgatoryResult" "achievedRate" "J" ≠ Jvm.RoadKit.slotOf Z "com/example/elapse/elapse/load/PurgatoryResult" "requests" "J" := slot_ne (C := "com/example/elapse/elapse/load/PurgatoryResult") (a0 := a0) (Or.inr (ow41 hw)) (Or.inr (ow39 hw)) (by decide) pf_J pf_J
theorem sne_43_39 {a0 : Array Value} {Z : State} (hw : ∀ d ∈ tables_1, d.before a0 Z = true) : Jvm.RoadKit.slotOf Z "com/example/elapse/elapse/load/PurgatoryResult" "cancelled" "J" ≠ Jvm.RoadKit.slotOf Z "com/example/elapse/elapse/load/PurgatoryResult" "requests" "J" := slot_ne (C := "com/example/elapse/elapse/load/PurgatoryResult") (a0 := a0) (Or.inr (ow43 hw)) (Or.inr (ow39 hw)) (by decide) pf_J pf_J
theorem sne_45_39 {a0 : Array Value} {Z : State} (hw : ∀ d ∈ tables_1, d.before a0 Z = true) : Jvm.RoadKit.slotOf Z "com/example/elapse/elapse/load/PurgatoryResult" "fired" "J" ≠ Jvm.RoadKit.slotOf Z "com/example/elapse/elapse/load/PurgatoryResult" "requests" "J" := slot_ne (C := "com/example/elapse/elapse/load/PurgatoryResult") (a0 := a0) (Or.inr (ow45 hw)) (Or.inr (ow39 hw)) (by decide) pf_J pf_J
theorem sne_47_39 {a0 : Array Value} {Z : State} (hw : ∀ d ∈ tables_1, d.before a0 Z = true) : Jvm.RoadKit.slotOf Z "com/example/elapse/elapse/load/PurgatoryResult" "lateness" "Lcom/example/elapse/elapse/load/Lateness$Summary;" ≠ Jvm.RoadKit.slotOf Z "com/example/elapse/elapse/load/PurgatoryResult" "requests" "J" := slot_ne (C := "com/example/elapse/elapse/load/PurgatoryResult") (a0 := a0) (Or.inr (ow47 hw)) (Or.inr (ow39 hw)) (by decide) pf_Lcom_example_elapse_elapse_load_Lateness_Summary_ pf_J
theorem sne_31_39 {a0 : Array Value} {Z : State} (hw : ∀ d ∈ tables_1, d.before a0 Z = true) : Jvm.RoadKit.slotOf Z "com/example/elapse/elapse/load/PurgatoryResult" "timer" "Lcom/example/elapse/elapse/load/Contender;" ≠ Jvm.RoadKit.slotOf Z "com/example/elapse/elapse/load/PurgatoryResult" "requests" "J" := slot_ne (C := "com/example/elapse/elapse/load/PurgatoryResult") (a0 := a0) (Or.inr (ow31 hw)) (Or.inr (ow39 hw)) (by decide) pf_Lcom_example_elapse_elapse_load_Contender_ pf_J
theorem sne_33_39 {a0 : Array Value} {Z : State} (hw : ∀ d ∈ tables_1, d.before a0 Z = true) : Jvm.RoadKit.slotOf Z "com/example/elapse/elapse/load/PurgatoryResult" "rate" "J" ≠ Jvm.RoadKit.slotOf Z "com/example/elapse/elapse/load/PurgatoryResult" "requests" "J" := slot_ne (C := "com/example/elapse/elapse/load/PurgatoryResult") (a0 := a0) (Or.inr (ow33 hw)) (Or.inr (ow39 hw)) (by decide) pf_J pf_J
theorem sne_35_39 {a0 : Array Value} {Z : State} (hw : ∀ d ∈ tables_1, d.before a0 Z = true) : Jvm.RoadKit.slotOf Z "com/example/elapse/elapse/load/PurgatoryResult" "seconds" "J" ≠ Jvm.RoadKit.slotOf Z "com/example/elapse/elapse/load/PurgatoryResult" "requests" "J" := slot_ne (C := "com/example/elapse/elapse/load/PurgatoryResult") (a0 := a0) (Or.inr (ow35 hw)) (Or.inr (ow39 hw)) (by decide) pf_J pf_J
theorem sne_37_39 {a0 : Array Value} {Z : State} (hw : ∀ d ∈ tables_1, d.before a0 Z = true) : Jvm.RoadKit.slotOf Z "com/example/elapse/elapse/load/PurgatoryResult" "producers" "I" ≠ Jvm.RoadKit.slotOf Z "com/example/elapse/elapse/load/PurgatoryResult" "requests" "J" := slot_ne (C := "com/example/elapse/elapse/load/PurgatoryResult") (a0 := a0) (Or.inr (ow37 hw)) (Or.inr (ow39 hw)) (by decide) pf_I pf_J
theorem od4_32 : decode prog_50_method_1_code 32 = .ok (.aload_n 0, 1) := by decide +kernel
theorem od4_33 : decode prog_50_method_1_code 33 = .ok (.lload 9, 2) := by decide +kernel
theorem ow40 {a0 : Array Value} {Z : State} (hw : ∀ d ∈ tables_1, d.before a0 Z = true) : (Jvm.Cond.fieldLink "com/example/elapse/elapse/load/PurgatoryResult" (27 : Nat) "com/example/elapse/elapse/load/PurgatoryResult" "achievedRate" "J").before a0 Z = true := hw _ (List.mem_of_getElem? (i := 40) rfl)
theorem od4_35 : decode prog_50_method_1_code 35 = .ok (.putfield 27, 3) := by decide +kernel
theorem sne_43_41 {a0 : Array Value} {Z : State} (hw : ∀ d ∈ tables_1, d.before a0 Z = true) : Jvm.RoadKit.slotOf Z "com/example/elapse/elapse/load/PurgatoryResult" "cancelled" "J" ≠ Jvm.RoadKit.slotOf Z "com/example/elapse/elapse/load/PurgatoryResult" "achievedRate" "J" := slot_ne (C := "com/example/elapse/elapse/load/PurgatoryResult") (a0 := a0) (Or.inr (ow43 hw)) (Or.inr (ow41 hw)) (by decide) pf_J pf_J
theorem sne_45_41 {a0 : Array Value} {Z : State} (hw : ∀ d ∈ tables_1, d.before a0 Z = true) : Jvm.RoadKit.slotOf Z "com/example/elapse/elapse/load/PurgatoryResult" "fired" "J" ≠ Jvm.RoadKit.slotOf Z "com/example/elapse/elapse/load/PurgatoryResult" "achievedRate" "J" := slot_ne (C := "com/example/elapse/elapse/load/PurgatoryResult") (a0 := a0) (Or.inr (ow45 hw)) (Or.inr (ow41 hw)) (by decide) pf_J pf_J
theorem sne_47_41 {a0 : Array Value} {Z : State} (hw : ∀ d ∈ tables_1, d.before a0 Z = true) : Jvm.RoadKit.slotOf Z "com/example/elapse/elapse/load/PurgatoryResult" "lateness" "Lcom/example/elapse/elapse/load/Lateness$Summary;" ≠ Jvm.RoadKit.slotOf Z "com/example/elapse/elapse/load/PurgatoryResult" "achievedRate" "J" := slot_ne (C := "com/example/elapse/elapse/load/PurgatoryResult") (a0 := a0) (Or.inr (ow47 hw)) (Or.inr (ow41 hw)) (by decide) pf_Lcom_example_elapse_elapse_load_Lateness_Summary_ pf_J
theorem sne_31_41 {a0 : Array Value} {Z : State} (hw : ∀ d ∈ tables_1, d.before a0 Z = true) : Jvm.RoadKit.slotOf Z "com/example/elapse/elapse/load/PurgatoryResult" "timer" "Lcom/example/elapse/elapse/load/Contender;" ≠ Jvm.RoadKit.slotOf Z "com/example/elapse/elapse/load/PurgatoryResult" "achievedRate" "J" := slot_ne (C := "com/example/elapse/elapse/load/PurgatoryResult") (a0 := a0) (Or.inr (ow31 hw)) (Or.inr (ow41 hw)) (by decide) pf_Lcom_example_elapse_elapse_load_Contender_ pf_J
theorem sne_33_41 {a0 : Array Value} {Z : State} (hw : ∀ d ∈ tables_1, d.before a0 Z = true) : Jvm.RoadKit.slotOf Z "com/example/elapse/elapse/load/PurgatoryResult" "rate" "J" ≠ Jvm.RoadKit.slotOf Z "com/example/elapse/elapse/load/PurgatoryResult" "achievedRate" "J" := slot_ne (C := "com/example/elapse/elapse/load/PurgatoryResult") (a0 := a0) (Or.inr (ow33 hw)) (Or.inr (ow41 hw)) (by decide) pf_J pf_J
theorem sne_35_41 {a0 : Array Value} {Z : State} (hw : ∀ d ∈ tables_1, d.before a0 Z = true) : Jvm.RoadKit.slotOf Z "com/example/elapse/elapse/load/PurgatoryResult" "seconds" "J" ≠ Jvm.RoadKit.slotOf Z "com/example/elapse/elapse/load/PurgatoryResult" "achievedRate" "J" := slot_ne (C := "com/example/elapse/elapse/load/PurgatoryResult") (a0 := a0) (Or.inr (ow35 hw)) (Or.inr (ow41 hw)) (by decide) pf_J pf_J
theorem sne_37_41 {a0 : Array Value} {Z : State} (hw : ∀ d ∈ tables_1, d.before a0 Z = true) : Jvm.RoadKit.slotOf Z "com/example/elapse/elapse/load/PurgatoryResult" "producers" "I" ≠ Jvm.RoadKit.slotOf Z "com/example/elapse/elapse/load/PurgatoryResult" "achievedRate" "J" := slot_ne (C := "com/example/elapse/elapse/load/PurgatoryResult") (a0 := a0) (Or.inr (ow37 hw)) (Or.inr (ow41 hw)) (by decide) pf_I pf_J
theorem sne_39_41 {a0 : Array Value} {Z : State} (hw : ∀ d ∈ tables_1, d.before a0 Z = true) : Jvm.RoadKit.slotOf Z "com/example/elapse/elapse/load/PurgatoryResult" "requests" "J" ≠ Jvm.RoadKit.slotOf Z "com/example/elapse/elapse/load/PurgatoryResult" "achievedRate" "J" := slot_ne (C := "com/example/elapse/elapse/load/PurgatoryResult") (a0 := a0) (Or.inr (ow39 hw)) (Or.inr (ow41 hw)) (by decide) pf_J pf_J
theorem od4_38 : decode prog_50_method_1_code 38 = .ok (.aload_n 0, 1) := by decide +kernel
theorem od4_39 : decode prog_50_method_1_code 39 = .ok (.lload 11, 2) := by decide +kernel
theorem ow42 {a0 : Array Value} {Z : State} (hw : ∀ d ∈ tables_1, d.before a0 Z = true) : (Jvm.Cond.fieldLink "com/example/elapse/elapse/load/PurgatoryResult" (30 : Nat) "com/example/elapse/elapse/load/PurgatoryResult" "cancelled" "J").before a0 Z = true := hw _ (List.mem_of_getElem? (i := 42) rfl)
theorem od4_41 : decode prog_50_method_1_code 41 = .ok (.putfield 30, 3) := by decide +kernel
theorem sne_45_43 {a0 : Array Value} {Z : State} (hw : ∀ d ∈ tables_1, d.before a0 Z = true) : Jvm.RoadKit.slotOf Z "com/example/elapse/elapse/load/PurgatoryResult" "fired" "J" ≠ Jvm.RoadKit.slotOf Z "com/example/elapse/elapse/load/PurgatoryResult" "cancelled" "J" := slot_ne (C := "com/example/elapse/elapse/load/PurgatoryResult") (a0 := a0) (Or.inr (ow45 hw)) (Or.inr (ow43 hw)) (by decide) pf_J pf_J
theorem sne_47_43 {a0 : Array Value} {Z : State} (hw : ∀ d ∈ tables_1, d.before a0 Z = true) : Jvm.RoadKit.slotOf Z "com/example/elapse/elapse/load/PurgatoryResult" "lateness" "Lcom/example/elapse/elapse/load/Lateness$Summary;" ≠ Jvm.RoadKit.slotOf Z "com/example/elapse/elapse/load/PurgatoryResult" "cancelled" "J" := slot_ne (C := "com/example/elapse/elapse/load/PurgatoryResult") (a0 := a0) (Or.inr (ow47 hw)) (Or.inr (ow43 hw)) (by decide) pf_Lcom_example_elapse_elapse_load_Lateness_Summary_ pf_J
theorem sne_31_43 {a0 : Array Value} {Z : State} (hw : ∀ d ∈ tables_1, d.before a0 Z = true) : Jvm.RoadKit.slotOf Z "com/example/elapse/elapse/load/PurgatoryResult" "timer" "Lcom/example/elapse/elapse/load/Contender;" ≠ Jvm.RoadKit.slotOf Z "com/example/elapse/elapse/load/PurgatoryResult" "cancelled" "J" := slot_ne (C := "com/example/elapse/elapse/load/PurgatoryResult") (a0 := a0) (Or.inr (ow31 hw)) (Or.inr (ow43 hw)) (by decide) pf_Lcom_example_elapse_elapse_load_Contender_ pf_J
theorem sne_33_43 {a0 : Array Value} {Z : State} (hw : ∀ d ∈ tables_1, d.before a0 Z = true) : Jvm.RoadKit.slotOf Z "com/example/elapse/elapse/load/PurgatoryResult" "rate" "J" ≠ Jvm.RoadKit.slotOf Z "com/example/elapse/elapse/load/PurgatoryResult" "cancelled" "J" := slot_ne (C := "com/example/elapse/elapse/load/PurgatoryResult") (a0 := a0) (Or.inr (ow33 hw)) (Or.inr (ow43 hw)) (by decide) pf_J pf_J
theorem sne_35_43 {a0 : Array Value} {Z : State} (hw : ∀ d ∈ tables_1, d.before a0 Z = true) : Jvm.RoadKit.slotOf Z "com/example/elapse/elapse/load/PurgatoryResult" "seconds" "J" ≠ Jvm.RoadKit.slotOf Z "com/example/elapse/elapse/load/PurgatoryResult" "cancelled" "J" := slot_ne (C := "com/example/elapse/elapse/load/PurgatoryResult") (a0 := a0) (Or.inr (ow35 hw)) (Or.inr (ow43 hw)) (by decide) pf_J pf_J
theorem sne_37_43 {a0 : Array Value} {Z : State} (hw : ∀ d ∈ tables_1, d.before a0 Z = true) : Jvm.RoadKit.slotOf Z "com/example/elapse/elapse/load/PurgatoryResult" "producers" "I" ≠ Jvm.RoadKit.slotOf Z "com/example/elapse/elapse/load/PurgatoryResult" "cancelled" "J" := slot_ne (C := "com/example/elapse/elapse/load/PurgatoryResult") (a0 := a0) (Or.inr (ow37 hw)) (Or.inr (ow43 hw)) (by decide) pf_I pf_J
theorem sne_39_43 {a0 : Array Value} {Z : State} (hw : ∀ d ∈ tables_1, d.before a0 Z = true) : Jvm.RoadKit.slotOf Z "com/example/elapse/elapse/load/PurgatoryResult" "requests" "J" ≠ Jvm.RoadKit.slotOf Z "com/example/elapse/elapse/load/PurgatoryResult" "cancelled" "J" := slot_ne (C := "com/example/elapse/elapse/load/PurgatoryResult") (a0 := a0) (Or.inr (ow39 hw)) (Or.inr (ow43 hw)) (by decide) pf_J pf_J
theorem sne_41_43 {a0 : Array Value} {Z : State} (hw : ∀ d ∈ tables_1, d.before a0 Z = true) : Jvm.RoadKit.slotOf Z "com/example/elapse/elapse/load/PurgatoryResult" "achievedRate" "J" ≠ Jvm.RoadKit.slotOf Z "com/example/elapse/elapse/load/PurgatoryResult" "cancelled" "J" := slot_ne (C := "com/example/elapse/elapse/load/PurgatoryResult") (a0 := a0) (Or.inr (ow41 hw)) (Or.inr (ow43 hw)) (by decide) pf_J pf_J
theorem od4_44 : decode prog_50_method_1_code 44 = .ok (.aload_n 0, 1) := by decide +kernel
theorem od4_45 : decode prog_50_method_1_code 45 = .ok (.lload 13, 2) := by decide +kernel
theorem ow44 {a0 : Array Value} {Z : State} (hw : ∀ d ∈ tables_1, d.before a0 Z = true) : (Jvm.Cond.fieldLink "com/example/elapse/elapse/load/PurgatoryResult" (33 : Nat) "com/example/elapse/elapse/load/PurgatoryResult" "fired" "J").before a0 Z = true := hw _ (List.mem_of_getElem? (i := 44) rfl)
theorem od4_47 : decode prog_50_method_1_code 47 = .ok (.putfield 33, 3) := by decide +kernel
theorem sne_47_45 {a0 : Array Value} {Z : State} (hw : ∀ d ∈ tables_1, d.before a0 Z = true) : Jvm.RoadKit.slotOf Z "com/example/elapse/elapse/load/PurgatoryResult" "lateness" "Lcom/example/elapse/elapse/load/Lateness$Summary;" ≠ Jvm.RoadKit.slotOf Z "com/example/elapse/elapse/load/PurgatoryResult" "fired" "J" := slot_ne (C := "com/example/elapse/elapse/load/PurgatoryResult") (a0 := a0) (Or.inr (ow47 hw)) (Or.inr (ow45 hw)) (by decide) pf_Lcom_example_elapse_elapse_load_Lateness_Summary_ pf_J
theorem sne_31_45 {a0 : Array Value} {Z : State} (hw : ∀ d ∈ tables_1, d.before a0 Z = true) : Jvm.RoadKit.slotOf Z "com/example/elapse/elapse/load/PurgatoryResult" "timer" "Lcom/example/elapse/elapse/load/Contender;" ≠ Jvm.RoadKit.slotOf Z "com/example/elapse/elapse/load/PurgatoryResult" "fired" "J" := slot_ne (C := "com/example/elapse/elapse/load/PurgatoryResult") (a0 := a0) (Or.inr (ow31 hw)) (Or.inr (ow45 hw)) (by decide) pf_Lcom_example_elapse_elapse_load_Contender_ pf_J
theorem sne_33_45 {a0 : Array Value} {Z : State} (hw : ∀ d ∈ tables_1, d.before a0 Z = true) : Jvm.RoadKit.slotOf Z "com/example/elapse/elapse/load/PurgatoryResult" "rate" "J" ≠ Jvm.RoadKit.slotOf Z "com/example/elapse/elapse/load/PurgatoryResult" "fired" "J" := slot_ne (C := "com/example/elapse/elapse/load/PurgatoryResult") (a0 := a0) (Or.inr (ow33 hw)) (Or.inr (ow45 hw)) (by decide) pf_J pf_J
theorem sne_35_45 {a0 : Array Value} {Z : State} (hw : ∀ d ∈ tables_1, d.before a0 Z = true) : Jvm.RoadKit.slotOf Z "com/example/elapse/elapse/load/PurgatoryResult" "seconds" "J" ≠ Jvm.RoadKit.slotOf Z "com/example/elapse/elapse/load/PurgatoryResult" "fired" "J" := slot_ne (C := "com/example/elapse/elapse/load/PurgatoryResult") (a0 := a0) (Or.inr (ow35 hw)) (Or.inr (ow45 hw)) (by decide) pf_J pf_J
theorem sne_37_45 {a0 : Array Value} {Z : State} (hw : ∀ d ∈ tables_1, d.before a0 Z = true) : Jvm.RoadKit.slotOf Z "com/example/elapse/elapse/load/PurgatoryResult" "producers" "I" ≠ Jvm.RoadKit.slotOf Z "com/example/elapse/elapse/load/PurgatoryResult" "fired" "J" := slot_ne (C := "com/example/elapse/elapse/load/PurgatoryResult") (a0 := a0) (Or.inr (ow37 hw)) (Or.inr (ow45 hw)) (by decide) pf_I pf_J
theorem sne_39_45 {a0 : Array Value} {Z : State} (hw : ∀ d ∈ tables_1, d.before a0 Z = true) : Jvm.RoadKit.slotOf Z "com/example/elapse/elapse/load/PurgatoryResult" "requests" "J" ≠ Jvm.RoadKit.slotOf Z "com/example/elapse/elapse/load/PurgatoryResult" "fired" "J" := slot_ne (C := "com/example/elapse/elapse/load/PurgatoryResult") (a0 := a0) (Or.inr (ow39 hw)) (Or.inr (ow45 hw)) (by decide) pf_J pf_J
theorem sne_41_45 {a0 : Array Value} {Z : State} (hw : ∀ d ∈ tables_1, d.before a0 Z = true) : Jvm.RoadKit.slotOf Z "com/example/elapse/elapse/load/PurgatoryResult" "achievedRate" "J" ≠ Jvm.RoadKit.slotOf Z "com/example/elapse/elapse/load/PurgatoryResult" "fired" "J" := slot_ne (C := "com/example/elapse/elapse/load/PurgatoryResult") (a0 := a0) (Or.inr (ow41 hw)) (Or.inr (ow45 hw)) (by decide) pf_J pf_J
theorem sne_43_45 {a0 : Array Value} {Z : State} (hw : ∀ d ∈ tables_1, d.before a0 Z = true) : Jvm.RoadKit.slotOf Z "com/example/elapse/elapse/load/PurgatoryResult" "cancelled" "J" ≠ Jvm.RoadKit.slotOf Z "com/example/elapse/elapse/load/PurgatoryResult" "fired" "J" := slot_ne (C := "com/example/elapse/elapse/load/PurgatoryResult") (a0 := a0) (Or.inr (ow43 hw)) (Or.inr (ow45 hw)) (by decide) pf_J pf_J
theorem od4_50 : decode prog_50_method_1_code 50 = .ok (.aload_n 0, 1) := by decide +kernel
theorem od4_51 : decode prog_50_method_1_code 51 = .ok (.aload 15, 2) := by decide +kernel
theorem ow46 {a0 : Array Value} {Z : State} (hw : ∀ d ∈ tables_1, d.before a0 Z = true) : (Jvm.Cond.fieldLink "com/example/elapse/elapse/load/PurgatoryResult" (36 : Nat) "com/example/elapse/elapse/load/PurgatoryResult" "lateness" "Lcom/example/elapse/elapse/load/Lateness$Summary;").before a0 Z = true := hw _ (List.mem_of_getElem? (i := 46) rfl)
theorem od4_53 : decode prog_50_method_1_code 53 = .ok (.putfield 36, 3) := by decide +kernel
theorem sne_31_47 {a0 : Array Value} {Z : State} (hw : ∀ d ∈ tables_1, d.before a0 Z = true) : Jvm.RoadKit.slotOf Z "com/example/elapse/elapse/load/PurgatoryResult" "timer" "Lcom/example/elapse/elapse/load/Contender;" ≠ Jvm.RoadKit.slotOf Z "com/example/elapse/elapse/load/PurgatoryResult" "lateness" "Lcom/example/elapse/elapse/load/Lateness$Summary;" := slot_ne (C := "com/example/elapse/elapse/load/PurgatoryResult") (a0 := a0) (Or.inr (ow31 hw)) (Or.inr (ow47 hw)) (by decide) pf_Lcom_example_elapse_elapse_load_Contender_ pf_Lcom_example_elapse_elapse_load_Lateness_Summary_
theorem sne_33_47 {a0 : Array Value} {Z : State} (hw : ∀ d ∈ tables_1, d.before a0 Z = true) : Jvm.RoadKit.slotOf Z "com/example/elapse/elapse/load/PurgatoryResult" "rate" "J" ≠ Jvm.RoadKit.slotOf Z "com/example/elapse/elapse/load/PurgatoryResult" "lateness" "Lcom/example/elapse/elapse/load/Lateness$Summary;" := slot_ne (C := "com/example/elapse/elapse/load/PurgatoryResult") (a0 := a0) (Or.inr (ow33 hw)) (Or.inr (ow47 hw)) (by decide) pf_J pf_Lcom_example_elapse_elapse_load_Lateness_Summary_
theorem sne_35_47 {a0 : Array Value} {Z : State} (hw : ∀ d ∈ tables_1, d.before a0 Z = true) : Jvm.RoadKit.slotOf Z "com/example/elapse/elapse/load/PurgatoryResult" "seconds" "J" ≠ Jvm.RoadKit.slotOf Z "com/example/elapse/elapse/load/PurgatoryResult" "lateness" "Lcom/example/elapse/elapse/load/Lateness$Summary;" := slot_ne (C := "com/example/elapse/elapse/load/PurgatoryResult") (a0 := a0) (Or.inr (ow35 hw)) (Or.inr (ow47 hw)) (by decide) pf_J pf_Lcom_example_elapse_elapse_load_Lateness_Summary_
theorem sne_37_47 {a0 : Array Value} {Z : State} (hw : ∀ d ∈ tables_1, d.before a0 Z = true) : Jvm.RoadKit.slotOf Z "com/example/elapse/elapse/load/PurgatoryResult" "producers" "I" ≠ Jvm.RoadKit.slotOf Z "com/example/elapse/elapse/load/PurgatoryResult" "lateness" "Lcom/example/elapse/elapse/load/Lateness$Summary;" := slot_ne (C := "com/example/elapse/elapse/load/PurgatoryResult") (a0 := a0) (Or.inr (ow37 hw)) (Or.inr (ow47 hw)) (by decide) pf_I pf_Lcom_example_elapse_elapse_load_Lateness_Summary_
theorem sne_39_47 {a0 : Array Value} {Z : State} (hw : ∀ d ∈ tables_1, d.before a0 Z = true) : Jvm.RoadKit.slotOf Z "com/example/elapse/elapse/load/PurgatoryResult" "requests" "J" ≠ Jvm.RoadKit.slotOf Z "com/example/elapse/elapse/load/PurgatoryResult" "lateness" "Lcom/example/elapse/elapse/load/Lateness$Summary;" := slot_ne (C := "com/example/elapse/elapse/load/PurgatoryResult") (a0 := a0) (Or.inr (ow39 hw)) (Or.inr (ow47 hw)) (by decide) pf_J pf_Lcom_example_elapse_elapse_load_Lateness_Summary_
theorem sne_41_47 {a0 : Array Value} {Z : State} (hw : ∀ d ∈ tables_1, d.before a0 Z = true) : Jvm.RoadKit.slotOf Z "com/example/elapse/elapse/load/PurgatoryResult" "achievedRate" "J" ≠ Jvm.RoadKit.slotOf Z "com/example/elapse/elapse/load/PurgatoryResult" "lateness" "Lcom/example/elapse/elapse/load/Lateness$Summary;" := slot_ne (C := "com/example/elapse/elapse/load/PurgatoryResult") (a0 := a0) (Or.inr (ow41 hw)) (Or.inr (ow47 hw)) (by decide) pf_J pf_Lcom_example_elapse_elapse_load_Lateness_Summary_
theorem sne_43_47 {a0 : Array Value} {Z : State} (hw : ∀ d ∈ tables_1, d.before a0 Z = true) : Jvm.RoadKit.slotOf Z "com/example/elapse/elapse/load/PurgatoryResult" "cancelled" "J" ≠ Jvm.RoadKit.slotOf Z "com/example/elapse/elapse/load/PurgatoryResult" "lateness" "Lcom/example/elapse/elapse/load/Lateness$Summary;" := slot_ne (C := "com/example/elapse/elapse/load/PurgatoryResult") (a0 := a0) (Or.inr (ow43 hw)) (Or.inr (ow47 hw)) (by decide) pf_J pf_Lcom_example_elapse_elapse_load_Lateness_Summary_
theorem sne_45_47 {a0 : Array Value} {Z : State} (hw : ∀ d ∈ tables_1, d.before a0 Z = true) : Jvm.RoadKit.slotOf Z "com/example/elapse/elapse/load/PurgatoryResult" "fired" "J" ≠ Jvm.RoadKit.slotOf Z "com/example/elapse/elapse/load/PurgatoryResult" "lateness" "Lcom/example/elapse/elapse/load/Lateness$Summary;" := slot_ne (C := "com/example/elapse/elapse/load/PurgatoryResult") (a0 := a0) (Or.inr (ow45 hw)) (Or.inr (ow47 hw)) (by decide) pf_J pf_Lcom_example_elapse_elapse_load_Lateness_Summary_
theorem od4_56 : decode prog_50_method_1_code 56 = .ok (.return_, 1) := by decide +kernel
theorem ef_own_rm4 (m : MethodId) (x0 : Addr) (x2 : Int64) (x3 : Int64) (x4 : Int32) (x5 : Int64) (x6 : Int64) (x7 : Int64) (x8 : Int64) (x9 : Addr) : entryFrame m #[(.ref x0), .null, (.long x2), (.long x3), (.int x4), (.long x5), (.long x6), (.long x7), (.long x8), (.ref x9)] 16 = mkF m 0 #[.val (.ref x0), .val .null, .val (.long x2), .second, .val (.long x3), .second, .val (.int x4), .val (.long x5), .second, .val (.long x6), .second, .val (.long x7), .second, .val (.long x8), .second, .val (.ref x9)] [] := by first | (simp [entryFrame, mkF, argsToLocals, Value.category]; done) | rfl
theorem pn_com_example_elapse_elapse_load_PurgatoryResult__init___Lcom_example_elapse_elapse_load_Contender_JJIJJJJLcom_example_elapse_elapse_load_Lateness_Summary__V : plainFor (⟨"com/example/elapse/elapse/load/PurgatoryResult", "<init>", "(Lcom/example/elapse/elapse/load/Contender;JJIJJJJLcom/example/elapse/elapse/load/Lateness$Summary;)V"⟩ : MethodName) = true := plainFor_of_name (by first | (simp [plainName, overriddenIn]; done) | decide +kernel)
set_option maxRecDepth 65536 in
set_option maxHeartbeats 40000000 in
theorem own_rm4 (l : Launch) (Z : State) (a0 : Array Value) (hw : ∀ d ∈ tables_1, d.before a0 Z = true) (n0 : Nat) (hO : Heap) (a : Addr) (x1 : Int64) (x2 : Int64) (x3 : Int32) (x4 : Int64) (x5 : Int64) (x6 : Int64) (x7 : Int64) (b : Addr) (Z0 : n0 ≤ hO.size) (E_a : Exa Z hO a "com/example/elapse/elapse/load/PurgatoryResult") (F_a_timer : Fld Z hO a "com/example/elapse/elapse/load/PurgatoryResult" "timer" "Lcom/example/elapse/elapse/load/Contender;" .null) (F_a_rate : Fld Z hO a "com/example/elapse/elapse/load/PurgatoryResult" "rate" "J" (.long (0 : Int64))) (F_a_seconds : Fld Z hO a "com/example/elapse/elapse/load/PurgatoryResult" "seconds" "J" (.long (0 : Int64))) (F_a_producers : Fld Z hO a "com/example/elapse/elapse/load/PurgatoryResult" "producers" "I" (.int (0 : Int32))) (F_a_requests : Fld Z hO a "com/example/elapse/elapse/load/PurgatoryResult" "requests" "J" (.long (0 : Int64))) (F_a_achievedRate : Fld Z hO a "com/example/elapse/elapse/load/PurgatoryResult" "achievedRate" "J" (.long (0 : Int64))) (F_a_cancelled : Fld Z hO a "com/example/elapse/elapse/load/PurgatoryResult" "cancelled" "J" (.long (0 : Int64))) (F_a_fired : Fld Z hO a "com/example/elapse/elapse/load/PurgatoryResult" "fired" "J" (.long (0 : Int64))) (F_a_lateness : Fld Z hO a "com/example/elapse/elapse/load/PurgatoryResult" "lateness" "Lcom/example/elapse/elapse/load/Lateness$Summary;" .null) (g_a : n0 ≤ a) :
    MeetsW l Z n0 (⟨"com/example/elapse/elapse/load/PurgatoryResult", "<init>", "(Lcom/example/elapse/elapse/load/Contender;JJIJJJJLcom/example/elapse/elapse/load/Lateness$Summary;)V"⟩ : MethodName) prog_50_method_1_code 16 none ({ frames := 2, cells := 0, slots := 0, locals := 24 } : Room) #[(.ref a), .null, (.long x1), (.long x2), (.int x3), (.long x4), (.long x5), (.long x6), (.long x7), (.ref b)] hO (RV fun h => Keep hO h [a] ∧ Fld Z h a "com/example/elapse/elapse/load/PurgatoryResult" "rate" "J" (.long x1) ∧ Fld Z h a "com/example/elapse/elapse/load/PurgatoryResult" "requests" "J" (.long x4) ∧ Fld Z h a "com/example/elapse/elapse/load/PurgatoryResult" "achievedRate" "J" (.long x5) ∧ Fld Z h a "com/example/elapse/elapse/load/PurgatoryResult" "cancelled" "J" (.long x6) ∧ Fld Z h a "com/example/elapse/elapse/load/PurgatoryResult" "fired" "J" (.long x7) ∧ Fld Z h a "com/example/elapse/elapse/load/PurgatoryResult" "lateness" "Lcom/example/elapse/elapse/load/Lateness$Summary;" (.ref b)) := by
  refine MeetsW.intro pn_com_example_elapse_elapse_load_PurgatoryResult__init___Lcom_example_elapse_elapse_load_Contender_JJIJJJJLcom_example_elapse_elapse_load_Lateness_Summary__V (fun m => ef_own_rm4 m a x1 x2 x3 x4 x5 x6 x7 b) ?_
  intro W C
  replace C : Ru l Z "com/example/elapse/elapse/load/PurgatoryResult" prog_50_method_1_code 16 none "<init>" ({ frames := 2, cells := 0, slots := 0, locals := 24 } : Room) n0 (RV fun h => Keep hO h [a] ∧ Fld Z h a "com/example/elapse/elapse/load/PurgatoryResult" "rate" "J" (.long x1) ∧ Fld Z h a "com/example/elapse/elapse/load/PurgatoryResult" "requests" "J" (.long x4) ∧ Fld Z h a "com/example/elapse/elapse/load/PurgatoryResult" "achievedRate" "J" (.long x5) ∧ Fld Z h a "com/example/elapse/elapse/load/PurgatoryResult" "cancelled" "J" (.long x6) ∧ Fld Z h a "com/example/elapse/elapse/load/PurgatoryResult" "fired" "J" (.long x7) ∧ Fld Z h a "com/example/elapse/elapse/load/PurgatoryResult" "lateness" "Lcom/example/elapse/elapse/load/Lateness$Summary;" (.ref b)) W := C
  have K : Keep hO hO [a] := Keep.refl _ _
  refine C.aloadN (pc' := 1) od4_0 rfl rfl rfl ?_
  refine C.callc (w := 0) (own_rm2 l Z a0 hw n0 hO a) rfl (ow29 hw) (ow8 hw) (ow10 hw) (ow11 hw) (pc' := 4) od4_1 rfl rfl rfl (by decide) pd___V rfl (by decide) (Nat.le_of_eq rfl) (by decide) (by decide) (by decide) (kV fun h1 q1 => ?_)
  obtain ⟨rfl⟩ := q1
  refine C.aloadN (pc' := 5) od4_4 rfl rfl rfl ?_
  refine C.aloadN (pc' := 6) od4_5 rfl rfl rfl ?_
  refine C.putf (ow30 hw) Via.refl F_a_timer E_a (Or.inr ⟨(ow31 hw), rfl, rfl⟩) (ow24 hw) pf_Lcom_example_elapse_elapse_load_Contender_ rfl rfl g_a (pc' := 9) od4_6 rfl (fun h6 X6 => ?_)
  replace F_a_timer := F_a_timer.same X6
  replace E_a := E_a.wr X6
  replace F_a_rate := F_a_rate.other X6 (Or.inr (sne_33_31 hw))
  replace F_a_seconds := F_a_seconds.other X6 (Or.inr (sne_35_31 hw))
  replace F_a_producers := F_a_producers.other X6 (Or.inr (sne_37_31 hw))
  replace F_a_requests := F_a_requests.other X6 (Or.inr (sne_39_31 hw))
  replace F_a_achievedRate := F_a_achievedRate.other X6 (Or.inr (sne_41_31 hw))
  replace F_a_cancelled := F_a_cancelled.other X6 (Or.inr (sne_43_31 hw))
  replace F_a_fired := F_a_fired.other X6 (Or.inr (sne_45_31 hw))
  replace F_a_lateness := F_a_lateness.other X6 (Or.inr (sne_47_31 hw))
  replace K := K.wr X6 (Or.inl (List.mem_of_getElem? (i := 0) rfl))
  refine C.aloadN (pc' := 10) od4_9 rfl rfl rfl ?_
  refine C.lloadN (pc' := 11) od4_10 rfl rfl ?_
  refine C.putf (ow32 hw) Via.refl F_a_rate E_a (Or.inr ⟨(ow33 hw), rfl, rfl⟩) (ow24 hw) pf_J rfl rfl g_a (pc' := 14) od4_11 rfl (fun h11 X11 => ?_)
  replace F_a_rate := F_a_rate.same X11
  replace E_a := E_a.wr X11
  replace F_a_seconds := F_a_seconds.other X11 (Or.inr (sne_35_33 hw))
  replace F_a_producers := F_a_producers.other X11 (Or.inr (sne_37_33 hw))
  replace F_a_requests := F_a_requests.other X11 (Or.inr (sne_39_33 hw))
  replace F_a_achievedRate := F_a_achievedRate.other X11 (Or.inr (sne_41_33 hw))
  replace F_a_cancelled := F_a_cancelled.other X11 (Or.inr (sne_43_33 hw))
  replace F_a_fired := F_a_fired.other X11 (Or.inr (sne_45_33 hw))
  replace F_a_lateness := F_a_lateness.other X11 (Or.inr (sne_47_33 hw))
  replace F_a_timer := F_a_timer.other X11 (Or.inr (sne_31_33 hw))
  replace K := K.wr X11 (Or.inl (List.mem_of_getElem? (i := 0) rfl))
  refine C.aloadN (pc' := 15) od4_14 rfl rfl rfl ?_
  refine C.lload (pc' := 17) od4_15 rfl rfl ?_
  refine C.putf (ow34 hw) Via.refl F_a_seconds E_a (Or.inr ⟨(ow35 hw), rfl, rfl⟩) (ow24 hw) pf_J rfl rfl g_a (pc' := 20) od4_17 rfl (fun h17 X17 => ?_)
  replace F_a_seconds := F_a_seconds.same X17
  replace E_a := E_a.wr X17
  replace F_a_producers := F_a_producers.other X17 (Or.inr (sne_37_35 hw))
  replace F_a_requests := F_a_requests.other X17 (Or.inr (sne_39_35 hw))
  replace F_a_achievedRate := F_a_achievedRate.other X17 (Or.inr (sne_41_35 hw))
  replace F_a_cancelled := F_a_cancelled.other X17 (Or.inr (sne_43_35 hw))
  replace F_a_fired := F_a_fired.other X17 (Or.inr (sne_45_35 hw))
  replace F_a_lateness := F_a_lateness.other X17 (Or.inr (sne_47_35 hw))
  replace F_a_timer := F_a_timer.other X17 (Or.inr (sne_31_35 hw))
  replace F_a_rate := F_a_rate.other X17 (Or.inr (sne_33_35 hw))
  replace K := K.wr X17 (Or.inl (List.mem_of_getElem? (i := 0) rfl))
  refine C.aloadN (pc' := 21) od4_20 rfl rfl rfl ?_
  refine C.iload (pc' := 23) od4_21 rfl rfl ?_
  refine C.putf (ow36 hw) Via.refl F_a_producers E_a (Or.inr ⟨(ow37 hw), rfl, rfl⟩) (ow24 hw) pf_I rfl rfl g_a (pc' := 26) od4_23 rfl (fun h23 X23 => ?_)
  replace F_a_producers := F_a_producers.same X23
  replace E_a := E_a.wr X23
  replace F_a_requests := F_a_requests.other X23 (Or.inr (sne_39_37 hw))
  replace F_a_achievedRate := F_a_achievedRate.other X23 (Or.inr (sne_41_37 hw))
  replace F_a_cancelled := F_a_cancelled.other X23 (Or.inr (sne_43_37 hw))
  replace F_a_fired := F_a_fired.other X23 (Or.inr (sne_45_37 hw))
  replace F_a_lateness := F_a_lateness.other X23 (Or.inr (sne_47_37 hw))
  replace F_a_timer := F_a_timer.other X23 (Or.inr (sne_31_37 hw))
  replace F_a_rate := F_a_rate.other X23 (Or.inr (sne_33_37 hw))
  replace F_a_seconds := F_a_seconds.other X23 (Or.inr (sne_35_37 hw))
  replace K := K.wr X23 (Or.inl (List.mem_of_getElem? (i := 0) rfl))
  refine C.aloadN (pc' := 27) od4_26 rfl rfl rfl ?_
  refine C.lload (pc' := 29) od4_27 rfl rfl ?_
  refine C.putf (ow38 hw) Via.refl F_a_requests E_a (Or.inr ⟨(ow39 hw), rfl, rfl⟩) (ow24 hw) pf_J rfl rfl g_a (pc' := 32) od4_29 rfl (fun h29 X29 => ?_)
  replace F_a_requests := F_a_requests.same X29
  replace E_a := E_a.wr X29
  replace F_a_achievedRate := F_a_achievedRate.other X29 (Or.inr (sne_41_39 hw))
  replace F_a_cancelled := F_a_cancelled.other X29 (Or.inr (sne_43_39 hw))
  replace F_a_fired := F_a_fired.other X29 (Or.inr (sne_45_39 hw))
  replace F_a_lateness := F_a_lateness.other X29 (Or.inr (sne_47_39 hw))
  replace F_a_timer := F_a_timer.other X29 (Or.inr (sne_31_39 hw))
  replace F_a_rate := F_a_rate.other X29 (Or.inr (sne_33_39 hw))
  replace F_a_seconds := F_a_seconds.other X29 (Or.inr (sne_35_39 hw))
  replace F_a_producers := F_a_producers.other X29 (Or.inr (sne_37_39 hw))
  replace K := K.wr X29 (Or.inl (List.mem_of_getElem? (i := 0) rfl))
  refine C.aloadN (pc' := 33) od4_32 rfl rfl rfl ?_
  refine C.lload (pc' := 35) od4_33 rfl rfl ?_
  refine C.putf (ow40 hw) Via.refl F_a_achievedRate E_a (Or.inr ⟨(ow41 hw), rfl, rfl⟩) (ow24 hw) pf_J rfl rfl g_a (pc' := 38) od4_35 rfl (fun h35 X35 => ?_)
  replace F_a_achievedRate := F_a_achievedRate.same X35
  replace E_a := E_a.wr X35
  replace F_a_cancelled := F_a_cancelled.other X35 (Or.inr (sne_43_41 hw))
  replace F_a_fired := F_a_fired.other X35 (Or.inr (sne_45_41 hw))
  replace F_a_lateness := F_a_lateness.other X35 (Or.inr (sne_47_41 hw))
  replace F_a_timer := F_a_timer.other X35 (Or.inr (sne_31_41 hw))
  replace F_a_rate := F_a_rate.other X35 (Or.inr (sne_33_41 hw))
  replace F_a_seconds := F_a_seconds.other X35 (Or.inr (sne_35_41 hw))
  replace F_a_producers := F_a_producers.other X35 (Or.inr (sne_37_41 hw))
  replace F_a_requests := F_a_requests.other X35 (Or.inr (sne_39_41 hw))
  replace K := K.wr X35 (Or.inl (List.mem_of_getElem? (i := 0) rfl))
  refine C.aloadN (pc' := 39) od4_38 rfl rfl rfl ?_
  refine C.lload (pc' := 41) od4_39 rfl rfl ?_
  refine C.putf (ow42 hw) Via.refl F_a_cancelled E_a (Or.inr ⟨(ow43 hw), rfl, rfl⟩) (ow24 hw) pf_J rfl rfl g_a (pc' := 44) od4_41 rfl (fun h41 X41 => ?_)
  replace F_a_cancelled := F_a_cancelled.same X41
  replace E_a := E_a.wr X41
  replace F_a_fired := F_a_fired.other X41 (Or.inr (sne_45_43 hw))
  replace F_a_lateness := F_a_lateness.other X41 (Or.inr (sne_47_43 hw))
  replace F_a_timer := F_a_timer.other X41 (Or.inr (sne_31_43 hw))
  replace F_a_rate := F_a_rate.other X41 (Or.inr (sne_33_43 hw))
  replace F_a_seconds := F_a_seconds.other X41 (Or.inr (sne_35_43 hw))
  replace F_a_producers := F_a_producers.other X41 (Or.inr (sne_37_43 hw))
  replace F_a_requests := F_a_requests.other X41 (Or.inr (sne_39_43 hw))
  replace F_a_achievedRate := F_a_achievedRate.other X41 (Or.inr (sne_41_43 hw))
  replace K := K.wr X41 (Or.inl (List.mem_of_getElem? (i := 0) rfl))
  refine C.aloadN (pc' := 45) od4_44 rfl rfl rfl ?_
  refine C.lload (pc' := 47) od4_45 rfl rfl ?_
  refine C.putf (ow44 hw) Via.refl F_a_fired E_a (Or.inr ⟨(ow45 hw), rfl, rfl⟩) (ow24 hw) pf_J rfl rfl g_a (pc' := 50) od4_47 rfl (fun h47 X47 => ?_)
  replace F_a_fired := F_a_fired.same X47
  replace E_a := E_a.wr X47
  replace F_a_lateness := F_a_lateness.other X47 (Or.inr (sne_47_45 hw))
  replace F_a_timer := F_a_timer.other X47 (Or.inr (sne_31_45 hw))
  replace F_a_rate := F_a_rate.other X47 (Or.inr (sne_33_45 hw))
  replace F_a_seconds := F_a_seconds.other X47 (Or.inr (sne_35_45 hw))
  replace F_a_producers := F_a_producers.other X47 (Or.inr (sne_37_45 hw))
  replace F_a_requests := F_a_requests.other X47 (Or.inr (sne_39_45 hw))
  replace F_a_achievedRate := F_a_achievedRate.other X47 (Or.inr (sne_41_45 hw))
  replace F_a_cancelled := F_a_cancelled.other X47 (Or.inr (sne_43_45 hw))
  replace K := K.wr X47 (Or.inl (List.mem_of_getElem? (i := 0) rfl))
  refine C.aloadN (pc' := 51) od4_50 rfl rfl rfl ?_
  refine C.aload (pc' := 53) od4_51 rfl rfl rfl ?_
  refine C.putf (ow46 hw) Via.refl F_a_lateness E_a (Or.inr ⟨(ow47 hw), rfl, rfl⟩) (ow24 hw) pf_Lcom_example_elapse_elapse_load_Lateness_Summary_ rfl rfl g_a (pc' := 56) od4_53 rfl (fun h53 X53 => ?_)
  replace F_a_lateness := F_a_lateness.same X53
  replace E_a := E_a.wr X53
  replace F_a_timer := F_a_timer.other X53 (Or.inr (sne_31_47 hw))
  replace F_a_rate := F_a_rate.other X53 (Or.inr (sne_33_47 hw))
  replace F_a_seconds := F_a_seconds.other X53 (Or.inr (sne_35_47 hw))
  replace F_a_producers := F_a_producers.other X53 (Or.inr (sne_37_47 hw))
  replace F_a_requests := F_a_requests.other X53 (Or.inr (sne_39_47 hw))
  replace F_a_achievedRate := F_a_achievedRate.other X53 (Or.inr (sne_41_47 hw))
  replace F_a_cancelled := F_a_cancelled.other X53 (Or.inr (sne_43_47 hw))
  replace F_a_fired := F_a_fired.other X53 (Or.inr (sne_45_47 hw))
  replace K := K.wr X53 (Or.inl (List.mem_of_getElem? (i := 0) rfl))
  refine C.retV rfl od4_56 (by decide) (by decide) ⟨rfl, ?_⟩
  exact ⟨K, F_a_rate, F_a_requests, F_a_achievedRate, F_a_cancelled, F_a_fired, F_a_lateness⟩
theorem od6_0 : decode prog_38_method_7_code 0 = .ok (.aload_n 0, 1) := by decide +kernel
theorem od6_1 : decode prog_38_method_7_code 1 = .ok (.getfield 17, 3) := by decide +kernel
theorem od6_4 : decode prog_38_method_7_code 4 = .ok (.lreturn, 1) := by decide +kernel
theorem ef_own_rm6 (m : MethodId) (x0 : Addr) : entryFrame m #[(.ref x0)] 1 = mkF m 0 #[.val (.ref x0)] [] := by first | (simp [entryFrame, mkF, argsToLocals, Value.category]; done) | rfl
theorem pn_com_example_elapse_elapse_load_Lateness_Summary_p99___J : plainFor (⟨"com/example/elapse/elapse/load/Lateness$Summary", "p99", "()J"⟩ : MethodName) = true := plainFor_of_name (by first | (simp [plainName, overriddenIn]; done) | decide +kernel)
set_option maxRecDepth 65536 in
set_option maxHeartbeats 40000000 in
theorem own_rm6 (l : Launch) (Z : State) (a0 : Array Value) (hw : ∀ d ∈ tables_1, d.before a0 Z = true) (n0 : Nat) (hO : Heap) (a : Addr) (x : Int64) (F_a_p99 : Fld Z hO a "com/example/elapse/elapse/load/Lateness$Summary" "p99" "J" (.long x)) :
    MeetsW l Z n0 (⟨"com/example/elapse/elapse/load/Lateness$Summary", "p99", "()J"⟩ : MethodName) prog_38_method_7_code 1 (some .long) ({ frames := 0, cells := 0, slots := 0, locals := 0 } : Room) #[(.ref a)] hO (RJ fun r h => r = x ∧ h = hO) := by
  refine MeetsW.intro pn_com_example_elapse_elapse_load_Lateness_Summary_p99___J (fun m => ef_own_rm6 m a) ?_
  intro W C
  replace C : Ru l Z "com/example/elapse/elapse/load/Lateness$Summary" prog_38_method_7_code 1 (some .long) "p99" ({ frames := 0, cells := 0, slots := 0, locals := 0 } : Room) n0 (RJ fun r h => r = x ∧ h = hO) W := C
  refine C.aloadN (pc' := 1) od6_0 rfl rfl rfl ?_
  refine C.getf (ow19 hw) Via.refl F_a_p99 (pc' := 4) od6_1 rfl ?_
  refine C.retJ rfl od6_4 (by decide) (by decide) ⟨_, rfl, ?_⟩
  exact ⟨(by subst_vars; rfl), rfl⟩
theorem od7_0 : decode prog_38_method_5_code 0 = .ok (.aload_n 0, 1) := by decide +kernel
theorem od7_1 : decode prog_38_method_5_code 1 = .ok (.getfield 7, 3) := by decide +kernel
theorem od7_4 : decode prog_38_method_5_code 4 = .ok (.ireturn, 1) := by decide +kernel
theorem ef_own_rm7 (m : MethodId) (x0 : Addr) : entryFrame m #[(.ref x0)] 1 = mkF m 0 #[.val (.ref x0)] [] := by first | (simp [entryFrame, mkF, argsToLocals, Value.category]; done) | rfl
theorem pn_com_example_elapse_elapse_load_Lateness_Summary_early___I : plainFor (⟨"com/example/elapse/elapse/load/Lateness$Summary", "early", "()I"⟩ : MethodName) = true := plainFor_of_name (by first | (simp [plainName, overriddenIn]; done) | decide +kernel)
set_option maxRecDepth 65536 in
set_option maxHeartbeats 40000000 in
theorem own_rm7 (l : Launch) (Z : State) (a0 : Array Value) (hw : ∀ d ∈ tables_1, d.before a0 Z = true) (n0 : Nat) (hO : Heap) (a : Addr) (x : Int32) (F_a_early : Fld Z hO a "com/example/elapse/elapse/load/Lateness$Summary" "early" "I" (.int x)) :
    MeetsW l Z n0 (⟨"com/example/elapse/elapse/load/Lateness$Summary", "early", "()I"⟩ : MethodName) prog_38_method_5_code 1 (some .int) ({ frames := 0, cells := 0, slots := 0, locals := 0 } : Room) #[(.ref a)] hO (RI fun r h => r = x ∧ h = hO) := by
  refine MeetsW.intro pn_com_example_elapse_elapse_load_Lateness_Summary_early___I (fun m => ef_own_rm7 m a) ?_
  intro W C
  replace C : Ru l Z "com/example/elapse/elapse/load/Lateness$Summary" prog_38_method_5_code 1 (some .int) "early" ({ frames := 0, cells := 0, slots := 0, locals := 0 } : Room) n0 (RI fun r h => r = x ∧ h = hO) W := C
  refine C.aloadN (pc' := 1) od7_0 rfl rfl rfl ?_
  refine C.getf (ow15 hw) Via.refl F_a_early (pc' := 4) od7_1 rfl ?_
  refine C.retI rfl od7_4 (by decide) (by decide) ⟨_, rfl, ?_⟩
  exact ⟨(by subst_vars; rfl), rfl⟩
theorem ow54 {a0 : Array Value} {Z : State} (hw : ∀ d ∈ tables_1, d.before a0 Z = true) : (Jvm.Cond.constantLong "com/example/elapse/elapse/load/PurgatoryResult" (40 : Nat) (100 : Int64)).before a0 Z = true := hw _ (List.mem_of_getElem? (i := 54) rfl)
theorem od5_0 : decode prog_50_method_2_code 0 = .ok (.ldc2_w 40, 3) := by decide +kernel
theorem od5_3 : decode prog_50_method_2_code 3 = .ok (.aload_n 0, 1) := by decide +kernel
theorem od5_4 : decode prog_50_method_2_code 4 = .ok (.getfield 27, 3) := by decide +kernel
theorem od5_7 : decode prog_50_method_2_code 7 = .ok (.lmul, 1) := by decide +kernel
theorem ow55 {a0 : Array Value} {Z : State} (hw : ∀ d ∈ tables_1, d.before a0 Z = true) : (Jvm.Cond.constantLong "com/example/elapse/elapse/load/PurgatoryResult" (42 : Nat) (99 : Int64)).before a0 Z = true := hw _ (List.mem_of_getElem? (i := 55) rfl)
theorem od5_8 : decode prog_50_method_2_code 8 = .ok (.ldc2_w 42, 3) := by decide +kernel
theorem od5_11 : decode prog_50_method_2_code 11 = .ok (.aload_n 0, 1) := by decide +kernel
theorem od5_12 : decode prog_50_method_2_code 12 = .ok (.getfield 13, 3) := by decide +kernel
theorem od5_15 : decode prog_50_method_2_code 15 = .ok (.lmul, 1) := by decide +kernel
theorem od5_16 : decode prog_50_method_2_code 16 = .ok (.lcmp, 1) := by decide +kernel
theorem od5_17 : decode prog_50_method_2_code 17 = .ok (.ifCond .lt 48, 3) := by decide +kernel
theorem od5_65 : decode prog_50_method_2_code 65 = .ok (.iconst 0, 1) := by decide +kernel
theorem od5_66 : decode prog_50_method_2_code 66 = .ok (.ireturn, 1) := by decide +kernel
theorem od5_20 : decode prog_50_method_2_code 20 = .ok (.aload_n 0, 1) := by decide +kernel
theorem od5_21 : decode prog_50_method_2_code 21 = .ok (.getfield 36, 3) := by decide +kernel
theorem od5_24 : decode prog_50_method_2_code 24 = .ok (.invokevirtual 44, 3) := by decide +kernel
theorem pd___J : parseMethodDescriptor "()J" = some ⟨[], some .long⟩ := by decide +kernel
theorem ow61 {a0 : Array Value} {Z : State} (hw : ∀ d ∈ tables_1, d.before a0 Z = true) : (Jvm.Cond.code ({ cls := "com/example/elapse/elapse/load/Lateness$Summary", name := "p99", desc := "()J" } : Jvm.MethodName) prog_38_method_7_code (1 : Nat) (Option.some Jvm.ClassFile.FieldType.long)).before a0 Z = true := hw _ (List.mem_of_getElem? (i := 61) rfl)
theorem ow3 {a0 : Array Value} {Z : State} (hw : ∀ d ∈ tables_1, d.before a0 Z = true) : (Jvm.Cond.initialized "com/example/elapse/elapse/load/Lateness$Summary").before a0 Z = true := hw _ (List.mem_of_getElem? (i := 3) rfl)
theorem ow57 {a0 : Array Value} {Z : State} (hw : ∀ d ∈ tables_1, d.before a0 Z = true) : (Jvm.Cond.methodLink "com/example/elapse/elapse/load/PurgatoryResult" (44 : Nat) ({ cls := "com/example/elapse/elapse/load/Lateness$Summary", name := "p99", desc := "()J" } : Jvm.MethodName)).before a0 Z = true := hw _ (List.mem_of_getElem? (i := 57) rfl)
theorem ow58 {a0 : Array Value} {Z : State} (hw : ∀ d ∈ tables_1, d.before a0 Z = true) : (Jvm.Cond.declares ({ cls := "com/example/elapse/elapse/load/Lateness$Summary", name := "p99", desc := "()J" } : Jvm.MethodName)).before a0 Z = true := hw _ (List.mem_of_getElem? (i := 58) rfl)
theorem ow60 {a0 : Array Value} {Z : State} (hw : ∀ d ∈ tables_1, d.before a0 Z = true) : (Jvm.Cond.selects "com/example/elapse/elapse/load/Lateness$Summary" ({ cls := "com/example/elapse/elapse/load/Lateness$Summary", name := "p99", desc := "()J" } : Jvm.MethodName) ({ cls := "com/example/elapse/elapse/load/Lateness$Summary", name := "p99", desc := "()J" } : Jvm.MethodName)).before a0 Z = true := hw _ (List.mem_of_getElem? (i := 60) rfl)
theorem ow59 {a0 : Array Value} {Z : State} (hw : ∀ d ∈ tables_1, d.before a0 Z = true) : (Jvm.Cond.instanceMethod ({ cls := "com/example/elapse/elapse/load/Lateness$Summary", name := "p99", desc := "()J" } : Jvm.MethodName)).before a0 Z = true := hw _ (List.mem_of_getElem? (i := 59) rfl)
theorem ow62 {a0 : Array Value} {Z : State} (hw : ∀ d ∈ tables_1, d.before a0 Z = true) : (Jvm.Cond.constantLong "com/example/elapse/elapse/load/PurgatoryResult" (50 : Nat) (200 : Int64)).before a0 Z = true := hw _ (List.mem_of_getElem? (i := 62) rfl)
theorem od5_27 : decode prog_50_method_2_code 27 = .ok (.ldc2_w 50, 3) := by decide +kernel
theorem od5_30 : decode prog_50_method_2_code 30 = .ok (.lcmp, 1) := by decide +kernel
theorem od5_31 : decode prog_50_method_2_code 31 = .ok (.ifCond .gt 34, 3) := by decide +kernel
theorem od5_34 : decode prog_50_method_2_code 34 = .ok (.aload_n 0, 1) := by decide +kernel
theorem od5_35 : decode prog_50_method_2_code 35 = .ok (.getfield 36, 3) := by decide +kernel
theorem od5_38 : decode prog_50_method_2_code 38 = .ok (.invokevirtual 52, 3) := by decide +kernel
theorem pd___I : parseMethodDescriptor "()I" = some ⟨[], some .int⟩ := by decide +kernel
theorem ow67 {a0 : Array Value} {Z : State} (hw : ∀ d ∈ tables_1, d.before a0 Z = true) : (Jvm.Cond.code ({ cls := "com/example/elapse/elapse/load/Lateness$Summary", name := "early", desc := "()I" } : Jvm.MethodName) prog_38_method_5_code (1 : Nat) (Option.some Jvm.ClassFile.FieldType.int)).before a0 Z = true := hw _ (List.mem_of_getElem? (i := 67) rfl)
theorem ow63 {a0 : Array Value} {Z : State} (hw : ∀ d ∈ tables_1, d.before a0 Z = true) : (Jvm.Cond.methodLink "com/example/elapse/elapse/load/PurgatoryResult" (52 : Nat) ({ cls := "com/example/elapse/elapse/load/Lateness$Summary", name := "early", desc := "()I" } : Jvm.MethodName)).before a0 Z = true := hw _ (List.mem_of_getElem? (i := 63) rfl)
theorem ow64 {a0 : Array Value} {Z : State} (hw : ∀ d ∈ tables_1, d.before a0 Z = true) : (Jvm.Cond.declares ({ cls := "com/example/elapse/elapse/load/Lateness$Summary", name := "early", desc := "()I" } : Jvm.MethodName)).before a0 Z = true := hw _ (List.mem_of_getElem? (i := 64) rfl)
theorem ow66 {a0 : Array Value} {Z : State} (hw : ∀ d ∈ tables_1, d.before a0 Z = true) : (Jvm.Cond.selects "com/example/elapse/elapse/load/Lateness$Summary" ({ cls := "com/example/elapse/elapse/load/Lateness$Summary", name := "early", desc := "()I" } : Jvm.MethodName) ({ cls := "com/example/elapse/elapse/load/Lateness$Summary", name := "early", desc := "()I" } : Jvm.MethodName)).before a0 Z = true := hw _ (List.mem_of_getElem? (i := 66) rfl)
theorem ow65 {a0 : Array Value} {Z : State} (hw : ∀ d ∈ tables_1, d.before a0 Z = true) : (Jvm.Cond.instanceMethod ({ cls := "com/example/elapse/elapse/load/Lateness$Summary", name := "early", desc := "()I" } : Jvm.MethodName)).before a0 Z = true := hw _ (List.mem_of_getElem? (i := 65) rfl)
theorem od5_41 : decode prog_50_method_2_code 41 = .ok (.ifCond .ne 24, 3) := by decide +kernel
theorem od5_44 : decode prog_50_method_2_code 44 = .ok (.aload_n 0, 1) := by decide +kernel
theorem od5_45 : decode prog_50_method_2_code 45 = .ok (.getfield 33, 3) := by decide +kernel
theorem od5_48 : decode prog_50_method_2_code 48 = .ok (.aload_n 0, 1) := by decide +kernel
theorem od5_49 : decode prog_50_method_2_code 49 = .ok (.getfield 30, 3) := by decide +kernel
theorem od5_52 : decode prog_50_method_2_code 52 = .ok (.ladd, 1) := by decide +kernel
theorem od5_53 : decode prog_50_method_2_code 53 = .ok (.aload_n 0, 1) := by decide +kernel
theorem od5_54 : decode prog_50_method_2_code 54 = .ok (.getfield 24, 3) := by decide +kernel
theorem od5_57 : decode prog_50_method_2_code 57 = .ok (.lcmp, 1) := by decide +kernel
theorem od5_58 : decode prog_50_method_2_code 58 = .ok (.ifCond .ne 7, 3) := by decide +kernel
theorem od5_61 : decode prog_50_method_2_code 61 = .ok (.iconst 1, 1) := by decide +kernel
theorem od5_62 : decode prog_50_method_2_code 62 = .ok (.goto 4, 3) := by decide +kernel
theorem ef_own_rm5 (m : MethodId) (x0 : Addr) : entryFrame m #[(.ref x0)] 1 = mkF m 0 #[.val (.ref x0)] [] := by first | (simp [entryFrame, mkF, argsToLocals, Value.category]; done) | rfl
theorem pn_com_example_elapse_elapse_load_PurgatoryResult_keptUp___Z : plainFor (⟨"com/example/elapse/elapse/load/PurgatoryResult", "keptUp", "()Z"⟩ : MethodName) = true := plainFor_of_name (by first | (simp [plainName, overriddenIn]; done) | decide +kernel)
set_option maxRecDepth 65536 in
set_option maxHeartbeats 40000000 in
theorem own_rm5 (l : Launch) (Z : State) (a0 : Array Value) (hw : ∀ d ∈ tables_1, d.before a0 Z = true) (n0 : Nat) (hO : Heap) (a : Addr) (b : Addr) (ach : Int64) (rate : Int64) (q : Int64) (early : Int32) (fired : Int64) (canc : Int64) (req : Int64) (F_a_lateness : Fld Z hO a "com/example/elapse/elapse/load/PurgatoryResult" "lateness" "Lcom/example/elapse/elapse/load/Lateness$Summary;" (.ref b)) (F_a_achievedRate : Fld Z hO a "com/example/elapse/elapse/load/PurgatoryResult" "achievedRate" "J" (.long ach)) (F_a_rate : Fld Z hO a "com/example/elapse/elapse/load/PurgatoryResult" "rate" "J" (.long rate)) (F_a_fired : Fld Z hO a "com/example/elapse/elapse/load/PurgatoryResult" "fired" "J" (.long fired)) (F_a_cancelled : Fld Z hO a "com/example/elapse/elapse/load/PurgatoryResult" "cancelled" "J" (.long canc)) (F_a_requests : Fld Z hO a "com/example/elapse/elapse/load/PurgatoryResult" "requests" "J" (.long req)) (E_b : Exa Z hO b "com/example/elapse/elapse/load/Lateness$Summary") (F_b_p99 : Fld Z hO b "com/example/elapse/elapse/load/Lateness$Summary" "p99" "J" (.long q)) (F_b_early : Fld Z hO b "com/example/elapse/elapse/load/Lateness$Summary" "early" "I" (.int early)) :
    MeetsW l Z n0 (⟨"com/example/elapse/elapse/load/PurgatoryResult", "keptUp", "()Z"⟩ : MethodName) prog_50_method_2_code 1 (some .boolean) ({ frames := 1, cells := 0, slots := 0, locals := 12 } : Room) #[(.ref a)] hO (RI fun r h => r = (if (100 : Int64) * ach < (99 : Int64) * rate ∨ (200 : Int64) < q ∨ ¬ (early = 0) ∨ ¬ (fired + canc = req) then (0 : Int32) else 1) ∧ h = hO) := by
  refine MeetsW.intro pn_com_example_elapse_elapse_load_PurgatoryResult_keptUp___Z (fun m => ef_own_rm5 m a) ?_
  intro W C
  replace C : Ru l Z "com/example/elapse/elapse/load/PurgatoryResult" prog_50_method_2_code 1 (some .boolean) "keptUp" ({ frames := 1, cells := 0, slots := 0, locals := 12 } : Room) n0 (RI fun r h => r = (if (100 : Int64) * ach < (99 : Int64) * rate ∨ (200 : Int64) < q ∨ ¬ (early = 0) ∨ ¬ (fired + canc = req) then (0 : Int32) else 1) ∧ h = hO) W := C
  refine C.ldcJ (ow54 hw) (pc' := 3) od5_0 rfl ?_
  refine C.aloadN (pc' := 4) od5_3 rfl rfl rfl ?_
  refine C.getf (ow40 hw) Via.refl F_a_achievedRate (pc' := 7) od5_4 rfl ?_
  refine C.lmul (pc' := 8) od5_7 rfl ?_
  refine C.ldcJ (ow55 hw) (pc' := 11) od5_8 rfl ?_
  refine C.aloadN (pc' := 12) od5_11 rfl rfl rfl ?_
  refine C.getf (ow32 hw) Via.refl F_a_rate (pc' := 15) od5_12 rfl ?_
  refine C.lmul (pc' := 16) od5_15 rfl ?_
  refine C.lif_lt (pc' := 20) (pt := 65) od5_16 rfl od5_17 rfl rfl (fun c16 => ?_) (fun c16 => ?_)
  · skip
    refine C.iconst (v := 0) (pc' := 66) od5_65 rfl rfl ?_
    refine C.retZ rfl (by decide) od5_66 (by decide) (by decide) ⟨_, rfl, ?_⟩
    exact ⟨by simp [c16], rfl⟩
  · skip
    refine C.aloadN (pc' := 21) od5_20 rfl rfl rfl ?_
    refine C.getf (ow46 hw) Via.refl F_a_lateness (pc' := 24) od5_21 rfl ?_
    refine C.callv (w := 0) (own_rm6 l Z a0 hw n0 hO b q F_b_p99) E_b (ow57 hw) (ow58 hw) (ow60 hw) (ow59 hw) (ow3 hw) (ow61 hw) (pc' := 27) od5_24 rfl rfl rfl (by decide) pd___J rfl (by decide) (Nat.le_of_eq rfl) (by decide) (by decide) (by decide) (kJe ?_)
    refine C.ldcJ (ow62 hw) (pc' := 30) od5_27 rfl ?_
    refine C.lif_gt (pc' := 34) (pt := 65) od5_30 rfl od5_31 rfl rfl (fun c30 => ?_) (fun c30 => ?_)
    · skip
      refine C.iconst (v := 0) (pc' := 66) od5_65 rfl rfl ?_
      refine C.retZ rfl (by decide) od5_66 (by decide) (by decide) ⟨_, rfl, ?_⟩
      exact ⟨by simp [c16, c30], rfl⟩
    · skip
      refine C.aloadN (pc' := 35) od5_34 rfl rfl rfl ?_
      refine C.getf (ow46 hw) Via.refl F_a_lateness (pc' := 38) od5_35 rfl ?_
      refine C.callv (w := 0) (own_rm7 l Z a0 hw n0 hO b early F_b_early) E_b (ow63 hw) (ow64 hw) (ow66 hw) (ow65 hw) (ow3 hw) (ow67 hw) (pc' := 41) od5_38 rfl rfl rfl (by decide) pd___I rfl (by decide) (Nat.le_of_eq rfl) (by decide) (by decide) (by decide) (kIe ?_)
      refine C.if_ne (pc' := 44) (pt := 65) od5_41 rfl rfl (fun c41 => ?_) (fun c41 => ?_)
      · skip
        refine C.iconst (v := 0) (pc' := 66) od5_65 rfl rfl ?_
        refine C.retZ rfl (by decide) od5_66 (by decide) (by decide) ⟨_, rfl, ?_⟩
        exact ⟨by simp [c16, c30, c41], rfl⟩
      · skip
        refine C.aloadN (pc' := 45) od5_44 rfl rfl rfl ?_
        refine C.getf (ow44 hw) Via.refl F_a_fired (pc' := 48) od5_45 rfl ?_
        refine C.aloadN (pc' := 49) od5_48 rfl rfl rfl ?_
        refine C.getf (ow42 hw) Via.refl F_a_cancelled (pc' := 52) od5_49 rfl ?_
        refine C.ladd (pc' := 53) od5_52 rfl ?_
        refine C.aloadN (pc' := 54) od5_53 rfl rfl rfl ?_
        refine C.getf (ow38 hw) Via.refl F_a_requests (pc' := 57) od5_54 rfl ?_
        refine C.lif_ne (pc' := 61) (pt := 65) od5_57 rfl od5_58 rfl rfl (fun c57 => ?_) (fun c57 => ?_)
        · skip
          refine C.iconst (v := 0) (pc' := 66) od5_65 rfl rfl ?_
          refine C.retZ rfl (by decide) od5_66 (by decide) (by decide) ⟨_, rfl, ?_⟩
          exact ⟨by simp [c16, c30, c41, c57], rfl⟩
        · skip
          refine C.iconst (v := 1) (pc' := 62) od5_61 rfl rfl ?_
          refine C.goto (pc' := 66) od5_62 rfl ?_
          refine C.retZ rfl (by decide) od5_66 (by decide) (by decide) ⟨_, rfl, ?_⟩
          exact ⟨by simp [c16, c30, c41, c57], rfl⟩
theorem ow0 {a0 : Array Value} {Z : State} (hw : ∀ d ∈ tables_1, d.before a0 Z = true) : (Jvm.Cond.constantLong "com/example/elapse/elapse/load/PurgatoryResultKeptUpPinLaw" (7 : Nat) (72057594037927935 : Int64)).before a0 Z = true := hw _ (List.mem_of_getElem? (i := 0) rfl)
theorem ow48 {a0 : Array Value} {Z : State} (hw : ∀ d ∈ tables_1, d.before a0 Z = true) : (Jvm.Cond.constantLong "com/example/elapse/elapse/load/PurgatoryResultKeptUpPinLaw" (9 : Nat) (100 : Int64)).before a0 Z = true := hw _ (List.mem_of_getElem? (i := 48) rfl)
theorem ow1 {a0 : Array Value} {Z : State} (hw : ∀ d ∈ tables_1, d.before a0 Z = true) : (Jvm.Cond.classLink "com/example/elapse/elapse/load/PurgatoryResultKeptUpPinLaw" (11 : Nat) "com/example/elapse/elapse/load/Lateness$Summary").before a0 Z = true := hw _ (List.mem_of_getElem? (i := 1) rfl)
theorem pd__IJJJ_V : parseMethodDescriptor "(IJJJ)V" = some ⟨[.int, .long, .long, .long], none⟩ := by decide +kernel
theorem ow6 {a0 : Array Value} {Z : State} (hw : ∀ d ∈ tables_1, d.before a0 Z = true) : (Jvm.Cond.code ({ cls := "com/example/elapse/elapse/load/Lateness$Summary", name := "<init>", desc := "(IJJJ)V" } : Jvm.MethodName) prog_38_method_1_code (8 : Nat) (Option.none : Option Jvm.ClassFile.FieldType)).before a0 Z = true := hw _ (List.mem_of_getElem? (i := 6) rfl)
theorem ow4 {a0 : Array Value} {Z : State} (hw : ∀ d ∈ tables_1, d.before a0 Z = true) : (Jvm.Cond.methodLink "com/example/elapse/elapse/load/PurgatoryResultKeptUpPinLaw" (13 : Nat) ({ cls := "com/example/elapse/elapse/load/Lateness$Summary", name := "<init>", desc := "(IJJJ)V" } : Jvm.MethodName)).before a0 Z = true := hw _ (List.mem_of_getElem? (i := 4) rfl)
theorem ow5 {a0 : Array Value} {Z : State} (hw : ∀ d ∈ tables_1, d.before a0 Z = true) : (Jvm.Cond.instanceMethod ({ cls := "com/example/elapse/elapse/load/Lateness$Summary", name := "<init>", desc := "(IJJJ)V" } : Jvm.MethodName)).before a0 Z = true := hw _ (List.mem_of_getElem? (i := 5) rfl)
theorem ow23 {a0 : Array Value} {Z : State} (hw : ∀ d ∈ tables_1, d.before a0 Z = true) : (Jvm.Cond.classLink "com/example/elapse/elapse/load/PurgatoryResultKeptUpPinLaw" (16 : Nat) "com/example/elapse/elapse/load/PurgatoryResult").before a0 Z = true := hw _ (List.mem_of_getElem? (i := 23) rfl)
theorem ow25 {a0 : Array Value} {Z : State} (hw : ∀ d ∈ tables_1, d.before a0 Z = true) : (Jvm.Cond.initialized "com/example/elapse/elapse/load/PurgatoryResult").before a0 Z = true := hw _ (List.mem_of_getElem? (i := 25) rfl)
theorem pd__Lcom_example_elapse_elapse_load_Contender_JJIJJJJLcom_example_elapse_elapse_load_Lateness_Summary__V : parseMethodDescriptor "(Lcom/example/elapse/elapse/load/Contender;JJIJJJJLcom/example/elapse/elapse/load/Lateness$Summary;)V" = some ⟨[(.object "com/example/elapse/elapse/load/Contender"), .long, .long, .int, .long, .long, .long, .long, (.object "com/example/elapse/elapse/load/Lateness$Summary")], none⟩ := by decide +kernel
theorem ow28 {a0 : Array Value} {Z : State} (hw : ∀ d ∈ tables_1, d.before a0 Z = true) : (Jvm.Cond.code ({ cls := "com/example/elapse/elapse/load/PurgatoryResult", name := "<init>", desc := "(Lcom/example/elapse/elapse/load/Contender;JJIJJJJLcom/example/elapse/elapse/load/Lateness$Summary;)V" } : Jvm.MethodName) prog_50_method_1_code (16 : Nat) (Option.none : Option Jvm.ClassFile.FieldType)).before a0 Z = true := hw _ (List.mem_of_getElem? (i := 28) rfl)
theorem ow26 {a0 : Array Value} {Z : State} (hw : ∀ d ∈ tables_1, d.before a0 Z = true) : (Jvm.Cond.methodLink "com/example/elapse/elapse/load/PurgatoryResultKeptUpPinLaw" (18 : Nat) ({ cls := "com/example/elapse/elapse/load/PurgatoryResult", name := "<init>", desc := "(Lcom/example/elapse/elapse/load/Contender;JJIJJJJLcom/example/elapse/elapse/load/Lateness$Summary;)V" } : Jvm.MethodName)).before a0 Z = true := hw _ (List.mem_of_getElem? (i := 26) rfl)
theorem ow27 {a0 : Array Value} {Z : State} (hw : ∀ d ∈ tables_1, d.before a0 Z = true) : (Jvm.Cond.instanceMethod ({ cls := "com/example/elapse/elapse/load/PurgatoryResult", name := "<init>", desc := "(Lcom/example/elapse/elapse/load/Contender;JJIJJJJLcom/example/elapse/elapse/load/Lateness$Summary;)V" } : Jvm.MethodName)).before a0 Z = true := hw _ (List.mem_of_getElem? (i := 27) rfl)
theorem ow56 {a0 : Array Value} {Z : State} (hw : ∀ d ∈ tables_1, d.before a0 Z = true) : (Jvm.Cond.constantLong "com/example/elapse/elapse/load/PurgatoryResultKeptUpPinLaw" (21 : Nat) (200 : Int64)).before a0 Z = true := hw _ (List.mem_of_getElem? (i := 56) rfl)
theorem pd___Z : parseMethodDescriptor "()Z" = some ⟨[], some .boolean⟩ := by decide +kernel
theorem ow53 {a0 : Array Value} {Z : State} (hw : ∀ d ∈ tables_1, d.before a0 Z = true) : (Jvm.Cond.code ({ cls := "com/example/elapse/elapse/load/PurgatoryResult", name := "keptUp", desc := "()Z" } : Jvm.MethodName) prog_50_method_2_code (1 : Nat) (Option.some Jvm.ClassFile.FieldType.boolean)).before a0 Z = true := hw _ (List.mem_of_getElem? (i := 53) rfl)
theorem ow49 {a0 : Array Value} {Z : State} (hw : ∀ d ∈ tables_1, d.before a0 Z = true) : (Jvm.Cond.methodLink "com/example/elapse/elapse/load/PurgatoryResultKeptUpPinLaw" (23 : Nat) ({ cls := "com/example/elapse/elapse/load/PurgatoryResult", name := "keptUp", desc := "()Z" } : Jvm.MethodName)).before a0 Z = true := hw _ (List.mem_of_getElem? (i := 49) rfl)
theorem ow50 {a0 : Array Value} {Z : State} (hw : ∀ d ∈ tables_1, d.before a0 Z = true) : (Jvm.Cond.declares ({ cls := "com/example/elapse/elapse/load/PurgatoryResult", name := "keptUp", desc := "()Z" } : Jvm.MethodName)).before a0 Z = true := hw _ (List.mem_of_getElem? (i := 50) rfl)
theorem ow52 {a0 : Array Value} {Z : State} (hw : ∀ d ∈ tables_1, d.before a0 Z = true) : (Jvm.Cond.selects "com/example/elapse/elapse/load/PurgatoryResult" ({ cls := "com/example/elapse/elapse/load/PurgatoryResult", name := "keptUp", desc := "()Z" } : Jvm.MethodName) ({ cls := "com/example/elapse/elapse/load/PurgatoryResult", name := "keptUp", desc := "()Z" } : Jvm.MethodName)).before a0 Z = true := hw _ (List.mem_of_getElem? (i := 52) rfl)
theorem ow51 {a0 : Array Value} {Z : State} (hw : ∀ d ∈ tables_1, d.before a0 Z = true) : (Jvm.Cond.instanceMethod ({ cls := "com/example/elapse/elapse/load/PurgatoryResult", name := "keptUp", desc := "()Z" } : Jvm.MethodName)).before a0 Z = true := hw _ (List.mem_of_getElem? (i := 51) rfl)
theorem ef_own_rm0 (m : MethodId) (x0 : Int64) (x1 : Int64) (x2 : Int64) (x3 : Int64) (x4 : Int64) (x5 : Int32) : entryFrame m #[(.long x0), (.long x1), (.long x2), (.long x3), (.long x4), (.int x5)] maxLocals = mkF m 0 #[.val (.long x0), .second, .val (.long x1), .second, .val (.long x2), .second, .val (.long x3), .second, .val (.long x4), .second, .val (.int x5), .unset, .unset, .unset, .unset, .unset, .unset, .unset, .unset, .unset, .unset, .unset, .unset, .unset, .unset] [] := by first | (simp [entryFrame, mkF, argsToLocals, Value.category, maxLocals]; done) | rfl
theorem pn_com_example_elapse_elapse_load_PurgatoryResultKeptUpPinLaw_law__JJJJJI_Z : plainFor (⟨"com/example/elapse/elapse/load/PurgatoryResultKeptUpPinLaw", "law", "(JJJJJI)Z"⟩ : MethodName) = true := plainFor_of_name (by first | (simp [plainName, overriddenIn]; done) | decide +kernel)
set_option maxRecDepth 65536 in
set_option maxHeartbeats 40000000 in
theorem own_rm0 (l : Launch) (Z : State) (a0 : Array Value) (hw : ∀ d ∈ tables_1, d.before a0 Z = true) (n0 : Nat) (hO : Heap) (p1 : Int64) (p2 : Int64) (p3 : Int64) (p4 : Int64) (p5 : Int64) (p6 : Int32) (Z0 : n0 ≤ hO.size) :
    MeetsW l Z n0 x code maxLocals ret room_1 #[(.long p1), (.long p2), (.long p3), (.long p4), (.long p5), (.int p6)] hO (RI fun r h => r = 1) := by
  refine MeetsW.intro (show plainFor x = true from pn_com_example_elapse_elapse_load_PurgatoryResultKeptUpPinLaw_law__JJJJJI_Z) (fun m => ef_own_rm0 m p1 p2 p3 p4 p5 p6) ?_
  intro W C
  replace C : Ru l Z "com/example/elapse/elapse/load/PurgatoryResultKeptUpPinLaw" code maxLocals ret "law" room_1 n0 (RI fun r h => r = 1) W := C
  have K : Keep hO hO [] := Keep.refl _ _
  refine C.lloadN (pc' := 1) at_0 rfl rfl ?_
  refine C.ldcJ (ow0 hw) (pc' := 4) at_1 rfl ?_
  refine C.land (pc' := 5) at_4 rfl ?_
  refine C.lstore (f := fun v_ => #[.val (.long p1), .second, .val (.long p2), .second, .val (.long p3), .second, .val (.long p4), .second, .val (.long p5), .second, .val (.int p6), .val (.long v_), .second, .unset, .unset, .unset, .unset, .unset, .unset, .unset, .unset, .unset, .unset, .unset, .unset]) (pc' := 7) at_5 rfl (fun _ => rfl) (fun v5 e5 => ?_)
  refine C.iload (pc' := 9) at_7 rfl rfl ?_
  refine C.iconst (v := 3) (pc' := 10) at_9 rfl rfl ?_
  refine C.iand (pc' := 11) at_10 rfl ?_
  refine C.iconst (v := 1) (pc' := 12) at_11 rfl rfl ?_
  refine C.isub (pc' := 13) at_12 rfl ?_
  refine C.istore (f := fun v_ => #[.val (.long p1), .second, .val (.long p2), .second, .val (.long p3), .second, .val (.long p4), .second, .val (.long p5), .second, .val (.int p6), .val (.long v5), .second, .val (.int v_), .unset, .unset, .unset, .unset, .unset, .unset, .unset, .unset, .unset, .unset, .unset]) (pc' := 15) at_13 rfl (fun _ => rfl) (fun v13 e13 => ?_)
  refine C.iload (pc' := 17) at_15 rfl rfl ?_
  refine C.iconst (v := 2) (pc' := 18) at_17 rfl rfl ?_
  refine C.ishr (s := 2) (pc' := 19) at_18 rfl (by decide) ?_
  refine C.iconst (v := 1) (pc' := 20) at_19 rfl rfl ?_
  refine C.iand (pc' := 21) at_20 rfl ?_
  have j29 : ∀ (s29_0 : Int32), ((((sarI p6 2) &&& (1 : Int32)) = (0 : Int32) ∧ s29_0 = (0 : Int32)) ∨ (¬ (((sarI p6 2) &&& (1 : Int32)) = (0 : Int32)) ∧ s29_0 = (1 : Int32))) → W hO 0 0 29 #[.val (.long p1), .second, .val (.long p2), .second, .val (.long p3), .second, .val (.long p4), .second, .val (.long p5), .second, .val (.int p6), .val (.long v5), .second, .val (.int v13), .unset, .unset, .unset, .unset, .unset, .unset, .unset, .unset, .unset, .unset, .unset] [(.int s29_0)] := by
    intro s29_0 x29
    refine C.istoreX (l' := #[.val (.long p1), .second, .val (.long p2), .second, .val (.long p3), .second, .val (.long p4), .second, .val (.long p5), .second, .val (.int p6), .val (.long v5), .second, .val (.int v13), .val (.int s29_0), .unset, .unset, .unset, .unset, .unset, .unset, .unset, .unset, .unset, .unset]) (pc' := 31) at_29 rfl rfl ?_
    refine C.iload (pc' := 33) at_31 rfl rfl ?_
    refine C.iconst (v := 3) (pc' := 34) at_33 rfl rfl ?_
    refine C.ishr (s := 3) (pc' := 35) at_34 rfl (by decide) ?_
    refine C.bipush (v := 7) (pc' := 37) at_35 rfl rfl ?_
    refine C.iand (pc' := 38) at_37 rfl ?_
    refine C.iconst (v := 4) (pc' := 39) at_38 rfl rfl ?_
    refine C.isub (pc' := 40) at_39 rfl ?_
    refine C.i2l (pc' := 41) at_40 rfl ?_
    refine C.lstore (f := fun v_ => #[.val (.long p1), .second, .val (.long p2), .second, .val (.long p3), .second, .val (.long p4), .second, .val (.long p5), .second, .val (.int p6), .val (.long v5), .second, .val (.int v13), .val (.int s29_0), .val (.long v_), .second, .unset, .unset, .unset, .unset, .unset, .unset, .unset, .unset]) (pc' := 43) at_41 rfl (fun _ => rfl) (fun v41 e41 => ?_)
    refine C.iload (pc' := 45) at_43 rfl rfl ?_
    refine C.bipush (v := 6) (pc' := 47) at_45 rfl rfl ?_
    refine C.ishr (s := 6) (pc' := 48) at_47 rfl (by decide) ?_
    refine C.istore (f := fun v_ => #[.val (.long p1), .second, .val (.long p2), .second, .val (.long p3), .second, .val (.long p4), .second, .val (.long p5), .second, .val (.int p6), .val (.long v5), .second, .val (.int v13), .val (.int s29_0), .val (.long v41), .second, .val (.int v_), .unset, .unset, .unset, .unset, .unset, .unset, .unset]) (pc' := 50) at_48 rfl (fun _ => rfl) (fun v48 e48 => ?_)
    refine C.iload (pc' := 52) at_50 rfl rfl ?_
    have j75 : ∀ (s75_0 : Int64), ((s29_0 = (0 : Int32) ∧ s75_0 = (p2 &&& (72057594037927935 : Int64))) ∨ (¬ (s29_0 = (0 : Int32)) ∧ s75_0 = ((v5 - (v5 / (100 : Int64))) + v41))) → W hO 0 0 75 #[.val (.long p1), .second, .val (.long p2), .second, .val (.long p3), .second, .val (.long p4), .second, .val (.long p5), .second, .val (.int p6), .val (.long v5), .second, .val (.int v13), .val (.int s29_0), .val (.long v41), .second, .val (.int v48), .unset, .unset, .unset, .unset, .unset, .unset, .unset] [(.long s75_0)] := by
      intro s75_0 x75
      refine C.lstoreX (l' := #[.val (.long p1), .second, .val (.long p2), .second, .val (.long p3), .second, .val (.long p4), .second, .val (.long p5), .second, .val (.int p6), .val (.long v5), .second, .val (.int v13), .val (.int s29_0), .val (.long v41), .second, .val (.int v48), .val (.long s75_0), .second, .unset, .unset, .unset, .unset, .unset]) (pc' := 77) at_75 rfl rfl ?_
      refine C.lload (pc' := 79) at_77 rfl rfl ?_
      refine C.lload (pc' := 81) at_79 rfl rfl ?_
      refine C.ladd (pc' := 82) at_81 rfl ?_
      refine C.iload (pc' := 84) at_82 rfl rfl ?_
      refine C.i2l (pc' := 85) at_84 rfl ?_
      refine C.ladd (pc' := 86) at_85 rfl ?_
      refine C.lstore (f := fun v_ => #[.val (.long p1), .second, .val (.long p2), .second, .val (.long p3), .second, .val (.long p4), .second, .val (.long p5), .second, .val (.int p6), .val (.long v5), .second, .val (.int v13), .val (.int s29_0), .val (.long v41), .second, .val (.int v48), .val (.long s75_0), .second, .val (.long v_), .second, .unset, .unset, .unset]) (pc' := 88) at_86 rfl (fun _ => rfl) (fun v86 e86 => ?_)
      refine C.new (ow1 hw) (ow2 hw) (ow3 hw) (pc' := 91) at_88 rfl (by decide) (by decide) (fun h88 b88 hb88 X88 E_b88 D88 => ?_)
      have sz_b88 : hO.size ≤ b88 := by rw [hb88]; exact K.1
      have g_b88 : n0 ≤ b88 := Nat.le_trans Z0 sz_b88
      replace K := K.ext X88
      have F_b88_early : Fld Z h88 b88 "com/example/elapse/elapse/load/Lateness$Summary" "early" "I" (.int (0 : Int32)) := D88 (Or.inr (ow16 hw)) pf_I
      have F_b88_p50 : Fld Z h88 b88 "com/example/elapse/elapse/load/Lateness$Summary" "p50" "J" (.long (0 : Int64)) := D88 (Or.inr (ow18 hw)) pf_J
      have F_b88_p99 : Fld Z h88 b88 "com/example/elapse/elapse/load/Lateness$Summary" "p99" "J" (.long (0 : Int64)) := D88 (Or.inr (ow20 hw)) pf_J
      have F_b88_max : Fld Z h88 b88 "com/example/elapse/elapse/load/Lateness$Summary" "max" "J" (.long (0 : Int64)) := D88 (Or.inr (ow22 hw)) pf_J
      refine C.dup (pc' := 92) at_91 rfl rfl ?_
      refine C.iload (pc' := 94) at_92 rfl rfl ?_
      refine C.lload (pc' := 96) at_94 rfl rfl ?_
      refine C.lload (pc' := 98) at_96 rfl rfl ?_
      refine C.lload (pc' := 100) at_98 rfl rfl ?_
      refine C.callc (w := 1) (own_rm1 l Z a0 hw n0 h88 b88 v48 p5 p3 p4 (Nat.le_trans Z0 K.1) E_b88 F_b88_early F_b88_p50 F_b88_p99 F_b88_max g_b88) rfl (ow4 hw) (ow5 hw) (ow3 hw) (ow6 hw) (pc' := 103) at_100 rfl rfl rfl (by decide) pd__IJJJ_V rfl (by decide) (Nat.le_of_eq rfl) (by decide) (by decide) (by decide) (kV fun h100 q100 => ?_)
      obtain ⟨K100, N100_0, N100_1⟩ := q100
      replace E_b88 := E_b88.keep K100
      have F_b88_early : Fld Z h100 b88 "com/example/elapse/elapse/load/Lateness$Summary" "early" "I" (.int v48) := N100_0
      have F_b88_p99 : Fld Z h100 b88 "com/example/elapse/elapse/load/Lateness$Summary" "p99" "J" (.long p3) := N100_1
      replace K := K.trans K100 (allS (Or.inr sz_b88) all0)
      refine C.astore (l' := #[.val (.long p1), .second, .val (.long p2), .second, .val (.long p3), .second, .val (.long p4), .second, .val (.long p5), .second, .val (.int p6), .val (.long v5), .second, .val (.int v13), .val (.int s29_0), .val (.long v41), .second, .val (.int v48), .val (.long s75_0), .second, .val (.long v86), .second, .val (.ref b88), .unset, .unset]) (pc' := 105) at_103 rfl rfl rfl ?_
      refine C.new (ow23 hw) (ow24 hw) (ow25 hw) (pc' := 108) at_105 rfl (by decide) (by decide) (fun h105 b105 hb105 X105 E_b105 D105 => ?_)
      have ne_b88_b105 : b88 ≠ b105 := by rw [hb105]; exact Nat.ne_of_lt (exaLt E_b88)
      have sz_b105 : hO.size ≤ b105 := by rw [hb105]; exact K.1
      have g_b105 : n0 ≤ b105 := Nat.le_trans Z0 sz_b105
      replace E_b88 := E_b88.ext X105
      replace F_b88_early := F_b88_early.ext X105
      replace F_b88_p99 := F_b88_p99.ext X105
      replace K := K.ext X105
      have F_b105_timer : Fld Z h105 b105 "com/example/elapse/elapse/load/PurgatoryResult" "timer" "Lcom/example/elapse/elapse/load/Contender;" .null := D105 (Or.inr (ow31 hw)) pf_Lcom_example_elapse_elapse_load_Contender_
      have F_b105_rate : Fld Z h105 b105 "com/example/elapse/elapse/load/PurgatoryResult" "rate" "J" (.long (0 : Int64)) := D105 (Or.inr (ow33 hw)) pf_J
      have F_b105_seconds : Fld Z h105 b105 "com/example/elapse/elapse/load/PurgatoryResult" "seconds" "J" (.long (0 : Int64)) := D105 (Or.inr (ow35 hw)) pf_J
      have F_b105_producers : Fld Z h105 b105 "com/example/elapse/elapse/load/PurgatoryResult" "producers" "I" (.int (0 : Int32)) := D105 (Or.inr (ow37 hw)) pf_I
      have F_b105_requests : Fld Z h105 b105 "com/example/elapse/elapse/load/PurgatoryResult" "requests" "J" (.long (0 : Int64)) := D105 (Or.inr (ow39 hw)) pf_J
      have F_b105_achievedRate : Fld Z h105 b105 "com/example/elapse/elapse/load/PurgatoryResult" "achievedRate" "J" (.long (0 : Int64)) := D105 (Or.inr (ow41 hw)) pf_J
      have F_b105_cancelled : Fld Z h105 b105 "com/example/elapse/elapse/load/PurgatoryResult" "cancelled" "J" (.long (0 : Int64)) := D105 (Or.inr (ow43 hw)) pf_J
      have F_b105_fired : Fld Z h105 b105 "com/example/elapse/elapse/load/PurgatoryResult" "fired" "J" (.long (0 : Int64)) := D105 (Or.inr (ow45 hw)) pf_J
      have F_b105_lateness : Fld Z h105 b105 "com/example/elapse/elapse/load/PurgatoryResult" "lateness" "Lcom/example/elapse/elapse/load/Lateness$Summary;" .null := D105 (Or.inr (ow47 hw)) pf_Lcom_example_elapse_elapse_load_Lateness_Summary_
      refine C.dup (pc' := 109) at_108 rfl rfl ?_
      refine C.aconstNull (pc' := 110) at_109 rfl ?_
      refine C.lload (pc' := 112) at_110 rfl rfl ?_
      refine C.lloadN (pc' := 113) at_112 rfl rfl ?_
      refine C.iload (pc' := 115) at_113 rfl rfl ?_
      refine C.lload (pc' := 117) at_115 rfl rfl ?_
      refine C.lload (pc' := 119) at_117 rfl rfl ?_
      refine C.lload (pc' := 121) at_119 rfl rfl ?_
      refine C.lload (pc' := 123) at_121 rfl rfl ?_
      refine C.aload (pc' := 125) at_123 rfl rfl rfl ?_
      refine C.callc (w := 1) (own_rm4 l Z a0 hw n0 h105 b105 v5 p2 p6 v86 s75_0 p5 p4 b88 (Nat.le_trans Z0 K.1) E_b105 F_b105_timer F_b105_rate F_b105_seconds F_b105_producers F_b105_requests F_b105_achievedRate F_b105_cancelled F_b105_fired F_b105_lateness g_b105) rfl (ow26 hw) (ow27 hw) (ow25 hw) (ow28 hw) (pc' := 128) at_125 rfl rfl rfl (by decide) pd__Lcom_example_elapse_elapse_load_Contender_JJIJJJJLcom_example_elapse_elapse_load_Lateness_Summary__V rfl (by decide) (Nat.le_of_eq rfl) (by decide) (by decide) (by decide) (kV fun h125 q125 => ?_)
      obtain ⟨K125, N125_0, N125_1, N125_2, N125_3, N125_4, N125_5⟩ := q125
      replace E_b88 := E_b88.keep K125
      replace F_b88_early := F_b88_early.keep K125 (ninS ne_b88_b105 nin0)
      replace F_b88_p99 := F_b88_p99.keep K125 (ninS ne_b88_b105 nin0)
      replace E_b105 := E_b105.keep K125
      have F_b105_rate : Fld Z h125 b105 "com/example/elapse/elapse/load/PurgatoryResult" "rate" "J" (.long v5) := N125_0
      have F_b105_requests : Fld Z h125 b105 "com/example/elapse/elapse/load/PurgatoryResult" "requests" "J" (.long v86) := N125_1
      have F_b105_achievedRate : Fld Z h125 b105 "com/example/elapse/elapse/load/PurgatoryResult" "achievedRate" "J" (.long s75_0) := N125_2
      have F_b105_cancelled : Fld Z h125 b105 "com/example/elapse/elapse/load/PurgatoryResult" "cancelled" "J" (.long p5) := N125_3
      have F_b105_fired : Fld Z h125 b105 "com/example/elapse/elapse/load/PurgatoryResult" "fired" "J" (.long p4) := N125_4
      have F_b105_lateness : Fld Z h125 b105 "com/example/elapse/elapse/load/PurgatoryResult" "lateness" "Lcom/example/elapse/elapse/load/Lateness$Summary;" (.ref b88) := N125_5
      replace K := K.trans K125 (allS (Or.inr sz_b105) all0)
      refine C.astore (l' := #[.val (.long p1), .second, .val (.long p2), .second, .val (.long p3), .second, .val (.long p4), .second, .val (.long p5), .second, .val (.int p6), .val (.long v5), .second, .val (.int v13), .val (.int s29_0), .val (.long v41), .second, .val (.int v48), .val (.long s75_0), .second, .val (.long v86), .second, .val (.ref b88), .val (.ref b105), .unset]) (pc' := 130) at_128 rfl rfl rfl ?_
      refine C.lload (pc' := 132) at_130 rfl rfl ?_
      refine C.lload (pc' := 134) at_132 rfl rfl ?_
      refine C.lsub (pc' := 135) at_134 rfl ?_
      refine C.lload (pc' := 137) at_135 rfl rfl ?_
      refine C.ldcJ (ow48 hw) (pc' := 140) at_137 rfl ?_
      refine C.ldiv (pc' := 141) at_140 rfl (by decide) ?_
      have j169 : ∀ (s169_0 : Int32), (((v5 / (100 : Int64)) < (v5 - s75_0) ∧ s169_0 = (0 : Int32)) ∨ (¬ ((v5 / (100 : Int64)) < (v5 - s75_0)) ∧ (200 : Int64) < p3 ∧ s169_0 = (0 : Int32)) ∨ (¬ ((v5 / (100 : Int64)) < (v5 - s75_0)) ∧ ¬ ((200 : Int64) < p3) ∧ ¬ (v48 = (0 : Int32)) ∧ s169_0 = (0 : Int32)) ∨ (¬ ((v5 / (100 : Int64)) < (v5 - s75_0)) ∧ ¬ ((200 : Int64) < p3) ∧ v48 = (0 : Int32) ∧ ¬ (v13 = (0 : Int32)) ∧ s169_0 = (0 : Int32)) ∨ (¬ ((v5 / (100 : Int64)) < (v5 - s75_0)) ∧ ¬ ((200 : Int64) < p3) ∧ v48 = (0 : Int32) ∧ v13 = (0 : Int32) ∧ s169_0 = (1 : Int32))) → W h125 2 13 169 #[.val (.long p1), .second, .val (.long p2), .second, .val (.long p3), .second, .val (.long p4), .second, .val (.long p5), .second, .val (.int p6), .val (.long v5), .second, .val (.int v13), .val (.int s29_0), .val (.long v41), .second, .val (.int v48), .val (.long s75_0), .second, .val (.long v86), .second, .val (.ref b88), .val (.ref b105), .unset] [(.int s169_0)] := by
        intro s169_0 x169
        refine C.istoreX (l' := #[.val (.long p1), .second, .val (.long p2), .second, .val (.long p3), .second, .val (.long p4), .second, .val (.long p5), .second, .val (.int p6), .val (.long v5), .second, .val (.int v13), .val (.int s29_0), .val (.long v41), .second, .val (.int v48), .val (.long s75_0), .second, .val (.long v86), .second, .val (.ref b88), .val (.ref b105), .val (.int s169_0)]) (pc' := 171) at_169 rfl rfl ?_
        refine C.aload (pc' := 173) at_171 rfl rfl rfl ?_
        refine C.callv (w := 0) (own_rm5 l Z a0 hw n0 h125 b105 b88 s75_0 v5 p3 v48 p4 p5 v86 F_b105_lateness F_b105_achievedRate F_b105_rate F_b105_fired F_b105_cancelled F_b105_requests E_b88 F_b88_p99 F_b88_early) E_b105 (ow49 hw) (ow50 hw) (ow52 hw) (ow51 hw) (ow25 hw) (ow53 hw) (pc' := 176) at_173 rfl rfl rfl (by decide) pd___Z rfl (by decide) (Nat.le_of_eq rfl) (by decide) (by decide) (by decide) (kIe ?_)
        refine C.iload (pc' := 178) at_176 rfl rfl ?_
        refine C.icmp_ne (pc' := 181) (pt := 185) at_178 rfl rfl (fun c178 => absurd (own_law e5 e41 x75 e86 x169) c178) (fun c178 => ?_)
        refine C.iconst (v := 1) (pc' := 182) at_181 rfl rfl ?_
        refine C.goto (pc' := 186) at_182 rfl ?_
        refine C.retZ (show ret = some .boolean from rfl) (by decide) at_186 (by decide) (by decide) ⟨_, rfl, rfl⟩
      refine C.lif_gt (pc' := 145) (pt := 168) at_141 rfl at_142 rfl rfl (fun c141 => ?_) (fun c141 => ?_)
      · skip
        refine C.iconst (v := 0) (pc' := 169) at_168 rfl rfl ?_
        exact C.mono (by decide) (by decide) (j169 _ (Or.inl ⟨c141, rfl⟩))
      · skip
        refine C.lload (pc' := 147) at_145 rfl rfl ?_
        refine C.ldcJ (ow56 hw) (pc' := 150) at_147 rfl ?_
        refine C.lif_gt (pc' := 154) (pt := 168) at_150 rfl at_151 rfl rfl (fun c150 => ?_) (fun c150 => ?_)
        · skip
          refine C.iconst (v := 0) (pc' := 169) at_168 rfl rfl ?_
          exact C.mono (by decide) (by decide) (j169 _ (Or.inr (Or.inl ⟨c141, c150, rfl⟩)))
        · skip
          refine C.iload (pc' := 156) at_154 rfl rfl ?_
          refine C.if_ne (pc' := 159) (pt := 168) at_156 rfl rfl (fun c156 => ?_) (fun c156 => ?_)
          · skip
            refine C.iconst (v := 0) (pc' := 169) at_168 rfl rfl ?_
            exact C.mono (by decide) (by decide) (j169 _ (Or.inr (Or.inr (Or.inl ⟨c141, c150, c156, rfl⟩))))
          · skip
            refine C.iload (pc' := 161) at_159 rfl rfl ?_
            refine C.if_ne (pc' := 164) (pt := 168) at_161 rfl rfl (fun c161 => ?_) (fun c161 => ?_)
            · skip
              refine C.iconst (v := 0) (pc' := 169) at_168 rfl rfl ?_
              exact C.mono (by decide) (by decide) (j169 _ (Or.inr (Or.inr (Or.inr (Or.inl ⟨c141, c150, c156, c161, rfl⟩)))))
            · skip
              refine C.iconst (v := 1) (pc' := 165) at_164 rfl rfl ?_
              refine C.goto (pc' := 169) at_165 rfl ?_
              exact C.mono (by decide) (by decide) (j169 _ (Or.inr (Or.inr (Or.inr (Or.inr ⟨c141, c150, c156, c161, rfl⟩)))))
    refine C.if_eq (pc' := 55) (pt := 70) at_52 rfl rfl (fun c52 => ?_) (fun c52 => ?_)
    · skip
      refine C.lloadN (pc' := 71) at_70 rfl rfl ?_
      refine C.ldcJ (ow0 hw) (pc' := 74) at_71 rfl ?_
      refine C.land (pc' := 75) at_74 rfl ?_
      exact C.mono (by decide) (by decide) (j75 _ (Or.inl ⟨c52, rfl⟩))
    · skip
      refine C.lload (pc' := 57) at_55 rfl rfl ?_
      refine C.lload (pc' := 59) at_57 rfl rfl ?_
      refine C.ldcJ (ow48 hw) (pc' := 62) at_59 rfl ?_
      refine C.ldiv (pc' := 63) at_62 rfl (by decide) ?_
      refine C.lsub (pc' := 64) at_63 rfl ?_
      refine C.lload (pc' := 66) at_64 rfl rfl ?_
      refine C.ladd (pc' := 67) at_66 rfl ?_
      refine C.goto (pc' := 75) at_67 rfl ?_
      exact C.mono (by decide) (by decide) (j75 _ (Or.inr ⟨c52, rfl⟩))
  refine C.if_eq (pc' := 24) (pt := 28) at_21 rfl rfl (fun c21 => ?_) (fun c21 => ?_)
  · skip
    refine C.iconst (v := 0) (pc' := 29) at_28 rfl rfl ?_
    exact C.mono (by decide) (by decide) (j29 _ (Or.inl ⟨c21, rfl⟩))
  · skip
    refine C.iconst (v := 1) (pc' := 25) at_24 rfl rfl ?_
    refine C.goto (pc' := 29) at_25 rfl ?_
    exact C.mono (by decide) (by decide) (j29 _ (Or.inr ⟨c21, rfl⟩))
set_option maxRecDepth 65536 in
set_option maxHeartbeats 40000000 in
theorem comes_1 {Post : Tables → Env → Array Value → State → Outcome → State → Prop} (hpost : ∀ tb e args s v u, (limb_1_1.after args s (.returned v) u = true ∧ limb_1_2.after args s (.returned v) u = true ∧ True) → FrameEnd s (.returned v) u (Jvm.fieldLocs frame_1_writes args s ++ Jvm.arrayLocs frame_1_arrays args s ++ Jvm.staticLocs frame_1_statics s) 16 128 → Post tb e args s (.returned v) u) :
    ArmFor flags0 classFile x code maxLocals ret World_1 tables_1 room_1 Calls_1 rest_1 Pre_1 Post := by
  intro l hfl _ _ p e ha hc hk s m args below hf hA hF happ hP
  obtain ⟨hcalls, hrest, hpre⟩ := hP
  obtain ⟨-, -, -, hnamed, -, -, -, hat⟩ := (Spec.applies_iff hf).mp happ
  obtain ⟨hg, hn⟩ := and_e (Cond.before_iff.mp (show (Jvm.Cond.and given_1 narrow_1).before args s = true from hpre))
  obtain ⟨g0, t0⟩ := and_e hg
  obtain ⟨k0, t1⟩ := and_e t0
  obtain ⟨k1, t2⟩ := and_e t1
  obtain ⟨k2, t3⟩ := and_e t2
  obtain ⟨k3, t4⟩ := and_e t3
  obtain ⟨k4, t5⟩ := and_e t4
  obtain ⟨w0_, w1_, w2_, w3_, w4_, w5_, rfl⟩ : ∃ w0_ w1_ w2_ w3_ w4_ w5_ : Value, args = #[w0_, w1_, w2_, w3_, w4_, w5_] := by
    have hs : args.size = 6 := by simpa [Cond.value, given_1] using g0
    obtain ⟨L⟩ := args
    match L, hs with
    | [w0_, w1_, w2_, w3_, w4_, w5_], _ => exact ⟨w0_, w1_, w2_, w3_, w4_, w5_, rfl⟩
  have hw := fun d (hd : d ∈ tables_1) => atoms_spec (ws := Jvm.Cond.code x code maxLocals ret :: tables_1) hat d (List.mem_cons_of_mem _ hd)
  obtain ⟨i0_, e0_⟩ := isL_v k0
  obtain rfl : w0_ = (.long i0_) := Option.some.inj e0_
  obtain ⟨i1_, e1_⟩ := isL_v k1
  obtain rfl : w1_ = (.long i1_) := Option.some.inj e1_
  obtain ⟨i2_, e2_⟩ := isL_v k2
  obtain rfl : w2_ = (.long i2_) := Option.some.inj e2_
  obtain ⟨i3_, e3_⟩ := isL_v k3
  obtain rfl : w3_ = (.long i3_) := Option.some.inj e3_
  obtain ⟨i4_, e4_⟩ := isL_v k4
  obtain rfl : w4_ = (.long i4_) := Option.some.inj e4_
  obtain ⟨i5_, e5_⟩ := is_v t5
  obtain rfl : w5_ = (.int i5_) := Option.some.inj e5_
  obtain ⟨n, o, h1, h2, h3, _, L, rfl, ⟨N, _, rfl, rfl⟩, hq⟩ := own_rm0 l s _ hw s.heap.size s.heap i0_ i1_ i2_ i3_ i4_ i5_  (Nat.le_refl _)  tables_1 p e ha hc hk s m _ below hf ((Spec.applies_iff_loose hf).mp happ).1 ⟨rfl, State.Warmed39.refl s, rfl⟩ trivial
  refine ⟨n, _, h1, h2, h3, hpost _ _ _ _ _ _ ⟨Cond.after_iff.mpr rfl, Cond.after_iff.mpr (eq_i res_at (Term.int_eval (1)) rfl), trivial⟩ ⟨hq.1, hq.2.1, (hq.2.2.sift fun y hy => Or.inr (N y hy)).mono (by decide) (by decide)⟩⟩
theorem main_1_1 : Claimed_1_1 := comes_1 fun _ _ _ _ _ _ h hF => ⟨h.1, hF⟩
theorem main_1_2 : Claimed_1_2 := comes_1 fun _ _ _ _ _ _ h hF => ⟨h.2.1, hF⟩
end Jvm.Pilot.@@N@@
namespace Jvm.Pilot.@@N@@
open Jvm Jvm.ClassFile Sem Op Lib Jvm.Free Jvm.Stand Jvm.Pilot.@@N@@.Jvm.D
/-! MADE BY PROGRAM (witnessworld.py) out of the Statement's table words and the real class files: 12 classes; the members and pool entries that the words name. The judged class is class 1, her method 1. -/
namespace start1
open Jvm.ClassFile
def u (s : String) : CpInfo := .utf8 (stringToUtf16 s)
/-- a pool by its gaps: so many unusable entries, then the entry; so many at the end -/
def gap : Nat → List CpInfo → List CpInfo
  | 0, r => r
  | n + 1, r => .unusable :: gap n r
def poolList (es : List (Nat × CpInfo)) (last : Nat) : List CpInfo := es.foldr (fun e r => gap e.1 (e.2 :: r)) (gap last [])
def pool (es : List (Nat × CpInfo)) (last : Nat) : Array CpInfo := ⟨poolList es last⟩
def fileOf (pool : Array CpInfo) (this : Nat) (attrs : Array Attribute := #[]) (ms : Array MethodInfo := #[]) (fl : Nat := 33) (sup : Nat := 0) (ifs : Array Nat := #[]) (fds : Array FieldInfo := #[]) : ClassFile where
  minorVersion := 0
  majorVersion := 65
  constantPool := pool
  accessFlags := fl
  thisClass := this
  superClass := sup
  interfaces := ifs
  fields := fds
  methods := ms
  attributes := attrs
def plain (name : String) (sup : Option ClassId) : Class where
  name := name
  kind := .ordinary
  loader := none
  accessFlags := 33
  super := sup
  interfaces := #[]
  cf := none
  fields := #[]
  methods := #[]
  instanceTypes := #[]
  staticTypes := #[]
  resolved := #[]
  callSites := []
  init := .initialized
  statics := none
  mirror := none

def pool0 : Array CpInfo := pool [(5, u "<init>"), (0, u "()V"), (1, .class_ 10), (1, u "java/lang/Object")] 113

def k0c0 : Code := { maxStack := 0, maxLocals := 1, code := object_method_1_code, exceptionTable := #[], attributes := #[] }
def k0m0 : Method := { name := "<init>", desc := "()V", sig := { parameters := [], returnType := none }, accessFlags := 1, code := some k0c0 }
/-- java/lang/Object -/
def k0 : Class := { plain "java/lang/Object" none with
  accessFlags := 33
  interfaces := #[]
  cf := some (fileOf pool0 8 #[] #[{ accessFlags := 1, nameIndex := 5, descriptorIndex := 6, attributes := #[] }] 33 0 #[] #[])
  fields := #[]
  methods := #[k0m0]
  instanceTypes := #[]
  staticTypes := #[]
  resolved := Array.replicate 124 none
  statics := none }

def pool1 : Array CpInfo := pool [(2, .class_ 4), (1, u "java/lang/Object"), (0, u "<init>"), (0, u "()V"), (0, .long 72057594037927935), (1, .long 100), (1, .class_ 12), (0, u "com/example/elapse/elapse/load/Lateness$Summary"), (0, .methodref 11 14), (0, .nameAndType 5 15), (0, u "(IJJJ)V"), (0, .class_ 17), (0, u "com/example/elapse/elapse/load/PurgatoryResult"), (0, .methodref 16 19), (0, .nameAndType 5 20), (0, u "(Lcom/example/elapse/elapse/load/Contender;JJIJJJJLcom/example/elapse/elapse/load/Lateness$Summary;)V"), (0, .long 200), (1, .methodref 16 24), (0, .nameAndType 25 26), (0, u "keptUp"), (0, u "()Z"), (0, .class_ 28), (0, u "com/example/elapse/elapse/load/PurgatoryResultKeptUpPinLaw"), (2, u "law"), (0, u "(JJJJJI)Z")] 7

def k1m0 : Method := { name := "<init>", desc := "()V", sig := { parameters := [], returnType := none }, accessFlags := 1, code := none }
def k1c1 : Code := { maxStack := 17, maxLocals := 25, code := code, exceptionTable := #[], attributes := #[] }
def k1m1 : Method := { name := "law", desc := "(JJJJJI)Z", sig := { parameters := [.long, .long, .long, .long, .long, .int], returnType := some .boolean }, accessFlags := 9, code := some k1c1 }
/-- com/example/elapse/elapse/load/PurgatoryResultKeptUpPinLaw -/
def k1 : Class := { plain "com/example/elapse/elapse/load/PurgatoryResultKeptUpPinLaw" (some 0) with
  accessFlags := 49
  interfaces := #[]
  cf := some (fileOf pool1 27 #[] #[{ accessFlags := 1, nameIndex := 5, descriptorIndex := 6, attributes := #[] }, { accessFlags := 9, nameIndex := 31, descriptorIndex := 32, attributes := #[] }] 49 2 #[] #[])
  fields := #[]
  methods := #[k1m0, k1m1]
  instanceTypes := #[]
  staticTypes := #[]
  resolved := Array.replicate 40 none
  statics := none }

def pool2 : Array CpInfo := pool [(1, .methodref 2 3), (0, .class_ 4), (0, .nameAndType 5 6), (0, u "java/lang/Object"), (0, u "<init>"), (0, u "()V"), (0, .class_ 8), (0, u "java/lang/Record")] 13

def k2c0 : Code := { maxStack := 1, maxLocals := 1, code := jdk_30_method_1_code, exceptionTable := #[], attributes := #[] }
def k2m0 : Method := { name := "<init>", desc := "()V", sig := { parameters := [], returnType := none }, accessFlags := 4, code := some k2c0 }
/-- java/lang/Record -/
def k2 : Class := { plain "java/lang/Record" (some 0) with
  accessFlags := 1057
  interfaces := #[]
  cf := some (fileOf pool2 7 #[] #[{ accessFlags := 4, nameIndex := 5, descriptorIndex := 6, attributes := #[] }] 1057 2 #[] #[])
  fields := #[]
  methods := #[k2m0]
  instanceTypes := #[]
  staticTypes := #[]
  resolved := Array.replicate 22 none
  statics := none }

def pool3 : Array CpInfo := pool [(1, .methodref 2 3), (0, .class_ 4), (0, .nameAndType 5 6), (0, u "java/lang/Record"), (0, u "<init>"), (0, u "()V"), (0, .fieldref 8 9), (0, .class_ 10), (0, .nameAndType 11 12), (0, u "com/example/elapse/elapse/load/Lateness$Summary"), (0, u "early"), (0, u "I"), (0, .fieldref 8 14), (0, .nameAndType 15 16), (0, u "p50"), (0, u "J"), (0, .fieldref 8 18), (0, .nameAndType 19 16), (0, u "p99"), (0, .fieldref 8 21), (0, .nameAndType 22 16), (0, u "max"), (12, u "(IJJJ)V"), (4, u "()I"), (1, u "()J"), (3, .class_ 47), (0, u "com/example/elapse/elapse/load/Lateness")] 22

def k3c0 : Code := { maxStack := 3, maxLocals := 8, code := prog_38_method_1_code, exceptionTable := #[], attributes := #[] }
def k3m0 : Method := { name := "<init>", desc := "(IJJJ)V", sig := { parameters := [.int, .long, .long, .long], returnType := none }, accessFlags := 0, code := some k3c0 }
def k3c1 : Code := { maxStack := 1, maxLocals := 1, code := prog_38_method_5_code, exceptionTable := #[], attributes := #[] }
def k3m1 : Method := { name := "early", desc := "()I", sig := { parameters := [], returnType := some .int }, accessFlags := 1, code := some k3c1 }
def k3c2 : Code := { maxStack := 2, maxLocals := 1, code := prog_38_method_7_code, exceptionTable := #[], attributes := #[] }
def k3m2 : Method := { name := "p99", desc := "()J", sig := { parameters := [], returnType := some .long }, accessFlags := 1, code := some k3c2 }
/-- com/example/elapse/elapse/load/Lateness$Summary -/
def k3 : Class := { plain "com/example/elapse/elapse/load/Lateness$Summary" (some 2) with
  accessFlags := 48
  interfaces := #[]
  cf := some (fileOf pool3 8 #[.nestHost 46] #[{ accessFlags := 0, nameIndex := 5, descriptorIndex := 35, attributes := #[] }, { accessFlags := 1, nameIndex := 11, descriptorIndex := 40, attributes := #[] }, { accessFlags := 1, nameIndex := 19, descriptorIndex := 42, attributes := #[] }] 48 2 #[] #[{ accessFlags := 18, nameIndex := 11, descriptorIndex := 12, attributes := #[] }, { accessFlags := 18, nameIndex := 15, descriptorIndex := 16, attributes := #[] }, { accessFlags := 18, nameIndex := 19, descriptorIndex := 16, attributes := #[] }, { accessFlags := 18, nameIndex := 22, descriptorIndex := 16, attributes := #[] }])
  fields := #[{ name := "early", type := .int, accessFlags := 18, slot := 0, constantValue := 0 }, { name := "p50", type := .long, accessFlags := 18, slot := 1, constantValue := 0 }, { name := "p99", type := .long, accessFlags := 18, slot := 2, constantValue := 0 }, { name := "max", type := .long, accessFlags := 18, slot := 3, constantValue := 0 }]
  methods := #[k3m0, k3m1, k3m2]
  instanceTypes := #[.int, .long, .long, .long]
  staticTypes := #[]
  resolved := Array.replicate 70 none
  statics := none }

def pool4 : Array CpInfo := pool [(8, .class_ 10), (1, u "com/example/elapse/elapse/load/Workload$Result"), (46, .class_ 58), (0, u "java/lang/Object"), (11, .class_ 71), (0, u "com/example/elapse/elapse/load/Workload")] 4

/-- com/example/elapse/elapse/load/Workload$Result -/
def k4 : Class := { plain "com/example/elapse/elapse/load/Workload$Result" (some 0) with
  accessFlags := 1537
  interfaces := #[]
  cf := some (fileOf pool4 8 #[.nestHost 70] #[] 1537 57 #[] #[])
  fields := #[]
  methods := #[]
  instanceTypes := #[]
  staticTypes := #[]
  resolved := Array.replicate 76 none
  statics := none }

def pool5 : Array CpInfo := pool [(1, .methodref 2 3), (0, .class_ 4), (0, .nameAndType 5 6), (0, u "java/lang/Record"), (0, u "<init>"), (0, u "()V"), (0, .fieldref 8 9), (0, .class_ 10), (0, .nameAndType 11 12), (0, u "com/example/elapse/elapse/load/PurgatoryResult"), (0, u "timer"), (0, u "Lcom/example/elapse/elapse/load/Contender;"), (0, .fieldref 8 14), (0, .nameAndType 15 16), (0, u "rate"), (0, u "J"), (0, .fieldref 8 18), (0, .nameAndType 19 16), (0, u "seconds"), (0, .fieldref 8 21), (0, .nameAndType 22 23), (0, u "producers"), (0, u "I"), (0, .fieldref 8 25), (0, .nameAndType 26 16), (0, u "requests"), (0, .fieldref 8 28), (0, .nameAndType 29 16), (0, u "achievedRate"), (0, .fieldref 8 31), (0, .nameAndType 32 16), (0, u "cancelled"), (0, .fieldref 8 34), (0, .nameAndType 35 16), (0, u "fired"), (0, .fieldref 8 37), (0, .nameAndType 38 39), (0, u "lateness"), (0, u "Lcom/example/elapse/elapse/load/Lateness$Summary;"), (0, .long 100), (1, .long 99), (1, .methodref 45 46), (0, .class_ 47), (0, .nameAndType 48 49), (0, u "com/example/elapse/elapse/load/Lateness$Summary"), (0, u "p99"), (0, u "()J"), (0, .long 200), (1, .methodref 45 53), (0, .nameAndType 54 55), (0, u "early"), (0, u "()I"), (2, .class_ 59), (0, u "com/example/elapse/elapse/load/PurgatoryResult$Key"), (84, u "keptUp"), (0, u "()Z"), (21, .class_ 168), (0, u "com/example/elapse/elapse/load/Workload$Result"), (0, u "KEPT_UP_P99"), (1, u "(Lcom/example/elapse/elapse/load/Contender;JJIJJJJLcom/example/elapse/elapse/load/Lateness$Summary;)V")] 57

def k5c0 : Code := { maxStack := 3, maxLocals := 16, code := prog_50_method_1_code, exceptionTable := #[], attributes := #[] }
def k5m0 : Method := { name := "<init>", desc := "(Lcom/example/elapse/elapse/load/Contender;JJIJJJJLcom/example/elapse/elapse/load/Lateness$Summary;)V", sig := { parameters := [(.object "com/example/elapse/elapse/load/Contender"), .long, .long, .int, .long, .long, .long, .long, (.object "com/example/elapse/elapse/load/Lateness$Summary")], returnType := none }, accessFlags := 0, code := some k5c0 }
def k5c1 : Code := { maxStack := 6, maxLocals := 1, code := prog_50_method_2_code, exceptionTable := #[], attributes := #[] }
def k5m1 : Method := { name := "keptUp", desc := "()Z", sig := { parameters := [], returnType := some .boolean }, accessFlags := 0, code := some k5c1 }
/-- com/example/elapse/elapse/load/PurgatoryResult -/
def k5 : Class := { plain "com/example/elapse/elapse/load/PurgatoryResult" (some 2) with
  accessFlags := 48
  interfaces := #[4]
  cf := some (fileOf pool5 8 #[.nestMembers #[58]] #[{ accessFlags := 0, nameIndex := 5, descriptorIndex := 171, attributes := #[] }, { accessFlags := 0, nameIndex := 144, descriptorIndex := 145, attributes := #[] }] 48 2 #[167] #[{ accessFlags := 18, nameIndex := 11, descriptorIndex := 12, attributes := #[] }, { accessFlags := 18, nameIndex := 15, descriptorIndex := 16, attributes := #[] }, { accessFlags := 18, nameIndex := 19, descriptorIndex := 16, attributes := #[] }, { accessFlags := 18, nameIndex := 22, descriptorIndex := 23, attributes := #[] }, { accessFlags := 18, nameIndex := 26, descriptorIndex := 16, attributes := #[] }, { accessFlags := 18, nameIndex := 29, descriptorIndex := 16, attributes := #[] }, { accessFlags := 18, nameIndex := 32, descriptorIndex := 16, attributes := #[] }, { accessFlags := 18, nameIndex := 35, descriptorIndex := 16, attributes := #[] }, { accessFlags := 18, nameIndex := 38, descriptorIndex := 39, attributes := #[] }, { accessFlags := 26, nameIndex := 169, descriptorIndex := 16, attributes := #[] }])
  fields := #[{ name := "timer", type := (.object "com/example/elapse/elapse/load/Contender"), accessFlags := 18, slot := 0, constantValue := 0 }, { name := "rate", type := .long, accessFlags := 18, slot := 1, constantValue := 0 }, { name := "seconds", type := .long, accessFlags := 18, slot := 2, constantValue := 0 }, { name := "producers", type := .int, accessFlags := 18, slot := 3, constantValue := 0 }, { name := "requests", type := .long, accessFlags := 18, slot := 4, constantValue := 0 }, { name := "achievedRate", type := .long, accessFlags := 18, slot := 5, constantValue := 0 }, { name := "cancelled", type := .long, accessFlags := 18, slot := 6, constantValue := 0 }, { name := "fired", type := .long, accessFlags := 18, slot := 7, constantValue := 0 }, { name := "lateness", type := (.object "com/example/elapse/elapse/load/Lateness$Summary"), accessFlags := 18, slot := 8, constantValue := 0 }, { name := "KEPT_UP_P99", type := .long, accessFlags := 26, slot := 0, constantValue := 0 }]
  methods := #[k5m0, k5m1]
  instanceTypes := #[(.object "com/example/elapse/elapse/load/Contender"), .long, .long, .int, .long, .long, .long, .long, (.object "com/example/elapse/elapse/load/Lateness$Summary")]
  staticTypes := #[.long]
  resolved := Array.replicate 229 none
  statics := none }

def pool6 : Array CpInfo := pool [(1, u "java/lang/Cloneable"), (0, .class_ 1), (0, u "java/lang/Object"), (0, .class_ 3)] 3

/-- java/lang/Cloneable -/
def k6 : Class := { plain "java/lang/Cloneable" (some 0) with
  accessFlags := 1537
  interfaces := #[]
  cf := some (fileOf pool6 2 #[] #[] 1537 4 #[] #[])
  fields := #[]
  methods := #[]
  instanceTypes := #[]
  staticTypes := #[]
  resolved := Array.replicate 8 none
  statics := none }

def pool7 : Array CpInfo := pool [(1, u "java/io/Serializable"), (0, .class_ 1), (0, u "java/lang/Object"), (0, .class_ 3)] 3

/-- java/io/Serializable -/
def k7 : Class := { plain "java/io/Serializable" (some 0) with
  accessFlags := 1537
  interfaces := #[]
  cf := some (fileOf pool7 2 #[] #[] 1537 4 #[] #[])
  fields := #[]
  methods := #[]
  instanceTypes := #[]
  staticTypes := #[]
  resolved := Array.replicate 8 none
  statics := none }

/-- the primitive byte -/
def k8 : Class := { plain "byte" none with kind := .primitive 'B', accessFlags := 0x411 }
/-- [B -/
def k9 : Class := { plain "[B" (some 0) with kind := .array 8 .byte, interfaces := #[6, 7], accessFlags := 1041 }

/-- the primitive int -/
def k10 : Class := { plain "int" none with kind := .primitive 'I', accessFlags := 0x411 }
/-- [I -/
def k11 : Class := { plain "[I" (some 0) with kind := .array 10 .int, interfaces := #[6, 7], accessFlags := 1041 }

def heap : Heap := #[]
def classes : Array Class := #[k0, k1, k2, k3, k4, k5, k6, k7, k8, k9, k10, k11]
def interned : List (Array UInt16 × Addr) := []
def slotsUsed : Nat := 0
def theMethod : MethodId := ⟨1, 1⟩
def args0 : Array Value := #[.long 5, .long 5, .long 5, .long 5, .long 5, .int 3]
def aboutOver (below : List Frame) : State where
  vm := { classes := classes, interned := interned.toArray }
  heap := heap
  slotsUsed := slotsUsed
  threads := #[{ frames := .invoking theMethod args0 :: below }]
def below0 : List Frame := [.native { method := ⟨0, 0⟩, args := #[] }]
def about1 : State := aboutOver below0
def p0 : Program := .bare "" "" ""
def e0 : Env := launch0.env 0 0 0
theorem w_frames : about1.frames = Frame.invoking theMethod args0 :: below0 := rfl
set_option maxRecDepth 65536 in
theorem w_args : argsFit about1.vm theMethod args0 = true := by decide +kernel
set_option maxRecDepth 65536 in
theorem w_heap : heapFits about1 = true := by decide +kernel
set_option maxRecDepth 65536 in
theorem w_runnable : about1.curStatus? = some .runnable := by decide +kernel
set_option maxRecDepth 65536 in
theorem w_alone : about1.alone = true := by decide +kernel
set_option maxRecDepth 65536 in
theorem w_named : about1.methodNamed? x = some theMethod := by decide +kernel
set_option maxRecDepth 65536 in
theorem w_hears : about1.hears theMethod below0 = true := by decide +kernel
set_option maxRecDepth 65536 in
theorem w_ripe : about1.ripe theMethod args0 below0 = true := by decide +kernel
theorem w_running : about1.status = .running := rfl
set_option maxRecDepth 65536 in
theorem w_room : about1.hasRoom e0.platform room_1 = true :=
  launch0.hasRoom_least _ room_1 (by decide +kernel) (by decide +kernel) (by decide +kernel) (by decide +kernel) (by decide +kernel) (by decide +kernel)
theorem allAtoms_all (ts : List Jvm.Cond) (a : Array Jvm.Value) (st : Jvm.State) : (allAtoms ts).before a st = ts.all (fun c => c.before a st) := by
  induction ts with
  | nil => rfl
  | cons c t ih =>
    show (Jvm.Cond.and c (allAtoms t)).before a st = _
    rw [Jvm.Cond.before_and, ih, List.all_cons]
def words1 : List Jvm.Cond := Jvm.Cond.code x code maxLocals ret :: tables_1
/-- a 'code' word, met by the world's own term for the bytes: nothing is compared byte by byte -/
theorem code_word {y : MethodName} {bytes : ByteArray} {mx : Nat} {rt : Option FieldType} {a : Array Value} {s : State} {m : MethodId} {meth : Method} {c : Code} (h1 : s.methodNamed? y = some m) (h2 : s.vm.method? m = some meth) (h3 : meth.code = some c) (h4 : c.code = bytes)
    (h5 : (c.maxLocals == mx && c.exceptionTable.isEmpty && decide (c.maxStack ≤ mostOperands) && decide (meth.sig.returnType = rt) && !meth.locks && decide (parseMethodDescriptor y.desc = some meth.sig)) = true) : (Jvm.Cond.code y bytes mx rt).before a s = true := by
  simp only [Bool.and_eq_true, beq_iff_eq, Bool.not_eq_true', decide_eq_true_eq] at h5
  obtain ⟨⟨⟨⟨⟨g1, g2⟩, g3⟩, g4⟩, g5⟩, g6⟩ := h5
  simp [Cond.before, Cond.holds, Cond.value, h1, h2, h3, h4, g1, g2, g3, g4, g5, g6]
def isCode : Jvm.Cond → Bool
  | .code _ _ _ _ => true
  | _ => false
theorem all_split {L : List Jvm.Cond} {P : Jvm.Cond → Bool} (h1 : L.all (fun c => isCode c || P c) = true) (h2 : ∀ c ∈ L.filter isCode, P c = true) : L.all P = true := by
  refine List.all_eq_true.mpr fun c hc => ?_
  have h := List.all_eq_true.mp h1 c hc
  rcases Bool.eq_false_or_eq_true (isCode c) with hi | hi
  · exact h2 c (List.mem_filter.mpr ⟨hc, hi⟩)
  · simpa [hi] using h
set_option maxRecDepth 65536 in
theorem w_c0 : (Jvm.Cond.code x code maxLocals ret).before args0 about1 = true := code_word (m := ⟨1, 1⟩) (meth := k1m1) (c := k1c1) (by decide +kernel) rfl rfl rfl (by decide +kernel)
set_option maxRecDepth 65536 in
theorem w_c1 : (Jvm.Cond.code ({ cls := "com/example/elapse/elapse/load/Lateness$Summary", name := "<init>", desc := "(IJJJ)V" } : Jvm.MethodName) prog_38_method_1_code (8 : Nat) (Option.none : Option Jvm.ClassFile.FieldType)).before args0 about1 = true := code_word (m := ⟨3, 0⟩) (meth := k3m0) (c := k3c0) (by decide +kernel) rfl rfl rfl (by decide +kernel)
set_option maxRecDepth 65536 in
theorem w_c2 : (Jvm.Cond.code ({ cls := "java/lang/Record", name := "<init>", desc := "()V" } : Jvm.MethodName) jdk_30_method_1_code (1 : Nat) (Option.none : Option Jvm.ClassFile.FieldType)).before args0 about1 = true := code_word (m := ⟨2, 0⟩) (meth := k2m0) (c := k2c0) (by decide +kernel) rfl rfl rfl (by decide +kernel)
set_option maxRecDepth 65536 in
theorem w_c3 : (Jvm.Cond.code ({ cls := "java/lang/Object", name := "<init>", desc := "()V" } : Jvm.MethodName) object_method_1_code (1 : Nat) (Option.none : Option Jvm.ClassFile.FieldType)).before args0 about1 = true := code_word (m := ⟨0, 0⟩) (meth := k0m0) (c := k0c0) (by decide +kernel) rfl rfl rfl (by decide +kernel)
set_option maxRecDepth 65536 in
theorem w_c4 : (Jvm.Cond.code ({ cls := "com/example/elapse/elapse/load/PurgatoryResult", name := "<init>", desc := "(Lcom/example/elapse/elapse/load/Contender;JJIJJJJLcom/example/elapse/elapse/load/Lateness$Summary;)V" } : Jvm.MethodName) prog_50_method_1_code (16 : Nat) (Option.none : Option Jvm.ClassFile.FieldType)).before args0 about1 = true := code_word (m := ⟨5, 0⟩) (meth := k5m0) (c := k5c0) (by decide +kernel) rfl rfl rfl (by decide +kernel)
set_option maxRecDepth 65536 in
theorem w_c5 : (Jvm.Cond.code ({ cls := "com/example/elapse/elapse/load/PurgatoryResult", name := "keptUp", desc := "()Z" } : Jvm.MethodName) prog_50_method_2_code (1 : Nat) (Option.some Jvm.ClassFile.FieldType.boolean)).before args0 about1 = true := code_word (m := ⟨5, 1⟩) (meth := k5m1) (c := k5c1) (by decide +kernel) rfl rfl rfl (by decide +kernel)
set_option maxRecDepth 65536 in
theorem w_c6 : (Jvm.Cond.code ({ cls := "com/example/elapse/elapse/load/Lateness$Summary", name := "p99", desc := "()J" } : Jvm.MethodName) prog_38_method_7_code (1 : Nat) (Option.some Jvm.ClassFile.FieldType.long)).before args0 about1 = true := code_word (m := ⟨3, 2⟩) (meth := k3m2) (c := k3c2) (by decide +kernel) rfl rfl rfl (by decide +kernel)
set_option maxRecDepth 65536 in
theorem w_c7 : (Jvm.Cond.code ({ cls := "com/example/elapse/elapse/load/Lateness$Summary", name := "early", desc := "()I" } : Jvm.MethodName) prog_38_method_5_code (1 : Nat) (Option.some Jvm.ClassFile.FieldType.int)).before args0 about1 = true := code_word (m := ⟨3, 1⟩) (meth := k3m1) (c := k3c1) (by decide +kernel) rfl rfl rfl (by decide +kernel)
def codes1 : List Jvm.Cond := [Jvm.Cond.code x code maxLocals ret, Jvm.Cond.code ({ cls := "com/example/elapse/elapse/load/Lateness$Summary", name := "<init>", desc := "(IJJJ)V" } : Jvm.MethodName) prog_38_method_1_code (8 : Nat) (Option.none : Option Jvm.ClassFile.FieldType), Jvm.Cond.code ({ cls := "java/lang/Record", name := "<init>", desc := "()V" } : Jvm.MethodName) jdk_30_method_1_code (1 : Nat) (Option.none : Option Jvm.ClassFile.FieldType), Jvm.Cond.code ({ cls := "java/lang/Object", name := "<init>", desc := "()V" } : Jvm.MethodName) object_method_1_code (1 : Nat) (Option.none : Option Jvm.ClassFile.FieldType), Jvm.Cond.code ({ cls := "com/example/elapse/elapse/load/PurgatoryResult", name := "<init>", desc := "(Lcom/example/elapse/elapse/load/Contender;JJIJJJJLcom/example/elapse/elapse/load/Lateness$Summary;)V" } : Jvm.MethodName) prog_50_method_1_code (16 : Nat) (Option.none : Option Jvm.ClassFile.FieldType), Jvm.Cond.code ({ cls := "com/example/elapse/elapse/load/PurgatoryResult", name := "keptUp", desc := "()Z" } : Jvm.MethodName) prog_50_method_2_code (1 : Nat) (Option.some Jvm.ClassFile.FieldType.boolean), Jvm.Cond.code ({ cls := "com/example/elapse/elapse/load/Lateness$Summary", name := "p99", desc := "()J" } : Jvm.MethodName) prog_38_method_7_code (1 : Nat) (Option.some Jvm.ClassFile.FieldType.long), Jvm.Cond.code ({ cls := "com/example/elapse/elapse/load/Lateness$Summary", name := "early", desc := "()I" } : Jvm.MethodName) prog_38_method_5_code (1 : Nat) (Option.some Jvm.ClassFile.FieldType.int)]
set_option maxRecDepth 65536 in
theorem codes_eq : words1.filter isCode = codes1 := rfl
theorem w_codes : ∀ c ∈ words1.filter isCode, c.before args0 about1 = true := by
  rw [codes_eq]
  intro c hc
  simp only [codes1, List.mem_cons, List.not_mem_nil, or_false] at hc
  rcases hc with rfl | rfl | rfl | rfl | rfl | rfl | rfl | rfl
  · exact w_c0
  · exact w_c1
  · exact w_c2
  · exact w_c3
  · exact w_c4
  · exact w_c5
  · exact w_c6
  · exact w_c7
set_option maxRecDepth 65536 in
theorem w_t1 : (words1.take 24).all (fun c => isCode c || c.before args0 about1) = true := by decide +kernel
set_option maxRecDepth 65536 in
theorem w_t2 : ((words1.drop 24).take 24).all (fun c => isCode c || c.before args0 about1) = true := by decide +kernel
set_option maxRecDepth 65536 in
theorem w_t3 : ((words1.drop 24).drop 24).all (fun c => isCode c || c.before args0 about1) = true := by decide +kernel
theorem w_tables : (allAtoms (Jvm.Cond.code x code maxLocals ret :: tables_1)).before args0 about1 = true := by
  rw [allAtoms_all]
  show words1.all (fun c => c.before args0 about1) = true
  refine all_split ?_ w_codes
  rw [← List.take_append_drop 24 words1, List.all_append, w_t1, ← List.take_append_drop 24 (words1.drop 24), List.all_append, w_t2, w_t3]
  rfl
set_option maxRecDepth 65536 in
theorem w_case : (Jvm.Cond.and given_1 narrow_1).before args0 about1 = true := by decide +kernel
theorem w_applies : (headSpec (Jvm.Cond.code x code maxLocals ret :: tables_1) room_1).applies x e0.platform about1 = true :=
  (Spec.applies_iff w_frames).mpr ⟨w_running, w_runnable, w_alone, w_named, w_hears, w_ripe, w_room, w_tables⟩
theorem atStart : AtStart classFile x code maxLocals ret World_1 tables_1 room_1 Calls_1 rest_1 Pre_1 launch0 p0 e0 about1 theMethod args0 below0 :=
  ⟨lists_1, trivial, launch0.admits_env _ _ _, launch0.least_env, fairChoices_fair.cas, fairChoices_fair.clock, w_frames, w_args, w_heap, w_applies, trivial, trivial, w_case⟩
end start1
theorem witness_1 : WitnessClaimed_1 := ⟨start1.p0, start1.e0, start1.about1, start1.theMethod, start1.args0, start1.below0, start1.atStart⟩
end Jvm.Pilot.@@N@@
