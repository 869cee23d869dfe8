import JvmDerived
import JvmDerived.Pilot.@@N@@Statement
import JvmDerived.Pilot.@@N@@Code
set_option linter.unusedVariables false
set_option linter.unusedSimpArgs false

namespace Jvm.OwnW
open Sem ClassFile Op Lib Jvm.Stand Jvm.Free Jvm.LawKit Jvm.RoadKit
/-- what the walk of one body stands on -/
def Ctx (p : Program) (l : Launch) (e : Env) (R : Room) (s : State) (m : MethodId) (args : Array Value) (below : List Frame) (meth : Method) (c : Code) (Z : State) (own : String) (code : ByteArray) (maxL : Nat) (ret : Option FieldType) (nm : String) : Prop :=
  p.tables.exec = Jvm.exec ∧ c.code = code ∧ c.maxLocals = maxL ∧ s.vm.findClass own = some m.cls ∧ Z.Warmed39 s.vm ∧ meth.sig.returnType = ret ∧ meth.locks = false ∧ meth.name = nm
/-- from here the body returns, and G holds of what it returns and of the heap -/
def WP (p : Program) (l : Launch) (e : Env) (R : Room) (s : State) (m : MethodId) (args : Array Value) (below : List Frame) (meth : Method) (c : Code) (n0 : Nat) (G : Option Value → Heap → Prop) (FE : Outcome → State → List Loc → Prop)
    (h : Heap) (k n pc : Nat) (Ls : Array Slot) (st : List Value) : Prop :=
  ∀ (T : State) (locs : List Loc) (k' n' : Nat), k' ≤ k → n' ≤ n → Stand p l e R s m args below meth c T locs k' n' → T.heap = h → Fr n0 locs →
    ∃ s₂ o, Steps p.tables e below (T.setTop (mkF m pc Ls st)) s₂ ∧ s₂.status = .running ∧ Ended s₂ below o ∧ ∃ v L, o = .returned v ∧ (Fr n0 L ∧ G v s₂.heap) ∧ FE o s₂ L
abbrev WT : Type := Heap → Nat → Nat → Nat → Array Slot → List Value → Prop
def Ru (l : Launch) (Z : State) (own : String) (code : ByteArray) (maxL : Nat) (ret : Option FieldType) (nm : String) (R : Room) (n0 : Nat) (G : Option Value → Heap → Prop) (W : WT) : Prop :=
  ∃ (p : Program) (e : Env) (s : State) (m : MethodId) (args : Array Value) (below : List Frame) (meth : Method) (c : Code) (FE : Outcome → State → List Loc → Prop), Ctx p l e R s m args below meth c Z own code maxL ret nm ∧ (∀ o t L, FrameEnd s o t L R.cells R.slots → FE o t L) ∧ W = WP p l e R s m args below meth c n0 G FE
/-- a body's contract -/
def MeetsW (l : Launch) (Z : State) (n0 : Nat) (y : MethodName) (bytes : ByteArray) (maxL : Nat) (ret : Option FieldType) (rm : Room) (as : Array Value) (h : Heap) (G : Option Value → Heap → Prop) : Prop :=
  ∀ ws : List Cond, MetFree l y (head1 (Cond.code y bytes maxL ret :: ws) rm) (fun a U => a = as ∧ Z.Warmed39 U.vm ∧ U.heap = h) (fun _ _ _ _ _ => True)
    (fun _ U o U' => ∃ v L, o = .returned v ∧ (Fr n0 L ∧ G v U'.heap) ∧ FrameEnd U o U' L rm.cells rm.slots)
theorem MeetsW.intro {l : Launch} {Z : State} {n0 : Nat} {y : MethodName} {bytes : ByteArray} {maxL : Nat} {ret : Option FieldType} {rm : Room} {as : Array Value} {h : Heap} {G : Option Value → Heap → Prop} {Ls : Array Slot}
    (hp : plainFor y = true) (hef : ∀ m, entryFrame m as maxL = mkF m 0 Ls [])
    (body : ∀ W, Ru l Z y.cls bytes maxL ret y.name rm n0 G W → W h 0 0 0 Ls []) : MeetsW l Z n0 y bytes maxL ret rm as h G := by
  intro ws
  refine MetFree.of_bodySF hp hisR ?_
  intro p e s m args below meth c s₁ Bd hml0 hP hK
  obtain ⟨rfl, hZ, hh⟩ := hP
  have X0 : Stand p l e rm s m args below meth c s₁ [] 0 0 := Stand.of_body Bd
  have e0 : s₁.heap = h := by rw [← hh, Bd.state]; rfl
  have C : Ctx p l e rm s m args below meth c Z y.cls bytes maxL ret y.name := ⟨Bd.exec, Bd.bytes, hml0, findClass_of_methodNamed Bd.named, hZ, Bd.returns, Bd.notSynchronized, (name_of_methodNamed Bd.named Bd.method).1⟩
  have q := body _ ⟨p, e, s, m, args, below, meth, c, _, C, fun _ _ _ q => q, rfl⟩ s₁ [] 0 0 (Nat.le_refl _) (Nat.le_refl _) X0 e0 (Fr.nil n0)
  rw [hef]
  exact q

/-! shifts, by how many places -/
def sh5 (y : Int32) : Nat := y.toBitVec.toNat % 32
def sh6 (y : Int32) : Nat := y.toBitVec.toNat % 64
def shlI (x : Int32) (k : Nat) : Int32 := Int32.ofBitVec (x.toBitVec <<< k)
def shrI (x : Int32) (k : Nat) : Int32 := Int32.ofBitVec (x.toBitVec >>> k)
def sarI (x : Int32) (k : Nat) : Int32 := Int32.ofBitVec (x.toBitVec.sshiftRight k)
def shlL (x : Int64) (k : Nat) : Int64 := Int64.ofBitVec (x.toBitVec <<< k)
def shrL (x : Int64) (k : Nat) : Int64 := Int64.ofBitVec (x.toBitVec >>> k)
def sarL (x : Int64) (k : Nat) : Int64 := Int64.ofBitVec (x.toBitVec.sshiftRight k)
theorem and31 (y : Int32) : (y &&& 31).toBitVec.toNat = sh5 y := by
  show (y.toBitVec &&& (31 : Int32).toBitVec).toNat = _
  rw [BitVec.toNat_and, show (31 : Int32).toBitVec.toNat = 2 ^ 5 - 1 from by decide, Nat.and_two_pow_sub_one_eq_mod]; rfl
theorem and63 (y : Int32) : (y.toInt64 &&& 63).toBitVec = BitVec.ofNat 64 (sh6 y) := by
  apply BitVec.eq_of_toNat_eq
  show (y.toBitVec.signExtend 64 &&& (63 : Int64).toBitVec).toNat = _
  rw [BitVec.toNat_and, show (63 : Int64).toBitVec.toNat = 2 ^ 6 - 1 from by decide, Nat.and_two_pow_sub_one_eq_mod, BitVec.toNat_ofNat, BitVec.toNat_signExtend]
  have h1 := y.toBitVec.isLt
  have h2 : (BitVec.setWidth 64 y.toBitVec).toNat = y.toBitVec.toNat := by rw [BitVec.toNat_setWidth]; omega
  rw [h2]
  unfold sh6
  split <;> omega
theorem ishl_eq (x y : Int32) : x <<< (y &&& 31) = shlI x (sh5 y) := by
  apply Int32.toBitVec_inj.mp
  show x.toBitVec <<< ((y &&& 31).toBitVec.smod 32) = x.toBitVec <<< (sh5 y)
  rw [BitVec.shiftLeft_eq', sm32 y _ rfl]; rfl
theorem ishr_eq (x y : Int32) : x >>> (y &&& 31) = sarI x (sh5 y) := by
  apply Int32.toBitVec_inj.mp
  show x.toBitVec.sshiftRight (((y &&& 31).toBitVec.smod 32).toNat) = x.toBitVec.sshiftRight (sh5 y)
  rw [sm32 y _ rfl]; rfl
theorem iushr_eq (x y : Int32) : XT.ushr x y = shrI x (sh5 y) := by
  apply Int32.toBitVec_inj.mp
  show x.toBitVec >>> ((y &&& 31).toBitVec % 32) = x.toBitVec >>> (sh5 y)
  rw [BitVec.ushiftRight_eq', BitVec.toNat_umod, and31]
  congr 1
  show sh5 y % 32 = sh5 y
  unfold sh5; omega
theorem lshl_eq (x : Int64) (y : Int32) : x <<< (y.toInt64 &&& 63) = shlL x (sh6 y) := by
  apply Int64.toBitVec_inj.mp
  show x.toBitVec <<< ((y.toInt64 &&& 63).toBitVec.smod 64) = x.toBitVec <<< (sh6 y)
  rw [BitVec.shiftLeft_eq', and63, smod64 _ (by unfold sh6; omega)]
theorem lshr_eq (x : Int64) (y : Int32) : x >>> (y.toInt64 &&& 63) = sarL x (sh6 y) := by
  apply Int64.toBitVec_inj.mp
  show x.toBitVec.sshiftRight (((y.toInt64 &&& 63).toBitVec.smod 64).toNat) = x.toBitVec.sshiftRight (sh6 y)
  rw [and63, smod64 _ (by unfold sh6; omega)]
theorem lushr_eq (x : Int64) (y : Int32) : XT.ushrL x y = shrL x (sh6 y) := by
  apply Int64.toBitVec_inj.mp
  show x.toBitVec >>> ((y.toInt64 &&& 63).toBitVec % 64) = x.toBitVec >>> (sh6 y)
  rw [BitVec.ushiftRight_eq', BitVec.toNat_umod, and63, BitVec.toNat_ofNat]
  congr 1
  show sh6 y % 2 ^ 64 % 64 = sh6 y
  unfold sh6; omega
section Steps
variable {l : Launch} {Z : State} {own : String} {code : ByteArray} {maxL : Nat} {ret : Option FieldType} {nm : String} {R : Room} {n0 : Nat} {G : Option Value → Heap → Prop} {W : WT} {h : Heap} {k n pc pc' : Nat} {Ls : Array Slot} {st rest : List Value}
theorem Ru.mono (C : Ru l Z own code maxL ret nm R n0 G W) {k2 n2 : Nat} (hk : k ≤ k2) (hn : n ≤ n2) (q : W h k2 n2 pc Ls st) : W h k n pc Ls st := by
  obtain ⟨p, e, s, m, args, below, meth, c, FE, C, hFE, rfl⟩ := C
  intro T locs k' n' q1 q2 X eT N
  exact q T locs k' n' (Nat.le_trans q1 hk) (Nat.le_trans q2 hn) X eT N
theorem Ru.atPc (C : Ru l Z own code maxL ret nm R n0 G W) {pc2 : Nat} (hp : pc2 = pc) (q : W h k n pc2 Ls st) : W h k n pc Ls st := hp ▸ q
theorem Ru.iadd (C : Ru l Z own code maxL ret nm R n0 G W) {x y : Int32} (hd : decode code pc = .ok (.iadd, 1)) (hp : pc + 1 = pc') (q : W h k n pc' Ls (.int (x + y) :: rest)) : W h k n pc Ls (.int y :: .int x :: rest) := by
  obtain ⟨p, e, s, m, args, below, meth, c, FE, ⟨hx, hby, hml, hown, hZ, hre, hlk, hnm⟩, hFE, rfl⟩ := C
  subst hp
  intro T locs k' n' q1 q2 X eT N
  obtain ⟨s2, o, st2, r⟩ := q T locs k' n' q1 q2 X eT N
  exact ⟨s2, o, XS.iadd (X.here) hx rfl (hb hby hd) rfl st2, r⟩
theorem Ru.isub (C : Ru l Z own code maxL ret nm R n0 G W) {x y : Int32} (hd : decode code pc = .ok (.isub, 1)) (hp : pc + 1 = pc') (q : W h k n pc' Ls (.int (x - y) :: rest)) : W h k n pc Ls (.int y :: .int x :: rest) := by
  obtain ⟨p, e, s, m, args, below, meth, c, FE, ⟨hx, hby, hml, hown, hZ, hre, hlk, hnm⟩, hFE, rfl⟩ := C
  subst hp
  intro T locs k' n' q1 q2 X eT N
  obtain ⟨s2, o, st2, r⟩ := q T locs k' n' q1 q2 X eT N
  exact ⟨s2, o, XS.isub (X.here) hx rfl (hb hby hd) rfl st2, r⟩
theorem Ru.iand (C : Ru l Z own code maxL ret nm R n0 G W) {x y : Int32} (hd : decode code pc = .ok (.iand, 1)) (hp : pc + 1 = pc') (q : W h k n pc' Ls (.int (x &&& y) :: rest)) : W h k n pc Ls (.int y :: .int x :: rest) := by
  obtain ⟨p, e, s, m, args, below, meth, c, FE, ⟨hx, hby, hml, hown, hZ, hre, hlk, hnm⟩, hFE, rfl⟩ := C
  subst hp
  intro T locs k' n' q1 q2 X eT N
  obtain ⟨s2, o, st2, r⟩ := q T locs k' n' q1 q2 X eT N
  exact ⟨s2, o, XS.iand (X.here) hx rfl (hb hby hd) rfl st2, r⟩
theorem Ru.imul (C : Ru l Z own code maxL ret nm R n0 G W) {x y : Int32} (hd : decode code pc = .ok (.imul, 1)) (hp : pc + 1 = pc') (q : W h k n pc' Ls (.int (x * y) :: rest)) : W h k n pc Ls (.int y :: .int x :: rest) := by
  obtain ⟨p, e, s, m, args, below, meth, c, FE, ⟨hx, hby, hml, hown, hZ, hre, hlk, hnm⟩, hFE, rfl⟩ := C
  subst hp
  intro T locs k' n' q1 q2 X eT N
  obtain ⟨s2, o, st2, r⟩ := q T locs k' n' q1 q2 X eT N
  exact ⟨s2, o, XS.imul (X.here) hx rfl (hb hby hd) rfl st2, r⟩
theorem Ru.ixor (C : Ru l Z own code maxL ret nm R n0 G W) {x y : Int32} (hd : decode code pc = .ok (.ixor, 1)) (hp : pc + 1 = pc') (q : W h k n pc' Ls (.int (x ^^^ y) :: rest)) : W h k n pc Ls (.int y :: .int x :: rest) := by
  obtain ⟨p, e, s, m, args, below, meth, c, FE, ⟨hx, hby, hml, hown, hZ, hre, hlk, hnm⟩, hFE, rfl⟩ := C
  subst hp
  intro T locs k' n' q1 q2 X eT N
  obtain ⟨s2, o, st2, r⟩ := q T locs k' n' q1 q2 X eT N
  exact ⟨s2, o, XT.ixor (X.here) hx rfl (hb hby hd) rfl st2, r⟩
theorem Ru.ior (C : Ru l Z own code maxL ret nm R n0 G W) {x y : Int32} (hd : decode code pc = .ok (.ior, 1)) (hp : pc + 1 = pc') (q : W h k n pc' Ls (.int (x ||| y) :: rest)) : W h k n pc Ls (.int y :: .int x :: rest) := by
  obtain ⟨p, e, s, m, args, below, meth, c, FE, ⟨hx, hby, hml, hown, hZ, hre, hlk, hnm⟩, hFE, rfl⟩ := C
  subst hp
  intro T locs k' n' q1 q2 X eT N
  obtain ⟨s2, o, st2, r⟩ := q T locs k' n' q1 q2 X eT N
  exact ⟨s2, o, XT.ior (X.here) hx rfl (hb hby hd) rfl st2, r⟩
theorem Ru.idiv (C : Ru l Z own code maxL ret nm R n0 G W) {x y : Int32} (hd : decode code pc = .ok (.idiv, 1)) (hp : pc + 1 = pc') (hy : y ≠ 0) (q : W h k n pc' Ls (.int (x / y) :: rest)) : W h k n pc Ls (.int y :: .int x :: rest) := by
  obtain ⟨p, e, s, m, args, below, meth, c, FE, ⟨hx, hby, hml, hown, hZ, hre, hlk, hnm⟩, hFE, rfl⟩ := C
  subst hp
  intro T locs k' n' q1 q2 X eT N
  obtain ⟨s2, o, st2, r⟩ := q T locs k' n' q1 q2 X eT N
  exact ⟨s2, o, XS.idiv (X.here) hx rfl (hb hby hd) rfl hy st2, r⟩
theorem Ru.irem (C : Ru l Z own code maxL ret nm R n0 G W) {x y : Int32} (hd : decode code pc = .ok (.irem, 1)) (hp : pc + 1 = pc') (hy : y ≠ 0) (q : W h k n pc' Ls (.int (x % y) :: rest)) : W h k n pc Ls (.int y :: .int x :: rest) := by
  obtain ⟨p, e, s, m, args, below, meth, c, FE, ⟨hx, hby, hml, hown, hZ, hre, hlk, hnm⟩, hFE, rfl⟩ := C
  subst hp
  intro T locs k' n' q1 q2 X eT N
  obtain ⟨s2, o, st2, r⟩ := q T locs k' n' q1 q2 X eT N
  exact ⟨s2, o, iremM (X) hx rfl (hb hby hd) rfl hy st2, r⟩
theorem Ru.ineg (C : Ru l Z own code maxL ret nm R n0 G W) {x : Int32} (hd : decode code pc = .ok (.ineg, 1)) (hp : pc + 1 = pc') (q : W h k n pc' Ls (.int (-x) :: rest)) : W h k n pc Ls (.int x :: rest) := by
  obtain ⟨p, e, s, m, args, below, meth, c, FE, ⟨hx, hby, hml, hown, hZ, hre, hlk, hnm⟩, hFE, rfl⟩ := C
  subst hp
  intro T locs k' n' q1 q2 X eT N
  obtain ⟨s2, o, st2, r⟩ := q T locs k' n' q1 q2 X eT N
  exact ⟨s2, o, XS.ineg (X.here) hx rfl (hb hby hd) rfl st2, r⟩
theorem Ru.ladd (C : Ru l Z own code maxL ret nm R n0 G W) {x y : Int64} (hd : decode code pc = .ok (.ladd, 1)) (hp : pc + 1 = pc') (q : W h k n pc' Ls (.long (x + y) :: rest)) : W h k n pc Ls (.long y :: .long x :: rest) := by
  obtain ⟨p, e, s, m, args, below, meth, c, FE, ⟨hx, hby, hml, hown, hZ, hre, hlk, hnm⟩, hFE, rfl⟩ := C
  subst hp
  intro T locs k' n' q1 q2 X eT N
  obtain ⟨s2, o, st2, r⟩ := q T locs k' n' q1 q2 X eT N
  exact ⟨s2, o, XT.ladd (X.here) hx rfl (hb hby hd) rfl st2, r⟩
theorem Ru.lsub (C : Ru l Z own code maxL ret nm R n0 G W) {x y : Int64} (hd : decode code pc = .ok (.lsub, 1)) (hp : pc + 1 = pc') (q : W h k n pc' Ls (.long (x - y) :: rest)) : W h k n pc Ls (.long y :: .long x :: rest) := by
  obtain ⟨p, e, s, m, args, below, meth, c, FE, ⟨hx, hby, hml, hown, hZ, hre, hlk, hnm⟩, hFE, rfl⟩ := C
  subst hp
  intro T locs k' n' q1 q2 X eT N
  obtain ⟨s2, o, st2, r⟩ := q T locs k' n' q1 q2 X eT N
  exact ⟨s2, o, XT.lsub (X.here) hx rfl (hb hby hd) rfl st2, r⟩
theorem Ru.lmul (C : Ru l Z own code maxL ret nm R n0 G W) {x y : Int64} (hd : decode code pc = .ok (.lmul, 1)) (hp : pc + 1 = pc') (q : W h k n pc' Ls (.long (x * y) :: rest)) : W h k n pc Ls (.long y :: .long x :: rest) := by
  obtain ⟨p, e, s, m, args, below, meth, c, FE, ⟨hx, hby, hml, hown, hZ, hre, hlk, hnm⟩, hFE, rfl⟩ := C
  subst hp
  intro T locs k' n' q1 q2 X eT N
  obtain ⟨s2, o, st2, r⟩ := q T locs k' n' q1 q2 X eT N
  exact ⟨s2, o, XT.lmul (X.here) hx rfl (hb hby hd) rfl st2, r⟩
theorem Ru.land (C : Ru l Z own code maxL ret nm R n0 G W) {x y : Int64} (hd : decode code pc = .ok (.land, 1)) (hp : pc + 1 = pc') (q : W h k n pc' Ls (.long (x &&& y) :: rest)) : W h k n pc Ls (.long y :: .long x :: rest) := by
  obtain ⟨p, e, s, m, args, below, meth, c, FE, ⟨hx, hby, hml, hown, hZ, hre, hlk, hnm⟩, hFE, rfl⟩ := C
  subst hp
  intro T locs k' n' q1 q2 X eT N
  obtain ⟨s2, o, st2, r⟩ := q T locs k' n' q1 q2 X eT N
  exact ⟨s2, o, XT.land (X.here) hx rfl (hb hby hd) rfl st2, r⟩
theorem Ru.lor (C : Ru l Z own code maxL ret nm R n0 G W) {x y : Int64} (hd : decode code pc = .ok (.lor, 1)) (hp : pc + 1 = pc') (q : W h k n pc' Ls (.long (x ||| y) :: rest)) : W h k n pc Ls (.long y :: .long x :: rest) := by
  obtain ⟨p, e, s, m, args, below, meth, c, FE, ⟨hx, hby, hml, hown, hZ, hre, hlk, hnm⟩, hFE, rfl⟩ := C
  subst hp
  intro T locs k' n' q1 q2 X eT N
  obtain ⟨s2, o, st2, r⟩ := q T locs k' n' q1 q2 X eT N
  exact ⟨s2, o, XT.lor (X.here) hx rfl (hb hby hd) rfl st2, r⟩
theorem Ru.lxor (C : Ru l Z own code maxL ret nm R n0 G W) {x y : Int64} (hd : decode code pc = .ok (.lxor, 1)) (hp : pc + 1 = pc') (q : W h k n pc' Ls (.long (x ^^^ y) :: rest)) : W h k n pc Ls (.long y :: .long x :: rest) := by
  obtain ⟨p, e, s, m, args, below, meth, c, FE, ⟨hx, hby, hml, hown, hZ, hre, hlk, hnm⟩, hFE, rfl⟩ := C
  subst hp
  intro T locs k' n' q1 q2 X eT N
  obtain ⟨s2, o, st2, r⟩ := q T locs k' n' q1 q2 X eT N
  exact ⟨s2, o, XT.lxor (X.here) hx rfl (hb hby hd) rfl st2, r⟩
theorem Ru.ldiv (C : Ru l Z own code maxL ret nm R n0 G W) {x y : Int64} (hd : decode code pc = .ok (.ldiv, 1)) (hp : pc + 1 = pc') (hy : y ≠ 0) (q : W h k n pc' Ls (.long (x / y) :: rest)) : W h k n pc Ls (.long y :: .long x :: rest) := by
  obtain ⟨p, e, s, m, args, below, meth, c, FE, ⟨hx, hby, hml, hown, hZ, hre, hlk, hnm⟩, hFE, rfl⟩ := C
  subst hp
  intro T locs k' n' q1 q2 X eT N
  obtain ⟨s2, o, st2, r⟩ := q T locs k' n' q1 q2 X eT N
  exact ⟨s2, o, XT.ldiv (X.here) hx rfl (hb hby hd) rfl hy st2, r⟩
theorem Ru.ishl (C : Ru l Z own code maxL ret nm R n0 G W) {x : Int32} {y : Int32} {s : Nat} (hd : decode code pc = .ok (.ishl, 1)) (hp : pc + 1 = pc') (hs : sh5 y = s) (q : W h k n pc' Ls (.int (shlI x s) :: rest)) : W h k n pc Ls (.int y :: .int x :: rest) := by
  obtain ⟨p, e, s', m, args, below, meth, c, FE, ⟨hx, hby, hml, hown, hZ, hre, hlk, hnm⟩, hFE, rfl⟩ := C
  subst hp hs
  intro T locs k' n' q1 q2 X eT N
  obtain ⟨s2, o, st2, r⟩ := q T locs k' n' q1 q2 X eT N
  exact ⟨s2, o, XT.ishl X.here hx rfl (hb hby hd) rfl (by rw [ishl_eq]; exact st2), r⟩
theorem Ru.ishr (C : Ru l Z own code maxL ret nm R n0 G W) {x : Int32} {y : Int32} {s : Nat} (hd : decode code pc = .ok (.ishr, 1)) (hp : pc + 1 = pc') (hs : sh5 y = s) (q : W h k n pc' Ls (.int (sarI x s) :: rest)) : W h k n pc Ls (.int y :: .int x :: rest) := by
  obtain ⟨p, e, s', m, args, below, meth, c, FE, ⟨hx, hby, hml, hown, hZ, hre, hlk, hnm⟩, hFE, rfl⟩ := C
  subst hp hs
  intro T locs k' n' q1 q2 X eT N
  obtain ⟨s2, o, st2, r⟩ := q T locs k' n' q1 q2 X eT N
  exact ⟨s2, o, XT.ishr X.here hx rfl (hb hby hd) rfl (by rw [ishr_eq]; exact st2), r⟩
theorem Ru.iushr (C : Ru l Z own code maxL ret nm R n0 G W) {x : Int32} {y : Int32} {s : Nat} (hd : decode code pc = .ok (.iushr, 1)) (hp : pc + 1 = pc') (hs : sh5 y = s) (q : W h k n pc' Ls (.int (shrI x s) :: rest)) : W h k n pc Ls (.int y :: .int x :: rest) := by
  obtain ⟨p, e, s', m, args, below, meth, c, FE, ⟨hx, hby, hml, hown, hZ, hre, hlk, hnm⟩, hFE, rfl⟩ := C
  subst hp hs
  intro T locs k' n' q1 q2 X eT N
  obtain ⟨s2, o, st2, r⟩ := q T locs k' n' q1 q2 X eT N
  exact ⟨s2, o, XT.iushr X.here hx rfl (hb hby hd) rfl (by rw [iushr_eq]; exact st2), r⟩
theorem Ru.lshl (C : Ru l Z own code maxL ret nm R n0 G W) {x : Int64} {y : Int32} {s : Nat} (hd : decode code pc = .ok (.lshl, 1)) (hp : pc + 1 = pc') (hs : sh6 y = s) (q : W h k n pc' Ls (.long (shlL x s) :: rest)) : W h k n pc Ls (.int y :: .long x :: rest) := by
  obtain ⟨p, e, s', m, args, below, meth, c, FE, ⟨hx, hby, hml, hown, hZ, hre, hlk, hnm⟩, hFE, rfl⟩ := C
  subst hp hs
  intro T locs k' n' q1 q2 X eT N
  obtain ⟨s2, o, st2, r⟩ := q T locs k' n' q1 q2 X eT N
  exact ⟨s2, o, XT.lshl X.here hx rfl (hb hby hd) rfl (by rw [lshl_eq]; exact st2), r⟩
theorem Ru.lshr (C : Ru l Z own code maxL ret nm R n0 G W) {x : Int64} {y : Int32} {s : Nat} (hd : decode code pc = .ok (.lshr, 1)) (hp : pc + 1 = pc') (hs : sh6 y = s) (q : W h k n pc' Ls (.long (sarL x s) :: rest)) : W h k n pc Ls (.int y :: .long x :: rest) := by
  obtain ⟨p, e, s', m, args, below, meth, c, FE, ⟨hx, hby, hml, hown, hZ, hre, hlk, hnm⟩, hFE, rfl⟩ := C
  subst hp hs
  intro T locs k' n' q1 q2 X eT N
  obtain ⟨s2, o, st2, r⟩ := q T locs k' n' q1 q2 X eT N
  exact ⟨s2, o, XT.lshr X.here hx rfl (hb hby hd) rfl (by rw [lshr_eq]; exact st2), r⟩
theorem Ru.lushr (C : Ru l Z own code maxL ret nm R n0 G W) {x : Int64} {y : Int32} {s : Nat} (hd : decode code pc = .ok (.lushr, 1)) (hp : pc + 1 = pc') (hs : sh6 y = s) (q : W h k n pc' Ls (.long (shrL x s) :: rest)) : W h k n pc Ls (.int y :: .long x :: rest) := by
  obtain ⟨p, e, s', m, args, below, meth, c, FE, ⟨hx, hby, hml, hown, hZ, hre, hlk, hnm⟩, hFE, rfl⟩ := C
  subst hp hs
  intro T locs k' n' q1 q2 X eT N
  obtain ⟨s2, o, st2, r⟩ := q T locs k' n' q1 q2 X eT N
  exact ⟨s2, o, XT.lushr X.here hx rfl (hb hby hd) rfl (by rw [lushr_eq]; exact st2), r⟩
theorem Ru.i2l (C : Ru l Z own code maxL ret nm R n0 G W) {x : Int32} (hd : decode code pc = .ok (.i2l, 1)) (hp : pc + 1 = pc') (q : W h k n pc' Ls (.long x.toInt64 :: rest)) : W h k n pc Ls (.int x :: rest) := by
  obtain ⟨p, e, s, m, args, below, meth, c, FE, ⟨hx, hby, hml, hown, hZ, hre, hlk, hnm⟩, hFE, rfl⟩ := C
  subst hp
  intro T locs k' n' q1 q2 X eT N
  obtain ⟨s2, o, st2, r⟩ := q T locs k' n' q1 q2 X eT N
  exact ⟨s2, o, XT.i2l (X.here) hx rfl (hb hby hd) rfl st2, r⟩
theorem Ru.l2i (C : Ru l Z own code maxL ret nm R n0 G W) {x : Int64} (hd : decode code pc = .ok (.l2i, 1)) (hp : pc + 1 = pc') (q : W h k n pc' Ls (.int x.toInt32 :: rest)) : W h k n pc Ls (.long x :: rest) := by
  obtain ⟨p, e, s, m, args, below, meth, c, FE, ⟨hx, hby, hml, hown, hZ, hre, hlk, hnm⟩, hFE, rfl⟩ := C
  subst hp
  intro T locs k' n' q1 q2 X eT N
  obtain ⟨s2, o, st2, r⟩ := q T locs k' n' q1 q2 X eT N
  exact ⟨s2, o, XT.l2i (X.here) hx rfl (hb hby hd) rfl st2, r⟩
theorem Ru.i2b (C : Ru l Z own code maxL ret nm R n0 G W) {x : Int32} (hd : decode code pc = .ok (.i2b, 1)) (hp : pc + 1 = pc') (q : W h k n pc' Ls (.int x.toInt8.toInt32 :: rest)) : W h k n pc Ls (.int x :: rest) := by
  obtain ⟨p, e, s, m, args, below, meth, c, FE, ⟨hx, hby, hml, hown, hZ, hre, hlk, hnm⟩, hFE, rfl⟩ := C
  subst hp
  intro T locs k' n' q1 q2 X eT N
  obtain ⟨s2, o, st2, r⟩ := q T locs k' n' q1 q2 X eT N
  exact ⟨s2, o, XT.i2b (X.here) hx rfl (hb hby hd) rfl st2, r⟩
theorem Ru.iconst (C : Ru l Z own code maxL ret nm R n0 G W) {i : Int} {v : Int32} (hd : decode code pc = .ok (.iconst i, 1)) (hp : pc + 1 = pc') (hv : Int32.ofInt i = v) (q : W h k n pc' Ls (.int v :: st)) : W h k n pc Ls (st) := by
  obtain ⟨p, e, s, m, args, below, meth, c, FE, ⟨hx, hby, hml, hown, hZ, hre, hlk, hnm⟩, hFE, rfl⟩ := C
  subst hp hv
  intro T locs k' n' q1 q2 X eT N
  obtain ⟨s2, o, st2, r⟩ := q T locs k' n' q1 q2 X eT N
  exact ⟨s2, o, XS.iconst (X.here) hx rfl (hb hby hd)  st2, r⟩
theorem Ru.bipush (C : Ru l Z own code maxL ret nm R n0 G W) {i : Int} {v : Int32} (hd : decode code pc = .ok (.bipush i, 2)) (hp : pc + 2 = pc') (hv : (Int8.ofInt i).toInt32 = v) (q : W h k n pc' Ls (.int v :: st)) : W h k n pc Ls (st) := by
  obtain ⟨p, e, s, m, args, below, meth, c, FE, ⟨hx, hby, hml, hown, hZ, hre, hlk, hnm⟩, hFE, rfl⟩ := C
  subst hp hv
  intro T locs k' n' q1 q2 X eT N
  obtain ⟨s2, o, st2, r⟩ := q T locs k' n' q1 q2 X eT N
  exact ⟨s2, o, XS.bipush (X.here) hx rfl (hb hby hd)  st2, r⟩
theorem Ru.sipush (C : Ru l Z own code maxL ret nm R n0 G W) {i : Int} {v : Int32} (hd : decode code pc = .ok (.sipush i, 3)) (hp : pc + 3 = pc') (hv : (Int16.ofInt i).toInt32 = v) (q : W h k n pc' Ls (.int v :: st)) : W h k n pc Ls (st) := by
  obtain ⟨p, e, s, m, args, below, meth, c, FE, ⟨hx, hby, hml, hown, hZ, hre, hlk, hnm⟩, hFE, rfl⟩ := C
  subst hp hv
  intro T locs k' n' q1 q2 X eT N
  obtain ⟨s2, o, st2, r⟩ := q T locs k' n' q1 q2 X eT N
  exact ⟨s2, o, XS.sipush (X.here) hx rfl (hb hby hd)  st2, r⟩
theorem Ru.lconst (C : Ru l Z own code maxL ret nm R n0 G W) {i : Fin 2} {v : Int64} (hd : decode code pc = .ok (.lconst i, 1)) (hp : pc + 1 = pc') (hv : Int64.ofNat i = v) (q : W h k n pc' Ls (.long v :: st)) : W h k n pc Ls (st) := by
  obtain ⟨p, e, s, m, args, below, meth, c, FE, ⟨hx, hby, hml, hown, hZ, hre, hlk, hnm⟩, hFE, rfl⟩ := C
  subst hp hv
  intro T locs k' n' q1 q2 X eT N
  obtain ⟨s2, o, st2, r⟩ := q T locs k' n' q1 q2 X eT N
  exact ⟨s2, o, XT.lconst (X.here) hx rfl (hb hby hd)  st2, r⟩
theorem Ru.aconstNull (C : Ru l Z own code maxL ret nm R n0 G W)  (hd : decode code pc = .ok (.aconst_null, 1)) (hp : pc + 1 = pc') (q : W h k n pc' Ls (.null :: st)) : W h k n pc Ls (st) := by
  obtain ⟨p, e, s, m, args, below, meth, c, FE, ⟨hx, hby, hml, hown, hZ, hre, hlk, hnm⟩, hFE, rfl⟩ := C
  subst hp
  intro T locs k' n' q1 q2 X eT N
  obtain ⟨s2, o, st2, r⟩ := q T locs k' n' q1 q2 X eT N
  exact ⟨s2, o, XS.aconstNull (X.here) hx rfl (hb hby hd)  st2, r⟩
theorem Ru.dup (C : Ru l Z own code maxL ret nm R n0 G W) {x : Value} (hd : decode code pc = .ok (.dup, 1)) (hp : pc + 1 = pc') (hc : x.category = 1) (q : W h k n pc' Ls (x :: x :: rest)) : W h k n pc Ls (x :: rest) := by
  obtain ⟨p, e, s, m, args, below, meth, c, FE, ⟨hx, hby, hml, hown, hZ, hre, hlk, hnm⟩, hFE, rfl⟩ := C
  subst hp
  intro T locs k' n' q1 q2 X eT N
  obtain ⟨s2, o, st2, r⟩ := q T locs k' n' q1 q2 X eT N
  exact ⟨s2, o, XS.dup (X.here) hx rfl (hb hby hd) rfl hc st2, r⟩
theorem Ru.pop (C : Ru l Z own code maxL ret nm R n0 G W) {x : Value} (hd : decode code pc = .ok (.pop, 1)) (hp : pc + 1 = pc') (hc : x.category = 1) (q : W h k n pc' Ls (rest)) : W h k n pc Ls (x :: rest) := by
  obtain ⟨p, e, s, m, args, below, meth, c, FE, ⟨hx, hby, hml, hown, hZ, hre, hlk, hnm⟩, hFE, rfl⟩ := C
  subst hp
  intro T locs k' n' q1 q2 X eT N
  obtain ⟨s2, o, st2, r⟩ := q T locs k' n' q1 q2 X eT N
  exact ⟨s2, o, XT.pop (X.here) hx rfl (hb hby hd) rfl hc st2, r⟩
theorem Ru.dup2 (C : Ru l Z own code maxL ret nm R n0 G W) {x y : Value} (hd : decode code pc = .ok (.dup2, 1)) (hp : pc + 1 = pc') (hc : x.category = 1) (hc' : y.category = 1) (q : W h k n pc' Ls (x :: y :: x :: y :: rest)) : W h k n pc Ls (x :: y :: rest) := by
  obtain ⟨p, e, s, m, args, below, meth, c, FE, ⟨hx, hby, hml, hown, hZ, hre, hlk, hnm⟩, hFE, rfl⟩ := C
  subst hp
  intro T locs k' n' q1 q2 X eT N
  obtain ⟨s2, o, st2, r⟩ := q T locs k' n' q1 q2 X eT N
  exact ⟨s2, o, XT.dup2 (X.here) hx rfl (hb hby hd) rfl hc hc' st2, r⟩
theorem Ru.dup2L (C : Ru l Z own code maxL ret nm R n0 G W) {x : Int64} (hd : decode code pc = .ok (.dup2, 1)) (hp : pc + 1 = pc') (q : W h k n pc' Ls (.long x :: .long x :: rest)) : W h k n pc Ls (.long x :: rest) := by
  obtain ⟨p, e, s, m, args, below, meth, c, FE, ⟨hx, hby, hml, hown, hZ, hre, hlk, hnm⟩, hFE, rfl⟩ := C
  subst hp
  intro T locs k' n' q1 q2 X eT N
  obtain ⟨s2, o, st2, r⟩ := q T locs k' n' q1 q2 X eT N
  exact ⟨s2, o, XT.dup2L (X.here) hx rfl (hb hby hd) rfl st2, r⟩
theorem Ru.dupX1 (C : Ru l Z own code maxL ret nm R n0 G W) {x y : Value} (hd : decode code pc = .ok (.dup_x1, 1)) (hp : pc + 1 = pc') (hc : x.category = 1) (hc' : y.category = 1) (q : W h k n pc' Ls (x :: y :: x :: rest)) : W h k n pc Ls (x :: y :: rest) := by
  obtain ⟨p, e, s, m, args, below, meth, c, FE, ⟨hx, hby, hml, hown, hZ, hre, hlk, hnm⟩, hFE, rfl⟩ := C
  subst hp
  intro T locs k' n' q1 q2 X eT N
  obtain ⟨s2, o, st2, r⟩ := q T locs k' n' q1 q2 X eT N
  exact ⟨s2, o, XT.dupX1 (X.here) hx rfl (hb hby hd) rfl hc hc' st2, r⟩
theorem Ru.iload (C : Ru l Z own code maxL ret nm R n0 G W) {j : Nat} {v : Int32} (hd : decode code pc = .ok (.iload j, 2)) (hp : pc + 2 = pc') (hl : Ls[j]? = some (.val (.int v))) (q : W h k n pc' Ls (.int v :: st)) : W h k n pc Ls (st) := by
  obtain ⟨p, e, s, m, args, below, meth, c, FE, ⟨hx, hby, hml, hown, hZ, hre, hlk, hnm⟩, hFE, rfl⟩ := C
  subst hp
  intro T locs k' n' q1 q2 X eT N
  obtain ⟨s2, o, st2, r⟩ := q T locs k' n' q1 q2 X eT N
  exact ⟨s2, o, XS.iload (X.here) hx rfl (hb hby hd) hl st2, r⟩
theorem Ru.iloadN (C : Ru l Z own code maxL ret nm R n0 G W) {j : Fin 4} {v : Int32} (hd : decode code pc = .ok (.iload_n j, 1)) (hp : pc + 1 = pc') (hl : Ls[j.val]? = some (.val (.int v))) (q : W h k n pc' Ls (.int v :: st)) : W h k n pc Ls (st) := by
  obtain ⟨p, e, s, m, args, below, meth, c, FE, ⟨hx, hby, hml, hown, hZ, hre, hlk, hnm⟩, hFE, rfl⟩ := C
  subst hp
  intro T locs k' n' q1 q2 X eT N
  obtain ⟨s2, o, st2, r⟩ := q T locs k' n' q1 q2 X eT N
  exact ⟨s2, o, XS.iloadN (X.here) hx rfl (hb hby hd) hl st2, r⟩
theorem Ru.lload (C : Ru l Z own code maxL ret nm R n0 G W) {j : Nat} {v : Int64} (hd : decode code pc = .ok (.lload j, 2)) (hp : pc + 2 = pc') (hl : Ls[j]? = some (.val (.long v))) (q : W h k n pc' Ls (.long v :: st)) : W h k n pc Ls (st) := by
  obtain ⟨p, e, s, m, args, below, meth, c, FE, ⟨hx, hby, hml, hown, hZ, hre, hlk, hnm⟩, hFE, rfl⟩ := C
  subst hp
  intro T locs k' n' q1 q2 X eT N
  obtain ⟨s2, o, st2, r⟩ := q T locs k' n' q1 q2 X eT N
  exact ⟨s2, o, XT.lload (X.here) hx rfl (hb hby hd) hl st2, r⟩
theorem Ru.lloadN (C : Ru l Z own code maxL ret nm R n0 G W) {j : Fin 4} {v : Int64} (hd : decode code pc = .ok (.lload_n j, 1)) (hp : pc + 1 = pc') (hl : Ls[j.val]? = some (.val (.long v))) (q : W h k n pc' Ls (.long v :: st)) : W h k n pc Ls (st) := by
  obtain ⟨p, e, s, m, args, below, meth, c, FE, ⟨hx, hby, hml, hown, hZ, hre, hlk, hnm⟩, hFE, rfl⟩ := C
  subst hp
  intro T locs k' n' q1 q2 X eT N
  obtain ⟨s2, o, st2, r⟩ := q T locs k' n' q1 q2 X eT N
  exact ⟨s2, o, XT.lloadN (X.here) hx rfl (hb hby hd) hl st2, r⟩
theorem Ru.aload (C : Ru l Z own code maxL ret nm R n0 G W) {j : Nat} {v : Value} (hd : decode code pc = .ok (.aload j, 2)) (hp : pc + 2 = pc') (hl : Ls[j]? = some (.val v)) (hv : v.isRef = true) (q : W h k n pc' Ls (v :: st)) : W h k n pc Ls (st) := by
  obtain ⟨p, e, s, m, args, below, meth, c, FE, ⟨hx, hby, hml, hown, hZ, hre, hlk, hnm⟩, hFE, rfl⟩ := C
  subst hp
  intro T locs k' n' q1 q2 X eT N
  obtain ⟨s2, o, st2, r⟩ := q T locs k' n' q1 q2 X eT N
  exact ⟨s2, o, XS.aload (X.here) hx rfl (hb hby hd) hl hv st2, r⟩
theorem Ru.aloadN (C : Ru l Z own code maxL ret nm R n0 G W) {j : Fin 4} {v : Value} (hd : decode code pc = .ok (.aload_n j, 1)) (hp : pc + 1 = pc') (hl : Ls[j.val]? = some (.val v)) (hv : v.isRef = true) (q : W h k n pc' Ls (v :: st)) : W h k n pc Ls (st) := by
  obtain ⟨p, e, s, m, args, below, meth, c, FE, ⟨hx, hby, hml, hown, hZ, hre, hlk, hnm⟩, hFE, rfl⟩ := C
  subst hp
  intro T locs k' n' q1 q2 X eT N
  obtain ⟨s2, o, st2, r⟩ := q T locs k' n' q1 q2 X eT N
  exact ⟨s2, o, XS.aloadN (X.here) hx rfl (hb hby hd) hl hv st2, r⟩
theorem Ru.istoreX (C : Ru l Z own code maxL ret nm R n0 G W) {j : Nat} {x : Int32} {l' : Array Slot} (hd : decode code pc = .ok (.istore j, 2)) (hp : pc + 2 = pc') (hl : storeLocals Ls j (.int x) = some l') (q : W h k n pc' l' rest) : W h k n pc Ls (.int x :: rest) := by
  obtain ⟨p, e, s, m, args, below, meth, c, FE, ⟨hx, hby, hml, hown, hZ, hre, hlk, hnm⟩, hFE, rfl⟩ := C
  subst hp
  intro T locs k' n' q1 q2 X eT N
  obtain ⟨s2, o, st2, r⟩ := q T locs k' n' q1 q2 X eT N
  exact ⟨s2, o, XS.istore X.here hx rfl (hb hby hd) rfl hl st2, r⟩
theorem Ru.istoreNX (C : Ru l Z own code maxL ret nm R n0 G W) {j : Fin 4} {x : Int32} {l' : Array Slot} (hd : decode code pc = .ok (.istore_n j, 1)) (hp : pc + 1 = pc') (hl : storeLocals Ls j.val (.int x) = some l') (q : W h k n pc' l' rest) : W h k n pc Ls (.int x :: rest) := by
  obtain ⟨p, e, s, m, args, below, meth, c, FE, ⟨hx, hby, hml, hown, hZ, hre, hlk, hnm⟩, hFE, rfl⟩ := C
  subst hp
  intro T locs k' n' q1 q2 X eT N
  obtain ⟨s2, o, st2, r⟩ := q T locs k' n' q1 q2 X eT N
  exact ⟨s2, o, XS.istoreN X.here hx rfl (hb hby hd) rfl hl st2, r⟩
theorem Ru.lstoreX (C : Ru l Z own code maxL ret nm R n0 G W) {j : Nat} {x : Int64} {l' : Array Slot} (hd : decode code pc = .ok (.lstore j, 2)) (hp : pc + 2 = pc') (hl : storeLocals Ls j (.long x) = some l') (q : W h k n pc' l' rest) : W h k n pc Ls (.long x :: rest) := by
  obtain ⟨p, e, s, m, args, below, meth, c, FE, ⟨hx, hby, hml, hown, hZ, hre, hlk, hnm⟩, hFE, rfl⟩ := C
  subst hp
  intro T locs k' n' q1 q2 X eT N
  obtain ⟨s2, o, st2, r⟩ := q T locs k' n' q1 q2 X eT N
  exact ⟨s2, o, XT.lstore X.here hx rfl (hb hby hd) rfl hl st2, r⟩
theorem Ru.lstoreNX (C : Ru l Z own code maxL ret nm R n0 G W) {j : Fin 4} {x : Int64} {l' : Array Slot} (hd : decode code pc = .ok (.lstore_n j, 1)) (hp : pc + 1 = pc') (hl : storeLocals Ls j.val (.long x) = some l') (q : W h k n pc' l' rest) : W h k n pc Ls (.long x :: rest) := by
  obtain ⟨p, e, s, m, args, below, meth, c, FE, ⟨hx, hby, hml, hown, hZ, hre, hlk, hnm⟩, hFE, rfl⟩ := C
  subst hp
  intro T locs k' n' q1 q2 X eT N
  obtain ⟨s2, o, st2, r⟩ := q T locs k' n' q1 q2 X eT N
  exact ⟨s2, o, XT.lstoreN X.here hx rfl (hb hby hd) rfl hl st2, r⟩
theorem Ru.istore (C : Ru l Z own code maxL ret nm R n0 G W) {j : Nat} {x : Int32} {f : Int32 → Array Slot} (hd : decode code pc = .ok (.istore j, 2)) (hp : pc + 2 = pc') (hl : ∀ v, storeLocals Ls j (.int v) = some (f v)) (q : ∀ v, v = x → W h k n pc' (f v) rest) : W h k n pc Ls (.int x :: rest) := by
  obtain ⟨p, e, s, m, args, below, meth, c, FE, ⟨hx, hby, hml, hown, hZ, hre, hlk, hnm⟩, hFE, rfl⟩ := C
  subst hp
  intro T locs k' n' q1 q2 X eT N
  obtain ⟨s2, o, st2, r⟩ := q x rfl T locs k' n' q1 q2 X eT N
  exact ⟨s2, o, XS.istore X.here hx rfl (hb hby hd) rfl (hl x) st2, r⟩
theorem Ru.istoreN (C : Ru l Z own code maxL ret nm R n0 G W) {j : Fin 4} {x : Int32} {f : Int32 → Array Slot} (hd : decode code pc = .ok (.istore_n j, 1)) (hp : pc + 1 = pc') (hl : ∀ v, storeLocals Ls j.val (.int v) = some (f v)) (q : ∀ v, v = x → W h k n pc' (f v) rest) : W h k n pc Ls (.int x :: rest) := by
  obtain ⟨p, e, s, m, args, below, meth, c, FE, ⟨hx, hby, hml, hown, hZ, hre, hlk, hnm⟩, hFE, rfl⟩ := C
  subst hp
  intro T locs k' n' q1 q2 X eT N
  obtain ⟨s2, o, st2, r⟩ := q x rfl T locs k' n' q1 q2 X eT N
  exact ⟨s2, o, XS.istoreN X.here hx rfl (hb hby hd) rfl (hl x) st2, r⟩
theorem Ru.lstore (C : Ru l Z own code maxL ret nm R n0 G W) {j : Nat} {x : Int64} {f : Int64 → Array Slot} (hd : decode code pc = .ok (.lstore j, 2)) (hp : pc + 2 = pc') (hl : ∀ v, storeLocals Ls j (.long v) = some (f v)) (q : ∀ v, v = x → W h k n pc' (f v) rest) : W h k n pc Ls (.long x :: rest) := by
  obtain ⟨p, e, s, m, args, below, meth, c, FE, ⟨hx, hby, hml, hown, hZ, hre, hlk, hnm⟩, hFE, rfl⟩ := C
  subst hp
  intro T locs k' n' q1 q2 X eT N
  obtain ⟨s2, o, st2, r⟩ := q x rfl T locs k' n' q1 q2 X eT N
  exact ⟨s2, o, XT.lstore X.here hx rfl (hb hby hd) rfl (hl x) st2, r⟩
theorem Ru.lstoreN (C : Ru l Z own code maxL ret nm R n0 G W) {j : Fin 4} {x : Int64} {f : Int64 → Array Slot} (hd : decode code pc = .ok (.lstore_n j, 1)) (hp : pc + 1 = pc') (hl : ∀ v, storeLocals Ls j.val (.long v) = some (f v)) (q : ∀ v, v = x → W h k n pc' (f v) rest) : W h k n pc Ls (.long x :: rest) := by
  obtain ⟨p, e, s, m, args, below, meth, c, FE, ⟨hx, hby, hml, hown, hZ, hre, hlk, hnm⟩, hFE, rfl⟩ := C
  subst hp
  intro T locs k' n' q1 q2 X eT N
  obtain ⟨s2, o, st2, r⟩ := q x rfl T locs k' n' q1 q2 X eT N
  exact ⟨s2, o, XT.lstoreN X.here hx rfl (hb hby hd) rfl (hl x) st2, r⟩
theorem Ru.astore (C : Ru l Z own code maxL ret nm R n0 G W) {j : Nat} {x : Value} {l' : Array Slot} (hd : decode code pc = .ok (.astore j, 2)) (hp : pc + 2 = pc') (hv : x.isRef = true) (hl : storeLocals Ls j x = some l') (q : W h k n pc' l' rest) : W h k n pc Ls (x :: rest) := by
  obtain ⟨p, e, s, m, args, below, meth, c, FE, ⟨hx, hby, hml, hown, hZ, hre, hlk, hnm⟩, hFE, rfl⟩ := C
  subst hp
  intro T locs k' n' q1 q2 X eT N
  obtain ⟨s2, o, st2, r⟩ := q T locs k' n' q1 q2 X eT N
  exact ⟨s2, o, XS.astore X.here hx rfl (hb hby hd) rfl hv hl st2, r⟩
theorem Ru.astoreN (C : Ru l Z own code maxL ret nm R n0 G W) {j : Fin 4} {x : Value} {l' : Array Slot} (hd : decode code pc = .ok (.astore_n j, 1)) (hp : pc + 1 = pc') (hv : x.isRef = true) (hl : storeLocals Ls j.val x = some l') (q : W h k n pc' l' rest) : W h k n pc Ls (x :: rest) := by
  obtain ⟨p, e, s, m, args, below, meth, c, FE, ⟨hx, hby, hml, hown, hZ, hre, hlk, hnm⟩, hFE, rfl⟩ := C
  subst hp
  intro T locs k' n' q1 q2 X eT N
  obtain ⟨s2, o, st2, r⟩ := q T locs k' n' q1 q2 X eT N
  exact ⟨s2, o, XS.astoreN X.here hx rfl (hb hby hd) rfl hv hl st2, r⟩
theorem Ru.iinc (C : Ru l Z own code maxL ret nm R n0 G W) {j : Nat} {cst : Int} {x d : Int32} {f : Int32 → Array Slot} (hd : decode code pc = .ok (.iinc j cst, 3)) (hp : pc + 3 = pc') (hl : Ls[j]? = some (.val (.int x))) (hc : Int32.ofInt cst = d) (hl' : ∀ v, storeLocals Ls j (.int v) = some (f v)) (q : ∀ v, v = x + d → W h k n pc' (f v) st) : W h k n pc Ls st := by
  obtain ⟨p, e, s, m, args, below, meth, c, FE, ⟨hx, hby, hml, hown, hZ, hre, hlk, hnm⟩, hFE, rfl⟩ := C
  subst hp hc
  intro T locs k' n' q1 q2 X eT N
  obtain ⟨s2, o, st2, r⟩ := q _ rfl T locs k' n' q1 q2 X eT N
  exact ⟨s2, o, XS.iinc X.here hx rfl (hb hby hd) hl (hl' _) st2, r⟩
theorem Ru.goto (C : Ru l Z own code maxL ret nm R n0 G W) {o : Int} (hd : decode code pc = .ok (.goto o, 3)) (hp : (pc : Int) + o = (pc' : Int)) (q : W h k n pc' Ls st) : W h k n pc Ls st := by
  obtain ⟨p, e, s, m, args, below, meth, c, FE, ⟨hx, hby, hml, hown, hZ, hre, hlk, hnm⟩, hFE, rfl⟩ := C
  intro T locs k' n' q1 q2 X eT N
  obtain ⟨s2, o2, st2, r⟩ := q T locs k' n' q1 q2 X eT N
  exact ⟨s2, o2, XS.goto X.here hx rfl (pc0 := pc) (pc' := pc') rfl (hb hby hd) (by omega) (by omega) st2, r⟩
theorem Ru.ifAny (C : Ru l Z own code maxL ret nm R n0 G W) {cd : ClassFile.Cond} {o : Int} {x : Int32} {pt : Nat} (hd : decode code pc = .ok (.ifCond cd o, 3)) (hp : pc + 3 = pc') (ht : (pc : Int) + o = (pt : Int)) (q1 : ifCond.holds cd x = true → W h k n pt Ls rest) (q2 : ifCond.holds cd x = false → W h k n pc' Ls rest) : W h k n pc Ls (.int x :: rest) := by
  obtain ⟨p, e, s, m, args, below, meth, c, FE, ⟨hx, hby, hml, hown, hZ, hre, hlk, hnm⟩, hFE, rfl⟩ := C
  subst hp
  intro T locs k' n' u1 u2 X eT N
  cases hc : ifCond.holds cd x
  · obtain ⟨s2, o2, st2, r⟩ := q2 hc T locs k' n' u1 u2 X eT N
    exact ⟨s2, o2, XS.ifNo X.here hx rfl (hb hby hd) rfl hc st2, r⟩
  · obtain ⟨s2, o2, st2, r⟩ := q1 hc T locs k' n' u1 u2 X eT N
    exact ⟨s2, o2, XS.ifYes X.here hx rfl (pc0 := pc) (pc' := pt) rfl (hb hby hd) rfl hc (by omega) (by omega) st2, r⟩
theorem Ru.icmpAny (C : Ru l Z own code maxL ret nm R n0 G W) {cd : ClassFile.Cond} {o : Int} {x y : Int32} {pt : Nat} (hd : decode code pc = .ok (.if_icmp cd o, 3)) (hp : pc + 3 = pc') (ht : (pc : Int) + o = (pt : Int)) (q1 : if_icmp.holds cd x y = true → W h k n pt Ls rest) (q2 : if_icmp.holds cd x y = false → W h k n pc' Ls rest) : W h k n pc Ls (.int y :: .int x :: rest) := by
  obtain ⟨p, e, s, m, args, below, meth, c, FE, ⟨hx, hby, hml, hown, hZ, hre, hlk, hnm⟩, hFE, rfl⟩ := C
  subst hp
  intro T locs k' n' u1 u2 X eT N
  cases hc : if_icmp.holds cd x y
  · obtain ⟨s2, o2, st2, r⟩ := q2 hc T locs k' n' u1 u2 X eT N
    exact ⟨s2, o2, XS.icmpNo X.here hx rfl (hb hby hd) rfl hc st2, r⟩
  · obtain ⟨s2, o2, st2, r⟩ := q1 hc T locs k' n' u1 u2 X eT N
    exact ⟨s2, o2, XS.icmpYes X.here hx rfl (pc0 := pc) (pc' := pt) rfl (hb hby hd) rfl hc (by omega) (by omega) st2, r⟩
theorem Ru.lcmp (C : Ru l Z own code maxL ret nm R n0 G W) {x y : Int64} (hd : decode code pc = .ok (.lcmp, 1)) (hp : pc + 1 = pc') (q : W h k n pc' Ls (.int (XT.cmpL x y) :: rest)) : W h k n pc Ls (.long y :: .long x :: rest) := by
  obtain ⟨p, e, s, m, args, below, meth, c, FE, ⟨hx, hby, hml, hown, hZ, hre, hlk, hnm⟩, hFE, rfl⟩ := C
  subst hp
  intro T locs k' n' q1 q2 X eT N
  obtain ⟨s2, o, st2, r⟩ := q T locs k' n' q1 q2 X eT N
  exact ⟨s2, o, XT.lcmp X.here hx rfl (hb hby hd) rfl st2, r⟩
theorem cmpL_lt (x y : Int64) : XT.cmpL x y < 0 ↔ x < y := by
  have e : XT.cmpL x y = lcmpV x y := by simp only [XT.cmpL, lcmpV]; split <;> simp_all
  rw [e]; exact lc_lt x y
theorem cmpL_gt (x y : Int64) : 0 < XT.cmpL x y ↔ y < x := by
  have e : XT.cmpL x y = lcmpV x y := by simp only [XT.cmpL, lcmpV]; split <;> simp_all
  rw [e]; exact lc_gt x y
theorem cmpL_eq (x y : Int64) : XT.cmpL x y = 0 ↔ x = y := by
  have e : XT.cmpL x y = lcmpV x y := by simp only [XT.cmpL, lcmpV]; split <;> simp_all
  rw [e]; exact lc_eq x y
theorem Ru.if_eq (C : Ru l Z own code maxL ret nm R n0 G W) {o : Int} {x : Int32} {pt : Nat} (hd : decode code pc = .ok (.ifCond .eq o, 3)) (hp : pc + 3 = pc') (ht : (pc : Int) + o = (pt : Int)) (q1 : x = 0 → W h k n pt Ls rest) (q2 : ¬ x = 0 → W h k n pc' Ls rest) : W h k n pc Ls (.int x :: rest) :=
  C.ifAny hd hp ht (fun q => q1 (by simpa [ifCond.holds] using q)) (fun q => q2 (by simpa [ifCond.holds] using q))
theorem Ru.icmp_eq (C : Ru l Z own code maxL ret nm R n0 G W) {o : Int} {x y : Int32} {pt : Nat} (hd : decode code pc = .ok (.if_icmp .eq o, 3)) (hp : pc + 3 = pc') (ht : (pc : Int) + o = (pt : Int)) (q1 : x = y → W h k n pt Ls rest) (q2 : ¬ x = y → W h k n pc' Ls rest) : W h k n pc Ls (.int y :: .int x :: rest) :=
  C.icmpAny hd hp ht (fun q => q1 (by simpa [if_icmp.holds] using q)) (fun q => q2 (by simpa [if_icmp.holds] using q))
theorem Ru.lif_eq (C : Ru l Z own code maxL ret nm R n0 G W) {o : Int} {x y : Int64} {pi pt : Nat} (hd : decode code pc = .ok (.lcmp, 1)) (hi : pc + 1 = pi) (hd2 : decode code pi = .ok (.ifCond .eq o, 3)) (hp : pi + 3 = pc') (ht : (pi : Int) + o = (pt : Int)) (q1 : x = y → W h k n pt Ls rest) (q2 : ¬ x = y → W h k n pc' Ls rest) : W h k n pc Ls (.long y :: .long x :: rest) :=
  C.lcmp hd hi (C.if_eq hd2 hp ht (fun q => q1 (by simpa only [cmpL_eq, cmpL_lt, cmpL_gt] using q)) (fun q => q2 (by simpa only [cmpL_eq, cmpL_lt, cmpL_gt] using q)))
theorem Ru.if_ne (C : Ru l Z own code maxL ret nm R n0 G W) {o : Int} {x : Int32} {pt : Nat} (hd : decode code pc = .ok (.ifCond .ne o, 3)) (hp : pc + 3 = pc') (ht : (pc : Int) + o = (pt : Int)) (q1 : ¬ x = 0 → W h k n pt Ls rest) (q2 : x = 0 → W h k n pc' Ls rest) : W h k n pc Ls (.int x :: rest) :=
  C.ifAny hd hp ht (fun q => q1 (by simpa [ifCond.holds] using q)) (fun q => q2 (by simpa [ifCond.holds] using q))
theorem Ru.icmp_ne (C : Ru l Z own code maxL ret nm R n0 G W) {o : Int} {x y : Int32} {pt : Nat} (hd : decode code pc = .ok (.if_icmp .ne o, 3)) (hp : pc + 3 = pc') (ht : (pc : Int) + o = (pt : Int)) (q1 : ¬ x = y → W h k n pt Ls rest) (q2 : x = y → W h k n pc' Ls rest) : W h k n pc Ls (.int y :: .int x :: rest) :=
  C.icmpAny hd hp ht (fun q => q1 (by simpa [if_icmp.holds] using q)) (fun q => q2 (by simpa [if_icmp.holds] using q))
theorem Ru.lif_ne (C : Ru l Z own code maxL ret nm R n0 G W) {o : Int} {x y : Int64} {pi pt : Nat} (hd : decode code pc = .ok (.lcmp, 1)) (hi : pc + 1 = pi) (hd2 : decode code pi = .ok (.ifCond .ne o, 3)) (hp : pi + 3 = pc') (ht : (pi : Int) + o = (pt : Int)) (q1 : ¬ x = y → W h k n pt Ls rest) (q2 : x = y → W h k n pc' Ls rest) : W h k n pc Ls (.long y :: .long x :: rest) :=
  C.lcmp hd hi (C.if_ne hd2 hp ht (fun q => q1 (by simpa only [cmpL_eq, cmpL_lt, cmpL_gt] using q)) (fun q => q2 (by simpa only [cmpL_eq, cmpL_lt, cmpL_gt] using q)))
theorem Ru.if_lt (C : Ru l Z own code maxL ret nm R n0 G W) {o : Int} {x : Int32} {pt : Nat} (hd : decode code pc = .ok (.ifCond .lt o, 3)) (hp : pc + 3 = pc') (ht : (pc : Int) + o = (pt : Int)) (q1 : x < 0 → W h k n pt Ls rest) (q2 : ¬ x < 0 → W h k n pc' Ls rest) : W h k n pc Ls (.int x :: rest) :=
  C.ifAny hd hp ht (fun q => q1 (by simpa [ifCond.holds] using q)) (fun q => q2 (by simpa [ifCond.holds] using q))
theorem Ru.icmp_lt (C : Ru l Z own code maxL ret nm R n0 G W) {o : Int} {x y : Int32} {pt : Nat} (hd : decode code pc = .ok (.if_icmp .lt o, 3)) (hp : pc + 3 = pc') (ht : (pc : Int) + o = (pt : Int)) (q1 : x < y → W h k n pt Ls rest) (q2 : ¬ x < y → W h k n pc' Ls rest) : W h k n pc Ls (.int y :: .int x :: rest) :=
  C.icmpAny hd hp ht (fun q => q1 (by simpa [if_icmp.holds] using q)) (fun q => q2 (by simpa [if_icmp.holds] using q))
theorem Ru.lif_lt (C : Ru l Z own code maxL ret nm R n0 G W) {o : Int} {x y : Int64} {pi pt : Nat} (hd : decode code pc = .ok (.lcmp, 1)) (hi : pc + 1 = pi) (hd2 : decode code pi = .ok (.ifCond .lt o, 3)) (hp : pi + 3 = pc') (ht : (pi : Int) + o = (pt : Int)) (q1 : x < y → W h k n pt Ls rest) (q2 : ¬ x < y → W h k n pc' Ls rest) : W h k n pc Ls (.long y :: .long x :: rest) :=
  C.lcmp hd hi (C.if_lt hd2 hp ht (fun q => q1 (by simpa only [cmpL_eq, cmpL_lt, cmpL_gt] using q)) (fun q => q2 (by simpa only [cmpL_eq, cmpL_lt, cmpL_gt] using q)))
theorem Ru.if_ge (C : Ru l Z own code maxL ret nm R n0 G W) {o : Int} {x : Int32} {pt : Nat} (hd : decode code pc = .ok (.ifCond .ge o, 3)) (hp : pc + 3 = pc') (ht : (pc : Int) + o = (pt : Int)) (q1 : ¬ x < 0 → W h k n pt Ls rest) (q2 : x < 0 → W h k n pc' Ls rest) : W h k n pc Ls (.int x :: rest) :=
  C.ifAny hd hp ht (fun q => q1 (by simpa [ifCond.holds] using q)) (fun q => q2 (by simpa [ifCond.holds] using q))
theorem Ru.icmp_ge (C : Ru l Z own code maxL ret nm R n0 G W) {o : Int} {x y : Int32} {pt : Nat} (hd : decode code pc = .ok (.if_icmp .ge o, 3)) (hp : pc + 3 = pc') (ht : (pc : Int) + o = (pt : Int)) (q1 : ¬ x < y → W h k n pt Ls rest) (q2 : x < y → W h k n pc' Ls rest) : W h k n pc Ls (.int y :: .int x :: rest) :=
  C.icmpAny hd hp ht (fun q => q1 (by simpa [if_icmp.holds] using q)) (fun q => q2 (by simpa [if_icmp.holds] using q))
theorem Ru.lif_ge (C : Ru l Z own code maxL ret nm R n0 G W) {o : Int} {x y : Int64} {pi pt : Nat} (hd : decode code pc = .ok (.lcmp, 1)) (hi : pc + 1 = pi) (hd2 : decode code pi = .ok (.ifCond .ge o, 3)) (hp : pi + 3 = pc') (ht : (pi : Int) + o = (pt : Int)) (q1 : ¬ x < y → W h k n pt Ls rest) (q2 : x < y → W h k n pc' Ls rest) : W h k n pc Ls (.long y :: .long x :: rest) :=
  C.lcmp hd hi (C.if_ge hd2 hp ht (fun q => q1 (by simpa only [cmpL_eq, cmpL_lt, cmpL_gt] using q)) (fun q => q2 (by simpa only [cmpL_eq, cmpL_lt, cmpL_gt] using q)))
theorem Ru.if_gt (C : Ru l Z own code maxL ret nm R n0 G W) {o : Int} {x : Int32} {pt : Nat} (hd : decode code pc = .ok (.ifCond .gt o, 3)) (hp : pc + 3 = pc') (ht : (pc : Int) + o = (pt : Int)) (q1 : 0 < x → W h k n pt Ls rest) (q2 : ¬ 0 < x → W h k n pc' Ls rest) : W h k n pc Ls (.int x :: rest) :=
  C.ifAny hd hp ht (fun q => q1 (by simpa [ifCond.holds] using q)) (fun q => q2 (by simpa [ifCond.holds] using q))
theorem Ru.icmp_gt (C : Ru l Z own code maxL ret nm R n0 G W) {o : Int} {x y : Int32} {pt : Nat} (hd : decode code pc = .ok (.if_icmp .gt o, 3)) (hp : pc + 3 = pc') (ht : (pc : Int) + o = (pt : Int)) (q1 : y < x → W h k n pt Ls rest) (q2 : ¬ y < x → W h k n pc' Ls rest) : W h k n pc Ls (.int y :: .int x :: rest) :=
  C.icmpAny hd hp ht (fun q => q1 (by simpa [if_icmp.holds] using q)) (fun q => q2 (by simpa [if_icmp.holds] using q))
theorem Ru.lif_gt (C : Ru l Z own code maxL ret nm R n0 G W) {o : Int} {x y : Int64} {pi pt : Nat} (hd : decode code pc = .ok (.lcmp, 1)) (hi : pc + 1 = pi) (hd2 : decode code pi = .ok (.ifCond .gt o, 3)) (hp : pi + 3 = pc') (ht : (pi : Int) + o = (pt : Int)) (q1 : y < x → W h k n pt Ls rest) (q2 : ¬ y < x → W h k n pc' Ls rest) : W h k n pc Ls (.long y :: .long x :: rest) :=
  C.lcmp hd hi (C.if_gt hd2 hp ht (fun q => q1 (by simpa only [cmpL_eq, cmpL_lt, cmpL_gt] using q)) (fun q => q2 (by simpa only [cmpL_eq, cmpL_lt, cmpL_gt] using q)))
theorem Ru.if_le (C : Ru l Z own code maxL ret nm R n0 G W) {o : Int} {x : Int32} {pt : Nat} (hd : decode code pc = .ok (.ifCond .le o, 3)) (hp : pc + 3 = pc') (ht : (pc : Int) + o = (pt : Int)) (q1 : ¬ 0 < x → W h k n pt Ls rest) (q2 : 0 < x → W h k n pc' Ls rest) : W h k n pc Ls (.int x :: rest) :=
  C.ifAny hd hp ht (fun q => q1 (by simpa [ifCond.holds] using q)) (fun q => q2 (by simpa [ifCond.holds] using q))
theorem Ru.icmp_le (C : Ru l Z own code maxL ret nm R n0 G W) {o : Int} {x y : Int32} {pt : Nat} (hd : decode code pc = .ok (.if_icmp .le o, 3)) (hp : pc + 3 = pc') (ht : (pc : Int) + o = (pt : Int)) (q1 : ¬ y < x → W h k n pt Ls rest) (q2 : y < x → W h k n pc' Ls rest) : W h k n pc Ls (.int y :: .int x :: rest) :=
  C.icmpAny hd hp ht (fun q => q1 (by simpa [if_icmp.holds] using q)) (fun q => q2 (by simpa [if_icmp.holds] using q))
theorem Ru.lif_le (C : Ru l Z own code maxL ret nm R n0 G W) {o : Int} {x y : Int64} {pi pt : Nat} (hd : decode code pc = .ok (.lcmp, 1)) (hi : pc + 1 = pi) (hd2 : decode code pi = .ok (.ifCond .le o, 3)) (hp : pi + 3 = pc') (ht : (pi : Int) + o = (pt : Int)) (q1 : ¬ y < x → W h k n pt Ls rest) (q2 : y < x → W h k n pc' Ls rest) : W h k n pc Ls (.long y :: .long x :: rest) :=
  C.lcmp hd hi (C.if_le hd2 hp ht (fun q => q1 (by simpa only [cmpL_eq, cmpL_lt, cmpL_gt] using q)) (fun q => q2 (by simpa only [cmpL_eq, cmpL_lt, cmpL_gt] using q)))
theorem Ru.ifnullYes (C : Ru l Z own code maxL ret nm R n0 G W) {o : Int}  (hd : decode code pc = .ok (.ifnull o, 3)) (hp : (pc : Int) + o = (pc' : Int)) (q : W h k n pc' Ls rest) : W h k n pc Ls (.null :: rest) := by
  obtain ⟨p, e, s, m, args, below, meth, c, FE, ⟨hx, hby, hml, hown, hZ, hre, hlk, hnm⟩, hFE, rfl⟩ := C
  intro T locs k' n' q1 q2 X eT N
  obtain ⟨s2, o2, st2, r⟩ := q T locs k' n' q1 q2 X eT N
  exact ⟨s2, o2, XS.ifnullYes X.here hx rfl (pc0 := pc) (pc' := pc') rfl (hb hby hd) rfl (by omega) (by omega) st2, r⟩
theorem Ru.ifnullNo (C : Ru l Z own code maxL ret nm R n0 G W) {o : Int} {b : Addr} (hd : decode code pc = .ok (.ifnull o, 3)) (hp : pc + 3 = pc') (q : W h k n pc' Ls rest) : W h k n pc Ls (.ref b :: rest) := by
  obtain ⟨p, e, s, m, args, below, meth, c, FE, ⟨hx, hby, hml, hown, hZ, hre, hlk, hnm⟩, hFE, rfl⟩ := C
  subst hp
  intro T locs k' n' q1 q2 X eT N
  obtain ⟨s2, o2, st2, r⟩ := q T locs k' n' q1 q2 X eT N
  exact ⟨s2, o2, XS.ifnullNo X.here hx rfl (hb hby hd) rfl st2, r⟩
theorem Ru.ifnonnullYes (C : Ru l Z own code maxL ret nm R n0 G W) {o : Int} {b : Addr} (hd : decode code pc = .ok (.ifnonnull o, 3)) (hp : (pc : Int) + o = (pc' : Int)) (q : W h k n pc' Ls rest) : W h k n pc Ls (.ref b :: rest) := by
  obtain ⟨p, e, s, m, args, below, meth, c, FE, ⟨hx, hby, hml, hown, hZ, hre, hlk, hnm⟩, hFE, rfl⟩ := C
  intro T locs k' n' q1 q2 X eT N
  obtain ⟨s2, o2, st2, r⟩ := q T locs k' n' q1 q2 X eT N
  exact ⟨s2, o2, XT.ifnonnullYes X.here hx rfl (pc0 := pc) (pc' := pc') rfl (hb hby hd) rfl (by omega) (by omega) st2, r⟩
theorem Ru.ifnonnullNo (C : Ru l Z own code maxL ret nm R n0 G W) {o : Int}  (hd : decode code pc = .ok (.ifnonnull o, 3)) (hp : pc + 3 = pc') (q : W h k n pc' Ls rest) : W h k n pc Ls (.null :: rest) := by
  obtain ⟨p, e, s, m, args, below, meth, c, FE, ⟨hx, hby, hml, hown, hZ, hre, hlk, hnm⟩, hFE, rfl⟩ := C
  subst hp
  intro T locs k' n' q1 q2 X eT N
  obtain ⟨s2, o2, st2, r⟩ := q T locs k' n' q1 q2 X eT N
  exact ⟨s2, o2, XT.ifnonnullNo X.here hx rfl (hb hby hd) rfl st2, r⟩
theorem lrem_eq (x y : Int64) : x - (x / y) * y = x % y := lrem_mod x y
theorem Ru.lrem (C : Ru l Z own code maxL ret nm R n0 G W) {x y : Int64} (hd : decode code pc = .ok (.lrem, 1)) (hp : pc + 1 = pc') (hy : y ≠ 0) (q : W h k n pc' Ls (.long (x % y) :: rest)) : W h k n pc Ls (.long y :: .long x :: rest) := by
  obtain ⟨p, e, s, m, args, below, meth, c, FE, ⟨hx, hby, hml, hown, hZ, hre, hlk, hnm⟩, hFE, rfl⟩ := C
  subst hp
  intro T locs k' n' q1 q2 X eT N
  obtain ⟨s2, o, st2, r⟩ := q T locs k' n' q1 q2 X eT N
  exact ⟨s2, o, XT.lrem X.here hx rfl (hb hby hd) rfl hy (by rw [lrem_mod]; exact st2), r⟩
theorem Ru.ldcI (C : Ru l Z own code maxL ret nm R n0 G W) {a0 : Array Value} {i : Nat} {v : Int32} (w : (Cond.constant own i v).before a0 Z = true) (hd : decode code pc = .ok (.ldc i, 2)) (hp : pc + 2 = pc') (q : W h k n pc' Ls (.int v :: st)) : W h k n pc Ls st := by
  obtain ⟨p, e, s, m, args, below, meth, c, FE, ⟨hx, hby, hml, hown, hZ, hre, hlk, hnm⟩, hFE, rfl⟩ := C
  subst hp
  intro T locs k' n' q1 q2 X eT N
  obtain ⟨s2, o, st2, r⟩ := q T locs k' n' q1 q2 X eT N
  exact ⟨s2, o, X.ldcInt hx hown (mvT hZ w) (g := mkF m pc Ls st) rfl (hb hby hd) _ st2, r⟩
theorem Ru.ldcJ (C : Ru l Z own code maxL ret nm R n0 G W) {a0 : Array Value} {i : Nat} {v : Int64} (w : (Cond.constantLong own i v).before a0 Z = true) (hd : decode code pc = .ok (.ldc2_w i, 3)) (hp : pc + 3 = pc') (q : W h k n pc' Ls (.long v :: st)) : W h k n pc Ls st := by
  obtain ⟨p, e, s, m, args, below, meth, c, FE, ⟨hx, hby, hml, hown, hZ, hre, hlk, hnm⟩, hFE, rfl⟩ := C
  subst hp
  intro T locs k' n' q1 q2 X eT N
  obtain ⟨s2, o, st2, r⟩ := q T locs k' n' q1 q2 X eT N
  exact ⟨s2, o, X.ldc2Long hx hown (mvT hZ w) (g := mkF m pc Ls st) rfl (hb hby hd) _ st2, r⟩
/-! the heap -/
theorem Ru.getf (C : Ru l Z own code maxL ret nm R n0 G W) {a0 : Array Value} {R0 O f d : String} {i : Nat} {a : Addr} {v : Value} (w : (Cond.fieldLink own i R0 f d).before a0 Z = true) (via : Via Z R0 O f d) (F : Fld Z h a O f d v) (hd : decode code pc = .ok (.getfield i, 3)) (hp : pc + 3 = pc') (q : W h k n pc' Ls (v :: rest)) : W h k n pc Ls (.ref a :: rest) := by
  obtain ⟨p, e, s, m, args, below, meth, c, FE, ⟨hx, hby, hml, hown, hZ, hre, hlk, hnm⟩, hFE, rfl⟩ := C
  subst hp
  intro T locs k' n' q1 q2 X eT N
  obtain ⟨T', X', e', st'⟩ := getF X hx hZ hown (host := "") (Or.inl w) via eT F (g := mkF m pc Ls (.ref a :: rest)) rfl rfl (hb hby hd)
  obtain ⟨s2, o, st2, r⟩ := q T' locs k' n' q1 q2 X' e' N
  exact ⟨s2, o, st' _ st2, r⟩
theorem Ru.gets (C : Ru l Z own code maxL ret nm R n0 G W) {a0 : Array Value} {R0 O f d : String} {i : Nat} {v : Value} (w : (Cond.fieldLink own i R0 f d).before a0 Z = true) (via : Via Z R0 O f d) (F : Sta Z h O f d v) (hd : decode code pc = .ok (.getstatic i, 3)) (hp : pc + 3 = pc') (q : W h k n pc' Ls (v :: st)) : W h k n pc Ls st := by
  obtain ⟨p, e, s, m, args, below, meth, c, FE, ⟨hx, hby, hml, hown, hZ, hre, hlk, hnm⟩, hFE, rfl⟩ := C
  subst hp
  intro T locs k' n' q1 q2 X eT N
  obtain ⟨T', X', e', st'⟩ := getS X hx hZ (host := "") hown w via eT F (g := mkF m pc Ls st) rfl (hb hby hd)
  obtain ⟨s2, o, st2, r⟩ := q T' locs k' n' q1 q2 X' e' N
  exact ⟨s2, o, st' _ st2, r⟩
theorem Ru.putf (C : Ru l Z own code maxL ret nm R n0 G W) {a0 : Array Value} {R0 O f d D : String} {i kk : Nat} {ty : FieldType} {a : Addr} {v old : Value} (w : (Cond.fieldLink own i R0 f d).before a0 Z = true) (via : Via Z R0 O f d) (F : Fld Z h a O f d old) (E : Exa Z h a D)
    (L : (Cond.lays D O f d).before a0 Z = true ∨ ((Cond.laysFinal D O f d).before a0 Z = true ∧ own = O ∧ nm = "<init>")) (wi : (Cond.instantiable D kk).before a0 Z = true) (hty : parseFieldDescriptor d = some ty) (hn : narrow ty v = v) (hf : fits ty v = true) (hg : n0 ≤ a)
    (hd : decode code pc = .ok (.putfield i, 3)) (hp : pc + 3 = pc') (q : ∀ h', Wr h h' a (Jvm.RoadKit.slotOf Z O f d) v → W h' k n pc' Ls rest) : W h k n pc Ls (v :: .ref a :: rest) := by
  obtain ⟨p, e, s, m, args, below, meth, c, FE, ⟨hx, hby, hml, hown, hZ, hre, hlk, hnm⟩, hFE, rfl⟩ := C
  subst hp
  intro T locs k' n' q1 q2 X eT N
  obtain ⟨T', h', X', e', W', st'⟩ := putF X hx hZ hown (host := "") (Or.inl w) via eT F E (L.imp id fun u => ⟨u.1, u.2.1, hnm.trans u.2.2⟩) wi hty hn hf (g := mkF m pc Ls (v :: .ref a :: rest)) rfl rfl (hb hby hd)
  obtain ⟨s2, o, st2, r⟩ := q h' W' T' _ k' n' q1 q2 X' e' (Fr.snoc X' N hg)
  exact ⟨s2, o, st' _ st2, r⟩
theorem Ru.putfN (C : Ru l Z own code maxL ret nm R n0 G W) {a0 : Array Value} {R0 O f d D : String} {i kk : Nat} {ty : FieldType} {a : Addr} {v v' old : Value} (w : (Cond.fieldLink own i R0 f d).before a0 Z = true) (via : Via Z R0 O f d) (F : Fld Z h a O f d old) (E : Exa Z h a D)
    (L : (Cond.lays D O f d).before a0 Z = true ∨ ((Cond.laysFinal D O f d).before a0 Z = true ∧ own = O ∧ nm = "<init>")) (wi : (Cond.instantiable D kk).before a0 Z = true) (hty : parseFieldDescriptor d = some ty) (hn : narrow ty v = v') (hf : fits ty v' = true) (hg : n0 ≤ a)
    (hd : decode code pc = .ok (.putfield i, 3)) (hp : pc + 3 = pc') (q : ∀ h', Wr h h' a (Jvm.RoadKit.slotOf Z O f d) v' → W h' k n pc' Ls rest) : W h k n pc Ls (v :: .ref a :: rest) := by
  obtain ⟨p, e, s, m, args, below, meth, c, FE, ⟨hx, hby, hml, hown, hZ, hre, hlk, hnm⟩, hFE, rfl⟩ := C
  subst hp
  intro T locs k' n' q1 q2 X eT N
  obtain ⟨T', h', X', e', W', st'⟩ := putFN X hx hZ hown w via eT F E (L.imp id fun u => ⟨u.1, u.2.1, hnm.trans u.2.2⟩) wi hty hn hf (g := mkF m pc Ls (v :: .ref a :: rest)) rfl rfl (hb hby hd)
  obtain ⟨s2, o, st2, r⟩ := q h' W' T' _ k' n' q1 q2 X' e' (Fr.snoc X' N hg)
  exact ⟨s2, o, st' _ st2, r⟩
theorem Ru.new (C : Ru l Z own code maxL ret nm R n0 G W) {a0 : Array Value} {D : String} {i sl : Nat} (w : (Cond.classLink own i D).before a0 Z = true) (wi : (Cond.instantiable D sl).before a0 Z = true) (wz : (Cond.initialized D).before a0 Z = true)
    (hd : decode code pc = .ok (.new i, 3)) (hp : pc + 3 = pc') (hk : k + 1 ≤ R.cells) (hn : n + sl ≤ R.slots)
    (q : ∀ h' b, b = h.size → Ext h h' → Exa Z h' b D → (∀ {O nm d : String} {ty : FieldType}, Laid Z a0 D O nm d → parseFieldDescriptor d = some ty → Fld Z h' b O nm d (defaultValue ty)) → W h' (k + 1) (n + sl) pc' Ls (.ref b :: st)) : W h k n pc Ls st := by
  obtain ⟨p, e, s, m, args, below, meth, c, FE, ⟨hx, hby, hml, hown, hZ, hre, hlk, hnm⟩, hFE, rfl⟩ := C
  subst hp
  intro T locs k' n' q1 q2 X eT N
  obtain ⟨T', h', X', e', E', A', D', -, st'⟩ := newO X hx hZ hown w wi wz eT (g := mkF m pc Ls st) rfl (hb hby hd) (by omega) (by omega)
  obtain ⟨s2, o, st2, r⟩ := q h' _ rfl E' A' D' T' locs (k' + 1) (n' + sl) (by omega) (by omega) X' e' N
  exact ⟨s2, o, st' _ st2, r⟩
/-- an int array with just these elements -/
def AI (Z : State) (h : Heap) (a : Addr) (vs : List Int32) : Prop := ∃ c : Cell, Arr Z h a c .int ∧ c.slots = (vs.map Value.int).toArray ∧ vs.length < 2 ^ 31
def AJ (Z : State) (h : Heap) (a : Addr) (vs : List Int64) : Prop := ∃ c : Cell, Arr Z h a c .long ∧ c.slots = (vs.map Value.long).toArray ∧ vs.length < 2 ^ 31
/-- a byte array of this length -/
def AB (Z : State) (h : Heap) (a : Addr) (z : Nat) : Prop := ∃ c : Cell, Arr Z h a c .byte ∧ c.slots.size = z ∧ z < 2 ^ 31
theorem AI.lt {Z : State} {h : Heap} {a : Addr} {vs : List Int32} (F : AI Z h a vs) : a < h.size := by obtain ⟨c, A, -⟩ := F; exact A.lt
theorem AI.ext {Z : State} {h h' : Heap} {a : Addr} {vs : List Int32} (F : AI Z h a vs) (E : Ext h h') : AI Z h' a vs := by obtain ⟨c, A, r⟩ := F; exact ⟨c, A.ext E, r⟩
theorem AI.other {Z : State} {h h' : Heap} {a b : Addr} {sl : Nat} {v : Value} {vs : List Int32} (F : AI Z h b vs) (W : Wr h h' a sl v) (q : b ≠ a) : AI Z h' b vs := by obtain ⟨c, A, r⟩ := F; exact ⟨c, A.other W q, r⟩
theorem AI.keep {Z : State} {h h' : Heap} {a : Addr} {ws : List Addr} {vs : List Int32} (F : AI Z h a vs) (K : Keep h h' ws) (q : a ∉ ws) : AI Z h' a vs := by obtain ⟨c, A, r⟩ := F; exact ⟨c, ⟨K.2.1 a c A.1 q, A.2⟩, r⟩
theorem AI.set {Z : State} {h h' : Heap} {a : Addr} {j : Nat} {v : Int32} {vs : List Int32} (F : AI Z h a vs) (W : Wr h h' a j (.int v)) : AI Z h' a (vs.set j v) := by
  obtain ⟨c, A, e, r⟩ := F
  refine ⟨_, A.same W, ?_, by rw [List.length_set]; exact r⟩
  have q : (c.setSlot j (.int v)).slots = c.slots.setIfInBounds j (.int v) := rfl
  rw [q, e]
  apply Array.ext'
  simp [List.map_set]
theorem Ru.newAI (C : Ru l Z own code maxL ret nm R n0 G W) {a0 : Array Value} {z : Int32} {N cap : Nat} (w : (Cond.arrayClass .int).before a0 Z = true) (hd : decode code pc = .ok (.newarray .int, 2)) (hp : pc + 2 = pc') (hz : z.toInt = (N : Int)) (hcap : N ≤ cap) (hb8 : cap * 8 ≤ 536870912) (hk : k + 1 ≤ R.cells) (hn : n + cap ≤ R.slots)
    (q : ∀ h' b, b = h.size → Ext h h' → AI Z h' b (List.replicate N 0) → W h' (k + 1) (n + cap) pc' Ls (.ref b :: rest)) : W h k n pc Ls (.int z :: rest) := by
  obtain ⟨p, e, s, m, args, below, meth, c, FE, ⟨hx, hby, hml, hown, hZ, hre, hlk, hnm⟩, hFE, rfl⟩ := C
  subst hp
  intro T locs k' n' q1 q2 X eT Nf
  have hnn : ¬ z < 0 := by rw [Int32.lt_iff_toInt_lt]; show ¬ z.toInt < 0; omega
  have hzn : z.toNatClampNeg = N := by show z.toInt.toNat = N; omega
  have hlt : N < 2 ^ 31 := by have := (rng32 z).2; omega
  obtain ⟨T', h', cA, X', e', E', A', st'⟩ := newP X hx hZ (aty := .int) w eT (g := mkF m pc Ls (.int z :: rest)) rfl (hb hby hd) rfl hnn (cap := cap) (by omega) hb8 (by omega) (by omega)
  have F : AI Z h' h.size (List.replicate N 0) := by
    refine ⟨_, A', ?_, by rw [List.length_replicate]; exact hlt⟩
    simp only [newA, hzn]
    apply Array.ext'
    simp [defaultValue, newarray.typeOf]
  obtain ⟨s2, o, st2, r⟩ := q h' _ rfl E' F T' locs (k' + 1) (n' + cap) (by omega) (by omega) X' e' Nf
  exact ⟨s2, o, st' _ st2, r⟩
theorem Ru.ldAI (C : Ru l Z own code maxL ret nm R n0 G W) {a : Addr} {j : Int32} {i : Nat} {v : Int32} {vs : List Int32} (F : AI Z h a vs) (hj : j.toInt = (i : Int)) (hv : vs[i]? = some v) (hd : decode code pc = .ok (.iaload, 1)) (hp : pc + 1 = pc') (q : W h k n pc' Ls (.int v :: rest)) : W h k n pc Ls (.int j :: .ref a :: rest) := by
  obtain ⟨p, e, s, m, args, below, meth, c, FE, ⟨hx, hby, hml, hown, hZ, hre, hlk, hnm⟩, hFE, rfl⟩ := C
  subst hp
  intro T locs k' n' q1 q2 X eT N
  obtain ⟨cl, A, es, hl⟩ := F
  have hjn : j.toNatClampNeg = i := by show j.toInt.toNat = i; omega
  have hlt : i < vs.length := (List.getElem?_eq_some_iff.mp hv).1
  have hin : ¬ (j < 0 ∨ cl.slots.size ≤ j.toNatClampNeg) := by
    rw [Int32.lt_iff_toInt_lt, es, hjn]
    simp only [List.size_toArray, List.length_map]
    show ¬ (j.toInt < 0 ∨ _); omega
  have hat : cl.slots[j.toNatClampNeg]? = some (.int v) := by rw [es, hjn]; simp [hv]
  obtain ⟨s2, o, st2, r⟩ := q T locs k' n' q1 q2 X eT N
  exact ⟨s2, o, X.iaload hx (by rw [eT]; exact A.1) (State.isArrayOf_alike hZ.alike A.2.1) A.2.2 hin hat (g := mkF m pc Ls (.int j :: .ref a :: rest)) rfl rfl (hb hby hd) _ st2, r⟩
theorem Ru.stAI (C : Ru l Z own code maxL ret nm R n0 G W) {a : Addr} {j : Int32} {i : Nat} {v : Int32} {vs : List Int32} (F : AI Z h a vs) (hj : j.toInt = (i : Int)) (hlt : i < vs.length) (hg : n0 ≤ a) (hd : decode code pc = .ok (.iastore, 1)) (hp : pc + 1 = pc') (q : ∀ h', Wr h h' a i (.int v) → AI Z h' a (vs.set i v) → W h' k n pc' Ls rest) : W h k n pc Ls (.int v :: .int j :: .ref a :: rest) := by
  obtain ⟨p, e, s, m, args, below, meth, c, FE, ⟨hx, hby, hml, hown, hZ, hre, hlk, hnm⟩, hFE, rfl⟩ := C
  subst hp
  intro T locs k' n' q1 q2 X eT N
  have F0 := F
  obtain ⟨cl, A, es, hl⟩ := F
  have hjn : j.toNatClampNeg = i := by show j.toInt.toNat = i; omega
  have hin : ¬ (j < 0 ∨ cl.slots.size ≤ j.toNatClampNeg) := by
    rw [Int32.lt_iff_toInt_lt, es, hjn]
    simp only [List.size_toArray, List.length_map]
    show ¬ (j.toInt < 0 ∨ _); omega
  obtain ⟨T', h', X', e', W', st'⟩ := stI X hx hZ eT A (j := j) hin (g := mkF m pc Ls (.int v :: .int j :: .ref a :: rest)) rfl rfl (hb hby hd)
  rw [hjn] at W'
  obtain ⟨s2, o, st2, r⟩ := q h' W' (F0.set W') T' _ k' n' q1 q2 X' e' (Fr.snoc X' N hg)
  exact ⟨s2, o, st' _ st2, r⟩
theorem Ru.lenAI (C : Ru l Z own code maxL ret nm R n0 G W) {a : Addr} {vs : List Int32} {z : Int32} (F : AI Z h a vs) (hz : z.toInt = (vs.length : Int)) (hd : decode code pc = .ok (.arraylength, 1)) (hp : pc + 1 = pc') (q : W h k n pc' Ls (.int z :: rest)) : W h k n pc Ls (.ref a :: rest) := by
  obtain ⟨p, e, s, m, args, below, meth, c, FE, ⟨hx, hby, hml, hown, hZ, hre, hlk, hnm⟩, hFE, rfl⟩ := C
  subst hp
  intro T locs k' n' q1 q2 X eT N
  obtain ⟨cl, A, es, hl⟩ := F
  have e1 : cl.slots.size.toInt32 = z := by
    apply Int32.toInt_inj.mp
    rw [es, hz]
    simp only [List.size_toArray, List.length_map]
    exact len_toInt hl
  obtain ⟨s2, o, st2, r⟩ := q T locs k' n' q1 q2 X eT N
  exact ⟨s2, o, X.arraylength hx (by rw [eT]; exact A.1) (State.isArrayOf_alike hZ.alike A.2.1) (g := mkF m pc Ls (.ref a :: rest)) rfl rfl (hb hby hd) _ (by rw [e1]; exact st2), r⟩
theorem AJ.lt {Z : State} {h : Heap} {a : Addr} {vs : List Int64} (F : AJ Z h a vs) : a < h.size := by obtain ⟨c, A, -⟩ := F; exact A.lt
theorem AJ.ext {Z : State} {h h' : Heap} {a : Addr} {vs : List Int64} (F : AJ Z h a vs) (E : Ext h h') : AJ Z h' a vs := by obtain ⟨c, A, r⟩ := F; exact ⟨c, A.ext E, r⟩
theorem AJ.other {Z : State} {h h' : Heap} {a b : Addr} {sl : Nat} {v : Value} {vs : List Int64} (F : AJ Z h b vs) (W : Wr h h' a sl v) (q : b ≠ a) : AJ Z h' b vs := by obtain ⟨c, A, r⟩ := F; exact ⟨c, A.other W q, r⟩
theorem AJ.keep {Z : State} {h h' : Heap} {a : Addr} {ws : List Addr} {vs : List Int64} (F : AJ Z h a vs) (K : Keep h h' ws) (q : a ∉ ws) : AJ Z h' a vs := by obtain ⟨c, A, r⟩ := F; exact ⟨c, ⟨K.2.1 a c A.1 q, A.2⟩, r⟩
theorem AJ.set {Z : State} {h h' : Heap} {a : Addr} {j : Nat} {v : Int64} {vs : List Int64} (F : AJ Z h a vs) (W : Wr h h' a j (.long v)) : AJ Z h' a (vs.set j v) := by
  obtain ⟨c, A, e, r⟩ := F
  refine ⟨_, A.same W, ?_, by rw [List.length_set]; exact r⟩
  have q : (c.setSlot j (.long v)).slots = c.slots.setIfInBounds j (.long v) := rfl
  rw [q, e]
  apply Array.ext'
  simp [List.map_set]
theorem Ru.newAJ (C : Ru l Z own code maxL ret nm R n0 G W) {a0 : Array Value} {z : Int32} {N cap : Nat} (w : (Cond.arrayClass .long).before a0 Z = true) (hd : decode code pc = .ok (.newarray .long, 2)) (hp : pc + 2 = pc') (hz : z.toInt = (N : Int)) (hcap : N ≤ cap) (hb8 : cap * 8 ≤ 536870912) (hk : k + 1 ≤ R.cells) (hn : n + cap ≤ R.slots)
    (q : ∀ h' b, b = h.size → Ext h h' → AJ Z h' b (List.replicate N 0) → W h' (k + 1) (n + cap) pc' Ls (.ref b :: rest)) : W h k n pc Ls (.int z :: rest) := by
  obtain ⟨p, e, s, m, args, below, meth, c, FE, ⟨hx, hby, hml, hown, hZ, hre, hlk, hnm⟩, hFE, rfl⟩ := C
  subst hp
  intro T locs k' n' q1 q2 X eT Nf
  have hnn : ¬ z < 0 := by rw [Int32.lt_iff_toInt_lt]; show ¬ z.toInt < 0; omega
  have hzn : z.toNatClampNeg = N := by show z.toInt.toNat = N; omega
  have hlt : N < 2 ^ 31 := by have := (rng32 z).2; omega
  obtain ⟨T', h', cA, X', e', E', A', st'⟩ := newP X hx hZ (aty := .long) w eT (g := mkF m pc Ls (.int z :: rest)) rfl (hb hby hd) rfl hnn (cap := cap) (by omega) hb8 (by omega) (by omega)
  have F : AJ Z h' h.size (List.replicate N 0) := by
    refine ⟨_, A', ?_, by rw [List.length_replicate]; exact hlt⟩
    simp only [newA, hzn]
    apply Array.ext'
    simp [defaultValue, newarray.typeOf]
  obtain ⟨s2, o, st2, r⟩ := q h' _ rfl E' F T' locs (k' + 1) (n' + cap) (by omega) (by omega) X' e' Nf
  exact ⟨s2, o, st' _ st2, r⟩
theorem Ru.ldAJ (C : Ru l Z own code maxL ret nm R n0 G W) {a : Addr} {j : Int32} {i : Nat} {v : Int64} {vs : List Int64} (F : AJ Z h a vs) (hj : j.toInt = (i : Int)) (hv : vs[i]? = some v) (hd : decode code pc = .ok (.laload, 1)) (hp : pc + 1 = pc') (q : W h k n pc' Ls (.long v :: rest)) : W h k n pc Ls (.int j :: .ref a :: rest) := by
  obtain ⟨p, e, s, m, args, below, meth, c, FE, ⟨hx, hby, hml, hown, hZ, hre, hlk, hnm⟩, hFE, rfl⟩ := C
  subst hp
  intro T locs k' n' q1 q2 X eT N
  obtain ⟨cl, A, es, hl⟩ := F
  have hjn : j.toNatClampNeg = i := by show j.toInt.toNat = i; omega
  have hlt : i < vs.length := (List.getElem?_eq_some_iff.mp hv).1
  have hin : ¬ (j < 0 ∨ cl.slots.size ≤ j.toNatClampNeg) := by
    rw [Int32.lt_iff_toInt_lt, es, hjn]
    simp only [List.size_toArray, List.length_map]
    show ¬ (j.toInt < 0 ∨ _); omega
  have hat : cl.slots[j.toNatClampNeg]? = some (.long v) := by rw [es, hjn]; simp [hv]
  obtain ⟨s2, o, st2, r⟩ := q T locs k' n' q1 q2 X eT N
  exact ⟨s2, o, X.laload hx (by rw [eT]; exact A.1) (State.isArrayOf_alike hZ.alike A.2.1) A.2.2 hin hat (g := mkF m pc Ls (.int j :: .ref a :: rest)) rfl rfl (hb hby hd) _ st2, r⟩
theorem Ru.stAJ (C : Ru l Z own code maxL ret nm R n0 G W) {a : Addr} {j : Int32} {i : Nat} {v : Int64} {vs : List Int64} (F : AJ Z h a vs) (hj : j.toInt = (i : Int)) (hlt : i < vs.length) (hg : n0 ≤ a) (hd : decode code pc = .ok (.lastore, 1)) (hp : pc + 1 = pc') (q : ∀ h', Wr h h' a i (.long v) → AJ Z h' a (vs.set i v) → W h' k n pc' Ls rest) : W h k n pc Ls (.long v :: .int j :: .ref a :: rest) := by
  obtain ⟨p, e, s, m, args, below, meth, c, FE, ⟨hx, hby, hml, hown, hZ, hre, hlk, hnm⟩, hFE, rfl⟩ := C
  subst hp
  intro T locs k' n' q1 q2 X eT N
  have F0 := F
  obtain ⟨cl, A, es, hl⟩ := F
  have hjn : j.toNatClampNeg = i := by show j.toInt.toNat = i; omega
  have hin : ¬ (j < 0 ∨ cl.slots.size ≤ j.toNatClampNeg) := by
    rw [Int32.lt_iff_toInt_lt, es, hjn]
    simp only [List.size_toArray, List.length_map]
    show ¬ (j.toInt < 0 ∨ _); omega
  obtain ⟨T', h', X', e', W', st'⟩ := stJ X hx hZ eT A (j := j) hin (g := mkF m pc Ls (.long v :: .int j :: .ref a :: rest)) rfl rfl (hb hby hd)
  rw [hjn] at W'
  obtain ⟨s2, o, st2, r⟩ := q h' W' (F0.set W') T' _ k' n' q1 q2 X' e' (Fr.snoc X' N hg)
  exact ⟨s2, o, st' _ st2, r⟩
theorem Ru.lenAJ (C : Ru l Z own code maxL ret nm R n0 G W) {a : Addr} {vs : List Int64} {z : Int32} (F : AJ Z h a vs) (hz : z.toInt = (vs.length : Int)) (hd : decode code pc = .ok (.arraylength, 1)) (hp : pc + 1 = pc') (q : W h k n pc' Ls (.int z :: rest)) : W h k n pc Ls (.ref a :: rest) := by
  obtain ⟨p, e, s, m, args, below, meth, c, FE, ⟨hx, hby, hml, hown, hZ, hre, hlk, hnm⟩, hFE, rfl⟩ := C
  subst hp
  intro T locs k' n' q1 q2 X eT N
  obtain ⟨cl, A, es, hl⟩ := F
  have e1 : cl.slots.size.toInt32 = z := by
    apply Int32.toInt_inj.mp
    rw [es, hz]
    simp only [List.size_toArray, List.length_map]
    exact len_toInt hl
  obtain ⟨s2, o, st2, r⟩ := q T locs k' n' q1 q2 X eT N
  exact ⟨s2, o, X.arraylength hx (by rw [eT]; exact A.1) (State.isArrayOf_alike hZ.alike A.2.1) (g := mkF m pc Ls (.ref a :: rest)) rfl rfl (hb hby hd) _ (by rw [e1]; exact st2), r⟩
theorem AB.lt {Z : State} {h : Heap} {a : Addr} {z : Nat} (F : AB Z h a z) : a < h.size := by obtain ⟨c, A, -⟩ := F; exact A.lt
theorem AB.ext {Z : State} {h h' : Heap} {a : Addr} {z : Nat} (F : AB Z h a z) (E : Ext h h') : AB Z h' a z := by obtain ⟨c, A, r⟩ := F; exact ⟨c, A.ext E, r⟩
theorem AB.other {Z : State} {h h' : Heap} {a b : Addr} {sl : Nat} {v : Value} {z : Nat} (F : AB Z h b z) (W : Wr h h' a sl v) (q : b ≠ a) : AB Z h' b z := by obtain ⟨c, A, r⟩ := F; exact ⟨c, A.other W q, r⟩
theorem AB.keep {Z : State} {h h' : Heap} {a : Addr} {ws : List Addr} {z : Nat} (F : AB Z h a z) (K : Keep h h' ws) (q : a ∉ ws) : AB Z h' a z := by obtain ⟨c, A, r⟩ := F; exact ⟨c, ⟨K.2.1 a c A.1 q, A.2⟩, r⟩
theorem Ru.newAB (C : Ru l Z own code maxL ret nm R n0 G W) {a0 : Array Value} {z : Int32} {N cap : Nat} (w : (Cond.arrayClass .byte).before a0 Z = true) (hd : decode code pc = .ok (.newarray .byte, 2)) (hp : pc + 2 = pc') (hz : z.toInt = (N : Int)) (hcap : N ≤ cap) (hb8 : cap * 8 ≤ 536870912) (hk : k + 1 ≤ R.cells) (hn : n + cap ≤ R.slots)
    (q : ∀ h' b, b = h.size → Ext h h' → AB Z h' b N → W h' (k + 1) (n + cap) pc' Ls (.ref b :: rest)) : W h k n pc Ls (.int z :: rest) := by
  obtain ⟨p, e, s, m, args, below, meth, c, FE, ⟨hx, hby, hml, hown, hZ, hre, hlk, hnm⟩, hFE, rfl⟩ := C
  subst hp
  intro T locs k' n' q1 q2 X eT Nf
  have hnn : ¬ z < 0 := by rw [Int32.lt_iff_toInt_lt]; show ¬ z.toInt < 0; omega
  have hzn : z.toNatClampNeg = N := by show z.toInt.toNat = N; omega
  have hlt : N < 2 ^ 31 := by have := (rng32 z).2; omega
  obtain ⟨T', h', cA, X', e', E', A', st'⟩ := newP X hx hZ (aty := .byte) w eT (g := mkF m pc Ls (.int z :: rest)) rfl (hb hby hd) rfl hnn (cap := cap) (by omega) hb8 (by omega) (by omega)
  have F : AB Z h' h.size N := ⟨_, A', by rw [sz_new]; exact hzn, hlt⟩
  obtain ⟨s2, o, st2, r⟩ := q h' _ rfl E' F T' locs (k' + 1) (n' + cap) (by omega) (by omega) X' e' Nf
  exact ⟨s2, o, st' _ st2, r⟩
theorem Ru.stAB (C : Ru l Z own code maxL ret nm R n0 G W) {a : Addr} {j : Int32} {i : Nat} {v : Int32} {z : Nat} (F : AB Z h a z) (hj : j.toInt = (i : Int)) (hlt : i < z) (hg : n0 ≤ a) (hd : decode code pc = .ok (.bastore, 1)) (hp : pc + 1 = pc') (q : ∀ h', Wr h h' a i (.int (nar .byte v)) → AB Z h' a z → W h' k n pc' Ls rest) : W h k n pc Ls (.int v :: .int j :: .ref a :: rest) := by
  obtain ⟨p, e, s, m, args, below, meth, c, FE, ⟨hx, hby, hml, hown, hZ, hre, hlk, hnm⟩, hFE, rfl⟩ := C
  subst hp
  intro T locs k' n' q1 q2 X eT N
  obtain ⟨cl, A, es, hl⟩ := F
  have hjn : j.toNatClampNeg = i := by show j.toInt.toNat = i; omega
  have hin : ¬ (j < 0 ∨ cl.slots.size ≤ j.toNatClampNeg) := by
    rw [Int32.lt_iff_toInt_lt, es, hjn]
    show ¬ (j.toInt < 0 ∨ _); omega
  obtain ⟨T', h', X', e', W', st'⟩ := stB X hx hZ eT A (j := j) hin (g := mkF m pc Ls (.int v :: .int j :: .ref a :: rest)) rfl rfl (hb hby hd)
  rw [hjn] at W'
  obtain ⟨s2, o, st2, r⟩ := q h' W' ⟨_, A.same W', by rw [sz_set]; exact es, hl⟩ T' _ k' n' q1 q2 X' e' (Fr.snoc X' N hg)
  exact ⟨s2, o, st' _ st2, r⟩
theorem Ru.lenAB (C : Ru l Z own code maxL ret nm R n0 G W) {a : Addr} {N : Nat} {z : Int32} (F : AB Z h a N) (hz : z.toInt = (N : Int)) (hd : decode code pc = .ok (.arraylength, 1)) (hp : pc + 1 = pc') (q : W h k n pc' Ls (.int z :: rest)) : W h k n pc Ls (.ref a :: rest) := by
  obtain ⟨p, e, s, m, args, below, meth, c, FE, ⟨hx, hby, hml, hown, hZ, hre, hlk, hnm⟩, hFE, rfl⟩ := C
  subst hp
  intro T locs k' n' q1 q2 X eT Nf
  obtain ⟨cl, A, es, hl⟩ := F
  have e1 : cl.slots.size.toInt32 = z := by
    apply Int32.toInt_inj.mp
    rw [es, hz]
    exact len_toInt hl
  obtain ⟨s2, o, st2, r⟩ := q T locs k' n' q1 q2 X eT Nf
  exact ⟨s2, o, X.arraylength hx (by rw [eT]; exact A.1) (State.isArrayOf_alike hZ.alike A.2.1) (g := mkF m pc Ls (.ref a :: rest)) rfl rfl (hb hby hd) _ (by rw [e1]; exact st2), r⟩
/-! calls -/
/-- what a stack weighs -/
def wt (st : List Value) : Nat := (st.map fun v => v.category).sum
/-- Object.<init> -/
theorem Ru.initObj (C : Ru l Z own code maxL ret nm R n0 G W) {a0 : Array Value} {i w : Nat} {a : Addr} (w1 : (Cond.methodLink own i Lib.objectInit).before a0 Z = true) (w2 : (Cond.instanceMethod Lib.objectInit).before a0 Z = true) (w3 : (Cond.code Lib.objectInit ⟨#[0xb1]⟩ 1 none).before a0 Z = true)
    (hd : decode code pc = .ok (.invokespecial i, 3)) (hp : pc + 3 = pc') (hs : Ls.size = maxL) (hf : 1 ≤ R.frames) (hw : wt rest ≤ w) (hl : w + 12 ≤ R.locals) (q : W h k n pc' Ls rest) : W h k n pc Ls (.ref a :: rest) := by
  obtain ⟨p, e, s, m, args, below, meth, c, FE, ⟨hx, hby, hml, hown, hZ, hre, hlk, hnm⟩, hFE, rfl⟩ := C
  subst hp
  intro T locs k' n' q1 q2 X eT N
  obtain ⟨T', X', e', st'⟩ := initO X hx hZ hown w1 w2 w3 eT (g := mkF m pc Ls (.ref a :: rest)) rfl (by rw [hml]; exact hs) rfl (hb hby hd) hf (W := w) (by show 2 * 0 + _ ≤ _; simpa [wt] using hw) hl
  obtain ⟨s2, o, st2, r⟩ := q T' locs k' n' q1 q2 X' e' N
  exact ⟨s2, o, st' _ st2, r⟩
theorem Ru.calls (C : Ru l Z own code maxL ret nm R n0 G W) {a0 : Array Value} {i w : Nat} {y : MethodName} {bytes : ByteArray} {mx : Nat} {rt : Option FieldType} {rm : Room} {GC : Option Value → Heap → Prop} {argsL : List Value} {ps : List FieldType} {rt' : Option FieldType}
    (M : MeetsW l Z n0 y bytes mx rt rm argsL.toArray h GC) (w1 : (Cond.methodLink own i y).before a0 Z = true) (w2 : (Cond.static y).before a0 Z = true) (w3 : (Cond.initialized y.cls).before a0 Z = true) (w4 : (Cond.code y bytes mx rt).before a0 Z = true)
    (hd : decode code pc = .ok (.invokestatic i, 3)) (hp : pc + 3 = pc') (hs : Ls.size = maxL) (hst : st = argsL.reverse ++ rest) (hy : y.cls ≠ "java/lang/invoke/MethodHandle" ∧ y.cls ≠ "java/lang/invoke/VarHandle")
    (hdesc : parseMethodDescriptor y.desc = some ⟨ps, rt'⟩) (hlen : argsL.length = ps.length) (hf : rm.frames + 1 ≤ R.frames) (hw : wt rest ≤ w) (hl : w + (mx + 11) + rm.locals ≤ R.locals) (hk : k + rm.cells ≤ R.cells) (hn : n + rm.slots ≤ R.slots)
    (q : ∀ v h', GC v h' → W h' (k + rm.cells) (n + rm.slots) pc' Ls (v.toList ++ rest)) : W h k n pc Ls st := by
  obtain ⟨p, e, s, m, args, below, meth, c, FE, ⟨hx, hby, hml, hown, hZ, hre, hlk, hnm⟩, hFE, rfl⟩ := C
  subst hp hst
  intro T locs k' n' q1 q2 X eT N
  obtain ⟨v, _, ⟨T', L', k2, n2⟩, -, X', ⟨Lc, ⟨N', hQ⟩, hl', hk', hn'⟩, st'⟩ := Jvm.LawKit.callS X hx (y := y) hown (mvT hZ w1) (mvT hZ w2) (mvT hZ w3) (mvT hZ w4) hy (backOf (W := w) (Q := fun v h L => Fr n0 L ∧ GC v h) (M []) hZ w4 w3 hf hl) (g := mkF m pc Ls (argsL.reverse ++ rest)) rfl (by rw [hml]; exact hs) (argsL := argsL) (rest := rest) (lenOf hdesc hlen) rfl (by show 2 * 0 + _ ≤ _; simpa [wt] using hw) (hb hby hd) (fun _ _ => ⟨rfl, eT, (by show k' + rm.cells ≤ _; omega), (by show n' + rm.slots ≤ _; omega)⟩)
  dsimp only [Pt.U, Pt.locs, Pt.cells, Pt.slots] at X' hl' hk' hn' st' hQ
  subst hl' hk' hn'
  obtain ⟨s2, o, st2, r⟩ := q v T'.heap hQ T' _ _ _ (by omega) (by omega) X' rfl (Fr.app N N')
  exact ⟨s2, o, st' _ st2, r⟩
theorem Ru.callc (C : Ru l Z own code maxL ret nm R n0 G W) {a0 : Array Value} {i w : Nat} {y : MethodName} {bytes : ByteArray} {mx : Nat} {rm : Room} {GC : Option Value → Heap → Prop} {a : Addr} {argsL : List Value} {ps : List FieldType} {rt' : Option FieldType}
    (M : MeetsW l Z n0 y bytes mx none rm (.ref a :: argsL).toArray h GC) (hy1 : y.name = "<init>") (w1 : (Cond.methodLink own i y).before a0 Z = true) (w2 : (Cond.instanceMethod y).before a0 Z = true) (w3 : (Cond.initialized y.cls).before a0 Z = true) (w4 : (Cond.code y bytes mx none).before a0 Z = true)
    (hd : decode code pc = .ok (.invokespecial i, 3)) (hp : pc + 3 = pc') (hs : Ls.size = maxL) (hst : st = argsL.reverse ++ .ref a :: rest) (hy : y.cls ≠ "java/lang/invoke/MethodHandle" ∧ y.cls ≠ "java/lang/invoke/VarHandle")
    (hdesc : parseMethodDescriptor y.desc = some ⟨ps, rt'⟩) (hlen : argsL.length = ps.length) (hf : rm.frames + 1 ≤ R.frames) (hw : wt rest ≤ w) (hl : w + (mx + 11) + rm.locals ≤ R.locals) (hk : k + rm.cells ≤ R.cells) (hn : n + rm.slots ≤ R.slots)
    (q : ∀ v h', GC v h' → W h' (k + rm.cells) (n + rm.slots) pc' Ls (v.toList ++ rest)) : W h k n pc Ls st := by
  obtain ⟨p, e, s, m, args, below, meth, c, FE, ⟨hx, hby, hml, hown, hZ, hre, hlk, hnm⟩, hFE, rfl⟩ := C
  subst hp hst
  intro T locs k' n' q1 q2 X eT N
  obtain ⟨v, _, ⟨T', L', k2, n2⟩, -, X', ⟨Lc, ⟨N', hQ⟩, hl', hk', hn'⟩, st'⟩ := X.specialBack hx (y := y) hy1 hown (mvT hZ w1) (mvT hZ w2) (mvT hZ w4) hy (backOf (W := w) (Q := fun v h L => Fr n0 L ∧ GC v h) (M []) hZ w4 w3 hf hl) (g := mkF m pc Ls (argsL.reverse ++ .ref a :: rest)) rfl (by rw [hml]; exact hs) (Steps.refl _) (a := a) (argsL := argsL) (rest := rest) (lenOf hdesc hlen) rfl (by show 2 * 0 + _ ≤ _; simpa [wt] using hw) (hb hby hd) (fun _ _ => ⟨rfl, eT, (by show k' + rm.cells ≤ _; omega), (by show n' + rm.slots ≤ _; omega)⟩)
  dsimp only [Pt.U, Pt.locs, Pt.cells, Pt.slots] at X' hl' hk' hn' st' hQ
  subst hl' hk' hn'
  obtain ⟨s2, o, st2, r⟩ := q v T'.heap hQ T' _ _ _ (by omega) (by omega) X' rfl (Fr.app N N')
  exact ⟨s2, o, st'.trans st2, r⟩
theorem Ru.callv (C : Ru l Z own code maxL ret nm R n0 G W) {a0 : Array Value} {i w : Nat} {y : MethodName} {bytes : ByteArray} {mx : Nat} {rt : Option FieldType} {rm : Room} {GC : Option Value → Heap → Prop} {a : Addr} {argsL : List Value} {ps : List FieldType} {rt' : Option FieldType} {D : String}
    (M : MeetsW l Z n0 y bytes mx rt rm (.ref a :: argsL).toArray h GC) (E : Exa Z h a D) (w1 : (Cond.methodLink own i y).before a0 Z = true) (w2 : (Cond.declares y).before a0 Z = true) (w5 : (Cond.selects D y y).before a0 Z = true) (w6 : (Cond.instanceMethod y).before a0 Z = true) (w3 : (Cond.initialized y.cls).before a0 Z = true) (w4 : (Cond.code y bytes mx rt).before a0 Z = true)
    (hd : decode code pc = .ok (.invokevirtual i, 3)) (hp : pc + 3 = pc') (hs : Ls.size = maxL) (hst : st = argsL.reverse ++ .ref a :: rest) (hy : y.cls ≠ "java/lang/invoke/MethodHandle" ∧ y.cls ≠ "java/lang/invoke/VarHandle")
    (hdesc : parseMethodDescriptor y.desc = some ⟨ps, rt'⟩) (hlen : argsL.length = ps.length) (hf : rm.frames + 1 ≤ R.frames) (hw : wt rest ≤ w) (hl : w + (mx + 11) + rm.locals ≤ R.locals) (hk : k + rm.cells ≤ R.cells) (hn : n + rm.slots ≤ R.slots)
    (q : ∀ v h', GC v h' → W h' (k + rm.cells) (n + rm.slots) pc' Ls (v.toList ++ rest)) : W h k n pc Ls st := by
  obtain ⟨p, e, s, m, args, below, meth, c, FE, ⟨hx, hby, hml, hown, hZ, hre, hlk, hnm⟩, hFE, rfl⟩ := C
  subst hp hst
  intro T locs k' n' q1 q2 X eT N
  obtain ⟨cq, kq, qa, qb, qc⟩ := isOf hZ eT E
  obtain ⟨v, _, ⟨T', L', k2, n2⟩, -, X', ⟨Lc, ⟨N', hQ⟩, hl', hk', hn'⟩, st'⟩ := X.virtualBack hx (y := y) (z := y) hown (mvT hZ w1) (mvT hZ w2) (notFace_of_selects (args := #[]) (mvT hZ w5)) (mvT hZ w5) (mvT hZ w6) hy (backOf (W := w) (Q := fun v h L => Fr n0 L ∧ GC v h) (M []) hZ w4 w3 hf hl) qa qc (g := mkF m pc Ls (argsL.reverse ++ .ref a :: rest)) rfl (by rw [hml]; exact hs) (Steps.refl _) (argsL := argsL) (rest := rest) (lenOf hdesc hlen) rfl (by show 2 * 0 + _ ≤ _; simpa [wt] using hw) (hb hby hd) (fun _ _ => ⟨rfl, eT, (by show k' + rm.cells ≤ _; omega), (by show n' + rm.slots ≤ _; omega)⟩)
  dsimp only [Pt.U, Pt.locs, Pt.cells, Pt.slots] at X' hl' hk' hn' st' hQ
  subst hl' hk' hn'
  obtain ⟨s2, o, st2, r⟩ := q v T'.heap hQ T' _ _ _ (by omega) (by omega) X' rfl (Fr.app N N')
  exact ⟨s2, o, st'.trans st2, r⟩
theorem Ru.callp (C : Ru l Z own code maxL ret nm R n0 G W) {a0 : Array Value} {i w : Nat} {y : MethodName} {bytes : ByteArray} {mx : Nat} {rt : Option FieldType} {rm : Room} {GC : Option Value → Heap → Prop} {a : Addr} {argsL : List Value} {ps : List FieldType} {rt' : Option FieldType} {D : String}
    (M : MeetsW l Z n0 y bytes mx rt rm (.ref a :: argsL).toArray h GC) (E : Exa Z h a D) (w1 : (Cond.methodLink own i y).before a0 Z = true) (w6 : (Cond.instanceMethod y).before a0 Z = true) {nn : Nat} (w5 : (Cond.instantiable y.cls nn).before a0 Z = true) (w7 : (Cond.privateMethod y).before a0 Z = true) (w3 : (Cond.initialized y.cls).before a0 Z = true) (w4 : (Cond.code y bytes mx rt).before a0 Z = true)
    (hd : decode code pc = .ok (.invokevirtual i, 3)) (hp : pc + 3 = pc') (hs : Ls.size = maxL) (hst : st = argsL.reverse ++ .ref a :: rest) (hy : y.cls ≠ "java/lang/invoke/MethodHandle" ∧ y.cls ≠ "java/lang/invoke/VarHandle")
    (hdesc : parseMethodDescriptor y.desc = some ⟨ps, rt'⟩) (hlen : argsL.length = ps.length) (hf : rm.frames + 1 ≤ R.frames) (hw : wt rest ≤ w) (hl : w + (mx + 11) + rm.locals ≤ R.locals) (hk : k + rm.cells ≤ R.cells) (hn : n + rm.slots ≤ R.slots)
    (q : ∀ v h', GC v h' → W h' (k + rm.cells) (n + rm.slots) pc' Ls (v.toList ++ rest)) : W h k n pc Ls st := by
  obtain ⟨p, e, s, m, args, below, meth, c, FE, ⟨hx, hby, hml, hown, hZ, hre, hlk, hnm⟩, hFE, rfl⟩ := C
  subst hp hst
  intro T locs k' n' q1 q2 X eT N
  obtain ⟨cq, qa, qb⟩ := E.cell
  have hpv : s.PrivateAt y := Cond.privateMethod_at (mvP hZ w7 (args := #[]))
  obtain ⟨cI, kI, hcI, hkI, -, hniab, -, -⟩ := Cond.instantiable_spec (mvT hZ w5 (args := args))
  have hsel : (Cond.selects y.cls y y).before args s = true := Jvm.Stand.selects_self_of_private hcI hkI (Bool.or_eq_false_iff.mp hniab).1 hpv (mvT hZ w6) hy
  obtain ⟨v, _, ⟨T', L', k2, n2⟩, -, X', ⟨Lc, ⟨N', hQ⟩, hl', hk', hn'⟩, st'⟩ := X.privateBack hx (y := y) hown (mvT hZ w1) (mvT hZ w6) hsel hpv (mvT hZ w4) hy (backOf (W := w) (Q := fun v h L => Fr n0 L ∧ GC v h) (M []) hZ w4 w3 hf hl) (g := mkF m pc Ls (argsL.reverse ++ .ref a :: rest)) rfl (by rw [hml]; exact hs) (Steps.refl _) (a := a) (by rw [eT]; exact qa) qb (argsL := argsL) (rest := rest) (lenOf hdesc hlen) rfl (by show 2 * 0 + _ ≤ _; simpa [wt] using hw) (hb hby hd) (fun _ _ => ⟨rfl, eT, (by show k' + rm.cells ≤ _; omega), (by show n' + rm.slots ≤ _; omega)⟩)
  dsimp only [Pt.U, Pt.locs, Pt.cells, Pt.slots] at X' hl' hk' hn' st' hQ
  subst hl' hk' hn'
  obtain ⟨s2, o, st2, r⟩ := q v T'.heap hQ T' _ _ _ (by omega) (by omega) X' rfl (Fr.app N N')
  exact ⟨s2, o, st'.trans st2, r⟩
theorem Ru.castY (C : Ru l Z own code maxL ret nm R n0 G W) {a0 : Array Value} {D : String} {i : Nat} {a : Addr} (w : (Cond.classLink own i D).before a0 Z = true) (F : Ins Z h a D true) (hd : decode code pc = .ok (.checkcast i, 3)) (hp : pc + 3 = pc') (q : W h k n pc' Ls (.ref a :: rest)) : W h k n pc Ls (.ref a :: rest) := by
  obtain ⟨p, e, s, m, args, below, meth, c, FE, ⟨hx, hby, hml, hown, hZ, hre, hlk, hnm⟩, hFE, rfl⟩ := C
  subst hp
  intro T locs k' n' q1 q2 X eT N
  obtain ⟨T', X', e', st'⟩ := castY X hx hZ hown w eT F (g := mkF m pc Ls (.ref a :: rest)) rfl rfl (hb hby hd)
  obtain ⟨s2, o, st2, r⟩ := q T' locs k' n' q1 q2 X' e' N
  exact ⟨s2, o, st' _ st2, r⟩
theorem Ru.newAIE (C : Ru l Z own code maxL ret nm R n0 G W) {a0 : Array Value} {z : Int32} {N cap : Nat} (w : (Cond.arrayClass .int).before a0 Z = true) (hd : decode code pc = .ok (.newarray .int, 2)) (hp : pc + 2 = pc') (hz : z.toInt = (N : Int)) (hcap : N ≤ cap) (hb8 : cap * 8 ≤ 536870912) (hk : k + 1 ≤ R.cells) (hn : n + cap ≤ R.slots)
    (q : ∀ h' b, b = h.size → Ext h h' → AI Z h' b (List.replicate N 0) → Exa Z h' b "[I" → W h' (k + 1) (n + cap) pc' Ls (.ref b :: rest)) : W h k n pc Ls (.int z :: rest) := by
  obtain ⟨p, e, s, m, args, below, meth, c, FE, ⟨hx, hby, hml, hown, hZ, hre, hlk, hnm⟩, hFE, rfl⟩ := C
  subst hp
  intro T locs k' n' q1 q2 X eT Nf
  have hnn : ¬ z < 0 := by rw [Int32.lt_iff_toInt_lt]; show ¬ z.toInt < 0; omega
  have hzn : z.toNatClampNeg = N := by show z.toInt.toNat = N; omega
  have hlt : N < 2 ^ 31 := by have := (rng32 z).2; omega
  obtain ⟨T', h', cA, X', e', E', A', B', st'⟩ := newPE X hx hZ (aty := .int) w eT (g := mkF m pc Ls (.int z :: rest)) rfl (hb hby hd) rfl hnn (cap := cap) (by omega) hb8 (by omega) (by omega) (ad := "[I") (by decide)
  have F : AI Z h' h.size (List.replicate N 0) := by
    refine ⟨_, A', ?_, by rw [List.length_replicate]; exact hlt⟩
    simp only [newA, hzn]
    apply Array.ext'
    simp [defaultValue, newarray.typeOf]
  obtain ⟨s2, o, st2, r⟩ := q h' _ rfl E' F B' T' locs (k' + 1) (n' + cap) (by omega) (by omega) X' e' Nf
  exact ⟨s2, o, st' _ st2, r⟩
theorem Ru.cloneAI (C : Ru l Z own code maxL ret nm R n0 G W) {a0 : Array Value} {i w cap : Nat} {a : Addr} {vs : List Int32}
    (w1 : (Cond.methodLink own i ⟨"[I", "clone", "()Ljava/lang/Object;"⟩).before a0 Z = true) (w2 : (Cond.sameMethod "[I" "java/lang/Object" "clone" "()Ljava/lang/Object;").before a0 Z = true) (w3 : (Cond.native ⟨"java/lang/Object", "clone", "()Ljava/lang/Object;"⟩).before a0 Z = true)
    (w4 : (Cond.instanceMethod ⟨"java/lang/Object", "clone", "()Ljava/lang/Object;"⟩).before a0 Z = true) (w5 : (Cond.selects "[I" ⟨"[I", "clone", "()Ljava/lang/Object;"⟩ ⟨"java/lang/Object", "clone", "()Ljava/lang/Object;"⟩).before a0 Z = true) (w6 : (Cond.castable "[I" "java/lang/Cloneable").before a0 Z = true)
    (F : AI Z h a vs) (E : Exa Z h a "[I") (hd : decode code pc = .ok (.invokevirtual i, 3)) (hp : pc + 3 = pc') (hs : Ls.size = maxL) (hf : 1 ≤ R.frames) (hw : wt rest ≤ w) (hl : w + 14 ≤ R.locals) (hcap : vs.length ≤ cap) (hk : k + 1 ≤ R.cells) (hn : n + cap ≤ R.slots)
    (q : ∀ h' b, b = h.size → Ext h h' → AI Z h' b vs → Exa Z h' b "[I" → W h' (k + 1) (n + cap) pc' Ls (.ref b :: rest)) : W h k n pc Ls (.ref a :: rest) := by
  obtain ⟨p, e, s, m, args, below, meth, c, FE, ⟨hx, hby, hml, hown, hZ, hre, hlk, hnm⟩, hFE, rfl⟩ := C
  subst hp
  intro T locs k' n' q1 q2 X eT Nf
  obtain ⟨cl, A, es, hlen⟩ := F
  have hsz : cl.slots.size = vs.length := by rw [es]; simp
  have FC : FitC Z cl := fitC_of A fun j hj v hv => by
    rw [es] at hv
    simp only [List.getElem?_toArray, List.getElem?_map, Option.map_eq_some_iff] at hv
    obtain ⟨y, -, rfl⟩ := hv
    rfl
  obtain ⟨T', h', X', e', E', A', B', st'⟩ := cloneA X hx hZ hown w1 w2 w3 w4 w5 w6 eT A E FC (g := mkF m pc Ls (.ref a :: rest)) rfl (by rw [hml]; exact hs) rfl (hb hby hd) hf (W := w) (cap := cap) (by show 2 * 0 + _ ≤ _; simpa [wt] using hw) hl (by omega) (by omega) (by omega)
  obtain ⟨s2, o, st2, r⟩ := q h' _ rfl E' ⟨_, A', es, hlen⟩ B' T' locs (k' + 1) (n' + cap) (by omega) (by omega) X' e' Nf
  exact ⟨s2, o, st' _ st2, r⟩
/-! returns -/
theorem Ru.retV (C : Ru l Z own code maxL ret nm R n0 G W) (hr : ret = none) (hd : decode code pc = .ok (.return_, 1)) (hk : k ≤ R.cells) (hn : n ≤ R.slots) (q : G none h) : W h k n pc Ls [] := by
  obtain ⟨p, e, s, m, args, below, meth, c, FE, ⟨hx, hby, hml, hown, hZ, hre, hlk, hnm⟩, hFE, rfl⟩ := C
  intro T locs k' n' q1 q2 X eT N
  obtain ⟨fs, hrr, hrun, hended, hW, hsame⟩ := X.leave (v := none) (fun _ => rfl)
  exact ⟨_, _, X.returnOut hx (hre.trans hr) (hb hby hd) hrr, hrun, hended, _, _, rfl, ⟨N, by show G none T.heap; rw [eT]; exact q⟩, hFE _ _ _ ⟨⟨_, rfl⟩, hW, hsame.mono (by omega) (by omega)⟩⟩
theorem Ru.retI (C : Ru l Z own code maxL ret nm R n0 G W) {z : Int32} (hr : ret = some .int) (hd : decode code pc = .ok (.ireturn, 1)) (hk : k ≤ R.cells) (hn : n ≤ R.slots) (q : G (some (.int z)) h) : W h k n pc Ls (.int z :: rest) := by
  obtain ⟨p, e, s, m, args, below, meth, c, FE, ⟨hx, hby, hml, hown, hZ, hre, hlk, hnm⟩, hFE, rfl⟩ := C
  intro T locs k' n' q1 q2 X eT N
  obtain ⟨fs, hrr, hrun, hended, hW, hsame⟩ := X.leave (v := some (.int z)) (fun h => by rw [hre, hr] at h; cases h)
  exact ⟨_, _, retOut X hx (hre.trans hr) rfl (Or.inl ⟨rfl, Or.inl rfl, z, rfl⟩) (hb hby hd) hrr, hrun, hended, _, _, rfl, ⟨N, by show G _ T.heap; rw [eT]; exact q⟩, hFE _ _ _ ⟨⟨_, rfl⟩, hW, hsame.mono (by omega) (by omega)⟩⟩
theorem Ru.retZ (C : Ru l Z own code maxL ret nm R n0 G W) {z : Int32} (hr : ret = some .boolean) (hz : z = 0 ∨ z = 1) (hd : decode code pc = .ok (.ireturn, 1)) (hk : k ≤ R.cells) (hn : n ≤ R.slots) (q : G (some (.int z)) h) : W h k n pc Ls (.int z :: rest) := by
  obtain ⟨p, e, s, m, args, below, meth, c, FE, ⟨hx, hby, hml, hown, hZ, hre, hlk, hnm⟩, hFE, rfl⟩ := C
  intro T locs k' n' q1 q2 X eT N
  obtain ⟨fs, hrr, hrun, hended, hW, hsame⟩ := X.leave (v := some (.int z)) (fun h => by rw [hre, hr] at h; cases h)
  have hnr : narrow .boolean (.int z) = .int z := by rcases hz with rfl | rfl <;> decide
  exact ⟨_, _, retOut X hx (hre.trans hr) hnr (Or.inl ⟨rfl, Or.inr (Or.inl rfl), z, rfl⟩) (hb hby hd) hrr, hrun, hended, _, _, rfl, ⟨N, by show G _ T.heap; rw [eT]; exact q⟩, hFE _ _ _ ⟨⟨_, rfl⟩, hW, hsame.mono (by omega) (by omega)⟩⟩
theorem Ru.retJ (C : Ru l Z own code maxL ret nm R n0 G W) {z : Int64} (hr : ret = some .long) (hd : decode code pc = .ok (.lreturn, 1)) (hk : k ≤ R.cells) (hn : n ≤ R.slots) (q : G (some (.long z)) h) : W h k n pc Ls (.long z :: rest) := by
  obtain ⟨p, e, s, m, args, below, meth, c, FE, ⟨hx, hby, hml, hown, hZ, hre, hlk, hnm⟩, hFE, rfl⟩ := C
  intro T locs k' n' q1 q2 X eT N
  obtain ⟨fs, hrr, hrun, hended, hW, hsame⟩ := X.leave (v := some (.long z)) (fun h => by rw [hre, hr] at h; cases h)
  exact ⟨_, _, retOut X hx (hre.trans hr) rfl (Or.inr (Or.inl ⟨rfl, rfl, z, rfl⟩)) (hb hby hd) hrr, hrun, hended, _, _, rfl, ⟨N, by show G _ T.heap; rw [eT]; exact q⟩, hFE _ _ _ ⟨⟨_, rfl⟩, hW, hsame.mono (by omega) (by omega)⟩⟩
theorem Ru.retA (C : Ru l Z own code maxL ret nm R n0 G W) {a : Addr} {t : FieldType} (hr : ret = some t) (ht : t.isReference = true) (hd : decode code pc = .ok (.areturn, 1)) (hk : k ≤ R.cells) (hn : n ≤ R.slots) (q : G (some (.ref a)) h) : W h k n pc Ls (.ref a :: rest) := by
  obtain ⟨p, e, s, m, args, below, meth, c, FE, ⟨hx, hby, hml, hown, hZ, hre, hlk, hnm⟩, hFE, rfl⟩ := C
  intro T locs k' n' q1 q2 X eT N
  obtain ⟨fs, hrr, hrun, hended, hW, hsame⟩ := X.leave (v := some (.ref a)) (fun h => by rw [hre, hr] at h; cases h)
  have hnr : narrow t (.ref a) = .ref a := by cases t <;> first | rfl | cases ht
  exact ⟨_, _, retOut X hx (hre.trans hr) hnr (Or.inr (Or.inr (Or.inr (Or.inr ⟨rfl, ht, rfl⟩)))) (hb hby hd) hrr, hrun, hended, _, _, rfl, ⟨N, by show G _ T.heap; rw [eT]; exact q⟩, hFE _ _ _ ⟨⟨_, rfl⟩, hW, hsame.mono (by omega) (by omega)⟩⟩
end Steps
/-! kinds of results -/
def RI (P : Int32 → Heap → Prop) : Option Value → Heap → Prop := fun v h => ∃ r, v = some (.int r) ∧ P r h
def RJ (P : Int64 → Heap → Prop) : Option Value → Heap → Prop := fun v h => ∃ r, v = some (.long r) ∧ P r h
def RA (P : Addr → Heap → Prop) : Option Value → Heap → Prop := fun v h => ∃ r, v = some (.ref r) ∧ P r h
def RV (P : Heap → Prop) : Option Value → Heap → Prop := fun v h => v = none ∧ P h
theorem kI {P : Int32 → Heap → Prop} {W : WT} {k n pc : Nat} {Ls : Array Slot} {rest : List Value} (q : ∀ r h, P r h → W h k n pc Ls (.int r :: rest)) : ∀ v h, RI P v h → W h k n pc Ls (v.toList ++ rest) := by
  rintro _ h ⟨r, rfl, p⟩; exact q r h p
theorem kJ {P : Int64 → Heap → Prop} {W : WT} {k n pc : Nat} {Ls : Array Slot} {rest : List Value} (q : ∀ r h, P r h → W h k n pc Ls (.long r :: rest)) : ∀ v h, RJ P v h → W h k n pc Ls (v.toList ++ rest) := by
  rintro _ h ⟨r, rfl, p⟩; exact q r h p
theorem kA {P : Addr → Heap → Prop} {W : WT} {k n pc : Nat} {Ls : Array Slot} {rest : List Value} (q : ∀ r h, P r h → W h k n pc Ls (.ref r :: rest)) : ∀ v h, RA P v h → W h k n pc Ls (v.toList ++ rest) := by
  rintro _ h ⟨r, rfl, p⟩; exact q r h p
theorem kV {P : Heap → Prop} {W : WT} {k n pc : Nat} {Ls : Array Slot} {rest : List Value} (q : ∀ h, P h → W h k n pc Ls rest) : ∀ v h, RV P v h → W h k n pc Ls (v.toList ++ rest) := by
  rintro _ h ⟨rfl, p⟩; exact q h p
/-- the same, for a callee that leaves the heap as it was and returns just this -/
theorem kI0 {P : Int32 → Prop} {h0 : Heap} {W : WT} {k n pc : Nat} {Ls : Array Slot} {rest : List Value} (q : ∀ r, P r → W h0 k n pc Ls (.int r :: rest)) : ∀ v h, RI (fun r h => P r ∧ h = h0) v h → W h k n pc Ls (v.toList ++ rest) := by
  rintro _ h ⟨r, rfl, p, rfl⟩; exact q r p
theorem kJ0 {P : Int64 → Prop} {h0 : Heap} {W : WT} {k n pc : Nat} {Ls : Array Slot} {rest : List Value} (q : ∀ r, P r → W h0 k n pc Ls (.long r :: rest)) : ∀ v h, RJ (fun r h => P r ∧ h = h0) v h → W h k n pc Ls (v.toList ++ rest) := by
  rintro _ h ⟨r, rfl, p, rfl⟩; exact q r p
theorem kIe {x : Int32} {h0 : Heap} {W : WT} {k n pc : Nat} {Ls : Array Slot} {rest : List Value} (q : W h0 k n pc Ls (.int x :: rest)) : ∀ v h, RI (fun r h => r = x ∧ h = h0) v h → W h k n pc Ls (v.toList ++ rest) := by
  rintro _ h ⟨r, rfl, rfl, rfl⟩; exact q
theorem kJe {x : Int64} {h0 : Heap} {W : WT} {k n pc : Nat} {Ls : Array Slot} {rest : List Value} (q : W h0 k n pc Ls (.long x :: rest)) : ∀ v h, RJ (fun r h => r = x ∧ h = h0) v h → W h k n pc Ls (v.toList ++ rest) := by
  rintro _ h ⟨r, rfl, rfl, rfl⟩; exact q
theorem exaLt {Z : State} {h : Heap} {a : Addr} {C : String} (F : Exa Z h a C) : a < h.size := by obtain ⟨c, _, h1, -⟩ := F; exact (Array.getElem?_eq_some_iff.mp h1).1
end Jvm.OwnW

namespace Jvm.Pilot.@@N@@
open Jvm Jvm.ClassFile Sem Op Lib Jvm.Free Jvm.Stand Jvm.LawKit Jvm.RoadKit Bundle Jvm.Pilot.@@N@@.Jvm.D Jvm.OwnW
end Jvm.Pilot.@@N@@
namespace Jvm.OwnP
open Jvm.OwnW
/-- a long as a number below 2^64 -/
def toN (x : Int64) : Nat := x.toBitVec.toNat
theorem toN_lt (x : Int64) : toN x < 18446744073709551616 := x.toBitVec.isLt
theorem toN_inj {x y : Int64} (h : toN x = toN y) : x = y := Int64.toBitVec_inj.mp (BitVec.eq_of_toNat_eq h)
theorem nAdd (x y : Int64) : toN (x + y) = (toN x + toN y) % 18446744073709551616 := BitVec.toNat_add x.toBitVec y.toBitVec
theorem nSub (x y : Int64) : toN (x - y) = (18446744073709551616 - toN y + toN x) % 18446744073709551616 := BitVec.toNat_sub x.toBitVec y.toBitVec
theorem nMul (x y : Int64) : toN (x * y) = (toN x * toN y) % 18446744073709551616 := BitVec.toNat_mul x.toBitVec y.toBitVec
theorem nAnd (x y : Int64) : toN (x &&& y) = toN x &&& toN y := BitVec.toNat_and x.toBitVec y.toBitVec
theorem nOr (x y : Int64) : toN (x ||| y) = toN x ||| toN y := BitVec.toNat_or x.toBitVec y.toBitVec
theorem nXor (x y : Int64) : toN (x ^^^ y) = toN x ^^^ toN y := BitVec.toNat_xor x.toBitVec y.toBitVec
theorem nShl (x : Int64) (k : Nat) : toN (shlL x k) = (toN x * 2 ^ k) % 18446744073709551616 := by
  show (x.toBitVec <<< k).toNat = _
  rw [BitVec.toNat_shiftLeft, Nat.shiftLeft_eq]; rfl
theorem nShr (x : Int64) (k : Nat) : toN (shrL x k) = toN x / 2 ^ k := by
  show (x.toBitVec >>> k).toNat = _
  rw [BitVec.toNat_ushiftRight, Nat.shiftRight_eq_div_pow]; rfl
/-- a long's sign and its number -/
theorem toInt_toN (x : Int64) : x.toInt = if 2 * toN x < 18446744073709551616 then (toN x : Int) else (toN x : Int) - 18446744073709551616 := BitVec.toInt_eq_toNat_cond x.toBitVec
theorem toN_of_nonneg {x : Int64} (h : 0 ≤ x.toInt) : (toN x : Int) = x.toInt := by
  have := toInt_toN x; have := toN_lt x; split at * <;> omega
theorem toN_i2l {x : Int32} (h : 0 ≤ x.toInt) : (toN x.toInt64 : Int) = x.toInt := by
  have e : x.toInt64.toInt = x.toInt := Int32.toInt_toInt64 x
  rw [← e] at h ⊢; exact toN_of_nonneg h
theorem and_split (x y : Nat) (k : Nat) : x &&& y = (x % 2 ^ k &&& y % 2 ^ k) + 2 ^ k * (x / 2 ^ k &&& y / 2 ^ k) := by
  rw [← Nat.and_mod_two_pow, ← Nat.and_div_two_pow]; exact (Nat.mod_add_div _ _).symm
theorem or_disj {a b k : Nat} (h : a < 2 ^ k) : a ||| (b * 2 ^ k) = a + b * 2 ^ k := by
  rw [Nat.mul_comm b, Nat.or_comm, ← Nat.two_pow_add_eq_or_of_lt h, Nat.add_comm]
end Jvm.OwnP
namespace Jvm.OwnP
open Jvm.RoadKit
theorem nn_toInt {j : Int32} (h : ¬ j < 0) : j.toInt = (j.toInt.toNat : Int) := by
  rw [Int32.lt_iff_toInt_lt] at h
  have : ¬ j.toInt < 0 := h
  omega
theorem getD_some {α : Type} {vs : List α} {i : Nat} {d : α} (h : i < vs.length) : vs[i]? = some (vs.getD i d) := by
  rw [List.getD_eq_getElem?_getD, List.getElem?_eq_getElem h]; rfl
theorem and3 (c : Int32) : c &&& 3 = 0 ∨ c &&& 3 = 1 ∨ c &&& 3 = 2 ∨ c &&& 3 = 3 := by
  have m := c_mask c 3 2 (by decide) (by decide)
  have h : (c &&& 3).toInt = 0 ∨ (c &&& 3).toInt = 1 ∨ (c &&& 3).toInt = 2 ∨ (c &&& 3).toInt = 3 := by omega
  rcases h with h | h | h | h
  · exact Or.inl (Int32.toInt_inj.mp h)
  · exact Or.inr (Or.inl (Int32.toInt_inj.mp h))
  · exact Or.inr (Or.inr (Or.inl (Int32.toInt_inj.mp h)))
  · exact Or.inr (Or.inr (Or.inr (Int32.toInt_inj.mp h)))
theorem fill_step {α : Type} {L M : List α} {i : Nat} (hl : L.length = M.length) (h : ∀ j, j < i → L[j]? = M[j]?) {v : α} (hv : M[i]? = some v) : (L.set i v).length = M.length ∧ ∀ j, j < i + 1 → (L.set i v)[j]? = M[j]? := by
  have hi : i < L.length := by rw [hl]; exact (List.getElem?_eq_some_iff.mp hv).1
  refine ⟨by rw [List.length_set]; exact hl, fun j hj => ?_⟩
  by_cases e : j = i
  · subst e; rw [List.getElem?_set_self hi, hv]
  · rw [List.getElem?_set_ne (Ne.symm e)]; exact h j (by omega)
theorem fill_done {α : Type} {L M : List α} {i : Nat} (hl : L.length = M.length) (h : ∀ j, j < i → L[j]? = M[j]?) (hi : M.length ≤ i) : L = M := by
  apply List.ext_getElem?
  intro j
  by_cases e : j < i
  · exact h j e
  · rw [List.getElem?_eq_none (by omega), List.getElem?_eq_none (by omega)]
theorem lt_iff {x y : Int32} {a b : Nat} (hx : x.toInt = (a : Int)) (hy : y.toInt = (b : Int)) : x < y ↔ a < b := by
  rw [Int32.lt_iff_toInt_lt, hx, hy]; omega
theorem inc_toInt {x v : Int32} {a : Nat} (hx : x.toInt = (a : Int)) (h : a < 2147483647) (e : v = x + 1) : v.toInt = ((a + 1 : Nat) : Int) := by
  have s := c_iadd x 1; have b := rng32 (x + 1); have o : (1 : Int32).toInt = 1 := by decide
  rw [e]; omega
theorem narZ {x : Int32} (h : x = 0 ∨ x = 1) : Jvm.narrow .boolean (.int x) = .int x ∧ Jvm.fits .boolean (.int x) = true := by
  rcases h with rfl | rfl <;> exact ⟨by decide, by decide⟩
theorem rem3 {c : Int32} (h : ¬ c < 0) : c % 3 = 0 ∨ c % 3 = 1 ∨ c % 3 = 2 := by
  rw [Int32.lt_iff_toInt_lt] at h
  have h0 : ¬ c.toInt < 0 := h
  have m := (c_irem c 3 3 (by decide)).1 (by omega)
  have h : (c % 3).toInt = 0 ∨ (c % 3).toInt = 1 ∨ (c % 3).toInt = 2 := by omega
  rcases h with h | h | h
  · exact Or.inl (Int32.toInt_inj.mp h)
  · exact Or.inr (Or.inl (Int32.toInt_inj.mp h))
  · exact Or.inr (Or.inr (Int32.toInt_inj.mp h))
end Jvm.OwnP
namespace Jvm.OwnP
open Jvm.OwnW
/-- a cell of a list of ints as a number -/
def sv (L : List Int32) (q : Nat) : Nat := (L.getD q 0).toInt.toNat
def OKL (O : List Int32) : Prop := O.length = 64 ∧ ∀ k, k < 64 → (O.getD k 0).toInt = (sv O k : Int) ∧ sv O k < 64
/-- the bit of a long, counted from its top -/
def mb (x : Int64) (k : Nat) : Bool := x.toBitVec.getMsbD k
def maskL (O : List Int32) : Nat → Int64
  | 0 => 0
  | n + 1 => maskL O n ||| shrL (-9223372036854775808) (sh6 (O.getD n 0))
theorem gset {α : Type} {L : List α} {i : Nat} {v d : α} (h : i < L.length) : (L.set i v).getD i d = v := by
  rw [List.getD_eq_getElem?_getD, List.getElem?_set_self h]; rfl
theorem gset_ne {α : Type} {L : List α} {i q : Nat} {v d : α} (h : q ≠ i) : (L.set i v).getD q d = L.getD q d := by
  rw [List.getD_eq_getElem?_getD, List.getElem?_set_ne (Ne.symm h), ← List.getD_eq_getElem?_getD]
theorem svset {L : List Int32} {i a : Nat} {v : Int32} (h : i < L.length) (hv : v.toInt = (a : Int)) : sv (L.set i v) i = a := by
  unfold sv; rw [gset h, hv]; omega
theorem svset_ne {L : List Int32} {i q : Nat} {v : Int32} (h : q ≠ i) : sv (L.set i v) q = sv L q := by unfold sv; rw [gset_ne h]
def Inv1 (O S : List Int32) (r i : Nat) : Prop :=
  S.length = 65 ∧ r ≤ i ∧ (0 < i → 1 ≤ r ∧ sv S 0 = 0) ∧ (∀ q, q < r → (S.getD q 0).toInt = (sv S q : Int) ∧ sv S q < i) ∧ (∀ a b, a < b → b < r → sv S a < sv S b) ∧ (∀ k, 0 < k → k < i → (∀ q, q < r → sv S q ≠ k) → sv O k = sv O (k - 1) + 1)
def Inv2 (O S : List Int32) (r : Nat) : Prop :=
  S.length = 65 ∧ 1 ≤ r ∧ r ≤ 64 ∧ sv S 0 = 0 ∧ (∀ q, q ≤ r → (S.getD q 0).toInt = (sv S q : Int)) ∧ (∀ q, q < r → sv S q < 64) ∧ sv S r = 64 ∧ (∀ a b, a < b → b ≤ r → sv S a < sv S b) ∧ (∀ k, 0 < k → k < 64 → (∀ q, q < r → sv S q ≠ k) → sv O k = sv O (k - 1) + 1)
theorem inv1_zero (O : List Int32) : Inv1 O (List.replicate 65 0) 0 0 :=
  ⟨List.length_replicate, Nat.le_refl _, fun h => absurd h (by decide), fun q h => absurd h (by omega), fun a b _ h => absurd h (by omega), fun k _ h => absurd h (by omega)⟩
theorem inv1_add {O S : List Int32} {r i : Nat} {iv : Int32} (hi : iv.toInt = (i : Int)) (h64 : i < 64) (v : Inv1 O S r i) : Inv1 O (S.set r iv) (r + 1) (i + 1) := by
  obtain ⟨v1, v2, v3, v4, v5, v6⟩ := v
  have hr : r < S.length := by omega
  refine ⟨by rw [List.length_set]; exact v1, by omega, fun _ => ⟨by omega, ?_⟩, ?_, ?_, ?_⟩
  · by_cases e : r = 0
    · subst e; rw [svset hr hi]; omega
    · rw [svset_ne (Ne.symm e)]; exact (v3 (by omega)).2
  · intro q hq
    by_cases e : q = r
    · subst e; rw [svset hr hi, gset hr]; exact ⟨hi, by omega⟩
    · rw [svset_ne e, gset_ne e]; have := v4 q (by omega); exact ⟨this.1, by omega⟩
  · intro a b hab hb
    by_cases e : b = r
    · subst e; rw [svset hr hi, svset_ne (by omega)]; exact (v4 a hab).2
    · rw [svset_ne e, svset_ne (by omega)]; exact v5 a b hab (by omega)
  · intro k k0 ki hk
    have nk : k ≠ i := by
      intro e; refine hk r (by omega) ?_; rw [svset hr hi, e]
    refine v6 k k0 (by omega) fun q hq => ?_
    have := hk q (by omega); rwa [svset_ne (by omega)] at this
theorem inv1_run {O S : List Int32} {r i : Nat} (hO : OKL O) (h64 : i < 64) (h0 : i ≠ 0) (hn : O.getD i 0 = O.getD (i - 1) 0 + 1) (v : Inv1 O S r i) : Inv1 O S r (i + 1) := by
  obtain ⟨v1, v2, v3, v4, v5, v6⟩ := v
  refine ⟨v1, by omega, fun _ => v3 (by omega), fun q hq => ⟨(v4 q hq).1, by have := (v4 q hq).2; omega⟩, v5, ?_⟩
  intro k k0 ki hk
  by_cases e : k = i
  · subst e
    have a := hO.2 k h64; have b := hO.2 (k - 1) (by omega)
    have s := Jvm.RoadKit.c_iadd (O.getD (k - 1) 0) 1; have g := Jvm.RoadKit.rng32 (O.getD (k - 1) 0 + 1); have o : (1 : Int32).toInt = 1 := by decide
    rw [← hn] at s g
    omega
  · exact v6 k k0 (by omega) hk
theorem inv2_of {O S : List Int32} {r : Nat} (v : Inv1 O S r 64) : Inv2 O (S.set r 64) r := by
  obtain ⟨v1, v2, v3, v4, v5, v6⟩ := v
  have hr : r < S.length := by omega
  have h64 : (64 : Int32).toInt = ((64 : Nat) : Int) := by decide
  have v3' := v3 (by decide)
  refine ⟨by rw [List.length_set]; exact v1, v3'.1, v2, ?_, ?_, ?_, svset hr h64, ?_, ?_⟩
  · rw [svset_ne (by omega)]; exact v3'.2
  · intro q hq
    by_cases e : q = r
    · subst e; rw [svset hr h64, gset hr]; exact h64
    · rw [svset_ne e, gset_ne e]; exact (v4 q (by omega)).1
  · intro q hq; rw [svset_ne (by omega)]; exact (v4 q hq).2
  · intro a b hab hb
    by_cases e : b = r
    · subst e; rw [svset hr h64, svset_ne (by omega)]; exact (v4 a hab).2
    · rw [svset_ne e, svset_ne (by omega)]; exact v5 a b hab (by omega)
  · intro k k0 ki hk
    refine v6 k k0 ki fun q hq => ?_
    have := hk q hq; rwa [svset_ne (by omega)] at this
def TabTo (O S T B Q : List Int32) (r j : Nat) : Prop :=
  T.length = r ∧ B.length = r ∧ Q.length = r ∧ ∀ q, q < j → (T.getD q 0).toInt = (sv O (sv S q) : Int) ∧ (B.getD q 0).toInt + (sv S (q + 1) : Int) = 64 + (sv S q : Int) ∧ (Q.getD q 0).toInt + (sv S (q + 1) : Int) = 64
def Tab (O T B Q : List Int32) : Prop := ∃ (S : List Int32) (r : Nat), Inv2 O S r ∧ TabTo O S T B Q r r
theorem tab_step {O S T B Q : List Int32} {r j : Nat} {d : Int32} (hO : OKL O) (v : Inv2 O S r) (hj : j < r) (t : TabTo O S T B Q r j) (hd : d = S.getD (j + 1) 0 - S.getD j 0) :
    TabTo O S (T.set j (O.getD (sv S j) 0)) (B.set j (64 - d)) (Q.set j (64 - S.getD j 0 - d)) r (j + 1) := by
  obtain ⟨t1, t2, t3, t4⟩ := t
  refine ⟨by rw [List.length_set]; exact t1, by rw [List.length_set]; exact t2, by rw [List.length_set]; exact t3, ?_⟩
  intro q hq
  by_cases e : q = j
  · subst e
    rw [gset (by omega), gset (by omega), gset (by omega)]
    obtain ⟨v1, v2, v3, v4, v5, v6, v7, v8, v9⟩ := v
    have a := v5 q (by omega); have b := v5 (q + 1) (by omega); have c := v8 q (q + 1) (by omega) (by omega); have l := v6 q hj
    have l2 : sv S (q + 1) ≤ 64 := by
      by_cases z : q + 1 = r
      · rw [z, v7]; omega
      · have := v6 (q + 1) (by omega); omega
    have s1 := Jvm.RoadKit.c_isub (S.getD (q + 1) 0) (S.getD q 0); have g1 := Jvm.RoadKit.rng32 (S.getD (q + 1) 0 - S.getD q 0)
    rw [← hd] at s1 g1
    have s2 := Jvm.RoadKit.c_isub 64 d; have g2 := Jvm.RoadKit.rng32 (64 - d); have s3 := Jvm.RoadKit.c_isub 64 (S.getD q 0); have g3 := Jvm.RoadKit.rng32 (64 - S.getD q 0)
    have s4 := Jvm.RoadKit.c_isub (64 - S.getD q 0) d; have g4 := Jvm.RoadKit.rng32 (64 - S.getD q 0 - d)
    have o : (64 : Int32).toInt = 64 := by decide
    refine ⟨(hO.2 _ l).1, by omega, by omega⟩
  · rw [gset_ne e, gset_ne e, gset_ne e]; exact t4 q (by omega)
theorem tab_zero {O S : List Int32} {r : Nat} : TabTo O S (List.replicate r 0) (List.replicate r 0) (List.replicate r 0) r 0 :=
  ⟨List.length_replicate, List.length_replicate, List.length_replicate, fun q h => absurd h (by omega)⟩
/-- bits -/
theorem mbShl (x : Int64) (n k : Nat) : mb (shlL x n) k = mb x (k + n) := by
  show (x.toBitVec <<< n).getMsbD k = _; rw [BitVec.getMsbD_shiftLeft]; rfl
theorem mbShr (x : Int64) (n k : Nat) : mb (shrL x n) k = (decide (k < 64) && (!decide (k < n) && mb x (k - n))) := by
  show (x.toBitVec >>> n).getMsbD k = _; rw [BitVec.getMsbD_ushiftRight]; rfl
theorem mbOr (x y : Int64) (k : Nat) : mb (x ||| y) k = (mb x k || mb y k) := by
  show (x.toBitVec ||| y.toBitVec).getMsbD k = _; rw [BitVec.getMsbD_or]; rfl
theorem mbAnd (x y : Int64) (k : Nat) : mb (x &&& y) k = (mb x k && mb y k) := by
  show (x.toBitVec &&& y.toBitVec).getMsbD k = _; rw [BitVec.getMsbD_and]; rfl
theorem mb_ge {x : Int64} {k : Nat} (h : 64 ≤ k) : mb x k = false := BitVec.getMsbD_of_ge _ _ h
theorem mb_zero (k : Nat) : mb 0 k = false := by show (0#64).getMsbD k = false; exact BitVec.getMsbD_zero
theorem eq_zero {x : Int64} : x = 0 ↔ ∀ k, k < 64 → mb x k = false := by
  constructor
  · rintro rfl k _; exact mb_zero k
  · intro h
    apply Int64.toBitVec_inj.mp
    apply BitVec.eq_of_getMsbD_eq
    intro i hi
    exact (h i hi).trans (mb_zero i).symm
theorem neg_iff (x : Int64) : x < 0 ↔ mb x 0 = true := by
  rw [Int64.lt_iff_toInt_lt]
  show x.toBitVec.toInt < 0 ↔ x.toBitVec.msb = true
  rw [BitVec.msb_eq_toInt]; simp
theorem sh6_of {y : Int32} {n : Nat} (h : y.toInt = (n : Int)) (hn : n < 64) : sh6 y = n := by
  unfold sh6
  have e : y.toInt = y.toBitVec.toInt := rfl
  have k := BitVec.toInt_eq_toNat_cond y.toBitVec; have l := y.toBitVec.isLt
  split at k <;> omega
theorem mb_top {n k : Nat} (hk : k < 64) : mb (shrL (-9223372036854775808) n) k = decide (k = n) := by
  rw [mbShr]
  have m0 : mb (-9223372036854775808) 0 = true := by decide
  have ms : ∀ j, j < 64 → 0 < j → mb (-9223372036854775808) j = false := by decide
  by_cases a : k < n
  · simp [a, Nat.ne_of_lt a]
  · by_cases e : k = n
    · subst e; simp [hk, m0]
    · rw [ms (k - n) (by omega) (by omega)]; simp [e]
theorem mb_mask {O : List Int32} (hO : OKL O) {n : Nat} (hn : n ≤ 64) {k : Nat} (hk : k < 64) : mb (maskL O n) k = true ↔ ∃ i, i < n ∧ sv O i = k := by
  induction n with
  | zero => 
    show mb 0 k = true ↔ _
    rw [mb_zero]; constructor
    · intro h; cases h
    · rintro ⟨i, h, -⟩; omega
  | succ n ih =>
    have o := hO.2 n (by omega)
    show mb (maskL O n ||| _) k = true ↔ _
    rw [mbOr, Bool.or_eq_true, ih (by omega), sh6_of o.1 o.2, mb_top hk, decide_eq_true_eq]
    constructor
    · rintro (⟨i, h, e⟩ | e)
      · exact ⟨i, by omega, e⟩
      · exact ⟨n, by omega, e.symm⟩
    · rintro ⟨i, h, e⟩
      by_cases z : i = n
      · right; rw [← e, z]
      · left; exact ⟨i, by omega, e⟩
theorem and_mask {O : List Int32} (hO : OKL O) {n : Nat} (hn : n ≤ 64) {d : Int64} : d &&& maskL O n = 0 ↔ ∀ i, i < n → mb d (sv O i) = false := by
  rw [eq_zero]
  constructor
  · intro h i hi
    have l := (hO.2 i (by omega)).2
    have := h (sv O i) l
    rw [mbAnd, (mb_mask hO hn l).mpr ⟨i, hi, rfl⟩, Bool.and_true] at this; exact this
  · intro h k hk
    rw [mbAnd]
    by_cases z : mb (maskL O n) k = true
    · obtain ⟨i, hi, e⟩ := (mb_mask hO hn hk).mp z
      rw [← e, h i hi]; rfl
    · rw [Bool.not_eq_true] at z; rw [z, Bool.and_false]
/-- a run's cells follow each other -/
theorem run_eq {O S : List Int32} {r j : Nat} (v : Inv2 O S r) (hj : j < r) : ∀ d, sv S j + d < sv S (j + 1) → sv O (sv S j + d) = sv O (sv S j) + d := by
  obtain ⟨v1, v2, v3, v4, v5, v6, v7, v8, v9⟩ := v
  have l2 : sv S (j + 1) ≤ 64 := by
    by_cases z : j + 1 = r
    · rw [z, v7]; omega
    · have := v6 (j + 1) (by omega); omega
  intro d
  induction d with
  | zero => intro _; rfl
  | succ d ih =>
    intro h
    have := v9 (sv S j + (d + 1)) (by omega) (by omega) (by
      intro q hq e
      by_cases z : q ≤ j
      · by_cases z2 : q = j
        · subst z2; omega
        · have := v8 q j (by omega) (by omega); omega
      · by_cases z2 : q = j + 1
        · subst z2; omega
        · have := v8 (j + 1) q (by omega) (by omega); omega)
    rw [this, show sv S j + (d + 1) - 1 = sv S j + d from by omega, ih (by omega)]; omega
def Done (O : List Int32) (x res : Int64) (n : Nat) : Prop := ∀ k, k < 64 → mb res k = (decide (k < n) && mb x (sv O k))
theorem done_zero {O : List Int32} {x : Int64} : Done O x 0 0 := by
  intro k _; rw [mb_zero]; simp
theorem done_step {O S T B Q : List Int32} {r j : Nat} {x res : Int64} (v : Inv2 O S r) (t : TabTo O S T B Q r r) (hj : j < r) (hO : OKL O) (h : Done O x res (sv S j)) :
    Done O x (res ||| shlL (shrL (shlL x (sh6 (T.getD j 0))) (sh6 (B.getD j 0))) (sh6 (Q.getD j 0))) (sv S (j + 1)) := by
  obtain ⟨e1, e2, e3⟩ := t.2.2.2 j hj
  have re := run_eq v hj
  obtain ⟨v1, v2, v3, v4, v5, v6, v7, v8, v9⟩ := v
  have l2 : sv S (j + 1) ≤ 64 := by
    by_cases z : j + 1 = r
    · rw [z, v7]; omega
    · have := v6 (j + 1) (by omega); omega
  have lt := v8 j (j + 1) (by omega) (by omega)
  have l1 := v6 j hj
  rw [sh6_of e1 (hO.2 _ l1).2, sh6_of (n := 64 + sv S j - sv S (j + 1)) (by omega) (by omega), sh6_of (n := 64 - sv S (j + 1)) (by omega) (by omega)]
  intro k hk
  rw [mbOr, h k hk, mbShl, mbShr, mbShl]
  by_cases a : k < sv S j
  · have b : k < sv S (j + 1) := by omega
    have c : k + (64 - sv S (j + 1)) < 64 + sv S j - sv S (j + 1) := by omega
    simp [a, b, c]
  · by_cases b : k < sv S (j + 1)
    · have c : ¬ (k + (64 - sv S (j + 1)) < 64 + sv S j - sv S (j + 1)) := by omega
      have c2 : k + (64 - sv S (j + 1)) < 64 := by omega
      have := re (k - sv S j) (by omega)
      rw [show sv S j + (k - sv S j) = k from by omega] at this
      rw [show k + (64 - sv S (j + 1)) - (64 + sv S j - sv S (j + 1)) + sv O (sv S j) = sv O k from by omega]
      simp [a, b, c, c2]
    · have c2 : ¬ (k + (64 - sv S (j + 1)) < 64) := by omega
      simp [a, b, c2]
/-- a list that is filled cell by cell -/
def Fill (f : Nat → Int32) (n : Nat) (L : List Int32) : Prop := L.length = 64 ∧ ∀ q, q < n → L.getD q 0 = f q
theorem fill0 (f : Nat → Int32) : Fill f 0 (List.replicate 64 0) := ⟨List.length_replicate, fun q h => absurd h (by omega)⟩
theorem fillS {f : Nat → Int32} {n : Nat} {L : List Int32} {v : Int32} (h : Fill f n L) (hn : n < 64) (hv : v = f n) : Fill f (n + 1) (L.set n v) := by
  refine ⟨by rw [List.length_set]; exact h.1, fun q hq => ?_⟩
  by_cases e : q = n
  · subst e; rw [gset (by rw [h.1]; exact hn), hv]
  · rw [gset_ne e]; exact h.2 q (by omega)
theorem fill_ok {f : Nat → Int32} {L : List Int32} (h : Fill f 64 L) (hf : ∀ q, q < 64 → 0 ≤ (f q).toInt ∧ (f q).toInt < 64) : OKL L := by
  refine ⟨h.1, fun k hk => ?_⟩
  have := hf k hk; have e := h.2 k hk
  unfold sv; rw [e]; omega
end Jvm.OwnP
namespace Jvm.Pilot.@@N@@
open Jvm Jvm.ClassFile Sem Op Lib Jvm.Free Jvm.Stand Jvm.LawKit Jvm.RoadKit Bundle Jvm.Pilot.@@N@@.Jvm.D Jvm.OwnW

def aF (i md m k lo hi : Int32) : Int32 := if md = 0 then ((m * i) + k) &&& 63 else if i < (64 - hi) then hi + i else if i < ((64 - hi) + (hi - lo)) then lo + (i - (64 - hi)) else (i - (64 - hi)) - (hi - lo)

open Jvm.OwnP
theorem own_i0 {iv : Int32} {i : Nat} (hi : iv.toInt = (i : Int)) (h : ¬ iv = 0) : i ≠ 0 := fun e => h (Int32.toInt_inj.mp (by rw [hi, e]; rfl))
theorem own_dec {jv : Int32} {j : Nat} (h : jv.toInt = (j : Int)) (h1 : j ≠ 0) : (jv - 1).toInt = ((j - 1 : Nat) : Int) := by
  have s := c_isub jv 1; have b := rng32 (jv - 1); have b2 := rng32 jv; have o : (1 : Int32).toInt = 1 := by decide
  omega
theorem own_mk1 {O : List Int32} {i P : Nat} {mk v : Int64} (hm : mk = maskL O (min i P)) (h : i < P) (e : v = mk ||| shrL (-9223372036854775808) (sh6 (O.getD i 0))) : v = maskL O (min (i + 1) P) := by
  rw [e, hm, Nat.min_eq_left (by omega), Nat.min_eq_left (by omega)]; rfl
theorem own_mk0 {O : List Int32} {i P : Nat} {mk : Int64} (hm : mk = maskL O (min i P)) (h : ¬ i < P) : mk = maskL O (min (i + 1) P) := by
  rw [hm, Nat.min_eq_right (by omega), Nat.min_eq_right (by omega)]
theorem own_prev {O : List Int32} {i : Nat} {iv : Int32} (hi : iv.toInt = (i : Int)) (hok : OKL O) (h : i < 64) (h0 : i ≠ 0) (c : O.getD i 0 = O.getD (i - 1) 0 + 1) : O.getD i 0 = O.getD (i - 1) 0 + 1 := c
theorem own_full {O S T B Q : List Int32} {r j fu : Nat} (t : TabTo O S T B Q r j) (h : ¬ j < r) (g : j + fu = r) : TabTo O S T B Q r r := by
  have : j = r := by omega
  rw [this] at t; exact t

theorem own_done {O S T B Q : List Int32} {rn j fu : Nat} {x res : Int64} (v : Inv2 O S rn) (t : TabTo O S T B Q rn rn) (h : Done O x res (sv S j)) (g : j + fu = rn) (c : ¬ j < T.length) : Done O x res 64 := by
  have := t.1
  have e : j = rn := by omega
  rw [e, v.2.2.2.2.2.2.1] at h; exact h
theorem own_63 (x : Int32) : 0 ≤ (x &&& 63).toInt ∧ (x &&& 63).toInt < 64 := by
  have m := c_mask x 63 6 (by decide) (by decide)
  have e : ((2 : Int) ^ 6) = 64 := by decide
  omega
theorem own_p {p v : Int32} (e : v = (p &&& 63) + 1) : ∃ P : Nat, v.toInt = (P : Int) ∧ 1 ≤ P ∧ P ≤ 64 := by
  have m := own_63 p
  have s := c_iadd (p &&& 63) 1; have b := rng32 ((p &&& 63) + 1); have o : (1 : Int32).toInt = 1 := by decide
  rw [← e] at s b
  exact ⟨v.toInt.toNat, by omega, by omega, by omega⟩
theorem own_ix {p v : Int32} (e : v = p &&& 63) : ∃ ix : Nat, v.toInt = (ix : Int) ∧ ix < 64 := by
  have m := own_63 p; rw [← e] at m
  exact ⟨v.toInt.toNat, by omega, by omega⟩
theorem own_len {O T B Q : List Int32} (t : Tab O T B Q) : ∃ z : Int32, z.toInt = (T.length : Int) := by
  obtain ⟨S, r, v, t⟩ := t
  refine ⟨Int32.ofNat T.length, ?_⟩
  have := t.1; have := v.2.2.1
  rw [Int32.toInt_ofNat', show Int32.size = 4294967296 from rfl, Int.bmod_eq_of_le (by omega) (by omega)]
theorem own_ofNat {q : Nat} (h : q < 64) : (Int32.ofNat q).toInt = (q : Int) := by
  rw [Int32.toInt_ofNat', show Int32.size = 4294967296 from rfl, Int.bmod_eq_of_le (by omega) (by omega)]
theorem own_65 {p v : Int32} (e : v = (p &&& 2147483647) % 65) : 0 ≤ v.toInt ∧ v.toInt ≤ 64 := by
  have m := c_mask p 2147483647 31 (by decide) (by decide)
  have r := (c_irem (p &&& 2147483647) 65 65 (by decide)).1 (by rw [m]; omega)
  rw [← e] at r; omega
theorem own_lohi {x y lo hi : Int32} (hx : 0 ≤ x.toInt ∧ x.toInt ≤ 64) (hy : 0 ≤ y.toInt ∧ y.toInt ≤ 64) (el : lo = if y < x then y else x) (eh : hi = if x < y then y else x) : 0 ≤ lo.toInt ∧ lo.toInt ≤ hi.toInt ∧ hi.toInt ≤ 64 := by
  simp only [Int32.lt_iff_toInt_lt] at el eh
  split at el <;> split at eh <;> rw [el, eh] <;> omega
theorem own_rng {md m k lo hi : Int32} (h : 0 ≤ lo.toInt ∧ lo.toInt ≤ hi.toInt ∧ hi.toInt ≤ 64) : ∀ q, q < 64 → 0 ≤ ((fun q => aF (Int32.ofNat q) md m k lo hi) q).toInt ∧ ((fun q => aF (Int32.ofNat q) md m k lo hi) q).toInt < 64 := by
  intro q hq
  show 0 ≤ (aF (Int32.ofNat q) md m k lo hi).toInt ∧ (aF (Int32.ofNat q) md m k lo hi).toInt < 64
  have e := own_ofNat hq
  generalize Int32.ofNat q = i at *
  have o : (64 : Int32).toInt = 64 := by decide
  have s1 := c_isub 64 hi; have b1 := rng32 (64 - hi); have s2 := c_isub hi lo; have b2 := rng32 (hi - lo); have s3 := c_iadd (64 - hi) (hi - lo); have b3 := rng32 ((64 - hi) + (hi - lo))
  have s4 := c_iadd hi i; have b4 := rng32 (hi + i); have s5 := c_isub i (64 - hi); have b5 := rng32 (i - (64 - hi)); have s6 := c_iadd lo (i - (64 - hi)); have b6 := rng32 (lo + (i - (64 - hi)))
  have s7 := c_isub (i - (64 - hi)) (hi - lo); have b7 := rng32 (i - (64 - hi) - (hi - lo))
  unfold aF
  simp only [Int32.lt_iff_toInt_lt]
  split
  · exact own_63 _
  · split
    · omega
    · split
      · omega
      · omega
theorem own_law {O : List Int32} {x res : Int64} {ix : Nat} {v s t : Int32} (hok : OKL O) (h : Done O x res 64) (hv : v.toInt = (ix : Int)) (hl : ix < 64)
    (x1 : (¬ (shlL res (sh6 v) < 0) ∧ s = 0) ∨ (shlL res (sh6 v) < 0 ∧ s = 1)) (x2 : (¬ (shlL x (sh6 (O.getD ix 0)) < 0) ∧ t = 0) ∨ (shlL x (sh6 (O.getD ix 0)) < 0 ∧ t = 1)) : s = t := by
  have o := hok.2 ix hl
  have e : shlL res (sh6 v) < 0 ↔ shlL x (sh6 (O.getD ix 0)) < 0 := by
    rw [neg_iff, neg_iff, mbShl, mbShl, sh6_of hv hl, sh6_of o.1 o.2, Nat.zero_add, Nat.zero_add, h ix hl]
    simp [hl]
  rcases x1 with ⟨a, rfl⟩ | ⟨a, rfl⟩ <;> rcases x2 with ⟨b, rfl⟩ | ⟨b, rfl⟩
  · rfl
  · exact absurd (e.mpr b) a
  · exact absurd (e.mp a) b
  · rfl

theorem od2_0 : decode jdk_29_method_65_code 0 = .ok (.iload_n 0, 1) := by decide +kernel
theorem od2_1 : decode jdk_29_method_65_code 1 = .ok (.iload_n 1, 1) := by decide +kernel
theorem od2_2 : decode jdk_29_method_65_code 2 = .ok (.if_icmp .lt 7, 3) := by decide +kernel
theorem od2_9 : decode jdk_29_method_65_code 9 = .ok (.iload_n 1, 1) := by decide +kernel
theorem od2_10 : decode jdk_29_method_65_code 10 = .ok (.ireturn, 1) := by decide +kernel
theorem od2_5 : decode jdk_29_method_65_code 5 = .ok (.iload_n 0, 1) := by decide +kernel
theorem od2_6 : decode jdk_29_method_65_code 6 = .ok (.goto 4, 3) := by decide +kernel
theorem ef_own_rm2 (m : MethodId) (x0 : Int32) (x1 : Int32) : entryFrame m #[(.int x0), (.int x1)] 2 = mkF m 0 #[.val (.int x0), .val (.int x1)] [] := by first | (simp [entryFrame, mkF, argsToLocals, Value.category]; done) | rfl
theorem pn_java_lang_Math_max__II_I : plainFor (⟨"java/lang/Math", "max", "(II)I"⟩ : MethodName) = true := by decide +kernel
set_option maxRecDepth 65536 in
set_option maxHeartbeats 40000000 in
theorem own_rm2 (l : Launch) (Z : State) (a0 : Array Value) (hw : ∀ d ∈ tables_1, d.before a0 Z = true) (n0 : Nat) (hO : Heap) (x : Int32) (y : Int32) :
    MeetsW l Z n0 (⟨"java/lang/Math", "max", "(II)I"⟩ : MethodName) jdk_29_method_65_code 2 (some .int) ({ frames := 0, cells := 0, slots := 0, locals := 0 } : Room) #[(.int x), (.int y)] hO (RI fun r h => r = (if x < y then y else x) ∧ h = hO) := by
  refine MeetsW.intro pn_java_lang_Math_max__II_I (fun m => ef_own_rm2 m x y) ?_
  intro W C
  replace C : Ru l Z "java/lang/Math" jdk_29_method_65_code 2 (some .int) "max" ({ frames := 0, cells := 0, slots := 0, locals := 0 } : Room) n0 (RI fun r h => r = (if x < y then y else x) ∧ h = hO) W := C
  refine C.iloadN (pc' := 1) od2_0 rfl rfl ?_
  refine C.iloadN (pc' := 2) od2_1 rfl rfl ?_
  refine C.icmp_lt (pc' := 5) (pt := 9) od2_2 rfl rfl (fun c2 => ?_) (fun c2 => ?_)
  · skip
    refine C.iloadN (pc' := 10) od2_9 rfl rfl ?_
    refine C.retI rfl od2_10 (by decide) (by decide) ⟨_, rfl, ?_⟩
    exact ⟨by simp [c2], rfl⟩
  · skip
    refine C.iloadN (pc' := 6) od2_5 rfl rfl ?_
    refine C.goto (pc' := 10) od2_6 rfl ?_
    refine C.retI rfl od2_10 (by decide) (by decide) ⟨_, rfl, ?_⟩
    exact ⟨by simp [c2], rfl⟩
theorem od1_0 : decode jdk_29_method_69_code 0 = .ok (.iload_n 0, 1) := by decide +kernel
theorem od1_1 : decode jdk_29_method_69_code 1 = .ok (.iload_n 1, 1) := by decide +kernel
theorem od1_2 : decode jdk_29_method_69_code 2 = .ok (.if_icmp .gt 7, 3) := by decide +kernel
theorem od1_9 : decode jdk_29_method_69_code 9 = .ok (.iload_n 1, 1) := by decide +kernel
theorem od1_10 : decode jdk_29_method_69_code 10 = .ok (.ireturn, 1) := by decide +kernel
theorem od1_5 : decode jdk_29_method_69_code 5 = .ok (.iload_n 0, 1) := by decide +kernel
theorem od1_6 : decode jdk_29_method_69_code 6 = .ok (.goto 4, 3) := by decide +kernel
theorem ef_own_rm1 (m : MethodId) (x0 : Int32) (x1 : Int32) : entryFrame m #[(.int x0), (.int x1)] 2 = mkF m 0 #[.val (.int x0), .val (.int x1)] [] := by first | (simp [entryFrame, mkF, argsToLocals, Value.category]; done) | rfl
theorem pn_java_lang_Math_min__II_I : plainFor (⟨"java/lang/Math", "min", "(II)I"⟩ : MethodName) = true := by decide +kernel
set_option maxRecDepth 65536 in
set_option maxHeartbeats 40000000 in
theorem own_rm1 (l : Launch) (Z : State) (a0 : Array Value) (hw : ∀ d ∈ tables_1, d.before a0 Z = true) (n0 : Nat) (hO : Heap) (x : Int32) (y : Int32) :
    MeetsW l Z n0 (⟨"java/lang/Math", "min", "(II)I"⟩ : MethodName) jdk_29_method_69_code 2 (some .int) ({ frames := 0, cells := 0, slots := 0, locals := 0 } : Room) #[(.int x), (.int y)] hO (RI fun r h => r = (if y < x then y else x) ∧ h = hO) := by
  refine MeetsW.intro pn_java_lang_Math_min__II_I (fun m => ef_own_rm1 m x y) ?_
  intro W C
  replace C : Ru l Z "java/lang/Math" jdk_29_method_69_code 2 (some .int) "min" ({ frames := 0, cells := 0, slots := 0, locals := 0 } : Room) n0 (RI fun r h => r = (if y < x then y else x) ∧ h = hO) W := C
  refine C.iloadN (pc' := 1) od1_0 rfl rfl ?_
  refine C.iloadN (pc' := 2) od1_1 rfl rfl ?_
  refine C.icmp_gt (pc' := 5) (pt := 9) od1_2 rfl rfl (fun c2 => ?_) (fun c2 => ?_)
  · skip
    refine C.iloadN (pc' := 10) od1_9 rfl rfl ?_
    refine C.retI rfl od1_10 (by decide) (by decide) ⟨_, rfl, ?_⟩
    exact ⟨by simp [c2], rfl⟩
  · skip
    refine C.iloadN (pc' := 6) od1_5 rfl rfl ?_
    refine C.goto (pc' := 10) od1_6 rfl ?_
    refine C.retI rfl od1_10 (by decide) (by decide) ⟨_, rfl, ?_⟩
    exact ⟨by simp [c2], rfl⟩
theorem od3_0 : decode method_2_code 0 = .ok (.iload_n 1, 1) := by decide +kernel
theorem od3_1 : decode method_2_code 1 = .ok (.ifCond .ne 12, 3) := by decide +kernel
theorem od3_13 : decode method_2_code 13 = .ok (.bipush 64, 2) := by decide +kernel
theorem od3_15 : decode method_2_code 15 = .ok (.iload 5, 2) := by decide +kernel
theorem od3_17 : decode method_2_code 17 = .ok (.isub, 1) := by decide +kernel
theorem od3_18 : decode method_2_code 18 = .ok (.istore 6, 2) := by decide +kernel
theorem od3_20 : decode method_2_code 20 = .ok (.iload 5, 2) := by decide +kernel
theorem od3_22 : decode method_2_code 22 = .ok (.iload 4, 2) := by decide +kernel
theorem od3_24 : decode method_2_code 24 = .ok (.isub, 1) := by decide +kernel
theorem od3_25 : decode method_2_code 25 = .ok (.istore 7, 2) := by decide +kernel
theorem od3_27 : decode method_2_code 27 = .ok (.iload_n 0, 1) := by decide +kernel
theorem od3_28 : decode method_2_code 28 = .ok (.iload 6, 2) := by decide +kernel
theorem od3_30 : decode method_2_code 30 = .ok (.if_icmp .ge 8, 3) := by decide +kernel
theorem od3_38 : decode method_2_code 38 = .ok (.iload_n 0, 1) := by decide +kernel
theorem od3_39 : decode method_2_code 39 = .ok (.iload 6, 2) := by decide +kernel
theorem od3_41 : decode method_2_code 41 = .ok (.iload 7, 2) := by decide +kernel
theorem od3_43 : decode method_2_code 43 = .ok (.iadd, 1) := by decide +kernel
theorem od3_44 : decode method_2_code 44 = .ok (.if_icmp .ge 11, 3) := by decide +kernel
theorem od3_55 : decode method_2_code 55 = .ok (.iload_n 0, 1) := by decide +kernel
theorem od3_56 : decode method_2_code 56 = .ok (.iload 6, 2) := by decide +kernel
theorem od3_58 : decode method_2_code 58 = .ok (.isub, 1) := by decide +kernel
theorem od3_59 : decode method_2_code 59 = .ok (.iload 7, 2) := by decide +kernel
theorem od3_61 : decode method_2_code 61 = .ok (.isub, 1) := by decide +kernel
theorem od3_62 : decode method_2_code 62 = .ok (.ireturn, 1) := by decide +kernel
theorem od3_47 : decode method_2_code 47 = .ok (.iload 4, 2) := by decide +kernel
theorem od3_49 : decode method_2_code 49 = .ok (.iload_n 0, 1) := by decide +kernel
theorem od3_50 : decode method_2_code 50 = .ok (.iload 6, 2) := by decide +kernel
theorem od3_52 : decode method_2_code 52 = .ok (.isub, 1) := by decide +kernel
theorem od3_53 : decode method_2_code 53 = .ok (.iadd, 1) := by decide +kernel
theorem od3_54 : decode method_2_code 54 = .ok (.ireturn, 1) := by decide +kernel
theorem od3_33 : decode method_2_code 33 = .ok (.iload 5, 2) := by decide +kernel
theorem od3_35 : decode method_2_code 35 = .ok (.iload_n 0, 1) := by decide +kernel
theorem od3_36 : decode method_2_code 36 = .ok (.iadd, 1) := by decide +kernel
theorem od3_37 : decode method_2_code 37 = .ok (.ireturn, 1) := by decide +kernel
theorem od3_4 : decode method_2_code 4 = .ok (.iload_n 2, 1) := by decide +kernel
theorem od3_5 : decode method_2_code 5 = .ok (.iload_n 0, 1) := by decide +kernel
theorem od3_6 : decode method_2_code 6 = .ok (.imul, 1) := by decide +kernel
theorem od3_7 : decode method_2_code 7 = .ok (.iload_n 3, 1) := by decide +kernel
theorem od3_8 : decode method_2_code 8 = .ok (.iadd, 1) := by decide +kernel
theorem od3_9 : decode method_2_code 9 = .ok (.bipush 63, 2) := by decide +kernel
theorem od3_11 : decode method_2_code 11 = .ok (.iand, 1) := by decide +kernel
theorem od3_12 : decode method_2_code 12 = .ok (.ireturn, 1) := by decide +kernel
theorem ef_own_rm3 (m : MethodId) (x0 : Int32) (x1 : Int32) (x2 : Int32) (x3 : Int32) (x4 : Int32) (x5 : Int32) : entryFrame m #[(.int x0), (.int x1), (.int x2), (.int x3), (.int x4), (.int x5)] 8 = mkF m 0 #[.val (.int x0), .val (.int x1), .val (.int x2), .val (.int x3), .val (.int x4), .val (.int x5), .unset, .unset] [] := by first | (simp [entryFrame, mkF, argsToLocals, Value.category]; done) | rfl
theorem pn_com_example_hyperplane_hyperplane_index_TablePermutePinLaw_at__IIIIII_I : plainFor (⟨"com/example/hyperplane/hyperplane/index/TablePermutePinLaw", "at", "(IIIIII)I"⟩ : MethodName) = true := plainFor_of_name (by first | (simp [plainName, overriddenIn]; done) | decide +kernel)
set_option maxRecDepth 65536 in
set_option maxHeartbeats 40000000 in
theorem own_rm3 (l : Launch) (Z : State) (a0 : Array Value) (hw : ∀ d ∈ tables_1, d.before a0 Z = true) (n0 : Nat) (hO : Heap) (i : Int32) (md : Int32) (mu : Int32) (k : Int32) (lo : Int32) (hi : Int32) :
    MeetsW l Z n0 (⟨"com/example/hyperplane/hyperplane/index/TablePermutePinLaw", "at", "(IIIIII)I"⟩ : MethodName) method_2_code 8 (some .int) ({ frames := 0, cells := 0, slots := 0, locals := 0 } : Room) #[(.int i), (.int md), (.int mu), (.int k), (.int lo), (.int hi)] hO (RI fun r h => r = (aF i md mu k lo hi) ∧ h = hO) := by
  refine MeetsW.intro pn_com_example_hyperplane_hyperplane_index_TablePermutePinLaw_at__IIIIII_I (fun m => ef_own_rm3 m i md mu k lo hi) ?_
  intro W C
  replace C : Ru l Z "com/example/hyperplane/hyperplane/index/TablePermutePinLaw" method_2_code 8 (some .int) "at" ({ frames := 0, cells := 0, slots := 0, locals := 0 } : Room) n0 (RI fun r h => r = (aF i md mu k lo hi) ∧ h = hO) W := C
  refine C.iloadN (pc' := 1) od3_0 rfl rfl ?_
  refine C.if_ne (pc' := 4) (pt := 13) od3_1 rfl rfl (fun c1 => ?_) (fun c1 => ?_)
  · skip
    refine C.bipush (v := 64) (pc' := 15) od3_13 rfl rfl ?_
    refine C.iload (pc' := 17) od3_15 rfl rfl ?_
    refine C.isub (pc' := 18) od3_17 rfl ?_
    refine C.istore (f := fun v_ => #[.val (.int i), .val (.int md), .val (.int mu), .val (.int k), .val (.int lo), .val (.int hi), .val (.int v_), .unset]) (pc' := 20) od3_18 rfl (fun _ => rfl) (fun v18 e18 => ?_)
    refine C.iload (pc' := 22) od3_20 rfl rfl ?_
    refine C.iload (pc' := 24) od3_22 rfl rfl ?_
    refine C.isub (pc' := 25) od3_24 rfl ?_
    refine C.istore (f := fun v_ => #[.val (.int i), .val (.int md), .val (.int mu), .val (.int k), .val (.int lo), .val (.int hi), .val (.int v18), .val (.int v_)]) (pc' := 27) od3_25 rfl (fun _ => rfl) (fun v25 e25 => ?_)
    refine C.iloadN (pc' := 28) od3_27 rfl rfl ?_
    refine C.iload (pc' := 30) od3_28 rfl rfl ?_
    refine C.icmp_ge (pc' := 33) (pt := 38) od3_30 rfl rfl (fun c30 => ?_) (fun c30 => ?_)
    · skip
      refine C.iloadN (pc' := 39) od3_38 rfl rfl ?_
      refine C.iload (pc' := 41) od3_39 rfl rfl ?_
      refine C.iload (pc' := 43) od3_41 rfl rfl ?_
      refine C.iadd (pc' := 44) od3_43 rfl ?_
      refine C.icmp_ge (pc' := 47) (pt := 55) od3_44 rfl rfl (fun c44 => ?_) (fun c44 => ?_)
      · skip
        refine C.iloadN (pc' := 56) od3_55 rfl rfl ?_
        refine C.iload (pc' := 58) od3_56 rfl rfl ?_
        refine C.isub (pc' := 59) od3_58 rfl ?_
        refine C.iload (pc' := 61) od3_59 rfl rfl ?_
        refine C.isub (pc' := 62) od3_61 rfl ?_
        refine C.retI rfl od3_62 (by decide) (by decide) ⟨_, rfl, ?_⟩
        exact ⟨by subst e18 e25; unfold aF; rw [if_neg c1, if_neg c30, if_neg c44], rfl⟩
      · skip
        refine C.iload (pc' := 49) od3_47 rfl rfl ?_
        refine C.iloadN (pc' := 50) od3_49 rfl rfl ?_
        refine C.iload (pc' := 52) od3_50 rfl rfl ?_
        refine C.isub (pc' := 53) od3_52 rfl ?_
        refine C.iadd (pc' := 54) od3_53 rfl ?_
        refine C.retI rfl od3_54 (by decide) (by decide) ⟨_, rfl, ?_⟩
        exact ⟨by subst e18 e25; unfold aF; rw [if_neg c1, if_neg c30, if_pos c44], rfl⟩
    · skip
      refine C.iload (pc' := 35) od3_33 rfl rfl ?_
      refine C.iloadN (pc' := 36) od3_35 rfl rfl ?_
      refine C.iadd (pc' := 37) od3_36 rfl ?_
      refine C.retI rfl od3_37 (by decide) (by decide) ⟨_, rfl, ?_⟩
      exact ⟨by subst e18; unfold aF; rw [if_neg c1, if_pos c30], rfl⟩
  · skip
    refine C.iloadN (pc' := 5) od3_4 rfl rfl ?_
    refine C.iloadN (pc' := 6) od3_5 rfl rfl ?_
    refine C.imul (pc' := 7) od3_6 rfl ?_
    refine C.iloadN (pc' := 8) od3_7 rfl rfl ?_
    refine C.iadd (pc' := 9) od3_8 rfl ?_
    refine C.bipush (v := 63) (pc' := 11) od3_9 rfl rfl ?_
    refine C.iand (pc' := 12) od3_11 rfl ?_
    refine C.retI rfl od3_12 (by decide) (by decide) ⟨_, rfl, ?_⟩
    exact ⟨by unfold aF; rw [if_pos c1], rfl⟩
theorem od4_0 : decode prog_25_method_1_code 0 = .ok (.aload_n 0, 1) := by decide +kernel
theorem od4_1 : decode prog_25_method_1_code 1 = .ok (.invokespecial 1, 3) := by decide +kernel
theorem ow19 {a0 : Array Value} {Z : State} (hw : ∀ d ∈ tables_1, d.before a0 Z = true) : (Jvm.Cond.methodLink "com/example/hyperplane/hyperplane/index/Table" (1 : Nat) ({ cls := "java/lang/Object", name := "<init>", desc := "()V" } : Jvm.MethodName)).before a0 Z = true := hw _ (List.mem_of_getElem? (i := 19) rfl)
theorem ow20 {a0 : Array Value} {Z : State} (hw : ∀ d ∈ tables_1, d.before a0 Z = true) : (Jvm.Cond.instanceMethod ({ cls := "java/lang/Object", name := "<init>", desc := "()V" } : Jvm.MethodName)).before a0 Z = true := hw _ (List.mem_of_getElem? (i := 20) rfl)
theorem ow21 {a0 : Array Value} {Z : State} (hw : ∀ d ∈ tables_1, d.before a0 Z = true) : (Jvm.Cond.code ({ cls := "java/lang/Object", name := "<init>", desc := "()V" } : Jvm.MethodName) object_method_1_code (1 : Nat) (Option.none : Option Jvm.ClassFile.FieldType)).before a0 Z = true := hw _ (List.mem_of_getElem? (i := 21) rfl)
theorem od4_4 : decode prog_25_method_1_code 4 = .ok (.lconst 0, 1) := by decide +kernel
theorem od4_5 : decode prog_25_method_1_code 5 = .ok (.lstore_n 3, 1) := by decide +kernel
theorem od4_6 : decode prog_25_method_1_code 6 = .ok (.iconst 0, 1) := by decide +kernel
theorem od4_7 : decode prog_25_method_1_code 7 = .ok (.istore 5, 2) := by decide +kernel
theorem od4_9 : decode prog_25_method_1_code 9 = .ok (.bipush 65, 2) := by decide +kernel
theorem ow8 {a0 : Array Value} {Z : State} (hw : ∀ d ∈ tables_1, d.before a0 Z = true) : (Jvm.Cond.arrayClass Jvm.ClassFile.FieldType.int).before a0 Z = true := hw _ (List.mem_of_getElem? (i := 8) rfl)
theorem od4_11 : decode prog_25_method_1_code 11 = .ok (.newarray .int, 2) := by decide +kernel
theorem od4_13 : decode prog_25_method_1_code 13 = .ok (.astore 6, 2) := by decide +kernel
theorem od4_15 : decode prog_25_method_1_code 15 = .ok (.iconst 0, 1) := by decide +kernel
theorem od4_16 : decode prog_25_method_1_code 16 = .ok (.istore 7, 2) := by decide +kernel
theorem od4_18 : decode prog_25_method_1_code 18 = .ok (.iload 7, 2) := by decide +kernel
theorem od4_20 : decode prog_25_method_1_code 20 = .ok (.bipush 64, 2) := by decide +kernel
theorem od4_22 : decode prog_25_method_1_code 22 = .ok (.if_icmp .ge 56, 3) := by decide +kernel
theorem od4_78 : decode prog_25_method_1_code 78 = .ok (.aload 6, 2) := by decide +kernel
theorem od4_80 : decode prog_25_method_1_code 80 = .ok (.iload 5, 2) := by decide +kernel
theorem od4_82 : decode prog_25_method_1_code 82 = .ok (.bipush 64, 2) := by decide +kernel
theorem od4_84 : decode prog_25_method_1_code 84 = .ok (.iastore, 1) := by decide +kernel
theorem od4_85 : decode prog_25_method_1_code 85 = .ok (.aload_n 0, 1) := by decide +kernel
theorem od4_86 : decode prog_25_method_1_code 86 = .ok (.iload_n 2, 1) := by decide +kernel
theorem ow24 {a0 : Array Value} {Z : State} (hw : ∀ d ∈ tables_1, d.before a0 Z = true) : (Jvm.Cond.laysFinal "com/example/hyperplane/hyperplane/index/Table" "com/example/hyperplane/hyperplane/index/Table" "prefixBits" "I").before a0 Z = true := hw _ (List.mem_of_getElem? (i := 24) rfl)
theorem ow23 {a0 : Array Value} {Z : State} (hw : ∀ d ∈ tables_1, d.before a0 Z = true) : (Jvm.Cond.fieldLink "com/example/hyperplane/hyperplane/index/Table" (13 : Nat) "com/example/hyperplane/hyperplane/index/Table" "prefixBits" "I").before a0 Z = true := hw _ (List.mem_of_getElem? (i := 23) rfl)
theorem ow14 {a0 : Array Value} {Z : State} (hw : ∀ d ∈ tables_1, d.before a0 Z = true) : (Jvm.Cond.instantiable "com/example/hyperplane/hyperplane/index/Table" (5 : Nat)).before a0 Z = true := hw _ (List.mem_of_getElem? (i := 14) rfl)
theorem pf_I : parseFieldDescriptor "I" = some .int := by decide
theorem od4_87 : decode prog_25_method_1_code 87 = .ok (.putfield 13, 3) := by decide +kernel
theorem ow26 {a0 : Array Value} {Z : State} (hw : ∀ d ∈ tables_1, d.before a0 Z = true) : (Jvm.Cond.laysFinal "com/example/hyperplane/hyperplane/index/Table" "com/example/hyperplane/hyperplane/index/Table" "prefixMask" "J").before a0 Z = true := hw _ (List.mem_of_getElem? (i := 26) rfl)
theorem pf_J : parseFieldDescriptor "J" = some .long := by decide
theorem sne_26_24 {a0 : Array Value} {Z : State} (hw : ∀ d ∈ tables_1, d.before a0 Z = true) : Jvm.RoadKit.slotOf Z "com/example/hyperplane/hyperplane/index/Table" "prefixMask" "J" ≠ Jvm.RoadKit.slotOf Z "com/example/hyperplane/hyperplane/index/Table" "prefixBits" "I" := slot_ne (C := "com/example/hyperplane/hyperplane/index/Table") (a0 := a0) (Or.inr (ow26 hw)) (Or.inr (ow24 hw)) (by decide) pf_J pf_I
theorem ow28 {a0 : Array Value} {Z : State} (hw : ∀ d ∈ tables_1, d.before a0 Z = true) : (Jvm.Cond.laysFinal "com/example/hyperplane/hyperplane/index/Table" "com/example/hyperplane/hyperplane/index/Table" "toTop" "[I").before a0 Z = true := hw _ (List.mem_of_getElem? (i := 28) rfl)
theorem pf__I : parseFieldDescriptor "[I" = some (.array .int) := by decide
theorem sne_28_24 {a0 : Array Value} {Z : State} (hw : ∀ d ∈ tables_1, d.before a0 Z = true) : Jvm.RoadKit.slotOf Z "com/example/hyperplane/hyperplane/index/Table" "toTop" "[I" ≠ Jvm.RoadKit.slotOf Z "com/example/hyperplane/hyperplane/index/Table" "prefixBits" "I" := slot_ne (C := "com/example/hyperplane/hyperplane/index/Table") (a0 := a0) (Or.inr (ow28 hw)) (Or.inr (ow24 hw)) (by decide) pf__I pf_I
theorem ow30 {a0 : Array Value} {Z : State} (hw : ∀ d ∈ tables_1, d.before a0 Z = true) : (Jvm.Cond.laysFinal "com/example/hyperplane/hyperplane/index/Table" "com/example/hyperplane/hyperplane/index/Table" "toBottom" "[I").before a0 Z = true := hw _ (List.mem_of_getElem? (i := 30) rfl)
theorem sne_30_24 {a0 : Array Value} {Z : State} (hw : ∀ d ∈ tables_1, d.before a0 Z = true) : Jvm.RoadKit.slotOf Z "com/example/hyperplane/hyperplane/index/Table" "toBottom" "[I" ≠ Jvm.RoadKit.slotOf Z "com/example/hyperplane/hyperplane/index/Table" "prefixBits" "I" := slot_ne (C := "com/example/hyperplane/hyperplane/index/Table") (a0 := a0) (Or.inr (ow30 hw)) (Or.inr (ow24 hw)) (by decide) pf__I pf_I
theorem ow32 {a0 : Array Value} {Z : State} (hw : ∀ d ∈ tables_1, d.before a0 Z = true) : (Jvm.Cond.laysFinal "com/example/hyperplane/hyperplane/index/Table" "com/example/hyperplane/hyperplane/index/Table" "toPlace" "[I").before a0 Z = true := hw _ (List.mem_of_getElem? (i := 32) rfl)
theorem sne_32_24 {a0 : Array Value} {Z : State} (hw : ∀ d ∈ tables_1, d.before a0 Z = true) : Jvm.RoadKit.slotOf Z "com/example/hyperplane/hyperplane/index/Table" "toPlace" "[I" ≠ Jvm.RoadKit.slotOf Z "com/example/hyperplane/hyperplane/index/Table" "prefixBits" "I" := slot_ne (C := "com/example/hyperplane/hyperplane/index/Table") (a0 := a0) (Or.inr (ow32 hw)) (Or.inr (ow24 hw)) (by decide) pf__I pf_I
theorem od4_90 : decode prog_25_method_1_code 90 = .ok (.aload_n 0, 1) := by decide +kernel
theorem od4_91 : decode prog_25_method_1_code 91 = .ok (.lload_n 3, 1) := by decide +kernel
theorem ow25 {a0 : Array Value} {Z : State} (hw : ∀ d ∈ tables_1, d.before a0 Z = true) : (Jvm.Cond.fieldLink "com/example/hyperplane/hyperplane/index/Table" (19 : Nat) "com/example/hyperplane/hyperplane/index/Table" "prefixMask" "J").before a0 Z = true := hw _ (List.mem_of_getElem? (i := 25) rfl)
theorem od4_92 : decode prog_25_method_1_code 92 = .ok (.putfield 19, 3) := by decide +kernel
theorem sne_28_26 {a0 : Array Value} {Z : State} (hw : ∀ d ∈ tables_1, d.before a0 Z = true) : Jvm.RoadKit.slotOf Z "com/example/hyperplane/hyperplane/index/Table" "toTop" "[I" ≠ Jvm.RoadKit.slotOf Z "com/example/hyperplane/hyperplane/index/Table" "prefixMask" "J" := slot_ne (C := "com/example/hyperplane/hyperplane/index/Table") (a0 := a0) (Or.inr (ow28 hw)) (Or.inr (ow26 hw)) (by decide) pf__I pf_J
theorem sne_30_26 {a0 : Array Value} {Z : State} (hw : ∀ d ∈ tables_1, d.before a0 Z = true) : Jvm.RoadKit.slotOf Z "com/example/hyperplane/hyperplane/index/Table" "toBottom" "[I" ≠ Jvm.RoadKit.slotOf Z "com/example/hyperplane/hyperplane/index/Table" "prefixMask" "J" := slot_ne (C := "com/example/hyperplane/hyperplane/index/Table") (a0 := a0) (Or.inr (ow30 hw)) (Or.inr (ow26 hw)) (by decide) pf__I pf_J
theorem sne_32_26 {a0 : Array Value} {Z : State} (hw : ∀ d ∈ tables_1, d.before a0 Z = true) : Jvm.RoadKit.slotOf Z "com/example/hyperplane/hyperplane/index/Table" "toPlace" "[I" ≠ Jvm.RoadKit.slotOf Z "com/example/hyperplane/hyperplane/index/Table" "prefixMask" "J" := slot_ne (C := "com/example/hyperplane/hyperplane/index/Table") (a0 := a0) (Or.inr (ow32 hw)) (Or.inr (ow26 hw)) (by decide) pf__I pf_J
theorem sne_24_26 {a0 : Array Value} {Z : State} (hw : ∀ d ∈ tables_1, d.before a0 Z = true) : Jvm.RoadKit.slotOf Z "com/example/hyperplane/hyperplane/index/Table" "prefixBits" "I" ≠ Jvm.RoadKit.slotOf Z "com/example/hyperplane/hyperplane/index/Table" "prefixMask" "J" := slot_ne (C := "com/example/hyperplane/hyperplane/index/Table") (a0 := a0) (Or.inr (ow24 hw)) (Or.inr (ow26 hw)) (by decide) pf_I pf_J
theorem od4_95 : decode prog_25_method_1_code 95 = .ok (.aload_n 0, 1) := by decide +kernel
theorem od4_96 : decode prog_25_method_1_code 96 = .ok (.iload 5, 2) := by decide +kernel
theorem od4_98 : decode prog_25_method_1_code 98 = .ok (.newarray .int, 2) := by decide +kernel
theorem ow27 {a0 : Array Value} {Z : State} (hw : ∀ d ∈ tables_1, d.before a0 Z = true) : (Jvm.Cond.fieldLink "com/example/hyperplane/hyperplane/index/Table" (23 : Nat) "com/example/hyperplane/hyperplane/index/Table" "toTop" "[I").before a0 Z = true := hw _ (List.mem_of_getElem? (i := 27) rfl)
theorem od4_100 : decode prog_25_method_1_code 100 = .ok (.putfield 23, 3) := by decide +kernel
theorem sne_30_28 {a0 : Array Value} {Z : State} (hw : ∀ d ∈ tables_1, d.before a0 Z = true) : Jvm.RoadKit.slotOf Z "com/example/hyperplane/hyperplane/index/Table" "toBottom" "[I" ≠ Jvm.RoadKit.slotOf Z "com/example/hyperplane/hyperplane/index/Table" "toTop" "[I" := slot_ne (C := "com/example/hyperplane/hyperplane/index/Table") (a0 := a0) (Or.inr (ow30 hw)) (Or.inr (ow28 hw)) (by decide) pf__I pf__I
theorem sne_32_28 {a0 : Array Value} {Z : State} (hw : ∀ d ∈ tables_1, d.before a0 Z = true) : Jvm.RoadKit.slotOf Z "com/example/hyperplane/hyperplane/index/Table" "toPlace" "[I" ≠ Jvm.RoadKit.slotOf Z "com/example/hyperplane/hyperplane/index/Table" "toTop" "[I" := slot_ne (C := "com/example/hyperplane/hyperplane/index/Table") (a0 := a0) (Or.inr (ow32 hw)) (Or.inr (ow28 hw)) (by decide) pf__I pf__I
theorem sne_24_28 {a0 : Array Value} {Z : State} (hw : ∀ d ∈ tables_1, d.before a0 Z = true) : Jvm.RoadKit.slotOf Z "com/example/hyperplane/hyperplane/index/Table" "prefixBits" "I" ≠ Jvm.RoadKit.slotOf Z "com/example/hyperplane/hyperplane/index/Table" "toTop" "[I" := slot_ne (C := "com/example/hyperplane/hyperplane/index/Table") (a0 := a0) (Or.inr (ow24 hw)) (Or.inr (ow28 hw)) (by decide) pf_I pf__I
theorem sne_26_28 {a0 : Array Value} {Z : State} (hw : ∀ d ∈ tables_1, d.before a0 Z = true) : Jvm.RoadKit.slotOf Z "com/example/hyperplane/hyperplane/index/Table" "prefixMask" "J" ≠ Jvm.RoadKit.slotOf Z "com/example/hyperplane/hyperplane/index/Table" "toTop" "[I" := slot_ne (C := "com/example/hyperplane/hyperplane/index/Table") (a0 := a0) (Or.inr (ow26 hw)) (Or.inr (ow28 hw)) (by decide) pf_J pf__I
theorem od4_103 : decode prog_25_method_1_code 103 = .ok (.aload_n 0, 1) := by decide +kernel
theorem od4_104 : decode prog_25_method_1_code 104 = .ok (.iload 5, 2) := by decide +kernel
theorem od4_106 : decode prog_25_method_1_code 106 = .ok (.newarray .int, 2) := by decide +kernel
theorem ow29 {a0 : Array Value} {Z : State} (hw : ∀ d ∈ tables_1, d.before a0 Z = true) : (Jvm.Cond.fieldLink "com/example/hyperplane/hyperplane/index/Table" (27 : Nat) "com/example/hyperplane/hyperplane/index/Table" "toBottom" "[I").before a0 Z = true := hw _ (List.mem_of_getElem? (i := 29) rfl)
theorem od4_108 : decode prog_25_method_1_code 108 = .ok (.putfield 27, 3) := by decide +kernel
theorem sne_32_30 {a0 : Array Value} {Z : State} (hw : ∀ d ∈ tables_1, d.before a0 Z = true) : Jvm.RoadKit.slotOf Z "com/example/hyperplane/hyperplane/index/Table" "toPlace" "[I" ≠ Jvm.RoadKit.slotOf Z "com/example/hyperplane/hyperplane/index/Table" "toBottom" "[I" := slot_ne (C := "com/example/hyperplane/hyperplane/index/Table") (a0 := a0) (Or.inr (ow32 hw)) (Or.inr (ow30 hw)) (by decide) pf__I pf__I
theorem sne_24_30 {a0 : Array Value} {Z : State} (hw : ∀ d ∈ tables_1, d.before a0 Z = true) : Jvm.RoadKit.slotOf Z "com/example/hyperplane/hyperplane/index/Table" "prefixBits" "I" ≠ Jvm.RoadKit.slotOf Z "com/example/hyperplane/hyperplane/index/Table" "toBottom" "[I" := slot_ne (C := "com/example/hyperplane/hyperplane/index/Table") (a0 := a0) (Or.inr (ow24 hw)) (Or.inr (ow30 hw)) (by decide) pf_I pf__I
theorem sne_26_30 {a0 : Array Value} {Z : State} (hw : ∀ d ∈ tables_1, d.before a0 Z = true) : Jvm.RoadKit.slotOf Z "com/example/hyperplane/hyperplane/index/Table" "prefixMask" "J" ≠ Jvm.RoadKit.slotOf Z "com/example/hyperplane/hyperplane/index/Table" "toBottom" "[I" := slot_ne (C := "com/example/hyperplane/hyperplane/index/Table") (a0 := a0) (Or.inr (ow26 hw)) (Or.inr (ow30 hw)) (by decide) pf_J pf__I
theorem sne_28_30 {a0 : Array Value} {Z : State} (hw : ∀ d ∈ tables_1, d.before a0 Z = true) : Jvm.RoadKit.slotOf Z "com/example/hyperplane/hyperplane/index/Table" "toTop" "[I" ≠ Jvm.RoadKit.slotOf Z "com/example/hyperplane/hyperplane/index/Table" "toBottom" "[I" := slot_ne (C := "com/example/hyperplane/hyperplane/index/Table") (a0 := a0) (Or.inr (ow28 hw)) (Or.inr (ow30 hw)) (by decide) pf__I pf__I
theorem od4_111 : decode prog_25_method_1_code 111 = .ok (.aload_n 0, 1) := by decide +kernel
theorem od4_112 : decode prog_25_method_1_code 112 = .ok (.iload 5, 2) := by decide +kernel
theorem od4_114 : decode prog_25_method_1_code 114 = .ok (.newarray .int, 2) := by decide +kernel
theorem ow31 {a0 : Array Value} {Z : State} (hw : ∀ d ∈ tables_1, d.before a0 Z = true) : (Jvm.Cond.fieldLink "com/example/hyperplane/hyperplane/index/Table" (30 : Nat) "com/example/hyperplane/hyperplane/index/Table" "toPlace" "[I").before a0 Z = true := hw _ (List.mem_of_getElem? (i := 31) rfl)
theorem od4_116 : decode prog_25_method_1_code 116 = .ok (.putfield 30, 3) := by decide +kernel
theorem sne_24_32 {a0 : Array Value} {Z : State} (hw : ∀ d ∈ tables_1, d.before a0 Z = true) : Jvm.RoadKit.slotOf Z "com/example/hyperplane/hyperplane/index/Table" "prefixBits" "I" ≠ Jvm.RoadKit.slotOf Z "com/example/hyperplane/hyperplane/index/Table" "toPlace" "[I" := slot_ne (C := "com/example/hyperplane/hyperplane/index/Table") (a0 := a0) (Or.inr (ow24 hw)) (Or.inr (ow32 hw)) (by decide) pf_I pf__I
theorem sne_26_32 {a0 : Array Value} {Z : State} (hw : ∀ d ∈ tables_1, d.before a0 Z = true) : Jvm.RoadKit.slotOf Z "com/example/hyperplane/hyperplane/index/Table" "prefixMask" "J" ≠ Jvm.RoadKit.slotOf Z "com/example/hyperplane/hyperplane/index/Table" "toPlace" "[I" := slot_ne (C := "com/example/hyperplane/hyperplane/index/Table") (a0 := a0) (Or.inr (ow26 hw)) (Or.inr (ow32 hw)) (by decide) pf_J pf__I
theorem sne_28_32 {a0 : Array Value} {Z : State} (hw : ∀ d ∈ tables_1, d.before a0 Z = true) : Jvm.RoadKit.slotOf Z "com/example/hyperplane/hyperplane/index/Table" "toTop" "[I" ≠ Jvm.RoadKit.slotOf Z "com/example/hyperplane/hyperplane/index/Table" "toPlace" "[I" := slot_ne (C := "com/example/hyperplane/hyperplane/index/Table") (a0 := a0) (Or.inr (ow28 hw)) (Or.inr (ow32 hw)) (by decide) pf__I pf__I
theorem sne_30_32 {a0 : Array Value} {Z : State} (hw : ∀ d ∈ tables_1, d.before a0 Z = true) : Jvm.RoadKit.slotOf Z "com/example/hyperplane/hyperplane/index/Table" "toBottom" "[I" ≠ Jvm.RoadKit.slotOf Z "com/example/hyperplane/hyperplane/index/Table" "toPlace" "[I" := slot_ne (C := "com/example/hyperplane/hyperplane/index/Table") (a0 := a0) (Or.inr (ow30 hw)) (Or.inr (ow32 hw)) (by decide) pf__I pf__I
theorem od4_119 : decode prog_25_method_1_code 119 = .ok (.iconst 0, 1) := by decide +kernel
theorem od4_120 : decode prog_25_method_1_code 120 = .ok (.istore 7, 2) := by decide +kernel
theorem od4_122 : decode prog_25_method_1_code 122 = .ok (.iload 7, 2) := by decide +kernel
theorem od4_124 : decode prog_25_method_1_code 124 = .ok (.iload 5, 2) := by decide +kernel
theorem od4_126 : decode prog_25_method_1_code 126 = .ok (.if_icmp .ge 68, 3) := by decide +kernel
theorem od4_194 : decode prog_25_method_1_code 194 = .ok (.return_, 1) := by decide +kernel
theorem od4_129 : decode prog_25_method_1_code 129 = .ok (.aload 6, 2) := by decide +kernel
theorem od4_131 : decode prog_25_method_1_code 131 = .ok (.iload 7, 2) := by decide +kernel
theorem od4_133 : decode prog_25_method_1_code 133 = .ok (.iconst 1, 1) := by decide +kernel
theorem od4_134 : decode prog_25_method_1_code 134 = .ok (.iadd, 1) := by decide +kernel
theorem od4_135 : decode prog_25_method_1_code 135 = .ok (.iaload, 1) := by decide +kernel
theorem od4_136 : decode prog_25_method_1_code 136 = .ok (.aload 6, 2) := by decide +kernel
theorem od4_138 : decode prog_25_method_1_code 138 = .ok (.iload 7, 2) := by decide +kernel
theorem od4_140 : decode prog_25_method_1_code 140 = .ok (.iaload, 1) := by decide +kernel
theorem od4_141 : decode prog_25_method_1_code 141 = .ok (.isub, 1) := by decide +kernel
theorem od4_142 : decode prog_25_method_1_code 142 = .ok (.istore 8, 2) := by decide +kernel
theorem od4_144 : decode prog_25_method_1_code 144 = .ok (.aload_n 0, 1) := by decide +kernel
theorem od4_145 : decode prog_25_method_1_code 145 = .ok (.getfield 23, 3) := by decide +kernel
theorem od4_148 : decode prog_25_method_1_code 148 = .ok (.iload 7, 2) := by decide +kernel
theorem od4_150 : decode prog_25_method_1_code 150 = .ok (.aload_n 1, 1) := by decide +kernel
theorem od4_151 : decode prog_25_method_1_code 151 = .ok (.aload 6, 2) := by decide +kernel
theorem od4_153 : decode prog_25_method_1_code 153 = .ok (.iload 7, 2) := by decide +kernel
theorem od4_155 : decode prog_25_method_1_code 155 = .ok (.iaload, 1) := by decide +kernel
theorem od4_156 : decode prog_25_method_1_code 156 = .ok (.iaload, 1) := by decide +kernel
theorem od4_157 : decode prog_25_method_1_code 157 = .ok (.iastore, 1) := by decide +kernel
theorem od4_158 : decode prog_25_method_1_code 158 = .ok (.aload_n 0, 1) := by decide +kernel
theorem od4_159 : decode prog_25_method_1_code 159 = .ok (.getfield 27, 3) := by decide +kernel
theorem od4_162 : decode prog_25_method_1_code 162 = .ok (.iload 7, 2) := by decide +kernel
theorem od4_164 : decode prog_25_method_1_code 164 = .ok (.bipush 64, 2) := by decide +kernel
theorem od4_166 : decode prog_25_method_1_code 166 = .ok (.iload 8, 2) := by decide +kernel
theorem od4_168 : decode prog_25_method_1_code 168 = .ok (.isub, 1) := by decide +kernel
theorem od4_169 : decode prog_25_method_1_code 169 = .ok (.iastore, 1) := by decide +kernel
theorem od4_170 : decode prog_25_method_1_code 170 = .ok (.aload_n 0, 1) := by decide +kernel
theorem od4_171 : decode prog_25_method_1_code 171 = .ok (.getfield 30, 3) := by decide +kernel
theorem od4_174 : decode prog_25_method_1_code 174 = .ok (.iload 7, 2) := by decide +kernel
theorem od4_176 : decode prog_25_method_1_code 176 = .ok (.bipush 64, 2) := by decide +kernel
theorem od4_178 : decode prog_25_method_1_code 178 = .ok (.aload 6, 2) := by decide +kernel
theorem od4_180 : decode prog_25_method_1_code 180 = .ok (.iload 7, 2) := by decide +kernel
theorem od4_182 : decode prog_25_method_1_code 182 = .ok (.iaload, 1) := by decide +kernel
theorem od4_183 : decode prog_25_method_1_code 183 = .ok (.isub, 1) := by decide +kernel
theorem od4_184 : decode prog_25_method_1_code 184 = .ok (.iload 8, 2) := by decide +kernel
theorem od4_186 : decode prog_25_method_1_code 186 = .ok (.isub, 1) := by decide +kernel
theorem od4_187 : decode prog_25_method_1_code 187 = .ok (.iastore, 1) := by decide +kernel
theorem od4_188 : decode prog_25_method_1_code 188 = .ok (.iinc 7 1, 3) := by decide +kernel
theorem od4_191 : decode prog_25_method_1_code 191 = .ok (.goto (-69), 3) := by decide +kernel
theorem od4_25 : decode prog_25_method_1_code 25 = .ok (.iload 7, 2) := by decide +kernel
theorem od4_27 : decode prog_25_method_1_code 27 = .ok (.iload_n 2, 1) := by decide +kernel
theorem od4_28 : decode prog_25_method_1_code 28 = .ok (.if_icmp .ge 14, 3) := by decide +kernel
theorem od4_42 : decode prog_25_method_1_code 42 = .ok (.iload 7, 2) := by decide +kernel
theorem od4_44 : decode prog_25_method_1_code 44 = .ok (.ifCond .eq 18, 3) := by decide +kernel
theorem od4_62 : decode prog_25_method_1_code 62 = .ok (.aload 6, 2) := by decide +kernel
theorem od4_64 : decode prog_25_method_1_code 64 = .ok (.iload 5, 2) := by decide +kernel
theorem od4_66 : decode prog_25_method_1_code 66 = .ok (.iload 7, 2) := by decide +kernel
theorem od4_68 : decode prog_25_method_1_code 68 = .ok (.iastore, 1) := by decide +kernel
theorem od4_69 : decode prog_25_method_1_code 69 = .ok (.iinc 5 1, 3) := by decide +kernel
theorem od4_72 : decode prog_25_method_1_code 72 = .ok (.iinc 7 1, 3) := by decide +kernel
theorem od4_75 : decode prog_25_method_1_code 75 = .ok (.goto (-57), 3) := by decide +kernel
theorem od4_47 : decode prog_25_method_1_code 47 = .ok (.aload_n 1, 1) := by decide +kernel
theorem od4_48 : decode prog_25_method_1_code 48 = .ok (.iload 7, 2) := by decide +kernel
theorem od4_50 : decode prog_25_method_1_code 50 = .ok (.iaload, 1) := by decide +kernel
theorem od4_51 : decode prog_25_method_1_code 51 = .ok (.aload_n 1, 1) := by decide +kernel
theorem od4_52 : decode prog_25_method_1_code 52 = .ok (.iload 7, 2) := by decide +kernel
theorem od4_54 : decode prog_25_method_1_code 54 = .ok (.iconst 1, 1) := by decide +kernel
theorem od4_55 : decode prog_25_method_1_code 55 = .ok (.isub, 1) := by decide +kernel
theorem od4_56 : decode prog_25_method_1_code 56 = .ok (.iaload, 1) := by decide +kernel
theorem od4_57 : decode prog_25_method_1_code 57 = .ok (.iconst 1, 1) := by decide +kernel
theorem od4_58 : decode prog_25_method_1_code 58 = .ok (.iadd, 1) := by decide +kernel
theorem od4_59 : decode prog_25_method_1_code 59 = .ok (.if_icmp .eq 13, 3) := by decide +kernel
theorem od4_31 : decode prog_25_method_1_code 31 = .ok (.lload_n 3, 1) := by decide +kernel
theorem ow22 {a0 : Array Value} {Z : State} (hw : ∀ d ∈ tables_1, d.before a0 Z = true) : (Jvm.Cond.constantLong "com/example/hyperplane/hyperplane/index/Table" (11 : Nat) (-9223372036854775808 : Int64)).before a0 Z = true := hw _ (List.mem_of_getElem? (i := 22) rfl)
theorem od4_32 : decode prog_25_method_1_code 32 = .ok (.ldc2_w 11, 3) := by decide +kernel
theorem od4_35 : decode prog_25_method_1_code 35 = .ok (.aload_n 1, 1) := by decide +kernel
theorem od4_36 : decode prog_25_method_1_code 36 = .ok (.iload 7, 2) := by decide +kernel
theorem od4_38 : decode prog_25_method_1_code 38 = .ok (.iaload, 1) := by decide +kernel
theorem od4_39 : decode prog_25_method_1_code 39 = .ok (.lushr, 1) := by decide +kernel
theorem od4_40 : decode prog_25_method_1_code 40 = .ok (.lor, 1) := by decide +kernel
theorem od4_41 : decode prog_25_method_1_code 41 = .ok (.lstore_n 3, 1) := by decide +kernel
theorem ef_own_rm4 (m : MethodId) (x0 : Addr) (x1 : Addr) (x2 : Int32) : entryFrame m #[(.ref x0), (.ref x1), (.int x2)] 9 = mkF m 0 #[.val (.ref x0), .val (.ref x1), .val (.int x2), .unset, .unset, .unset, .unset, .unset, .unset] [] := by first | (simp [entryFrame, mkF, argsToLocals, Value.category]; done) | rfl
theorem pn_com_example_hyperplane_hyperplane_index_Table__init____II_V : plainFor (⟨"com/example/hyperplane/hyperplane/index/Table", "<init>", "([II)V"⟩ : MethodName) = true := plainFor_of_name (by first | (simp [plainName, overriddenIn]; done) | decide +kernel)
set_option maxRecDepth 65536 in
set_option maxHeartbeats 40000000 in
theorem own_rm4 (l : Launch) (Z : State) (a0 : Array Value) (hw : ∀ d ∈ tables_1, d.before a0 Z = true) (n0 : Nat) (hO : Heap) (a : Addr) (b : Addr) (p : Int32) (O : List Int32) (Pn : Nat) (Z0 : n0 ≤ hO.size) (E_a : Exa Z hO a "com/example/hyperplane/hyperplane/index/Table") (F_a_prefixBits : Fld Z hO a "com/example/hyperplane/hyperplane/index/Table" "prefixBits" "I" (.int (0 : Int32))) (F_a_prefixMask : Fld Z hO a "com/example/hyperplane/hyperplane/index/Table" "prefixMask" "J" (.long (0 : Int64))) (F_a_toTop : Fld Z hO a "com/example/hyperplane/hyperplane/index/Table" "toTop" "[I" .null) (F_a_toBottom : Fld Z hO a "com/example/hyperplane/hyperplane/index/Table" "toBottom" "[I" .null) (F_a_toPlace : Fld Z hO a "com/example/hyperplane/hyperplane/index/Table" "toPlace" "[I" .null) (A_b : AI Z hO b O) (g_a : n0 ≤ a) (ne_a_b : a ≠ b) (hok : OKL O) (hp : p.toInt = (Pn : Int)) (hP : Pn ≤ 64) :
    MeetsW l Z n0 (⟨"com/example/hyperplane/hyperplane/index/Table", "<init>", "([II)V"⟩ : MethodName) prog_25_method_1_code 9 none ({ frames := 1, cells := 4, slots := 257, locals := 12 } : Room) #[(.ref a), (.ref b), (.int p)] hO (RV fun h => ∃ tt : Addr, ∃ tb : Addr, ∃ tq : Addr, ∃ T : List Int32, ∃ B : List Int32, ∃ Q : List Int32, Tab O T B Q ∧ Keep hO h [a] ∧ hO.size ≤ tt ∧ hO.size ≤ tb ∧ hO.size ≤ tq ∧ Fld Z h a "com/example/hyperplane/hyperplane/index/Table" "prefixMask" "J" (.long (maskL O Pn)) ∧ Fld Z h a "com/example/hyperplane/hyperplane/index/Table" "toTop" "[I" (.ref tt) ∧ Fld Z h a "com/example/hyperplane/hyperplane/index/Table" "toBottom" "[I" (.ref tb) ∧ Fld Z h a "com/example/hyperplane/hyperplane/index/Table" "toPlace" "[I" (.ref tq) ∧ AI Z h tt T ∧ AI Z h tb B ∧ AI Z h tq Q) := by
  refine MeetsW.intro pn_com_example_hyperplane_hyperplane_index_Table__init____II_V (fun m => ef_own_rm4 m a b p) ?_
  intro W C
  replace C : Ru l Z "com/example/hyperplane/hyperplane/index/Table" prog_25_method_1_code 9 none "<init>" ({ frames := 1, cells := 4, slots := 257, locals := 12 } : Room) n0 (RV fun h => ∃ tt : Addr, ∃ tb : Addr, ∃ tq : Addr, ∃ T : List Int32, ∃ B : List Int32, ∃ Q : List Int32, Tab O T B Q ∧ Keep hO h [a] ∧ hO.size ≤ tt ∧ hO.size ≤ tb ∧ hO.size ≤ tq ∧ Fld Z h a "com/example/hyperplane/hyperplane/index/Table" "prefixMask" "J" (.long (maskL O Pn)) ∧ Fld Z h a "com/example/hyperplane/hyperplane/index/Table" "toTop" "[I" (.ref tt) ∧ Fld Z h a "com/example/hyperplane/hyperplane/index/Table" "toBottom" "[I" (.ref tb) ∧ Fld Z h a "com/example/hyperplane/hyperplane/index/Table" "toPlace" "[I" (.ref tq) ∧ AI Z h tt T ∧ AI Z h tb B ∧ AI Z h tq Q) W := C
  have K : Keep hO hO [a] := Keep.refl _ _
  refine C.aloadN (pc' := 1) od4_0 rfl rfl rfl ?_
  refine C.initObj (w := 0) (ow19 hw) (ow20 hw) (ow21 hw) (pc' := 4) od4_1 rfl rfl (by decide) (Nat.le_of_eq rfl) (by decide) ?_
  refine C.lconst (v := 0) (pc' := 5) od4_4 rfl rfl ?_
  refine C.lstoreNX (l' := #[.val (.ref a), .val (.ref b), .val (.int p), .val (.long (0 : Int64)), .second, .unset, .unset, .unset, .unset]) (pc' := 6) od4_5 rfl rfl ?_
  refine C.iconst (v := 0) (pc' := 7) od4_6 rfl rfl ?_
  refine C.istoreX (l' := #[.val (.ref a), .val (.ref b), .val (.int p), .val (.long (0 : Int64)), .second, .val (.int (0 : Int32)), .unset, .unset, .unset]) (pc' := 9) od4_7 rfl rfl ?_
  refine C.bipush (v := 65) (pc' := 11) od4_9 rfl rfl ?_
  refine C.newAI (N := 65) (cap := 65) (ow8 hw) (pc' := 13) od4_11 rfl (by decide) (by decide) (by decide) (by decide) (by decide) (fun h11 b11 hb11 X11 A_b11 => ?_)
  have ne_a_b11 : a ≠ b11 := by rw [hb11]; exact Nat.ne_of_lt (exaLt E_a)
  have ne_b_b11 : b ≠ b11 := by rw [hb11]; exact Nat.ne_of_lt A_b.lt
  have sz_b11 : hO.size ≤ b11 := by rw [hb11]; exact K.1
  have g_b11 : n0 ≤ b11 := Nat.le_trans Z0 sz_b11
  replace E_a := E_a.ext X11
  replace F_a_prefixBits := F_a_prefixBits.ext X11
  replace F_a_prefixMask := F_a_prefixMask.ext X11
  replace F_a_toTop := F_a_toTop.ext X11
  replace F_a_toBottom := F_a_toBottom.ext X11
  replace F_a_toPlace := F_a_toPlace.ext X11
  replace A_b := A_b.ext X11
  replace K := K.ext X11
  refine C.astore (l' := #[.val (.ref a), .val (.ref b), .val (.int p), .val (.long (0 : Int64)), .second, .val (.int (0 : Int32)), .val (.ref b11), .unset, .unset]) (pc' := 15) od4_13 rfl rfl rfl ?_
  refine C.iconst (v := 0) (pc' := 16) od4_15 rfl rfl ?_
  refine C.istoreX (l' := #[.val (.ref a), .val (.ref b), .val (.int p), .val (.long (0 : Int64)), .second, .val (.int (0 : Int32)), .val (.ref b11), .val (.int (0 : Int32)), .unset]) (pc' := 18) od4_16 rfl rfl ?_
  have lp18 : ∀ (fu : Nat) (hL : Heap) (i : Nat) (r : Nat) (iv : Int32) (rv : Int32) (mk : Int64) (S : List Int32), (i + fu = 64) → (iv.toInt = (i : Int)) → (rv.toInt = (r : Int)) → (mk = maskL O (min i Pn)) → (Inv1 O S r i) → (Keep hO hL [a]) → (Exa Z hL a "com/example/hyperplane/hyperplane/index/Table") → (Fld Z hL a "com/example/hyperplane/hyperplane/index/Table" "prefixBits" "I" (.int (0 : Int32))) → (Fld Z hL a "com/example/hyperplane/hyperplane/index/Table" "prefixMask" "J" (.long (0 : Int64))) → (Fld Z hL a "com/example/hyperplane/hyperplane/index/Table" "toTop" "[I" .null) → (Fld Z hL a "com/example/hyperplane/hyperplane/index/Table" "toBottom" "[I" .null) → (Fld Z hL a "com/example/hyperplane/hyperplane/index/Table" "toPlace" "[I" .null) → (AI Z hL b O) → (AI Z hL b11 S) → W hL 1 65 18 #[.val (.ref a), .val (.ref b), .val (.int p), .val (.long mk), .second, .val (.int rv), .val (.ref b11), .val (.int iv), .unset] [] := by
    intro fu
    induction fu using Nat.strongRecOn with
    | _ fu ih =>
      intro hL i r iv rv mk S hf hi hr hm inv K E_a F_a_prefixBits F_a_prefixMask F_a_toTop F_a_toBottom F_a_toPlace A_b A_b11
      refine C.iload (pc' := 20) od4_18 rfl rfl ?_
      refine C.bipush (v := 64) (pc' := 22) od4_20 rfl rfl ?_
      refine C.icmp_ge (pc' := 25) (pt := 78) od4_22 rfl rfl (fun c22 => ?_) (fun c22 => ?_)
      · skip
        refine C.aload (pc' := 80) od4_78 rfl rfl rfl ?_
        refine C.iload (pc' := 82) od4_80 rfl rfl ?_
        refine C.bipush (v := 64) (pc' := 84) od4_82 rfl rfl ?_
        refine C.stAI (i := r) A_b11 hr (by have := mt (Jvm.OwnP.lt_iff hi (show (64 : Int32).toInt = ((64 : Nat) : Int) from by decide)).mpr c22; have := inv.2.1; rw [inv.1]; omega) g_b11 (pc' := 85) od4_84 rfl (fun h84 X84 B84 => ?_)
        replace E_a := E_a.wr X84
        replace F_a_prefixBits := F_a_prefixBits.other X84 (Or.inl ne_a_b11)
        replace F_a_prefixMask := F_a_prefixMask.other X84 (Or.inl ne_a_b11)
        replace F_a_toTop := F_a_toTop.other X84 (Or.inl ne_a_b11)
        replace F_a_toBottom := F_a_toBottom.other X84 (Or.inl ne_a_b11)
        replace F_a_toPlace := F_a_toPlace.other X84 (Or.inl ne_a_b11)
        replace A_b := A_b.other X84 ne_b_b11
        have A_b11 : AI Z h84 b11 (S.set r (64 : Int32)) := B84
        replace K := K.wr X84 (Or.inr sz_b11)
        have h64 : i = 64 := by have := mt (Jvm.OwnP.lt_iff hi (show (64 : Int32).toInt = ((64 : Nat) : Int) from by decide)).mpr c22; omega
        subst h64
        obtain ⟨S2, hS2⟩ : ∃ S2, S2 = S.set r 64 := ⟨_, rfl⟩
        rw [← hS2] at A_b11
        have inv2 : Inv2 O S2 r := by rw [hS2]; exact inv2_of inv
        have hm2 : mk = maskL O Pn := by rw [hm, Nat.min_eq_right hP]
        subst hm2
        refine C.aloadN (pc' := 86) od4_85 rfl rfl rfl ?_
        refine C.iloadN (pc' := 87) od4_86 rfl rfl ?_
        refine C.putf (ow23 hw) Via.refl F_a_prefixBits E_a (Or.inr ⟨(ow24 hw), rfl, rfl⟩) (ow14 hw) pf_I rfl rfl g_a (pc' := 90) od4_87 rfl (fun h87 X87 => ?_)
        replace F_a_prefixBits := F_a_prefixBits.same X87
        replace E_a := E_a.wr X87
        replace F_a_prefixMask := F_a_prefixMask.other X87 (Or.inr (sne_26_24 hw))
        replace F_a_toTop := F_a_toTop.other X87 (Or.inr (sne_28_24 hw))
        replace F_a_toBottom := F_a_toBottom.other X87 (Or.inr (sne_30_24 hw))
        replace F_a_toPlace := F_a_toPlace.other X87 (Or.inr (sne_32_24 hw))
        replace A_b := A_b.other X87 (Ne.symm ne_a_b)
        replace A_b11 := A_b11.other X87 (Ne.symm ne_a_b11)
        replace K := K.wr X87 (Or.inl (List.mem_of_getElem? (i := 0) rfl))
        refine C.aloadN (pc' := 91) od4_90 rfl rfl rfl ?_
        refine C.lloadN (pc' := 92) od4_91 rfl rfl ?_
        refine C.putf (ow25 hw) Via.refl F_a_prefixMask E_a (Or.inr ⟨(ow26 hw), rfl, rfl⟩) (ow14 hw) pf_J rfl rfl g_a (pc' := 95) od4_92 rfl (fun h92 X92 => ?_)
        replace F_a_prefixMask := F_a_prefixMask.same X92
        replace E_a := E_a.wr X92
        replace F_a_toTop := F_a_toTop.other X92 (Or.inr (sne_28_26 hw))
        replace F_a_toBottom := F_a_toBottom.other X92 (Or.inr (sne_30_26 hw))
        replace F_a_toPlace := F_a_toPlace.other X92 (Or.inr (sne_32_26 hw))
        replace A_b := A_b.other X92 (Ne.symm ne_a_b)
        replace A_b11 := A_b11.other X92 (Ne.symm ne_a_b11)
        replace F_a_prefixBits := F_a_prefixBits.other X92 (Or.inr (sne_24_26 hw))
        replace K := K.wr X92 (Or.inl (List.mem_of_getElem? (i := 0) rfl))
        refine C.aloadN (pc' := 96) od4_95 rfl rfl rfl ?_
        refine C.iload (pc' := 98) od4_96 rfl rfl ?_
        refine C.newAI (N := r) (cap := 64) (ow8 hw) (pc' := 100) od4_98 rfl hr inv2.2.2.1 (by decide) (by decide) (by decide) (fun h98 b98 hb98 X98 A_b98 => ?_)
        have ne_a_b98 : a ≠ b98 := by rw [hb98]; exact Nat.ne_of_lt (exaLt E_a)
        have ne_b_b98 : b ≠ b98 := by rw [hb98]; exact Nat.ne_of_lt A_b.lt
        have ne_b11_b98 : b11 ≠ b98 := by rw [hb98]; exact Nat.ne_of_lt A_b11.lt
        have sz_b98 : hO.size ≤ b98 := by rw [hb98]; exact K.1
        have g_b98 : n0 ≤ b98 := Nat.le_trans Z0 sz_b98
        replace E_a := E_a.ext X98
        replace F_a_toTop := F_a_toTop.ext X98
        replace F_a_toBottom := F_a_toBottom.ext X98
        replace F_a_toPlace := F_a_toPlace.ext X98
        replace A_b := A_b.ext X98
        replace A_b11 := A_b11.ext X98
        replace F_a_prefixBits := F_a_prefixBits.ext X98
        replace F_a_prefixMask := F_a_prefixMask.ext X98
        replace K := K.ext X98
        refine C.putf (ow27 hw) Via.refl F_a_toTop E_a (Or.inr ⟨(ow28 hw), rfl, rfl⟩) (ow14 hw) pf__I rfl rfl g_a (pc' := 103) od4_100 rfl (fun h100 X100 => ?_)
        replace F_a_toTop := F_a_toTop.same X100
        replace E_a := E_a.wr X100
        replace F_a_toBottom := F_a_toBottom.other X100 (Or.inr (sne_30_28 hw))
        replace F_a_toPlace := F_a_toPlace.other X100 (Or.inr (sne_32_28 hw))
        replace A_b := A_b.other X100 (Ne.symm ne_a_b)
        replace A_b11 := A_b11.other X100 (Ne.symm ne_a_b11)
        replace F_a_prefixBits := F_a_prefixBits.other X100 (Or.inr (sne_24_28 hw))
        replace F_a_prefixMask := F_a_prefixMask.other X100 (Or.inr (sne_26_28 hw))
        replace A_b98 := A_b98.other X100 (Ne.symm ne_a_b98)
        replace K := K.wr X100 (Or.inl (List.mem_of_getElem? (i := 0) rfl))
        refine C.aloadN (pc' := 104) od4_103 rfl rfl rfl ?_
        refine C.iload (pc' := 106) od4_104 rfl rfl ?_
        refine C.newAI (N := r) (cap := 64) (ow8 hw) (pc' := 108) od4_106 rfl hr inv2.2.2.1 (by decide) (by decide) (by decide) (fun h106 b106 hb106 X106 A_b106 => ?_)
        have ne_a_b106 : a ≠ b106 := by rw [hb106]; exact Nat.ne_of_lt (exaLt E_a)
        have ne_b_b106 : b ≠ b106 := by rw [hb106]; exact Nat.ne_of_lt A_b.lt
        have ne_b11_b106 : b11 ≠ b106 := by rw [hb106]; exact Nat.ne_of_lt A_b11.lt
        have ne_b98_b106 : b98 ≠ b106 := by rw [hb106]; exact Nat.ne_of_lt A_b98.lt
        have sz_b106 : hO.size ≤ b106 := by rw [hb106]; exact K.1
        have g_b106 : n0 ≤ b106 := Nat.le_trans Z0 sz_b106
        replace E_a := E_a.ext X106
        replace F_a_toBottom := F_a_toBottom.ext X106
        replace F_a_toPlace := F_a_toPlace.ext X106
        replace A_b := A_b.ext X106
        replace A_b11 := A_b11.ext X106
        replace F_a_prefixBits := F_a_prefixBits.ext X106
        replace F_a_prefixMask := F_a_prefixMask.ext X106
        replace A_b98 := A_b98.ext X106
        replace F_a_toTop := F_a_toTop.ext X106
        replace K := K.ext X106
        refine C.putf (ow29 hw) Via.refl F_a_toBottom E_a (Or.inr ⟨(ow30 hw), rfl, rfl⟩) (ow14 hw) pf__I rfl rfl g_a (pc' := 111) od4_108 rfl (fun h108 X108 => ?_)
        replace F_a_toBottom := F_a_toBottom.same X108
        replace E_a := E_a.wr X108
        replace F_a_toPlace := F_a_toPlace.other X108 (Or.inr (sne_32_30 hw))
        replace A_b := A_b.other X108 (Ne.symm ne_a_b)
        replace A_b11 := A_b11.other X108 (Ne.symm ne_a_b11)
        replace F_a_prefixBits := F_a_prefixBits.other X108 (Or.inr (sne_24_30 hw))
        replace F_a_prefixMask := F_a_prefixMask.other X108 (Or.inr (sne_26_30 hw))
        replace A_b98 := A_b98.other X108 (Ne.symm ne_a_b98)
        replace F_a_toTop := F_a_toTop.other X108 (Or.inr (sne_28_30 hw))
        replace A_b106 := A_b106.other X108 (Ne.symm ne_a_b106)
        replace K := K.wr X108 (Or.inl (List.mem_of_getElem? (i := 0) rfl))
        refine C.aloadN (pc' := 112) od4_111 rfl rfl rfl ?_
        refine C.iload (pc' := 114) od4_112 rfl rfl ?_
        refine C.newAI (N := r) (cap := 64) (ow8 hw) (pc' := 116) od4_114 rfl hr inv2.2.2.1 (by decide) (by decide) (by decide) (fun h114 b114 hb114 X114 A_b114 => ?_)
        have ne_a_b114 : a ≠ b114 := by rw [hb114]; exact Nat.ne_of_lt (exaLt E_a)
        have ne_b_b114 : b ≠ b114 := by rw [hb114]; exact Nat.ne_of_lt A_b.lt
        have ne_b11_b114 : b11 ≠ b114 := by rw [hb114]; exact Nat.ne_of_lt A_b11.lt
        have ne_b98_b114 : b98 ≠ b114 := by rw [hb114]; exact Nat.ne_of_lt A_b98.lt
        have ne_b106_b114 : b106 ≠ b114 := by rw [hb114]; exact Nat.ne_of_lt A_b106.lt
        have sz_b114 : hO.size ≤ b114 := by rw [hb114]; exact K.1
        have g_b114 : n0 ≤ b114 := Nat.le_trans Z0 sz_b114
        replace E_a := E_a.ext X114
        replace F_a_toPlace := F_a_toPlace.ext X114
        replace A_b := A_b.ext X114
        replace A_b11 := A_b11.ext X114
        replace F_a_prefixBits := F_a_prefixBits.ext X114
        replace F_a_prefixMask := F_a_prefixMask.ext X114
        replace A_b98 := A_b98.ext X114
        replace F_a_toTop := F_a_toTop.ext X114
        replace A_b106 := A_b106.ext X114
        replace F_a_toBottom := F_a_toBottom.ext X114
        replace K := K.ext X114
        refine C.putf (ow31 hw) Via.refl F_a_toPlace E_a (Or.inr ⟨(ow32 hw), rfl, rfl⟩) (ow14 hw) pf__I rfl rfl g_a (pc' := 119) od4_116 rfl (fun h116 X116 => ?_)
        replace F_a_toPlace := F_a_toPlace.same X116
        replace E_a := E_a.wr X116
        replace A_b := A_b.other X116 (Ne.symm ne_a_b)
        replace A_b11 := A_b11.other X116 (Ne.symm ne_a_b11)
        replace F_a_prefixBits := F_a_prefixBits.other X116 (Or.inr (sne_24_32 hw))
        replace F_a_prefixMask := F_a_prefixMask.other X116 (Or.inr (sne_26_32 hw))
        replace A_b98 := A_b98.other X116 (Ne.symm ne_a_b98)
        replace F_a_toTop := F_a_toTop.other X116 (Or.inr (sne_28_32 hw))
        replace A_b106 := A_b106.other X116 (Ne.symm ne_a_b106)
        replace F_a_toBottom := F_a_toBottom.other X116 (Or.inr (sne_30_32 hw))
        replace A_b114 := A_b114.other X116 (Ne.symm ne_a_b114)
        replace K := K.wr X116 (Or.inl (List.mem_of_getElem? (i := 0) rfl))
        refine C.iconst (v := 0) (pc' := 120) od4_119 rfl rfl ?_
        refine C.istoreX (l' := #[.val (.ref a), .val (.ref b), .val (.int p), .val (.long (maskL O Pn)), .second, .val (.int rv), .val (.ref b11), .val (.int (0 : Int32)), .unset]) (pc' := 122) od4_120 rfl rfl ?_
        have lp122 : ∀ (fu : Nat) (hM : Heap) (j : Nat) (jv : Int32) (zz : Slot) (T : List Int32) (B : List Int32) (Q : List Int32), (j + fu = r) → (jv.toInt = (j : Int)) → (TabTo O S2 T B Q r j) → (zz = .unset ∨ ∃ v, zz = .val (.int v)) → (Keep hO hM [a]) → (Exa Z hM a "com/example/hyperplane/hyperplane/index/Table") → (AI Z hM b O) → (AI Z hM b11 S2) → (Fld Z hM a "com/example/hyperplane/hyperplane/index/Table" "prefixBits" "I" (.int p)) → (Fld Z hM a "com/example/hyperplane/hyperplane/index/Table" "prefixMask" "J" (.long (maskL O Pn))) → (AI Z hM b98 T) → (Fld Z hM a "com/example/hyperplane/hyperplane/index/Table" "toTop" "[I" (.ref b98)) → (AI Z hM b106 B) → (Fld Z hM a "com/example/hyperplane/hyperplane/index/Table" "toBottom" "[I" (.ref b106)) → (AI Z hM b114 Q) → (Fld Z hM a "com/example/hyperplane/hyperplane/index/Table" "toPlace" "[I" (.ref b114)) → W hM 4 257 122 #[.val (.ref a), .val (.ref b), .val (.int p), .val (.long (maskL O Pn)), .second, .val (.int rv), .val (.ref b11), .val (.int jv), zz] [] := by
          intro fu
          induction fu using Nat.strongRecOn with
          | _ fu ih =>
            intro hM j jv zz T B Q gf hj tab hz K E_a A_b A_b11 F_a_prefixBits F_a_prefixMask A_b98 F_a_toTop A_b106 F_a_toBottom A_b114 F_a_toPlace
            rcases hz with rfl | ⟨z8, rfl⟩
            · skip
              refine C.iload (pc' := 124) od4_122 rfl rfl ?_
              refine C.iload (pc' := 126) od4_124 rfl rfl ?_
              refine C.icmp_ge (pc' := 129) (pt := 194) od4_126 rfl rfl (fun c126 => ?_) (fun c126 => ?_)
              · skip
                refine C.retV rfl od4_194 (by decide) (by decide) ⟨rfl, ?_⟩
                exact ⟨b98, b106, b114, T, B, Q, ⟨S2, r, inv2, own_full tab (mt (Jvm.OwnP.lt_iff hj hr).mpr c126) gf⟩, K, sz_b98, sz_b106, sz_b114, F_a_prefixMask, F_a_toTop, F_a_toBottom, F_a_toPlace, A_b98, A_b106, A_b114⟩
              · skip
                refine C.aload (pc' := 131) od4_129 rfl rfl rfl ?_
                refine C.iload (pc' := 133) od4_131 rfl rfl ?_
                refine C.iconst (v := 1) (pc' := 134) od4_133 rfl rfl ?_
                refine C.iadd (pc' := 135) od4_134 rfl ?_
                refine C.ldAI (i := (j + 1)) (v := (S2.getD (j + 1) 0)) A_b11 (Jvm.OwnP.inc_toInt hj (by have := ((Jvm.OwnP.lt_iff hj hr).mp c126); have := inv2.2.2.1; omega) rfl) (Jvm.OwnP.getD_some (by have := ((Jvm.OwnP.lt_iff hj hr).mp c126); have := inv2.2.2.1; rw [inv2.1]; omega)) (pc' := 136) od4_135 rfl ?_
                refine C.aload (pc' := 138) od4_136 rfl rfl rfl ?_
                refine C.iload (pc' := 140) od4_138 rfl rfl ?_
                refine C.ldAI (i := j) (v := (S2.getD j 0)) A_b11 hj (Jvm.OwnP.getD_some (by have := ((Jvm.OwnP.lt_iff hj hr).mp c126); have := inv2.2.2.1; rw [inv2.1]; omega)) (pc' := 141) od4_140 rfl ?_
                refine C.isub (pc' := 142) od4_141 rfl ?_
                refine C.istore (f := fun v_ => #[.val (.ref a), .val (.ref b), .val (.int p), .val (.long (maskL O Pn)), .second, .val (.int rv), .val (.ref b11), .val (.int jv), .val (.int v_)]) (pc' := 144) od4_142 rfl (fun _ => rfl) (fun v142 e142 => ?_)
                refine C.aloadN (pc' := 145) od4_144 rfl rfl rfl ?_
                refine C.getf (ow27 hw) Via.refl F_a_toTop (pc' := 148) od4_145 rfl ?_
                refine C.iload (pc' := 150) od4_148 rfl rfl ?_
                refine C.aloadN (pc' := 151) od4_150 rfl rfl rfl ?_
                refine C.aload (pc' := 153) od4_151 rfl rfl rfl ?_
                refine C.iload (pc' := 155) od4_153 rfl rfl ?_
                refine C.ldAI (i := j) (v := (S2.getD j 0)) A_b11 hj (Jvm.OwnP.getD_some (by have := ((Jvm.OwnP.lt_iff hj hr).mp c126); have := inv2.2.2.1; rw [inv2.1]; omega)) (pc' := 156) od4_155 rfl ?_
                refine C.ldAI (i := (sv S2 j)) (v := (O.getD (sv S2 j) 0)) A_b (inv2.2.2.2.2.1 j (Nat.le_of_lt ((Jvm.OwnP.lt_iff hj hr).mp c126))) (Jvm.OwnP.getD_some (by rw [hok.1]; exact inv2.2.2.2.2.2.1 j ((Jvm.OwnP.lt_iff hj hr).mp c126))) (pc' := 157) od4_156 rfl ?_
                refine C.stAI (i := j) A_b98 hj (by rw [tab.1]; exact ((Jvm.OwnP.lt_iff hj hr).mp c126)) g_b98 (pc' := 158) od4_157 rfl (fun h157 X157 B157 => ?_)
                replace E_a := E_a.wr X157
                replace A_b := A_b.other X157 ne_b_b98
                replace A_b11 := A_b11.other X157 ne_b11_b98
                replace F_a_prefixBits := F_a_prefixBits.other X157 (Or.inl ne_a_b98)
                replace F_a_prefixMask := F_a_prefixMask.other X157 (Or.inl ne_a_b98)
                replace F_a_toTop := F_a_toTop.other X157 (Or.inl ne_a_b98)
                replace A_b106 := A_b106.other X157 (Ne.symm ne_b98_b106)
                replace F_a_toBottom := F_a_toBottom.other X157 (Or.inl ne_a_b98)
                replace A_b114 := A_b114.other X157 (Ne.symm ne_b98_b114)
                replace F_a_toPlace := F_a_toPlace.other X157 (Or.inl ne_a_b98)
                have A_b98 : AI Z h157 b98 (T.set j (O.getD (sv S2 j) 0)) := B157
                replace K := K.wr X157 (Or.inr sz_b98)
                refine C.aloadN (pc' := 159) od4_158 rfl rfl rfl ?_
                refine C.getf (ow29 hw) Via.refl F_a_toBottom (pc' := 162) od4_159 rfl ?_
                refine C.iload (pc' := 164) od4_162 rfl rfl ?_
                refine C.bipush (v := 64) (pc' := 166) od4_164 rfl rfl ?_
                refine C.iload (pc' := 168) od4_166 rfl rfl ?_
                refine C.isub (pc' := 169) od4_168 rfl ?_
                refine C.stAI (i := j) A_b106 hj (by rw [tab.2.1]; exact ((Jvm.OwnP.lt_iff hj hr).mp c126)) g_b106 (pc' := 170) od4_169 rfl (fun h169 X169 B169 => ?_)
                replace E_a := E_a.wr X169
                replace A_b := A_b.other X169 ne_b_b106
                replace A_b11 := A_b11.other X169 ne_b11_b106
                replace F_a_prefixBits := F_a_prefixBits.other X169 (Or.inl ne_a_b106)
                replace F_a_prefixMask := F_a_prefixMask.other X169 (Or.inl ne_a_b106)
                replace F_a_toTop := F_a_toTop.other X169 (Or.inl ne_a_b106)
                replace F_a_toBottom := F_a_toBottom.other X169 (Or.inl ne_a_b106)
                replace A_b114 := A_b114.other X169 (Ne.symm ne_b106_b114)
                replace F_a_toPlace := F_a_toPlace.other X169 (Or.inl ne_a_b106)
                replace A_b98 := A_b98.other X169 ne_b98_b106
                have A_b106 : AI Z h169 b106 (B.set j ((64 : Int32) - v142)) := B169
                replace K := K.wr X169 (Or.inr sz_b106)
                refine C.aloadN (pc' := 171) od4_170 rfl rfl rfl ?_
                refine C.getf (ow31 hw) Via.refl F_a_toPlace (pc' := 174) od4_171 rfl ?_
                refine C.iload (pc' := 176) od4_174 rfl rfl ?_
                refine C.bipush (v := 64) (pc' := 178) od4_176 rfl rfl ?_
                refine C.aload (pc' := 180) od4_178 rfl rfl rfl ?_
                refine C.iload (pc' := 182) od4_180 rfl rfl ?_
                refine C.ldAI (i := j) (v := (S2.getD j 0)) A_b11 hj (Jvm.OwnP.getD_some (by have := ((Jvm.OwnP.lt_iff hj hr).mp c126); have := inv2.2.2.1; rw [inv2.1]; omega)) (pc' := 183) od4_182 rfl ?_
                refine C.isub (pc' := 184) od4_183 rfl ?_
                refine C.iload (pc' := 186) od4_184 rfl rfl ?_
                refine C.isub (pc' := 187) od4_186 rfl ?_
                refine C.stAI (i := j) A_b114 hj (by rw [tab.2.2.1]; exact ((Jvm.OwnP.lt_iff hj hr).mp c126)) g_b114 (pc' := 188) od4_187 rfl (fun h187 X187 B187 => ?_)
                replace E_a := E_a.wr X187
                replace A_b := A_b.other X187 ne_b_b114
                replace A_b11 := A_b11.other X187 ne_b11_b114
                replace F_a_prefixBits := F_a_prefixBits.other X187 (Or.inl ne_a_b114)
                replace F_a_prefixMask := F_a_prefixMask.other X187 (Or.inl ne_a_b114)
                replace F_a_toTop := F_a_toTop.other X187 (Or.inl ne_a_b114)
                replace F_a_toBottom := F_a_toBottom.other X187 (Or.inl ne_a_b114)
                replace F_a_toPlace := F_a_toPlace.other X187 (Or.inl ne_a_b114)
                replace A_b98 := A_b98.other X187 ne_b98_b114
                replace A_b106 := A_b106.other X187 ne_b106_b114
                have A_b114 : AI Z h187 b114 (Q.set j (((64 : Int32) - (S2.getD j 0)) - v142)) := B187
                replace K := K.wr X187 (Or.inr sz_b114)
                refine C.iinc (d := 1) (f := fun v_ => #[.val (.ref a), .val (.ref b), .val (.int p), .val (.long (maskL O Pn)), .second, .val (.int rv), .val (.ref b11), .val (.int v_), .val (.int v142)]) (pc' := 191) od4_188 rfl rfl rfl (fun _ => rfl) (fun v188 e188 => ?_)
                refine C.goto (pc' := 122) od4_191 rfl ?_
                exact ih (fu - 1) (by have := ((Jvm.OwnP.lt_iff hj hr).mp c126); omega) _ (j + 1) _ _ _ _ _ (by have := ((Jvm.OwnP.lt_iff hj hr).mp c126); omega) (Jvm.OwnP.inc_toInt hj (by have := ((Jvm.OwnP.lt_iff hj hr).mp c126); have := inv2.2.2.1; omega) e188) (tab_step hok inv2 ((Jvm.OwnP.lt_iff hj hr).mp c126) tab e142) (Or.inr ⟨_, rfl⟩) K E_a A_b A_b11 F_a_prefixBits F_a_prefixMask A_b98 F_a_toTop A_b106 F_a_toBottom A_b114 F_a_toPlace
            · skip
              refine C.iload (pc' := 124) od4_122 rfl rfl ?_
              refine C.iload (pc' := 126) od4_124 rfl rfl ?_
              refine C.icmp_ge (pc' := 129) (pt := 194) od4_126 rfl rfl (fun c126 => ?_) (fun c126 => ?_)
              · skip
                refine C.retV rfl od4_194 (by decide) (by decide) ⟨rfl, ?_⟩
                exact ⟨b98, b106, b114, T, B, Q, ⟨S2, r, inv2, own_full tab (mt (Jvm.OwnP.lt_iff hj hr).mpr c126) gf⟩, K, sz_b98, sz_b106, sz_b114, F_a_prefixMask, F_a_toTop, F_a_toBottom, F_a_toPlace, A_b98, A_b106, A_b114⟩
              · skip
                refine C.aload (pc' := 131) od4_129 rfl rfl rfl ?_
                refine C.iload (pc' := 133) od4_131 rfl rfl ?_
                refine C.iconst (v := 1) (pc' := 134) od4_133 rfl rfl ?_
                refine C.iadd (pc' := 135) od4_134 rfl ?_
                refine C.ldAI (i := (j + 1)) (v := (S2.getD (j + 1) 0)) A_b11 (Jvm.OwnP.inc_toInt hj (by have := ((Jvm.OwnP.lt_iff hj hr).mp c126); have := inv2.2.2.1; omega) rfl) (Jvm.OwnP.getD_some (by have := ((Jvm.OwnP.lt_iff hj hr).mp c126); have := inv2.2.2.1; rw [inv2.1]; omega)) (pc' := 136) od4_135 rfl ?_
                refine C.aload (pc' := 138) od4_136 rfl rfl rfl ?_
                refine C.iload (pc' := 140) od4_138 rfl rfl ?_
                refine C.ldAI (i := j) (v := (S2.getD j 0)) A_b11 hj (Jvm.OwnP.getD_some (by have := ((Jvm.OwnP.lt_iff hj hr).mp c126); have := inv2.2.2.1; rw [inv2.1]; omega)) (pc' := 141) od4_140 rfl ?_
                refine C.isub (pc' := 142) od4_141 rfl ?_
                refine C.istore (f := fun v_ => #[.val (.ref a), .val (.ref b), .val (.int p), .val (.long (maskL O Pn)), .second, .val (.int rv), .val (.ref b11), .val (.int jv), .val (.int v_)]) (pc' := 144) od4_142 rfl (fun _ => rfl) (fun v142 e142 => ?_)
                refine C.aloadN (pc' := 145) od4_144 rfl rfl rfl ?_
                refine C.getf (ow27 hw) Via.refl F_a_toTop (pc' := 148) od4_145 rfl ?_
                refine C.iload (pc' := 150) od4_148 rfl rfl ?_
                refine C.aloadN (pc' := 151) od4_150 rfl rfl rfl ?_
                refine C.aload (pc' := 153) od4_151 rfl rfl rfl ?_
                refine C.iload (pc' := 155) od4_153 rfl rfl ?_
                refine C.ldAI (i := j) (v := (S2.getD j 0)) A_b11 hj (Jvm.OwnP.getD_some (by have := ((Jvm.OwnP.lt_iff hj hr).mp c126); have := inv2.2.2.1; rw [inv2.1]; omega)) (pc' := 156) od4_155 rfl ?_
                refine C.ldAI (i := (sv S2 j)) (v := (O.getD (sv S2 j) 0)) A_b (inv2.2.2.2.2.1 j (Nat.le_of_lt ((Jvm.OwnP.lt_iff hj hr).mp c126))) (Jvm.OwnP.getD_some (by rw [hok.1]; exact inv2.2.2.2.2.2.1 j ((Jvm.OwnP.lt_iff hj hr).mp c126))) (pc' := 157) od4_156 rfl ?_
                refine C.stAI (i := j) A_b98 hj (by rw [tab.1]; exact ((Jvm.OwnP.lt_iff hj hr).mp c126)) g_b98 (pc' := 158) od4_157 rfl (fun h157 X157 B157 => ?_)
                replace E_a := E_a.wr X157
                replace A_b := A_b.other X157 ne_b_b98
                replace A_b11 := A_b11.other X157 ne_b11_b98
                replace F_a_prefixBits := F_a_prefixBits.other X157 (Or.inl ne_a_b98)
                replace F_a_prefixMask := F_a_prefixMask.other X157 (Or.inl ne_a_b98)
                replace F_a_toTop := F_a_toTop.other X157 (Or.inl ne_a_b98)
                replace A_b106 := A_b106.other X157 (Ne.symm ne_b98_b106)
                replace F_a_toBottom := F_a_toBottom.other X157 (Or.inl ne_a_b98)
                replace A_b114 := A_b114.other X157 (Ne.symm ne_b98_b114)
                replace F_a_toPlace := F_a_toPlace.other X157 (Or.inl ne_a_b98)
                have A_b98 : AI Z h157 b98 (T.set j (O.getD (sv S2 j) 0)) := B157
                replace K := K.wr X157 (Or.inr sz_b98)
                refine C.aloadN (pc' := 159) od4_158 rfl rfl rfl ?_
                refine C.getf (ow29 hw) Via.refl F_a_toBottom (pc' := 162) od4_159 rfl ?_
                refine C.iload (pc' := 164) od4_162 rfl rfl ?_
                refine C.bipush (v := 64) (pc' := 166) od4_164 rfl rfl ?_
                refine C.iload (pc' := 168) od4_166 rfl rfl ?_
                refine C.isub (pc' := 169) od4_168 rfl ?_
                refine C.stAI (i := j) A_b106 hj (by rw [tab.2.1]; exact ((Jvm.OwnP.lt_iff hj hr).mp c126)) g_b106 (pc' := 170) od4_169 rfl (fun h169 X169 B169 => ?_)
                replace E_a := E_a.wr X169
                replace A_b := A_b.other X169 ne_b_b106
                replace A_b11 := A_b11.other X169 ne_b11_b106
                replace F_a_prefixBits := F_a_prefixBits.other X169 (Or.inl ne_a_b106)
                replace F_a_prefixMask := F_a_prefixMask.other X169 (Or.inl ne_a_b106)
                replace F_a_toTop := F_a_toTop.other X169 (Or.inl ne_a_b106)
                replace F_a_toBottom := F_a_toBottom.other X169 (Or.inl ne_a_b106)
                replace A_b114 := A_b114.other X169 (Ne.symm ne_b106_b114)
                replace F_a_toPlace := F_a_toPlace.other X169 (Or.inl ne_a_b106)
                replace A_b98 := A_b98.other X169 ne_b98_b106
                have A_b106 : AI Z h169 b106 (B.set j ((64 : Int32) - v142)) := B169
                replace K := K.wr X169 (Or.inr sz_b106)
                refine C.aloadN (pc' := 171) od4_170 rfl rfl rfl ?_
                refine C.getf (ow31 hw) Via.refl F_a_toPlace (pc' := 174) od4_171 rfl ?_
                refine C.iload (pc' := 176) od4_174 rfl rfl ?_
                refine C.bipush (v := 64) (pc' := 178) od4_176 rfl rfl ?_
                refine C.aload (pc' := 180) od4_178 rfl rfl rfl ?_
                refine C.iload (pc' := 182) od4_180 rfl rfl ?_
                refine C.ldAI (i := j) (v := (S2.getD j 0)) A_b11 hj (Jvm.OwnP.getD_some (by have := ((Jvm.OwnP.lt_iff hj hr).mp c126); have := inv2.2.2.1; rw [inv2.1]; omega)) (pc' := 183) od4_182 rfl ?_
                refine C.isub (pc' := 184) od4_183 rfl ?_
                refine C.iload (pc' := 186) od4_184 rfl rfl ?_
                refine C.isub (pc' := 187) od4_186 rfl ?_
                refine C.stAI (i := j) A_b114 hj (by rw [tab.2.2.1]; exact ((Jvm.OwnP.lt_iff hj hr).mp c126)) g_b114 (pc' := 188) od4_187 rfl (fun h187 X187 B187 => ?_)
                replace E_a := E_a.wr X187
                replace A_b := A_b.other X187 ne_b_b114
                replace A_b11 := A_b11.other X187 ne_b11_b114
                replace F_a_prefixBits := F_a_prefixBits.other X187 (Or.inl ne_a_b114)
                replace F_a_prefixMask := F_a_prefixMask.other X187 (Or.inl ne_a_b114)
                replace F_a_toTop := F_a_toTop.other X187 (Or.inl ne_a_b114)
                replace F_a_toBottom := F_a_toBottom.other X187 (Or.inl ne_a_b114)
                replace F_a_toPlace := F_a_toPlace.other X187 (Or.inl ne_a_b114)
                replace A_b98 := A_b98.other X187 ne_b98_b114
                replace A_b106 := A_b106.other X187 ne_b106_b114
                have A_b114 : AI Z h187 b114 (Q.set j (((64 : Int32) - (S2.getD j 0)) - v142)) := B187
                replace K := K.wr X187 (Or.inr sz_b114)
                refine C.iinc (d := 1) (f := fun v_ => #[.val (.ref a), .val (.ref b), .val (.int p), .val (.long (maskL O Pn)), .second, .val (.int rv), .val (.ref b11), .val (.int v_), .val (.int v142)]) (pc' := 191) od4_188 rfl rfl rfl (fun _ => rfl) (fun v188 e188 => ?_)
                refine C.goto (pc' := 122) od4_191 rfl ?_
                exact ih (fu - 1) (by have := ((Jvm.OwnP.lt_iff hj hr).mp c126); omega) _ (j + 1) _ _ _ _ _ (by have := ((Jvm.OwnP.lt_iff hj hr).mp c126); omega) (Jvm.OwnP.inc_toInt hj (by have := ((Jvm.OwnP.lt_iff hj hr).mp c126); have := inv2.2.2.1; omega) e188) (tab_step hok inv2 ((Jvm.OwnP.lt_iff hj hr).mp c126) tab e142) (Or.inr ⟨_, rfl⟩) K E_a A_b A_b11 F_a_prefixBits F_a_prefixMask A_b98 F_a_toTop A_b106 F_a_toBottom A_b114 F_a_toPlace
        exact lp122 r _ 0 _ _ _ _ _ (by omega) rfl tab_zero (Or.inl rfl) K E_a A_b A_b11 F_a_prefixBits F_a_prefixMask A_b98 F_a_toTop A_b106 F_a_toBottom A_b114 F_a_toPlace
      · skip
        refine C.iload (pc' := 27) od4_25 rfl rfl ?_
        refine C.iloadN (pc' := 28) od4_27 rfl rfl ?_
        refine C.icmp_ge (pc' := 31) (pt := 42) od4_28 rfl rfl (fun c28 => ?_) (fun c28 => ?_)
        · skip
          refine C.iload (pc' := 44) od4_42 rfl rfl ?_
          refine C.if_eq (pc' := 47) (pt := 62) od4_44 rfl rfl (fun c44 => ?_) (fun c44 => ?_)
          · skip
            refine C.aload (pc' := 64) od4_62 rfl rfl rfl ?_
            refine C.iload (pc' := 66) od4_64 rfl rfl ?_
            refine C.iload (pc' := 68) od4_66 rfl rfl ?_
            refine C.stAI (i := r) A_b11 hr (by have := ((Jvm.OwnP.lt_iff hi (show (64 : Int32).toInt = ((64 : Nat) : Int) from by decide)).mp c22); have := inv.2.1; rw [inv.1]; omega) g_b11 (pc' := 69) od4_68 rfl (fun h68 X68 B68 => ?_)
            replace E_a := E_a.wr X68
            replace F_a_prefixBits := F_a_prefixBits.other X68 (Or.inl ne_a_b11)
            replace F_a_prefixMask := F_a_prefixMask.other X68 (Or.inl ne_a_b11)
            replace F_a_toTop := F_a_toTop.other X68 (Or.inl ne_a_b11)
            replace F_a_toBottom := F_a_toBottom.other X68 (Or.inl ne_a_b11)
            replace F_a_toPlace := F_a_toPlace.other X68 (Or.inl ne_a_b11)
            replace A_b := A_b.other X68 ne_b_b11
            have A_b11 : AI Z h68 b11 (S.set r iv) := B68
            replace K := K.wr X68 (Or.inr sz_b11)
            refine C.iinc (d := 1) (f := fun v_ => #[.val (.ref a), .val (.ref b), .val (.int p), .val (.long mk), .second, .val (.int v_), .val (.ref b11), .val (.int iv), .unset]) (pc' := 72) od4_69 rfl rfl rfl (fun _ => rfl) (fun v69 e69 => ?_)
            refine C.iinc (d := 1) (f := fun v_ => #[.val (.ref a), .val (.ref b), .val (.int p), .val (.long mk), .second, .val (.int v69), .val (.ref b11), .val (.int v_), .unset]) (pc' := 75) od4_72 rfl rfl rfl (fun _ => rfl) (fun v72 e72 => ?_)
            refine C.goto (pc' := 18) od4_75 rfl ?_
            exact ih (fu - 1) (by have := ((Jvm.OwnP.lt_iff hi (show (64 : Int32).toInt = ((64 : Nat) : Int) from by decide)).mp c22); omega) _ (i + 1) (r + 1) _ _ _ _ (by have := ((Jvm.OwnP.lt_iff hi (show (64 : Int32).toInt = ((64 : Nat) : Int) from by decide)).mp c22); omega) (Jvm.OwnP.inc_toInt hi (by have := ((Jvm.OwnP.lt_iff hi (show (64 : Int32).toInt = ((64 : Nat) : Int) from by decide)).mp c22); omega) e72) (Jvm.OwnP.inc_toInt hr (by have := inv.2.1; have := ((Jvm.OwnP.lt_iff hi (show (64 : Int32).toInt = ((64 : Nat) : Int) from by decide)).mp c22); omega) e69) (own_mk0 hm (fun q => c28 ((Jvm.OwnP.lt_iff hi hp).mpr q))) (inv1_add hi ((Jvm.OwnP.lt_iff hi (show (64 : Int32).toInt = ((64 : Nat) : Int) from by decide)).mp c22) inv) K E_a F_a_prefixBits F_a_prefixMask F_a_toTop F_a_toBottom F_a_toPlace A_b A_b11
          · skip
            refine C.aloadN (pc' := 48) od4_47 rfl rfl rfl ?_
            refine C.iload (pc' := 50) od4_48 rfl rfl ?_
            refine C.ldAI (i := i) (v := (O.getD i 0)) A_b hi (Jvm.OwnP.getD_some (by rw [hok.1]; exact ((Jvm.OwnP.lt_iff hi (show (64 : Int32).toInt = ((64 : Nat) : Int) from by decide)).mp c22))) (pc' := 51) od4_50 rfl ?_
            refine C.aloadN (pc' := 52) od4_51 rfl rfl rfl ?_
            refine C.iload (pc' := 54) od4_52 rfl rfl ?_
            refine C.iconst (v := 1) (pc' := 55) od4_54 rfl rfl ?_
            refine C.isub (pc' := 56) od4_55 rfl ?_
            refine C.ldAI (i := (i - 1)) (v := (O.getD (i - 1) 0)) A_b (own_dec hi (own_i0 hi c44)) (Jvm.OwnP.getD_some (by have := ((Jvm.OwnP.lt_iff hi (show (64 : Int32).toInt = ((64 : Nat) : Int) from by decide)).mp c22); rw [hok.1]; omega)) (pc' := 57) od4_56 rfl ?_
            refine C.iconst (v := 1) (pc' := 58) od4_57 rfl rfl ?_
            refine C.iadd (pc' := 59) od4_58 rfl ?_
            refine C.icmp_eq (pc' := 62) (pt := 72) od4_59 rfl rfl (fun c59 => ?_) (fun c59 => ?_)
            · skip
              refine C.iinc (d := 1) (f := fun v_ => #[.val (.ref a), .val (.ref b), .val (.int p), .val (.long mk), .second, .val (.int rv), .val (.ref b11), .val (.int v_), .unset]) (pc' := 75) od4_72 rfl rfl rfl (fun _ => rfl) (fun v72 e72 => ?_)
              refine C.goto (pc' := 18) od4_75 rfl ?_
              exact ih (fu - 1) (by have := ((Jvm.OwnP.lt_iff hi (show (64 : Int32).toInt = ((64 : Nat) : Int) from by decide)).mp c22); omega) _ (i + 1) r _ _ _ _ (by have := ((Jvm.OwnP.lt_iff hi (show (64 : Int32).toInt = ((64 : Nat) : Int) from by decide)).mp c22); omega) (Jvm.OwnP.inc_toInt hi (by have := ((Jvm.OwnP.lt_iff hi (show (64 : Int32).toInt = ((64 : Nat) : Int) from by decide)).mp c22); omega) e72) hr (own_mk0 hm (fun q => c28 ((Jvm.OwnP.lt_iff hi hp).mpr q))) (inv1_run hok ((Jvm.OwnP.lt_iff hi (show (64 : Int32).toInt = ((64 : Nat) : Int) from by decide)).mp c22) (own_i0 hi c44) (own_prev hi hok ((Jvm.OwnP.lt_iff hi (show (64 : Int32).toInt = ((64 : Nat) : Int) from by decide)).mp c22) (own_i0 hi c44) c59) inv) K E_a F_a_prefixBits F_a_prefixMask F_a_toTop F_a_toBottom F_a_toPlace A_b A_b11
            · skip
              refine C.aload (pc' := 64) od4_62 rfl rfl rfl ?_
              refine C.iload (pc' := 66) od4_64 rfl rfl ?_
              refine C.iload (pc' := 68) od4_66 rfl rfl ?_
              refine C.stAI (i := r) A_b11 hr (by have := ((Jvm.OwnP.lt_iff hi (show (64 : Int32).toInt = ((64 : Nat) : Int) from by decide)).mp c22); have := inv.2.1; rw [inv.1]; omega) g_b11 (pc' := 69) od4_68 rfl (fun h68 X68 B68 => ?_)
              replace E_a := E_a.wr X68
              replace F_a_prefixBits := F_a_prefixBits.other X68 (Or.inl ne_a_b11)
              replace F_a_prefixMask := F_a_prefixMask.other X68 (Or.inl ne_a_b11)
              replace F_a_toTop := F_a_toTop.other X68 (Or.inl ne_a_b11)
              replace F_a_toBottom := F_a_toBottom.other X68 (Or.inl ne_a_b11)
              replace F_a_toPlace := F_a_toPlace.other X68 (Or.inl ne_a_b11)
              replace A_b := A_b.other X68 ne_b_b11
              have A_b11 : AI Z h68 b11 (S.set r iv) := B68
              replace K := K.wr X68 (Or.inr sz_b11)
              refine C.iinc (d := 1) (f := fun v_ => #[.val (.ref a), .val (.ref b), .val (.int p), .val (.long mk), .second, .val (.int v_), .val (.ref b11), .val (.int iv), .unset]) (pc' := 72) od4_69 rfl rfl rfl (fun _ => rfl) (fun v69 e69 => ?_)
              refine C.iinc (d := 1) (f := fun v_ => #[.val (.ref a), .val (.ref b), .val (.int p), .val (.long mk), .second, .val (.int v69), .val (.ref b11), .val (.int v_), .unset]) (pc' := 75) od4_72 rfl rfl rfl (fun _ => rfl) (fun v72 e72 => ?_)
              refine C.goto (pc' := 18) od4_75 rfl ?_
              exact ih (fu - 1) (by have := ((Jvm.OwnP.lt_iff hi (show (64 : Int32).toInt = ((64 : Nat) : Int) from by decide)).mp c22); omega) _ (i + 1) (r + 1) _ _ _ _ (by have := ((Jvm.OwnP.lt_iff hi (show (64 : Int32).toInt = ((64 : Nat) : Int) from by decide)).mp c22); omega) (Jvm.OwnP.inc_toInt hi (by have := ((Jvm.OwnP.lt_iff hi (show (64 : Int32).toInt = ((64 : Nat) : Int) from by decide)).mp c22); omega) e72) (Jvm.OwnP.inc_toInt hr (by have := inv.2.1; have := ((Jvm.OwnP.lt_iff hi (show (64 : Int32).toInt = ((64 : Nat) : Int) from by decide)).mp c22); omega) e69) (own_mk0 hm (fun q => c28 ((Jvm.OwnP.lt_iff hi hp).mpr q))) (inv1_add hi ((Jvm.OwnP.lt_iff hi (show (64 : Int32).toInt = ((64 : Nat) : Int) from by decide)).mp c22) inv) K E_a F_a_prefixBits F_a_prefixMask F_a_toTop F_a_toBottom F_a_toPlace A_b A_b11
        · skip
          refine C.lloadN (pc' := 32) od4_31 rfl rfl ?_
          refine C.ldcJ (ow22 hw) (pc' := 35) od4_32 rfl ?_
          refine C.aloadN (pc' := 36) od4_35 rfl rfl rfl ?_
          refine C.iload (pc' := 38) od4_36 rfl rfl ?_
          refine C.ldAI (i := i) (v := (O.getD i 0)) A_b hi (Jvm.OwnP.getD_some (by rw [hok.1]; exact ((Jvm.OwnP.lt_iff hi (show (64 : Int32).toInt = ((64 : Nat) : Int) from by decide)).mp c22))) (pc' := 39) od4_38 rfl ?_
          refine C.lushr (pc' := 40) od4_39 rfl rfl ?_
          refine C.lor (pc' := 41) od4_40 rfl ?_
          refine C.lstoreN (f := fun v_ => #[.val (.ref a), .val (.ref b), .val (.int p), .val (.long v_), .second, .val (.int rv), .val (.ref b11), .val (.int iv), .unset]) (pc' := 42) od4_41 rfl (fun _ => rfl) (fun v41 e41 => ?_)
          refine C.iload (pc' := 44) od4_42 rfl rfl ?_
          refine C.if_eq (pc' := 47) (pt := 62) od4_44 rfl rfl (fun c44 => ?_) (fun c44 => ?_)
          · skip
            refine C.aload (pc' := 64) od4_62 rfl rfl rfl ?_
            refine C.iload (pc' := 66) od4_64 rfl rfl ?_
            refine C.iload (pc' := 68) od4_66 rfl rfl ?_
            refine C.stAI (i := r) A_b11 hr (by have := ((Jvm.OwnP.lt_iff hi (show (64 : Int32).toInt = ((64 : Nat) : Int) from by decide)).mp c22); have := inv.2.1; rw [inv.1]; omega) g_b11 (pc' := 69) od4_68 rfl (fun h68 X68 B68 => ?_)
            replace E_a := E_a.wr X68
            replace F_a_prefixBits := F_a_prefixBits.other X68 (Or.inl ne_a_b11)
            replace F_a_prefixMask := F_a_prefixMask.other X68 (Or.inl ne_a_b11)
            replace F_a_toTop := F_a_toTop.other X68 (Or.inl ne_a_b11)
            replace F_a_toBottom := F_a_toBottom.other X68 (Or.inl ne_a_b11)
            replace F_a_toPlace := F_a_toPlace.other X68 (Or.inl ne_a_b11)
            replace A_b := A_b.other X68 ne_b_b11
            have A_b11 : AI Z h68 b11 (S.set r iv) := B68
            replace K := K.wr X68 (Or.inr sz_b11)
            refine C.iinc (d := 1) (f := fun v_ => #[.val (.ref a), .val (.ref b), .val (.int p), .val (.long v41), .second, .val (.int v_), .val (.ref b11), .val (.int iv), .unset]) (pc' := 72) od4_69 rfl rfl rfl (fun _ => rfl) (fun v69 e69 => ?_)
            refine C.iinc (d := 1) (f := fun v_ => #[.val (.ref a), .val (.ref b), .val (.int p), .val (.long v41), .second, .val (.int v69), .val (.ref b11), .val (.int v_), .unset]) (pc' := 75) od4_72 rfl rfl rfl (fun _ => rfl) (fun v72 e72 => ?_)
            refine C.goto (pc' := 18) od4_75 rfl ?_
            exact ih (fu - 1) (by have := ((Jvm.OwnP.lt_iff hi (show (64 : Int32).toInt = ((64 : Nat) : Int) from by decide)).mp c22); omega) _ (i + 1) (r + 1) _ _ _ _ (by have := ((Jvm.OwnP.lt_iff hi (show (64 : Int32).toInt = ((64 : Nat) : Int) from by decide)).mp c22); omega) (Jvm.OwnP.inc_toInt hi (by have := ((Jvm.OwnP.lt_iff hi (show (64 : Int32).toInt = ((64 : Nat) : Int) from by decide)).mp c22); omega) e72) (Jvm.OwnP.inc_toInt hr (by have := inv.2.1; have := ((Jvm.OwnP.lt_iff hi (show (64 : Int32).toInt = ((64 : Nat) : Int) from by decide)).mp c22); omega) e69) (own_mk1 hm ((Jvm.OwnP.lt_iff hi hp).mp c28) e41) (inv1_add hi ((Jvm.OwnP.lt_iff hi (show (64 : Int32).toInt = ((64 : Nat) : Int) from by decide)).mp c22) inv) K E_a F_a_prefixBits F_a_prefixMask F_a_toTop F_a_toBottom F_a_toPlace A_b A_b11
          · skip
            refine C.aloadN (pc' := 48) od4_47 rfl rfl rfl ?_
            refine C.iload (pc' := 50) od4_48 rfl rfl ?_
            refine C.ldAI (i := i) (v := (O.getD i 0)) A_b hi (Jvm.OwnP.getD_some (by rw [hok.1]; exact ((Jvm.OwnP.lt_iff hi (show (64 : Int32).toInt = ((64 : Nat) : Int) from by decide)).mp c22))) (pc' := 51) od4_50 rfl ?_
            refine C.aloadN (pc' := 52) od4_51 rfl rfl rfl ?_
            refine C.iload (pc' := 54) od4_52 rfl rfl ?_
            refine C.iconst (v := 1) (pc' := 55) od4_54 rfl rfl ?_
            refine C.isub (pc' := 56) od4_55 rfl ?_
            refine C.ldAI (i := (i - 1)) (v := (O.getD (i - 1) 0)) A_b (own_dec hi (own_i0 hi c44)) (Jvm.OwnP.getD_some (by have := ((Jvm.OwnP.lt_iff hi (show (64 : Int32).toInt = ((64 : Nat) : Int) from by decide)).mp c22); rw [hok.1]; omega)) (pc' := 57) od4_56 rfl ?_
            refine C.iconst (v := 1) (pc' := 58) od4_57 rfl rfl ?_
            refine C.iadd (pc' := 59) od4_58 rfl ?_
            refine C.icmp_eq (pc' := 62) (pt := 72) od4_59 rfl rfl (fun c59 => ?_) (fun c59 => ?_)
            · skip
              refine C.iinc (d := 1) (f := fun v_ => #[.val (.ref a), .val (.ref b), .val (.int p), .val (.long v41), .second, .val (.int rv), .val (.ref b11), .val (.int v_), .unset]) (pc' := 75) od4_72 rfl rfl rfl (fun _ => rfl) (fun v72 e72 => ?_)
              refine C.goto (pc' := 18) od4_75 rfl ?_
              exact ih (fu - 1) (by have := ((Jvm.OwnP.lt_iff hi (show (64 : Int32).toInt = ((64 : Nat) : Int) from by decide)).mp c22); omega) _ (i + 1) r _ _ _ _ (by have := ((Jvm.OwnP.lt_iff hi (show (64 : Int32).toInt = ((64 : Nat) : Int) from by decide)).mp c22); omega) (Jvm.OwnP.inc_toInt hi (by have := ((Jvm.OwnP.lt_iff hi (show (64 : Int32).toInt = ((64 : Nat) : Int) from by decide)).mp c22); omega) e72) hr (own_mk1 hm ((Jvm.OwnP.lt_iff hi hp).mp c28) e41) (inv1_run hok ((Jvm.OwnP.lt_iff hi (show (64 : Int32).toInt = ((64 : Nat) : Int) from by decide)).mp c22) (own_i0 hi c44) (own_prev hi hok ((Jvm.OwnP.lt_iff hi (show (64 : Int32).toInt = ((64 : Nat) : Int) from by decide)).mp c22) (own_i0 hi c44) c59) inv) K E_a F_a_prefixBits F_a_prefixMask F_a_toTop F_a_toBottom F_a_toPlace A_b A_b11
            · skip
              refine C.aload (pc' := 64) od4_62 rfl rfl rfl ?_
              refine C.iload (pc' := 66) od4_64 rfl rfl ?_
              refine C.iload (pc' := 68) od4_66 rfl rfl ?_
              refine C.stAI (i := r) A_b11 hr (by have := ((Jvm.OwnP.lt_iff hi (show (64 : Int32).toInt = ((64 : Nat) : Int) from by decide)).mp c22); have := inv.2.1; rw [inv.1]; omega) g_b11 (pc' := 69) od4_68 rfl (fun h68 X68 B68 => ?_)
              replace E_a := E_a.wr X68
              replace F_a_prefixBits := F_a_prefixBits.other X68 (Or.inl ne_a_b11)
              replace F_a_prefixMask := F_a_prefixMask.other X68 (Or.inl ne_a_b11)
              replace F_a_toTop := F_a_toTop.other X68 (Or.inl ne_a_b11)
              replace F_a_toBottom := F_a_toBottom.other X68 (Or.inl ne_a_b11)
              replace F_a_toPlace := F_a_toPlace.other X68 (Or.inl ne_a_b11)
              replace A_b := A_b.other X68 ne_b_b11
              have A_b11 : AI Z h68 b11 (S.set r iv) := B68
              replace K := K.wr X68 (Or.inr sz_b11)
              refine C.iinc (d := 1) (f := fun v_ => #[.val (.ref a), .val (.ref b), .val (.int p), .val (.long v41), .second, .val (.int v_), .val (.ref b11), .val (.int iv), .unset]) (pc' := 72) od4_69 rfl rfl rfl (fun _ => rfl) (fun v69 e69 => ?_)
              refine C.iinc (d := 1) (f := fun v_ => #[.val (.ref a), .val (.ref b), .val (.int p), .val (.long v41), .second, .val (.int v69), .val (.ref b11), .val (.int v_), .unset]) (pc' := 75) od4_72 rfl rfl rfl (fun _ => rfl) (fun v72 e72 => ?_)
              refine C.goto (pc' := 18) od4_75 rfl ?_
              exact ih (fu - 1) (by have := ((Jvm.OwnP.lt_iff hi (show (64 : Int32).toInt = ((64 : Nat) : Int) from by decide)).mp c22); omega) _ (i + 1) (r + 1) _ _ _ _ (by have := ((Jvm.OwnP.lt_iff hi (show (64 : Int32).toInt = ((64 : Nat) : Int) from by decide)).mp c22); omega) (Jvm.OwnP.inc_toInt hi (by have := ((Jvm.OwnP.lt_iff hi (show (64 : Int32).toInt = ((64 : Nat) : Int) from by decide)).mp c22); omega) e72) (Jvm.OwnP.inc_toInt hr (by have := inv.2.1; have := ((Jvm.OwnP.lt_iff hi (show (64 : Int32).toInt = ((64 : Nat) : Int) from by decide)).mp c22); omega) e69) (own_mk1 hm ((Jvm.OwnP.lt_iff hi hp).mp c28) e41) (inv1_add hi ((Jvm.OwnP.lt_iff hi (show (64 : Int32).toInt = ((64 : Nat) : Int) from by decide)).mp c22) inv) K E_a F_a_prefixBits F_a_prefixMask F_a_toTop F_a_toBottom F_a_toPlace A_b A_b11
  exact lp18 64 _ 0 0 _ _ _ _ rfl rfl rfl (by rw [Nat.zero_min]; rfl) (inv1_zero O) K E_a F_a_prefixBits F_a_prefixMask F_a_toTop F_a_toBottom F_a_toPlace A_b A_b11
theorem od6_0 : decode prog_25_method_3_code 0 = .ok (.lconst 0, 1) := by decide +kernel
theorem od6_1 : decode prog_25_method_3_code 1 = .ok (.lstore_n 3, 1) := by decide +kernel
theorem od6_2 : decode prog_25_method_3_code 2 = .ok (.iconst 0, 1) := by decide +kernel
theorem od6_3 : decode prog_25_method_3_code 3 = .ok (.istore 5, 2) := by decide +kernel
theorem od6_5 : decode prog_25_method_3_code 5 = .ok (.iload 5, 2) := by decide +kernel
theorem od6_7 : decode prog_25_method_3_code 7 = .ok (.aload_n 0, 1) := by decide +kernel
theorem od6_8 : decode prog_25_method_3_code 8 = .ok (.getfield 23, 3) := by decide +kernel
theorem od6_11 : decode prog_25_method_3_code 11 = .ok (.arraylength, 1) := by decide +kernel
theorem od6_12 : decode prog_25_method_3_code 12 = .ok (.if_icmp .ge 37, 3) := by decide +kernel
theorem od6_49 : decode prog_25_method_3_code 49 = .ok (.lload_n 3, 1) := by decide +kernel
theorem od6_50 : decode prog_25_method_3_code 50 = .ok (.lreturn, 1) := by decide +kernel
theorem od6_15 : decode prog_25_method_3_code 15 = .ok (.lload_n 3, 1) := by decide +kernel
theorem od6_16 : decode prog_25_method_3_code 16 = .ok (.lload_n 1, 1) := by decide +kernel
theorem od6_17 : decode prog_25_method_3_code 17 = .ok (.aload_n 0, 1) := by decide +kernel
theorem od6_18 : decode prog_25_method_3_code 18 = .ok (.getfield 23, 3) := by decide +kernel
theorem od6_21 : decode prog_25_method_3_code 21 = .ok (.iload 5, 2) := by decide +kernel
theorem od6_23 : decode prog_25_method_3_code 23 = .ok (.iaload, 1) := by decide +kernel
theorem od6_24 : decode prog_25_method_3_code 24 = .ok (.lshl, 1) := by decide +kernel
theorem od6_25 : decode prog_25_method_3_code 25 = .ok (.aload_n 0, 1) := by decide +kernel
theorem od6_26 : decode prog_25_method_3_code 26 = .ok (.getfield 27, 3) := by decide +kernel
theorem od6_29 : decode prog_25_method_3_code 29 = .ok (.iload 5, 2) := by decide +kernel
theorem od6_31 : decode prog_25_method_3_code 31 = .ok (.iaload, 1) := by decide +kernel
theorem od6_32 : decode prog_25_method_3_code 32 = .ok (.lushr, 1) := by decide +kernel
theorem od6_33 : decode prog_25_method_3_code 33 = .ok (.aload_n 0, 1) := by decide +kernel
theorem od6_34 : decode prog_25_method_3_code 34 = .ok (.getfield 30, 3) := by decide +kernel
theorem od6_37 : decode prog_25_method_3_code 37 = .ok (.iload 5, 2) := by decide +kernel
theorem od6_39 : decode prog_25_method_3_code 39 = .ok (.iaload, 1) := by decide +kernel
theorem od6_40 : decode prog_25_method_3_code 40 = .ok (.lshl, 1) := by decide +kernel
theorem od6_41 : decode prog_25_method_3_code 41 = .ok (.lor, 1) := by decide +kernel
theorem od6_42 : decode prog_25_method_3_code 42 = .ok (.lstore_n 3, 1) := by decide +kernel
theorem od6_43 : decode prog_25_method_3_code 43 = .ok (.iinc 5 1, 3) := by decide +kernel
theorem od6_46 : decode prog_25_method_3_code 46 = .ok (.goto (-41), 3) := by decide +kernel
theorem ef_own_rm6 (m : MethodId) (x0 : Addr) (x1 : Int64) : entryFrame m #[(.ref x0), (.long x1)] 6 = mkF m 0 #[.val (.ref x0), .val (.long x1), .second, .unset, .unset, .unset] [] := by first | (simp [entryFrame, mkF, argsToLocals, Value.category]; done) | rfl
theorem pn_com_example_hyperplane_hyperplane_index_Table_permute__J_J : plainFor (⟨"com/example/hyperplane/hyperplane/index/Table", "permute", "(J)J"⟩ : MethodName) = true := plainFor_of_name (by first | (simp [plainName, overriddenIn]; done) | decide +kernel)
set_option maxRecDepth 65536 in
set_option maxHeartbeats 40000000 in
theorem own_rm6 (l : Launch) (Z : State) (a0 : Array Value) (hw : ∀ d ∈ tables_1, d.before a0 Z = true) (n0 : Nat) (hO : Heap) (a : Addr) (x : Int64) (tt : Addr) (tb : Addr) (tq : Addr) (O : List Int32) (T : List Int32) (B : List Int32) (Q : List Int32) (z : Int32) (F_a_toTop : Fld Z hO a "com/example/hyperplane/hyperplane/index/Table" "toTop" "[I" (.ref tt)) (F_a_toBottom : Fld Z hO a "com/example/hyperplane/hyperplane/index/Table" "toBottom" "[I" (.ref tb)) (F_a_toPlace : Fld Z hO a "com/example/hyperplane/hyperplane/index/Table" "toPlace" "[I" (.ref tq)) (A_tt : AI Z hO tt T) (A_tb : AI Z hO tb B) (A_tq : AI Z hO tq Q) (hok : OKL O) (tb0 : Tab O T B Q) (hz : z.toInt = (T.length : Int)) :
    MeetsW l Z n0 (⟨"com/example/hyperplane/hyperplane/index/Table", "permute", "(J)J"⟩ : MethodName) prog_25_method_3_code 6 (some .long) ({ frames := 0, cells := 0, slots := 0, locals := 0 } : Room) #[(.ref a), (.long x)] hO (RJ fun r h => Done O x r 64 ∧ h = hO) := by
  refine MeetsW.intro pn_com_example_hyperplane_hyperplane_index_Table_permute__J_J (fun m => ef_own_rm6 m a x) ?_
  intro W C
  replace C : Ru l Z "com/example/hyperplane/hyperplane/index/Table" prog_25_method_3_code 6 (some .long) "permute" ({ frames := 0, cells := 0, slots := 0, locals := 0 } : Room) n0 (RJ fun r h => Done O x r 64 ∧ h = hO) W := C
  obtain ⟨S, rn, inv2, tab⟩ := tb0
  refine C.lconst (v := 0) (pc' := 1) od6_0 rfl rfl ?_
  refine C.lstoreNX (l' := #[.val (.ref a), .val (.long x), .second, .val (.long (0 : Int64)), .second, .unset]) (pc' := 2) od6_1 rfl rfl ?_
  refine C.iconst (v := 0) (pc' := 3) od6_2 rfl rfl ?_
  refine C.istoreX (l' := #[.val (.ref a), .val (.long x), .second, .val (.long (0 : Int64)), .second, .val (.int (0 : Int32))]) (pc' := 5) od6_3 rfl rfl ?_
  have lp5 : ∀ (fu : Nat) (j : Nat) (jv : Int32) (res : Int64), (j + fu = rn) → (jv.toInt = (j : Int)) → (Done O x res (sv S j)) → W hO 0 0 5 #[.val (.ref a), .val (.long x), .second, .val (.long res), .second, .val (.int jv)] [] := by
    intro fu
    induction fu using Nat.strongRecOn with
    | _ fu ih =>
      intro j jv res gf hj hd
      refine C.iload (pc' := 7) od6_5 rfl rfl ?_
      refine C.aloadN (pc' := 8) od6_7 rfl rfl rfl ?_
      refine C.getf (ow27 hw) Via.refl F_a_toTop (pc' := 11) od6_8 rfl ?_
      refine C.lenAI (z := z) A_tt hz (pc' := 12) od6_11 rfl ?_
      refine C.icmp_ge (pc' := 15) (pt := 49) od6_12 rfl rfl (fun c12 => ?_) (fun c12 => ?_)
      · skip
        refine C.lloadN (pc' := 50) od6_49 rfl rfl ?_
        refine C.retJ rfl od6_50 (by decide) (by decide) ⟨_, rfl, ?_⟩
        exact ⟨own_done inv2 tab hd gf (mt (Jvm.OwnP.lt_iff hj hz).mpr c12), rfl⟩
      · skip
        refine C.lloadN (pc' := 16) od6_15 rfl rfl ?_
        refine C.lloadN (pc' := 17) od6_16 rfl rfl ?_
        refine C.aloadN (pc' := 18) od6_17 rfl rfl rfl ?_
        refine C.getf (ow27 hw) Via.refl F_a_toTop (pc' := 21) od6_18 rfl ?_
        refine C.iload (pc' := 23) od6_21 rfl rfl ?_
        refine C.ldAI (i := j) (v := (T.getD j 0)) A_tt hj (Jvm.OwnP.getD_some (by have := ((Jvm.OwnP.lt_iff hj hz).mp c12); have := tab.1; rw [tab.1]; omega)) (pc' := 24) od6_23 rfl ?_
        refine C.lshl (pc' := 25) od6_24 rfl rfl ?_
        refine C.aloadN (pc' := 26) od6_25 rfl rfl rfl ?_
        refine C.getf (ow29 hw) Via.refl F_a_toBottom (pc' := 29) od6_26 rfl ?_
        refine C.iload (pc' := 31) od6_29 rfl rfl ?_
        refine C.ldAI (i := j) (v := (B.getD j 0)) A_tb hj (Jvm.OwnP.getD_some (by have := ((Jvm.OwnP.lt_iff hj hz).mp c12); have := tab.1; rw [tab.2.1]; omega)) (pc' := 32) od6_31 rfl ?_
        refine C.lushr (pc' := 33) od6_32 rfl rfl ?_
        refine C.aloadN (pc' := 34) od6_33 rfl rfl rfl ?_
        refine C.getf (ow31 hw) Via.refl F_a_toPlace (pc' := 37) od6_34 rfl ?_
        refine C.iload (pc' := 39) od6_37 rfl rfl ?_
        refine C.ldAI (i := j) (v := (Q.getD j 0)) A_tq hj (Jvm.OwnP.getD_some (by have := ((Jvm.OwnP.lt_iff hj hz).mp c12); have := tab.1; rw [tab.2.2.1]; omega)) (pc' := 40) od6_39 rfl ?_
        refine C.lshl (pc' := 41) od6_40 rfl rfl ?_
        refine C.lor (pc' := 42) od6_41 rfl ?_
        refine C.lstoreN (f := fun v_ => #[.val (.ref a), .val (.long x), .second, .val (.long v_), .second, .val (.int jv)]) (pc' := 43) od6_42 rfl (fun _ => rfl) (fun v42 e42 => ?_)
        refine C.iinc (d := 1) (f := fun v_ => #[.val (.ref a), .val (.long x), .second, .val (.long v42), .second, .val (.int v_)]) (pc' := 46) od6_43 rfl rfl rfl (fun _ => rfl) (fun v43 e43 => ?_)
        refine C.goto (pc' := 5) od6_46 rfl ?_
        exact ih (fu - 1) (by have := ((Jvm.OwnP.lt_iff hj hz).mp c12); have := tab.1; omega) (j + 1) _ _ (by have := ((Jvm.OwnP.lt_iff hj hz).mp c12); have := tab.1; omega) (Jvm.OwnP.inc_toInt hj (by have := ((Jvm.OwnP.lt_iff hj hz).mp c12); have := tab.1; have := inv2.2.2.1; omega) e43) (by rw [e42]; exact done_step inv2 tab (by rw [← tab.1]; exact ((Jvm.OwnP.lt_iff hj hz).mp c12)) hok hd) 
  exact lp5 rn 0 _ _ (by omega) rfl (by rw [inv2.2.2.2.1]; exact done_zero) 
theorem ow0 {a0 : Array Value} {Z : State} (hw : ∀ d ∈ tables_1, d.before a0 Z = true) : (Jvm.Cond.constant "com/example/hyperplane/hyperplane/index/TablePermutePinLaw" (7 : Nat) (2147483647 : Int32)).before a0 Z = true := hw _ (List.mem_of_getElem? (i := 0) rfl)
theorem pd__II_I : parseMethodDescriptor "(II)I" = some ⟨[.int, .int], some .int⟩ := by decide +kernel
theorem ow4 {a0 : Array Value} {Z : State} (hw : ∀ d ∈ tables_1, d.before a0 Z = true) : (Jvm.Cond.code ({ cls := "java/lang/Math", name := "min", desc := "(II)I" } : Jvm.MethodName) jdk_29_method_69_code (2 : Nat) (Option.some Jvm.ClassFile.FieldType.int)).before a0 Z = true := hw _ (List.mem_of_getElem? (i := 4) rfl)
theorem ow3 {a0 : Array Value} {Z : State} (hw : ∀ d ∈ tables_1, d.before a0 Z = true) : (Jvm.Cond.initialized "java/lang/Math").before a0 Z = true := hw _ (List.mem_of_getElem? (i := 3) rfl)
theorem ow1 {a0 : Array Value} {Z : State} (hw : ∀ d ∈ tables_1, d.before a0 Z = true) : (Jvm.Cond.methodLink "com/example/hyperplane/hyperplane/index/TablePermutePinLaw" (8 : Nat) ({ cls := "java/lang/Math", name := "min", desc := "(II)I" } : Jvm.MethodName)).before a0 Z = true := hw _ (List.mem_of_getElem? (i := 1) rfl)
theorem ow2 {a0 : Array Value} {Z : State} (hw : ∀ d ∈ tables_1, d.before a0 Z = true) : (Jvm.Cond.static ({ cls := "java/lang/Math", name := "min", desc := "(II)I" } : Jvm.MethodName)).before a0 Z = true := hw _ (List.mem_of_getElem? (i := 2) rfl)
theorem ow7 {a0 : Array Value} {Z : State} (hw : ∀ d ∈ tables_1, d.before a0 Z = true) : (Jvm.Cond.code ({ cls := "java/lang/Math", name := "max", desc := "(II)I" } : Jvm.MethodName) jdk_29_method_65_code (2 : Nat) (Option.some Jvm.ClassFile.FieldType.int)).before a0 Z = true := hw _ (List.mem_of_getElem? (i := 7) rfl)
theorem ow5 {a0 : Array Value} {Z : State} (hw : ∀ d ∈ tables_1, d.before a0 Z = true) : (Jvm.Cond.methodLink "com/example/hyperplane/hyperplane/index/TablePermutePinLaw" (14 : Nat) ({ cls := "java/lang/Math", name := "max", desc := "(II)I" } : Jvm.MethodName)).before a0 Z = true := hw _ (List.mem_of_getElem? (i := 5) rfl)
theorem ow6 {a0 : Array Value} {Z : State} (hw : ∀ d ∈ tables_1, d.before a0 Z = true) : (Jvm.Cond.static ({ cls := "java/lang/Math", name := "max", desc := "(II)I" } : Jvm.MethodName)).before a0 Z = true := hw _ (List.mem_of_getElem? (i := 6) rfl)
theorem pd__IIIIII_I : parseMethodDescriptor "(IIIIII)I" = some ⟨[.int, .int, .int, .int, .int, .int], some .int⟩ := by decide +kernel
theorem ow12 {a0 : Array Value} {Z : State} (hw : ∀ d ∈ tables_1, d.before a0 Z = true) : (Jvm.Cond.code ({ cls := "com/example/hyperplane/hyperplane/index/TablePermutePinLaw", name := "at", desc := "(IIIIII)I" } : Jvm.MethodName) method_2_code (8 : Nat) (Option.some Jvm.ClassFile.FieldType.int)).before a0 Z = true := hw _ (List.mem_of_getElem? (i := 12) rfl)
theorem ow11 {a0 : Array Value} {Z : State} (hw : ∀ d ∈ tables_1, d.before a0 Z = true) : (Jvm.Cond.initialized "com/example/hyperplane/hyperplane/index/TablePermutePinLaw").before a0 Z = true := hw _ (List.mem_of_getElem? (i := 11) rfl)
theorem ow9 {a0 : Array Value} {Z : State} (hw : ∀ d ∈ tables_1, d.before a0 Z = true) : (Jvm.Cond.methodLink "com/example/hyperplane/hyperplane/index/TablePermutePinLaw" (17 : Nat) ({ cls := "com/example/hyperplane/hyperplane/index/TablePermutePinLaw", name := "at", desc := "(IIIIII)I" } : Jvm.MethodName)).before a0 Z = true := hw _ (List.mem_of_getElem? (i := 9) rfl)
theorem ow10 {a0 : Array Value} {Z : State} (hw : ∀ d ∈ tables_1, d.before a0 Z = true) : (Jvm.Cond.static ({ cls := "com/example/hyperplane/hyperplane/index/TablePermutePinLaw", name := "at", desc := "(IIIIII)I" } : Jvm.MethodName)).before a0 Z = true := hw _ (List.mem_of_getElem? (i := 10) rfl)
theorem ow13 {a0 : Array Value} {Z : State} (hw : ∀ d ∈ tables_1, d.before a0 Z = true) : (Jvm.Cond.classLink "com/example/hyperplane/hyperplane/index/TablePermutePinLaw" (23 : Nat) "com/example/hyperplane/hyperplane/index/Table").before a0 Z = true := hw _ (List.mem_of_getElem? (i := 13) rfl)
theorem ow15 {a0 : Array Value} {Z : State} (hw : ∀ d ∈ tables_1, d.before a0 Z = true) : (Jvm.Cond.initialized "com/example/hyperplane/hyperplane/index/Table").before a0 Z = true := hw _ (List.mem_of_getElem? (i := 15) rfl)
theorem pd___II_V : parseMethodDescriptor "([II)V" = some ⟨[(.array .int), .int], none⟩ := by decide +kernel
theorem ow18 {a0 : Array Value} {Z : State} (hw : ∀ d ∈ tables_1, d.before a0 Z = true) : (Jvm.Cond.code ({ cls := "com/example/hyperplane/hyperplane/index/Table", name := "<init>", desc := "([II)V" } : Jvm.MethodName) prog_25_method_1_code (9 : Nat) (Option.none : Option Jvm.ClassFile.FieldType)).before a0 Z = true := hw _ (List.mem_of_getElem? (i := 18) rfl)
theorem ow16 {a0 : Array Value} {Z : State} (hw : ∀ d ∈ tables_1, d.before a0 Z = true) : (Jvm.Cond.methodLink "com/example/hyperplane/hyperplane/index/TablePermutePinLaw" (25 : Nat) ({ cls := "com/example/hyperplane/hyperplane/index/Table", name := "<init>", desc := "([II)V" } : Jvm.MethodName)).before a0 Z = true := hw _ (List.mem_of_getElem? (i := 16) rfl)
theorem ow17 {a0 : Array Value} {Z : State} (hw : ∀ d ∈ tables_1, d.before a0 Z = true) : (Jvm.Cond.instanceMethod ({ cls := "com/example/hyperplane/hyperplane/index/Table", name := "<init>", desc := "([II)V" } : Jvm.MethodName)).before a0 Z = true := hw _ (List.mem_of_getElem? (i := 17) rfl)
theorem pd__J_J : parseMethodDescriptor "(J)J" = some ⟨[.long], some .long⟩ := by decide +kernel
theorem ow37 {a0 : Array Value} {Z : State} (hw : ∀ d ∈ tables_1, d.before a0 Z = true) : (Jvm.Cond.code ({ cls := "com/example/hyperplane/hyperplane/index/Table", name := "permute", desc := "(J)J" } : Jvm.MethodName) prog_25_method_3_code (6 : Nat) (Option.some Jvm.ClassFile.FieldType.long)).before a0 Z = true := hw _ (List.mem_of_getElem? (i := 37) rfl)
theorem ow33 {a0 : Array Value} {Z : State} (hw : ∀ d ∈ tables_1, d.before a0 Z = true) : (Jvm.Cond.methodLink "com/example/hyperplane/hyperplane/index/TablePermutePinLaw" (28 : Nat) ({ cls := "com/example/hyperplane/hyperplane/index/Table", name := "permute", desc := "(J)J" } : Jvm.MethodName)).before a0 Z = true := hw _ (List.mem_of_getElem? (i := 33) rfl)
theorem ow34 {a0 : Array Value} {Z : State} (hw : ∀ d ∈ tables_1, d.before a0 Z = true) : (Jvm.Cond.declares ({ cls := "com/example/hyperplane/hyperplane/index/Table", name := "permute", desc := "(J)J" } : Jvm.MethodName)).before a0 Z = true := hw _ (List.mem_of_getElem? (i := 34) rfl)
theorem ow36 {a0 : Array Value} {Z : State} (hw : ∀ d ∈ tables_1, d.before a0 Z = true) : (Jvm.Cond.selects "com/example/hyperplane/hyperplane/index/Table" ({ cls := "com/example/hyperplane/hyperplane/index/Table", name := "permute", desc := "(J)J" } : Jvm.MethodName) ({ cls := "com/example/hyperplane/hyperplane/index/Table", name := "permute", desc := "(J)J" } : Jvm.MethodName)).before a0 Z = true := hw _ (List.mem_of_getElem? (i := 36) rfl)
theorem ow35 {a0 : Array Value} {Z : State} (hw : ∀ d ∈ tables_1, d.before a0 Z = true) : (Jvm.Cond.instanceMethod ({ cls := "com/example/hyperplane/hyperplane/index/Table", name := "permute", desc := "(J)J" } : Jvm.MethodName)).before a0 Z = true := hw _ (List.mem_of_getElem? (i := 35) rfl)
theorem ef_own_rm0 (m : MethodId) (x0 : Int64) (x1 : Int32) (x2 : Int32) (x3 : Int32) (x4 : Int32) (x5 : Int32) : entryFrame m #[(.long x0), (.int x1), (.int x2), (.int x3), (.int x4), (.int x5)] maxLocals = mkF m 0 #[.val (.long x0), .second, .val (.int x1), .val (.int x2), .val (.int x3), .val (.int x4), .val (.int x5), .unset, .unset, .unset, .unset, .unset, .unset, .unset, .unset, .unset, .unset, .unset, .unset] [] := by first | (simp [entryFrame, mkF, argsToLocals, Value.category, maxLocals]; done) | rfl
theorem pn_com_example_hyperplane_hyperplane_index_TablePermutePinLaw_law__JIIIII_Z : plainFor (⟨"com/example/hyperplane/hyperplane/index/TablePermutePinLaw", "law", "(JIIIII)Z"⟩ : MethodName) = true := plainFor_of_name (by first | (simp [plainName, overriddenIn]; done) | decide +kernel)
set_option maxRecDepth 65536 in
set_option maxHeartbeats 40000000 in
theorem own_rm0 (l : Launch) (Z : State) (a0 : Array Value) (hw : ∀ d ∈ tables_1, d.before a0 Z = true) (n0 : Nat) (hO : Heap) (p1 : Int64) (p2 : Int32) (p3 : Int32) (p4 : Int32) (p5 : Int32) (p6 : Int32) (Z0 : n0 ≤ hO.size) :
    MeetsW l Z n0 x code maxLocals ret room_1 #[(.long p1), (.int p2), (.int p3), (.int p4), (.int p5), (.int p6)] hO (RI fun r h => r = 1) := by
  refine MeetsW.intro (show plainFor x = true from pn_com_example_hyperplane_hyperplane_index_TablePermutePinLaw_law__JIIIII_Z) (fun m => ef_own_rm0 m p1 p2 p3 p4 p5 p6) ?_
  intro W C
  replace C : Ru l Z "com/example/hyperplane/hyperplane/index/TablePermutePinLaw" code maxLocals ret "law" room_1 n0 (RI fun r h => r = 1) W := C
  have K : Keep hO hO [] := Keep.refl _ _
  refine C.iloadN (pc' := 1) at_0 rfl rfl ?_
  refine C.bipush (v := 6) (pc' := 3) at_1 rfl rfl ?_
  refine C.iushr (s := 6) (pc' := 4) at_3 rfl (by decide) ?_
  refine C.iconst (v := 1) (pc' := 5) at_4 rfl rfl ?_
  refine C.iand (pc' := 6) at_5 rfl ?_
  refine C.istore (f := fun v_ => #[.val (.long p1), .second, .val (.int p2), .val (.int p3), .val (.int p4), .val (.int p5), .val (.int p6), .val (.int v_), .unset, .unset, .unset, .unset, .unset, .unset, .unset, .unset, .unset, .unset, .unset]) (pc' := 8) at_6 rfl (fun _ => rfl) (fun v6 e6 => ?_)
  refine C.iloadN (pc' := 9) at_8 rfl rfl ?_
  refine C.iconst (v := 1) (pc' := 10) at_9 rfl rfl ?_
  refine C.ior (pc' := 11) at_10 rfl ?_
  refine C.bipush (v := 63) (pc' := 13) at_11 rfl rfl ?_
  refine C.iand (pc' := 14) at_13 rfl ?_
  refine C.istore (f := fun v_ => #[.val (.long p1), .second, .val (.int p2), .val (.int p3), .val (.int p4), .val (.int p5), .val (.int p6), .val (.int v6), .val (.int v_), .unset, .unset, .unset, .unset, .unset, .unset, .unset, .unset, .unset, .unset]) (pc' := 16) at_14 rfl (fun _ => rfl) (fun v14 e14 => ?_)
  refine C.iload (pc' := 18) at_16 rfl rfl ?_
  refine C.ldcI (ow0 hw) (pc' := 20) at_18 rfl ?_
  refine C.iand (pc' := 21) at_20 rfl ?_
  refine C.bipush (v := 65) (pc' := 23) at_21 rfl rfl ?_
  refine C.irem (pc' := 24) at_23 rfl (by decide) ?_
  refine C.istore (f := fun v_ => #[.val (.long p1), .second, .val (.int p2), .val (.int p3), .val (.int p4), .val (.int p5), .val (.int p6), .val (.int v6), .val (.int v14), .val (.int v_), .unset, .unset, .unset, .unset, .unset, .unset, .unset, .unset, .unset]) (pc' := 26) at_24 rfl (fun _ => rfl) (fun v24 e24 => ?_)
  refine C.iload (pc' := 28) at_26 rfl rfl ?_
  refine C.ldcI (ow0 hw) (pc' := 30) at_28 rfl ?_
  refine C.iand (pc' := 31) at_30 rfl ?_
  refine C.bipush (v := 65) (pc' := 33) at_31 rfl rfl ?_
  refine C.irem (pc' := 34) at_33 rfl (by decide) ?_
  refine C.istore (f := fun v_ => #[.val (.long p1), .second, .val (.int p2), .val (.int p3), .val (.int p4), .val (.int p5), .val (.int p6), .val (.int v6), .val (.int v14), .val (.int v24), .val (.int v_), .unset, .unset, .unset, .unset, .unset, .unset, .unset, .unset]) (pc' := 36) at_34 rfl (fun _ => rfl) (fun v34 e34 => ?_)
  refine C.iload (pc' := 38) at_36 rfl rfl ?_
  refine C.iload (pc' := 40) at_38 rfl rfl ?_
  refine C.calls (w := 0) (own_rm1 l Z a0 hw n0 hO v24 v34) (ow1 hw) (ow2 hw) (ow3 hw) (ow4 hw) (pc' := 43) at_40 rfl rfl rfl (by decide) pd__II_I rfl (by decide) (Nat.le_of_eq rfl) (by decide) (by decide) (by decide) (kIe ?_)
  refine C.istore (f := fun v_ => #[.val (.long p1), .second, .val (.int p2), .val (.int p3), .val (.int p4), .val (.int p5), .val (.int p6), .val (.int v6), .val (.int v14), .val (.int v24), .val (.int v34), .val (.int v_), .unset, .unset, .unset, .unset, .unset, .unset, .unset]) (pc' := 45) at_43 rfl (fun _ => rfl) (fun v43 e43 => ?_)
  refine C.iload (pc' := 47) at_45 rfl rfl ?_
  refine C.iload (pc' := 49) at_47 rfl rfl ?_
  refine C.calls (w := 0) (own_rm2 l Z a0 hw n0 hO v24 v34) (ow5 hw) (ow6 hw) (ow3 hw) (ow7 hw) (pc' := 52) at_49 rfl rfl rfl (by decide) pd__II_I rfl (by decide) (Nat.le_of_eq rfl) (by decide) (by decide) (by decide) (kIe ?_)
  refine C.istore (f := fun v_ => #[.val (.long p1), .second, .val (.int p2), .val (.int p3), .val (.int p4), .val (.int p5), .val (.int p6), .val (.int v6), .val (.int v14), .val (.int v24), .val (.int v34), .val (.int v43), .val (.int v_), .unset, .unset, .unset, .unset, .unset, .unset]) (pc' := 54) at_52 rfl (fun _ => rfl) (fun v52 e52 => ?_)
  refine C.bipush (v := 64) (pc' := 56) at_54 rfl rfl ?_
  refine C.newAI (N := 64) (cap := 64) (ow8 hw) (pc' := 58) at_56 rfl (by decide) (by decide) (by decide) (by decide) (by decide) (fun h56 b56 hb56 X56 A_b56 => ?_)
  have sz_b56 : hO.size ≤ b56 := by rw [hb56]; exact K.1
  have g_b56 : n0 ≤ b56 := Nat.le_trans Z0 sz_b56
  replace K := K.ext X56
  obtain ⟨L0, eL0⟩ : ∃ L, L = List.replicate 64 (0 : Int32) := ⟨_, rfl⟩
  rw [← eL0] at A_b56
  have FL0 : Fill (fun q => aF (Int32.ofNat q) v6 v14 p4 v43 v52) 0 L0 := by rw [eL0]; exact fill0 _
  refine C.astore (l' := #[.val (.long p1), .second, .val (.int p2), .val (.int p3), .val (.int p4), .val (.int p5), .val (.int p6), .val (.int v6), .val (.int v14), .val (.int v24), .val (.int v34), .val (.int v43), .val (.int v52), .val (.ref b56), .unset, .unset, .unset, .unset, .unset]) (pc' := 60) at_58 rfl rfl rfl ?_
  refine C.aload (pc' := 62) at_60 rfl rfl rfl ?_
  refine C.iconst (v := 0) (pc' := 63) at_62 rfl rfl ?_
  refine C.iconst (v := 0) (pc' := 64) at_63 rfl rfl ?_
  refine C.iload (pc' := 66) at_64 rfl rfl ?_
  refine C.iload (pc' := 68) at_66 rfl rfl ?_
  refine C.iload (pc' := 70) at_68 rfl rfl ?_
  refine C.iload (pc' := 72) at_70 rfl rfl ?_
  refine C.iload (pc' := 74) at_72 rfl rfl ?_
  refine C.calls (w := 2) (own_rm3 l Z a0 hw n0 h56 (0 : Int32) v6 v14 p4 v43 v52) (ow9 hw) (ow10 hw) (ow11 hw) (ow12 hw) (pc' := 77) at_74 rfl rfl rfl (by decide) pd__IIIIII_I rfl (by decide) (Nat.le_of_eq rfl) (by decide) (by decide) (by decide) (kIe ?_)
  refine C.stAI (i := 0) A_b56 (by decide) (by rw [FL0.1]; decide) g_b56 (pc' := 78) at_77 rfl (fun h77 X77 B77 => ?_)
  have A_b56 : AI Z h77 b56 (L0.set 0 (aF (0 : Int32) v6 v14 p4 v43 v52)) := B77
  replace K := K.wr X77 (Or.inr sz_b56)
  obtain ⟨L1, eL1⟩ : ∃ L, L = (L0.set 0 (aF (0 : Int32) v6 v14 p4 v43 v52)) := ⟨_, rfl⟩
  rw [← eL1] at A_b56
  have FL1 : Fill (fun q => aF (Int32.ofNat q) v6 v14 p4 v43 v52) 1 L1 := by rw [eL1]; exact fillS FL0 (by decide) rfl
  refine C.aload (pc' := 80) at_78 rfl rfl rfl ?_
  refine C.iconst (v := 1) (pc' := 81) at_80 rfl rfl ?_
  refine C.iconst (v := 1) (pc' := 82) at_81 rfl rfl ?_
  refine C.iload (pc' := 84) at_82 rfl rfl ?_
  refine C.iload (pc' := 86) at_84 rfl rfl ?_
  refine C.iload (pc' := 88) at_86 rfl rfl ?_
  refine C.iload (pc' := 90) at_88 rfl rfl ?_
  refine C.iload (pc' := 92) at_90 rfl rfl ?_
  refine C.calls (w := 2) (own_rm3 l Z a0 hw n0 h77 (1 : Int32) v6 v14 p4 v43 v52) (ow9 hw) (ow10 hw) (ow11 hw) (ow12 hw) (pc' := 95) at_92 rfl rfl rfl (by decide) pd__IIIIII_I rfl (by decide) (Nat.le_of_eq rfl) (by decide) (by decide) (by decide) (kIe ?_)
  refine C.stAI (i := 1) A_b56 (by decide) (by rw [FL1.1]; decide) g_b56 (pc' := 96) at_95 rfl (fun h95 X95 B95 => ?_)
  have A_b56 : AI Z h95 b56 (L1.set 1 (aF (1 : Int32) v6 v14 p4 v43 v52)) := B95
  replace K := K.wr X95 (Or.inr sz_b56)
  obtain ⟨L2, eL2⟩ : ∃ L, L = (L1.set 1 (aF (1 : Int32) v6 v14 p4 v43 v52)) := ⟨_, rfl⟩
  rw [← eL2] at A_b56
  have FL2 : Fill (fun q => aF (Int32.ofNat q) v6 v14 p4 v43 v52) 2 L2 := by rw [eL2]; exact fillS FL1 (by decide) rfl
  refine C.aload (pc' := 98) at_96 rfl rfl rfl ?_
  refine C.iconst (v := 2) (pc' := 99) at_98 rfl rfl ?_
  refine C.iconst (v := 2) (pc' := 100) at_99 rfl rfl ?_
  refine C.iload (pc' := 102) at_100 rfl rfl ?_
  refine C.iload (pc' := 104) at_102 rfl rfl ?_
  refine C.iload (pc' := 106) at_104 rfl rfl ?_
  refine C.iload (pc' := 108) at_106 rfl rfl ?_
  refine C.iload (pc' := 110) at_108 rfl rfl ?_
  refine C.calls (w := 2) (own_rm3 l Z a0 hw n0 h95 (2 : Int32) v6 v14 p4 v43 v52) (ow9 hw) (ow10 hw) (ow11 hw) (ow12 hw) (pc' := 113) at_110 rfl rfl rfl (by decide) pd__IIIIII_I rfl (by decide) (Nat.le_of_eq rfl) (by decide) (by decide) (by decide) (kIe ?_)
  refine C.stAI (i := 2) A_b56 (by decide) (by rw [FL2.1]; decide) g_b56 (pc' := 114) at_113 rfl (fun h113 X113 B113 => ?_)
  have A_b56 : AI Z h113 b56 (L2.set 2 (aF (2 : Int32) v6 v14 p4 v43 v52)) := B113
  replace K := K.wr X113 (Or.inr sz_b56)
  obtain ⟨L3, eL3⟩ : ∃ L, L = (L2.set 2 (aF (2 : Int32) v6 v14 p4 v43 v52)) := ⟨_, rfl⟩
  rw [← eL3] at A_b56
  have FL3 : Fill (fun q => aF (Int32.ofNat q) v6 v14 p4 v43 v52) 3 L3 := by rw [eL3]; exact fillS FL2 (by decide) rfl
  refine C.aload (pc' := 116) at_114 rfl rfl rfl ?_
  refine C.iconst (v := 3) (pc' := 117) at_116 rfl rfl ?_
  refine C.iconst (v := 3) (pc' := 118) at_117 rfl rfl ?_
  refine C.iload (pc' := 120) at_118 rfl rfl ?_
  refine C.iload (pc' := 122) at_120 rfl rfl ?_
  refine C.iload (pc' := 124) at_122 rfl rfl ?_
  refine C.iload (pc' := 126) at_124 rfl rfl ?_
  refine C.iload (pc' := 128) at_126 rfl rfl ?_
  refine C.calls (w := 2) (own_rm3 l Z a0 hw n0 h113 (3 : Int32) v6 v14 p4 v43 v52) (ow9 hw) (ow10 hw) (ow11 hw) (ow12 hw) (pc' := 131) at_128 rfl rfl rfl (by decide) pd__IIIIII_I rfl (by decide) (Nat.le_of_eq rfl) (by decide) (by decide) (by decide) (kIe ?_)
  refine C.stAI (i := 3) A_b56 (by decide) (by rw [FL3.1]; decide) g_b56 (pc' := 132) at_131 rfl (fun h131 X131 B131 => ?_)
  have A_b56 : AI Z h131 b56 (L3.set 3 (aF (3 : Int32) v6 v14 p4 v43 v52)) := B131
  replace K := K.wr X131 (Or.inr sz_b56)
  obtain ⟨L4, eL4⟩ : ∃ L, L = (L3.set 3 (aF (3 : Int32) v6 v14 p4 v43 v52)) := ⟨_, rfl⟩
  rw [← eL4] at A_b56
  have FL4 : Fill (fun q => aF (Int32.ofNat q) v6 v14 p4 v43 v52) 4 L4 := by rw [eL4]; exact fillS FL3 (by decide) rfl
  refine C.aload (pc' := 134) at_132 rfl rfl rfl ?_
  refine C.iconst (v := 4) (pc' := 135) at_134 rfl rfl ?_
  refine C.iconst (v := 4) (pc' := 136) at_135 rfl rfl ?_
  refine C.iload (pc' := 138) at_136 rfl rfl ?_
  refine C.iload (pc' := 140) at_138 rfl rfl ?_
  refine C.iload (pc' := 142) at_140 rfl rfl ?_
  refine C.iload (pc' := 144) at_142 rfl rfl ?_
  refine C.iload (pc' := 146) at_144 rfl rfl ?_
  refine C.calls (w := 2) (own_rm3 l Z a0 hw n0 h131 (4 : Int32) v6 v14 p4 v43 v52) (ow9 hw) (ow10 hw) (ow11 hw) (ow12 hw) (pc' := 149) at_146 rfl rfl rfl (by decide) pd__IIIIII_I rfl (by decide) (Nat.le_of_eq rfl) (by decide) (by decide) (by decide) (kIe ?_)
  refine C.stAI (i := 4) A_b56 (by decide) (by rw [FL4.1]; decide) g_b56 (pc' := 150) at_149 rfl (fun h149 X149 B149 => ?_)
  have A_b56 : AI Z h149 b56 (L4.set 4 (aF (4 : Int32) v6 v14 p4 v43 v52)) := B149
  replace K := K.wr X149 (Or.inr sz_b56)
  obtain ⟨L5, eL5⟩ : ∃ L, L = (L4.set 4 (aF (4 : Int32) v6 v14 p4 v43 v52)) := ⟨_, rfl⟩
  rw [← eL5] at A_b56
  have FL5 : Fill (fun q => aF (Int32.ofNat q) v6 v14 p4 v43 v52) 5 L5 := by rw [eL5]; exact fillS FL4 (by decide) rfl
  refine C.aload (pc' := 152) at_150 rfl rfl rfl ?_
  refine C.iconst (v := 5) (pc' := 153) at_152 rfl rfl ?_
  refine C.iconst (v := 5) (pc' := 154) at_153 rfl rfl ?_
  refine C.iload (pc' := 156) at_154 rfl rfl ?_
  refine C.iload (pc' := 158) at_156 rfl rfl ?_
  refine C.iload (pc' := 160) at_158 rfl rfl ?_
  refine C.iload (pc' := 162) at_160 rfl rfl ?_
  refine C.iload (pc' := 164) at_162 rfl rfl ?_
  refine C.calls (w := 2) (own_rm3 l Z a0 hw n0 h149 (5 : Int32) v6 v14 p4 v43 v52) (ow9 hw) (ow10 hw) (ow11 hw) (ow12 hw) (pc' := 167) at_164 rfl rfl rfl (by decide) pd__IIIIII_I rfl (by decide) (Nat.le_of_eq rfl) (by decide) (by decide) (by decide) (kIe ?_)
  refine C.stAI (i := 5) A_b56 (by decide) (by rw [FL5.1]; decide) g_b56 (pc' := 168) at_167 rfl (fun h167 X167 B167 => ?_)
  have A_b56 : AI Z h167 b56 (L5.set 5 (aF (5 : Int32) v6 v14 p4 v43 v52)) := B167
  replace K := K.wr X167 (Or.inr sz_b56)
  obtain ⟨L6, eL6⟩ : ∃ L, L = (L5.set 5 (aF (5 : Int32) v6 v14 p4 v43 v52)) := ⟨_, rfl⟩
  rw [← eL6] at A_b56
  have FL6 : Fill (fun q => aF (Int32.ofNat q) v6 v14 p4 v43 v52) 6 L6 := by rw [eL6]; exact fillS FL5 (by decide) rfl
  refine C.aload (pc' := 170) at_168 rfl rfl rfl ?_
  refine C.bipush (v := 6) (pc' := 172) at_170 rfl rfl ?_
  refine C.bipush (v := 6) (pc' := 174) at_172 rfl rfl ?_
  refine C.iload (pc' := 176) at_174 rfl rfl ?_
  refine C.iload (pc' := 178) at_176 rfl rfl ?_
  refine C.iload (pc' := 180) at_178 rfl rfl ?_
  refine C.iload (pc' := 182) at_180 rfl rfl ?_
  refine C.iload (pc' := 184) at_182 rfl rfl ?_
  refine C.calls (w := 2) (own_rm3 l Z a0 hw n0 h167 (6 : Int32) v6 v14 p4 v43 v52) (ow9 hw) (ow10 hw) (ow11 hw) (ow12 hw) (pc' := 187) at_184 rfl rfl rfl (by decide) pd__IIIIII_I rfl (by decide) (Nat.le_of_eq rfl) (by decide) (by decide) (by decide) (kIe ?_)
  refine C.stAI (i := 6) A_b56 (by decide) (by rw [FL6.1]; decide) g_b56 (pc' := 188) at_187 rfl (fun h187 X187 B187 => ?_)
  have A_b56 : AI Z h187 b56 (L6.set 6 (aF (6 : Int32) v6 v14 p4 v43 v52)) := B187
  replace K := K.wr X187 (Or.inr sz_b56)
  obtain ⟨L7, eL7⟩ : ∃ L, L = (L6.set 6 (aF (6 : Int32) v6 v14 p4 v43 v52)) := ⟨_, rfl⟩
  rw [← eL7] at A_b56
  have FL7 : Fill (fun q => aF (Int32.ofNat q) v6 v14 p4 v43 v52) 7 L7 := by rw [eL7]; exact fillS FL6 (by decide) rfl
  refine C.aload (pc' := 190) at_188 rfl rfl rfl ?_
  refine C.bipush (v := 7) (pc' := 192) at_190 rfl rfl ?_
  refine C.bipush (v := 7) (pc' := 194) at_192 rfl rfl ?_
  refine C.iload (pc' := 196) at_194 rfl rfl ?_
  refine C.iload (pc' := 198) at_196 rfl rfl ?_
  refine C.iload (pc' := 200) at_198 rfl rfl ?_
  refine C.iload (pc' := 202) at_200 rfl rfl ?_
  refine C.iload (pc' := 204) at_202 rfl rfl ?_
  refine C.calls (w := 2) (own_rm3 l Z a0 hw n0 h187 (7 : Int32) v6 v14 p4 v43 v52) (ow9 hw) (ow10 hw) (ow11 hw) (ow12 hw) (pc' := 207) at_204 rfl rfl rfl (by decide) pd__IIIIII_I rfl (by decide) (Nat.le_of_eq rfl) (by decide) (by decide) (by decide) (kIe ?_)
  refine C.stAI (i := 7) A_b56 (by decide) (by rw [FL7.1]; decide) g_b56 (pc' := 208) at_207 rfl (fun h207 X207 B207 => ?_)
  have A_b56 : AI Z h207 b56 (L7.set 7 (aF (7 : Int32) v6 v14 p4 v43 v52)) := B207
  replace K := K.wr X207 (Or.inr sz_b56)
  obtain ⟨L8, eL8⟩ : ∃ L, L = (L7.set 7 (aF (7 : Int32) v6 v14 p4 v43 v52)) := ⟨_, rfl⟩
  rw [← eL8] at A_b56
  have FL8 : Fill (fun q => aF (Int32.ofNat q) v6 v14 p4 v43 v52) 8 L8 := by rw [eL8]; exact fillS FL7 (by decide) rfl
  refine C.aload (pc' := 210) at_208 rfl rfl rfl ?_
  refine C.bipush (v := 8) (pc' := 212) at_210 rfl rfl ?_
  refine C.bipush (v := 8) (pc' := 214) at_212 rfl rfl ?_
  refine C.iload (pc' := 216) at_214 rfl rfl ?_
  refine C.iload (pc' := 218) at_216 rfl rfl ?_
  refine C.iload (pc' := 220) at_218 rfl rfl ?_
  refine C.iload (pc' := 222) at_220 rfl rfl ?_
  refine C.iload (pc' := 224) at_222 rfl rfl ?_
  refine C.calls (w := 2) (own_rm3 l Z a0 hw n0 h207 (8 : Int32) v6 v14 p4 v43 v52) (ow9 hw) (ow10 hw) (ow11 hw) (ow12 hw) (pc' := 227) at_224 rfl rfl rfl (by decide) pd__IIIIII_I rfl (by decide) (Nat.le_of_eq rfl) (by decide) (by decide) (by decide) (kIe ?_)
  refine C.stAI (i := 8) A_b56 (by decide) (by rw [FL8.1]; decide) g_b56 (pc' := 228) at_227 rfl (fun h227 X227 B227 => ?_)
  have A_b56 : AI Z h227 b56 (L8.set 8 (aF (8 : Int32) v6 v14 p4 v43 v52)) := B227
  replace K := K.wr X227 (Or.inr sz_b56)
  obtain ⟨L9, eL9⟩ : ∃ L, L = (L8.set 8 (aF (8 : Int32) v6 v14 p4 v43 v52)) := ⟨_, rfl⟩
  rw [← eL9] at A_b56
  have FL9 : Fill (fun q => aF (Int32.ofNat q) v6 v14 p4 v43 v52) 9 L9 := by rw [eL9]; exact fillS FL8 (by decide) rfl
  refine C.aload (pc' := 230) at_228 rfl rfl rfl ?_
  refine C.bipush (v := 9) (pc' := 232) at_230 rfl rfl ?_
  refine C.bipush (v := 9) (pc' := 234) at_232 rfl rfl ?_
  refine C.iload (pc' := 236) at_234 rfl rfl ?_
  refine C.iload (pc' := 238) at_236 rfl rfl ?_
  refine C.iload (pc' := 240) at_238 rfl rfl ?_
  refine C.iload (pc' := 242) at_240 rfl rfl ?_
  refine C.iload (pc' := 244) at_242 rfl rfl ?_
  refine C.calls (w := 2) (own_rm3 l Z a0 hw n0 h227 (9 : Int32) v6 v14 p4 v43 v52) (ow9 hw) (ow10 hw) (ow11 hw) (ow12 hw) (pc' := 247) at_244 rfl rfl rfl (by decide) pd__IIIIII_I rfl (by decide) (Nat.le_of_eq rfl) (by decide) (by decide) (by decide) (kIe ?_)
  refine C.stAI (i := 9) A_b56 (by decide) (by rw [FL9.1]; decide) g_b56 (pc' := 248) at_247 rfl (fun h247 X247 B247 => ?_)
  have A_b56 : AI Z h247 b56 (L9.set 9 (aF (9 : Int32) v6 v14 p4 v43 v52)) := B247
  replace K := K.wr X247 (Or.inr sz_b56)
  obtain ⟨L10, eL10⟩ : ∃ L, L = (L9.set 9 (aF (9 : Int32) v6 v14 p4 v43 v52)) := ⟨_, rfl⟩
  rw [← eL10] at A_b56
  have FL10 : Fill (fun q => aF (Int32.ofNat q) v6 v14 p4 v43 v52) 10 L10 := by rw [eL10]; exact fillS FL9 (by decide) rfl
  refine C.aload (pc' := 250) at_248 rfl rfl rfl ?_
  refine C.bipush (v := 10) (pc' := 252) at_250 rfl rfl ?_
  refine C.bipush (v := 10) (pc' := 254) at_252 rfl rfl ?_
  refine C.iload (pc' := 256) at_254 rfl rfl ?_
  refine C.iload (pc' := 258) at_256 rfl rfl ?_
  refine C.iload (pc' := 260) at_258 rfl rfl ?_
  refine C.iload (pc' := 262) at_260 rfl rfl ?_
  refine C.iload (pc' := 264) at_262 rfl rfl ?_
  refine C.calls (w := 2) (own_rm3 l Z a0 hw n0 h247 (10 : Int32) v6 v14 p4 v43 v52) (ow9 hw) (ow10 hw) (ow11 hw) (ow12 hw) (pc' := 267) at_264 rfl rfl rfl (by decide) pd__IIIIII_I rfl (by decide) (Nat.le_of_eq rfl) (by decide) (by decide) (by decide) (kIe ?_)
  refine C.stAI (i := 10) A_b56 (by decide) (by rw [FL10.1]; decide) g_b56 (pc' := 268) at_267 rfl (fun h267 X267 B267 => ?_)
  have A_b56 : AI Z h267 b56 (L10.set 10 (aF (10 : Int32) v6 v14 p4 v43 v52)) := B267
  replace K := K.wr X267 (Or.inr sz_b56)
  obtain ⟨L11, eL11⟩ : ∃ L, L = (L10.set 10 (aF (10 : Int32) v6 v14 p4 v43 v52)) := ⟨_, rfl⟩
  rw [← eL11] at A_b56
  have FL11 : Fill (fun q => aF (Int32.ofNat q) v6 v14 p4 v43 v52) 11 L11 := by rw [eL11]; exact fillS FL10 (by decide) rfl
  refine C.aload (pc' := 270) at_268 rfl rfl rfl ?_
  refine C.bipush (v := 11) (pc' := 272) at_270 rfl rfl ?_
  refine C.bipush (v := 11) (pc' := 274) at_272 rfl rfl ?_
  refine C.iload (pc' := 276) at_274 rfl rfl ?_
  refine C.iload (pc' := 278) at_276 rfl rfl ?_
  refine C.iload (pc' := 280) at_278 rfl rfl ?_
  refine C.iload (pc' := 282) at_280 rfl rfl ?_
  refine C.iload (pc' := 284) at_282 rfl rfl ?_
  refine C.calls (w := 2) (own_rm3 l Z a0 hw n0 h267 (11 : Int32) v6 v14 p4 v43 v52) (ow9 hw) (ow10 hw) (ow11 hw) (ow12 hw) (pc' := 287) at_284 rfl rfl rfl (by decide) pd__IIIIII_I rfl (by decide) (Nat.le_of_eq rfl) (by decide) (by decide) (by decide) (kIe ?_)
  refine C.stAI (i := 11) A_b56 (by decide) (by rw [FL11.1]; decide) g_b56 (pc' := 288) at_287 rfl (fun h287 X287 B287 => ?_)
  have A_b56 : AI Z h287 b56 (L11.set 11 (aF (11 : Int32) v6 v14 p4 v43 v52)) := B287
  replace K := K.wr X287 (Or.inr sz_b56)
  obtain ⟨L12, eL12⟩ : ∃ L, L = (L11.set 11 (aF (11 : Int32) v6 v14 p4 v43 v52)) := ⟨_, rfl⟩
  rw [← eL12] at A_b56
  have FL12 : Fill (fun q => aF (Int32.ofNat q) v6 v14 p4 v43 v52) 12 L12 := by rw [eL12]; exact fillS FL11 (by decide) rfl
  refine C.aload (pc' := 290) at_288 rfl rfl rfl ?_
  refine C.bipush (v := 12) (pc' := 292) at_290 rfl rfl ?_
  refine C.bipush (v := 12) (pc' := 294) at_292 rfl rfl ?_
  refine C.iload (pc' := 296) at_294 rfl rfl ?_
  refine C.iload (pc' := 298) at_296 rfl rfl ?_
  refine C.iload (pc' := 300) at_298 rfl rfl ?_
  refine C.iload (pc' := 302) at_300 rfl rfl ?_
  refine C.iload (pc' := 304) at_302 rfl rfl ?_
  refine C.calls (w := 2) (own_rm3 l Z a0 hw n0 h287 (12 : Int32) v6 v14 p4 v43 v52) (ow9 hw) (ow10 hw) (ow11 hw) (ow12 hw) (pc' := 307) at_304 rfl rfl rfl (by decide) pd__IIIIII_I rfl (by decide) (Nat.le_of_eq rfl) (by decide) (by decide) (by decide) (kIe ?_)
  refine C.stAI (i := 12) A_b56 (by decide) (by rw [FL12.1]; decide) g_b56 (pc' := 308) at_307 rfl (fun h307 X307 B307 => ?_)
  have A_b56 : AI Z h307 b56 (L12.set 12 (aF (12 : Int32) v6 v14 p4 v43 v52)) := B307
  replace K := K.wr X307 (Or.inr sz_b56)
  obtain ⟨L13, eL13⟩ : ∃ L, L = (L12.set 12 (aF (12 : Int32) v6 v14 p4 v43 v52)) := ⟨_, rfl⟩
  rw [← eL13] at A_b56
  have FL13 : Fill (fun q => aF (Int32.ofNat q) v6 v14 p4 v43 v52) 13 L13 := by rw [eL13]; exact fillS FL12 (by decide) rfl
  refine C.aload (pc' := 310) at_308 rfl rfl rfl ?_
  refine C.bipush (v := 13) (pc' := 312) at_310 rfl rfl ?_
  refine C.bipush (v := 13) (pc' := 314) at_312 rfl rfl ?_
  refine C.iload (pc' := 316) at_314 rfl rfl ?_
  refine C.iload (pc' := 318) at_316 rfl rfl ?_
  refine C.iload (pc' := 320) at_318 rfl rfl ?_
  refine C.iload (pc' := 322) at_320 rfl rfl ?_
  refine C.iload (pc' := 324) at_322 rfl rfl ?_
  refine C.calls (w := 2) (own_rm3 l Z a0 hw n0 h307 (13 : Int32) v6 v14 p4 v43 v52) (ow9 hw) (ow10 hw) (ow11 hw) (ow12 hw) (pc' := 327) at_324 rfl rfl rfl (by decide) pd__IIIIII_I rfl (by decide) (Nat.le_of_eq rfl) (by decide) (by decide) (by decide) (kIe ?_)
  refine C.stAI (i := 13) A_b56 (by decide) (by rw [FL13.1]; decide) g_b56 (pc' := 328) at_327 rfl (fun h327 X327 B327 => ?_)
  have A_b56 : AI Z h327 b56 (L13.set 13 (aF (13 : Int32) v6 v14 p4 v43 v52)) := B327
  replace K := K.wr X327 (Or.inr sz_b56)
  obtain ⟨L14, eL14⟩ : ∃ L, L = (L13.set 13 (aF (13 : Int32) v6 v14 p4 v43 v52)) := ⟨_, rfl⟩
  rw [← eL14] at A_b56
  have FL14 : Fill (fun q => aF (Int32.ofNat q) v6 v14 p4 v43 v52) 14 L14 := by rw [eL14]; exact fillS FL13 (by decide) rfl
  refine C.aload (pc' := 330) at_328 rfl rfl rfl ?_
  refine C.bipush (v := 14) (pc' := 332) at_330 rfl rfl ?_
  refine C.bipush (v := 14) (pc' := 334) at_332 rfl rfl ?_
  refine C.iload (pc' := 336) at_334 rfl rfl ?_
  refine C.iload (pc' := 338) at_336 rfl rfl ?_
  refine C.iload (pc' := 340) at_338 rfl rfl ?_
  refine C.iload (pc' := 342) at_340 rfl rfl ?_
  refine C.iload (pc' := 344) at_342 rfl rfl ?_
  refine C.calls (w := 2) (own_rm3 l Z a0 hw n0 h327 (14 : Int32) v6 v14 p4 v43 v52) (ow9 hw) (ow10 hw) (ow11 hw) (ow12 hw) (pc' := 347) at_344 rfl rfl rfl (by decide) pd__IIIIII_I rfl (by decide) (Nat.le_of_eq rfl) (by decide) (by decide) (by decide) (kIe ?_)
  refine C.stAI (i := 14) A_b56 (by decide) (by rw [FL14.1]; decide) g_b56 (pc' := 348) at_347 rfl (fun h347 X347 B347 => ?_)
  have A_b56 : AI Z h347 b56 (L14.set 14 (aF (14 : Int32) v6 v14 p4 v43 v52)) := B347
  replace K := K.wr X347 (Or.inr sz_b56)
  obtain ⟨L15, eL15⟩ : ∃ L, L = (L14.set 14 (aF (14 : Int32) v6 v14 p4 v43 v52)) := ⟨_, rfl⟩
  rw [← eL15] at A_b56
  have FL15 : Fill (fun q => aF (Int32.ofNat q) v6 v14 p4 v43 v52) 15 L15 := by rw [eL15]; exact fillS FL14 (by decide) rfl
  refine C.aload (pc' := 350) at_348 rfl rfl rfl ?_
  refine C.bipush (v := 15) (pc' := 352) at_350 rfl rfl ?_
  refine C.bipush (v := 15) (pc' := 354) at_352 rfl rfl ?_
  refine C.iload (pc' := 356) at_354 rfl rfl ?_
  refine C.iload (pc' := 358) at_356 rfl rfl ?_
  refine C.iload (pc' := 360) at_358 rfl rfl ?_
  refine C.iload (pc' := 362) at_360 rfl rfl ?_
  refine C.iload (pc' := 364) at_362 rfl rfl ?_
  refine C.calls (w := 2) (own_rm3 l Z a0 hw n0 h347 (15 : Int32) v6 v14 p4 v43 v52) (ow9 hw) (ow10 hw) (ow11 hw) (ow12 hw) (pc' := 367) at_364 rfl rfl rfl (by decide) pd__IIIIII_I rfl (by decide) (Nat.le_of_eq rfl) (by decide) (by decide) (by decide) (kIe ?_)
  refine C.stAI (i := 15) A_b56 (by decide) (by rw [FL15.1]; decide) g_b56 (pc' := 368) at_367 rfl (fun h367 X367 B367 => ?_)
  have A_b56 : AI Z h367 b56 (L15.set 15 (aF (15 : Int32) v6 v14 p4 v43 v52)) := B367
  replace K := K.wr X367 (Or.inr sz_b56)
  obtain ⟨L16, eL16⟩ : ∃ L, L = (L15.set 15 (aF (15 : Int32) v6 v14 p4 v43 v52)) := ⟨_, rfl⟩
  rw [← eL16] at A_b56
  have FL16 : Fill (fun q => aF (Int32.ofNat q) v6 v14 p4 v43 v52) 16 L16 := by rw [eL16]; exact fillS FL15 (by decide) rfl
  refine C.aload (pc' := 370) at_368 rfl rfl rfl ?_
  refine C.bipush (v := 16) (pc' := 372) at_370 rfl rfl ?_
  refine C.bipush (v := 16) (pc' := 374) at_372 rfl rfl ?_
  refine C.iload (pc' := 376) at_374 rfl rfl ?_
  refine C.iload (pc' := 378) at_376 rfl rfl ?_
  refine C.iload (pc' := 380) at_378 rfl rfl ?_
  refine C.iload (pc' := 382) at_380 rfl rfl ?_
  refine C.iload (pc' := 384) at_382 rfl rfl ?_
  refine C.calls (w := 2) (own_rm3 l Z a0 hw n0 h367 (16 : Int32) v6 v14 p4 v43 v52) (ow9 hw) (ow10 hw) (ow11 hw) (ow12 hw) (pc' := 387) at_384 rfl rfl rfl (by decide) pd__IIIIII_I rfl (by decide) (Nat.le_of_eq rfl) (by decide) (by decide) (by decide) (kIe ?_)
  refine C.stAI (i := 16) A_b56 (by decide) (by rw [FL16.1]; decide) g_b56 (pc' := 388) at_387 rfl (fun h387 X387 B387 => ?_)
  have A_b56 : AI Z h387 b56 (L16.set 16 (aF (16 : Int32) v6 v14 p4 v43 v52)) := B387
  replace K := K.wr X387 (Or.inr sz_b56)
  obtain ⟨L17, eL17⟩ : ∃ L, L = (L16.set 16 (aF (16 : Int32) v6 v14 p4 v43 v52)) := ⟨_, rfl⟩
  rw [← eL17] at A_b56
  have FL17 : Fill (fun q => aF (Int32.ofNat q) v6 v14 p4 v43 v52) 17 L17 := by rw [eL17]; exact fillS FL16 (by decide) rfl
  refine C.aload (pc' := 390) at_388 rfl rfl rfl ?_
  refine C.bipush (v := 17) (pc' := 392) at_390 rfl rfl ?_
  refine C.bipush (v := 17) (pc' := 394) at_392 rfl rfl ?_
  refine C.iload (pc' := 396) at_394 rfl rfl ?_
  refine C.iload (pc' := 398) at_396 rfl rfl ?_
  refine C.iload (pc' := 400) at_398 rfl rfl ?_
  refine C.iload (pc' := 402) at_400 rfl rfl ?_
  refine C.iload (pc' := 404) at_402 rfl rfl ?_
  refine C.calls (w := 2) (own_rm3 l Z a0 hw n0 h387 (17 : Int32) v6 v14 p4 v43 v52) (ow9 hw) (ow10 hw) (ow11 hw) (ow12 hw) (pc' := 407) at_404 rfl rfl rfl (by decide) pd__IIIIII_I rfl (by decide) (Nat.le_of_eq rfl) (by decide) (by decide) (by decide) (kIe ?_)
  refine C.stAI (i := 17) A_b56 (by decide) (by rw [FL17.1]; decide) g_b56 (pc' := 408) at_407 rfl (fun h407 X407 B407 => ?_)
  have A_b56 : AI Z h407 b56 (L17.set 17 (aF (17 : Int32) v6 v14 p4 v43 v52)) := B407
  replace K := K.wr X407 (Or.inr sz_b56)
  obtain ⟨L18, eL18⟩ : ∃ L, L = (L17.set 17 (aF (17 : Int32) v6 v14 p4 v43 v52)) := ⟨_, rfl⟩
  rw [← eL18] at A_b56
  have FL18 : Fill (fun q => aF (Int32.ofNat q) v6 v14 p4 v43 v52) 18 L18 := by rw [eL18]; exact fillS FL17 (by decide) rfl
  refine C.aload (pc' := 410) at_408 rfl rfl rfl ?_
  refine C.bipush (v := 18) (pc' := 412) at_410 rfl rfl ?_
  refine C.bipush (v := 18) (pc' := 414) at_412 rfl rfl ?_
  refine C.iload (pc' := 416) at_414 rfl rfl ?_
  refine C.iload (pc' := 418) at_416 rfl rfl ?_
  refine C.iload (pc' := 420) at_418 rfl rfl ?_
  refine C.iload (pc' := 422) at_420 rfl rfl ?_
  refine C.iload (pc' := 424) at_422 rfl rfl ?_
  refine C.calls (w := 2) (own_rm3 l Z a0 hw n0 h407 (18 : Int32) v6 v14 p4 v43 v52) (ow9 hw) (ow10 hw) (ow11 hw) (ow12 hw) (pc' := 427) at_424 rfl rfl rfl (by decide) pd__IIIIII_I rfl (by decide) (Nat.le_of_eq rfl) (by decide) (by decide) (by decide) (kIe ?_)
  refine C.stAI (i := 18) A_b56 (by decide) (by rw [FL18.1]; decide) g_b56 (pc' := 428) at_427 rfl (fun h427 X427 B427 => ?_)
  have A_b56 : AI Z h427 b56 (L18.set 18 (aF (18 : Int32) v6 v14 p4 v43 v52)) := B427
  replace K := K.wr X427 (Or.inr sz_b56)
  obtain ⟨L19, eL19⟩ : ∃ L, L = (L18.set 18 (aF (18 : Int32) v6 v14 p4 v43 v52)) := ⟨_, rfl⟩
  rw [← eL19] at A_b56
  have FL19 : Fill (fun q => aF (Int32.ofNat q) v6 v14 p4 v43 v52) 19 L19 := by rw [eL19]; exact fillS FL18 (by decide) rfl
  refine C.aload (pc' := 430) at_428 rfl rfl rfl ?_
  refine C.bipush (v := 19) (pc' := 432) at_430 rfl rfl ?_
  refine C.bipush (v := 19) (pc' := 434) at_432 rfl rfl ?_
  refine C.iload (pc' := 436) at_434 rfl rfl ?_
  refine C.iload (pc' := 438) at_436 rfl rfl ?_
  refine C.iload (pc' := 440) at_438 rfl rfl ?_
  refine C.iload (pc' := 442) at_440 rfl rfl ?_
  refine C.iload (pc' := 444) at_442 rfl rfl ?_
  refine C.calls (w := 2) (own_rm3 l Z a0 hw n0 h427 (19 : Int32) v6 v14 p4 v43 v52) (ow9 hw) (ow10 hw) (ow11 hw) (ow12 hw) (pc' := 447) at_444 rfl rfl rfl (by decide) pd__IIIIII_I rfl (by decide) (Nat.le_of_eq rfl) (by decide) (by decide) (by decide) (kIe ?_)
  refine C.stAI (i := 19) A_b56 (by decide) (by rw [FL19.1]; decide) g_b56 (pc' := 448) at_447 rfl (fun h447 X447 B447 => ?_)
  have A_b56 : AI Z h447 b56 (L19.set 19 (aF (19 : Int32) v6 v14 p4 v43 v52)) := B447
  replace K := K.wr X447 (Or.inr sz_b56)
  obtain ⟨L20, eL20⟩ : ∃ L, L = (L19.set 19 (aF (19 : Int32) v6 v14 p4 v43 v52)) := ⟨_, rfl⟩
  rw [← eL20] at A_b56
  have FL20 : Fill (fun q => aF (Int32.ofNat q) v6 v14 p4 v43 v52) 20 L20 := by rw [eL20]; exact fillS FL19 (by decide) rfl
  refine C.aload (pc' := 450) at_448 rfl rfl rfl ?_
  refine C.bipush (v := 20) (pc' := 452) at_450 rfl rfl ?_
  refine C.bipush (v := 20) (pc' := 454) at_452 rfl rfl ?_
  refine C.iload (pc' := 456) at_454 rfl rfl ?_
  refine C.iload (pc' := 458) at_456 rfl rfl ?_
  refine C.iload (pc' := 460) at_458 rfl rfl ?_
  refine C.iload (pc' := 462) at_460 rfl rfl ?_
  refine C.iload (pc' := 464) at_462 rfl rfl ?_
  refine C.calls (w := 2) (own_rm3 l Z a0 hw n0 h447 (20 : Int32) v6 v14 p4 v43 v52) (ow9 hw) (ow10 hw) (ow11 hw) (ow12 hw) (pc' := 467) at_464 rfl rfl rfl (by decide) pd__IIIIII_I rfl (by decide) (Nat.le_of_eq rfl) (by decide) (by decide) (by decide) (kIe ?_)
  refine C.stAI (i := 20) A_b56 (by decide) (by rw [FL20.1]; decide) g_b56 (pc' := 468) at_467 rfl (fun h467 X467 B467 => ?_)
  have A_b56 : AI Z h467 b56 (L20.set 20 (aF (20 : Int32) v6 v14 p4 v43 v52)) := B467
  replace K := K.wr X467 (Or.inr sz_b56)
  obtain ⟨L21, eL21⟩ : ∃ L, L = (L20.set 20 (aF (20 : Int32) v6 v14 p4 v43 v52)) := ⟨_, rfl⟩
  rw [← eL21] at A_b56
  have FL21 : Fill (fun q => aF (Int32.ofNat q) v6 v14 p4 v43 v52) 21 L21 := by rw [eL21]; exact fillS FL20 (by decide) rfl
  refine C.aload (pc' := 470) at_468 rfl rfl rfl ?_
  refine C.bipush (v := 21) (pc' := 472) at_470 rfl rfl ?_
  refine C.bipush (v := 21) (pc' := 474) at_472 rfl rfl ?_
  refine C.iload (pc' := 476) at_474 rfl rfl ?_
  refine C.iload (pc' := 478) at_476 rfl rfl ?_
  refine C.iload (pc' := 480) at_478 rfl rfl ?_
  refine C.iload (pc' := 482) at_480 rfl rfl ?_
  refine C.iload (pc' := 484) at_482 rfl rfl ?_
  refine C.calls (w := 2) (own_rm3 l Z a0 hw n0 h467 (21 : Int32) v6 v14 p4 v43 v52) (ow9 hw) (ow10 hw) (ow11 hw) (ow12 hw) (pc' := 487) at_484 rfl rfl rfl (by decide) pd__IIIIII_I rfl (by decide) (Nat.le_of_eq rfl) (by decide) (by decide) (by decide) (kIe ?_)
  refine C.stAI (i := 21) A_b56 (by decide) (by rw [FL21.1]; decide) g_b56 (pc' := 488) at_487 rfl (fun h487 X487 B487 => ?_)
  have A_b56 : AI Z h487 b56 (L21.set 21 (aF (21 : Int32) v6 v14 p4 v43 v52)) := B487
  replace K := K.wr X487 (Or.inr sz_b56)
  obtain ⟨L22, eL22⟩ : ∃ L, L = (L21.set 21 (aF (21 : Int32) v6 v14 p4 v43 v52)) := ⟨_, rfl⟩
  rw [← eL22] at A_b56
  have FL22 : Fill (fun q => aF (Int32.ofNat q) v6 v14 p4 v43 v52) 22 L22 := by rw [eL22]; exact fillS FL21 (by decide) rfl
  refine C.aload (pc' := 490) at_488 rfl rfl rfl ?_
  refine C.bipush (v := 22) (pc' := 492) at_490 rfl rfl ?_
  refine C.bipush (v := 22) (pc' := 494) at_492 rfl rfl ?_
  refine C.iload (pc' := 496) at_494 rfl rfl ?_
  refine C.iload (pc' := 498) at_496 rfl rfl ?_
  refine C.iload (pc' := 500) at_498 rfl rfl ?_
  refine C.iload (pc' := 502) at_500 rfl rfl ?_
  refine C.iload (pc' := 504) at_502 rfl rfl ?_
  refine C.calls (w := 2) (own_rm3 l Z a0 hw n0 h487 (22 : Int32) v6 v14 p4 v43 v52) (ow9 hw) (ow10 hw) (ow11 hw) (ow12 hw) (pc' := 507) at_504 rfl rfl rfl (by decide) pd__IIIIII_I rfl (by decide) (Nat.le_of_eq rfl) (by decide) (by decide) (by decide) (kIe ?_)
  refine C.stAI (i := 22) A_b56 (by decide) (by rw [FL22.1]; decide) g_b56 (pc' := 508) at_507 rfl (fun h507 X507 B507 => ?_)
  have A_b56 : AI Z h507 b56 (L22.set 22 (aF (22 : Int32) v6 v14 p4 v43 v52)) := B507
  replace K := K.wr X507 (Or.inr sz_b56)
  obtain ⟨L23, eL23⟩ : ∃ L, L = (L22.set 22 (aF (22 : Int32) v6 v14 p4 v43 v52)) := ⟨_, rfl⟩
  rw [← eL23] at A_b56
  have FL23 : Fill (fun q => aF (Int32.ofNat q) v6 v14 p4 v43 v52) 23 L23 := by rw [eL23]; exact fillS FL22 (by decide) rfl
  refine C.aload (pc' := 510) at_508 rfl rfl rfl ?_
  refine C.bipush (v := 23) (pc' := 512) at_510 rfl rfl ?_
  refine C.bipush (v := 23) (pc' := 514) at_512 rfl rfl ?_
  refine C.iload (pc' := 516) at_514 rfl rfl ?_
  refine C.iload (pc' := 518) at_516 rfl rfl ?_
  refine C.iload (pc' := 520) at_518 rfl rfl ?_
  refine C.iload (pc' := 522) at_520 rfl rfl ?_
  refine C.iload (pc' := 524) at_522 rfl rfl ?_
  refine C.calls (w := 2) (own_rm3 l Z a0 hw n0 h507 (23 : Int32) v6 v14 p4 v43 v52) (ow9 hw) (ow10 hw) (ow11 hw) (ow12 hw) (pc' := 527) at_524 rfl rfl rfl (by decide) pd__IIIIII_I rfl (by decide) (Nat.le_of_eq rfl) (by decide) (by decide) (by decide) (kIe ?_)
  refine C.stAI (i := 23) A_b56 (by decide) (by rw [FL23.1]; decide) g_b56 (pc' := 528) at_527 rfl (fun h527 X527 B527 => ?_)
  have A_b56 : AI Z h527 b56 (L23.set 23 (aF (23 : Int32) v6 v14 p4 v43 v52)) := B527
  replace K := K.wr X527 (Or.inr sz_b56)
  obtain ⟨L24, eL24⟩ : ∃ L, L = (L23.set 23 (aF (23 : Int32) v6 v14 p4 v43 v52)) := ⟨_, rfl⟩
  rw [← eL24] at A_b56
  have FL24 : Fill (fun q => aF (Int32.ofNat q) v6 v14 p4 v43 v52) 24 L24 := by rw [eL24]; exact fillS FL23 (by decide) rfl
  refine C.aload (pc' := 530) at_528 rfl rfl rfl ?_
  refine C.bipush (v := 24) (pc' := 532) at_530 rfl rfl ?_
  refine C.bipush (v := 24) (pc' := 534) at_532 rfl rfl ?_
  refine C.iload (pc' := 536) at_534 rfl rfl ?_
  refine C.iload (pc' := 538) at_536 rfl rfl ?_
  refine C.iload (pc' := 540) at_538 rfl rfl ?_
  refine C.iload (pc' := 542) at_540 rfl rfl ?_
  refine C.iload (pc' := 544) at_542 rfl rfl ?_
  refine C.calls (w := 2) (own_rm3 l Z a0 hw n0 h527 (24 : Int32) v6 v14 p4 v43 v52) (ow9 hw) (ow10 hw) (ow11 hw) (ow12 hw) (pc' := 547) at_544 rfl rfl rfl (by decide) pd__IIIIII_I rfl (by decide) (Nat.le_of_eq rfl) (by decide) (by decide) (by decide) (kIe ?_)
  refine C.stAI (i := 24) A_b56 (by decide) (by rw [FL24.1]; decide) g_b56 (pc' := 548) at_547 rfl (fun h547 X547 B547 => ?_)
  have A_b56 : AI Z h547 b56 (L24.set 24 (aF (24 : Int32) v6 v14 p4 v43 v52)) := B547
  replace K := K.wr X547 (Or.inr sz_b56)
  obtain ⟨L25, eL25⟩ : ∃ L, L = (L24.set 24 (aF (24 : Int32) v6 v14 p4 v43 v52)) := ⟨_, rfl⟩
  rw [← eL25] at A_b56
  have FL25 : Fill (fun q => aF (Int32.ofNat q) v6 v14 p4 v43 v52) 25 L25 := by rw [eL25]; exact fillS FL24 (by decide) rfl
  refine C.aload (pc' := 550) at_548 rfl rfl rfl ?_
  refine C.bipush (v := 25) (pc' := 552) at_550 rfl rfl ?_
  refine C.bipush (v := 25) (pc' := 554) at_552 rfl rfl ?_
  refine C.iload (pc' := 556) at_554 rfl rfl ?_
  refine C.iload (pc' := 558) at_556 rfl rfl ?_
  refine C.iload (pc' := 560) at_558 rfl rfl ?_
  refine C.iload (pc' := 562) at_560 rfl rfl ?_
  refine C.iload (pc' := 564) at_562 rfl rfl ?_
  refine C.calls (w := 2) (own_rm3 l Z a0 hw n0 h547 (25 : Int32) v6 v14 p4 v43 v52) (ow9 hw) (ow10 hw) (ow11 hw) (ow12 hw) (pc' := 567) at_564 rfl rfl rfl (by decide) pd__IIIIII_I rfl (by decide) (Nat.le_of_eq rfl) (by decide) (by decide) (by decide) (kIe ?_)
  refine C.stAI (i := 25) A_b56 (by decide) (by rw [FL25.1]; decide) g_b56 (pc' := 568) at_567 rfl (fun h567 X567 B567 => ?_)
  have A_b56 : AI Z h567 b56 (L25.set 25 (aF (25 : Int32) v6 v14 p4 v43 v52)) := B567
  replace K := K.wr X567 (Or.inr sz_b56)
  obtain ⟨L26, eL26⟩ : ∃ L, L = (L25.set 25 (aF (25 : Int32) v6 v14 p4 v43 v52)) := ⟨_, rfl⟩
  rw [← eL26] at A_b56
  have FL26 : Fill (fun q => aF (Int32.ofNat q) v6 v14 p4 v43 v52) 26 L26 := by rw [eL26]; exact fillS FL25 (by decide) rfl
  refine C.aload (pc' := 570) at_568 rfl rfl rfl ?_
  refine C.bipush (v := 26) (pc' := 572) at_570 rfl rfl ?_
  refine C.bipush (v := 26) (pc' := 574) at_572 rfl rfl ?_
  refine C.iload (pc' := 576) at_574 rfl rfl ?_
  refine C.iload (pc' := 578) at_576 rfl rfl ?_
  refine C.iload (pc' := 580) at_578 rfl rfl ?_
  refine C.iload (pc' := 582) at_580 rfl rfl ?_
  refine C.iload (pc' := 584) at_582 rfl rfl ?_
  refine C.calls (w := 2) (own_rm3 l Z a0 hw n0 h567 (26 : Int32) v6 v14 p4 v43 v52) (ow9 hw) (ow10 hw) (ow11 hw) (ow12 hw) (pc' := 587) at_584 rfl rfl rfl (by decide) pd__IIIIII_I rfl (by decide) (Nat.le_of_eq rfl) (by decide) (by decide) (by decide) (kIe ?_)
  refine C.stAI (i := 26) A_b56 (by decide) (by rw [FL26.1]; decide) g_b56 (pc' := 588) at_587 rfl (fun h587 X587 B587 => ?_)
  have A_b56 : AI Z h587 b56 (L26.set 26 (aF (26 : Int32) v6 v14 p4 v43 v52)) := B587
  replace K := K.wr X587 (Or.inr sz_b56)
  obtain ⟨L27, eL27⟩ : ∃ L, L = (L26.set 26 (aF (26 : Int32) v6 v14 p4 v43 v52)) := ⟨_, rfl⟩
  rw [← eL27] at A_b56
  have FL27 : Fill (fun q => aF (Int32.ofNat q) v6 v14 p4 v43 v52) 27 L27 := by rw [eL27]; exact fillS FL26 (by decide) rfl
  refine C.aload (pc' := 590) at_588 rfl rfl rfl ?_
  refine C.bipush (v := 27) (pc' := 592) at_590 rfl rfl ?_
  refine C.bipush (v := 27) (pc' := 594) at_592 rfl rfl ?_
  refine C.iload (pc' := 596) at_594 rfl rfl ?_
  refine C.iload (pc' := 598) at_596 rfl rfl ?_
  refine C.iload (pc' := 600) at_598 rfl rfl ?_
  refine C.iload (pc' := 602) at_600 rfl rfl ?_
  refine C.iload (pc' := 604) at_602 rfl rfl ?_
  refine C.calls (w := 2) (own_rm3 l Z a0 hw n0 h587 (27 : Int32) v6 v14 p4 v43 v52) (ow9 hw) (ow10 hw) (ow11 hw) (ow12 hw) (pc' := 607) at_604 rfl rfl rfl (by decide) pd__IIIIII_I rfl (by decide) (Nat.le_of_eq rfl) (by decide) (by decide) (by decide) (kIe ?_)
  refine C.stAI (i := 27) A_b56 (by decide) (by rw [FL27.1]; decide) g_b56 (pc' := 608) at_607 rfl (fun h607 X607 B607 => ?_)
  have A_b56 : AI Z h607 b56 (L27.set 27 (aF (27 : Int32) v6 v14 p4 v43 v52)) := B607
  replace K := K.wr X607 (Or.inr sz_b56)
  obtain ⟨L28, eL28⟩ : ∃ L, L = (L27.set 27 (aF (27 : Int32) v6 v14 p4 v43 v52)) := ⟨_, rfl⟩
  rw [← eL28] at A_b56
  have FL28 : Fill (fun q => aF (Int32.ofNat q) v6 v14 p4 v43 v52) 28 L28 := by rw [eL28]; exact fillS FL27 (by decide) rfl
  refine C.aload (pc' := 610) at_608 rfl rfl rfl ?_
  refine C.bipush (v := 28) (pc' := 612) at_610 rfl rfl ?_
  refine C.bipush (v := 28) (pc' := 614) at_612 rfl rfl ?_
  refine C.iload (pc' := 616) at_614 rfl rfl ?_
  refine C.iload (pc' := 618) at_616 rfl rfl ?_
  refine C.iload (pc' := 620) at_618 rfl rfl ?_
  refine C.iload (pc' := 622) at_620 rfl rfl ?_
  refine C.iload (pc' := 624) at_622 rfl rfl ?_
  refine C.calls (w := 2) (own_rm3 l Z a0 hw n0 h607 (28 : Int32) v6 v14 p4 v43 v52) (ow9 hw) (ow10 hw) (ow11 hw) (ow12 hw) (pc' := 627) at_624 rfl rfl rfl (by decide) pd__IIIIII_I rfl (by decide) (Nat.le_of_eq rfl) (by decide) (by decide) (by decide) (kIe ?_)
  refine C.stAI (i := 28) A_b56 (by decide) (by rw [FL28.1]; decide) g_b56 (pc' := 628) at_627 rfl (fun h627 X627 B627 => ?_)
  have A_b56 : AI Z h627 b56 (L28.set 28 (aF (28 : Int32) v6 v14 p4 v43 v52)) := B627
  replace K := K.wr X627 (Or.inr sz_b56)
  obtain ⟨L29, eL29⟩ : ∃ L, L = (L28.set 28 (aF (28 : Int32) v6 v14 p4 v43 v52)) := ⟨_, rfl⟩
  rw [← eL29] at A_b56
  have FL29 : Fill (fun q => aF (Int32.ofNat q) v6 v14 p4 v43 v52) 29 L29 := by rw [eL29]; exact fillS FL28 (by decide) rfl
  refine C.aload (pc' := 630) at_628 rfl rfl rfl ?_
  refine C.bipush (v := 29) (pc' := 632) at_630 rfl rfl ?_
  refine C.bipush (v := 29) (pc' := 634) at_632 rfl rfl ?_
  refine C.iload (pc' := 636) at_634 rfl rfl ?_
  refine C.iload (pc' := 638) at_636 rfl rfl ?_
  refine C.iload (pc' := 640) at_638 rfl rfl ?_
  refine C.iload (pc' := 642) at_640 rfl rfl ?_
  refine C.iload (pc' := 644) at_642 rfl rfl ?_
  refine C.calls (w := 2) (own_rm3 l Z a0 hw n0 h627 (29 : Int32) v6 v14 p4 v43 v52) (ow9 hw) (ow10 hw) (ow11 hw) (ow12 hw) (pc' := 647) at_644 rfl rfl rfl (by decide) pd__IIIIII_I rfl (by decide) (Nat.le_of_eq rfl) (by decide) (by decide) (by decide) (kIe ?_)
  refine C.stAI (i := 29) A_b56 (by decide) (by rw [FL29.1]; decide) g_b56 (pc' := 648) at_647 rfl (fun h647 X647 B647 => ?_)
  have A_b56 : AI Z h647 b56 (L29.set 29 (aF (29 : Int32) v6 v14 p4 v43 v52)) := B647
  replace K := K.wr X647 (Or.inr sz_b56)
  obtain ⟨L30, eL30⟩ : ∃ L, L = (L29.set 29 (aF (29 : Int32) v6 v14 p4 v43 v52)) := ⟨_, rfl⟩
  rw [← eL30] at A_b56
  have FL30 : Fill (fun q => aF (Int32.ofNat q) v6 v14 p4 v43 v52) 30 L30 := by rw [eL30]; exact fillS FL29 (by decide) rfl
  refine C.aload (pc' := 650) at_648 rfl rfl rfl ?_
  refine C.bipush (v := 30) (pc' := 652) at_650 rfl rfl ?_
  refine C.bipush (v := 30) (pc' := 654) at_652 rfl rfl ?_
  refine C.iload (pc' := 656) at_654 rfl rfl ?_
  refine C.iload (pc' := 658) at_656 rfl rfl ?_
  refine C.iload (pc' := 660) at_658 rfl rfl ?_
  refine C.iload (pc' := 662) at_660 rfl rfl ?_
  refine C.iload (pc' := 664) at_662 rfl rfl ?_
  refine C.calls (w := 2) (own_rm3 l Z a0 hw n0 h647 (30 : Int32) v6 v14 p4 v43 v52) (ow9 hw) (ow10 hw) (ow11 hw) (ow12 hw) (pc' := 667) at_664 rfl rfl rfl (by decide) pd__IIIIII_I rfl (by decide) (Nat.le_of_eq rfl) (by decide) (by decide) (by decide) (kIe ?_)
  refine C.stAI (i := 30) A_b56 (by decide) (by rw [FL30.1]; decide) g_b56 (pc' := 668) at_667 rfl (fun h667 X667 B667 => ?_)
  have A_b56 : AI Z h667 b56 (L30.set 30 (aF (30 : Int32) v6 v14 p4 v43 v52)) := B667
  replace K := K.wr X667 (Or.inr sz_b56)
  obtain ⟨L31, eL31⟩ : ∃ L, L = (L30.set 30 (aF (30 : Int32) v6 v14 p4 v43 v52)) := ⟨_, rfl⟩
  rw [← eL31] at A_b56
  have FL31 : Fill (fun q => aF (Int32.ofNat q) v6 v14 p4 v43 v52) 31 L31 := by rw [eL31]; exact fillS FL30 (by decide) rfl
  refine C.aload (pc' := 670) at_668 rfl rfl rfl ?_
  refine C.bipush (v := 31) (pc' := 672) at_670 rfl rfl ?_
  refine C.bipush (v := 31) (pc' := 674) at_672 rfl rfl ?_
  refine C.iload (pc' := 676) at_674 rfl rfl ?_
  refine C.iload (pc' := 678) at_676 rfl rfl ?_
  refine C.iload (pc' := 680) at_678 rfl rfl ?_
  refine C.iload (pc' := 682) at_680 rfl rfl ?_
  refine C.iload (pc' := 684) at_682 rfl rfl ?_
  refine C.calls (w := 2) (own_rm3 l Z a0 hw n0 h667 (31 : Int32) v6 v14 p4 v43 v52) (ow9 hw) (ow10 hw) (ow11 hw) (ow12 hw) (pc' := 687) at_684 rfl rfl rfl (by decide) pd__IIIIII_I rfl (by decide) (Nat.le_of_eq rfl) (by decide) (by decide) (by decide) (kIe ?_)
  refine C.stAI (i := 31) A_b56 (by decide) (by rw [FL31.1]; decide) g_b56 (pc' := 688) at_687 rfl (fun h687 X687 B687 => ?_)
  have A_b56 : AI Z h687 b56 (L31.set 31 (aF (31 : Int32) v6 v14 p4 v43 v52)) := B687
  replace K := K.wr X687 (Or.inr sz_b56)
  obtain ⟨L32, eL32⟩ : ∃ L, L = (L31.set 31 (aF (31 : Int32) v6 v14 p4 v43 v52)) := ⟨_, rfl⟩
  rw [← eL32] at A_b56
  have FL32 : Fill (fun q => aF (Int32.ofNat q) v6 v14 p4 v43 v52) 32 L32 := by rw [eL32]; exact fillS FL31 (by decide) rfl
  refine C.aload (pc' := 690) at_688 rfl rfl rfl ?_
  refine C.bipush (v := 32) (pc' := 692) at_690 rfl rfl ?_
  refine C.bipush (v := 32) (pc' := 694) at_692 rfl rfl ?_
  refine C.iload (pc' := 696) at_694 rfl rfl ?_
  refine C.iload (pc' := 698) at_696 rfl rfl ?_
  refine C.iload (pc' := 700) at_698 rfl rfl ?_
  refine C.iload (pc' := 702) at_700 rfl rfl ?_
  refine C.iload (pc' := 704) at_702 rfl rfl ?_
  refine C.calls (w := 2) (own_rm3 l Z a0 hw n0 h687 (32 : Int32) v6 v14 p4 v43 v52) (ow9 hw) (ow10 hw) (ow11 hw) (ow12 hw) (pc' := 707) at_704 rfl rfl rfl (by decide) pd__IIIIII_I rfl (by decide) (Nat.le_of_eq rfl) (by decide) (by decide) (by decide) (kIe ?_)
  refine C.stAI (i := 32) A_b56 (by decide) (by rw [FL32.1]; decide) g_b56 (pc' := 708) at_707 rfl (fun h707 X707 B707 => ?_)
  have A_b56 : AI Z h707 b56 (L32.set 32 (aF (32 : Int32) v6 v14 p4 v43 v52)) := B707
  replace K := K.wr X707 (Or.inr sz_b56)
  obtain ⟨L33, eL33⟩ : ∃ L, L = (L32.set 32 (aF (32 : Int32) v6 v14 p4 v43 v52)) := ⟨_, rfl⟩
  rw [← eL33] at A_b56
  have FL33 : Fill (fun q => aF (Int32.ofNat q) v6 v14 p4 v43 v52) 33 L33 := by rw [eL33]; exact fillS FL32 (by decide) rfl
  refine C.aload (pc' := 710) at_708 rfl rfl rfl ?_
  refine C.bipush (v := 33) (pc' := 712) at_710 rfl rfl ?_
  refine C.bipush (v := 33) (pc' := 714) at_712 rfl rfl ?_
  refine C.iload (pc' := 716) at_714 rfl rfl ?_
  refine C.iload (pc' := 718) at_716 rfl rfl ?_
  refine C.iload (pc' := 720) at_718 rfl rfl ?_
  refine C.iload (pc' := 722) at_720 rfl rfl ?_
  refine C.iload (pc' := 724) at_722 rfl rfl ?_
  refine C.calls (w := 2) (own_rm3 l Z a0 hw n0 h707 (33 : Int32) v6 v14 p4 v43 v52) (ow9 hw) (ow10 hw) (ow11 hw) (ow12 hw) (pc' := 727) at_724 rfl rfl rfl (by decide) pd__IIIIII_I rfl (by decide) (Nat.le_of_eq rfl) (by decide) (by decide) (by decide) (kIe ?_)
  refine C.stAI (i := 33) A_b56 (by decide) (by rw [FL33.1]; decide) g_b56 (pc' := 728) at_727 rfl (fun h727 X727 B727 => ?_)
  have A_b56 : AI Z h727 b56 (L33.set 33 (aF (33 : Int32) v6 v14 p4 v43 v52)) := B727
  replace K := K.wr X727 (Or.inr sz_b56)
  obtain ⟨L34, eL34⟩ : ∃ L, L = (L33.set 33 (aF (33 : Int32) v6 v14 p4 v43 v52)) := ⟨_, rfl⟩
  rw [← eL34] at A_b56
  have FL34 : Fill (fun q => aF (Int32.ofNat q) v6 v14 p4 v43 v52) 34 L34 := by rw [eL34]; exact fillS FL33 (by decide) rfl
  refine C.aload (pc' := 730) at_728 rfl rfl rfl ?_
  refine C.bipush (v := 34) (pc' := 732) at_730 rfl rfl ?_
  refine C.bipush (v := 34) (pc' := 734) at_732 rfl rfl ?_
  refine C.iload (pc' := 736) at_734 rfl rfl ?_
  refine C.iload (pc' := 738) at_736 rfl rfl ?_
  refine C.iload (pc' := 740) at_738 rfl rfl ?_
  refine C.iload (pc' := 742) at_740 rfl rfl ?_
  refine C.iload (pc' := 744) at_742 rfl rfl ?_
  refine C.calls (w := 2) (own_rm3 l Z a0 hw n0 h727 (34 : Int32) v6 v14 p4 v43 v52) (ow9 hw) (ow10 hw) (ow11 hw) (ow12 hw) (pc' := 747) at_744 rfl rfl rfl (by decide) pd__IIIIII_I rfl (by decide) (Nat.le_of_eq rfl) (by decide) (by decide) (by decide) (kIe ?_)
  refine C.stAI (i := 34) A_b56 (by decide) (by rw [FL34.1]; decide) g_b56 (pc' := 748) at_747 rfl (fun h747 X747 B747 => ?_)
  have A_b56 : AI Z h747 b56 (L34.set 34 (aF (34 : Int32) v6 v14 p4 v43 v52)) := B747
  replace K := K.wr X747 (Or.inr sz_b56)
  obtain ⟨L35, eL35⟩ : ∃ L, L = (L34.set 34 (aF (34 : Int32) v6 v14 p4 v43 v52)) := ⟨_, rfl⟩
  rw [← eL35] at A_b56
  have FL35 : Fill (fun q => aF (Int32.ofNat q) v6 v14 p4 v43 v52) 35 L35 := by rw [eL35]; exact fillS FL34 (by decide) rfl
  refine C.aload (pc' := 750) at_748 rfl rfl rfl ?_
  refine C.bipush (v := 35) (pc' := 752) at_750 rfl rfl ?_
  refine C.bipush (v := 35) (pc' := 754) at_752 rfl rfl ?_
  refine C.iload (pc' := 756) at_754 rfl rfl ?_
  refine C.iload (pc' := 758) at_756 rfl rfl ?_
  refine C.iload (pc' := 760) at_758 rfl rfl ?_
  refine C.iload (pc' := 762) at_760 rfl rfl ?_
  refine C.iload (pc' := 764) at_762 rfl rfl ?_
  refine C.calls (w := 2) (own_rm3 l Z a0 hw n0 h747 (35 : Int32) v6 v14 p4 v43 v52) (ow9 hw) (ow10 hw) (ow11 hw) (ow12 hw) (pc' := 767) at_764 rfl rfl rfl (by decide) pd__IIIIII_I rfl (by decide) (Nat.le_of_eq rfl) (by decide) (by decide) (by decide) (kIe ?_)
  refine C.stAI (i := 35) A_b56 (by decide) (by rw [FL35.1]; decide) g_b56 (pc' := 768) at_767 rfl (fun h767 X767 B767 => ?_)
  have A_b56 : AI Z h767 b56 (L35.set 35 (aF (35 : Int32) v6 v14 p4 v43 v52)) := B767
  replace K := K.wr X767 (Or.inr sz_b56)
  obtain ⟨L36, eL36⟩ : ∃ L, L = (L35.set 35 (aF (35 : Int32) v6 v14 p4 v43 v52)) := ⟨_, rfl⟩
  rw [← eL36] at A_b56
  have FL36 : Fill (fun q => aF (Int32.ofNat q) v6 v14 p4 v43 v52) 36 L36 := by rw [eL36]; exact fillS FL35 (by decide) rfl
  refine C.aload (pc' := 770) at_768 rfl rfl rfl ?_
  refine C.bipush (v := 36) (pc' := 772) at_770 rfl rfl ?_
  refine C.bipush (v := 36) (pc' := 774) at_772 rfl rfl ?_
  refine C.iload (pc' := 776) at_774 rfl rfl ?_
  refine C.iload (pc' := 778) at_776 rfl rfl ?_
  refine C.iload (pc' := 780) at_778 rfl rfl ?_
  refine C.iload (pc' := 782) at_780 rfl rfl ?_
  refine C.iload (pc' := 784) at_782 rfl rfl ?_
  refine C.calls (w := 2) (own_rm3 l Z a0 hw n0 h767 (36 : Int32) v6 v14 p4 v43 v52) (ow9 hw) (ow10 hw) (ow11 hw) (ow12 hw) (pc' := 787) at_784 rfl rfl rfl (by decide) pd__IIIIII_I rfl (by decide) (Nat.le_of_eq rfl) (by decide) (by decide) (by decide) (kIe ?_)
  refine C.stAI (i := 36) A_b56 (by decide) (by rw [FL36.1]; decide) g_b56 (pc' := 788) at_787 rfl (fun h787 X787 B787 => ?_)
  have A_b56 : AI Z h787 b56 (L36.set 36 (aF (36 : Int32) v6 v14 p4 v43 v52)) := B787
  replace K := K.wr X787 (Or.inr sz_b56)
  obtain ⟨L37, eL37⟩ : ∃ L, L = (L36.set 36 (aF (36 : Int32) v6 v14 p4 v43 v52)) := ⟨_, rfl⟩
  rw [← eL37] at A_b56
  have FL37 : Fill (fun q => aF (Int32.ofNat q) v6 v14 p4 v43 v52) 37 L37 := by rw [eL37]; exact fillS FL36 (by decide) rfl
  refine C.aload (pc' := 790) at_788 rfl rfl rfl ?_
  refine C.bipush (v := 37) (pc' := 792) at_790 rfl rfl ?_
  refine C.bipush (v := 37) (pc' := 794) at_792 rfl rfl ?_
  refine C.iload (pc' := 796) at_794 rfl rfl ?_
  refine C.iload (pc' := 798) at_796 rfl rfl ?_
  refine C.iload (pc' := 800) at_798 rfl rfl ?_
  refine C.iload (pc' := 802) at_800 rfl rfl ?_
  refine C.iload (pc' := 804) at_802 rfl rfl ?_
  refine C.calls (w := 2) (own_rm3 l Z a0 hw n0 h787 (37 : Int32) v6 v14 p4 v43 v52) (ow9 hw) (ow10 hw) (ow11 hw) (ow12 hw) (pc' := 807) at_804 rfl rfl rfl (by decide) pd__IIIIII_I rfl (by decide) (Nat.le_of_eq rfl) (by decide) (by decide) (by decide) (kIe ?_)
  refine C.stAI (i := 37) A_b56 (by decide) (by rw [FL37.1]; decide) g_b56 (pc' := 808) at_807 rfl (fun h807 X807 B807 => ?_)
  have A_b56 : AI Z h807 b56 (L37.set 37 (aF (37 : Int32) v6 v14 p4 v43 v52)) := B807
  replace K := K.wr X807 (Or.inr sz_b56)
  obtain ⟨L38, eL38⟩ : ∃ L, L = (L37.set 37 (aF (37 : Int32) v6 v14 p4 v43 v52)) := ⟨_, rfl⟩
  rw [← eL38] at A_b56
  have FL38 : Fill (fun q => aF (Int32.ofNat q) v6 v14 p4 v43 v52) 38 L38 := by rw [eL38]; exact fillS FL37 (by decide) rfl
  refine C.aload (pc' := 810) at_808 rfl rfl rfl ?_
  refine C.bipush (v := 38) (pc' := 812) at_810 rfl rfl ?_
  refine C.bipush (v := 38) (pc' := 814) at_812 rfl rfl ?_
  refine C.iload (pc' := 816) at_814 rfl rfl ?_
  refine C.iload (pc' := 818) at_816 rfl rfl ?_
  refine C.iload (pc' := 820) at_818 rfl rfl ?_
  refine C.iload (pc' := 822) at_820 rfl rfl ?_
  refine C.iload (pc' := 824) at_822 rfl rfl ?_
  refine C.calls (w := 2) (own_rm3 l Z a0 hw n0 h807 (38 : Int32) v6 v14 p4 v43 v52) (ow9 hw) (ow10 hw) (ow11 hw) (ow12 hw) (pc' := 827) at_824 rfl rfl rfl (by decide) pd__IIIIII_I rfl (by decide) (Nat.le_of_eq rfl) (by decide) (by decide) (by decide) (kIe ?_)
  refine C.stAI (i := 38) A_b56 (by decide) (by rw [FL38.1]; decide) g_b56 (pc' := 828) at_827 rfl (fun h827 X827 B827 => ?_)
  have A_b56 : AI Z h827 b56 (L38.set 38 (aF (38 : Int32) v6 v14 p4 v43 v52)) := B827
  replace K := K.wr X827 (Or.inr sz_b56)
  obtain ⟨L39, eL39⟩ : ∃ L, L = (L38.set 38 (aF (38 : Int32) v6 v14 p4 v43 v52)) := ⟨_, rfl⟩
  rw [← eL39] at A_b56
  have FL39 : Fill (fun q => aF (Int32.ofNat q) v6 v14 p4 v43 v52) 39 L39 := by rw [eL39]; exact fillS FL38 (by decide) rfl
  refine C.aload (pc' := 830) at_828 rfl rfl rfl ?_
  refine C.bipush (v := 39) (pc' := 832) at_830 rfl rfl ?_
  refine C.bipush (v := 39) (pc' := 834) at_832 rfl rfl ?_
  refine C.iload (pc' := 836) at_834 rfl rfl ?_
  refine C.iload (pc' := 838) at_836 rfl rfl ?_
  refine C.iload (pc' := 840) at_838 rfl rfl ?_
  refine C.iload (pc' := 842) at_840 rfl rfl ?_
  refine C.iload (pc' := 844) at_842 rfl rfl ?_
  refine C.calls (w := 2) (own_rm3 l Z a0 hw n0 h827 (39 : Int32) v6 v14 p4 v43 v52) (ow9 hw) (ow10 hw) (ow11 hw) (ow12 hw) (pc' := 847) at_844 rfl rfl rfl (by decide) pd__IIIIII_I rfl (by decide) (Nat.le_of_eq rfl) (by decide) (by decide) (by decide) (kIe ?_)
  refine C.stAI (i := 39) A_b56 (by decide) (by rw [FL39.1]; decide) g_b56 (pc' := 848) at_847 rfl (fun h847 X847 B847 => ?_)
  have A_b56 : AI Z h847 b56 (L39.set 39 (aF (39 : Int32) v6 v14 p4 v43 v52)) := B847
  replace K := K.wr X847 (Or.inr sz_b56)
  obtain ⟨L40, eL40⟩ : ∃ L, L = (L39.set 39 (aF (39 : Int32) v6 v14 p4 v43 v52)) := ⟨_, rfl⟩
  rw [← eL40] at A_b56
  have FL40 : Fill (fun q => aF (Int32.ofNat q) v6 v14 p4 v43 v52) 40 L40 := by rw [eL40]; exact fillS FL39 (by decide) rfl
  refine C.aload (pc' := 850) at_848 rfl rfl rfl ?_
  refine C.bipush (v := 40) (pc' := 852) at_850 rfl rfl ?_
  refine C.bipush (v := 40) (pc' := 854) at_852 rfl rfl ?_
  refine C.iload (pc' := 856) at_854 rfl rfl ?_
  refine C.iload (pc' := 858) at_856 rfl rfl ?_
  refine C.iload (pc' := 860) at_858 rfl rfl ?_
  refine C.iload (pc' := 862) at_860 rfl rfl ?_
  refine C.iload (pc' := 864) at_862 rfl rfl ?_
  refine C.calls (w := 2) (own_rm3 l Z a0 hw n0 h847 (40 : Int32) v6 v14 p4 v43 v52) (ow9 hw) (ow10 hw) (ow11 hw) (ow12 hw) (pc' := 867) at_864 rfl rfl rfl (by decide) pd__IIIIII_I rfl (by decide) (Nat.le_of_eq rfl) (by decide) (by decide) (by decide) (kIe ?_)
  refine C.stAI (i := 40) A_b56 (by decide) (by rw [FL40.1]; decide) g_b56 (pc' := 868) at_867 rfl (fun h867 X867 B867 => ?_)
  have A_b56 : AI Z h867 b56 (L40.set 40 (aF (40 : Int32) v6 v14 p4 v43 v52)) := B867
  replace K := K.wr X867 (Or.inr sz_b56)
  obtain ⟨L41, eL41⟩ : ∃ L, L = (L40.set 40 (aF (40 : Int32) v6 v14 p4 v43 v52)) := ⟨_, rfl⟩
  rw [← eL41] at A_b56
  have FL41 : Fill (fun q => aF (Int32.ofNat q) v6 v14 p4 v43 v52) 41 L41 := by rw [eL41]; exact fillS FL40 (by decide) rfl
  refine C.aload (pc' := 870) at_868 rfl rfl rfl ?_
  refine C.bipush (v := 41) (pc' := 872) at_870 rfl rfl ?_
  refine C.bipush (v := 41) (pc' := 874) at_872 rfl rfl ?_
  refine C.iload (pc' := 876) at_874 rfl rfl ?_
  refine C.iload (pc' := 878) at_876 rfl rfl ?_
  refine C.iload (pc' := 880) at_878 rfl rfl ?_
  refine C.iload (pc' := 882) at_880 rfl rfl ?_
  refine C.iload (pc' := 884) at_882 rfl rfl ?_
  refine C.calls (w := 2) (own_rm3 l Z a0 hw n0 h867 (41 : Int32) v6 v14 p4 v43 v52) (ow9 hw) (ow10 hw) (ow11 hw) (ow12 hw) (pc' := 887) at_884 rfl rfl rfl (by decide) pd__IIIIII_I rfl (by decide) (Nat.le_of_eq rfl) (by decide) (by decide) (by decide) (kIe ?_)
  refine C.stAI (i := 41) A_b56 (by decide) (by rw [FL41.1]; decide) g_b56 (pc' := 888) at_887 rfl (fun h887 X887 B887 => ?_)
  have A_b56 : AI Z h887 b56 (L41.set 41 (aF (41 : Int32) v6 v14 p4 v43 v52)) := B887
  replace K := K.wr X887 (Or.inr sz_b56)
  obtain ⟨L42, eL42⟩ : ∃ L, L = (L41.set 41 (aF (41 : Int32) v6 v14 p4 v43 v52)) := ⟨_, rfl⟩
  rw [← eL42] at A_b56
  have FL42 : Fill (fun q => aF (Int32.ofNat q) v6 v14 p4 v43 v52) 42 L42 := by rw [eL42]; exact fillS FL41 (by decide) rfl
  refine C.aload (pc' := 890) at_888 rfl rfl rfl ?_
  refine C.bipush (v := 42) (pc' := 892) at_890 rfl rfl ?_
  refine C.bipush (v := 42) (pc' := 894) at_892 rfl rfl ?_
  refine C.iload (pc' := 896) at_894 rfl rfl ?_
  refine C.iload (pc' := 898) at_896 rfl rfl ?_
  refine C.iload (pc' := 900) at_898 rfl rfl ?_
  refine C.iload (pc' := 902) at_900 rfl rfl ?_
  refine C.iload (pc' := 904) at_902 rfl rfl ?_
  refine C.calls (w := 2) (own_rm3 l Z a0 hw n0 h887 (42 : Int32) v6 v14 p4 v43 v52) (ow9 hw) (ow10 hw) (ow11 hw) (ow12 hw) (pc' := 907) at_904 rfl rfl rfl (by decide) pd__IIIIII_I rfl (by decide) (Nat.le_of_eq rfl) (by decide) (by decide) (by decide) (kIe ?_)
  refine C.stAI (i := 42) A_b56 (by decide) (by rw [FL42.1]; decide) g_b56 (pc' := 908) at_907 rfl (fun h907 X907 B907 => ?_)
  have A_b56 : AI Z h907 b56 (L42.set 42 (aF (42 : Int32) v6 v14 p4 v43 v52)) := B907
  replace K := K.wr X907 (Or.inr sz_b56)
  obtain ⟨L43, eL43⟩ : ∃ L, L = (L42.set 42 (aF (42 : Int32) v6 v14 p4 v43 v52)) := ⟨_, rfl⟩
  rw [← eL43] at A_b56
  have FL43 : Fill (fun q => aF (Int32.ofNat q) v6 v14 p4 v43 v52) 43 L43 := by rw [eL43]; exact fillS FL42 (by decide) rfl
  refine C.aload (pc' := 910) at_908 rfl rfl rfl ?_
  refine C.bipush (v := 43) (pc' := 912) at_910 rfl rfl ?_
  refine C.bipush (v := 43) (pc' := 914) at_912 rfl rfl ?_
  refine C.iload (pc' := 916) at_914 rfl rfl ?_
  refine C.iload (pc' := 918) at_916 rfl rfl ?_
  refine C.iload (pc' := 920) at_918 rfl rfl ?_
  refine C.iload (pc' := 922) at_920 rfl rfl ?_
  refine C.iload (pc' := 924) at_922 rfl rfl ?_
  refine C.calls (w := 2) (own_rm3 l Z a0 hw n0 h907 (43 : Int32) v6 v14 p4 v43 v52) (ow9 hw) (ow10 hw) (ow11 hw) (ow12 hw) (pc' := 927) at_924 rfl rfl rfl (by decide) pd__IIIIII_I rfl (by decide) (Nat.le_of_eq rfl) (by decide) (by decide) (by decide) (kIe ?_)
  refine C.stAI (i := 43) A_b56 (by decide) (by rw [FL43.1]; decide) g_b56 (pc' := 928) at_927 rfl (fun h927 X927 B927 => ?_)
  have A_b56 : AI Z h927 b56 (L43.set 43 (aF (43 : Int32) v6 v14 p4 v43 v52)) := B927
  replace K := K.wr X927 (Or.inr sz_b56)
  obtain ⟨L44, eL44⟩ : ∃ L, L = (L43.set 43 (aF (43 : Int32) v6 v14 p4 v43 v52)) := ⟨_, rfl⟩
  rw [← eL44] at A_b56
  have FL44 : Fill (fun q => aF (Int32.ofNat q) v6 v14 p4 v43 v52) 44 L44 := by rw [eL44]; exact fillS FL43 (by decide) rfl
  refine C.aload (pc' := 930) at_928 rfl rfl rfl ?_
  refine C.bipush (v := 44) (pc' := 932) at_930 rfl rfl ?_
  refine C.bipush (v := 44) (pc' := 934) at_932 rfl rfl ?_
  refine C.iload (pc' := 936) at_934 rfl rfl ?_
  refine C.iload (pc' := 938) at_936 rfl rfl ?_
  refine C.iload (pc' := 940) at_938 rfl rfl ?_
  refine C.iload (pc' := 942) at_940 rfl rfl ?_
  refine C.iload (pc' := 944) at_942 rfl rfl ?_
  refine C.calls (w := 2) (own_rm3 l Z a0 hw n0 h927 (44 : Int32) v6 v14 p4 v43 v52) (ow9 hw) (ow10 hw) (ow11 hw) (ow12 hw) (pc' := 947) at_944 rfl rfl rfl (by decide) pd__IIIIII_I rfl (by decide) (Nat.le_of_eq rfl) (by decide) (by decide) (by decide) (kIe ?_)
  refine C.stAI (i := 44) A_b56 (by decide) (by rw [FL44.1]; decide) g_b56 (pc' := 948) at_947 rfl (fun h947 X947 B947 => ?_)
  have A_b56 : AI Z h947 b56 (L44.set 44 (aF (44 : Int32) v6 v14 p4 v43 v52)) := B947
  replace K := K.wr X947 (Or.inr sz_b56)
  obtain ⟨L45, eL45⟩ : ∃ L, L = (L44.set 44 (aF (44 : Int32) v6 v14 p4 v43 v52)) := ⟨_, rfl⟩
  rw [← eL45] at A_b56
  have FL45 : Fill (fun q => aF (Int32.ofNat q) v6 v14 p4 v43 v52) 45 L45 := by rw [eL45]; exact fillS FL44 (by decide) rfl
  refine C.aload (pc' := 950) at_948 rfl rfl rfl ?_
  refine C.bipush (v := 45) (pc' := 952) at_950 rfl rfl ?_
  refine C.bipush (v := 45) (pc' := 954) at_952 rfl rfl ?_
  refine C.iload (pc' := 956) at_954 rfl rfl ?_
  refine C.iload (pc' := 958) at_956 rfl rfl ?_
  refine C.iload (pc' := 960) at_958 rfl rfl ?_
  refine C.iload (pc' := 962) at_960 rfl rfl ?_
  refine C.iload (pc' := 964) at_962 rfl rfl ?_
  refine C.calls (w := 2) (own_rm3 l Z a0 hw n0 h947 (45 : Int32) v6 v14 p4 v43 v52) (ow9 hw) (ow10 hw) (ow11 hw) (ow12 hw) (pc' := 967) at_964 rfl rfl rfl (by decide) pd__IIIIII_I rfl (by decide) (Nat.le_of_eq rfl) (by decide) (by decide) (by decide) (kIe ?_)
  refine C.stAI (i := 45) A_b56 (by decide) (by rw [FL45.1]; decide) g_b56 (pc' := 968) at_967 rfl (fun h967 X967 B967 => ?_)
  have A_b56 : AI Z h967 b56 (L45.set 45 (aF (45 : Int32) v6 v14 p4 v43 v52)) := B967
  replace K := K.wr X967 (Or.inr sz_b56)
  obtain ⟨L46, eL46⟩ : ∃ L, L = (L45.set 45 (aF (45 : Int32) v6 v14 p4 v43 v52)) := ⟨_, rfl⟩
  rw [← eL46] at A_b56
  have FL46 : Fill (fun q => aF (Int32.ofNat q) v6 v14 p4 v43 v52) 46 L46 := by rw [eL46]; exact fillS FL45 (by decide) rfl
  refine C.aload (pc' := 970) at_968 rfl rfl rfl ?_
  refine C.bipush (v := 46) (pc' := 972) at_970 rfl rfl ?_
  refine C.bipush (v := 46) (pc' := 974) at_972 rfl rfl ?_
  refine C.iload (pc' := 976) at_974 rfl rfl ?_
  refine C.iload (pc' := 978) at_976 rfl rfl ?_
  refine C.iload (pc' := 980) at_978 rfl rfl ?_
  refine C.iload (pc' := 982) at_980 rfl rfl ?_
  refine C.iload (pc' := 984) at_982 rfl rfl ?_
  refine C.calls (w := 2) (own_rm3 l Z a0 hw n0 h967 (46 : Int32) v6 v14 p4 v43 v52) (ow9 hw) (ow10 hw) (ow11 hw) (ow12 hw) (pc' := 987) at_984 rfl rfl rfl (by decide) pd__IIIIII_I rfl (by decide) (Nat.le_of_eq rfl) (by decide) (by decide) (by decide) (kIe ?_)
  refine C.stAI (i := 46) A_b56 (by decide) (by rw [FL46.1]; decide) g_b56 (pc' := 988) at_987 rfl (fun h987 X987 B987 => ?_)
  have A_b56 : AI Z h987 b56 (L46.set 46 (aF (46 : Int32) v6 v14 p4 v43 v52)) := B987
  replace K := K.wr X987 (Or.inr sz_b56)
  obtain ⟨L47, eL47⟩ : ∃ L, L = (L46.set 46 (aF (46 : Int32) v6 v14 p4 v43 v52)) := ⟨_, rfl⟩
  rw [← eL47] at A_b56
  have FL47 : Fill (fun q => aF (Int32.ofNat q) v6 v14 p4 v43 v52) 47 L47 := by rw [eL47]; exact fillS FL46 (by decide) rfl
  refine C.aload (pc' := 990) at_988 rfl rfl rfl ?_
  refine C.bipush (v := 47) (pc' := 992) at_990 rfl rfl ?_
  refine C.bipush (v := 47) (pc' := 994) at_992 rfl rfl ?_
  refine C.iload (pc' := 996) at_994 rfl rfl ?_
  refine C.iload (pc' := 998) at_996 rfl rfl ?_
  refine C.iload (pc' := 1000) at_998 rfl rfl ?_
  refine C.iload (pc' := 1002) at_1000 rfl rfl ?_
  refine C.iload (pc' := 1004) at_1002 rfl rfl ?_
  refine C.calls (w := 2) (own_rm3 l Z a0 hw n0 h987 (47 : Int32) v6 v14 p4 v43 v52) (ow9 hw) (ow10 hw) (ow11 hw) (ow12 hw) (pc' := 1007) at_1004 rfl rfl rfl (by decide) pd__IIIIII_I rfl (by decide) (Nat.le_of_eq rfl) (by decide) (by decide) (by decide) (kIe ?_)
  refine C.stAI (i := 47) A_b56 (by decide) (by rw [FL47.1]; decide) g_b56 (pc' := 1008) at_1007 rfl (fun h1007 X1007 B1007 => ?_)
  have A_b56 : AI Z h1007 b56 (L47.set 47 (aF (47 : Int32) v6 v14 p4 v43 v52)) := B1007
  replace K := K.wr X1007 (Or.inr sz_b56)
  obtain ⟨L48, eL48⟩ : ∃ L, L = (L47.set 47 (aF (47 : Int32) v6 v14 p4 v43 v52)) := ⟨_, rfl⟩
  rw [← eL48] at A_b56
  have FL48 : Fill (fun q => aF (Int32.ofNat q) v6 v14 p4 v43 v52) 48 L48 := by rw [eL48]; exact fillS FL47 (by decide) rfl
  refine C.aload (pc' := 1010) at_1008 rfl rfl rfl ?_
  refine C.bipush (v := 48) (pc' := 1012) at_1010 rfl rfl ?_
  refine C.bipush (v := 48) (pc' := 1014) at_1012 rfl rfl ?_
  refine C.iload (pc' := 1016) at_1014 rfl rfl ?_
  refine C.iload (pc' := 1018) at_1016 rfl rfl ?_
  refine C.iload (pc' := 1020) at_1018 rfl rfl ?_
  refine C.iload (pc' := 1022) at_1020 rfl rfl ?_
  refine C.iload (pc' := 1024) at_1022 rfl rfl ?_
  refine C.calls (w := 2) (own_rm3 l Z a0 hw n0 h1007 (48 : Int32) v6 v14 p4 v43 v52) (ow9 hw) (ow10 hw) (ow11 hw) (ow12 hw) (pc' := 1027) at_1024 rfl rfl rfl (by decide) pd__IIIIII_I rfl (by decide) (Nat.le_of_eq rfl) (by decide) (by decide) (by decide) (kIe ?_)
  refine C.stAI (i := 48) A_b56 (by decide) (by rw [FL48.1]; decide) g_b56 (pc' := 1028) at_1027 rfl (fun h1027 X1027 B1027 => ?_)
  have A_b56 : AI Z h1027 b56 (L48.set 48 (aF (48 : Int32) v6 v14 p4 v43 v52)) := B1027
  replace K := K.wr X1027 (Or.inr sz_b56)
  obtain ⟨L49, eL49⟩ : ∃ L, L = (L48.set 48 (aF (48 : Int32) v6 v14 p4 v43 v52)) := ⟨_, rfl⟩
  rw [← eL49] at A_b56
  have FL49 : Fill (fun q => aF (Int32.ofNat q) v6 v14 p4 v43 v52) 49 L49 := by rw [eL49]; exact fillS FL48 (by decide) rfl
  refine C.aload (pc' := 1030) at_1028 rfl rfl rfl ?_
  refine C.bipush (v := 49) (pc' := 1032) at_1030 rfl rfl ?_
  refine C.bipush (v := 49) (pc' := 1034) at_1032 rfl rfl ?_
  refine C.iload (pc' := 1036) at_1034 rfl rfl ?_
  refine C.iload (pc' := 1038) at_1036 rfl rfl ?_
  refine C.iload (pc' := 1040) at_1038 rfl rfl ?_
  refine C.iload (pc' := 1042) at_1040 rfl rfl ?_
  refine C.iload (pc' := 1044) at_1042 rfl rfl ?_
  refine C.calls (w := 2) (own_rm3 l Z a0 hw n0 h1027 (49 : Int32) v6 v14 p4 v43 v52) (ow9 hw) (ow10 hw) (ow11 hw) (ow12 hw) (pc' := 1047) at_1044 rfl rfl rfl (by decide) pd__IIIIII_I rfl (by decide) (Nat.le_of_eq rfl) (by decide) (by decide) (by decide) (kIe ?_)
  refine C.stAI (i := 49) A_b56 (by decide) (by rw [FL49.1]; decide) g_b56 (pc' := 1048) at_1047 rfl (fun h1047 X1047 B1047 => ?_)
  have A_b56 : AI Z h1047 b56 (L49.set 49 (aF (49 : Int32) v6 v14 p4 v43 v52)) := B1047
  replace K := K.wr X1047 (Or.inr sz_b56)
  obtain ⟨L50, eL50⟩ : ∃ L, L = (L49.set 49 (aF (49 : Int32) v6 v14 p4 v43 v52)) := ⟨_, rfl⟩
  rw [← eL50] at A_b56
  have FL50 : Fill (fun q => aF (Int32.ofNat q) v6 v14 p4 v43 v52) 50 L50 := by rw [eL50]; exact fillS FL49 (by decide) rfl
  refine C.aload (pc' := 1050) at_1048 rfl rfl rfl ?_
  refine C.bipush (v := 50) (pc' := 1052) at_1050 rfl rfl ?_
  refine C.bipush (v := 50) (pc' := 1054) at_1052 rfl rfl ?_
  refine C.iload (pc' := 1056) at_1054 rfl rfl ?_
  refine C.iload (pc' := 1058) at_1056 rfl rfl ?_
  refine C.iload (pc' := 1060) at_1058 rfl rfl ?_
  refine C.iload (pc' := 1062) at_1060 rfl rfl ?_
  refine C.iload (pc' := 1064) at_1062 rfl rfl ?_
  refine C.calls (w := 2) (own_rm3 l Z a0 hw n0 h1047 (50 : Int32) v6 v14 p4 v43 v52) (ow9 hw) (ow10 hw) (ow11 hw) (ow12 hw) (pc' := 1067) at_1064 rfl rfl rfl (by decide) pd__IIIIII_I rfl (by decide) (Nat.le_of_eq rfl) (by decide) (by decide) (by decide) (kIe ?_)
  refine C.stAI (i := 50) A_b56 (by decide) (by rw [FL50.1]; decide) g_b56 (pc' := 1068) at_1067 rfl (fun h1067 X1067 B1067 => ?_)
  have A_b56 : AI Z h1067 b56 (L50.set 50 (aF (50 : Int32) v6 v14 p4 v43 v52)) := B1067
  replace K := K.wr X1067 (Or.inr sz_b56)
  obtain ⟨L51, eL51⟩ : ∃ L, L = (L50.set 50 (aF (50 : Int32) v6 v14 p4 v43 v52)) := ⟨_, rfl⟩
  rw [← eL51] at A_b56
  have FL51 : Fill (fun q => aF (Int32.ofNat q) v6 v14 p4 v43 v52) 51 L51 := by rw [eL51]; exact fillS FL50 (by decide) rfl
  refine C.aload (pc' := 1070) at_1068 rfl rfl rfl ?_
  refine C.bipush (v := 51) (pc' := 1072) at_1070 rfl rfl ?_
  refine C.bipush (v := 51) (pc' := 1074) at_1072 rfl rfl ?_
  refine C.iload (pc' := 1076) at_1074 rfl rfl ?_
  refine C.iload (pc' := 1078) at_1076 rfl rfl ?_
  refine C.iload (pc' := 1080) at_1078 rfl rfl ?_
  refine C.iload (pc' := 1082) at_1080 rfl rfl ?_
  refine C.iload (pc' := 1084) at_1082 rfl rfl ?_
  refine C.calls (w := 2) (own_rm3 l Z a0 hw n0 h1067 (51 : Int32) v6 v14 p4 v43 v52) (ow9 hw) (ow10 hw) (ow11 hw) (ow12 hw) (pc' := 1087) at_1084 rfl rfl rfl (by decide) pd__IIIIII_I rfl (by decide) (Nat.le_of_eq rfl) (by decide) (by decide) (by decide) (kIe ?_)
  refine C.stAI (i := 51) A_b56 (by decide) (by rw [FL51.1]; decide) g_b56 (pc' := 1088) at_1087 rfl (fun h1087 X1087 B1087 => ?_)
  have A_b56 : AI Z h1087 b56 (L51.set 51 (aF (51 : Int32) v6 v14 p4 v43 v52)) := B1087
  replace K := K.wr X1087 (Or.inr sz_b56)
  obtain ⟨L52, eL52⟩ : ∃ L, L = (L51.set 51 (aF (51 : Int32) v6 v14 p4 v43 v52)) := ⟨_, rfl⟩
  rw [← eL52] at A_b56
  have FL52 : Fill (fun q => aF (Int32.ofNat q) v6 v14 p4 v43 v52) 52 L52 := by rw [eL52]; exact fillS FL51 (by decide) rfl
  refine C.aload (pc' := 1090) at_1088 rfl rfl rfl ?_
  refine C.bipush (v := 52) (pc' := 1092) at_1090 rfl rfl ?_
  refine C.bipush (v := 52) (pc' := 1094) at_1092 rfl rfl ?_
  refine C.iload (pc' := 1096) at_1094 rfl rfl ?_
  refine C.iload (pc' := 1098) at_1096 rfl rfl ?_
  refine C.iload (pc' := 1100) at_1098 rfl rfl ?_
  refine C.iload (pc' := 1102) at_1100 rfl rfl ?_
  refine C.iload (pc' := 1104) at_1102 rfl rfl ?_
  refine C.calls (w := 2) (own_rm3 l Z a0 hw n0 h1087 (52 : Int32) v6 v14 p4 v43 v52) (ow9 hw) (ow10 hw) (ow11 hw) (ow12 hw) (pc' := 1107) at_1104 rfl rfl rfl (by decide) pd__IIIIII_I rfl (by decide) (Nat.le_of_eq rfl) (by decide) (by decide) (by decide) (kIe ?_)
  refine C.stAI (i := 52) A_b56 (by decide) (by rw [FL52.1]; decide) g_b56 (pc' := 1108) at_1107 rfl (fun h1107 X1107 B1107 => ?_)
  have A_b56 : AI Z h1107 b56 (L52.set 52 (aF (52 : Int32) v6 v14 p4 v43 v52)) := B1107
  replace K := K.wr X1107 (Or.inr sz_b56)
  obtain ⟨L53, eL53⟩ : ∃ L, L = (L52.set 52 (aF (52 : Int32) v6 v14 p4 v43 v52)) := ⟨_, rfl⟩
  rw [← eL53] at A_b56
  have FL53 : Fill (fun q => aF (Int32.ofNat q) v6 v14 p4 v43 v52) 53 L53 := by rw [eL53]; exact fillS FL52 (by decide) rfl
  refine C.aload (pc' := 1110) at_1108 rfl rfl rfl ?_
  refine C.bipush (v := 53) (pc' := 1112) at_1110 rfl rfl ?_
  refine C.bipush (v := 53) (pc' := 1114) at_1112 rfl rfl ?_
  refine C.iload (pc' := 1116) at_1114 rfl rfl ?_
  refine C.iload (pc' := 1118) at_1116 rfl rfl ?_
  refine C.iload (pc' := 1120) at_1118 rfl rfl ?_
  refine C.iload (pc' := 1122) at_1120 rfl rfl ?_
  refine C.iload (pc' := 1124) at_1122 rfl rfl ?_
  refine C.calls (w := 2) (own_rm3 l Z a0 hw n0 h1107 (53 : Int32) v6 v14 p4 v43 v52) (ow9 hw) (ow10 hw) (ow11 hw) (ow12 hw) (pc' := 1127) at_1124 rfl rfl rfl (by decide) pd__IIIIII_I rfl (by decide) (Nat.le_of_eq rfl) (by decide) (by decide) (by decide) (kIe ?_)
  refine C.stAI (i := 53) A_b56 (by decide) (by rw [FL53.1]; decide) g_b56 (pc' := 1128) at_1127 rfl (fun h1127 X1127 B1127 => ?_)
  have A_b56 : AI Z h1127 b56 (L53.set 53 (aF (53 : Int32) v6 v14 p4 v43 v52)) := B1127
  replace K := K.wr X1127 (Or.inr sz_b56)
  obtain ⟨L54, eL54⟩ : ∃ L, L = (L53.set 53 (aF (53 : Int32) v6 v14 p4 v43 v52)) := ⟨_, rfl⟩
  rw [← eL54] at A_b56
  have FL54 : Fill (fun q => aF (Int32.ofNat q) v6 v14 p4 v43 v52) 54 L54 := by rw [eL54]; exact fillS FL53 (by decide) rfl
  refine C.aload (pc' := 1130) at_1128 rfl rfl rfl ?_
  refine C.bipush (v := 54) (pc' := 1132) at_1130 rfl rfl ?_
  refine C.bipush (v := 54) (pc' := 1134) at_1132 rfl rfl ?_
  refine C.iload (pc' := 1136) at_1134 rfl rfl ?_
  refine C.iload (pc' := 1138) at_1136 rfl rfl ?_
  refine C.iload (pc' := 1140) at_1138 rfl rfl ?_
  refine C.iload (pc' := 1142) at_1140 rfl rfl ?_
  refine C.iload (pc' := 1144) at_1142 rfl rfl ?_
  refine C.calls (w := 2) (own_rm3 l Z a0 hw n0 h1127 (54 : Int32) v6 v14 p4 v43 v52) (ow9 hw) (ow10 hw) (ow11 hw) (ow12 hw) (pc' := 1147) at_1144 rfl rfl rfl (by decide) pd__IIIIII_I rfl (by decide) (Nat.le_of_eq rfl) (by decide) (by decide) (by decide) (kIe ?_)
  refine C.stAI (i := 54) A_b56 (by decide) (by rw [FL54.1]; decide) g_b56 (pc' := 1148) at_1147 rfl (fun h1147 X1147 B1147 => ?_)
  have A_b56 : AI Z h1147 b56 (L54.set 54 (aF (54 : Int32) v6 v14 p4 v43 v52)) := B1147
  replace K := K.wr X1147 (Or.inr sz_b56)
  obtain ⟨L55, eL55⟩ : ∃ L, L = (L54.set 54 (aF (54 : Int32) v6 v14 p4 v43 v52)) := ⟨_, rfl⟩
  rw [← eL55] at A_b56
  have FL55 : Fill (fun q => aF (Int32.ofNat q) v6 v14 p4 v43 v52) 55 L55 := by rw [eL55]; exact fillS FL54 (by decide) rfl
  refine C.aload (pc' := 1150) at_1148 rfl rfl rfl ?_
  refine C.bipush (v := 55) (pc' := 1152) at_1150 rfl rfl ?_
  refine C.bipush (v := 55) (pc' := 1154) at_1152 rfl rfl ?_
  refine C.iload (pc' := 1156) at_1154 rfl rfl ?_
  refine C.iload (pc' := 1158) at_1156 rfl rfl ?_
  refine C.iload (pc' := 1160) at_1158 rfl rfl ?_
  refine C.iload (pc' := 1162) at_1160 rfl rfl ?_
  refine C.iload (pc' := 1164) at_1162 rfl rfl ?_
  refine C.calls (w := 2) (own_rm3 l Z a0 hw n0 h1147 (55 : Int32) v6 v14 p4 v43 v52) (ow9 hw) (ow10 hw) (ow11 hw) (ow12 hw) (pc' := 1167) at_1164 rfl rfl rfl (by decide) pd__IIIIII_I rfl (by decide) (Nat.le_of_eq rfl) (by decide) (by decide) (by decide) (kIe ?_)
  refine C.stAI (i := 55) A_b56 (by decide) (by rw [FL55.1]; decide) g_b56 (pc' := 1168) at_1167 rfl (fun h1167 X1167 B1167 => ?_)
  have A_b56 : AI Z h1167 b56 (L55.set 55 (aF (55 : Int32) v6 v14 p4 v43 v52)) := B1167
  replace K := K.wr X1167 (Or.inr sz_b56)
  obtain ⟨L56, eL56⟩ : ∃ L, L = (L55.set 55 (aF (55 : Int32) v6 v14 p4 v43 v52)) := ⟨_, rfl⟩
  rw [← eL56] at A_b56
  have FL56 : Fill (fun q => aF (Int32.ofNat q) v6 v14 p4 v43 v52) 56 L56 := by rw [eL56]; exact fillS FL55 (by decide) rfl
  refine C.aload (pc' := 1170) at_1168 rfl rfl rfl ?_
  refine C.bipush (v := 56) (pc' := 1172) at_1170 rfl rfl ?_
  refine C.bipush (v := 56) (pc' := 1174) at_1172 rfl rfl ?_
  refine C.iload (pc' := 1176) at_1174 rfl rfl ?_
  refine C.iload (pc' := 1178) at_1176 rfl rfl ?_
  refine C.iload (pc' := 1180) at_1178 rfl rfl ?_
  refine C.iload (pc' := 1182) at_1180 rfl rfl ?_
  refine C.iload (pc' := 1184) at_1182 rfl rfl ?_
  refine C.calls (w := 2) (own_rm3 l Z a0 hw n0 h1167 (56 : Int32) v6 v14 p4 v43 v52) (ow9 hw) (ow10 hw) (ow11 hw) (ow12 hw) (pc' := 1187) at_1184 rfl rfl rfl (by decide) pd__IIIIII_I rfl (by decide) (Nat.le_of_eq rfl) (by decide) (by decide) (by decide) (kIe ?_)
  refine C.stAI (i := 56) A_b56 (by decide) (by rw [FL56.1]; decide) g_b56 (pc' := 1188) at_1187 rfl (fun h1187 X1187 B1187 => ?_)
  have A_b56 : AI Z h1187 b56 (L56.set 56 (aF (56 : Int32) v6 v14 p4 v43 v52)) := B1187
  replace K := K.wr X1187 (Or.inr sz_b56)
  obtain ⟨L57, eL57⟩ : ∃ L, L = (L56.set 56 (aF (56 : Int32) v6 v14 p4 v43 v52)) := ⟨_, rfl⟩
  rw [← eL57] at A_b56
  have FL57 : Fill (fun q => aF (Int32.ofNat q) v6 v14 p4 v43 v52) 57 L57 := by rw [eL57]; exact fillS FL56 (by decide) rfl
  refine C.aload (pc' := 1190) at_1188 rfl rfl rfl ?_
  refine C.bipush (v := 57) (pc' := 1192) at_1190 rfl rfl ?_
  refine C.bipush (v := 57) (pc' := 1194) at_1192 rfl rfl ?_
  refine C.iload (pc' := 1196) at_1194 rfl rfl ?_
  refine C.iload (pc' := 1198) at_1196 rfl rfl ?_
  refine C.iload (pc' := 1200) at_1198 rfl rfl ?_
  refine C.iload (pc' := 1202) at_1200 rfl rfl ?_
  refine C.iload (pc' := 1204) at_1202 rfl rfl ?_
  refine C.calls (w := 2) (own_rm3 l Z a0 hw n0 h1187 (57 : Int32) v6 v14 p4 v43 v52) (ow9 hw) (ow10 hw) (ow11 hw) (ow12 hw) (pc' := 1207) at_1204 rfl rfl rfl (by decide) pd__IIIIII_I rfl (by decide) (Nat.le_of_eq rfl) (by decide) (by decide) (by decide) (kIe ?_)
  refine C.stAI (i := 57) A_b56 (by decide) (by rw [FL57.1]; decide) g_b56 (pc' := 1208) at_1207 rfl (fun h1207 X1207 B1207 => ?_)
  have A_b56 : AI Z h1207 b56 (L57.set 57 (aF (57 : Int32) v6 v14 p4 v43 v52)) := B1207
  replace K := K.wr X1207 (Or.inr sz_b56)
  obtain ⟨L58, eL58⟩ : ∃ L, L = (L57.set 57 (aF (57 : Int32) v6 v14 p4 v43 v52)) := ⟨_, rfl⟩
  rw [← eL58] at A_b56
  have FL58 : Fill (fun q => aF (Int32.ofNat q) v6 v14 p4 v43 v52) 58 L58 := by rw [eL58]; exact fillS FL57 (by decide) rfl
  refine C.aload (pc' := 1210) at_1208 rfl rfl rfl ?_
  refine C.bipush (v := 58) (pc' := 1212) at_1210 rfl rfl ?_
  refine C.bipush (v := 58) (pc' := 1214) at_1212 rfl rfl ?_
  refine C.iload (pc' := 1216) at_1214 rfl rfl ?_
  refine C.iload (pc' := 1218) at_1216 rfl rfl ?_
  refine C.iload (pc' := 1220) at_1218 rfl rfl ?_
  refine C.iload (pc' := 1222) at_1220 rfl rfl ?_
  refine C.iload (pc' := 1224) at_1222 rfl rfl ?_
  refine C.calls (w := 2) (own_rm3 l Z a0 hw n0 h1207 (58 : Int32) v6 v14 p4 v43 v52) (ow9 hw) (ow10 hw) (ow11 hw) (ow12 hw) (pc' := 1227) at_1224 rfl rfl rfl (by decide) pd__IIIIII_I rfl (by decide) (Nat.le_of_eq rfl) (by decide) (by decide) (by decide) (kIe ?_)
  refine C.stAI (i := 58) A_b56 (by decide) (by rw [FL58.1]; decide) g_b56 (pc' := 1228) at_1227 rfl (fun h1227 X1227 B1227 => ?_)
  have A_b56 : AI Z h1227 b56 (L58.set 58 (aF (58 : Int32) v6 v14 p4 v43 v52)) := B1227
  replace K := K.wr X1227 (Or.inr sz_b56)
  obtain ⟨L59, eL59⟩ : ∃ L, L = (L58.set 58 (aF (58 : Int32) v6 v14 p4 v43 v52)) := ⟨_, rfl⟩
  rw [← eL59] at A_b56
  have FL59 : Fill (fun q => aF (Int32.ofNat q) v6 v14 p4 v43 v52) 59 L59 := by rw [eL59]; exact fillS FL58 (by decide) rfl
  refine C.aload (pc' := 1230) at_1228 rfl rfl rfl ?_
  refine C.bipush (v := 59) (pc' := 1232) at_1230 rfl rfl ?_
  refine C.bipush (v := 59) (pc' := 1234) at_1232 rfl rfl ?_
  refine C.iload (pc' := 1236) at_1234 rfl rfl ?_
  refine C.iload (pc' := 1238) at_1236 rfl rfl ?_
  refine C.iload (pc' := 1240) at_1238 rfl rfl ?_
  refine C.iload (pc' := 1242) at_1240 rfl rfl ?_
  refine C.iload (pc' := 1244) at_1242 rfl rfl ?_
  refine C.calls (w := 2) (own_rm3 l Z a0 hw n0 h1227 (59 : Int32) v6 v14 p4 v43 v52) (ow9 hw) (ow10 hw) (ow11 hw) (ow12 hw) (pc' := 1247) at_1244 rfl rfl rfl (by decide) pd__IIIIII_I rfl (by decide) (Nat.le_of_eq rfl) (by decide) (by decide) (by decide) (kIe ?_)
  refine C.stAI (i := 59) A_b56 (by decide) (by rw [FL59.1]; decide) g_b56 (pc' := 1248) at_1247 rfl (fun h1247 X1247 B1247 => ?_)
  have A_b56 : AI Z h1247 b56 (L59.set 59 (aF (59 : Int32) v6 v14 p4 v43 v52)) := B1247
  replace K := K.wr X1247 (Or.inr sz_b56)
  obtain ⟨L60, eL60⟩ : ∃ L, L = (L59.set 59 (aF (59 : Int32) v6 v14 p4 v43 v52)) := ⟨_, rfl⟩
  rw [← eL60] at A_b56
  have FL60 : Fill (fun q => aF (Int32.ofNat q) v6 v14 p4 v43 v52) 60 L60 := by rw [eL60]; exact fillS FL59 (by decide) rfl
  refine C.aload (pc' := 1250) at_1248 rfl rfl rfl ?_
  refine C.bipush (v := 60) (pc' := 1252) at_1250 rfl rfl ?_
  refine C.bipush (v := 60) (pc' := 1254) at_1252 rfl rfl ?_
  refine C.iload (pc' := 1256) at_1254 rfl rfl ?_
  refine C.iload (pc' := 1258) at_1256 rfl rfl ?_
  refine C.iload (pc' := 1260) at_1258 rfl rfl ?_
  refine C.iload (pc' := 1262) at_1260 rfl rfl ?_
  refine C.iload (pc' := 1264) at_1262 rfl rfl ?_
  refine C.calls (w := 2) (own_rm3 l Z a0 hw n0 h1247 (60 : Int32) v6 v14 p4 v43 v52) (ow9 hw) (ow10 hw) (ow11 hw) (ow12 hw) (pc' := 1267) at_1264 rfl rfl rfl (by decide) pd__IIIIII_I rfl (by decide) (Nat.le_of_eq rfl) (by decide) (by decide) (by decide) (kIe ?_)
  refine C.stAI (i := 60) A_b56 (by decide) (by rw [FL60.1]; decide) g_b56 (pc' := 1268) at_1267 rfl (fun h1267 X1267 B1267 => ?_)
  have A_b56 : AI Z h1267 b56 (L60.set 60 (aF (60 : Int32) v6 v14 p4 v43 v52)) := B1267
  replace K := K.wr X1267 (Or.inr sz_b56)
  obtain ⟨L61, eL61⟩ : ∃ L, L = (L60.set 60 (aF (60 : Int32) v6 v14 p4 v43 v52)) := ⟨_, rfl⟩
  rw [← eL61] at A_b56
  have FL61 : Fill (fun q => aF (Int32.ofNat q) v6 v14 p4 v43 v52) 61 L61 := by rw [eL61]; exact fillS FL60 (by decide) rfl
  refine C.aload (pc' := 1270) at_1268 rfl rfl rfl ?_
  refine C.bipush (v := 61) (pc' := 1272) at_1270 rfl rfl ?_
  refine C.bipush (v := 61) (pc' := 1274) at_1272 rfl rfl ?_
  refine C.iload (pc' := 1276) at_1274 rfl rfl ?_
  refine C.iload (pc' := 1278) at_1276 rfl rfl ?_
  refine C.iload (pc' := 1280) at_1278 rfl rfl ?_
  refine C.iload (pc' := 1282) at_1280 rfl rfl ?_
  refine C.iload (pc' := 1284) at_1282 rfl rfl ?_
  refine C.calls (w := 2) (own_rm3 l Z a0 hw n0 h1267 (61 : Int32) v6 v14 p4 v43 v52) (ow9 hw) (ow10 hw) (ow11 hw) (ow12 hw) (pc' := 1287) at_1284 rfl rfl rfl (by decide) pd__IIIIII_I rfl (by decide) (Nat.le_of_eq rfl) (by decide) (by decide) (by decide) (kIe ?_)
  refine C.stAI (i := 61) A_b56 (by decide) (by rw [FL61.1]; decide) g_b56 (pc' := 1288) at_1287 rfl (fun h1287 X1287 B1287 => ?_)
  have A_b56 : AI Z h1287 b56 (L61.set 61 (aF (61 : Int32) v6 v14 p4 v43 v52)) := B1287
  replace K := K.wr X1287 (Or.inr sz_b56)
  obtain ⟨L62, eL62⟩ : ∃ L, L = (L61.set 61 (aF (61 : Int32) v6 v14 p4 v43 v52)) := ⟨_, rfl⟩
  rw [← eL62] at A_b56
  have FL62 : Fill (fun q => aF (Int32.ofNat q) v6 v14 p4 v43 v52) 62 L62 := by rw [eL62]; exact fillS FL61 (by decide) rfl
  refine C.aload (pc' := 1290) at_1288 rfl rfl rfl ?_
  refine C.bipush (v := 62) (pc' := 1292) at_1290 rfl rfl ?_
  refine C.bipush (v := 62) (pc' := 1294) at_1292 rfl rfl ?_
  refine C.iload (pc' := 1296) at_1294 rfl rfl ?_
  refine C.iload (pc' := 1298) at_1296 rfl rfl ?_
  refine C.iload (pc' := 1300) at_1298 rfl rfl ?_
  refine C.iload (pc' := 1302) at_1300 rfl rfl ?_
  refine C.iload (pc' := 1304) at_1302 rfl rfl ?_
  refine C.calls (w := 2) (own_rm3 l Z a0 hw n0 h1287 (62 : Int32) v6 v14 p4 v43 v52) (ow9 hw) (ow10 hw) (ow11 hw) (ow12 hw) (pc' := 1307) at_1304 rfl rfl rfl (by decide) pd__IIIIII_I rfl (by decide) (Nat.le_of_eq rfl) (by decide) (by decide) (by decide) (kIe ?_)
  refine C.stAI (i := 62) A_b56 (by decide) (by rw [FL62.1]; decide) g_b56 (pc' := 1308) at_1307 rfl (fun h1307 X1307 B1307 => ?_)
  have A_b56 : AI Z h1307 b56 (L62.set 62 (aF (62 : Int32) v6 v14 p4 v43 v52)) := B1307
  replace K := K.wr X1307 (Or.inr sz_b56)
  obtain ⟨L63, eL63⟩ : ∃ L, L = (L62.set 62 (aF (62 : Int32) v6 v14 p4 v43 v52)) := ⟨_, rfl⟩
  rw [← eL63] at A_b56
  have FL63 : Fill (fun q => aF (Int32.ofNat q) v6 v14 p4 v43 v52) 63 L63 := by rw [eL63]; exact fillS FL62 (by decide) rfl
  refine C.aload (pc' := 1310) at_1308 rfl rfl rfl ?_
  refine C.bipush (v := 63) (pc' := 1312) at_1310 rfl rfl ?_
  refine C.bipush (v := 63) (pc' := 1314) at_1312 rfl rfl ?_
  refine C.iload (pc' := 1316) at_1314 rfl rfl ?_
  refine C.iload (pc' := 1318) at_1316 rfl rfl ?_
  refine C.iload (pc' := 1320) at_1318 rfl rfl ?_
  refine C.iload (pc' := 1322) at_1320 rfl rfl ?_
  refine C.iload (pc' := 1324) at_1322 rfl rfl ?_
  refine C.calls (w := 2) (own_rm3 l Z a0 hw n0 h1307 (63 : Int32) v6 v14 p4 v43 v52) (ow9 hw) (ow10 hw) (ow11 hw) (ow12 hw) (pc' := 1327) at_1324 rfl rfl rfl (by decide) pd__IIIIII_I rfl (by decide) (Nat.le_of_eq rfl) (by decide) (by decide) (by decide) (kIe ?_)
  refine C.stAI (i := 63) A_b56 (by decide) (by rw [FL63.1]; decide) g_b56 (pc' := 1328) at_1327 rfl (fun h1327 X1327 B1327 => ?_)
  have A_b56 : AI Z h1327 b56 (L63.set 63 (aF (63 : Int32) v6 v14 p4 v43 v52)) := B1327
  replace K := K.wr X1327 (Or.inr sz_b56)
  obtain ⟨L64, eL64⟩ : ∃ L, L = (L63.set 63 (aF (63 : Int32) v6 v14 p4 v43 v52)) := ⟨_, rfl⟩
  rw [← eL64] at A_b56
  have FL64 : Fill (fun q => aF (Int32.ofNat q) v6 v14 p4 v43 v52) 64 L64 := by rw [eL64]; exact fillS FL63 (by decide) rfl
  have hok := fill_ok FL64 (own_rng (own_lohi (own_65 e24) (own_65 e34) e43 e52))
  refine C.iloadN (pc' := 1329) at_1328 rfl rfl ?_
  refine C.bipush (v := 63) (pc' := 1331) at_1329 rfl rfl ?_
  refine C.iand (pc' := 1332) at_1331 rfl ?_
  refine C.istore (f := fun v_ => #[.val (.long p1), .second, .val (.int p2), .val (.int p3), .val (.int p4), .val (.int p5), .val (.int p6), .val (.int v6), .val (.int v14), .val (.int v24), .val (.int v34), .val (.int v43), .val (.int v52), .val (.ref b56), .val (.int v_), .unset, .unset, .unset, .unset]) (pc' := 1334) at_1332 rfl (fun _ => rfl) (fun v1332 e1332 => ?_)
  obtain ⟨ix, hix, hlt⟩ := own_ix e1332
  refine C.iloadN (pc' := 1335) at_1334 rfl rfl ?_
  refine C.bipush (v := 6) (pc' := 1337) at_1335 rfl rfl ?_
  refine C.iushr (s := 6) (pc' := 1338) at_1337 rfl (by decide) ?_
  refine C.bipush (v := 63) (pc' := 1340) at_1338 rfl rfl ?_
  refine C.iand (pc' := 1341) at_1340 rfl ?_
  refine C.iconst (v := 1) (pc' := 1342) at_1341 rfl rfl ?_
  refine C.iadd (pc' := 1343) at_1342 rfl ?_
  refine C.istore (f := fun v_ => #[.val (.long p1), .second, .val (.int p2), .val (.int p3), .val (.int p4), .val (.int p5), .val (.int p6), .val (.int v6), .val (.int v14), .val (.int v24), .val (.int v34), .val (.int v43), .val (.int v52), .val (.ref b56), .val (.int v1332), .val (.int v_), .unset, .unset, .unset]) (pc' := 1345) at_1343 rfl (fun _ => rfl) (fun v1343 e1343 => ?_)
  obtain ⟨Pn, hp, hP1, hP⟩ := own_p e1343
  refine C.new (ow13 hw) (ow14 hw) (ow15 hw) (pc' := 1348) at_1345 rfl (by decide) (by decide) (fun h1345 b1345 hb1345 X1345 E_b1345 D1345 => ?_)
  have ne_b56_b1345 : b56 ≠ b1345 := by rw [hb1345]; exact Nat.ne_of_lt A_b56.lt
  have sz_b1345 : hO.size ≤ b1345 := by rw [hb1345]; exact K.1
  have g_b1345 : n0 ≤ b1345 := Nat.le_trans Z0 sz_b1345
  replace A_b56 := A_b56.ext X1345
  replace K := K.ext X1345
  have F_b1345_prefixBits : Fld Z h1345 b1345 "com/example/hyperplane/hyperplane/index/Table" "prefixBits" "I" (.int (0 : Int32)) := D1345 (Or.inr (ow24 hw)) pf_I
  have F_b1345_prefixMask : Fld Z h1345 b1345 "com/example/hyperplane/hyperplane/index/Table" "prefixMask" "J" (.long (0 : Int64)) := D1345 (Or.inr (ow26 hw)) pf_J
  have F_b1345_toTop : Fld Z h1345 b1345 "com/example/hyperplane/hyperplane/index/Table" "toTop" "[I" .null := D1345 (Or.inr (ow28 hw)) pf__I
  have F_b1345_toBottom : Fld Z h1345 b1345 "com/example/hyperplane/hyperplane/index/Table" "toBottom" "[I" .null := D1345 (Or.inr (ow30 hw)) pf__I
  have F_b1345_toPlace : Fld Z h1345 b1345 "com/example/hyperplane/hyperplane/index/Table" "toPlace" "[I" .null := D1345 (Or.inr (ow32 hw)) pf__I
  refine C.dup (pc' := 1349) at_1348 rfl rfl ?_
  refine C.aload (pc' := 1351) at_1349 rfl rfl rfl ?_
  refine C.iload (pc' := 1353) at_1351 rfl rfl ?_
  refine C.callc (w := 1) (own_rm4 l Z a0 hw n0 h1345 b1345 b56 v1343 L64 Pn (Nat.le_trans Z0 K.1) E_b1345 F_b1345_prefixBits F_b1345_prefixMask F_b1345_toTop F_b1345_toBottom F_b1345_toPlace A_b56 g_b1345 (Ne.symm ne_b56_b1345) hok hp hP) rfl (ow16 hw) (ow17 hw) (ow15 hw) (ow18 hw) (pc' := 1356) at_1353 rfl rfl rfl (by decide) pd___II_V rfl (by decide) (Nat.le_of_eq rfl) (by decide) (by decide) (by decide) (kV fun h1353 q1353 => ?_)
  obtain ⟨tt1353, tb1353, tq1353, T1353, B1353, Q1353, p1353_0, K1353, z1353_tt1353, z1353_tb1353, z1353_tq1353, N1353_0, N1353_1, N1353_2, N1353_3, N1353_4, N1353_5, N1353_6⟩ := q1353
  have ne_b56_tt1353 : b56 ≠ tt1353 := Nat.ne_of_lt (Nat.lt_of_lt_of_le A_b56.lt z1353_tt1353)
  have ne_b1345_tt1353 : b1345 ≠ tt1353 := Nat.ne_of_lt (Nat.lt_of_lt_of_le (exaLt E_b1345) z1353_tt1353)
  have sz_tt1353 : hO.size ≤ tt1353 := Nat.le_trans K.1 z1353_tt1353
  have g_tt1353 : n0 ≤ tt1353 := Nat.le_trans Z0 sz_tt1353
  have ne_b56_tb1353 : b56 ≠ tb1353 := Nat.ne_of_lt (Nat.lt_of_lt_of_le A_b56.lt z1353_tb1353)
  have ne_b1345_tb1353 : b1345 ≠ tb1353 := Nat.ne_of_lt (Nat.lt_of_lt_of_le (exaLt E_b1345) z1353_tb1353)
  have sz_tb1353 : hO.size ≤ tb1353 := Nat.le_trans K.1 z1353_tb1353
  have g_tb1353 : n0 ≤ tb1353 := Nat.le_trans Z0 sz_tb1353
  have ne_b56_tq1353 : b56 ≠ tq1353 := Nat.ne_of_lt (Nat.lt_of_lt_of_le A_b56.lt z1353_tq1353)
  have ne_b1345_tq1353 : b1345 ≠ tq1353 := Nat.ne_of_lt (Nat.lt_of_lt_of_le (exaLt E_b1345) z1353_tq1353)
  have sz_tq1353 : hO.size ≤ tq1353 := Nat.le_trans K.1 z1353_tq1353
  have g_tq1353 : n0 ≤ tq1353 := Nat.le_trans Z0 sz_tq1353
  replace A_b56 := A_b56.keep K1353 (ninS ne_b56_b1345 nin0)
  replace E_b1345 := E_b1345.keep K1353
  have F_b1345_prefixMask : Fld Z h1353 b1345 "com/example/hyperplane/hyperplane/index/Table" "prefixMask" "J" (.long (maskL L64 Pn)) := N1353_0
  have F_b1345_toTop : Fld Z h1353 b1345 "com/example/hyperplane/hyperplane/index/Table" "toTop" "[I" (.ref tt1353) := N1353_1
  have F_b1345_toBottom : Fld Z h1353 b1345 "com/example/hyperplane/hyperplane/index/Table" "toBottom" "[I" (.ref tb1353) := N1353_2
  have F_b1345_toPlace : Fld Z h1353 b1345 "com/example/hyperplane/hyperplane/index/Table" "toPlace" "[I" (.ref tq1353) := N1353_3
  have A_tt1353 : AI Z h1353 tt1353 T1353 := N1353_4
  have A_tb1353 : AI Z h1353 tb1353 B1353 := N1353_5
  have A_tq1353 : AI Z h1353 tq1353 Q1353 := N1353_6
  replace K := K.trans K1353 (allS (Or.inr sz_b1345) all0)
  obtain ⟨z, hz⟩ := own_len p1353_0
  refine C.astore (l' := #[.val (.long p1), .second, .val (.int p2), .val (.int p3), .val (.int p4), .val (.int p5), .val (.int p6), .val (.int v6), .val (.int v14), .val (.int v24), .val (.int v34), .val (.int v43), .val (.int v52), .val (.ref b56), .val (.int v1332), .val (.int v1343), .val (.ref b1345), .unset, .unset]) (pc' := 1358) at_1356 rfl rfl rfl ?_
  refine C.aload (pc' := 1360) at_1358 rfl rfl rfl ?_
  refine C.lloadN (pc' := 1361) at_1360 rfl rfl ?_
  refine C.callv (w := 0) (own_rm6 l Z a0 hw n0 h1353 b1345 p1 tt1353 tb1353 tq1353 L64 T1353 B1353 Q1353 z F_b1345_toTop F_b1345_toBottom F_b1345_toPlace A_tt1353 A_tb1353 A_tq1353 hok p1353_0 hz) E_b1345 (ow33 hw) (ow34 hw) (ow36 hw) (ow35 hw) (ow15 hw) (ow37 hw) (pc' := 1364) at_1361 rfl rfl rfl (by decide) pd__J_J rfl (by decide) (Nat.le_of_eq rfl) (by decide) (by decide) (by decide) (kJ0 fun r1361 q1361 => ?_)
  refine C.lstoreX (l' := #[.val (.long p1), .second, .val (.int p2), .val (.int p3), .val (.int p4), .val (.int p5), .val (.int p6), .val (.int v6), .val (.int v14), .val (.int v24), .val (.int v34), .val (.int v43), .val (.int v52), .val (.ref b56), .val (.int v1332), .val (.int v1343), .val (.ref b1345), .val (.long r1361), .second]) (pc' := 1366) at_1364 rfl rfl ?_
  refine C.lload (pc' := 1368) at_1366 rfl rfl ?_
  refine C.iload (pc' := 1370) at_1368 rfl rfl ?_
  refine C.lshl (pc' := 1371) at_1370 rfl rfl ?_
  refine C.lconst (v := 0) (pc' := 1372) at_1371 rfl rfl ?_
  have j1381 : ∀ (s1381_0 : Int32), ((¬ ((shlL r1361 (sh6 v1332)) < (0 : Int64)) ∧ s1381_0 = (0 : Int32)) ∨ ((shlL r1361 (sh6 v1332)) < (0 : Int64) ∧ s1381_0 = (1 : Int32))) → W h1353 6 326 1381 #[.val (.long p1), .second, .val (.int p2), .val (.int p3), .val (.int p4), .val (.int p5), .val (.int p6), .val (.int v6), .val (.int v14), .val (.int v24), .val (.int v34), .val (.int v43), .val (.int v52), .val (.ref b56), .val (.int v1332), .val (.int v1343), .val (.ref b1345), .val (.long r1361), .second] [(.int s1381_0)] := by
    intro s1381_0 x1381
    refine C.lloadN (pc' := 1382) at_1381 rfl rfl ?_
    refine C.aload (pc' := 1384) at_1382 rfl rfl rfl ?_
    refine C.iload (pc' := 1386) at_1384 rfl rfl ?_
    refine C.ldAI (i := ix) (v := (L64.getD ix 0)) A_b56 hix (Jvm.OwnP.getD_some (by rw [hok.1]; exact hlt)) (pc' := 1387) at_1386 rfl ?_
    refine C.lshl (pc' := 1388) at_1387 rfl rfl ?_
    refine C.lconst (v := 0) (pc' := 1389) at_1388 rfl rfl ?_
    have j1398 : ∀ (s1398_0 : Int32), ((¬ ((shlL p1 (sh6 (L64.getD ix 0))) < (0 : Int64)) ∧ s1398_0 = (0 : Int32)) ∨ ((shlL p1 (sh6 (L64.getD ix 0))) < (0 : Int64) ∧ s1398_0 = (1 : Int32))) → W h1353 6 326 1398 #[.val (.long p1), .second, .val (.int p2), .val (.int p3), .val (.int p4), .val (.int p5), .val (.int p6), .val (.int v6), .val (.int v14), .val (.int v24), .val (.int v34), .val (.int v43), .val (.int v52), .val (.ref b56), .val (.int v1332), .val (.int v1343), .val (.ref b1345), .val (.long r1361), .second] [(.int s1398_0), (.int s1381_0)] := by
      intro s1398_0 x1398
      refine C.icmp_ne (pc' := 1401) (pt := 1405) at_1398 rfl rfl (fun c1398 => absurd (own_law hok q1361 hix hlt x1381 x1398) c1398) (fun c1398 => ?_)
      refine C.iconst (v := 1) (pc' := 1402) at_1401 rfl rfl ?_
      refine C.goto (pc' := 1406) at_1402 rfl ?_
      refine C.retZ (show ret = some .boolean from rfl) (by decide) at_1406 (by decide) (by decide) ⟨_, rfl, rfl⟩
    refine C.lif_ge (pc' := 1393) (pt := 1397) at_1389 rfl at_1390 rfl rfl (fun c1389 => ?_) (fun c1389 => ?_)
    · skip
      refine C.iconst (v := 0) (pc' := 1398) at_1397 rfl rfl ?_
      exact C.mono (by decide) (by decide) (j1398 _ (Or.inl ⟨c1389, rfl⟩))
    · skip
      refine C.iconst (v := 1) (pc' := 1394) at_1393 rfl rfl ?_
      refine C.goto (pc' := 1398) at_1394 rfl ?_
      exact C.mono (by decide) (by decide) (j1398 _ (Or.inr ⟨c1389, rfl⟩))
  refine C.lif_ge (pc' := 1376) (pt := 1380) at_1372 rfl at_1373 rfl rfl (fun c1372 => ?_) (fun c1372 => ?_)
  · skip
    refine C.iconst (v := 0) (pc' := 1381) at_1380 rfl rfl ?_
    exact C.mono (by decide) (by decide) (j1381 _ (Or.inl ⟨c1372, rfl⟩))
  · skip
    refine C.iconst (v := 1) (pc' := 1377) at_1376 rfl rfl ?_
    refine C.goto (pc' := 1381) at_1377 rfl ?_
    exact C.mono (by decide) (by decide) (j1381 _ (Or.inr ⟨c1372, rfl⟩))
set_option maxRecDepth 65536 in
set_option maxHeartbeats 40000000 in
theorem comes_1 {Post : Tables → Env → Array Value → State → Outcome → State → Prop} (hpost : ∀ tb e args s v u, (limb_1_1.after args s (.returned v) u = true ∧ limb_1_2.after args s (.returned v) u = true ∧ True) → FrameEnd s (.returned v) u (Jvm.fieldLocs frame_1_writes args s ++ Jvm.arrayLocs frame_1_arrays args s ++ Jvm.staticLocs frame_1_statics s) 24 768 → Post tb e args s (.returned v) u) :
    ArmFor flags0 classFile x code maxLocals ret World_1 tables_1 room_1 Calls_1 rest_1 Pre_1 Post := by
  intro l hfl _ _ p e ha hc hk s m args below hf hA hF happ hP
  obtain ⟨hcalls, hrest, hpre⟩ := hP
  obtain ⟨-, -, -, hnamed, -, -, -, hat⟩ := (Spec.applies_iff hf).mp happ
  obtain ⟨hg, hn⟩ := and_e (Cond.before_iff.mp (show (Jvm.Cond.and given_1 narrow_1).before args s = true from hpre))
  obtain ⟨g0, t0⟩ := and_e hg
  obtain ⟨k0, t1⟩ := and_e t0
  obtain ⟨k1, t2⟩ := and_e t1
  obtain ⟨k2, t3⟩ := and_e t2
  obtain ⟨k3, t4⟩ := and_e t3
  obtain ⟨k4, t5⟩ := and_e t4
  obtain ⟨w0_, w1_, w2_, w3_, w4_, w5_, rfl⟩ : ∃ w0_ w1_ w2_ w3_ w4_ w5_ : Value, args = #[w0_, w1_, w2_, w3_, w4_, w5_] := by
    have hs : args.size = 6 := by simpa [Cond.value, given_1] using g0
    obtain ⟨L⟩ := args
    match L, hs with
    | [w0_, w1_, w2_, w3_, w4_, w5_], _ => exact ⟨w0_, w1_, w2_, w3_, w4_, w5_, rfl⟩
  have hw := fun d (hd : d ∈ tables_1) => atoms_spec (ws := Jvm.Cond.code x code maxLocals ret :: tables_1) hat d (List.mem_cons_of_mem _ hd)
  obtain ⟨i0_, e0_⟩ := isL_v k0
  obtain rfl : w0_ = (.long i0_) := Option.some.inj e0_
  obtain ⟨i1_, e1_⟩ := is_v k1
  obtain rfl : w1_ = (.int i1_) := Option.some.inj e1_
  obtain ⟨i2_, e2_⟩ := is_v k2
  obtain rfl : w2_ = (.int i2_) := Option.some.inj e2_
  obtain ⟨i3_, e3_⟩ := is_v k3
  obtain rfl : w3_ = (.int i3_) := Option.some.inj e3_
  obtain ⟨i4_, e4_⟩ := is_v k4
  obtain rfl : w4_ = (.int i4_) := Option.some.inj e4_
  obtain ⟨i5_, e5_⟩ := is_v t5
  obtain rfl : w5_ = (.int i5_) := Option.some.inj e5_
  obtain ⟨n, o, h1, h2, h3, _, L, rfl, ⟨N, _, rfl, rfl⟩, hq⟩ := own_rm0 l s _ hw s.heap.size s.heap i0_ i1_ i2_ i3_ i4_ i5_  (Nat.le_refl _)  tables_1 p e ha hc hk s m _ below hf ((Spec.applies_iff_loose hf).mp happ).1 ⟨rfl, State.Warmed39.refl s, rfl⟩ trivial
  refine ⟨n, _, h1, h2, h3, hpost _ _ _ _ _ _ ⟨Cond.after_iff.mpr rfl, Cond.after_iff.mpr (eq_i res_at (Term.int_eval (1)) rfl), trivial⟩ ⟨hq.1, hq.2.1, (hq.2.2.sift fun y hy => Or.inr (N y hy)).mono (by decide) (by decide)⟩⟩
theorem main_1_1 : Claimed_1_1 := comes_1 fun _ _ _ _ _ _ h hF => ⟨h.1, hF⟩
theorem main_1_2 : Claimed_1_2 := comes_1 fun _ _ _ _ _ _ h hF => ⟨h.2.1, hF⟩
end Jvm.Pilot.@@N@@
namespace Jvm.Pilot.@@N@@
open Jvm Jvm.ClassFile Sem Op Lib Jvm.Free Jvm.Stand Jvm.Pilot.@@N@@.Jvm.D
/-! MADE BY PROGRAM (witnessworld.py) out of the Statement's table words and the real class files: 10 classes; the members and pool entries that the words name. The judged class is class 1, her method 2. -/
namespace start1
open Jvm.ClassFile
def u (s : String) : CpInfo := .utf8 (stringToUtf16 s)
/-- a pool by its gaps: so many unusable entries, then the entry; so many at the end -/
def gap : Nat → List CpInfo → List CpInfo
  | 0, r => r
  | n + 1, r => .unusable :: gap n r
def poolList (es : List (Nat × CpInfo)) (last : Nat) : List CpInfo := es.foldr (fun e r => gap e.1 (e.2 :: r)) (gap last [])
def pool (es : List (Nat × CpInfo)) (last : Nat) : Array CpInfo := ⟨poolList es last⟩
def fileOf (pool : Array CpInfo) (this : Nat) (attrs : Array Attribute := #[]) (ms : Array MethodInfo := #[]) (fl : Nat := 33) (sup : Nat := 0) (ifs : Array Nat := #[]) (fds : Array FieldInfo := #[]) : ClassFile where
  minorVersion := 0
  majorVersion := 65
  constantPool := pool
  accessFlags := fl
  thisClass := this
  superClass := sup
  interfaces := ifs
  fields := fds
  methods := ms
  attributes := attrs
def plain (name : String) (sup : Option ClassId) : Class where
  name := name
  kind := .ordinary
  loader := none
  accessFlags := 33
  super := sup
  interfaces := #[]
  cf := none
  fields := #[]
  methods := #[]
  instanceTypes := #[]
  staticTypes := #[]
  resolved := #[]
  callSites := []
  init := .initialized
  statics := none
  mirror := none

def pool0 : Array CpInfo := pool [(5, u "<init>"), (0, u "()V"), (1, .class_ 10), (1, u "java/lang/Object")] 113

def k0c0 : Code := { maxStack := 0, maxLocals := 1, code := object_method_1_code, exceptionTable := #[], attributes := #[] }
def k0m0 : Method := { name := "<init>", desc := "()V", sig := { parameters := [], returnType := none }, accessFlags := 1, code := some k0c0 }
/-- java/lang/Object -/
def k0 : Class := { plain "java/lang/Object" none with
  accessFlags := 33
  interfaces := #[]
  cf := some (fileOf pool0 8 #[] #[{ accessFlags := 1, nameIndex := 5, descriptorIndex := 6, attributes := #[] }] 33 0 #[] #[])
  fields := #[]
  methods := #[k0m0]
  instanceTypes := #[]
  staticTypes := #[]
  resolved := Array.replicate 124 none
  statics := none }

def pool1 : Array CpInfo := pool [(2, .class_ 4), (1, u "java/lang/Object"), (0, u "<init>"), (0, u "()V"), (0, .integer 2147483647), (0, .methodref 9 10), (0, .class_ 11), (0, .nameAndType 12 13), (0, u "java/lang/Math"), (0, u "min"), (0, u "(II)I"), (0, .methodref 9 15), (0, .nameAndType 16 13), (0, u "max"), (0, .methodref 18 19), (0, .class_ 20), (0, .nameAndType 21 22), (0, u "com/example/hyperplane/hyperplane/index/TablePermutePinLaw"), (0, u "at"), (0, u "(IIIIII)I"), (0, .class_ 24), (0, u "com/example/hyperplane/hyperplane/index/Table"), (0, .methodref 23 26), (0, .nameAndType 5 27), (0, u "([II)V"), (0, .methodref 23 29), (0, .nameAndType 30 31), (0, u "permute"), (0, u "(J)J"), (3, u "law"), (0, u "(JIIIII)Z")] 4

def k1m0 : Method := { name := "<init>", desc := "()V", sig := { parameters := [], returnType := none }, accessFlags := 1, code := none }
def k1c1 : Code := { maxStack := 3, maxLocals := 8, code := method_2_code, exceptionTable := #[], attributes := #[] }
def k1m1 : Method := { name := "at", desc := "(IIIIII)I", sig := { parameters := [.int, .int, .int, .int, .int, .int], returnType := some .int }, accessFlags := 10, code := some k1c1 }
def k1c2 : Code := { maxStack := 8, maxLocals := 19, code := code, exceptionTable := #[], attributes := #[] }
def k1m2 : Method := { name := "law", desc := "(JIIIII)Z", sig := { parameters := [.long, .int, .int, .int, .int, .int], returnType := some .boolean }, accessFlags := 9, code := some k1c2 }
/-- com/example/hyperplane/hyperplane/index/TablePermutePinLaw -/
def k1 : Class := { plain "com/example/hyperplane/hyperplane/index/TablePermutePinLaw" (some 0) with
  accessFlags := 49
  interfaces := #[]
  cf := some (fileOf pool1 18 #[] #[{ accessFlags := 1, nameIndex := 5, descriptorIndex := 6, attributes := #[] }, { accessFlags := 10, nameIndex := 21, descriptorIndex := 22, attributes := #[] }, { accessFlags := 9, nameIndex := 35, descriptorIndex := 36, attributes := #[] }] 49 2 #[] #[])
  fields := #[]
  methods := #[k1m0, k1m1, k1m2]
  instanceTypes := #[]
  staticTypes := #[]
  resolved := Array.replicate 41 none
  statics := none }

def pool2 : Array CpInfo := pool [(1, .class_ 2), (0, u "java/lang/Math"), (1, .class_ 6), (1, u "java/lang/Object"), (0, u "<init>"), (0, u "()V"), (89, .class_ 100), (1, u "java/lang/Math$RandomNumberGeneratorHolder"), (71, u "negativeZeroFloatBits"), (0, u "J"), (2, u "negativeZeroDoubleBits"), (21, u "max"), (2, u "min"), (43, u "$assertionsDisabled"), (0, u "Z"), (88, u "(II)I"), (2, u "twoToTheDoubleScaleDown"), (0, u "D"), (4, u "twoToTheDoubleScaleUp"), (9, u "E"), (3, u "PI"), (2, u "TAU"), (2, u "DEGREES_TO_RADIANS"), (0, u "RADIANS_TO_DEGREES")] 94

def k2m0 : Method := { name := "<init>", desc := "()V", sig := { parameters := [], returnType := none }, accessFlags := 2, code := none }
def k2c1 : Code := { maxStack := 2, maxLocals := 2, code := jdk_29_method_65_code, exceptionTable := #[], attributes := #[] }
def k2m1 : Method := { name := "max", desc := "(II)I", sig := { parameters := [.int, .int], returnType := some .int }, accessFlags := 9, code := some k2c1 }
def k2c2 : Code := { maxStack := 2, maxLocals := 2, code := jdk_29_method_69_code, exceptionTable := #[], attributes := #[] }
def k2m2 : Method := { name := "min", desc := "(II)I", sig := { parameters := [.int, .int], returnType := some .int }, accessFlags := 9, code := some k2c2 }
/-- java/lang/Math -/
def k2 : Class := { plain "java/lang/Math" (some 0) with
  accessFlags := 49
  interfaces := #[]
  cf := some (fileOf pool2 1 #[.nestMembers #[98]] #[{ accessFlags := 2, nameIndex := 7, descriptorIndex := 8, attributes := #[] }, { accessFlags := 9, nameIndex := 198, descriptorIndex := 335, attributes := #[] }, { accessFlags := 9, nameIndex := 201, descriptorIndex := 335, attributes := #[] }] 49 4 #[] #[{ accessFlags := 25, nameIndex := 354, descriptorIndex := 339, attributes := #[] }, { accessFlags := 25, nameIndex := 358, descriptorIndex := 339, attributes := #[] }, { accessFlags := 25, nameIndex := 361, descriptorIndex := 339, attributes := #[] }, { accessFlags := 26, nameIndex := 364, descriptorIndex := 339, attributes := #[] }, { accessFlags := 26, nameIndex := 365, descriptorIndex := 339, attributes := #[] }, { accessFlags := 26, nameIndex := 172, descriptorIndex := 173, attributes := #[] }, { accessFlags := 26, nameIndex := 176, descriptorIndex := 173, attributes := #[] }, { accessFlags := 8, nameIndex := 344, descriptorIndex := 339, attributes := #[] }, { accessFlags := 8, nameIndex := 338, descriptorIndex := 339, attributes := #[] }, { accessFlags := 4120, nameIndex := 245, descriptorIndex := 246, attributes := #[] }])
  fields := #[{ name := "E", type := .double, accessFlags := 25, slot := 0, constantValue := 0 }, { name := "PI", type := .double, accessFlags := 25, slot := 1, constantValue := 0 }, { name := "TAU", type := .double, accessFlags := 25, slot := 2, constantValue := 0 }, { name := "DEGREES_TO_RADIANS", type := .double, accessFlags := 26, slot := 3, constantValue := 0 }, { name := "RADIANS_TO_DEGREES", type := .double, accessFlags := 26, slot := 4, constantValue := 0 }, { name := "negativeZeroFloatBits", type := .long, accessFlags := 26, slot := 5, constantValue := 0 }, { name := "negativeZeroDoubleBits", type := .long, accessFlags := 26, slot := 6, constantValue := 0 }, { name := "twoToTheDoubleScaleUp", type := .double, accessFlags := 8, slot := 7, constantValue := 0 }, { name := "twoToTheDoubleScaleDown", type := .double, accessFlags := 8, slot := 8, constantValue := 0 }, { name := "$assertionsDisabled", type := .boolean, accessFlags := 4120, slot := 9, constantValue := 0 }]
  methods := #[k2m0, k2m1, k2m2]
  instanceTypes := #[]
  staticTypes := #[.double, .double, .double, .double, .double, .long, .long, .double, .double, .boolean]
  resolved := Array.replicate 460 none
  statics := none }

def pool3 : Array CpInfo := pool [(1, .methodref 2 3), (0, .class_ 4), (0, .nameAndType 5 6), (0, u "java/lang/Object"), (0, u "<init>"), (0, u "()V"), (4, .long 9223372036854775808), (1, .fieldref 14 15), (0, .class_ 16), (0, .nameAndType 17 18), (0, u "com/example/hyperplane/hyperplane/index/Table"), (0, u "prefixBits"), (0, u "I"), (0, .fieldref 14 20), (0, .nameAndType 21 22), (0, u "prefixMask"), (0, u "J"), (0, .fieldref 14 24), (0, .nameAndType 25 26), (0, u "toTop"), (0, u "[I"), (0, .fieldref 14 28), (0, .nameAndType 29 26), (0, u "toBottom"), (0, .fieldref 14 31), (0, .nameAndType 32 26), (0, u "toPlace"), (12, u "permute"), (0, u "(J)J"), (8, u "([II)V")] 10

def k3c0 : Code := { maxStack := 6, maxLocals := 9, code := prog_25_method_1_code, exceptionTable := #[], attributes := #[] }
def k3m0 : Method := { name := "<init>", desc := "([II)V", sig := { parameters := [(.array .int), .int], returnType := none }, accessFlags := 0, code := some k3c0 }
def k3c1 : Code := { maxStack := 6, maxLocals := 6, code := prog_25_method_3_code, exceptionTable := #[], attributes := #[] }
def k3m1 : Method := { name := "permute", desc := "(J)J", sig := { parameters := [.long], returnType := some .long }, accessFlags := 0, code := some k3c1 }
/-- com/example/hyperplane/hyperplane/index/Table -/
def k3 : Class := { plain "com/example/hyperplane/hyperplane/index/Table" (some 0) with
  accessFlags := 32
  interfaces := #[]
  cf := some (fileOf pool3 14 #[] #[{ accessFlags := 0, nameIndex := 5, descriptorIndex := 55, attributes := #[] }, { accessFlags := 0, nameIndex := 45, descriptorIndex := 46, attributes := #[] }] 32 2 #[] #[{ accessFlags := 18, nameIndex := 17, descriptorIndex := 18, attributes := #[] }, { accessFlags := 18, nameIndex := 21, descriptorIndex := 22, attributes := #[] }, { accessFlags := 18, nameIndex := 25, descriptorIndex := 26, attributes := #[] }, { accessFlags := 18, nameIndex := 29, descriptorIndex := 26, attributes := #[] }, { accessFlags := 18, nameIndex := 32, descriptorIndex := 26, attributes := #[] }])
  fields := #[{ name := "prefixBits", type := .int, accessFlags := 18, slot := 0, constantValue := 0 }, { name := "prefixMask", type := .long, accessFlags := 18, slot := 1, constantValue := 0 }, { name := "toTop", type := (.array .int), accessFlags := 18, slot := 2, constantValue := 0 }, { name := "toBottom", type := (.array .int), accessFlags := 18, slot := 3, constantValue := 0 }, { name := "toPlace", type := (.array .int), accessFlags := 18, slot := 4, constantValue := 0 }]
  methods := #[k3m0, k3m1]
  instanceTypes := #[.int, .long, (.array .int), (.array .int), (.array .int)]
  staticTypes := #[]
  resolved := Array.replicate 66 none
  statics := none }

def pool4 : Array CpInfo := pool [(1, u "java/lang/Cloneable"), (0, .class_ 1), (0, u "java/lang/Object"), (0, .class_ 3)] 3

/-- java/lang/Cloneable -/
def k4 : Class := { plain "java/lang/Cloneable" (some 0) with
  accessFlags := 1537
  interfaces := #[]
  cf := some (fileOf pool4 2 #[] #[] 1537 4 #[] #[])
  fields := #[]
  methods := #[]
  instanceTypes := #[]
  staticTypes := #[]
  resolved := Array.replicate 8 none
  statics := none }

def pool5 : Array CpInfo := pool [(1, u "java/io/Serializable"), (0, .class_ 1), (0, u "java/lang/Object"), (0, .class_ 3)] 3

/-- java/io/Serializable -/
def k5 : Class := { plain "java/io/Serializable" (some 0) with
  accessFlags := 1537
  interfaces := #[]
  cf := some (fileOf pool5 2 #[] #[] 1537 4 #[] #[])
  fields := #[]
  methods := #[]
  instanceTypes := #[]
  staticTypes := #[]
  resolved := Array.replicate 8 none
  statics := none }

/-- the primitive byte -/
def k6 : Class := { plain "byte" none with kind := .primitive 'B', accessFlags := 0x411 }
/-- [B -/
def k7 : Class := { plain "[B" (some 0) with kind := .array 6 .byte, interfaces := #[4, 5], accessFlags := 1041 }

/-- the primitive int -/
def k8 : Class := { plain "int" none with kind := .primitive 'I', accessFlags := 0x411 }
/-- [I -/
def k9 : Class := { plain "[I" (some 0) with kind := .array 8 .int, interfaces := #[4, 5], accessFlags := 1041 }

def heap : Heap := #[]
def classes : Array Class := #[k0, k1, k2, k3, k4, k5, k6, k7, k8, k9]
def interned : List (Array UInt16 × Addr) := []
def slotsUsed : Nat := 0
def theMethod : MethodId := ⟨1, 2⟩
def args0 : Array Value := #[.long 5, .int 5, .int 3, .int 7, .int 9, .int 20]
def aboutOver (below : List Frame) : State where
  vm := { classes := classes, interned := interned.toArray }
  heap := heap
  slotsUsed := slotsUsed
  threads := #[{ frames := .invoking theMethod args0 :: below }]
def below0 : List Frame := [.native { method := ⟨0, 0⟩, args := #[] }]
def about1 : State := aboutOver below0
def p0 : Program := .bare "" "" ""
def e0 : Env := launch0.env 0 0 0
theorem w_frames : about1.frames = Frame.invoking theMethod args0 :: below0 := rfl
set_option maxRecDepth 65536 in
theorem w_args : argsFit about1.vm theMethod args0 = true := by decide +kernel
set_option maxRecDepth 65536 in
theorem w_heap : heapFits about1 = true := by decide +kernel
set_option maxRecDepth 65536 in
theorem w_runnable : about1.curStatus? = some .runnable := by decide +kernel
set_option maxRecDepth 65536 in
theorem w_alone : about1.alone = true := by decide +kernel
set_option maxRecDepth 65536 in
theorem w_named : about1.methodNamed? x = some theMethod := by decide +kernel
set_option maxRecDepth 65536 in
theorem w_hears : about1.hears theMethod below0 = true := by decide +kernel
set_option maxRecDepth 65536 in
theorem w_ripe : about1.ripe theMethod args0 below0 = true := by decide +kernel
theorem w_running : about1.status = .running := rfl
set_option maxRecDepth 65536 in
theorem w_room : about1.hasRoom e0.platform room_1 = true :=
  launch0.hasRoom_least _ room_1 (by decide +kernel) (by decide +kernel) (by decide +kernel) (by decide +kernel) (by decide +kernel) (by decide +kernel)
theorem allAtoms_all (ts : List Jvm.Cond) (a : Array Jvm.Value) (st : Jvm.State) : (allAtoms ts).before a st = ts.all (fun c => c.before a st) := by
  induction ts with
  | nil => rfl
  | cons c t ih =>
    show (Jvm.Cond.and c (allAtoms t)).before a st = _
    rw [Jvm.Cond.before_and, ih, List.all_cons]
def words1 : List Jvm.Cond := Jvm.Cond.code x code maxLocals ret :: tables_1
/-- a 'code' word, met by the world's own term for the bytes: nothing is compared byte by byte -/
theorem code_word {y : MethodName} {bytes : ByteArray} {mx : Nat} {rt : Option FieldType} {a : Array Value} {s : State} {m : MethodId} {meth : Method} {c : Code} (h1 : s.methodNamed? y = some m) (h2 : s.vm.method? m = some meth) (h3 : meth.code = some c) (h4 : c.code = bytes)
    (h5 : (c.maxLocals == mx && c.exceptionTable.isEmpty && decide (c.maxStack ≤ mostOperands) && decide (meth.sig.returnType = rt) && !meth.locks && decide (parseMethodDescriptor y.desc = some meth.sig)) = true) : (Jvm.Cond.code y bytes mx rt).before a s = true := by
  simp only [Bool.and_eq_true, beq_iff_eq, Bool.not_eq_true', decide_eq_true_eq] at h5
  obtain ⟨⟨⟨⟨⟨g1, g2⟩, g3⟩, g4⟩, g5⟩, g6⟩ := h5
  simp [Cond.before, Cond.holds, Cond.value, h1, h2, h3, h4, g1, g2, g3, g4, g5, g6]
def isCode : Jvm.Cond → Bool
  | .code _ _ _ _ => true
  | _ => false
theorem all_split {L : List Jvm.Cond} {P : Jvm.Cond → Bool} (h1 : L.all (fun c => isCode c || P c) = true) (h2 : ∀ c ∈ L.filter isCode, P c = true) : L.all P = true := by
  refine List.all_eq_true.mpr fun c hc => ?_
  have h := List.all_eq_true.mp h1 c hc
  rcases Bool.eq_false_or_eq_true (isCode c) with hi | hi
  · exact h2 c (List.mem_filter.mpr ⟨hc, hi⟩)
  · simpa [hi] using h
set_option maxRecDepth 65536 in
theorem w_c0 : (Jvm.Cond.code x code maxLocals ret).before args0 about1 = true := code_word (m := ⟨1, 2⟩) (meth := k1m2) (c := k1c2) (by decide +kernel) rfl rfl rfl (by decide +kernel)
set_option maxRecDepth 65536 in
theorem w_c1 : (Jvm.Cond.code ({ cls := "java/lang/Math", name := "min", desc := "(II)I" } : Jvm.MethodName) jdk_29_method_69_code (2 : Nat) (Option.some Jvm.ClassFile.FieldType.int)).before args0 about1 = true := code_word (m := ⟨2, 2⟩) (meth := k2m2) (c := k2c2) (by decide +kernel) rfl rfl rfl (by decide +kernel)
set_option maxRecDepth 65536 in
theorem w_c2 : (Jvm.Cond.code ({ cls := "java/lang/Math", name := "max", desc := "(II)I" } : Jvm.MethodName) jdk_29_method_65_code (2 : Nat) (Option.some Jvm.ClassFile.FieldType.int)).before args0 about1 = true := code_word (m := ⟨2, 1⟩) (meth := k2m1) (c := k2c1) (by decide +kernel) rfl rfl rfl (by decide +kernel)
set_option maxRecDepth 65536 in
theorem w_c3 : (Jvm.Cond.code ({ cls := "com/example/hyperplane/hyperplane/index/TablePermutePinLaw", name := "at", desc := "(IIIIII)I" } : Jvm.MethodName) method_2_code (8 : Nat) (Option.some Jvm.ClassFile.FieldType.int)).before args0 about1 = true := code_word (m := ⟨1, 1⟩) (meth := k1m1) (c := k1c1) (by decide +kernel) rfl rfl rfl (by decide +kernel)
set_option maxRecDepth 65536 in
theorem w_c4 : (Jvm.Cond.code ({ cls := "com/example/hyperplane/hyperplane/index/Table", name := "<init>", desc := "([II)V" } : Jvm.MethodName) prog_25_method_1_code (9 : Nat) (Option.none : Option Jvm.ClassFile.FieldType)).before args0 about1 = true := code_word (m := ⟨3, 0⟩) (meth := k3m0) (c := k3c0) (by decide +kernel) rfl rfl rfl (by decide +kernel)
set_option maxRecDepth 65536 in
theorem w_c5 : (Jvm.Cond.code ({ cls := "java/lang/Object", name := "<init>", desc := "()V" } : Jvm.MethodName) object_method_1_code (1 : Nat) (Option.none : Option Jvm.ClassFile.FieldType)).before args0 about1 = true := code_word (m := ⟨0, 0⟩) (meth := k0m0) (c := k0c0) (by decide +kernel) rfl rfl rfl (by decide +kernel)
set_option maxRecDepth 65536 in
theorem w_c6 : (Jvm.Cond.code ({ cls := "com/example/hyperplane/hyperplane/index/Table", name := "permute", desc := "(J)J" } : Jvm.MethodName) prog_25_method_3_code (6 : Nat) (Option.some Jvm.ClassFile.FieldType.long)).before args0 about1 = true := code_word (m := ⟨3, 1⟩) (meth := k3m1) (c := k3c1) (by decide +kernel) rfl rfl rfl (by decide +kernel)
def codes1 : List Jvm.Cond := [Jvm.Cond.code x code maxLocals ret, Jvm.Cond.code ({ cls := "java/lang/Math", name := "min", desc := "(II)I" } : Jvm.MethodName) jdk_29_method_69_code (2 : Nat) (Option.some Jvm.ClassFile.FieldType.int), Jvm.Cond.code ({ cls := "java/lang/Math", name := "max", desc := "(II)I" } : Jvm.MethodName) jdk_29_method_65_code (2 : Nat) (Option.some Jvm.ClassFile.FieldType.int), Jvm.Cond.code ({ cls := "com/example/hyperplane/hyperplane/index/TablePermutePinLaw", name := "at", desc := "(IIIIII)I" } : Jvm.MethodName) method_2_code (8 : Nat) (Option.some Jvm.ClassFile.FieldType.int), Jvm.Cond.code ({ cls := "com/example/hyperplane/hyperplane/index/Table", name := "<init>", desc := "([II)V" } : Jvm.MethodName) prog_25_method_1_code (9 : Nat) (Option.none : Option Jvm.ClassFile.FieldType), Jvm.Cond.code ({ cls := "java/lang/Object", name := "<init>", desc := "()V" } : Jvm.MethodName) object_method_1_code (1 : Nat) (Option.none : Option Jvm.ClassFile.FieldType), Jvm.Cond.code ({ cls := "com/example/hyperplane/hyperplane/index/Table", name := "permute", desc := "(J)J" } : Jvm.MethodName) prog_25_method_3_code (6 : Nat) (Option.some Jvm.ClassFile.FieldType.long)]
set_option maxRecDepth 65536 in
theorem codes_eq : words1.filter isCode = codes1 := rfl
theorem w_codes : ∀ c ∈ words1.filter isCode, c.before args0 about1 = true := by
  rw [codes_eq]
  intro c hc
  simp only [codes1, List.mem_cons, List.not_mem_nil, or_false] at hc
  rcases hc with rfl | rfl | rfl | rfl | rfl | rfl | rfl
  · exact w_c0
  · exact w_c1
  · exact w_c2
  · exact w_c3
  · exact w_c4
  · exact w_c5
  · exact w_c6
set_option maxRecDepth 65536 in
theorem w_t1 : (words1.take 24).all (fun c => isCode c || c.before args0 about1) = true := by decide +kernel
set_option maxRecDepth 65536 in
theorem w_t2 : (words1.drop 24).all (fun c => isCode c || c.before args0 about1) = true := by decide +kernel
theorem w_tables : (allAtoms (Jvm.Cond.code x code maxLocals ret :: tables_1)).before args0 about1 = true := by
  rw [allAtoms_all]
  show words1.all (fun c => c.before args0 about1) = true
  refine all_split ?_ w_codes
  rw [← List.take_append_drop 24 words1, List.all_append, w_t1, w_t2]
  rfl
set_option maxRecDepth 65536 in
theorem w_case : (Jvm.Cond.and given_1 narrow_1).before args0 about1 = true := by decide +kernel
theorem w_applies : (headSpec (Jvm.Cond.code x code maxLocals ret :: tables_1) room_1).applies x e0.platform about1 = true :=
  (Spec.applies_iff w_frames).mpr ⟨w_running, w_runnable, w_alone, w_named, w_hears, w_ripe, w_room, w_tables⟩
theorem atStart : AtStart classFile x code maxLocals ret World_1 tables_1 room_1 Calls_1 rest_1 Pre_1 launch0 p0 e0 about1 theMethod args0 below0 :=
  ⟨lists_1, trivial, launch0.admits_env _ _ _, launch0.least_env, fairChoices_fair.cas, fairChoices_fair.clock, w_frames, w_args, w_heap, w_applies, trivial, trivial, w_case⟩
end start1
theorem witness_1 : WitnessClaimed_1 := ⟨start1.p0, start1.e0, start1.about1, start1.theMethod, start1.args0, start1.below0, start1.atStart⟩
end Jvm.Pilot.@@N@@
