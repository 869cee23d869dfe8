import JvmDerived
import JvmDerived.Pilot.@@N@@Statement
import JvmDerived.Pilot.@@N@@Code
set_option linter.unusedVariables false
set_option linter.unusedSimpArgs false

namespace Jvm.OwnW
open Sem ClassFile Op Lib Jvm.Stand Jvm.Free Jvm.LawKit Jvm.RoadKit
/-- what the walk of one body stands on -/
def Ctx (p : Program) (l : Launch) (e : Env) (R : Room) (s : State) (m : MethodId) (args : Array Value) (below : List Frame) (meth : Method) (c : Code) (Z : State) (own : String) (code : ByteArray) (maxL : Nat) (ret : Option FieldType) (nm : String) : Prop :=
  p.tables.exec = Jvm.exec ∧ c.code = code ∧ c.maxLocals = maxL ∧ s.vm.findClass own = some m.cls ∧ Z.Warmed39 s.vm ∧ meth.sig.returnType = ret ∧ meth.locks = false ∧ meth.name = nm
/-- from here the body returns, and G holds of what it returns and of the heap -/
def WP (p : Program) (l : Launch) (e : Env) (R : Room) (s : State) (m : MethodId) (args : Array Value) (below : List Frame) (meth : Method) (c : Code) (n0 : Nat) (G : Option Value → Heap → Prop) (FE : Outcome → State → List Loc → Prop)
    (h : Heap) (k n pc : Nat) (Ls : Array Slot) (st : List Value) : Prop :=
  ∀ (T : State) (locs : List Loc) (k' n' : Nat), k' ≤ k → n' ≤ n → Stand p l e R s m args below meth c T locs k' n' → T.heap = h → Fr n0 locs →
    ∃ s₂ o, Steps p.tables e below (T.setTop (mkF m pc Ls st)) s₂ ∧ s₂.status = .running ∧ Ended s₂ below o ∧ ∃ v L, o = .returned v ∧ (Fr n0 L ∧ G v s₂.heap) ∧ FE o s₂ L
abbrev WT : Type := Heap → Nat → Nat → Nat → Array Slot → List Value → Prop
def Ru (l : Launch) (Z : State) (own : String) (code : ByteArray) (maxL : Nat) (ret : Option FieldType) (nm : String) (R : Room) (n0 : Nat) (G : Option Value → Heap → Prop) (W : WT) : Prop :=
  ∃ (p : Program) (e : Env) (s : State) (m : MethodId) (args : Array Value) (below : List Frame) (meth : Method) (c : Code) (FE : Outcome → State → List Loc → Prop), Ctx p l e R s m args below meth c Z own code maxL ret nm ∧ (∀ o t L, FrameEnd s o t L R.cells R.slots → FE o t L) ∧ W = WP p l e R s m args below meth c n0 G FE
/-- a body's contract -/
def MeetsW (l : Launch) (Z : State) (n0 : Nat) (y : MethodName) (bytes : ByteArray) (maxL : Nat) (ret : Option FieldType) (rm : Room) (as : Array Value) (h : Heap) (G : Option Value → Heap → Prop) : Prop :=
  ∀ ws : List Cond, MetFree l y (head1 (Cond.code y bytes maxL ret :: ws) rm) (fun a U => a = as ∧ Z.Warmed39 U.vm ∧ U.heap = h) (fun _ _ _ _ _ => True)
    (fun _ U o U' => ∃ v L, o = .returned v ∧ (Fr n0 L ∧ G v U'.heap) ∧ FrameEnd U o U' L rm.cells rm.slots)
theorem MeetsW.intro {l : Launch} {Z : State} {n0 : Nat} {y : MethodName} {bytes : ByteArray} {maxL : Nat} {ret : Option FieldType} {rm : Room} {as : Array Value} {h : Heap} {G : Option Value → Heap → Prop} {Ls : Array Slot}
    (hp : plainFor y = true) (hef : ∀ m, entryFrame m as maxL = mkF m 0 Ls [])
    (body : ∀ W, Ru l Z y.cls bytes maxL ret y.name rm n0 G W → W h 0 0 0 Ls []) : MeetsW l Z n0 y bytes maxL ret rm as h G := by
  intro ws
  refine MetFree.of_bodySF hp hisR ?_
  intro p e s m args below meth c s₁ Bd hml0 hP hK
  obtain ⟨rfl, hZ, hh⟩ := hP
  have X0 : Stand p l e rm s m args below meth c s₁ [] 0 0 := Stand.of_body Bd
  have e0 : s₁.heap = h := by rw [← hh, Bd.state]; rfl
  have C : Ctx p l e rm s m args below meth c Z y.cls bytes maxL ret y.name := ⟨Bd.exec, Bd.bytes, hml0, findClass_of_methodNamed Bd.named, hZ, Bd.returns, Bd.notSynchronized, (name_of_methodNamed Bd.named Bd.method).1⟩
  have q := body _ ⟨p, e, s, m, args, below, meth, c, _, C, fun _ _ _ q => q, rfl⟩ s₁ [] 0 0 (Nat.le_refl _) (Nat.le_refl _) X0 e0 (Fr.nil n0)
  rw [hef]
  exact q

/-! shifts, by how many places -/
def sh5 (y : Int32) : Nat := y.toBitVec.toNat % 32
def sh6 (y : Int32) : Nat := y.toBitVec.toNat % 64
def shlI (x : Int32) (k : Nat) : Int32 := Int32.ofBitVec (x.toBitVec <<< k)
def shrI (x : Int32) (k : Nat) : Int32 := Int32.ofBitVec (x.toBitVec >>> k)
def sarI (x : Int32) (k : Nat) : Int32 := Int32.ofBitVec (x.toBitVec.sshiftRight k)
def shlL (x : Int64) (k : Nat) : Int64 := Int64.ofBitVec (x.toBitVec <<< k)
def shrL (x : Int64) (k : Nat) : Int64 := Int64.ofBitVec (x.toBitVec >>> k)
def sarL (x : Int64) (k : Nat) : Int64 := Int64.ofBitVec (x.toBitVec.sshiftRight k)
theorem and31 (y : Int32) : (y &&& 31).toBitVec.toNat = sh5 y := by
  show (y.toBitVec &&& (31 : Int32).toBitVec).toNat = _
  rw [BitVec.toNat_and, show (31 : Int32).toBitVec.toNat = 2 ^ 5 - 1 from by decide, Nat.and_two_pow_sub_one_eq_mod]; rfl
theorem and63 (y : Int32) : (y.toInt64 &&& 63).toBitVec = BitVec.ofNat 64 (sh6 y) := by
  apply BitVec.eq_of_toNat_eq
  show (y.toBitVec.signExtend 64 &&& (63 : Int64).toBitVec).toNat = _
  rw [BitVec.toNat_and, show (63 : Int64).toBitVec.toNat = 2 ^ 6 - 1 from by decide, Nat.and_two_pow_sub_one_eq_mod, BitVec.toNat_ofNat, BitVec.toNat_signExtend]
  have h1 := y.toBitVec.isLt
  have h2 : (BitVec.setWidth 64 y.toBitVec).toNat = y.toBitVec.toNat := by rw [BitVec.toNat_setWidth]; omega
  rw [h2]
  unfold sh6
  split <;> omega
theorem ishl_eq (x y : Int32) : x <<< (y &&& 31) = shlI x (sh5 y) := by
  apply Int32.toBitVec_inj.mp
  show x.toBitVec <<< ((y &&& 31).toBitVec.smod 32) = x.toBitVec <<< (sh5 y)
  rw [BitVec.shiftLeft_eq', sm32 y _ rfl]; rfl
theorem ishr_eq (x y : Int32) : x >>> (y &&& 31) = sarI x (sh5 y) := by
  apply Int32.toBitVec_inj.mp
  show x.toBitVec.sshiftRight (((y &&& 31).toBitVec.smod 32).toNat) = x.toBitVec.sshiftRight (sh5 y)
  rw [sm32 y _ rfl]; rfl
theorem iushr_eq (x y : Int32) : XT.ushr x y = shrI x (sh5 y) := by
  apply Int32.toBitVec_inj.mp
  show x.toBitVec >>> ((y &&& 31).toBitVec % 32) = x.toBitVec >>> (sh5 y)
  rw [BitVec.ushiftRight_eq', BitVec.toNat_umod, and31]
  congr 1
  show sh5 y % 32 = sh5 y
  unfold sh5; omega
theorem lshl_eq (x : Int64) (y : Int32) : x <<< (y.toInt64 &&& 63) = shlL x (sh6 y) := by
  apply Int64.toBitVec_inj.mp
  show x.toBitVec <<< ((y.toInt64 &&& 63).toBitVec.smod 64) = x.toBitVec <<< (sh6 y)
  rw [BitVec.shiftLeft_eq', and63, smod64 _ (by unfold sh6; omega)]
theorem lshr_eq (x : Int64) (y : Int32) : x >>> (y.toInt64 &&& 63) = sarL x (sh6 y) := by
  apply Int64.toBitVec_inj.mp
  show x.toBitVec.sshiftRight (((y.toInt64 &&& 63).toBitVec.smod 64).toNat) = x.toBitVec.sshiftRight (sh6 y)
  rw [and63, smod64 _ (by unfold sh6; omega)]
theorem lushr_eq (x : Int64) (y : Int32) : XT.ushrL x y = shrL x (sh6 y) := by
  apply Int64.toBitVec_inj.mp
  show x.toBitVec >>> ((y.toInt64 &&& 63).toBitVec % 64) = x.toBitVec >>> (sh6 y)
  rw [BitVec.ushiftRight_eq', BitVec.toNat_umod, and63, BitVec.toNat_ofNat]
  congr 1
  show sh6 y % 2 ^ 64 % 64 = sh6 y
  unfold sh6; omega
section Steps
variable {l : Launch} {Z : State} {own : String} {code : ByteArray} {maxL : Nat} {ret : Option FieldType} {nm : String} {R : Room} {n0 : Nat} {G : Option Value → Heap → Prop} {W : WT} {h : Heap} {k n pc pc' : Nat} {Ls : Array Slot} {st rest : List Value}
theorem Ru.mono (C : Ru l Z own code maxL ret nm R n0 G W) {k2 n2 : Nat} (hk : k ≤ k2) (hn : n ≤ n2) (q : W h k2 n2 pc Ls st) : W h k n pc Ls st := by
  obtain ⟨p, e, s, m, args, below, meth, c, FE, C, hFE, rfl⟩ := C
  intro T locs k' n' q1 q2 X eT N
  exact q T locs k' n' (Nat.le_trans q1 hk) (Nat.le_trans q2 hn) X eT N
theorem Ru.atPc (C : Ru l Z own code maxL ret nm R n0 G W) {pc2 : Nat} (hp : pc2 = pc) (q : W h k n pc2 Ls st) : W h k n pc Ls st := hp ▸ q
theorem Ru.iadd (C : Ru l Z own code maxL ret nm R n0 G W) {x y : Int32} (hd : decode code pc = .ok (.iadd, 1)) (hp : pc + 1 = pc') (q : W h k n pc' Ls (.int (x + y) :: rest)) : W h k n pc Ls (.int y :: .int x :: rest) := by
  obtain ⟨p, e, s, m, args, below, meth, c, FE, ⟨hx, hby, hml, hown, hZ, hre, hlk, hnm⟩, hFE, rfl⟩ := C
  subst hp
  intro T locs k' n' q1 q2 X eT N
  obtain ⟨s2, o, st2, r⟩ := q T locs k' n' q1 q2 X eT N
  exact ⟨s2, o, XS.iadd (X.here) hx rfl (hb hby hd) rfl st2, r⟩
theorem Ru.isub (C : Ru l Z own code maxL ret nm R n0 G W) {x y : Int32} (hd : decode code pc = .ok (.isub, 1)) (hp : pc + 1 = pc') (q : W h k n pc' Ls (.int (x - y) :: rest)) : W h k n pc Ls (.int y :: .int x :: rest) := by
  obtain ⟨p, e, s, m, args, below, meth, c, FE, ⟨hx, hby, hml, hown, hZ, hre, hlk, hnm⟩, hFE, rfl⟩ := C
  subst hp
  intro T locs k' n' q1 q2 X eT N
  obtain ⟨s2, o, st2, r⟩ := q T locs k' n' q1 q2 X eT N
  exact ⟨s2, o, XS.isub (X.here) hx rfl (hb hby hd) rfl st2, r⟩
theorem Ru.iand (C : Ru l Z own code maxL ret nm R n0 G W) {x y : Int32} (hd : decode code pc = .ok (.iand, 1)) (hp : pc + 1 = pc') (q : W h k n pc' Ls (.int (x &&& y) :: rest)) : W h k n pc Ls (.int y :: .int x :: rest) := by
  obtain ⟨p, e, s, m, args, below, meth, c, FE, ⟨hx, hby, hml, hown, hZ, hre, hlk, hnm⟩, hFE, rfl⟩ := C
  subst hp
  intro T locs k' n' q1 q2 X eT N
  obtain ⟨s2, o, st2, r⟩ := q T locs k' n' q1 q2 X eT N
  exact ⟨s2, o, XS.iand (X.here) hx rfl (hb hby hd) rfl st2, r⟩
theorem Ru.imul (C : Ru l Z own code maxL ret nm R n0 G W) {x y : Int32} (hd : decode code pc = .ok (.imul, 1)) (hp : pc + 1 = pc') (q : W h k n pc' Ls (.int (x * y) :: rest)) : W h k n pc Ls (.int y :: .int x :: rest) := by
  obtain ⟨p, e, s, m, args, below, meth, c, FE, ⟨hx, hby, hml, hown, hZ, hre, hlk, hnm⟩, hFE, rfl⟩ := C
  subst hp
  intro T locs k' n' q1 q2 X eT N
  obtain ⟨s2, o, st2, r⟩ := q T locs k' n' q1 q2 X eT N
  exact ⟨s2, o, XS.imul (X.here) hx rfl (hb hby hd) rfl st2, r⟩
theorem Ru.ixor (C : Ru l Z own code maxL ret nm R n0 G W) {x y : Int32} (hd : decode code pc = .ok (.ixor, 1)) (hp : pc + 1 = pc') (q : W h k n pc' Ls (.int (x ^^^ y) :: rest)) : W h k n pc Ls (.int y :: .int x :: rest) := by
  obtain ⟨p, e, s, m, args, below, meth, c, FE, ⟨hx, hby, hml, hown, hZ, hre, hlk, hnm⟩, hFE, rfl⟩ := C
  subst hp
  intro T locs k' n' q1 q2 X eT N
  obtain ⟨s2, o, st2, r⟩ := q T locs k' n' q1 q2 X eT N
  exact ⟨s2, o, XT.ixor (X.here) hx rfl (hb hby hd) rfl st2, r⟩
theorem Ru.ior (C : Ru l Z own code maxL ret nm R n0 G W) {x y : Int32} (hd : decode code pc = .ok (.ior, 1)) (hp : pc + 1 = pc') (q : W h k n pc' Ls (.int (x ||| y) :: rest)) : W h k n pc Ls (.int y :: .int x :: rest) := by
  obtain ⟨p, e, s, m, args, below, meth, c, FE, ⟨hx, hby, hml, hown, hZ, hre, hlk, hnm⟩, hFE, rfl⟩ := C
  subst hp
  intro T locs k' n' q1 q2 X eT N
  obtain ⟨s2, o, st2, r⟩ := q T locs k' n' q1 q2 X eT N
  exact ⟨s2, o, XT.ior (X.here) hx rfl (hb hby hd) rfl st2, r⟩
theorem Ru.idiv (C : Ru l Z own code maxL ret nm R n0 G W) {x y : Int32} (hd : decode code pc = .ok (.idiv, 1)) (hp : pc + 1 = pc') (hy : y ≠ 0) (q : W h k n pc' Ls (.int (x / y) :: rest)) : W h k n pc Ls (.int y :: .int x :: rest) := by
  obtain ⟨p, e, s, m, args, below, meth, c, FE, ⟨hx, hby, hml, hown, hZ, hre, hlk, hnm⟩, hFE, rfl⟩ := C
  subst hp
  intro T locs k' n' q1 q2 X eT N
  obtain ⟨s2, o, st2, r⟩ := q T locs k' n' q1 q2 X eT N
  exact ⟨s2, o, XS.idiv (X.here) hx rfl (hb hby hd) rfl hy st2, r⟩
theorem Ru.irem (C : Ru l Z own code maxL ret nm R n0 G W) {x y : Int32} (hd : decode code pc = .ok (.irem, 1)) (hp : pc + 1 = pc') (hy : y ≠ 0) (q : W h k n pc' Ls (.int (x % y) :: rest)) : W h k n pc Ls (.int y :: .int x :: rest) := by
  obtain ⟨p, e, s, m, args, below, meth, c, FE, ⟨hx, hby, hml, hown, hZ, hre, hlk, hnm⟩, hFE, rfl⟩ := C
  subst hp
  intro T locs k' n' q1 q2 X eT N
  obtain ⟨s2, o, st2, r⟩ := q T locs k' n' q1 q2 X eT N
  exact ⟨s2, o, iremM (X) hx rfl (hb hby hd) rfl hy st2, r⟩
theorem Ru.ineg (C : Ru l Z own code maxL ret nm R n0 G W) {x : Int32} (hd : decode code pc = .ok (.ineg, 1)) (hp : pc + 1 = pc') (q : W h k n pc' Ls (.int (-x) :: rest)) : W h k n pc Ls (.int x :: rest) := by
  obtain ⟨p, e, s, m, args, below, meth, c, FE, ⟨hx, hby, hml, hown, hZ, hre, hlk, hnm⟩, hFE, rfl⟩ := C
  subst hp
  intro T locs k' n' q1 q2 X eT N
  obtain ⟨s2, o, st2, r⟩ := q T locs k' n' q1 q2 X eT N
  exact ⟨s2, o, XS.ineg (X.here) hx rfl (hb hby hd) rfl st2, r⟩
theorem Ru.ladd (C : Ru l Z own code maxL ret nm R n0 G W) {x y : Int64} (hd : decode code pc = .ok (.ladd, 1)) (hp : pc + 1 = pc') (q : W h k n pc' Ls (.long (x + y) :: rest)) : W h k n pc Ls (.long y :: .long x :: rest) := by
  obtain ⟨p, e, s, m, args, below, meth, c, FE, ⟨hx, hby, hml, hown, hZ, hre, hlk, hnm⟩, hFE, rfl⟩ := C
  subst hp
  intro T locs k' n' q1 q2 X eT N
  obtain ⟨s2, o, st2, r⟩ := q T locs k' n' q1 q2 X eT N
  exact ⟨s2, o, XT.ladd (X.here) hx rfl (hb hby hd) rfl st2, r⟩
theorem Ru.lsub (C : Ru l Z own code maxL ret nm R n0 G W) {x y : Int64} (hd : decode code pc = .ok (.lsub, 1)) (hp : pc + 1 = pc') (q : W h k n pc' Ls (.long (x - y) :: rest)) : W h k n pc Ls (.long y :: .long x :: rest) := by
  obtain ⟨p, e, s, m, args, below, meth, c, FE, ⟨hx, hby, hml, hown, hZ, hre, hlk, hnm⟩, hFE, rfl⟩ := C
  subst hp
  intro T locs k' n' q1 q2 X eT N
  obtain ⟨s2, o, st2, r⟩ := q T locs k' n' q1 q2 X eT N
  exact ⟨s2, o, XT.lsub (X.here) hx rfl (hb hby hd) rfl st2, r⟩
theorem Ru.lmul (C : Ru l Z own code maxL ret nm R n0 G W) {x y : Int64} (hd : decode code pc = .ok (.lmul, 1)) (hp : pc + 1 = pc') (q : W h k n pc' Ls (.long (x * y) :: rest)) : W h k n pc Ls (.long y :: .long x :: rest) := by
  obtain ⟨p, e, s, m, args, below, meth, c, FE, ⟨hx, hby, hml, hown, hZ, hre, hlk, hnm⟩, hFE, rfl⟩ := C
  subst hp
  intro T locs k' n' q1 q2 X eT N
  obtain ⟨s2, o, st2, r⟩ := q T locs k' n' q1 q2 X eT N
  exact ⟨s2, o, XT.lmul (X.here) hx rfl (hb hby hd) rfl st2, r⟩
theorem Ru.land (C : Ru l Z own code maxL ret nm R n0 G W) {x y : Int64} (hd : decode code pc = .ok (.land, 1)) (hp : pc + 1 = pc') (q : W h k n pc' Ls (.long (x &&& y) :: rest)) : W h k n pc Ls (.long y :: .long x :: rest) := by
  obtain ⟨p, e, s, m, args, below, meth, c, FE, ⟨hx, hby, hml, hown, hZ, hre, hlk, hnm⟩, hFE, rfl⟩ := C
  subst hp
  intro T locs k' n' q1 q2 X eT N
  obtain ⟨s2, o, st2, r⟩ := q T locs k' n' q1 q2 X eT N
  exact ⟨s2, o, XT.land (X.here) hx rfl (hb hby hd) rfl st2, r⟩
theorem Ru.lor (C : Ru l Z own code maxL ret nm R n0 G W) {x y : Int64} (hd : decode code pc = .ok (.lor, 1)) (hp : pc + 1 = pc') (q : W h k n pc' Ls (.long (x ||| y) :: rest)) : W h k n pc Ls (.long y :: .long x :: rest) := by
  obtain ⟨p, e, s, m, args, below, meth, c, FE, ⟨hx, hby, hml, hown, hZ, hre, hlk, hnm⟩, hFE, rfl⟩ := C
  subst hp
  intro T locs k' n' q1 q2 X eT N
  obtain ⟨s2, o, st2, r⟩ := q T locs k' n' q1 q2 X eT N
  exact ⟨s2, o, XT.lor (X.here) hx rfl (hb hby hd) rfl st2, r⟩
theorem Ru.lxor (C : Ru l Z own code maxL ret nm R n0 G W) {x y : Int64} (hd : decode code pc = .ok (.lxor, 1)) (hp : pc + 1 = pc') (q : W h k n pc' Ls (.long (x ^^^ y) :: rest)) : W h k n pc Ls (.long y :: .long x :: rest) := by
  obtain ⟨p, e, s, m, args, below, meth, c, FE, ⟨hx, hby, hml, hown, hZ, hre, hlk, hnm⟩, hFE, rfl⟩ := C
  subst hp
  intro T locs k' n' q1 q2 X eT N
  obtain ⟨s2, o, st2, r⟩ := q T locs k' n' q1 q2 X eT N
  exact ⟨s2, o, XT.lxor (X.here) hx rfl (hb hby hd) rfl st2, r⟩
theorem Ru.ldiv (C : Ru l Z own code maxL ret nm R n0 G W) {x y : Int64} (hd : decode code pc = .ok (.ldiv, 1)) (hp : pc + 1 = pc') (hy : y ≠ 0) (q : W h k n pc' Ls (.long (x / y) :: rest)) : W h k n pc Ls (.long y :: .long x :: rest) := by
  obtain ⟨p, e, s, m, args, below, meth, c, FE, ⟨hx, hby, hml, hown, hZ, hre, hlk, hnm⟩, hFE, rfl⟩ := C
  subst hp
  intro T locs k' n' q1 q2 X eT N
  obtain ⟨s2, o, st2, r⟩ := q T locs k' n' q1 q2 X eT N
  exact ⟨s2, o, XT.ldiv (X.here) hx rfl (hb hby hd) rfl hy st2, r⟩
theorem Ru.ishl (C : Ru l Z own code maxL ret nm R n0 G W) {x : Int32} {y : Int32} {s : Nat} (hd : decode code pc = .ok (.ishl, 1)) (hp : pc + 1 = pc') (hs : sh5 y = s) (q : W h k n pc' Ls (.int (shlI x s) :: rest)) : W h k n pc Ls (.int y :: .int x :: rest) := by
  obtain ⟨p, e, s', m, args, below, meth, c, FE, ⟨hx, hby, hml, hown, hZ, hre, hlk, hnm⟩, hFE, rfl⟩ := C
  subst hp hs
  intro T locs k' n' q1 q2 X eT N
  obtain ⟨s2, o, st2, r⟩ := q T locs k' n' q1 q2 X eT N
  exact ⟨s2, o, XT.ishl X.here hx rfl (hb hby hd) rfl (by rw [ishl_eq]; exact st2), r⟩
theorem Ru.ishr (C : Ru l Z own code maxL ret nm R n0 G W) {x : Int32} {y : Int32} {s : Nat} (hd : decode code pc = .ok (.ishr, 1)) (hp : pc + 1 = pc') (hs : sh5 y = s) (q : W h k n pc' Ls (.int (sarI x s) :: rest)) : W h k n pc Ls (.int y :: .int x :: rest) := by
  obtain ⟨p, e, s', m, args, below, meth, c, FE, ⟨hx, hby, hml, hown, hZ, hre, hlk, hnm⟩, hFE, rfl⟩ := C
  subst hp hs
  intro T locs k' n' q1 q2 X eT N
  obtain ⟨s2, o, st2, r⟩ := q T locs k' n' q1 q2 X eT N
  exact ⟨s2, o, XT.ishr X.here hx rfl (hb hby hd) rfl (by rw [ishr_eq]; exact st2), r⟩
theorem Ru.iushr (C : Ru l Z own code maxL ret nm R n0 G W) {x : Int32} {y : Int32} {s : Nat} (hd : decode code pc = .ok (.iushr, 1)) (hp : pc + 1 = pc') (hs : sh5 y = s) (q : W h k n pc' Ls (.int (shrI x s) :: rest)) : W h k n pc Ls (.int y :: .int x :: rest) := by
  obtain ⟨p, e, s', m, args, below, meth, c, FE, ⟨hx, hby, hml, hown, hZ, hre, hlk, hnm⟩, hFE, rfl⟩ := C
  subst hp hs
  intro T locs k' n' q1 q2 X eT N
  obtain ⟨s2, o, st2, r⟩ := q T locs k' n' q1 q2 X eT N
  exact ⟨s2, o, XT.iushr X.here hx rfl (hb hby hd) rfl (by rw [iushr_eq]; exact st2), r⟩
theorem Ru.lshl (C : Ru l Z own code maxL ret nm R n0 G W) {x : Int64} {y : Int32} {s : Nat} (hd : decode code pc = .ok (.lshl, 1)) (hp : pc + 1 = pc') (hs : sh6 y = s) (q : W h k n pc' Ls (.long (shlL x s) :: rest)) : W h k n pc Ls (.int y :: .long x :: rest) := by
  obtain ⟨p, e, s', m, args, below, meth, c, FE, ⟨hx, hby, hml, hown, hZ, hre, hlk, hnm⟩, hFE, rfl⟩ := C
  subst hp hs
  intro T locs k' n' q1 q2 X eT N
  obtain ⟨s2, o, st2, r⟩ := q T locs k' n' q1 q2 X eT N
  exact ⟨s2, o, XT.lshl X.here hx rfl (hb hby hd) rfl (by rw [lshl_eq]; exact st2), r⟩
theorem Ru.lshr (C : Ru l Z own code maxL ret nm R n0 G W) {x : Int64} {y : Int32} {s : Nat} (hd : decode code pc = .ok (.lshr, 1)) (hp : pc + 1 = pc') (hs : sh6 y = s) (q : W h k n pc' Ls (.long (sarL x s) :: rest)) : W h k n pc Ls (.int y :: .long x :: rest) := by
  obtain ⟨p, e, s', m, args, below, meth, c, FE, ⟨hx, hby, hml, hown, hZ, hre, hlk, hnm⟩, hFE, rfl⟩ := C
  subst hp hs
  intro T locs k' n' q1 q2 X eT N
  obtain ⟨s2, o, st2, r⟩ := q T locs k' n' q1 q2 X eT N
  exact ⟨s2, o, XT.lshr X.here hx rfl (hb hby hd) rfl (by rw [lshr_eq]; exact st2), r⟩
theorem Ru.lushr (C : Ru l Z own code maxL ret nm R n0 G W) {x : Int64} {y : Int32} {s : Nat} (hd : decode code pc = .ok (.lushr, 1)) (hp : pc + 1 = pc') (hs : sh6 y = s) (q : W h k n pc' Ls (.long (shrL x s) :: rest)) : W h k n pc Ls (.int y :: .long x :: rest) := by
  obtain ⟨p, e, s', m, args, below, meth, c, FE, ⟨hx, hby, hml, hown, hZ, hre, hlk, hnm⟩, hFE, rfl⟩ := C
  subst hp hs
  intro T locs k' n' q1 q2 X eT N
  obtain ⟨s2, o, st2, r⟩ := q T locs k' n' q1 q2 X eT N
  exact ⟨s2, o, XT.lushr X.here hx rfl (hb hby hd) rfl (by rw [lushr_eq]; exact st2), r⟩
theorem Ru.i2l (C : Ru l Z own code maxL ret nm R n0 G W) {x : Int32} (hd : decode code pc = .ok (.i2l, 1)) (hp : pc + 1 = pc') (q : W h k n pc' Ls (.long x.toInt64 :: rest)) : W h k n pc Ls (.int x :: rest) := by
  obtain ⟨p, e, s, m, args, below, meth, c, FE, ⟨hx, hby, hml, hown, hZ, hre, hlk, hnm⟩, hFE, rfl⟩ := C
  subst hp
  intro T locs k' n' q1 q2 X eT N
  obtain ⟨s2, o, st2, r⟩ := q T locs k' n' q1 q2 X eT N
  exact ⟨s2, o, XT.i2l (X.here) hx rfl (hb hby hd) rfl st2, r⟩
theorem Ru.l2i (C : Ru l Z own code maxL ret nm R n0 G W) {x : Int64} (hd : decode code pc = .ok (.l2i, 1)) (hp : pc + 1 = pc') (q : W h k n pc' Ls (.int x.toInt32 :: rest)) : W h k n pc Ls (.long x :: rest) := by
  obtain ⟨p, e, s, m, args, below, meth, c, FE, ⟨hx, hby, hml, hown, hZ, hre, hlk, hnm⟩, hFE, rfl⟩ := C
  subst hp
  intro T locs k' n' q1 q2 X eT N
  obtain ⟨s2, o, st2, r⟩ := q T locs k' n' q1 q2 X eT N
  exact ⟨s2, o, XT.l2i (X.here) hx rfl (hb hby hd) rfl st2, r⟩
theorem Ru.i2b (C : Ru l Z own code maxL ret nm R n0 G W) {x : Int32} (hd : decode code pc = .ok (.i2b, 1)) (hp : pc + 1 = pc') (q : W h k n pc' Ls (.int x.toInt8.toInt32 :: rest)) : W h k n pc Ls (.int x :: rest) := by
  obtain ⟨p, e, s, m, args, below, meth, c, FE, ⟨hx, hby, hml, hown, hZ, hre, hlk, hnm⟩, hFE, rfl⟩ := C
  subst hp
  intro T locs k' n' q1 q2 X eT N
  obtain ⟨s2, o, st2, r⟩ := q T locs k' n' q1 q2 X eT N
  exact ⟨s2, o, XT.i2b (X.here) hx rfl (hb hby hd) rfl st2, r⟩
theorem Ru.iconst (C : Ru l Z own code maxL ret nm R n0 G W) {i : Int} {v : Int32} (hd : decode code pc = .ok (.iconst i, 1)) (hp : pc + 1 = pc') (hv : Int32.ofInt i = v) (q : W h k n pc' Ls (.int v :: st)) : W h k n pc Ls (st) := by
  obtain ⟨p, e, s, m, args, below, meth, c, FE, ⟨hx, hby, hml, hown, hZ, hre, hlk, hnm⟩, hFE, rfl⟩ := C
  subst hp hv
  intro T locs k' n' q1 q2 X eT N
  obtain ⟨s2, o, st2, r⟩ := q T locs k' n' q1 q2 X eT N
  exact ⟨s2, o, XS.iconst (X.here) hx rfl (hb hby hd)  st2, r⟩
theorem Ru.bipush (C : Ru l Z own code maxL ret nm R n0 G W) {i : Int} {v : Int32} (hd : decode code pc = .ok (.bipush i, 2)) (hp : pc + 2 = pc') (hv : (Int8.ofInt i).toInt32 = v) (q : W h k n pc' Ls (.int v :: st)) : W h k n pc Ls (st) := by
  obtain ⟨p, e, s, m, args, below, meth, c, FE, ⟨hx, hby, hml, hown, hZ, hre, hlk, hnm⟩, hFE, rfl⟩ := C
  subst hp hv
  intro T locs k' n' q1 q2 X eT N
  obtain ⟨s2, o, st2, r⟩ := q T locs k' n' q1 q2 X eT N
  exact ⟨s2, o, XS.bipush (X.here) hx rfl (hb hby hd)  st2, r⟩
theorem Ru.sipush (C : Ru l Z own code maxL ret nm R n0 G W) {i : Int} {v : Int32} (hd : decode code pc = .ok (.sipush i, 3)) (hp : pc + 3 = pc') (hv : (Int16.ofInt i).toInt32 = v) (q : W h k n pc' Ls (.int v :: st)) : W h k n pc Ls (st) := by
  obtain ⟨p, e, s, m, args, below, meth, c, FE, ⟨hx, hby, hml, hown, hZ, hre, hlk, hnm⟩, hFE, rfl⟩ := C
  subst hp hv
  intro T locs k' n' q1 q2 X eT N
  obtain ⟨s2, o, st2, r⟩ := q T locs k' n' q1 q2 X eT N
  exact ⟨s2, o, XS.sipush (X.here) hx rfl (hb hby hd)  st2, r⟩
theorem Ru.lconst (C : Ru l Z own code maxL ret nm R n0 G W) {i : Fin 2} {v : Int64} (hd : decode code pc = .ok (.lconst i, 1)) (hp : pc + 1 = pc') (hv : Int64.ofNat i = v) (q : W h k n pc' Ls (.long v :: st)) : W h k n pc Ls (st) := by
  obtain ⟨p, e, s, m, args, below, meth, c, FE, ⟨hx, hby, hml, hown, hZ, hre, hlk, hnm⟩, hFE, rfl⟩ := C
  subst hp hv
  intro T locs k' n' q1 q2 X eT N
  obtain ⟨s2, o, st2, r⟩ := q T locs k' n' q1 q2 X eT N
  exact ⟨s2, o, XT.lconst (X.here) hx rfl (hb hby hd)  st2, r⟩
theorem Ru.aconstNull (C : Ru l Z own code maxL ret nm R n0 G W)  (hd : decode code pc = .ok (.aconst_null, 1)) (hp : pc + 1 = pc') (q : W h k n pc' Ls (.null :: st)) : W h k n pc Ls (st) := by
  obtain ⟨p, e, s, m, args, below, meth, c, FE, ⟨hx, hby, hml, hown, hZ, hre, hlk, hnm⟩, hFE, rfl⟩ := C
  subst hp
  intro T locs k' n' q1 q2 X eT N
  obtain ⟨s2, o, st2, r⟩ := q T locs k' n' q1 q2 X eT N
  exact ⟨s2, o, XS.aconstNull (X.here) hx rfl (hb hby hd)  st2, r⟩
theorem Ru.dup (C : Ru l Z own code maxL ret nm R n0 G W) {x : Value} (hd : decode code pc = .ok (.dup, 1)) (hp : pc + 1 = pc') (hc : x.category = 1) (q : W h k n pc' Ls (x :: x :: rest)) : W h k n pc Ls (x :: rest) := by
  obtain ⟨p, e, s, m, args, below, meth, c, FE, ⟨hx, hby, hml, hown, hZ, hre, hlk, hnm⟩, hFE, rfl⟩ := C
  subst hp
  intro T locs k' n' q1 q2 X eT N
  obtain ⟨s2, o, st2, r⟩ := q T locs k' n' q1 q2 X eT N
  exact ⟨s2, o, XS.dup (X.here) hx rfl (hb hby hd) rfl hc st2, r⟩
theorem Ru.pop (C : Ru l Z own code maxL ret nm R n0 G W) {x : Value} (hd : decode code pc = .ok (.pop, 1)) (hp : pc + 1 = pc') (hc : x.category = 1) (q : W h k n pc' Ls (rest)) : W h k n pc Ls (x :: rest) := by
  obtain ⟨p, e, s, m, args, below, meth, c, FE, ⟨hx, hby, hml, hown, hZ, hre, hlk, hnm⟩, hFE, rfl⟩ := C
  subst hp
  intro T locs k' n' q1 q2 X eT N
  obtain ⟨s2, o, st2, r⟩ := q T locs k' n' q1 q2 X eT N
  exact ⟨s2, o, XT.pop (X.here) hx rfl (hb hby hd) rfl hc st2, r⟩
theorem Ru.dup2 (C : Ru l Z own code maxL ret nm R n0 G W) {x y : Value} (hd : decode code pc = .ok (.dup2, 1)) (hp : pc + 1 = pc') (hc : x.category = 1) (hc' : y.category = 1) (q : W h k n pc' Ls (x :: y :: x :: y :: rest)) : W h k n pc Ls (x :: y :: rest) := by
  obtain ⟨p, e, s, m, args, below, meth, c, FE, ⟨hx, hby, hml, hown, hZ, hre, hlk, hnm⟩, hFE, rfl⟩ := C
  subst hp
  intro T locs k' n' q1 q2 X eT N
  obtain ⟨s2, o, st2, r⟩ := q T locs k' n' q1 q2 X eT N
  exact ⟨s2, o, XT.dup2 (X.here) hx rfl (hb hby hd) rfl hc hc' st2, r⟩
theorem Ru.dup2L (C : Ru l Z own code maxL ret nm R n0 G W) {x : Int64} (hd : decode code pc = .ok (.dup2, 1)) (hp : pc + 1 = pc') (q : W h k n pc' Ls (.long x :: .long x :: rest)) : W h k n pc Ls (.long x :: rest) := by
  obtain ⟨p, e, s, m, args, below, meth, c, FE, ⟨hx, hby, hml, hown, hZ, hre, hlk, hnm⟩, hFE, rfl⟩ := C
  subst hp
  intro T locs k' n' q1 q2 X eT N
  obtain ⟨s2, o, st2, r⟩ := q T locs k' n' q1 q2 X eT N
  exact ⟨s2, o, XT.dup2L (X.here) hx rfl (hb hby hd) rfl st2, r⟩
theorem Ru.dupX1 (C : Ru l Z own code maxL ret nm R n0 G W) {x y : Value} (hd : decode code pc = .ok (.dup_x1, 1)) (hp : pc + 1 = pc') (hc : x.category = 1) (hc' : y.category = 1) (q : W h k n pc' Ls (x :: y :: x :: rest)) : W h k n pc Ls (x :: y :: rest) := by
  obtain ⟨p, e, s, m, args, below, meth, c, FE, ⟨hx, hby, hml, hown, hZ, hre, hlk, hnm⟩, hFE, rfl⟩ := C
  subst hp
  intro T locs k' n' q1 q2 X eT N
  obtain ⟨s2, o, st2, r⟩ := q T locs k' n' q1 q2 X eT N
  exact ⟨s2, o, XT.dupX1 (X.here) hx rfl (hb hby hd) rfl hc hc' st2, r⟩
theorem Ru.iload (C : Ru l Z own code maxL ret nm R n0 G W) {j : Nat} {v : Int32} (hd : decode code pc = .ok (.iload j, 2)) (hp : pc + 2 = pc') (hl : Ls[j]? = some (.val (.int v))) (q : W h k n pc' Ls (.int v :: st)) : W h k n pc Ls (st) := by
  obtain ⟨p, e, s, m, args, below, meth, c, FE, ⟨hx, hby, hml, hown, hZ, hre, hlk, hnm⟩, hFE, rfl⟩ := C
  subst hp
  intro T locs k' n' q1 q2 X eT N
  obtain ⟨s2, o, st2, r⟩ := q T locs k' n' q1 q2 X eT N
  exact ⟨s2, o, XS.iload (X.here) hx rfl (hb hby hd) hl st2, r⟩
theorem Ru.iloadN (C : Ru l Z own code maxL ret nm R n0 G W) {j : Fin 4} {v : Int32} (hd : decode code pc = .ok (.iload_n j, 1)) (hp : pc + 1 = pc') (hl : Ls[j.val]? = some (.val (.int v))) (q : W h k n pc' Ls (.int v :: st)) : W h k n pc Ls (st) := by
  obtain ⟨p, e, s, m, args, below, meth, c, FE, ⟨hx, hby, hml, hown, hZ, hre, hlk, hnm⟩, hFE, rfl⟩ := C
  subst hp
  intro T locs k' n' q1 q2 X eT N
  obtain ⟨s2, o, st2, r⟩ := q T locs k' n' q1 q2 X eT N
  exact ⟨s2, o, XS.iloadN (X.here) hx rfl (hb hby hd) hl st2, r⟩
theorem Ru.lload (C : Ru l Z own code maxL ret nm R n0 G W) {j : Nat} {v : Int64} (hd : decode code pc = .ok (.lload j, 2)) (hp : pc + 2 = pc') (hl : Ls[j]? = some (.val (.long v))) (q : W h k n pc' Ls (.long v :: st)) : W h k n pc Ls (st) := by
  obtain ⟨p, e, s, m, args, below, meth, c, FE, ⟨hx, hby, hml, hown, hZ, hre, hlk, hnm⟩, hFE, rfl⟩ := C
  subst hp
  intro T locs k' n' q1 q2 X eT N
  obtain ⟨s2, o, st2, r⟩ := q T locs k' n' q1 q2 X eT N
  exact ⟨s2, o, XT.lload (X.here) hx rfl (hb hby hd) hl st2, r⟩
theorem Ru.lloadN (C : Ru l Z own code maxL ret nm R n0 G W) {j : Fin 4} {v : Int64} (hd : decode code pc = .ok (.lload_n j, 1)) (hp : pc + 1 = pc') (hl : Ls[j.val]? = some (.val (.long v))) (q : W h k n pc' Ls (.long v :: st)) : W h k n pc Ls (st) := by
  obtain ⟨p, e, s, m, args, below, meth, c, FE, ⟨hx, hby, hml, hown, hZ, hre, hlk, hnm⟩, hFE, rfl⟩ := C
  subst hp
  intro T locs k' n' q1 q2 X eT N
  obtain ⟨s2, o, st2, r⟩ := q T locs k' n' q1 q2 X eT N
  exact ⟨s2, o, XT.lloadN (X.here) hx rfl (hb hby hd) hl st2, r⟩
theorem Ru.aload (C : Ru l Z own code maxL ret nm R n0 G W) {j : Nat} {v : Value} (hd : decode code pc = .ok (.aload j, 2)) (hp : pc + 2 = pc') (hl : Ls[j]? = some (.val v)) (hv : v.isRef = true) (q : W h k n pc' Ls (v :: st)) : W h k n pc Ls (st) := by
  obtain ⟨p, e, s, m, args, below, meth, c, FE, ⟨hx, hby, hml, hown, hZ, hre, hlk, hnm⟩, hFE, rfl⟩ := C
  subst hp
  intro T locs k' n' q1 q2 X eT N
  obtain ⟨s2, o, st2, r⟩ := q T locs k' n' q1 q2 X eT N
  exact ⟨s2, o, XS.aload (X.here) hx rfl (hb hby hd) hl hv st2, r⟩
theorem Ru.aloadN (C : Ru l Z own code maxL ret nm R n0 G W) {j : Fin 4} {v : Value} (hd : decode code pc = .ok (.aload_n j, 1)) (hp : pc + 1 = pc') (hl : Ls[j.val]? = some (.val v)) (hv : v.isRef = true) (q : W h k n pc' Ls (v :: st)) : W h k n pc Ls (st) := by
  obtain ⟨p, e, s, m, args, below, meth, c, FE, ⟨hx, hby, hml, hown, hZ, hre, hlk, hnm⟩, hFE, rfl⟩ := C
  subst hp
  intro T locs k' n' q1 q2 X eT N
  obtain ⟨s2, o, st2, r⟩ := q T locs k' n' q1 q2 X eT N
  exact ⟨s2, o, XS.aloadN (X.here) hx rfl (hb hby hd) hl hv st2, r⟩
theorem Ru.istoreX (C : Ru l Z own code maxL ret nm R n0 G W) {j : Nat} {x : Int32} {l' : Array Slot} (hd : decode code pc = .ok (.istore j, 2)) (hp : pc + 2 = pc') (hl : storeLocals Ls j (.int x) = some l') (q : W h k n pc' l' rest) : W h k n pc Ls (.int x :: rest) := by
  obtain ⟨p, e, s, m, args, below, meth, c, FE, ⟨hx, hby, hml, hown, hZ, hre, hlk, hnm⟩, hFE, rfl⟩ := C
  subst hp
  intro T locs k' n' q1 q2 X eT N
  obtain ⟨s2, o, st2, r⟩ := q T locs k' n' q1 q2 X eT N
  exact ⟨s2, o, XS.istore X.here hx rfl (hb hby hd) rfl hl st2, r⟩
theorem Ru.istoreNX (C : Ru l Z own code maxL ret nm R n0 G W) {j : Fin 4} {x : Int32} {l' : Array Slot} (hd : decode code pc = .ok (.istore_n j, 1)) (hp : pc + 1 = pc') (hl : storeLocals Ls j.val (.int x) = some l') (q : W h k n pc' l' rest) : W h k n pc Ls (.int x :: rest) := by
  obtain ⟨p, e, s, m, args, below, meth, c, FE, ⟨hx, hby, hml, hown, hZ, hre, hlk, hnm⟩, hFE, rfl⟩ := C
  subst hp
  intro T locs k' n' q1 q2 X eT N
  obtain ⟨s2, o, st2, r⟩ := q T locs k' n' q1 q2 X eT N
  exact ⟨s2, o, XS.istoreN X.here hx rfl (hb hby hd) rfl hl st2, r⟩
theorem Ru.lstoreX (C : Ru l Z own code maxL ret nm R n0 G W) {j : Nat} {x : Int64} {l' : Array Slot} (hd : decode code pc = .ok (.lstore j, 2)) (hp : pc + 2 = pc') (hl : storeLocals Ls j (.long x) = some l') (q : W h k n pc' l' rest) : W h k n pc Ls (.long x :: rest) := by
  obtain ⟨p, e, s, m, args, below, meth, c, FE, ⟨hx, hby, hml, hown, hZ, hre, hlk, hnm⟩, hFE, rfl⟩ := C
  subst hp
  intro T locs k' n' q1 q2 X eT N
  obtain ⟨s2, o, st2, r⟩ := q T locs k' n' q1 q2 X eT N
  exact ⟨s2, o, XT.lstore X.here hx rfl (hb hby hd) rfl hl st2, r⟩
theorem Ru.lstoreNX (C : Ru l Z own code maxL ret nm R n0 G W) {j : Fin 4} {x : Int64} {l' : Array Slot} (hd : decode code pc = .ok (.lstore_n j, 1)) (hp : pc + 1 = pc') (hl : storeLocals Ls j.val (.long x) = some l') (q : W h k n pc' l' rest) : W h k n pc Ls (.long x :: rest) := by
  obtain ⟨p, e, s, m, args, below, meth, c, FE, ⟨hx, hby, hml, hown, hZ, hre, hlk, hnm⟩, hFE, rfl⟩ := C
  subst hp
  intro T locs k' n' q1 q2 X eT N
  obtain ⟨s2, o, st2, r⟩ := q T locs k' n' q1 q2 X eT N
  exact ⟨s2, o, XT.lstoreN X.here hx rfl (hb hby hd) rfl hl st2, r⟩
theorem Ru.istore (C : Ru l Z own code maxL ret nm R n0 G W) {j : Nat} {x : Int32} {f : Int32 → Array Slot} (hd : decode code pc = .ok (.istore j, 2)) (hp : pc + 2 = pc') (hl : ∀ v, storeLocals Ls j (.int v) = some (f v)) (q : ∀ v, v = x → W h k n pc' (f v) rest) : W h k n pc Ls (.int x :: rest) := by
  obtain ⟨p, e, s, m, args, below, meth, c, FE, ⟨hx, hby, hml, hown, hZ, hre, hlk, hnm⟩, hFE, rfl⟩ := C
  subst hp
  intro T locs k' n' q1 q2 X eT N
  obtain ⟨s2, o, st2, r⟩ := q x rfl T locs k' n' q1 q2 X eT N
  exact ⟨s2, o, XS.istore X.here hx rfl (hb hby hd) rfl (hl x) st2, r⟩
theorem Ru.istoreN (C : Ru l Z own code maxL ret nm R n0 G W) {j : Fin 4} {x : Int32} {f : Int32 → Array Slot} (hd : decode code pc = .ok (.istore_n j, 1)) (hp : pc + 1 = pc') (hl : ∀ v, storeLocals Ls j.val (.int v) = some (f v)) (q : ∀ v, v = x → W h k n pc' (f v) rest) : W h k n pc Ls (.int x :: rest) := by
  obtain ⟨p, e, s, m, args, below, meth, c, FE, ⟨hx, hby, hml, hown, hZ, hre, hlk, hnm⟩, hFE, rfl⟩ := C
  subst hp
  intro T locs k' n' q1 q2 X eT N
  obtain ⟨s2, o, st2, r⟩ := q x rfl T locs k' n' q1 q2 X eT N
  exact ⟨s2, o, XS.istoreN X.here hx rfl (hb hby hd) rfl (hl x) st2, r⟩
theorem Ru.lstore (C : Ru l Z own code maxL ret nm R n0 G W) {j : Nat} {x : Int64} {f : Int64 → Array Slot} (hd : decode code pc = .ok (.lstore j, 2)) (hp : pc + 2 = pc') (hl : ∀ v, storeLocals Ls j (.long v) = some (f v)) (q : ∀ v, v = x → W h k n pc' (f v) rest) : W h k n pc Ls (.long x :: rest) := by
  obtain ⟨p, e, s, m, args, below, meth, c, FE, ⟨hx, hby, hml, hown, hZ, hre, hlk, hnm⟩, hFE, rfl⟩ := C
  subst hp
  intro T locs k' n' q1 q2 X eT N
  obtain ⟨s2, o, st2, r⟩ := q x rfl T locs k' n' q1 q2 X eT N
  exact ⟨s2, o, XT.lstore X.here hx rfl (hb hby hd) rfl (hl x) st2, r⟩
theorem Ru.lstoreN (C : Ru l Z own code maxL ret nm R n0 G W) {j : Fin 4} {x : Int64} {f : Int64 → Array Slot} (hd : decode code pc = .ok (.lstore_n j, 1)) (hp : pc + 1 = pc') (hl : ∀ v, storeLocals Ls j.val (.long v) = some (f v)) (q : ∀ v, v = x → W h k n pc' (f v) rest) : W h k n pc Ls (.long x :: rest) := by
  obtain ⟨p, e, s, m, args, below, meth, c, FE, ⟨hx, hby, hml, hown, hZ, hre, hlk, hnm⟩, hFE, rfl⟩ := C
  subst hp
  intro T locs k' n' q1 q2 X eT N
  obtain ⟨s2, o, st2, r⟩ := q x rfl T locs k' n' q1 q2 X eT N
  exact ⟨s2, o, XT.lstoreN X.here hx rfl (hb hby hd) rfl (hl x) st2, r⟩
theorem Ru.astore (C : Ru l Z own code maxL ret nm R n0 G W) {j : Nat} {x : Value} {l' : Array Slot} (hd : decode code pc = .ok (.astore j, 2)) (hp : pc + 2 = pc') (hv : x.isRef = true) (hl : storeLocals Ls j x = some l') (q : W h k n pc' l' rest) : W h k n pc Ls (x :: rest) := by
  obtain ⟨p, e, s, m, args, below, meth, c, FE, ⟨hx, hby, hml, hown, hZ, hre, hlk, hnm⟩, hFE, rfl⟩ := C
  subst hp
  intro T locs k' n' q1 q2 X eT N
  obtain ⟨s2, o, st2, r⟩ := q T locs k' n' q1 q2 X eT N
  exact ⟨s2, o, XS.astore X.here hx rfl (hb hby hd) rfl hv hl st2, r⟩
theorem Ru.astoreN (C : Ru l Z own code maxL ret nm R n0 G W) {j : Fin 4} {x : Value} {l' : Array Slot} (hd : decode code pc = .ok (.astore_n j, 1)) (hp : pc + 1 = pc') (hv : x.isRef = true) (hl : storeLocals Ls j.val x = some l') (q : W h k n pc' l' rest) : W h k n pc Ls (x :: rest) := by
  obtain ⟨p, e, s, m, args, below, meth, c, FE, ⟨hx, hby, hml, hown, hZ, hre, hlk, hnm⟩, hFE, rfl⟩ := C
  subst hp
  intro T locs k' n' q1 q2 X eT N
  obtain ⟨s2, o, st2, r⟩ := q T locs k' n' q1 q2 X eT N
  exact ⟨s2, o, XS.astoreN X.here hx rfl (hb hby hd) rfl hv hl st2, r⟩
theorem Ru.iinc (C : Ru l Z own code maxL ret nm R n0 G W) {j : Nat} {cst : Int} {x d : Int32} {f : Int32 → Array Slot} (hd : decode code pc = .ok (.iinc j cst, 3)) (hp : pc + 3 = pc') (hl : Ls[j]? = some (.val (.int x))) (hc : Int32.ofInt cst = d) (hl' : ∀ v, storeLocals Ls j (.int v) = some (f v)) (q : ∀ v, v = x + d → W h k n pc' (f v) st) : W h k n pc Ls st := by
  obtain ⟨p, e, s, m, args, below, meth, c, FE, ⟨hx, hby, hml, hown, hZ, hre, hlk, hnm⟩, hFE, rfl⟩ := C
  subst hp hc
  intro T locs k' n' q1 q2 X eT N
  obtain ⟨s2, o, st2, r⟩ := q _ rfl T locs k' n' q1 q2 X eT N
  exact ⟨s2, o, XS.iinc X.here hx rfl (hb hby hd) hl (hl' _) st2, r⟩
theorem Ru.goto (C : Ru l Z own code maxL ret nm R n0 G W) {o : Int} (hd : decode code pc = .ok (.goto o, 3)) (hp : (pc : Int) + o = (pc' : Int)) (q : W h k n pc' Ls st) : W h k n pc Ls st := by
  obtain ⟨p, e, s, m, args, below, meth, c, FE, ⟨hx, hby, hml, hown, hZ, hre, hlk, hnm⟩, hFE, rfl⟩ := C
  intro T locs k' n' q1 q2 X eT N
  obtain ⟨s2, o2, st2, r⟩ := q T locs k' n' q1 q2 X eT N
  exact ⟨s2, o2, XS.goto X.here hx rfl (pc0 := pc) (pc' := pc') rfl (hb hby hd) (by omega) (by omega) st2, r⟩
theorem Ru.ifAny (C : Ru l Z own code maxL ret nm R n0 G W) {cd : ClassFile.Cond} {o : Int} {x : Int32} {pt : Nat} (hd : decode code pc = .ok (.ifCond cd o, 3)) (hp : pc + 3 = pc') (ht : (pc : Int) + o = (pt : Int)) (q1 : ifCond.holds cd x = true → W h k n pt Ls rest) (q2 : ifCond.holds cd x = false → W h k n pc' Ls rest) : W h k n pc Ls (.int x :: rest) := by
  obtain ⟨p, e, s, m, args, below, meth, c, FE, ⟨hx, hby, hml, hown, hZ, hre, hlk, hnm⟩, hFE, rfl⟩ := C
  subst hp
  intro T locs k' n' u1 u2 X eT N
  cases hc : ifCond.holds cd x
  · obtain ⟨s2, o2, st2, r⟩ := q2 hc T locs k' n' u1 u2 X eT N
    exact ⟨s2, o2, XS.ifNo X.here hx rfl (hb hby hd) rfl hc st2, r⟩
  · obtain ⟨s2, o2, st2, r⟩ := q1 hc T locs k' n' u1 u2 X eT N
    exact ⟨s2, o2, XS.ifYes X.here hx rfl (pc0 := pc) (pc' := pt) rfl (hb hby hd) rfl hc (by omega) (by omega) st2, r⟩
theorem Ru.icmpAny (C : Ru l Z own code maxL ret nm R n0 G W) {cd : ClassFile.Cond} {o : Int} {x y : Int32} {pt : Nat} (hd : decode code pc = .ok (.if_icmp cd o, 3)) (hp : pc + 3 = pc') (ht : (pc : Int) + o = (pt : Int)) (q1 : if_icmp.holds cd x y = true → W h k n pt Ls rest) (q2 : if_icmp.holds cd x y = false → W h k n pc' Ls rest) : W h k n pc Ls (.int y :: .int x :: rest) := by
  obtain ⟨p, e, s, m, args, below, meth, c, FE, ⟨hx, hby, hml, hown, hZ, hre, hlk, hnm⟩, hFE, rfl⟩ := C
  subst hp
  intro T locs k' n' u1 u2 X eT N
  cases hc : if_icmp.holds cd x y
  · obtain ⟨s2, o2, st2, r⟩ := q2 hc T locs k' n' u1 u2 X eT N
    exact ⟨s2, o2, XS.icmpNo X.here hx rfl (hb hby hd) rfl hc st2, r⟩
  · obtain ⟨s2, o2, st2, r⟩ := q1 hc T locs k' n' u1 u2 X eT N
    exact ⟨s2, o2, XS.icmpYes X.here hx rfl (pc0 := pc) (pc' := pt) rfl (hb hby hd) rfl hc (by omega) (by omega) st2, r⟩
theorem Ru.lcmp (C : Ru l Z own code maxL ret nm R n0 G W) {x y : Int64} (hd : decode code pc = .ok (.lcmp, 1)) (hp : pc + 1 = pc') (q : W h k n pc' Ls (.int (XT.cmpL x y) :: rest)) : W h k n pc Ls (.long y :: .long x :: rest) := by
  obtain ⟨p, e, s, m, args, below, meth, c, FE, ⟨hx, hby, hml, hown, hZ, hre, hlk, hnm⟩, hFE, rfl⟩ := C
  subst hp
  intro T locs k' n' q1 q2 X eT N
  obtain ⟨s2, o, st2, r⟩ := q T locs k' n' q1 q2 X eT N
  exact ⟨s2, o, XT.lcmp X.here hx rfl (hb hby hd) rfl st2, r⟩
theorem cmpL_lt (x y : Int64) : XT.cmpL x y < 0 ↔ x < y := by
  have e : XT.cmpL x y = lcmpV x y := by simp only [XT.cmpL, lcmpV]; split <;> simp_all
  rw [e]; exact lc_lt x y
theorem cmpL_gt (x y : Int64) : 0 < XT.cmpL x y ↔ y < x := by
  have e : XT.cmpL x y = lcmpV x y := by simp only [XT.cmpL, lcmpV]; split <;> simp_all
  rw [e]; exact lc_gt x y
theorem cmpL_eq (x y : Int64) : XT.cmpL x y = 0 ↔ x = y := by
  have e : XT.cmpL x y = lcmpV x y := by simp only [XT.cmpL, lcmpV]; split <;> simp_all
  rw [e]; exact lc_eq x y
theorem Ru.if_eq (C : Ru l Z own code maxL ret nm R n0 G W) {o : Int} {x : Int32} {pt : Nat} (hd : decode code pc = .ok (.ifCond .eq o, 3)) (hp : pc + 3 = pc') (ht : (pc : Int) + o = (pt : Int)) (q1 : x = 0 → W h k n pt Ls rest) (q2 : ¬ x = 0 → W h k n pc' Ls rest) : W h k n pc Ls (.int x :: rest) :=
  C.ifAny hd hp ht (fun q => q1 (by simpa [ifCond.holds] using q)) (fun q => q2 (by simpa [ifCond.holds] using q))
theorem Ru.icmp_eq (C : Ru l Z own code maxL ret nm R n0 G W) {o : Int} {x y : Int32} {pt : Nat} (hd : decode code pc = .ok (.if_icmp .eq o, 3)) (hp : pc + 3 = pc') (ht : (pc : Int) + o = (pt : Int)) (q1 : x = y → W h k n pt Ls rest) (q2 : ¬ x = y → W h k n pc' Ls rest) : W h k n pc Ls (.int y :: .int x :: rest) :=
  C.icmpAny hd hp ht (fun q => q1 (by simpa [if_icmp.holds] using q)) (fun q => q2 (by simpa [if_icmp.holds] using q))
theorem Ru.lif_eq (C : Ru l Z own code maxL ret nm R n0 G W) {o : Int} {x y : Int64} {pi pt : Nat} (hd : decode code pc = .ok (.lcmp, 1)) (hi : pc + 1 = pi) (hd2 : decode code pi = .ok (.ifCond .eq o, 3)) (hp : pi + 3 = pc') (ht : (pi : Int) + o = (pt : Int)) (q1 : x = y → W h k n pt Ls rest) (q2 : ¬ x = y → W h k n pc' Ls rest) : W h k n pc Ls (.long y :: .long x :: rest) :=
  C.lcmp hd hi (C.if_eq hd2 hp ht (fun q => q1 (by simpa only [cmpL_eq, cmpL_lt, cmpL_gt] using q)) (fun q => q2 (by simpa only [cmpL_eq, cmpL_lt, cmpL_gt] using q)))
theorem Ru.if_ne (C : Ru l Z own code maxL ret nm R n0 G W) {o : Int} {x : Int32} {pt : Nat} (hd : decode code pc = .ok (.ifCond .ne o, 3)) (hp : pc + 3 = pc') (ht : (pc : Int) + o = (pt : Int)) (q1 : ¬ x = 0 → W h k n pt Ls rest) (q2 : x = 0 → W h k n pc' Ls rest) : W h k n pc Ls (.int x :: rest) :=
  C.ifAny hd hp ht (fun q => q1 (by simpa [ifCond.holds] using q)) (fun q => q2 (by simpa [ifCond.holds] using q))
theorem Ru.icmp_ne (C : Ru l Z own code maxL ret nm R n0 G W) {o : Int} {x y : Int32} {pt : Nat} (hd : decode code pc = .ok (.if_icmp .ne o, 3)) (hp : pc + 3 = pc') (ht : (pc : Int) + o = (pt : Int)) (q1 : ¬ x = y → W h k n pt Ls rest) (q2 : x = y → W h k n pc' Ls rest) : W h k n pc Ls (.int y :: .int x :: rest) :=
  C.icmpAny hd hp ht (fun q => q1 (by simpa [if_icmp.holds] using q)) (fun q => q2 (by simpa [if_icmp.holds] using q))
theorem Ru.lif_ne (C : Ru l Z own code maxL ret nm R n0 G W) {o : Int} {x y : Int64} {pi pt : Nat} (hd : decode code pc = .ok (.lcmp, 1)) (hi : pc + 1 = pi) (hd2 : decode code pi = .ok (.ifCond .ne o, 3)) (hp : pi + 3 = pc') (ht : (pi : Int) + o = (pt : Int)) (q1 : ¬ x = y → W h k n pt Ls rest) (q2 : x = y → W h k n pc' Ls rest) : W h k n pc Ls (.long y :: .long x :: rest) :=
  C.lcmp hd hi (C.if_ne hd2 hp ht (fun q => q1 (by simpa only [cmpL_eq, cmpL_lt, cmpL_gt] using q)) (fun q => q2 (by simpa only [cmpL_eq, cmpL_lt, cmpL_gt] using q)))
theorem Ru.if_lt (C : Ru l Z own code maxL ret nm R n0 G W) {o : Int} {x : Int32} {pt : Nat} (hd : decode code pc = .ok (.ifCond .lt o, 3)) (hp : pc + 3 = pc') (ht : (pc : Int) + o = (pt : Int)) (q1 : x < 0 → W h k n pt Ls rest) (q2 : ¬ x < 0 → W h k n pc' Ls rest) : W h k n pc Ls (.int x :: rest) :=
  C.ifAny hd hp ht (fun q => q1 (by simpa [ifCond.holds] using q)) (fun q => q2 (by simpa [ifCond.holds] using q))
theorem Ru.icmp_lt (C : Ru l Z own code maxL ret nm R n0 G W) {o : Int} {x y : Int32} {pt : Nat} (hd : decode code pc = .ok (.if_icmp .lt o, 3)) (hp : pc + 3 = pc') (ht : (pc : Int) + o = (pt : Int)) (q1 : x < y → W h k n pt Ls rest) (q2 : ¬ x < y → W h k n pc' Ls rest) : W h k n pc Ls (.int y :: .int x :: rest) :=
  C.icmpAny hd hp ht (fun q => q1 (by simpa [if_icmp.holds] using q)) (fun q => q2 (by simpa [if_icmp.holds] using q))
theorem Ru.lif_lt (C : Ru l Z own code maxL ret nm R n0 G W) {o : Int} {x y : Int64} {pi pt : Nat} (hd : decode code pc = .ok (.lcmp, 1)) (hi : pc + 1 = pi) (hd2 : decode code pi = .ok (.ifCond .lt o, 3)) (hp : pi + 3 = pc') (ht : (pi : Int) + o = (pt : Int)) (q1 : x < y → W h k n pt Ls rest) (q2 : ¬ x < y → W h k n pc' Ls rest) : W h k n pc Ls (.long y :: .long x :: rest) :=
  C.lcmp hd hi (C.if_lt hd2 hp ht (fun q => q1 (by simpa only [cmpL_eq, cmpL_lt, cmpL_gt] using q)) (fun q => q2 (by simpa only [cmpL_eq, cmpL_lt, cmpL_gt] using q)))
theorem Ru.if_ge (C : Ru l Z own code maxL ret nm R n0 G W) {o : Int} {x : Int32} {pt : Nat} (hd : decode code pc = .ok (.ifCond .ge o, 3)) (hp : pc + 3 = pc') (ht : (pc : Int) + o = (pt : Int)) (q1 : ¬ x < 0 → W h k n pt Ls rest) (q2 : x < 0 → W h k n pc' Ls rest) : W h k n pc Ls (.int x :: rest) :=
  C.ifAny hd hp ht (fun q => q1 (by simpa [ifCond.holds] using q)) (fun q => q2 (by simpa [ifCond.holds] using q))
theorem Ru.icmp_ge (C : Ru l Z own code maxL ret nm R n0 G W) {o : Int} {x y : Int32} {pt : Nat} (hd : decode code pc = .ok (.if_icmp .ge o, 3)) (hp : pc + 3 = pc') (ht : (pc : Int) + o = (pt : Int)) (q1 : ¬ x < y → W h k n pt Ls rest) (q2 : x < y → W h k n pc' Ls rest) : W h k n pc Ls (.int y :: .int x :: rest) :=
  C.icmpAny hd hp ht (fun q => q1 (by simpa [if_icmp.holds] using q)) (fun q => q2 (by simpa [if_icmp.holds] using q))
theorem Ru.lif_ge (C : Ru l Z own code maxL ret nm R n0 G W) {o : Int} {x y : Int64} {pi pt : Nat} (hd : decode code pc = .ok (.lcmp, 1)) (hi : pc + 1 = pi) (hd2 : decode code pi = .ok (.ifCond .ge o, 3)) (hp : pi + 3 = pc') (ht : (pi : Int) + o = (pt : Int)) (q1 : ¬ x < y → W h k n pt Ls rest) (q2 : x < y → W h k n pc' Ls rest) : W h k n pc Ls (.long y :: .long x :: rest) :=
  C.lcmp hd hi (C.if_ge hd2 hp ht (fun q => q1 (by simpa only [cmpL_eq, cmpL_lt, cmpL_gt] using q)) (fun q => q2 (by simpa only [cmpL_eq, cmpL_lt, cmpL_gt] using q)))
theorem Ru.if_gt (C : Ru l Z own code maxL ret nm R n0 G W) {o : Int} {x : Int32} {pt : Nat} (hd : decode code pc = .ok (.ifCond .gt o, 3)) (hp : pc + 3 = pc') (ht : (pc : Int) + o = (pt : Int)) (q1 : 0 < x → W h k n pt Ls rest) (q2 : ¬ 0 < x → W h k n pc' Ls rest) : W h k n pc Ls (.int x :: rest) :=
  C.ifAny hd hp ht (fun q => q1 (by simpa [ifCond.holds] using q)) (fun q => q2 (by simpa [ifCond.holds] using q))
theorem Ru.icmp_gt (C : Ru l Z own code maxL ret nm R n0 G W) {o : Int} {x y : Int32} {pt : Nat} (hd : decode code pc = .ok (.if_icmp .gt o, 3)) (hp : pc + 3 = pc') (ht : (pc : Int) + o = (pt : Int)) (q1 : y < x → W h k n pt Ls rest) (q2 : ¬ y < x → W h k n pc' Ls rest) : W h k n pc Ls (.int y :: .int x :: rest) :=
  C.icmpAny hd hp ht (fun q => q1 (by simpa [if_icmp.holds] using q)) (fun q => q2 (by simpa [if_icmp.holds] using q))
theorem Ru.lif_gt (C : Ru l Z own code maxL ret nm R n0 G W) {o : Int} {x y : Int64} {pi pt : Nat} (hd : decode code pc = .ok (.lcmp, 1)) (hi : pc + 1 = pi) (hd2 : decode code pi = .ok (.ifCond .gt o, 3)) (hp : pi + 3 = pc') (ht : (pi : Int) + o = (pt : Int)) (q1 : y < x → W h k n pt Ls rest) (q2 : ¬ y < x → W h k n pc' Ls rest) : W h k n pc Ls (.long y :: .long x :: rest) :=
  C.lcmp hd hi (C.if_gt hd2 hp ht (fun q => q1 (by simpa only [cmpL_eq, cmpL_lt, cmpL_gt] using q)) (fun q => q2 (by simpa only [cmpL_eq, cmpL_lt, cmpL_gt] using q)))
theorem Ru.if_le (C : Ru l Z own code maxL ret nm R n0 G W) {o : Int} {x : Int32} {pt : Nat} (hd : decode code pc = .ok (.ifCond .le o, 3)) (hp : pc + 3 = pc') (ht : (pc : Int) + o = (pt : Int)) (q1 : ¬ 0 < x → W h k n pt Ls rest) (q2 : 0 < x → W h k n pc' Ls rest) : W h k n pc Ls (.int x :: rest) :=
  C.ifAny hd hp ht (fun q => q1 (by simpa [ifCond.holds] using q)) (fun q => q2 (by simpa [ifCond.holds] using q))
theorem Ru.icmp_le (C : Ru l Z own code maxL ret nm R n0 G W) {o : Int} {x y : Int32} {pt : Nat} (hd : decode code pc = .ok (.if_icmp .le o, 3)) (hp : pc + 3 = pc') (ht : (pc : Int) + o = (pt : Int)) (q1 : ¬ y < x → W h k n pt Ls rest) (q2 : y < x → W h k n pc' Ls rest) : W h k n pc Ls (.int y :: .int x :: rest) :=
  C.icmpAny hd hp ht (fun q => q1 (by simpa [if_icmp.holds] using q)) (fun q => q2 (by simpa [if_icmp.holds] using q))
theorem Ru.lif_le (C : Ru l Z own code maxL ret nm R n0 G W) {o : Int} {x y : Int64} {pi pt : Nat} (hd : decode code pc = .ok (.lcmp, 1)) (hi : pc + 1 = pi) (hd2 : decode code pi = .ok (.ifCond .le o, 3)) (hp : pi + 3 = pc') (ht : (pi : Int) + o = (pt : Int)) (q1 : ¬ y < x → W h k n pt Ls rest) (q2 : y < x → W h k n pc' Ls rest) : W h k n pc Ls (.long y :: .long x :: rest) :=
  C.lcmp hd hi (C.if_le hd2 hp ht (fun q => q1 (by simpa only [cmpL_eq, cmpL_lt, cmpL_gt] using q)) (fun q => q2 (by simpa only [cmpL_eq, cmpL_lt, cmpL_gt] using q)))
theorem Ru.ifnullYes (C : Ru l Z own code maxL ret nm R n0 G W) {o : Int}  (hd : decode code pc = .ok (.ifnull o, 3)) (hp : (pc : Int) + o = (pc' : Int)) (q : W h k n pc' Ls rest) : W h k n pc Ls (.null :: rest) := by
  obtain ⟨p, e, s, m, args, below, meth, c, FE, ⟨hx, hby, hml, hown, hZ, hre, hlk, hnm⟩, hFE, rfl⟩ := C
  intro T locs k' n' q1 q2 X eT N
  obtain ⟨s2, o2, st2, r⟩ := q T locs k' n' q1 q2 X eT N
  exact ⟨s2, o2, XS.ifnullYes X.here hx rfl (pc0 := pc) (pc' := pc') rfl (hb hby hd) rfl (by omega) (by omega) st2, r⟩
theorem Ru.ifnullNo (C : Ru l Z own code maxL ret nm R n0 G W) {o : Int} {b : Addr} (hd : decode code pc = .ok (.ifnull o, 3)) (hp : pc + 3 = pc') (q : W h k n pc' Ls rest) : W h k n pc Ls (.ref b :: rest) := by
  obtain ⟨p, e, s, m, args, below, meth, c, FE, ⟨hx, hby, hml, hown, hZ, hre, hlk, hnm⟩, hFE, rfl⟩ := C
  subst hp
  intro T locs k' n' q1 q2 X eT N
  obtain ⟨s2, o2, st2, r⟩ := q T locs k' n' q1 q2 X eT N
  exact ⟨s2, o2, XS.ifnullNo X.here hx rfl (hb hby hd) rfl st2, r⟩
theorem Ru.ifnonnullYes (C : Ru l Z own code maxL ret nm R n0 G W) {o : Int} {b : Addr} (hd : decode code pc = .ok (.ifnonnull o, 3)) (hp : (pc : Int) + o = (pc' : Int)) (q : W h k n pc' Ls rest) : W h k n pc Ls (.ref b :: rest) := by
  obtain ⟨p, e, s, m, args, below, meth, c, FE, ⟨hx, hby, hml, hown, hZ, hre, hlk, hnm⟩, hFE, rfl⟩ := C
  intro T locs k' n' q1 q2 X eT N
  obtain ⟨s2, o2, st2, r⟩ := q T locs k' n' q1 q2 X eT N
  exact ⟨s2, o2, XT.ifnonnullYes X.here hx rfl (pc0 := pc) (pc' := pc') rfl (hb hby hd) rfl (by omega) (by omega) st2, r⟩
theorem Ru.ifnonnullNo (C : Ru l Z own code maxL ret nm R n0 G W) {o : Int}  (hd : decode code pc = .ok (.ifnonnull o, 3)) (hp : pc + 3 = pc') (q : W h k n pc' Ls rest) : W h k n pc Ls (.null :: rest) := by
  obtain ⟨p, e, s, m, args, below, meth, c, FE, ⟨hx, hby, hml, hown, hZ, hre, hlk, hnm⟩, hFE, rfl⟩ := C
  subst hp
  intro T locs k' n' q1 q2 X eT N
  obtain ⟨s2, o2, st2, r⟩ := q T locs k' n' q1 q2 X eT N
  exact ⟨s2, o2, XT.ifnonnullNo X.here hx rfl (hb hby hd) rfl st2, r⟩
theorem lrem_eq (x y : Int64) : x - (x / y) * y = x % y := lrem_mod x y
theorem Ru.lrem (C : Ru l Z own code maxL ret nm R n0 G W) {x y : Int64} (hd : decode code pc = .ok (.lrem, 1)) (hp : pc + 1 = pc') (hy : y ≠ 0) (q : W h k n pc' Ls (.long (x % y) :: rest)) : W h k n pc Ls (.long y :: .long x :: rest) := by
  obtain ⟨p, e, s, m, args, below, meth, c, FE, ⟨hx, hby, hml, hown, hZ, hre, hlk, hnm⟩, hFE, rfl⟩ := C
  subst hp
  intro T locs k' n' q1 q2 X eT N
  obtain ⟨s2, o, st2, r⟩ := q T locs k' n' q1 q2 X eT N
  exact ⟨s2, o, XT.lrem X.here hx rfl (hb hby hd) rfl hy (by rw [lrem_mod]; exact st2), r⟩
theorem Ru.ldcI (C : Ru l Z own code maxL ret nm R n0 G W) {a0 : Array Value} {i : Nat} {v : Int32} (w : (Cond.constant own i v).before a0 Z = true) (hd : decode code pc = .ok (.ldc i, 2)) (hp : pc + 2 = pc') (q : W h k n pc' Ls (.int v :: st)) : W h k n pc Ls st := by
  obtain ⟨p, e, s, m, args, below, meth, c, FE, ⟨hx, hby, hml, hown, hZ, hre, hlk, hnm⟩, hFE, rfl⟩ := C
  subst hp
  intro T locs k' n' q1 q2 X eT N
  obtain ⟨s2, o, st2, r⟩ := q T locs k' n' q1 q2 X eT N
  exact ⟨s2, o, X.ldcInt hx hown (mvT hZ w) (g := mkF m pc Ls st) rfl (hb hby hd) _ st2, r⟩
theorem Ru.ldcJ (C : Ru l Z own code maxL ret nm R n0 G W) {a0 : Array Value} {i : Nat} {v : Int64} (w : (Cond.constantLong own i v).before a0 Z = true) (hd : decode code pc = .ok (.ldc2_w i, 3)) (hp : pc + 3 = pc') (q : W h k n pc' Ls (.long v :: st)) : W h k n pc Ls st := by
  obtain ⟨p, e, s, m, args, below, meth, c, FE, ⟨hx, hby, hml, hown, hZ, hre, hlk, hnm⟩, hFE, rfl⟩ := C
  subst hp
  intro T locs k' n' q1 q2 X eT N
  obtain ⟨s2, o, st2, r⟩ := q T locs k' n' q1 q2 X eT N
  exact ⟨s2, o, X.ldc2Long hx hown (mvT hZ w) (g := mkF m pc Ls st) rfl (hb hby hd) _ st2, r⟩
/-! the heap -/
theorem Ru.getf (C : Ru l Z own code maxL ret nm R n0 G W) {a0 : Array Value} {R0 O f d : String} {i : Nat} {a : Addr} {v : Value} (w : (Cond.fieldLink own i R0 f d).before a0 Z = true) (via : Via Z R0 O f d) (F : Fld Z h a O f d v) (hd : decode code pc = .ok (.getfield i, 3)) (hp : pc + 3 = pc') (q : W h k n pc' Ls (v :: rest)) : W h k n pc Ls (.ref a :: rest) := by
  obtain ⟨p, e, s, m, args, below, meth, c, FE, ⟨hx, hby, hml, hown, hZ, hre, hlk, hnm⟩, hFE, rfl⟩ := C
  subst hp
  intro T locs k' n' q1 q2 X eT N
  obtain ⟨T', X', e', st'⟩ := getF X hx hZ hown (host := "") (Or.inl w) via eT F (g := mkF m pc Ls (.ref a :: rest)) rfl rfl (hb hby hd)
  obtain ⟨s2, o, st2, r⟩ := q T' locs k' n' q1 q2 X' e' N
  exact ⟨s2, o, st' _ st2, r⟩
theorem Ru.gets (C : Ru l Z own code maxL ret nm R n0 G W) {a0 : Array Value} {R0 O f d : String} {i : Nat} {v : Value} (w : (Cond.fieldLink own i R0 f d).before a0 Z = true) (via : Via Z R0 O f d) (F : Sta Z h O f d v) (hd : decode code pc = .ok (.getstatic i, 3)) (hp : pc + 3 = pc') (q : W h k n pc' Ls (v :: st)) : W h k n pc Ls st := by
  obtain ⟨p, e, s, m, args, below, meth, c, FE, ⟨hx, hby, hml, hown, hZ, hre, hlk, hnm⟩, hFE, rfl⟩ := C
  subst hp
  intro T locs k' n' q1 q2 X eT N
  obtain ⟨T', X', e', st'⟩ := getS X hx hZ (host := "") hown w via eT F (g := mkF m pc Ls st) rfl (hb hby hd)
  obtain ⟨s2, o, st2, r⟩ := q T' locs k' n' q1 q2 X' e' N
  exact ⟨s2, o, st' _ st2, r⟩
theorem Ru.putf (C : Ru l Z own code maxL ret nm R n0 G W) {a0 : Array Value} {R0 O f d D : String} {i kk : Nat} {ty : FieldType} {a : Addr} {v old : Value} (w : (Cond.fieldLink own i R0 f d).before a0 Z = true) (via : Via Z R0 O f d) (F : Fld Z h a O f d old) (E : Exa Z h a D)
    (L : (Cond.lays D O f d).before a0 Z = true ∨ ((Cond.laysFinal D O f d).before a0 Z = true ∧ own = O ∧ nm = "<init>")) (wi : (Cond.instantiable D kk).before a0 Z = true) (hty : parseFieldDescriptor d = some ty) (hn : narrow ty v = v) (hf : fits ty v = true) (hg : n0 ≤ a)
    (hd : decode code pc = .ok (.putfield i, 3)) (hp : pc + 3 = pc') (q : ∀ h', Wr h h' a (Jvm.RoadKit.slotOf Z O f d) v → W h' k n pc' Ls rest) : W h k n pc Ls (v :: .ref a :: rest) := by
  obtain ⟨p, e, s, m, args, below, meth, c, FE, ⟨hx, hby, hml, hown, hZ, hre, hlk, hnm⟩, hFE, rfl⟩ := C
  subst hp
  intro T locs k' n' q1 q2 X eT N
  obtain ⟨T', h', X', e', W', st'⟩ := putF X hx hZ hown (host := "") (Or.inl w) via eT F E (L.imp id fun u => ⟨u.1, u.2.1, hnm.trans u.2.2⟩) wi hty hn hf (g := mkF m pc Ls (v :: .ref a :: rest)) rfl rfl (hb hby hd)
  obtain ⟨s2, o, st2, r⟩ := q h' W' T' _ k' n' q1 q2 X' e' (Fr.snoc X' N hg)
  exact ⟨s2, o, st' _ st2, r⟩
theorem Ru.putfN (C : Ru l Z own code maxL ret nm R n0 G W) {a0 : Array Value} {R0 O f d D : String} {i kk : Nat} {ty : FieldType} {a : Addr} {v v' old : Value} (w : (Cond.fieldLink own i R0 f d).before a0 Z = true) (via : Via Z R0 O f d) (F : Fld Z h a O f d old) (E : Exa Z h a D)
    (L : (Cond.lays D O f d).before a0 Z = true ∨ ((Cond.laysFinal D O f d).before a0 Z = true ∧ own = O ∧ nm = "<init>")) (wi : (Cond.instantiable D kk).before a0 Z = true) (hty : parseFieldDescriptor d = some ty) (hn : narrow ty v = v') (hf : fits ty v' = true) (hg : n0 ≤ a)
    (hd : decode code pc = .ok (.putfield i, 3)) (hp : pc + 3 = pc') (q : ∀ h', Wr h h' a (Jvm.RoadKit.slotOf Z O f d) v' → W h' k n pc' Ls rest) : W h k n pc Ls (v :: .ref a :: rest) := by
  obtain ⟨p, e, s, m, args, below, meth, c, FE, ⟨hx, hby, hml, hown, hZ, hre, hlk, hnm⟩, hFE, rfl⟩ := C
  subst hp
  intro T locs k' n' q1 q2 X eT N
  obtain ⟨T', h', X', e', W', st'⟩ := putFN X hx hZ hown w via eT F E (L.imp id fun u => ⟨u.1, u.2.1, hnm.trans u.2.2⟩) wi hty hn hf (g := mkF m pc Ls (v :: .ref a :: rest)) rfl rfl (hb hby hd)
  obtain ⟨s2, o, st2, r⟩ := q h' W' T' _ k' n' q1 q2 X' e' (Fr.snoc X' N hg)
  exact ⟨s2, o, st' _ st2, r⟩
theorem Ru.new (C : Ru l Z own code maxL ret nm R n0 G W) {a0 : Array Value} {D : String} {i sl : Nat} (w : (Cond.classLink own i D).before a0 Z = true) (wi : (Cond.instantiable D sl).before a0 Z = true) (wz : (Cond.initialized D).before a0 Z = true)
    (hd : decode code pc = .ok (.new i, 3)) (hp : pc + 3 = pc') (hk : k + 1 ≤ R.cells) (hn : n + sl ≤ R.slots)
    (q : ∀ h' b, b = h.size → Ext h h' → Exa Z h' b D → (∀ {O nm d : String} {ty : FieldType}, Laid Z a0 D O nm d → parseFieldDescriptor d = some ty → Fld Z h' b O nm d (defaultValue ty)) → W h' (k + 1) (n + sl) pc' Ls (.ref b :: st)) : W h k n pc Ls st := by
  obtain ⟨p, e, s, m, args, below, meth, c, FE, ⟨hx, hby, hml, hown, hZ, hre, hlk, hnm⟩, hFE, rfl⟩ := C
  subst hp
  intro T locs k' n' q1 q2 X eT N
  obtain ⟨T', h', X', e', E', A', D', -, st'⟩ := newO X hx hZ hown w wi wz eT (g := mkF m pc Ls st) rfl (hb hby hd) (by omega) (by omega)
  obtain ⟨s2, o, st2, r⟩ := q h' _ rfl E' A' D' T' locs (k' + 1) (n' + sl) (by omega) (by omega) X' e' N
  exact ⟨s2, o, st' _ st2, r⟩
/-- an int array with just these elements -/
def AI (Z : State) (h : Heap) (a : Addr) (vs : List Int32) : Prop := ∃ c : Cell, Arr Z h a c .int ∧ c.slots = (vs.map Value.int).toArray ∧ vs.length < 2 ^ 31
def AJ (Z : State) (h : Heap) (a : Addr) (vs : List Int64) : Prop := ∃ c : Cell, Arr Z h a c .long ∧ c.slots = (vs.map Value.long).toArray ∧ vs.length < 2 ^ 31
/-- a byte array of this length -/
def AB (Z : State) (h : Heap) (a : Addr) (z : Nat) : Prop := ∃ c : Cell, Arr Z h a c .byte ∧ c.slots.size = z ∧ z < 2 ^ 31
theorem AI.lt {Z : State} {h : Heap} {a : Addr} {vs : List Int32} (F : AI Z h a vs) : a < h.size := by obtain ⟨c, A, -⟩ := F; exact A.lt
theorem AI.ext {Z : State} {h h' : Heap} {a : Addr} {vs : List Int32} (F : AI Z h a vs) (E : Ext h h') : AI Z h' a vs := by obtain ⟨c, A, r⟩ := F; exact ⟨c, A.ext E, r⟩
theorem AI.other {Z : State} {h h' : Heap} {a b : Addr} {sl : Nat} {v : Value} {vs : List Int32} (F : AI Z h b vs) (W : Wr h h' a sl v) (q : b ≠ a) : AI Z h' b vs := by obtain ⟨c, A, r⟩ := F; exact ⟨c, A.other W q, r⟩
theorem AI.keep {Z : State} {h h' : Heap} {a : Addr} {ws : List Addr} {vs : List Int32} (F : AI Z h a vs) (K : Keep h h' ws) (q : a ∉ ws) : AI Z h' a vs := by obtain ⟨c, A, r⟩ := F; exact ⟨c, ⟨K.2.1 a c A.1 q, A.2⟩, r⟩
theorem AI.set {Z : State} {h h' : Heap} {a : Addr} {j : Nat} {v : Int32} {vs : List Int32} (F : AI Z h a vs) (W : Wr h h' a j (.int v)) : AI Z h' a (vs.set j v) := by
  obtain ⟨c, A, e, r⟩ := F
  refine ⟨_, A.same W, ?_, by rw [List.length_set]; exact r⟩
  have q : (c.setSlot j (.int v)).slots = c.slots.setIfInBounds j (.int v) := rfl
  rw [q, e]
  apply Array.ext'
  simp [List.map_set]
theorem Ru.newAI (C : Ru l Z own code maxL ret nm R n0 G W) {a0 : Array Value} {z : Int32} {N cap : Nat} (w : (Cond.arrayClass .int).before a0 Z = true) (hd : decode code pc = .ok (.newarray .int, 2)) (hp : pc + 2 = pc') (hz : z.toInt = (N : Int)) (hcap : N ≤ cap) (hb8 : cap * 8 ≤ 536870912) (hk : k + 1 ≤ R.cells) (hn : n + cap ≤ R.slots)
    (q : ∀ h' b, b = h.size → Ext h h' → AI Z h' b (List.replicate N 0) → W h' (k + 1) (n + cap) pc' Ls (.ref b :: rest)) : W h k n pc Ls (.int z :: rest) := by
  obtain ⟨p, e, s, m, args, below, meth, c, FE, ⟨hx, hby, hml, hown, hZ, hre, hlk, hnm⟩, hFE, rfl⟩ := C
  subst hp
  intro T locs k' n' q1 q2 X eT Nf
  have hnn : ¬ z < 0 := by rw [Int32.lt_iff_toInt_lt]; show ¬ z.toInt < 0; omega
  have hzn : z.toNatClampNeg = N := by show z.toInt.toNat = N; omega
  have hlt : N < 2 ^ 31 := by have := (rng32 z).2; omega
  obtain ⟨T', h', cA, X', e', E', A', st'⟩ := newP X hx hZ (aty := .int) w eT (g := mkF m pc Ls (.int z :: rest)) rfl (hb hby hd) rfl hnn (cap := cap) (by omega) hb8 (by omega) (by omega)
  have F : AI Z h' h.size (List.replicate N 0) := by
    refine ⟨_, A', ?_, by rw [List.length_replicate]; exact hlt⟩
    simp only [newA, hzn]
    apply Array.ext'
    simp [defaultValue, newarray.typeOf]
  obtain ⟨s2, o, st2, r⟩ := q h' _ rfl E' F T' locs (k' + 1) (n' + cap) (by omega) (by omega) X' e' Nf
  exact ⟨s2, o, st' _ st2, r⟩
theorem Ru.ldAI (C : Ru l Z own code maxL ret nm R n0 G W) {a : Addr} {j : Int32} {i : Nat} {v : Int32} {vs : List Int32} (F : AI Z h a vs) (hj : j.toInt = (i : Int)) (hv : vs[i]? = some v) (hd : decode code pc = .ok (.iaload, 1)) (hp : pc + 1 = pc') (q : W h k n pc' Ls (.int v :: rest)) : W h k n pc Ls (.int j :: .ref a :: rest) := by
  obtain ⟨p, e, s, m, args, below, meth, c, FE, ⟨hx, hby, hml, hown, hZ, hre, hlk, hnm⟩, hFE, rfl⟩ := C
  subst hp
  intro T locs k' n' q1 q2 X eT N
  obtain ⟨cl, A, es, hl⟩ := F
  have hjn : j.toNatClampNeg = i := by show j.toInt.toNat = i; omega
  have hlt : i < vs.length := (List.getElem?_eq_some_iff.mp hv).1
  have hin : ¬ (j < 0 ∨ cl.slots.size ≤ j.toNatClampNeg) := by
    rw [Int32.lt_iff_toInt_lt, es, hjn]
    simp only [List.size_toArray, List.length_map]
    show ¬ (j.toInt < 0 ∨ _); omega
  have hat : cl.slots[j.toNatClampNeg]? = some (.int v) := by rw [es, hjn]; simp [hv]
  obtain ⟨s2, o, st2, r⟩ := q T locs k' n' q1 q2 X eT N
  exact ⟨s2, o, X.iaload hx (by rw [eT]; exact A.1) (State.isArrayOf_alike hZ.alike A.2.1) A.2.2 hin hat (g := mkF m pc Ls (.int j :: .ref a :: rest)) rfl rfl (hb hby hd) _ st2, r⟩
theorem Ru.stAI (C : Ru l Z own code maxL ret nm R n0 G W) {a : Addr} {j : Int32} {i : Nat} {v : Int32} {vs : List Int32} (F : AI Z h a vs) (hj : j.toInt = (i : Int)) (hlt : i < vs.length) (hg : n0 ≤ a) (hd : decode code pc = .ok (.iastore, 1)) (hp : pc + 1 = pc') (q : ∀ h', Wr h h' a i (.int v) → AI Z h' a (vs.set i v) → W h' k n pc' Ls rest) : W h k n pc Ls (.int v :: .int j :: .ref a :: rest) := by
  obtain ⟨p, e, s, m, args, below, meth, c, FE, ⟨hx, hby, hml, hown, hZ, hre, hlk, hnm⟩, hFE, rfl⟩ := C
  subst hp
  intro T locs k' n' q1 q2 X eT N
  have F0 := F
  obtain ⟨cl, A, es, hl⟩ := F
  have hjn : j.toNatClampNeg = i := by show j.toInt.toNat = i; omega
  have hin : ¬ (j < 0 ∨ cl.slots.size ≤ j.toNatClampNeg) := by
    rw [Int32.lt_iff_toInt_lt, es, hjn]
    simp only [List.size_toArray, List.length_map]
    show ¬ (j.toInt < 0 ∨ _); omega
  obtain ⟨T', h', X', e', W', st'⟩ := stI X hx hZ eT A (j := j) hin (g := mkF m pc Ls (.int v :: .int j :: .ref a :: rest)) rfl rfl (hb hby hd)
  rw [hjn] at W'
  obtain ⟨s2, o, st2, r⟩ := q h' W' (F0.set W') T' _ k' n' q1 q2 X' e' (Fr.snoc X' N hg)
  exact ⟨s2, o, st' _ st2, r⟩
theorem Ru.lenAI (C : Ru l Z own code maxL ret nm R n0 G W) {a : Addr} {vs : List Int32} {z : Int32} (F : AI Z h a vs) (hz : z.toInt = (vs.length : Int)) (hd : decode code pc = .ok (.arraylength, 1)) (hp : pc + 1 = pc') (q : W h k n pc' Ls (.int z :: rest)) : W h k n pc Ls (.ref a :: rest) := by
  obtain ⟨p, e, s, m, args, below, meth, c, FE, ⟨hx, hby, hml, hown, hZ, hre, hlk, hnm⟩, hFE, rfl⟩ := C
  subst hp
  intro T locs k' n' q1 q2 X eT N
  obtain ⟨cl, A, es, hl⟩ := F
  have e1 : cl.slots.size.toInt32 = z := by
    apply Int32.toInt_inj.mp
    rw [es, hz]
    simp only [List.size_toArray, List.length_map]
    exact len_toInt hl
  obtain ⟨s2, o, st2, r⟩ := q T locs k' n' q1 q2 X eT N
  exact ⟨s2, o, X.arraylength hx (by rw [eT]; exact A.1) (State.isArrayOf_alike hZ.alike A.2.1) (g := mkF m pc Ls (.ref a :: rest)) rfl rfl (hb hby hd) _ (by rw [e1]; exact st2), r⟩
theorem AJ.lt {Z : State} {h : Heap} {a : Addr} {vs : List Int64} (F : AJ Z h a vs) : a < h.size := by obtain ⟨c, A, -⟩ := F; exact A.lt
theorem AJ.ext {Z : State} {h h' : Heap} {a : Addr} {vs : List Int64} (F : AJ Z h a vs) (E : Ext h h') : AJ Z h' a vs := by obtain ⟨c, A, r⟩ := F; exact ⟨c, A.ext E, r⟩
theorem AJ.other {Z : State} {h h' : Heap} {a b : Addr} {sl : Nat} {v : Value} {vs : List Int64} (F : AJ Z h b vs) (W : Wr h h' a sl v) (q : b ≠ a) : AJ Z h' b vs := by obtain ⟨c, A, r⟩ := F; exact ⟨c, A.other W q, r⟩
theorem AJ.keep {Z : State} {h h' : Heap} {a : Addr} {ws : List Addr} {vs : List Int64} (F : AJ Z h a vs) (K : Keep h h' ws) (q : a ∉ ws) : AJ Z h' a vs := by obtain ⟨c, A, r⟩ := F; exact ⟨c, ⟨K.2.1 a c A.1 q, A.2⟩, r⟩
theorem AJ.set {Z : State} {h h' : Heap} {a : Addr} {j : Nat} {v : Int64} {vs : List Int64} (F : AJ Z h a vs) (W : Wr h h' a j (.long v)) : AJ Z h' a (vs.set j v) := by
  obtain ⟨c, A, e, r⟩ := F
  refine ⟨_, A.same W, ?_, by rw [List.length_set]; exact r⟩
  have q : (c.setSlot j (.long v)).slots = c.slots.setIfInBounds j (.long v) := rfl
  rw [q, e]
  apply Array.ext'
  simp [List.map_set]
theorem Ru.newAJ (C : Ru l Z own code maxL ret nm R n0 G W) {a0 : Array Value} {z : Int32} {N cap : Nat} (w : (Cond.arrayClass .long).before a0 Z = true) (hd : decode code pc = .ok (.newarray .long, 2)) (hp : pc + 2 = pc') (hz : z.toInt = (N : Int)) (hcap : N ≤ cap) (hb8 : cap * 8 ≤ 536870912) (hk : k + 1 ≤ R.cells) (hn : n + cap ≤ R.slots)
    (q : ∀ h' b, b = h.size → Ext h h' → AJ Z h' b (List.replicate N 0) → W h' (k + 1) (n + cap) pc' Ls (.ref b :: rest)) : W h k n pc Ls (.int z :: rest) := by
  obtain ⟨p, e, s, m, args, below, meth, c, FE, ⟨hx, hby, hml, hown, hZ, hre, hlk, hnm⟩, hFE, rfl⟩ := C
  subst hp
  intro T locs k' n' q1 q2 X eT Nf
  have hnn : ¬ z < 0 := by rw [Int32.lt_iff_toInt_lt]; show ¬ z.toInt < 0; omega
  have hzn : z.toNatClampNeg = N := by show z.toInt.toNat = N; omega
  have hlt : N < 2 ^ 31 := by have := (rng32 z).2; omega
  obtain ⟨T', h', cA, X', e', E', A', st'⟩ := newP X hx hZ (aty := .long) w eT (g := mkF m pc Ls (.int z :: rest)) rfl (hb hby hd) rfl hnn (cap := cap) (by omega) hb8 (by omega) (by omega)
  have F : AJ Z h' h.size (List.replicate N 0) := by
    refine ⟨_, A', ?_, by rw [List.length_replicate]; exact hlt⟩
    simp only [newA, hzn]
    apply Array.ext'
    simp [defaultValue, newarray.typeOf]
  obtain ⟨s2, o, st2, r⟩ := q h' _ rfl E' F T' locs (k' + 1) (n' + cap) (by omega) (by omega) X' e' Nf
  exact ⟨s2, o, st' _ st2, r⟩
theorem Ru.ldAJ (C : Ru l Z own code maxL ret nm R n0 G W) {a : Addr} {j : Int32} {i : Nat} {v : Int64} {vs : List Int64} (F : AJ Z h a vs) (hj : j.toInt = (i : Int)) (hv : vs[i]? = some v) (hd : decode code pc = .ok (.laload, 1)) (hp : pc + 1 = pc') (q : W h k n pc' Ls (.long v :: rest)) : W h k n pc Ls (.int j :: .ref a :: rest) := by
  obtain ⟨p, e, s, m, args, below, meth, c, FE, ⟨hx, hby, hml, hown, hZ, hre, hlk, hnm⟩, hFE, rfl⟩ := C
  subst hp
  intro T locs k' n' q1 q2 X eT N
  obtain ⟨cl, A, es, hl⟩ := F
  have hjn : j.toNatClampNeg = i := by show j.toInt.toNat = i; omega
  have hlt : i < vs.length := (List.getElem?_eq_some_iff.mp hv).1
  have hin : ¬ (j < 0 ∨ cl.slots.size ≤ j.toNatClampNeg) := by
    rw [Int32.lt_iff_toInt_lt, es, hjn]
    simp only [List.size_toArray, List.length_map]
    show ¬ (j.toInt < 0 ∨ _); omega
  have hat : cl.slots[j.toNatClampNeg]? = some (.long v) := by rw [es, hjn]; simp [hv]
  obtain ⟨s2, o, st2, r⟩ := q T locs k' n' q1 q2 X eT N
  exact ⟨s2, o, X.laload hx (by rw [eT]; exact A.1) (State.isArrayOf_alike hZ.alike A.2.1) A.2.2 hin hat (g := mkF m pc Ls (.int j :: .ref a :: rest)) rfl rfl (hb hby hd) _ st2, r⟩
theorem Ru.stAJ (C : Ru l Z own code maxL ret nm R n0 G W) {a : Addr} {j : Int32} {i : Nat} {v : Int64} {vs : List Int64} (F : AJ Z h a vs) (hj : j.toInt = (i : Int)) (hlt : i < vs.length) (hg : n0 ≤ a) (hd : decode code pc = .ok (.lastore, 1)) (hp : pc + 1 = pc') (q : ∀ h', Wr h h' a i (.long v) → AJ Z h' a (vs.set i v) → W h' k n pc' Ls rest) : W h k n pc Ls (.long v :: .int j :: .ref a :: rest) := by
  obtain ⟨p, e, s, m, args, below, meth, c, FE, ⟨hx, hby, hml, hown, hZ, hre, hlk, hnm⟩, hFE, rfl⟩ := C
  subst hp
  intro T locs k' n' q1 q2 X eT N
  have F0 := F
  obtain ⟨cl, A, es, hl⟩ := F
  have hjn : j.toNatClampNeg = i := by show j.toInt.toNat = i; omega
  have hin : ¬ (j < 0 ∨ cl.slots.size ≤ j.toNatClampNeg) := by
    rw [Int32.lt_iff_toInt_lt, es, hjn]
    simp only [List.size_toArray, List.length_map]
    show ¬ (j.toInt < 0 ∨ _); omega
  obtain ⟨T', h', X', e', W', st'⟩ := stJ X hx hZ eT A (j := j) hin (g := mkF m pc Ls (.long v :: .int j :: .ref a :: rest)) rfl rfl (hb hby hd)
  rw [hjn] at W'
  obtain ⟨s2, o, st2, r⟩ := q h' W' (F0.set W') T' _ k' n' q1 q2 X' e' (Fr.snoc X' N hg)
  exact ⟨s2, o, st' _ st2, r⟩
theorem Ru.lenAJ (C : Ru l Z own code maxL ret nm R n0 G W) {a : Addr} {vs : List Int64} {z : Int32} (F : AJ Z h a vs) (hz : z.toInt = (vs.length : Int)) (hd : decode code pc = .ok (.arraylength, 1)) (hp : pc + 1 = pc') (q : W h k n pc' Ls (.int z :: rest)) : W h k n pc Ls (.ref a :: rest) := by
  obtain ⟨p, e, s, m, args, below, meth, c, FE, ⟨hx, hby, hml, hown, hZ, hre, hlk, hnm⟩, hFE, rfl⟩ := C
  subst hp
  intro T locs k' n' q1 q2 X eT N
  obtain ⟨cl, A, es, hl⟩ := F
  have e1 : cl.slots.size.toInt32 = z := by
    apply Int32.toInt_inj.mp
    rw [es, hz]
    simp only [List.size_toArray, List.length_map]
    exact len_toInt hl
  obtain ⟨s2, o, st2, r⟩ := q T locs k' n' q1 q2 X eT N
  exact ⟨s2, o, X.arraylength hx (by rw [eT]; exact A.1) (State.isArrayOf_alike hZ.alike A.2.1) (g := mkF m pc Ls (.ref a :: rest)) rfl rfl (hb hby hd) _ (by rw [e1]; exact st2), r⟩
theorem AB.lt {Z : State} {h : Heap} {a : Addr} {z : Nat} (F : AB Z h a z) : a < h.size := by obtain ⟨c, A, -⟩ := F; exact A.lt
theorem AB.ext {Z : State} {h h' : Heap} {a : Addr} {z : Nat} (F : AB Z h a z) (E : Ext h h') : AB Z h' a z := by obtain ⟨c, A, r⟩ := F; exact ⟨c, A.ext E, r⟩
theorem AB.other {Z : State} {h h' : Heap} {a b : Addr} {sl : Nat} {v : Value} {z : Nat} (F : AB Z h b z) (W : Wr h h' a sl v) (q : b ≠ a) : AB Z h' b z := by obtain ⟨c, A, r⟩ := F; exact ⟨c, A.other W q, r⟩
theorem AB.keep {Z : State} {h h' : Heap} {a : Addr} {ws : List Addr} {z : Nat} (F : AB Z h a z) (K : Keep h h' ws) (q : a ∉ ws) : AB Z h' a z := by obtain ⟨c, A, r⟩ := F; exact ⟨c, ⟨K.2.1 a c A.1 q, A.2⟩, r⟩
theorem Ru.newAB (C : Ru l Z own code maxL ret nm R n0 G W) {a0 : Array Value} {z : Int32} {N cap : Nat} (w : (Cond.arrayClass .byte).before a0 Z = true) (hd : decode code pc = .ok (.newarray .byte, 2)) (hp : pc + 2 = pc') (hz : z.toInt = (N : Int)) (hcap : N ≤ cap) (hb8 : cap * 8 ≤ 536870912) (hk : k + 1 ≤ R.cells) (hn : n + cap ≤ R.slots)
    (q : ∀ h' b, b = h.size → Ext h h' → AB Z h' b N → W h' (k + 1) (n + cap) pc' Ls (.ref b :: rest)) : W h k n pc Ls (.int z :: rest) := by
  obtain ⟨p, e, s, m, args, below, meth, c, FE, ⟨hx, hby, hml, hown, hZ, hre, hlk, hnm⟩, hFE, rfl⟩ := C
  subst hp
  intro T locs k' n' q1 q2 X eT Nf
  have hnn : ¬ z < 0 := by rw [Int32.lt_iff_toInt_lt]; show ¬ z.toInt < 0; omega
  have hzn : z.toNatClampNeg = N := by show z.toInt.toNat = N; omega
  have hlt : N < 2 ^ 31 := by have := (rng32 z).2; omega
  obtain ⟨T', h', cA, X', e', E', A', st'⟩ := newP X hx hZ (aty := .byte) w eT (g := mkF m pc Ls (.int z :: rest)) rfl (hb hby hd) rfl hnn (cap := cap) (by omega) hb8 (by omega) (by omega)
  have F : AB Z h' h.size N := ⟨_, A', by rw [sz_new]; exact hzn, hlt⟩
  obtain ⟨s2, o, st2, r⟩ := q h' _ rfl E' F T' locs (k' + 1) (n' + cap) (by omega) (by omega) X' e' Nf
  exact ⟨s2, o, st' _ st2, r⟩
theorem Ru.stAB (C : Ru l Z own code maxL ret nm R n0 G W) {a : Addr} {j : Int32} {i : Nat} {v : Int32} {z : Nat} (F : AB Z h a z) (hj : j.toInt = (i : Int)) (hlt : i < z) (hg : n0 ≤ a) (hd : decode code pc = .ok (.bastore, 1)) (hp : pc + 1 = pc') (q : ∀ h', Wr h h' a i (.int (nar .byte v)) → AB Z h' a z → W h' k n pc' Ls rest) : W h k n pc Ls (.int v :: .int j :: .ref a :: rest) := by
  obtain ⟨p, e, s, m, args, below, meth, c, FE, ⟨hx, hby, hml, hown, hZ, hre, hlk, hnm⟩, hFE, rfl⟩ := C
  subst hp
  intro T locs k' n' q1 q2 X eT N
  obtain ⟨cl, A, es, hl⟩ := F
  have hjn : j.toNatClampNeg = i := by show j.toInt.toNat = i; omega
  have hin : ¬ (j < 0 ∨ cl.slots.size ≤ j.toNatClampNeg) := by
    rw [Int32.lt_iff_toInt_lt, es, hjn]
    show ¬ (j.toInt < 0 ∨ _); omega
  obtain ⟨T', h', X', e', W', st'⟩ := stB X hx hZ eT A (j := j) hin (g := mkF m pc Ls (.int v :: .int j :: .ref a :: rest)) rfl rfl (hb hby hd)
  rw [hjn] at W'
  obtain ⟨s2, o, st2, r⟩ := q h' W' ⟨_, A.same W', by rw [sz_set]; exact es, hl⟩ T' _ k' n' q1 q2 X' e' (Fr.snoc X' N hg)
  exact ⟨s2, o, st' _ st2, r⟩
theorem Ru.lenAB (C : Ru l Z own code maxL ret nm R n0 G W) {a : Addr} {N : Nat} {z : Int32} (F : AB Z h a N) (hz : z.toInt = (N : Int)) (hd : decode code pc = .ok (.arraylength, 1)) (hp : pc + 1 = pc') (q : W h k n pc' Ls (.int z :: rest)) : W h k n pc Ls (.ref a :: rest) := by
  obtain ⟨p, e, s, m, args, below, meth, c, FE, ⟨hx, hby, hml, hown, hZ, hre, hlk, hnm⟩, hFE, rfl⟩ := C
  subst hp
  intro T locs k' n' q1 q2 X eT Nf
  obtain ⟨cl, A, es, hl⟩ := F
  have e1 : cl.slots.size.toInt32 = z := by
    apply Int32.toInt_inj.mp
    rw [es, hz]
    exact len_toInt hl
  obtain ⟨s2, o, st2, r⟩ := q T locs k' n' q1 q2 X eT Nf
  exact ⟨s2, o, X.arraylength hx (by rw [eT]; exact A.1) (State.isArrayOf_alike hZ.alike A.2.1) (g := mkF m pc Ls (.ref a :: rest)) rfl rfl (hb hby hd) _ (by rw [e1]; exact st2), r⟩
/-! calls -/
/-- what a stack weighs -/
def wt (st : List Value) : Nat := (st.map fun v => v.category).sum
/-- Object.<init> -/
theorem Ru.initObj (C : Ru l Z own code maxL ret nm R n0 G W) {a0 : Array Value} {i w : Nat} {a : Addr} (w1 : (Cond.methodLink own i Lib.objectInit).before a0 Z = true) (w2 : (Cond.instanceMethod Lib.objectInit).before a0 Z = true) (w3 : (Cond.code Lib.objectInit ⟨#[0xb1]⟩ 1 none).before a0 Z = true)
    (hd : decode code pc = .ok (.invokespecial i, 3)) (hp : pc + 3 = pc') (hs : Ls.size = maxL) (hf : 1 ≤ R.frames) (hw : wt rest ≤ w) (hl : w + 12 ≤ R.locals) (q : W h k n pc' Ls rest) : W h k n pc Ls (.ref a :: rest) := by
  obtain ⟨p, e, s, m, args, below, meth, c, FE, ⟨hx, hby, hml, hown, hZ, hre, hlk, hnm⟩, hFE, rfl⟩ := C
  subst hp
  intro T locs k' n' q1 q2 X eT N
  obtain ⟨T', X', e', st'⟩ := initO X hx hZ hown w1 w2 w3 eT (g := mkF m pc Ls (.ref a :: rest)) rfl (by rw [hml]; exact hs) rfl (hb hby hd) hf (W := w) (by show 2 * 0 + _ ≤ _; simpa [wt] using hw) hl
  obtain ⟨s2, o, st2, r⟩ := q T' locs k' n' q1 q2 X' e' N
  exact ⟨s2, o, st' _ st2, r⟩
theorem Ru.calls (C : Ru l Z own code maxL ret nm R n0 G W) {a0 : Array Value} {i w : Nat} {y : MethodName} {bytes : ByteArray} {mx : Nat} {rt : Option FieldType} {rm : Room} {GC : Option Value → Heap → Prop} {argsL : List Value} {ps : List FieldType} {rt' : Option FieldType}
    (M : MeetsW l Z n0 y bytes mx rt rm argsL.toArray h GC) (w1 : (Cond.methodLink own i y).before a0 Z = true) (w2 : (Cond.static y).before a0 Z = true) (w3 : (Cond.initialized y.cls).before a0 Z = true) (w4 : (Cond.code y bytes mx rt).before a0 Z = true)
    (hd : decode code pc = .ok (.invokestatic i, 3)) (hp : pc + 3 = pc') (hs : Ls.size = maxL) (hst : st = argsL.reverse ++ rest) (hy : y.cls ≠ "java/lang/invoke/MethodHandle" ∧ y.cls ≠ "java/lang/invoke/VarHandle")
    (hdesc : parseMethodDescriptor y.desc = some ⟨ps, rt'⟩) (hlen : argsL.length = ps.length) (hf : rm.frames + 1 ≤ R.frames) (hw : wt rest ≤ w) (hl : w + (mx + 11) + rm.locals ≤ R.locals) (hk : k + rm.cells ≤ R.cells) (hn : n + rm.slots ≤ R.slots)
    (q : ∀ v h', GC v h' → W h' (k + rm.cells) (n + rm.slots) pc' Ls (v.toList ++ rest)) : W h k n pc Ls st := by
  obtain ⟨p, e, s, m, args, below, meth, c, FE, ⟨hx, hby, hml, hown, hZ, hre, hlk, hnm⟩, hFE, rfl⟩ := C
  subst hp hst
  intro T locs k' n' q1 q2 X eT N
  obtain ⟨v, _, ⟨T', L', k2, n2⟩, -, X', ⟨Lc, ⟨N', hQ⟩, hl', hk', hn'⟩, st'⟩ := Jvm.LawKit.callS X hx (y := y) hown (mvT hZ w1) (mvT hZ w2) (mvT hZ w3) (mvT hZ w4) hy (backOf (W := w) (Q := fun v h L => Fr n0 L ∧ GC v h) (M []) hZ w4 w3 hf hl) (g := mkF m pc Ls (argsL.reverse ++ rest)) rfl (by rw [hml]; exact hs) (argsL := argsL) (rest := rest) (lenOf hdesc hlen) rfl (by show 2 * 0 + _ ≤ _; simpa [wt] using hw) (hb hby hd) (fun _ _ => ⟨rfl, eT, (by show k' + rm.cells ≤ _; omega), (by show n' + rm.slots ≤ _; omega)⟩)
  dsimp only [Pt.U, Pt.locs, Pt.cells, Pt.slots] at X' hl' hk' hn' st' hQ
  subst hl' hk' hn'
  obtain ⟨s2, o, st2, r⟩ := q v T'.heap hQ T' _ _ _ (by omega) (by omega) X' rfl (Fr.app N N')
  exact ⟨s2, o, st' _ st2, r⟩
theorem Ru.callc (C : Ru l Z own code maxL ret nm R n0 G W) {a0 : Array Value} {i w : Nat} {y : MethodName} {bytes : ByteArray} {mx : Nat} {rm : Room} {GC : Option Value → Heap → Prop} {a : Addr} {argsL : List Value} {ps : List FieldType} {rt' : Option FieldType}
    (M : MeetsW l Z n0 y bytes mx none rm (.ref a :: argsL).toArray h GC) (hy1 : y.name = "<init>") (w1 : (Cond.methodLink own i y).before a0 Z = true) (w2 : (Cond.instanceMethod y).before a0 Z = true) (w3 : (Cond.initialized y.cls).before a0 Z = true) (w4 : (Cond.code y bytes mx none).before a0 Z = true)
    (hd : decode code pc = .ok (.invokespecial i, 3)) (hp : pc + 3 = pc') (hs : Ls.size = maxL) (hst : st = argsL.reverse ++ .ref a :: rest) (hy : y.cls ≠ "java/lang/invoke/MethodHandle" ∧ y.cls ≠ "java/lang/invoke/VarHandle")
    (hdesc : parseMethodDescriptor y.desc = some ⟨ps, rt'⟩) (hlen : argsL.length = ps.length) (hf : rm.frames + 1 ≤ R.frames) (hw : wt rest ≤ w) (hl : w + (mx + 11) + rm.locals ≤ R.locals) (hk : k + rm.cells ≤ R.cells) (hn : n + rm.slots ≤ R.slots)
    (q : ∀ v h', GC v h' → W h' (k + rm.cells) (n + rm.slots) pc' Ls (v.toList ++ rest)) : W h k n pc Ls st := by
  obtain ⟨p, e, s, m, args, below, meth, c, FE, ⟨hx, hby, hml, hown, hZ, hre, hlk, hnm⟩, hFE, rfl⟩ := C
  subst hp hst
  intro T locs k' n' q1 q2 X eT N
  obtain ⟨v, _, ⟨T', L', k2, n2⟩, -, X', ⟨Lc, ⟨N', hQ⟩, hl', hk', hn'⟩, st'⟩ := X.specialBack hx (y := y) hy1 hown (mvT hZ w1) (mvT hZ w2) (mvT hZ w4) hy (backOf (W := w) (Q := fun v h L => Fr n0 L ∧ GC v h) (M []) hZ w4 w3 hf hl) (g := mkF m pc Ls (argsL.reverse ++ .ref a :: rest)) rfl (by rw [hml]; exact hs) (Steps.refl _) (a := a) (argsL := argsL) (rest := rest) (lenOf hdesc hlen) rfl (by show 2 * 0 + _ ≤ _; simpa [wt] using hw) (hb hby hd) (fun _ _ => ⟨rfl, eT, (by show k' + rm.cells ≤ _; omega), (by show n' + rm.slots ≤ _; omega)⟩)
  dsimp only [Pt.U, Pt.locs, Pt.cells, Pt.slots] at X' hl' hk' hn' st' hQ
  subst hl' hk' hn'
  obtain ⟨s2, o, st2, r⟩ := q v T'.heap hQ T' _ _ _ (by omega) (by omega) X' rfl (Fr.app N N')
  exact ⟨s2, o, st'.trans st2, r⟩
theorem Ru.callv (C : Ru l Z own code maxL ret nm R n0 G W) {a0 : Array Value} {i w : Nat} {y : MethodName} {bytes : ByteArray} {mx : Nat} {rt : Option FieldType} {rm : Room} {GC : Option Value → Heap → Prop} {a : Addr} {argsL : List Value} {ps : List FieldType} {rt' : Option FieldType} {D : String}
    (M : MeetsW l Z n0 y bytes mx rt rm (.ref a :: argsL).toArray h GC) (E : Exa Z h a D) (w1 : (Cond.methodLink own i y).before a0 Z = true) (w2 : (Cond.declares y).before a0 Z = true) (w5 : (Cond.selects D y y).before a0 Z = true) (w6 : (Cond.instanceMethod y).before a0 Z = true) (w3 : (Cond.initialized y.cls).before a0 Z = true) (w4 : (Cond.code y bytes mx rt).before a0 Z = true)
    (hd : decode code pc = .ok (.invokevirtual i, 3)) (hp : pc + 3 = pc') (hs : Ls.size = maxL) (hst : st = argsL.reverse ++ .ref a :: rest) (hy : y.cls ≠ "java/lang/invoke/MethodHandle" ∧ y.cls ≠ "java/lang/invoke/VarHandle")
    (hdesc : parseMethodDescriptor y.desc = some ⟨ps, rt'⟩) (hlen : argsL.length = ps.length) (hf : rm.frames + 1 ≤ R.frames) (hw : wt rest ≤ w) (hl : w + (mx + 11) + rm.locals ≤ R.locals) (hk : k + rm.cells ≤ R.cells) (hn : n + rm.slots ≤ R.slots)
    (q : ∀ v h', GC v h' → W h' (k + rm.cells) (n + rm.slots) pc' Ls (v.toList ++ rest)) : W h k n pc Ls st := by
  obtain ⟨p, e, s, m, args, below, meth, c, FE, ⟨hx, hby, hml, hown, hZ, hre, hlk, hnm⟩, hFE, rfl⟩ := C
  subst hp hst
  intro T locs k' n' q1 q2 X eT N
  obtain ⟨cq, kq, qa, qb, qc⟩ := isOf hZ eT E
  obtain ⟨v, _, ⟨T', L', k2, n2⟩, -, X', ⟨Lc, ⟨N', hQ⟩, hl', hk', hn'⟩, st'⟩ := X.virtualBack hx (y := y) (z := y) hown (mvT hZ w1) (mvT hZ w2) (notFace_of_selects (args := #[]) (mvT hZ w5)) (mvT hZ w5) (mvT hZ w6) hy (backOf (W := w) (Q := fun v h L => Fr n0 L ∧ GC v h) (M []) hZ w4 w3 hf hl) qa qc (g := mkF m pc Ls (argsL.reverse ++ .ref a :: rest)) rfl (by rw [hml]; exact hs) (Steps.refl _) (argsL := argsL) (rest := rest) (lenOf hdesc hlen) rfl (by show 2 * 0 + _ ≤ _; simpa [wt] using hw) (hb hby hd) (fun _ _ => ⟨rfl, eT, (by show k' + rm.cells ≤ _; omega), (by show n' + rm.slots ≤ _; omega)⟩)
  dsimp only [Pt.U, Pt.locs, Pt.cells, Pt.slots] at X' hl' hk' hn' st' hQ
  subst hl' hk' hn'
  obtain ⟨s2, o, st2, r⟩ := q v T'.heap hQ T' _ _ _ (by omega) (by omega) X' rfl (Fr.app N N')
  exact ⟨s2, o, st'.trans st2, r⟩
theorem Ru.callp (C : Ru l Z own code maxL ret nm R n0 G W) {a0 : Array Value} {i w : Nat} {y : MethodName} {bytes : ByteArray} {mx : Nat} {rt : Option FieldType} {rm : Room} {GC : Option Value → Heap → Prop} {a : Addr} {argsL : List Value} {ps : List FieldType} {rt' : Option FieldType} {D : String}
    (M : MeetsW l Z n0 y bytes mx rt rm (.ref a :: argsL).toArray h GC) (E : Exa Z h a D) (w1 : (Cond.methodLink own i y).before a0 Z = true) (w6 : (Cond.instanceMethod y).before a0 Z = true) {nn : Nat} (w5 : (Cond.instantiable y.cls nn).before a0 Z = true) (w7 : (Cond.privateMethod y).before a0 Z = true) (w3 : (Cond.initialized y.cls).before a0 Z = true) (w4 : (Cond.code y bytes mx rt).before a0 Z = true)
    (hd : decode code pc = .ok (.invokevirtual i, 3)) (hp : pc + 3 = pc') (hs : Ls.size = maxL) (hst : st = argsL.reverse ++ .ref a :: rest) (hy : y.cls ≠ "java/lang/invoke/MethodHandle" ∧ y.cls ≠ "java/lang/invoke/VarHandle")
    (hdesc : parseMethodDescriptor y.desc = some ⟨ps, rt'⟩) (hlen : argsL.length = ps.length) (hf : rm.frames + 1 ≤ R.frames) (hw : wt rest ≤ w) (hl : w + (mx + 11) + rm.locals ≤ R.locals) (hk : k + rm.cells ≤ R.cells) (hn : n + rm.slots ≤ R.slots)
    (q : ∀ v h', GC v h' → W h' (k + rm.cells) (n + rm.slots) pc' Ls (v.toList ++ rest)) : W h k n pc Ls st := by
  obtain ⟨p, e, s, m, args, below, meth, c, FE, ⟨hx, hby, hml, hown, hZ, hre, hlk, hnm⟩, hFE, rfl⟩ := C
  subst hp hst
  intro T locs k' n' q1 q2 X eT N
  obtain ⟨cq, qa, qb⟩ := E.cell
  have hpv : s.PrivateAt y := Cond.privateMethod_at (mvP hZ w7 (args := #[]))
  obtain ⟨cI, kI, hcI, hkI, -, hniab, -, -⟩ := Cond.instantiable_spec (mvT hZ w5 (args := args))
  have hsel : (Cond.selects y.cls y y).before args s = true := Jvm.Stand.selects_self_of_private hcI hkI (Bool.or_eq_false_iff.mp hniab).1 hpv (mvT hZ w6) hy
  obtain ⟨v, _, ⟨T', L', k2, n2⟩, -, X', ⟨Lc, ⟨N', hQ⟩, hl', hk', hn'⟩, st'⟩ := X.privateBack hx (y := y) hown (mvT hZ w1) (mvT hZ w6) hsel hpv (mvT hZ w4) hy (backOf (W := w) (Q := fun v h L => Fr n0 L ∧ GC v h) (M []) hZ w4 w3 hf hl) (g := mkF m pc Ls (argsL.reverse ++ .ref a :: rest)) rfl (by rw [hml]; exact hs) (Steps.refl _) (a := a) (by rw [eT]; exact qa) qb (argsL := argsL) (rest := rest) (lenOf hdesc hlen) rfl (by show 2 * 0 + _ ≤ _; simpa [wt] using hw) (hb hby hd) (fun _ _ => ⟨rfl, eT, (by show k' + rm.cells ≤ _; omega), (by show n' + rm.slots ≤ _; omega)⟩)
  dsimp only [Pt.U, Pt.locs, Pt.cells, Pt.slots] at X' hl' hk' hn' st' hQ
  subst hl' hk' hn'
  obtain ⟨s2, o, st2, r⟩ := q v T'.heap hQ T' _ _ _ (by omega) (by omega) X' rfl (Fr.app N N')
  exact ⟨s2, o, st'.trans st2, r⟩
theorem Ru.castY (C : Ru l Z own code maxL ret nm R n0 G W) {a0 : Array Value} {D : String} {i : Nat} {a : Addr} (w : (Cond.classLink own i D).before a0 Z = true) (F : Ins Z h a D true) (hd : decode code pc = .ok (.checkcast i, 3)) (hp : pc + 3 = pc') (q : W h k n pc' Ls (.ref a :: rest)) : W h k n pc Ls (.ref a :: rest) := by
  obtain ⟨p, e, s, m, args, below, meth, c, FE, ⟨hx, hby, hml, hown, hZ, hre, hlk, hnm⟩, hFE, rfl⟩ := C
  subst hp
  intro T locs k' n' q1 q2 X eT N
  obtain ⟨T', X', e', st'⟩ := castY X hx hZ hown w eT F (g := mkF m pc Ls (.ref a :: rest)) rfl rfl (hb hby hd)
  obtain ⟨s2, o, st2, r⟩ := q T' locs k' n' q1 q2 X' e' N
  exact ⟨s2, o, st' _ st2, r⟩
theorem Ru.newAIE (C : Ru l Z own code maxL ret nm R n0 G W) {a0 : Array Value} {z : Int32} {N cap : Nat} (w : (Cond.arrayClass .int).before a0 Z = true) (hd : decode code pc = .ok (.newarray .int, 2)) (hp : pc + 2 = pc') (hz : z.toInt = (N : Int)) (hcap : N ≤ cap) (hb8 : cap * 8 ≤ 536870912) (hk : k + 1 ≤ R.cells) (hn : n + cap ≤ R.slots)
    (q : ∀ h' b, b = h.size → Ext h h' → AI Z h' b (List.replicate N 0) → Exa Z h' b "[I" → W h' (k + 1) (n + cap) pc' Ls (.ref b :: rest)) : W h k n pc Ls (.int z :: rest) := by
  obtain ⟨p, e, s, m, args, below, meth, c, FE, ⟨hx, hby, hml, hown, hZ, hre, hlk, hnm⟩, hFE, rfl⟩ := C
  subst hp
  intro T locs k' n' q1 q2 X eT Nf
  have hnn : ¬ z < 0 := by rw [Int32.lt_iff_toInt_lt]; show ¬ z.toInt < 0; omega
  have hzn : z.toNatClampNeg = N := by show z.toInt.toNat = N; omega
  have hlt : N < 2 ^ 31 := by have := (rng32 z).2; omega
  obtain ⟨T', h', cA, X', e', E', A', B', st'⟩ := newPE X hx hZ (aty := .int) w eT (g := mkF m pc Ls (.int z :: rest)) rfl (hb hby hd) rfl hnn (cap := cap) (by omega) hb8 (by omega) (by omega) (ad := "[I") (by decide)
  have F : AI Z h' h.size (List.replicate N 0) := by
    refine ⟨_, A', ?_, by rw [List.length_replicate]; exact hlt⟩
    simp only [newA, hzn]
    apply Array.ext'
    simp [defaultValue, newarray.typeOf]
  obtain ⟨s2, o, st2, r⟩ := q h' _ rfl E' F B' T' locs (k' + 1) (n' + cap) (by omega) (by omega) X' e' Nf
  exact ⟨s2, o, st' _ st2, r⟩
theorem Ru.cloneAI (C : Ru l Z own code maxL ret nm R n0 G W) {a0 : Array Value} {i w cap : Nat} {a : Addr} {vs : List Int32}
    (w1 : (Cond.methodLink own i ⟨"[I", "clone", "()Ljava/lang/Object;"⟩).before a0 Z = true) (w2 : (Cond.sameMethod "[I" "java/lang/Object" "clone" "()Ljava/lang/Object;").before a0 Z = true) (w3 : (Cond.native ⟨"java/lang/Object", "clone", "()Ljava/lang/Object;"⟩).before a0 Z = true)
    (w4 : (Cond.instanceMethod ⟨"java/lang/Object", "clone", "()Ljava/lang/Object;"⟩).before a0 Z = true) (w5 : (Cond.selects "[I" ⟨"[I", "clone", "()Ljava/lang/Object;"⟩ ⟨"java/lang/Object", "clone", "()Ljava/lang/Object;"⟩).before a0 Z = true) (w6 : (Cond.castable "[I" "java/lang/Cloneable").before a0 Z = true)
    (F : AI Z h a vs) (E : Exa Z h a "[I") (hd : decode code pc = .ok (.invokevirtual i, 3)) (hp : pc + 3 = pc') (hs : Ls.size = maxL) (hf : 1 ≤ R.frames) (hw : wt rest ≤ w) (hl : w + 14 ≤ R.locals) (hcap : vs.length ≤ cap) (hk : k + 1 ≤ R.cells) (hn : n + cap ≤ R.slots)
    (q : ∀ h' b, b = h.size → Ext h h' → AI Z h' b vs → Exa Z h' b "[I" → W h' (k + 1) (n + cap) pc' Ls (.ref b :: rest)) : W h k n pc Ls (.ref a :: rest) := by
  obtain ⟨p, e, s, m, args, below, meth, c, FE, ⟨hx, hby, hml, hown, hZ, hre, hlk, hnm⟩, hFE, rfl⟩ := C
  subst hp
  intro T locs k' n' q1 q2 X eT Nf
  obtain ⟨cl, A, es, hlen⟩ := F
  have hsz : cl.slots.size = vs.length := by rw [es]; simp
  have FC : FitC Z cl := fitC_of A fun j hj v hv => by
    rw [es] at hv
    simp only [List.getElem?_toArray, List.getElem?_map, Option.map_eq_some_iff] at hv
    obtain ⟨y, -, rfl⟩ := hv
    rfl
  obtain ⟨T', h', X', e', E', A', B', st'⟩ := cloneA X hx hZ hown w1 w2 w3 w4 w5 w6 eT A E FC (g := mkF m pc Ls (.ref a :: rest)) rfl (by rw [hml]; exact hs) rfl (hb hby hd) hf (W := w) (cap := cap) (by show 2 * 0 + _ ≤ _; simpa [wt] using hw) hl (by omega) (by omega) (by omega)
  obtain ⟨s2, o, st2, r⟩ := q h' _ rfl E' ⟨_, A', es, hlen⟩ B' T' locs (k' + 1) (n' + cap) (by omega) (by omega) X' e' Nf
  exact ⟨s2, o, st' _ st2, r⟩
/-! returns -/
theorem Ru.retV (C : Ru l Z own code maxL ret nm R n0 G W) (hr : ret = none) (hd : decode code pc = .ok (.return_, 1)) (hk : k ≤ R.cells) (hn : n ≤ R.slots) (q : G none h) : W h k n pc Ls [] := by
  obtain ⟨p, e, s, m, args, below, meth, c, FE, ⟨hx, hby, hml, hown, hZ, hre, hlk, hnm⟩, hFE, rfl⟩ := C
  intro T locs k' n' q1 q2 X eT N
  obtain ⟨fs, hrr, hrun, hended, hW, hsame⟩ := X.leave (v := none) (fun _ => rfl)
  exact ⟨_, _, X.returnOut hx (hre.trans hr) (hb hby hd) hrr, hrun, hended, _, _, rfl, ⟨N, by show G none T.heap; rw [eT]; exact q⟩, hFE _ _ _ ⟨⟨_, rfl⟩, hW, hsame.mono (by omega) (by omega)⟩⟩
theorem Ru.retI (C : Ru l Z own code maxL ret nm R n0 G W) {z : Int32} (hr : ret = some .int) (hd : decode code pc = .ok (.ireturn, 1)) (hk : k ≤ R.cells) (hn : n ≤ R.slots) (q : G (some (.int z)) h) : W h k n pc Ls (.int z :: rest) := by
  obtain ⟨p, e, s, m, args, below, meth, c, FE, ⟨hx, hby, hml, hown, hZ, hre, hlk, hnm⟩, hFE, rfl⟩ := C
  intro T locs k' n' q1 q2 X eT N
  obtain ⟨fs, hrr, hrun, hended, hW, hsame⟩ := X.leave (v := some (.int z)) (fun h => by rw [hre, hr] at h; cases h)
  exact ⟨_, _, retOut X hx (hre.trans hr) rfl (Or.inl ⟨rfl, Or.inl rfl, z, rfl⟩) (hb hby hd) hrr, hrun, hended, _, _, rfl, ⟨N, by show G _ T.heap; rw [eT]; exact q⟩, hFE _ _ _ ⟨⟨_, rfl⟩, hW, hsame.mono (by omega) (by omega)⟩⟩
theorem Ru.retZ (C : Ru l Z own code maxL ret nm R n0 G W) {z : Int32} (hr : ret = some .boolean) (hz : z = 0 ∨ z = 1) (hd : decode code pc = .ok (.ireturn, 1)) (hk : k ≤ R.cells) (hn : n ≤ R.slots) (q : G (some (.int z)) h) : W h k n pc Ls (.int z :: rest) := by
  obtain ⟨p, e, s, m, args, below, meth, c, FE, ⟨hx, hby, hml, hown, hZ, hre, hlk, hnm⟩, hFE, rfl⟩ := C
  intro T locs k' n' q1 q2 X eT N
  obtain ⟨fs, hrr, hrun, hended, hW, hsame⟩ := X.leave (v := some (.int z)) (fun h => by rw [hre, hr] at h; cases h)
  have hnr : narrow .boolean (.int z) = .int z := by rcases hz with rfl | rfl <;> decide
  exact ⟨_, _, retOut X hx (hre.trans hr) hnr (Or.inl ⟨rfl, Or.inr (Or.inl rfl), z, rfl⟩) (hb hby hd) hrr, hrun, hended, _, _, rfl, ⟨N, by show G _ T.heap; rw [eT]; exact q⟩, hFE _ _ _ ⟨⟨_, rfl⟩, hW, hsame.mono (by omega) (by omega)⟩⟩
theorem Ru.retJ (C : Ru l Z own code maxL ret nm R n0 G W) {z : Int64} (hr : ret = some .long) (hd : decode code pc = .ok (.lreturn, 1)) (hk : k ≤ R.cells) (hn : n ≤ R.slots) (q : G (some (.long z)) h) : W h k n pc Ls (.long z :: rest) := by
  obtain ⟨p, e, s, m, args, below, meth, c, FE, ⟨hx, hby, hml, hown, hZ, hre, hlk, hnm⟩, hFE, rfl⟩ := C
  intro T locs k' n' q1 q2 X eT N
  obtain ⟨fs, hrr, hrun, hended, hW, hsame⟩ := X.leave (v := some (.long z)) (fun h => by rw [hre, hr] at h; cases h)
  exact ⟨_, _, retOut X hx (hre.trans hr) rfl (Or.inr (Or.inl ⟨rfl, rfl, z, rfl⟩)) (hb hby hd) hrr, hrun, hended, _, _, rfl, ⟨N, by show G _ T.heap; rw [eT]; exact q⟩, hFE _ _ _ ⟨⟨_, rfl⟩, hW, hsame.mono (by omega) (by omega)⟩⟩
theorem Ru.retA (C : Ru l Z own code maxL ret nm R n0 G W) {a : Addr} {t : FieldType} (hr : ret = some t) (ht : t.isReference = true) (hd : decode code pc = .ok (.areturn, 1)) (hk : k ≤ R.cells) (hn : n ≤ R.slots) (q : G (some (.ref a)) h) : W h k n pc Ls (.ref a :: rest) := by
  obtain ⟨p, e, s, m, args, below, meth, c, FE, ⟨hx, hby, hml, hown, hZ, hre, hlk, hnm⟩, hFE, rfl⟩ := C
  intro T locs k' n' q1 q2 X eT N
  obtain ⟨fs, hrr, hrun, hended, hW, hsame⟩ := X.leave (v := some (.ref a)) (fun h => by rw [hre, hr] at h; cases h)
  have hnr : narrow t (.ref a) = .ref a := by cases t <;> first | rfl | cases ht
  exact ⟨_, _, retOut X hx (hre.trans hr) hnr (Or.inr (Or.inr (Or.inr (Or.inr ⟨rfl, ht, rfl⟩)))) (hb hby hd) hrr, hrun, hended, _, _, rfl, ⟨N, by show G _ T.heap; rw [eT]; exact q⟩, hFE _ _ _ ⟨⟨_, rfl⟩, hW, hsame.mono (by omega) (by omega)⟩⟩
end Steps
/-! kinds of results -/
def RI (P : Int32 → Heap → Prop) : Option Value → Heap → Prop := fun v h => ∃ r, v = some (.int r) ∧ P r h
def RJ (P : Int64 → Heap → Prop) : Option Value → Heap → Prop := fun v h => ∃ r, v = some (.long r) ∧ P r h
def RA (P : Addr → Heap → Prop) : Option Value → Heap → Prop := fun v h => ∃ r, v = some (.ref r) ∧ P r h
def RV (P : Heap → Prop) : Option Value → Heap → Prop := fun v h => v = none ∧ P h
theorem kI {P : Int32 → Heap → Prop} {W : WT} {k n pc : Nat} {Ls : Array Slot} {rest : List Value} (q : ∀ r h, P r h → W h k n pc Ls (.int r :: rest)) : ∀ v h, RI P v h → W h k n pc Ls (v.toList ++ rest) := by
  rintro _ h ⟨r, rfl, p⟩; exact q r h p
theorem kJ {P : Int64 → Heap → Prop} {W : WT} {k n pc : Nat} {Ls : Array Slot} {rest : List Value} (q : ∀ r h, P r h → W h k n pc Ls (.long r :: rest)) : ∀ v h, RJ P v h → W h k n pc Ls (v.toList ++ rest) := by
  rintro _ h ⟨r, rfl, p⟩; exact q r h p
theorem kA {P : Addr → Heap → Prop} {W : WT} {k n pc : Nat} {Ls : Array Slot} {rest : List Value} (q : ∀ r h, P r h → W h k n pc Ls (.ref r :: rest)) : ∀ v h, RA P v h → W h k n pc Ls (v.toList ++ rest) := by
  rintro _ h ⟨r, rfl, p⟩; exact q r h p
theorem kV {P : Heap → Prop} {W : WT} {k n pc : Nat} {Ls : Array Slot} {rest : List Value} (q : ∀ h, P h → W h k n pc Ls rest) : ∀ v h, RV P v h → W h k n pc Ls (v.toList ++ rest) := by
  rintro _ h ⟨rfl, p⟩; exact q h p
/-- the same, for a callee that leaves the heap as it was and returns just this -/
theorem kI0 {P : Int32 → Prop} {h0 : Heap} {W : WT} {k n pc : Nat} {Ls : Array Slot} {rest : List Value} (q : ∀ r, P r → W h0 k n pc Ls (.int r :: rest)) : ∀ v h, RI (fun r h => P r ∧ h = h0) v h → W h k n pc Ls (v.toList ++ rest) := by
  rintro _ h ⟨r, rfl, p, rfl⟩; exact q r p
theorem kJ0 {P : Int64 → Prop} {h0 : Heap} {W : WT} {k n pc : Nat} {Ls : Array Slot} {rest : List Value} (q : ∀ r, P r → W h0 k n pc Ls (.long r :: rest)) : ∀ v h, RJ (fun r h => P r ∧ h = h0) v h → W h k n pc Ls (v.toList ++ rest) := by
  rintro _ h ⟨r, rfl, p, rfl⟩; exact q r p
theorem kIe {x : Int32} {h0 : Heap} {W : WT} {k n pc : Nat} {Ls : Array Slot} {rest : List Value} (q : W h0 k n pc Ls (.int x :: rest)) : ∀ v h, RI (fun r h => r = x ∧ h = h0) v h → W h k n pc Ls (v.toList ++ rest) := by
  rintro _ h ⟨r, rfl, rfl, rfl⟩; exact q
theorem kJe {x : Int64} {h0 : Heap} {W : WT} {k n pc : Nat} {Ls : Array Slot} {rest : List Value} (q : W h0 k n pc Ls (.long x :: rest)) : ∀ v h, RJ (fun r h => r = x ∧ h = h0) v h → W h k n pc Ls (v.toList ++ rest) := by
  rintro _ h ⟨r, rfl, rfl, rfl⟩; exact q
theorem exaLt {Z : State} {h : Heap} {a : Addr} {C : String} (F : Exa Z h a C) : a < h.size := by obtain ⟨c, _, h1, -⟩ := F; exact (Array.getElem?_eq_some_iff.mp h1).1
/-! where a String constant is met for the first time: the wide end -/
section Wide
variable {l : Launch} {Z : State} {own : String} {code : ByteArray} {maxL : Nat} {ret : Option FieldType} {nm : String} {R : Room} {n0 : Nat} {G : Option Value → Heap → Prop} {W : WT} {h : Heap} {k n pc pc' : Nat} {Ls : Array Slot} {st rest : List Value}
def RuX (l : Launch) (Z : State) (own : String) (code : ByteArray) (maxL : Nat) (ret : Option FieldType) (nm : String) (R : Room) (n0 : Nat) (G : Option Value → Heap → Prop) (W : WT) : Prop :=
  ∃ (p : Program) (e : Env) (s : State) (m : MethodId) (args : Array Value) (below : List Frame) (meth : Method) (c : Code), Ctx p l e R s m args below meth c Z own code maxL ret nm ∧ W = WP p l e R s m args below meth c n0 G (fun o t L => ReturnedEndW s o t L R.cells R.slots)
theorem RuX.ru (C : RuX l Z own code maxL ret nm R n0 G W) : Ru l Z own code maxL ret nm R n0 G W := by
  obtain ⟨p, e, s, m, args, below, meth, c, C, rfl⟩ := C
  exact ⟨p, e, s, m, args, below, meth, c, _, C, fun _ _ _ q => ReturnedEndW.of_narrow q.1 q.2.1 q.2.2, rfl⟩
def MeetsX (l : Launch) (Z : State) (n0 : Nat) (y : MethodName) (bytes : ByteArray) (maxL : Nat) (ret : Option FieldType) (rm : Room) (as : Array Value) (h : Heap) (G : Option Value → Heap → Prop) : Prop :=
  ∀ ws : List Cond, MetFree l y (head1 (Cond.code y bytes maxL ret :: ws) rm) (fun a U => a = as ∧ Z.Warmed39 U.vm ∧ U.heap = h) (fun _ _ _ _ _ => True)
    (fun _ U o U' => ∃ v L, o = .returned v ∧ (Fr n0 L ∧ G v U'.heap) ∧ ReturnedEndW U o U' L rm.cells rm.slots)
theorem MeetsX.intro {y : MethodName} {bytes : ByteArray} {rm : Room} {as : Array Value}
    (hp : plainFor y = true) (hef : ∀ m, entryFrame m as maxL = mkF m 0 Ls [])
    (body : ∀ W, RuX l Z y.cls bytes maxL ret y.name rm n0 G W → W h 0 0 0 Ls []) : MeetsX l Z n0 y bytes maxL ret rm as h G := by
  intro ws
  refine MetFree.of_bodySF hp hisR ?_
  intro p e s m args below meth c s₁ Bd hml0 hP hK
  obtain ⟨rfl, hZ, hh⟩ := hP
  have X0 : Stand p l e rm s m args below meth c s₁ [] 0 0 := Stand.of_body Bd
  have e0 : s₁.heap = h := by rw [← hh, Bd.state]; rfl
  have C : Ctx p l e rm s m args below meth c Z y.cls bytes maxL ret y.name := ⟨Bd.exec, Bd.bytes, hml0, findClass_of_methodNamed Bd.named, hZ, Bd.returns, Bd.notSynchronized, (name_of_methodNamed Bd.named Bd.method).1⟩
  have q := body _ ⟨p, e, s, m, args, below, meth, c, C, rfl⟩ s₁ [] 0 0 (Nat.le_refl _) (Nat.le_refl _) X0 e0 (Fr.nil n0)
  rw [hef]
  exact q
theorem szX {h h' : Heap} (E : Ext h h') : h.size ≤ h'.size := ((Keep.refl h []).ext E).1
theorem szW {h h' : Heap} {a : Addr} {sl : Nat} {v : Value} (X : Wr h h' a sl v) : h.size ≤ h'.size := ((Keep.refl h [a]).wr X (Or.inl (List.mem_of_getElem? (i := 0) rfl))).1
/-- the rest of a walk over the tables at hand ends the whole -/
theorem wideEnd {p : Program} {e : Env} {s : State} {m : MethodId} {args : Array Value} {below : List Frame} {meth : Method} {c : Code} {vm1 : Vm} {k1 : Nat} {T : State} {locs : List Loc} {k' n' : Nat} (hS : s.Since vm1 k1) (hk : k1 ≤ h.size) (C : Ctx p l e R (s.setVm vm1) m args below meth c Z own code maxL ret nm)
    (X : Stand p l e R (s.setVm vm1) m args below meth c T locs k' n') (e1 : T.heap = h) (N : Fr n0 locs) (hk' : k' ≤ k) (hn' : n' ≤ n)
    (q : ∀ W', Ru l Z own code maxL ret nm R n0 (fun v hh => G v hh ∧ h.size ≤ hh.size) W' → W' h k n pc Ls st) :
    ∃ s₂ o, Steps p.tables e below (T.setTop (mkF m pc Ls st)) s₂ ∧ s₂.status = .running ∧ Ended s₂ below o ∧ ∃ v L, o = .returned v ∧ (Fr n0 L ∧ G v s₂.heap) ∧ ReturnedEndW s o s₂ L R.cells R.slots := by
  obtain ⟨s2, o, st2, h1, h2, v, L, hv, ⟨N2, g, hsz⟩, hr, hW, hs⟩ := q _ ⟨p, e, s.setVm vm1, m, args, below, meth, c, _, C, fun _ _ _ q => q, rfl⟩ T locs k' n' hk' hn' X e1 N
  obtain ⟨a, b, c'⟩ := hS.ended (U := s2) hW (Nat.le_trans hk hsz) hs
  exact ⟨s2, o, st2, h1, h2, v, L, hv, ⟨N2, g⟩, hr, a, b, c'⟩
theorem RuX.ldcS (C : RuX l Z own code maxL ret nm R n0 G W) {a0 : Array Value} {i nn : Nat} {text : String} (w : (Cond.stringLink own i text).before a0 Z = true) (wS : ∀ a ∈ Bundle.stringAtoms, a.before a0 Z = true) (hd : decode code pc = .ok (.ldc i, 2)) (hp : pc + 2 = pc') (hn : 4 * text.toList.length ≤ nn) (hbig : nn ≤ 536870912) (hk : k + 2 ≤ R.cells) (hs : n + (nn + 4) ≤ R.slots)
    (q : ∀ h' b W', Ext h h' → Ru l Z own code maxL ret nm R n0 (fun v hh => G v hh ∧ h'.size ≤ hh.size) W' → W' h' (k + 2) (n + (nn + 4)) pc' Ls (.ref b :: st)) : W h k n pc Ls st := by
  obtain ⟨p, e, s, m, args, below, meth, c, ⟨hx, hby, hml, hown, hZ, hre, hlk, hnm⟩, rfl⟩ := C
  subst hp
  intro T locs k' n' q1 q2 X eT N
  obtain ⟨a, T', h', k1, X', e', E', hS', hk1, hZ', hown', st'⟩ := ldcS (vm0 := s.vm) (show Stand p l e R (s.setVm s.vm) m args below meth c T locs k' n' from X) hx hZ hown w wS eT ((State.WarmedH.refl s).since h.size) (Nat.le_refl _) (g := mkF m pc Ls st) rfl (hb hby hd) hn hbig (by omega) (by omega)
  obtain ⟨s2, o, st2, r⟩ := wideEnd (G := G) hS' hk1 ⟨hx, hby, hml, hown', hZ', hre, hlk, hnm⟩ X' e' N (k := k + 2) (n := n + (nn + 4)) (by omega) (by omega) (fun W' C' => q h' a W' E' C')
  exact ⟨s2, o, st' _ st2, r⟩
theorem RuX.callc (C : RuX l Z own code maxL ret nm R n0 G W) {a0 : Array Value} {i w : Nat} {y : MethodName} {bytes : ByteArray} {mx : Nat} {rm : Room} {GC : Option Value → Heap → Prop} {a : Addr} {argsL : List Value} {ps : List FieldType} {rt' : Option FieldType}
    (M : MeetsX l Z n0 y bytes mx none rm (.ref a :: argsL).toArray h GC) (hy1 : y.name = "<init>") (w1 : (Cond.methodLink own i y).before a0 Z = true) (w2 : (Cond.instanceMethod y).before a0 Z = true) (w3 : (Cond.initialized y.cls).before a0 Z = true) (w4 : (Cond.code y bytes mx none).before a0 Z = true)
    (hd : decode code pc = .ok (.invokespecial i, 3)) (hp : pc + 3 = pc') (hs : Ls.size = maxL) (hst : st = argsL.reverse ++ .ref a :: rest) (hy : y.cls ≠ "java/lang/invoke/MethodHandle" ∧ y.cls ≠ "java/lang/invoke/VarHandle")
    (hdesc : parseMethodDescriptor y.desc = some ⟨ps, rt'⟩) (hlen : argsL.length = ps.length) (hf : rm.frames + 1 ≤ R.frames) (hw : wt rest ≤ w) (hl : w + (mx + 11) + rm.locals ≤ R.locals) (hk : k + rm.cells ≤ R.cells) (hn : n + rm.slots ≤ R.slots)
    (q : ∀ W' v h', Ru l Z own code maxL ret nm R n0 (fun v hh => G v hh ∧ h'.size ≤ hh.size) W' → GC v h' → W' h' (k + rm.cells) (n + rm.slots) pc' Ls (v.toList ++ rest)) : W h k n pc Ls st := by
  obtain ⟨p, e, s, m, args, below, meth, c, ⟨hx, hby, hml, hown, hZ, hre, hlk, hnm⟩, rfl⟩ := C
  subst hp hst
  intro T locs k' n' q1 q2 X eT N
  obtain ⟨v, _, ⟨T', L', k2, n2⟩, -, X', hS', hsz', ⟨Lc, ⟨N', hQ⟩, hl', hk', hn'⟩, st'⟩ := X.specialBackS hx (y := y) hy1 hown (mvT hZ w1) (mvT hZ w2) (mvT hZ w4) hy (backOfS (W := w) (Q := fun v h L => Fr n0 L ∧ GC v h) (M []) hZ w4 w3 hf hl) (g := mkF m pc Ls (argsL.reverse ++ .ref a :: rest)) rfl (by rw [hml]; exact hs) (Steps.refl _) (a := a) (argsL := argsL) (rest := rest) (lenOf hdesc hlen) rfl (by show 2 * 0 + _ ≤ _; simpa [wt] using hw) (hb hby hd) (fun _ _ => ⟨rfl, eT, (by show k' + rm.cells ≤ _; omega), (by show n' + rm.slots ≤ _; omega)⟩)
  dsimp only [Pt.U, Pt.locs, Pt.cells, Pt.slots] at X' hl' hk' hn' st' hQ hS' hsz'
  subst hl' hk' hn'
  have hZ' : Z.Warmed39 (s.setVm T'.vm).vm := State.Warmed39.trans (t := s) hZ hS'.1
  have hown' : (s.setVm T'.vm).vm.findClass own = some m.cls := by rw [show (s.setVm T'.vm).vm = T'.vm from rfl, hS'.1.alike.findClass]; exact hown
  obtain ⟨s2, o, st2, r⟩ := wideEnd (G := G) (h := T'.heap) hS' (Nat.le_refl _) ⟨hx, hby, hml, hown', hZ', hre, hlk, hnm⟩ X' rfl (Fr.app N N') (k := k + rm.cells) (n := n + rm.slots) (by omega) (by omega) (fun W' C' => q W' v T'.heap C' hQ)
  exact ⟨s2, o, st'.trans st2, r⟩
end Wide
end Jvm.OwnW

namespace Jvm.Pilot.@@N@@
open Jvm Jvm.ClassFile Sem Op Lib Jvm.Free Jvm.Stand Jvm.LawKit Jvm.RoadKit Bundle Jvm.Pilot.@@N@@.Jvm.D Jvm.OwnW
end Jvm.Pilot.@@N@@
namespace Jvm.OwnP
open Jvm.OwnW
/-- a long as a number below 2^64 -/
def toN (x : Int64) : Nat := x.toBitVec.toNat
theorem toN_lt (x : Int64) : toN x < 18446744073709551616 := x.toBitVec.isLt
theorem toN_inj {x y : Int64} (h : toN x = toN y) : x = y := Int64.toBitVec_inj.mp (BitVec.eq_of_toNat_eq h)
theorem nAdd (x y : Int64) : toN (x + y) = (toN x + toN y) % 18446744073709551616 := BitVec.toNat_add x.toBitVec y.toBitVec
theorem nSub (x y : Int64) : toN (x - y) = (18446744073709551616 - toN y + toN x) % 18446744073709551616 := BitVec.toNat_sub x.toBitVec y.toBitVec
theorem nMul (x y : Int64) : toN (x * y) = (toN x * toN y) % 18446744073709551616 := BitVec.toNat_mul x.toBitVec y.toBitVec
theorem nAnd (x y : Int64) : toN (x &&& y) = toN x &&& toN y := BitVec.toNat_and x.toBitVec y.toBitVec
theorem nOr (x y : Int64) : toN (x ||| y) = toN x ||| toN y := BitVec.toNat_or x.toBitVec y.toBitVec
theorem nXor (x y : Int64) : toN (x ^^^ y) = toN x ^^^ toN y := BitVec.toNat_xor x.toBitVec y.toBitVec
theorem nShl (x : Int64) (k : Nat) : toN (shlL x k) = (toN x * 2 ^ k) % 18446744073709551616 := by
  show (x.toBitVec <<< k).toNat = _
  rw [BitVec.toNat_shiftLeft, Nat.shiftLeft_eq]; rfl
theorem nShr (x : Int64) (k : Nat) : toN (shrL x k) = toN x / 2 ^ k := by
  show (x.toBitVec >>> k).toNat = _
  rw [BitVec.toNat_ushiftRight, Nat.shiftRight_eq_div_pow]; rfl
/-- a long's sign and its number -/
theorem toInt_toN (x : Int64) : x.toInt = if 2 * toN x < 18446744073709551616 then (toN x : Int) else (toN x : Int) - 18446744073709551616 := BitVec.toInt_eq_toNat_cond x.toBitVec
theorem toN_of_nonneg {x : Int64} (h : 0 ≤ x.toInt) : (toN x : Int) = x.toInt := by
  have := toInt_toN x; have := toN_lt x; split at * <;> omega
theorem toN_i2l {x : Int32} (h : 0 ≤ x.toInt) : (toN x.toInt64 : Int) = x.toInt := by
  have e : x.toInt64.toInt = x.toInt := Int32.toInt_toInt64 x
  rw [← e] at h ⊢; exact toN_of_nonneg h
theorem and_split (x y : Nat) (k : Nat) : x &&& y = (x % 2 ^ k &&& y % 2 ^ k) + 2 ^ k * (x / 2 ^ k &&& y / 2 ^ k) := by
  rw [← Nat.and_mod_two_pow, ← Nat.and_div_two_pow]; exact (Nat.mod_add_div _ _).symm
theorem or_disj {a b k : Nat} (h : a < 2 ^ k) : a ||| (b * 2 ^ k) = a + b * 2 ^ k := by
  rw [Nat.mul_comm b, Nat.or_comm, ← Nat.two_pow_add_eq_or_of_lt h, Nat.add_comm]
end Jvm.OwnP
namespace Jvm.OwnP
open Jvm.RoadKit
theorem nn_toInt {j : Int32} (h : ¬ j < 0) : j.toInt = (j.toInt.toNat : Int) := by
  rw [Int32.lt_iff_toInt_lt] at h
  have : ¬ j.toInt < 0 := h
  omega
theorem getD_some {α : Type} {vs : List α} {i : Nat} {d : α} (h : i < vs.length) : vs[i]? = some (vs.getD i d) := by
  rw [List.getD_eq_getElem?_getD, List.getElem?_eq_getElem h]; rfl
theorem and3 (c : Int32) : c &&& 3 = 0 ∨ c &&& 3 = 1 ∨ c &&& 3 = 2 ∨ c &&& 3 = 3 := by
  have m := c_mask c 3 2 (by decide) (by decide)
  have h : (c &&& 3).toInt = 0 ∨ (c &&& 3).toInt = 1 ∨ (c &&& 3).toInt = 2 ∨ (c &&& 3).toInt = 3 := by omega
  rcases h with h | h | h | h
  · exact Or.inl (Int32.toInt_inj.mp h)
  · exact Or.inr (Or.inl (Int32.toInt_inj.mp h))
  · exact Or.inr (Or.inr (Or.inl (Int32.toInt_inj.mp h)))
  · exact Or.inr (Or.inr (Or.inr (Int32.toInt_inj.mp h)))
theorem fill_step {α : Type} {L M : List α} {i : Nat} (hl : L.length = M.length) (h : ∀ j, j < i → L[j]? = M[j]?) {v : α} (hv : M[i]? = some v) : (L.set i v).length = M.length ∧ ∀ j, j < i + 1 → (L.set i v)[j]? = M[j]? := by
  have hi : i < L.length := by rw [hl]; exact (List.getElem?_eq_some_iff.mp hv).1
  refine ⟨by rw [List.length_set]; exact hl, fun j hj => ?_⟩
  by_cases e : j = i
  · subst e; rw [List.getElem?_set_self hi, hv]
  · rw [List.getElem?_set_ne (Ne.symm e)]; exact h j (by omega)
theorem fill_done {α : Type} {L M : List α} {i : Nat} (hl : L.length = M.length) (h : ∀ j, j < i → L[j]? = M[j]?) (hi : M.length ≤ i) : L = M := by
  apply List.ext_getElem?
  intro j
  by_cases e : j < i
  · exact h j e
  · rw [List.getElem?_eq_none (by omega), List.getElem?_eq_none (by omega)]
theorem lt_iff {x y : Int32} {a b : Nat} (hx : x.toInt = (a : Int)) (hy : y.toInt = (b : Int)) : x < y ↔ a < b := by
  rw [Int32.lt_iff_toInt_lt, hx, hy]; omega
theorem inc_toInt {x v : Int32} {a : Nat} (hx : x.toInt = (a : Int)) (h : a < 2147483647) (e : v = x + 1) : v.toInt = ((a + 1 : Nat) : Int) := by
  have s := c_iadd x 1; have b := rng32 (x + 1); have o : (1 : Int32).toInt = 1 := by decide
  rw [e]; omega
theorem narZ {x : Int32} (h : x = 0 ∨ x = 1) : Jvm.narrow .boolean (.int x) = .int x ∧ Jvm.fits .boolean (.int x) = true := by
  rcases h with rfl | rfl <;> exact ⟨by decide, by decide⟩
theorem rem3 {c : Int32} (h : ¬ c < 0) : c % 3 = 0 ∨ c % 3 = 1 ∨ c % 3 = 2 := by
  rw [Int32.lt_iff_toInt_lt] at h
  have h0 : ¬ c.toInt < 0 := h
  have m := (c_irem c 3 3 (by decide)).1 (by omega)
  have h : (c % 3).toInt = 0 ∨ (c % 3).toInt = 1 ∨ (c % 3).toInt = 2 := by omega
  rcases h with h | h | h
  · exact Or.inl (Int32.toInt_inj.mp h)
  · exact Or.inr (Or.inl (Int32.toInt_inj.mp h))
  · exact Or.inr (Or.inr (Int32.toInt_inj.mp h))
end Jvm.OwnP
namespace Jvm.Pilot.@@N@@
open Jvm Jvm.ClassFile Sem Op Lib Jvm.Free Jvm.Stand Jvm.LawKit Jvm.RoadKit Bundle Jvm.Pilot.@@N@@.Jvm.D Jvm.OwnW

theorem own_n {p v : Int32} (e : v = p &&& 3) : v = 0 ∨ v = 1 ∨ v = 2 ∨ v = 3 := by
  have m := c_mask p 3 2 (by decide) (by decide)
  have h : v.toInt = 0 ∨ v.toInt = 1 ∨ v.toInt = 2 ∨ v.toInt = 3 := by rw [e, m]; omega
  rcases h with h | h | h | h
  · exact Or.inl (Int32.toInt_inj.mp h)
  · exact Or.inr (Or.inl (Int32.toInt_inj.mp h))
  · exact Or.inr (Or.inr (Or.inl (Int32.toInt_inj.mp h)))
  · exact Or.inr (Or.inr (Or.inr (Int32.toInt_inj.mp h)))
theorem own_w {v p : Int64} (e : v = if 1 < p then p else 1) : 1 ≤ v.toInt := by
  have o : (1 : Int64).toInt = 1 := by decide
  split at e
  · next h => rw [Int64.lt_iff_toInt_lt] at h; rw [e]; omega
  · rw [e]; omega
theorem own_z {v p : Int64} (e : v = if 1 < p then p else 1) : v ≠ 0 := by
  intro h; have k := own_w e; rw [h] at k; exact absurd k (by decide)
open Jvm.OwnP in
theorem own_pos (x : Int64) : 0 ≤ (x &&& 9223372036854775807).toInt := by
  have h : toN (x &&& 9223372036854775807) = toN x % 2 ^ 63 := by
    rw [nAnd]; exact Nat.and_two_pow_sub_one_eq_mod (toN x) 63
  have k := toInt_toN (x &&& 9223372036854775807); rw [h] at k; split at k <;> omega
theorem own_rem {a b : Int64} (ha : 0 ≤ a.toInt) (hb : 0 < b.toInt) : 0 ≤ (a % b).toInt ∧ (a % b).toInt < b.toInt := by
  rw [Int64.toInt_mod, Int.tmod_eq_emod_of_nonneg ha]
  exact ⟨Int.emod_nonneg _ (by omega), Int.emod_lt_of_pos _ hb⟩
theorem own_wd {w p q d : Int64} (e : w = if 1 < p then p else 1) (f : d = (q &&& 9223372036854775807) % w) : 0 < (w - d).toInt := by
  have k := own_w e; have r := own_rem (own_pos q) (show 0 < w.toInt by omega); rw [← f] at r
  have s := c_lsub w d; have b := rng64 w; have b2 := rng64 (w - d)
  omega
theorem own_wz {w p q d : Int64} (e : w = if 1 < p then p else 1) (f : d = (q &&& 9223372036854775807) % w) : w - d ≠ 0 := by
  intro h; have k := own_wd e f; rw [h] at k; exact absurd k (by decide)
theorem own_gz {w p q d r g : Int64} (e : w = if 1 < p then p else 1) (f : d = (q &&& 9223372036854775807) % w) (i : g = (r &&& 9223372036854775807) % (w - d)) : g + 1 ≠ 0 := by
  intro h
  have k := own_wd e f; have m := own_rem (own_pos r) k; rw [← i] at m
  have s := c_ladd g 1; have b := rng64 g; have b2 := rng64 (w - d); have o : (1 : Int64).toInt = 1 := by decide
  have z : (0 : Int64).toInt = 0 := by decide
  rw [h] at s
  omega
theorem own_fin {a b w n t d e : Int64} (h1 : a = w - (n - t)) (h2 : t = e) (h3 : e = n - d) (h4 : b = w - d) : a = b := by
  subst h1 h2 h3 h4; grind

theorem od1_0 : decode jdk_29_method_66_code 0 = .ok (.lload_n 0, 1) := by decide +kernel
theorem od1_1 : decode jdk_29_method_66_code 1 = .ok (.lload_n 2, 1) := by decide +kernel
theorem od1_2 : decode jdk_29_method_66_code 2 = .ok (.lcmp, 1) := by decide +kernel
theorem od1_3 : decode jdk_29_method_66_code 3 = .ok (.ifCond .lt 7, 3) := by decide +kernel
theorem od1_10 : decode jdk_29_method_66_code 10 = .ok (.lload_n 2, 1) := by decide +kernel
theorem od1_11 : decode jdk_29_method_66_code 11 = .ok (.lreturn, 1) := by decide +kernel
theorem od1_6 : decode jdk_29_method_66_code 6 = .ok (.lload_n 0, 1) := by decide +kernel
theorem od1_7 : decode jdk_29_method_66_code 7 = .ok (.goto 4, 3) := by decide +kernel
theorem ef_own_rm1 (m : MethodId) (x0 : Int64) (x1 : Int64) : entryFrame m #[(.long x0), (.long x1)] 4 = mkF m 0 #[.val (.long x0), .second, .val (.long x1), .second] [] := by first | (simp [entryFrame, mkF, argsToLocals, Value.category]; done) | rfl
theorem pn_java_lang_Math_max__JJ_J : plainFor (⟨"java/lang/Math", "max", "(JJ)J"⟩ : MethodName) = true := by decide +kernel
set_option maxRecDepth 65536 in
set_option maxHeartbeats 40000000 in
theorem own_rm1 (l : Launch) (Z : State) (a0 : Array Value) (hw : ∀ d ∈ tables_1, d.before a0 Z = true) (n0 : Nat) (hO : Heap) (x : Int64) (y : Int64) :
    MeetsW l Z n0 (⟨"java/lang/Math", "max", "(JJ)J"⟩ : MethodName) jdk_29_method_66_code 4 (some .long) ({ frames := 0, cells := 0, slots := 0, locals := 0 } : Room) #[(.long x), (.long y)] hO (RJ fun r h => r = (if x < y then y else x) ∧ h = hO) := by
  refine MeetsW.intro pn_java_lang_Math_max__JJ_J (fun m => ef_own_rm1 m x y) ?_
  intro W C
  replace C : Ru l Z "java/lang/Math" jdk_29_method_66_code 4 (some .long) "max" ({ frames := 0, cells := 0, slots := 0, locals := 0 } : Room) n0 (RJ fun r h => r = (if x < y then y else x) ∧ h = hO) W := C
  refine C.lloadN (pc' := 1) od1_0 rfl rfl ?_
  refine C.lloadN (pc' := 2) od1_1 rfl rfl ?_
  refine C.lif_lt (pc' := 6) (pt := 10) od1_2 rfl od1_3 rfl rfl (fun c2 => ?_) (fun c2 => ?_)
  · skip
    refine C.lloadN (pc' := 11) od1_10 rfl rfl ?_
    refine C.retJ rfl od1_11 (by decide) (by decide) ⟨_, rfl, ?_⟩
    exact ⟨by simp [c2], rfl⟩
  · skip
    refine C.lloadN (pc' := 7) od1_6 rfl rfl ?_
    refine C.goto (pc' := 11) od1_7 rfl ?_
    refine C.retJ rfl od1_11 (by decide) (by decide) ⟨_, rfl, ?_⟩
    exact ⟨by simp [c2], rfl⟩
theorem od6_0 : decode prog_9_method_1_code 0 = .ok (.aload_n 0, 1) := by decide +kernel
theorem od6_1 : decode prog_9_method_1_code 1 = .ok (.invokespecial 1, 3) := by decide +kernel
theorem ow47 {a0 : Array Value} {Z : State} (hw : ∀ d ∈ tables_1, d.before a0 Z = true) : (Jvm.Cond.methodLink "com/example/steady_limiter/steadylimiter/KeyState" (1 : Nat) ({ cls := "java/lang/Object", name := "<init>", desc := "()V" } : Jvm.MethodName)).before a0 Z = true := hw _ (List.mem_of_getElem? (i := 47) rfl)
theorem ow26 {a0 : Array Value} {Z : State} (hw : ∀ d ∈ tables_1, d.before a0 Z = true) : (Jvm.Cond.instanceMethod ({ cls := "java/lang/Object", name := "<init>", desc := "()V" } : Jvm.MethodName)).before a0 Z = true := hw _ (List.mem_of_getElem? (i := 26) rfl)
theorem ow27 {a0 : Array Value} {Z : State} (hw : ∀ d ∈ tables_1, d.before a0 Z = true) : (Jvm.Cond.code ({ cls := "java/lang/Object", name := "<init>", desc := "()V" } : Jvm.MethodName) object_method_1_code (1 : Nat) (Option.none : Option Jvm.ClassFile.FieldType)).before a0 Z = true := hw _ (List.mem_of_getElem? (i := 27) rfl)
theorem od6_4 : decode prog_9_method_1_code 4 = .ok (.aload_n 0, 1) := by decide +kernel
theorem od6_5 : decode prog_9_method_1_code 5 = .ok (.lload_n 1, 1) := by decide +kernel
theorem ow49 {a0 : Array Value} {Z : State} (hw : ∀ d ∈ tables_1, d.before a0 Z = true) : (Jvm.Cond.lays "com/example/steady_limiter/steadylimiter/SlidingWindowLog$PermitLog" "com/example/steady_limiter/steadylimiter/KeyState" "lastNanos" "J").before a0 Z = true := hw _ (List.mem_of_getElem? (i := 49) rfl)
theorem ow48 {a0 : Array Value} {Z : State} (hw : ∀ d ∈ tables_1, d.before a0 Z = true) : (Jvm.Cond.fieldLink "com/example/steady_limiter/steadylimiter/KeyState" (7 : Nat) "com/example/steady_limiter/steadylimiter/KeyState" "lastNanos" "J").before a0 Z = true := hw _ (List.mem_of_getElem? (i := 48) rfl)
theorem ow37 {a0 : Array Value} {Z : State} (hw : ∀ d ∈ tables_1, d.before a0 Z = true) : (Jvm.Cond.instantiable "com/example/steady_limiter/steadylimiter/SlidingWindowLog$PermitLog" (9 : Nat)).before a0 Z = true := hw _ (List.mem_of_getElem? (i := 37) rfl)
theorem pf_J : parseFieldDescriptor "J" = some .long := by decide
theorem od6_6 : decode prog_9_method_1_code 6 = .ok (.putfield 7, 3) := by decide +kernel
theorem ow52 {a0 : Array Value} {Z : State} (hw : ∀ d ∈ tables_1, d.before a0 Z = true) : (Jvm.Cond.lays "com/example/steady_limiter/steadylimiter/SlidingWindowLog$PermitLog" "com/example/steady_limiter/steadylimiter/SlidingWindowLog$PermitLog" "times" "[J").before a0 Z = true := hw _ (List.mem_of_getElem? (i := 52) rfl)
theorem pf__J : parseFieldDescriptor "[J" = some (.array .long) := by decide
theorem sne_52_49 {a0 : Array Value} {Z : State} (hw : ∀ d ∈ tables_1, d.before a0 Z = true) : Jvm.RoadKit.slotOf Z "com/example/steady_limiter/steadylimiter/SlidingWindowLog$PermitLog" "times" "[J" ≠ Jvm.RoadKit.slotOf Z "com/example/steady_limiter/steadylimiter/KeyState" "lastNanos" "J" := slot_ne (C := "com/example/steady_limiter/steadylimiter/SlidingWindowLog$PermitLog") (a0 := a0) (Or.inl (ow52 hw)) (Or.inl (ow49 hw)) (by decide) pf__J pf_J
theorem ow54 {a0 : Array Value} {Z : State} (hw : ∀ d ∈ tables_1, d.before a0 Z = true) : (Jvm.Cond.lays "com/example/steady_limiter/steadylimiter/SlidingWindowLog$PermitLog" "com/example/steady_limiter/steadylimiter/SlidingWindowLog$PermitLog" "permits" "[J").before a0 Z = true := hw _ (List.mem_of_getElem? (i := 54) rfl)
theorem sne_54_49 {a0 : Array Value} {Z : State} (hw : ∀ d ∈ tables_1, d.before a0 Z = true) : Jvm.RoadKit.slotOf Z "com/example/steady_limiter/steadylimiter/SlidingWindowLog$PermitLog" "permits" "[J" ≠ Jvm.RoadKit.slotOf Z "com/example/steady_limiter/steadylimiter/KeyState" "lastNanos" "J" := slot_ne (C := "com/example/steady_limiter/steadylimiter/SlidingWindowLog$PermitLog") (a0 := a0) (Or.inl (ow54 hw)) (Or.inl (ow49 hw)) (by decide) pf__J pf_J
theorem ow67 {a0 : Array Value} {Z : State} (hw : ∀ d ∈ tables_1, d.before a0 Z = true) : (Jvm.Cond.lays "com/example/steady_limiter/steadylimiter/SlidingWindowLog$PermitLog" "com/example/steady_limiter/steadylimiter/SlidingWindowLog$PermitLog" "head" "I").before a0 Z = true := hw _ (List.mem_of_getElem? (i := 67) rfl)
theorem pf_I : parseFieldDescriptor "I" = some .int := by decide
theorem sne_67_49 {a0 : Array Value} {Z : State} (hw : ∀ d ∈ tables_1, d.before a0 Z = true) : Jvm.RoadKit.slotOf Z "com/example/steady_limiter/steadylimiter/SlidingWindowLog$PermitLog" "head" "I" ≠ Jvm.RoadKit.slotOf Z "com/example/steady_limiter/steadylimiter/KeyState" "lastNanos" "J" := slot_ne (C := "com/example/steady_limiter/steadylimiter/SlidingWindowLog$PermitLog") (a0 := a0) (Or.inl (ow67 hw)) (Or.inl (ow49 hw)) (by decide) pf_I pf_J
theorem ow61 {a0 : Array Value} {Z : State} (hw : ∀ d ∈ tables_1, d.before a0 Z = true) : (Jvm.Cond.lays "com/example/steady_limiter/steadylimiter/SlidingWindowLog$PermitLog" "com/example/steady_limiter/steadylimiter/SlidingWindowLog$PermitLog" "size" "I").before a0 Z = true := hw _ (List.mem_of_getElem? (i := 61) rfl)
theorem sne_61_49 {a0 : Array Value} {Z : State} (hw : ∀ d ∈ tables_1, d.before a0 Z = true) : Jvm.RoadKit.slotOf Z "com/example/steady_limiter/steadylimiter/SlidingWindowLog$PermitLog" "size" "I" ≠ Jvm.RoadKit.slotOf Z "com/example/steady_limiter/steadylimiter/KeyState" "lastNanos" "J" := slot_ne (C := "com/example/steady_limiter/steadylimiter/SlidingWindowLog$PermitLog") (a0 := a0) (Or.inl (ow61 hw)) (Or.inl (ow49 hw)) (by decide) pf_I pf_J
theorem ow69 {a0 : Array Value} {Z : State} (hw : ∀ d ∈ tables_1, d.before a0 Z = true) : (Jvm.Cond.lays "com/example/steady_limiter/steadylimiter/SlidingWindowLog$PermitLog" "com/example/steady_limiter/steadylimiter/SlidingWindowLog$PermitLog" "counted" "J").before a0 Z = true := hw _ (List.mem_of_getElem? (i := 69) rfl)
theorem sne_69_49 {a0 : Array Value} {Z : State} (hw : ∀ d ∈ tables_1, d.before a0 Z = true) : Jvm.RoadKit.slotOf Z "com/example/steady_limiter/steadylimiter/SlidingWindowLog$PermitLog" "counted" "J" ≠ Jvm.RoadKit.slotOf Z "com/example/steady_limiter/steadylimiter/KeyState" "lastNanos" "J" := slot_ne (C := "com/example/steady_limiter/steadylimiter/SlidingWindowLog$PermitLog") (a0 := a0) (Or.inl (ow69 hw)) (Or.inl (ow49 hw)) (by decide) pf_J pf_J
theorem od6_9 : decode prog_9_method_1_code 9 = .ok (.return_, 1) := by decide +kernel
theorem ef_own_rm6 (m : MethodId) (x0 : Addr) (x1 : Int64) : entryFrame m #[(.ref x0), (.long x1)] 3 = mkF m 0 #[.val (.ref x0), .val (.long x1), .second] [] := by first | (simp [entryFrame, mkF, argsToLocals, Value.category]; done) | rfl
theorem pn_com_example_steady_limiter_steadylimiter_KeyState__init___J_V : plainFor (⟨"com/example/steady_limiter/steadylimiter/KeyState", "<init>", "(J)V"⟩ : MethodName) = true := plainFor_of_name (by first | (simp [plainName, overriddenIn]; done) | decide +kernel)
set_option maxRecDepth 65536 in
set_option maxHeartbeats 40000000 in
theorem own_rm6 (l : Launch) (Z : State) (a0 : Array Value) (hw : ∀ d ∈ tables_1, d.before a0 Z = true) (n0 : Nat) (hO : Heap) (a : Addr) (x : Int64) (Z0 : n0 ≤ hO.size) (E_a : Exa Z hO a "com/example/steady_limiter/steadylimiter/SlidingWindowLog$PermitLog") (F_a_lastNanos : Fld Z hO a "com/example/steady_limiter/steadylimiter/KeyState" "lastNanos" "J" (.long (0 : Int64))) (F_a_times : Fld Z hO a "com/example/steady_limiter/steadylimiter/SlidingWindowLog$PermitLog" "times" "[J" .null) (F_a_permits : Fld Z hO a "com/example/steady_limiter/steadylimiter/SlidingWindowLog$PermitLog" "permits" "[J" .null) (F_a_head : Fld Z hO a "com/example/steady_limiter/steadylimiter/SlidingWindowLog$PermitLog" "head" "I" (.int (0 : Int32))) (F_a_size : Fld Z hO a "com/example/steady_limiter/steadylimiter/SlidingWindowLog$PermitLog" "size" "I" (.int (0 : Int32))) (F_a_counted : Fld Z hO a "com/example/steady_limiter/steadylimiter/SlidingWindowLog$PermitLog" "counted" "J" (.long (0 : Int64))) (g_a : n0 ≤ a) :
    MeetsW l Z n0 (⟨"com/example/steady_limiter/steadylimiter/KeyState", "<init>", "(J)V"⟩ : MethodName) prog_9_method_1_code 3 none ({ frames := 1, cells := 0, slots := 0, locals := 12 } : Room) #[(.ref a), (.long x)] hO (RV fun h => Keep hO h [a] ∧ Fld Z h a "com/example/steady_limiter/steadylimiter/SlidingWindowLog$PermitLog" "times" "[J" .null ∧ Fld Z h a "com/example/steady_limiter/steadylimiter/SlidingWindowLog$PermitLog" "permits" "[J" .null ∧ Fld Z h a "com/example/steady_limiter/steadylimiter/SlidingWindowLog$PermitLog" "head" "I" (.int (0 : Int32)) ∧ Fld Z h a "com/example/steady_limiter/steadylimiter/SlidingWindowLog$PermitLog" "size" "I" (.int (0 : Int32)) ∧ Fld Z h a "com/example/steady_limiter/steadylimiter/SlidingWindowLog$PermitLog" "counted" "J" (.long (0 : Int64))) := by
  refine MeetsW.intro pn_com_example_steady_limiter_steadylimiter_KeyState__init___J_V (fun m => ef_own_rm6 m a x) ?_
  intro W C
  replace C : Ru l Z "com/example/steady_limiter/steadylimiter/KeyState" prog_9_method_1_code 3 none "<init>" ({ frames := 1, cells := 0, slots := 0, locals := 12 } : Room) n0 (RV fun h => Keep hO h [a] ∧ Fld Z h a "com/example/steady_limiter/steadylimiter/SlidingWindowLog$PermitLog" "times" "[J" .null ∧ Fld Z h a "com/example/steady_limiter/steadylimiter/SlidingWindowLog$PermitLog" "permits" "[J" .null ∧ Fld Z h a "com/example/steady_limiter/steadylimiter/SlidingWindowLog$PermitLog" "head" "I" (.int (0 : Int32)) ∧ Fld Z h a "com/example/steady_limiter/steadylimiter/SlidingWindowLog$PermitLog" "size" "I" (.int (0 : Int32)) ∧ Fld Z h a "com/example/steady_limiter/steadylimiter/SlidingWindowLog$PermitLog" "counted" "J" (.long (0 : Int64))) W := C
  have K : Keep hO hO [a] := Keep.refl _ _
  refine C.aloadN (pc' := 1) od6_0 rfl rfl rfl ?_
  refine C.initObj (w := 0) (ow47 hw) (ow26 hw) (ow27 hw) (pc' := 4) od6_1 rfl rfl (by decide) (Nat.le_of_eq rfl) (by decide) ?_
  refine C.aloadN (pc' := 5) od6_4 rfl rfl rfl ?_
  refine C.lloadN (pc' := 6) od6_5 rfl rfl ?_
  refine C.putf (ow48 hw) Via.refl F_a_lastNanos E_a (Or.inl (ow49 hw)) (ow37 hw) pf_J rfl rfl g_a (pc' := 9) od6_6 rfl (fun h6 X6 => ?_)
  replace F_a_lastNanos := F_a_lastNanos.same X6
  replace E_a := E_a.wr X6
  replace F_a_times := F_a_times.other X6 (Or.inr (sne_52_49 hw))
  replace F_a_permits := F_a_permits.other X6 (Or.inr (sne_54_49 hw))
  replace F_a_head := F_a_head.other X6 (Or.inr (sne_67_49 hw))
  replace F_a_size := F_a_size.other X6 (Or.inr (sne_61_49 hw))
  replace F_a_counted := F_a_counted.other X6 (Or.inr (sne_69_49 hw))
  replace K := K.wr X6 (Or.inl (List.mem_of_getElem? (i := 0) rfl))
  refine C.retV rfl od6_9 (by decide) (by decide) ⟨rfl, ?_⟩
  exact ⟨K, F_a_times, F_a_permits, F_a_head, F_a_size, F_a_counted⟩
theorem od5_0 : decode prog_19_method_1_code 0 = .ok (.aload_n 0, 1) := by decide +kernel
theorem od5_1 : decode prog_19_method_1_code 1 = .ok (.lload_n 1, 1) := by decide +kernel
theorem od5_2 : decode prog_19_method_1_code 2 = .ok (.invokespecial 1, 3) := by decide +kernel
theorem pd__J_V : parseMethodDescriptor "(J)V" = some ⟨[.long], none⟩ := by decide +kernel
theorem ow46 {a0 : Array Value} {Z : State} (hw : ∀ d ∈ tables_1, d.before a0 Z = true) : (Jvm.Cond.code ({ cls := "com/example/steady_limiter/steadylimiter/KeyState", name := "<init>", desc := "(J)V" } : Jvm.MethodName) prog_9_method_1_code (3 : Nat) (Option.none : Option Jvm.ClassFile.FieldType)).before a0 Z = true := hw _ (List.mem_of_getElem? (i := 46) rfl)
theorem ow45 {a0 : Array Value} {Z : State} (hw : ∀ d ∈ tables_1, d.before a0 Z = true) : (Jvm.Cond.initialized "com/example/steady_limiter/steadylimiter/KeyState").before a0 Z = true := hw _ (List.mem_of_getElem? (i := 45) rfl)
theorem ow42 {a0 : Array Value} {Z : State} (hw : ∀ d ∈ tables_1, d.before a0 Z = true) : (Jvm.Cond.methodLink "com/example/steady_limiter/steadylimiter/SlidingWindowLog$PermitLog" (1 : Nat) ({ cls := "com/example/steady_limiter/steadylimiter/KeyState", name := "<init>", desc := "(J)V" } : Jvm.MethodName)).before a0 Z = true := hw _ (List.mem_of_getElem? (i := 42) rfl)
theorem ow43 {a0 : Array Value} {Z : State} (hw : ∀ d ∈ tables_1, d.before a0 Z = true) : (Jvm.Cond.instanceMethod ({ cls := "com/example/steady_limiter/steadylimiter/KeyState", name := "<init>", desc := "(J)V" } : Jvm.MethodName)).before a0 Z = true := hw _ (List.mem_of_getElem? (i := 43) rfl)
theorem od5_5 : decode prog_19_method_1_code 5 = .ok (.aload_n 0, 1) := by decide +kernel
theorem od5_6 : decode prog_19_method_1_code 6 = .ok (.iconst 2, 1) := by decide +kernel
theorem ow50 {a0 : Array Value} {Z : State} (hw : ∀ d ∈ tables_1, d.before a0 Z = true) : (Jvm.Cond.arrayClass Jvm.ClassFile.FieldType.long).before a0 Z = true := hw _ (List.mem_of_getElem? (i := 50) rfl)
theorem od5_7 : decode prog_19_method_1_code 7 = .ok (.newarray .long, 2) := by decide +kernel
theorem ow51 {a0 : Array Value} {Z : State} (hw : ∀ d ∈ tables_1, d.before a0 Z = true) : (Jvm.Cond.fieldLink "com/example/steady_limiter/steadylimiter/SlidingWindowLog$PermitLog" (9 : Nat) "com/example/steady_limiter/steadylimiter/SlidingWindowLog$PermitLog" "times" "[J").before a0 Z = true := hw _ (List.mem_of_getElem? (i := 51) rfl)
theorem od5_9 : decode prog_19_method_1_code 9 = .ok (.putfield 9, 3) := by decide +kernel
theorem sne_54_52 {a0 : Array Value} {Z : State} (hw : ∀ d ∈ tables_1, d.before a0 Z = true) : Jvm.RoadKit.slotOf Z "com/example/steady_limiter/steadylimiter/SlidingWindowLog$PermitLog" "permits" "[J" ≠ Jvm.RoadKit.slotOf Z "com/example/steady_limiter/steadylimiter/SlidingWindowLog$PermitLog" "times" "[J" := slot_ne (C := "com/example/steady_limiter/steadylimiter/SlidingWindowLog$PermitLog") (a0 := a0) (Or.inl (ow54 hw)) (Or.inl (ow52 hw)) (by decide) pf__J pf__J
theorem sne_67_52 {a0 : Array Value} {Z : State} (hw : ∀ d ∈ tables_1, d.before a0 Z = true) : Jvm.RoadKit.slotOf Z "com/example/steady_limiter/steadylimiter/SlidingWindowLog$PermitLog" "head" "I" ≠ Jvm.RoadKit.slotOf Z "com/example/steady_limiter/steadylimiter/SlidingWindowLog$PermitLog" "times" "[J" := slot_ne (C := "com/example/steady_limiter/steadylimiter/SlidingWindowLog$PermitLog") (a0 := a0) (Or.inl (ow67 hw)) (Or.inl (ow52 hw)) (by decide) pf_I pf__J
theorem sne_61_52 {a0 : Array Value} {Z : State} (hw : ∀ d ∈ tables_1, d.before a0 Z = true) : Jvm.RoadKit.slotOf Z "com/example/steady_limiter/steadylimiter/SlidingWindowLog$PermitLog" "size" "I" ≠ Jvm.RoadKit.slotOf Z "com/example/steady_limiter/steadylimiter/SlidingWindowLog$PermitLog" "times" "[J" := slot_ne (C := "com/example/steady_limiter/steadylimiter/SlidingWindowLog$PermitLog") (a0 := a0) (Or.inl (ow61 hw)) (Or.inl (ow52 hw)) (by decide) pf_I pf__J
theorem sne_69_52 {a0 : Array Value} {Z : State} (hw : ∀ d ∈ tables_1, d.before a0 Z = true) : Jvm.RoadKit.slotOf Z "com/example/steady_limiter/steadylimiter/SlidingWindowLog$PermitLog" "counted" "J" ≠ Jvm.RoadKit.slotOf Z "com/example/steady_limiter/steadylimiter/SlidingWindowLog$PermitLog" "times" "[J" := slot_ne (C := "com/example/steady_limiter/steadylimiter/SlidingWindowLog$PermitLog") (a0 := a0) (Or.inl (ow69 hw)) (Or.inl (ow52 hw)) (by decide) pf_J pf__J
theorem od5_12 : decode prog_19_method_1_code 12 = .ok (.aload_n 0, 1) := by decide +kernel
theorem od5_13 : decode prog_19_method_1_code 13 = .ok (.iconst 2, 1) := by decide +kernel
theorem od5_14 : decode prog_19_method_1_code 14 = .ok (.newarray .long, 2) := by decide +kernel
theorem ow53 {a0 : Array Value} {Z : State} (hw : ∀ d ∈ tables_1, d.before a0 Z = true) : (Jvm.Cond.fieldLink "com/example/steady_limiter/steadylimiter/SlidingWindowLog$PermitLog" (13 : Nat) "com/example/steady_limiter/steadylimiter/SlidingWindowLog$PermitLog" "permits" "[J").before a0 Z = true := hw _ (List.mem_of_getElem? (i := 53) rfl)
theorem od5_16 : decode prog_19_method_1_code 16 = .ok (.putfield 13, 3) := by decide +kernel
theorem sne_67_54 {a0 : Array Value} {Z : State} (hw : ∀ d ∈ tables_1, d.before a0 Z = true) : Jvm.RoadKit.slotOf Z "com/example/steady_limiter/steadylimiter/SlidingWindowLog$PermitLog" "head" "I" ≠ Jvm.RoadKit.slotOf Z "com/example/steady_limiter/steadylimiter/SlidingWindowLog$PermitLog" "permits" "[J" := slot_ne (C := "com/example/steady_limiter/steadylimiter/SlidingWindowLog$PermitLog") (a0 := a0) (Or.inl (ow67 hw)) (Or.inl (ow54 hw)) (by decide) pf_I pf__J
theorem sne_61_54 {a0 : Array Value} {Z : State} (hw : ∀ d ∈ tables_1, d.before a0 Z = true) : Jvm.RoadKit.slotOf Z "com/example/steady_limiter/steadylimiter/SlidingWindowLog$PermitLog" "size" "I" ≠ Jvm.RoadKit.slotOf Z "com/example/steady_limiter/steadylimiter/SlidingWindowLog$PermitLog" "permits" "[J" := slot_ne (C := "com/example/steady_limiter/steadylimiter/SlidingWindowLog$PermitLog") (a0 := a0) (Or.inl (ow61 hw)) (Or.inl (ow54 hw)) (by decide) pf_I pf__J
theorem sne_69_54 {a0 : Array Value} {Z : State} (hw : ∀ d ∈ tables_1, d.before a0 Z = true) : Jvm.RoadKit.slotOf Z "com/example/steady_limiter/steadylimiter/SlidingWindowLog$PermitLog" "counted" "J" ≠ Jvm.RoadKit.slotOf Z "com/example/steady_limiter/steadylimiter/SlidingWindowLog$PermitLog" "permits" "[J" := slot_ne (C := "com/example/steady_limiter/steadylimiter/SlidingWindowLog$PermitLog") (a0 := a0) (Or.inl (ow69 hw)) (Or.inl (ow54 hw)) (by decide) pf_J pf__J
theorem sne_52_54 {a0 : Array Value} {Z : State} (hw : ∀ d ∈ tables_1, d.before a0 Z = true) : Jvm.RoadKit.slotOf Z "com/example/steady_limiter/steadylimiter/SlidingWindowLog$PermitLog" "times" "[J" ≠ Jvm.RoadKit.slotOf Z "com/example/steady_limiter/steadylimiter/SlidingWindowLog$PermitLog" "permits" "[J" := slot_ne (C := "com/example/steady_limiter/steadylimiter/SlidingWindowLog$PermitLog") (a0 := a0) (Or.inl (ow52 hw)) (Or.inl (ow54 hw)) (by decide) pf__J pf__J
theorem od5_19 : decode prog_19_method_1_code 19 = .ok (.return_, 1) := by decide +kernel
theorem ef_own_rm5 (m : MethodId) (x0 : Addr) (x1 : Int64) : entryFrame m #[(.ref x0), (.long x1)] 3 = mkF m 0 #[.val (.ref x0), .val (.long x1), .second] [] := by first | (simp [entryFrame, mkF, argsToLocals, Value.category]; done) | rfl
theorem pn_com_example_steady_limiter_steadylimiter_SlidingWindowLog_PermitLog__init___J_V : plainFor (⟨"com/example/steady_limiter/steadylimiter/SlidingWindowLog$PermitLog", "<init>", "(J)V"⟩ : MethodName) = true := plainFor_of_name (by first | (simp [plainName, overriddenIn]; done) | decide +kernel)
set_option maxRecDepth 65536 in
set_option maxHeartbeats 40000000 in
theorem own_rm5 (l : Launch) (Z : State) (a0 : Array Value) (hw : ∀ d ∈ tables_1, d.before a0 Z = true) (n0 : Nat) (hO : Heap) (a : Addr) (x : Int64) (Z0 : n0 ≤ hO.size) (E_a : Exa Z hO a "com/example/steady_limiter/steadylimiter/SlidingWindowLog$PermitLog") (F_a_lastNanos : Fld Z hO a "com/example/steady_limiter/steadylimiter/KeyState" "lastNanos" "J" (.long (0 : Int64))) (F_a_times : Fld Z hO a "com/example/steady_limiter/steadylimiter/SlidingWindowLog$PermitLog" "times" "[J" .null) (F_a_permits : Fld Z hO a "com/example/steady_limiter/steadylimiter/SlidingWindowLog$PermitLog" "permits" "[J" .null) (F_a_head : Fld Z hO a "com/example/steady_limiter/steadylimiter/SlidingWindowLog$PermitLog" "head" "I" (.int (0 : Int32))) (F_a_size : Fld Z hO a "com/example/steady_limiter/steadylimiter/SlidingWindowLog$PermitLog" "size" "I" (.int (0 : Int32))) (F_a_counted : Fld Z hO a "com/example/steady_limiter/steadylimiter/SlidingWindowLog$PermitLog" "counted" "J" (.long (0 : Int64))) (g_a : n0 ≤ a) :
    MeetsW l Z n0 (⟨"com/example/steady_limiter/steadylimiter/SlidingWindowLog$PermitLog", "<init>", "(J)V"⟩ : MethodName) prog_19_method_1_code 3 none ({ frames := 2, cells := 2, slots := 4, locals := 26 } : Room) #[(.ref a), (.long x)] hO (RV fun h => ∃ ta : Addr, ∃ pa : Addr, Keep hO h [a] ∧ hO.size ≤ ta ∧ hO.size ≤ pa ∧ ta ≠ pa ∧ Fld Z h a "com/example/steady_limiter/steadylimiter/SlidingWindowLog$PermitLog" "times" "[J" (.ref ta) ∧ Fld Z h a "com/example/steady_limiter/steadylimiter/SlidingWindowLog$PermitLog" "permits" "[J" (.ref pa) ∧ Fld Z h a "com/example/steady_limiter/steadylimiter/SlidingWindowLog$PermitLog" "head" "I" (.int (0 : Int32)) ∧ Fld Z h a "com/example/steady_limiter/steadylimiter/SlidingWindowLog$PermitLog" "size" "I" (.int (0 : Int32)) ∧ Fld Z h a "com/example/steady_limiter/steadylimiter/SlidingWindowLog$PermitLog" "counted" "J" (.long (0 : Int64)) ∧ AJ Z h ta [(0 : Int64), (0 : Int64)] ∧ AJ Z h pa [(0 : Int64), (0 : Int64)]) := by
  refine MeetsW.intro pn_com_example_steady_limiter_steadylimiter_SlidingWindowLog_PermitLog__init___J_V (fun m => ef_own_rm5 m a x) ?_
  intro W C
  replace C : Ru l Z "com/example/steady_limiter/steadylimiter/SlidingWindowLog$PermitLog" prog_19_method_1_code 3 none "<init>" ({ frames := 2, cells := 2, slots := 4, locals := 26 } : Room) n0 (RV fun h => ∃ ta : Addr, ∃ pa : Addr, Keep hO h [a] ∧ hO.size ≤ ta ∧ hO.size ≤ pa ∧ ta ≠ pa ∧ Fld Z h a "com/example/steady_limiter/steadylimiter/SlidingWindowLog$PermitLog" "times" "[J" (.ref ta) ∧ Fld Z h a "com/example/steady_limiter/steadylimiter/SlidingWindowLog$PermitLog" "permits" "[J" (.ref pa) ∧ Fld Z h a "com/example/steady_limiter/steadylimiter/SlidingWindowLog$PermitLog" "head" "I" (.int (0 : Int32)) ∧ Fld Z h a "com/example/steady_limiter/steadylimiter/SlidingWindowLog$PermitLog" "size" "I" (.int (0 : Int32)) ∧ Fld Z h a "com/example/steady_limiter/steadylimiter/SlidingWindowLog$PermitLog" "counted" "J" (.long (0 : Int64)) ∧ AJ Z h ta [(0 : Int64), (0 : Int64)] ∧ AJ Z h pa [(0 : Int64), (0 : Int64)]) W := C
  have K : Keep hO hO [a] := Keep.refl _ _
  refine C.aloadN (pc' := 1) od5_0 rfl rfl rfl ?_
  refine C.lloadN (pc' := 2) od5_1 rfl rfl ?_
  refine C.callc (w := 0) (own_rm6 l Z a0 hw n0 hO a x (Nat.le_trans Z0 K.1) E_a F_a_lastNanos F_a_times F_a_permits F_a_head F_a_size F_a_counted g_a) rfl (ow42 hw) (ow43 hw) (ow45 hw) (ow46 hw) (pc' := 5) od5_2 rfl rfl rfl (by decide) pd__J_V rfl (by decide) (Nat.le_of_eq rfl) (by decide) (by decide) (by decide) (kV fun h2 q2 => ?_)
  obtain ⟨K2, N2_0, N2_1, N2_2, N2_3, N2_4⟩ := q2
  replace E_a := E_a.keep K2
  have F_a_times : Fld Z h2 a "com/example/steady_limiter/steadylimiter/SlidingWindowLog$PermitLog" "times" "[J" .null := N2_0
  have F_a_permits : Fld Z h2 a "com/example/steady_limiter/steadylimiter/SlidingWindowLog$PermitLog" "permits" "[J" .null := N2_1
  have F_a_head : Fld Z h2 a "com/example/steady_limiter/steadylimiter/SlidingWindowLog$PermitLog" "head" "I" (.int (0 : Int32)) := N2_2
  have F_a_size : Fld Z h2 a "com/example/steady_limiter/steadylimiter/SlidingWindowLog$PermitLog" "size" "I" (.int (0 : Int32)) := N2_3
  have F_a_counted : Fld Z h2 a "com/example/steady_limiter/steadylimiter/SlidingWindowLog$PermitLog" "counted" "J" (.long (0 : Int64)) := N2_4
  replace K := K.trans K2 (allS (Or.inl (List.mem_of_getElem? (i := 0) rfl)) all0)
  refine C.aloadN (pc' := 6) od5_5 rfl rfl rfl ?_
  refine C.iconst (v := 2) (pc' := 7) od5_6 rfl rfl ?_
  refine C.newAJ (N := 2) (cap := 2) (ow50 hw) (pc' := 9) od5_7 rfl (by decide) (by decide) (by decide) (by decide) (by decide) (fun h7 b7 hb7 X7 A_b7 => ?_)
  have ne_a_b7 : a ≠ b7 := by rw [hb7]; exact Nat.ne_of_lt (exaLt E_a)
  have sz_b7 : hO.size ≤ b7 := by rw [hb7]; exact K.1
  have g_b7 : n0 ≤ b7 := Nat.le_trans Z0 sz_b7
  replace E_a := E_a.ext X7
  replace F_a_times := F_a_times.ext X7
  replace F_a_permits := F_a_permits.ext X7
  replace F_a_head := F_a_head.ext X7
  replace F_a_size := F_a_size.ext X7
  replace F_a_counted := F_a_counted.ext X7
  replace K := K.ext X7
  replace A_b7 : AJ Z h7 b7 [(0 : Int64), (0 : Int64)] := A_b7
  refine C.putf (ow51 hw) Via.refl F_a_times E_a (Or.inl (ow52 hw)) (ow37 hw) pf__J rfl rfl g_a (pc' := 12) od5_9 rfl (fun h9 X9 => ?_)
  replace F_a_times := F_a_times.same X9
  replace E_a := E_a.wr X9
  replace F_a_permits := F_a_permits.other X9 (Or.inr (sne_54_52 hw))
  replace F_a_head := F_a_head.other X9 (Or.inr (sne_67_52 hw))
  replace F_a_size := F_a_size.other X9 (Or.inr (sne_61_52 hw))
  replace F_a_counted := F_a_counted.other X9 (Or.inr (sne_69_52 hw))
  replace A_b7 := A_b7.other X9 (Ne.symm ne_a_b7)
  replace K := K.wr X9 (Or.inl (List.mem_of_getElem? (i := 0) rfl))
  refine C.aloadN (pc' := 13) od5_12 rfl rfl rfl ?_
  refine C.iconst (v := 2) (pc' := 14) od5_13 rfl rfl ?_
  refine C.newAJ (N := 2) (cap := 2) (ow50 hw) (pc' := 16) od5_14 rfl (by decide) (by decide) (by decide) (by decide) (by decide) (fun h14 b14 hb14 X14 A_b14 => ?_)
  have ne_a_b14 : a ≠ b14 := by rw [hb14]; exact Nat.ne_of_lt (exaLt E_a)
  have ne_b7_b14 : b7 ≠ b14 := by rw [hb14]; exact Nat.ne_of_lt A_b7.lt
  have sz_b14 : hO.size ≤ b14 := by rw [hb14]; exact K.1
  have g_b14 : n0 ≤ b14 := Nat.le_trans Z0 sz_b14
  replace E_a := E_a.ext X14
  replace F_a_permits := F_a_permits.ext X14
  replace F_a_head := F_a_head.ext X14
  replace F_a_size := F_a_size.ext X14
  replace F_a_counted := F_a_counted.ext X14
  replace A_b7 := A_b7.ext X14
  replace F_a_times := F_a_times.ext X14
  replace K := K.ext X14
  replace A_b14 : AJ Z h14 b14 [(0 : Int64), (0 : Int64)] := A_b14
  refine C.putf (ow53 hw) Via.refl F_a_permits E_a (Or.inl (ow54 hw)) (ow37 hw) pf__J rfl rfl g_a (pc' := 19) od5_16 rfl (fun h16 X16 => ?_)
  replace F_a_permits := F_a_permits.same X16
  replace E_a := E_a.wr X16
  replace F_a_head := F_a_head.other X16 (Or.inr (sne_67_54 hw))
  replace F_a_size := F_a_size.other X16 (Or.inr (sne_61_54 hw))
  replace F_a_counted := F_a_counted.other X16 (Or.inr (sne_69_54 hw))
  replace A_b7 := A_b7.other X16 (Ne.symm ne_a_b7)
  replace F_a_times := F_a_times.other X16 (Or.inr (sne_52_54 hw))
  replace A_b14 := A_b14.other X16 (Ne.symm ne_a_b14)
  replace K := K.wr X16 (Or.inl (List.mem_of_getElem? (i := 0) rfl))
  refine C.retV rfl od5_19 (by decide) (by decide) ⟨rfl, ?_⟩
  exact ⟨b7, b14, K, sz_b7, sz_b14, ne_b7_b14, F_a_times, F_a_permits, F_a_head, F_a_size, F_a_counted, A_b7, A_b14⟩
theorem od8_0 : decode prog_19_method_6_code 0 = .ok (.aload_n 0, 1) := by decide +kernel
theorem ow66 {a0 : Array Value} {Z : State} (hw : ∀ d ∈ tables_1, d.before a0 Z = true) : (Jvm.Cond.fieldLink "com/example/steady_limiter/steadylimiter/SlidingWindowLog$PermitLog" (24 : Nat) "com/example/steady_limiter/steadylimiter/SlidingWindowLog$PermitLog" "head" "I").before a0 Z = true := hw _ (List.mem_of_getElem? (i := 66) rfl)
theorem od8_1 : decode prog_19_method_6_code 1 = .ok (.getfield 24, 3) := by decide +kernel
theorem od8_4 : decode prog_19_method_6_code 4 = .ok (.iload_n 1, 1) := by decide +kernel
theorem od8_5 : decode prog_19_method_6_code 5 = .ok (.iadd, 1) := by decide +kernel
theorem od8_6 : decode prog_19_method_6_code 6 = .ok (.aload_n 0, 1) := by decide +kernel
theorem od8_7 : decode prog_19_method_6_code 7 = .ok (.getfield 9, 3) := by decide +kernel
theorem od8_10 : decode prog_19_method_6_code 10 = .ok (.arraylength, 1) := by decide +kernel
theorem od8_11 : decode prog_19_method_6_code 11 = .ok (.iconst 1, 1) := by decide +kernel
theorem od8_12 : decode prog_19_method_6_code 12 = .ok (.isub, 1) := by decide +kernel
theorem od8_13 : decode prog_19_method_6_code 13 = .ok (.iand, 1) := by decide +kernel
theorem od8_14 : decode prog_19_method_6_code 14 = .ok (.ireturn, 1) := by decide +kernel
theorem ef_own_rm8 (m : MethodId) (x0 : Addr) (x1 : Int32) : entryFrame m #[(.ref x0), (.int x1)] 2 = mkF m 0 #[.val (.ref x0), .val (.int x1)] [] := by first | (simp [entryFrame, mkF, argsToLocals, Value.category]; done) | rfl
theorem pn_com_example_steady_limiter_steadylimiter_SlidingWindowLog_PermitLog_slot__I_I : plainFor (⟨"com/example/steady_limiter/steadylimiter/SlidingWindowLog$PermitLog", "slot", "(I)I"⟩ : MethodName) = true := plainFor_of_name (by first | (simp [plainName, overriddenIn]; done) | decide +kernel)
set_option maxRecDepth 65536 in
set_option maxHeartbeats 40000000 in
theorem own_rm8 (l : Launch) (Z : State) (a0 : Array Value) (hw : ∀ d ∈ tables_1, d.before a0 Z = true) (n0 : Nat) (hO : Heap) (a : Addr) (i : Int32) (ta : Addr) (hd : Int32) (T : List Int64) (len : Int32) (F_a_head : Fld Z hO a "com/example/steady_limiter/steadylimiter/SlidingWindowLog$PermitLog" "head" "I" (.int hd)) (F_a_times : Fld Z hO a "com/example/steady_limiter/steadylimiter/SlidingWindowLog$PermitLog" "times" "[J" (.ref ta)) (A_ta : AJ Z hO ta T) (hlen : len.toInt = (T.length : Int)) :
    MeetsW l Z n0 (⟨"com/example/steady_limiter/steadylimiter/SlidingWindowLog$PermitLog", "slot", "(I)I"⟩ : MethodName) prog_19_method_6_code 2 (some .int) ({ frames := 0, cells := 0, slots := 0, locals := 0 } : Room) #[(.ref a), (.int i)] hO (RI fun r h => r = ((hd + i) &&& (len - (1 : Int32))) ∧ h = hO) := by
  refine MeetsW.intro pn_com_example_steady_limiter_steadylimiter_SlidingWindowLog_PermitLog_slot__I_I (fun m => ef_own_rm8 m a i) ?_
  intro W C
  replace C : Ru l Z "com/example/steady_limiter/steadylimiter/SlidingWindowLog$PermitLog" prog_19_method_6_code 2 (some .int) "slot" ({ frames := 0, cells := 0, slots := 0, locals := 0 } : Room) n0 (RI fun r h => r = ((hd + i) &&& (len - (1 : Int32))) ∧ h = hO) W := C
  refine C.aloadN (pc' := 1) od8_0 rfl rfl rfl ?_
  refine C.getf (ow66 hw) Via.refl F_a_head (pc' := 4) od8_1 rfl ?_
  refine C.iloadN (pc' := 5) od8_4 rfl rfl ?_
  refine C.iadd (pc' := 6) od8_5 rfl ?_
  refine C.aloadN (pc' := 7) od8_6 rfl rfl rfl ?_
  refine C.getf (ow51 hw) Via.refl F_a_times (pc' := 10) od8_7 rfl ?_
  refine C.lenAJ (z := len) A_ta hlen (pc' := 11) od8_10 rfl ?_
  refine C.iconst (v := 1) (pc' := 12) od8_11 rfl rfl ?_
  refine C.isub (pc' := 13) od8_12 rfl ?_
  refine C.iand (pc' := 14) od8_13 rfl ?_
  refine C.retI rfl od8_14 (by decide) (by decide) ⟨_, rfl, ?_⟩
  exact ⟨(by subst_vars; rfl), rfl⟩
theorem od9_0 : decode prog_19_method_2_code 0 = .ok (.aload_n 0, 1) := by decide +kernel
theorem od9_1 : decode prog_19_method_2_code 1 = .ok (.getfield 9, 3) := by decide +kernel
theorem od9_4 : decode prog_19_method_2_code 4 = .ok (.aload_n 0, 1) := by decide +kernel
theorem od9_5 : decode prog_19_method_2_code 5 = .ok (.iload_n 1, 1) := by decide +kernel
theorem od9_6 : decode prog_19_method_2_code 6 = .ok (.invokevirtual 16, 3) := by decide +kernel
theorem pd__I_I : parseMethodDescriptor "(I)I" = some ⟨[.int], some .int⟩ := by decide +kernel
theorem ow65 {a0 : Array Value} {Z : State} (hw : ∀ d ∈ tables_1, d.before a0 Z = true) : (Jvm.Cond.code ({ cls := "com/example/steady_limiter/steadylimiter/SlidingWindowLog$PermitLog", name := "slot", desc := "(I)I" } : Jvm.MethodName) prog_19_method_6_code (2 : Nat) (Option.some Jvm.ClassFile.FieldType.int)).before a0 Z = true := hw _ (List.mem_of_getElem? (i := 65) rfl)
theorem ow38 {a0 : Array Value} {Z : State} (hw : ∀ d ∈ tables_1, d.before a0 Z = true) : (Jvm.Cond.initialized "com/example/steady_limiter/steadylimiter/SlidingWindowLog$PermitLog").before a0 Z = true := hw _ (List.mem_of_getElem? (i := 38) rfl)
theorem ow62 {a0 : Array Value} {Z : State} (hw : ∀ d ∈ tables_1, d.before a0 Z = true) : (Jvm.Cond.methodLink "com/example/steady_limiter/steadylimiter/SlidingWindowLog$PermitLog" (16 : Nat) ({ cls := "com/example/steady_limiter/steadylimiter/SlidingWindowLog$PermitLog", name := "slot", desc := "(I)I" } : Jvm.MethodName)).before a0 Z = true := hw _ (List.mem_of_getElem? (i := 62) rfl)
theorem ow63 {a0 : Array Value} {Z : State} (hw : ∀ d ∈ tables_1, d.before a0 Z = true) : (Jvm.Cond.instanceMethod ({ cls := "com/example/steady_limiter/steadylimiter/SlidingWindowLog$PermitLog", name := "slot", desc := "(I)I" } : Jvm.MethodName)).before a0 Z = true := hw _ (List.mem_of_getElem? (i := 63) rfl)
theorem ow64 {a0 : Array Value} {Z : State} (hw : ∀ d ∈ tables_1, d.before a0 Z = true) : (Jvm.Cond.privateMethod ({ cls := "com/example/steady_limiter/steadylimiter/SlidingWindowLog$PermitLog", name := "slot", desc := "(I)I" } : Jvm.MethodName)).before a0 Z = true := hw _ (List.mem_of_getElem? (i := 64) rfl)
theorem od9_9 : decode prog_19_method_2_code 9 = .ok (.laload, 1) := by decide +kernel
theorem od9_10 : decode prog_19_method_2_code 10 = .ok (.lreturn, 1) := by decide +kernel
theorem ef_own_rm9 (m : MethodId) (x0 : Addr) (x1 : Int32) : entryFrame m #[(.ref x0), (.int x1)] 2 = mkF m 0 #[.val (.ref x0), .val (.int x1)] [] := by first | (simp [entryFrame, mkF, argsToLocals, Value.category]; done) | rfl
theorem pn_com_example_steady_limiter_steadylimiter_SlidingWindowLog_PermitLog_timeAt__I_J : plainFor (⟨"com/example/steady_limiter/steadylimiter/SlidingWindowLog$PermitLog", "timeAt", "(I)J"⟩ : MethodName) = true := plainFor_of_name (by first | (simp [plainName, overriddenIn]; done) | decide +kernel)
set_option maxRecDepth 65536 in
set_option maxHeartbeats 40000000 in
theorem own_rm9 (l : Launch) (Z : State) (a0 : Array Value) (hw : ∀ d ∈ tables_1, d.before a0 Z = true) (n0 : Nat) (hO : Heap) (a : Addr) (i : Int32) (ta : Addr) (hd : Int32) (T : List Int64) (len : Int32) (x : Nat) (E_a : Exa Z hO a "com/example/steady_limiter/steadylimiter/SlidingWindowLog$PermitLog") (F_a_head : Fld Z hO a "com/example/steady_limiter/steadylimiter/SlidingWindowLog$PermitLog" "head" "I" (.int hd)) (F_a_times : Fld Z hO a "com/example/steady_limiter/steadylimiter/SlidingWindowLog$PermitLog" "times" "[J" (.ref ta)) (A_ta : AJ Z hO ta T) (hlen : len.toInt = (T.length : Int)) (hx : ((hd + i) &&& (len - (1 : Int32))).toInt = (x : Int)) (hxt : x < T.length) :
    MeetsW l Z n0 (⟨"com/example/steady_limiter/steadylimiter/SlidingWindowLog$PermitLog", "timeAt", "(I)J"⟩ : MethodName) prog_19_method_2_code 2 (some .long) ({ frames := 1, cells := 0, slots := 0, locals := 14 } : Room) #[(.ref a), (.int i)] hO (RJ fun r h => r = (T.getD x 0) ∧ h = hO) := by
  refine MeetsW.intro pn_com_example_steady_limiter_steadylimiter_SlidingWindowLog_PermitLog_timeAt__I_J (fun m => ef_own_rm9 m a i) ?_
  intro W C
  replace C : Ru l Z "com/example/steady_limiter/steadylimiter/SlidingWindowLog$PermitLog" prog_19_method_2_code 2 (some .long) "timeAt" ({ frames := 1, cells := 0, slots := 0, locals := 14 } : Room) n0 (RJ fun r h => r = (T.getD x 0) ∧ h = hO) W := C
  refine C.aloadN (pc' := 1) od9_0 rfl rfl rfl ?_
  refine C.getf (ow51 hw) Via.refl F_a_times (pc' := 4) od9_1 rfl ?_
  refine C.aloadN (pc' := 5) od9_4 rfl rfl rfl ?_
  refine C.iloadN (pc' := 6) od9_5 rfl rfl ?_
  refine C.callp (w := 1) (own_rm8 l Z a0 hw n0 hO a i ta hd T len F_a_head F_a_times A_ta hlen) E_a (ow62 hw) (ow63 hw) (ow37 hw) (ow64 hw) (ow38 hw) (ow65 hw) (pc' := 9) od9_6 rfl rfl rfl (by decide) pd__I_I rfl (by decide) (Nat.le_of_eq rfl) (by decide) (by decide) (by decide) (kIe ?_)
  refine C.ldAJ (i := x) (v := (T.getD x 0)) A_ta hx (Jvm.OwnP.getD_some hxt) (pc' := 10) od9_9 rfl ?_
  refine C.retJ rfl od9_10 (by decide) (by decide) ⟨_, rfl, ?_⟩
  exact ⟨rfl, rfl⟩
theorem od13_0 : decode prog_19_method_3_code 0 = .ok (.aload_n 0, 1) := by decide +kernel
theorem od13_1 : decode prog_19_method_3_code 1 = .ok (.getfield 13, 3) := by decide +kernel
theorem od13_4 : decode prog_19_method_3_code 4 = .ok (.aload_n 0, 1) := by decide +kernel
theorem od13_5 : decode prog_19_method_3_code 5 = .ok (.iload_n 1, 1) := by decide +kernel
theorem od13_6 : decode prog_19_method_3_code 6 = .ok (.invokevirtual 16, 3) := by decide +kernel
theorem od13_9 : decode prog_19_method_3_code 9 = .ok (.laload, 1) := by decide +kernel
theorem od13_10 : decode prog_19_method_3_code 10 = .ok (.lreturn, 1) := by decide +kernel
theorem ef_own_rm13 (m : MethodId) (x0 : Addr) (x1 : Int32) : entryFrame m #[(.ref x0), (.int x1)] 2 = mkF m 0 #[.val (.ref x0), .val (.int x1)] [] := by first | (simp [entryFrame, mkF, argsToLocals, Value.category]; done) | rfl
theorem pn_com_example_steady_limiter_steadylimiter_SlidingWindowLog_PermitLog_permitsAt__I_J : plainFor (⟨"com/example/steady_limiter/steadylimiter/SlidingWindowLog$PermitLog", "permitsAt", "(I)J"⟩ : MethodName) = true := plainFor_of_name (by first | (simp [plainName, overriddenIn]; done) | decide +kernel)
set_option maxRecDepth 65536 in
set_option maxHeartbeats 40000000 in
theorem own_rm13 (l : Launch) (Z : State) (a0 : Array Value) (hw : ∀ d ∈ tables_1, d.before a0 Z = true) (n0 : Nat) (hO : Heap) (a : Addr) (i : Int32) (ta : Addr) (pa : Addr) (hd : Int32) (T : List Int64) (Pm : List Int64) (len : Int32) (x : Nat) (E_a : Exa Z hO a "com/example/steady_limiter/steadylimiter/SlidingWindowLog$PermitLog") (F_a_head : Fld Z hO a "com/example/steady_limiter/steadylimiter/SlidingWindowLog$PermitLog" "head" "I" (.int hd)) (F_a_times : Fld Z hO a "com/example/steady_limiter/steadylimiter/SlidingWindowLog$PermitLog" "times" "[J" (.ref ta)) (F_a_permits : Fld Z hO a "com/example/steady_limiter/steadylimiter/SlidingWindowLog$PermitLog" "permits" "[J" (.ref pa)) (A_ta : AJ Z hO ta T) (A_pa : AJ Z hO pa Pm) (hlen : len.toInt = (T.length : Int)) (hx : ((hd + i) &&& (len - (1 : Int32))).toInt = (x : Int)) (hxp : x < Pm.length) :
    MeetsW l Z n0 (⟨"com/example/steady_limiter/steadylimiter/SlidingWindowLog$PermitLog", "permitsAt", "(I)J"⟩ : MethodName) prog_19_method_3_code 2 (some .long) ({ frames := 1, cells := 0, slots := 0, locals := 14 } : Room) #[(.ref a), (.int i)] hO (RJ fun r h => r = (Pm.getD x 0) ∧ h = hO) := by
  refine MeetsW.intro pn_com_example_steady_limiter_steadylimiter_SlidingWindowLog_PermitLog_permitsAt__I_J (fun m => ef_own_rm13 m a i) ?_
  intro W C
  replace C : Ru l Z "com/example/steady_limiter/steadylimiter/SlidingWindowLog$PermitLog" prog_19_method_3_code 2 (some .long) "permitsAt" ({ frames := 1, cells := 0, slots := 0, locals := 14 } : Room) n0 (RJ fun r h => r = (Pm.getD x 0) ∧ h = hO) W := C
  refine C.aloadN (pc' := 1) od13_0 rfl rfl rfl ?_
  refine C.getf (ow53 hw) Via.refl F_a_permits (pc' := 4) od13_1 rfl ?_
  refine C.aloadN (pc' := 5) od13_4 rfl rfl rfl ?_
  refine C.iloadN (pc' := 6) od13_5 rfl rfl ?_
  refine C.callp (w := 1) (own_rm8 l Z a0 hw n0 hO a i ta hd T len F_a_head F_a_times A_ta hlen) E_a (ow62 hw) (ow63 hw) (ow37 hw) (ow64 hw) (ow38 hw) (ow65 hw) (pc' := 9) od13_6 rfl rfl rfl (by decide) pd__I_I rfl (by decide) (Nat.le_of_eq rfl) (by decide) (by decide) (by decide) (kIe ?_)
  refine C.ldAJ (i := x) (v := (Pm.getD x 0)) A_pa hx (Jvm.OwnP.getD_some hxp) (pc' := 10) od13_9 rfl ?_
  refine C.retJ rfl od13_10 (by decide) (by decide) ⟨_, rfl, ?_⟩
  exact ⟨rfl, rfl⟩
theorem od12_0 : decode prog_19_method_7_code 0 = .ok (.iload_n 1, 1) := by decide +kernel
theorem od12_1 : decode prog_19_method_7_code 1 = .ok (.newarray .long, 2) := by decide +kernel
theorem od12_3 : decode prog_19_method_7_code 3 = .ok (.astore_n 2, 1) := by decide +kernel
theorem od12_4 : decode prog_19_method_7_code 4 = .ok (.iload_n 1, 1) := by decide +kernel
theorem od12_5 : decode prog_19_method_7_code 5 = .ok (.newarray .long, 2) := by decide +kernel
theorem od12_7 : decode prog_19_method_7_code 7 = .ok (.astore_n 3, 1) := by decide +kernel
theorem od12_8 : decode prog_19_method_7_code 8 = .ok (.iconst 0, 1) := by decide +kernel
theorem od12_9 : decode prog_19_method_7_code 9 = .ok (.istore 4, 2) := by decide +kernel
theorem od12_11 : decode prog_19_method_7_code 11 = .ok (.iload 4, 2) := by decide +kernel
theorem od12_13 : decode prog_19_method_7_code 13 = .ok (.aload_n 0, 1) := by decide +kernel
theorem ow60 {a0 : Array Value} {Z : State} (hw : ∀ d ∈ tables_1, d.before a0 Z = true) : (Jvm.Cond.fieldLink "com/example/steady_limiter/steadylimiter/SlidingWindowLog$PermitLog" (28 : Nat) "com/example/steady_limiter/steadylimiter/SlidingWindowLog$PermitLog" "size" "I").before a0 Z = true := hw _ (List.mem_of_getElem? (i := 60) rfl)
theorem od12_14 : decode prog_19_method_7_code 14 = .ok (.getfield 28, 3) := by decide +kernel
theorem od12_17 : decode prog_19_method_7_code 17 = .ok (.if_icmp .ge 29, 3) := by decide +kernel
theorem od12_20 : decode prog_19_method_7_code 20 = .ok (.aload_n 2, 1) := by decide +kernel
theorem od12_21 : decode prog_19_method_7_code 21 = .ok (.iload 4, 2) := by decide +kernel
theorem od12_23 : decode prog_19_method_7_code 23 = .ok (.aload_n 0, 1) := by decide +kernel
theorem od12_24 : decode prog_19_method_7_code 24 = .ok (.iload 4, 2) := by decide +kernel
theorem od12_26 : decode prog_19_method_7_code 26 = .ok (.invokevirtual 35, 3) := by decide +kernel
theorem pd__I_J : parseMethodDescriptor "(I)J" = some ⟨[.int], some .long⟩ := by decide +kernel
theorem ow74 {a0 : Array Value} {Z : State} (hw : ∀ d ∈ tables_1, d.before a0 Z = true) : (Jvm.Cond.code ({ cls := "com/example/steady_limiter/steadylimiter/SlidingWindowLog$PermitLog", name := "timeAt", desc := "(I)J" } : Jvm.MethodName) prog_19_method_2_code (2 : Nat) (Option.some Jvm.ClassFile.FieldType.long)).before a0 Z = true := hw _ (List.mem_of_getElem? (i := 74) rfl)
theorem ow70 {a0 : Array Value} {Z : State} (hw : ∀ d ∈ tables_1, d.before a0 Z = true) : (Jvm.Cond.methodLink "com/example/steady_limiter/steadylimiter/SlidingWindowLog$PermitLog" (35 : Nat) ({ cls := "com/example/steady_limiter/steadylimiter/SlidingWindowLog$PermitLog", name := "timeAt", desc := "(I)J" } : Jvm.MethodName)).before a0 Z = true := hw _ (List.mem_of_getElem? (i := 70) rfl)
theorem ow71 {a0 : Array Value} {Z : State} (hw : ∀ d ∈ tables_1, d.before a0 Z = true) : (Jvm.Cond.declares ({ cls := "com/example/steady_limiter/steadylimiter/SlidingWindowLog$PermitLog", name := "timeAt", desc := "(I)J" } : Jvm.MethodName)).before a0 Z = true := hw _ (List.mem_of_getElem? (i := 71) rfl)
theorem ow73 {a0 : Array Value} {Z : State} (hw : ∀ d ∈ tables_1, d.before a0 Z = true) : (Jvm.Cond.selects "com/example/steady_limiter/steadylimiter/SlidingWindowLog$PermitLog" ({ cls := "com/example/steady_limiter/steadylimiter/SlidingWindowLog$PermitLog", name := "timeAt", desc := "(I)J" } : Jvm.MethodName) ({ cls := "com/example/steady_limiter/steadylimiter/SlidingWindowLog$PermitLog", name := "timeAt", desc := "(I)J" } : Jvm.MethodName)).before a0 Z = true := hw _ (List.mem_of_getElem? (i := 73) rfl)
theorem ow72 {a0 : Array Value} {Z : State} (hw : ∀ d ∈ tables_1, d.before a0 Z = true) : (Jvm.Cond.instanceMethod ({ cls := "com/example/steady_limiter/steadylimiter/SlidingWindowLog$PermitLog", name := "timeAt", desc := "(I)J" } : Jvm.MethodName)).before a0 Z = true := hw _ (List.mem_of_getElem? (i := 72) rfl)
theorem od12_29 : decode prog_19_method_7_code 29 = .ok (.lastore, 1) := by decide +kernel
theorem od12_30 : decode prog_19_method_7_code 30 = .ok (.aload_n 3, 1) := by decide +kernel
theorem od12_31 : decode prog_19_method_7_code 31 = .ok (.iload 4, 2) := by decide +kernel
theorem od12_33 : decode prog_19_method_7_code 33 = .ok (.aload_n 0, 1) := by decide +kernel
theorem od12_34 : decode prog_19_method_7_code 34 = .ok (.iload 4, 2) := by decide +kernel
theorem od12_36 : decode prog_19_method_7_code 36 = .ok (.invokevirtual 39, 3) := by decide +kernel
theorem ow94 {a0 : Array Value} {Z : State} (hw : ∀ d ∈ tables_1, d.before a0 Z = true) : (Jvm.Cond.code ({ cls := "com/example/steady_limiter/steadylimiter/SlidingWindowLog$PermitLog", name := "permitsAt", desc := "(I)J" } : Jvm.MethodName) prog_19_method_3_code (2 : Nat) (Option.some Jvm.ClassFile.FieldType.long)).before a0 Z = true := hw _ (List.mem_of_getElem? (i := 94) rfl)
theorem ow90 {a0 : Array Value} {Z : State} (hw : ∀ d ∈ tables_1, d.before a0 Z = true) : (Jvm.Cond.methodLink "com/example/steady_limiter/steadylimiter/SlidingWindowLog$PermitLog" (39 : Nat) ({ cls := "com/example/steady_limiter/steadylimiter/SlidingWindowLog$PermitLog", name := "permitsAt", desc := "(I)J" } : Jvm.MethodName)).before a0 Z = true := hw _ (List.mem_of_getElem? (i := 90) rfl)
theorem ow91 {a0 : Array Value} {Z : State} (hw : ∀ d ∈ tables_1, d.before a0 Z = true) : (Jvm.Cond.declares ({ cls := "com/example/steady_limiter/steadylimiter/SlidingWindowLog$PermitLog", name := "permitsAt", desc := "(I)J" } : Jvm.MethodName)).before a0 Z = true := hw _ (List.mem_of_getElem? (i := 91) rfl)
theorem ow93 {a0 : Array Value} {Z : State} (hw : ∀ d ∈ tables_1, d.before a0 Z = true) : (Jvm.Cond.selects "com/example/steady_limiter/steadylimiter/SlidingWindowLog$PermitLog" ({ cls := "com/example/steady_limiter/steadylimiter/SlidingWindowLog$PermitLog", name := "permitsAt", desc := "(I)J" } : Jvm.MethodName) ({ cls := "com/example/steady_limiter/steadylimiter/SlidingWindowLog$PermitLog", name := "permitsAt", desc := "(I)J" } : Jvm.MethodName)).before a0 Z = true := hw _ (List.mem_of_getElem? (i := 93) rfl)
theorem ow92 {a0 : Array Value} {Z : State} (hw : ∀ d ∈ tables_1, d.before a0 Z = true) : (Jvm.Cond.instanceMethod ({ cls := "com/example/steady_limiter/steadylimiter/SlidingWindowLog$PermitLog", name := "permitsAt", desc := "(I)J" } : Jvm.MethodName)).before a0 Z = true := hw _ (List.mem_of_getElem? (i := 92) rfl)
theorem od12_39 : decode prog_19_method_7_code 39 = .ok (.lastore, 1) := by decide +kernel
theorem od12_40 : decode prog_19_method_7_code 40 = .ok (.iinc 4 1, 3) := by decide +kernel
theorem od12_43 : decode prog_19_method_7_code 43 = .ok (.goto (-32), 3) := by decide +kernel
theorem od12_46 : decode prog_19_method_7_code 46 = .ok (.aload_n 0, 1) := by decide +kernel
theorem od12_47 : decode prog_19_method_7_code 47 = .ok (.aload_n 2, 1) := by decide +kernel
theorem od12_48 : decode prog_19_method_7_code 48 = .ok (.putfield 9, 3) := by decide +kernel
theorem od12_51 : decode prog_19_method_7_code 51 = .ok (.aload_n 0, 1) := by decide +kernel
theorem od12_52 : decode prog_19_method_7_code 52 = .ok (.aload_n 3, 1) := by decide +kernel
theorem od12_53 : decode prog_19_method_7_code 53 = .ok (.putfield 13, 3) := by decide +kernel
theorem od12_56 : decode prog_19_method_7_code 56 = .ok (.aload_n 0, 1) := by decide +kernel
theorem od12_57 : decode prog_19_method_7_code 57 = .ok (.iconst 0, 1) := by decide +kernel
theorem od12_58 : decode prog_19_method_7_code 58 = .ok (.putfield 24, 3) := by decide +kernel
theorem sne_61_67 {a0 : Array Value} {Z : State} (hw : ∀ d ∈ tables_1, d.before a0 Z = true) : Jvm.RoadKit.slotOf Z "com/example/steady_limiter/steadylimiter/SlidingWindowLog$PermitLog" "size" "I" ≠ Jvm.RoadKit.slotOf Z "com/example/steady_limiter/steadylimiter/SlidingWindowLog$PermitLog" "head" "I" := slot_ne (C := "com/example/steady_limiter/steadylimiter/SlidingWindowLog$PermitLog") (a0 := a0) (Or.inl (ow61 hw)) (Or.inl (ow67 hw)) (by decide) pf_I pf_I
theorem sne_69_67 {a0 : Array Value} {Z : State} (hw : ∀ d ∈ tables_1, d.before a0 Z = true) : Jvm.RoadKit.slotOf Z "com/example/steady_limiter/steadylimiter/SlidingWindowLog$PermitLog" "counted" "J" ≠ Jvm.RoadKit.slotOf Z "com/example/steady_limiter/steadylimiter/SlidingWindowLog$PermitLog" "head" "I" := slot_ne (C := "com/example/steady_limiter/steadylimiter/SlidingWindowLog$PermitLog") (a0 := a0) (Or.inl (ow69 hw)) (Or.inl (ow67 hw)) (by decide) pf_J pf_I
theorem sne_52_67 {a0 : Array Value} {Z : State} (hw : ∀ d ∈ tables_1, d.before a0 Z = true) : Jvm.RoadKit.slotOf Z "com/example/steady_limiter/steadylimiter/SlidingWindowLog$PermitLog" "times" "[J" ≠ Jvm.RoadKit.slotOf Z "com/example/steady_limiter/steadylimiter/SlidingWindowLog$PermitLog" "head" "I" := slot_ne (C := "com/example/steady_limiter/steadylimiter/SlidingWindowLog$PermitLog") (a0 := a0) (Or.inl (ow52 hw)) (Or.inl (ow67 hw)) (by decide) pf__J pf_I
theorem sne_54_67 {a0 : Array Value} {Z : State} (hw : ∀ d ∈ tables_1, d.before a0 Z = true) : Jvm.RoadKit.slotOf Z "com/example/steady_limiter/steadylimiter/SlidingWindowLog$PermitLog" "permits" "[J" ≠ Jvm.RoadKit.slotOf Z "com/example/steady_limiter/steadylimiter/SlidingWindowLog$PermitLog" "head" "I" := slot_ne (C := "com/example/steady_limiter/steadylimiter/SlidingWindowLog$PermitLog") (a0 := a0) (Or.inl (ow54 hw)) (Or.inl (ow67 hw)) (by decide) pf__J pf_I
theorem od12_61 : decode prog_19_method_7_code 61 = .ok (.return_, 1) := by decide +kernel
theorem ef_own_resize2 (m : MethodId) (x0 : Addr) (x1 : Int32) : entryFrame m #[(.ref x0), (.int x1)] 5 = mkF m 0 #[.val (.ref x0), .val (.int x1), .unset, .unset, .unset] [] := by first | (simp [entryFrame, mkF, argsToLocals, Value.category]; done) | rfl
theorem pn_com_example_steady_limiter_steadylimiter_SlidingWindowLog_PermitLog_resize__I_V : plainFor (⟨"com/example/steady_limiter/steadylimiter/SlidingWindowLog$PermitLog", "resize", "(I)V"⟩ : MethodName) = true := plainFor_of_name (by first | (simp [plainName, overriddenIn]; done) | decide +kernel)
set_option maxRecDepth 65536 in
set_option maxHeartbeats 40000000 in
theorem own_resize2 (l : Launch) (Z : State) (a0 : Array Value) (hw : ∀ d ∈ tables_1, d.before a0 Z = true) (n0 : Nat) (hO : Heap) (a : Addr) (c : Int32) (ta : Addr) (pa : Addr) (hd : Int32) (sz : Int32) (cnt : Int64) (T : List Int64) (Pm : List Int64) (len : Int32) (x0 : Nat) (x1 : Nat) (Z0 : n0 ≤ hO.size) (E_a : Exa Z hO a "com/example/steady_limiter/steadylimiter/SlidingWindowLog$PermitLog") (F_a_times : Fld Z hO a "com/example/steady_limiter/steadylimiter/SlidingWindowLog$PermitLog" "times" "[J" (.ref ta)) (F_a_permits : Fld Z hO a "com/example/steady_limiter/steadylimiter/SlidingWindowLog$PermitLog" "permits" "[J" (.ref pa)) (F_a_head : Fld Z hO a "com/example/steady_limiter/steadylimiter/SlidingWindowLog$PermitLog" "head" "I" (.int hd)) (F_a_size : Fld Z hO a "com/example/steady_limiter/steadylimiter/SlidingWindowLog$PermitLog" "size" "I" (.int sz)) (F_a_counted : Fld Z hO a "com/example/steady_limiter/steadylimiter/SlidingWindowLog$PermitLog" "counted" "J" (.long cnt)) (A_ta : AJ Z hO ta T) (A_pa : AJ Z hO pa Pm) (g_a : n0 ≤ a) (ne_a_ta : a ≠ ta) (ne_a_pa : a ≠ pa) (hlen : len.toInt = (T.length : Int)) (hc : c.toInt = ((4 : Nat) : Int)) (hsz : sz = (2 : Int32)) (hx0 : ((hd + (0 : Int32)) &&& (len - (1 : Int32))).toInt = (x0 : Int)) (ht0 : x0 < T.length) (hp0 : x0 < Pm.length) (hx1 : ((hd + (1 : Int32)) &&& (len - (1 : Int32))).toInt = (x1 : Int)) (ht1 : x1 < T.length) (hp1 : x1 < Pm.length) :
    MeetsW l Z n0 (⟨"com/example/steady_limiter/steadylimiter/SlidingWindowLog$PermitLog", "resize", "(I)V"⟩ : MethodName) prog_19_method_7_code 5 none ({ frames := 2, cells := 2, slots := 8, locals := 29 } : Room) #[(.ref a), (.int c)] hO (RV fun h => ∃ tb : Addr, ∃ pb : Addr, Keep hO h [a] ∧ hO.size ≤ tb ∧ hO.size ≤ pb ∧ tb ≠ pb ∧ Fld Z h a "com/example/steady_limiter/steadylimiter/SlidingWindowLog$PermitLog" "times" "[J" (.ref tb) ∧ Fld Z h a "com/example/steady_limiter/steadylimiter/SlidingWindowLog$PermitLog" "permits" "[J" (.ref pb) ∧ Fld Z h a "com/example/steady_limiter/steadylimiter/SlidingWindowLog$PermitLog" "head" "I" (.int (0 : Int32)) ∧ Fld Z h a "com/example/steady_limiter/steadylimiter/SlidingWindowLog$PermitLog" "size" "I" (.int sz) ∧ Fld Z h a "com/example/steady_limiter/steadylimiter/SlidingWindowLog$PermitLog" "counted" "J" (.long cnt) ∧ AJ Z h tb [(T.getD x0 0), (T.getD x1 0), (0 : Int64), (0 : Int64)] ∧ AJ Z h pb [(Pm.getD x0 0), (Pm.getD x1 0), (0 : Int64), (0 : Int64)]) := by
  refine MeetsW.intro pn_com_example_steady_limiter_steadylimiter_SlidingWindowLog_PermitLog_resize__I_V (fun m => ef_own_resize2 m a c) ?_
  intro W C
  replace C : Ru l Z "com/example/steady_limiter/steadylimiter/SlidingWindowLog$PermitLog" prog_19_method_7_code 5 none "resize" ({ frames := 2, cells := 2, slots := 8, locals := 29 } : Room) n0 (RV fun h => ∃ tb : Addr, ∃ pb : Addr, Keep hO h [a] ∧ hO.size ≤ tb ∧ hO.size ≤ pb ∧ tb ≠ pb ∧ Fld Z h a "com/example/steady_limiter/steadylimiter/SlidingWindowLog$PermitLog" "times" "[J" (.ref tb) ∧ Fld Z h a "com/example/steady_limiter/steadylimiter/SlidingWindowLog$PermitLog" "permits" "[J" (.ref pb) ∧ Fld Z h a "com/example/steady_limiter/steadylimiter/SlidingWindowLog$PermitLog" "head" "I" (.int (0 : Int32)) ∧ Fld Z h a "com/example/steady_limiter/steadylimiter/SlidingWindowLog$PermitLog" "size" "I" (.int sz) ∧ Fld Z h a "com/example/steady_limiter/steadylimiter/SlidingWindowLog$PermitLog" "counted" "J" (.long cnt) ∧ AJ Z h tb [(T.getD x0 0), (T.getD x1 0), (0 : Int64), (0 : Int64)] ∧ AJ Z h pb [(Pm.getD x0 0), (Pm.getD x1 0), (0 : Int64), (0 : Int64)]) W := C
  have K : Keep hO hO [a] := Keep.refl _ _
  refine C.iloadN (pc' := 1) od12_0 rfl rfl ?_
  refine C.newAJ (N := 4) (cap := 4) (ow50 hw) (pc' := 3) od12_1 rfl hc (by decide) (by decide) (by decide) (by decide) (fun h1 b1 hb1 X1 A_b1 => ?_)
  have ne_a_b1 : a ≠ b1 := by rw [hb1]; exact Nat.ne_of_lt (exaLt E_a)
  have ne_ta_b1 : ta ≠ b1 := by rw [hb1]; exact Nat.ne_of_lt A_ta.lt
  have ne_pa_b1 : pa ≠ b1 := by rw [hb1]; exact Nat.ne_of_lt A_pa.lt
  have sz_b1 : hO.size ≤ b1 := by rw [hb1]; exact K.1
  have g_b1 : n0 ≤ b1 := Nat.le_trans Z0 sz_b1
  replace E_a := E_a.ext X1
  replace F_a_times := F_a_times.ext X1
  replace F_a_permits := F_a_permits.ext X1
  replace F_a_head := F_a_head.ext X1
  replace F_a_size := F_a_size.ext X1
  replace F_a_counted := F_a_counted.ext X1
  replace A_ta := A_ta.ext X1
  replace A_pa := A_pa.ext X1
  replace K := K.ext X1
  replace A_b1 : AJ Z h1 b1 [(0 : Int64), (0 : Int64), (0 : Int64), (0 : Int64)] := A_b1
  refine C.astoreN (l' := #[.val (.ref a), .val (.int c), .val (.ref b1), .unset, .unset]) (pc' := 4) od12_3 rfl rfl rfl ?_
  refine C.iloadN (pc' := 5) od12_4 rfl rfl ?_
  refine C.newAJ (N := 4) (cap := 4) (ow50 hw) (pc' := 7) od12_5 rfl hc (by decide) (by decide) (by decide) (by decide) (fun h5 b5 hb5 X5 A_b5 => ?_)
  have ne_a_b5 : a ≠ b5 := by rw [hb5]; exact Nat.ne_of_lt (exaLt E_a)
  have ne_ta_b5 : ta ≠ b5 := by rw [hb5]; exact Nat.ne_of_lt A_ta.lt
  have ne_pa_b5 : pa ≠ b5 := by rw [hb5]; exact Nat.ne_of_lt A_pa.lt
  have ne_b1_b5 : b1 ≠ b5 := by rw [hb5]; exact Nat.ne_of_lt A_b1.lt
  have sz_b5 : hO.size ≤ b5 := by rw [hb5]; exact K.1
  have g_b5 : n0 ≤ b5 := Nat.le_trans Z0 sz_b5
  replace E_a := E_a.ext X5
  replace F_a_times := F_a_times.ext X5
  replace F_a_permits := F_a_permits.ext X5
  replace F_a_head := F_a_head.ext X5
  replace F_a_size := F_a_size.ext X5
  replace F_a_counted := F_a_counted.ext X5
  replace A_ta := A_ta.ext X5
  replace A_pa := A_pa.ext X5
  replace A_b1 := A_b1.ext X5
  replace K := K.ext X5
  replace A_b5 : AJ Z h5 b5 [(0 : Int64), (0 : Int64), (0 : Int64), (0 : Int64)] := A_b5
  refine C.astoreN (l' := #[.val (.ref a), .val (.int c), .val (.ref b1), .val (.ref b5), .unset]) (pc' := 8) od12_7 rfl rfl rfl ?_
  refine C.iconst (v := 0) (pc' := 9) od12_8 rfl rfl ?_
  refine C.istoreX (l' := #[.val (.ref a), .val (.int c), .val (.ref b1), .val (.ref b5), .val (.int (0 : Int32))]) (pc' := 11) od12_9 rfl rfl ?_
  refine C.iload (pc' := 13) od12_11 rfl rfl ?_
  refine C.aloadN (pc' := 14) od12_13 rfl rfl rfl ?_
  refine C.getf (ow60 hw) Via.refl F_a_size (pc' := 17) od12_14 rfl ?_
  refine C.icmp_ge (pc' := 20) (pt := 46) od12_17 rfl rfl (fun c17 => absurd (by rw [hsz]; decide) c17) (fun c17 => ?_)
  refine C.aloadN (pc' := 21) od12_20 rfl rfl rfl ?_
  refine C.iload (pc' := 23) od12_21 rfl rfl ?_
  refine C.aloadN (pc' := 24) od12_23 rfl rfl rfl ?_
  refine C.iload (pc' := 26) od12_24 rfl rfl ?_
  refine C.callv (w := 2) (own_rm9 l Z a0 hw n0 h5 a (0 : Int32) ta hd T len x0 E_a F_a_head F_a_times A_ta hlen hx0 ht0) E_a (ow70 hw) (ow71 hw) (ow73 hw) (ow72 hw) (ow38 hw) (ow74 hw) (pc' := 29) od12_26 rfl rfl rfl (by decide) pd__I_J rfl (by decide) (Nat.le_of_eq rfl) (by decide) (by decide) (by decide) (kJe ?_)
  refine C.stAJ (i := 0) A_b1 (by decide) (by show 0 < 4; decide) g_b1 (pc' := 30) od12_29 rfl (fun h29 X29 B29 => ?_)
  replace E_a := E_a.wr X29
  replace F_a_times := F_a_times.other X29 (Or.inl ne_a_b1)
  replace F_a_permits := F_a_permits.other X29 (Or.inl ne_a_b1)
  replace F_a_head := F_a_head.other X29 (Or.inl ne_a_b1)
  replace F_a_size := F_a_size.other X29 (Or.inl ne_a_b1)
  replace F_a_counted := F_a_counted.other X29 (Or.inl ne_a_b1)
  replace A_ta := A_ta.other X29 ne_ta_b1
  replace A_pa := A_pa.other X29 ne_pa_b1
  replace A_b5 := A_b5.other X29 (Ne.symm ne_b1_b5)
  have A_b1 : AJ Z h29 b1 [(T.getD x0 0), (0 : Int64), (0 : Int64), (0 : Int64)] := B29
  replace K := K.wr X29 (Or.inr sz_b1)
  refine C.aloadN (pc' := 31) od12_30 rfl rfl rfl ?_
  refine C.iload (pc' := 33) od12_31 rfl rfl ?_
  refine C.aloadN (pc' := 34) od12_33 rfl rfl rfl ?_
  refine C.iload (pc' := 36) od12_34 rfl rfl ?_
  refine C.callv (w := 2) (own_rm13 l Z a0 hw n0 h29 a (0 : Int32) ta pa hd T Pm len x0 E_a F_a_head F_a_times F_a_permits A_ta A_pa hlen hx0 hp0) E_a (ow90 hw) (ow91 hw) (ow93 hw) (ow92 hw) (ow38 hw) (ow94 hw) (pc' := 39) od12_36 rfl rfl rfl (by decide) pd__I_J rfl (by decide) (Nat.le_of_eq rfl) (by decide) (by decide) (by decide) (kJe ?_)
  refine C.stAJ (i := 0) A_b5 (by decide) (by show 0 < 4; decide) g_b5 (pc' := 40) od12_39 rfl (fun h39 X39 B39 => ?_)
  replace E_a := E_a.wr X39
  replace F_a_times := F_a_times.other X39 (Or.inl ne_a_b5)
  replace F_a_permits := F_a_permits.other X39 (Or.inl ne_a_b5)
  replace F_a_head := F_a_head.other X39 (Or.inl ne_a_b5)
  replace F_a_size := F_a_size.other X39 (Or.inl ne_a_b5)
  replace F_a_counted := F_a_counted.other X39 (Or.inl ne_a_b5)
  replace A_ta := A_ta.other X39 ne_ta_b5
  replace A_pa := A_pa.other X39 ne_pa_b5
  replace A_b1 := A_b1.other X39 ne_b1_b5
  have A_b5 : AJ Z h39 b5 [(Pm.getD x0 0), (0 : Int64), (0 : Int64), (0 : Int64)] := B39
  replace K := K.wr X39 (Or.inr sz_b5)
  refine C.iinc (d := 1) (f := fun v_ => #[.val (.ref a), .val (.int c), .val (.ref b1), .val (.ref b5), .val (.int v_)]) (pc' := 43) od12_40 rfl rfl rfl (fun _ => rfl) (fun v40 e40 => ?_)
  obtain rfl : v40 = (1 : Int32) := e40.trans (by decide)
  refine C.goto (pc' := 11) od12_43 rfl ?_
  refine C.iload (pc' := 13) od12_11 rfl rfl ?_
  refine C.aloadN (pc' := 14) od12_13 rfl rfl rfl ?_
  refine C.getf (ow60 hw) Via.refl F_a_size (pc' := 17) od12_14 rfl ?_
  refine C.icmp_ge (pc' := 20) (pt := 46) od12_17 rfl rfl (fun c17 => absurd (by rw [hsz]; decide) c17) (fun c17 => ?_)
  refine C.aloadN (pc' := 21) od12_20 rfl rfl rfl ?_
  refine C.iload (pc' := 23) od12_21 rfl rfl ?_
  refine C.aloadN (pc' := 24) od12_23 rfl rfl rfl ?_
  refine C.iload (pc' := 26) od12_24 rfl rfl ?_
  refine C.callv (w := 2) (own_rm9 l Z a0 hw n0 h39 a (1 : Int32) ta hd T len x1 E_a F_a_head F_a_times A_ta hlen hx1 ht1) E_a (ow70 hw) (ow71 hw) (ow73 hw) (ow72 hw) (ow38 hw) (ow74 hw) (pc' := 29) od12_26 rfl rfl rfl (by decide) pd__I_J rfl (by decide) (Nat.le_of_eq rfl) (by decide) (by decide) (by decide) (kJe ?_)
  refine C.stAJ (i := 1) A_b1 (by decide) (by show 1 < 4; decide) g_b1 (pc' := 30) od12_29 rfl (fun h29 X29 B29 => ?_)
  replace E_a := E_a.wr X29
  replace F_a_times := F_a_times.other X29 (Or.inl ne_a_b1)
  replace F_a_permits := F_a_permits.other X29 (Or.inl ne_a_b1)
  replace F_a_head := F_a_head.other X29 (Or.inl ne_a_b1)
  replace F_a_size := F_a_size.other X29 (Or.inl ne_a_b1)
  replace F_a_counted := F_a_counted.other X29 (Or.inl ne_a_b1)
  replace A_ta := A_ta.other X29 ne_ta_b1
  replace A_pa := A_pa.other X29 ne_pa_b1
  replace A_b5 := A_b5.other X29 (Ne.symm ne_b1_b5)
  have A_b1 : AJ Z h29 b1 [(T.getD x0 0), (T.getD x1 0), (0 : Int64), (0 : Int64)] := B29
  replace K := K.wr X29 (Or.inr sz_b1)
  refine C.aloadN (pc' := 31) od12_30 rfl rfl rfl ?_
  refine C.iload (pc' := 33) od12_31 rfl rfl ?_
  refine C.aloadN (pc' := 34) od12_33 rfl rfl rfl ?_
  refine C.iload (pc' := 36) od12_34 rfl rfl ?_
  refine C.callv (w := 2) (own_rm13 l Z a0 hw n0 h29 a (1 : Int32) ta pa hd T Pm len x1 E_a F_a_head F_a_times F_a_permits A_ta A_pa hlen hx1 hp1) E_a (ow90 hw) (ow91 hw) (ow93 hw) (ow92 hw) (ow38 hw) (ow94 hw) (pc' := 39) od12_36 rfl rfl rfl (by decide) pd__I_J rfl (by decide) (Nat.le_of_eq rfl) (by decide) (by decide) (by decide) (kJe ?_)
  refine C.stAJ (i := 1) A_b5 (by decide) (by show 1 < 4; decide) g_b5 (pc' := 40) od12_39 rfl (fun h39 X39 B39 => ?_)
  replace E_a := E_a.wr X39
  replace F_a_times := F_a_times.other X39 (Or.inl ne_a_b5)
  replace F_a_permits := F_a_permits.other X39 (Or.inl ne_a_b5)
  replace F_a_head := F_a_head.other X39 (Or.inl ne_a_b5)
  replace F_a_size := F_a_size.other X39 (Or.inl ne_a_b5)
  replace F_a_counted := F_a_counted.other X39 (Or.inl ne_a_b5)
  replace A_ta := A_ta.other X39 ne_ta_b5
  replace A_pa := A_pa.other X39 ne_pa_b5
  replace A_b1 := A_b1.other X39 ne_b1_b5
  have A_b5 : AJ Z h39 b5 [(Pm.getD x0 0), (Pm.getD x1 0), (0 : Int64), (0 : Int64)] := B39
  replace K := K.wr X39 (Or.inr sz_b5)
  refine C.iinc (d := 1) (f := fun v_ => #[.val (.ref a), .val (.int c), .val (.ref b1), .val (.ref b5), .val (.int v_)]) (pc' := 43) od12_40 rfl rfl rfl (fun _ => rfl) (fun v40 e40 => ?_)
  obtain rfl : v40 = (2 : Int32) := e40.trans (by decide)
  refine C.goto (pc' := 11) od12_43 rfl ?_
  refine C.iload (pc' := 13) od12_11 rfl rfl ?_
  refine C.aloadN (pc' := 14) od12_13 rfl rfl rfl ?_
  refine C.getf (ow60 hw) Via.refl F_a_size (pc' := 17) od12_14 rfl ?_
  refine C.icmp_ge (pc' := 20) (pt := 46) od12_17 rfl rfl (fun c17 => ?_) (fun c17 => absurd c17 (by rw [hsz]; decide))
  refine C.aloadN (pc' := 47) od12_46 rfl rfl rfl ?_
  refine C.aloadN (pc' := 48) od12_47 rfl rfl rfl ?_
  refine C.putf (ow51 hw) Via.refl F_a_times E_a (Or.inl (ow52 hw)) (ow37 hw) pf__J rfl rfl g_a (pc' := 51) od12_48 rfl (fun h48 X48 => ?_)
  replace F_a_times := F_a_times.same X48
  replace E_a := E_a.wr X48
  replace F_a_permits := F_a_permits.other X48 (Or.inr (sne_54_52 hw))
  replace F_a_head := F_a_head.other X48 (Or.inr (sne_67_52 hw))
  replace F_a_size := F_a_size.other X48 (Or.inr (sne_61_52 hw))
  replace F_a_counted := F_a_counted.other X48 (Or.inr (sne_69_52 hw))
  replace A_ta := A_ta.other X48 (Ne.symm ne_a_ta)
  replace A_pa := A_pa.other X48 (Ne.symm ne_a_pa)
  replace A_b1 := A_b1.other X48 (Ne.symm ne_a_b1)
  replace A_b5 := A_b5.other X48 (Ne.symm ne_a_b5)
  replace K := K.wr X48 (Or.inl (List.mem_of_getElem? (i := 0) rfl))
  refine C.aloadN (pc' := 52) od12_51 rfl rfl rfl ?_
  refine C.aloadN (pc' := 53) od12_52 rfl rfl rfl ?_
  refine C.putf (ow53 hw) Via.refl F_a_permits E_a (Or.inl (ow54 hw)) (ow37 hw) pf__J rfl rfl g_a (pc' := 56) od12_53 rfl (fun h53 X53 => ?_)
  replace F_a_permits := F_a_permits.same X53
  replace E_a := E_a.wr X53
  replace F_a_head := F_a_head.other X53 (Or.inr (sne_67_54 hw))
  replace F_a_size := F_a_size.other X53 (Or.inr (sne_61_54 hw))
  replace F_a_counted := F_a_counted.other X53 (Or.inr (sne_69_54 hw))
  replace A_ta := A_ta.other X53 (Ne.symm ne_a_ta)
  replace A_pa := A_pa.other X53 (Ne.symm ne_a_pa)
  replace A_b1 := A_b1.other X53 (Ne.symm ne_a_b1)
  replace A_b5 := A_b5.other X53 (Ne.symm ne_a_b5)
  replace F_a_times := F_a_times.other X53 (Or.inr (sne_52_54 hw))
  replace K := K.wr X53 (Or.inl (List.mem_of_getElem? (i := 0) rfl))
  refine C.aloadN (pc' := 57) od12_56 rfl rfl rfl ?_
  refine C.iconst (v := 0) (pc' := 58) od12_57 rfl rfl ?_
  refine C.putf (ow66 hw) Via.refl F_a_head E_a (Or.inl (ow67 hw)) (ow37 hw) pf_I rfl rfl g_a (pc' := 61) od12_58 rfl (fun h58 X58 => ?_)
  replace F_a_head := F_a_head.same X58
  replace E_a := E_a.wr X58
  replace F_a_size := F_a_size.other X58 (Or.inr (sne_61_67 hw))
  replace F_a_counted := F_a_counted.other X58 (Or.inr (sne_69_67 hw))
  replace A_ta := A_ta.other X58 (Ne.symm ne_a_ta)
  replace A_pa := A_pa.other X58 (Ne.symm ne_a_pa)
  replace A_b1 := A_b1.other X58 (Ne.symm ne_a_b1)
  replace A_b5 := A_b5.other X58 (Ne.symm ne_a_b5)
  replace F_a_times := F_a_times.other X58 (Or.inr (sne_52_67 hw))
  replace F_a_permits := F_a_permits.other X58 (Or.inr (sne_54_67 hw))
  replace K := K.wr X58 (Or.inl (List.mem_of_getElem? (i := 0) rfl))
  refine C.retV rfl od12_61 (by decide) (by decide) ⟨rfl, ?_⟩
  exact ⟨b1, b5, K, sz_b1, sz_b5, ne_b1_b5, F_a_times, F_a_permits, F_a_head, F_a_size, F_a_counted, A_b1, A_b5⟩
theorem od7_0 : decode prog_19_method_5_code 0 = .ok (.aload_n 0, 1) := by decide +kernel
theorem od7_1 : decode prog_19_method_5_code 1 = .ok (.getfield 28, 3) := by decide +kernel
theorem od7_4 : decode prog_19_method_5_code 4 = .ok (.ifCond .le 40, 3) := by decide +kernel
theorem od7_7 : decode prog_19_method_5_code 7 = .ok (.aload_n 0, 1) := by decide +kernel
theorem od7_8 : decode prog_19_method_5_code 8 = .ok (.aload_n 0, 1) := by decide +kernel
theorem od7_9 : decode prog_19_method_5_code 9 = .ok (.getfield 28, 3) := by decide +kernel
theorem od7_12 : decode prog_19_method_5_code 12 = .ok (.iconst 1, 1) := by decide +kernel
theorem od7_13 : decode prog_19_method_5_code 13 = .ok (.isub, 1) := by decide +kernel
theorem od7_14 : decode prog_19_method_5_code 14 = .ok (.invokevirtual 35, 3) := by decide +kernel
theorem od7_17 : decode prog_19_method_5_code 17 = .ok (.lload_n 1, 1) := by decide +kernel
theorem od7_18 : decode prog_19_method_5_code 18 = .ok (.lcmp, 1) := by decide +kernel
theorem od7_19 : decode prog_19_method_5_code 19 = .ok (.ifCond .ne 25, 3) := by decide +kernel
theorem od7_22 : decode prog_19_method_5_code 22 = .ok (.aload_n 0, 1) := by decide +kernel
theorem od7_23 : decode prog_19_method_5_code 23 = .ok (.getfield 13, 3) := by decide +kernel
theorem od7_26 : decode prog_19_method_5_code 26 = .ok (.aload_n 0, 1) := by decide +kernel
theorem od7_27 : decode prog_19_method_5_code 27 = .ok (.aload_n 0, 1) := by decide +kernel
theorem od7_28 : decode prog_19_method_5_code 28 = .ok (.getfield 28, 3) := by decide +kernel
theorem od7_31 : decode prog_19_method_5_code 31 = .ok (.iconst 1, 1) := by decide +kernel
theorem od7_32 : decode prog_19_method_5_code 32 = .ok (.isub, 1) := by decide +kernel
theorem od7_33 : decode prog_19_method_5_code 33 = .ok (.invokevirtual 16, 3) := by decide +kernel
theorem od7_36 : decode prog_19_method_5_code 36 = .ok (.dup2, 1) := by decide +kernel
theorem od7_37 : decode prog_19_method_5_code 37 = .ok (.laload, 1) := by decide +kernel
theorem od7_38 : decode prog_19_method_5_code 38 = .ok (.lload_n 3, 1) := by decide +kernel
theorem od7_39 : decode prog_19_method_5_code 39 = .ok (.ladd, 1) := by decide +kernel
theorem od7_40 : decode prog_19_method_5_code 40 = .ok (.lastore, 1) := by decide +kernel
theorem od7_41 : decode prog_19_method_5_code 41 = .ok (.goto 62, 3) := by decide +kernel
theorem od7_103 : decode prog_19_method_5_code 103 = .ok (.aload_n 0, 1) := by decide +kernel
theorem od7_104 : decode prog_19_method_5_code 104 = .ok (.dup, 1) := by decide +kernel
theorem ow68 {a0 : Array Value} {Z : State} (hw : ∀ d ∈ tables_1, d.before a0 Z = true) : (Jvm.Cond.fieldLink "com/example/steady_limiter/steadylimiter/SlidingWindowLog$PermitLog" (20 : Nat) "com/example/steady_limiter/steadylimiter/SlidingWindowLog$PermitLog" "counted" "J").before a0 Z = true := hw _ (List.mem_of_getElem? (i := 68) rfl)
theorem od7_105 : decode prog_19_method_5_code 105 = .ok (.getfield 20, 3) := by decide +kernel
theorem od7_108 : decode prog_19_method_5_code 108 = .ok (.lload_n 3, 1) := by decide +kernel
theorem od7_109 : decode prog_19_method_5_code 109 = .ok (.ladd, 1) := by decide +kernel
theorem od7_110 : decode prog_19_method_5_code 110 = .ok (.putfield 20, 3) := by decide +kernel
theorem sne_52_69 {a0 : Array Value} {Z : State} (hw : ∀ d ∈ tables_1, d.before a0 Z = true) : Jvm.RoadKit.slotOf Z "com/example/steady_limiter/steadylimiter/SlidingWindowLog$PermitLog" "times" "[J" ≠ Jvm.RoadKit.slotOf Z "com/example/steady_limiter/steadylimiter/SlidingWindowLog$PermitLog" "counted" "J" := slot_ne (C := "com/example/steady_limiter/steadylimiter/SlidingWindowLog$PermitLog") (a0 := a0) (Or.inl (ow52 hw)) (Or.inl (ow69 hw)) (by decide) pf__J pf_J
theorem sne_54_69 {a0 : Array Value} {Z : State} (hw : ∀ d ∈ tables_1, d.before a0 Z = true) : Jvm.RoadKit.slotOf Z "com/example/steady_limiter/steadylimiter/SlidingWindowLog$PermitLog" "permits" "[J" ≠ Jvm.RoadKit.slotOf Z "com/example/steady_limiter/steadylimiter/SlidingWindowLog$PermitLog" "counted" "J" := slot_ne (C := "com/example/steady_limiter/steadylimiter/SlidingWindowLog$PermitLog") (a0 := a0) (Or.inl (ow54 hw)) (Or.inl (ow69 hw)) (by decide) pf__J pf_J
theorem sne_67_69 {a0 : Array Value} {Z : State} (hw : ∀ d ∈ tables_1, d.before a0 Z = true) : Jvm.RoadKit.slotOf Z "com/example/steady_limiter/steadylimiter/SlidingWindowLog$PermitLog" "head" "I" ≠ Jvm.RoadKit.slotOf Z "com/example/steady_limiter/steadylimiter/SlidingWindowLog$PermitLog" "counted" "J" := slot_ne (C := "com/example/steady_limiter/steadylimiter/SlidingWindowLog$PermitLog") (a0 := a0) (Or.inl (ow67 hw)) (Or.inl (ow69 hw)) (by decide) pf_I pf_J
theorem sne_61_69 {a0 : Array Value} {Z : State} (hw : ∀ d ∈ tables_1, d.before a0 Z = true) : Jvm.RoadKit.slotOf Z "com/example/steady_limiter/steadylimiter/SlidingWindowLog$PermitLog" "size" "I" ≠ Jvm.RoadKit.slotOf Z "com/example/steady_limiter/steadylimiter/SlidingWindowLog$PermitLog" "counted" "J" := slot_ne (C := "com/example/steady_limiter/steadylimiter/SlidingWindowLog$PermitLog") (a0 := a0) (Or.inl (ow61 hw)) (Or.inl (ow69 hw)) (by decide) pf_I pf_J
theorem od7_113 : decode prog_19_method_5_code 113 = .ok (.return_, 1) := by decide +kernel
theorem ef_own_addA (m : MethodId) (x0 : Addr) (x1 : Int64) (x2 : Int64) : entryFrame m #[(.ref x0), (.long x1), (.long x2)] 6 = mkF m 0 #[.val (.ref x0), .val (.long x1), .second, .val (.long x2), .second, .unset] [] := by first | (simp [entryFrame, mkF, argsToLocals, Value.category]; done) | rfl
theorem pn_com_example_steady_limiter_steadylimiter_SlidingWindowLog_PermitLog_add__JJ_V : plainFor (⟨"com/example/steady_limiter/steadylimiter/SlidingWindowLog$PermitLog", "add", "(JJ)V"⟩ : MethodName) = true := plainFor_of_name (by first | (simp [plainName, overriddenIn]; done) | decide +kernel)
set_option maxRecDepth 65536 in
set_option maxHeartbeats 40000000 in
theorem own_addA (l : Launch) (Z : State) (a0 : Array Value) (hw : ∀ d ∈ tables_1, d.before a0 Z = true) (n0 : Nat) (hO : Heap) (a : Addr) (t : Int64) (c : Int64) (ta : Addr) (pa : Addr) (hd : Int32) (sz : Int32) (cnt : Int64) (T : List Int64) (Pm : List Int64) (len : Int32) (x : Nat) (Z0 : n0 ≤ hO.size) (E_a : Exa Z hO a "com/example/steady_limiter/steadylimiter/SlidingWindowLog$PermitLog") (F_a_times : Fld Z hO a "com/example/steady_limiter/steadylimiter/SlidingWindowLog$PermitLog" "times" "[J" (.ref ta)) (F_a_permits : Fld Z hO a "com/example/steady_limiter/steadylimiter/SlidingWindowLog$PermitLog" "permits" "[J" (.ref pa)) (F_a_head : Fld Z hO a "com/example/steady_limiter/steadylimiter/SlidingWindowLog$PermitLog" "head" "I" (.int hd)) (F_a_size : Fld Z hO a "com/example/steady_limiter/steadylimiter/SlidingWindowLog$PermitLog" "size" "I" (.int sz)) (F_a_counted : Fld Z hO a "com/example/steady_limiter/steadylimiter/SlidingWindowLog$PermitLog" "counted" "J" (.long cnt)) (A_ta : AJ Z hO ta T) (A_pa : AJ Z hO pa Pm) (g_a : n0 ≤ a) (g_ta : n0 ≤ ta) (g_pa : n0 ≤ pa) (ne_a_ta : a ≠ ta) (ne_a_pa : a ≠ pa) (ne_ta_pa : ta ≠ pa) (hlen : len.toInt = (T.length : Int)) (h0 : 0 < sz) (hx : ((hd + (sz - (1 : Int32))) &&& (len - (1 : Int32))).toInt = (x : Int)) (hxt : x < T.length) (hxp : x < Pm.length) (hm : T.getD x 0 = t) :
    MeetsW l Z n0 (⟨"com/example/steady_limiter/steadylimiter/SlidingWindowLog$PermitLog", "add", "(JJ)V"⟩ : MethodName) prog_19_method_5_code 6 none ({ frames := 2, cells := 0, slots := 0, locals := 27 } : Room) #[(.ref a), (.long t), (.long c)] hO (RV fun h => Keep hO h [a, pa] ∧ Fld Z h a "com/example/steady_limiter/steadylimiter/SlidingWindowLog$PermitLog" "times" "[J" (.ref ta) ∧ Fld Z h a "com/example/steady_limiter/steadylimiter/SlidingWindowLog$PermitLog" "permits" "[J" (.ref pa) ∧ Fld Z h a "com/example/steady_limiter/steadylimiter/SlidingWindowLog$PermitLog" "head" "I" (.int hd) ∧ Fld Z h a "com/example/steady_limiter/steadylimiter/SlidingWindowLog$PermitLog" "size" "I" (.int sz) ∧ Fld Z h a "com/example/steady_limiter/steadylimiter/SlidingWindowLog$PermitLog" "counted" "J" (.long (cnt + c)) ∧ AJ Z h pa (Pm.set x (Pm.getD x 0 + c))) := by
  refine MeetsW.intro pn_com_example_steady_limiter_steadylimiter_SlidingWindowLog_PermitLog_add__JJ_V (fun m => ef_own_addA m a t c) ?_
  intro W C
  replace C : Ru l Z "com/example/steady_limiter/steadylimiter/SlidingWindowLog$PermitLog" prog_19_method_5_code 6 none "add" ({ frames := 2, cells := 0, slots := 0, locals := 27 } : Room) n0 (RV fun h => Keep hO h [a, pa] ∧ Fld Z h a "com/example/steady_limiter/steadylimiter/SlidingWindowLog$PermitLog" "times" "[J" (.ref ta) ∧ Fld Z h a "com/example/steady_limiter/steadylimiter/SlidingWindowLog$PermitLog" "permits" "[J" (.ref pa) ∧ Fld Z h a "com/example/steady_limiter/steadylimiter/SlidingWindowLog$PermitLog" "head" "I" (.int hd) ∧ Fld Z h a "com/example/steady_limiter/steadylimiter/SlidingWindowLog$PermitLog" "size" "I" (.int sz) ∧ Fld Z h a "com/example/steady_limiter/steadylimiter/SlidingWindowLog$PermitLog" "counted" "J" (.long (cnt + c)) ∧ AJ Z h pa (Pm.set x (Pm.getD x 0 + c))) W := C
  have K : Keep hO hO [a, pa] := Keep.refl _ _
  refine C.aloadN (pc' := 1) od7_0 rfl rfl rfl ?_
  refine C.getf (ow60 hw) Via.refl F_a_size (pc' := 4) od7_1 rfl ?_
  refine C.if_le (pc' := 7) (pt := 44) od7_4 rfl rfl (fun c4 => absurd h0 c4) (fun c4 => ?_)
  refine C.aloadN (pc' := 8) od7_7 rfl rfl rfl ?_
  refine C.aloadN (pc' := 9) od7_8 rfl rfl rfl ?_
  refine C.getf (ow60 hw) Via.refl F_a_size (pc' := 12) od7_9 rfl ?_
  refine C.iconst (v := 1) (pc' := 13) od7_12 rfl rfl ?_
  refine C.isub (pc' := 14) od7_13 rfl ?_
  refine C.callv (w := 0) (own_rm9 l Z a0 hw n0 hO a (sz - (1 : Int32)) ta hd T len x E_a F_a_head F_a_times A_ta hlen hx hxt) E_a (ow70 hw) (ow71 hw) (ow73 hw) (ow72 hw) (ow38 hw) (ow74 hw) (pc' := 17) od7_14 rfl rfl rfl (by decide) pd__I_J rfl (by decide) (Nat.le_of_eq rfl) (by decide) (by decide) (by decide) (kJe ?_)
  refine C.lloadN (pc' := 18) od7_17 rfl rfl ?_
  refine C.lif_ne (pc' := 22) (pt := 44) od7_18 rfl od7_19 rfl rfl (fun c18 => absurd hm c18) (fun c18 => ?_)
  refine C.aloadN (pc' := 23) od7_22 rfl rfl rfl ?_
  refine C.getf (ow53 hw) Via.refl F_a_permits (pc' := 26) od7_23 rfl ?_
  refine C.aloadN (pc' := 27) od7_26 rfl rfl rfl ?_
  refine C.aloadN (pc' := 28) od7_27 rfl rfl rfl ?_
  refine C.getf (ow60 hw) Via.refl F_a_size (pc' := 31) od7_28 rfl ?_
  refine C.iconst (v := 1) (pc' := 32) od7_31 rfl rfl ?_
  refine C.isub (pc' := 33) od7_32 rfl ?_
  refine C.callp (w := 1) (own_rm8 l Z a0 hw n0 hO a (sz - (1 : Int32)) ta hd T len F_a_head F_a_times A_ta hlen) E_a (ow62 hw) (ow63 hw) (ow37 hw) (ow64 hw) (ow38 hw) (ow65 hw) (pc' := 36) od7_33 rfl rfl rfl (by decide) pd__I_I rfl (by decide) (Nat.le_of_eq rfl) (by decide) (by decide) (by decide) (kIe ?_)
  refine C.dup2 (pc' := 37) od7_36 rfl rfl rfl ?_
  refine C.ldAJ (i := x) (v := (Pm.getD x 0)) A_pa hx (Jvm.OwnP.getD_some hxp) (pc' := 38) od7_37 rfl ?_
  refine C.lloadN (pc' := 39) od7_38 rfl rfl ?_
  refine C.ladd (pc' := 40) od7_39 rfl ?_
  refine C.stAJ (i := x) A_pa hx hxp g_pa (pc' := 41) od7_40 rfl (fun h40 X40 B40 => ?_)
  replace E_a := E_a.wr X40
  replace F_a_times := F_a_times.other X40 (Or.inl ne_a_pa)
  replace F_a_permits := F_a_permits.other X40 (Or.inl ne_a_pa)
  replace F_a_head := F_a_head.other X40 (Or.inl ne_a_pa)
  replace F_a_size := F_a_size.other X40 (Or.inl ne_a_pa)
  replace F_a_counted := F_a_counted.other X40 (Or.inl ne_a_pa)
  replace A_ta := A_ta.other X40 ne_ta_pa
  have A_pa : AJ Z h40 pa (Pm.set x ((Pm.getD x 0) + c)) := B40
  replace K := K.wr X40 (Or.inl (List.mem_of_getElem? (i := 1) rfl))
  refine C.goto (pc' := 103) od7_41 rfl ?_
  refine C.aloadN (pc' := 104) od7_103 rfl rfl rfl ?_
  refine C.dup (pc' := 105) od7_104 rfl rfl ?_
  refine C.getf (ow68 hw) Via.refl F_a_counted (pc' := 108) od7_105 rfl ?_
  refine C.lloadN (pc' := 109) od7_108 rfl rfl ?_
  refine C.ladd (pc' := 110) od7_109 rfl ?_
  refine C.putf (ow68 hw) Via.refl F_a_counted E_a (Or.inl (ow69 hw)) (ow37 hw) pf_J rfl rfl g_a (pc' := 113) od7_110 rfl (fun h110 X110 => ?_)
  replace F_a_counted := F_a_counted.same X110
  replace E_a := E_a.wr X110
  replace F_a_times := F_a_times.other X110 (Or.inr (sne_52_69 hw))
  replace F_a_permits := F_a_permits.other X110 (Or.inr (sne_54_69 hw))
  replace F_a_head := F_a_head.other X110 (Or.inr (sne_67_69 hw))
  replace F_a_size := F_a_size.other X110 (Or.inr (sne_61_69 hw))
  replace A_ta := A_ta.other X110 (Ne.symm ne_a_ta)
  replace A_pa := A_pa.other X110 (Ne.symm ne_a_pa)
  replace K := K.wr X110 (Or.inl (List.mem_of_getElem? (i := 0) rfl))
  refine C.retV rfl od7_113 (by decide) (by decide) ⟨rfl, ?_⟩
  exact ⟨K, F_a_times, F_a_permits, F_a_head, F_a_size, F_a_counted, A_pa⟩
theorem od7_44 : decode prog_19_method_5_code 44 = .ok (.aload_n 0, 1) := by decide +kernel
theorem od7_45 : decode prog_19_method_5_code 45 = .ok (.getfield 28, 3) := by decide +kernel
theorem od7_48 : decode prog_19_method_5_code 48 = .ok (.aload_n 0, 1) := by decide +kernel
theorem od7_49 : decode prog_19_method_5_code 49 = .ok (.getfield 9, 3) := by decide +kernel
theorem od7_52 : decode prog_19_method_5_code 52 = .ok (.arraylength, 1) := by decide +kernel
theorem od7_53 : decode prog_19_method_5_code 53 = .ok (.if_icmp .ne 14, 3) := by decide +kernel
theorem od7_67 : decode prog_19_method_5_code 67 = .ok (.aload_n 0, 1) := by decide +kernel
theorem od7_68 : decode prog_19_method_5_code 68 = .ok (.aload_n 0, 1) := by decide +kernel
theorem od7_69 : decode prog_19_method_5_code 69 = .ok (.getfield 28, 3) := by decide +kernel
theorem od7_72 : decode prog_19_method_5_code 72 = .ok (.invokevirtual 16, 3) := by decide +kernel
theorem od7_75 : decode prog_19_method_5_code 75 = .ok (.istore 5, 2) := by decide +kernel
theorem od7_77 : decode prog_19_method_5_code 77 = .ok (.aload_n 0, 1) := by decide +kernel
theorem od7_78 : decode prog_19_method_5_code 78 = .ok (.getfield 9, 3) := by decide +kernel
theorem od7_81 : decode prog_19_method_5_code 81 = .ok (.iload 5, 2) := by decide +kernel
theorem od7_83 : decode prog_19_method_5_code 83 = .ok (.lload_n 1, 1) := by decide +kernel
theorem od7_84 : decode prog_19_method_5_code 84 = .ok (.lastore, 1) := by decide +kernel
theorem od7_85 : decode prog_19_method_5_code 85 = .ok (.aload_n 0, 1) := by decide +kernel
theorem od7_86 : decode prog_19_method_5_code 86 = .ok (.getfield 13, 3) := by decide +kernel
theorem od7_89 : decode prog_19_method_5_code 89 = .ok (.iload 5, 2) := by decide +kernel
theorem od7_91 : decode prog_19_method_5_code 91 = .ok (.lload_n 3, 1) := by decide +kernel
theorem od7_92 : decode prog_19_method_5_code 92 = .ok (.lastore, 1) := by decide +kernel
theorem od7_93 : decode prog_19_method_5_code 93 = .ok (.aload_n 0, 1) := by decide +kernel
theorem od7_94 : decode prog_19_method_5_code 94 = .ok (.dup, 1) := by decide +kernel
theorem od7_95 : decode prog_19_method_5_code 95 = .ok (.getfield 28, 3) := by decide +kernel
theorem od7_98 : decode prog_19_method_5_code 98 = .ok (.iconst 1, 1) := by decide +kernel
theorem od7_99 : decode prog_19_method_5_code 99 = .ok (.iadd, 1) := by decide +kernel
theorem od7_100 : decode prog_19_method_5_code 100 = .ok (.putfield 28, 3) := by decide +kernel
theorem sne_52_61 {a0 : Array Value} {Z : State} (hw : ∀ d ∈ tables_1, d.before a0 Z = true) : Jvm.RoadKit.slotOf Z "com/example/steady_limiter/steadylimiter/SlidingWindowLog$PermitLog" "times" "[J" ≠ Jvm.RoadKit.slotOf Z "com/example/steady_limiter/steadylimiter/SlidingWindowLog$PermitLog" "size" "I" := slot_ne (C := "com/example/steady_limiter/steadylimiter/SlidingWindowLog$PermitLog") (a0 := a0) (Or.inl (ow52 hw)) (Or.inl (ow61 hw)) (by decide) pf__J pf_I
theorem sne_54_61 {a0 : Array Value} {Z : State} (hw : ∀ d ∈ tables_1, d.before a0 Z = true) : Jvm.RoadKit.slotOf Z "com/example/steady_limiter/steadylimiter/SlidingWindowLog$PermitLog" "permits" "[J" ≠ Jvm.RoadKit.slotOf Z "com/example/steady_limiter/steadylimiter/SlidingWindowLog$PermitLog" "size" "I" := slot_ne (C := "com/example/steady_limiter/steadylimiter/SlidingWindowLog$PermitLog") (a0 := a0) (Or.inl (ow54 hw)) (Or.inl (ow61 hw)) (by decide) pf__J pf_I
theorem sne_67_61 {a0 : Array Value} {Z : State} (hw : ∀ d ∈ tables_1, d.before a0 Z = true) : Jvm.RoadKit.slotOf Z "com/example/steady_limiter/steadylimiter/SlidingWindowLog$PermitLog" "head" "I" ≠ Jvm.RoadKit.slotOf Z "com/example/steady_limiter/steadylimiter/SlidingWindowLog$PermitLog" "size" "I" := slot_ne (C := "com/example/steady_limiter/steadylimiter/SlidingWindowLog$PermitLog") (a0 := a0) (Or.inl (ow67 hw)) (Or.inl (ow61 hw)) (by decide) pf_I pf_I
theorem sne_69_61 {a0 : Array Value} {Z : State} (hw : ∀ d ∈ tables_1, d.before a0 Z = true) : Jvm.RoadKit.slotOf Z "com/example/steady_limiter/steadylimiter/SlidingWindowLog$PermitLog" "counted" "J" ≠ Jvm.RoadKit.slotOf Z "com/example/steady_limiter/steadylimiter/SlidingWindowLog$PermitLog" "size" "I" := slot_ne (C := "com/example/steady_limiter/steadylimiter/SlidingWindowLog$PermitLog") (a0 := a0) (Or.inl (ow69 hw)) (Or.inl (ow61 hw)) (by decide) pf_J pf_I
theorem ef_own_addB0 (m : MethodId) (x0 : Addr) (x1 : Int64) (x2 : Int64) : entryFrame m #[(.ref x0), (.long x1), (.long x2)] 6 = mkF m 0 #[.val (.ref x0), .val (.long x1), .second, .val (.long x2), .second, .unset] [] := by first | (simp [entryFrame, mkF, argsToLocals, Value.category]; done) | rfl
set_option maxRecDepth 65536 in
set_option maxHeartbeats 40000000 in
theorem own_addB0 (l : Launch) (Z : State) (a0 : Array Value) (hw : ∀ d ∈ tables_1, d.before a0 Z = true) (n0 : Nat) (hO : Heap) (a : Addr) (t : Int64) (c : Int64) (ta : Addr) (pa : Addr) (hd : Int32) (sz : Int32) (cnt : Int64) (T : List Int64) (Pm : List Int64) (len : Int32) (y : Nat) (Z0 : n0 ≤ hO.size) (E_a : Exa Z hO a "com/example/steady_limiter/steadylimiter/SlidingWindowLog$PermitLog") (F_a_times : Fld Z hO a "com/example/steady_limiter/steadylimiter/SlidingWindowLog$PermitLog" "times" "[J" (.ref ta)) (F_a_permits : Fld Z hO a "com/example/steady_limiter/steadylimiter/SlidingWindowLog$PermitLog" "permits" "[J" (.ref pa)) (F_a_head : Fld Z hO a "com/example/steady_limiter/steadylimiter/SlidingWindowLog$PermitLog" "head" "I" (.int hd)) (F_a_size : Fld Z hO a "com/example/steady_limiter/steadylimiter/SlidingWindowLog$PermitLog" "size" "I" (.int sz)) (F_a_counted : Fld Z hO a "com/example/steady_limiter/steadylimiter/SlidingWindowLog$PermitLog" "counted" "J" (.long cnt)) (A_ta : AJ Z hO ta T) (A_pa : AJ Z hO pa Pm) (g_a : n0 ≤ a) (g_ta : n0 ≤ ta) (g_pa : n0 ≤ pa) (ne_a_ta : a ≠ ta) (ne_a_pa : a ≠ pa) (ne_ta_pa : ta ≠ pa) (hlen : len.toInt = (T.length : Int)) (h0 : ¬ (0 < sz)) (hy : ((hd + sz) &&& (len - (1 : Int32))).toInt = (y : Int)) (hyt : y < T.length) (hyp : y < Pm.length) (hnl : ¬ (sz = len)) :
    MeetsW l Z n0 (⟨"com/example/steady_limiter/steadylimiter/SlidingWindowLog$PermitLog", "add", "(JJ)V"⟩ : MethodName) prog_19_method_5_code 6 none ({ frames := 1, cells := 0, slots := 0, locals := 13 } : Room) #[(.ref a), (.long t), (.long c)] hO (RV fun h => Keep hO h [a, ta, pa] ∧ Fld Z h a "com/example/steady_limiter/steadylimiter/SlidingWindowLog$PermitLog" "times" "[J" (.ref ta) ∧ Fld Z h a "com/example/steady_limiter/steadylimiter/SlidingWindowLog$PermitLog" "permits" "[J" (.ref pa) ∧ Fld Z h a "com/example/steady_limiter/steadylimiter/SlidingWindowLog$PermitLog" "head" "I" (.int hd) ∧ Fld Z h a "com/example/steady_limiter/steadylimiter/SlidingWindowLog$PermitLog" "size" "I" (.int (sz + (1 : Int32))) ∧ Fld Z h a "com/example/steady_limiter/steadylimiter/SlidingWindowLog$PermitLog" "counted" "J" (.long (cnt + c)) ∧ AJ Z h ta (T.set y t) ∧ AJ Z h pa (Pm.set y c)) := by
  refine MeetsW.intro pn_com_example_steady_limiter_steadylimiter_SlidingWindowLog_PermitLog_add__JJ_V (fun m => ef_own_addB0 m a t c) ?_
  intro W C
  replace C : Ru l Z "com/example/steady_limiter/steadylimiter/SlidingWindowLog$PermitLog" prog_19_method_5_code 6 none "add" ({ frames := 1, cells := 0, slots := 0, locals := 13 } : Room) n0 (RV fun h => Keep hO h [a, ta, pa] ∧ Fld Z h a "com/example/steady_limiter/steadylimiter/SlidingWindowLog$PermitLog" "times" "[J" (.ref ta) ∧ Fld Z h a "com/example/steady_limiter/steadylimiter/SlidingWindowLog$PermitLog" "permits" "[J" (.ref pa) ∧ Fld Z h a "com/example/steady_limiter/steadylimiter/SlidingWindowLog$PermitLog" "head" "I" (.int hd) ∧ Fld Z h a "com/example/steady_limiter/steadylimiter/SlidingWindowLog$PermitLog" "size" "I" (.int (sz + (1 : Int32))) ∧ Fld Z h a "com/example/steady_limiter/steadylimiter/SlidingWindowLog$PermitLog" "counted" "J" (.long (cnt + c)) ∧ AJ Z h ta (T.set y t) ∧ AJ Z h pa (Pm.set y c)) W := C
  have K : Keep hO hO [a, ta, pa] := Keep.refl _ _
  refine C.aloadN (pc' := 1) od7_0 rfl rfl rfl ?_
  refine C.getf (ow60 hw) Via.refl F_a_size (pc' := 4) od7_1 rfl ?_
  refine C.if_le (pc' := 7) (pt := 44) od7_4 rfl rfl (fun c4 => ?_) (fun c4 => absurd c4 h0)
  refine C.aloadN (pc' := 45) od7_44 rfl rfl rfl ?_
  refine C.getf (ow60 hw) Via.refl F_a_size (pc' := 48) od7_45 rfl ?_
  refine C.aloadN (pc' := 49) od7_48 rfl rfl rfl ?_
  refine C.getf (ow51 hw) Via.refl F_a_times (pc' := 52) od7_49 rfl ?_
  refine C.lenAJ (z := len) A_ta hlen (pc' := 53) od7_52 rfl ?_
  refine C.icmp_ne (pc' := 56) (pt := 67) od7_53 rfl rfl (fun c53 => ?_) (fun c53 => absurd c53 hnl)
  refine C.aloadN (pc' := 68) od7_67 rfl rfl rfl ?_
  refine C.aloadN (pc' := 69) od7_68 rfl rfl rfl ?_
  refine C.getf (ow60 hw) Via.refl F_a_size (pc' := 72) od7_69 rfl ?_
  refine C.callp (w := 0) (own_rm8 l Z a0 hw n0 hO a sz ta hd T len F_a_head F_a_times A_ta hlen) E_a (ow62 hw) (ow63 hw) (ow37 hw) (ow64 hw) (ow38 hw) (ow65 hw) (pc' := 75) od7_72 rfl rfl rfl (by decide) pd__I_I rfl (by decide) (Nat.le_of_eq rfl) (by decide) (by decide) (by decide) (kIe ?_)
  refine C.istoreX (l' := #[.val (.ref a), .val (.long t), .second, .val (.long c), .second, .val (.int ((hd + sz) &&& (len - (1 : Int32))))]) (pc' := 77) od7_75 rfl rfl ?_
  refine C.aloadN (pc' := 78) od7_77 rfl rfl rfl ?_
  refine C.getf (ow51 hw) Via.refl F_a_times (pc' := 81) od7_78 rfl ?_
  refine C.iload (pc' := 83) od7_81 rfl rfl ?_
  refine C.lloadN (pc' := 84) od7_83 rfl rfl ?_
  refine C.stAJ (i := y) A_ta hy hyt g_ta (pc' := 85) od7_84 rfl (fun h84 X84 B84 => ?_)
  replace E_a := E_a.wr X84
  replace F_a_times := F_a_times.other X84 (Or.inl ne_a_ta)
  replace F_a_permits := F_a_permits.other X84 (Or.inl ne_a_ta)
  replace F_a_head := F_a_head.other X84 (Or.inl ne_a_ta)
  replace F_a_size := F_a_size.other X84 (Or.inl ne_a_ta)
  replace F_a_counted := F_a_counted.other X84 (Or.inl ne_a_ta)
  replace A_pa := A_pa.other X84 (Ne.symm ne_ta_pa)
  have A_ta : AJ Z h84 ta (T.set y t) := B84
  replace K := K.wr X84 (Or.inl (List.mem_of_getElem? (i := 1) rfl))
  refine C.aloadN (pc' := 86) od7_85 rfl rfl rfl ?_
  refine C.getf (ow53 hw) Via.refl F_a_permits (pc' := 89) od7_86 rfl ?_
  refine C.iload (pc' := 91) od7_89 rfl rfl ?_
  refine C.lloadN (pc' := 92) od7_91 rfl rfl ?_
  refine C.stAJ (i := y) A_pa hy hyp g_pa (pc' := 93) od7_92 rfl (fun h92 X92 B92 => ?_)
  replace E_a := E_a.wr X92
  replace F_a_times := F_a_times.other X92 (Or.inl ne_a_pa)
  replace F_a_permits := F_a_permits.other X92 (Or.inl ne_a_pa)
  replace F_a_head := F_a_head.other X92 (Or.inl ne_a_pa)
  replace F_a_size := F_a_size.other X92 (Or.inl ne_a_pa)
  replace F_a_counted := F_a_counted.other X92 (Or.inl ne_a_pa)
  replace A_ta := A_ta.other X92 ne_ta_pa
  have A_pa : AJ Z h92 pa (Pm.set y c) := B92
  replace K := K.wr X92 (Or.inl (List.mem_of_getElem? (i := 2) rfl))
  refine C.aloadN (pc' := 94) od7_93 rfl rfl rfl ?_
  refine C.dup (pc' := 95) od7_94 rfl rfl ?_
  refine C.getf (ow60 hw) Via.refl F_a_size (pc' := 98) od7_95 rfl ?_
  refine C.iconst (v := 1) (pc' := 99) od7_98 rfl rfl ?_
  refine C.iadd (pc' := 100) od7_99 rfl ?_
  refine C.putf (ow60 hw) Via.refl F_a_size E_a (Or.inl (ow61 hw)) (ow37 hw) pf_I rfl rfl g_a (pc' := 103) od7_100 rfl (fun h100 X100 => ?_)
  replace F_a_size := F_a_size.same X100
  replace E_a := E_a.wr X100
  replace F_a_times := F_a_times.other X100 (Or.inr (sne_52_61 hw))
  replace F_a_permits := F_a_permits.other X100 (Or.inr (sne_54_61 hw))
  replace F_a_head := F_a_head.other X100 (Or.inr (sne_67_61 hw))
  replace F_a_counted := F_a_counted.other X100 (Or.inr (sne_69_61 hw))
  replace A_ta := A_ta.other X100 (Ne.symm ne_a_ta)
  replace A_pa := A_pa.other X100 (Ne.symm ne_a_pa)
  replace K := K.wr X100 (Or.inl (List.mem_of_getElem? (i := 0) rfl))
  refine C.aloadN (pc' := 104) od7_103 rfl rfl rfl ?_
  refine C.dup (pc' := 105) od7_104 rfl rfl ?_
  refine C.getf (ow68 hw) Via.refl F_a_counted (pc' := 108) od7_105 rfl ?_
  refine C.lloadN (pc' := 109) od7_108 rfl rfl ?_
  refine C.ladd (pc' := 110) od7_109 rfl ?_
  refine C.putf (ow68 hw) Via.refl F_a_counted E_a (Or.inl (ow69 hw)) (ow37 hw) pf_J rfl rfl g_a (pc' := 113) od7_110 rfl (fun h110 X110 => ?_)
  replace F_a_counted := F_a_counted.same X110
  replace E_a := E_a.wr X110
  replace F_a_times := F_a_times.other X110 (Or.inr (sne_52_69 hw))
  replace F_a_permits := F_a_permits.other X110 (Or.inr (sne_54_69 hw))
  replace F_a_head := F_a_head.other X110 (Or.inr (sne_67_69 hw))
  replace A_ta := A_ta.other X110 (Ne.symm ne_a_ta)
  replace A_pa := A_pa.other X110 (Ne.symm ne_a_pa)
  replace F_a_size := F_a_size.other X110 (Or.inr (sne_61_69 hw))
  replace K := K.wr X110 (Or.inl (List.mem_of_getElem? (i := 0) rfl))
  refine C.retV rfl od7_113 (by decide) (by decide) ⟨rfl, ?_⟩
  exact ⟨K, F_a_times, F_a_permits, F_a_head, F_a_size, F_a_counted, A_ta, A_pa⟩
theorem ef_own_addB1 (m : MethodId) (x0 : Addr) (x1 : Int64) (x2 : Int64) : entryFrame m #[(.ref x0), (.long x1), (.long x2)] 6 = mkF m 0 #[.val (.ref x0), .val (.long x1), .second, .val (.long x2), .second, .unset] [] := by first | (simp [entryFrame, mkF, argsToLocals, Value.category]; done) | rfl
set_option maxRecDepth 65536 in
set_option maxHeartbeats 40000000 in
theorem own_addB1 (l : Launch) (Z : State) (a0 : Array Value) (hw : ∀ d ∈ tables_1, d.before a0 Z = true) (n0 : Nat) (hO : Heap) (a : Addr) (t : Int64) (c : Int64) (ta : Addr) (pa : Addr) (hd : Int32) (sz : Int32) (cnt : Int64) (T : List Int64) (Pm : List Int64) (len : Int32) (x : Nat) (y : Nat) (Z0 : n0 ≤ hO.size) (E_a : Exa Z hO a "com/example/steady_limiter/steadylimiter/SlidingWindowLog$PermitLog") (F_a_times : Fld Z hO a "com/example/steady_limiter/steadylimiter/SlidingWindowLog$PermitLog" "times" "[J" (.ref ta)) (F_a_permits : Fld Z hO a "com/example/steady_limiter/steadylimiter/SlidingWindowLog$PermitLog" "permits" "[J" (.ref pa)) (F_a_head : Fld Z hO a "com/example/steady_limiter/steadylimiter/SlidingWindowLog$PermitLog" "head" "I" (.int hd)) (F_a_size : Fld Z hO a "com/example/steady_limiter/steadylimiter/SlidingWindowLog$PermitLog" "size" "I" (.int sz)) (F_a_counted : Fld Z hO a "com/example/steady_limiter/steadylimiter/SlidingWindowLog$PermitLog" "counted" "J" (.long cnt)) (A_ta : AJ Z hO ta T) (A_pa : AJ Z hO pa Pm) (g_a : n0 ≤ a) (g_ta : n0 ≤ ta) (g_pa : n0 ≤ pa) (ne_a_ta : a ≠ ta) (ne_a_pa : a ≠ pa) (ne_ta_pa : ta ≠ pa) (hlen : len.toInt = (T.length : Int)) (h0 : 0 < sz) (hx : ((hd + (sz - (1 : Int32))) &&& (len - (1 : Int32))).toInt = (x : Int)) (hxt : x < T.length) (hxp : x < Pm.length) (hne : ¬ (T.getD x 0 = t)) (hy : ((hd + sz) &&& (len - (1 : Int32))).toInt = (y : Int)) (hyt : y < T.length) (hyp : y < Pm.length) (hnl : ¬ (sz = len)) :
    MeetsW l Z n0 (⟨"com/example/steady_limiter/steadylimiter/SlidingWindowLog$PermitLog", "add", "(JJ)V"⟩ : MethodName) prog_19_method_5_code 6 none ({ frames := 2, cells := 0, slots := 0, locals := 27 } : Room) #[(.ref a), (.long t), (.long c)] hO (RV fun h => Keep hO h [a, ta, pa] ∧ Fld Z h a "com/example/steady_limiter/steadylimiter/SlidingWindowLog$PermitLog" "times" "[J" (.ref ta) ∧ Fld Z h a "com/example/steady_limiter/steadylimiter/SlidingWindowLog$PermitLog" "permits" "[J" (.ref pa) ∧ Fld Z h a "com/example/steady_limiter/steadylimiter/SlidingWindowLog$PermitLog" "head" "I" (.int hd) ∧ Fld Z h a "com/example/steady_limiter/steadylimiter/SlidingWindowLog$PermitLog" "size" "I" (.int (sz + (1 : Int32))) ∧ Fld Z h a "com/example/steady_limiter/steadylimiter/SlidingWindowLog$PermitLog" "counted" "J" (.long (cnt + c)) ∧ AJ Z h ta (T.set y t) ∧ AJ Z h pa (Pm.set y c)) := by
  refine MeetsW.intro pn_com_example_steady_limiter_steadylimiter_SlidingWindowLog_PermitLog_add__JJ_V (fun m => ef_own_addB1 m a t c) ?_
  intro W C
  replace C : Ru l Z "com/example/steady_limiter/steadylimiter/SlidingWindowLog$PermitLog" prog_19_method_5_code 6 none "add" ({ frames := 2, cells := 0, slots := 0, locals := 27 } : Room) n0 (RV fun h => Keep hO h [a, ta, pa] ∧ Fld Z h a "com/example/steady_limiter/steadylimiter/SlidingWindowLog$PermitLog" "times" "[J" (.ref ta) ∧ Fld Z h a "com/example/steady_limiter/steadylimiter/SlidingWindowLog$PermitLog" "permits" "[J" (.ref pa) ∧ Fld Z h a "com/example/steady_limiter/steadylimiter/SlidingWindowLog$PermitLog" "head" "I" (.int hd) ∧ Fld Z h a "com/example/steady_limiter/steadylimiter/SlidingWindowLog$PermitLog" "size" "I" (.int (sz + (1 : Int32))) ∧ Fld Z h a "com/example/steady_limiter/steadylimiter/SlidingWindowLog$PermitLog" "counted" "J" (.long (cnt + c)) ∧ AJ Z h ta (T.set y t) ∧ AJ Z h pa (Pm.set y c)) W := C
  have K : Keep hO hO [a, ta, pa] := Keep.refl _ _
  refine C.aloadN (pc' := 1) od7_0 rfl rfl rfl ?_
  refine C.getf (ow60 hw) Via.refl F_a_size (pc' := 4) od7_1 rfl ?_
  refine C.if_le (pc' := 7) (pt := 44) od7_4 rfl rfl (fun c4 => absurd h0 c4) (fun c4 => ?_)
  refine C.aloadN (pc' := 8) od7_7 rfl rfl rfl ?_
  refine C.aloadN (pc' := 9) od7_8 rfl rfl rfl ?_
  refine C.getf (ow60 hw) Via.refl F_a_size (pc' := 12) od7_9 rfl ?_
  refine C.iconst (v := 1) (pc' := 13) od7_12 rfl rfl ?_
  refine C.isub (pc' := 14) od7_13 rfl ?_
  refine C.callv (w := 0) (own_rm9 l Z a0 hw n0 hO a (sz - (1 : Int32)) ta hd T len x E_a F_a_head F_a_times A_ta hlen hx hxt) E_a (ow70 hw) (ow71 hw) (ow73 hw) (ow72 hw) (ow38 hw) (ow74 hw) (pc' := 17) od7_14 rfl rfl rfl (by decide) pd__I_J rfl (by decide) (Nat.le_of_eq rfl) (by decide) (by decide) (by decide) (kJe ?_)
  refine C.lloadN (pc' := 18) od7_17 rfl rfl ?_
  refine C.lif_ne (pc' := 22) (pt := 44) od7_18 rfl od7_19 rfl rfl (fun c18 => ?_) (fun c18 => absurd c18 hne)
  refine C.aloadN (pc' := 45) od7_44 rfl rfl rfl ?_
  refine C.getf (ow60 hw) Via.refl F_a_size (pc' := 48) od7_45 rfl ?_
  refine C.aloadN (pc' := 49) od7_48 rfl rfl rfl ?_
  refine C.getf (ow51 hw) Via.refl F_a_times (pc' := 52) od7_49 rfl ?_
  refine C.lenAJ (z := len) A_ta hlen (pc' := 53) od7_52 rfl ?_
  refine C.icmp_ne (pc' := 56) (pt := 67) od7_53 rfl rfl (fun c53 => ?_) (fun c53 => absurd c53 hnl)
  refine C.aloadN (pc' := 68) od7_67 rfl rfl rfl ?_
  refine C.aloadN (pc' := 69) od7_68 rfl rfl rfl ?_
  refine C.getf (ow60 hw) Via.refl F_a_size (pc' := 72) od7_69 rfl ?_
  refine C.callp (w := 0) (own_rm8 l Z a0 hw n0 hO a sz ta hd T len F_a_head F_a_times A_ta hlen) E_a (ow62 hw) (ow63 hw) (ow37 hw) (ow64 hw) (ow38 hw) (ow65 hw) (pc' := 75) od7_72 rfl rfl rfl (by decide) pd__I_I rfl (by decide) (Nat.le_of_eq rfl) (by decide) (by decide) (by decide) (kIe ?_)
  refine C.istoreX (l' := #[.val (.ref a), .val (.long t), .second, .val (.long c), .second, .val (.int ((hd + sz) &&& (len - (1 : Int32))))]) (pc' := 77) od7_75 rfl rfl ?_
  refine C.aloadN (pc' := 78) od7_77 rfl rfl rfl ?_
  refine C.getf (ow51 hw) Via.refl F_a_times (pc' := 81) od7_78 rfl ?_
  refine C.iload (pc' := 83) od7_81 rfl rfl ?_
  refine C.lloadN (pc' := 84) od7_83 rfl rfl ?_
  refine C.stAJ (i := y) A_ta hy hyt g_ta (pc' := 85) od7_84 rfl (fun h84 X84 B84 => ?_)
  replace E_a := E_a.wr X84
  replace F_a_times := F_a_times.other X84 (Or.inl ne_a_ta)
  replace F_a_permits := F_a_permits.other X84 (Or.inl ne_a_ta)
  replace F_a_head := F_a_head.other X84 (Or.inl ne_a_ta)
  replace F_a_size := F_a_size.other X84 (Or.inl ne_a_ta)
  replace F_a_counted := F_a_counted.other X84 (Or.inl ne_a_ta)
  replace A_pa := A_pa.other X84 (Ne.symm ne_ta_pa)
  have A_ta : AJ Z h84 ta (T.set y t) := B84
  replace K := K.wr X84 (Or.inl (List.mem_of_getElem? (i := 1) rfl))
  refine C.aloadN (pc' := 86) od7_85 rfl rfl rfl ?_
  refine C.getf (ow53 hw) Via.refl F_a_permits (pc' := 89) od7_86 rfl ?_
  refine C.iload (pc' := 91) od7_89 rfl rfl ?_
  refine C.lloadN (pc' := 92) od7_91 rfl rfl ?_
  refine C.stAJ (i := y) A_pa hy hyp g_pa (pc' := 93) od7_92 rfl (fun h92 X92 B92 => ?_)
  replace E_a := E_a.wr X92
  replace F_a_times := F_a_times.other X92 (Or.inl ne_a_pa)
  replace F_a_permits := F_a_permits.other X92 (Or.inl ne_a_pa)
  replace F_a_head := F_a_head.other X92 (Or.inl ne_a_pa)
  replace F_a_size := F_a_size.other X92 (Or.inl ne_a_pa)
  replace F_a_counted := F_a_counted.other X92 (Or.inl ne_a_pa)
  replace A_ta := A_ta.other X92 ne_ta_pa
  have A_pa : AJ Z h92 pa (Pm.set y c) := B92
  replace K := K.wr X92 (Or.inl (List.mem_of_getElem? (i := 2) rfl))
  refine C.aloadN (pc' := 94) od7_93 rfl rfl rfl ?_
  refine C.dup (pc' := 95) od7_94 rfl rfl ?_
  refine C.getf (ow60 hw) Via.refl F_a_size (pc' := 98) od7_95 rfl ?_
  refine C.iconst (v := 1) (pc' := 99) od7_98 rfl rfl ?_
  refine C.iadd (pc' := 100) od7_99 rfl ?_
  refine C.putf (ow60 hw) Via.refl F_a_size E_a (Or.inl (ow61 hw)) (ow37 hw) pf_I rfl rfl g_a (pc' := 103) od7_100 rfl (fun h100 X100 => ?_)
  replace F_a_size := F_a_size.same X100
  replace E_a := E_a.wr X100
  replace F_a_times := F_a_times.other X100 (Or.inr (sne_52_61 hw))
  replace F_a_permits := F_a_permits.other X100 (Or.inr (sne_54_61 hw))
  replace F_a_head := F_a_head.other X100 (Or.inr (sne_67_61 hw))
  replace F_a_counted := F_a_counted.other X100 (Or.inr (sne_69_61 hw))
  replace A_ta := A_ta.other X100 (Ne.symm ne_a_ta)
  replace A_pa := A_pa.other X100 (Ne.symm ne_a_pa)
  replace K := K.wr X100 (Or.inl (List.mem_of_getElem? (i := 0) rfl))
  refine C.aloadN (pc' := 104) od7_103 rfl rfl rfl ?_
  refine C.dup (pc' := 105) od7_104 rfl rfl ?_
  refine C.getf (ow68 hw) Via.refl F_a_counted (pc' := 108) od7_105 rfl ?_
  refine C.lloadN (pc' := 109) od7_108 rfl rfl ?_
  refine C.ladd (pc' := 110) od7_109 rfl ?_
  refine C.putf (ow68 hw) Via.refl F_a_counted E_a (Or.inl (ow69 hw)) (ow37 hw) pf_J rfl rfl g_a (pc' := 113) od7_110 rfl (fun h110 X110 => ?_)
  replace F_a_counted := F_a_counted.same X110
  replace E_a := E_a.wr X110
  replace F_a_times := F_a_times.other X110 (Or.inr (sne_52_69 hw))
  replace F_a_permits := F_a_permits.other X110 (Or.inr (sne_54_69 hw))
  replace F_a_head := F_a_head.other X110 (Or.inr (sne_67_69 hw))
  replace A_ta := A_ta.other X110 (Ne.symm ne_a_ta)
  replace A_pa := A_pa.other X110 (Ne.symm ne_a_pa)
  replace F_a_size := F_a_size.other X110 (Or.inr (sne_61_69 hw))
  replace K := K.wr X110 (Or.inl (List.mem_of_getElem? (i := 0) rfl))
  refine C.retV rfl od7_113 (by decide) (by decide) ⟨rfl, ?_⟩
  exact ⟨K, F_a_times, F_a_permits, F_a_head, F_a_size, F_a_counted, A_ta, A_pa⟩
theorem od7_56 : decode prog_19_method_5_code 56 = .ok (.aload_n 0, 1) := by decide +kernel
theorem od7_57 : decode prog_19_method_5_code 57 = .ok (.aload_n 0, 1) := by decide +kernel
theorem od7_58 : decode prog_19_method_5_code 58 = .ok (.getfield 9, 3) := by decide +kernel
theorem od7_61 : decode prog_19_method_5_code 61 = .ok (.arraylength, 1) := by decide +kernel
theorem od7_62 : decode prog_19_method_5_code 62 = .ok (.iconst 2, 1) := by decide +kernel
theorem od7_63 : decode prog_19_method_5_code 63 = .ok (.imul, 1) := by decide +kernel
theorem od7_64 : decode prog_19_method_5_code 64 = .ok (.invokevirtual 31, 3) := by decide +kernel
theorem pd__I_V : parseMethodDescriptor "(I)V" = some ⟨[.int], none⟩ := by decide +kernel
theorem ow89 {a0 : Array Value} {Z : State} (hw : ∀ d ∈ tables_1, d.before a0 Z = true) : (Jvm.Cond.code ({ cls := "com/example/steady_limiter/steadylimiter/SlidingWindowLog$PermitLog", name := "resize", desc := "(I)V" } : Jvm.MethodName) prog_19_method_7_code (5 : Nat) (Option.none : Option Jvm.ClassFile.FieldType)).before a0 Z = true := hw _ (List.mem_of_getElem? (i := 89) rfl)
theorem ow86 {a0 : Array Value} {Z : State} (hw : ∀ d ∈ tables_1, d.before a0 Z = true) : (Jvm.Cond.methodLink "com/example/steady_limiter/steadylimiter/SlidingWindowLog$PermitLog" (31 : Nat) ({ cls := "com/example/steady_limiter/steadylimiter/SlidingWindowLog$PermitLog", name := "resize", desc := "(I)V" } : Jvm.MethodName)).before a0 Z = true := hw _ (List.mem_of_getElem? (i := 86) rfl)
theorem ow87 {a0 : Array Value} {Z : State} (hw : ∀ d ∈ tables_1, d.before a0 Z = true) : (Jvm.Cond.instanceMethod ({ cls := "com/example/steady_limiter/steadylimiter/SlidingWindowLog$PermitLog", name := "resize", desc := "(I)V" } : Jvm.MethodName)).before a0 Z = true := hw _ (List.mem_of_getElem? (i := 87) rfl)
theorem ow88 {a0 : Array Value} {Z : State} (hw : ∀ d ∈ tables_1, d.before a0 Z = true) : (Jvm.Cond.privateMethod ({ cls := "com/example/steady_limiter/steadylimiter/SlidingWindowLog$PermitLog", name := "resize", desc := "(I)V" } : Jvm.MethodName)).before a0 Z = true := hw _ (List.mem_of_getElem? (i := 88) rfl)
theorem ef_own_addC (m : MethodId) (x0 : Addr) (x1 : Int64) (x2 : Int64) : entryFrame m #[(.ref x0), (.long x1), (.long x2)] 6 = mkF m 0 #[.val (.ref x0), .val (.long x1), .second, .val (.long x2), .second, .unset] [] := by first | (simp [entryFrame, mkF, argsToLocals, Value.category]; done) | rfl
set_option maxRecDepth 65536 in
set_option maxHeartbeats 40000000 in
theorem own_addC (l : Launch) (Z : State) (a0 : Array Value) (hw : ∀ d ∈ tables_1, d.before a0 Z = true) (n0 : Nat) (hO : Heap) (a : Addr) (t : Int64) (c : Int64) (ta : Addr) (pa : Addr) (hd : Int32) (sz : Int32) (cnt : Int64) (t0 : Int64) (t1 : Int64) (p0 : Int64) (p1 : Int64) (x : Nat) (x0 : Nat) (x1 : Nat) (Z0 : n0 ≤ hO.size) (E_a : Exa Z hO a "com/example/steady_limiter/steadylimiter/SlidingWindowLog$PermitLog") (F_a_times : Fld Z hO a "com/example/steady_limiter/steadylimiter/SlidingWindowLog$PermitLog" "times" "[J" (.ref ta)) (F_a_permits : Fld Z hO a "com/example/steady_limiter/steadylimiter/SlidingWindowLog$PermitLog" "permits" "[J" (.ref pa)) (F_a_head : Fld Z hO a "com/example/steady_limiter/steadylimiter/SlidingWindowLog$PermitLog" "head" "I" (.int hd)) (F_a_size : Fld Z hO a "com/example/steady_limiter/steadylimiter/SlidingWindowLog$PermitLog" "size" "I" (.int sz)) (F_a_counted : Fld Z hO a "com/example/steady_limiter/steadylimiter/SlidingWindowLog$PermitLog" "counted" "J" (.long cnt)) (A_ta : AJ Z hO ta [t0, t1]) (A_pa : AJ Z hO pa [p0, p1]) (g_a : n0 ≤ a) (ne_a_ta : a ≠ ta) (ne_a_pa : a ≠ pa) (hsz : sz = (2 : Int32)) (hx : ((hd + (sz - (1 : Int32))) &&& ((2 : Int32) - (1 : Int32))).toInt = (x : Int)) (hxt : x < 2) (hne : ¬ ([t0, t1].getD x 0 = t)) (hx0 : ((hd + (0 : Int32)) &&& ((2 : Int32) - (1 : Int32))).toInt = (x0 : Int)) (hx1 : ((hd + (1 : Int32)) &&& ((2 : Int32) - (1 : Int32))).toInt = (x1 : Int)) (h2 : x0 < 2) (h3 : x1 < 2) :
    MeetsW l Z n0 (⟨"com/example/steady_limiter/steadylimiter/SlidingWindowLog$PermitLog", "add", "(JJ)V"⟩ : MethodName) prog_19_method_5_code 6 none ({ frames := 3, cells := 2, slots := 8, locals := 45 } : Room) #[(.ref a), (.long t), (.long c)] hO (RV fun h => ∃ tb : Addr, ∃ pb : Addr, Keep hO h [a] ∧ hO.size ≤ tb ∧ hO.size ≤ pb ∧ tb ≠ pb ∧ Fld Z h a "com/example/steady_limiter/steadylimiter/SlidingWindowLog$PermitLog" "times" "[J" (.ref tb) ∧ Fld Z h a "com/example/steady_limiter/steadylimiter/SlidingWindowLog$PermitLog" "permits" "[J" (.ref pb) ∧ Fld Z h a "com/example/steady_limiter/steadylimiter/SlidingWindowLog$PermitLog" "head" "I" (.int (0 : Int32)) ∧ Fld Z h a "com/example/steady_limiter/steadylimiter/SlidingWindowLog$PermitLog" "size" "I" (.int (sz + (1 : Int32))) ∧ Fld Z h a "com/example/steady_limiter/steadylimiter/SlidingWindowLog$PermitLog" "counted" "J" (.long (cnt + c)) ∧ AJ Z h tb [([t0, t1].getD x0 0), ([t0, t1].getD x1 0), t, (0 : Int64)] ∧ AJ Z h pb [([p0, p1].getD x0 0), ([p0, p1].getD x1 0), c, (0 : Int64)]) := by
  refine MeetsW.intro pn_com_example_steady_limiter_steadylimiter_SlidingWindowLog_PermitLog_add__JJ_V (fun m => ef_own_addC m a t c) ?_
  intro W C
  replace C : Ru l Z "com/example/steady_limiter/steadylimiter/SlidingWindowLog$PermitLog" prog_19_method_5_code 6 none "add" ({ frames := 3, cells := 2, slots := 8, locals := 45 } : Room) n0 (RV fun h => ∃ tb : Addr, ∃ pb : Addr, Keep hO h [a] ∧ hO.size ≤ tb ∧ hO.size ≤ pb ∧ tb ≠ pb ∧ Fld Z h a "com/example/steady_limiter/steadylimiter/SlidingWindowLog$PermitLog" "times" "[J" (.ref tb) ∧ Fld Z h a "com/example/steady_limiter/steadylimiter/SlidingWindowLog$PermitLog" "permits" "[J" (.ref pb) ∧ Fld Z h a "com/example/steady_limiter/steadylimiter/SlidingWindowLog$PermitLog" "head" "I" (.int (0 : Int32)) ∧ Fld Z h a "com/example/steady_limiter/steadylimiter/SlidingWindowLog$PermitLog" "size" "I" (.int (sz + (1 : Int32))) ∧ Fld Z h a "com/example/steady_limiter/steadylimiter/SlidingWindowLog$PermitLog" "counted" "J" (.long (cnt + c)) ∧ AJ Z h tb [([t0, t1].getD x0 0), ([t0, t1].getD x1 0), t, (0 : Int64)] ∧ AJ Z h pb [([p0, p1].getD x0 0), ([p0, p1].getD x1 0), c, (0 : Int64)]) W := C
  have K : Keep hO hO [a] := Keep.refl _ _
  refine C.aloadN (pc' := 1) od7_0 rfl rfl rfl ?_
  refine C.getf (ow60 hw) Via.refl F_a_size (pc' := 4) od7_1 rfl ?_
  refine C.if_le (pc' := 7) (pt := 44) od7_4 rfl rfl (fun c4 => absurd (by rw [hsz]; decide) c4) (fun c4 => ?_)
  refine C.aloadN (pc' := 8) od7_7 rfl rfl rfl ?_
  refine C.aloadN (pc' := 9) od7_8 rfl rfl rfl ?_
  refine C.getf (ow60 hw) Via.refl F_a_size (pc' := 12) od7_9 rfl ?_
  refine C.iconst (v := 1) (pc' := 13) od7_12 rfl rfl ?_
  refine C.isub (pc' := 14) od7_13 rfl ?_
  refine C.callv (w := 0) (own_rm9 l Z a0 hw n0 hO a (sz - (1 : Int32)) ta hd [t0, t1] (2 : Int32) x E_a F_a_head F_a_times A_ta (show (2 : Int32).toInt = ((2 : Nat) : Int) from by decide) hx hxt) E_a (ow70 hw) (ow71 hw) (ow73 hw) (ow72 hw) (ow38 hw) (ow74 hw) (pc' := 17) od7_14 rfl rfl rfl (by decide) pd__I_J rfl (by decide) (Nat.le_of_eq rfl) (by decide) (by decide) (by decide) (kJe ?_)
  refine C.lloadN (pc' := 18) od7_17 rfl rfl ?_
  refine C.lif_ne (pc' := 22) (pt := 44) od7_18 rfl od7_19 rfl rfl (fun c18 => ?_) (fun c18 => absurd c18 hne)
  refine C.aloadN (pc' := 45) od7_44 rfl rfl rfl ?_
  refine C.getf (ow60 hw) Via.refl F_a_size (pc' := 48) od7_45 rfl ?_
  refine C.aloadN (pc' := 49) od7_48 rfl rfl rfl ?_
  refine C.getf (ow51 hw) Via.refl F_a_times (pc' := 52) od7_49 rfl ?_
  refine C.lenAJ (z := 2) A_ta (by show (2 : Int32).toInt = ((2 : Nat) : Int); decide) (pc' := 53) od7_52 rfl ?_
  refine C.icmp_ne (pc' := 56) (pt := 67) od7_53 rfl rfl (fun c53 => absurd hsz c53) (fun c53 => ?_)
  refine C.aloadN (pc' := 57) od7_56 rfl rfl rfl ?_
  refine C.aloadN (pc' := 58) od7_57 rfl rfl rfl ?_
  refine C.getf (ow51 hw) Via.refl F_a_times (pc' := 61) od7_58 rfl ?_
  refine C.lenAJ (z := 2) A_ta (by show (2 : Int32).toInt = ((2 : Nat) : Int); decide) (pc' := 62) od7_61 rfl ?_
  refine C.iconst (v := 2) (pc' := 63) od7_62 rfl rfl ?_
  refine C.imul (pc' := 64) od7_63 rfl ?_
  refine C.callp (w := 0) (own_resize2 l Z a0 hw n0 hO a ((2 : Int32) * (2 : Int32)) ta pa hd sz cnt [t0, t1] [p0, p1] (2 : Int32) x0 x1 (Nat.le_trans Z0 K.1) E_a F_a_times F_a_permits F_a_head F_a_size F_a_counted A_ta A_pa g_a ne_a_ta ne_a_pa (show (2 : Int32).toInt = ((2 : Nat) : Int) from by decide) (by decide) hsz hx0 h2 h2 hx1 h3 h3) E_a (ow86 hw) (ow87 hw) (ow37 hw) (ow88 hw) (ow38 hw) (ow89 hw) (pc' := 67) od7_64 rfl rfl rfl (by decide) pd__I_V rfl (by decide) (Nat.le_of_eq rfl) (by decide) (by decide) (by decide) (kV fun h64 q64 => ?_)
  obtain ⟨tb64, pb64, K64, z64_tb64, z64_pb64, ne_tb64_pb64, N64_0, N64_1, N64_2, N64_3, N64_4, N64_5, N64_6⟩ := q64
  have ne_a_tb64 : a ≠ tb64 := Nat.ne_of_lt (Nat.lt_of_lt_of_le (exaLt E_a) z64_tb64)
  have ne_ta_tb64 : ta ≠ tb64 := Nat.ne_of_lt (Nat.lt_of_lt_of_le A_ta.lt z64_tb64)
  have ne_pa_tb64 : pa ≠ tb64 := Nat.ne_of_lt (Nat.lt_of_lt_of_le A_pa.lt z64_tb64)
  have sz_tb64 : hO.size ≤ tb64 := Nat.le_trans K.1 z64_tb64
  have g_tb64 : n0 ≤ tb64 := Nat.le_trans Z0 sz_tb64
  have ne_a_pb64 : a ≠ pb64 := Nat.ne_of_lt (Nat.lt_of_lt_of_le (exaLt E_a) z64_pb64)
  have ne_ta_pb64 : ta ≠ pb64 := Nat.ne_of_lt (Nat.lt_of_lt_of_le A_ta.lt z64_pb64)
  have ne_pa_pb64 : pa ≠ pb64 := Nat.ne_of_lt (Nat.lt_of_lt_of_le A_pa.lt z64_pb64)
  have sz_pb64 : hO.size ≤ pb64 := Nat.le_trans K.1 z64_pb64
  have g_pb64 : n0 ≤ pb64 := Nat.le_trans Z0 sz_pb64
  replace E_a := E_a.keep K64
  replace A_ta := A_ta.keep K64 (ninS (Ne.symm ne_a_ta) nin0)
  replace A_pa := A_pa.keep K64 (ninS (Ne.symm ne_a_pa) nin0)
  have F_a_times : Fld Z h64 a "com/example/steady_limiter/steadylimiter/SlidingWindowLog$PermitLog" "times" "[J" (.ref tb64) := N64_0
  have F_a_permits : Fld Z h64 a "com/example/steady_limiter/steadylimiter/SlidingWindowLog$PermitLog" "permits" "[J" (.ref pb64) := N64_1
  have F_a_head : Fld Z h64 a "com/example/steady_limiter/steadylimiter/SlidingWindowLog$PermitLog" "head" "I" (.int (0 : Int32)) := N64_2
  have F_a_size : Fld Z h64 a "com/example/steady_limiter/steadylimiter/SlidingWindowLog$PermitLog" "size" "I" (.int sz) := N64_3
  have F_a_counted : Fld Z h64 a "com/example/steady_limiter/steadylimiter/SlidingWindowLog$PermitLog" "counted" "J" (.long cnt) := N64_4
  have A_tb64 : AJ Z h64 tb64 [([t0, t1].getD x0 0), ([t0, t1].getD x1 0), (0 : Int64), (0 : Int64)] := N64_5
  have A_pb64 : AJ Z h64 pb64 [([p0, p1].getD x0 0), ([p0, p1].getD x1 0), (0 : Int64), (0 : Int64)] := N64_6
  replace K := K.trans K64 (allS (Or.inl (List.mem_of_getElem? (i := 0) rfl)) all0)
  refine C.aloadN (pc' := 68) od7_67 rfl rfl rfl ?_
  refine C.aloadN (pc' := 69) od7_68 rfl rfl rfl ?_
  refine C.getf (ow60 hw) Via.refl F_a_size (pc' := 72) od7_69 rfl ?_
  refine C.callp (w := 0) (own_rm8 l Z a0 hw n0 h64 a sz tb64 (0 : Int32) [([t0, t1].getD x0 0), ([t0, t1].getD x1 0), (0 : Int64), (0 : Int64)] (4 : Int32) F_a_head F_a_times A_tb64 (show (4 : Int32).toInt = ((4 : Nat) : Int) from by decide)) E_a (ow62 hw) (ow63 hw) (ow37 hw) (ow64 hw) (ow38 hw) (ow65 hw) (pc' := 75) od7_72 rfl rfl rfl (by decide) pd__I_I rfl (by decide) (Nat.le_of_eq rfl) (by decide) (by decide) (by decide) (kIe ?_)
  refine C.istoreX (l' := #[.val (.ref a), .val (.long t), .second, .val (.long c), .second, .val (.int (((0 : Int32) + sz) &&& ((4 : Int32) - (1 : Int32))))]) (pc' := 77) od7_75 rfl rfl ?_
  refine C.aloadN (pc' := 78) od7_77 rfl rfl rfl ?_
  refine C.getf (ow51 hw) Via.refl F_a_times (pc' := 81) od7_78 rfl ?_
  refine C.iload (pc' := 83) od7_81 rfl rfl ?_
  refine C.lloadN (pc' := 84) od7_83 rfl rfl ?_
  refine C.stAJ (i := 2) A_tb64 (by rw [hsz]; decide) (show 2 < 4 from by decide) g_tb64 (pc' := 85) od7_84 rfl (fun h84 X84 B84 => ?_)
  replace E_a := E_a.wr X84
  replace A_ta := A_ta.other X84 ne_ta_tb64
  replace A_pa := A_pa.other X84 ne_pa_tb64
  replace F_a_times := F_a_times.other X84 (Or.inl ne_a_tb64)
  replace F_a_permits := F_a_permits.other X84 (Or.inl ne_a_tb64)
  replace F_a_head := F_a_head.other X84 (Or.inl ne_a_tb64)
  replace F_a_size := F_a_size.other X84 (Or.inl ne_a_tb64)
  replace F_a_counted := F_a_counted.other X84 (Or.inl ne_a_tb64)
  replace A_pb64 := A_pb64.other X84 (Ne.symm ne_tb64_pb64)
  have A_tb64 : AJ Z h84 tb64 ([([t0, t1].getD x0 0), ([t0, t1].getD x1 0), (0 : Int64), (0 : Int64)].set 2 t) := B84
  replace K := K.wr X84 (Or.inr sz_tb64)
  refine C.aloadN (pc' := 86) od7_85 rfl rfl rfl ?_
  refine C.getf (ow53 hw) Via.refl F_a_permits (pc' := 89) od7_86 rfl ?_
  refine C.iload (pc' := 91) od7_89 rfl rfl ?_
  refine C.lloadN (pc' := 92) od7_91 rfl rfl ?_
  refine C.stAJ (i := 2) A_pb64 (by rw [hsz]; decide) (show 2 < 4 from by decide) g_pb64 (pc' := 93) od7_92 rfl (fun h92 X92 B92 => ?_)
  replace E_a := E_a.wr X92
  replace A_ta := A_ta.other X92 ne_ta_pb64
  replace A_pa := A_pa.other X92 ne_pa_pb64
  replace F_a_times := F_a_times.other X92 (Or.inl ne_a_pb64)
  replace F_a_permits := F_a_permits.other X92 (Or.inl ne_a_pb64)
  replace F_a_head := F_a_head.other X92 (Or.inl ne_a_pb64)
  replace F_a_size := F_a_size.other X92 (Or.inl ne_a_pb64)
  replace F_a_counted := F_a_counted.other X92 (Or.inl ne_a_pb64)
  replace A_tb64 := A_tb64.other X92 ne_tb64_pb64
  have A_pb64 : AJ Z h92 pb64 ([([p0, p1].getD x0 0), ([p0, p1].getD x1 0), (0 : Int64), (0 : Int64)].set 2 c) := B92
  replace K := K.wr X92 (Or.inr sz_pb64)
  refine C.aloadN (pc' := 94) od7_93 rfl rfl rfl ?_
  refine C.dup (pc' := 95) od7_94 rfl rfl ?_
  refine C.getf (ow60 hw) Via.refl F_a_size (pc' := 98) od7_95 rfl ?_
  refine C.iconst (v := 1) (pc' := 99) od7_98 rfl rfl ?_
  refine C.iadd (pc' := 100) od7_99 rfl ?_
  refine C.putf (ow60 hw) Via.refl F_a_size E_a (Or.inl (ow61 hw)) (ow37 hw) pf_I rfl rfl g_a (pc' := 103) od7_100 rfl (fun h100 X100 => ?_)
  replace F_a_size := F_a_size.same X100
  replace E_a := E_a.wr X100
  replace A_ta := A_ta.other X100 (Ne.symm ne_a_ta)
  replace A_pa := A_pa.other X100 (Ne.symm ne_a_pa)
  replace F_a_times := F_a_times.other X100 (Or.inr (sne_52_61 hw))
  replace F_a_permits := F_a_permits.other X100 (Or.inr (sne_54_61 hw))
  replace F_a_head := F_a_head.other X100 (Or.inr (sne_67_61 hw))
  replace F_a_counted := F_a_counted.other X100 (Or.inr (sne_69_61 hw))
  replace A_tb64 := A_tb64.other X100 (Ne.symm ne_a_tb64)
  replace A_pb64 := A_pb64.other X100 (Ne.symm ne_a_pb64)
  replace K := K.wr X100 (Or.inl (List.mem_of_getElem? (i := 0) rfl))
  refine C.aloadN (pc' := 104) od7_103 rfl rfl rfl ?_
  refine C.dup (pc' := 105) od7_104 rfl rfl ?_
  refine C.getf (ow68 hw) Via.refl F_a_counted (pc' := 108) od7_105 rfl ?_
  refine C.lloadN (pc' := 109) od7_108 rfl rfl ?_
  refine C.ladd (pc' := 110) od7_109 rfl ?_
  refine C.putf (ow68 hw) Via.refl F_a_counted E_a (Or.inl (ow69 hw)) (ow37 hw) pf_J rfl rfl g_a (pc' := 113) od7_110 rfl (fun h110 X110 => ?_)
  replace F_a_counted := F_a_counted.same X110
  replace E_a := E_a.wr X110
  replace A_ta := A_ta.other X110 (Ne.symm ne_a_ta)
  replace A_pa := A_pa.other X110 (Ne.symm ne_a_pa)
  replace F_a_times := F_a_times.other X110 (Or.inr (sne_52_69 hw))
  replace F_a_permits := F_a_permits.other X110 (Or.inr (sne_54_69 hw))
  replace F_a_head := F_a_head.other X110 (Or.inr (sne_67_69 hw))
  replace A_tb64 := A_tb64.other X110 (Ne.symm ne_a_tb64)
  replace A_pb64 := A_pb64.other X110 (Ne.symm ne_a_pb64)
  replace F_a_size := F_a_size.other X110 (Or.inr (sne_61_69 hw))
  replace K := K.wr X110 (Or.inl (List.mem_of_getElem? (i := 0) rfl))
  refine C.retV rfl od7_113 (by decide) (by decide) ⟨rfl, ?_⟩
  exact ⟨tb64, pb64, K, sz_tb64, sz_pb64, ne_tb64_pb64, F_a_times, F_a_permits, F_a_head, F_a_size, F_a_counted, A_tb64, A_pb64⟩
theorem od3_0 : decode prog_1_method_1_code 0 = .ok (.aload_n 0, 1) := by decide +kernel
theorem od3_1 : decode prog_1_method_1_code 1 = .ok (.invokespecial 1, 3) := by decide +kernel
theorem ow25 {a0 : Array Value} {Z : State} (hw : ∀ d ∈ tables_1, d.before a0 Z = true) : (Jvm.Cond.methodLink "com/example/steady_limiter/steadylimiter/Algorithm" (1 : Nat) ({ cls := "java/lang/Object", name := "<init>", desc := "()V" } : Jvm.MethodName)).before a0 Z = true := hw _ (List.mem_of_getElem? (i := 25) rfl)
theorem od3_4 : decode prog_1_method_1_code 4 = .ok (.aload_n 0, 1) := by decide +kernel
theorem od3_5 : decode prog_1_method_1_code 5 = .ok (.aload_n 1, 1) := by decide +kernel
theorem ow29 {a0 : Array Value} {Z : State} (hw : ∀ d ∈ tables_1, d.before a0 Z = true) : (Jvm.Cond.laysFinal "com/example/steady_limiter/steadylimiter/SlidingWindowLog" "com/example/steady_limiter/steadylimiter/Algorithm" "limitName" "Ljava/lang/String;").before a0 Z = true := hw _ (List.mem_of_getElem? (i := 29) rfl)
theorem ow28 {a0 : Array Value} {Z : State} (hw : ∀ d ∈ tables_1, d.before a0 Z = true) : (Jvm.Cond.fieldLink "com/example/steady_limiter/steadylimiter/Algorithm" (7 : Nat) "com/example/steady_limiter/steadylimiter/Algorithm" "limitName" "Ljava/lang/String;").before a0 Z = true := hw _ (List.mem_of_getElem? (i := 28) rfl)
theorem ow6 {a0 : Array Value} {Z : State} (hw : ∀ d ∈ tables_1, d.before a0 Z = true) : (Jvm.Cond.instantiable "com/example/steady_limiter/steadylimiter/SlidingWindowLog" (4 : Nat)).before a0 Z = true := hw _ (List.mem_of_getElem? (i := 6) rfl)
theorem pf_Ljava_lang_String_ : parseFieldDescriptor "Ljava/lang/String;" = some (.object "java/lang/String") := by decide
theorem od3_6 : decode prog_1_method_1_code 6 = .ok (.putfield 7, 3) := by decide +kernel
theorem ow31 {a0 : Array Value} {Z : State} (hw : ∀ d ∈ tables_1, d.before a0 Z = true) : (Jvm.Cond.laysFinal "com/example/steady_limiter/steadylimiter/SlidingWindowLog" "com/example/steady_limiter/steadylimiter/Algorithm" "limit" "J").before a0 Z = true := hw _ (List.mem_of_getElem? (i := 31) rfl)
theorem sne_31_29 {a0 : Array Value} {Z : State} (hw : ∀ d ∈ tables_1, d.before a0 Z = true) : Jvm.RoadKit.slotOf Z "com/example/steady_limiter/steadylimiter/Algorithm" "limit" "J" ≠ Jvm.RoadKit.slotOf Z "com/example/steady_limiter/steadylimiter/Algorithm" "limitName" "Ljava/lang/String;" := slot_ne (C := "com/example/steady_limiter/steadylimiter/SlidingWindowLog") (a0 := a0) (Or.inr (ow31 hw)) (Or.inr (ow29 hw)) (by decide) pf_J pf_Ljava_lang_String_
theorem ow33 {a0 : Array Value} {Z : State} (hw : ∀ d ∈ tables_1, d.before a0 Z = true) : (Jvm.Cond.laysFinal "com/example/steady_limiter/steadylimiter/SlidingWindowLog" "com/example/steady_limiter/steadylimiter/SlidingWindowLog" "maxRequests" "J").before a0 Z = true := hw _ (List.mem_of_getElem? (i := 33) rfl)
theorem sne_33_29 {a0 : Array Value} {Z : State} (hw : ∀ d ∈ tables_1, d.before a0 Z = true) : Jvm.RoadKit.slotOf Z "com/example/steady_limiter/steadylimiter/SlidingWindowLog" "maxRequests" "J" ≠ Jvm.RoadKit.slotOf Z "com/example/steady_limiter/steadylimiter/Algorithm" "limitName" "Ljava/lang/String;" := slot_ne (C := "com/example/steady_limiter/steadylimiter/SlidingWindowLog") (a0 := a0) (Or.inr (ow33 hw)) (Or.inr (ow29 hw)) (by decide) pf_J pf_Ljava_lang_String_
theorem ow35 {a0 : Array Value} {Z : State} (hw : ∀ d ∈ tables_1, d.before a0 Z = true) : (Jvm.Cond.laysFinal "com/example/steady_limiter/steadylimiter/SlidingWindowLog" "com/example/steady_limiter/steadylimiter/SlidingWindowLog" "windowNanos" "J").before a0 Z = true := hw _ (List.mem_of_getElem? (i := 35) rfl)
theorem sne_35_29 {a0 : Array Value} {Z : State} (hw : ∀ d ∈ tables_1, d.before a0 Z = true) : Jvm.RoadKit.slotOf Z "com/example/steady_limiter/steadylimiter/SlidingWindowLog" "windowNanos" "J" ≠ Jvm.RoadKit.slotOf Z "com/example/steady_limiter/steadylimiter/Algorithm" "limitName" "Ljava/lang/String;" := slot_ne (C := "com/example/steady_limiter/steadylimiter/SlidingWindowLog") (a0 := a0) (Or.inr (ow35 hw)) (Or.inr (ow29 hw)) (by decide) pf_J pf_Ljava_lang_String_
theorem od3_9 : decode prog_1_method_1_code 9 = .ok (.aload_n 0, 1) := by decide +kernel
theorem od3_10 : decode prog_1_method_1_code 10 = .ok (.lload_n 2, 1) := by decide +kernel
theorem ow30 {a0 : Array Value} {Z : State} (hw : ∀ d ∈ tables_1, d.before a0 Z = true) : (Jvm.Cond.fieldLink "com/example/steady_limiter/steadylimiter/Algorithm" (13 : Nat) "com/example/steady_limiter/steadylimiter/Algorithm" "limit" "J").before a0 Z = true := hw _ (List.mem_of_getElem? (i := 30) rfl)
theorem od3_11 : decode prog_1_method_1_code 11 = .ok (.putfield 13, 3) := by decide +kernel
theorem sne_33_31 {a0 : Array Value} {Z : State} (hw : ∀ d ∈ tables_1, d.before a0 Z = true) : Jvm.RoadKit.slotOf Z "com/example/steady_limiter/steadylimiter/SlidingWindowLog" "maxRequests" "J" ≠ Jvm.RoadKit.slotOf Z "com/example/steady_limiter/steadylimiter/Algorithm" "limit" "J" := slot_ne (C := "com/example/steady_limiter/steadylimiter/SlidingWindowLog") (a0 := a0) (Or.inr (ow33 hw)) (Or.inr (ow31 hw)) (by decide) pf_J pf_J
theorem sne_35_31 {a0 : Array Value} {Z : State} (hw : ∀ d ∈ tables_1, d.before a0 Z = true) : Jvm.RoadKit.slotOf Z "com/example/steady_limiter/steadylimiter/SlidingWindowLog" "windowNanos" "J" ≠ Jvm.RoadKit.slotOf Z "com/example/steady_limiter/steadylimiter/Algorithm" "limit" "J" := slot_ne (C := "com/example/steady_limiter/steadylimiter/SlidingWindowLog") (a0 := a0) (Or.inr (ow35 hw)) (Or.inr (ow31 hw)) (by decide) pf_J pf_J
theorem sne_29_31 {a0 : Array Value} {Z : State} (hw : ∀ d ∈ tables_1, d.before a0 Z = true) : Jvm.RoadKit.slotOf Z "com/example/steady_limiter/steadylimiter/Algorithm" "limitName" "Ljava/lang/String;" ≠ Jvm.RoadKit.slotOf Z "com/example/steady_limiter/steadylimiter/Algorithm" "limit" "J" := slot_ne (C := "com/example/steady_limiter/steadylimiter/SlidingWindowLog") (a0 := a0) (Or.inr (ow29 hw)) (Or.inr (ow31 hw)) (by decide) pf_Ljava_lang_String_ pf_J
theorem od3_14 : decode prog_1_method_1_code 14 = .ok (.return_, 1) := by decide +kernel
theorem ef_own_rm3 (m : MethodId) (x0 : Addr) (x1 : Addr) (x2 : Int64) : entryFrame m #[(.ref x0), (.ref x1), (.long x2)] 4 = mkF m 0 #[.val (.ref x0), .val (.ref x1), .val (.long x2), .second] [] := by first | (simp [entryFrame, mkF, argsToLocals, Value.category]; done) | rfl
theorem pn_com_example_steady_limiter_steadylimiter_Algorithm__init___Ljava_lang_String_J_V : plainFor (⟨"com/example/steady_limiter/steadylimiter/Algorithm", "<init>", "(Ljava/lang/String;J)V"⟩ : MethodName) = true := plainFor_of_name (by first | (simp [plainName, overriddenIn]; done) | decide +kernel)
set_option maxRecDepth 65536 in
set_option maxHeartbeats 40000000 in
theorem own_rm3 (l : Launch) (Z : State) (a0 : Array Value) (hw : ∀ d ∈ tables_1, d.before a0 Z = true) (n0 : Nat) (hO : Heap) (a : Addr) (nm : Addr) (x : Int64) (Z0 : n0 ≤ hO.size) (E_a : Exa Z hO a "com/example/steady_limiter/steadylimiter/SlidingWindowLog") (F_a_limitName : Fld Z hO a "com/example/steady_limiter/steadylimiter/Algorithm" "limitName" "Ljava/lang/String;" .null) (F_a_limit : Fld Z hO a "com/example/steady_limiter/steadylimiter/Algorithm" "limit" "J" (.long (0 : Int64))) (F_a_maxRequests : Fld Z hO a "com/example/steady_limiter/steadylimiter/SlidingWindowLog" "maxRequests" "J" (.long (0 : Int64))) (F_a_windowNanos : Fld Z hO a "com/example/steady_limiter/steadylimiter/SlidingWindowLog" "windowNanos" "J" (.long (0 : Int64))) (g_a : n0 ≤ a) :
    MeetsW l Z n0 (⟨"com/example/steady_limiter/steadylimiter/Algorithm", "<init>", "(Ljava/lang/String;J)V"⟩ : MethodName) prog_1_method_1_code 4 none ({ frames := 1, cells := 0, slots := 0, locals := 12 } : Room) #[(.ref a), (.ref nm), (.long x)] hO (RV fun h => Keep hO h [a] ∧ Fld Z h a "com/example/steady_limiter/steadylimiter/SlidingWindowLog" "maxRequests" "J" (.long (0 : Int64)) ∧ Fld Z h a "com/example/steady_limiter/steadylimiter/SlidingWindowLog" "windowNanos" "J" (.long (0 : Int64))) := by
  refine MeetsW.intro pn_com_example_steady_limiter_steadylimiter_Algorithm__init___Ljava_lang_String_J_V (fun m => ef_own_rm3 m a nm x) ?_
  intro W C
  replace C : Ru l Z "com/example/steady_limiter/steadylimiter/Algorithm" prog_1_method_1_code 4 none "<init>" ({ frames := 1, cells := 0, slots := 0, locals := 12 } : Room) n0 (RV fun h => Keep hO h [a] ∧ Fld Z h a "com/example/steady_limiter/steadylimiter/SlidingWindowLog" "maxRequests" "J" (.long (0 : Int64)) ∧ Fld Z h a "com/example/steady_limiter/steadylimiter/SlidingWindowLog" "windowNanos" "J" (.long (0 : Int64))) W := C
  have K : Keep hO hO [a] := Keep.refl _ _
  refine C.aloadN (pc' := 1) od3_0 rfl rfl rfl ?_
  refine C.initObj (w := 0) (ow25 hw) (ow26 hw) (ow27 hw) (pc' := 4) od3_1 rfl rfl (by decide) (Nat.le_of_eq rfl) (by decide) ?_
  refine C.aloadN (pc' := 5) od3_4 rfl rfl rfl ?_
  refine C.aloadN (pc' := 6) od3_5 rfl rfl rfl ?_
  refine C.putf (ow28 hw) Via.refl F_a_limitName E_a (Or.inr ⟨(ow29 hw), rfl, rfl⟩) (ow6 hw) pf_Ljava_lang_String_ rfl rfl g_a (pc' := 9) od3_6 rfl (fun h6 X6 => ?_)
  replace F_a_limitName := F_a_limitName.same X6
  replace E_a := E_a.wr X6
  replace F_a_limit := F_a_limit.other X6 (Or.inr (sne_31_29 hw))
  replace F_a_maxRequests := F_a_maxRequests.other X6 (Or.inr (sne_33_29 hw))
  replace F_a_windowNanos := F_a_windowNanos.other X6 (Or.inr (sne_35_29 hw))
  replace K := K.wr X6 (Or.inl (List.mem_of_getElem? (i := 0) rfl))
  refine C.aloadN (pc' := 10) od3_9 rfl rfl rfl ?_
  refine C.lloadN (pc' := 11) od3_10 rfl rfl ?_
  refine C.putf (ow30 hw) Via.refl F_a_limit E_a (Or.inr ⟨(ow31 hw), rfl, rfl⟩) (ow6 hw) pf_J rfl rfl g_a (pc' := 14) od3_11 rfl (fun h11 X11 => ?_)
  replace F_a_limit := F_a_limit.same X11
  replace E_a := E_a.wr X11
  replace F_a_maxRequests := F_a_maxRequests.other X11 (Or.inr (sne_33_31 hw))
  replace F_a_windowNanos := F_a_windowNanos.other X11 (Or.inr (sne_35_31 hw))
  replace F_a_limitName := F_a_limitName.other X11 (Or.inr (sne_29_31 hw))
  replace K := K.wr X11 (Or.inl (List.mem_of_getElem? (i := 0) rfl))
  refine C.retV rfl od3_14 (by decide) (by decide) ⟨rfl, ?_⟩
  exact ⟨K, F_a_maxRequests, F_a_windowNanos⟩
theorem od2_0 : decode prog_18_method_1_code 0 = .ok (.aload_n 0, 1) := by decide +kernel
theorem owS {a0 : Array Value} {Z : State} (hw : ∀ d ∈ tables_1, d.before a0 Z = true) : ∀ a ∈ Bundle.stringAtoms, a.before a0 Z = true := fun a ha => hw a (by simp only [Bundle.stringAtoms, List.mem_cons, List.not_mem_nil, or_false] at ha; rcases ha with rfl | rfl | rfl | rfl | rfl | rfl | rfl <;> first | exact List.mem_of_getElem? (i := 13) rfl | exact List.mem_of_getElem? (i := 14) rfl | exact List.mem_of_getElem? (i := 15) rfl | exact List.mem_of_getElem? (i := 16) rfl | exact List.mem_of_getElem? (i := 17) rfl | exact List.mem_of_getElem? (i := 18) rfl | exact List.mem_of_getElem? (i := 19) rfl)
theorem ow12 {a0 : Array Value} {Z : State} (hw : ∀ d ∈ tables_1, d.before a0 Z = true) : (Jvm.Cond.stringLink "com/example/steady_limiter/steadylimiter/SlidingWindowLog" (1 : Nat) "maximum").before a0 Z = true := hw _ (List.mem_of_getElem? (i := 12) rfl)
theorem od2_1 : decode prog_18_method_1_code 1 = .ok (.ldc 1, 2) := by decide +kernel
theorem od2_3 : decode prog_18_method_1_code 3 = .ok (.lload_n 1, 1) := by decide +kernel
theorem od2_4 : decode prog_18_method_1_code 4 = .ok (.invokespecial 3, 3) := by decide +kernel
theorem pd__Ljava_lang_String_J_V : parseMethodDescriptor "(Ljava/lang/String;J)V" = some ⟨[(.object "java/lang/String"), .long], none⟩ := by decide +kernel
theorem ow24 {a0 : Array Value} {Z : State} (hw : ∀ d ∈ tables_1, d.before a0 Z = true) : (Jvm.Cond.code ({ cls := "com/example/steady_limiter/steadylimiter/Algorithm", name := "<init>", desc := "(Ljava/lang/String;J)V" } : Jvm.MethodName) prog_1_method_1_code (4 : Nat) (Option.none : Option Jvm.ClassFile.FieldType)).before a0 Z = true := hw _ (List.mem_of_getElem? (i := 24) rfl)
theorem ow23 {a0 : Array Value} {Z : State} (hw : ∀ d ∈ tables_1, d.before a0 Z = true) : (Jvm.Cond.initialized "com/example/steady_limiter/steadylimiter/Algorithm").before a0 Z = true := hw _ (List.mem_of_getElem? (i := 23) rfl)
theorem ow20 {a0 : Array Value} {Z : State} (hw : ∀ d ∈ tables_1, d.before a0 Z = true) : (Jvm.Cond.methodLink "com/example/steady_limiter/steadylimiter/SlidingWindowLog" (3 : Nat) ({ cls := "com/example/steady_limiter/steadylimiter/Algorithm", name := "<init>", desc := "(Ljava/lang/String;J)V" } : Jvm.MethodName)).before a0 Z = true := hw _ (List.mem_of_getElem? (i := 20) rfl)
theorem ow21 {a0 : Array Value} {Z : State} (hw : ∀ d ∈ tables_1, d.before a0 Z = true) : (Jvm.Cond.instanceMethod ({ cls := "com/example/steady_limiter/steadylimiter/Algorithm", name := "<init>", desc := "(Ljava/lang/String;J)V" } : Jvm.MethodName)).before a0 Z = true := hw _ (List.mem_of_getElem? (i := 21) rfl)
theorem od2_7 : decode prog_18_method_1_code 7 = .ok (.aload_n 0, 1) := by decide +kernel
theorem od2_8 : decode prog_18_method_1_code 8 = .ok (.lload_n 1, 1) := by decide +kernel
theorem ow32 {a0 : Array Value} {Z : State} (hw : ∀ d ∈ tables_1, d.before a0 Z = true) : (Jvm.Cond.fieldLink "com/example/steady_limiter/steadylimiter/SlidingWindowLog" (9 : Nat) "com/example/steady_limiter/steadylimiter/SlidingWindowLog" "maxRequests" "J").before a0 Z = true := hw _ (List.mem_of_getElem? (i := 32) rfl)
theorem od2_9 : decode prog_18_method_1_code 9 = .ok (.putfield 9, 3) := by decide +kernel
theorem sne_35_33 {a0 : Array Value} {Z : State} (hw : ∀ d ∈ tables_1, d.before a0 Z = true) : Jvm.RoadKit.slotOf Z "com/example/steady_limiter/steadylimiter/SlidingWindowLog" "windowNanos" "J" ≠ Jvm.RoadKit.slotOf Z "com/example/steady_limiter/steadylimiter/SlidingWindowLog" "maxRequests" "J" := slot_ne (C := "com/example/steady_limiter/steadylimiter/SlidingWindowLog") (a0 := a0) (Or.inr (ow35 hw)) (Or.inr (ow33 hw)) (by decide) pf_J pf_J
theorem od2_12 : decode prog_18_method_1_code 12 = .ok (.aload_n 0, 1) := by decide +kernel
theorem od2_13 : decode prog_18_method_1_code 13 = .ok (.lload_n 3, 1) := by decide +kernel
theorem ow34 {a0 : Array Value} {Z : State} (hw : ∀ d ∈ tables_1, d.before a0 Z = true) : (Jvm.Cond.fieldLink "com/example/steady_limiter/steadylimiter/SlidingWindowLog" (15 : Nat) "com/example/steady_limiter/steadylimiter/SlidingWindowLog" "windowNanos" "J").before a0 Z = true := hw _ (List.mem_of_getElem? (i := 34) rfl)
theorem od2_14 : decode prog_18_method_1_code 14 = .ok (.putfield 15, 3) := by decide +kernel
theorem sne_33_35 {a0 : Array Value} {Z : State} (hw : ∀ d ∈ tables_1, d.before a0 Z = true) : Jvm.RoadKit.slotOf Z "com/example/steady_limiter/steadylimiter/SlidingWindowLog" "maxRequests" "J" ≠ Jvm.RoadKit.slotOf Z "com/example/steady_limiter/steadylimiter/SlidingWindowLog" "windowNanos" "J" := slot_ne (C := "com/example/steady_limiter/steadylimiter/SlidingWindowLog") (a0 := a0) (Or.inr (ow33 hw)) (Or.inr (ow35 hw)) (by decide) pf_J pf_J
theorem od2_17 : decode prog_18_method_1_code 17 = .ok (.return_, 1) := by decide +kernel
theorem ef_own_rm2 (m : MethodId) (x0 : Addr) (x1 : Int64) (x2 : Int64) : entryFrame m #[(.ref x0), (.long x1), (.long x2)] 5 = mkF m 0 #[.val (.ref x0), .val (.long x1), .second, .val (.long x2), .second] [] := by first | (simp [entryFrame, mkF, argsToLocals, Value.category]; done) | rfl
theorem pn_com_example_steady_limiter_steadylimiter_SlidingWindowLog__init___JJ_V : plainFor (⟨"com/example/steady_limiter/steadylimiter/SlidingWindowLog", "<init>", "(JJ)V"⟩ : MethodName) = true := plainFor_of_name (by first | (simp [plainName, overriddenIn]; done) | decide +kernel)
set_option maxRecDepth 65536 in
set_option maxHeartbeats 40000000 in
theorem own_rm2 (l : Launch) (Z : State) (a0 : Array Value) (hw : ∀ d ∈ tables_1, d.before a0 Z = true) (n0 : Nat) (hO : Heap) (a : Addr) (mx : Int64) (w : Int64) (Z0 : n0 ≤ hO.size) (E_a : Exa Z hO a "com/example/steady_limiter/steadylimiter/SlidingWindowLog") (F_a_limitName : Fld Z hO a "com/example/steady_limiter/steadylimiter/Algorithm" "limitName" "Ljava/lang/String;" .null) (F_a_limit : Fld Z hO a "com/example/steady_limiter/steadylimiter/Algorithm" "limit" "J" (.long (0 : Int64))) (F_a_maxRequests : Fld Z hO a "com/example/steady_limiter/steadylimiter/SlidingWindowLog" "maxRequests" "J" (.long (0 : Int64))) (F_a_windowNanos : Fld Z hO a "com/example/steady_limiter/steadylimiter/SlidingWindowLog" "windowNanos" "J" (.long (0 : Int64))) (g_a : n0 ≤ a) :
    MeetsX l Z n0 (⟨"com/example/steady_limiter/steadylimiter/SlidingWindowLog", "<init>", "(JJ)V"⟩ : MethodName) prog_18_method_1_code 5 none ({ frames := 2, cells := 2, slots := 32, locals := 27 } : Room) #[(.ref a), (.long mx), (.long w)] hO (RV fun h => Keep hO h [a] ∧ Fld Z h a "com/example/steady_limiter/steadylimiter/SlidingWindowLog" "windowNanos" "J" (.long w)) := by
  refine MeetsX.intro pn_com_example_steady_limiter_steadylimiter_SlidingWindowLog__init___JJ_V (fun m => ef_own_rm2 m a mx w) ?_
  intro W C
  replace C : RuX l Z "com/example/steady_limiter/steadylimiter/SlidingWindowLog" prog_18_method_1_code 5 none "<init>" ({ frames := 2, cells := 2, slots := 32, locals := 27 } : Room) n0 (RV fun h => Keep hO h [a] ∧ Fld Z h a "com/example/steady_limiter/steadylimiter/SlidingWindowLog" "windowNanos" "J" (.long w)) W := C
  have K : Keep hO hO [a] := Keep.refl _ _
  refine C.ru.aloadN (pc' := 1) od2_0 rfl rfl rfl ?_
  refine C.ldcS (nn := 28) (ow12 hw) (owS hw) (pc' := 3) od2_1 rfl (by decide) (by decide) (by decide) (by decide) (fun h1 b1 W X1 C => ?_)
  replace E_a := E_a.ext X1
  replace F_a_limitName := F_a_limitName.ext X1
  replace F_a_limit := F_a_limit.ext X1
  replace F_a_maxRequests := F_a_maxRequests.ext X1
  replace F_a_windowNanos := F_a_windowNanos.ext X1
  replace K := K.ext X1
  have Sz1 : h1.size ≤ h1.size := Nat.le_refl _
  refine C.lloadN (pc' := 4) od2_3 rfl rfl ?_
  refine C.callc (w := 0) (own_rm3 l Z a0 hw n0 h1 a b1 mx (Nat.le_trans Z0 K.1) E_a F_a_limitName F_a_limit F_a_maxRequests F_a_windowNanos g_a) rfl (ow20 hw) (ow21 hw) (ow23 hw) (ow24 hw) (pc' := 7) od2_4 rfl rfl rfl (by decide) pd__Ljava_lang_String_J_V rfl (by decide) (Nat.le_of_eq rfl) (by decide) (by decide) (by decide) (kV fun h4 q4 => ?_)
  obtain ⟨K4, N4_0, N4_1⟩ := q4
  replace E_a := E_a.keep K4
  replace Sz1 := Nat.le_trans Sz1 K4.1
  have F_a_maxRequests : Fld Z h4 a "com/example/steady_limiter/steadylimiter/SlidingWindowLog" "maxRequests" "J" (.long (0 : Int64)) := N4_0
  have F_a_windowNanos : Fld Z h4 a "com/example/steady_limiter/steadylimiter/SlidingWindowLog" "windowNanos" "J" (.long (0 : Int64)) := N4_1
  replace K := K.trans K4 (allS (Or.inl (List.mem_of_getElem? (i := 0) rfl)) all0)
  refine C.aloadN (pc' := 8) od2_7 rfl rfl rfl ?_
  refine C.lloadN (pc' := 9) od2_8 rfl rfl ?_
  refine C.putf (ow32 hw) Via.refl F_a_maxRequests E_a (Or.inr ⟨(ow33 hw), rfl, rfl⟩) (ow6 hw) pf_J rfl rfl g_a (pc' := 12) od2_9 rfl (fun h9 X9 => ?_)
  replace F_a_maxRequests := F_a_maxRequests.same X9
  replace E_a := E_a.wr X9
  replace F_a_windowNanos := F_a_windowNanos.other X9 (Or.inr (sne_35_33 hw))
  replace Sz1 := Nat.le_trans Sz1 (szW X9)
  replace K := K.wr X9 (Or.inl (List.mem_of_getElem? (i := 0) rfl))
  refine C.aloadN (pc' := 13) od2_12 rfl rfl rfl ?_
  refine C.lloadN (pc' := 14) od2_13 rfl rfl ?_
  refine C.putf (ow34 hw) Via.refl F_a_windowNanos E_a (Or.inr ⟨(ow35 hw), rfl, rfl⟩) (ow6 hw) pf_J rfl rfl g_a (pc' := 17) od2_14 rfl (fun h14 X14 => ?_)
  replace F_a_windowNanos := F_a_windowNanos.same X14
  replace E_a := E_a.wr X14
  replace F_a_maxRequests := F_a_maxRequests.other X14 (Or.inr (sne_33_35 hw))
  replace Sz1 := Nat.le_trans Sz1 (szW X14)
  replace K := K.wr X14 (Or.inl (List.mem_of_getElem? (i := 0) rfl))
  refine C.retV rfl od2_17 (by decide) (by decide) ⟨⟨rfl, ?_⟩, Sz1⟩
  exact ⟨K, F_a_windowNanos⟩
theorem od11_0 : decode prog_18_method_8_code 0 = .ok (.aload_n 0, 1) := by decide +kernel
theorem od11_1 : decode prog_18_method_8_code 1 = .ok (.getfield 15, 3) := by decide +kernel
theorem od11_4 : decode prog_18_method_8_code 4 = .ok (.lload_n 3, 1) := by decide +kernel
theorem od11_5 : decode prog_18_method_8_code 5 = .ok (.lload_n 1, 1) := by decide +kernel
theorem od11_6 : decode prog_18_method_8_code 6 = .ok (.lsub, 1) := by decide +kernel
theorem od11_7 : decode prog_18_method_8_code 7 = .ok (.lsub, 1) := by decide +kernel
theorem od11_8 : decode prog_18_method_8_code 8 = .ok (.lreturn, 1) := by decide +kernel
theorem ef_own_rm11 (m : MethodId) (x0 : Addr) (x1 : Int64) (x2 : Int64) : entryFrame m #[(.ref x0), (.long x1), (.long x2)] 5 = mkF m 0 #[.val (.ref x0), .val (.long x1), .second, .val (.long x2), .second] [] := by first | (simp [entryFrame, mkF, argsToLocals, Value.category]; done) | rfl
theorem pn_com_example_steady_limiter_steadylimiter_SlidingWindowLog_nanosUntilLeaving__JJ_J : plainFor (⟨"com/example/steady_limiter/steadylimiter/SlidingWindowLog", "nanosUntilLeaving", "(JJ)J"⟩ : MethodName) = true := plainFor_of_name (by first | (simp [plainName, overriddenIn]; done) | decide +kernel)
set_option maxRecDepth 65536 in
set_option maxHeartbeats 40000000 in
theorem own_rm11 (l : Launch) (Z : State) (a0 : Array Value) (hw : ∀ d ∈ tables_1, d.before a0 Z = true) (n0 : Nat) (hO : Heap) (o : Addr) (t : Int64) (now : Int64) (w : Int64) (F_o_windowNanos : Fld Z hO o "com/example/steady_limiter/steadylimiter/SlidingWindowLog" "windowNanos" "J" (.long w)) :
    MeetsW l Z n0 (⟨"com/example/steady_limiter/steadylimiter/SlidingWindowLog", "nanosUntilLeaving", "(JJ)J"⟩ : MethodName) prog_18_method_8_code 5 (some .long) ({ frames := 0, cells := 0, slots := 0, locals := 0 } : Room) #[(.ref o), (.long t), (.long now)] hO (RJ fun r h => r = (w - (now - t)) ∧ h = hO) := by
  refine MeetsW.intro pn_com_example_steady_limiter_steadylimiter_SlidingWindowLog_nanosUntilLeaving__JJ_J (fun m => ef_own_rm11 m o t now) ?_
  intro W C
  replace C : Ru l Z "com/example/steady_limiter/steadylimiter/SlidingWindowLog" prog_18_method_8_code 5 (some .long) "nanosUntilLeaving" ({ frames := 0, cells := 0, slots := 0, locals := 0 } : Room) n0 (RJ fun r h => r = (w - (now - t)) ∧ h = hO) W := C
  refine C.aloadN (pc' := 1) od11_0 rfl rfl rfl ?_
  refine C.getf (ow34 hw) Via.refl F_o_windowNanos (pc' := 4) od11_1 rfl ?_
  refine C.lloadN (pc' := 5) od11_4 rfl rfl ?_
  refine C.lloadN (pc' := 6) od11_5 rfl rfl ?_
  refine C.lsub (pc' := 7) od11_6 rfl ?_
  refine C.lsub (pc' := 8) od11_7 rfl ?_
  refine C.retJ rfl od11_8 (by decide) (by decide) ⟨_, rfl, ?_⟩
  exact ⟨(by subst_vars; rfl), rfl⟩
theorem od10_0 : decode prog_18_method_7_code 0 = .ok (.lconst 0, 1) := by decide +kernel
theorem od10_1 : decode prog_18_method_7_code 1 = .ok (.lstore 4, 2) := by decide +kernel
theorem od10_3 : decode prog_18_method_7_code 3 = .ok (.aload_n 1, 1) := by decide +kernel
theorem ow80 {a0 : Array Value} {Z : State} (hw : ∀ d ∈ tables_1, d.before a0 Z = true) : (Jvm.Cond.fieldLink "com/example/steady_limiter/steadylimiter/SlidingWindowLog" (23 : Nat) "com/example/steady_limiter/steadylimiter/SlidingWindowLog$PermitLog" "size" "I").before a0 Z = true := hw _ (List.mem_of_getElem? (i := 80) rfl)
theorem od10_4 : decode prog_18_method_7_code 4 = .ok (.getfield 23, 3) := by decide +kernel
theorem od10_7 : decode prog_18_method_7_code 7 = .ok (.ifCond .le 20, 3) := by decide +kernel
theorem od10_27 : decode prog_18_method_7_code 27 = .ok (.lload 4, 2) := by decide +kernel
theorem od10_29 : decode prog_18_method_7_code 29 = .ok (.lreturn, 1) := by decide +kernel
theorem ef_own_fresh0 (m : MethodId) (x0 : Addr) (x1 : Addr) (x2 : Int64) : entryFrame m #[(.ref x0), (.ref x1), (.long x2)] 6 = mkF m 0 #[.val (.ref x0), .val (.ref x1), .val (.long x2), .second, .unset, .unset] [] := by first | (simp [entryFrame, mkF, argsToLocals, Value.category]; done) | rfl
theorem pn_com_example_steady_limiter_steadylimiter_SlidingWindowLog_nanosUntilFresh__Lcom_example_steady_limiter_steadylimiter_SlidingWindowLog_PermitLog_J_J : plainFor (⟨"com/example/steady_limiter/steadylimiter/SlidingWindowLog", "nanosUntilFresh", "(Lcom/example/steady_limiter/steadylimiter/SlidingWindowLog$PermitLog;J)J"⟩ : MethodName) = true := plainFor_of_name (by first | (simp [plainName, overriddenIn]; done) | decide +kernel)
set_option maxRecDepth 65536 in
set_option maxHeartbeats 40000000 in
theorem own_fresh0 (l : Launch) (Z : State) (a0 : Array Value) (hw : ∀ d ∈ tables_1, d.before a0 Z = true) (n0 : Nat) (hO : Heap) (o : Addr) (a : Addr) (now : Int64) (sz : Int32) (F_a_size : Fld Z hO a "com/example/steady_limiter/steadylimiter/SlidingWindowLog$PermitLog" "size" "I" (.int sz)) (h0 : ¬ (0 < sz)) :
    MeetsW l Z n0 (⟨"com/example/steady_limiter/steadylimiter/SlidingWindowLog", "nanosUntilFresh", "(Lcom/example/steady_limiter/steadylimiter/SlidingWindowLog$PermitLog;J)J"⟩ : MethodName) prog_18_method_7_code 6 (some .long) ({ frames := 0, cells := 0, slots := 0, locals := 0 } : Room) #[(.ref o), (.ref a), (.long now)] hO (RJ fun r h => r = (0 : Int64) ∧ h = hO) := by
  refine MeetsW.intro pn_com_example_steady_limiter_steadylimiter_SlidingWindowLog_nanosUntilFresh__Lcom_example_steady_limiter_steadylimiter_SlidingWindowLog_PermitLog_J_J (fun m => ef_own_fresh0 m o a now) ?_
  intro W C
  replace C : Ru l Z "com/example/steady_limiter/steadylimiter/SlidingWindowLog" prog_18_method_7_code 6 (some .long) "nanosUntilFresh" ({ frames := 0, cells := 0, slots := 0, locals := 0 } : Room) n0 (RJ fun r h => r = (0 : Int64) ∧ h = hO) W := C
  refine C.lconst (v := 0) (pc' := 1) od10_0 rfl rfl ?_
  refine C.lstoreX (l' := #[.val (.ref o), .val (.ref a), .val (.long now), .second, .val (.long (0 : Int64)), .second]) (pc' := 3) od10_1 rfl rfl ?_
  refine C.aloadN (pc' := 4) od10_3 rfl rfl rfl ?_
  refine C.getf (ow80 hw) Via.refl F_a_size (pc' := 7) od10_4 rfl ?_
  refine C.if_le (pc' := 10) (pt := 27) od10_7 rfl rfl (fun c7 => ?_) (fun c7 => absurd c7 h0)
  refine C.lload (pc' := 29) od10_27 rfl rfl ?_
  refine C.retJ rfl od10_29 (by decide) (by decide) ⟨_, rfl, ?_⟩
  exact ⟨(by subst_vars; rfl), rfl⟩
theorem od10_10 : decode prog_18_method_7_code 10 = .ok (.aload_n 0, 1) := by decide +kernel
theorem od10_11 : decode prog_18_method_7_code 11 = .ok (.aload_n 1, 1) := by decide +kernel
theorem od10_12 : decode prog_18_method_7_code 12 = .ok (.aload_n 1, 1) := by decide +kernel
theorem od10_13 : decode prog_18_method_7_code 13 = .ok (.getfield 23, 3) := by decide +kernel
theorem od10_16 : decode prog_18_method_7_code 16 = .ok (.iconst 1, 1) := by decide +kernel
theorem od10_17 : decode prog_18_method_7_code 17 = .ok (.isub, 1) := by decide +kernel
theorem od10_18 : decode prog_18_method_7_code 18 = .ok (.invokevirtual 27, 3) := by decide +kernel
theorem ow81 {a0 : Array Value} {Z : State} (hw : ∀ d ∈ tables_1, d.before a0 Z = true) : (Jvm.Cond.methodLink "com/example/steady_limiter/steadylimiter/SlidingWindowLog" (27 : Nat) ({ cls := "com/example/steady_limiter/steadylimiter/SlidingWindowLog$PermitLog", name := "timeAt", desc := "(I)J" } : Jvm.MethodName)).before a0 Z = true := hw _ (List.mem_of_getElem? (i := 81) rfl)
theorem od10_21 : decode prog_18_method_7_code 21 = .ok (.lload_n 2, 1) := by decide +kernel
theorem od10_22 : decode prog_18_method_7_code 22 = .ok (.invokevirtual 47, 3) := by decide +kernel
theorem pd__JJ_J : parseMethodDescriptor "(JJ)J" = some ⟨[.long, .long], some .long⟩ := by decide +kernel
theorem ow85 {a0 : Array Value} {Z : State} (hw : ∀ d ∈ tables_1, d.before a0 Z = true) : (Jvm.Cond.code ({ cls := "com/example/steady_limiter/steadylimiter/SlidingWindowLog", name := "nanosUntilLeaving", desc := "(JJ)J" } : Jvm.MethodName) prog_18_method_8_code (5 : Nat) (Option.some Jvm.ClassFile.FieldType.long)).before a0 Z = true := hw _ (List.mem_of_getElem? (i := 85) rfl)
theorem ow7 {a0 : Array Value} {Z : State} (hw : ∀ d ∈ tables_1, d.before a0 Z = true) : (Jvm.Cond.initialized "com/example/steady_limiter/steadylimiter/SlidingWindowLog").before a0 Z = true := hw _ (List.mem_of_getElem? (i := 7) rfl)
theorem ow82 {a0 : Array Value} {Z : State} (hw : ∀ d ∈ tables_1, d.before a0 Z = true) : (Jvm.Cond.methodLink "com/example/steady_limiter/steadylimiter/SlidingWindowLog" (47 : Nat) ({ cls := "com/example/steady_limiter/steadylimiter/SlidingWindowLog", name := "nanosUntilLeaving", desc := "(JJ)J" } : Jvm.MethodName)).before a0 Z = true := hw _ (List.mem_of_getElem? (i := 82) rfl)
theorem ow83 {a0 : Array Value} {Z : State} (hw : ∀ d ∈ tables_1, d.before a0 Z = true) : (Jvm.Cond.instanceMethod ({ cls := "com/example/steady_limiter/steadylimiter/SlidingWindowLog", name := "nanosUntilLeaving", desc := "(JJ)J" } : Jvm.MethodName)).before a0 Z = true := hw _ (List.mem_of_getElem? (i := 83) rfl)
theorem ow84 {a0 : Array Value} {Z : State} (hw : ∀ d ∈ tables_1, d.before a0 Z = true) : (Jvm.Cond.privateMethod ({ cls := "com/example/steady_limiter/steadylimiter/SlidingWindowLog", name := "nanosUntilLeaving", desc := "(JJ)J" } : Jvm.MethodName)).before a0 Z = true := hw _ (List.mem_of_getElem? (i := 84) rfl)
theorem od10_25 : decode prog_18_method_7_code 25 = .ok (.lstore 4, 2) := by decide +kernel
theorem ef_own_fresh1 (m : MethodId) (x0 : Addr) (x1 : Addr) (x2 : Int64) : entryFrame m #[(.ref x0), (.ref x1), (.long x2)] 6 = mkF m 0 #[.val (.ref x0), .val (.ref x1), .val (.long x2), .second, .unset, .unset] [] := by first | (simp [entryFrame, mkF, argsToLocals, Value.category]; done) | rfl
set_option maxRecDepth 65536 in
set_option maxHeartbeats 40000000 in
theorem own_fresh1 (l : Launch) (Z : State) (a0 : Array Value) (hw : ∀ d ∈ tables_1, d.before a0 Z = true) (n0 : Nat) (hO : Heap) (o : Addr) (a : Addr) (now : Int64) (w : Int64) (ta : Addr) (hd : Int32) (sz : Int32) (T : List Int64) (len : Int32) (x : Nat) (E_o : Exa Z hO o "com/example/steady_limiter/steadylimiter/SlidingWindowLog") (E_a : Exa Z hO a "com/example/steady_limiter/steadylimiter/SlidingWindowLog$PermitLog") (F_o_windowNanos : Fld Z hO o "com/example/steady_limiter/steadylimiter/SlidingWindowLog" "windowNanos" "J" (.long w)) (F_a_size : Fld Z hO a "com/example/steady_limiter/steadylimiter/SlidingWindowLog$PermitLog" "size" "I" (.int sz)) (F_a_head : Fld Z hO a "com/example/steady_limiter/steadylimiter/SlidingWindowLog$PermitLog" "head" "I" (.int hd)) (F_a_times : Fld Z hO a "com/example/steady_limiter/steadylimiter/SlidingWindowLog$PermitLog" "times" "[J" (.ref ta)) (A_ta : AJ Z hO ta T) (hlen : len.toInt = (T.length : Int)) (h0 : 0 < sz) (hx : ((hd + (sz - (1 : Int32))) &&& (len - (1 : Int32))).toInt = (x : Int)) (hxt : x < T.length) :
    MeetsW l Z n0 (⟨"com/example/steady_limiter/steadylimiter/SlidingWindowLog", "nanosUntilFresh", "(Lcom/example/steady_limiter/steadylimiter/SlidingWindowLog$PermitLog;J)J"⟩ : MethodName) prog_18_method_7_code 6 (some .long) ({ frames := 2, cells := 0, slots := 0, locals := 28 } : Room) #[(.ref o), (.ref a), (.long now)] hO (RJ fun r h => r = (w - (now - T.getD x 0)) ∧ h = hO) := by
  refine MeetsW.intro pn_com_example_steady_limiter_steadylimiter_SlidingWindowLog_nanosUntilFresh__Lcom_example_steady_limiter_steadylimiter_SlidingWindowLog_PermitLog_J_J (fun m => ef_own_fresh1 m o a now) ?_
  intro W C
  replace C : Ru l Z "com/example/steady_limiter/steadylimiter/SlidingWindowLog" prog_18_method_7_code 6 (some .long) "nanosUntilFresh" ({ frames := 2, cells := 0, slots := 0, locals := 28 } : Room) n0 (RJ fun r h => r = (w - (now - T.getD x 0)) ∧ h = hO) W := C
  refine C.lconst (v := 0) (pc' := 1) od10_0 rfl rfl ?_
  refine C.lstoreX (l' := #[.val (.ref o), .val (.ref a), .val (.long now), .second, .val (.long (0 : Int64)), .second]) (pc' := 3) od10_1 rfl rfl ?_
  refine C.aloadN (pc' := 4) od10_3 rfl rfl rfl ?_
  refine C.getf (ow80 hw) Via.refl F_a_size (pc' := 7) od10_4 rfl ?_
  refine C.if_le (pc' := 10) (pt := 27) od10_7 rfl rfl (fun c7 => absurd h0 c7) (fun c7 => ?_)
  refine C.aloadN (pc' := 11) od10_10 rfl rfl rfl ?_
  refine C.aloadN (pc' := 12) od10_11 rfl rfl rfl ?_
  refine C.aloadN (pc' := 13) od10_12 rfl rfl rfl ?_
  refine C.getf (ow80 hw) Via.refl F_a_size (pc' := 16) od10_13 rfl ?_
  refine C.iconst (v := 1) (pc' := 17) od10_16 rfl rfl ?_
  refine C.isub (pc' := 18) od10_17 rfl ?_
  refine C.callv (w := 1) (own_rm9 l Z a0 hw n0 hO a (sz - (1 : Int32)) ta hd T len x E_a F_a_head F_a_times A_ta hlen hx hxt) E_a (ow81 hw) (ow71 hw) (ow73 hw) (ow72 hw) (ow38 hw) (ow74 hw) (pc' := 21) od10_18 rfl rfl rfl (by decide) pd__I_J rfl (by decide) (Nat.le_of_eq rfl) (by decide) (by decide) (by decide) (kJe ?_)
  refine C.lloadN (pc' := 22) od10_21 rfl rfl ?_
  refine C.callp (w := 0) (own_rm11 l Z a0 hw n0 hO o (T.getD x 0) now w F_o_windowNanos) E_o (ow82 hw) (ow83 hw) (ow6 hw) (ow84 hw) (ow7 hw) (ow85 hw) (pc' := 25) od10_22 rfl rfl rfl (by decide) pd__JJ_J rfl (by decide) (Nat.le_of_eq rfl) (by decide) (by decide) (by decide) (kJe ?_)
  refine C.lstore (f := fun v_ => #[.val (.ref o), .val (.ref a), .val (.long now), .second, .val (.long v_), .second]) (pc' := 27) od10_25 rfl (fun _ => rfl) (fun v25 e25 => ?_)
  refine C.lload (pc' := 29) od10_27 rfl rfl ?_
  refine C.retJ rfl od10_29 (by decide) (by decide) ⟨_, rfl, ?_⟩
  exact ⟨(by subst_vars; rfl), rfl⟩
theorem ow0 {a0 : Array Value} {Z : State} (hw : ∀ d ∈ tables_1, d.before a0 Z = true) : (Jvm.Cond.constantLong "com/example/steady_limiter/steadylimiter/SlidingWindowLogNanosUntilFreshPinLaw" (9 : Nat) (9223372036854775807 : Int64)).before a0 Z = true := hw _ (List.mem_of_getElem? (i := 0) rfl)
theorem ow4 {a0 : Array Value} {Z : State} (hw : ∀ d ∈ tables_1, d.before a0 Z = true) : (Jvm.Cond.code ({ cls := "java/lang/Math", name := "max", desc := "(JJ)J" } : Jvm.MethodName) jdk_29_method_66_code (4 : Nat) (Option.some Jvm.ClassFile.FieldType.long)).before a0 Z = true := hw _ (List.mem_of_getElem? (i := 4) rfl)
theorem ow3 {a0 : Array Value} {Z : State} (hw : ∀ d ∈ tables_1, d.before a0 Z = true) : (Jvm.Cond.initialized "java/lang/Math").before a0 Z = true := hw _ (List.mem_of_getElem? (i := 3) rfl)
theorem ow1 {a0 : Array Value} {Z : State} (hw : ∀ d ∈ tables_1, d.before a0 Z = true) : (Jvm.Cond.methodLink "com/example/steady_limiter/steadylimiter/SlidingWindowLogNanosUntilFreshPinLaw" (11 : Nat) ({ cls := "java/lang/Math", name := "max", desc := "(JJ)J" } : Jvm.MethodName)).before a0 Z = true := hw _ (List.mem_of_getElem? (i := 1) rfl)
theorem ow2 {a0 : Array Value} {Z : State} (hw : ∀ d ∈ tables_1, d.before a0 Z = true) : (Jvm.Cond.static ({ cls := "java/lang/Math", name := "max", desc := "(JJ)J" } : Jvm.MethodName)).before a0 Z = true := hw _ (List.mem_of_getElem? (i := 2) rfl)
theorem ow5 {a0 : Array Value} {Z : State} (hw : ∀ d ∈ tables_1, d.before a0 Z = true) : (Jvm.Cond.classLink "com/example/steady_limiter/steadylimiter/SlidingWindowLogNanosUntilFreshPinLaw" (17 : Nat) "com/example/steady_limiter/steadylimiter/SlidingWindowLog").before a0 Z = true := hw _ (List.mem_of_getElem? (i := 5) rfl)
theorem ow8 {a0 : Array Value} {Z : State} (hw : ∀ d ∈ tables_1, d.before a0 Z = true) : (Jvm.Cond.constantLong "com/example/steady_limiter/steadylimiter/SlidingWindowLogNanosUntilFreshPinLaw" (19 : Nat) (3 : Int64)).before a0 Z = true := hw _ (List.mem_of_getElem? (i := 8) rfl)
theorem pd__JJ_V : parseMethodDescriptor "(JJ)V" = some ⟨[.long, .long], none⟩ := by decide +kernel
theorem ow11 {a0 : Array Value} {Z : State} (hw : ∀ d ∈ tables_1, d.before a0 Z = true) : (Jvm.Cond.code ({ cls := "com/example/steady_limiter/steadylimiter/SlidingWindowLog", name := "<init>", desc := "(JJ)V" } : Jvm.MethodName) prog_18_method_1_code (5 : Nat) (Option.none : Option Jvm.ClassFile.FieldType)).before a0 Z = true := hw _ (List.mem_of_getElem? (i := 11) rfl)
theorem ow9 {a0 : Array Value} {Z : State} (hw : ∀ d ∈ tables_1, d.before a0 Z = true) : (Jvm.Cond.methodLink "com/example/steady_limiter/steadylimiter/SlidingWindowLogNanosUntilFreshPinLaw" (21 : Nat) ({ cls := "com/example/steady_limiter/steadylimiter/SlidingWindowLog", name := "<init>", desc := "(JJ)V" } : Jvm.MethodName)).before a0 Z = true := hw _ (List.mem_of_getElem? (i := 9) rfl)
theorem ow10 {a0 : Array Value} {Z : State} (hw : ∀ d ∈ tables_1, d.before a0 Z = true) : (Jvm.Cond.instanceMethod ({ cls := "com/example/steady_limiter/steadylimiter/SlidingWindowLog", name := "<init>", desc := "(JJ)V" } : Jvm.MethodName)).before a0 Z = true := hw _ (List.mem_of_getElem? (i := 10) rfl)
theorem ow36 {a0 : Array Value} {Z : State} (hw : ∀ d ∈ tables_1, d.before a0 Z = true) : (Jvm.Cond.classLink "com/example/steady_limiter/steadylimiter/SlidingWindowLogNanosUntilFreshPinLaw" (24 : Nat) "com/example/steady_limiter/steadylimiter/SlidingWindowLog$PermitLog").before a0 Z = true := hw _ (List.mem_of_getElem? (i := 36) rfl)
theorem ow41 {a0 : Array Value} {Z : State} (hw : ∀ d ∈ tables_1, d.before a0 Z = true) : (Jvm.Cond.code ({ cls := "com/example/steady_limiter/steadylimiter/SlidingWindowLog$PermitLog", name := "<init>", desc := "(J)V" } : Jvm.MethodName) prog_19_method_1_code (3 : Nat) (Option.none : Option Jvm.ClassFile.FieldType)).before a0 Z = true := hw _ (List.mem_of_getElem? (i := 41) rfl)
theorem ow39 {a0 : Array Value} {Z : State} (hw : ∀ d ∈ tables_1, d.before a0 Z = true) : (Jvm.Cond.methodLink "com/example/steady_limiter/steadylimiter/SlidingWindowLogNanosUntilFreshPinLaw" (26 : Nat) ({ cls := "com/example/steady_limiter/steadylimiter/SlidingWindowLog$PermitLog", name := "<init>", desc := "(J)V" } : Jvm.MethodName)).before a0 Z = true := hw _ (List.mem_of_getElem? (i := 39) rfl)
theorem ow40 {a0 : Array Value} {Z : State} (hw : ∀ d ∈ tables_1, d.before a0 Z = true) : (Jvm.Cond.instanceMethod ({ cls := "com/example/steady_limiter/steadylimiter/SlidingWindowLog$PermitLog", name := "<init>", desc := "(J)V" } : Jvm.MethodName)).before a0 Z = true := hw _ (List.mem_of_getElem? (i := 40) rfl)
theorem pd__Lcom_example_steady_limiter_steadylimiter_SlidingWindowLog_PermitLog_J_J : parseMethodDescriptor "(Lcom/example/steady_limiter/steadylimiter/SlidingWindowLog$PermitLog;J)J" = some ⟨[(.object "com/example/steady_limiter/steadylimiter/SlidingWindowLog$PermitLog"), .long], some .long⟩ := by decide +kernel
theorem ow79 {a0 : Array Value} {Z : State} (hw : ∀ d ∈ tables_1, d.before a0 Z = true) : (Jvm.Cond.code ({ cls := "com/example/steady_limiter/steadylimiter/SlidingWindowLog", name := "nanosUntilFresh", desc := "(Lcom/example/steady_limiter/steadylimiter/SlidingWindowLog$PermitLog;J)J" } : Jvm.MethodName) prog_18_method_7_code (6 : Nat) (Option.some Jvm.ClassFile.FieldType.long)).before a0 Z = true := hw _ (List.mem_of_getElem? (i := 79) rfl)
theorem ow75 {a0 : Array Value} {Z : State} (hw : ∀ d ∈ tables_1, d.before a0 Z = true) : (Jvm.Cond.methodLink "com/example/steady_limiter/steadylimiter/SlidingWindowLogNanosUntilFreshPinLaw" (32 : Nat) ({ cls := "com/example/steady_limiter/steadylimiter/SlidingWindowLog", name := "nanosUntilFresh", desc := "(Lcom/example/steady_limiter/steadylimiter/SlidingWindowLog$PermitLog;J)J" } : Jvm.MethodName)).before a0 Z = true := hw _ (List.mem_of_getElem? (i := 75) rfl)
theorem ow76 {a0 : Array Value} {Z : State} (hw : ∀ d ∈ tables_1, d.before a0 Z = true) : (Jvm.Cond.declares ({ cls := "com/example/steady_limiter/steadylimiter/SlidingWindowLog", name := "nanosUntilFresh", desc := "(Lcom/example/steady_limiter/steadylimiter/SlidingWindowLog$PermitLog;J)J" } : Jvm.MethodName)).before a0 Z = true := hw _ (List.mem_of_getElem? (i := 76) rfl)
theorem ow78 {a0 : Array Value} {Z : State} (hw : ∀ d ∈ tables_1, d.before a0 Z = true) : (Jvm.Cond.selects "com/example/steady_limiter/steadylimiter/SlidingWindowLog" ({ cls := "com/example/steady_limiter/steadylimiter/SlidingWindowLog", name := "nanosUntilFresh", desc := "(Lcom/example/steady_limiter/steadylimiter/SlidingWindowLog$PermitLog;J)J" } : Jvm.MethodName) ({ cls := "com/example/steady_limiter/steadylimiter/SlidingWindowLog", name := "nanosUntilFresh", desc := "(Lcom/example/steady_limiter/steadylimiter/SlidingWindowLog$PermitLog;J)J" } : Jvm.MethodName)).before a0 Z = true := hw _ (List.mem_of_getElem? (i := 78) rfl)
theorem ow77 {a0 : Array Value} {Z : State} (hw : ∀ d ∈ tables_1, d.before a0 Z = true) : (Jvm.Cond.instanceMethod ({ cls := "com/example/steady_limiter/steadylimiter/SlidingWindowLog", name := "nanosUntilFresh", desc := "(Lcom/example/steady_limiter/steadylimiter/SlidingWindowLog$PermitLog;J)J" } : Jvm.MethodName)).before a0 Z = true := hw _ (List.mem_of_getElem? (i := 77) rfl)
theorem ow59 {a0 : Array Value} {Z : State} (hw : ∀ d ∈ tables_1, d.before a0 Z = true) : (Jvm.Cond.code ({ cls := "com/example/steady_limiter/steadylimiter/SlidingWindowLog$PermitLog", name := "add", desc := "(JJ)V" } : Jvm.MethodName) prog_19_method_5_code (6 : Nat) (Option.none : Option Jvm.ClassFile.FieldType)).before a0 Z = true := hw _ (List.mem_of_getElem? (i := 59) rfl)
theorem ow55 {a0 : Array Value} {Z : State} (hw : ∀ d ∈ tables_1, d.before a0 Z = true) : (Jvm.Cond.methodLink "com/example/steady_limiter/steadylimiter/SlidingWindowLogNanosUntilFreshPinLaw" (29 : Nat) ({ cls := "com/example/steady_limiter/steadylimiter/SlidingWindowLog$PermitLog", name := "add", desc := "(JJ)V" } : Jvm.MethodName)).before a0 Z = true := hw _ (List.mem_of_getElem? (i := 55) rfl)
theorem ow56 {a0 : Array Value} {Z : State} (hw : ∀ d ∈ tables_1, d.before a0 Z = true) : (Jvm.Cond.declares ({ cls := "com/example/steady_limiter/steadylimiter/SlidingWindowLog$PermitLog", name := "add", desc := "(JJ)V" } : Jvm.MethodName)).before a0 Z = true := hw _ (List.mem_of_getElem? (i := 56) rfl)
theorem ow58 {a0 : Array Value} {Z : State} (hw : ∀ d ∈ tables_1, d.before a0 Z = true) : (Jvm.Cond.selects "com/example/steady_limiter/steadylimiter/SlidingWindowLog$PermitLog" ({ cls := "com/example/steady_limiter/steadylimiter/SlidingWindowLog$PermitLog", name := "add", desc := "(JJ)V" } : Jvm.MethodName) ({ cls := "com/example/steady_limiter/steadylimiter/SlidingWindowLog$PermitLog", name := "add", desc := "(JJ)V" } : Jvm.MethodName)).before a0 Z = true := hw _ (List.mem_of_getElem? (i := 58) rfl)
theorem ow57 {a0 : Array Value} {Z : State} (hw : ∀ d ∈ tables_1, d.before a0 Z = true) : (Jvm.Cond.instanceMethod ({ cls := "com/example/steady_limiter/steadylimiter/SlidingWindowLog$PermitLog", name := "add", desc := "(JJ)V" } : Jvm.MethodName)).before a0 Z = true := hw _ (List.mem_of_getElem? (i := 57) rfl)
theorem ef_own_rm0 (m : MethodId) (x0 : Int64) (x1 : Int64) (x2 : Int64) (x3 : Int64) (x4 : Int64) (x5 : Int32) : entryFrame m #[(.long x0), (.long x1), (.long x2), (.long x3), (.long x4), (.int x5)] maxLocals = mkF m 0 #[.val (.long x0), .second, .val (.long x1), .second, .val (.long x2), .second, .val (.long x3), .second, .val (.long x4), .second, .val (.int x5), .unset, .unset, .unset, .unset, .unset, .unset, .unset, .unset, .unset, .unset, .unset, .unset, .unset, .unset, .unset, .unset, .unset, .unset, .unset, .unset, .unset, .unset, .unset] [] := by first | (simp [entryFrame, mkF, argsToLocals, Value.category, maxLocals]; done) | rfl
theorem pn_com_example_steady_limiter_steadylimiter_SlidingWindowLogNanosUntilFreshPinLaw_law__JJJJJI_Z : plainFor (⟨"com/example/steady_limiter/steadylimiter/SlidingWindowLogNanosUntilFreshPinLaw", "law", "(JJJJJI)Z"⟩ : MethodName) = true := plainFor_of_name (by first | (simp [plainName, overriddenIn]; done) | decide +kernel)
set_option maxRecDepth 65536 in
set_option maxHeartbeats 40000000 in
theorem own_rm0 (l : Launch) (Z : State) (a0 : Array Value) (hw : ∀ d ∈ tables_1, d.before a0 Z = true) (n0 : Nat) (hO : Heap) (p1 : Int64) (p2 : Int64) (p3 : Int64) (p4 : Int64) (p5 : Int64) (p6 : Int32) (Z0 : n0 ≤ hO.size) :
    MeetsX l Z n0 x code maxLocals ret room_1 #[(.long p1), (.long p2), (.long p3), (.long p4), (.long p5), (.int p6)] hO (RI fun r h => r = 1) := by
  refine MeetsX.intro (show plainFor x = true from pn_com_example_steady_limiter_steadylimiter_SlidingWindowLogNanosUntilFreshPinLaw_law__JJJJJI_Z) (fun m => ef_own_rm0 m p1 p2 p3 p4 p5 p6) ?_
  intro W C
  replace C : RuX l Z "com/example/steady_limiter/steadylimiter/SlidingWindowLogNanosUntilFreshPinLaw" code maxLocals ret "law" room_1 n0 (RI fun r h => r = 1) W := C
  have K : Keep hO hO [] := Keep.refl _ _
  refine C.ru.lconst (v := 1) (pc' := 1) at_0 rfl rfl ?_
  refine C.ru.lloadN (pc' := 2) at_1 rfl rfl ?_
  refine C.ru.ldcJ (ow0 hw) (pc' := 5) at_2 rfl ?_
  refine C.ru.land (pc' := 6) at_5 rfl ?_
  refine C.ru.calls (w := 0) (own_rm1 l Z a0 hw n0 hO (1 : Int64) (p1 &&& (9223372036854775807 : Int64))) (ow1 hw) (ow2 hw) (ow3 hw) (ow4 hw) (pc' := 9) at_6 rfl rfl rfl (by decide) pd__JJ_J rfl (by decide) (Nat.le_of_eq rfl) (by decide) (by decide) (by decide) (kJe ?_)
  refine C.ru.lstore (f := fun v_ => #[.val (.long p1), .second, .val (.long p2), .second, .val (.long p3), .second, .val (.long p4), .second, .val (.long p5), .second, .val (.int p6), .val (.long v_), .second, .unset, .unset, .unset, .unset, .unset, .unset, .unset, .unset, .unset, .unset, .unset, .unset, .unset, .unset, .unset, .unset, .unset, .unset, .unset, .unset, .unset]) (pc' := 11) at_9 rfl (fun _ => rfl) (fun v9 e9 => ?_)
  refine C.ru.lloadN (pc' := 12) at_11 rfl rfl ?_
  refine C.ru.lstoreX (l' := #[.val (.long p1), .second, .val (.long p2), .second, .val (.long p3), .second, .val (.long p4), .second, .val (.long p5), .second, .val (.int p6), .val (.long v9), .second, .val (.long p2), .second, .unset, .unset, .unset, .unset, .unset, .unset, .unset, .unset, .unset, .unset, .unset, .unset, .unset, .unset, .unset, .unset, .unset, .unset, .unset]) (pc' := 14) at_12 rfl rfl ?_
  refine C.ru.lload (pc' := 16) at_14 rfl rfl ?_
  refine C.ru.ldcJ (ow0 hw) (pc' := 19) at_16 rfl ?_
  refine C.ru.land (pc' := 20) at_19 rfl ?_
  refine C.ru.lload (pc' := 22) at_20 rfl rfl ?_
  refine C.ru.lrem (pc' := 23) at_22 rfl (own_z e9) ?_
  refine C.ru.lstore (f := fun v_ => #[.val (.long p1), .second, .val (.long p2), .second, .val (.long p3), .second, .val (.long p4), .second, .val (.long p5), .second, .val (.int p6), .val (.long v9), .second, .val (.long p2), .second, .val (.long v_), .second, .unset, .unset, .unset, .unset, .unset, .unset, .unset, .unset, .unset, .unset, .unset, .unset, .unset, .unset, .unset, .unset, .unset]) (pc' := 25) at_23 rfl (fun _ => rfl) (fun v23 e23 => ?_)
  refine C.ru.lload (pc' := 27) at_25 rfl rfl ?_
  refine C.ru.ldcJ (ow0 hw) (pc' := 30) at_27 rfl ?_
  refine C.ru.land (pc' := 31) at_30 rfl ?_
  refine C.ru.lload (pc' := 33) at_31 rfl rfl ?_
  refine C.ru.lload (pc' := 35) at_33 rfl rfl ?_
  refine C.ru.lsub (pc' := 36) at_35 rfl ?_
  refine C.ru.lrem (pc' := 37) at_36 rfl (own_wz e9 e23) ?_
  refine C.ru.lstore (f := fun v_ => #[.val (.long p1), .second, .val (.long p2), .second, .val (.long p3), .second, .val (.long p4), .second, .val (.long p5), .second, .val (.int p6), .val (.long v9), .second, .val (.long p2), .second, .val (.long v23), .second, .val (.long v_), .second, .unset, .unset, .unset, .unset, .unset, .unset, .unset, .unset, .unset, .unset, .unset, .unset, .unset, .unset, .unset]) (pc' := 39) at_37 rfl (fun _ => rfl) (fun v37 e37 => ?_)
  refine C.ru.lload (pc' := 41) at_39 rfl rfl ?_
  refine C.ru.ldcJ (ow0 hw) (pc' := 44) at_41 rfl ?_
  refine C.ru.land (pc' := 45) at_44 rfl ?_
  refine C.ru.lload (pc' := 47) at_45 rfl rfl ?_
  refine C.ru.lconst (v := 1) (pc' := 48) at_47 rfl rfl ?_
  refine C.ru.ladd (pc' := 49) at_48 rfl ?_
  refine C.ru.lrem (pc' := 50) at_49 rfl (own_gz e9 e23 e37) ?_
  refine C.ru.lstore (f := fun v_ => #[.val (.long p1), .second, .val (.long p2), .second, .val (.long p3), .second, .val (.long p4), .second, .val (.long p5), .second, .val (.int p6), .val (.long v9), .second, .val (.long p2), .second, .val (.long v23), .second, .val (.long v37), .second, .val (.long v_), .second, .unset, .unset, .unset, .unset, .unset, .unset, .unset, .unset, .unset, .unset, .unset, .unset, .unset]) (pc' := 52) at_50 rfl (fun _ => rfl) (fun v50 e50 => ?_)
  refine C.ru.lload (pc' := 54) at_52 rfl rfl ?_
  refine C.ru.lload (pc' := 56) at_54 rfl rfl ?_
  refine C.ru.lsub (pc' := 57) at_56 rfl ?_
  refine C.ru.lstore (f := fun v_ => #[.val (.long p1), .second, .val (.long p2), .second, .val (.long p3), .second, .val (.long p4), .second, .val (.long p5), .second, .val (.int p6), .val (.long v9), .second, .val (.long p2), .second, .val (.long v23), .second, .val (.long v37), .second, .val (.long v50), .second, .val (.long v_), .second, .unset, .unset, .unset, .unset, .unset, .unset, .unset, .unset, .unset, .unset, .unset]) (pc' := 59) at_57 rfl (fun _ => rfl) (fun v57 e57 => ?_)
  refine C.ru.lload (pc' := 61) at_59 rfl rfl ?_
  refine C.ru.lload (pc' := 63) at_61 rfl rfl ?_
  refine C.ru.lsub (pc' := 64) at_63 rfl ?_
  refine C.ru.lstore (f := fun v_ => #[.val (.long p1), .second, .val (.long p2), .second, .val (.long p3), .second, .val (.long p4), .second, .val (.long p5), .second, .val (.int p6), .val (.long v9), .second, .val (.long p2), .second, .val (.long v23), .second, .val (.long v37), .second, .val (.long v50), .second, .val (.long v57), .second, .val (.long v_), .second, .unset, .unset, .unset, .unset, .unset, .unset, .unset, .unset, .unset]) (pc' := 66) at_64 rfl (fun _ => rfl) (fun v64 e64 => ?_)
  refine C.ru.lload (pc' := 68) at_66 rfl rfl ?_
  refine C.ru.lload (pc' := 70) at_68 rfl rfl ?_
  refine C.ru.lsub (pc' := 71) at_70 rfl ?_
  refine C.ru.lstore (f := fun v_ => #[.val (.long p1), .second, .val (.long p2), .second, .val (.long p3), .second, .val (.long p4), .second, .val (.long p5), .second, .val (.int p6), .val (.long v9), .second, .val (.long p2), .second, .val (.long v23), .second, .val (.long v37), .second, .val (.long v50), .second, .val (.long v57), .second, .val (.long v64), .second, .val (.long v_), .second, .unset, .unset, .unset, .unset, .unset, .unset, .unset]) (pc' := 73) at_71 rfl (fun _ => rfl) (fun v71 e71 => ?_)
  refine C.ru.iload (pc' := 75) at_73 rfl rfl ?_
  refine C.ru.iconst (v := 3) (pc' := 76) at_75 rfl rfl ?_
  refine C.ru.iand (pc' := 77) at_76 rfl ?_
  refine C.ru.istore (f := fun v_ => #[.val (.long p1), .second, .val (.long p2), .second, .val (.long p3), .second, .val (.long p4), .second, .val (.long p5), .second, .val (.int p6), .val (.long v9), .second, .val (.long p2), .second, .val (.long v23), .second, .val (.long v37), .second, .val (.long v50), .second, .val (.long v57), .second, .val (.long v64), .second, .val (.long v71), .second, .val (.int v_), .unset, .unset, .unset, .unset, .unset, .unset]) (pc' := 79) at_77 rfl (fun _ => rfl) (fun v77 e77 => ?_)
  refine C.ru.new (ow5 hw) (ow6 hw) (ow7 hw) (pc' := 82) at_79 rfl (by decide) (by decide) (fun h79 b79 hb79 X79 E_b79 D79 => ?_)
  have sz_b79 : hO.size ≤ b79 := by rw [hb79]; exact K.1
  have g_b79 : n0 ≤ b79 := Nat.le_trans Z0 sz_b79
  replace K := K.ext X79
  have F_b79_limitName : Fld Z h79 b79 "com/example/steady_limiter/steadylimiter/Algorithm" "limitName" "Ljava/lang/String;" .null := D79 (Or.inr (ow29 hw)) pf_Ljava_lang_String_
  have F_b79_limit : Fld Z h79 b79 "com/example/steady_limiter/steadylimiter/Algorithm" "limit" "J" (.long (0 : Int64)) := D79 (Or.inr (ow31 hw)) pf_J
  have F_b79_maxRequests : Fld Z h79 b79 "com/example/steady_limiter/steadylimiter/SlidingWindowLog" "maxRequests" "J" (.long (0 : Int64)) := D79 (Or.inr (ow33 hw)) pf_J
  have F_b79_windowNanos : Fld Z h79 b79 "com/example/steady_limiter/steadylimiter/SlidingWindowLog" "windowNanos" "J" (.long (0 : Int64)) := D79 (Or.inr (ow35 hw)) pf_J
  refine C.ru.dup (pc' := 83) at_82 rfl rfl ?_
  refine C.ru.ldcJ (ow8 hw) (pc' := 86) at_83 rfl ?_
  refine C.ru.lload (pc' := 88) at_86 rfl rfl ?_
  refine C.callc (w := 1) (own_rm2 l Z a0 hw n0 h79 b79 (3 : Int64) v9 (Nat.le_trans Z0 K.1) E_b79 F_b79_limitName F_b79_limit F_b79_maxRequests F_b79_windowNanos g_b79) rfl (ow9 hw) (ow10 hw) (ow7 hw) (ow11 hw) (pc' := 91) at_88 rfl rfl rfl (by decide) pd__JJ_V rfl (by decide) (Nat.le_of_eq rfl) (by decide) (by decide) (by decide) ?_
  rintro W _ h88 C ⟨rfl, q88⟩
  have Sz88 : h88.size ≤ h88.size := Nat.le_refl _
  obtain ⟨K88, N88_0⟩ := q88
  replace E_b79 := E_b79.keep K88
  have F_b79_windowNanos : Fld Z h88 b79 "com/example/steady_limiter/steadylimiter/SlidingWindowLog" "windowNanos" "J" (.long v9) := N88_0
  replace K := K.trans K88 (allS (Or.inr sz_b79) all0)
  refine C.astore (l' := #[.val (.long p1), .second, .val (.long p2), .second, .val (.long p3), .second, .val (.long p4), .second, .val (.long p5), .second, .val (.int p6), .val (.long v9), .second, .val (.long p2), .second, .val (.long v23), .second, .val (.long v37), .second, .val (.long v50), .second, .val (.long v57), .second, .val (.long v64), .second, .val (.long v71), .second, .val (.int v77), .val (.ref b79), .unset, .unset, .unset, .unset, .unset]) (pc' := 93) at_91 rfl rfl rfl ?_
  refine C.new (ow36 hw) (ow37 hw) (ow38 hw) (pc' := 96) at_93 rfl (by decide) (by decide) (fun h93 b93 hb93 X93 E_b93 D93 => ?_)
  have ne_b79_b93 : b79 ≠ b93 := by rw [hb93]; exact Nat.ne_of_lt (exaLt E_b79)
  have sz_b93 : hO.size ≤ b93 := by rw [hb93]; exact K.1
  have g_b93 : n0 ≤ b93 := Nat.le_trans Z0 sz_b93
  replace E_b79 := E_b79.ext X93
  replace F_b79_windowNanos := F_b79_windowNanos.ext X93
  replace Sz88 := Nat.le_trans Sz88 (szX X93)
  replace K := K.ext X93
  have F_b93_lastNanos : Fld Z h93 b93 "com/example/steady_limiter/steadylimiter/KeyState" "lastNanos" "J" (.long (0 : Int64)) := D93 (Or.inl (ow49 hw)) pf_J
  have F_b93_times : Fld Z h93 b93 "com/example/steady_limiter/steadylimiter/SlidingWindowLog$PermitLog" "times" "[J" .null := D93 (Or.inl (ow52 hw)) pf__J
  have F_b93_permits : Fld Z h93 b93 "com/example/steady_limiter/steadylimiter/SlidingWindowLog$PermitLog" "permits" "[J" .null := D93 (Or.inl (ow54 hw)) pf__J
  have F_b93_size : Fld Z h93 b93 "com/example/steady_limiter/steadylimiter/SlidingWindowLog$PermitLog" "size" "I" (.int (0 : Int32)) := D93 (Or.inl (ow61 hw)) pf_I
  have F_b93_head : Fld Z h93 b93 "com/example/steady_limiter/steadylimiter/SlidingWindowLog$PermitLog" "head" "I" (.int (0 : Int32)) := D93 (Or.inl (ow67 hw)) pf_I
  have F_b93_counted : Fld Z h93 b93 "com/example/steady_limiter/steadylimiter/SlidingWindowLog$PermitLog" "counted" "J" (.long (0 : Int64)) := D93 (Or.inl (ow69 hw)) pf_J
  refine C.dup (pc' := 97) at_96 rfl rfl ?_
  refine C.lload (pc' := 99) at_97 rfl rfl ?_
  refine C.callc (w := 1) (own_rm5 l Z a0 hw n0 h93 b93 p2 (Nat.le_trans Z0 K.1) E_b93 F_b93_lastNanos F_b93_times F_b93_permits F_b93_head F_b93_size F_b93_counted g_b93) rfl (ow39 hw) (ow40 hw) (ow38 hw) (ow41 hw) (pc' := 102) at_99 rfl rfl rfl (by decide) pd__J_V rfl (by decide) (Nat.le_of_eq rfl) (by decide) (by decide) (by decide) (kV fun h99 q99 => ?_)
  obtain ⟨ta99, pa99, K99, z99_ta99, z99_pa99, ne_ta99_pa99, N99_0, N99_1, N99_2, N99_3, N99_4, N99_5, N99_6⟩ := q99
  have ne_b79_ta99 : b79 ≠ ta99 := Nat.ne_of_lt (Nat.lt_of_lt_of_le (exaLt E_b79) z99_ta99)
  have ne_b93_ta99 : b93 ≠ ta99 := Nat.ne_of_lt (Nat.lt_of_lt_of_le (exaLt E_b93) z99_ta99)
  have sz_ta99 : hO.size ≤ ta99 := Nat.le_trans K.1 z99_ta99
  have g_ta99 : n0 ≤ ta99 := Nat.le_trans Z0 sz_ta99
  have ne_b79_pa99 : b79 ≠ pa99 := Nat.ne_of_lt (Nat.lt_of_lt_of_le (exaLt E_b79) z99_pa99)
  have ne_b93_pa99 : b93 ≠ pa99 := Nat.ne_of_lt (Nat.lt_of_lt_of_le (exaLt E_b93) z99_pa99)
  have sz_pa99 : hO.size ≤ pa99 := Nat.le_trans K.1 z99_pa99
  have g_pa99 : n0 ≤ pa99 := Nat.le_trans Z0 sz_pa99
  replace E_b79 := E_b79.keep K99
  replace F_b79_windowNanos := F_b79_windowNanos.keep K99 (ninS ne_b79_b93 nin0)
  replace E_b93 := E_b93.keep K99
  replace Sz88 := Nat.le_trans Sz88 K99.1
  have F_b93_times : Fld Z h99 b93 "com/example/steady_limiter/steadylimiter/SlidingWindowLog$PermitLog" "times" "[J" (.ref ta99) := N99_0
  have F_b93_permits : Fld Z h99 b93 "com/example/steady_limiter/steadylimiter/SlidingWindowLog$PermitLog" "permits" "[J" (.ref pa99) := N99_1
  have F_b93_head : Fld Z h99 b93 "com/example/steady_limiter/steadylimiter/SlidingWindowLog$PermitLog" "head" "I" (.int (0 : Int32)) := N99_2
  have F_b93_size : Fld Z h99 b93 "com/example/steady_limiter/steadylimiter/SlidingWindowLog$PermitLog" "size" "I" (.int (0 : Int32)) := N99_3
  have F_b93_counted : Fld Z h99 b93 "com/example/steady_limiter/steadylimiter/SlidingWindowLog$PermitLog" "counted" "J" (.long (0 : Int64)) := N99_4
  have A_ta99 : AJ Z h99 ta99 [(0 : Int64), (0 : Int64)] := N99_5
  have A_pa99 : AJ Z h99 pa99 [(0 : Int64), (0 : Int64)] := N99_6
  replace K := K.trans K99 (allS (Or.inr sz_b93) all0)
  refine C.astore (l' := #[.val (.long p1), .second, .val (.long p2), .second, .val (.long p3), .second, .val (.long p4), .second, .val (.long p5), .second, .val (.int p6), .val (.long v9), .second, .val (.long p2), .second, .val (.long v23), .second, .val (.long v37), .second, .val (.long v50), .second, .val (.long v57), .second, .val (.long v64), .second, .val (.long v71), .second, .val (.int v77), .val (.ref b79), .val (.ref b93), .unset, .unset, .unset, .unset]) (pc' := 104) at_102 rfl rfl rfl ?_
  rcases own_n e77 with q77 | q77 | q77 | q77
  · subst q77
    refine C.iload (pc' := 106) at_104 rfl rfl ?_
    refine C.iconst (v := 2) (pc' := 107) at_106 rfl rfl ?_
    refine C.icmp_lt (pc' := 110) (pt := 118) at_107 rfl rfl (fun c107 => ?_) (fun c107 => absurd (by decide) c107)
    refine C.iload (pc' := 120) at_118 rfl rfl ?_
    refine C.iconst (v := 3) (pc' := 121) at_120 rfl rfl ?_
    refine C.icmp_ne (pc' := 124) (pt := 132) at_121 rfl rfl (fun c121 => ?_) (fun c121 => absurd c121 (by decide))
    refine C.iload (pc' := 134) at_132 rfl rfl ?_
    refine C.iconst (v := 1) (pc' := 135) at_134 rfl rfl ?_
    refine C.icmp_lt (pc' := 138) (pt := 146) at_135 rfl rfl (fun c135 => ?_) (fun c135 => absurd (by decide) c135)
    refine C.aload (pc' := 148) at_146 rfl rfl rfl ?_
    refine C.aload (pc' := 150) at_148 rfl rfl rfl ?_
    refine C.lload (pc' := 152) at_150 rfl rfl ?_
    refine C.callv (w := 0) (own_fresh0 l Z a0 hw n0 h99 b79 b93 p2 (0 : Int32) F_b93_size (by decide)) E_b79 (ow75 hw) (ow76 hw) (ow78 hw) (ow77 hw) (ow7 hw) (ow79 hw) (pc' := 155) at_152 rfl rfl rfl (by decide) pd__Lcom_example_steady_limiter_steadylimiter_SlidingWindowLog_PermitLog_J_J rfl (by decide) (Nat.le_of_eq rfl) (by decide) (by decide) (by decide) (kJe ?_)
    refine C.lstoreX (l' := #[.val (.long p1), .second, .val (.long p2), .second, .val (.long p3), .second, .val (.long p4), .second, .val (.long p5), .second, .val (.int p6), .val (.long v9), .second, .val (.long p2), .second, .val (.long v23), .second, .val (.long v37), .second, .val (.long v50), .second, .val (.long v57), .second, .val (.long v64), .second, .val (.long v71), .second, .val (.int (0 : Int32)), .val (.ref b79), .val (.ref b93), .val (.long (0 : Int64)), .second, .unset, .unset]) (pc' := 157) at_155 rfl rfl ?_
    refine C.lconst (v := 0) (pc' := 158) at_157 rfl rfl ?_
    refine C.lstoreX (l' := #[.val (.long p1), .second, .val (.long p2), .second, .val (.long p3), .second, .val (.long p4), .second, .val (.long p5), .second, .val (.int p6), .val (.long v9), .second, .val (.long p2), .second, .val (.long v23), .second, .val (.long v37), .second, .val (.long v50), .second, .val (.long v57), .second, .val (.long v64), .second, .val (.long v71), .second, .val (.int (0 : Int32)), .val (.ref b79), .val (.ref b93), .val (.long (0 : Int64)), .second, .val (.long (0 : Int64)), .second]) (pc' := 160) at_158 rfl rfl ?_
    refine C.iload (pc' := 162) at_160 rfl rfl ?_
    refine C.iconst (v := 1) (pc' := 163) at_162 rfl rfl ?_
    refine C.icmp_lt (pc' := 166) (pt := 173) at_163 rfl rfl (fun c163 => ?_) (fun c163 => absurd (by decide) c163)
    refine C.lload (pc' := 175) at_173 rfl rfl ?_
    refine C.lload (pc' := 177) at_175 rfl rfl ?_
    refine C.lif_ne (pc' := 181) (pt := 185) at_177 rfl at_178 rfl rfl (fun c177 => absurd rfl c177) (fun c177 => ?_)
    refine C.iconst (v := 1) (pc' := 182) at_181 rfl rfl ?_
    refine C.goto (pc' := 186) at_182 rfl ?_
    refine C.retZ (show ret = some .boolean from rfl) (by decide) at_186 (by decide) (by decide) ⟨⟨_, rfl, rfl⟩, Sz88⟩
  · subst q77
    refine C.iload (pc' := 106) at_104 rfl rfl ?_
    refine C.iconst (v := 2) (pc' := 107) at_106 rfl rfl ?_
    refine C.icmp_lt (pc' := 110) (pt := 118) at_107 rfl rfl (fun c107 => ?_) (fun c107 => absurd (by decide) c107)
    refine C.iload (pc' := 120) at_118 rfl rfl ?_
    refine C.iconst (v := 3) (pc' := 121) at_120 rfl rfl ?_
    refine C.icmp_ne (pc' := 124) (pt := 132) at_121 rfl rfl (fun c121 => ?_) (fun c121 => absurd c121 (by decide))
    refine C.iload (pc' := 134) at_132 rfl rfl ?_
    refine C.iconst (v := 1) (pc' := 135) at_134 rfl rfl ?_
    refine C.icmp_lt (pc' := 138) (pt := 146) at_135 rfl rfl (fun c135 => absurd c135 (by decide)) (fun c135 => ?_)
    refine C.aload (pc' := 140) at_138 rfl rfl rfl ?_
    refine C.lload (pc' := 142) at_140 rfl rfl ?_
    refine C.lconst (v := 1) (pc' := 143) at_142 rfl rfl ?_
    refine C.callv (w := 0) (own_addB0 l Z a0 hw n0 h99 b93 v57 (1 : Int64) ta99 pa99 (0 : Int32) (0 : Int32) (0 : Int64) [(0 : Int64), (0 : Int64)] [(0 : Int64), (0 : Int64)] (2 : Int32) 0 (Nat.le_trans Z0 K.1) E_b93 F_b93_times F_b93_permits F_b93_head F_b93_size F_b93_counted A_ta99 A_pa99 g_b93 g_ta99 g_pa99 ne_b93_ta99 ne_b93_pa99 ne_ta99_pa99 (show (2 : Int32).toInt = ((2 : Nat) : Int) from by decide) (by decide) (by decide) (show 0 < 2 from by decide) (show 0 < 2 from by decide) (by decide)) E_b93 (ow55 hw) (ow56 hw) (ow58 hw) (ow57 hw) (ow38 hw) (ow59 hw) (pc' := 146) at_143 rfl rfl rfl (by decide) pd__JJ_V rfl (by decide) (Nat.le_of_eq rfl) (by decide) (by decide) (by decide) (kV fun h143 q143 => ?_)
    obtain ⟨K143, N143_0, N143_1, N143_2, N143_3, N143_4, N143_5, N143_6⟩ := q143
    replace E_b79 := E_b79.keep K143
    replace F_b79_windowNanos := F_b79_windowNanos.keep K143 (ninS ne_b79_b93 (ninS ne_b79_ta99 (ninS ne_b79_pa99 nin0)))
    replace E_b93 := E_b93.keep K143
    replace Sz88 := Nat.le_trans Sz88 K143.1
    have F_b93_times : Fld Z h143 b93 "com/example/steady_limiter/steadylimiter/SlidingWindowLog$PermitLog" "times" "[J" (.ref ta99) := N143_0
    have F_b93_permits : Fld Z h143 b93 "com/example/steady_limiter/steadylimiter/SlidingWindowLog$PermitLog" "permits" "[J" (.ref pa99) := N143_1
    have F_b93_head : Fld Z h143 b93 "com/example/steady_limiter/steadylimiter/SlidingWindowLog$PermitLog" "head" "I" (.int (0 : Int32)) := N143_2
    have F_b93_size : Fld Z h143 b93 "com/example/steady_limiter/steadylimiter/SlidingWindowLog$PermitLog" "size" "I" (.int ((0 : Int32) + (1 : Int32))) := N143_3
    have F_b93_counted : Fld Z h143 b93 "com/example/steady_limiter/steadylimiter/SlidingWindowLog$PermitLog" "counted" "J" (.long ((0 : Int64) + (1 : Int64))) := N143_4
    have A_ta99 : AJ Z h143 ta99 [v57, (0 : Int64)] := N143_5
    have A_pa99 : AJ Z h143 pa99 [(1 : Int64), (0 : Int64)] := N143_6
    replace K := K.trans K143 (allS (Or.inr sz_b93) (allS (Or.inr sz_ta99) (allS (Or.inr sz_pa99) all0)))
    refine C.aload (pc' := 148) at_146 rfl rfl rfl ?_
    refine C.aload (pc' := 150) at_148 rfl rfl rfl ?_
    refine C.lload (pc' := 152) at_150 rfl rfl ?_
    refine C.callv (w := 0) (own_fresh1 l Z a0 hw n0 h143 b79 b93 p2 v9 ta99 (0 : Int32) ((0 : Int32) + (1 : Int32)) [v57, (0 : Int64)] (2 : Int32) 0 E_b79 E_b93 F_b79_windowNanos F_b93_size F_b93_head F_b93_times A_ta99 (show (2 : Int32).toInt = ((2 : Nat) : Int) from by decide) (by decide) (by decide) (show 0 < 2 from by decide)) E_b79 (ow75 hw) (ow76 hw) (ow78 hw) (ow77 hw) (ow7 hw) (ow79 hw) (pc' := 155) at_152 rfl rfl rfl (by decide) pd__Lcom_example_steady_limiter_steadylimiter_SlidingWindowLog_PermitLog_J_J rfl (by decide) (Nat.le_of_eq rfl) (by decide) (by decide) (by decide) (kJe ?_)
    refine C.lstore (f := fun v_ => #[.val (.long p1), .second, .val (.long p2), .second, .val (.long p3), .second, .val (.long p4), .second, .val (.long p5), .second, .val (.int p6), .val (.long v9), .second, .val (.long p2), .second, .val (.long v23), .second, .val (.long v37), .second, .val (.long v50), .second, .val (.long v57), .second, .val (.long v64), .second, .val (.long v71), .second, .val (.int (1 : Int32)), .val (.ref b79), .val (.ref b93), .val (.long v_), .second, .unset, .unset]) (pc' := 157) at_155 rfl (fun _ => rfl) (fun v155 e155 => ?_)
    refine C.lconst (v := 0) (pc' := 158) at_157 rfl rfl ?_
    refine C.lstoreX (l' := #[.val (.long p1), .second, .val (.long p2), .second, .val (.long p3), .second, .val (.long p4), .second, .val (.long p5), .second, .val (.int p6), .val (.long v9), .second, .val (.long p2), .second, .val (.long v23), .second, .val (.long v37), .second, .val (.long v50), .second, .val (.long v57), .second, .val (.long v64), .second, .val (.long v71), .second, .val (.int (1 : Int32)), .val (.ref b79), .val (.ref b93), .val (.long v155), .second, .val (.long (0 : Int64)), .second]) (pc' := 160) at_158 rfl rfl ?_
    refine C.iload (pc' := 162) at_160 rfl rfl ?_
    refine C.iconst (v := 1) (pc' := 163) at_162 rfl rfl ?_
    refine C.icmp_lt (pc' := 166) (pt := 173) at_163 rfl rfl (fun c163 => absurd c163 (by decide)) (fun c163 => ?_)
    refine C.lload (pc' := 168) at_166 rfl rfl ?_
    refine C.lload (pc' := 170) at_168 rfl rfl ?_
    refine C.lsub (pc' := 171) at_170 rfl ?_
    refine C.lstore (f := fun v_ => #[.val (.long p1), .second, .val (.long p2), .second, .val (.long p3), .second, .val (.long p4), .second, .val (.long p5), .second, .val (.int p6), .val (.long v9), .second, .val (.long p2), .second, .val (.long v23), .second, .val (.long v37), .second, .val (.long v50), .second, .val (.long v57), .second, .val (.long v64), .second, .val (.long v71), .second, .val (.int (1 : Int32)), .val (.ref b79), .val (.ref b93), .val (.long v155), .second, .val (.long v_), .second]) (pc' := 173) at_171 rfl (fun _ => rfl) (fun v171 e171 => ?_)
    refine C.lload (pc' := 175) at_173 rfl rfl ?_
    refine C.lload (pc' := 177) at_175 rfl rfl ?_
    refine C.lif_ne (pc' := 181) (pt := 185) at_177 rfl at_178 rfl rfl (fun c177 => absurd (own_fin e155 rfl e57 e171) c177) (fun c177 => ?_)
    refine C.iconst (v := 1) (pc' := 182) at_181 rfl rfl ?_
    refine C.goto (pc' := 186) at_182 rfl ?_
    refine C.retZ (show ret = some .boolean from rfl) (by decide) at_186 (by decide) (by decide) ⟨⟨_, rfl, rfl⟩, Sz88⟩
  · subst q77
    refine C.iload (pc' := 106) at_104 rfl rfl ?_
    refine C.iconst (v := 2) (pc' := 107) at_106 rfl rfl ?_
    refine C.icmp_lt (pc' := 110) (pt := 118) at_107 rfl rfl (fun c107 => absurd c107 (by decide)) (fun c107 => ?_)
    refine C.aload (pc' := 112) at_110 rfl rfl rfl ?_
    refine C.lload (pc' := 114) at_112 rfl rfl ?_
    refine C.lconst (v := 1) (pc' := 115) at_114 rfl rfl ?_
    refine C.callv (w := 0) (own_addB0 l Z a0 hw n0 h99 b93 v64 (1 : Int64) ta99 pa99 (0 : Int32) (0 : Int32) (0 : Int64) [(0 : Int64), (0 : Int64)] [(0 : Int64), (0 : Int64)] (2 : Int32) 0 (Nat.le_trans Z0 K.1) E_b93 F_b93_times F_b93_permits F_b93_head F_b93_size F_b93_counted A_ta99 A_pa99 g_b93 g_ta99 g_pa99 ne_b93_ta99 ne_b93_pa99 ne_ta99_pa99 (show (2 : Int32).toInt = ((2 : Nat) : Int) from by decide) (by decide) (by decide) (show 0 < 2 from by decide) (show 0 < 2 from by decide) (by decide)) E_b93 (ow55 hw) (ow56 hw) (ow58 hw) (ow57 hw) (ow38 hw) (ow59 hw) (pc' := 118) at_115 rfl rfl rfl (by decide) pd__JJ_V rfl (by decide) (Nat.le_of_eq rfl) (by decide) (by decide) (by decide) (kV fun h115 q115 => ?_)
    obtain ⟨K115, N115_0, N115_1, N115_2, N115_3, N115_4, N115_5, N115_6⟩ := q115
    replace E_b79 := E_b79.keep K115
    replace F_b79_windowNanos := F_b79_windowNanos.keep K115 (ninS ne_b79_b93 (ninS ne_b79_ta99 (ninS ne_b79_pa99 nin0)))
    replace E_b93 := E_b93.keep K115
    replace Sz88 := Nat.le_trans Sz88 K115.1
    have F_b93_times : Fld Z h115 b93 "com/example/steady_limiter/steadylimiter/SlidingWindowLog$PermitLog" "times" "[J" (.ref ta99) := N115_0
    have F_b93_permits : Fld Z h115 b93 "com/example/steady_limiter/steadylimiter/SlidingWindowLog$PermitLog" "permits" "[J" (.ref pa99) := N115_1
    have F_b93_head : Fld Z h115 b93 "com/example/steady_limiter/steadylimiter/SlidingWindowLog$PermitLog" "head" "I" (.int (0 : Int32)) := N115_2
    have F_b93_size : Fld Z h115 b93 "com/example/steady_limiter/steadylimiter/SlidingWindowLog$PermitLog" "size" "I" (.int ((0 : Int32) + (1 : Int32))) := N115_3
    have F_b93_counted : Fld Z h115 b93 "com/example/steady_limiter/steadylimiter/SlidingWindowLog$PermitLog" "counted" "J" (.long ((0 : Int64) + (1 : Int64))) := N115_4
    have A_ta99 : AJ Z h115 ta99 [v64, (0 : Int64)] := N115_5
    have A_pa99 : AJ Z h115 pa99 [(1 : Int64), (0 : Int64)] := N115_6
    replace K := K.trans K115 (allS (Or.inr sz_b93) (allS (Or.inr sz_ta99) (allS (Or.inr sz_pa99) all0)))
    refine C.iload (pc' := 120) at_118 rfl rfl ?_
    refine C.iconst (v := 3) (pc' := 121) at_120 rfl rfl ?_
    refine C.icmp_ne (pc' := 124) (pt := 132) at_121 rfl rfl (fun c121 => ?_) (fun c121 => absurd c121 (by decide))
    refine C.iload (pc' := 134) at_132 rfl rfl ?_
    refine C.iconst (v := 1) (pc' := 135) at_134 rfl rfl ?_
    refine C.icmp_lt (pc' := 138) (pt := 146) at_135 rfl rfl (fun c135 => absurd c135 (by decide)) (fun c135 => ?_)
    rcases Classical.em (v64 = v57) with y138 | y138
    · skip
      refine C.aload (pc' := 140) at_138 rfl rfl rfl ?_
      refine C.lload (pc' := 142) at_140 rfl rfl ?_
      refine C.lconst (v := 1) (pc' := 143) at_142 rfl rfl ?_
      refine C.callv (w := 0) (own_addA l Z a0 hw n0 h115 b93 v57 (1 : Int64) ta99 pa99 (0 : Int32) ((0 : Int32) + (1 : Int32)) ((0 : Int64) + (1 : Int64)) [v64, (0 : Int64)] [(1 : Int64), (0 : Int64)] (2 : Int32) 0 (Nat.le_trans Z0 K.1) E_b93 F_b93_times F_b93_permits F_b93_head F_b93_size F_b93_counted A_ta99 A_pa99 g_b93 g_ta99 g_pa99 ne_b93_ta99 ne_b93_pa99 ne_ta99_pa99 (show (2 : Int32).toInt = ((2 : Nat) : Int) from by decide) (by decide) (by decide) (show 0 < 2 from by decide) (show 0 < 2 from by decide) y138) E_b93 (ow55 hw) (ow56 hw) (ow58 hw) (ow57 hw) (ow38 hw) (ow59 hw) (pc' := 146) at_143 rfl rfl rfl (by decide) pd__JJ_V rfl (by decide) (Nat.le_of_eq rfl) (by decide) (by decide) (by decide) (kV fun h143 q143 => ?_)
      obtain ⟨K143, N143_0, N143_1, N143_2, N143_3, N143_4, N143_5⟩ := q143
      replace E_b79 := E_b79.keep K143
      replace F_b79_windowNanos := F_b79_windowNanos.keep K143 (ninS ne_b79_b93 (ninS ne_b79_pa99 nin0))
      replace E_b93 := E_b93.keep K143
      replace A_ta99 := A_ta99.keep K143 (ninS (Ne.symm ne_b93_ta99) (ninS ne_ta99_pa99 nin0))
      replace Sz88 := Nat.le_trans Sz88 K143.1
      have F_b93_times : Fld Z h143 b93 "com/example/steady_limiter/steadylimiter/SlidingWindowLog$PermitLog" "times" "[J" (.ref ta99) := N143_0
      have F_b93_permits : Fld Z h143 b93 "com/example/steady_limiter/steadylimiter/SlidingWindowLog$PermitLog" "permits" "[J" (.ref pa99) := N143_1
      have F_b93_head : Fld Z h143 b93 "com/example/steady_limiter/steadylimiter/SlidingWindowLog$PermitLog" "head" "I" (.int (0 : Int32)) := N143_2
      have F_b93_size : Fld Z h143 b93 "com/example/steady_limiter/steadylimiter/SlidingWindowLog$PermitLog" "size" "I" (.int ((0 : Int32) + (1 : Int32))) := N143_3
      have F_b93_counted : Fld Z h143 b93 "com/example/steady_limiter/steadylimiter/SlidingWindowLog$PermitLog" "counted" "J" (.long (((0 : Int64) + (1 : Int64)) + (1 : Int64))) := N143_4
      have A_pa99 : AJ Z h143 pa99 [((1 : Int64) + (1 : Int64)), (0 : Int64)] := N143_5
      replace K := K.trans K143 (allS (Or.inr sz_b93) (allS (Or.inr sz_pa99) all0))
      refine C.aload (pc' := 148) at_146 rfl rfl rfl ?_
      refine C.aload (pc' := 150) at_148 rfl rfl rfl ?_
      refine C.lload (pc' := 152) at_150 rfl rfl ?_
      refine C.callv (w := 0) (own_fresh1 l Z a0 hw n0 h143 b79 b93 p2 v9 ta99 (0 : Int32) ((0 : Int32) + (1 : Int32)) [v64, (0 : Int64)] (2 : Int32) 0 E_b79 E_b93 F_b79_windowNanos F_b93_size F_b93_head F_b93_times A_ta99 (show (2 : Int32).toInt = ((2 : Nat) : Int) from by decide) (by decide) (by decide) (show 0 < 2 from by decide)) E_b79 (ow75 hw) (ow76 hw) (ow78 hw) (ow77 hw) (ow7 hw) (ow79 hw) (pc' := 155) at_152 rfl rfl rfl (by decide) pd__Lcom_example_steady_limiter_steadylimiter_SlidingWindowLog_PermitLog_J_J rfl (by decide) (Nat.le_of_eq rfl) (by decide) (by decide) (by decide) (kJe ?_)
      refine C.lstore (f := fun v_ => #[.val (.long p1), .second, .val (.long p2), .second, .val (.long p3), .second, .val (.long p4), .second, .val (.long p5), .second, .val (.int p6), .val (.long v9), .second, .val (.long p2), .second, .val (.long v23), .second, .val (.long v37), .second, .val (.long v50), .second, .val (.long v57), .second, .val (.long v64), .second, .val (.long v71), .second, .val (.int (2 : Int32)), .val (.ref b79), .val (.ref b93), .val (.long v_), .second, .unset, .unset]) (pc' := 157) at_155 rfl (fun _ => rfl) (fun v155 e155 => ?_)
      refine C.lconst (v := 0) (pc' := 158) at_157 rfl rfl ?_
      refine C.lstoreX (l' := #[.val (.long p1), .second, .val (.long p2), .second, .val (.long p3), .second, .val (.long p4), .second, .val (.long p5), .second, .val (.int p6), .val (.long v9), .second, .val (.long p2), .second, .val (.long v23), .second, .val (.long v37), .second, .val (.long v50), .second, .val (.long v57), .second, .val (.long v64), .second, .val (.long v71), .second, .val (.int (2 : Int32)), .val (.ref b79), .val (.ref b93), .val (.long v155), .second, .val (.long (0 : Int64)), .second]) (pc' := 160) at_158 rfl rfl ?_
      refine C.iload (pc' := 162) at_160 rfl rfl ?_
      refine C.iconst (v := 1) (pc' := 163) at_162 rfl rfl ?_
      refine C.icmp_lt (pc' := 166) (pt := 173) at_163 rfl rfl (fun c163 => absurd c163 (by decide)) (fun c163 => ?_)
      refine C.lload (pc' := 168) at_166 rfl rfl ?_
      refine C.lload (pc' := 170) at_168 rfl rfl ?_
      refine C.lsub (pc' := 171) at_170 rfl ?_
      refine C.lstore (f := fun v_ => #[.val (.long p1), .second, .val (.long p2), .second, .val (.long p3), .second, .val (.long p4), .second, .val (.long p5), .second, .val (.int p6), .val (.long v9), .second, .val (.long p2), .second, .val (.long v23), .second, .val (.long v37), .second, .val (.long v50), .second, .val (.long v57), .second, .val (.long v64), .second, .val (.long v71), .second, .val (.int (2 : Int32)), .val (.ref b79), .val (.ref b93), .val (.long v155), .second, .val (.long v_), .second]) (pc' := 173) at_171 rfl (fun _ => rfl) (fun v171 e171 => ?_)
      refine C.lload (pc' := 175) at_173 rfl rfl ?_
      refine C.lload (pc' := 177) at_175 rfl rfl ?_
      refine C.lif_ne (pc' := 181) (pt := 185) at_177 rfl at_178 rfl rfl (fun c177 => absurd (own_fin e155 y138 e57 e171) c177) (fun c177 => ?_)
      refine C.iconst (v := 1) (pc' := 182) at_181 rfl rfl ?_
      refine C.goto (pc' := 186) at_182 rfl ?_
      refine C.retZ (show ret = some .boolean from rfl) (by decide) at_186 (by decide) (by decide) ⟨⟨_, rfl, rfl⟩, Sz88⟩
    · skip
      refine C.aload (pc' := 140) at_138 rfl rfl rfl ?_
      refine C.lload (pc' := 142) at_140 rfl rfl ?_
      refine C.lconst (v := 1) (pc' := 143) at_142 rfl rfl ?_
      refine C.callv (w := 0) (own_addB1 l Z a0 hw n0 h115 b93 v57 (1 : Int64) ta99 pa99 (0 : Int32) ((0 : Int32) + (1 : Int32)) ((0 : Int64) + (1 : Int64)) [v64, (0 : Int64)] [(1 : Int64), (0 : Int64)] (2 : Int32) 0 1 (Nat.le_trans Z0 K.1) E_b93 F_b93_times F_b93_permits F_b93_head F_b93_size F_b93_counted A_ta99 A_pa99 g_b93 g_ta99 g_pa99 ne_b93_ta99 ne_b93_pa99 ne_ta99_pa99 (show (2 : Int32).toInt = ((2 : Nat) : Int) from by decide) (by decide) (by decide) (show 0 < 2 from by decide) (show 0 < 2 from by decide) y138 (by decide) (show 1 < 2 from by decide) (show 1 < 2 from by decide) (by decide)) E_b93 (ow55 hw) (ow56 hw) (ow58 hw) (ow57 hw) (ow38 hw) (ow59 hw) (pc' := 146) at_143 rfl rfl rfl (by decide) pd__JJ_V rfl (by decide) (Nat.le_of_eq rfl) (by decide) (by decide) (by decide) (kV fun h143 q143 => ?_)
      obtain ⟨K143, N143_0, N143_1, N143_2, N143_3, N143_4, N143_5, N143_6⟩ := q143
      replace E_b79 := E_b79.keep K143
      replace F_b79_windowNanos := F_b79_windowNanos.keep K143 (ninS ne_b79_b93 (ninS ne_b79_ta99 (ninS ne_b79_pa99 nin0)))
      replace E_b93 := E_b93.keep K143
      replace Sz88 := Nat.le_trans Sz88 K143.1
      have F_b93_times : Fld Z h143 b93 "com/example/steady_limiter/steadylimiter/SlidingWindowLog$PermitLog" "times" "[J" (.ref ta99) := N143_0
      have F_b93_permits : Fld Z h143 b93 "com/example/steady_limiter/steadylimiter/SlidingWindowLog$PermitLog" "permits" "[J" (.ref pa99) := N143_1
      have F_b93_head : Fld Z h143 b93 "com/example/steady_limiter/steadylimiter/SlidingWindowLog$PermitLog" "head" "I" (.int (0 : Int32)) := N143_2
      have F_b93_size : Fld Z h143 b93 "com/example/steady_limiter/steadylimiter/SlidingWindowLog$PermitLog" "size" "I" (.int (((0 : Int32) + (1 : Int32)) + (1 : Int32))) := N143_3
      have F_b93_counted : Fld Z h143 b93 "com/example/steady_limiter/steadylimiter/SlidingWindowLog$PermitLog" "counted" "J" (.long (((0 : Int64) + (1 : Int64)) + (1 : Int64))) := N143_4
      have A_ta99 : AJ Z h143 ta99 [v64, v57] := N143_5
      have A_pa99 : AJ Z h143 pa99 [(1 : Int64), (1 : Int64)] := N143_6
      replace K := K.trans K143 (allS (Or.inr sz_b93) (allS (Or.inr sz_ta99) (allS (Or.inr sz_pa99) all0)))
      refine C.aload (pc' := 148) at_146 rfl rfl rfl ?_
      refine C.aload (pc' := 150) at_148 rfl rfl rfl ?_
      refine C.lload (pc' := 152) at_150 rfl rfl ?_
      refine C.callv (w := 0) (own_fresh1 l Z a0 hw n0 h143 b79 b93 p2 v9 ta99 (0 : Int32) (((0 : Int32) + (1 : Int32)) + (1 : Int32)) [v64, v57] (2 : Int32) 1 E_b79 E_b93 F_b79_windowNanos F_b93_size F_b93_head F_b93_times A_ta99 (show (2 : Int32).toInt = ((2 : Nat) : Int) from by decide) (by decide) (by decide) (show 1 < 2 from by decide)) E_b79 (ow75 hw) (ow76 hw) (ow78 hw) (ow77 hw) (ow7 hw) (ow79 hw) (pc' := 155) at_152 rfl rfl rfl (by decide) pd__Lcom_example_steady_limiter_steadylimiter_SlidingWindowLog_PermitLog_J_J rfl (by decide) (Nat.le_of_eq rfl) (by decide) (by decide) (by decide) (kJe ?_)
      refine C.lstore (f := fun v_ => #[.val (.long p1), .second, .val (.long p2), .second, .val (.long p3), .second, .val (.long p4), .second, .val (.long p5), .second, .val (.int p6), .val (.long v9), .second, .val (.long p2), .second, .val (.long v23), .second, .val (.long v37), .second, .val (.long v50), .second, .val (.long v57), .second, .val (.long v64), .second, .val (.long v71), .second, .val (.int (2 : Int32)), .val (.ref b79), .val (.ref b93), .val (.long v_), .second, .unset, .unset]) (pc' := 157) at_155 rfl (fun _ => rfl) (fun v155 e155 => ?_)
      refine C.lconst (v := 0) (pc' := 158) at_157 rfl rfl ?_
      refine C.lstoreX (l' := #[.val (.long p1), .second, .val (.long p2), .second, .val (.long p3), .second, .val (.long p4), .second, .val (.long p5), .second, .val (.int p6), .val (.long v9), .second, .val (.long p2), .second, .val (.long v23), .second, .val (.long v37), .second, .val (.long v50), .second, .val (.long v57), .second, .val (.long v64), .second, .val (.long v71), .second, .val (.int (2 : Int32)), .val (.ref b79), .val (.ref b93), .val (.long v155), .second, .val (.long (0 : Int64)), .second]) (pc' := 160) at_158 rfl rfl ?_
      refine C.iload (pc' := 162) at_160 rfl rfl ?_
      refine C.iconst (v := 1) (pc' := 163) at_162 rfl rfl ?_
      refine C.icmp_lt (pc' := 166) (pt := 173) at_163 rfl rfl (fun c163 => absurd c163 (by decide)) (fun c163 => ?_)
      refine C.lload (pc' := 168) at_166 rfl rfl ?_
      refine C.lload (pc' := 170) at_168 rfl rfl ?_
      refine C.lsub (pc' := 171) at_170 rfl ?_
      refine C.lstore (f := fun v_ => #[.val (.long p1), .second, .val (.long p2), .second, .val (.long p3), .second, .val (.long p4), .second, .val (.long p5), .second, .val (.int p6), .val (.long v9), .second, .val (.long p2), .second, .val (.long v23), .second, .val (.long v37), .second, .val (.long v50), .second, .val (.long v57), .second, .val (.long v64), .second, .val (.long v71), .second, .val (.int (2 : Int32)), .val (.ref b79), .val (.ref b93), .val (.long v155), .second, .val (.long v_), .second]) (pc' := 173) at_171 rfl (fun _ => rfl) (fun v171 e171 => ?_)
      refine C.lload (pc' := 175) at_173 rfl rfl ?_
      refine C.lload (pc' := 177) at_175 rfl rfl ?_
      refine C.lif_ne (pc' := 181) (pt := 185) at_177 rfl at_178 rfl rfl (fun c177 => absurd (own_fin e155 rfl e57 e171) c177) (fun c177 => ?_)
      refine C.iconst (v := 1) (pc' := 182) at_181 rfl rfl ?_
      refine C.goto (pc' := 186) at_182 rfl ?_
      refine C.retZ (show ret = some .boolean from rfl) (by decide) at_186 (by decide) (by decide) ⟨⟨_, rfl, rfl⟩, Sz88⟩
  · subst q77
    refine C.iload (pc' := 106) at_104 rfl rfl ?_
    refine C.iconst (v := 2) (pc' := 107) at_106 rfl rfl ?_
    refine C.icmp_lt (pc' := 110) (pt := 118) at_107 rfl rfl (fun c107 => absurd c107 (by decide)) (fun c107 => ?_)
    refine C.aload (pc' := 112) at_110 rfl rfl rfl ?_
    refine C.lload (pc' := 114) at_112 rfl rfl ?_
    refine C.lconst (v := 1) (pc' := 115) at_114 rfl rfl ?_
    refine C.callv (w := 0) (own_addB0 l Z a0 hw n0 h99 b93 v64 (1 : Int64) ta99 pa99 (0 : Int32) (0 : Int32) (0 : Int64) [(0 : Int64), (0 : Int64)] [(0 : Int64), (0 : Int64)] (2 : Int32) 0 (Nat.le_trans Z0 K.1) E_b93 F_b93_times F_b93_permits F_b93_head F_b93_size F_b93_counted A_ta99 A_pa99 g_b93 g_ta99 g_pa99 ne_b93_ta99 ne_b93_pa99 ne_ta99_pa99 (show (2 : Int32).toInt = ((2 : Nat) : Int) from by decide) (by decide) (by decide) (show 0 < 2 from by decide) (show 0 < 2 from by decide) (by decide)) E_b93 (ow55 hw) (ow56 hw) (ow58 hw) (ow57 hw) (ow38 hw) (ow59 hw) (pc' := 118) at_115 rfl rfl rfl (by decide) pd__JJ_V rfl (by decide) (Nat.le_of_eq rfl) (by decide) (by decide) (by decide) (kV fun h115 q115 => ?_)
    obtain ⟨K115, N115_0, N115_1, N115_2, N115_3, N115_4, N115_5, N115_6⟩ := q115
    replace E_b79 := E_b79.keep K115
    replace F_b79_windowNanos := F_b79_windowNanos.keep K115 (ninS ne_b79_b93 (ninS ne_b79_ta99 (ninS ne_b79_pa99 nin0)))
    replace E_b93 := E_b93.keep K115
    replace Sz88 := Nat.le_trans Sz88 K115.1
    have F_b93_times : Fld Z h115 b93 "com/example/steady_limiter/steadylimiter/SlidingWindowLog$PermitLog" "times" "[J" (.ref ta99) := N115_0
    have F_b93_permits : Fld Z h115 b93 "com/example/steady_limiter/steadylimiter/SlidingWindowLog$PermitLog" "permits" "[J" (.ref pa99) := N115_1
    have F_b93_head : Fld Z h115 b93 "com/example/steady_limiter/steadylimiter/SlidingWindowLog$PermitLog" "head" "I" (.int (0 : Int32)) := N115_2
    have F_b93_size : Fld Z h115 b93 "com/example/steady_limiter/steadylimiter/SlidingWindowLog$PermitLog" "size" "I" (.int ((0 : Int32) + (1 : Int32))) := N115_3
    have F_b93_counted : Fld Z h115 b93 "com/example/steady_limiter/steadylimiter/SlidingWindowLog$PermitLog" "counted" "J" (.long ((0 : Int64) + (1 : Int64))) := N115_4
    have A_ta99 : AJ Z h115 ta99 [v64, (0 : Int64)] := N115_5
    have A_pa99 : AJ Z h115 pa99 [(1 : Int64), (0 : Int64)] := N115_6
    replace K := K.trans K115 (allS (Or.inr sz_b93) (allS (Or.inr sz_ta99) (allS (Or.inr sz_pa99) all0)))
    refine C.iload (pc' := 120) at_118 rfl rfl ?_
    refine C.iconst (v := 3) (pc' := 121) at_120 rfl rfl ?_
    refine C.icmp_ne (pc' := 124) (pt := 132) at_121 rfl rfl (fun c121 => absurd (by decide) c121) (fun c121 => ?_)
    rcases Classical.em (v64 = v71) with y124 | y124
    · skip
      refine C.aload (pc' := 126) at_124 rfl rfl rfl ?_
      refine C.lload (pc' := 128) at_126 rfl rfl ?_
      refine C.lconst (v := 1) (pc' := 129) at_128 rfl rfl ?_
      refine C.callv (w := 0) (own_addA l Z a0 hw n0 h115 b93 v71 (1 : Int64) ta99 pa99 (0 : Int32) ((0 : Int32) + (1 : Int32)) ((0 : Int64) + (1 : Int64)) [v64, (0 : Int64)] [(1 : Int64), (0 : Int64)] (2 : Int32) 0 (Nat.le_trans Z0 K.1) E_b93 F_b93_times F_b93_permits F_b93_head F_b93_size F_b93_counted A_ta99 A_pa99 g_b93 g_ta99 g_pa99 ne_b93_ta99 ne_b93_pa99 ne_ta99_pa99 (show (2 : Int32).toInt = ((2 : Nat) : Int) from by decide) (by decide) (by decide) (show 0 < 2 from by decide) (show 0 < 2 from by decide) y124) E_b93 (ow55 hw) (ow56 hw) (ow58 hw) (ow57 hw) (ow38 hw) (ow59 hw) (pc' := 132) at_129 rfl rfl rfl (by decide) pd__JJ_V rfl (by decide) (Nat.le_of_eq rfl) (by decide) (by decide) (by decide) (kV fun h129 q129 => ?_)
      obtain ⟨K129, N129_0, N129_1, N129_2, N129_3, N129_4, N129_5⟩ := q129
      replace E_b79 := E_b79.keep K129
      replace F_b79_windowNanos := F_b79_windowNanos.keep K129 (ninS ne_b79_b93 (ninS ne_b79_pa99 nin0))
      replace E_b93 := E_b93.keep K129
      replace A_ta99 := A_ta99.keep K129 (ninS (Ne.symm ne_b93_ta99) (ninS ne_ta99_pa99 nin0))
      replace Sz88 := Nat.le_trans Sz88 K129.1
      have F_b93_times : Fld Z h129 b93 "com/example/steady_limiter/steadylimiter/SlidingWindowLog$PermitLog" "times" "[J" (.ref ta99) := N129_0
      have F_b93_permits : Fld Z h129 b93 "com/example/steady_limiter/steadylimiter/SlidingWindowLog$PermitLog" "permits" "[J" (.ref pa99) := N129_1
      have F_b93_head : Fld Z h129 b93 "com/example/steady_limiter/steadylimiter/SlidingWindowLog$PermitLog" "head" "I" (.int (0 : Int32)) := N129_2
      have F_b93_size : Fld Z h129 b93 "com/example/steady_limiter/steadylimiter/SlidingWindowLog$PermitLog" "size" "I" (.int ((0 : Int32) + (1 : Int32))) := N129_3
      have F_b93_counted : Fld Z h129 b93 "com/example/steady_limiter/steadylimiter/SlidingWindowLog$PermitLog" "counted" "J" (.long (((0 : Int64) + (1 : Int64)) + (1 : Int64))) := N129_4
      have A_pa99 : AJ Z h129 pa99 [((1 : Int64) + (1 : Int64)), (0 : Int64)] := N129_5
      replace K := K.trans K129 (allS (Or.inr sz_b93) (allS (Or.inr sz_pa99) all0))
      refine C.iload (pc' := 134) at_132 rfl rfl ?_
      refine C.iconst (v := 1) (pc' := 135) at_134 rfl rfl ?_
      refine C.icmp_lt (pc' := 138) (pt := 146) at_135 rfl rfl (fun c135 => absurd c135 (by decide)) (fun c135 => ?_)
      rcases Classical.em (v64 = v57) with y138 | y138
      · skip
        refine C.aload (pc' := 140) at_138 rfl rfl rfl ?_
        refine C.lload (pc' := 142) at_140 rfl rfl ?_
        refine C.lconst (v := 1) (pc' := 143) at_142 rfl rfl ?_
        refine C.callv (w := 0) (own_addA l Z a0 hw n0 h129 b93 v57 (1 : Int64) ta99 pa99 (0 : Int32) ((0 : Int32) + (1 : Int32)) (((0 : Int64) + (1 : Int64)) + (1 : Int64)) [v64, (0 : Int64)] [((1 : Int64) + (1 : Int64)), (0 : Int64)] (2 : Int32) 0 (Nat.le_trans Z0 K.1) E_b93 F_b93_times F_b93_permits F_b93_head F_b93_size F_b93_counted A_ta99 A_pa99 g_b93 g_ta99 g_pa99 ne_b93_ta99 ne_b93_pa99 ne_ta99_pa99 (show (2 : Int32).toInt = ((2 : Nat) : Int) from by decide) (by decide) (by decide) (show 0 < 2 from by decide) (show 0 < 2 from by decide) y138) E_b93 (ow55 hw) (ow56 hw) (ow58 hw) (ow57 hw) (ow38 hw) (ow59 hw) (pc' := 146) at_143 rfl rfl rfl (by decide) pd__JJ_V rfl (by decide) (Nat.le_of_eq rfl) (by decide) (by decide) (by decide) (kV fun h143 q143 => ?_)
        obtain ⟨K143, N143_0, N143_1, N143_2, N143_3, N143_4, N143_5⟩ := q143
        replace E_b79 := E_b79.keep K143
        replace F_b79_windowNanos := F_b79_windowNanos.keep K143 (ninS ne_b79_b93 (ninS ne_b79_pa99 nin0))
        replace E_b93 := E_b93.keep K143
        replace A_ta99 := A_ta99.keep K143 (ninS (Ne.symm ne_b93_ta99) (ninS ne_ta99_pa99 nin0))
        replace Sz88 := Nat.le_trans Sz88 K143.1
        have F_b93_times : Fld Z h143 b93 "com/example/steady_limiter/steadylimiter/SlidingWindowLog$PermitLog" "times" "[J" (.ref ta99) := N143_0
        have F_b93_permits : Fld Z h143 b93 "com/example/steady_limiter/steadylimiter/SlidingWindowLog$PermitLog" "permits" "[J" (.ref pa99) := N143_1
        have F_b93_head : Fld Z h143 b93 "com/example/steady_limiter/steadylimiter/SlidingWindowLog$PermitLog" "head" "I" (.int (0 : Int32)) := N143_2
        have F_b93_size : Fld Z h143 b93 "com/example/steady_limiter/steadylimiter/SlidingWindowLog$PermitLog" "size" "I" (.int ((0 : Int32) + (1 : Int32))) := N143_3
        have F_b93_counted : Fld Z h143 b93 "com/example/steady_limiter/steadylimiter/SlidingWindowLog$PermitLog" "counted" "J" (.long ((((0 : Int64) + (1 : Int64)) + (1 : Int64)) + (1 : Int64))) := N143_4
        have A_pa99 : AJ Z h143 pa99 [(((1 : Int64) + (1 : Int64)) + (1 : Int64)), (0 : Int64)] := N143_5
        replace K := K.trans K143 (allS (Or.inr sz_b93) (allS (Or.inr sz_pa99) all0))
        refine C.aload (pc' := 148) at_146 rfl rfl rfl ?_
        refine C.aload (pc' := 150) at_148 rfl rfl rfl ?_
        refine C.lload (pc' := 152) at_150 rfl rfl ?_
        refine C.callv (w := 0) (own_fresh1 l Z a0 hw n0 h143 b79 b93 p2 v9 ta99 (0 : Int32) ((0 : Int32) + (1 : Int32)) [v64, (0 : Int64)] (2 : Int32) 0 E_b79 E_b93 F_b79_windowNanos F_b93_size F_b93_head F_b93_times A_ta99 (show (2 : Int32).toInt = ((2 : Nat) : Int) from by decide) (by decide) (by decide) (show 0 < 2 from by decide)) E_b79 (ow75 hw) (ow76 hw) (ow78 hw) (ow77 hw) (ow7 hw) (ow79 hw) (pc' := 155) at_152 rfl rfl rfl (by decide) pd__Lcom_example_steady_limiter_steadylimiter_SlidingWindowLog_PermitLog_J_J rfl (by decide) (Nat.le_of_eq rfl) (by decide) (by decide) (by decide) (kJe ?_)
        refine C.lstore (f := fun v_ => #[.val (.long p1), .second, .val (.long p2), .second, .val (.long p3), .second, .val (.long p4), .second, .val (.long p5), .second, .val (.int p6), .val (.long v9), .second, .val (.long p2), .second, .val (.long v23), .second, .val (.long v37), .second, .val (.long v50), .second, .val (.long v57), .second, .val (.long v64), .second, .val (.long v71), .second, .val (.int (3 : Int32)), .val (.ref b79), .val (.ref b93), .val (.long v_), .second, .unset, .unset]) (pc' := 157) at_155 rfl (fun _ => rfl) (fun v155 e155 => ?_)
        refine C.lconst (v := 0) (pc' := 158) at_157 rfl rfl ?_
        refine C.lstoreX (l' := #[.val (.long p1), .second, .val (.long p2), .second, .val (.long p3), .second, .val (.long p4), .second, .val (.long p5), .second, .val (.int p6), .val (.long v9), .second, .val (.long p2), .second, .val (.long v23), .second, .val (.long v37), .second, .val (.long v50), .second, .val (.long v57), .second, .val (.long v64), .second, .val (.long v71), .second, .val (.int (3 : Int32)), .val (.ref b79), .val (.ref b93), .val (.long v155), .second, .val (.long (0 : Int64)), .second]) (pc' := 160) at_158 rfl rfl ?_
        refine C.iload (pc' := 162) at_160 rfl rfl ?_
        refine C.iconst (v := 1) (pc' := 163) at_162 rfl rfl ?_
        refine C.icmp_lt (pc' := 166) (pt := 173) at_163 rfl rfl (fun c163 => absurd c163 (by decide)) (fun c163 => ?_)
        refine C.lload (pc' := 168) at_166 rfl rfl ?_
        refine C.lload (pc' := 170) at_168 rfl rfl ?_
        refine C.lsub (pc' := 171) at_170 rfl ?_
        refine C.lstore (f := fun v_ => #[.val (.long p1), .second, .val (.long p2), .second, .val (.long p3), .second, .val (.long p4), .second, .val (.long p5), .second, .val (.int p6), .val (.long v9), .second, .val (.long p2), .second, .val (.long v23), .second, .val (.long v37), .second, .val (.long v50), .second, .val (.long v57), .second, .val (.long v64), .second, .val (.long v71), .second, .val (.int (3 : Int32)), .val (.ref b79), .val (.ref b93), .val (.long v155), .second, .val (.long v_), .second]) (pc' := 173) at_171 rfl (fun _ => rfl) (fun v171 e171 => ?_)
        refine C.lload (pc' := 175) at_173 rfl rfl ?_
        refine C.lload (pc' := 177) at_175 rfl rfl ?_
        refine C.lif_ne (pc' := 181) (pt := 185) at_177 rfl at_178 rfl rfl (fun c177 => absurd (own_fin e155 y138 e57 e171) c177) (fun c177 => ?_)
        refine C.iconst (v := 1) (pc' := 182) at_181 rfl rfl ?_
        refine C.goto (pc' := 186) at_182 rfl ?_
        refine C.retZ (show ret = some .boolean from rfl) (by decide) at_186 (by decide) (by decide) ⟨⟨_, rfl, rfl⟩, Sz88⟩
      · skip
        refine C.aload (pc' := 140) at_138 rfl rfl rfl ?_
        refine C.lload (pc' := 142) at_140 rfl rfl ?_
        refine C.lconst (v := 1) (pc' := 143) at_142 rfl rfl ?_
        refine C.callv (w := 0) (own_addB1 l Z a0 hw n0 h129 b93 v57 (1 : Int64) ta99 pa99 (0 : Int32) ((0 : Int32) + (1 : Int32)) (((0 : Int64) + (1 : Int64)) + (1 : Int64)) [v64, (0 : Int64)] [((1 : Int64) + (1 : Int64)), (0 : Int64)] (2 : Int32) 0 1 (Nat.le_trans Z0 K.1) E_b93 F_b93_times F_b93_permits F_b93_head F_b93_size F_b93_counted A_ta99 A_pa99 g_b93 g_ta99 g_pa99 ne_b93_ta99 ne_b93_pa99 ne_ta99_pa99 (show (2 : Int32).toInt = ((2 : Nat) : Int) from by decide) (by decide) (by decide) (show 0 < 2 from by decide) (show 0 < 2 from by decide) y138 (by decide) (show 1 < 2 from by decide) (show 1 < 2 from by decide) (by decide)) E_b93 (ow55 hw) (ow56 hw) (ow58 hw) (ow57 hw) (ow38 hw) (ow59 hw) (pc' := 146) at_143 rfl rfl rfl (by decide) pd__JJ_V rfl (by decide) (Nat.le_of_eq rfl) (by decide) (by decide) (by decide) (kV fun h143 q143 => ?_)
        obtain ⟨K143, N143_0, N143_1, N143_2, N143_3, N143_4, N143_5, N143_6⟩ := q143
        replace E_b79 := E_b79.keep K143
        replace F_b79_windowNanos := F_b79_windowNanos.keep K143 (ninS ne_b79_b93 (ninS ne_b79_ta99 (ninS ne_b79_pa99 nin0)))
        replace E_b93 := E_b93.keep K143
        replace Sz88 := Nat.le_trans Sz88 K143.1
        have F_b93_times : Fld Z h143 b93 "com/example/steady_limiter/steadylimiter/SlidingWindowLog$PermitLog" "times" "[J" (.ref ta99) := N143_0
        have F_b93_permits : Fld Z h143 b93 "com/example/steady_limiter/steadylimiter/SlidingWindowLog$PermitLog" "permits" "[J" (.ref pa99) := N143_1
        have F_b93_head : Fld Z h143 b93 "com/example/steady_limiter/steadylimiter/SlidingWindowLog$PermitLog" "head" "I" (.int (0 : Int32)) := N143_2
        have F_b93_size : Fld Z h143 b93 "com/example/steady_limiter/steadylimiter/SlidingWindowLog$PermitLog" "size" "I" (.int (((0 : Int32) + (1 : Int32)) + (1 : Int32))) := N143_3
        have F_b93_counted : Fld Z h143 b93 "com/example/steady_limiter/steadylimiter/SlidingWindowLog$PermitLog" "counted" "J" (.long ((((0 : Int64) + (1 : Int64)) + (1 : Int64)) + (1 : Int64))) := N143_4
        have A_ta99 : AJ Z h143 ta99 [v64, v57] := N143_5
        have A_pa99 : AJ Z h143 pa99 [((1 : Int64) + (1 : Int64)), (1 : Int64)] := N143_6
        replace K := K.trans K143 (allS (Or.inr sz_b93) (allS (Or.inr sz_ta99) (allS (Or.inr sz_pa99) all0)))
        refine C.aload (pc' := 148) at_146 rfl rfl rfl ?_
        refine C.aload (pc' := 150) at_148 rfl rfl rfl ?_
        refine C.lload (pc' := 152) at_150 rfl rfl ?_
        refine C.callv (w := 0) (own_fresh1 l Z a0 hw n0 h143 b79 b93 p2 v9 ta99 (0 : Int32) (((0 : Int32) + (1 : Int32)) + (1 : Int32)) [v64, v57] (2 : Int32) 1 E_b79 E_b93 F_b79_windowNanos F_b93_size F_b93_head F_b93_times A_ta99 (show (2 : Int32).toInt = ((2 : Nat) : Int) from by decide) (by decide) (by decide) (show 1 < 2 from by decide)) E_b79 (ow75 hw) (ow76 hw) (ow78 hw) (ow77 hw) (ow7 hw) (ow79 hw) (pc' := 155) at_152 rfl rfl rfl (by decide) pd__Lcom_example_steady_limiter_steadylimiter_SlidingWindowLog_PermitLog_J_J rfl (by decide) (Nat.le_of_eq rfl) (by decide) (by decide) (by decide) (kJe ?_)
        refine C.lstore (f := fun v_ => #[.val (.long p1), .second, .val (.long p2), .second, .val (.long p3), .second, .val (.long p4), .second, .val (.long p5), .second, .val (.int p6), .val (.long v9), .second, .val (.long p2), .second, .val (.long v23), .second, .val (.long v37), .second, .val (.long v50), .second, .val (.long v57), .second, .val (.long v64), .second, .val (.long v71), .second, .val (.int (3 : Int32)), .val (.ref b79), .val (.ref b93), .val (.long v_), .second, .unset, .unset]) (pc' := 157) at_155 rfl (fun _ => rfl) (fun v155 e155 => ?_)
        refine C.lconst (v := 0) (pc' := 158) at_157 rfl rfl ?_
        refine C.lstoreX (l' := #[.val (.long p1), .second, .val (.long p2), .second, .val (.long p3), .second, .val (.long p4), .second, .val (.long p5), .second, .val (.int p6), .val (.long v9), .second, .val (.long p2), .second, .val (.long v23), .second, .val (.long v37), .second, .val (.long v50), .second, .val (.long v57), .second, .val (.long v64), .second, .val (.long v71), .second, .val (.int (3 : Int32)), .val (.ref b79), .val (.ref b93), .val (.long v155), .second, .val (.long (0 : Int64)), .second]) (pc' := 160) at_158 rfl rfl ?_
        refine C.iload (pc' := 162) at_160 rfl rfl ?_
        refine C.iconst (v := 1) (pc' := 163) at_162 rfl rfl ?_
        refine C.icmp_lt (pc' := 166) (pt := 173) at_163 rfl rfl (fun c163 => absurd c163 (by decide)) (fun c163 => ?_)
        refine C.lload (pc' := 168) at_166 rfl rfl ?_
        refine C.lload (pc' := 170) at_168 rfl rfl ?_
        refine C.lsub (pc' := 171) at_170 rfl ?_
        refine C.lstore (f := fun v_ => #[.val (.long p1), .second, .val (.long p2), .second, .val (.long p3), .second, .val (.long p4), .second, .val (.long p5), .second, .val (.int p6), .val (.long v9), .second, .val (.long p2), .second, .val (.long v23), .second, .val (.long v37), .second, .val (.long v50), .second, .val (.long v57), .second, .val (.long v64), .second, .val (.long v71), .second, .val (.int (3 : Int32)), .val (.ref b79), .val (.ref b93), .val (.long v155), .second, .val (.long v_), .second]) (pc' := 173) at_171 rfl (fun _ => rfl) (fun v171 e171 => ?_)
        refine C.lload (pc' := 175) at_173 rfl rfl ?_
        refine C.lload (pc' := 177) at_175 rfl rfl ?_
        refine C.lif_ne (pc' := 181) (pt := 185) at_177 rfl at_178 rfl rfl (fun c177 => absurd (own_fin e155 rfl e57 e171) c177) (fun c177 => ?_)
        refine C.iconst (v := 1) (pc' := 182) at_181 rfl rfl ?_
        refine C.goto (pc' := 186) at_182 rfl ?_
        refine C.retZ (show ret = some .boolean from rfl) (by decide) at_186 (by decide) (by decide) ⟨⟨_, rfl, rfl⟩, Sz88⟩
    · skip
      refine C.aload (pc' := 126) at_124 rfl rfl rfl ?_
      refine C.lload (pc' := 128) at_126 rfl rfl ?_
      refine C.lconst (v := 1) (pc' := 129) at_128 rfl rfl ?_
      refine C.callv (w := 0) (own_addB1 l Z a0 hw n0 h115 b93 v71 (1 : Int64) ta99 pa99 (0 : Int32) ((0 : Int32) + (1 : Int32)) ((0 : Int64) + (1 : Int64)) [v64, (0 : Int64)] [(1 : Int64), (0 : Int64)] (2 : Int32) 0 1 (Nat.le_trans Z0 K.1) E_b93 F_b93_times F_b93_permits F_b93_head F_b93_size F_b93_counted A_ta99 A_pa99 g_b93 g_ta99 g_pa99 ne_b93_ta99 ne_b93_pa99 ne_ta99_pa99 (show (2 : Int32).toInt = ((2 : Nat) : Int) from by decide) (by decide) (by decide) (show 0 < 2 from by decide) (show 0 < 2 from by decide) y124 (by decide) (show 1 < 2 from by decide) (show 1 < 2 from by decide) (by decide)) E_b93 (ow55 hw) (ow56 hw) (ow58 hw) (ow57 hw) (ow38 hw) (ow59 hw) (pc' := 132) at_129 rfl rfl rfl (by decide) pd__JJ_V rfl (by decide) (Nat.le_of_eq rfl) (by decide) (by decide) (by decide) (kV fun h129 q129 => ?_)
      obtain ⟨K129, N129_0, N129_1, N129_2, N129_3, N129_4, N129_5, N129_6⟩ := q129
      replace E_b79 := E_b79.keep K129
      replace F_b79_windowNanos := F_b79_windowNanos.keep K129 (ninS ne_b79_b93 (ninS ne_b79_ta99 (ninS ne_b79_pa99 nin0)))
      replace E_b93 := E_b93.keep K129
      replace Sz88 := Nat.le_trans Sz88 K129.1
      have F_b93_times : Fld Z h129 b93 "com/example/steady_limiter/steadylimiter/SlidingWindowLog$PermitLog" "times" "[J" (.ref ta99) := N129_0
      have F_b93_permits : Fld Z h129 b93 "com/example/steady_limiter/steadylimiter/SlidingWindowLog$PermitLog" "permits" "[J" (.ref pa99) := N129_1
      have F_b93_head : Fld Z h129 b93 "com/example/steady_limiter/steadylimiter/SlidingWindowLog$PermitLog" "head" "I" (.int (0 : Int32)) := N129_2
      have F_b93_size : Fld Z h129 b93 "com/example/steady_limiter/steadylimiter/SlidingWindowLog$PermitLog" "size" "I" (.int (((0 : Int32) + (1 : Int32)) + (1 : Int32))) := N129_3
      have F_b93_counted : Fld Z h129 b93 "com/example/steady_limiter/steadylimiter/SlidingWindowLog$PermitLog" "counted" "J" (.long (((0 : Int64) + (1 : Int64)) + (1 : Int64))) := N129_4
      have A_ta99 : AJ Z h129 ta99 [v64, v71] := N129_5
      have A_pa99 : AJ Z h129 pa99 [(1 : Int64), (1 : Int64)] := N129_6
      replace K := K.trans K129 (allS (Or.inr sz_b93) (allS (Or.inr sz_ta99) (allS (Or.inr sz_pa99) all0)))
      refine C.iload (pc' := 134) at_132 rfl rfl ?_
      refine C.iconst (v := 1) (pc' := 135) at_134 rfl rfl ?_
      refine C.icmp_lt (pc' := 138) (pt := 146) at_135 rfl rfl (fun c135 => absurd c135 (by decide)) (fun c135 => ?_)
      rcases Classical.em (v71 = v57) with y138 | y138
      · skip
        refine C.aload (pc' := 140) at_138 rfl rfl rfl ?_
        refine C.lload (pc' := 142) at_140 rfl rfl ?_
        refine C.lconst (v := 1) (pc' := 143) at_142 rfl rfl ?_
        refine C.callv (w := 0) (own_addA l Z a0 hw n0 h129 b93 v57 (1 : Int64) ta99 pa99 (0 : Int32) (((0 : Int32) + (1 : Int32)) + (1 : Int32)) (((0 : Int64) + (1 : Int64)) + (1 : Int64)) [v64, v71] [(1 : Int64), (1 : Int64)] (2 : Int32) 1 (Nat.le_trans Z0 K.1) E_b93 F_b93_times F_b93_permits F_b93_head F_b93_size F_b93_counted A_ta99 A_pa99 g_b93 g_ta99 g_pa99 ne_b93_ta99 ne_b93_pa99 ne_ta99_pa99 (show (2 : Int32).toInt = ((2 : Nat) : Int) from by decide) (by decide) (by decide) (show 1 < 2 from by decide) (show 1 < 2 from by decide) y138) E_b93 (ow55 hw) (ow56 hw) (ow58 hw) (ow57 hw) (ow38 hw) (ow59 hw) (pc' := 146) at_143 rfl rfl rfl (by decide) pd__JJ_V rfl (by decide) (Nat.le_of_eq rfl) (by decide) (by decide) (by decide) (kV fun h143 q143 => ?_)
        obtain ⟨K143, N143_0, N143_1, N143_2, N143_3, N143_4, N143_5⟩ := q143
        replace E_b79 := E_b79.keep K143
        replace F_b79_windowNanos := F_b79_windowNanos.keep K143 (ninS ne_b79_b93 (ninS ne_b79_pa99 nin0))
        replace E_b93 := E_b93.keep K143
        replace A_ta99 := A_ta99.keep K143 (ninS (Ne.symm ne_b93_ta99) (ninS ne_ta99_pa99 nin0))
        replace Sz88 := Nat.le_trans Sz88 K143.1
        have F_b93_times : Fld Z h143 b93 "com/example/steady_limiter/steadylimiter/SlidingWindowLog$PermitLog" "times" "[J" (.ref ta99) := N143_0
        have F_b93_permits : Fld Z h143 b93 "com/example/steady_limiter/steadylimiter/SlidingWindowLog$PermitLog" "permits" "[J" (.ref pa99) := N143_1
        have F_b93_head : Fld Z h143 b93 "com/example/steady_limiter/steadylimiter/SlidingWindowLog$PermitLog" "head" "I" (.int (0 : Int32)) := N143_2
        have F_b93_size : Fld Z h143 b93 "com/example/steady_limiter/steadylimiter/SlidingWindowLog$PermitLog" "size" "I" (.int (((0 : Int32) + (1 : Int32)) + (1 : Int32))) := N143_3
        have F_b93_counted : Fld Z h143 b93 "com/example/steady_limiter/steadylimiter/SlidingWindowLog$PermitLog" "counted" "J" (.long ((((0 : Int64) + (1 : Int64)) + (1 : Int64)) + (1 : Int64))) := N143_4
        have A_pa99 : AJ Z h143 pa99 [(1 : Int64), ((1 : Int64) + (1 : Int64))] := N143_5
        replace K := K.trans K143 (allS (Or.inr sz_b93) (allS (Or.inr sz_pa99) all0))
        refine C.aload (pc' := 148) at_146 rfl rfl rfl ?_
        refine C.aload (pc' := 150) at_148 rfl rfl rfl ?_
        refine C.lload (pc' := 152) at_150 rfl rfl ?_
        refine C.callv (w := 0) (own_fresh1 l Z a0 hw n0 h143 b79 b93 p2 v9 ta99 (0 : Int32) (((0 : Int32) + (1 : Int32)) + (1 : Int32)) [v64, v71] (2 : Int32) 1 E_b79 E_b93 F_b79_windowNanos F_b93_size F_b93_head F_b93_times A_ta99 (show (2 : Int32).toInt = ((2 : Nat) : Int) from by decide) (by decide) (by decide) (show 1 < 2 from by decide)) E_b79 (ow75 hw) (ow76 hw) (ow78 hw) (ow77 hw) (ow7 hw) (ow79 hw) (pc' := 155) at_152 rfl rfl rfl (by decide) pd__Lcom_example_steady_limiter_steadylimiter_SlidingWindowLog_PermitLog_J_J rfl (by decide) (Nat.le_of_eq rfl) (by decide) (by decide) (by decide) (kJe ?_)
        refine C.lstore (f := fun v_ => #[.val (.long p1), .second, .val (.long p2), .second, .val (.long p3), .second, .val (.long p4), .second, .val (.long p5), .second, .val (.int p6), .val (.long v9), .second, .val (.long p2), .second, .val (.long v23), .second, .val (.long v37), .second, .val (.long v50), .second, .val (.long v57), .second, .val (.long v64), .second, .val (.long v71), .second, .val (.int (3 : Int32)), .val (.ref b79), .val (.ref b93), .val (.long v_), .second, .unset, .unset]) (pc' := 157) at_155 rfl (fun _ => rfl) (fun v155 e155 => ?_)
        refine C.lconst (v := 0) (pc' := 158) at_157 rfl rfl ?_
        refine C.lstoreX (l' := #[.val (.long p1), .second, .val (.long p2), .second, .val (.long p3), .second, .val (.long p4), .second, .val (.long p5), .second, .val (.int p6), .val (.long v9), .second, .val (.long p2), .second, .val (.long v23), .second, .val (.long v37), .second, .val (.long v50), .second, .val (.long v57), .second, .val (.long v64), .second, .val (.long v71), .second, .val (.int (3 : Int32)), .val (.ref b79), .val (.ref b93), .val (.long v155), .second, .val (.long (0 : Int64)), .second]) (pc' := 160) at_158 rfl rfl ?_
        refine C.iload (pc' := 162) at_160 rfl rfl ?_
        refine C.iconst (v := 1) (pc' := 163) at_162 rfl rfl ?_
        refine C.icmp_lt (pc' := 166) (pt := 173) at_163 rfl rfl (fun c163 => absurd c163 (by decide)) (fun c163 => ?_)
        refine C.lload (pc' := 168) at_166 rfl rfl ?_
        refine C.lload (pc' := 170) at_168 rfl rfl ?_
        refine C.lsub (pc' := 171) at_170 rfl ?_
        refine C.lstore (f := fun v_ => #[.val (.long p1), .second, .val (.long p2), .second, .val (.long p3), .second, .val (.long p4), .second, .val (.long p5), .second, .val (.int p6), .val (.long v9), .second, .val (.long p2), .second, .val (.long v23), .second, .val (.long v37), .second, .val (.long v50), .second, .val (.long v57), .second, .val (.long v64), .second, .val (.long v71), .second, .val (.int (3 : Int32)), .val (.ref b79), .val (.ref b93), .val (.long v155), .second, .val (.long v_), .second]) (pc' := 173) at_171 rfl (fun _ => rfl) (fun v171 e171 => ?_)
        refine C.lload (pc' := 175) at_173 rfl rfl ?_
        refine C.lload (pc' := 177) at_175 rfl rfl ?_
        refine C.lif_ne (pc' := 181) (pt := 185) at_177 rfl at_178 rfl rfl (fun c177 => absurd (own_fin e155 y138 e57 e171) c177) (fun c177 => ?_)
        refine C.iconst (v := 1) (pc' := 182) at_181 rfl rfl ?_
        refine C.goto (pc' := 186) at_182 rfl ?_
        refine C.retZ (show ret = some .boolean from rfl) (by decide) at_186 (by decide) (by decide) ⟨⟨_, rfl, rfl⟩, Sz88⟩
      · skip
        refine C.aload (pc' := 140) at_138 rfl rfl rfl ?_
        refine C.lload (pc' := 142) at_140 rfl rfl ?_
        refine C.lconst (v := 1) (pc' := 143) at_142 rfl rfl ?_
        refine C.callv (w := 0) (own_addC l Z a0 hw n0 h129 b93 v57 (1 : Int64) ta99 pa99 (0 : Int32) (((0 : Int32) + (1 : Int32)) + (1 : Int32)) (((0 : Int64) + (1 : Int64)) + (1 : Int64)) v64 v71 (1 : Int64) (1 : Int64) 1 0 1 (Nat.le_trans Z0 K.1) E_b93 F_b93_times F_b93_permits F_b93_head F_b93_size F_b93_counted A_ta99 A_pa99 g_b93 ne_b93_ta99 ne_b93_pa99 (by decide) (by decide) (by decide) y138 (by decide) (by decide) (by decide) (by decide)) E_b93 (ow55 hw) (ow56 hw) (ow58 hw) (ow57 hw) (ow38 hw) (ow59 hw) (pc' := 146) at_143 rfl rfl rfl (by decide) pd__JJ_V rfl (by decide) (Nat.le_of_eq rfl) (by decide) (by decide) (by decide) (kV fun h143 q143 => ?_)
        obtain ⟨tb143, pb143, K143, z143_tb143, z143_pb143, ne_tb143_pb143, N143_0, N143_1, N143_2, N143_3, N143_4, N143_5, N143_6⟩ := q143
        have ne_b79_tb143 : b79 ≠ tb143 := Nat.ne_of_lt (Nat.lt_of_lt_of_le (exaLt E_b79) z143_tb143)
        have ne_b93_tb143 : b93 ≠ tb143 := Nat.ne_of_lt (Nat.lt_of_lt_of_le (exaLt E_b93) z143_tb143)
        have ne_ta99_tb143 : ta99 ≠ tb143 := Nat.ne_of_lt (Nat.lt_of_lt_of_le A_ta99.lt z143_tb143)
        have ne_pa99_tb143 : pa99 ≠ tb143 := Nat.ne_of_lt (Nat.lt_of_lt_of_le A_pa99.lt z143_tb143)
        have sz_tb143 : hO.size ≤ tb143 := Nat.le_trans K.1 z143_tb143
        have g_tb143 : n0 ≤ tb143 := Nat.le_trans Z0 sz_tb143
        have ne_b79_pb143 : b79 ≠ pb143 := Nat.ne_of_lt (Nat.lt_of_lt_of_le (exaLt E_b79) z143_pb143)
        have ne_b93_pb143 : b93 ≠ pb143 := Nat.ne_of_lt (Nat.lt_of_lt_of_le (exaLt E_b93) z143_pb143)
        have ne_ta99_pb143 : ta99 ≠ pb143 := Nat.ne_of_lt (Nat.lt_of_lt_of_le A_ta99.lt z143_pb143)
        have ne_pa99_pb143 : pa99 ≠ pb143 := Nat.ne_of_lt (Nat.lt_of_lt_of_le A_pa99.lt z143_pb143)
        have sz_pb143 : hO.size ≤ pb143 := Nat.le_trans K.1 z143_pb143
        have g_pb143 : n0 ≤ pb143 := Nat.le_trans Z0 sz_pb143
        replace E_b79 := E_b79.keep K143
        replace F_b79_windowNanos := F_b79_windowNanos.keep K143 (ninS ne_b79_b93 nin0)
        replace E_b93 := E_b93.keep K143
        replace A_ta99 := A_ta99.keep K143 (ninS (Ne.symm ne_b93_ta99) nin0)
        replace A_pa99 := A_pa99.keep K143 (ninS (Ne.symm ne_b93_pa99) nin0)
        replace Sz88 := Nat.le_trans Sz88 K143.1
        have F_b93_times : Fld Z h143 b93 "com/example/steady_limiter/steadylimiter/SlidingWindowLog$PermitLog" "times" "[J" (.ref tb143) := N143_0
        have F_b93_permits : Fld Z h143 b93 "com/example/steady_limiter/steadylimiter/SlidingWindowLog$PermitLog" "permits" "[J" (.ref pb143) := N143_1
        have F_b93_head : Fld Z h143 b93 "com/example/steady_limiter/steadylimiter/SlidingWindowLog$PermitLog" "head" "I" (.int (0 : Int32)) := N143_2
        have F_b93_size : Fld Z h143 b93 "com/example/steady_limiter/steadylimiter/SlidingWindowLog$PermitLog" "size" "I" (.int ((((0 : Int32) + (1 : Int32)) + (1 : Int32)) + (1 : Int32))) := N143_3
        have F_b93_counted : Fld Z h143 b93 "com/example/steady_limiter/steadylimiter/SlidingWindowLog$PermitLog" "counted" "J" (.long ((((0 : Int64) + (1 : Int64)) + (1 : Int64)) + (1 : Int64))) := N143_4
        have A_tb143 : AJ Z h143 tb143 [v64, v71, v57, (0 : Int64)] := N143_5
        have A_pb143 : AJ Z h143 pb143 [(1 : Int64), (1 : Int64), (1 : Int64), (0 : Int64)] := N143_6
        replace K := K.trans K143 (allS (Or.inr sz_b93) all0)
        refine C.aload (pc' := 148) at_146 rfl rfl rfl ?_
        refine C.aload (pc' := 150) at_148 rfl rfl rfl ?_
        refine C.lload (pc' := 152) at_150 rfl rfl ?_
        refine C.callv (w := 0) (own_fresh1 l Z a0 hw n0 h143 b79 b93 p2 v9 tb143 (0 : Int32) ((((0 : Int32) + (1 : Int32)) + (1 : Int32)) + (1 : Int32)) [v64, v71, v57, (0 : Int64)] (4 : Int32) 2 E_b79 E_b93 F_b79_windowNanos F_b93_size F_b93_head F_b93_times A_tb143 (show (4 : Int32).toInt = ((4 : Nat) : Int) from by decide) (by decide) (by decide) (show 2 < 4 from by decide)) E_b79 (ow75 hw) (ow76 hw) (ow78 hw) (ow77 hw) (ow7 hw) (ow79 hw) (pc' := 155) at_152 rfl rfl rfl (by decide) pd__Lcom_example_steady_limiter_steadylimiter_SlidingWindowLog_PermitLog_J_J rfl (by decide) (Nat.le_of_eq rfl) (by decide) (by decide) (by decide) (kJe ?_)
        refine C.lstore (f := fun v_ => #[.val (.long p1), .second, .val (.long p2), .second, .val (.long p3), .second, .val (.long p4), .second, .val (.long p5), .second, .val (.int p6), .val (.long v9), .second, .val (.long p2), .second, .val (.long v23), .second, .val (.long v37), .second, .val (.long v50), .second, .val (.long v57), .second, .val (.long v64), .second, .val (.long v71), .second, .val (.int (3 : Int32)), .val (.ref b79), .val (.ref b93), .val (.long v_), .second, .unset, .unset]) (pc' := 157) at_155 rfl (fun _ => rfl) (fun v155 e155 => ?_)
        refine C.lconst (v := 0) (pc' := 158) at_157 rfl rfl ?_
        refine C.lstoreX (l' := #[.val (.long p1), .second, .val (.long p2), .second, .val (.long p3), .second, .val (.long p4), .second, .val (.long p5), .second, .val (.int p6), .val (.long v9), .second, .val (.long p2), .second, .val (.long v23), .second, .val (.long v37), .second, .val (.long v50), .second, .val (.long v57), .second, .val (.long v64), .second, .val (.long v71), .second, .val (.int (3 : Int32)), .val (.ref b79), .val (.ref b93), .val (.long v155), .second, .val (.long (0 : Int64)), .second]) (pc' := 160) at_158 rfl rfl ?_
        refine C.iload (pc' := 162) at_160 rfl rfl ?_
        refine C.iconst (v := 1) (pc' := 163) at_162 rfl rfl ?_
        refine C.icmp_lt (pc' := 166) (pt := 173) at_163 rfl rfl (fun c163 => absurd c163 (by decide)) (fun c163 => ?_)
        refine C.lload (pc' := 168) at_166 rfl rfl ?_
        refine C.lload (pc' := 170) at_168 rfl rfl ?_
        refine C.lsub (pc' := 171) at_170 rfl ?_
        refine C.lstore (f := fun v_ => #[.val (.long p1), .second, .val (.long p2), .second, .val (.long p3), .second, .val (.long p4), .second, .val (.long p5), .second, .val (.int p6), .val (.long v9), .second, .val (.long p2), .second, .val (.long v23), .second, .val (.long v37), .second, .val (.long v50), .second, .val (.long v57), .second, .val (.long v64), .second, .val (.long v71), .second, .val (.int (3 : Int32)), .val (.ref b79), .val (.ref b93), .val (.long v155), .second, .val (.long v_), .second]) (pc' := 173) at_171 rfl (fun _ => rfl) (fun v171 e171 => ?_)
        refine C.lload (pc' := 175) at_173 rfl rfl ?_
        refine C.lload (pc' := 177) at_175 rfl rfl ?_
        refine C.lif_ne (pc' := 181) (pt := 185) at_177 rfl at_178 rfl rfl (fun c177 => absurd (own_fin e155 rfl e57 e171) c177) (fun c177 => ?_)
        refine C.iconst (v := 1) (pc' := 182) at_181 rfl rfl ?_
        refine C.goto (pc' := 186) at_182 rfl ?_
        refine C.retZ (show ret = some .boolean from rfl) (by decide) at_186 (by decide) (by decide) ⟨⟨_, rfl, rfl⟩, Sz88⟩
set_option maxRecDepth 65536 in
set_option maxHeartbeats 40000000 in
theorem comes_1 {Post : Tables → Env → Array Value → State → Outcome → State → Prop} (hpost : ∀ tb e args s v u, (limb_1_1.after args s (.returned v) u = true ∧ limb_1_2.after args s (.returned v) u = true ∧ True) → ReturnedEndW s (.returned v) u (Jvm.fieldLocs frame_1_writes args s ++ Jvm.arrayLocs frame_1_arrays args s ++ Jvm.staticLocs frame_1_statics s) 24 1152 → Post tb e args s (.returned v) u) :
    ArmFor flags0 classFile x code maxLocals ret World_1 tables_1 room_1 Calls_1 rest_1 Pre_1 Post := by
  intro l hfl _ _ p e ha hc hk s m args below hf hA hF happ hP
  obtain ⟨hcalls, hrest, hpre⟩ := hP
  obtain ⟨-, -, -, hnamed, -, -, -, hat⟩ := (Spec.applies_iff hf).mp happ
  obtain ⟨hg, hn⟩ := and_e (Cond.before_iff.mp (show (Jvm.Cond.and given_1 narrow_1).before args s = true from hpre))
  obtain ⟨g0, t0⟩ := and_e hg
  obtain ⟨k0, t1⟩ := and_e t0
  obtain ⟨k1, t2⟩ := and_e t1
  obtain ⟨k2, t3⟩ := and_e t2
  obtain ⟨k3, t4⟩ := and_e t3
  obtain ⟨k4, t5⟩ := and_e t4
  obtain ⟨w0_, w1_, w2_, w3_, w4_, w5_, rfl⟩ : ∃ w0_ w1_ w2_ w3_ w4_ w5_ : Value, args = #[w0_, w1_, w2_, w3_, w4_, w5_] := by
    have hs : args.size = 6 := by simpa [Cond.value, given_1] using g0
    obtain ⟨L⟩ := args
    match L, hs with
    | [w0_, w1_, w2_, w3_, w4_, w5_], _ => exact ⟨w0_, w1_, w2_, w3_, w4_, w5_, rfl⟩
  have hw := fun d (hd : d ∈ tables_1) => atoms_spec (ws := Jvm.Cond.code x code maxLocals ret :: tables_1) hat d (List.mem_cons_of_mem _ hd)
  obtain ⟨i0_, e0_⟩ := isL_v k0
  obtain rfl : w0_ = (.long i0_) := Option.some.inj e0_
  obtain ⟨i1_, e1_⟩ := isL_v k1
  obtain rfl : w1_ = (.long i1_) := Option.some.inj e1_
  obtain ⟨i2_, e2_⟩ := isL_v k2
  obtain rfl : w2_ = (.long i2_) := Option.some.inj e2_
  obtain ⟨i3_, e3_⟩ := isL_v k3
  obtain rfl : w3_ = (.long i3_) := Option.some.inj e3_
  obtain ⟨i4_, e4_⟩ := isL_v k4
  obtain rfl : w4_ = (.long i4_) := Option.some.inj e4_
  obtain ⟨i5_, e5_⟩ := is_v t5
  obtain rfl : w5_ = (.int i5_) := Option.some.inj e5_
  obtain ⟨n, o, h1, h2, h3, _, L, rfl, ⟨N, _, rfl, rfl⟩, hq⟩ := own_rm0 l s _ hw s.heap.size s.heap i0_ i1_ i2_ i3_ i4_ i5_  (Nat.le_refl _)  tables_1 p e ha hc hk s m _ below hf ((Spec.applies_iff_loose hf).mp happ).1 ⟨rfl, State.Warmed39.refl s, rfl⟩ trivial
  refine ⟨n, _, h1, h2, h3, hpost _ _ _ _ _ _ ⟨Cond.after_iff.mpr rfl, Cond.after_iff.mpr (eq_i res_at (Term.int_eval (1)) rfl), trivial⟩ ⟨hq.1, hq.2.1, hq.2.2.1, (hq.2.2.2.sift fun y hy => Or.inr (N y hy)).mono (by decide) (by decide)⟩⟩
theorem main_1_1 : Claimed_1_1 := comes_1 fun _ _ _ _ _ _ h hF => ⟨h.1, hF⟩
theorem main_1_2 : Claimed_1_2 := comes_1 fun _ _ _ _ _ _ h hF => ⟨h.2.1, hF⟩
end Jvm.Pilot.@@N@@
namespace Jvm.Pilot.@@N@@
open Jvm Jvm.ClassFile Sem Op Lib Jvm.Free Jvm.Stand Jvm.Pilot.@@N@@.Jvm.D
/-! MADE BY PROGRAM (witnessworld.py) out of the Statement's table words and the real class files: 20 classes; the members and pool entries that the words name. The judged class is class 1, her method 1. -/
namespace start1
open Jvm.ClassFile
def u (s : String) : CpInfo := .utf8 (stringToUtf16 s)
/-- a pool by its gaps: so many unusable entries, then the entry; so many at the end -/
def gap : Nat → List CpInfo → List CpInfo
  | 0, r => r
  | n + 1, r => .unusable :: gap n r
def poolList (es : List (Nat × CpInfo)) (last : Nat) : List CpInfo := es.foldr (fun e r => gap e.1 (e.2 :: r)) (gap last [])
def pool (es : List (Nat × CpInfo)) (last : Nat) : Array CpInfo := ⟨poolList es last⟩
def fileOf (pool : Array CpInfo) (this : Nat) (attrs : Array Attribute := #[]) (ms : Array MethodInfo := #[]) (fl : Nat := 33) (sup : Nat := 0) (ifs : Array Nat := #[]) (fds : Array FieldInfo := #[]) : ClassFile where
  minorVersion := 0
  majorVersion := 65
  constantPool := pool
  accessFlags := fl
  thisClass := this
  superClass := sup
  interfaces := ifs
  fields := fds
  methods := ms
  attributes := attrs
def plain (name : String) (sup : Option ClassId) : Class where
  name := name
  kind := .ordinary
  loader := none
  accessFlags := 33
  super := sup
  interfaces := #[]
  cf := none
  fields := #[]
  methods := #[]
  instanceTypes := #[]
  staticTypes := #[]
  resolved := #[]
  callSites := []
  init := .initialized
  statics := none
  mirror := none

def pool0 : Array CpInfo := pool [(5, u "<init>"), (0, u "()V"), (1, .class_ 10), (1, u "java/lang/Object")] 113

def k0c0 : Code := { maxStack := 0, maxLocals := 1, code := object_method_1_code, exceptionTable := #[], attributes := #[] }
def k0m0 : Method := { name := "<init>", desc := "()V", sig := { parameters := [], returnType := none }, accessFlags := 1, code := some k0c0 }
/-- java/lang/Object -/
def k0 : Class := { plain "java/lang/Object" none with
  accessFlags := 33
  interfaces := #[]
  cf := some (fileOf pool0 8 #[] #[{ accessFlags := 1, nameIndex := 5, descriptorIndex := 6, attributes := #[] }] 33 0 #[] #[])
  fields := #[]
  methods := #[k0m0]
  instanceTypes := #[]
  staticTypes := #[]
  resolved := Array.replicate 124 none
  statics := none }

def pool1 : Array CpInfo := pool [(2, .class_ 4), (1, u "java/lang/Object"), (0, u "<init>"), (0, u "()V"), (2, .long 9223372036854775807), (1, .methodref 12 13), (0, .class_ 14), (0, .nameAndType 15 16), (0, u "java/lang/Math"), (0, u "max"), (0, u "(JJ)J"), (0, .class_ 18), (0, u "com/example/steady_limiter/steadylimiter/SlidingWindowLog"), (0, .long 3), (1, .methodref 17 22), (0, .nameAndType 5 23), (0, u "(JJ)V"), (0, .class_ 25), (0, u "com/example/steady_limiter/steadylimiter/SlidingWindowLog$PermitLog"), (0, .methodref 24 27), (0, .nameAndType 5 28), (0, u "(J)V"), (0, .methodref 24 30), (0, .nameAndType 31 23), (0, u "add"), (0, .methodref 17 33), (0, .nameAndType 34 35), (0, u "nanosUntilFresh"), (0, u "(Lcom/example/steady_limiter/steadylimiter/SlidingWindowLog$PermitLog;J)J"), (0, .class_ 37), (0, u "com/example/steady_limiter/steadylimiter/SlidingWindowLogNanosUntilFreshPinLaw"), (2, u "law"), (0, u "(JJJJJI)Z")] 5

def k1m0 : Method := { name := "<init>", desc := "()V", sig := { parameters := [], returnType := none }, accessFlags := 1, code := none }
def k1c1 : Code := { maxStack := 6, maxLocals := 34, code := code, exceptionTable := #[], attributes := #[] }
def k1m1 : Method := { name := "law", desc := "(JJJJJI)Z", sig := { parameters := [.long, .long, .long, .long, .long, .int], returnType := some .boolean }, accessFlags := 9, code := some k1c1 }
/-- com/example/steady_limiter/steadylimiter/SlidingWindowLogNanosUntilFreshPinLaw -/
def k1 : Class := { plain "com/example/steady_limiter/steadylimiter/SlidingWindowLogNanosUntilFreshPinLaw" (some 0) with
  accessFlags := 49
  interfaces := #[]
  cf := some (fileOf pool1 36 #[] #[{ accessFlags := 1, nameIndex := 5, descriptorIndex := 6, attributes := #[] }, { accessFlags := 9, nameIndex := 40, descriptorIndex := 41, attributes := #[] }] 49 2 #[] #[])
  fields := #[]
  methods := #[k1m0, k1m1]
  instanceTypes := #[]
  staticTypes := #[]
  resolved := Array.replicate 47 none
  statics := none }

def pool2 : Array CpInfo := pool [(1, .class_ 2), (0, u "java/lang/Math"), (1, .class_ 6), (1, u "java/lang/Object"), (0, u "<init>"), (0, u "()V"), (89, .class_ 100), (1, u "java/lang/Math$RandomNumberGeneratorHolder"), (20, u "(JJ)J"), (50, u "negativeZeroFloatBits"), (0, u "J"), (2, u "negativeZeroDoubleBits"), (21, u "max"), (46, u "$assertionsDisabled"), (0, u "Z"), (91, u "twoToTheDoubleScaleDown"), (0, u "D"), (4, u "twoToTheDoubleScaleUp"), (9, u "E"), (3, u "PI"), (2, u "TAU"), (2, u "DEGREES_TO_RADIANS"), (0, u "RADIANS_TO_DEGREES")] 94

def k2m0 : Method := { name := "<init>", desc := "()V", sig := { parameters := [], returnType := none }, accessFlags := 2, code := none }
def k2c1 : Code := { maxStack := 4, maxLocals := 4, code := jdk_29_method_66_code, exceptionTable := #[], attributes := #[] }
def k2m1 : Method := { name := "max", desc := "(JJ)J", sig := { parameters := [.long, .long], returnType := some .long }, accessFlags := 9, code := some k2c1 }
/-- java/lang/Math -/
def k2 : Class := { plain "java/lang/Math" (some 0) with
  accessFlags := 49
  interfaces := #[]
  cf := some (fileOf pool2 1 #[.nestMembers #[98]] #[{ accessFlags := 2, nameIndex := 7, descriptorIndex := 8, attributes := #[] }, { accessFlags := 9, nameIndex := 198, descriptorIndex := 121, attributes := #[] }] 49 4 #[] #[{ accessFlags := 25, nameIndex := 354, descriptorIndex := 339, attributes := #[] }, { accessFlags := 25, nameIndex := 358, descriptorIndex := 339, attributes := #[] }, { accessFlags := 25, nameIndex := 361, descriptorIndex := 339, attributes := #[] }, { accessFlags := 26, nameIndex := 364, descriptorIndex := 339, attributes := #[] }, { accessFlags := 26, nameIndex := 365, descriptorIndex := 339, attributes := #[] }, { accessFlags := 26, nameIndex := 172, descriptorIndex := 173, attributes := #[] }, { accessFlags := 26, nameIndex := 176, descriptorIndex := 173, attributes := #[] }, { accessFlags := 8, nameIndex := 344, descriptorIndex := 339, attributes := #[] }, { accessFlags := 8, nameIndex := 338, descriptorIndex := 339, attributes := #[] }, { accessFlags := 4120, nameIndex := 245, descriptorIndex := 246, attributes := #[] }])
  fields := #[{ name := "E", type := .double, accessFlags := 25, slot := 0, constantValue := 0 }, { name := "PI", type := .double, accessFlags := 25, slot := 1, constantValue := 0 }, { name := "TAU", type := .double, accessFlags := 25, slot := 2, constantValue := 0 }, { name := "DEGREES_TO_RADIANS", type := .double, accessFlags := 26, slot := 3, constantValue := 0 }, { name := "RADIANS_TO_DEGREES", type := .double, accessFlags := 26, slot := 4, constantValue := 0 }, { name := "negativeZeroFloatBits", type := .long, accessFlags := 26, slot := 5, constantValue := 0 }, { name := "negativeZeroDoubleBits", type := .long, accessFlags := 26, slot := 6, constantValue := 0 }, { name := "twoToTheDoubleScaleUp", type := .double, accessFlags := 8, slot := 7, constantValue := 0 }, { name := "twoToTheDoubleScaleDown", type := .double, accessFlags := 8, slot := 8, constantValue := 0 }, { name := "$assertionsDisabled", type := .boolean, accessFlags := 4120, slot := 9, constantValue := 0 }]
  methods := #[k2m0, k2m1]
  instanceTypes := #[]
  staticTypes := #[.double, .double, .double, .double, .double, .long, .long, .double, .double, .boolean]
  resolved := Array.replicate 460 none
  statics := none }

def pool3 : Array CpInfo := pool [(1, .methodref 2 3), (0, .class_ 4), (0, .nameAndType 5 6), (0, u "java/lang/Object"), (0, u "<init>"), (0, u "()V"), (0, .fieldref 8 9), (0, .class_ 10), (0, .nameAndType 11 12), (0, u "com/example/steady_limiter/steadylimiter/Algorithm"), (0, u "limitName"), (0, u "Ljava/lang/String;"), (0, .fieldref 8 14), (0, .nameAndType 15 16), (0, u "limit"), (0, u "J"), (44, u "NANOS_PER_MILLI"), (1, u "(Ljava/lang/String;J)V")] 37

def k3c0 : Code := { maxStack := 3, maxLocals := 4, code := prog_1_method_1_code, exceptionTable := #[], attributes := #[] }
def k3m0 : Method := { name := "<init>", desc := "(Ljava/lang/String;J)V", sig := { parameters := [(.object "java/lang/String"), .long], returnType := none }, accessFlags := 0, code := some k3c0 }
/-- com/example/steady_limiter/steadylimiter/Algorithm -/
def k3 : Class := { plain "com/example/steady_limiter/steadylimiter/Algorithm" (some 0) with
  accessFlags := 1056
  interfaces := #[]
  cf := some (fileOf pool3 8 #[] #[{ accessFlags := 0, nameIndex := 5, descriptorIndex := 63, attributes := #[] }] 1056 2 #[] #[{ accessFlags := 24, nameIndex := 61, descriptorIndex := 16, attributes := #[] }, { accessFlags := 18, nameIndex := 11, descriptorIndex := 12, attributes := #[] }, { accessFlags := 18, nameIndex := 15, descriptorIndex := 16, attributes := #[] }])
  fields := #[{ name := "NANOS_PER_MILLI", type := .long, accessFlags := 24, slot := 0, constantValue := 0 }, { name := "limitName", type := (.object "java/lang/String"), accessFlags := 18, slot := 0, constantValue := 0 }, { name := "limit", type := .long, accessFlags := 18, slot := 1, constantValue := 0 }]
  methods := #[k3m0]
  instanceTypes := #[(.object "java/lang/String"), .long]
  staticTypes := #[.long]
  resolved := Array.replicate 101 none
  statics := none }

def pool4 : Array CpInfo := pool [(1, .string 2), (0, u "maximum"), (0, .methodref 4 5), (0, .class_ 6), (0, .nameAndType 7 8), (0, u "com/example/steady_limiter/steadylimiter/Algorithm"), (0, u "<init>"), (0, u "(Ljava/lang/String;J)V"), (0, .fieldref 10 11), (0, .class_ 12), (0, .nameAndType 13 14), (0, u "com/example/steady_limiter/steadylimiter/SlidingWindowLog"), (0, u "maxRequests"), (0, u "J"), (0, .fieldref 10 16), (0, .nameAndType 17 14), (0, u "windowNanos"), (0, .class_ 19), (0, u "com/example/steady_limiter/steadylimiter/SlidingWindowLog$PermitLog"), (3, .fieldref 18 24), (0, .nameAndType 25 26), (0, u "size"), (0, u "I"), (0, .methodref 18 28), (0, .nameAndType 29 30), (0, u "timeAt"), (0, u "(I)J"), (16, .methodref 10 48), (0, .nameAndType 49 50), (0, u "nanosUntilLeaving"), (0, u "(JJ)J"), (7, u "(JJ)V"), (2, u "nanosUntilFresh"), (0, u "(Lcom/example/steady_limiter/steadylimiter/SlidingWindowLog$PermitLog;J)J")] 35

def k4c0 : Code := { maxStack := 4, maxLocals := 5, code := prog_18_method_1_code, exceptionTable := #[], attributes := #[] }
def k4m0 : Method := { name := "<init>", desc := "(JJ)V", sig := { parameters := [.long, .long], returnType := none }, accessFlags := 0, code := some k4c0 }
def k4c1 : Code := { maxStack := 5, maxLocals := 6, code := prog_18_method_7_code, exceptionTable := #[], attributes := #[] }
def k4m1 : Method := { name := "nanosUntilFresh", desc := "(Lcom/example/steady_limiter/steadylimiter/SlidingWindowLog$PermitLog;J)J", sig := { parameters := [(.object "com/example/steady_limiter/steadylimiter/SlidingWindowLog$PermitLog"), .long], returnType := some .long }, accessFlags := 0, code := some k4c1 }
def k4c2 : Code := { maxStack := 6, maxLocals := 5, code := prog_18_method_8_code, exceptionTable := #[], attributes := #[] }
def k4m2 : Method := { name := "nanosUntilLeaving", desc := "(JJ)J", sig := { parameters := [.long, .long], returnType := some .long }, accessFlags := 2, code := some k4c2 }
/-- com/example/steady_limiter/steadylimiter/SlidingWindowLog -/
def k4 : Class := { plain "com/example/steady_limiter/steadylimiter/SlidingWindowLog" (some 3) with
  accessFlags := 32
  interfaces := #[]
  cf := some (fileOf pool4 10 #[.nestMembers #[18]] #[{ accessFlags := 0, nameIndex := 7, descriptorIndex := 58, attributes := #[] }, { accessFlags := 0, nameIndex := 61, descriptorIndex := 62, attributes := #[] }, { accessFlags := 2, nameIndex := 49, descriptorIndex := 50, attributes := #[] }] 32 4 #[] #[{ accessFlags := 18, nameIndex := 13, descriptorIndex := 14, attributes := #[] }, { accessFlags := 18, nameIndex := 17, descriptorIndex := 14, attributes := #[] }])
  fields := #[{ name := "maxRequests", type := .long, accessFlags := 18, slot := 2, constantValue := 0 }, { name := "windowNanos", type := .long, accessFlags := 18, slot := 3, constantValue := 0 }]
  methods := #[k4m0, k4m1, k4m2]
  instanceTypes := #[(.object "java/lang/String"), .long, .long, .long]
  staticTypes := #[]
  resolved := Array.replicate 98 none
  statics := none }

def pool5 : Array CpInfo := pool [(1, .class_ 2), (0, u "java/io/Serializable"), (0, .class_ 4), (0, u "java/lang/Object")] 2

/-- java/io/Serializable -/
def k5 : Class := { plain "java/io/Serializable" (some 0) with
  accessFlags := 1537
  interfaces := #[]
  cf := some (fileOf pool5 1 #[] #[] 1537 3 #[] #[])
  fields := #[]
  methods := #[]
  instanceTypes := #[]
  staticTypes := #[]
  resolved := Array.replicate 7 none
  statics := none }

def pool6 : Array CpInfo := pool [(1, .class_ 2), (0, u "java/lang/Comparable"), (0, .class_ 4), (0, u "java/lang/Object")] 7

/-- java/lang/Comparable -/
def k6 : Class := { plain "java/lang/Comparable" (some 0) with
  accessFlags := 1537
  interfaces := #[]
  cf := some (fileOf pool6 1 #[] #[] 1537 3 #[] #[])
  fields := #[]
  methods := #[]
  instanceTypes := #[]
  staticTypes := #[]
  resolved := Array.replicate 12 none
  statics := none }

def pool7 : Array CpInfo := pool [(2, .class_ 4), (1, u "java/lang/CharSequence"), (42, .class_ 48), (0, u "java/lang/CharSequence$1CodePointIterator"), (10, .class_ 60), (0, u "java/lang/CharSequence$1CharIterator"), (5, .class_ 67), (0, u "java/lang/Object")] 63

/-- java/lang/CharSequence -/
def k7 : Class := { plain "java/lang/CharSequence" (some 0) with
  accessFlags := 1537
  interfaces := #[]
  cf := some (fileOf pool7 2 #[.nestMembers #[47, 59]] #[] 1537 66 #[] #[])
  fields := #[]
  methods := #[]
  instanceTypes := #[]
  staticTypes := #[]
  resolved := Array.replicate 131 none
  statics := none }

def pool8 : Array CpInfo := pool [(1, .class_ 2), (0, u "java/lang/constant/Constable"), (0, .class_ 4), (0, u "java/lang/Object")] 6

/-- java/lang/constant/Constable -/
def k8 : Class := { plain "java/lang/constant/Constable" (some 0) with
  accessFlags := 1537
  interfaces := #[]
  cf := some (fileOf pool8 1 #[] #[] 1537 3 #[] #[])
  fields := #[]
  methods := #[]
  instanceTypes := #[]
  staticTypes := #[]
  resolved := Array.replicate 11 none
  statics := none }

def pool9 : Array CpInfo := pool [(1, .class_ 2), (0, u "java/lang/constant/ConstantDesc"), (0, .class_ 4), (0, u "java/lang/Object")] 32

/-- java/lang/constant/ConstantDesc -/
def k9 : Class := { plain "java/lang/constant/ConstantDesc" (some 0) with
  accessFlags := 1537
  interfaces := #[]
  cf := some (fileOf pool9 1 #[] #[] 1537 3 #[] #[])
  fields := #[]
  methods := #[]
  instanceTypes := #[]
  staticTypes := #[]
  resolved := Array.replicate 37 none
  statics := none }

def pool10 : Array CpInfo := pool [(2, .class_ 4), (1, u "java/lang/Object"), (0, u "<init>"), (0, u "()V"), (3, .class_ 12), (1, u "java/lang/String"), (0, u "value"), (0, u "[B"), (2, u "coder"), (0, u "B"), (2, u "hash"), (0, u "I"), (2, u "hashIsZero"), (0, u "Z"), (13, u "COMPACT_STRINGS"), (534, .class_ 576), (0, u "java/lang/CharSequence"), (22, u "CASE_INSENSITIVE_ORDER"), (0, u "Ljava/util/Comparator;"), (500, u "serialPersistentFields"), (0, u "[Ljava/io/ObjectStreamField;"), (0, .class_ 1104), (0, u "java/lang/String$CaseInsensitiveComparator"), (1, .class_ 1107), (0, u "java/io/Serializable"), (0, .class_ 1109), (0, u "java/lang/Comparable"), (0, .class_ 1111), (0, u "java/lang/constant/Constable"), (0, .class_ 1113), (0, u "java/lang/constant/ConstantDesc"), (2, u "serialVersionUID"), (0, u "J"), (3, u "REPL"), (0, u "C"), (2, u "LATIN1"), (1, u "UTF16")] 323

def k10m0 : Method := { name := "<init>", desc := "()V", sig := { parameters := [], returnType := none }, accessFlags := 1, code := none }
/-- java/lang/String -/
def k10 : Class := { plain "java/lang/String" (some 0) with
  accessFlags := 49
  interfaces := #[5, 6, 7, 8, 9]
  cf := some (fileOf pool10 10 #[.nestMembers #[1103]] #[{ accessFlags := 1, nameIndex := 5, descriptorIndex := 6, attributes := #[] }] 49 2 #[1106, 1108, 575, 1110, 1112] #[{ accessFlags := 18, nameIndex := 13, descriptorIndex := 14, attributes := #[] }, { accessFlags := 18, nameIndex := 17, descriptorIndex := 18, attributes := #[] }, { accessFlags := 2, nameIndex := 21, descriptorIndex := 22, attributes := #[] }, { accessFlags := 2, nameIndex := 25, descriptorIndex := 26, attributes := #[] }, { accessFlags := 26, nameIndex := 1116, descriptorIndex := 1117, attributes := #[] }, { accessFlags := 24, nameIndex := 40, descriptorIndex := 26, attributes := #[] }, { accessFlags := 26, nameIndex := 1101, descriptorIndex := 1102, attributes := #[] }, { accessFlags := 26, nameIndex := 1121, descriptorIndex := 1122, attributes := #[] }, { accessFlags := 25, nameIndex := 599, descriptorIndex := 600, attributes := #[] }, { accessFlags := 24, nameIndex := 1125, descriptorIndex := 18, attributes := #[] }, { accessFlags := 24, nameIndex := 1127, descriptorIndex := 18, attributes := #[] }])
  fields := #[{ name := "value", type := (.array .byte), accessFlags := 18, slot := 0, constantValue := 0 }, { name := "coder", type := .byte, accessFlags := 18, slot := 1, constantValue := 0 }, { name := "hash", type := .int, accessFlags := 2, slot := 2, constantValue := 0 }, { name := "hashIsZero", type := .boolean, accessFlags := 2, slot := 3, constantValue := 0 }, { name := "serialVersionUID", type := .long, accessFlags := 26, slot := 0, constantValue := 0 }, { name := "COMPACT_STRINGS", type := .boolean, accessFlags := 24, slot := 1, constantValue := 0 }, { name := "serialPersistentFields", type := (.array (.object "java/io/ObjectStreamField")), accessFlags := 26, slot := 2, constantValue := 0 }, { name := "REPL", type := .char, accessFlags := 26, slot := 3, constantValue := 0 }, { name := "CASE_INSENSITIVE_ORDER", type := (.object "java/util/Comparator"), accessFlags := 25, slot := 4, constantValue := 0 }, { name := "LATIN1", type := .byte, accessFlags := 24, slot := 5, constantValue := 0 }, { name := "UTF16", type := .byte, accessFlags := 24, slot := 6, constantValue := 0 }]
  methods := #[k10m0]
  instanceTypes := #[(.array .byte), .byte, .int, .boolean]
  staticTypes := #[.long, .boolean, (.array (.object "java/io/ObjectStreamField")), .char, (.object "java/util/Comparator"), .byte, .byte]
  resolved := Array.replicate 1451 none
  statics := none }

def pool11 : Array CpInfo := pool [(1, .methodref 2 3), (0, .class_ 4), (0, .nameAndType 5 6), (0, u "java/lang/Object"), (0, u "<init>"), (0, u "()V"), (0, .fieldref 8 9), (0, .class_ 10), (0, .nameAndType 11 12), (0, u "com/example/steady_limiter/steadylimiter/KeyState"), (0, u "lastNanos"), (0, u "J"), (0, u "key"), (0, u "Ljava/lang/String;"), (0, u "freshIndex"), (0, u "I"), (0, u "callIndex"), (0, u "(J)V")] 4

def k11c0 : Code := { maxStack := 3, maxLocals := 3, code := prog_9_method_1_code, exceptionTable := #[], attributes := #[] }
def k11m0 : Method := { name := "<init>", desc := "(J)V", sig := { parameters := [.long], returnType := none }, accessFlags := 0, code := some k11c0 }
/-- com/example/steady_limiter/steadylimiter/KeyState -/
def k11 : Class := { plain "com/example/steady_limiter/steadylimiter/KeyState" (some 0) with
  accessFlags := 1056
  interfaces := #[]
  cf := some (fileOf pool11 8 #[] #[{ accessFlags := 0, nameIndex := 5, descriptorIndex := 18, attributes := #[] }] 1056 2 #[] #[{ accessFlags := 0, nameIndex := 11, descriptorIndex := 12, attributes := #[] }, { accessFlags := 0, nameIndex := 13, descriptorIndex := 14, attributes := #[] }, { accessFlags := 0, nameIndex := 15, descriptorIndex := 16, attributes := #[] }, { accessFlags := 0, nameIndex := 17, descriptorIndex := 16, attributes := #[] }])
  fields := #[{ name := "lastNanos", type := .long, accessFlags := 0, slot := 0, constantValue := 0 }, { name := "key", type := (.object "java/lang/String"), accessFlags := 0, slot := 1, constantValue := 0 }, { name := "freshIndex", type := .int, accessFlags := 0, slot := 2, constantValue := 0 }, { name := "callIndex", type := .int, accessFlags := 0, slot := 3, constantValue := 0 }]
  methods := #[k11m0]
  instanceTypes := #[.long, (.object "java/lang/String"), .int, .int]
  staticTypes := #[]
  resolved := Array.replicate 23 none
  statics := none }

def pool12 : Array CpInfo := pool [(1, .methodref 2 3), (0, .class_ 4), (0, .nameAndType 5 6), (0, u "com/example/steady_limiter/steadylimiter/KeyState"), (0, u "<init>"), (0, u "(J)V"), (0, .class_ 8), (0, u "com/example/steady_limiter/steadylimiter/SlidingWindowLog$PermitLog"), (0, .fieldref 7 10), (0, .nameAndType 11 12), (0, u "times"), (0, u "[J"), (0, .fieldref 7 14), (0, .nameAndType 15 12), (0, u "permits"), (0, .methodref 7 17), (0, .nameAndType 18 19), (0, u "slot"), (0, u "(I)I"), (0, .fieldref 7 21), (0, .nameAndType 22 23), (0, u "counted"), (0, u "J"), (0, .fieldref 7 25), (0, .nameAndType 26 27), (0, u "head"), (0, u "I"), (0, .fieldref 7 29), (0, .nameAndType 30 27), (0, u "size"), (0, .methodref 7 32), (0, .nameAndType 33 34), (0, u "resize"), (0, u "(I)V"), (0, .methodref 7 36), (0, .nameAndType 37 38), (0, u "timeAt"), (0, u "(I)J"), (0, .methodref 7 40), (0, .nameAndType 41 38), (0, u "permitsAt"), (0, u "MIN_CAPACITY"), (7, u "add"), (0, u "(JJ)V"), (4, .class_ 57), (0, u "com/example/steady_limiter/steadylimiter/SlidingWindowLog")] 2

def k12c0 : Code := { maxStack := 3, maxLocals := 3, code := prog_19_method_1_code, exceptionTable := #[], attributes := #[] }
def k12m0 : Method := { name := "<init>", desc := "(J)V", sig := { parameters := [.long], returnType := none }, accessFlags := 0, code := some k12c0 }
def k12c1 : Code := { maxStack := 3, maxLocals := 2, code := prog_19_method_2_code, exceptionTable := #[], attributes := #[] }
def k12m1 : Method := { name := "timeAt", desc := "(I)J", sig := { parameters := [.int], returnType := some .long }, accessFlags := 0, code := some k12c1 }
def k12c2 : Code := { maxStack := 3, maxLocals := 2, code := prog_19_method_3_code, exceptionTable := #[], attributes := #[] }
def k12m2 : Method := { name := "permitsAt", desc := "(I)J", sig := { parameters := [.int], returnType := some .long }, accessFlags := 0, code := some k12c2 }
def k12c3 : Code := { maxStack := 6, maxLocals := 6, code := prog_19_method_5_code, exceptionTable := #[], attributes := #[] }
def k12m3 : Method := { name := "add", desc := "(JJ)V", sig := { parameters := [.long, .long], returnType := none }, accessFlags := 0, code := some k12c3 }
def k12c4 : Code := { maxStack := 3, maxLocals := 2, code := prog_19_method_6_code, exceptionTable := #[], attributes := #[] }
def k12m4 : Method := { name := "slot", desc := "(I)I", sig := { parameters := [.int], returnType := some .int }, accessFlags := 2, code := some k12c4 }
def k12c5 : Code := { maxStack := 4, maxLocals := 5, code := prog_19_method_7_code, exceptionTable := #[], attributes := #[] }
def k12m5 : Method := { name := "resize", desc := "(I)V", sig := { parameters := [.int], returnType := none }, accessFlags := 2, code := some k12c5 }
/-- com/example/steady_limiter/steadylimiter/SlidingWindowLog$PermitLog -/
def k12 : Class := { plain "com/example/steady_limiter/steadylimiter/SlidingWindowLog$PermitLog" (some 11) with
  accessFlags := 32
  interfaces := #[]
  cf := some (fileOf pool12 7 #[.nestHost 56] #[{ accessFlags := 0, nameIndex := 5, descriptorIndex := 6, attributes := #[] }, { accessFlags := 0, nameIndex := 37, descriptorIndex := 38, attributes := #[] }, { accessFlags := 0, nameIndex := 41, descriptorIndex := 38, attributes := #[] }, { accessFlags := 0, nameIndex := 50, descriptorIndex := 51, attributes := #[] }, { accessFlags := 2, nameIndex := 18, descriptorIndex := 19, attributes := #[] }, { accessFlags := 2, nameIndex := 33, descriptorIndex := 34, attributes := #[] }] 32 2 #[] #[{ accessFlags := 26, nameIndex := 42, descriptorIndex := 27, attributes := #[] }, { accessFlags := 2, nameIndex := 11, descriptorIndex := 12, attributes := #[] }, { accessFlags := 2, nameIndex := 15, descriptorIndex := 12, attributes := #[] }, { accessFlags := 2, nameIndex := 26, descriptorIndex := 27, attributes := #[] }, { accessFlags := 0, nameIndex := 30, descriptorIndex := 27, attributes := #[] }, { accessFlags := 0, nameIndex := 22, descriptorIndex := 23, attributes := #[] }])
  fields := #[{ name := "MIN_CAPACITY", type := .int, accessFlags := 26, slot := 0, constantValue := 0 }, { name := "times", type := (.array .long), accessFlags := 2, slot := 4, constantValue := 0 }, { name := "permits", type := (.array .long), accessFlags := 2, slot := 5, constantValue := 0 }, { name := "head", type := .int, accessFlags := 2, slot := 6, constantValue := 0 }, { name := "size", type := .int, accessFlags := 0, slot := 7, constantValue := 0 }, { name := "counted", type := .long, accessFlags := 0, slot := 8, constantValue := 0 }]
  methods := #[k12m0, k12m1, k12m2, k12m3, k12m4, k12m5]
  instanceTypes := #[.long, (.object "java/lang/String"), .int, .int, (.array .long), (.array .long), .int, .int, .long]
  staticTypes := #[.int]
  resolved := Array.replicate 60 none
  statics := none }

def pool13 : Array CpInfo := pool [(1, u "java/lang/Cloneable"), (0, .class_ 1), (0, u "java/lang/Object"), (0, .class_ 3)] 3

/-- java/lang/Cloneable -/
def k13 : Class := { plain "java/lang/Cloneable" (some 0) with
  accessFlags := 1537
  interfaces := #[]
  cf := some (fileOf pool13 2 #[] #[] 1537 4 #[] #[])
  fields := #[]
  methods := #[]
  instanceTypes := #[]
  staticTypes := #[]
  resolved := Array.replicate 8 none
  statics := none }

/-- the primitive byte -/
def k14 : Class := { plain "byte" none with kind := .primitive 'B', accessFlags := 0x411 }
/-- [B -/
def k15 : Class := { plain "[B" (some 0) with kind := .array 14 .byte, interfaces := #[13, 5], accessFlags := 1041 }

/-- the primitive int -/
def k16 : Class := { plain "int" none with kind := .primitive 'I', accessFlags := 0x411 }
/-- [I -/
def k17 : Class := { plain "[I" (some 0) with kind := .array 16 .int, interfaces := #[13, 5], accessFlags := 1041 }

/-- the primitive long -/
def k18 : Class := { plain "long" none with kind := .primitive 'J', accessFlags := 0x411 }
/-- [J -/
def k19 : Class := { plain "[J" (some 0) with kind := .array 18 .long, interfaces := #[13, 5], accessFlags := 1041 }

def heap : Heap := #[]
def classes : Array Class := #[k0, k1, k2, k3, k4, k5, k6, k7, k8, k9, k10, k11, k12, k13, k14, k15, k16, k17, k18, k19]
def interned : List (Array UInt16 × Addr) := []
def slotsUsed : Nat := 0
def theMethod : MethodId := ⟨1, 1⟩
def args0 : Array Value := #[.long 5, .long 5, .long 5, .long 5, .long 5, .int 3]
def aboutOver (below : List Frame) : State where
  vm := { classes := classes, interned := interned.toArray }
  heap := heap
  slotsUsed := slotsUsed
  threads := #[{ frames := .invoking theMethod args0 :: below }]
def below0 : List Frame := [.native { method := ⟨0, 0⟩, args := #[] }]
def about1 : State := aboutOver below0
def p0 : Program := .bare "" "" ""
def e0 : Env := launch0.env 0 0 0
theorem w_frames : about1.frames = Frame.invoking theMethod args0 :: below0 := rfl
set_option maxRecDepth 65536 in
theorem w_args : argsFit about1.vm theMethod args0 = true := by decide +kernel
set_option maxRecDepth 65536 in
theorem w_heap : heapFits about1 = true := by decide +kernel
set_option maxRecDepth 65536 in
theorem w_runnable : about1.curStatus? = some .runnable := by decide +kernel
set_option maxRecDepth 65536 in
theorem w_alone : about1.alone = true := by decide +kernel
set_option maxRecDepth 65536 in
theorem w_named : about1.methodNamed? x = some theMethod := by decide +kernel
set_option maxRecDepth 65536 in
theorem w_hears : about1.hears theMethod below0 = true := by decide +kernel
set_option maxRecDepth 65536 in
theorem w_ripe : about1.ripe theMethod args0 below0 = true := by decide +kernel
theorem w_running : about1.status = .running := rfl
set_option maxRecDepth 65536 in
theorem w_room : about1.hasRoom e0.platform room_1 = true :=
  launch0.hasRoom_least _ room_1 (by decide +kernel) (by decide +kernel) (by decide +kernel) (by decide +kernel) (by decide +kernel) (by decide +kernel)
theorem allAtoms_all (ts : List Jvm.Cond) (a : Array Jvm.Value) (st : Jvm.State) : (allAtoms ts).before a st = ts.all (fun c => c.before a st) := by
  induction ts with
  | nil => rfl
  | cons c t ih =>
    show (Jvm.Cond.and c (allAtoms t)).before a st = _
    rw [Jvm.Cond.before_and, ih, List.all_cons]
def words1 : List Jvm.Cond := Jvm.Cond.code x code maxLocals ret :: tables_1
/-- a 'code' word, met by the world's own term for the bytes: nothing is compared byte by byte -/
theorem code_word {y : MethodName} {bytes : ByteArray} {mx : Nat} {rt : Option FieldType} {a : Array Value} {s : State} {m : MethodId} {meth : Method} {c : Code} (h1 : s.methodNamed? y = some m) (h2 : s.vm.method? m = some meth) (h3 : meth.code = some c) (h4 : c.code = bytes)
    (h5 : (c.maxLocals == mx && c.exceptionTable.isEmpty && decide (c.maxStack ≤ mostOperands) && decide (meth.sig.returnType = rt) && !meth.locks && decide (parseMethodDescriptor y.desc = some meth.sig)) = true) : (Jvm.Cond.code y bytes mx rt).before a s = true := by
  simp only [Bool.and_eq_true, beq_iff_eq, Bool.not_eq_true', decide_eq_true_eq] at h5
  obtain ⟨⟨⟨⟨⟨g1, g2⟩, g3⟩, g4⟩, g5⟩, g6⟩ := h5
  simp [Cond.before, Cond.holds, Cond.value, h1, h2, h3, h4, g1, g2, g3, g4, g5, g6]
def isCode : Jvm.Cond → Bool
  | .code _ _ _ _ => true
  | _ => false
theorem all_split {L : List Jvm.Cond} {P : Jvm.Cond → Bool} (h1 : L.all (fun c => isCode c || P c) = true) (h2 : ∀ c ∈ L.filter isCode, P c = true) : L.all P = true := by
  refine List.all_eq_true.mpr fun c hc => ?_
  have h := List.all_eq_true.mp h1 c hc
  rcases Bool.eq_false_or_eq_true (isCode c) with hi | hi
  · exact h2 c (List.mem_filter.mpr ⟨hc, hi⟩)
  · simpa [hi] using h
set_option maxRecDepth 65536 in
theorem w_c0 : (Jvm.Cond.code x code maxLocals ret).before args0 about1 = true := code_word (m := ⟨1, 1⟩) (meth := k1m1) (c := k1c1) (by decide +kernel) rfl rfl rfl (by decide +kernel)
set_option maxRecDepth 65536 in
theorem w_c1 : (Jvm.Cond.code ({ cls := "java/lang/Math", name := "max", desc := "(JJ)J" } : Jvm.MethodName) jdk_29_method_66_code (4 : Nat) (Option.some Jvm.ClassFile.FieldType.long)).before args0 about1 = true := code_word (m := ⟨2, 1⟩) (meth := k2m1) (c := k2c1) (by decide +kernel) rfl rfl rfl (by decide +kernel)
set_option maxRecDepth 65536 in
theorem w_c2 : (Jvm.Cond.code ({ cls := "com/example/steady_limiter/steadylimiter/SlidingWindowLog", name := "<init>", desc := "(JJ)V" } : Jvm.MethodName) prog_18_method_1_code (5 : Nat) (Option.none : Option Jvm.ClassFile.FieldType)).before args0 about1 = true := code_word (m := ⟨4, 0⟩) (meth := k4m0) (c := k4c0) (by decide +kernel) rfl rfl rfl (by decide +kernel)
set_option maxRecDepth 65536 in
theorem w_c3 : (Jvm.Cond.code ({ cls := "com/example/steady_limiter/steadylimiter/Algorithm", name := "<init>", desc := "(Ljava/lang/String;J)V" } : Jvm.MethodName) prog_1_method_1_code (4 : Nat) (Option.none : Option Jvm.ClassFile.FieldType)).before args0 about1 = true := code_word (m := ⟨3, 0⟩) (meth := k3m0) (c := k3c0) (by decide +kernel) rfl rfl rfl (by decide +kernel)
set_option maxRecDepth 65536 in
theorem w_c4 : (Jvm.Cond.code ({ cls := "java/lang/Object", name := "<init>", desc := "()V" } : Jvm.MethodName) object_method_1_code (1 : Nat) (Option.none : Option Jvm.ClassFile.FieldType)).before args0 about1 = true := code_word (m := ⟨0, 0⟩) (meth := k0m0) (c := k0c0) (by decide +kernel) rfl rfl rfl (by decide +kernel)
set_option maxRecDepth 65536 in
theorem w_c5 : (Jvm.Cond.code ({ cls := "com/example/steady_limiter/steadylimiter/SlidingWindowLog$PermitLog", name := "<init>", desc := "(J)V" } : Jvm.MethodName) prog_19_method_1_code (3 : Nat) (Option.none : Option Jvm.ClassFile.FieldType)).before args0 about1 = true := code_word (m := ⟨12, 0⟩) (meth := k12m0) (c := k12c0) (by decide +kernel) rfl rfl rfl (by decide +kernel)
set_option maxRecDepth 65536 in
theorem w_c6 : (Jvm.Cond.code ({ cls := "com/example/steady_limiter/steadylimiter/KeyState", name := "<init>", desc := "(J)V" } : Jvm.MethodName) prog_9_method_1_code (3 : Nat) (Option.none : Option Jvm.ClassFile.FieldType)).before args0 about1 = true := code_word (m := ⟨11, 0⟩) (meth := k11m0) (c := k11c0) (by decide +kernel) rfl rfl rfl (by decide +kernel)
set_option maxRecDepth 65536 in
theorem w_c7 : (Jvm.Cond.code ({ cls := "com/example/steady_limiter/steadylimiter/SlidingWindowLog$PermitLog", name := "add", desc := "(JJ)V" } : Jvm.MethodName) prog_19_method_5_code (6 : Nat) (Option.none : Option Jvm.ClassFile.FieldType)).before args0 about1 = true := code_word (m := ⟨12, 3⟩) (meth := k12m3) (c := k12c3) (by decide +kernel) rfl rfl rfl (by decide +kernel)
set_option maxRecDepth 65536 in
theorem w_c8 : (Jvm.Cond.code ({ cls := "com/example/steady_limiter/steadylimiter/SlidingWindowLog$PermitLog", name := "slot", desc := "(I)I" } : Jvm.MethodName) prog_19_method_6_code (2 : Nat) (Option.some Jvm.ClassFile.FieldType.int)).before args0 about1 = true := code_word (m := ⟨12, 4⟩) (meth := k12m4) (c := k12c4) (by decide +kernel) rfl rfl rfl (by decide +kernel)
set_option maxRecDepth 65536 in
theorem w_c9 : (Jvm.Cond.code ({ cls := "com/example/steady_limiter/steadylimiter/SlidingWindowLog$PermitLog", name := "timeAt", desc := "(I)J" } : Jvm.MethodName) prog_19_method_2_code (2 : Nat) (Option.some Jvm.ClassFile.FieldType.long)).before args0 about1 = true := code_word (m := ⟨12, 1⟩) (meth := k12m1) (c := k12c1) (by decide +kernel) rfl rfl rfl (by decide +kernel)
set_option maxRecDepth 65536 in
theorem w_c10 : (Jvm.Cond.code ({ cls := "com/example/steady_limiter/steadylimiter/SlidingWindowLog", name := "nanosUntilFresh", desc := "(Lcom/example/steady_limiter/steadylimiter/SlidingWindowLog$PermitLog;J)J" } : Jvm.MethodName) prog_18_method_7_code (6 : Nat) (Option.some Jvm.ClassFile.FieldType.long)).before args0 about1 = true := code_word (m := ⟨4, 1⟩) (meth := k4m1) (c := k4c1) (by decide +kernel) rfl rfl rfl (by decide +kernel)
set_option maxRecDepth 65536 in
theorem w_c11 : (Jvm.Cond.code ({ cls := "com/example/steady_limiter/steadylimiter/SlidingWindowLog", name := "nanosUntilLeaving", desc := "(JJ)J" } : Jvm.MethodName) prog_18_method_8_code (5 : Nat) (Option.some Jvm.ClassFile.FieldType.long)).before args0 about1 = true := code_word (m := ⟨4, 2⟩) (meth := k4m2) (c := k4c2) (by decide +kernel) rfl rfl rfl (by decide +kernel)
set_option maxRecDepth 65536 in
theorem w_c12 : (Jvm.Cond.code ({ cls := "com/example/steady_limiter/steadylimiter/SlidingWindowLog$PermitLog", name := "resize", desc := "(I)V" } : Jvm.MethodName) prog_19_method_7_code (5 : Nat) (Option.none : Option Jvm.ClassFile.FieldType)).before args0 about1 = true := code_word (m := ⟨12, 5⟩) (meth := k12m5) (c := k12c5) (by decide +kernel) rfl rfl rfl (by decide +kernel)
set_option maxRecDepth 65536 in
theorem w_c13 : (Jvm.Cond.code ({ cls := "com/example/steady_limiter/steadylimiter/SlidingWindowLog$PermitLog", name := "permitsAt", desc := "(I)J" } : Jvm.MethodName) prog_19_method_3_code (2 : Nat) (Option.some Jvm.ClassFile.FieldType.long)).before args0 about1 = true := code_word (m := ⟨12, 2⟩) (meth := k12m2) (c := k12c2) (by decide +kernel) rfl rfl rfl (by decide +kernel)
def codes1 : List Jvm.Cond := [Jvm.Cond.code x code maxLocals ret, Jvm.Cond.code ({ cls := "java/lang/Math", name := "max", desc := "(JJ)J" } : Jvm.MethodName) jdk_29_method_66_code (4 : Nat) (Option.some Jvm.ClassFile.FieldType.long), Jvm.Cond.code ({ cls := "com/example/steady_limiter/steadylimiter/SlidingWindowLog", name := "<init>", desc := "(JJ)V" } : Jvm.MethodName) prog_18_method_1_code (5 : Nat) (Option.none : Option Jvm.ClassFile.FieldType), Jvm.Cond.code ({ cls := "com/example/steady_limiter/steadylimiter/Algorithm", name := "<init>", desc := "(Ljava/lang/String;J)V" } : Jvm.MethodName) prog_1_method_1_code (4 : Nat) (Option.none : Option Jvm.ClassFile.FieldType), Jvm.Cond.code ({ cls := "java/lang/Object", name := "<init>", desc := "()V" } : Jvm.MethodName) object_method_1_code (1 : Nat) (Option.none : Option Jvm.ClassFile.FieldType), Jvm.Cond.code ({ cls := "com/example/steady_limiter/steadylimiter/SlidingWindowLog$PermitLog", name := "<init>", desc := "(J)V" } : Jvm.MethodName) prog_19_method_1_code (3 : Nat) (Option.none : Option Jvm.ClassFile.FieldType), Jvm.Cond.code ({ cls := "com/example/steady_limiter/steadylimiter/KeyState", name := "<init>", desc := "(J)V" } : Jvm.MethodName) prog_9_method_1_code (3 : Nat) (Option.none : Option Jvm.ClassFile.FieldType), Jvm.Cond.code ({ cls := "com/example/steady_limiter/steadylimiter/SlidingWindowLog$PermitLog", name := "add", desc := "(JJ)V" } : Jvm.MethodName) prog_19_method_5_code (6 : Nat) (Option.none : Option Jvm.ClassFile.FieldType), Jvm.Cond.code ({ cls := "com/example/steady_limiter/steadylimiter/SlidingWindowLog$PermitLog", name := "slot", desc := "(I)I" } : Jvm.MethodName) prog_19_method_6_code (2 : Nat) (Option.some Jvm.ClassFile.FieldType.int), Jvm.Cond.code ({ cls := "com/example/steady_limiter/steadylimiter/SlidingWindowLog$PermitLog", name := "timeAt", desc := "(I)J" } : Jvm.MethodName) prog_19_method_2_code (2 : Nat) (Option.some Jvm.ClassFile.FieldType.long), Jvm.Cond.code ({ cls := "com/example/steady_limiter/steadylimiter/SlidingWindowLog", name := "nanosUntilFresh", desc := "(Lcom/example/steady_limiter/steadylimiter/SlidingWindowLog$PermitLog;J)J" } : Jvm.MethodName) prog_18_method_7_code (6 : Nat) (Option.some Jvm.ClassFile.FieldType.long), Jvm.Cond.code ({ cls := "com/example/steady_limiter/steadylimiter/SlidingWindowLog", name := "nanosUntilLeaving", desc := "(JJ)J" } : Jvm.MethodName) prog_18_method_8_code (5 : Nat) (Option.some Jvm.ClassFile.FieldType.long), Jvm.Cond.code ({ cls := "com/example/steady_limiter/steadylimiter/SlidingWindowLog$PermitLog", name := "resize", desc := "(I)V" } : Jvm.MethodName) prog_19_method_7_code (5 : Nat) (Option.none : Option Jvm.ClassFile.FieldType), Jvm.Cond.code ({ cls := "com/example/steady_limiter/steadylimiter/SlidingWindowLog$PermitLog", name := "permitsAt", desc := "(I)J" } : Jvm.MethodName) prog_19_method_3_code (2 : Nat) (Option.some Jvm.ClassFile.FieldType.long)]
set_option maxRecDepth 65536 in
theorem codes_eq : words1.filter isCode = codes1 := rfl
theorem w_codes : ∀ c ∈ words1.filter isCode, c.before args0 about1 = true := by
  rw [codes_eq]
  intro c hc
  simp only [codes1, List.mem_cons, List.not_mem_nil, or_false] at hc
  rcases hc with rfl | rfl | rfl | rfl | rfl | rfl | rfl | rfl | rfl | rfl | rfl | rfl | rfl | rfl
  · exact w_c0
  · exact w_c1
  · exact w_c2
  · exact w_c3
  · exact w_c4
  · exact w_c5
  · exact w_c6
  · exact w_c7
  · exact w_c8
  · exact w_c9
  · exact w_c10
  · exact w_c11
  · exact w_c12
  · exact w_c13
set_option maxRecDepth 65536 in
theorem w_t1 : (words1.take 24).all (fun c => isCode c || c.before args0 about1) = true := by decide +kernel
set_option maxRecDepth 65536 in
theorem w_t2 : ((words1.drop 24).take 24).all (fun c => isCode c || c.before args0 about1) = true := by decide +kernel
set_option maxRecDepth 65536 in
theorem w_t3 : (((words1.drop 24).drop 24).take 24).all (fun c => isCode c || c.before args0 about1) = true := by decide +kernel
set_option maxRecDepth 65536 in
theorem w_t4 : (((words1.drop 24).drop 24).drop 24).all (fun c => isCode c || c.before args0 about1) = true := by decide +kernel
theorem w_tables : (allAtoms (Jvm.Cond.code x code maxLocals ret :: tables_1)).before args0 about1 = true := by
  rw [allAtoms_all]
  show words1.all (fun c => c.before args0 about1) = true
  refine all_split ?_ w_codes
  rw [← List.take_append_drop 24 words1, List.all_append, w_t1, ← List.take_append_drop 24 (words1.drop 24), List.all_append, w_t2, ← List.take_append_drop 24 ((words1.drop 24).drop 24), List.all_append, w_t3, w_t4]
  rfl
set_option maxRecDepth 65536 in
theorem w_case : (Jvm.Cond.and given_1 narrow_1).before args0 about1 = true := by decide +kernel
theorem w_applies : (headSpec (Jvm.Cond.code x code maxLocals ret :: tables_1) room_1).applies x e0.platform about1 = true :=
  (Spec.applies_iff w_frames).mpr ⟨w_running, w_runnable, w_alone, w_named, w_hears, w_ripe, w_room, w_tables⟩
theorem atStart : AtStart classFile x code maxLocals ret World_1 tables_1 room_1 Calls_1 rest_1 Pre_1 launch0 p0 e0 about1 theMethod args0 below0 :=
  ⟨lists_1, trivial, launch0.admits_env _ _ _, launch0.least_env, fairChoices_fair.cas, fairChoices_fair.clock, w_frames, w_args, w_heap, w_applies, trivial, trivial, w_case⟩
end start1
theorem witness_1 : WitnessClaimed_1 := ⟨start1.p0, start1.e0, start1.about1, start1.theMethod, start1.args0, start1.below0, start1.atStart⟩
end Jvm.Pilot.@@N@@
