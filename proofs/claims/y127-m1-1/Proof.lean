import JvmDerived
import JvmDerived.Pilot.@@N@@Statement
import JvmDerived.Pilot.@@N@@Code
set_option linter.unusedVariables false
set_option linter.unusedSimpArgs false
namespace Jvm.Pilot.@@N@@
open Jvm Jvm.ClassFile Sem Op Lib Jvm.Free Jvm.Stand Jvm.LawKit Jvm.RoadKit Bundle Jvm.Pilot.@@N@@.Jvm.D
/-! ## THE W-KIT: W k n0 Q h cs sl pc L st: whoever stands (in the body that k tells of) over the heap h with locals L and stack st at pc comes to the body's end with Q -/
abbrev KT : Type := Program × Launch × Env × Room × State × MethodId × Array Value × List Frame × Method × Code
def Good (κ : KT) (R : Room) (Z : State) (own mnm : String) (bytes : ByteArray) (ml : Nat) (ret : Option FieldType) : Prop :=
  match κ with
  | (p, _, _, R', s, m, _, _, meth, c) => p.tables.exec = Jvm.exec ∧ Z.Warmed39 s.vm ∧ c.code = bytes ∧ c.maxLocals = ml ∧ s.vm.findClass own = some m.cls ∧ meth.sig.returnType = ret ∧ meth.locks = false ∧ meth.name = mnm ∧ R' = R
def W (κ : KT) (n0 : Nat) (Q : Option Value → Heap → Prop) (h : Heap) (cs sl pc : Nat) (L : List Slot) (st : List Value) : Prop :=
  match κ with
  | (p, l, e, R, s, m, args, below, meth, c) =>
    ∀ (T : State) (locs : List Loc), Stand p l e R s m args below meth c T locs cs sl → T.heap = h → Fr n0 locs → cs ≤ R.cells → sl ≤ R.slots →
      ∃ s₂ o, Steps p.tables e below (T.setTop (mkF m pc L.toArray st)) s₂ ∧ s₂.status = .running ∧ Ended s₂ below o ∧ ∃ v L', o = .returned v ∧ (Q v s₂.heap ∧ Fr n0 L') ∧ FrameEnd s o s₂ L' R.cells R.slots
/-- a callee's contract -/
def Con (Z : State) (y : MethodName) (bytes : ByteArray) (ml : Nat) (ret : Option FieldType) (rm : Room) (as' : List Value) (h0 : Heap) (n0 : Nat) (Q : Option Value → Heap → Prop) : Prop :=
  ∀ (l : Launch) (ws : List Jvm.Cond), MetFree l y (head1 (Jvm.Cond.code y bytes ml ret :: ws) rm) (fun a U => a = as'.toArray ∧ Z.Warmed39 U.vm ∧ U.heap = h0) (fun _ _ _ _ _ => True) (fun _ U o U' => ∃ v L, o = .returned v ∧ (Q v U'.heap ∧ Fr n0 L) ∧ FrameEnd U o U' L rm.cells rm.slots)
/-- an instruction: what stands at pc, its length, the pc behind -/
def Ins1 (b : ByteArray) (pc : Nat) (i : Instr) (len nx : Nat) : Prop := decode b pc = .ok (i, len) ∧ pc + len = nx
/-- a jump: what stands at pc, the pc behind, the pc to which it leads -/
def Jmp1 (b : ByteArray) (pc : Nat) (i : Instr) (o : Int) (nx tg : Nat) : Prop := decode b pc = .ok (i, 3) ∧ pc + 3 = nx ∧ 0 ≤ (pc : Int) + o ∧ ((pc : Int) + o).toNat = tg
def cmpP : ClassFile.Cond → Int32 → Int32 → Prop
  | .eq, x, y => x.toInt = y.toInt
  | .ne, x, y => ¬ x.toInt = y.toInt
  | .lt, x, y => x.toInt < y.toInt
  | .ge, x, y => y.toInt ≤ x.toInt
  | .gt, x, y => y.toInt < x.toInt
  | .le, x, y => x.toInt ≤ y.toInt
def cmp0 : ClassFile.Cond → Int32 → Prop
  | .eq, x => x.toInt = 0
  | .ne, x => ¬ x.toInt = 0
  | .lt, x => x.toInt < 0
  | .ge, x => 0 ≤ x.toInt
  | .gt, x => 0 < x.toInt
  | .le, x => x.toInt ≤ 0
def cmpL : ClassFile.Cond → Int64 → Int64 → Prop
  | .eq, x, y => x.toInt = y.toInt
  | .ne, x, y => ¬ x.toInt = y.toInt
  | .lt, x, y => x.toInt < y.toInt
  | .ge, x, y => y.toInt ≤ x.toInt
  | .gt, x, y => y.toInt < x.toInt
  | .le, x, y => x.toInt ≤ y.toInt
theorem cmpP_iff (cd : ClassFile.Cond) (x y : Int32) : if_icmp.holds cd x y = true ↔ cmpP cd x y := by
  cases cd <;> simp [if_icmp.holds, cmpP, Int32.lt_iff_toInt_lt, Int32.le_iff_toInt_le, Int32.toInt_inj]
theorem cmpP_no {cd : ClassFile.Cond} {x y : Int32} (h : ¬ cmpP cd x y) : if_icmp.holds cd x y = false := by
  cases q : if_icmp.holds cd x y with
  | false => rfl
  | true => exact absurd ((cmpP_iff _ _ _).mp q) h
theorem cmp0_iff (cd : ClassFile.Cond) (x : Int32) : cmpP cd x 0 ↔ cmp0 cd x := by
  cases cd <;> simp [cmpP, cmp0]
theorem cmpL_iff (cd : ClassFile.Cond) (x y : Int64) : cmp0 cd (if x > y then 1 else if x = y then 0 else -1) ↔ cmpL cd x y := by
  have hc := c_lcmp x y
  show cmp0 cd (lcmpW x y) ↔ _
  cases cd <;> simp only [cmp0, cmpL] <;> omega
section WKit
variable {κ : KT} {R : Room} {Z : State} {a0 : Array Value} {own mnm : String} {bytes : ByteArray} {ml : Nat} {ret : Option FieldType} {n0 : Nat} {Q : Option Value → Heap → Prop} {h : Heap} {cs sl pc nx tg : Nat} {L : List Slot} {st rest : List Value}
theorem W.pure {pc' : Nat} {L' : List Slot} {st' : List Value} (C : Good κ R Z own mnm bytes ml ret) (k : W κ n0 Q h cs sl pc' L' st')
    (hs : ∀ {p : Program} {e : Env} {below : List Frame} {T target : State} {m : MethodId} {c : Code}, At T m c below → p.tables.exec = Jvm.exec → c.code = bytes → Steps p.tables e below (T.setTop (mkF m pc' L'.toArray st')) target → Steps p.tables e below (T.setTop (mkF m pc L.toArray st)) target) : W κ n0 Q h cs sl pc L st := by
  obtain ⟨p, l, e, R', s, m, args, below, meth, c⟩ := κ
  obtain ⟨hx, -, hby, -⟩ := C
  intro T locs X eT N h1 h2
  obtain ⟨s₂, o, a, r⟩ := k T locs X eT N h1 h2
  exact ⟨s₂, o, hs X.here hx hby a, r⟩
/-- more room taken than made -/
theorem W.more {cs' sl' : Nat} (h1 : cs ≤ cs') (h2 : sl ≤ sl') (C : Good κ R Z own mnm bytes ml ret) (g1 : cs' ≤ R.cells) (g2 : sl' ≤ R.slots) (k : W κ n0 Q h cs' sl' pc L st) : W κ n0 Q h cs sl pc L st := by
  obtain ⟨p, l, e, R', s, m, args, below, meth, c⟩ := κ
  obtain ⟨-, -, -, -, -, -, -, -, rfl⟩ := C
  intro T locs X eT N _ _
  exact k T locs (X.more h1 h2) eT N g1 g2
theorem W.post {Q' : Option Value → Heap → Prop} (hq : ∀ v h, Q v h → Q' v h) (k : W κ n0 Q h cs sl pc L st) : W κ n0 Q' h cs sl pc L st := by
  obtain ⟨p, l, e, R', s, m, args, below, meth, c⟩ := κ
  intro T locs X eT N h1 h2
  obtain ⟨s₂, o, a, b, c, v, L', d, ⟨f, f'⟩, g⟩ := k T locs X eT N h1 h2
  exact ⟨s₂, o, a, b, c, v, L', d, ⟨hq _ _ f, f'⟩, g⟩

theorem W.iadd {x y z : Int32} (C : Good κ R Z own mnm bytes ml ret) (hd : Ins1 bytes pc .iadd 1 nx) (hz : x + y = z) (k : W κ n0 Q h cs sl nx L (.int z :: rest)) : W κ n0 Q h cs sl pc L (.int y :: .int x :: rest) := by
  obtain ⟨hd, rfl⟩ := hd
  subst hz
  exact W.pure C k fun hA hx hby hr => XS.iadd hA hx rfl (hb hby hd) rfl hr
theorem W.isub {x y z : Int32} (C : Good κ R Z own mnm bytes ml ret) (hd : Ins1 bytes pc .isub 1 nx) (hz : x - y = z) (k : W κ n0 Q h cs sl nx L (.int z :: rest)) : W κ n0 Q h cs sl pc L (.int y :: .int x :: rest) := by
  obtain ⟨hd, rfl⟩ := hd
  subst hz
  exact W.pure C k fun hA hx hby hr => XS.isub hA hx rfl (hb hby hd) rfl hr
theorem W.imul {x y z : Int32} (C : Good κ R Z own mnm bytes ml ret) (hd : Ins1 bytes pc .imul 1 nx) (hz : x * y = z) (k : W κ n0 Q h cs sl nx L (.int z :: rest)) : W κ n0 Q h cs sl pc L (.int y :: .int x :: rest) := by
  obtain ⟨hd, rfl⟩ := hd
  subst hz
  exact W.pure C k fun hA hx hby hr => XS.imul hA hx rfl (hb hby hd) rfl hr
theorem W.iand {x y z : Int32} (C : Good κ R Z own mnm bytes ml ret) (hd : Ins1 bytes pc .iand 1 nx) (hz : x &&& y = z) (k : W κ n0 Q h cs sl nx L (.int z :: rest)) : W κ n0 Q h cs sl pc L (.int y :: .int x :: rest) := by
  obtain ⟨hd, rfl⟩ := hd
  subst hz
  exact W.pure C k fun hA hx hby hr => XS.iand hA hx rfl (hb hby hd) rfl hr
theorem W.ior {x y z : Int32} (C : Good κ R Z own mnm bytes ml ret) (hd : Ins1 bytes pc .ior 1 nx) (hz : x ||| y = z) (k : W κ n0 Q h cs sl nx L (.int z :: rest)) : W κ n0 Q h cs sl pc L (.int y :: .int x :: rest) := by
  obtain ⟨hd, rfl⟩ := hd
  subst hz
  exact W.pure C k fun hA hx hby hr => XS.ior hA hx rfl (hb hby hd) rfl hr
theorem W.ixor {x y z : Int32} (C : Good κ R Z own mnm bytes ml ret) (hd : Ins1 bytes pc .ixor 1 nx) (hz : x ^^^ y = z) (k : W κ n0 Q h cs sl nx L (.int z :: rest)) : W κ n0 Q h cs sl pc L (.int y :: .int x :: rest) := by
  obtain ⟨hd, rfl⟩ := hd
  subst hz
  exact W.pure C k fun hA hx hby hr => XS.ixor hA hx rfl (hb hby hd) rfl hr
theorem W.ladd {x y z : Int64} (C : Good κ R Z own mnm bytes ml ret) (hd : Ins1 bytes pc .ladd 1 nx) (hz : x + y = z) (k : W κ n0 Q h cs sl nx L (.long z :: rest)) : W κ n0 Q h cs sl pc L (.long y :: .long x :: rest) := by
  obtain ⟨hd, rfl⟩ := hd
  subst hz
  exact W.pure C k fun hA hx hby hr => XS.ladd hA hx rfl (hb hby hd) rfl hr
theorem W.lsub {x y z : Int64} (C : Good κ R Z own mnm bytes ml ret) (hd : Ins1 bytes pc .lsub 1 nx) (hz : x - y = z) (k : W κ n0 Q h cs sl nx L (.long z :: rest)) : W κ n0 Q h cs sl pc L (.long y :: .long x :: rest) := by
  obtain ⟨hd, rfl⟩ := hd
  subst hz
  exact W.pure C k fun hA hx hby hr => XS.lsub hA hx rfl (hb hby hd) rfl hr
theorem W.lmul {x y z : Int64} (C : Good κ R Z own mnm bytes ml ret) (hd : Ins1 bytes pc .lmul 1 nx) (hz : x * y = z) (k : W κ n0 Q h cs sl nx L (.long z :: rest)) : W κ n0 Q h cs sl pc L (.long y :: .long x :: rest) := by
  obtain ⟨hd, rfl⟩ := hd
  subst hz
  exact W.pure C k fun hA hx hby hr => XS.lmul hA hx rfl (hb hby hd) rfl hr
theorem W.land {x y z : Int64} (C : Good κ R Z own mnm bytes ml ret) (hd : Ins1 bytes pc .land 1 nx) (hz : x &&& y = z) (k : W κ n0 Q h cs sl nx L (.long z :: rest)) : W κ n0 Q h cs sl pc L (.long y :: .long x :: rest) := by
  obtain ⟨hd, rfl⟩ := hd
  subst hz
  exact W.pure C k fun hA hx hby hr => XS.land hA hx rfl (hb hby hd) rfl hr
theorem W.lor {x y z : Int64} (C : Good κ R Z own mnm bytes ml ret) (hd : Ins1 bytes pc .lor 1 nx) (hz : x ||| y = z) (k : W κ n0 Q h cs sl nx L (.long z :: rest)) : W κ n0 Q h cs sl pc L (.long y :: .long x :: rest) := by
  obtain ⟨hd, rfl⟩ := hd
  subst hz
  exact W.pure C k fun hA hx hby hr => XS.lor hA hx rfl (hb hby hd) rfl hr
theorem W.lxor {x y z : Int64} (C : Good κ R Z own mnm bytes ml ret) (hd : Ins1 bytes pc .lxor 1 nx) (hz : x ^^^ y = z) (k : W κ n0 Q h cs sl nx L (.long z :: rest)) : W κ n0 Q h cs sl pc L (.long y :: .long x :: rest) := by
  obtain ⟨hd, rfl⟩ := hd
  subst hz
  exact W.pure C k fun hA hx hby hr => XS.lxor hA hx rfl (hb hby hd) rfl hr
theorem W.idiv {x y z : Int32} (C : Good κ R Z own mnm bytes ml ret) (hd : Ins1 bytes pc .idiv 1 nx) (hy : y ≠ 0) (hz : x / y = z) (k : W κ n0 Q h cs sl nx L (.int z :: rest)) : W κ n0 Q h cs sl pc L (.int y :: .int x :: rest) := by
  obtain ⟨hd, rfl⟩ := hd
  subst hz
  exact W.pure C k fun hA hx hby hr => XS.idiv hA hx rfl (hb hby hd) rfl hy hr
theorem W.irem {x y z : Int32} (C : Good κ R Z own mnm bytes ml ret) (hd : Ins1 bytes pc .irem 1 nx) (hy : y ≠ 0) (hz : x % y = z) (k : W κ n0 Q h cs sl nx L (.int z :: rest)) : W κ n0 Q h cs sl pc L (.int y :: .int x :: rest) := by
  obtain ⟨hd, rfl⟩ := hd
  subst hz
  exact W.pure C k fun hA hx hby hr => XS.irem hA hx rfl (hb hby hd) rfl hy (by rw [irem_eq_mod]; exact hr)
theorem W.ldiv {x y z : Int64} (C : Good κ R Z own mnm bytes ml ret) (hd : Ins1 bytes pc .ldiv 1 nx) (hy : y ≠ 0) (hz : x / y = z) (k : W κ n0 Q h cs sl nx L (.long z :: rest)) : W κ n0 Q h cs sl pc L (.long y :: .long x :: rest) := by
  obtain ⟨hd, rfl⟩ := hd
  subst hz
  exact W.pure C k fun hA hx hby hr => XS.ldiv hA hx rfl (hb hby hd) rfl hy hr
theorem W.lrem {x y z : Int64} (C : Good κ R Z own mnm bytes ml ret) (hd : Ins1 bytes pc .lrem 1 nx) (hy : y ≠ 0) (hz : x - (x / y) * y = z) (k : W κ n0 Q h cs sl nx L (.long z :: rest)) : W κ n0 Q h cs sl pc L (.long y :: .long x :: rest) := by
  obtain ⟨hd, rfl⟩ := hd
  subst hz
  exact W.pure C k fun hA hx hby hr => XS.lrem hA hx rfl (hb hby hd) rfl hy hr
theorem W.ishl {x y z : Int32} (C : Good κ R Z own mnm bytes ml ret) (hd : Ins1 bytes pc .ishl 1 nx) (hz : x <<< (y &&& 31) = z) (k : W κ n0 Q h cs sl nx L (.int z :: rest)) : W κ n0 Q h cs sl pc L (.int y :: .int x :: rest) := by
  obtain ⟨hd, rfl⟩ := hd
  subst hz
  exact W.pure C k fun hA hx hby hr => XS.ishl hA hx rfl (hb hby hd) rfl hr
theorem W.ishr {x y z : Int32} (C : Good κ R Z own mnm bytes ml ret) (hd : Ins1 bytes pc .ishr 1 nx) (hz : x >>> (y &&& 31) = z) (k : W κ n0 Q h cs sl nx L (.int z :: rest)) : W κ n0 Q h cs sl pc L (.int y :: .int x :: rest) := by
  obtain ⟨hd, rfl⟩ := hd
  subst hz
  exact W.pure C k fun hA hx hby hr => XS.ishr hA hx rfl (hb hby hd) rfl hr
theorem W.iushr {x y z : Int32} (C : Good κ R Z own mnm bytes ml ret) (hd : Ins1 bytes pc .iushr 1 nx) (hz : (x.toUInt32 >>> (y &&& 31).toUInt32).toInt32 = z) (k : W κ n0 Q h cs sl nx L (.int z :: rest)) : W κ n0 Q h cs sl pc L (.int y :: .int x :: rest) := by
  obtain ⟨hd, rfl⟩ := hd
  subst hz
  exact W.pure C k fun hA hx hby hr => XS.iushr hA hx rfl (hb hby hd) rfl hr
theorem W.lshl {x z : Int64} {y : Int32} (C : Good κ R Z own mnm bytes ml ret) (hd : Ins1 bytes pc .lshl 1 nx) (hz : x <<< (y &&& 0x3f).toInt64 = z) (k : W κ n0 Q h cs sl nx L (.long z :: rest)) : W κ n0 Q h cs sl pc L (.int y :: .long x :: rest) := by
  obtain ⟨hd, rfl⟩ := hd
  subst hz
  exact W.pure C k fun hA hx hby hr => XS.lshl hA hx rfl (hb hby hd) rfl hr
theorem W.lshr {x z : Int64} {y : Int32} (C : Good κ R Z own mnm bytes ml ret) (hd : Ins1 bytes pc .lshr 1 nx) (hz : x >>> (y &&& 0x3f).toInt64 = z) (k : W κ n0 Q h cs sl nx L (.long z :: rest)) : W κ n0 Q h cs sl pc L (.int y :: .long x :: rest) := by
  obtain ⟨hd, rfl⟩ := hd
  subst hz
  exact W.pure C k fun hA hx hby hr => XS.lshr hA hx rfl (hb hby hd) rfl hr
theorem W.lushr {x z : Int64} {y : Int32} (C : Good κ R Z own mnm bytes ml ret) (hd : Ins1 bytes pc .lushr 1 nx) (hz : (x.toUInt64 >>> (y &&& 0x3f).toInt64.toUInt64).toInt64 = z) (k : W κ n0 Q h cs sl nx L (.long z :: rest)) : W κ n0 Q h cs sl pc L (.int y :: .long x :: rest) := by
  obtain ⟨hd, rfl⟩ := hd
  subst hz
  exact W.pure C k fun hA hx hby hr => XS.lushr hA hx rfl (hb hby hd) rfl hr
theorem W.ineg {x : Int32} {z : Int32} (C : Good κ R Z own mnm bytes ml ret) (hd : Ins1 bytes pc .ineg 1 nx) (hz : -x = z) (k : W κ n0 Q h cs sl nx L (.int z :: rest)) : W κ n0 Q h cs sl pc L (.int x :: rest) := by
  obtain ⟨hd, rfl⟩ := hd
  subst hz
  exact W.pure C k fun hA hx hby hr => XS.ineg hA hx rfl (hb hby hd) rfl hr
theorem W.lneg {x : Int64} {z : Int64} (C : Good κ R Z own mnm bytes ml ret) (hd : Ins1 bytes pc .lneg 1 nx) (hz : -x = z) (k : W κ n0 Q h cs sl nx L (.long z :: rest)) : W κ n0 Q h cs sl pc L (.long x :: rest) := by
  obtain ⟨hd, rfl⟩ := hd
  subst hz
  exact W.pure C k fun hA hx hby hr => XS.lneg hA hx rfl (hb hby hd) rfl hr
theorem W.i2l {x : Int32} {z : Int64} (C : Good κ R Z own mnm bytes ml ret) (hd : Ins1 bytes pc .i2l 1 nx) (hz : x.toInt64 = z) (k : W κ n0 Q h cs sl nx L (.long z :: rest)) : W κ n0 Q h cs sl pc L (.int x :: rest) := by
  obtain ⟨hd, rfl⟩ := hd
  subst hz
  exact W.pure C k fun hA hx hby hr => XS.i2l hA hx rfl (hb hby hd) rfl hr
theorem W.l2i {x : Int64} {z : Int32} (C : Good κ R Z own mnm bytes ml ret) (hd : Ins1 bytes pc .l2i 1 nx) (hz : x.toInt32 = z) (k : W κ n0 Q h cs sl nx L (.int z :: rest)) : W κ n0 Q h cs sl pc L (.long x :: rest) := by
  obtain ⟨hd, rfl⟩ := hd
  subst hz
  exact W.pure C k fun hA hx hby hr => XS.l2i hA hx rfl (hb hby hd) rfl hr
theorem W.i2b {x : Int32} {z : Int32} (C : Good κ R Z own mnm bytes ml ret) (hd : Ins1 bytes pc .i2b 1 nx) (hz : x.toInt8.toInt32 = z) (k : W κ n0 Q h cs sl nx L (.int z :: rest)) : W κ n0 Q h cs sl pc L (.int x :: rest) := by
  obtain ⟨hd, rfl⟩ := hd
  subst hz
  exact W.pure C k fun hA hx hby hr => XS.i2b hA hx rfl (hb hby hd) rfl hr
theorem W.i2s {x : Int32} {z : Int32} (C : Good κ R Z own mnm bytes ml ret) (hd : Ins1 bytes pc .i2s 1 nx) (hz : x.toInt16.toInt32 = z) (k : W κ n0 Q h cs sl nx L (.int z :: rest)) : W κ n0 Q h cs sl pc L (.int x :: rest) := by
  obtain ⟨hd, rfl⟩ := hd
  subst hz
  exact W.pure C k fun hA hx hby hr => XS.i2s hA hx rfl (hb hby hd) rfl hr
theorem W.i2c {x : Int32} {z : Int32} (C : Good κ R Z own mnm bytes ml ret) (hd : Ins1 bytes pc .i2c 1 nx) (hz : x.toUInt32.toUInt16.toUInt32.toInt32 = z) (k : W κ n0 Q h cs sl nx L (.int z :: rest)) : W κ n0 Q h cs sl pc L (.int x :: rest) := by
  obtain ⟨hd, rfl⟩ := hd
  subst hz
  exact W.pure C k fun hA hx hby hr => XS.i2c hA hx rfl (hb hby hd) rfl hr
theorem W.iconst {i : Int} {z : Int32} (C : Good κ R Z own mnm bytes ml ret) (hd : Ins1 bytes pc (.iconst i) 1 nx) (hz : Int32.ofInt i = z) (k : W κ n0 Q h cs sl nx L (.int z :: st)) : W κ n0 Q h cs sl pc L st := by
  obtain ⟨hd, rfl⟩ := hd
  subst hz
  exact W.pure C k fun hA hx hby hr => XS.iconst hA hx rfl (hb hby hd) hr
theorem W.bipush {i : Int} {z : Int32} (C : Good κ R Z own mnm bytes ml ret) (hd : Ins1 bytes pc (.bipush i) 2 nx) (hz : (Int8.ofInt i).toInt32 = z) (k : W κ n0 Q h cs sl nx L (.int z :: st)) : W κ n0 Q h cs sl pc L st := by
  obtain ⟨hd, rfl⟩ := hd
  subst hz
  exact W.pure C k fun hA hx hby hr => XS.bipush hA hx rfl (hb hby hd) hr
theorem W.sipush {i : Int} {z : Int32} (C : Good κ R Z own mnm bytes ml ret) (hd : Ins1 bytes pc (.sipush i) 3 nx) (hz : (Int16.ofInt i).toInt32 = z) (k : W κ n0 Q h cs sl nx L (.int z :: st)) : W κ n0 Q h cs sl pc L st := by
  obtain ⟨hd, rfl⟩ := hd
  subst hz
  exact W.pure C k fun hA hx hby hr => XS.sipush hA hx rfl (hb hby hd) hr
theorem W.lconst {i : Fin 2} {z : Int64} (C : Good κ R Z own mnm bytes ml ret) (hd : Ins1 bytes pc (.lconst i) 1 nx) (hz : Int64.ofNat i = z) (k : W κ n0 Q h cs sl nx L (.long z :: st)) : W κ n0 Q h cs sl pc L st := by
  obtain ⟨hd, rfl⟩ := hd
  subst hz
  exact W.pure C k fun hA hx hby hr => XS.lconst hA hx rfl (hb hby hd) hr
theorem W.aconst_null (C : Good κ R Z own mnm bytes ml ret) (hd : Ins1 bytes pc .aconst_null 1 nx) (k : W κ n0 Q h cs sl nx L (.null :: st)) : W κ n0 Q h cs sl pc L st := by
  obtain ⟨hd, rfl⟩ := hd
  exact W.pure C k fun hA hx hby hr => XS.aconstNull hA hx rfl (hb hby hd) hr
theorem W.iload {i : Nat} {v : Int32} (C : Good κ R Z own mnm bytes ml ret) (hd : Ins1 bytes pc (.iload i) 2 nx) (hl : L[i]? = some (.val (.int v))) (k : W κ n0 Q h cs sl nx L ((.int v) :: st)) : W κ n0 Q h cs sl pc L st := by
  obtain ⟨hd, rfl⟩ := hd
  exact W.pure C k fun hA hx hby hr => XS.iload hA hx rfl (hb hby hd) (by simpa using hl) hr
theorem W.iloadN {i : Fin 4} {v : Int32} (C : Good κ R Z own mnm bytes ml ret) (hd : Ins1 bytes pc (.iload_n i) 1 nx) (hl : L[i.val]? = some (.val (.int v))) (k : W κ n0 Q h cs sl nx L ((.int v) :: st)) : W κ n0 Q h cs sl pc L st := by
  obtain ⟨hd, rfl⟩ := hd
  exact W.pure C k fun hA hx hby hr => XS.iloadN hA hx rfl (hb hby hd) (by simpa using hl) hr
theorem W.lload {i : Nat} {v : Int64} (C : Good κ R Z own mnm bytes ml ret) (hd : Ins1 bytes pc (.lload i) 2 nx) (hl : L[i]? = some (.val (.long v))) (k : W κ n0 Q h cs sl nx L ((.long v) :: st)) : W κ n0 Q h cs sl pc L st := by
  obtain ⟨hd, rfl⟩ := hd
  exact W.pure C k fun hA hx hby hr => XS.lload hA hx rfl (hb hby hd) (by simpa using hl) hr
theorem W.lloadN {i : Fin 4} {v : Int64} (C : Good κ R Z own mnm bytes ml ret) (hd : Ins1 bytes pc (.lload_n i) 1 nx) (hl : L[i.val]? = some (.val (.long v))) (k : W κ n0 Q h cs sl nx L ((.long v) :: st)) : W κ n0 Q h cs sl pc L st := by
  obtain ⟨hd, rfl⟩ := hd
  exact W.pure C k fun hA hx hby hr => XS.lloadN hA hx rfl (hb hby hd) (by simpa using hl) hr
theorem W.aload {i : Nat} {v : Value} (C : Good κ R Z own mnm bytes ml ret) (hd : Ins1 bytes pc (.aload i) 2 nx) (hl : L[i]? = some (.val (v))) (hv : v.isRef = true) (k : W κ n0 Q h cs sl nx L ((v) :: st)) : W κ n0 Q h cs sl pc L st := by
  obtain ⟨hd, rfl⟩ := hd
  exact W.pure C k fun hA hx hby hr => XS.aload hA hx rfl (hb hby hd) (by simpa using hl) hv hr
theorem W.aloadN {i : Fin 4} {v : Value} (C : Good κ R Z own mnm bytes ml ret) (hd : Ins1 bytes pc (.aload_n i) 1 nx) (hl : L[i.val]? = some (.val (v))) (hv : v.isRef = true) (k : W κ n0 Q h cs sl nx L ((v) :: st)) : W κ n0 Q h cs sl pc L st := by
  obtain ⟨hd, rfl⟩ := hd
  exact W.pure C k fun hA hx hby hr => XS.aloadN hA hx rfl (hb hby hd) (by simpa using hl) hv hr
theorem W.istore {i : Nat} {L' : List Slot} {v : Int32} (C : Good κ R Z own mnm bytes ml ret) (hd : Ins1 bytes pc (.istore i) 2 nx) (hl : storeLocals L.toArray i (.int v) = some L'.toArray) (k : W κ n0 Q h cs sl nx L' rest) : W κ n0 Q h cs sl pc L ((.int v) :: rest) := by
  obtain ⟨hd, rfl⟩ := hd
  exact W.pure C k fun hA hx hby hr => XS.istore hA hx rfl (hb hby hd) rfl hl hr
theorem W.istoreN {i : Fin 4} {L' : List Slot} {v : Int32} (C : Good κ R Z own mnm bytes ml ret) (hd : Ins1 bytes pc (.istore_n i) 1 nx) (hl : storeLocals L.toArray i.val (.int v) = some L'.toArray) (k : W κ n0 Q h cs sl nx L' rest) : W κ n0 Q h cs sl pc L ((.int v) :: rest) := by
  obtain ⟨hd, rfl⟩ := hd
  exact W.pure C k fun hA hx hby hr => XS.istoreN hA hx rfl (hb hby hd) rfl hl hr
theorem W.lstore {i : Nat} {L' : List Slot} {v : Int64} (C : Good κ R Z own mnm bytes ml ret) (hd : Ins1 bytes pc (.lstore i) 2 nx) (hl : storeLocals L.toArray i (.long v) = some L'.toArray) (k : W κ n0 Q h cs sl nx L' rest) : W κ n0 Q h cs sl pc L ((.long v) :: rest) := by
  obtain ⟨hd, rfl⟩ := hd
  exact W.pure C k fun hA hx hby hr => XS.lstore hA hx rfl (hb hby hd) rfl hl hr
theorem W.lstoreN {i : Fin 4} {L' : List Slot} {v : Int64} (C : Good κ R Z own mnm bytes ml ret) (hd : Ins1 bytes pc (.lstore_n i) 1 nx) (hl : storeLocals L.toArray i.val (.long v) = some L'.toArray) (k : W κ n0 Q h cs sl nx L' rest) : W κ n0 Q h cs sl pc L ((.long v) :: rest) := by
  obtain ⟨hd, rfl⟩ := hd
  exact W.pure C k fun hA hx hby hr => XS.lstoreN hA hx rfl (hb hby hd) rfl hl hr
theorem W.astore {i : Nat} {L' : List Slot} {v : Value} (C : Good κ R Z own mnm bytes ml ret) (hd : Ins1 bytes pc (.astore i) 2 nx) (hl : storeLocals L.toArray i (v) = some L'.toArray) (hv : v.isRef = true) (k : W κ n0 Q h cs sl nx L' rest) : W κ n0 Q h cs sl pc L ((v) :: rest) := by
  obtain ⟨hd, rfl⟩ := hd
  exact W.pure C k fun hA hx hby hr => XS.astore hA hx rfl (hb hby hd) rfl hv hl hr
theorem W.astoreN {i : Fin 4} {L' : List Slot} {v : Value} (C : Good κ R Z own mnm bytes ml ret) (hd : Ins1 bytes pc (.astore_n i) 1 nx) (hl : storeLocals L.toArray i.val (v) = some L'.toArray) (hv : v.isRef = true) (k : W κ n0 Q h cs sl nx L' rest) : W κ n0 Q h cs sl pc L ((v) :: rest) := by
  obtain ⟨hd, rfl⟩ := hd
  exact W.pure C k fun hA hx hby hr => XS.astoreN hA hx rfl (hb hby hd) rfl hv hl hr
theorem W.iinc {i : Nat} {d : Int} {v z : Int32} {L' : List Slot} (C : Good κ R Z own mnm bytes ml ret) (hd : Ins1 bytes pc (.iinc i d) 3 nx) (hl : L[i]? = some (.val (.int v))) (hz : v + Int32.ofInt d = z) (hl' : storeLocals L.toArray i (.int z) = some L'.toArray) (k : W κ n0 Q h cs sl nx L' st) : W κ n0 Q h cs sl pc L st := by
  obtain ⟨hd, rfl⟩ := hd
  subst hz
  exact W.pure C k fun hA hx hby hr => XS.iinc hA hx rfl (hb hby hd) (by simpa using hl) hl' hr
theorem W.dup {x : Value} (C : Good κ R Z own mnm bytes ml ret) (hd : Ins1 bytes pc .dup 1 nx) (hc : x.category = 1) (k : W κ n0 Q h cs sl nx L (x :: x :: rest)) : W κ n0 Q h cs sl pc L (x :: rest) := by
  obtain ⟨hd, rfl⟩ := hd
  exact W.pure C k fun hA hx hby hr => XS.dup hA hx rfl (hb hby hd) rfl hc hr
theorem W.pop {x : Value} (C : Good κ R Z own mnm bytes ml ret) (hd : Ins1 bytes pc .pop 1 nx) (hc : x.category = 1) (k : W κ n0 Q h cs sl nx L rest) : W κ n0 Q h cs sl pc L (x :: rest) := by
  obtain ⟨hd, rfl⟩ := hd
  exact W.pure C k fun hA hx hby hr => XS.pop hA hx rfl (hb hby hd) rfl hc hr
theorem W.dup_x1 {x y : Value} (C : Good κ R Z own mnm bytes ml ret) (hd : Ins1 bytes pc .dup_x1 1 nx) (hc : x.category = 1) (hc' : y.category = 1) (k : W κ n0 Q h cs sl nx L (x :: y :: x :: rest)) : W κ n0 Q h cs sl pc L (x :: y :: rest) := by
  obtain ⟨hd, rfl⟩ := hd
  exact W.pure C k fun hA hx hby hr => XS.dupX1 hA hx rfl (hb hby hd) rfl hc hc' hr
theorem W.dup2 {x y : Value} (C : Good κ R Z own mnm bytes ml ret) (hd : Ins1 bytes pc .dup2 1 nx) (hc : x.category = 1) (hc' : y.category = 1) (k : W κ n0 Q h cs sl nx L (x :: y :: x :: y :: rest)) : W κ n0 Q h cs sl pc L (x :: y :: rest) := by
  obtain ⟨hd, rfl⟩ := hd
  exact W.pure C k fun hA hx hby hr => XT.dup2 hA hx rfl (hb hby hd) rfl hc hc' hr
theorem W.dup2L {x : Int64} (C : Good κ R Z own mnm bytes ml ret) (hd : Ins1 bytes pc .dup2 1 nx) (k : W κ n0 Q h cs sl nx L (.long x :: .long x :: rest)) : W κ n0 Q h cs sl pc L (.long x :: rest) := by
  obtain ⟨hd, rfl⟩ := hd
  exact W.pure C k fun hA hx hby hr => XT.dup2L hA hx rfl (hb hby hd) rfl hr
theorem W.dup_x2 {x y z : Value} (C : Good κ R Z own mnm bytes ml ret) (hd : Ins1 bytes pc .dup_x2 1 nx) (hc : x.category = 1) (hc' : y.category = 1) (hc2 : z.category = 1) (k : W κ n0 Q h cs sl nx L (x :: y :: z :: x :: rest)) : W κ n0 Q h cs sl pc L (x :: y :: z :: rest) := by
  obtain ⟨hd, rfl⟩ := hd
  refine W.pure C k fun {p e below T target m c} hA hx hby hr => ?_
  have hd' := hb hby hd
  jvm_step hA [hA.top, hx, hd', hc, hc', hc2]
  exact hr
theorem W.goto {o : Int} (C : Good κ R Z own mnm bytes ml ret) (hd : Jmp1 bytes pc (.goto o) o nx tg) (k : W κ n0 Q h cs sl tg L st) : W κ n0 Q h cs sl pc L st := by
  obtain ⟨hd, rfl, h1, h2⟩ := hd
  exact W.pure C k fun hA hx hby hr => XS.goto hA hx rfl rfl (hb hby hd) h1 h2 hr
theorem W.icmpY {o : Int} {cd : ClassFile.Cond} {x y : Int32} (C : Good κ R Z own mnm bytes ml ret) (hd : Jmp1 bytes pc (.if_icmp cd o) o nx tg) (hc : cmpP cd x y) (k : W κ n0 Q h cs sl tg L rest) : W κ n0 Q h cs sl pc L (.int y :: .int x :: rest) := by
  obtain ⟨hd, rfl, h1, h2⟩ := hd
  exact W.pure C k fun hA hx hby hr => XS.icmpYes hA hx rfl rfl (hb hby hd) rfl ((cmpP_iff _ _ _).mpr hc) h1 h2 hr
theorem W.icmpN {o : Int} {cd : ClassFile.Cond} {x y : Int32} (C : Good κ R Z own mnm bytes ml ret) (hd : Jmp1 bytes pc (.if_icmp cd o) o nx tg) (hc : ¬ cmpP cd x y) (k : W κ n0 Q h cs sl nx L rest) : W κ n0 Q h cs sl pc L (.int y :: .int x :: rest) := by
  obtain ⟨hd, rfl, h1, h2⟩ := hd
  exact W.pure C k fun hA hx hby hr => XS.icmpNo hA hx rfl (hb hby hd) rfl (cmpP_no hc) hr
theorem W.icmp {o : Int} {cd : ClassFile.Cond} {x y : Int32} (C : Good κ R Z own mnm bytes ml ret) (hd : Jmp1 bytes pc (.if_icmp cd o) o nx tg) (ky : cmpP cd x y → W κ n0 Q h cs sl tg L rest) (kn : ¬ cmpP cd x y → W κ n0 Q h cs sl nx L rest) : W κ n0 Q h cs sl pc L (.int y :: .int x :: rest) := by
  by_cases hc : cmpP cd x y
  · exact W.icmpY C hd hc (ky hc)
  · exact W.icmpN C hd hc (kn hc)
theorem W.ifY {o : Int} {cd : ClassFile.Cond} {x : Int32} (C : Good κ R Z own mnm bytes ml ret) (hd : Jmp1 bytes pc (.ifCond cd o) o nx tg) (hc : cmp0 cd x) (k : W κ n0 Q h cs sl tg L rest) : W κ n0 Q h cs sl pc L (.int x :: rest) := by
  obtain ⟨hd, rfl, h1, h2⟩ := hd
  exact W.pure C k fun hA hx hby hr => XS.ifYes hA hx rfl rfl (hb hby hd) rfl ((if0 _ _).trans ((cmpP_iff _ _ _).mpr ((cmp0_iff _ _).mpr hc))) h1 h2 hr
theorem W.ifN {o : Int} {cd : ClassFile.Cond} {x : Int32} (C : Good κ R Z own mnm bytes ml ret) (hd : Jmp1 bytes pc (.ifCond cd o) o nx tg) (hc : ¬ cmp0 cd x) (k : W κ n0 Q h cs sl nx L rest) : W κ n0 Q h cs sl pc L (.int x :: rest) := by
  obtain ⟨hd, rfl, h1, h2⟩ := hd
  exact W.pure C k fun hA hx hby hr => XS.ifNo hA hx rfl (hb hby hd) rfl ((if0 _ _).trans (cmpP_no fun q => hc ((cmp0_iff _ _).mp q))) hr
theorem W.ifc {o : Int} {cd : ClassFile.Cond} {x : Int32} (C : Good κ R Z own mnm bytes ml ret) (hd : Jmp1 bytes pc (.ifCond cd o) o nx tg) (ky : cmp0 cd x → W κ n0 Q h cs sl tg L rest) (kn : ¬ cmp0 cd x → W κ n0 Q h cs sl nx L rest) : W κ n0 Q h cs sl pc L (.int x :: rest) := by
  by_cases hc : cmp0 cd x
  · exact W.ifY C hd hc (ky hc)
  · exact W.ifN C hd hc (kn hc)
theorem W.lcmp {x y : Int64} (C : Good κ R Z own mnm bytes ml ret) (hd : Ins1 bytes pc .lcmp 1 nx) (k : W κ n0 Q h cs sl nx L (.int (if x > y then 1 else if x = y then 0 else -1) :: rest)) : W κ n0 Q h cs sl pc L (.long y :: .long x :: rest) := by
  obtain ⟨hd, rfl⟩ := hd
  exact W.pure C k fun hA hx hby hr => XS.lcmp hA hx rfl (hb hby hd) rfl hr
theorem W.lcY {pc1 : Nat} {o : Int} {cd : ClassFile.Cond} {x y : Int64} (C : Good κ R Z own mnm bytes ml ret) (hd1 : Ins1 bytes pc .lcmp 1 pc1) (hd : Jmp1 bytes pc1 (.ifCond cd o) o nx tg) (hc : cmpL cd x y) (k : W κ n0 Q h cs sl tg L rest) : W κ n0 Q h cs sl pc L (.long y :: .long x :: rest) :=
  W.lcmp C hd1 (W.ifY C hd ((cmpL_iff _ _ _).mpr hc) k)
theorem W.lcN {pc1 : Nat} {o : Int} {cd : ClassFile.Cond} {x y : Int64} (C : Good κ R Z own mnm bytes ml ret) (hd1 : Ins1 bytes pc .lcmp 1 pc1) (hd : Jmp1 bytes pc1 (.ifCond cd o) o nx tg) (hc : ¬ cmpL cd x y) (k : W κ n0 Q h cs sl nx L rest) : W κ n0 Q h cs sl pc L (.long y :: .long x :: rest) :=
  W.lcmp C hd1 (W.ifN C hd (fun q => hc ((cmpL_iff _ _ _).mp q)) k)
theorem W.lc {pc1 : Nat} {o : Int} {cd : ClassFile.Cond} {x y : Int64} (C : Good κ R Z own mnm bytes ml ret) (hd1 : Ins1 bytes pc .lcmp 1 pc1) (hd : Jmp1 bytes pc1 (.ifCond cd o) o nx tg) (ky : cmpL cd x y → W κ n0 Q h cs sl tg L rest) (kn : ¬ cmpL cd x y → W κ n0 Q h cs sl nx L rest) : W κ n0 Q h cs sl pc L (.long y :: .long x :: rest) := by
  by_cases hc : cmpL cd x y
  · exact W.lcY C hd1 hd hc (ky hc)
  · exact W.lcN C hd1 hd hc (kn hc)
theorem W.ifnullY {o : Int} (C : Good κ R Z own mnm bytes ml ret) (hd : Jmp1 bytes pc (.ifnull o) o nx tg) (k : W κ n0 Q h cs sl tg L rest) : W κ n0 Q h cs sl pc L (.null :: rest) := by
  obtain ⟨hd, rfl, h1, h2⟩ := hd
  exact W.pure C k fun hA hx hby hr => XS.ifnullYes hA hx rfl rfl (hb hby hd) rfl h1 h2 hr
theorem W.ifnullN {o : Int} {b : Addr} (C : Good κ R Z own mnm bytes ml ret) (hd : Jmp1 bytes pc (.ifnull o) o nx tg) (k : W κ n0 Q h cs sl nx L rest) : W κ n0 Q h cs sl pc L (.ref b :: rest) := by
  obtain ⟨hd, rfl, h1, h2⟩ := hd
  exact W.pure C k fun hA hx hby hr => XS.ifnullNo hA hx rfl (hb hby hd) rfl hr
theorem W.ifnonnullY {o : Int} {b : Addr} (C : Good κ R Z own mnm bytes ml ret) (hd : Jmp1 bytes pc (.ifnonnull o) o nx tg) (k : W κ n0 Q h cs sl tg L rest) : W κ n0 Q h cs sl pc L (.ref b :: rest) := by
  obtain ⟨hd, rfl, h1, h2⟩ := hd
  exact W.pure C k fun hA hx hby hr => XS.ifnonnullYes hA hx rfl rfl (hb hby hd) rfl h1 h2 hr
theorem W.ifnonnullN {o : Int} (C : Good κ R Z own mnm bytes ml ret) (hd : Jmp1 bytes pc (.ifnonnull o) o nx tg) (k : W κ n0 Q h cs sl nx L rest) : W κ n0 Q h cs sl pc L (.null :: rest) := by
  obtain ⟨hd, rfl, h1, h2⟩ := hd
  exact W.pure C k fun hA hx hby hr => XS.ifnonnullNo hA hx rfl (hb hby hd) rfl hr
/-! ### steps that read the tables -/
theorem W.ldc {i : Nat} {v : Int32} (C : Good κ R Z own mnm bytes ml ret) (hd : Ins1 bytes pc (.ldc i) 2 nx) (w : (Jvm.Cond.constant own i v).before a0 Z = true) (k : W κ n0 Q h cs sl nx L (.int v :: st)) : W κ n0 Q h cs sl pc L st := by
  obtain ⟨hd, rfl⟩ := hd
  obtain ⟨p, l, e, R', s, m, args, below, meth, c⟩ := κ
  obtain ⟨hx, hZ, hby, hml, hown, hret, hlk, hnm, rfl⟩ := C
  intro T locs X eT N h1 h2
  obtain ⟨s₂, o, a, r⟩ := k T locs X eT N h1 h2
  exact ⟨s₂, o, X.ldcInt hx hown (mvT hZ w) (g := mkF m pc L.toArray st) rfl (hb hby hd) _ a, r⟩
theorem W.ldcw {i : Nat} {v : Int32} (C : Good κ R Z own mnm bytes ml ret) (hd : Ins1 bytes pc (.ldc_w i) 3 nx) (w : (Jvm.Cond.constant own i v).before a0 Z = true) (k : W κ n0 Q h cs sl nx L (.int v :: st)) : W κ n0 Q h cs sl pc L st := by
  obtain ⟨hd, rfl⟩ := hd
  obtain ⟨p, l, e, R', s, m, args, below, meth, c⟩ := κ
  obtain ⟨hx, hZ, hby, hml, hown, hret, hlk, hnm, rfl⟩ := C
  intro T locs X eT N h1 h2
  obtain ⟨s₂, o, a, r⟩ := k T locs X eT N h1 h2
  exact ⟨s₂, o, X.ldcwInt hx hown (mvT hZ w) (g := mkF m pc L.toArray st) rfl (hb hby hd) _ a, r⟩
theorem W.ldc2 {i : Nat} {v : Int64} (C : Good κ R Z own mnm bytes ml ret) (hd : Ins1 bytes pc (.ldc2_w i) 3 nx) (w : (Jvm.Cond.constantLong own i v).before a0 Z = true) (k : W κ n0 Q h cs sl nx L (.long v :: st)) : W κ n0 Q h cs sl pc L st := by
  obtain ⟨hd, rfl⟩ := hd
  obtain ⟨p, l, e, R', s, m, args, below, meth, c⟩ := κ
  obtain ⟨hx, hZ, hby, hml, hown, hret, hlk, hnm, rfl⟩ := C
  intro T locs X eT N h1 h2
  obtain ⟨s₂, o, a, r⟩ := k T locs X eT N h1 h2
  exact ⟨s₂, o, X.ldc2Long hx hown (mvT hZ w) (g := mkF m pc L.toArray st) rfl (hb hby hd) _ a, r⟩
/-! ### arrays -/
/-- at a lies an array of ty whose values are vs -/
def Av (Z : State) (h : Heap) (a : Addr) (ty : FieldType) (vs : List Value) : Prop := ∃ c : Cell, Arr Z h a c ty ∧ c.slots.toList = vs ∧ vs.length < 2147483648
theorem Av.lt {a : Addr} {ty : FieldType} {vs : List Value} (A : Av Z h a ty vs) : a < h.size := by obtain ⟨c, A, -⟩ := A; exact A.lt
theorem Av.ext {h' : Heap} {a : Addr} {ty : FieldType} {vs : List Value} (A : Av Z h a ty vs) (E : Ext h h') : Av Z h' a ty vs := by obtain ⟨c, A, r⟩ := A; exact ⟨c, A.ext E, r⟩
theorem Av.keep {h' : Heap} {ws : List Addr} {a : Addr} {ty : FieldType} {vs : List Value} (A : Av Z h a ty vs) (K : Keep h h' ws) (q : a ∉ ws) : Av Z h' a ty vs := by obtain ⟨c, A, r⟩ := A; exact ⟨c, ⟨K.2.1 a c A.1 q, A.2⟩, r⟩
theorem Av.other {h' : Heap} {a b : Addr} {sl : Nat} {v : Value} {ty : FieldType} {vs : List Value} (A : Av Z h b ty vs) (W : Wr h h' a sl v) (q : b ≠ a) : Av Z h' b ty vs := by obtain ⟨c, A, r⟩ := A; exact ⟨c, A.other W q, r⟩
theorem Av.set {h' : Heap} {a : Addr} {i : Nat} {v : Value} {ty : FieldType} {vs : List Value} (A : Av Z h a ty vs) (W : Wr h h' a i v) : Av Z h' a ty (vs.set i v) := by
  obtain ⟨c, A, rfl, r⟩ := A
  exact ⟨_, A.same W, by simp [Cell.setSlot], by simpa using r⟩
theorem Av.ne_exa {a b : Addr} {C' : String} {kk : Nat} {ty : FieldType} {vs : List Value} (A : Av Z h a ty vs) (E : Exa Z h b C') (wi : (Jvm.Cond.instantiable C' kk).before a0 Z = true) : a ≠ b := by obtain ⟨c, A, -⟩ := A; exact (ne_arr E wi A).symm
theorem clampNat {j : Int32} {i : Nat} (hj : j.toInt = i) : j.toNatClampNeg = i := by
  have e : j.toNatClampNeg = j.toInt.toNat := rfl
  omega
theorem inB {c : Cell} {vs : List Value} {j : Int32} {i : Nat} (e : c.slots.toList = vs) (hj : j.toInt = i) (hi : i < vs.length) : ¬ (j < 0 ∨ c.slots.size ≤ j.toNatClampNeg) := by
  have e1 := clampNat hj
  have e2 : c.slots.size = vs.length := by rw [← e]; simp
  rw [e1, e2, Int32.lt_iff_toInt_lt, hj, Int32.toInt_zero]
  omega
theorem inV {c : Cell} {vs : List Value} {j : Int32} {i : Nat} {v : Value} (e : c.slots.toList = vs) (hj : j.toInt = i) (hv : vs[i]? = some v) : c.slots[j.toNatClampNeg]? = some v := by
  rw [clampNat hj, ← hv, ← e]; simp
theorem ltOf {vs : List Value} {i : Nat} {v : Value} (hv : vs[i]? = some v) : i < vs.length := (List.getElem?_eq_some_iff.mp hv).1

theorem W.iaload {a : Addr} {vs : List Value} {j : Int32} {i : Nat} {v : Int32} (C : Good κ R Z own mnm bytes ml ret) (hd : Ins1 bytes pc .iaload 1 nx) (A : Av Z h a .int vs) (hj : j.toInt = i) (hv : vs[i]? = some (.int v)) (k : W κ n0 Q h cs sl nx L ((.int v) :: rest)) : W κ n0 Q h cs sl pc L (.int j :: .ref a :: rest) := by
  obtain ⟨hd, rfl⟩ := hd
  obtain ⟨p, l, e, R', s, m, args, below, meth, c⟩ := κ
  obtain ⟨hx, hZ, hby, hml, hown, hret, hlk, hnm, rfl⟩ := C
  intro T locs X eT N h1 h2
  obtain ⟨s₂, o, b, r⟩ := k T locs X eT N h1 h2
  obtain ⟨cl, Ar, q1, q2⟩ := A
  exact ⟨s₂, o, X.iaload hx (j := j) (by rw [eT]; exact Ar.1) (State.isArrayOf_alike hZ.alike Ar.2.1) Ar.2.2 (inB q1 hj (ltOf hv)) (inV q1 hj hv) (g := mkF m pc L.toArray (.int j :: .ref a :: rest)) rfl rfl (hb hby hd) _ b, r⟩
theorem W.baload {a : Addr} {vs : List Value} {j : Int32} {i : Nat} {v : Int32} (C : Good κ R Z own mnm bytes ml ret) (hd : Ins1 bytes pc .baload 1 nx) (A : Av Z h a .byte vs) (hj : j.toInt = i) (hv : vs[i]? = some (.int v)) (k : W κ n0 Q h cs sl nx L ((.int v) :: rest)) : W κ n0 Q h cs sl pc L (.int j :: .ref a :: rest) := by
  obtain ⟨hd, rfl⟩ := hd
  obtain ⟨p, l, e, R', s, m, args, below, meth, c⟩ := κ
  obtain ⟨hx, hZ, hby, hml, hown, hret, hlk, hnm, rfl⟩ := C
  intro T locs X eT N h1 h2
  obtain ⟨s₂, o, b, r⟩ := k T locs X eT N h1 h2
  obtain ⟨cl, Ar, q1, q2⟩ := A
  exact ⟨s₂, o, X.baloadBytes hx (j := j) (by rw [eT]; exact Ar.1) (State.isArrayOf_alike hZ.alike Ar.2.1) Ar.2.2 (inB q1 hj (ltOf hv)) (inV q1 hj hv) (g := mkF m pc L.toArray (.int j :: .ref a :: rest)) rfl rfl (hb hby hd) _ b, r⟩
theorem W.zaload {a : Addr} {vs : List Value} {j : Int32} {i : Nat} {v : Int32} (C : Good κ R Z own mnm bytes ml ret) (hd : Ins1 bytes pc .baload 1 nx) (A : Av Z h a .boolean vs) (hj : j.toInt = i) (hv : vs[i]? = some (.int v)) (k : W κ n0 Q h cs sl nx L ((.int v) :: rest)) : W κ n0 Q h cs sl pc L (.int j :: .ref a :: rest) := by
  obtain ⟨hd, rfl⟩ := hd
  obtain ⟨p, l, e, R', s, m, args, below, meth, c⟩ := κ
  obtain ⟨hx, hZ, hby, hml, hown, hret, hlk, hnm, rfl⟩ := C
  intro T locs X eT N h1 h2
  obtain ⟨s₂, o, b, r⟩ := k T locs X eT N h1 h2
  obtain ⟨cl, Ar, q1, q2⟩ := A
  exact ⟨s₂, o, X.baloadBooleans hx (j := j) (by rw [eT]; exact Ar.1) (State.isArrayOf_alike hZ.alike Ar.2.1) Ar.2.2 (inB q1 hj (ltOf hv)) (inV q1 hj hv) (g := mkF m pc L.toArray (.int j :: .ref a :: rest)) rfl rfl (hb hby hd) _ b, r⟩
theorem W.laload {a : Addr} {vs : List Value} {j : Int32} {i : Nat} {v : Int64} (C : Good κ R Z own mnm bytes ml ret) (hd : Ins1 bytes pc .laload 1 nx) (A : Av Z h a .long vs) (hj : j.toInt = i) (hv : vs[i]? = some (.long v)) (k : W κ n0 Q h cs sl nx L ((.long v) :: rest)) : W κ n0 Q h cs sl pc L (.int j :: .ref a :: rest) := by
  obtain ⟨hd, rfl⟩ := hd
  obtain ⟨p, l, e, R', s, m, args, below, meth, c⟩ := κ
  obtain ⟨hx, hZ, hby, hml, hown, hret, hlk, hnm, rfl⟩ := C
  intro T locs X eT N h1 h2
  obtain ⟨s₂, o, b, r⟩ := k T locs X eT N h1 h2
  obtain ⟨cl, Ar, q1, q2⟩ := A
  exact ⟨s₂, o, X.laload hx (j := j) (by rw [eT]; exact Ar.1) (State.isArrayOf_alike hZ.alike Ar.2.1) Ar.2.2 (inB q1 hj (ltOf hv)) (inV q1 hj hv) (g := mkF m pc L.toArray (.int j :: .ref a :: rest)) rfl rfl (hb hby hd) _ b, r⟩
theorem W.caload {a : Addr} {vs : List Value} {j : Int32} {i : Nat} {v : Int32} (C : Good κ R Z own mnm bytes ml ret) (hd : Ins1 bytes pc .caload 1 nx) (A : Av Z h a .char vs) (hj : j.toInt = i) (hv : vs[i]? = some (.int v)) (k : W κ n0 Q h cs sl nx L ((.int v) :: rest)) : W κ n0 Q h cs sl pc L (.int j :: .ref a :: rest) := by
  obtain ⟨hd, rfl⟩ := hd
  obtain ⟨p, l, e, R', s, m, args, below, meth, c⟩ := κ
  obtain ⟨hx, hZ, hby, hml, hown, hret, hlk, hnm, rfl⟩ := C
  intro T locs X eT N h1 h2
  obtain ⟨s₂, o, b, r⟩ := k T locs X eT N h1 h2
  obtain ⟨cl, Ar, q1, q2⟩ := A
  exact ⟨s₂, o, X.caload hx (j := j) (by rw [eT]; exact Ar.1) (State.isArrayOf_alike hZ.alike Ar.2.1) Ar.2.2 (inB q1 hj (ltOf hv)) (inV q1 hj hv) (g := mkF m pc L.toArray (.int j :: .ref a :: rest)) rfl rfl (hb hby hd) _ b, r⟩
theorem W.aaload {a : Addr} {ty : FieldType} {vs : List Value} {j : Int32} {i : Nat} {v : Value} (C : Good κ R Z own mnm bytes ml ret) (hd : Ins1 bytes pc .aaload 1 nx) (A : Av Z h a ty vs) (hty : ty.isReference = true) (hj : j.toInt = i) (hv : vs[i]? = some v) (k : W κ n0 Q h cs sl nx L (v :: rest)) : W κ n0 Q h cs sl pc L (.int j :: .ref a :: rest) := by
  obtain ⟨hd, rfl⟩ := hd
  obtain ⟨p, l, e, R', s, m, args, below, meth, c⟩ := κ
  obtain ⟨hx, hZ, hby, hml, hown, hret, hlk, hnm, rfl⟩ := C
  intro T locs X eT N h1 h2
  obtain ⟨s₂, o, b, r⟩ := k T locs X eT N h1 h2
  obtain ⟨cl, Ar, q1, q2⟩ := A
  exact ⟨s₂, o, X.aaload hx (j := j) (by rw [eT]; exact Ar.1) (State.isArrayOf_alike hZ.alike Ar.2.1) hty Ar.2.2 (inB q1 hj (ltOf hv)) (inV q1 hj hv) (g := mkF m pc L.toArray (.int j :: .ref a :: rest)) rfl rfl (hb hby hd) _ b, r⟩
theorem W.arraylength {a : Addr} {ty : FieldType} {vs : List Value} {z : Int32} (C : Good κ R Z own mnm bytes ml ret) (hd : Ins1 bytes pc .arraylength 1 nx) (A : Av Z h a ty vs) (hz : z.toInt = vs.length) (k : W κ n0 Q h cs sl nx L (.int z :: rest)) : W κ n0 Q h cs sl pc L (.ref a :: rest) := by
  obtain ⟨hd, rfl⟩ := hd
  obtain ⟨p, l, e, R', s, m, args, below, meth, c⟩ := κ
  obtain ⟨hx, hZ, hby, hml, hown, hret, hlk, hnm, rfl⟩ := C
  intro T locs X eT N h1 h2
  obtain ⟨s₂, o, b, r⟩ := k T locs X eT N h1 h2
  obtain ⟨cl, Ar, q1, q2⟩ := A
  have e2 : cl.slots.size = vs.length := by rw [← q1]; simp
  have e3 : cl.slots.size.toInt32 = z := Int32.toInt_inj.mp (by rw [hz, e2]; exact Int32.toInt_ofNat_of_lt q2)
  refine ⟨s₂, o, X.arraylength hx (by rw [eT]; exact Ar.1) (State.isArrayOf_alike hZ.alike Ar.2.1) (g := mkF m pc L.toArray (.ref a :: rest)) rfl rfl (hb hby hd) _ ?_, r⟩
  rw [e3]; exact b
theorem W.iastore {a : Addr} {vs : List Value} {j : Int32} {i : Nat} {x : Int32} (C : Good κ R Z own mnm bytes ml ret) (hd : Ins1 bytes pc .iastore 1 nx) (A : Av Z h a .int vs) (hj : j.toInt = i) (hi : i < vs.length) (hn : n0 ≤ a) (k : ∀ h', Wr h h' a i (.int x) → Av Z h' a .int (vs.set i (.int x)) → W κ n0 Q h' cs sl nx L rest) : W κ n0 Q h cs sl pc L ((.int x) :: .int j :: .ref a :: rest) := by
  obtain ⟨hd, rfl⟩ := hd
  obtain ⟨p, l, e, R', s, m, args, below, meth, c⟩ := κ
  obtain ⟨hx, hZ, hby, hml, hown, hret, hlk, hnm, rfl⟩ := C
  intro T locs X eT N h1 h2
  have A' := A
  obtain ⟨cl, Ar, q1, q2⟩ := A'
  obtain ⟨T', h', X', e', W', st'⟩ := stI X hx hZ eT Ar (j := j) (inB q1 hj hi) (g := mkF m pc L.toArray ((.int x) :: .int j :: .ref a :: rest)) rfl rfl (hb hby hd)
  have N' := Fr.snoc X' N hn
  rw [clampNat hj] at W'
  obtain ⟨s₂, o, b, r⟩ := k h' W' (A.set W') T' _ X' e' N' h1 h2
  exact ⟨s₂, o, st' _ b, r⟩
theorem W.bastore {a : Addr} {vs : List Value} {j : Int32} {i : Nat} {x : Int32} (C : Good κ R Z own mnm bytes ml ret) (hd : Ins1 bytes pc .bastore 1 nx) (A : Av Z h a .byte vs) (hj : j.toInt = i) (hi : i < vs.length) (hn : n0 ≤ a) (k : ∀ h', Wr h h' a i (.int x.toInt8.toInt32) → Av Z h' a .byte (vs.set i (.int x.toInt8.toInt32)) → W κ n0 Q h' cs sl nx L rest) : W κ n0 Q h cs sl pc L ((.int x) :: .int j :: .ref a :: rest) := by
  obtain ⟨hd, rfl⟩ := hd
  obtain ⟨p, l, e, R', s, m, args, below, meth, c⟩ := κ
  obtain ⟨hx, hZ, hby, hml, hown, hret, hlk, hnm, rfl⟩ := C
  intro T locs X eT N h1 h2
  have A' := A
  obtain ⟨cl, Ar, q1, q2⟩ := A'
  obtain ⟨T', h', X', e', W', st'⟩ := stB X hx hZ eT Ar (j := j) (inB q1 hj hi) (g := mkF m pc L.toArray ((.int x) :: .int j :: .ref a :: rest)) rfl rfl (hb hby hd)
  have N' := Fr.snoc X' N hn
  rw [clampNat hj] at W'
  obtain ⟨s₂, o, b, r⟩ := k h' W' (A.set W') T' _ X' e' N' h1 h2
  exact ⟨s₂, o, st' _ b, r⟩
theorem W.zastore {a : Addr} {vs : List Value} {j : Int32} {i : Nat} {x : Int32} (C : Good κ R Z own mnm bytes ml ret) (hd : Ins1 bytes pc .bastore 1 nx) (A : Av Z h a .boolean vs) (hj : j.toInt = i) (hi : i < vs.length) (hn : n0 ≤ a) (k : ∀ h', Wr h h' a i (.int (x &&& 1)) → Av Z h' a .boolean (vs.set i (.int (x &&& 1))) → W κ n0 Q h' cs sl nx L rest) : W κ n0 Q h cs sl pc L ((.int x) :: .int j :: .ref a :: rest) := by
  obtain ⟨hd, rfl⟩ := hd
  obtain ⟨p, l, e, R', s, m, args, below, meth, c⟩ := κ
  obtain ⟨hx, hZ, hby, hml, hown, hret, hlk, hnm, rfl⟩ := C
  intro T locs X eT N h1 h2
  have A' := A
  obtain ⟨cl, Ar, q1, q2⟩ := A'
  obtain ⟨T', h', X', e', W', st'⟩ := stZ X hx hZ eT Ar (j := j) (inB q1 hj hi) (g := mkF m pc L.toArray ((.int x) :: .int j :: .ref a :: rest)) rfl rfl (hb hby hd)
  have N' := Fr.snoc X' N hn
  rw [clampNat hj] at W'
  obtain ⟨s₂, o, b, r⟩ := k h' W' (A.set W') T' _ X' e' N' h1 h2
  exact ⟨s₂, o, st' _ b, r⟩
theorem W.lastore {a : Addr} {vs : List Value} {j : Int32} {i : Nat} {x : Int64} (C : Good κ R Z own mnm bytes ml ret) (hd : Ins1 bytes pc .lastore 1 nx) (A : Av Z h a .long vs) (hj : j.toInt = i) (hi : i < vs.length) (hn : n0 ≤ a) (k : ∀ h', Wr h h' a i (.long x) → Av Z h' a .long (vs.set i (.long x)) → W κ n0 Q h' cs sl nx L rest) : W κ n0 Q h cs sl pc L ((.long x) :: .int j :: .ref a :: rest) := by
  obtain ⟨hd, rfl⟩ := hd
  obtain ⟨p, l, e, R', s, m, args, below, meth, c⟩ := κ
  obtain ⟨hx, hZ, hby, hml, hown, hret, hlk, hnm, rfl⟩ := C
  intro T locs X eT N h1 h2
  have A' := A
  obtain ⟨cl, Ar, q1, q2⟩ := A'
  obtain ⟨T', h', X', e', W', st'⟩ := stJ X hx hZ eT Ar (j := j) (inB q1 hj hi) (g := mkF m pc L.toArray ((.long x) :: .int j :: .ref a :: rest)) rfl rfl (hb hby hd)
  have N' := Fr.snoc X' N hn
  rw [clampNat hj] at W'
  obtain ⟨s₂, o, b, r⟩ := k h' W' (A.set W') T' _ X' e' N' h1 h2
  exact ⟨s₂, o, st' _ b, r⟩
theorem W.castore {a : Addr} {vs : List Value} {j : Int32} {i : Nat} {x : Int32} (C : Good κ R Z own mnm bytes ml ret) (hd : Ins1 bytes pc .castore 1 nx) (A : Av Z h a .char vs) (hj : j.toInt = i) (hi : i < vs.length) (hn : n0 ≤ a) (k : ∀ h', Wr h h' a i (.int (nar .char x)) → Av Z h' a .char (vs.set i (.int (nar .char x))) → W κ n0 Q h' cs sl nx L rest) : W κ n0 Q h cs sl pc L ((.int x) :: .int j :: .ref a :: rest) := by
  obtain ⟨hd, rfl⟩ := hd
  obtain ⟨p, l, e, R', s, m, args, below, meth, c⟩ := κ
  obtain ⟨hx, hZ, hby, hml, hown, hret, hlk, hnm, rfl⟩ := C
  intro T locs X eT N h1 h2
  have A' := A
  obtain ⟨cl, Ar, q1, q2⟩ := A'
  obtain ⟨T', h', X', e', W', st'⟩ := stC X hx hZ eT Ar (j := j) (inB q1 hj hi) (g := mkF m pc L.toArray ((.int x) :: .int j :: .ref a :: rest)) rfl rfl (hb hby hd)
  have N' := Fr.snoc X' N hn
  rw [clampNat hj] at W'
  obtain ⟨s₂, o, b, r⟩ := k h' W' (A.set W') T' _ X' e' N' h1 h2
  exact ⟨s₂, o, st' _ b, r⟩
theorem Av.of_new {h' : Heap} {a : Addr} {cA : ClassId} {ty : FieldType} {n : Int32} (A : Arr Z h' a (newA cA ty n) ty) : Av Z h' a ty (List.replicate n.toNatClampNeg (defaultValue ty)) := by
  refine ⟨_, A, by simp [newA], ?_⟩
  have e : n.toNatClampNeg = n.toInt.toNat := rfl
  have := Int32.toInt_lt n
  rw [List.length_replicate]; omega
theorem W.newarray {aty : ArrayType} {ty : FieldType} {n : Int32} {vs : List Value} (cap : Nat) (C : Good κ R Z own mnm bytes ml ret) (hd : Ins1 bytes pc (.newarray aty) 2 nx) (hty : newarray.typeOf aty = ty) (w : (Jvm.Cond.arrayClass ty).before a0 Z = true) (hn : 0 ≤ n.toInt) (hcap : n.toInt ≤ cap) (hvs : List.replicate n.toNatClampNeg (defaultValue ty) = vs) (hb8 : cap * 8 ≤ 536870912) (hc : cs + 1 ≤ R.cells) (hl : sl + cap ≤ R.slots) (k : ∀ h' a, h.size = a → Ext h h' → Av Z h' a ty vs → W κ n0 Q h' (cs + 1) (sl + cap) nx L (.ref a :: rest)) : W κ n0 Q h cs sl pc L (.int n :: rest) := by
  subst hty
  obtain ⟨hd, rfl⟩ := hd
  obtain ⟨p, l, e, R', s, m, args, below, meth, c⟩ := κ
  obtain ⟨hx, hZ, hby, hml, hown, hret, hlk, hnm, rfl⟩ := C
  intro T locs X eT N h1 h2
  have hn' : ¬ n < 0 := by rw [Int32.lt_iff_toInt_lt, Int32.toInt_zero]; omega
  have hc' : n.toNatClampNeg ≤ cap := by have e : n.toNatClampNeg = n.toInt.toNat := rfl; omega
  obtain ⟨T', h', cA, X', e', E', A', st'⟩ := newP X hx hZ w eT (g := mkF m pc L.toArray (.int n :: rest)) rfl (hb hby hd) rfl hn' (cap := cap) hc' hb8 hc hl
  obtain ⟨s₂, o, b, r⟩ := k h' _ rfl E' (hvs ▸ Av.of_new A') T' _ X' e' N hc hl
  exact ⟨s₂, o, st' _ b, r⟩
/-! ### objects -/
theorem W.new {i : Nat} {C' : String} {nf : Nat} (C : Good κ R Z own mnm bytes ml ret) (hd : Ins1 bytes pc (.new i) 3 nx) (w1 : (Jvm.Cond.classLink own i C').before a0 Z = true) (w2 : (Jvm.Cond.instantiable C' nf).before a0 Z = true) (w3 : (Jvm.Cond.initialized C').before a0 Z = true) (hc : cs + 1 ≤ R.cells) (hl : sl + nf ≤ R.slots)
    (k : ∀ h' a, h.size = a → Ext h h' → Exa Z h' a C' → (∀ {O nm d : String} {ty : FieldType}, Laid Z a0 C' O nm d → parseFieldDescriptor d = some ty → Fld Z h' a O nm d (defaultValue ty)) → W κ n0 Q h' (cs + 1) (sl + nf) nx L (.ref a :: st)) : W κ n0 Q h cs sl pc L st := by
  obtain ⟨hd, rfl⟩ := hd
  obtain ⟨p, l, e, R', s, m, args, below, meth, c⟩ := κ
  obtain ⟨hx, hZ, hby, hml, hown, hret, hlk, hnm, rfl⟩ := C
  intro T locs X eT N h1 h2
  obtain ⟨T', h', X', e', E', A', D', -, st'⟩ := newO X hx hZ hown w1 w2 w3 eT (g := mkF m pc L.toArray st) rfl (hb hby hd) hc hl
  obtain ⟨s₂, o, b, r⟩ := k h' _ rfl E' A' D' T' _ X' e' N hc hl
  exact ⟨s₂, o, st' _ b, r⟩
theorem W.getfield {i : Nat} {R0 O nm d host : String} {a : Addr} {v : Value} (C : Good κ R Z own mnm bytes ml ret) (hd : Ins1 bytes pc (.getfield i) 3 nx) (w : (Jvm.Cond.fieldLink own i R0 nm d).before a0 Z = true ∨ (Jvm.Cond.fieldLinkNest own i R0 nm d host).before a0 Z = true) (via : Via Z R0 O nm d) (F : Fld Z h a O nm d v) (k : W κ n0 Q h cs sl nx L (v :: rest)) : W κ n0 Q h cs sl pc L (.ref a :: rest) := by
  obtain ⟨hd, rfl⟩ := hd
  obtain ⟨p, l, e, R', s, m, args, below, meth, c⟩ := κ
  obtain ⟨hx, hZ, hby, hml, hown, hret, hlk, hnm, rfl⟩ := C
  intro T locs X eT N h1 h2
  obtain ⟨T', X', e', st'⟩ := getF X hx hZ hown w via eT F (g := mkF m pc L.toArray (.ref a :: rest)) rfl rfl (hb hby hd)
  obtain ⟨s₂, o, b, r⟩ := k T' _ X' e' N h1 h2
  exact ⟨s₂, o, st' _ b, r⟩
theorem W.getstatic {i : Nat} {R0 O nm d host : String} {v : Value} (C : Good κ R Z own mnm bytes ml ret) (hd : Ins1 bytes pc (.getstatic i) 3 nx) (w : (Jvm.Cond.fieldLink own i R0 nm d).before a0 Z = true ∨ (Jvm.Cond.fieldLinkNest own i R0 nm d host).before a0 Z = true) (via : Via Z R0 O nm d) (F : Sta Z h O nm d v) (k : W κ n0 Q h cs sl nx L (v :: st)) : W κ n0 Q h cs sl pc L st := by
  obtain ⟨hd, rfl⟩ := hd
  obtain ⟨p, l, e, R', s, m, args, below, meth, c⟩ := κ
  obtain ⟨hx, hZ, hby, hml, hown, hret, hlk, hnm, rfl⟩ := C
  intro T locs X eT N h1 h2
  obtain ⟨T', X', e', st'⟩ := getS2 X hx hZ hown w via eT F (g := mkF m pc L.toArray st) rfl (hb hby hd)
  obtain ⟨s₂, o, b, r⟩ := k T' _ X' e' N h1 h2
  exact ⟨s₂, o, st' _ b, r⟩
theorem W.putfield {i kk : Nat} {R0 O nm d host C' : String} {ty : FieldType} {a : Addr} {v old : Value} (C : Good κ R Z own mnm bytes ml ret) (hd : Ins1 bytes pc (.putfield i) 3 nx) (w : (Jvm.Cond.fieldLink own i R0 nm d).before a0 Z = true ∨ (Jvm.Cond.fieldLinkNest own i R0 nm d host).before a0 Z = true) (via : Via Z R0 O nm d) (F : Fld Z h a O nm d old) (E : Exa Z h a C')
    (Ly : (Jvm.Cond.lays C' O nm d).before a0 Z = true ∨ ((Jvm.Cond.laysFinal C' O nm d).before a0 Z = true ∧ own = O ∧ mnm = "<init>")) (wi : (Jvm.Cond.instantiable C' kk).before a0 Z = true) (hty : parseFieldDescriptor d = some ty) (hnw : narrow ty v = v) (hf : fits ty v = true) (hn : n0 ≤ a)
    (k : ∀ h', Wr h h' a (Jvm.RoadKit.slotOf Z O nm d) v → Fld Z h' a O nm d v → W κ n0 Q h' cs sl nx L rest) : W κ n0 Q h cs sl pc L (v :: .ref a :: rest) := by
  obtain ⟨hd, rfl⟩ := hd
  obtain ⟨p, l, e, R', s, m, args, below, meth, c⟩ := κ
  obtain ⟨hx, hZ, hby, hml, hown, hret, hlk, hnm, rfl⟩ := C
  intro T locs X eT N h1 h2
  obtain ⟨T', h', X', e', W', st'⟩ := putF X hx hZ hown w via eT F E (Ly.imp id fun q => ⟨q.1, q.2.1, hnm.trans q.2.2⟩) wi hty hnw hf (g := mkF m pc L.toArray (v :: .ref a :: rest)) rfl rfl (hb hby hd)
  have N' := Fr.snoc X' N hn
  obtain ⟨s₂, o, b, r⟩ := k h' W' (F.same W') T' _ X' e' N' h1 h2
  exact ⟨s₂, o, st' _ b, r⟩
theorem W.putfieldN {i kk : Nat} {R0 O nm d C' : String} {ty : FieldType} {a : Addr} {v v' old : Value} (C : Good κ R Z own mnm bytes ml ret) (hd : Ins1 bytes pc (.putfield i) 3 nx) (w : (Jvm.Cond.fieldLink own i R0 nm d).before a0 Z = true) (via : Via Z R0 O nm d) (F : Fld Z h a O nm d old) (E : Exa Z h a C')
    (Ly : (Jvm.Cond.lays C' O nm d).before a0 Z = true ∨ ((Jvm.Cond.laysFinal C' O nm d).before a0 Z = true ∧ own = O ∧ mnm = "<init>")) (wi : (Jvm.Cond.instantiable C' kk).before a0 Z = true) (hty : parseFieldDescriptor d = some ty) (hnw : narrow ty v = v') (hf : fits ty v' = true) (hn : n0 ≤ a)
    (k : ∀ h', Wr h h' a (Jvm.RoadKit.slotOf Z O nm d) v' → Fld Z h' a O nm d v' → W κ n0 Q h' cs sl nx L rest) : W κ n0 Q h cs sl pc L (v :: .ref a :: rest) := by
  obtain ⟨hd, rfl⟩ := hd
  obtain ⟨p, l, e, R', s, m, args, below, meth, c⟩ := κ
  obtain ⟨hx, hZ, hby, hml, hown, hret, hlk, hnm, rfl⟩ := C
  intro T locs X eT N h1 h2
  obtain ⟨T', h', X', e', W', st'⟩ := putFN X hx hZ hown w via eT F E (Ly.imp id fun q => ⟨q.1, q.2.1, hnm.trans q.2.2⟩) wi hty hnw hf (g := mkF m pc L.toArray (v :: .ref a :: rest)) rfl rfl (hb hby hd)
  have N' := Fr.snoc X' N hn
  obtain ⟨s₂, o, b, r⟩ := k h' W' (F.same W') T' _ X' e' N' h1 h2
  exact ⟨s₂, o, st' _ b, r⟩
/-! ### returns -/
theorem W.ireturn {z : Int32} (C : Good κ R Z own mnm bytes ml (some .int)) (hd : Ins1 bytes pc .ireturn 1 nx) (hq : Q (some (.int z)) h) : W κ n0 Q h cs sl pc L (.int z :: rest) := by
  obtain ⟨p, l, e, R', s, m, args, below, meth, c⟩ := κ
  obtain ⟨hx, hZ, hby, hml, hown, hret, hlk, hnm, rfl⟩ := C
  intro T locs X eT N h1 h2
  obtain ⟨fs, hr, hrun, hended, hW, hsame⟩ := X.leave (v := some (.int z)) (fun h => by rw [hret] at h; cases h) hlk
  refine ⟨_, _, retOut X hx hret rfl (Or.inl ⟨rfl, Or.inl rfl, z, rfl⟩) (hb hby hd.1) hr, hrun, hended, _, _, rfl, ⟨?_, N⟩, ⟨_, rfl⟩, hW, hsame.mono h1 h2⟩
  show Q _ T.heap
  rw [eT]; exact hq
theorem W.nreturn {t : FieldType} {z : Int32} (C : Good κ R Z own mnm bytes ml (some t)) (ht : t = .boolean ∨ t = .byte ∨ t = .char ∨ t = .short) (hd : Ins1 bytes pc .ireturn 1 nx) (hq : Q (some (.int (nar t z))) h) : W κ n0 Q h cs sl pc L (.int z :: rest) := by
  obtain ⟨p, l, e, R', s, m, args, below, meth, c⟩ := κ
  obtain ⟨hx, hZ, hby, hml, hown, hret, hlk, hnm, rfl⟩ := C
  intro T locs X eT N h1 h2
  obtain ⟨fs, hr, hrun, hended, hW, hsame⟩ := X.leave (v := some (.int (nar t z))) (fun h => by rw [hret] at h; cases h) hlk
  refine ⟨_, _, retN X hx hret ht (hb hby hd.1) hr, hrun, hended, _, _, rfl, ⟨?_, N⟩, ⟨_, rfl⟩, hW, hsame.mono h1 h2⟩
  show Q _ T.heap
  rw [eT]; exact hq
theorem W.zreturn {z : Int32} (C : Good κ R Z own mnm bytes ml (some .boolean)) (hd : Ins1 bytes pc .ireturn 1 nx) (hq : Q (some (.int (z &&& 1))) h) : W κ n0 Q h cs sl pc L (.int z :: rest) := W.nreturn C (Or.inl rfl) hd hq
theorem W.lreturn {z : Int64} (C : Good κ R Z own mnm bytes ml (some .long)) (hd : Ins1 bytes pc .lreturn 1 nx) (hq : Q (some (.long z)) h) : W κ n0 Q h cs sl pc L (.long z :: rest) := by
  obtain ⟨p, l, e, R', s, m, args, below, meth, c⟩ := κ
  obtain ⟨hx, hZ, hby, hml, hown, hret, hlk, hnm, rfl⟩ := C
  intro T locs X eT N h1 h2
  obtain ⟨fs, hr, hrun, hended, hW, hsame⟩ := X.leave (v := some (.long z)) (fun h => by rw [hret] at h; cases h) hlk
  refine ⟨_, _, retOut X hx hret rfl (Or.inr (Or.inl ⟨rfl, rfl, z, rfl⟩)) (hb hby hd.1) hr, hrun, hended, _, _, rfl, ⟨?_, N⟩, ⟨_, rfl⟩, hW, hsame.mono h1 h2⟩
  show Q _ T.heap
  rw [eT]; exact hq
theorem W.areturn {t : FieldType} {v : Value} (C : Good κ R Z own mnm bytes ml (some t)) (ht : t.isReference = true) (hv : v.isRef = true) (hd : Ins1 bytes pc .areturn 1 nx) (hq : Q (some v) h) : W κ n0 Q h cs sl pc L (v :: rest) := by
  obtain ⟨p, l, e, R', s, m, args, below, meth, c⟩ := κ
  obtain ⟨hx, hZ, hby, hml, hown, hret, hlk, hnm, rfl⟩ := C
  intro T locs X eT N h1 h2
  obtain ⟨fs, hr, hrun, hended, hW, hsame⟩ := X.leave (v := some v) (fun h => by rw [hret] at h; cases h) hlk
  have hnw : narrow t v = v := by cases t <;> first | (cases ht; done) | (cases v <;> first | rfl | (cases hv; done))
  refine ⟨_, _, retOut X hx hret hnw (Or.inr (Or.inr (Or.inr (Or.inr ⟨rfl, ht, hv⟩)))) (hb hby hd.1) hr, hrun, hended, _, _, rfl, ⟨?_, N⟩, ⟨_, rfl⟩, hW, hsame.mono h1 h2⟩
  show Q _ T.heap
  rw [eT]; exact hq
theorem W.vreturn (C : Good κ R Z own mnm bytes ml none) (hd : Ins1 bytes pc .return_ 1 nx) (hq : Q none h) : W κ n0 Q h cs sl pc L [] := by
  obtain ⟨p, l, e, R', s, m, args, below, meth, c⟩ := κ
  obtain ⟨hx, hZ, hby, hml, hown, hret, hlk, hnm, rfl⟩ := C
  intro T locs X eT N h1 h2
  obtain ⟨fs, hr, hrun, hended, hW, hsame⟩ := X.leave (v := none) (fun _ => rfl) hlk
  refine ⟨_, _, X.returnOut hx hret (hb hby hd.1) hr, hrun, hended, _, _, rfl, ⟨?_, N⟩, ⟨_, rfl⟩, hW, hsame.mono h1 h2⟩
  show Q _ T.heap
  rw [eT]; exact hq
/-! ### calls -/
theorem Con.of {y : MethodName} {cb : ByteArray} {cml : Nat} {cret : Option FieldType} {rm : Room} {as' : List Value} {h0 : Heap} {L : List Slot} (hy : plainFor y = true) (hef : ∀ m, entryFrame m as'.toArray cml = mkF m 0 L.toArray []) (k : ∀ κ (Qx : Option Value → Heap → Prop), (∀ v h', Q v h' → Qx v h') → Good κ rm Z y.cls y.name cb cml cret → W κ n0 Qx h0 0 0 0 L []) : Con Z y cb cml cret rm as' h0 n0 Q := by
  intro l ws
  refine MetFree.of_bodySF hy hisR ?_
  intro p e s m args below meth c s₁ Bd hml0 hP hK
  obtain ⟨rfl, hZ, hh⟩ := hP
  have X0 : Stand p l e rm s m as'.toArray below meth c s₁ [] 0 0 := Stand.of_body Bd
  have e0 : s₁.heap = h0 := by rw [← hh, Bd.state]; rfl
  rw [hef m]
  exact k (p, l, e, rm, s, m, as'.toArray, below, meth, c) Q (fun _ _ q => q) ⟨Bd.exec, hZ, Bd.bytes, hml0, findClass_of_methodNamed Bd.named, Bd.returns, BodyLoose.notSynchronized Bd, (name_of_methodNamed Bd.named Bd.method).1, rfl⟩ s₁ [] X0 e0 (Fr.nil n0) (Nat.zero_le _) (Nat.zero_le _)
theorem Con.post {y : MethodName} {cb : ByteArray} {cml : Nat} {cret : Option FieldType} {rm : Room} {as' : List Value} {h0 : Heap} {Q' : Option Value → Heap → Prop} (hq : ∀ v h, Q v h → Q' v h) (k : Con Z y cb cml cret rm as' h0 n0 Q) : Con Z y cb cml cret rm as' h0 n0 Q' := by
  intro l ws p e h1 h2 h3 s m args below h4 h5 h6 h7
  obtain ⟨n, o, g1, g2, g3, v, L, e1, ⟨e2, e3⟩, e4⟩ := k l ws p e h1 h2 h3 s m args below h4 h5 h6 h7
  exact ⟨n, o, g1, g2, g3, v, L, e1, ⟨hq _ _ e2, e3⟩, e4⟩
theorem W.callS {i : Nat} {y : MethodName} {cb : ByteArray} {cml wt : Nat} {cret : Option FieldType} {rm : Room} {as' : List Value} {Qc : Option Value → Heap → Prop} {ps : List FieldType} {rt : Option FieldType} (C : Good κ R Z own mnm bytes ml ret) (hd : Ins1 bytes pc (.invokestatic i) 3 nx)
    (w1 : (Jvm.Cond.methodLink own i y).before a0 Z = true) (w2 : (Jvm.Cond.static y).before a0 Z = true) (w3 : (Jvm.Cond.initialized y.cls).before a0 Z = true) (w4 : (Jvm.Cond.code y cb cml cret).before a0 Z = true) (hy : y.cls ≠ "java/lang/invoke/MethodHandle" ∧ y.cls ≠ "java/lang/invoke/VarHandle")
    (hpd : parseMethodDescriptor y.desc = some ⟨ps, rt⟩) (hlen : as'.length = ps.length) (hM : Con Z y cb cml cret rm as' h n0 Qc) (hst : st = as'.reverse ++ rest) (hL : L.length = ml) (hwt : 2 * 0 + (rest.map fun v => v.category).sum ≤ wt)
    (hfr : rm.frames + 1 ≤ R.frames) (hlo : wt + (cml + 11) + rm.locals ≤ R.locals) (hcs : cs + rm.cells ≤ R.cells) (hsl : sl + rm.slots ≤ R.slots)
    (k : ∀ v h', Qc v h' → W κ n0 Q h' (cs + rm.cells) (sl + rm.slots) nx L (v.toList ++ rest)) : W κ n0 Q h cs sl pc L st := by
  obtain ⟨hd, rfl⟩ := hd
  obtain ⟨p, l, e, R', s, m, args, below, meth, c⟩ := κ
  obtain ⟨hx, hZ, hby, hml, hown, hret, hlk, hnm, rfl⟩ := C
  intro T locs X eT N h1 h2
  obtain ⟨v, _, ⟨T2, L2, k2, n2⟩, -, X2, ⟨Lc, hQ, l2, y2, z2⟩, st2⟩ := Jvm.LawKit.callS X hx (y := y) hown (mvT hZ w1) (mvT hZ w2) (mvT hZ w3) (mvT hZ w4) hy (backOf (W := wt) (Q := fun v h L => Qc v h ∧ Fr n0 L) (hM l []) hZ w4 w3 hfr hlo) (g := mkF m pc L.toArray st) rfl (by show L.toArray.size = _; rw [hml, ← hL]; simp) (argsL := as') (rest := rest) (lenOf hpd hlen) hst hwt (hb hby hd) (fun _ _ => ⟨rfl, eT, hcs, hsl⟩)
  dsimp only [Pt.U, Pt.locs, Pt.cells, Pt.slots] at X2 l2 y2 z2 st2 hQ
  subst l2 y2 z2
  obtain ⟨s₂, o, b, r⟩ := k v T2.heap hQ.1 T2 _ X2 rfl (Fr.app N hQ.2) hcs hsl
  exact ⟨s₂, o, st2 _ b, r⟩
theorem W.callC {i : Nat} {y : MethodName} {cb : ByteArray} {cml wt : Nat} {rm : Room} {a : Addr} {as' : List Value} {Qc : Option Value → Heap → Prop} {ps : List FieldType} {rt : Option FieldType} (C : Good κ R Z own mnm bytes ml ret) (hd : Ins1 bytes pc (.invokespecial i) 3 nx) (hy1 : y.name = "<init>")
    (w1 : (Jvm.Cond.methodLink own i y).before a0 Z = true) (w2 : (Jvm.Cond.instanceMethod y).before a0 Z = true) (w3 : (Jvm.Cond.initialized y.cls).before a0 Z = true) (w4 : (Jvm.Cond.code y cb cml none).before a0 Z = true) (hy : y.cls ≠ "java/lang/invoke/MethodHandle" ∧ y.cls ≠ "java/lang/invoke/VarHandle")
    (hpd : parseMethodDescriptor y.desc = some ⟨ps, rt⟩) (hlen : as'.length = ps.length) (hM : Con Z y cb cml none rm (.ref a :: as') h n0 Qc) (hst : st = as'.reverse ++ .ref a :: rest) (hL : L.length = ml) (hwt : 2 * 0 + (rest.map fun v => v.category).sum ≤ wt)
    (hfr : rm.frames + 1 ≤ R.frames) (hlo : wt + (cml + 11) + rm.locals ≤ R.locals) (hcs : cs + rm.cells ≤ R.cells) (hsl : sl + rm.slots ≤ R.slots)
    (k : ∀ v h', Qc v h' → W κ n0 Q h' (cs + rm.cells) (sl + rm.slots) nx L (v.toList ++ rest)) : W κ n0 Q h cs sl pc L st := by
  obtain ⟨hd, rfl⟩ := hd
  obtain ⟨p, l, e, R', s, m, args, below, meth, c⟩ := κ
  obtain ⟨hx, hZ, hby, hml, hown, hret, hlk, hnm, rfl⟩ := C
  intro T locs X eT N h1 h2
  obtain ⟨v, _, ⟨T2, L2, k2, n2⟩, -, X2, ⟨Lc, hQ, l2, y2, z2⟩, st2⟩ := X.specialBack hx (y := y) hy1 hown (mvT hZ w1) (mvT hZ w2) (mvT hZ w4) hy (backOf (W := wt) (Q := fun v h L => Qc v h ∧ Fr n0 L) (hM l []) hZ w4 w3 hfr hlo) (g := mkF m pc L.toArray st) rfl (by show L.toArray.size = _; rw [hml, ← hL]; simp) (Steps.refl _) (a := a) (argsL := as') (rest := rest) (lenOf hpd hlen) hst hwt (hb hby hd) (fun _ _ => ⟨rfl, eT, hcs, hsl⟩)
  dsimp only [Pt.U, Pt.locs, Pt.cells, Pt.slots] at X2 l2 y2 z2 st2 hQ
  subst l2 y2 z2
  obtain ⟨s₂, o, b, r⟩ := k v T2.heap hQ.1 T2 _ X2 rfl (Fr.app N hQ.2) hcs hsl
  exact ⟨s₂, o, st2.trans b, r⟩
theorem W.callV {i : Nat} {C' : String} {y : MethodName} {cb : ByteArray} {cml wt : Nat} {cret : Option FieldType} {rm : Room} {a : Addr} {as' : List Value} {Qc : Option Value → Heap → Prop} {ps : List FieldType} {rt : Option FieldType} (C : Good κ R Z own mnm bytes ml ret) (hd : Ins1 bytes pc (.invokevirtual i) 3 nx)
    (w1 : (Jvm.Cond.methodLink own i y).before a0 Z = true) (w2 : (Jvm.Cond.declares y).before a0 Z = true) (w5 : (Jvm.Cond.selects C' y y).before a0 Z = true) (w6 : (Jvm.Cond.instanceMethod y).before a0 Z = true) (w3 : (Jvm.Cond.initialized y.cls).before a0 Z = true) (w4 : (Jvm.Cond.code y cb cml cret).before a0 Z = true) (hy : y.cls ≠ "java/lang/invoke/MethodHandle" ∧ y.cls ≠ "java/lang/invoke/VarHandle")
    (E : Exa Z h a C') (hpd : parseMethodDescriptor y.desc = some ⟨ps, rt⟩) (hlen : as'.length = ps.length) (hM : Con Z y cb cml cret rm (.ref a :: as') h n0 Qc) (hst : st = as'.reverse ++ .ref a :: rest) (hL : L.length = ml) (hwt : 2 * 0 + (rest.map fun v => v.category).sum ≤ wt)
    (hfr : rm.frames + 1 ≤ R.frames) (hlo : wt + (cml + 11) + rm.locals ≤ R.locals) (hcs : cs + rm.cells ≤ R.cells) (hsl : sl + rm.slots ≤ R.slots)
    (k : ∀ v h', Qc v h' → W κ n0 Q h' (cs + rm.cells) (sl + rm.slots) nx L (v.toList ++ rest)) : W κ n0 Q h cs sl pc L st := by
  obtain ⟨hd, rfl⟩ := hd
  obtain ⟨p, l, e, R', s, m, args, below, meth, c⟩ := κ
  obtain ⟨hx, hZ, hby, hml, hown, hret, hlk, hnm, rfl⟩ := C
  intro T locs X eT N h1 h2
  obtain ⟨cq, kq, qa, qb, qc⟩ := isOf hZ eT E
  obtain ⟨v, _, ⟨T2, L2, k2, n2⟩, -, X2, ⟨Lc, hQ, l2, y2, z2⟩, st2⟩ := X.virtualBack hx (y := y) (z := y) hown (mvT hZ w1) (mvT hZ w2) (notFace_of_selects (args := #[]) (mvT hZ w5)) (mvT hZ w5) (mvT hZ w6) hy (backOf (W := wt) (Q := fun v h L => Qc v h ∧ Fr n0 L) (hM l []) hZ w4 w3 hfr hlo) qa qc (g := mkF m pc L.toArray st) rfl (by show L.toArray.size = _; rw [hml, ← hL]; simp) (Steps.refl _) (argsL := as') (rest := rest) (lenOf hpd hlen) hst hwt (hb hby hd) (fun _ _ => ⟨rfl, eT, hcs, hsl⟩)
  dsimp only [Pt.U, Pt.locs, Pt.cells, Pt.slots] at X2 l2 y2 z2 st2 hQ
  subst l2 y2 z2
  obtain ⟨s₂, o, b, r⟩ := k v T2.heap hQ.1 T2 _ X2 rfl (Fr.app N hQ.2) hcs hsl
  exact ⟨s₂, o, st2.trans b, r⟩
theorem W.callP {i kk : Nat} {y : MethodName} {cb : ByteArray} {cml wt : Nat} {cret : Option FieldType} {rm : Room} {a : Addr} {as' : List Value} {Qc : Option Value → Heap → Prop} {ps : List FieldType} {rt : Option FieldType} (C : Good κ R Z own mnm bytes ml ret) (hd : Ins1 bytes pc (.invokevirtual i) 3 nx)
    (w1 : (Jvm.Cond.methodLink own i y).before a0 Z = true) (w6 : (Jvm.Cond.instanceMethod y).before a0 Z = true) (wi : (Jvm.Cond.instantiable y.cls kk).before a0 Z = true) (w7 : (Jvm.Cond.privateMethod y).before a0 Z = true) (w3 : (Jvm.Cond.initialized y.cls).before a0 Z = true) (w4 : (Jvm.Cond.code y cb cml cret).before a0 Z = true) (hy : y.cls ≠ "java/lang/invoke/MethodHandle" ∧ y.cls ≠ "java/lang/invoke/VarHandle")
    (E : Exa Z h a y.cls) (hpd : parseMethodDescriptor y.desc = some ⟨ps, rt⟩) (hlen : as'.length = ps.length) (hM : Con Z y cb cml cret rm (.ref a :: as') h n0 Qc) (hst : st = as'.reverse ++ .ref a :: rest) (hL : L.length = ml) (hwt : 2 * 0 + (rest.map fun v => v.category).sum ≤ wt)
    (hfr : rm.frames + 1 ≤ R.frames) (hlo : wt + (cml + 11) + rm.locals ≤ R.locals) (hcs : cs + rm.cells ≤ R.cells) (hsl : sl + rm.slots ≤ R.slots)
    (k : ∀ v h', Qc v h' → W κ n0 Q h' (cs + rm.cells) (sl + rm.slots) nx L (v.toList ++ rest)) : W κ n0 Q h cs sl pc L st := by
  obtain ⟨hd, rfl⟩ := hd
  obtain ⟨p, l, e, R', s, m, args, below, meth, c⟩ := κ
  obtain ⟨hx, hZ, hby, hml, hown, hret, hlk, hnm, rfl⟩ := C
  intro T locs X eT N h1 h2
  obtain ⟨cq, q1, q2⟩ := E.cell
  have hpr := Cond.privateMethod_at (mvP hZ w7 (args := args))
  have hin : (Jvm.Cond.instanceMethod y).before args s = true := mvT hZ w6
  obtain ⟨cc, kc, c1, c2, -, c4, -⟩ := Cond.instantiable_spec (mvT (args := args) hZ wi)
  have hse := selects_self_of_private c1 c2 (Bool.or_eq_false_iff.mp c4).1 hpr hin hy
  obtain ⟨v, _, ⟨T2, L2, k2, n2⟩, -, X2, ⟨Lc, hQ, l2, y2, z2⟩, st2⟩ := X.privateBack hx (y := y) hown (mvT hZ w1) hin hse hpr (mvT hZ w4) hy (backOf (W := wt) (Q := fun v h L => Qc v h ∧ Fr n0 L) (hM l []) hZ w4 w3 hfr hlo) (g := mkF m pc L.toArray st) rfl (by show L.toArray.size = _; rw [hml, ← hL]; simp) (Steps.refl _) (a := a) (by rw [eT]; exact q1) q2 (argsL := as') (rest := rest) (lenOf hpd hlen) hst hwt (hb hby hd) (fun _ _ => ⟨rfl, eT, hcs, hsl⟩)
  dsimp only [Pt.U, Pt.locs, Pt.cells, Pt.slots] at X2 l2 y2 z2 st2 hQ
  subst l2 y2 z2
  obtain ⟨s₂, o, b, r⟩ := k v T2.heap hQ.1 T2 _ X2 rfl (Fr.app N hQ.2) hcs hsl
  exact ⟨s₂, o, st2.trans b, r⟩
theorem W.initO {i : Nat} {a : Addr} {wt : Nat} (C : Good κ R Z own mnm bytes ml ret) (hd : Ins1 bytes pc (.invokespecial i) 3 nx) (w1 : (Jvm.Cond.methodLink own i Lib.objectInit).before a0 Z = true) (w2 : (Jvm.Cond.instanceMethod Lib.objectInit).before a0 Z = true) (w3 : (Jvm.Cond.code Lib.objectInit ⟨#[0xb1]⟩ 1 none).before a0 Z = true)
    (hL : L.length = ml) (hfr : 1 ≤ R.frames) (hwt : 2 * 0 + (rest.map fun v => v.category).sum ≤ wt) (hlo : wt + 12 ≤ R.locals) (k : W κ n0 Q h cs sl nx L rest) : W κ n0 Q h cs sl pc L (.ref a :: rest) := by
  obtain ⟨hd, rfl⟩ := hd
  obtain ⟨p, l, e, R', s, m, args, below, meth, c⟩ := κ
  obtain ⟨hx, hZ, hby, hml, hown, hret, hlk, hnm, rfl⟩ := C
  intro T locs X eT N h1 h2
  obtain ⟨T', X', e', st'⟩ := initO X hx hZ hown w1 w2 w3 eT (g := mkF m pc L.toArray (.ref a :: rest)) rfl (by show L.toArray.size = _; rw [hml, ← hL]; simp) rfl (hb hby hd) hfr hwt hlo
  obtain ⟨s₂, o, b, r⟩ := k T' _ X' e' N h1 h2
  exact ⟨s₂, o, st' _ b, r⟩
end WKit
/-- a value of one word stored over one word -/
theorem st1 {L : List Slot} {k : Nat} {o : Slot} {v : Value} (hold : L[k]? = some o) (ho : One o) (hv : v.category = 1) : storeLocals L.toArray k v = some (L.set k (.val v)).toArray := by
  have := XS.store1 (l := L.toArray) (i := k) (v := v) (o := o) (by simpa using hold) ho hv
  rw [this]; simp
theorem ofNat_toInt {n : Nat} (h : n < 2147483648) : (Int32.ofNat n).toInt = n := Int32.toInt_ofNat_of_lt h
theorem natOf {x : Int32} (h : 0 ≤ x.toInt) : ∃ n : Nat, x = Int32.ofNat n ∧ n < 2147483648 ∧ x.toInt = n := by
  have h2 := Int32.toInt_lt x
  refine ⟨x.toInt.toNat, Int32.toInt_inj.mp ?_, by omega, by omega⟩
  rw [ofNat_toInt (by omega)]; omega
def own_P (c : Int) : Prop := (65 ≤ c ∧ c ≤ 90) ∨ (97 ≤ c ∧ c ≤ 122) ∨ (192 ≤ c ∧ c ≤ 214) ∨ (216 ≤ c ∧ c ≤ 246) ∨ (248 ≤ c ∧ c ≤ 767) ∨ (880 ≤ c ∧ c ≤ 893) ∨ (895 ≤ c ∧ c ≤ 8191) ∨ (8204 ≤ c ∧ c ≤ 8205) ∨ (8304 ≤ c ∧ c ≤ 8591) ∨ (11264 ≤ c ∧ c ≤ 12271) ∨ (12289 ≤ c ∧ c ≤ 55295) ∨ (63744 ≤ c ∧ c ≤ 64975) ∨ (65008 ≤ c ∧ c ≤ 65533) ∨ (65536 ≤ c ∧ c ≤ 983039)
abbrev y1 : MethodName := ⟨"com/example/blankscope/blankscope/io/LineScanner", "isNameBaseChar", "(I)Z"⟩
theorem m1_0 : Ins1 prog_41_method_27_code 0 (.iload_n 0) 1 1 := ⟨by decide +kernel, rfl⟩
theorem m1_1 : Ins1 prog_41_method_27_code 1 (.bipush 65) 2 3 := ⟨by decide +kernel, rfl⟩
theorem m1_3 : Jmp1 prog_41_method_27_code 3 (.if_icmp .lt 9) 9 6 12 := ⟨by decide +kernel, rfl, by decide, by decide⟩
theorem m1_6 : Ins1 prog_41_method_27_code 6 (.iload_n 0) 1 7 := ⟨by decide +kernel, rfl⟩
theorem m1_7 : Ins1 prog_41_method_27_code 7 (.bipush 90) 2 9 := ⟨by decide +kernel, rfl⟩
theorem m1_9 : Jmp1 prog_41_method_27_code 9 (.if_icmp .le 176) 176 12 185 := ⟨by decide +kernel, rfl, by decide, by decide⟩
theorem m1_12 : Ins1 prog_41_method_27_code 12 (.iload_n 0) 1 13 := ⟨by decide +kernel, rfl⟩
theorem m1_13 : Ins1 prog_41_method_27_code 13 (.bipush 97) 2 15 := ⟨by decide +kernel, rfl⟩
theorem m1_15 : Jmp1 prog_41_method_27_code 15 (.if_icmp .lt 9) 9 18 24 := ⟨by decide +kernel, rfl, by decide, by decide⟩
theorem m1_18 : Ins1 prog_41_method_27_code 18 (.iload_n 0) 1 19 := ⟨by decide +kernel, rfl⟩
theorem m1_19 : Ins1 prog_41_method_27_code 19 (.bipush 122) 2 21 := ⟨by decide +kernel, rfl⟩
theorem m1_21 : Jmp1 prog_41_method_27_code 21 (.if_icmp .le 164) 164 24 185 := ⟨by decide +kernel, rfl, by decide, by decide⟩
theorem m1_24 : Ins1 prog_41_method_27_code 24 (.iload_n 0) 1 25 := ⟨by decide +kernel, rfl⟩
theorem m1_25 : Ins1 prog_41_method_27_code 25 (.sipush 192) 3 28 := ⟨by decide +kernel, rfl⟩
theorem m1_28 : Jmp1 prog_41_method_27_code 28 (.if_icmp .lt 10) 10 31 38 := ⟨by decide +kernel, rfl, by decide, by decide⟩
theorem m1_31 : Ins1 prog_41_method_27_code 31 (.iload_n 0) 1 32 := ⟨by decide +kernel, rfl⟩
theorem m1_32 : Ins1 prog_41_method_27_code 32 (.sipush 214) 3 35 := ⟨by decide +kernel, rfl⟩
theorem m1_35 : Jmp1 prog_41_method_27_code 35 (.if_icmp .le 150) 150 38 185 := ⟨by decide +kernel, rfl, by decide, by decide⟩
theorem m1_38 : Ins1 prog_41_method_27_code 38 (.iload_n 0) 1 39 := ⟨by decide +kernel, rfl⟩
theorem m1_39 : Ins1 prog_41_method_27_code 39 (.sipush 216) 3 42 := ⟨by decide +kernel, rfl⟩
theorem m1_42 : Jmp1 prog_41_method_27_code 42 (.if_icmp .lt 10) 10 45 52 := ⟨by decide +kernel, rfl, by decide, by decide⟩
theorem m1_45 : Ins1 prog_41_method_27_code 45 (.iload_n 0) 1 46 := ⟨by decide +kernel, rfl⟩
theorem m1_46 : Ins1 prog_41_method_27_code 46 (.sipush 246) 3 49 := ⟨by decide +kernel, rfl⟩
theorem m1_49 : Jmp1 prog_41_method_27_code 49 (.if_icmp .le 136) 136 52 185 := ⟨by decide +kernel, rfl, by decide, by decide⟩
theorem m1_52 : Ins1 prog_41_method_27_code 52 (.iload_n 0) 1 53 := ⟨by decide +kernel, rfl⟩
theorem m1_53 : Ins1 prog_41_method_27_code 53 (.sipush 248) 3 56 := ⟨by decide +kernel, rfl⟩
theorem m1_56 : Jmp1 prog_41_method_27_code 56 (.if_icmp .lt 10) 10 59 66 := ⟨by decide +kernel, rfl, by decide, by decide⟩
theorem m1_59 : Ins1 prog_41_method_27_code 59 (.iload_n 0) 1 60 := ⟨by decide +kernel, rfl⟩
theorem m1_60 : Ins1 prog_41_method_27_code 60 (.sipush 767) 3 63 := ⟨by decide +kernel, rfl⟩
theorem m1_63 : Jmp1 prog_41_method_27_code 63 (.if_icmp .le 122) 122 66 185 := ⟨by decide +kernel, rfl, by decide, by decide⟩
theorem m1_66 : Ins1 prog_41_method_27_code 66 (.iload_n 0) 1 67 := ⟨by decide +kernel, rfl⟩
theorem m1_67 : Ins1 prog_41_method_27_code 67 (.sipush 880) 3 70 := ⟨by decide +kernel, rfl⟩
theorem m1_70 : Jmp1 prog_41_method_27_code 70 (.if_icmp .lt 10) 10 73 80 := ⟨by decide +kernel, rfl, by decide, by decide⟩
theorem m1_73 : Ins1 prog_41_method_27_code 73 (.iload_n 0) 1 74 := ⟨by decide +kernel, rfl⟩
theorem m1_74 : Ins1 prog_41_method_27_code 74 (.sipush 893) 3 77 := ⟨by decide +kernel, rfl⟩
theorem m1_77 : Jmp1 prog_41_method_27_code 77 (.if_icmp .le 108) 108 80 185 := ⟨by decide +kernel, rfl, by decide, by decide⟩
theorem m1_80 : Ins1 prog_41_method_27_code 80 (.iload_n 0) 1 81 := ⟨by decide +kernel, rfl⟩
theorem m1_81 : Ins1 prog_41_method_27_code 81 (.sipush 895) 3 84 := ⟨by decide +kernel, rfl⟩
theorem m1_84 : Jmp1 prog_41_method_27_code 84 (.if_icmp .lt 10) 10 87 94 := ⟨by decide +kernel, rfl, by decide, by decide⟩
theorem m1_87 : Ins1 prog_41_method_27_code 87 (.iload_n 0) 1 88 := ⟨by decide +kernel, rfl⟩
theorem m1_88 : Ins1 prog_41_method_27_code 88 (.sipush 8191) 3 91 := ⟨by decide +kernel, rfl⟩
theorem m1_91 : Jmp1 prog_41_method_27_code 91 (.if_icmp .le 94) 94 94 185 := ⟨by decide +kernel, rfl, by decide, by decide⟩
theorem m1_94 : Ins1 prog_41_method_27_code 94 (.iload_n 0) 1 95 := ⟨by decide +kernel, rfl⟩
theorem m1_95 : Ins1 prog_41_method_27_code 95 (.sipush 8204) 3 98 := ⟨by decide +kernel, rfl⟩
theorem m1_98 : Jmp1 prog_41_method_27_code 98 (.if_icmp .lt 10) 10 101 108 := ⟨by decide +kernel, rfl, by decide, by decide⟩
theorem m1_101 : Ins1 prog_41_method_27_code 101 (.iload_n 0) 1 102 := ⟨by decide +kernel, rfl⟩
theorem m1_102 : Ins1 prog_41_method_27_code 102 (.sipush 8205) 3 105 := ⟨by decide +kernel, rfl⟩
theorem m1_105 : Jmp1 prog_41_method_27_code 105 (.if_icmp .le 80) 80 108 185 := ⟨by decide +kernel, rfl, by decide, by decide⟩
theorem m1_108 : Ins1 prog_41_method_27_code 108 (.iload_n 0) 1 109 := ⟨by decide +kernel, rfl⟩
theorem m1_109 : Ins1 prog_41_method_27_code 109 (.sipush 8304) 3 112 := ⟨by decide +kernel, rfl⟩
theorem m1_112 : Jmp1 prog_41_method_27_code 112 (.if_icmp .lt 10) 10 115 122 := ⟨by decide +kernel, rfl, by decide, by decide⟩
theorem m1_115 : Ins1 prog_41_method_27_code 115 (.iload_n 0) 1 116 := ⟨by decide +kernel, rfl⟩
theorem m1_116 : Ins1 prog_41_method_27_code 116 (.sipush 8591) 3 119 := ⟨by decide +kernel, rfl⟩
theorem m1_119 : Jmp1 prog_41_method_27_code 119 (.if_icmp .le 66) 66 122 185 := ⟨by decide +kernel, rfl, by decide, by decide⟩
theorem m1_122 : Ins1 prog_41_method_27_code 122 (.iload_n 0) 1 123 := ⟨by decide +kernel, rfl⟩
theorem m1_123 : Ins1 prog_41_method_27_code 123 (.sipush 11264) 3 126 := ⟨by decide +kernel, rfl⟩
theorem m1_126 : Jmp1 prog_41_method_27_code 126 (.if_icmp .lt 10) 10 129 136 := ⟨by decide +kernel, rfl, by decide, by decide⟩
theorem m1_129 : Ins1 prog_41_method_27_code 129 (.iload_n 0) 1 130 := ⟨by decide +kernel, rfl⟩
theorem m1_130 : Ins1 prog_41_method_27_code 130 (.sipush 12271) 3 133 := ⟨by decide +kernel, rfl⟩
theorem m1_133 : Jmp1 prog_41_method_27_code 133 (.if_icmp .le 52) 52 136 185 := ⟨by decide +kernel, rfl, by decide, by decide⟩
theorem m1_136 : Ins1 prog_41_method_27_code 136 (.iload_n 0) 1 137 := ⟨by decide +kernel, rfl⟩
theorem m1_137 : Ins1 prog_41_method_27_code 137 (.sipush 12289) 3 140 := ⟨by decide +kernel, rfl⟩
theorem m1_140 : Jmp1 prog_41_method_27_code 140 (.if_icmp .lt 9) 9 143 149 := ⟨by decide +kernel, rfl, by decide, by decide⟩
theorem m1_143 : Ins1 prog_41_method_27_code 143 (.iload_n 0) 1 144 := ⟨by decide +kernel, rfl⟩
theorem m1_144 : Ins1 prog_41_method_27_code 144 (.ldc 244) 2 146 := ⟨by decide +kernel, rfl⟩
theorem m1_146 : Jmp1 prog_41_method_27_code 146 (.if_icmp .le 39) 39 149 185 := ⟨by decide +kernel, rfl, by decide, by decide⟩
theorem m1_149 : Ins1 prog_41_method_27_code 149 (.iload_n 0) 1 150 := ⟨by decide +kernel, rfl⟩
theorem m1_150 : Ins1 prog_41_method_27_code 150 (.ldc 245) 2 152 := ⟨by decide +kernel, rfl⟩
theorem m1_152 : Jmp1 prog_41_method_27_code 152 (.if_icmp .lt 9) 9 155 161 := ⟨by decide +kernel, rfl, by decide, by decide⟩
theorem m1_155 : Ins1 prog_41_method_27_code 155 (.iload_n 0) 1 156 := ⟨by decide +kernel, rfl⟩
theorem m1_156 : Ins1 prog_41_method_27_code 156 (.ldc 246) 2 158 := ⟨by decide +kernel, rfl⟩
theorem m1_158 : Jmp1 prog_41_method_27_code 158 (.if_icmp .le 27) 27 161 185 := ⟨by decide +kernel, rfl, by decide, by decide⟩
theorem m1_161 : Ins1 prog_41_method_27_code 161 (.iload_n 0) 1 162 := ⟨by decide +kernel, rfl⟩
theorem m1_162 : Ins1 prog_41_method_27_code 162 (.ldc 247) 2 164 := ⟨by decide +kernel, rfl⟩
theorem m1_164 : Jmp1 prog_41_method_27_code 164 (.if_icmp .lt 9) 9 167 173 := ⟨by decide +kernel, rfl, by decide, by decide⟩
theorem m1_167 : Ins1 prog_41_method_27_code 167 (.iload_n 0) 1 168 := ⟨by decide +kernel, rfl⟩
theorem m1_168 : Ins1 prog_41_method_27_code 168 (.ldc 248) 2 170 := ⟨by decide +kernel, rfl⟩
theorem m1_170 : Jmp1 prog_41_method_27_code 170 (.if_icmp .le 15) 15 173 185 := ⟨by decide +kernel, rfl, by decide, by decide⟩
theorem m1_173 : Ins1 prog_41_method_27_code 173 (.iload_n 0) 1 174 := ⟨by decide +kernel, rfl⟩
theorem m1_174 : Ins1 prog_41_method_27_code 174 (.ldc 18) 2 176 := ⟨by decide +kernel, rfl⟩
theorem m1_176 : Jmp1 prog_41_method_27_code 176 (.if_icmp .lt 13) 13 179 189 := ⟨by decide +kernel, rfl, by decide, by decide⟩
theorem m1_179 : Ins1 prog_41_method_27_code 179 (.iload_n 0) 1 180 := ⟨by decide +kernel, rfl⟩
theorem m1_180 : Ins1 prog_41_method_27_code 180 (.ldc 249) 2 182 := ⟨by decide +kernel, rfl⟩
theorem m1_182 : Jmp1 prog_41_method_27_code 182 (.if_icmp .gt 7) 7 185 189 := ⟨by decide +kernel, rfl, by decide, by decide⟩
theorem m1_185 : Ins1 prog_41_method_27_code 185 (.iconst 1) 1 186 := ⟨by decide +kernel, rfl⟩
theorem m1_186 : Jmp1 prog_41_method_27_code 186 (.goto 4) 4 189 190 := ⟨by decide +kernel, rfl, by decide, by decide⟩
theorem m1_189 : Ins1 prog_41_method_27_code 189 (.iconst 0) 1 190 := ⟨by decide +kernel, rfl⟩
theorem m1_190 : Ins1 prog_41_method_27_code 190 (.ireturn) 1 191 := ⟨by decide +kernel, rfl⟩
theorem pl1 : plainFor y1 = true := plainFor_of_name (show plainName "com/example/blankscope/blankscope/io/LineScanner" = true by first | (simp [plainName, overriddenIn]; done) | decide +kernel)
theorem pd1 : parseMethodDescriptor "(I)Z" = some ⟨[.int], some .boolean⟩ := by decide +kernel
set_option maxRecDepth 65536 in
set_option maxHeartbeats 4000000 in
theorem own_nb (Z : State) (a0 : Array Value) (hw : ∀ d ∈ tables_1, d.before a0 Z = true) (c : Int32)  (h : Heap) (n0 : Nat)  :
    Con Z y1 prog_41_method_27_code 1 (some .boolean) ({ frames := 0, cells := 0, slots := 0, locals := 0 } : Room) [(.int c)] h n0 (fun v h' => h = h' ∧ ∃ z : Int32, v = some (.int z) ∧ ((z.toInt = 1 ∧ own_P c.toInt) ∨ (z.toInt = 0 ∧ ¬ own_P c.toInt))) := by
  refine Con.of pl1 (L := [.val (.int c)]) (fun m => by first | (simp [entryFrame, mkF, argsToLocals, Value.category]; done) | rfl) ?_
  intro κ Qx hQ C
  refine W.iloadN C m1_0 rfl ?_
  refine W.bipush C m1_1 (z := (65 : Int32)) rfl ?_
  suffices J3 : ∀ (_u : Unit), (((c.toInt < (65 : Int))) ∨ (((65 : Int) ≤ c.toInt) ∧ ((90 : Int) < c.toInt))) → W κ n0 Qx h 0 0 12 [.val (.int c)] [] by
    refine W.icmp C m1_3 ?_ ?_
    · intro (h3 : c.toInt < (65 : Int))
      exact J3 () (Or.inl h3)
    · intro (h3 : ¬ (c.toInt < (65 : Int)))
      replace h3 : (65 : Int) ≤ c.toInt := by omega
      refine W.iloadN C m1_6 rfl ?_
      refine W.bipush C m1_7 (z := (90 : Int32)) rfl ?_
      refine W.icmp C m1_9 ?_ ?_
      · intro (h9 : c.toInt ≤ (90 : Int))
        refine W.iconst C m1_185 (z := (1 : Int32)) rfl ?_
        refine W.goto C m1_186 ?_
        refine W.zreturn C m1_190 (hQ _ _ ?_)
        exact ⟨rfl, 1, rfl, Or.inl ⟨rfl, by unfold own_P; omega⟩⟩
      · intro (h9 : ¬ (c.toInt ≤ (90 : Int)))
        replace h9 : (90 : Int) < c.toInt := by omega
        exact J3 () (Or.inr (⟨h3, h9⟩))
  intro _ hJ3
  refine W.iloadN C m1_12 rfl ?_
  refine W.bipush C m1_13 (z := (97 : Int32)) rfl ?_
  suffices J15 : ∀ (_u : Unit), (((c.toInt < (97 : Int))) ∨ (((97 : Int) ≤ c.toInt) ∧ ((122 : Int) < c.toInt))) → W κ n0 Qx h 0 0 24 [.val (.int c)] [] by
    refine W.icmp C m1_15 ?_ ?_
    · intro (h15 : c.toInt < (97 : Int))
      exact J15 () (Or.inl h15)
    · intro (h15 : ¬ (c.toInt < (97 : Int)))
      replace h15 : (97 : Int) ≤ c.toInt := by omega
      refine W.iloadN C m1_18 rfl ?_
      refine W.bipush C m1_19 (z := (122 : Int32)) rfl ?_
      refine W.icmp C m1_21 ?_ ?_
      · intro (h21 : c.toInt ≤ (122 : Int))
        refine W.iconst C m1_185 (z := (1 : Int32)) rfl ?_
        refine W.goto C m1_186 ?_
        refine W.zreturn C m1_190 (hQ _ _ ?_)
        exact ⟨rfl, 1, rfl, Or.inl ⟨rfl, by unfold own_P; omega⟩⟩
      · intro (h21 : ¬ (c.toInt ≤ (122 : Int)))
        replace h21 : (122 : Int) < c.toInt := by omega
        exact J15 () (Or.inr (⟨h15, h21⟩))
  intro _ hJ15
  refine W.iloadN C m1_24 rfl ?_
  refine W.sipush C m1_25 (z := (192 : Int32)) rfl ?_
  suffices J28 : ∀ (_u : Unit), (((c.toInt < (192 : Int))) ∨ (((192 : Int) ≤ c.toInt) ∧ ((214 : Int) < c.toInt))) → W κ n0 Qx h 0 0 38 [.val (.int c)] [] by
    refine W.icmp C m1_28 ?_ ?_
    · intro (h28 : c.toInt < (192 : Int))
      exact J28 () (Or.inl h28)
    · intro (h28 : ¬ (c.toInt < (192 : Int)))
      replace h28 : (192 : Int) ≤ c.toInt := by omega
      refine W.iloadN C m1_31 rfl ?_
      refine W.sipush C m1_32 (z := (214 : Int32)) rfl ?_
      refine W.icmp C m1_35 ?_ ?_
      · intro (h35 : c.toInt ≤ (214 : Int))
        refine W.iconst C m1_185 (z := (1 : Int32)) rfl ?_
        refine W.goto C m1_186 ?_
        refine W.zreturn C m1_190 (hQ _ _ ?_)
        exact ⟨rfl, 1, rfl, Or.inl ⟨rfl, by unfold own_P; omega⟩⟩
      · intro (h35 : ¬ (c.toInt ≤ (214 : Int)))
        replace h35 : (214 : Int) < c.toInt := by omega
        exact J28 () (Or.inr (⟨h28, h35⟩))
  intro _ hJ28
  refine W.iloadN C m1_38 rfl ?_
  refine W.sipush C m1_39 (z := (216 : Int32)) rfl ?_
  suffices J42 : ∀ (_u : Unit), (((c.toInt < (216 : Int))) ∨ (((216 : Int) ≤ c.toInt) ∧ ((246 : Int) < c.toInt))) → W κ n0 Qx h 0 0 52 [.val (.int c)] [] by
    refine W.icmp C m1_42 ?_ ?_
    · intro (h42 : c.toInt < (216 : Int))
      exact J42 () (Or.inl h42)
    · intro (h42 : ¬ (c.toInt < (216 : Int)))
      replace h42 : (216 : Int) ≤ c.toInt := by omega
      refine W.iloadN C m1_45 rfl ?_
      refine W.sipush C m1_46 (z := (246 : Int32)) rfl ?_
      refine W.icmp C m1_49 ?_ ?_
      · intro (h49 : c.toInt ≤ (246 : Int))
        refine W.iconst C m1_185 (z := (1 : Int32)) rfl ?_
        refine W.goto C m1_186 ?_
        refine W.zreturn C m1_190 (hQ _ _ ?_)
        exact ⟨rfl, 1, rfl, Or.inl ⟨rfl, by unfold own_P; omega⟩⟩
      · intro (h49 : ¬ (c.toInt ≤ (246 : Int)))
        replace h49 : (246 : Int) < c.toInt := by omega
        exact J42 () (Or.inr (⟨h42, h49⟩))
  intro _ hJ42
  refine W.iloadN C m1_52 rfl ?_
  refine W.sipush C m1_53 (z := (248 : Int32)) rfl ?_
  suffices J56 : ∀ (_u : Unit), (((c.toInt < (248 : Int))) ∨ (((248 : Int) ≤ c.toInt) ∧ ((767 : Int) < c.toInt))) → W κ n0 Qx h 0 0 66 [.val (.int c)] [] by
    refine W.icmp C m1_56 ?_ ?_
    · intro (h56 : c.toInt < (248 : Int))
      exact J56 () (Or.inl h56)
    · intro (h56 : ¬ (c.toInt < (248 : Int)))
      replace h56 : (248 : Int) ≤ c.toInt := by omega
      refine W.iloadN C m1_59 rfl ?_
      refine W.sipush C m1_60 (z := (767 : Int32)) rfl ?_
      refine W.icmp C m1_63 ?_ ?_
      · intro (h63 : c.toInt ≤ (767 : Int))
        refine W.iconst C m1_185 (z := (1 : Int32)) rfl ?_
        refine W.goto C m1_186 ?_
        refine W.zreturn C m1_190 (hQ _ _ ?_)
        exact ⟨rfl, 1, rfl, Or.inl ⟨rfl, by unfold own_P; omega⟩⟩
      · intro (h63 : ¬ (c.toInt ≤ (767 : Int)))
        replace h63 : (767 : Int) < c.toInt := by omega
        exact J56 () (Or.inr (⟨h56, h63⟩))
  intro _ hJ56
  refine W.iloadN C m1_66 rfl ?_
  refine W.sipush C m1_67 (z := (880 : Int32)) rfl ?_
  suffices J70 : ∀ (_u : Unit), (((c.toInt < (880 : Int))) ∨ (((880 : Int) ≤ c.toInt) ∧ ((893 : Int) < c.toInt))) → W κ n0 Qx h 0 0 80 [.val (.int c)] [] by
    refine W.icmp C m1_70 ?_ ?_
    · intro (h70 : c.toInt < (880 : Int))
      exact J70 () (Or.inl h70)
    · intro (h70 : ¬ (c.toInt < (880 : Int)))
      replace h70 : (880 : Int) ≤ c.toInt := by omega
      refine W.iloadN C m1_73 rfl ?_
      refine W.sipush C m1_74 (z := (893 : Int32)) rfl ?_
      refine W.icmp C m1_77 ?_ ?_
      · intro (h77 : c.toInt ≤ (893 : Int))
        refine W.iconst C m1_185 (z := (1 : Int32)) rfl ?_
        refine W.goto C m1_186 ?_
        refine W.zreturn C m1_190 (hQ _ _ ?_)
        exact ⟨rfl, 1, rfl, Or.inl ⟨rfl, by unfold own_P; omega⟩⟩
      · intro (h77 : ¬ (c.toInt ≤ (893 : Int)))
        replace h77 : (893 : Int) < c.toInt := by omega
        exact J70 () (Or.inr (⟨h70, h77⟩))
  intro _ hJ70
  refine W.iloadN C m1_80 rfl ?_
  refine W.sipush C m1_81 (z := (895 : Int32)) rfl ?_
  suffices J84 : ∀ (_u : Unit), (((c.toInt < (895 : Int))) ∨ (((895 : Int) ≤ c.toInt) ∧ ((8191 : Int) < c.toInt))) → W κ n0 Qx h 0 0 94 [.val (.int c)] [] by
    refine W.icmp C m1_84 ?_ ?_
    · intro (h84 : c.toInt < (895 : Int))
      exact J84 () (Or.inl h84)
    · intro (h84 : ¬ (c.toInt < (895 : Int)))
      replace h84 : (895 : Int) ≤ c.toInt := by omega
      refine W.iloadN C m1_87 rfl ?_
      refine W.sipush C m1_88 (z := (8191 : Int32)) rfl ?_
      refine W.icmp C m1_91 ?_ ?_
      · intro (h91 : c.toInt ≤ (8191 : Int))
        refine W.iconst C m1_185 (z := (1 : Int32)) rfl ?_
        refine W.goto C m1_186 ?_
        refine W.zreturn C m1_190 (hQ _ _ ?_)
        exact ⟨rfl, 1, rfl, Or.inl ⟨rfl, by unfold own_P; omega⟩⟩
      · intro (h91 : ¬ (c.toInt ≤ (8191 : Int)))
        replace h91 : (8191 : Int) < c.toInt := by omega
        exact J84 () (Or.inr (⟨h84, h91⟩))
  intro _ hJ84
  refine W.iloadN C m1_94 rfl ?_
  refine W.sipush C m1_95 (z := (8204 : Int32)) rfl ?_
  suffices J98 : ∀ (_u : Unit), (((c.toInt < (8204 : Int))) ∨ (((8204 : Int) ≤ c.toInt) ∧ ((8205 : Int) < c.toInt))) → W κ n0 Qx h 0 0 108 [.val (.int c)] [] by
    refine W.icmp C m1_98 ?_ ?_
    · intro (h98 : c.toInt < (8204 : Int))
      exact J98 () (Or.inl h98)
    · intro (h98 : ¬ (c.toInt < (8204 : Int)))
      replace h98 : (8204 : Int) ≤ c.toInt := by omega
      refine W.iloadN C m1_101 rfl ?_
      refine W.sipush C m1_102 (z := (8205 : Int32)) rfl ?_
      refine W.icmp C m1_105 ?_ ?_
      · intro (h105 : c.toInt ≤ (8205 : Int))
        refine W.iconst C m1_185 (z := (1 : Int32)) rfl ?_
        refine W.goto C m1_186 ?_
        refine W.zreturn C m1_190 (hQ _ _ ?_)
        exact ⟨rfl, 1, rfl, Or.inl ⟨rfl, by unfold own_P; omega⟩⟩
      · intro (h105 : ¬ (c.toInt ≤ (8205 : Int)))
        replace h105 : (8205 : Int) < c.toInt := by omega
        exact J98 () (Or.inr (⟨h98, h105⟩))
  intro _ hJ98
  refine W.iloadN C m1_108 rfl ?_
  refine W.sipush C m1_109 (z := (8304 : Int32)) rfl ?_
  suffices J112 : ∀ (_u : Unit), (((c.toInt < (8304 : Int))) ∨ (((8304 : Int) ≤ c.toInt) ∧ ((8591 : Int) < c.toInt))) → W κ n0 Qx h 0 0 122 [.val (.int c)] [] by
    refine W.icmp C m1_112 ?_ ?_
    · intro (h112 : c.toInt < (8304 : Int))
      exact J112 () (Or.inl h112)
    · intro (h112 : ¬ (c.toInt < (8304 : Int)))
      replace h112 : (8304 : Int) ≤ c.toInt := by omega
      refine W.iloadN C m1_115 rfl ?_
      refine W.sipush C m1_116 (z := (8591 : Int32)) rfl ?_
      refine W.icmp C m1_119 ?_ ?_
      · intro (h119 : c.toInt ≤ (8591 : Int))
        refine W.iconst C m1_185 (z := (1 : Int32)) rfl ?_
        refine W.goto C m1_186 ?_
        refine W.zreturn C m1_190 (hQ _ _ ?_)
        exact ⟨rfl, 1, rfl, Or.inl ⟨rfl, by unfold own_P; omega⟩⟩
      · intro (h119 : ¬ (c.toInt ≤ (8591 : Int)))
        replace h119 : (8591 : Int) < c.toInt := by omega
        exact J112 () (Or.inr (⟨h112, h119⟩))
  intro _ hJ112
  refine W.iloadN C m1_122 rfl ?_
  refine W.sipush C m1_123 (z := (11264 : Int32)) rfl ?_
  suffices J126 : ∀ (_u : Unit), (((c.toInt < (11264 : Int))) ∨ (((11264 : Int) ≤ c.toInt) ∧ ((12271 : Int) < c.toInt))) → W κ n0 Qx h 0 0 136 [.val (.int c)] [] by
    refine W.icmp C m1_126 ?_ ?_
    · intro (h126 : c.toInt < (11264 : Int))
      exact J126 () (Or.inl h126)
    · intro (h126 : ¬ (c.toInt < (11264 : Int)))
      replace h126 : (11264 : Int) ≤ c.toInt := by omega
      refine W.iloadN C m1_129 rfl ?_
      refine W.sipush C m1_130 (z := (12271 : Int32)) rfl ?_
      refine W.icmp C m1_133 ?_ ?_
      · intro (h133 : c.toInt ≤ (12271 : Int))
        refine W.iconst C m1_185 (z := (1 : Int32)) rfl ?_
        refine W.goto C m1_186 ?_
        refine W.zreturn C m1_190 (hQ _ _ ?_)
        exact ⟨rfl, 1, rfl, Or.inl ⟨rfl, by unfold own_P; omega⟩⟩
      · intro (h133 : ¬ (c.toInt ≤ (12271 : Int)))
        replace h133 : (12271 : Int) < c.toInt := by omega
        exact J126 () (Or.inr (⟨h126, h133⟩))
  intro _ hJ126
  refine W.iloadN C m1_136 rfl ?_
  refine W.sipush C m1_137 (z := (12289 : Int32)) rfl ?_
  suffices J140 : ∀ (_u : Unit), (((c.toInt < (12289 : Int))) ∨ (((12289 : Int) ≤ c.toInt) ∧ ((55295 : Int) < c.toInt))) → W κ n0 Qx h 0 0 149 [.val (.int c)] [] by
    refine W.icmp C m1_140 ?_ ?_
    · intro (h140 : c.toInt < (12289 : Int))
      exact J140 () (Or.inl h140)
    · intro (h140 : ¬ (c.toInt < (12289 : Int)))
      replace h140 : (12289 : Int) ≤ c.toInt := by omega
      refine W.iloadN C m1_143 rfl ?_
      refine W.ldc C m1_144 (hw _ (List.mem_of_getElem? (i := 23) rfl)) ?_
      refine W.icmp C m1_146 ?_ ?_
      · intro (h146 : c.toInt ≤ (55295 : Int))
        refine W.iconst C m1_185 (z := (1 : Int32)) rfl ?_
        refine W.goto C m1_186 ?_
        refine W.zreturn C m1_190 (hQ _ _ ?_)
        exact ⟨rfl, 1, rfl, Or.inl ⟨rfl, by unfold own_P; omega⟩⟩
      · intro (h146 : ¬ (c.toInt ≤ (55295 : Int)))
        replace h146 : (55295 : Int) < c.toInt := by omega
        exact J140 () (Or.inr (⟨h140, h146⟩))
  intro _ hJ140
  refine W.iloadN C m1_149 rfl ?_
  refine W.ldc C m1_150 (hw _ (List.mem_of_getElem? (i := 13) rfl)) ?_
  suffices J152 : ∀ (_u : Unit), (((c.toInt < (63744 : Int))) ∨ (((63744 : Int) ≤ c.toInt) ∧ ((64975 : Int) < c.toInt))) → W κ n0 Qx h 0 0 161 [.val (.int c)] [] by
    refine W.icmp C m1_152 ?_ ?_
    · intro (h152 : c.toInt < (63744 : Int))
      exact J152 () (Or.inl h152)
    · intro (h152 : ¬ (c.toInt < (63744 : Int)))
      replace h152 : (63744 : Int) ≤ c.toInt := by omega
      refine W.iloadN C m1_155 rfl ?_
      refine W.ldc C m1_156 (hw _ (List.mem_of_getElem? (i := 24) rfl)) ?_
      refine W.icmp C m1_158 ?_ ?_
      · intro (h158 : c.toInt ≤ (64975 : Int))
        refine W.iconst C m1_185 (z := (1 : Int32)) rfl ?_
        refine W.goto C m1_186 ?_
        refine W.zreturn C m1_190 (hQ _ _ ?_)
        exact ⟨rfl, 1, rfl, Or.inl ⟨rfl, by unfold own_P; omega⟩⟩
      · intro (h158 : ¬ (c.toInt ≤ (64975 : Int)))
        replace h158 : (64975 : Int) < c.toInt := by omega
        exact J152 () (Or.inr (⟨h152, h158⟩))
  intro _ hJ152
  refine W.iloadN C m1_161 rfl ?_
  refine W.ldc C m1_162 (hw _ (List.mem_of_getElem? (i := 14) rfl)) ?_
  suffices J164 : ∀ (_u : Unit), (((c.toInt < (65008 : Int))) ∨ (((65008 : Int) ≤ c.toInt) ∧ ((65533 : Int) < c.toInt))) → W κ n0 Qx h 0 0 173 [.val (.int c)] [] by
    refine W.icmp C m1_164 ?_ ?_
    · intro (h164 : c.toInt < (65008 : Int))
      exact J164 () (Or.inl h164)
    · intro (h164 : ¬ (c.toInt < (65008 : Int)))
      replace h164 : (65008 : Int) ≤ c.toInt := by omega
      refine W.iloadN C m1_167 rfl ?_
      refine W.ldc C m1_168 (hw _ (List.mem_of_getElem? (i := 25) rfl)) ?_
      refine W.icmp C m1_170 ?_ ?_
      · intro (h170 : c.toInt ≤ (65533 : Int))
        refine W.iconst C m1_185 (z := (1 : Int32)) rfl ?_
        refine W.goto C m1_186 ?_
        refine W.zreturn C m1_190 (hQ _ _ ?_)
        exact ⟨rfl, 1, rfl, Or.inl ⟨rfl, by unfold own_P; omega⟩⟩
      · intro (h170 : ¬ (c.toInt ≤ (65533 : Int)))
        replace h170 : (65533 : Int) < c.toInt := by omega
        exact J164 () (Or.inr (⟨h164, h170⟩))
  intro _ hJ164
  refine W.iloadN C m1_173 rfl ?_
  refine W.ldc C m1_174 (hw _ (List.mem_of_getElem? (i := 15) rfl)) ?_
  refine W.icmp C m1_176 ?_ ?_
  · intro (h176 : c.toInt < (65536 : Int))
    refine W.iconst C m1_189 (z := (0 : Int32)) rfl ?_
    refine W.zreturn C m1_190 (hQ _ _ ?_)
    exact ⟨rfl, 0, rfl, Or.inr ⟨rfl, by unfold own_P; omega⟩⟩
  · intro (h176 : ¬ (c.toInt < (65536 : Int)))
    replace h176 : (65536 : Int) ≤ c.toInt := by omega
    refine W.iloadN C m1_179 rfl ?_
    refine W.ldc C m1_180 (hw _ (List.mem_of_getElem? (i := 26) rfl)) ?_
    refine W.icmp C m1_182 ?_ ?_
    · intro (h182 : (983039 : Int) < c.toInt)
      refine W.iconst C m1_189 (z := (0 : Int32)) rfl ?_
      refine W.zreturn C m1_190 (hQ _ _ ?_)
      exact ⟨rfl, 0, rfl, Or.inr ⟨rfl, by unfold own_P; omega⟩⟩
    · intro (h182 : ¬ ((983039 : Int) < c.toInt))
      replace h182 : c.toInt ≤ (983039 : Int) := by omega
      refine W.iconst C m1_185 (z := (1 : Int32)) rfl ?_
      refine W.goto C m1_186 ?_
      refine W.zreturn C m1_190 (hQ _ _ ?_)
      exact ⟨rfl, 1, rfl, Or.inl ⟨rfl, by unfold own_P; omega⟩⟩
abbrev y2 : MethodName := ⟨"com/example/blankscope/blankscope/io/LineScannerIsNameBaseCharPinLaw", "reference", "(I)Z"⟩
theorem m2_0 : Ins1 method_3_code 0 (.iload_n 0) 1 1 := ⟨by decide +kernel, rfl⟩
theorem m2_1 : Ins1 method_3_code 1 (.bipush 65) 2 3 := ⟨by decide +kernel, rfl⟩
theorem m2_3 : Jmp1 method_3_code 3 (.if_icmp .lt 9) 9 6 12 := ⟨by decide +kernel, rfl, by decide, by decide⟩
theorem m2_6 : Ins1 method_3_code 6 (.iload_n 0) 1 7 := ⟨by decide +kernel, rfl⟩
theorem m2_7 : Ins1 method_3_code 7 (.ldc 13) 2 9 := ⟨by decide +kernel, rfl⟩
theorem m2_9 : Jmp1 method_3_code 9 (.if_icmp .le 5) 5 12 14 := ⟨by decide +kernel, rfl, by decide, by decide⟩
theorem m2_12 : Ins1 method_3_code 12 (.iconst 0) 1 13 := ⟨by decide +kernel, rfl⟩
theorem m2_13 : Ins1 method_3_code 13 (.ireturn) 1 14 := ⟨by decide +kernel, rfl⟩
theorem m2_14 : Ins1 method_3_code 14 (.iload_n 0) 1 15 := ⟨by decide +kernel, rfl⟩
theorem m2_15 : Ins1 method_3_code 15 (.bipush 91) 2 17 := ⟨by decide +kernel, rfl⟩
theorem m2_17 : Jmp1 method_3_code 17 (.if_icmp .lt 11) 11 20 28 := ⟨by decide +kernel, rfl, by decide, by decide⟩
theorem m2_20 : Ins1 method_3_code 20 (.iload_n 0) 1 21 := ⟨by decide +kernel, rfl⟩
theorem m2_21 : Ins1 method_3_code 21 (.bipush 96) 2 23 := ⟨by decide +kernel, rfl⟩
theorem m2_23 : Jmp1 method_3_code 23 (.if_icmp .gt 5) 5 26 28 := ⟨by decide +kernel, rfl, by decide, by decide⟩
theorem m2_26 : Ins1 method_3_code 26 (.iconst 0) 1 27 := ⟨by decide +kernel, rfl⟩
theorem m2_27 : Ins1 method_3_code 27 (.ireturn) 1 28 := ⟨by decide +kernel, rfl⟩
theorem m2_28 : Ins1 method_3_code 28 (.iload_n 0) 1 29 := ⟨by decide +kernel, rfl⟩
theorem m2_29 : Ins1 method_3_code 29 (.bipush 123) 2 31 := ⟨by decide +kernel, rfl⟩
theorem m2_31 : Jmp1 method_3_code 31 (.if_icmp .lt 12) 12 34 43 := ⟨by decide +kernel, rfl, by decide, by decide⟩
theorem m2_34 : Ins1 method_3_code 34 (.iload_n 0) 1 35 := ⟨by decide +kernel, rfl⟩
theorem m2_35 : Ins1 method_3_code 35 (.sipush 191) 3 38 := ⟨by decide +kernel, rfl⟩
theorem m2_38 : Jmp1 method_3_code 38 (.if_icmp .gt 5) 5 41 43 := ⟨by decide +kernel, rfl, by decide, by decide⟩
theorem m2_41 : Ins1 method_3_code 41 (.iconst 0) 1 42 := ⟨by decide +kernel, rfl⟩
theorem m2_42 : Ins1 method_3_code 42 (.ireturn) 1 43 := ⟨by decide +kernel, rfl⟩
theorem m2_43 : Ins1 method_3_code 43 (.iload_n 0) 1 44 := ⟨by decide +kernel, rfl⟩
theorem m2_44 : Ins1 method_3_code 44 (.sipush 215) 3 47 := ⟨by decide +kernel, rfl⟩
theorem m2_47 : Jmp1 method_3_code 47 (.if_icmp .eq 17) 17 50 64 := ⟨by decide +kernel, rfl, by decide, by decide⟩
theorem m2_50 : Ins1 method_3_code 50 (.iload_n 0) 1 51 := ⟨by decide +kernel, rfl⟩
theorem m2_51 : Ins1 method_3_code 51 (.sipush 247) 3 54 := ⟨by decide +kernel, rfl⟩
theorem m2_54 : Jmp1 method_3_code 54 (.if_icmp .eq 10) 10 57 64 := ⟨by decide +kernel, rfl, by decide, by decide⟩
theorem m2_57 : Ins1 method_3_code 57 (.iload_n 0) 1 58 := ⟨by decide +kernel, rfl⟩
theorem m2_58 : Ins1 method_3_code 58 (.sipush 894) 3 61 := ⟨by decide +kernel, rfl⟩
theorem m2_61 : Jmp1 method_3_code 61 (.if_icmp .ne 5) 5 64 66 := ⟨by decide +kernel, rfl, by decide, by decide⟩
theorem m2_64 : Ins1 method_3_code 64 (.iconst 0) 1 65 := ⟨by decide +kernel, rfl⟩
theorem m2_65 : Ins1 method_3_code 65 (.ireturn) 1 66 := ⟨by decide +kernel, rfl⟩
theorem m2_66 : Ins1 method_3_code 66 (.iload_n 0) 1 67 := ⟨by decide +kernel, rfl⟩
theorem m2_67 : Ins1 method_3_code 67 (.sipush 768) 3 70 := ⟨by decide +kernel, rfl⟩
theorem m2_70 : Jmp1 method_3_code 70 (.if_icmp .lt 12) 12 73 82 := ⟨by decide +kernel, rfl, by decide, by decide⟩
theorem m2_73 : Ins1 method_3_code 73 (.iload_n 0) 1 74 := ⟨by decide +kernel, rfl⟩
theorem m2_74 : Ins1 method_3_code 74 (.sipush 879) 3 77 := ⟨by decide +kernel, rfl⟩
theorem m2_77 : Jmp1 method_3_code 77 (.if_icmp .gt 5) 5 80 82 := ⟨by decide +kernel, rfl, by decide, by decide⟩
theorem m2_80 : Ins1 method_3_code 80 (.iconst 0) 1 81 := ⟨by decide +kernel, rfl⟩
theorem m2_81 : Ins1 method_3_code 81 (.ireturn) 1 82 := ⟨by decide +kernel, rfl⟩
theorem m2_82 : Ins1 method_3_code 82 (.iload_n 0) 1 83 := ⟨by decide +kernel, rfl⟩
theorem m2_83 : Ins1 method_3_code 83 (.sipush 8192) 3 86 := ⟨by decide +kernel, rfl⟩
theorem m2_86 : Jmp1 method_3_code 86 (.if_icmp .lt 12) 12 89 98 := ⟨by decide +kernel, rfl, by decide, by decide⟩
theorem m2_89 : Ins1 method_3_code 89 (.iload_n 0) 1 90 := ⟨by decide +kernel, rfl⟩
theorem m2_90 : Ins1 method_3_code 90 (.sipush 8203) 3 93 := ⟨by decide +kernel, rfl⟩
theorem m2_93 : Jmp1 method_3_code 93 (.if_icmp .gt 5) 5 96 98 := ⟨by decide +kernel, rfl, by decide, by decide⟩
theorem m2_96 : Ins1 method_3_code 96 (.iconst 0) 1 97 := ⟨by decide +kernel, rfl⟩
theorem m2_97 : Ins1 method_3_code 97 (.ireturn) 1 98 := ⟨by decide +kernel, rfl⟩
theorem m2_98 : Ins1 method_3_code 98 (.iload_n 0) 1 99 := ⟨by decide +kernel, rfl⟩
theorem m2_99 : Ins1 method_3_code 99 (.sipush 8206) 3 102 := ⟨by decide +kernel, rfl⟩
theorem m2_102 : Jmp1 method_3_code 102 (.if_icmp .lt 12) 12 105 114 := ⟨by decide +kernel, rfl, by decide, by decide⟩
theorem m2_105 : Ins1 method_3_code 105 (.iload_n 0) 1 106 := ⟨by decide +kernel, rfl⟩
theorem m2_106 : Ins1 method_3_code 106 (.sipush 8303) 3 109 := ⟨by decide +kernel, rfl⟩
theorem m2_109 : Jmp1 method_3_code 109 (.if_icmp .gt 5) 5 112 114 := ⟨by decide +kernel, rfl, by decide, by decide⟩
theorem m2_112 : Ins1 method_3_code 112 (.iconst 0) 1 113 := ⟨by decide +kernel, rfl⟩
theorem m2_113 : Ins1 method_3_code 113 (.ireturn) 1 114 := ⟨by decide +kernel, rfl⟩
theorem m2_114 : Ins1 method_3_code 114 (.iload_n 0) 1 115 := ⟨by decide +kernel, rfl⟩
theorem m2_115 : Ins1 method_3_code 115 (.sipush 8592) 3 118 := ⟨by decide +kernel, rfl⟩
theorem m2_118 : Jmp1 method_3_code 118 (.if_icmp .lt 12) 12 121 130 := ⟨by decide +kernel, rfl, by decide, by decide⟩
theorem m2_121 : Ins1 method_3_code 121 (.iload_n 0) 1 122 := ⟨by decide +kernel, rfl⟩
theorem m2_122 : Ins1 method_3_code 122 (.sipush 11263) 3 125 := ⟨by decide +kernel, rfl⟩
theorem m2_125 : Jmp1 method_3_code 125 (.if_icmp .gt 5) 5 128 130 := ⟨by decide +kernel, rfl, by decide, by decide⟩
theorem m2_128 : Ins1 method_3_code 128 (.iconst 0) 1 129 := ⟨by decide +kernel, rfl⟩
theorem m2_129 : Ins1 method_3_code 129 (.ireturn) 1 130 := ⟨by decide +kernel, rfl⟩
theorem m2_130 : Ins1 method_3_code 130 (.iload_n 0) 1 131 := ⟨by decide +kernel, rfl⟩
theorem m2_131 : Ins1 method_3_code 131 (.sipush 12272) 3 134 := ⟨by decide +kernel, rfl⟩
theorem m2_134 : Jmp1 method_3_code 134 (.if_icmp .lt 12) 12 137 146 := ⟨by decide +kernel, rfl, by decide, by decide⟩
theorem m2_137 : Ins1 method_3_code 137 (.iload_n 0) 1 138 := ⟨by decide +kernel, rfl⟩
theorem m2_138 : Ins1 method_3_code 138 (.sipush 12288) 3 141 := ⟨by decide +kernel, rfl⟩
theorem m2_141 : Jmp1 method_3_code 141 (.if_icmp .gt 5) 5 144 146 := ⟨by decide +kernel, rfl, by decide, by decide⟩
theorem m2_144 : Ins1 method_3_code 144 (.iconst 0) 1 145 := ⟨by decide +kernel, rfl⟩
theorem m2_145 : Ins1 method_3_code 145 (.ireturn) 1 146 := ⟨by decide +kernel, rfl⟩
theorem m2_146 : Ins1 method_3_code 146 (.iload_n 0) 1 147 := ⟨by decide +kernel, rfl⟩
theorem m2_147 : Ins1 method_3_code 147 (.ldc 26) 2 149 := ⟨by decide +kernel, rfl⟩
theorem m2_149 : Jmp1 method_3_code 149 (.if_icmp .lt 11) 11 152 160 := ⟨by decide +kernel, rfl, by decide, by decide⟩
theorem m2_152 : Ins1 method_3_code 152 (.iload_n 0) 1 153 := ⟨by decide +kernel, rfl⟩
theorem m2_153 : Ins1 method_3_code 153 (.ldc 27) 2 155 := ⟨by decide +kernel, rfl⟩
theorem m2_155 : Jmp1 method_3_code 155 (.if_icmp .gt 5) 5 158 160 := ⟨by decide +kernel, rfl, by decide, by decide⟩
theorem m2_158 : Ins1 method_3_code 158 (.iconst 0) 1 159 := ⟨by decide +kernel, rfl⟩
theorem m2_159 : Ins1 method_3_code 159 (.ireturn) 1 160 := ⟨by decide +kernel, rfl⟩
theorem m2_160 : Ins1 method_3_code 160 (.iload_n 0) 1 161 := ⟨by decide +kernel, rfl⟩
theorem m2_161 : Ins1 method_3_code 161 (.ldc 28) 2 163 := ⟨by decide +kernel, rfl⟩
theorem m2_163 : Jmp1 method_3_code 163 (.if_icmp .lt 11) 11 166 174 := ⟨by decide +kernel, rfl, by decide, by decide⟩
theorem m2_166 : Ins1 method_3_code 166 (.iload_n 0) 1 167 := ⟨by decide +kernel, rfl⟩
theorem m2_167 : Ins1 method_3_code 167 (.ldc 29) 2 169 := ⟨by decide +kernel, rfl⟩
theorem m2_169 : Jmp1 method_3_code 169 (.if_icmp .gt 5) 5 172 174 := ⟨by decide +kernel, rfl, by decide, by decide⟩
theorem m2_172 : Ins1 method_3_code 172 (.iconst 0) 1 173 := ⟨by decide +kernel, rfl⟩
theorem m2_173 : Ins1 method_3_code 173 (.ireturn) 1 174 := ⟨by decide +kernel, rfl⟩
theorem m2_174 : Ins1 method_3_code 174 (.iload_n 0) 1 175 := ⟨by decide +kernel, rfl⟩
theorem m2_175 : Ins1 method_3_code 175 (.ldc 30) 2 177 := ⟨by decide +kernel, rfl⟩
theorem m2_177 : Jmp1 method_3_code 177 (.if_icmp .lt 11) 11 180 188 := ⟨by decide +kernel, rfl, by decide, by decide⟩
theorem m2_180 : Ins1 method_3_code 180 (.iload_n 0) 1 181 := ⟨by decide +kernel, rfl⟩
theorem m2_181 : Ins1 method_3_code 181 (.ldc 31) 2 183 := ⟨by decide +kernel, rfl⟩
theorem m2_183 : Jmp1 method_3_code 183 (.if_icmp .gt 5) 5 186 188 := ⟨by decide +kernel, rfl, by decide, by decide⟩
theorem m2_186 : Ins1 method_3_code 186 (.iconst 0) 1 187 := ⟨by decide +kernel, rfl⟩
theorem m2_187 : Ins1 method_3_code 187 (.ireturn) 1 188 := ⟨by decide +kernel, rfl⟩
theorem m2_188 : Ins1 method_3_code 188 (.iconst 1) 1 189 := ⟨by decide +kernel, rfl⟩
theorem m2_189 : Ins1 method_3_code 189 (.ireturn) 1 190 := ⟨by decide +kernel, rfl⟩
theorem pl2 : plainFor y2 = true := plainFor_of_name (show plainName "com/example/blankscope/blankscope/io/LineScannerIsNameBaseCharPinLaw" = true by first | (simp [plainName, overriddenIn]; done) | decide +kernel)
theorem pd2 : parseMethodDescriptor "(I)Z" = some ⟨[.int], some .boolean⟩ := by decide +kernel
set_option maxRecDepth 65536 in
set_option maxHeartbeats 4000000 in
theorem own_ref (Z : State) (a0 : Array Value) (hw : ∀ d ∈ tables_1, d.before a0 Z = true) (c : Int32)  (h : Heap) (n0 : Nat)  :
    Con Z y2 method_3_code 1 (some .boolean) ({ frames := 0, cells := 0, slots := 0, locals := 0 } : Room) [(.int c)] h n0 (fun v h' => h = h' ∧ ∃ z : Int32, v = some (.int z) ∧ ((z.toInt = 1 ∧ own_P c.toInt) ∨ (z.toInt = 0 ∧ ¬ own_P c.toInt))) := by
  refine Con.of pl2 (L := [.val (.int c)]) (fun m => by first | (simp [entryFrame, mkF, argsToLocals, Value.category]; done) | rfl) ?_
  intro κ Qx hQ C
  refine W.iloadN C m2_0 rfl ?_
  refine W.bipush C m2_1 (z := (65 : Int32)) rfl ?_
  refine W.icmp C m2_3 ?_ ?_
  · intro (h3 : c.toInt < (65 : Int))
    refine W.iconst C m2_12 (z := (0 : Int32)) rfl ?_
    refine W.zreturn C m2_13 (hQ _ _ ?_)
    exact ⟨rfl, 0, rfl, Or.inr ⟨rfl, by unfold own_P; omega⟩⟩
  · intro (h3 : ¬ (c.toInt < (65 : Int)))
    replace h3 : (65 : Int) ≤ c.toInt := by omega
    refine W.iloadN C m2_6 rfl ?_
    refine W.ldc C m2_7 (hw _ (List.mem_of_getElem? (i := 7) rfl)) ?_
    refine W.icmp C m2_9 ?_ ?_
    · intro (h9 : c.toInt ≤ (983039 : Int))
      refine W.iloadN C m2_14 rfl ?_
      refine W.bipush C m2_15 (z := (91 : Int32)) rfl ?_
      suffices J17 : ∀ (_u : Unit), (((c.toInt < (91 : Int))) ∨ (((91 : Int) ≤ c.toInt) ∧ ((96 : Int) < c.toInt))) → W κ n0 Qx h 0 0 28 [.val (.int c)] [] by
        refine W.icmp C m2_17 ?_ ?_
        · intro (h17 : c.toInt < (91 : Int))
          exact J17 () (Or.inl h17)
        · intro (h17 : ¬ (c.toInt < (91 : Int)))
          replace h17 : (91 : Int) ≤ c.toInt := by omega
          refine W.iloadN C m2_20 rfl ?_
          refine W.bipush C m2_21 (z := (96 : Int32)) rfl ?_
          refine W.icmp C m2_23 ?_ ?_
          · intro (h23 : (96 : Int) < c.toInt)
            exact J17 () (Or.inr (⟨h17, h23⟩))
          · intro (h23 : ¬ ((96 : Int) < c.toInt))
            replace h23 : c.toInt ≤ (96 : Int) := by omega
            refine W.iconst C m2_26 (z := (0 : Int32)) rfl ?_
            refine W.zreturn C m2_27 (hQ _ _ ?_)
            exact ⟨rfl, 0, rfl, Or.inr ⟨rfl, by unfold own_P; omega⟩⟩
      intro _ hJ17
      refine W.iloadN C m2_28 rfl ?_
      refine W.bipush C m2_29 (z := (123 : Int32)) rfl ?_
      suffices J31 : ∀ (_u : Unit), (((c.toInt < (123 : Int))) ∨ (((123 : Int) ≤ c.toInt) ∧ ((191 : Int) < c.toInt))) → W κ n0 Qx h 0 0 43 [.val (.int c)] [] by
        refine W.icmp C m2_31 ?_ ?_
        · intro (h31 : c.toInt < (123 : Int))
          exact J31 () (Or.inl h31)
        · intro (h31 : ¬ (c.toInt < (123 : Int)))
          replace h31 : (123 : Int) ≤ c.toInt := by omega
          refine W.iloadN C m2_34 rfl ?_
          refine W.sipush C m2_35 (z := (191 : Int32)) rfl ?_
          refine W.icmp C m2_38 ?_ ?_
          · intro (h38 : (191 : Int) < c.toInt)
            exact J31 () (Or.inr (⟨h31, h38⟩))
          · intro (h38 : ¬ ((191 : Int) < c.toInt))
            replace h38 : c.toInt ≤ (191 : Int) := by omega
            refine W.iconst C m2_41 (z := (0 : Int32)) rfl ?_
            refine W.zreturn C m2_42 (hQ _ _ ?_)
            exact ⟨rfl, 0, rfl, Or.inr ⟨rfl, by unfold own_P; omega⟩⟩
      intro _ hJ31
      refine W.iloadN C m2_43 rfl ?_
      refine W.sipush C m2_44 (z := (215 : Int32)) rfl ?_
      refine W.icmp C m2_47 ?_ ?_
      · intro (h47 : c.toInt = (215 : Int))
        refine W.iconst C m2_64 (z := (0 : Int32)) rfl ?_
        refine W.zreturn C m2_65 (hQ _ _ ?_)
        exact ⟨rfl, 0, rfl, Or.inr ⟨rfl, by unfold own_P; omega⟩⟩
      · intro (h47 : ¬ (c.toInt = (215 : Int)))
        refine W.iloadN C m2_50 rfl ?_
        refine W.sipush C m2_51 (z := (247 : Int32)) rfl ?_
        refine W.icmp C m2_54 ?_ ?_
        · intro (h54 : c.toInt = (247 : Int))
          refine W.iconst C m2_64 (z := (0 : Int32)) rfl ?_
          refine W.zreturn C m2_65 (hQ _ _ ?_)
          exact ⟨rfl, 0, rfl, Or.inr ⟨rfl, by unfold own_P; omega⟩⟩
        · intro (h54 : ¬ (c.toInt = (247 : Int)))
          refine W.iloadN C m2_57 rfl ?_
          refine W.sipush C m2_58 (z := (894 : Int32)) rfl ?_
          refine W.icmp C m2_61 ?_ ?_
          · intro (h61 : ¬ c.toInt = (894 : Int))
            refine W.iloadN C m2_66 rfl ?_
            refine W.sipush C m2_67 (z := (768 : Int32)) rfl ?_
            suffices J70 : ∀ (_u : Unit), (((c.toInt < (768 : Int))) ∨ (((768 : Int) ≤ c.toInt) ∧ ((879 : Int) < c.toInt))) → W κ n0 Qx h 0 0 82 [.val (.int c)] [] by
              refine W.icmp C m2_70 ?_ ?_
              · intro (h70 : c.toInt < (768 : Int))
                exact J70 () (Or.inl h70)
              · intro (h70 : ¬ (c.toInt < (768 : Int)))
                replace h70 : (768 : Int) ≤ c.toInt := by omega
                refine W.iloadN C m2_73 rfl ?_
                refine W.sipush C m2_74 (z := (879 : Int32)) rfl ?_
                refine W.icmp C m2_77 ?_ ?_
                · intro (h77 : (879 : Int) < c.toInt)
                  exact J70 () (Or.inr (⟨h70, h77⟩))
                · intro (h77 : ¬ ((879 : Int) < c.toInt))
                  replace h77 : c.toInt ≤ (879 : Int) := by omega
                  refine W.iconst C m2_80 (z := (0 : Int32)) rfl ?_
                  refine W.zreturn C m2_81 (hQ _ _ ?_)
                  exact ⟨rfl, 0, rfl, Or.inr ⟨rfl, by unfold own_P; omega⟩⟩
            intro _ hJ70
            refine W.iloadN C m2_82 rfl ?_
            refine W.sipush C m2_83 (z := (8192 : Int32)) rfl ?_
            suffices J86 : ∀ (_u : Unit), (((c.toInt < (8192 : Int))) ∨ (((8192 : Int) ≤ c.toInt) ∧ ((8203 : Int) < c.toInt))) → W κ n0 Qx h 0 0 98 [.val (.int c)] [] by
              refine W.icmp C m2_86 ?_ ?_
              · intro (h86 : c.toInt < (8192 : Int))
                exact J86 () (Or.inl h86)
              · intro (h86 : ¬ (c.toInt < (8192 : Int)))
                replace h86 : (8192 : Int) ≤ c.toInt := by omega
                refine W.iloadN C m2_89 rfl ?_
                refine W.sipush C m2_90 (z := (8203 : Int32)) rfl ?_
                refine W.icmp C m2_93 ?_ ?_
                · intro (h93 : (8203 : Int) < c.toInt)
                  exact J86 () (Or.inr (⟨h86, h93⟩))
                · intro (h93 : ¬ ((8203 : Int) < c.toInt))
                  replace h93 : c.toInt ≤ (8203 : Int) := by omega
                  refine W.iconst C m2_96 (z := (0 : Int32)) rfl ?_
                  refine W.zreturn C m2_97 (hQ _ _ ?_)
                  exact ⟨rfl, 0, rfl, Or.inr ⟨rfl, by unfold own_P; omega⟩⟩
            intro _ hJ86
            refine W.iloadN C m2_98 rfl ?_
            refine W.sipush C m2_99 (z := (8206 : Int32)) rfl ?_
            suffices J102 : ∀ (_u : Unit), (((c.toInt < (8206 : Int))) ∨ (((8206 : Int) ≤ c.toInt) ∧ ((8303 : Int) < c.toInt))) → W κ n0 Qx h 0 0 114 [.val (.int c)] [] by
              refine W.icmp C m2_102 ?_ ?_
              · intro (h102 : c.toInt < (8206 : Int))
                exact J102 () (Or.inl h102)
              · intro (h102 : ¬ (c.toInt < (8206 : Int)))
                replace h102 : (8206 : Int) ≤ c.toInt := by omega
                refine W.iloadN C m2_105 rfl ?_
                refine W.sipush C m2_106 (z := (8303 : Int32)) rfl ?_
                refine W.icmp C m2_109 ?_ ?_
                · intro (h109 : (8303 : Int) < c.toInt)
                  exact J102 () (Or.inr (⟨h102, h109⟩))
                · intro (h109 : ¬ ((8303 : Int) < c.toInt))
                  replace h109 : c.toInt ≤ (8303 : Int) := by omega
                  refine W.iconst C m2_112 (z := (0 : Int32)) rfl ?_
                  refine W.zreturn C m2_113 (hQ _ _ ?_)
                  exact ⟨rfl, 0, rfl, Or.inr ⟨rfl, by unfold own_P; omega⟩⟩
            intro _ hJ102
            refine W.iloadN C m2_114 rfl ?_
            refine W.sipush C m2_115 (z := (8592 : Int32)) rfl ?_
            suffices J118 : ∀ (_u : Unit), (((c.toInt < (8592 : Int))) ∨ (((8592 : Int) ≤ c.toInt) ∧ ((11263 : Int) < c.toInt))) → W κ n0 Qx h 0 0 130 [.val (.int c)] [] by
              refine W.icmp C m2_118 ?_ ?_
              · intro (h118 : c.toInt < (8592 : Int))
                exact J118 () (Or.inl h118)
              · intro (h118 : ¬ (c.toInt < (8592 : Int)))
                replace h118 : (8592 : Int) ≤ c.toInt := by omega
                refine W.iloadN C m2_121 rfl ?_
                refine W.sipush C m2_122 (z := (11263 : Int32)) rfl ?_
                refine W.icmp C m2_125 ?_ ?_
                · intro (h125 : (11263 : Int) < c.toInt)
                  exact J118 () (Or.inr (⟨h118, h125⟩))
                · intro (h125 : ¬ ((11263 : Int) < c.toInt))
                  replace h125 : c.toInt ≤ (11263 : Int) := by omega
                  refine W.iconst C m2_128 (z := (0 : Int32)) rfl ?_
                  refine W.zreturn C m2_129 (hQ _ _ ?_)
                  exact ⟨rfl, 0, rfl, Or.inr ⟨rfl, by unfold own_P; omega⟩⟩
            intro _ hJ118
            refine W.iloadN C m2_130 rfl ?_
            refine W.sipush C m2_131 (z := (12272 : Int32)) rfl ?_
            suffices J134 : ∀ (_u : Unit), (((c.toInt < (12272 : Int))) ∨ (((12272 : Int) ≤ c.toInt) ∧ ((12288 : Int) < c.toInt))) → W κ n0 Qx h 0 0 146 [.val (.int c)] [] by
              refine W.icmp C m2_134 ?_ ?_
              · intro (h134 : c.toInt < (12272 : Int))
                exact J134 () (Or.inl h134)
              · intro (h134 : ¬ (c.toInt < (12272 : Int)))
                replace h134 : (12272 : Int) ≤ c.toInt := by omega
                refine W.iloadN C m2_137 rfl ?_
                refine W.sipush C m2_138 (z := (12288 : Int32)) rfl ?_
                refine W.icmp C m2_141 ?_ ?_
                · intro (h141 : (12288 : Int) < c.toInt)
                  exact J134 () (Or.inr (⟨h134, h141⟩))
                · intro (h141 : ¬ ((12288 : Int) < c.toInt))
                  replace h141 : c.toInt ≤ (12288 : Int) := by omega
                  refine W.iconst C m2_144 (z := (0 : Int32)) rfl ?_
                  refine W.zreturn C m2_145 (hQ _ _ ?_)
                  exact ⟨rfl, 0, rfl, Or.inr ⟨rfl, by unfold own_P; omega⟩⟩
            intro _ hJ134
            refine W.iloadN C m2_146 rfl ?_
            refine W.ldc C m2_147 (hw _ (List.mem_of_getElem? (i := 20) rfl)) ?_
            suffices J149 : ∀ (_u : Unit), (((c.toInt < (55296 : Int))) ∨ (((55296 : Int) ≤ c.toInt) ∧ ((63743 : Int) < c.toInt))) → W κ n0 Qx h 0 0 160 [.val (.int c)] [] by
              refine W.icmp C m2_149 ?_ ?_
              · intro (h149 : c.toInt < (55296 : Int))
                exact J149 () (Or.inl h149)
              · intro (h149 : ¬ (c.toInt < (55296 : Int)))
                replace h149 : (55296 : Int) ≤ c.toInt := by omega
                refine W.iloadN C m2_152 rfl ?_
                refine W.ldc C m2_153 (hw _ (List.mem_of_getElem? (i := 27) rfl)) ?_
                refine W.icmp C m2_155 ?_ ?_
                · intro (h155 : (63743 : Int) < c.toInt)
                  exact J149 () (Or.inr (⟨h149, h155⟩))
                · intro (h155 : ¬ ((63743 : Int) < c.toInt))
                  replace h155 : c.toInt ≤ (63743 : Int) := by omega
                  refine W.iconst C m2_158 (z := (0 : Int32)) rfl ?_
                  refine W.zreturn C m2_159 (hQ _ _ ?_)
                  exact ⟨rfl, 0, rfl, Or.inr ⟨rfl, by unfold own_P; omega⟩⟩
            intro _ hJ149
            refine W.iloadN C m2_160 rfl ?_
            refine W.ldc C m2_161 (hw _ (List.mem_of_getElem? (i := 21) rfl)) ?_
            suffices J163 : ∀ (_u : Unit), (((c.toInt < (64976 : Int))) ∨ (((64976 : Int) ≤ c.toInt) ∧ ((65007 : Int) < c.toInt))) → W κ n0 Qx h 0 0 174 [.val (.int c)] [] by
              refine W.icmp C m2_163 ?_ ?_
              · intro (h163 : c.toInt < (64976 : Int))
                exact J163 () (Or.inl h163)
              · intro (h163 : ¬ (c.toInt < (64976 : Int)))
                replace h163 : (64976 : Int) ≤ c.toInt := by omega
                refine W.iloadN C m2_166 rfl ?_
                refine W.ldc C m2_167 (hw _ (List.mem_of_getElem? (i := 28) rfl)) ?_
                refine W.icmp C m2_169 ?_ ?_
                · intro (h169 : (65007 : Int) < c.toInt)
                  exact J163 () (Or.inr (⟨h163, h169⟩))
                · intro (h169 : ¬ ((65007 : Int) < c.toInt))
                  replace h169 : c.toInt ≤ (65007 : Int) := by omega
                  refine W.iconst C m2_172 (z := (0 : Int32)) rfl ?_
                  refine W.zreturn C m2_173 (hQ _ _ ?_)
                  exact ⟨rfl, 0, rfl, Or.inr ⟨rfl, by unfold own_P; omega⟩⟩
            intro _ hJ163
            refine W.iloadN C m2_174 rfl ?_
            refine W.ldc C m2_175 (hw _ (List.mem_of_getElem? (i := 22) rfl)) ?_
            refine W.icmp C m2_177 ?_ ?_
            · intro (h177 : c.toInt < (65534 : Int))
              refine W.iconst C m2_188 (z := (1 : Int32)) rfl ?_
              refine W.zreturn C m2_189 (hQ _ _ ?_)
              exact ⟨rfl, 1, rfl, Or.inl ⟨rfl, by unfold own_P; omega⟩⟩
            · intro (h177 : ¬ (c.toInt < (65534 : Int)))
              replace h177 : (65534 : Int) ≤ c.toInt := by omega
              refine W.iloadN C m2_180 rfl ?_
              refine W.ldc C m2_181 (hw _ (List.mem_of_getElem? (i := 29) rfl)) ?_
              refine W.icmp C m2_183 ?_ ?_
              · intro (h183 : (65535 : Int) < c.toInt)
                refine W.iconst C m2_188 (z := (1 : Int32)) rfl ?_
                refine W.zreturn C m2_189 (hQ _ _ ?_)
                exact ⟨rfl, 1, rfl, Or.inl ⟨rfl, by unfold own_P; omega⟩⟩
              · intro (h183 : ¬ ((65535 : Int) < c.toInt))
                replace h183 : c.toInt ≤ (65535 : Int) := by omega
                refine W.iconst C m2_186 (z := (0 : Int32)) rfl ?_
                refine W.zreturn C m2_187 (hQ _ _ ?_)
                exact ⟨rfl, 0, rfl, Or.inr ⟨rfl, by unfold own_P; omega⟩⟩
          · intro (h61 : ¬ ¬ c.toInt = (894 : Int))
            replace h61 := Decidable.not_not.mp h61
            refine W.iconst C m2_64 (z := (0 : Int32)) rfl ?_
            refine W.zreturn C m2_65 (hQ _ _ ?_)
            exact ⟨rfl, 0, rfl, Or.inr ⟨rfl, by unfold own_P; omega⟩⟩
    · intro (h9 : ¬ (c.toInt ≤ (983039 : Int)))
      replace h9 : (983039 : Int) < c.toInt := by omega
      refine W.iconst C m2_12 (z := (0 : Int32)) rfl ?_
      refine W.zreturn C m2_13 (hQ _ _ ?_)
      exact ⟨rfl, 0, rfl, Or.inr ⟨rfl, by unfold own_P; omega⟩⟩
theorem own_at (xs : List Int32) {i : Nat} (hi : i < xs.length) : ∃ v : Int32, (xs.map Value.int)[i]? = some (.int v) := ⟨xs[i], by simp [hi]⟩
theorem own_ix {x : Int32} : ∃ i : Nat, ((x &&& (2147483647 : Int32)) % (28 : Int32)).toInt = i ∧ i < 28 := by
  have t1 := rng32 x
  have t2 : (2147483647 : Int32).toInt = 2147483647 := rfl
  have t3 := c_mask x (2147483647 : Int32) 31 (by decide) (by decide)
  have t4 : (28 : Int32).toInt = 28 := rfl
  have t5 := c_irem (x &&& (2147483647 : Int32)) (28 : Int32) 28 rfl
  have t6 := rng32 ((x &&& (2147483647 : Int32)) % (28 : Int32))
  exact ⟨((x &&& (2147483647 : Int32)) % (28 : Int32)).toInt.toNat, by omega, by omega⟩
abbrev y0 : MethodName := x
theorem m0_0 : Ins1 code 0 (.bipush 28) 2 2 := ⟨at_0, rfl⟩
theorem m0_2 : Ins1 code 2 (.newarray .int) 2 4 := ⟨at_2, rfl⟩
theorem m0_4 : Ins1 code 4 (.dup) 1 5 := ⟨at_4, rfl⟩
theorem m0_5 : Ins1 code 5 (.iconst 0) 1 6 := ⟨at_5, rfl⟩
theorem m0_6 : Ins1 code 6 (.bipush 65) 2 8 := ⟨at_6, rfl⟩
theorem m0_8 : Ins1 code 8 (.iastore) 1 9 := ⟨at_8, rfl⟩
theorem m0_9 : Ins1 code 9 (.dup) 1 10 := ⟨at_9, rfl⟩
theorem m0_10 : Ins1 code 10 (.iconst 1) 1 11 := ⟨at_10, rfl⟩
theorem m0_11 : Ins1 code 11 (.bipush 90) 2 13 := ⟨at_11, rfl⟩
theorem m0_13 : Ins1 code 13 (.iastore) 1 14 := ⟨at_13, rfl⟩
theorem m0_14 : Ins1 code 14 (.dup) 1 15 := ⟨at_14, rfl⟩
theorem m0_15 : Ins1 code 15 (.iconst 2) 1 16 := ⟨at_15, rfl⟩
theorem m0_16 : Ins1 code 16 (.bipush 97) 2 18 := ⟨at_16, rfl⟩
theorem m0_18 : Ins1 code 18 (.iastore) 1 19 := ⟨at_18, rfl⟩
theorem m0_19 : Ins1 code 19 (.dup) 1 20 := ⟨at_19, rfl⟩
theorem m0_20 : Ins1 code 20 (.iconst 3) 1 21 := ⟨at_20, rfl⟩
theorem m0_21 : Ins1 code 21 (.bipush 122) 2 23 := ⟨at_21, rfl⟩
theorem m0_23 : Ins1 code 23 (.iastore) 1 24 := ⟨at_23, rfl⟩
theorem m0_24 : Ins1 code 24 (.dup) 1 25 := ⟨at_24, rfl⟩
theorem m0_25 : Ins1 code 25 (.iconst 4) 1 26 := ⟨at_25, rfl⟩
theorem m0_26 : Ins1 code 26 (.sipush 192) 3 29 := ⟨at_26, rfl⟩
theorem m0_29 : Ins1 code 29 (.iastore) 1 30 := ⟨at_29, rfl⟩
theorem m0_30 : Ins1 code 30 (.dup) 1 31 := ⟨at_30, rfl⟩
theorem m0_31 : Ins1 code 31 (.iconst 5) 1 32 := ⟨at_31, rfl⟩
theorem m0_32 : Ins1 code 32 (.sipush 214) 3 35 := ⟨at_32, rfl⟩
theorem m0_35 : Ins1 code 35 (.iastore) 1 36 := ⟨at_35, rfl⟩
theorem m0_36 : Ins1 code 36 (.dup) 1 37 := ⟨at_36, rfl⟩
theorem m0_37 : Ins1 code 37 (.bipush 6) 2 39 := ⟨at_37, rfl⟩
theorem m0_39 : Ins1 code 39 (.sipush 216) 3 42 := ⟨at_39, rfl⟩
theorem m0_42 : Ins1 code 42 (.iastore) 1 43 := ⟨at_42, rfl⟩
theorem m0_43 : Ins1 code 43 (.dup) 1 44 := ⟨at_43, rfl⟩
theorem m0_44 : Ins1 code 44 (.bipush 7) 2 46 := ⟨at_44, rfl⟩
theorem m0_46 : Ins1 code 46 (.sipush 246) 3 49 := ⟨at_46, rfl⟩
theorem m0_49 : Ins1 code 49 (.iastore) 1 50 := ⟨at_49, rfl⟩
theorem m0_50 : Ins1 code 50 (.dup) 1 51 := ⟨at_50, rfl⟩
theorem m0_51 : Ins1 code 51 (.bipush 8) 2 53 := ⟨at_51, rfl⟩
theorem m0_53 : Ins1 code 53 (.sipush 248) 3 56 := ⟨at_53, rfl⟩
theorem m0_56 : Ins1 code 56 (.iastore) 1 57 := ⟨at_56, rfl⟩
theorem m0_57 : Ins1 code 57 (.dup) 1 58 := ⟨at_57, rfl⟩
theorem m0_58 : Ins1 code 58 (.bipush 9) 2 60 := ⟨at_58, rfl⟩
theorem m0_60 : Ins1 code 60 (.sipush 767) 3 63 := ⟨at_60, rfl⟩
theorem m0_63 : Ins1 code 63 (.iastore) 1 64 := ⟨at_63, rfl⟩
theorem m0_64 : Ins1 code 64 (.dup) 1 65 := ⟨at_64, rfl⟩
theorem m0_65 : Ins1 code 65 (.bipush 10) 2 67 := ⟨at_65, rfl⟩
theorem m0_67 : Ins1 code 67 (.sipush 880) 3 70 := ⟨at_67, rfl⟩
theorem m0_70 : Ins1 code 70 (.iastore) 1 71 := ⟨at_70, rfl⟩
theorem m0_71 : Ins1 code 71 (.dup) 1 72 := ⟨at_71, rfl⟩
theorem m0_72 : Ins1 code 72 (.bipush 11) 2 74 := ⟨at_72, rfl⟩
theorem m0_74 : Ins1 code 74 (.sipush 893) 3 77 := ⟨at_74, rfl⟩
theorem m0_77 : Ins1 code 77 (.iastore) 1 78 := ⟨at_77, rfl⟩
theorem m0_78 : Ins1 code 78 (.dup) 1 79 := ⟨at_78, rfl⟩
theorem m0_79 : Ins1 code 79 (.bipush 12) 2 81 := ⟨at_79, rfl⟩
theorem m0_81 : Ins1 code 81 (.sipush 895) 3 84 := ⟨at_81, rfl⟩
theorem m0_84 : Ins1 code 84 (.iastore) 1 85 := ⟨at_84, rfl⟩
theorem m0_85 : Ins1 code 85 (.dup) 1 86 := ⟨at_85, rfl⟩
theorem m0_86 : Ins1 code 86 (.bipush 13) 2 88 := ⟨at_86, rfl⟩
theorem m0_88 : Ins1 code 88 (.sipush 8191) 3 91 := ⟨at_88, rfl⟩
theorem m0_91 : Ins1 code 91 (.iastore) 1 92 := ⟨at_91, rfl⟩
theorem m0_92 : Ins1 code 92 (.dup) 1 93 := ⟨at_92, rfl⟩
theorem m0_93 : Ins1 code 93 (.bipush 14) 2 95 := ⟨at_93, rfl⟩
theorem m0_95 : Ins1 code 95 (.sipush 8204) 3 98 := ⟨at_95, rfl⟩
theorem m0_98 : Ins1 code 98 (.iastore) 1 99 := ⟨at_98, rfl⟩
theorem m0_99 : Ins1 code 99 (.dup) 1 100 := ⟨at_99, rfl⟩
theorem m0_100 : Ins1 code 100 (.bipush 15) 2 102 := ⟨at_100, rfl⟩
theorem m0_102 : Ins1 code 102 (.sipush 8205) 3 105 := ⟨at_102, rfl⟩
theorem m0_105 : Ins1 code 105 (.iastore) 1 106 := ⟨at_105, rfl⟩
theorem m0_106 : Ins1 code 106 (.dup) 1 107 := ⟨at_106, rfl⟩
theorem m0_107 : Ins1 code 107 (.bipush 16) 2 109 := ⟨at_107, rfl⟩
theorem m0_109 : Ins1 code 109 (.sipush 8304) 3 112 := ⟨at_109, rfl⟩
theorem m0_112 : Ins1 code 112 (.iastore) 1 113 := ⟨at_112, rfl⟩
theorem m0_113 : Ins1 code 113 (.dup) 1 114 := ⟨at_113, rfl⟩
theorem m0_114 : Ins1 code 114 (.bipush 17) 2 116 := ⟨at_114, rfl⟩
theorem m0_116 : Ins1 code 116 (.sipush 8591) 3 119 := ⟨at_116, rfl⟩
theorem m0_119 : Ins1 code 119 (.iastore) 1 120 := ⟨at_119, rfl⟩
theorem m0_120 : Ins1 code 120 (.dup) 1 121 := ⟨at_120, rfl⟩
theorem m0_121 : Ins1 code 121 (.bipush 18) 2 123 := ⟨at_121, rfl⟩
theorem m0_123 : Ins1 code 123 (.sipush 11264) 3 126 := ⟨at_123, rfl⟩
theorem m0_126 : Ins1 code 126 (.iastore) 1 127 := ⟨at_126, rfl⟩
theorem m0_127 : Ins1 code 127 (.dup) 1 128 := ⟨at_127, rfl⟩
theorem m0_128 : Ins1 code 128 (.bipush 19) 2 130 := ⟨at_128, rfl⟩
theorem m0_130 : Ins1 code 130 (.sipush 12271) 3 133 := ⟨at_130, rfl⟩
theorem m0_133 : Ins1 code 133 (.iastore) 1 134 := ⟨at_133, rfl⟩
theorem m0_134 : Ins1 code 134 (.dup) 1 135 := ⟨at_134, rfl⟩
theorem m0_135 : Ins1 code 135 (.bipush 20) 2 137 := ⟨at_135, rfl⟩
theorem m0_137 : Ins1 code 137 (.sipush 12289) 3 140 := ⟨at_137, rfl⟩
theorem m0_140 : Ins1 code 140 (.iastore) 1 141 := ⟨at_140, rfl⟩
theorem m0_141 : Ins1 code 141 (.dup) 1 142 := ⟨at_141, rfl⟩
theorem m0_142 : Ins1 code 142 (.bipush 21) 2 144 := ⟨at_142, rfl⟩
theorem m0_144 : Ins1 code 144 (.ldc 7) 2 146 := ⟨at_144, rfl⟩
theorem m0_146 : Ins1 code 146 (.iastore) 1 147 := ⟨at_146, rfl⟩
theorem m0_147 : Ins1 code 147 (.dup) 1 148 := ⟨at_147, rfl⟩
theorem m0_148 : Ins1 code 148 (.bipush 22) 2 150 := ⟨at_148, rfl⟩
theorem m0_150 : Ins1 code 150 (.ldc 8) 2 152 := ⟨at_150, rfl⟩
theorem m0_152 : Ins1 code 152 (.iastore) 1 153 := ⟨at_152, rfl⟩
theorem m0_153 : Ins1 code 153 (.dup) 1 154 := ⟨at_153, rfl⟩
theorem m0_154 : Ins1 code 154 (.bipush 23) 2 156 := ⟨at_154, rfl⟩
theorem m0_156 : Ins1 code 156 (.ldc 9) 2 158 := ⟨at_156, rfl⟩
theorem m0_158 : Ins1 code 158 (.iastore) 1 159 := ⟨at_158, rfl⟩
theorem m0_159 : Ins1 code 159 (.dup) 1 160 := ⟨at_159, rfl⟩
theorem m0_160 : Ins1 code 160 (.bipush 24) 2 162 := ⟨at_160, rfl⟩
theorem m0_162 : Ins1 code 162 (.ldc 10) 2 164 := ⟨at_162, rfl⟩
theorem m0_164 : Ins1 code 164 (.iastore) 1 165 := ⟨at_164, rfl⟩
theorem m0_165 : Ins1 code 165 (.dup) 1 166 := ⟨at_165, rfl⟩
theorem m0_166 : Ins1 code 166 (.bipush 25) 2 168 := ⟨at_166, rfl⟩
theorem m0_168 : Ins1 code 168 (.ldc 11) 2 170 := ⟨at_168, rfl⟩
theorem m0_170 : Ins1 code 170 (.iastore) 1 171 := ⟨at_170, rfl⟩
theorem m0_171 : Ins1 code 171 (.dup) 1 172 := ⟨at_171, rfl⟩
theorem m0_172 : Ins1 code 172 (.bipush 26) 2 174 := ⟨at_172, rfl⟩
theorem m0_174 : Ins1 code 174 (.ldc 12) 2 176 := ⟨at_174, rfl⟩
theorem m0_176 : Ins1 code 176 (.iastore) 1 177 := ⟨at_176, rfl⟩
theorem m0_177 : Ins1 code 177 (.dup) 1 178 := ⟨at_177, rfl⟩
theorem m0_178 : Ins1 code 178 (.bipush 27) 2 180 := ⟨at_178, rfl⟩
theorem m0_180 : Ins1 code 180 (.ldc 13) 2 182 := ⟨at_180, rfl⟩
theorem m0_182 : Ins1 code 182 (.iastore) 1 183 := ⟨at_182, rfl⟩
theorem m0_183 : Ins1 code 183 (.astore_n 3) 1 184 := ⟨at_183, rfl⟩
theorem m0_184 : Ins1 code 184 (.aload_n 3) 1 185 := ⟨at_184, rfl⟩
theorem m0_185 : Ins1 code 185 (.iload_n 1) 1 186 := ⟨at_185, rfl⟩
theorem m0_186 : Ins1 code 186 (.ldc 14) 2 188 := ⟨at_186, rfl⟩
theorem m0_188 : Ins1 code 188 (.iand) 1 189 := ⟨at_188, rfl⟩
theorem m0_189 : Ins1 code 189 (.bipush 28) 2 191 := ⟨at_189, rfl⟩
theorem m0_191 : Ins1 code 191 (.irem) 1 192 := ⟨at_191, rfl⟩
theorem m0_192 : Ins1 code 192 (.iaload) 1 193 := ⟨at_192, rfl⟩
theorem m0_193 : Ins1 code 193 (.iload_n 2) 1 194 := ⟨at_193, rfl⟩
theorem m0_194 : Ins1 code 194 (.ldc 14) 2 196 := ⟨at_194, rfl⟩
theorem m0_196 : Ins1 code 196 (.iand) 1 197 := ⟨at_196, rfl⟩
theorem m0_197 : Ins1 code 197 (.iconst 3) 1 198 := ⟨at_197, rfl⟩
theorem m0_198 : Ins1 code 198 (.irem) 1 199 := ⟨at_198, rfl⟩
theorem m0_199 : Ins1 code 199 (.iadd) 1 200 := ⟨at_199, rfl⟩
theorem m0_200 : Ins1 code 200 (.iconst 1) 1 201 := ⟨at_200, rfl⟩
theorem m0_201 : Ins1 code 201 (.isub) 1 202 := ⟨at_201, rfl⟩
theorem m0_202 : Ins1 code 202 (.istore 4) 2 204 := ⟨at_202, rfl⟩
theorem m0_204 : Ins1 code 204 (.iload_n 0) 1 205 := ⟨at_204, rfl⟩
theorem m0_205 : Ins1 code 205 (.invokestatic 15) 3 208 := ⟨at_205, rfl⟩
theorem m0_208 : Ins1 code 208 (.iload_n 0) 1 209 := ⟨at_208, rfl⟩
theorem m0_209 : Ins1 code 209 (.invokestatic 21) 3 212 := ⟨at_209, rfl⟩
theorem m0_212 : Jmp1 code 212 (.if_icmp .ne 20) 20 215 232 := ⟨at_212, rfl, by decide, by decide⟩
theorem m0_215 : Ins1 code 215 (.iload 4) 2 217 := ⟨at_215, rfl⟩
theorem m0_217 : Ins1 code 217 (.invokestatic 15) 3 220 := ⟨at_217, rfl⟩
theorem m0_220 : Ins1 code 220 (.iload 4) 2 222 := ⟨at_220, rfl⟩
theorem m0_222 : Ins1 code 222 (.invokestatic 21) 3 225 := ⟨at_222, rfl⟩
theorem m0_225 : Jmp1 code 225 (.if_icmp .ne 7) 7 228 232 := ⟨at_225, rfl, by decide, by decide⟩
theorem m0_228 : Ins1 code 228 (.iconst 1) 1 229 := ⟨at_228, rfl⟩
theorem m0_229 : Jmp1 code 229 (.goto 4) 4 232 233 := ⟨at_229, rfl, by decide, by decide⟩
theorem m0_232 : Ins1 code 232 (.iconst 0) 1 233 := ⟨at_232, rfl⟩
theorem m0_233 : Ins1 code 233 (.ireturn) 1 234 := ⟨at_233, rfl⟩
theorem pl0 : plainFor y0 = true := plainFor_of_name (show plainName "com/example/blankscope/blankscope/io/LineScannerIsNameBaseCharPinLaw" = true by first | (simp [plainName, overriddenIn]; done) | decide +kernel)
theorem pd0 : parseMethodDescriptor "(III)Z" = some ⟨[.int, .int, .int], some .boolean⟩ := by decide +kernel
set_option maxRecDepth 65536 in
set_option maxHeartbeats 4000000 in
theorem own_law (Z : State) (a0 : Array Value) (hw : ∀ d ∈ tables_1, d.before a0 Z = true) (p0 : Int32) (p1 : Int32) (p2 : Int32)  (h : Heap) (n0 : Nat) (z0 : n0 ≤ h.size) :
    Con Z y0 code maxLocals ret room_1 [(.int p0), (.int p1), (.int p2)] h n0 (fun v h' => v = some (.int 1)) := by
  refine Con.of pl0 (L := [.val (.int p0), .val (.int p1), .val (.int p2), .unset, .unset]) (fun m => by first | (simp [entryFrame, mkF, argsToLocals, Value.category, maxLocals]; done) | rfl) ?_
  intro κ Qx hQ C
  replace C : Good κ room_1 Z "com/example/blankscope/blankscope/io/LineScannerIsNameBaseCharPinLaw" "law" code 5 (some .boolean) := C
  refine W.bipush C m0_0 (z := (28 : Int32)) rfl ?_
  refine W.newarray (a0 := a0) (vs := [(.int (0 : Int32)), (.int (0 : Int32)), (.int (0 : Int32)), (.int (0 : Int32)), (.int (0 : Int32)), (.int (0 : Int32)), (.int (0 : Int32)), (.int (0 : Int32)), (.int (0 : Int32)), (.int (0 : Int32)), (.int (0 : Int32)), (.int (0 : Int32)), (.int (0 : Int32)), (.int (0 : Int32)), (.int (0 : Int32)), (.int (0 : Int32)), (.int (0 : Int32)), (.int (0 : Int32)), (.int (0 : Int32)), (.int (0 : Int32)), (.int (0 : Int32)), (.int (0 : Int32)), (.int (0 : Int32)), (.int (0 : Int32)), (.int (0 : Int32)), (.int (0 : Int32)), (.int (0 : Int32)), (.int (0 : Int32))]) 28 C m0_2 rfl (hw _ (List.mem_of_getElem? (i := 0) rfl)) (by decide) (by decide) rfl (by decide) (by decide) (by decide) ?_
  intro h1 a2 g3 E4 A5
  have g6 : n0 ≤ a2 := Nat.le_trans z0 (Nat.le_of_eq g3)
  have z7 : n0 ≤ h1.size := Nat.le_trans z0 E4.1
  show W κ n0 Qx h1 1 28 4 [.val (.int p0), .val (.int p1), .val (.int p2), .unset, .unset] [(.ref a2)]
  refine W.dup C m0_4 rfl ?_
  refine W.iconst C m0_5 (z := (0 : Int32)) rfl ?_
  refine W.bipush C m0_6 (z := (65 : Int32)) rfl ?_
  refine W.iastore C m0_8 A5 (i := 0) rfl (by decide) g6 ?_
  intro h8 W9 A10
  have z11 : n0 ≤ h8.size := Nat.le_trans z7 (Nat.le_of_eq (Wr.size W9).symm)
  have A12 : Av Z h8 a2 .int [(.int (65 : Int32)), (.int (0 : Int32)), (.int (0 : Int32)), (.int (0 : Int32)), (.int (0 : Int32)), (.int (0 : Int32)), (.int (0 : Int32)), (.int (0 : Int32)), (.int (0 : Int32)), (.int (0 : Int32)), (.int (0 : Int32)), (.int (0 : Int32)), (.int (0 : Int32)), (.int (0 : Int32)), (.int (0 : Int32)), (.int (0 : Int32)), (.int (0 : Int32)), (.int (0 : Int32)), (.int (0 : Int32)), (.int (0 : Int32)), (.int (0 : Int32)), (.int (0 : Int32)), (.int (0 : Int32)), (.int (0 : Int32)), (.int (0 : Int32)), (.int (0 : Int32)), (.int (0 : Int32)), (.int (0 : Int32))] := A10
  refine W.dup C m0_9 rfl ?_
  refine W.iconst C m0_10 (z := (1 : Int32)) rfl ?_
  refine W.bipush C m0_11 (z := (90 : Int32)) rfl ?_
  refine W.iastore C m0_13 A12 (i := 1) rfl (by decide) g6 ?_
  intro h13 W14 A15
  have z16 : n0 ≤ h13.size := Nat.le_trans z11 (Nat.le_of_eq (Wr.size W14).symm)
  have A17 : Av Z h13 a2 .int [(.int (65 : Int32)), (.int (90 : Int32)), (.int (0 : Int32)), (.int (0 : Int32)), (.int (0 : Int32)), (.int (0 : Int32)), (.int (0 : Int32)), (.int (0 : Int32)), (.int (0 : Int32)), (.int (0 : Int32)), (.int (0 : Int32)), (.int (0 : Int32)), (.int (0 : Int32)), (.int (0 : Int32)), (.int (0 : Int32)), (.int (0 : Int32)), (.int (0 : Int32)), (.int (0 : Int32)), (.int (0 : Int32)), (.int (0 : Int32)), (.int (0 : Int32)), (.int (0 : Int32)), (.int (0 : Int32)), (.int (0 : Int32)), (.int (0 : Int32)), (.int (0 : Int32)), (.int (0 : Int32)), (.int (0 : Int32))] := A15
  refine W.dup C m0_14 rfl ?_
  refine W.iconst C m0_15 (z := (2 : Int32)) rfl ?_
  refine W.bipush C m0_16 (z := (97 : Int32)) rfl ?_
  refine W.iastore C m0_18 A17 (i := 2) rfl (by decide) g6 ?_
  intro h18 W19 A20
  have z21 : n0 ≤ h18.size := Nat.le_trans z16 (Nat.le_of_eq (Wr.size W19).symm)
  have A22 : Av Z h18 a2 .int [(.int (65 : Int32)), (.int (90 : Int32)), (.int (97 : Int32)), (.int (0 : Int32)), (.int (0 : Int32)), (.int (0 : Int32)), (.int (0 : Int32)), (.int (0 : Int32)), (.int (0 : Int32)), (.int (0 : Int32)), (.int (0 : Int32)), (.int (0 : Int32)), (.int (0 : Int32)), (.int (0 : Int32)), (.int (0 : Int32)), (.int (0 : Int32)), (.int (0 : Int32)), (.int (0 : Int32)), (.int (0 : Int32)), (.int (0 : Int32)), (.int (0 : Int32)), (.int (0 : Int32)), (.int (0 : Int32)), (.int (0 : Int32)), (.int (0 : Int32)), (.int (0 : Int32)), (.int (0 : Int32)), (.int (0 : Int32))] := A20
  refine W.dup C m0_19 rfl ?_
  refine W.iconst C m0_20 (z := (3 : Int32)) rfl ?_
  refine W.bipush C m0_21 (z := (122 : Int32)) rfl ?_
  refine W.iastore C m0_23 A22 (i := 3) rfl (by decide) g6 ?_
  intro h23 W24 A25
  have z26 : n0 ≤ h23.size := Nat.le_trans z21 (Nat.le_of_eq (Wr.size W24).symm)
  have A27 : Av Z h23 a2 .int [(.int (65 : Int32)), (.int (90 : Int32)), (.int (97 : Int32)), (.int (122 : Int32)), (.int (0 : Int32)), (.int (0 : Int32)), (.int (0 : Int32)), (.int (0 : Int32)), (.int (0 : Int32)), (.int (0 : Int32)), (.int (0 : Int32)), (.int (0 : Int32)), (.int (0 : Int32)), (.int (0 : Int32)), (.int (0 : Int32)), (.int (0 : Int32)), (.int (0 : Int32)), (.int (0 : Int32)), (.int (0 : Int32)), (.int (0 : Int32)), (.int (0 : Int32)), (.int (0 : Int32)), (.int (0 : Int32)), (.int (0 : Int32)), (.int (0 : Int32)), (.int (0 : Int32)), (.int (0 : Int32)), (.int (0 : Int32))] := A25
  refine W.dup C m0_24 rfl ?_
  refine W.iconst C m0_25 (z := (4 : Int32)) rfl ?_
  refine W.sipush C m0_26 (z := (192 : Int32)) rfl ?_
  refine W.iastore C m0_29 A27 (i := 4) rfl (by decide) g6 ?_
  intro h28 W29 A30
  have z31 : n0 ≤ h28.size := Nat.le_trans z26 (Nat.le_of_eq (Wr.size W29).symm)
  have A32 : Av Z h28 a2 .int [(.int (65 : Int32)), (.int (90 : Int32)), (.int (97 : Int32)), (.int (122 : Int32)), (.int (192 : Int32)), (.int (0 : Int32)), (.int (0 : Int32)), (.int (0 : Int32)), (.int (0 : Int32)), (.int (0 : Int32)), (.int (0 : Int32)), (.int (0 : Int32)), (.int (0 : Int32)), (.int (0 : Int32)), (.int (0 : Int32)), (.int (0 : Int32)), (.int (0 : Int32)), (.int (0 : Int32)), (.int (0 : Int32)), (.int (0 : Int32)), (.int (0 : Int32)), (.int (0 : Int32)), (.int (0 : Int32)), (.int (0 : Int32)), (.int (0 : Int32)), (.int (0 : Int32)), (.int (0 : Int32)), (.int (0 : Int32))] := A30
  refine W.dup C m0_30 rfl ?_
  refine W.iconst C m0_31 (z := (5 : Int32)) rfl ?_
  refine W.sipush C m0_32 (z := (214 : Int32)) rfl ?_
  refine W.iastore C m0_35 A32 (i := 5) rfl (by decide) g6 ?_
  intro h33 W34 A35
  have z36 : n0 ≤ h33.size := Nat.le_trans z31 (Nat.le_of_eq (Wr.size W34).symm)
  have A37 : Av Z h33 a2 .int [(.int (65 : Int32)), (.int (90 : Int32)), (.int (97 : Int32)), (.int (122 : Int32)), (.int (192 : Int32)), (.int (214 : Int32)), (.int (0 : Int32)), (.int (0 : Int32)), (.int (0 : Int32)), (.int (0 : Int32)), (.int (0 : Int32)), (.int (0 : Int32)), (.int (0 : Int32)), (.int (0 : Int32)), (.int (0 : Int32)), (.int (0 : Int32)), (.int (0 : Int32)), (.int (0 : Int32)), (.int (0 : Int32)), (.int (0 : Int32)), (.int (0 : Int32)), (.int (0 : Int32)), (.int (0 : Int32)), (.int (0 : Int32)), (.int (0 : Int32)), (.int (0 : Int32)), (.int (0 : Int32)), (.int (0 : Int32))] := A35
  refine W.dup C m0_36 rfl ?_
  refine W.bipush C m0_37 (z := (6 : Int32)) rfl ?_
  refine W.sipush C m0_39 (z := (216 : Int32)) rfl ?_
  refine W.iastore C m0_42 A37 (i := 6) rfl (by decide) g6 ?_
  intro h38 W39 A40
  have z41 : n0 ≤ h38.size := Nat.le_trans z36 (Nat.le_of_eq (Wr.size W39).symm)
  have A42 : Av Z h38 a2 .int [(.int (65 : Int32)), (.int (90 : Int32)), (.int (97 : Int32)), (.int (122 : Int32)), (.int (192 : Int32)), (.int (214 : Int32)), (.int (216 : Int32)), (.int (0 : Int32)), (.int (0 : Int32)), (.int (0 : Int32)), (.int (0 : Int32)), (.int (0 : Int32)), (.int (0 : Int32)), (.int (0 : Int32)), (.int (0 : Int32)), (.int (0 : Int32)), (.int (0 : Int32)), (.int (0 : Int32)), (.int (0 : Int32)), (.int (0 : Int32)), (.int (0 : Int32)), (.int (0 : Int32)), (.int (0 : Int32)), (.int (0 : Int32)), (.int (0 : Int32)), (.int (0 : Int32)), (.int (0 : Int32)), (.int (0 : Int32))] := A40
  refine W.dup C m0_43 rfl ?_
  refine W.bipush C m0_44 (z := (7 : Int32)) rfl ?_
  refine W.sipush C m0_46 (z := (246 : Int32)) rfl ?_
  refine W.iastore C m0_49 A42 (i := 7) rfl (by decide) g6 ?_
  intro h43 W44 A45
  have z46 : n0 ≤ h43.size := Nat.le_trans z41 (Nat.le_of_eq (Wr.size W44).symm)
  have A47 : Av Z h43 a2 .int [(.int (65 : Int32)), (.int (90 : Int32)), (.int (97 : Int32)), (.int (122 : Int32)), (.int (192 : Int32)), (.int (214 : Int32)), (.int (216 : Int32)), (.int (246 : Int32)), (.int (0 : Int32)), (.int (0 : Int32)), (.int (0 : Int32)), (.int (0 : Int32)), (.int (0 : Int32)), (.int (0 : Int32)), (.int (0 : Int32)), (.int (0 : Int32)), (.int (0 : Int32)), (.int (0 : Int32)), (.int (0 : Int32)), (.int (0 : Int32)), (.int (0 : Int32)), (.int (0 : Int32)), (.int (0 : Int32)), (.int (0 : Int32)), (.int (0 : Int32)), (.int (0 : Int32)), (.int (0 : Int32)), (.int (0 : Int32))] := A45
  refine W.dup C m0_50 rfl ?_
  refine W.bipush C m0_51 (z := (8 : Int32)) rfl ?_
  refine W.sipush C m0_53 (z := (248 : Int32)) rfl ?_
  refine W.iastore C m0_56 A47 (i := 8) rfl (by decide) g6 ?_
  intro h48 W49 A50
  have z51 : n0 ≤ h48.size := Nat.le_trans z46 (Nat.le_of_eq (Wr.size W49).symm)
  have A52 : Av Z h48 a2 .int [(.int (65 : Int32)), (.int (90 : Int32)), (.int (97 : Int32)), (.int (122 : Int32)), (.int (192 : Int32)), (.int (214 : Int32)), (.int (216 : Int32)), (.int (246 : Int32)), (.int (248 : Int32)), (.int (0 : Int32)), (.int (0 : Int32)), (.int (0 : Int32)), (.int (0 : Int32)), (.int (0 : Int32)), (.int (0 : Int32)), (.int (0 : Int32)), (.int (0 : Int32)), (.int (0 : Int32)), (.int (0 : Int32)), (.int (0 : Int32)), (.int (0 : Int32)), (.int (0 : Int32)), (.int (0 : Int32)), (.int (0 : Int32)), (.int (0 : Int32)), (.int (0 : Int32)), (.int (0 : Int32)), (.int (0 : Int32))] := A50
  refine W.dup C m0_57 rfl ?_
  refine W.bipush C m0_58 (z := (9 : Int32)) rfl ?_
  refine W.sipush C m0_60 (z := (767 : Int32)) rfl ?_
  refine W.iastore C m0_63 A52 (i := 9) rfl (by decide) g6 ?_
  intro h53 W54 A55
  have z56 : n0 ≤ h53.size := Nat.le_trans z51 (Nat.le_of_eq (Wr.size W54).symm)
  have A57 : Av Z h53 a2 .int [(.int (65 : Int32)), (.int (90 : Int32)), (.int (97 : Int32)), (.int (122 : Int32)), (.int (192 : Int32)), (.int (214 : Int32)), (.int (216 : Int32)), (.int (246 : Int32)), (.int (248 : Int32)), (.int (767 : Int32)), (.int (0 : Int32)), (.int (0 : Int32)), (.int (0 : Int32)), (.int (0 : Int32)), (.int (0 : Int32)), (.int (0 : Int32)), (.int (0 : Int32)), (.int (0 : Int32)), (.int (0 : Int32)), (.int (0 : Int32)), (.int (0 : Int32)), (.int (0 : Int32)), (.int (0 : Int32)), (.int (0 : Int32)), (.int (0 : Int32)), (.int (0 : Int32)), (.int (0 : Int32)), (.int (0 : Int32))] := A55
  refine W.dup C m0_64 rfl ?_
  refine W.bipush C m0_65 (z := (10 : Int32)) rfl ?_
  refine W.sipush C m0_67 (z := (880 : Int32)) rfl ?_
  refine W.iastore C m0_70 A57 (i := 10) rfl (by decide) g6 ?_
  intro h58 W59 A60
  have z61 : n0 ≤ h58.size := Nat.le_trans z56 (Nat.le_of_eq (Wr.size W59).symm)
  have A62 : Av Z h58 a2 .int [(.int (65 : Int32)), (.int (90 : Int32)), (.int (97 : Int32)), (.int (122 : Int32)), (.int (192 : Int32)), (.int (214 : Int32)), (.int (216 : Int32)), (.int (246 : Int32)), (.int (248 : Int32)), (.int (767 : Int32)), (.int (880 : Int32)), (.int (0 : Int32)), (.int (0 : Int32)), (.int (0 : Int32)), (.int (0 : Int32)), (.int (0 : Int32)), (.int (0 : Int32)), (.int (0 : Int32)), (.int (0 : Int32)), (.int (0 : Int32)), (.int (0 : Int32)), (.int (0 : Int32)), (.int (0 : Int32)), (.int (0 : Int32)), (.int (0 : Int32)), (.int (0 : Int32)), (.int (0 : Int32)), (.int (0 : Int32))] := A60
  refine W.dup C m0_71 rfl ?_
  refine W.bipush C m0_72 (z := (11 : Int32)) rfl ?_
  refine W.sipush C m0_74 (z := (893 : Int32)) rfl ?_
  refine W.iastore C m0_77 A62 (i := 11) rfl (by decide) g6 ?_
  intro h63 W64 A65
  have z66 : n0 ≤ h63.size := Nat.le_trans z61 (Nat.le_of_eq (Wr.size W64).symm)
  have A67 : Av Z h63 a2 .int [(.int (65 : Int32)), (.int (90 : Int32)), (.int (97 : Int32)), (.int (122 : Int32)), (.int (192 : Int32)), (.int (214 : Int32)), (.int (216 : Int32)), (.int (246 : Int32)), (.int (248 : Int32)), (.int (767 : Int32)), (.int (880 : Int32)), (.int (893 : Int32)), (.int (0 : Int32)), (.int (0 : Int32)), (.int (0 : Int32)), (.int (0 : Int32)), (.int (0 : Int32)), (.int (0 : Int32)), (.int (0 : Int32)), (.int (0 : Int32)), (.int (0 : Int32)), (.int (0 : Int32)), (.int (0 : Int32)), (.int (0 : Int32)), (.int (0 : Int32)), (.int (0 : Int32)), (.int (0 : Int32)), (.int (0 : Int32))] := A65
  refine W.dup C m0_78 rfl ?_
  refine W.bipush C m0_79 (z := (12 : Int32)) rfl ?_
  refine W.sipush C m0_81 (z := (895 : Int32)) rfl ?_
  refine W.iastore C m0_84 A67 (i := 12) rfl (by decide) g6 ?_
  intro h68 W69 A70
  have z71 : n0 ≤ h68.size := Nat.le_trans z66 (Nat.le_of_eq (Wr.size W69).symm)
  have A72 : Av Z h68 a2 .int [(.int (65 : Int32)), (.int (90 : Int32)), (.int (97 : Int32)), (.int (122 : Int32)), (.int (192 : Int32)), (.int (214 : Int32)), (.int (216 : Int32)), (.int (246 : Int32)), (.int (248 : Int32)), (.int (767 : Int32)), (.int (880 : Int32)), (.int (893 : Int32)), (.int (895 : Int32)), (.int (0 : Int32)), (.int (0 : Int32)), (.int (0 : Int32)), (.int (0 : Int32)), (.int (0 : Int32)), (.int (0 : Int32)), (.int (0 : Int32)), (.int (0 : Int32)), (.int (0 : Int32)), (.int (0 : Int32)), (.int (0 : Int32)), (.int (0 : Int32)), (.int (0 : Int32)), (.int (0 : Int32)), (.int (0 : Int32))] := A70
  refine W.dup C m0_85 rfl ?_
  refine W.bipush C m0_86 (z := (13 : Int32)) rfl ?_
  refine W.sipush C m0_88 (z := (8191 : Int32)) rfl ?_
  refine W.iastore C m0_91 A72 (i := 13) rfl (by decide) g6 ?_
  intro h73 W74 A75
  have z76 : n0 ≤ h73.size := Nat.le_trans z71 (Nat.le_of_eq (Wr.size W74).symm)
  have A77 : Av Z h73 a2 .int [(.int (65 : Int32)), (.int (90 : Int32)), (.int (97 : Int32)), (.int (122 : Int32)), (.int (192 : Int32)), (.int (214 : Int32)), (.int (216 : Int32)), (.int (246 : Int32)), (.int (248 : Int32)), (.int (767 : Int32)), (.int (880 : Int32)), (.int (893 : Int32)), (.int (895 : Int32)), (.int (8191 : Int32)), (.int (0 : Int32)), (.int (0 : Int32)), (.int (0 : Int32)), (.int (0 : Int32)), (.int (0 : Int32)), (.int (0 : Int32)), (.int (0 : Int32)), (.int (0 : Int32)), (.int (0 : Int32)), (.int (0 : Int32)), (.int (0 : Int32)), (.int (0 : Int32)), (.int (0 : Int32)), (.int (0 : Int32))] := A75
  refine W.dup C m0_92 rfl ?_
  refine W.bipush C m0_93 (z := (14 : Int32)) rfl ?_
  refine W.sipush C m0_95 (z := (8204 : Int32)) rfl ?_
  refine W.iastore C m0_98 A77 (i := 14) rfl (by decide) g6 ?_
  intro h78 W79 A80
  have z81 : n0 ≤ h78.size := Nat.le_trans z76 (Nat.le_of_eq (Wr.size W79).symm)
  have A82 : Av Z h78 a2 .int [(.int (65 : Int32)), (.int (90 : Int32)), (.int (97 : Int32)), (.int (122 : Int32)), (.int (192 : Int32)), (.int (214 : Int32)), (.int (216 : Int32)), (.int (246 : Int32)), (.int (248 : Int32)), (.int (767 : Int32)), (.int (880 : Int32)), (.int (893 : Int32)), (.int (895 : Int32)), (.int (8191 : Int32)), (.int (8204 : Int32)), (.int (0 : Int32)), (.int (0 : Int32)), (.int (0 : Int32)), (.int (0 : Int32)), (.int (0 : Int32)), (.int (0 : Int32)), (.int (0 : Int32)), (.int (0 : Int32)), (.int (0 : Int32)), (.int (0 : Int32)), (.int (0 : Int32)), (.int (0 : Int32)), (.int (0 : Int32))] := A80
  refine W.dup C m0_99 rfl ?_
  refine W.bipush C m0_100 (z := (15 : Int32)) rfl ?_
  refine W.sipush C m0_102 (z := (8205 : Int32)) rfl ?_
  refine W.iastore C m0_105 A82 (i := 15) rfl (by decide) g6 ?_
  intro h83 W84 A85
  have z86 : n0 ≤ h83.size := Nat.le_trans z81 (Nat.le_of_eq (Wr.size W84).symm)
  have A87 : Av Z h83 a2 .int [(.int (65 : Int32)), (.int (90 : Int32)), (.int (97 : Int32)), (.int (122 : Int32)), (.int (192 : Int32)), (.int (214 : Int32)), (.int (216 : Int32)), (.int (246 : Int32)), (.int (248 : Int32)), (.int (767 : Int32)), (.int (880 : Int32)), (.int (893 : Int32)), (.int (895 : Int32)), (.int (8191 : Int32)), (.int (8204 : Int32)), (.int (8205 : Int32)), (.int (0 : Int32)), (.int (0 : Int32)), (.int (0 : Int32)), (.int (0 : Int32)), (.int (0 : Int32)), (.int (0 : Int32)), (.int (0 : Int32)), (.int (0 : Int32)), (.int (0 : Int32)), (.int (0 : Int32)), (.int (0 : Int32)), (.int (0 : Int32))] := A85
  refine W.dup C m0_106 rfl ?_
  refine W.bipush C m0_107 (z := (16 : Int32)) rfl ?_
  refine W.sipush C m0_109 (z := (8304 : Int32)) rfl ?_
  refine W.iastore C m0_112 A87 (i := 16) rfl (by decide) g6 ?_
  intro h88 W89 A90
  have z91 : n0 ≤ h88.size := Nat.le_trans z86 (Nat.le_of_eq (Wr.size W89).symm)
  have A92 : Av Z h88 a2 .int [(.int (65 : Int32)), (.int (90 : Int32)), (.int (97 : Int32)), (.int (122 : Int32)), (.int (192 : Int32)), (.int (214 : Int32)), (.int (216 : Int32)), (.int (246 : Int32)), (.int (248 : Int32)), (.int (767 : Int32)), (.int (880 : Int32)), (.int (893 : Int32)), (.int (895 : Int32)), (.int (8191 : Int32)), (.int (8204 : Int32)), (.int (8205 : Int32)), (.int (8304 : Int32)), (.int (0 : Int32)), (.int (0 : Int32)), (.int (0 : Int32)), (.int (0 : Int32)), (.int (0 : Int32)), (.int (0 : Int32)), (.int (0 : Int32)), (.int (0 : Int32)), (.int (0 : Int32)), (.int (0 : Int32)), (.int (0 : Int32))] := A90
  refine W.dup C m0_113 rfl ?_
  refine W.bipush C m0_114 (z := (17 : Int32)) rfl ?_
  refine W.sipush C m0_116 (z := (8591 : Int32)) rfl ?_
  refine W.iastore C m0_119 A92 (i := 17) rfl (by decide) g6 ?_
  intro h93 W94 A95
  have z96 : n0 ≤ h93.size := Nat.le_trans z91 (Nat.le_of_eq (Wr.size W94).symm)
  have A97 : Av Z h93 a2 .int [(.int (65 : Int32)), (.int (90 : Int32)), (.int (97 : Int32)), (.int (122 : Int32)), (.int (192 : Int32)), (.int (214 : Int32)), (.int (216 : Int32)), (.int (246 : Int32)), (.int (248 : Int32)), (.int (767 : Int32)), (.int (880 : Int32)), (.int (893 : Int32)), (.int (895 : Int32)), (.int (8191 : Int32)), (.int (8204 : Int32)), (.int (8205 : Int32)), (.int (8304 : Int32)), (.int (8591 : Int32)), (.int (0 : Int32)), (.int (0 : Int32)), (.int (0 : Int32)), (.int (0 : Int32)), (.int (0 : Int32)), (.int (0 : Int32)), (.int (0 : Int32)), (.int (0 : Int32)), (.int (0 : Int32)), (.int (0 : Int32))] := A95
  refine W.dup C m0_120 rfl ?_
  refine W.bipush C m0_121 (z := (18 : Int32)) rfl ?_
  refine W.sipush C m0_123 (z := (11264 : Int32)) rfl ?_
  refine W.iastore C m0_126 A97 (i := 18) rfl (by decide) g6 ?_
  intro h98 W99 A100
  have z101 : n0 ≤ h98.size := Nat.le_trans z96 (Nat.le_of_eq (Wr.size W99).symm)
  have A102 : Av Z h98 a2 .int [(.int (65 : Int32)), (.int (90 : Int32)), (.int (97 : Int32)), (.int (122 : Int32)), (.int (192 : Int32)), (.int (214 : Int32)), (.int (216 : Int32)), (.int (246 : Int32)), (.int (248 : Int32)), (.int (767 : Int32)), (.int (880 : Int32)), (.int (893 : Int32)), (.int (895 : Int32)), (.int (8191 : Int32)), (.int (8204 : Int32)), (.int (8205 : Int32)), (.int (8304 : Int32)), (.int (8591 : Int32)), (.int (11264 : Int32)), (.int (0 : Int32)), (.int (0 : Int32)), (.int (0 : Int32)), (.int (0 : Int32)), (.int (0 : Int32)), (.int (0 : Int32)), (.int (0 : Int32)), (.int (0 : Int32)), (.int (0 : Int32))] := A100
  refine W.dup C m0_127 rfl ?_
  refine W.bipush C m0_128 (z := (19 : Int32)) rfl ?_
  refine W.sipush C m0_130 (z := (12271 : Int32)) rfl ?_
  refine W.iastore C m0_133 A102 (i := 19) rfl (by decide) g6 ?_
  intro h103 W104 A105
  have z106 : n0 ≤ h103.size := Nat.le_trans z101 (Nat.le_of_eq (Wr.size W104).symm)
  have A107 : Av Z h103 a2 .int [(.int (65 : Int32)), (.int (90 : Int32)), (.int (97 : Int32)), (.int (122 : Int32)), (.int (192 : Int32)), (.int (214 : Int32)), (.int (216 : Int32)), (.int (246 : Int32)), (.int (248 : Int32)), (.int (767 : Int32)), (.int (880 : Int32)), (.int (893 : Int32)), (.int (895 : Int32)), (.int (8191 : Int32)), (.int (8204 : Int32)), (.int (8205 : Int32)), (.int (8304 : Int32)), (.int (8591 : Int32)), (.int (11264 : Int32)), (.int (12271 : Int32)), (.int (0 : Int32)), (.int (0 : Int32)), (.int (0 : Int32)), (.int (0 : Int32)), (.int (0 : Int32)), (.int (0 : Int32)), (.int (0 : Int32)), (.int (0 : Int32))] := A105
  refine W.dup C m0_134 rfl ?_
  refine W.bipush C m0_135 (z := (20 : Int32)) rfl ?_
  refine W.sipush C m0_137 (z := (12289 : Int32)) rfl ?_
  refine W.iastore C m0_140 A107 (i := 20) rfl (by decide) g6 ?_
  intro h108 W109 A110
  have z111 : n0 ≤ h108.size := Nat.le_trans z106 (Nat.le_of_eq (Wr.size W109).symm)
  have A112 : Av Z h108 a2 .int [(.int (65 : Int32)), (.int (90 : Int32)), (.int (97 : Int32)), (.int (122 : Int32)), (.int (192 : Int32)), (.int (214 : Int32)), (.int (216 : Int32)), (.int (246 : Int32)), (.int (248 : Int32)), (.int (767 : Int32)), (.int (880 : Int32)), (.int (893 : Int32)), (.int (895 : Int32)), (.int (8191 : Int32)), (.int (8204 : Int32)), (.int (8205 : Int32)), (.int (8304 : Int32)), (.int (8591 : Int32)), (.int (11264 : Int32)), (.int (12271 : Int32)), (.int (12289 : Int32)), (.int (0 : Int32)), (.int (0 : Int32)), (.int (0 : Int32)), (.int (0 : Int32)), (.int (0 : Int32)), (.int (0 : Int32)), (.int (0 : Int32))] := A110
  refine W.dup C m0_141 rfl ?_
  refine W.bipush C m0_142 (z := (21 : Int32)) rfl ?_
  refine W.ldc C m0_144 (hw _ (List.mem_of_getElem? (i := 1) rfl)) ?_
  refine W.iastore C m0_146 A112 (i := 21) rfl (by decide) g6 ?_
  intro h113 W114 A115
  have z116 : n0 ≤ h113.size := Nat.le_trans z111 (Nat.le_of_eq (Wr.size W114).symm)
  have A117 : Av Z h113 a2 .int [(.int (65 : Int32)), (.int (90 : Int32)), (.int (97 : Int32)), (.int (122 : Int32)), (.int (192 : Int32)), (.int (214 : Int32)), (.int (216 : Int32)), (.int (246 : Int32)), (.int (248 : Int32)), (.int (767 : Int32)), (.int (880 : Int32)), (.int (893 : Int32)), (.int (895 : Int32)), (.int (8191 : Int32)), (.int (8204 : Int32)), (.int (8205 : Int32)), (.int (8304 : Int32)), (.int (8591 : Int32)), (.int (11264 : Int32)), (.int (12271 : Int32)), (.int (12289 : Int32)), (.int (55295 : Int32)), (.int (0 : Int32)), (.int (0 : Int32)), (.int (0 : Int32)), (.int (0 : Int32)), (.int (0 : Int32)), (.int (0 : Int32))] := A115
  refine W.dup C m0_147 rfl ?_
  refine W.bipush C m0_148 (z := (22 : Int32)) rfl ?_
  refine W.ldc C m0_150 (hw _ (List.mem_of_getElem? (i := 2) rfl)) ?_
  refine W.iastore C m0_152 A117 (i := 22) rfl (by decide) g6 ?_
  intro h118 W119 A120
  have z121 : n0 ≤ h118.size := Nat.le_trans z116 (Nat.le_of_eq (Wr.size W119).symm)
  have A122 : Av Z h118 a2 .int [(.int (65 : Int32)), (.int (90 : Int32)), (.int (97 : Int32)), (.int (122 : Int32)), (.int (192 : Int32)), (.int (214 : Int32)), (.int (216 : Int32)), (.int (246 : Int32)), (.int (248 : Int32)), (.int (767 : Int32)), (.int (880 : Int32)), (.int (893 : Int32)), (.int (895 : Int32)), (.int (8191 : Int32)), (.int (8204 : Int32)), (.int (8205 : Int32)), (.int (8304 : Int32)), (.int (8591 : Int32)), (.int (11264 : Int32)), (.int (12271 : Int32)), (.int (12289 : Int32)), (.int (55295 : Int32)), (.int (63744 : Int32)), (.int (0 : Int32)), (.int (0 : Int32)), (.int (0 : Int32)), (.int (0 : Int32)), (.int (0 : Int32))] := A120
  refine W.dup C m0_153 rfl ?_
  refine W.bipush C m0_154 (z := (23 : Int32)) rfl ?_
  refine W.ldc C m0_156 (hw _ (List.mem_of_getElem? (i := 3) rfl)) ?_
  refine W.iastore C m0_158 A122 (i := 23) rfl (by decide) g6 ?_
  intro h123 W124 A125
  have z126 : n0 ≤ h123.size := Nat.le_trans z121 (Nat.le_of_eq (Wr.size W124).symm)
  have A127 : Av Z h123 a2 .int [(.int (65 : Int32)), (.int (90 : Int32)), (.int (97 : Int32)), (.int (122 : Int32)), (.int (192 : Int32)), (.int (214 : Int32)), (.int (216 : Int32)), (.int (246 : Int32)), (.int (248 : Int32)), (.int (767 : Int32)), (.int (880 : Int32)), (.int (893 : Int32)), (.int (895 : Int32)), (.int (8191 : Int32)), (.int (8204 : Int32)), (.int (8205 : Int32)), (.int (8304 : Int32)), (.int (8591 : Int32)), (.int (11264 : Int32)), (.int (12271 : Int32)), (.int (12289 : Int32)), (.int (55295 : Int32)), (.int (63744 : Int32)), (.int (64975 : Int32)), (.int (0 : Int32)), (.int (0 : Int32)), (.int (0 : Int32)), (.int (0 : Int32))] := A125
  refine W.dup C m0_159 rfl ?_
  refine W.bipush C m0_160 (z := (24 : Int32)) rfl ?_
  refine W.ldc C m0_162 (hw _ (List.mem_of_getElem? (i := 4) rfl)) ?_
  refine W.iastore C m0_164 A127 (i := 24) rfl (by decide) g6 ?_
  intro h128 W129 A130
  have z131 : n0 ≤ h128.size := Nat.le_trans z126 (Nat.le_of_eq (Wr.size W129).symm)
  have A132 : Av Z h128 a2 .int [(.int (65 : Int32)), (.int (90 : Int32)), (.int (97 : Int32)), (.int (122 : Int32)), (.int (192 : Int32)), (.int (214 : Int32)), (.int (216 : Int32)), (.int (246 : Int32)), (.int (248 : Int32)), (.int (767 : Int32)), (.int (880 : Int32)), (.int (893 : Int32)), (.int (895 : Int32)), (.int (8191 : Int32)), (.int (8204 : Int32)), (.int (8205 : Int32)), (.int (8304 : Int32)), (.int (8591 : Int32)), (.int (11264 : Int32)), (.int (12271 : Int32)), (.int (12289 : Int32)), (.int (55295 : Int32)), (.int (63744 : Int32)), (.int (64975 : Int32)), (.int (65008 : Int32)), (.int (0 : Int32)), (.int (0 : Int32)), (.int (0 : Int32))] := A130
  refine W.dup C m0_165 rfl ?_
  refine W.bipush C m0_166 (z := (25 : Int32)) rfl ?_
  refine W.ldc C m0_168 (hw _ (List.mem_of_getElem? (i := 5) rfl)) ?_
  refine W.iastore C m0_170 A132 (i := 25) rfl (by decide) g6 ?_
  intro h133 W134 A135
  have z136 : n0 ≤ h133.size := Nat.le_trans z131 (Nat.le_of_eq (Wr.size W134).symm)
  have A137 : Av Z h133 a2 .int [(.int (65 : Int32)), (.int (90 : Int32)), (.int (97 : Int32)), (.int (122 : Int32)), (.int (192 : Int32)), (.int (214 : Int32)), (.int (216 : Int32)), (.int (246 : Int32)), (.int (248 : Int32)), (.int (767 : Int32)), (.int (880 : Int32)), (.int (893 : Int32)), (.int (895 : Int32)), (.int (8191 : Int32)), (.int (8204 : Int32)), (.int (8205 : Int32)), (.int (8304 : Int32)), (.int (8591 : Int32)), (.int (11264 : Int32)), (.int (12271 : Int32)), (.int (12289 : Int32)), (.int (55295 : Int32)), (.int (63744 : Int32)), (.int (64975 : Int32)), (.int (65008 : Int32)), (.int (65533 : Int32)), (.int (0 : Int32)), (.int (0 : Int32))] := A135
  refine W.dup C m0_171 rfl ?_
  refine W.bipush C m0_172 (z := (26 : Int32)) rfl ?_
  refine W.ldc C m0_174 (hw _ (List.mem_of_getElem? (i := 6) rfl)) ?_
  refine W.iastore C m0_176 A137 (i := 26) rfl (by decide) g6 ?_
  intro h138 W139 A140
  have z141 : n0 ≤ h138.size := Nat.le_trans z136 (Nat.le_of_eq (Wr.size W139).symm)
  have A142 : Av Z h138 a2 .int [(.int (65 : Int32)), (.int (90 : Int32)), (.int (97 : Int32)), (.int (122 : Int32)), (.int (192 : Int32)), (.int (214 : Int32)), (.int (216 : Int32)), (.int (246 : Int32)), (.int (248 : Int32)), (.int (767 : Int32)), (.int (880 : Int32)), (.int (893 : Int32)), (.int (895 : Int32)), (.int (8191 : Int32)), (.int (8204 : Int32)), (.int (8205 : Int32)), (.int (8304 : Int32)), (.int (8591 : Int32)), (.int (11264 : Int32)), (.int (12271 : Int32)), (.int (12289 : Int32)), (.int (55295 : Int32)), (.int (63744 : Int32)), (.int (64975 : Int32)), (.int (65008 : Int32)), (.int (65533 : Int32)), (.int (65536 : Int32)), (.int (0 : Int32))] := A140
  refine W.dup C m0_177 rfl ?_
  refine W.bipush C m0_178 (z := (27 : Int32)) rfl ?_
  refine W.ldc C m0_180 (hw _ (List.mem_of_getElem? (i := 7) rfl)) ?_
  refine W.iastore C m0_182 A142 (i := 27) rfl (by decide) g6 ?_
  intro h143 W144 A145
  have z146 : n0 ≤ h143.size := Nat.le_trans z141 (Nat.le_of_eq (Wr.size W144).symm)
  have A147 : Av Z h143 a2 .int [(.int (65 : Int32)), (.int (90 : Int32)), (.int (97 : Int32)), (.int (122 : Int32)), (.int (192 : Int32)), (.int (214 : Int32)), (.int (216 : Int32)), (.int (246 : Int32)), (.int (248 : Int32)), (.int (767 : Int32)), (.int (880 : Int32)), (.int (893 : Int32)), (.int (895 : Int32)), (.int (8191 : Int32)), (.int (8204 : Int32)), (.int (8205 : Int32)), (.int (8304 : Int32)), (.int (8591 : Int32)), (.int (11264 : Int32)), (.int (12271 : Int32)), (.int (12289 : Int32)), (.int (55295 : Int32)), (.int (63744 : Int32)), (.int (64975 : Int32)), (.int (65008 : Int32)), (.int (65533 : Int32)), (.int (65536 : Int32)), (.int (983039 : Int32))] := A145
  refine W.astoreN C m0_183 (L' := [.val (.int p0), .val (.int p1), .val (.int p2), .val (.ref a2), .unset]) rfl rfl ?_
  refine W.aloadN C m0_184 rfl rfl ?_
  refine W.iloadN C m0_185 rfl ?_
  refine W.ldc C m0_186 (hw _ (List.mem_of_getElem? (i := 8) rfl)) ?_
  refine W.iand C m0_188 rfl ?_
  refine W.bipush C m0_189 (z := (28 : Int32)) rfl ?_
  refine W.irem C m0_191 (by decide) rfl ?_
  obtain ⟨i, hi1, hi2⟩ := own_ix (x := p1)
  obtain ⟨e, he⟩ := own_at [(65 : Int32), (90 : Int32), (97 : Int32), (122 : Int32), (192 : Int32), (214 : Int32), (216 : Int32), (246 : Int32), (248 : Int32), (767 : Int32), (880 : Int32), (893 : Int32), (895 : Int32), (8191 : Int32), (8204 : Int32), (8205 : Int32), (8304 : Int32), (8591 : Int32), (11264 : Int32), (12271 : Int32), (12289 : Int32), (55295 : Int32), (63744 : Int32), (64975 : Int32), (65008 : Int32), (65533 : Int32), (65536 : Int32), (983039 : Int32)] (i := i) hi2
  refine W.iaload C m0_192 A147 hi1 he ?_
  refine W.iloadN C m0_193 rfl ?_
  refine W.ldc C m0_194 (hw _ (List.mem_of_getElem? (i := 8) rfl)) ?_
  refine W.iand C m0_196 rfl ?_
  refine W.iconst C m0_197 (z := (3 : Int32)) rfl ?_
  refine W.irem C m0_198 (by decide) rfl ?_
  refine W.iadd C m0_199 rfl ?_
  refine W.iconst C m0_200 (z := (1 : Int32)) rfl ?_
  refine W.isub C m0_201 rfl ?_
  generalize hv148 : ((e + ((p2 &&& (2147483647 : Int32)) % (3 : Int32))) - (1 : Int32)) = v148
  refine W.istore C m0_202 (L' := [.val (.int p0), .val (.int p1), .val (.int p2), .val (.ref a2), .val (.int v148)]) rfl ?_
  refine W.iloadN C m0_204 rfl ?_
  refine W.callS (y := y1) (wt := 0) C m0_205 (hw _ (List.mem_of_getElem? (i := 9) rfl)) (hw _ (List.mem_of_getElem? (i := 10) rfl)) (hw _ (List.mem_of_getElem? (i := 11) rfl)) (hw _ (List.mem_of_getElem? (i := 12) rfl)) (by decide) pd1 rfl (own_nb Z a0 hw p0 h143 n0) (as' := [(.int p0)]) (rest := []) rfl rfl (Nat.le_of_eq rfl) (by decide) (by decide) (by decide) (by decide) ?_
  intro r152 h150 q151
  obtain ⟨rfl, z149, rfl, hz149⟩ := q151
  show W κ n0 Qx h143 1 28 208 [.val (.int p0), .val (.int p1), .val (.int p2), .val (.ref a2), .val (.int v148)] [(.int z149)]
  refine W.iloadN C m0_208 rfl ?_
  refine W.callS (y := y2) (wt := 1) C m0_209 (hw _ (List.mem_of_getElem? (i := 16) rfl)) (hw _ (List.mem_of_getElem? (i := 17) rfl)) (hw _ (List.mem_of_getElem? (i := 18) rfl)) (hw _ (List.mem_of_getElem? (i := 19) rfl)) (by decide) pd2 rfl (own_ref Z a0 hw p0 h143 n0) (as' := [(.int p0)]) (rest := [(.int z149)]) rfl rfl (Nat.le_of_eq rfl) (by decide) (by decide) (by decide) (by decide) ?_
  intro r156 h154 q155
  obtain ⟨rfl, z153, rfl, hz153⟩ := q155
  show W κ n0 Qx h143 1 28 212 [.val (.int p0), .val (.int p1), .val (.int p2), .val (.ref a2), .val (.int v148)] [(.int z153), (.int z149)]
  refine W.icmp C m0_212 ?_ ?_
  · intro (h212 : ¬ z149.toInt = z153.toInt)
    refine W.iconst C m0_232 (z := (0 : Int32)) rfl ?_
    refine W.zreturn C m0_233 (hQ _ _ ?_)
    exfalso
    rcases hz149 with ⟨a1, b1⟩ | ⟨a1, b1⟩ <;> rcases hz153 with ⟨a2, b2⟩ | ⟨a2, b2⟩ <;> first | exact absurd b1 b2 | exact absurd b2 b1 | omega
  · intro (h212 : ¬ ¬ z149.toInt = z153.toInt)
    replace h212 := Decidable.not_not.mp h212
    refine W.iload C m0_215 rfl ?_
    refine W.callS (y := y1) (wt := 0) C m0_217 (hw _ (List.mem_of_getElem? (i := 9) rfl)) (hw _ (List.mem_of_getElem? (i := 10) rfl)) (hw _ (List.mem_of_getElem? (i := 11) rfl)) (hw _ (List.mem_of_getElem? (i := 12) rfl)) (by decide) pd1 rfl (own_nb Z a0 hw v148 h143 n0) (as' := [(.int v148)]) (rest := []) rfl rfl (Nat.le_of_eq rfl) (by decide) (by decide) (by decide) (by decide) ?_
    intro r160 h158 q159
    obtain ⟨rfl, z157, rfl, hz157⟩ := q159
    show W κ n0 Qx h143 1 28 220 [.val (.int p0), .val (.int p1), .val (.int p2), .val (.ref a2), .val (.int v148)] [(.int z157)]
    refine W.iload C m0_220 rfl ?_
    refine W.callS (y := y2) (wt := 1) C m0_222 (hw _ (List.mem_of_getElem? (i := 16) rfl)) (hw _ (List.mem_of_getElem? (i := 17) rfl)) (hw _ (List.mem_of_getElem? (i := 18) rfl)) (hw _ (List.mem_of_getElem? (i := 19) rfl)) (by decide) pd2 rfl (own_ref Z a0 hw v148 h143 n0) (as' := [(.int v148)]) (rest := [(.int z157)]) rfl rfl (Nat.le_of_eq rfl) (by decide) (by decide) (by decide) (by decide) ?_
    intro r164 h162 q163
    obtain ⟨rfl, z161, rfl, hz161⟩ := q163
    show W κ n0 Qx h143 1 28 225 [.val (.int p0), .val (.int p1), .val (.int p2), .val (.ref a2), .val (.int v148)] [(.int z161), (.int z157)]
    refine W.icmp C m0_225 ?_ ?_
    · intro (h225 : ¬ z157.toInt = z161.toInt)
      refine W.iconst C m0_232 (z := (0 : Int32)) rfl ?_
      refine W.zreturn C m0_233 (hQ _ _ ?_)
      exfalso
      rcases hz157 with ⟨a1, b1⟩ | ⟨a1, b1⟩ <;> rcases hz161 with ⟨a2, b2⟩ | ⟨a2, b2⟩ <;> first | exact absurd b1 b2 | exact absurd b2 b1 | omega
    · intro (h225 : ¬ ¬ z157.toInt = z161.toInt)
      replace h225 := Decidable.not_not.mp h225
      refine W.iconst C m0_228 (z := (1 : Int32)) rfl ?_
      refine W.goto C m0_229 ?_
      refine W.zreturn C m0_233 (hQ _ _ ?_)
      exact rfl
set_option maxRecDepth 65536 in
set_option maxHeartbeats 4000000 in
theorem comes_1 {Post : Tables → Env → Array Value → State → Outcome → State → Prop} (hpost : ∀ tb e args s v u, (limb_1_1.after args s (.returned v) u = true ∧ limb_1_2.after args s (.returned v) u = true ∧ True) → FrameEnd s (.returned v) u (Jvm.fieldLocs frame_1_writes args s ++ Jvm.arrayLocs frame_1_arrays args s ++ Jvm.staticLocs frame_1_statics s) 16 128 → Post tb e args s (.returned v) u) :
    ArmFor flags0 classFile x code maxLocals ret World_1 tables_1 room_1 Calls_1 rest_1 Pre_1 Post := by
  intro l hfl _ _ p e ha hc hk s m args below hf hA hF happ hP
  obtain ⟨hcalls, hrest, hpre⟩ := hP
  obtain ⟨-, -, -, hnamed, -, -, -, hat⟩ := (Spec.applies_iff hf).mp happ
  obtain ⟨hg, hn⟩ := and_e (Cond.before_iff.mp (show (Jvm.Cond.and given_1 narrow_1).before args s = true from hpre))
  obtain ⟨hcount, hg0⟩ := and_e hg
  obtain ⟨ha0, hg1⟩ := and_e hg0
  obtain ⟨ha1, hg2⟩ := and_e hg1
  have ha2 := hg2
  obtain ⟨w0, w1, w2, rfl⟩ : ∃ w0 w1 w2 : Value, args = #[w0, w1, w2] := by
    have hs : args.size = 3 := by simpa [Cond.value, given_1] using hcount
    obtain ⟨L⟩ := args
    match L, hs with
    | [w0, w1, w2], _ => exact ⟨w0, w1, w2, rfl⟩
  have hw := fun d (hd : d ∈ tables_1) => atoms_spec (ws := Jvm.Cond.code x code maxLocals ret :: tables_1) hat d (List.mem_cons_of_mem _ hd)
  obtain ⟨i0, ei0⟩ := is_v ha0
  obtain rfl : w0 = (.int i0) := Option.some.inj ei0
  obtain ⟨i1, ei1⟩ := is_v ha1
  obtain rfl : w1 = (.int i1) := Option.some.inj ei1
  obtain ⟨i2, ei2⟩ := is_v ha2
  obtain rfl : w2 = (.int i2) := Option.some.inj ei2
  obtain ⟨n, o, h1, h2, h3, _, L, rfl, ⟨rfl, N⟩, hq⟩ := own_law s _ hw i0 i1 i2 s.heap s.heap.size (Nat.le_refl _) l tables_1 p e ha hc hk s m _ below hf ((Spec.applies_iff_loose hf).mp happ).1 ⟨rfl, State.Warmed39.refl s, rfl⟩ trivial
  refine ⟨n, _, h1, h2, h3, hpost _ _ _ _ _ _ ⟨Cond.after_iff.mpr rfl, Cond.after_iff.mpr (eq_i res_at (Term.int_eval (1)) rfl), trivial⟩ ⟨hq.1, hq.2.1, (hq.2.2.sift fun y hy => Or.inr (N y hy)).mono (by decide) (by decide)⟩⟩
theorem main_1_1 : Claimed_1_1 := comes_1 fun _ _ _ _ _ _ h hF => ⟨h.1, hF⟩
theorem main_1_2 : Claimed_1_2 := comes_1 fun _ _ _ _ _ _ h hF => ⟨h.2.1, hF⟩
end Jvm.Pilot.@@N@@
namespace Jvm.Pilot.@@N@@
open Jvm Jvm.ClassFile Sem Op Lib Jvm.Free Jvm.Stand Jvm.Pilot.@@N@@.Jvm.D
/-! MADE BY PROGRAM (witnessworld.py) out of the Statement's table words and the real class files: 9 classes; the members and pool entries that the words name. The judged class is class 1, her method 1. -/
namespace start1
open Jvm.ClassFile
def u (s : String) : CpInfo := .utf8 (stringToUtf16 s)
/-- a pool by its gaps: so many unusable entries, then the entry; so many at the end -/
def gap : Nat → List CpInfo → List CpInfo
  | 0, r => r
  | n + 1, r => .unusable :: gap n r
def poolList (es : List (Nat × CpInfo)) (last : Nat) : List CpInfo := es.foldr (fun e r => gap e.1 (e.2 :: r)) (gap last [])
def pool (es : List (Nat × CpInfo)) (last : Nat) : Array CpInfo := ⟨poolList es last⟩
def fileOf (pool : Array CpInfo) (this : Nat) (attrs : Array Attribute := #[]) (ms : Array MethodInfo := #[]) (fl : Nat := 33) (sup : Nat := 0) (ifs : Array Nat := #[]) (fds : Array FieldInfo := #[]) : ClassFile where
  minorVersion := 0
  majorVersion := 65
  constantPool := pool
  accessFlags := fl
  thisClass := this
  superClass := sup
  interfaces := ifs
  fields := fds
  methods := ms
  attributes := attrs
def plain (name : String) (sup : Option ClassId) : Class where
  name := name
  kind := .ordinary
  loader := none
  accessFlags := 33
  super := sup
  interfaces := #[]
  cf := none
  fields := #[]
  methods := #[]
  instanceTypes := #[]
  staticTypes := #[]
  resolved := #[]
  callSites := []
  init := .initialized
  statics := none
  mirror := none

def pool0 : Array CpInfo := pool [(5, u "<init>"), (0, u "()V"), (1, .class_ 10), (1, u "java/lang/Object")] 113

def k0m0 : Method := { name := "<init>", desc := "()V", sig := { parameters := [], returnType := none }, accessFlags := 1, code := none }
/-- java/lang/Object -/
def k0 : Class := { plain "java/lang/Object" none with
  accessFlags := 33
  interfaces := #[]
  cf := some (fileOf pool0 8 #[] #[{ accessFlags := 1, nameIndex := 5, descriptorIndex := 6, attributes := #[] }] 33 0 #[] #[])
  fields := #[]
  methods := #[k0m0]
  instanceTypes := #[]
  staticTypes := #[]
  resolved := Array.replicate 124 none
  statics := none }

def pool1 : Array CpInfo := pool [(2, .class_ 4), (1, u "java/lang/Object"), (0, u "<init>"), (0, u "()V"), (0, .integer 55295), (0, .integer 63744), (0, .integer 64975), (0, .integer 65008), (0, .integer 65533), (0, .integer 65536), (0, .integer 983039), (0, .integer 2147483647), (0, .methodref 16 17), (0, .class_ 18), (0, .nameAndType 19 20), (0, u "com/example/blankscope/blankscope/io/LineScanner"), (0, u "isNameBaseChar"), (0, u "(I)Z"), (0, .methodref 22 23), (0, .class_ 24), (0, .nameAndType 25 20), (0, u "com/example/blankscope/blankscope/io/LineScannerIsNameBaseCharPinLaw"), (0, u "reference"), (0, .integer 55296), (0, .integer 63743), (0, .integer 64976), (0, .integer 65007), (0, .integer 65534), (0, .integer 65535), (2, u "law"), (0, u "(III)Z")] 5

def k1m0 : Method := { name := "<init>", desc := "()V", sig := { parameters := [], returnType := none }, accessFlags := 1, code := none }
def k1c1 : Code := { maxStack := 4, maxLocals := 5, code := code, exceptionTable := #[], attributes := #[] }
def k1m1 : Method := { name := "law", desc := "(III)Z", sig := { parameters := [.int, .int, .int], returnType := some .boolean }, accessFlags := 9, code := some k1c1 }
def k1c2 : Code := { maxStack := 2, maxLocals := 1, code := method_3_code, exceptionTable := #[], attributes := #[] }
def k1m2 : Method := { name := "reference", desc := "(I)Z", sig := { parameters := [.int], returnType := some .boolean }, accessFlags := 10, code := some k1c2 }
/-- com/example/blankscope/blankscope/io/LineScannerIsNameBaseCharPinLaw -/
def k1 : Class := { plain "com/example/blankscope/blankscope/io/LineScannerIsNameBaseCharPinLaw" (some 0) with
  accessFlags := 49
  interfaces := #[]
  cf := some (fileOf pool1 22 #[] #[{ accessFlags := 1, nameIndex := 5, descriptorIndex := 6, attributes := #[] }, { accessFlags := 9, nameIndex := 34, descriptorIndex := 35, attributes := #[] }, { accessFlags := 10, nameIndex := 25, descriptorIndex := 20, attributes := #[] }] 49 2 #[] #[])
  fields := #[]
  methods := #[k1m0, k1m1, k1m2]
  instanceTypes := #[]
  staticTypes := #[]
  resolved := Array.replicate 41 none
  statics := none }

def pool2 : Array CpInfo := pool [(4, .class_ 6), (1, u "java/lang/Object"), (6, .class_ 15), (1, u "com/example/blankscope/blankscope/io/LineScanner"), (0, u "text"), (0, u "Ljava/lang/StringBuilder;"), (0, .integer 65536), (2, u "buffer"), (0, u "[B"), (2, u "lineEnd"), (0, u "I"), (4, u "previousTerminator"), (0, u "Ljava/lang/String;"), (1, u "in"), (10, u "Ljava/io/InputStream;"), (2, u "filled"), (2, u "lineStart"), (2, u "afterCarriageReturn"), (0, u "Z"), (7, u "(I)Z"), (4, u "lineNumber"), (0, u "J"), (2, u "pos"), (2, u "ended"), (2, u "endOfInput"), (165, .integer 55295), (0, .integer 63744), (0, .integer 64975), (0, .integer 65008), (0, .integer 65533), (0, .integer 983039), (2, u "isNameBaseChar"), (0, u "INITIAL_BUFFER_SIZE"), (1, u "MAX_BUFFER_SIZE")] 52

def k2c0 : Code := { maxStack := 2, maxLocals := 1, code := prog_41_method_27_code, exceptionTable := #[], attributes := #[] }
def k2m0 : Method := { name := "isNameBaseChar", desc := "(I)Z", sig := { parameters := [.int], returnType := some .boolean }, accessFlags := 8, code := some k2c0 }
/-- com/example/blankscope/blankscope/io/LineScanner -/
def k2 : Class := { plain "com/example/blankscope/blankscope/io/LineScanner" (some 0) with
  accessFlags := 48
  interfaces := #[]
  cf := some (fileOf pool2 13 #[] #[{ accessFlags := 8, nameIndex := 252, descriptorIndex := 63, attributes := #[] }] 48 4 #[] #[{ accessFlags := 26, nameIndex := 253, descriptorIndex := 26, attributes := #[] }, { accessFlags := 26, nameIndex := 255, descriptorIndex := 26, attributes := #[] }, { accessFlags := 18, nameIndex := 34, descriptorIndex := 45, attributes := #[] }, { accessFlags := 18, nameIndex := 16, descriptorIndex := 17, attributes := #[] }, { accessFlags := 2, nameIndex := 21, descriptorIndex := 22, attributes := #[] }, { accessFlags := 2, nameIndex := 48, descriptorIndex := 26, attributes := #[] }, { accessFlags := 2, nameIndex := 78, descriptorIndex := 55, attributes := #[] }, { accessFlags := 2, nameIndex := 51, descriptorIndex := 26, attributes := #[] }, { accessFlags := 2, nameIndex := 25, descriptorIndex := 26, attributes := #[] }, { accessFlags := 2, nameIndex := 54, descriptorIndex := 55, attributes := #[] }, { accessFlags := 2, nameIndex := 31, descriptorIndex := 32, attributes := #[] }, { accessFlags := 2, nameIndex := 68, descriptorIndex := 69, attributes := #[] }, { accessFlags := 2, nameIndex := 75, descriptorIndex := 55, attributes := #[] }, { accessFlags := 2, nameIndex := 72, descriptorIndex := 26, attributes := #[] }])
  fields := #[{ name := "INITIAL_BUFFER_SIZE", type := .int, accessFlags := 26, slot := 0, constantValue := 0 }, { name := "MAX_BUFFER_SIZE", type := .int, accessFlags := 26, slot := 1, constantValue := 0 }, { name := "in", type := (.object "java/io/InputStream"), accessFlags := 18, slot := 0, constantValue := 0 }, { name := "text", type := (.object "java/lang/StringBuilder"), accessFlags := 18, slot := 1, constantValue := 0 }, { name := "buffer", type := (.array .byte), accessFlags := 2, slot := 2, constantValue := 0 }, { name := "filled", type := .int, accessFlags := 2, slot := 3, constantValue := 0 }, { name := "endOfInput", type := .boolean, accessFlags := 2, slot := 4, constantValue := 0 }, { name := "lineStart", type := .int, accessFlags := 2, slot := 5, constantValue := 0 }, { name := "lineEnd", type := .int, accessFlags := 2, slot := 6, constantValue := 0 }, { name := "afterCarriageReturn", type := .boolean, accessFlags := 2, slot := 7, constantValue := 0 }, { name := "previousTerminator", type := (.object "java/lang/String"), accessFlags := 2, slot := 8, constantValue := 0 }, { name := "lineNumber", type := .long, accessFlags := 2, slot := 9, constantValue := 0 }, { name := "ended", type := .boolean, accessFlags := 2, slot := 10, constantValue := 0 }, { name := "pos", type := .int, accessFlags := 2, slot := 11, constantValue := 0 }]
  methods := #[k2m0]
  instanceTypes := #[(.object "java/io/InputStream"), (.object "java/lang/StringBuilder"), (.array .byte), .int, .boolean, .int, .int, .boolean, (.object "java/lang/String"), .long, .boolean, .int]
  staticTypes := #[.int, .int]
  resolved := Array.replicate 308 none
  statics := none }

def pool3 : Array CpInfo := pool [(1, u "java/lang/Cloneable"), (0, .class_ 1), (0, u "java/lang/Object"), (0, .class_ 3)] 3

/-- java/lang/Cloneable -/
def k3 : Class := { plain "java/lang/Cloneable" (some 0) with
  accessFlags := 1537
  interfaces := #[]
  cf := some (fileOf pool3 2 #[] #[] 1537 4 #[] #[])
  fields := #[]
  methods := #[]
  instanceTypes := #[]
  staticTypes := #[]
  resolved := Array.replicate 8 none
  statics := none }

def pool4 : Array CpInfo := pool [(1, u "java/io/Serializable"), (0, .class_ 1), (0, u "java/lang/Object"), (0, .class_ 3)] 3

/-- java/io/Serializable -/
def k4 : Class := { plain "java/io/Serializable" (some 0) with
  accessFlags := 1537
  interfaces := #[]
  cf := some (fileOf pool4 2 #[] #[] 1537 4 #[] #[])
  fields := #[]
  methods := #[]
  instanceTypes := #[]
  staticTypes := #[]
  resolved := Array.replicate 8 none
  statics := none }

/-- the primitive byte -/
def k5 : Class := { plain "byte" none with kind := .primitive 'B', accessFlags := 0x411 }
/-- [B -/
def k6 : Class := { plain "[B" (some 0) with kind := .array 5 .byte, interfaces := #[3, 4], accessFlags := 1041 }

/-- the primitive int -/
def k7 : Class := { plain "int" none with kind := .primitive 'I', accessFlags := 0x411 }
/-- [I -/
def k8 : Class := { plain "[I" (some 0) with kind := .array 7 .int, interfaces := #[3, 4], accessFlags := 1041 }

def heap : Heap := #[]
def classes : Array Class := #[k0, k1, k2, k3, k4, k5, k6, k7, k8]
def interned : List (Array UInt16 × Addr) := []
def slotsUsed : Nat := 0
def theMethod : MethodId := ⟨1, 1⟩
def args0 : Array Value := #[.int 5, .int 2, .int 3]
def aboutOver (below : List Frame) : State where
  vm := { classes := classes, interned := interned.toArray }
  heap := heap
  slotsUsed := slotsUsed
  threads := #[{ frames := .invoking theMethod args0 :: below }]
def below0 : List Frame := [.native { method := ⟨0, 0⟩, args := #[] }]
def about1 : State := aboutOver below0
def p0 : Program := .bare "" "" ""
def e0 : Env := launch0.env 0 0 0
theorem w_frames : about1.frames = Frame.invoking theMethod args0 :: below0 := rfl
set_option maxRecDepth 65536 in
theorem w_args : argsFit about1.vm theMethod args0 = true := by decide +kernel
set_option maxRecDepth 65536 in
theorem w_heap : heapFits about1 = true := by decide +kernel
set_option maxRecDepth 65536 in
theorem w_runnable : about1.curStatus? = some .runnable := by decide +kernel
set_option maxRecDepth 65536 in
theorem w_alone : about1.alone = true := by decide +kernel
set_option maxRecDepth 65536 in
theorem w_named : about1.methodNamed? x = some theMethod := by decide +kernel
set_option maxRecDepth 65536 in
theorem w_hears : about1.hears theMethod below0 = true := by decide +kernel
set_option maxRecDepth 65536 in
theorem w_ripe : about1.ripe theMethod args0 below0 = true := by decide +kernel
theorem w_running : about1.status = .running := rfl
set_option maxRecDepth 65536 in
theorem w_room : about1.hasRoom e0.platform room_1 = true :=
  launch0.hasRoom_least _ room_1 (by decide +kernel) (by decide +kernel) (by decide +kernel) (by decide +kernel) (by decide +kernel) (by decide +kernel)
theorem allAtoms_all (ts : List Jvm.Cond) (a : Array Jvm.Value) (st : Jvm.State) : (allAtoms ts).before a st = ts.all (fun c => c.before a st) := by
  induction ts with
  | nil => rfl
  | cons c t ih =>
    show (Jvm.Cond.and c (allAtoms t)).before a st = _
    rw [Jvm.Cond.before_and, ih, List.all_cons]
def words1 : List Jvm.Cond := Jvm.Cond.code x code maxLocals ret :: tables_1
/-- a 'code' word, met by the world's own term for the bytes: nothing is compared byte by byte -/
theorem code_word {y : MethodName} {bytes : ByteArray} {mx : Nat} {rt : Option FieldType} {a : Array Value} {s : State} {m : MethodId} {meth : Method} {c : Code} (h1 : s.methodNamed? y = some m) (h2 : s.vm.method? m = some meth) (h3 : meth.code = some c) (h4 : c.code = bytes)
    (h5 : (c.maxLocals == mx && c.exceptionTable.isEmpty && decide (c.maxStack ≤ mostOperands) && decide (meth.sig.returnType = rt) && !meth.locks && decide (parseMethodDescriptor y.desc = some meth.sig)) = true) : (Jvm.Cond.code y bytes mx rt).before a s = true := by
  simp only [Bool.and_eq_true, beq_iff_eq, Bool.not_eq_true', decide_eq_true_eq] at h5
  obtain ⟨⟨⟨⟨⟨g1, g2⟩, g3⟩, g4⟩, g5⟩, g6⟩ := h5
  simp [Cond.before, Cond.holds, Cond.value, h1, h2, h3, h4, g1, g2, g3, g4, g5, g6]
def isCode : Jvm.Cond → Bool
  | .code _ _ _ _ => true
  | _ => false
theorem all_split {L : List Jvm.Cond} {P : Jvm.Cond → Bool} (h1 : L.all (fun c => isCode c || P c) = true) (h2 : ∀ c ∈ L.filter isCode, P c = true) : L.all P = true := by
  refine List.all_eq_true.mpr fun c hc => ?_
  have h := List.all_eq_true.mp h1 c hc
  rcases Bool.eq_false_or_eq_true (isCode c) with hi | hi
  · exact h2 c (List.mem_filter.mpr ⟨hc, hi⟩)
  · simpa [hi] using h
set_option maxRecDepth 65536 in
theorem w_c0 : (Jvm.Cond.code x code maxLocals ret).before args0 about1 = true := code_word (m := ⟨1, 1⟩) (meth := k1m1) (c := k1c1) (by decide +kernel) rfl rfl rfl (by decide +kernel)
set_option maxRecDepth 65536 in
theorem w_c1 : (Jvm.Cond.code ({ cls := "com/example/blankscope/blankscope/io/LineScanner", name := "isNameBaseChar", desc := "(I)Z" } : Jvm.MethodName) prog_41_method_27_code (1 : Nat) (Option.some Jvm.ClassFile.FieldType.boolean)).before args0 about1 = true := code_word (m := ⟨2, 0⟩) (meth := k2m0) (c := k2c0) (by decide +kernel) rfl rfl rfl (by decide +kernel)
set_option maxRecDepth 65536 in
theorem w_c2 : (Jvm.Cond.code ({ cls := "com/example/blankscope/blankscope/io/LineScannerIsNameBaseCharPinLaw", name := "reference", desc := "(I)Z" } : Jvm.MethodName) method_3_code (1 : Nat) (Option.some Jvm.ClassFile.FieldType.boolean)).before args0 about1 = true := code_word (m := ⟨1, 2⟩) (meth := k1m2) (c := k1c2) (by decide +kernel) rfl rfl rfl (by decide +kernel)
def codes1 : List Jvm.Cond := [Jvm.Cond.code x code maxLocals ret, Jvm.Cond.code ({ cls := "com/example/blankscope/blankscope/io/LineScanner", name := "isNameBaseChar", desc := "(I)Z" } : Jvm.MethodName) prog_41_method_27_code (1 : Nat) (Option.some Jvm.ClassFile.FieldType.boolean), Jvm.Cond.code ({ cls := "com/example/blankscope/blankscope/io/LineScannerIsNameBaseCharPinLaw", name := "reference", desc := "(I)Z" } : Jvm.MethodName) method_3_code (1 : Nat) (Option.some Jvm.ClassFile.FieldType.boolean)]
set_option maxRecDepth 65536 in
theorem codes_eq : words1.filter isCode = codes1 := rfl
theorem w_codes : ∀ c ∈ words1.filter isCode, c.before args0 about1 = true := by
  rw [codes_eq]
  intro c hc
  simp only [codes1, List.mem_cons, List.not_mem_nil, or_false] at hc
  rcases hc with rfl | rfl | rfl
  · exact w_c0
  · exact w_c1
  · exact w_c2
set_option maxRecDepth 65536 in
theorem w_t1 : (words1.take 24).all (fun c => isCode c || c.before args0 about1) = true := by decide +kernel
set_option maxRecDepth 65536 in
theorem w_t2 : (words1.drop 24).all (fun c => isCode c || c.before args0 about1) = true := by decide +kernel
theorem w_tables : (allAtoms (Jvm.Cond.code x code maxLocals ret :: tables_1)).before args0 about1 = true := by
  rw [allAtoms_all]
  show words1.all (fun c => c.before args0 about1) = true
  refine all_split ?_ w_codes
  rw [← List.take_append_drop 24 words1, List.all_append, w_t1, w_t2]
  rfl
set_option maxRecDepth 65536 in
theorem w_case : (Jvm.Cond.and given_1 narrow_1).before args0 about1 = true := by decide +kernel
theorem w_applies : (headSpec (Jvm.Cond.code x code maxLocals ret :: tables_1) room_1).applies x e0.platform about1 = true :=
  (Spec.applies_iff w_frames).mpr ⟨w_running, w_runnable, w_alone, w_named, w_hears, w_ripe, w_room, w_tables⟩
theorem atStart : AtStart classFile x code maxLocals ret World_1 tables_1 room_1 Calls_1 rest_1 Pre_1 launch0 p0 e0 about1 theMethod args0 below0 :=
  ⟨lists_1, trivial, launch0.admits_env _ _ _, launch0.least_env, fairChoices_fair.cas, fairChoices_fair.clock, w_frames, w_args, w_heap, w_applies, trivial, trivial, w_case⟩
end start1
theorem witness_1 : WitnessClaimed_1 := ⟨start1.p0, start1.e0, start1.about1, start1.theMethod, start1.args0, start1.below0, start1.atStart⟩
end Jvm.Pilot.@@N@@
