import JvmDerived
import JvmDerived.Pilot.@@N@@Statement
import JvmDerived.Pilot.@@N@@Code
set_option linter.unusedVariables false
set_option linter.unusedSimpArgs false
namespace Jvm.Pilot.@@N@@
open Jvm Jvm.ClassFile Sem Op Lib Jvm.Free Jvm.Stand Jvm.LawKit Jvm.RoadKit Bundle Jvm.Pilot.@@N@@.Jvm.D
/-! ## THE W-KIT: W k n0 Q h cs sl pc L st: whoever stands (in the body that k tells of) over the heap h with locals L and stack st at pc comes to the body's end with Q -/
abbrev KT : Type := Program × Launch × Env × Room × State × MethodId × Array Value × List Frame × Method × Code
def Good (κ : KT) (R : Room) (Z : State) (own mnm : String) (bytes : ByteArray) (ml : Nat) (ret : Option FieldType) : Prop :=
  match κ with
  | (p, _, _, R', s, m, _, _, meth, c) => p.tables.exec = Jvm.exec ∧ Z.Warmed39 s.vm ∧ c.code = bytes ∧ c.maxLocals = ml ∧ s.vm.findClass own = some m.cls ∧ meth.sig.returnType = ret ∧ meth.locks = false ∧ meth.name = mnm ∧ R' = R
def W (κ : KT) (n0 : Nat) (Q : Option Value → Heap → Prop) (h : Heap) (cs sl pc : Nat) (L : List Slot) (st : List Value) : Prop :=
  match κ with
  | (p, l, e, R, s, m, args, below, meth, c) =>
    ∀ (T : State) (locs : List Loc), Stand p l e R s m args below meth c T locs cs sl → T.heap = h → Fr n0 locs → cs ≤ R.cells → sl ≤ R.slots →
      ∃ s₂ o, Steps p.tables e below (T.setTop (mkF m pc L.toArray st)) s₂ ∧ s₂.status = .running ∧ Ended s₂ below o ∧ ∃ v L', o = .returned v ∧ (Q v s₂.heap ∧ Fr n0 L') ∧ FrameEnd s o s₂ L' R.cells R.slots
/-- a callee's contract -/
def Con (Z : State) (y : MethodName) (bytes : ByteArray) (ml : Nat) (ret : Option FieldType) (rm : Room) (as' : List Value) (h0 : Heap) (n0 : Nat) (Q : Option Value → Heap → Prop) : Prop :=
  ∀ (l : Launch) (ws : List Jvm.Cond), MetFree l y (head1 (Jvm.Cond.code y bytes ml ret :: ws) rm) (fun a U => a = as'.toArray ∧ Z.Warmed39 U.vm ∧ U.heap = h0) (fun _ _ _ _ _ => True) (fun _ U o U' => ∃ v L, o = .returned v ∧ (Q v U'.heap ∧ Fr n0 L) ∧ FrameEnd U o U' L rm.cells rm.slots)
/-- an instruction: what stands at pc, its length, the pc behind -/
def Ins1 (b : ByteArray) (pc : Nat) (i : Instr) (len nx : Nat) : Prop := decode b pc = .ok (i, len) ∧ pc + len = nx
/-- a jump: what stands at pc, the pc behind, the pc to which it leads -/
def Jmp1 (b : ByteArray) (pc : Nat) (i : Instr) (o : Int) (nx tg : Nat) : Prop := decode b pc = .ok (i, 3) ∧ pc + 3 = nx ∧ 0 ≤ (pc : Int) + o ∧ ((pc : Int) + o).toNat = tg
def cmpP : ClassFile.Cond → Int32 → Int32 → Prop
  | .eq, x, y => x.toInt = y.toInt
  | .ne, x, y => ¬ x.toInt = y.toInt
  | .lt, x, y => x.toInt < y.toInt
  | .ge, x, y => y.toInt ≤ x.toInt
  | .gt, x, y => y.toInt < x.toInt
  | .le, x, y => x.toInt ≤ y.toInt
def cmp0 : ClassFile.Cond → Int32 → Prop
  | .eq, x => x.toInt = 0
  | .ne, x => ¬ x.toInt = 0
  | .lt, x => x.toInt < 0
  | .ge, x => 0 ≤ x.toInt
  | .gt, x => 0 < x.toInt
  | .le, x => x.toInt ≤ 0
def cmpL : ClassFile.Cond → Int64 → Int64 → Prop
  | .eq, x, y => x.toInt = y.toInt
  | .ne, x, y => ¬ x.toInt = y.toInt
  | .lt, x, y => x.toInt < y.toInt
  | .ge, x, y => y.toInt ≤ x.toInt
  | .gt, x, y => y.toInt < x.toInt
  | .le, x, y => x.toInt ≤ y.toInt
theorem cmpP_iff (cd : ClassFile.Cond) (x y : Int32) : if_icmp.holds cd x y = true ↔ cmpP cd x y := by
  cases cd <;> simp [if_icmp.holds, cmpP, Int32.lt_iff_toInt_lt, Int32.le_iff_toInt_le, Int32.toInt_inj]
theorem cmpP_no {cd : ClassFile.Cond} {x y : Int32} (h : ¬ cmpP cd x y) : if_icmp.holds cd x y = false := by
  cases q : if_icmp.holds cd x y with
  | false => rfl
  | true => exact absurd ((cmpP_iff _ _ _).mp q) h
theorem cmp0_iff (cd : ClassFile.Cond) (x : Int32) : cmpP cd x 0 ↔ cmp0 cd x := by
  cases cd <;> simp [cmpP, cmp0]
theorem cmpL_iff (cd : ClassFile.Cond) (x y : Int64) : cmp0 cd (if x > y then 1 else if x = y then 0 else -1) ↔ cmpL cd x y := by
  have hc := c_lcmp x y
  show cmp0 cd (lcmpW x y) ↔ _
  cases cd <;> simp only [cmp0, cmpL] <;> omega
section WKit
variable {κ : KT} {R : Room} {Z : State} {a0 : Array Value} {own mnm : String} {bytes : ByteArray} {ml : Nat} {ret : Option FieldType} {n0 : Nat} {Q : Option Value → Heap → Prop} {h : Heap} {cs sl pc nx tg : Nat} {L : List Slot} {st rest : List Value}
theorem W.pure {pc' : Nat} {L' : List Slot} {st' : List Value} (C : Good κ R Z own mnm bytes ml ret) (k : W κ n0 Q h cs sl pc' L' st')
    (hs : ∀ {p : Program} {e : Env} {below : List Frame} {T target : State} {m : MethodId} {c : Code}, At T m c below → p.tables.exec = Jvm.exec → c.code = bytes → Steps p.tables e below (T.setTop (mkF m pc' L'.toArray st')) target → Steps p.tables e below (T.setTop (mkF m pc L.toArray st)) target) : W κ n0 Q h cs sl pc L st := by
  obtain ⟨p, l, e, R', s, m, args, below, meth, c⟩ := κ
  obtain ⟨hx, -, hby, -⟩ := C
  intro T locs X eT N h1 h2
  obtain ⟨s₂, o, a, r⟩ := k T locs X eT N h1 h2
  exact ⟨s₂, o, hs X.here hx hby a, r⟩
/-- more room taken than made -/
theorem W.more {cs' sl' : Nat} (h1 : cs ≤ cs') (h2 : sl ≤ sl') (C : Good κ R Z own mnm bytes ml ret) (g1 : cs' ≤ R.cells) (g2 : sl' ≤ R.slots) (k : W κ n0 Q h cs' sl' pc L st) : W κ n0 Q h cs sl pc L st := by
  obtain ⟨p, l, e, R', s, m, args, below, meth, c⟩ := κ
  obtain ⟨-, -, -, -, -, -, -, -, rfl⟩ := C
  intro T locs X eT N _ _
  exact k T locs (X.more h1 h2) eT N g1 g2
theorem W.post {Q' : Option Value → Heap → Prop} (hq : ∀ v h, Q v h → Q' v h) (k : W κ n0 Q h cs sl pc L st) : W κ n0 Q' h cs sl pc L st := by
  obtain ⟨p, l, e, R', s, m, args, below, meth, c⟩ := κ
  intro T locs X eT N h1 h2
  obtain ⟨s₂, o, a, b, c, v, L', d, ⟨f, f'⟩, g⟩ := k T locs X eT N h1 h2
  exact ⟨s₂, o, a, b, c, v, L', d, ⟨hq _ _ f, f'⟩, g⟩

theorem W.iadd {x y z : Int32} (C : Good κ R Z own mnm bytes ml ret) (hd : Ins1 bytes pc .iadd 1 nx) (hz : x + y = z) (k : W κ n0 Q h cs sl nx L (.int z :: rest)) : W κ n0 Q h cs sl pc L (.int y :: .int x :: rest) := by
  obtain ⟨hd, rfl⟩ := hd
  subst hz
  exact W.pure C k fun hA hx hby hr => XS.iadd hA hx rfl (hb hby hd) rfl hr
theorem W.isub {x y z : Int32} (C : Good κ R Z own mnm bytes ml ret) (hd : Ins1 bytes pc .isub 1 nx) (hz : x - y = z) (k : W κ n0 Q h cs sl nx L (.int z :: rest)) : W κ n0 Q h cs sl pc L (.int y :: .int x :: rest) := by
  obtain ⟨hd, rfl⟩ := hd
  subst hz
  exact W.pure C k fun hA hx hby hr => XS.isub hA hx rfl (hb hby hd) rfl hr
theorem W.imul {x y z : Int32} (C : Good κ R Z own mnm bytes ml ret) (hd : Ins1 bytes pc .imul 1 nx) (hz : x * y = z) (k : W κ n0 Q h cs sl nx L (.int z :: rest)) : W κ n0 Q h cs sl pc L (.int y :: .int x :: rest) := by
  obtain ⟨hd, rfl⟩ := hd
  subst hz
  exact W.pure C k fun hA hx hby hr => XS.imul hA hx rfl (hb hby hd) rfl hr
theorem W.iand {x y z : Int32} (C : Good κ R Z own mnm bytes ml ret) (hd : Ins1 bytes pc .iand 1 nx) (hz : x &&& y = z) (k : W κ n0 Q h cs sl nx L (.int z :: rest)) : W κ n0 Q h cs sl pc L (.int y :: .int x :: rest) := by
  obtain ⟨hd, rfl⟩ := hd
  subst hz
  exact W.pure C k fun hA hx hby hr => XS.iand hA hx rfl (hb hby hd) rfl hr
theorem W.ior {x y z : Int32} (C : Good κ R Z own mnm bytes ml ret) (hd : Ins1 bytes pc .ior 1 nx) (hz : x ||| y = z) (k : W κ n0 Q h cs sl nx L (.int z :: rest)) : W κ n0 Q h cs sl pc L (.int y :: .int x :: rest) := by
  obtain ⟨hd, rfl⟩ := hd
  subst hz
  exact W.pure C k fun hA hx hby hr => XS.ior hA hx rfl (hb hby hd) rfl hr
theorem W.ixor {x y z : Int32} (C : Good κ R Z own mnm bytes ml ret) (hd : Ins1 bytes pc .ixor 1 nx) (hz : x ^^^ y = z) (k : W κ n0 Q h cs sl nx L (.int z :: rest)) : W κ n0 Q h cs sl pc L (.int y :: .int x :: rest) := by
  obtain ⟨hd, rfl⟩ := hd
  subst hz
  exact W.pure C k fun hA hx hby hr => XS.ixor hA hx rfl (hb hby hd) rfl hr
theorem W.ladd {x y z : Int64} (C : Good κ R Z own mnm bytes ml ret) (hd : Ins1 bytes pc .ladd 1 nx) (hz : x + y = z) (k : W κ n0 Q h cs sl nx L (.long z :: rest)) : W κ n0 Q h cs sl pc L (.long y :: .long x :: rest) := by
  obtain ⟨hd, rfl⟩ := hd
  subst hz
  exact W.pure C k fun hA hx hby hr => XS.ladd hA hx rfl (hb hby hd) rfl hr
theorem W.lsub {x y z : Int64} (C : Good κ R Z own mnm bytes ml ret) (hd : Ins1 bytes pc .lsub 1 nx) (hz : x - y = z) (k : W κ n0 Q h cs sl nx L (.long z :: rest)) : W κ n0 Q h cs sl pc L (.long y :: .long x :: rest) := by
  obtain ⟨hd, rfl⟩ := hd
  subst hz
  exact W.pure C k fun hA hx hby hr => XS.lsub hA hx rfl (hb hby hd) rfl hr
theorem W.lmul {x y z : Int64} (C : Good κ R Z own mnm bytes ml ret) (hd : Ins1 bytes pc .lmul 1 nx) (hz : x * y = z) (k : W κ n0 Q h cs sl nx L (.long z :: rest)) : W κ n0 Q h cs sl pc L (.long y :: .long x :: rest) := by
  obtain ⟨hd, rfl⟩ := hd
  subst hz
  exact W.pure C k fun hA hx hby hr => XS.lmul hA hx rfl (hb hby hd) rfl hr
theorem W.land {x y z : Int64} (C : Good κ R Z own mnm bytes ml ret) (hd : Ins1 bytes pc .land 1 nx) (hz : x &&& y = z) (k : W κ n0 Q h cs sl nx L (.long z :: rest)) : W κ n0 Q h cs sl pc L (.long y :: .long x :: rest) := by
  obtain ⟨hd, rfl⟩ := hd
  subst hz
  exact W.pure C k fun hA hx hby hr => XS.land hA hx rfl (hb hby hd) rfl hr
theorem W.lor {x y z : Int64} (C : Good κ R Z own mnm bytes ml ret) (hd : Ins1 bytes pc .lor 1 nx) (hz : x ||| y = z) (k : W κ n0 Q h cs sl nx L (.long z :: rest)) : W κ n0 Q h cs sl pc L (.long y :: .long x :: rest) := by
  obtain ⟨hd, rfl⟩ := hd
  subst hz
  exact W.pure C k fun hA hx hby hr => XS.lor hA hx rfl (hb hby hd) rfl hr
theorem W.lxor {x y z : Int64} (C : Good κ R Z own mnm bytes ml ret) (hd : Ins1 bytes pc .lxor 1 nx) (hz : x ^^^ y = z) (k : W κ n0 Q h cs sl nx L (.long z :: rest)) : W κ n0 Q h cs sl pc L (.long y :: .long x :: rest) := by
  obtain ⟨hd, rfl⟩ := hd
  subst hz
  exact W.pure C k fun hA hx hby hr => XS.lxor hA hx rfl (hb hby hd) rfl hr
theorem W.idiv {x y z : Int32} (C : Good κ R Z own mnm bytes ml ret) (hd : Ins1 bytes pc .idiv 1 nx) (hy : y ≠ 0) (hz : x / y = z) (k : W κ n0 Q h cs sl nx L (.int z :: rest)) : W κ n0 Q h cs sl pc L (.int y :: .int x :: rest) := by
  obtain ⟨hd, rfl⟩ := hd
  subst hz
  exact W.pure C k fun hA hx hby hr => XS.idiv hA hx rfl (hb hby hd) rfl hy hr
theorem W.irem {x y z : Int32} (C : Good κ R Z own mnm bytes ml ret) (hd : Ins1 bytes pc .irem 1 nx) (hy : y ≠ 0) (hz : x % y = z) (k : W κ n0 Q h cs sl nx L (.int z :: rest)) : W κ n0 Q h cs sl pc L (.int y :: .int x :: rest) := by
  obtain ⟨hd, rfl⟩ := hd
  subst hz
  exact W.pure C k fun hA hx hby hr => XS.irem hA hx rfl (hb hby hd) rfl hy (by rw [irem_eq_mod]; exact hr)
theorem W.ldiv {x y z : Int64} (C : Good κ R Z own mnm bytes ml ret) (hd : Ins1 bytes pc .ldiv 1 nx) (hy : y ≠ 0) (hz : x / y = z) (k : W κ n0 Q h cs sl nx L (.long z :: rest)) : W κ n0 Q h cs sl pc L (.long y :: .long x :: rest) := by
  obtain ⟨hd, rfl⟩ := hd
  subst hz
  exact W.pure C k fun hA hx hby hr => XS.ldiv hA hx rfl (hb hby hd) rfl hy hr
theorem W.lrem {x y z : Int64} (C : Good κ R Z own mnm bytes ml ret) (hd : Ins1 bytes pc .lrem 1 nx) (hy : y ≠ 0) (hz : x - (x / y) * y = z) (k : W κ n0 Q h cs sl nx L (.long z :: rest)) : W κ n0 Q h cs sl pc L (.long y :: .long x :: rest) := by
  obtain ⟨hd, rfl⟩ := hd
  subst hz
  exact W.pure C k fun hA hx hby hr => XS.lrem hA hx rfl (hb hby hd) rfl hy hr
theorem W.ishl {x y z : Int32} (C : Good κ R Z own mnm bytes ml ret) (hd : Ins1 bytes pc .ishl 1 nx) (hz : x <<< (y &&& 31) = z) (k : W κ n0 Q h cs sl nx L (.int z :: rest)) : W κ n0 Q h cs sl pc L (.int y :: .int x :: rest) := by
  obtain ⟨hd, rfl⟩ := hd
  subst hz
  exact W.pure C k fun hA hx hby hr => XS.ishl hA hx rfl (hb hby hd) rfl hr
theorem W.ishr {x y z : Int32} (C : Good κ R Z own mnm bytes ml ret) (hd : Ins1 bytes pc .ishr 1 nx) (hz : x >>> (y &&& 31) = z) (k : W κ n0 Q h cs sl nx L (.int z :: rest)) : W κ n0 Q h cs sl pc L (.int y :: .int x :: rest) := by
  obtain ⟨hd, rfl⟩ := hd
  subst hz
  exact W.pure C k fun hA hx hby hr => XS.ishr hA hx rfl (hb hby hd) rfl hr
theorem W.iushr {x y z : Int32} (C : Good κ R Z own mnm bytes ml ret) (hd : Ins1 bytes pc .iushr 1 nx) (hz : (x.toUInt32 >>> (y &&& 31).toUInt32).toInt32 = z) (k : W κ n0 Q h cs sl nx L (.int z :: rest)) : W κ n0 Q h cs sl pc L (.int y :: .int x :: rest) := by
  obtain ⟨hd, rfl⟩ := hd
  subst hz
  exact W.pure C k fun hA hx hby hr => XS.iushr hA hx rfl (hb hby hd) rfl hr
theorem W.lshl {x z : Int64} {y : Int32} (C : Good κ R Z own mnm bytes ml ret) (hd : Ins1 bytes pc .lshl 1 nx) (hz : x <<< (y &&& 0x3f).toInt64 = z) (k : W κ n0 Q h cs sl nx L (.long z :: rest)) : W κ n0 Q h cs sl pc L (.int y :: .long x :: rest) := by
  obtain ⟨hd, rfl⟩ := hd
  subst hz
  exact W.pure C k fun hA hx hby hr => XS.lshl hA hx rfl (hb hby hd) rfl hr
theorem W.lshr {x z : Int64} {y : Int32} (C : Good κ R Z own mnm bytes ml ret) (hd : Ins1 bytes pc .lshr 1 nx) (hz : x >>> (y &&& 0x3f).toInt64 = z) (k : W κ n0 Q h cs sl nx L (.long z :: rest)) : W κ n0 Q h cs sl pc L (.int y :: .long x :: rest) := by
  obtain ⟨hd, rfl⟩ := hd
  subst hz
  exact W.pure C k fun hA hx hby hr => XS.lshr hA hx rfl (hb hby hd) rfl hr
theorem W.lushr {x z : Int64} {y : Int32} (C : Good κ R Z own mnm bytes ml ret) (hd : Ins1 bytes pc .lushr 1 nx) (hz : (x.toUInt64 >>> (y &&& 0x3f).toInt64.toUInt64).toInt64 = z) (k : W κ n0 Q h cs sl nx L (.long z :: rest)) : W κ n0 Q h cs sl pc L (.int y :: .long x :: rest) := by
  obtain ⟨hd, rfl⟩ := hd
  subst hz
  exact W.pure C k fun hA hx hby hr => XS.lushr hA hx rfl (hb hby hd) rfl hr
theorem W.ineg {x : Int32} {z : Int32} (C : Good κ R Z own mnm bytes ml ret) (hd : Ins1 bytes pc .ineg 1 nx) (hz : -x = z) (k : W κ n0 Q h cs sl nx L (.int z :: rest)) : W κ n0 Q h cs sl pc L (.int x :: rest) := by
  obtain ⟨hd, rfl⟩ := hd
  subst hz
  exact W.pure C k fun hA hx hby hr => XS.ineg hA hx rfl (hb hby hd) rfl hr
theorem W.lneg {x : Int64} {z : Int64} (C : Good κ R Z own mnm bytes ml ret) (hd : Ins1 bytes pc .lneg 1 nx) (hz : -x = z) (k : W κ n0 Q h cs sl nx L (.long z :: rest)) : W κ n0 Q h cs sl pc L (.long x :: rest) := by
  obtain ⟨hd, rfl⟩ := hd
  subst hz
  exact W.pure C k fun hA hx hby hr => XS.lneg hA hx rfl (hb hby hd) rfl hr
theorem W.i2l {x : Int32} {z : Int64} (C : Good κ R Z own mnm bytes ml ret) (hd : Ins1 bytes pc .i2l 1 nx) (hz : x.toInt64 = z) (k : W κ n0 Q h cs sl nx L (.long z :: rest)) : W κ n0 Q h cs sl pc L (.int x :: rest) := by
  obtain ⟨hd, rfl⟩ := hd
  subst hz
  exact W.pure C k fun hA hx hby hr => XS.i2l hA hx rfl (hb hby hd) rfl hr
theorem W.l2i {x : Int64} {z : Int32} (C : Good κ R Z own mnm bytes ml ret) (hd : Ins1 bytes pc .l2i 1 nx) (hz : x.toInt32 = z) (k : W κ n0 Q h cs sl nx L (.int z :: rest)) : W κ n0 Q h cs sl pc L (.long x :: rest) := by
  obtain ⟨hd, rfl⟩ := hd
  subst hz
  exact W.pure C k fun hA hx hby hr => XS.l2i hA hx rfl (hb hby hd) rfl hr
theorem W.i2b {x : Int32} {z : Int32} (C : Good κ R Z own mnm bytes ml ret) (hd : Ins1 bytes pc .i2b 1 nx) (hz : x.toInt8.toInt32 = z) (k : W κ n0 Q h cs sl nx L (.int z :: rest)) : W κ n0 Q h cs sl pc L (.int x :: rest) := by
  obtain ⟨hd, rfl⟩ := hd
  subst hz
  exact W.pure C k fun hA hx hby hr => XS.i2b hA hx rfl (hb hby hd) rfl hr
theorem W.i2s {x : Int32} {z : Int32} (C : Good κ R Z own mnm bytes ml ret) (hd : Ins1 bytes pc .i2s 1 nx) (hz : x.toInt16.toInt32 = z) (k : W κ n0 Q h cs sl nx L (.int z :: rest)) : W κ n0 Q h cs sl pc L (.int x :: rest) := by
  obtain ⟨hd, rfl⟩ := hd
  subst hz
  exact W.pure C k fun hA hx hby hr => XS.i2s hA hx rfl (hb hby hd) rfl hr
theorem W.i2c {x : Int32} {z : Int32} (C : Good κ R Z own mnm bytes ml ret) (hd : Ins1 bytes pc .i2c 1 nx) (hz : x.toUInt32.toUInt16.toUInt32.toInt32 = z) (k : W κ n0 Q h cs sl nx L (.int z :: rest)) : W κ n0 Q h cs sl pc L (.int x :: rest) := by
  obtain ⟨hd, rfl⟩ := hd
  subst hz
  exact W.pure C k fun hA hx hby hr => XS.i2c hA hx rfl (hb hby hd) rfl hr
theorem W.iconst {i : Int} {z : Int32} (C : Good κ R Z own mnm bytes ml ret) (hd : Ins1 bytes pc (.iconst i) 1 nx) (hz : Int32.ofInt i = z) (k : W κ n0 Q h cs sl nx L (.int z :: st)) : W κ n0 Q h cs sl pc L st := by
  obtain ⟨hd, rfl⟩ := hd
  subst hz
  exact W.pure C k fun hA hx hby hr => XS.iconst hA hx rfl (hb hby hd) hr
theorem W.bipush {i : Int} {z : Int32} (C : Good κ R Z own mnm bytes ml ret) (hd : Ins1 bytes pc (.bipush i) 2 nx) (hz : (Int8.ofInt i).toInt32 = z) (k : W κ n0 Q h cs sl nx L (.int z :: st)) : W κ n0 Q h cs sl pc L st := by
  obtain ⟨hd, rfl⟩ := hd
  subst hz
  exact W.pure C k fun hA hx hby hr => XS.bipush hA hx rfl (hb hby hd) hr
theorem W.sipush {i : Int} {z : Int32} (C : Good κ R Z own mnm bytes ml ret) (hd : Ins1 bytes pc (.sipush i) 3 nx) (hz : (Int16.ofInt i).toInt32 = z) (k : W κ n0 Q h cs sl nx L (.int z :: st)) : W κ n0 Q h cs sl pc L st := by
  obtain ⟨hd, rfl⟩ := hd
  subst hz
  exact W.pure C k fun hA hx hby hr => XS.sipush hA hx rfl (hb hby hd) hr
theorem W.lconst {i : Fin 2} {z : Int64} (C : Good κ R Z own mnm bytes ml ret) (hd : Ins1 bytes pc (.lconst i) 1 nx) (hz : Int64.ofNat i = z) (k : W κ n0 Q h cs sl nx L (.long z :: st)) : W κ n0 Q h cs sl pc L st := by
  obtain ⟨hd, rfl⟩ := hd
  subst hz
  exact W.pure C k fun hA hx hby hr => XS.lconst hA hx rfl (hb hby hd) hr
theorem W.aconst_null (C : Good κ R Z own mnm bytes ml ret) (hd : Ins1 bytes pc .aconst_null 1 nx) (k : W κ n0 Q h cs sl nx L (.null :: st)) : W κ n0 Q h cs sl pc L st := by
  obtain ⟨hd, rfl⟩ := hd
  exact W.pure C k fun hA hx hby hr => XS.aconstNull hA hx rfl (hb hby hd) hr
theorem W.iload {i : Nat} {v : Int32} (C : Good κ R Z own mnm bytes ml ret) (hd : Ins1 bytes pc (.iload i) 2 nx) (hl : L[i]? = some (.val (.int v))) (k : W κ n0 Q h cs sl nx L ((.int v) :: st)) : W κ n0 Q h cs sl pc L st := by
  obtain ⟨hd, rfl⟩ := hd
  exact W.pure C k fun hA hx hby hr => XS.iload hA hx rfl (hb hby hd) (by simpa using hl) hr
theorem W.iloadN {i : Fin 4} {v : Int32} (C : Good κ R Z own mnm bytes ml ret) (hd : Ins1 bytes pc (.iload_n i) 1 nx) (hl : L[i.val]? = some (.val (.int v))) (k : W κ n0 Q h cs sl nx L ((.int v) :: st)) : W κ n0 Q h cs sl pc L st := by
  obtain ⟨hd, rfl⟩ := hd
  exact W.pure C k fun hA hx hby hr => XS.iloadN hA hx rfl (hb hby hd) (by simpa using hl) hr
theorem W.lload {i : Nat} {v : Int64} (C : Good κ R Z own mnm bytes ml ret) (hd : Ins1 bytes pc (.lload i) 2 nx) (hl : L[i]? = some (.val (.long v))) (k : W κ n0 Q h cs sl nx L ((.long v) :: st)) : W κ n0 Q h cs sl pc L st := by
  obtain ⟨hd, rfl⟩ := hd
  exact W.pure C k fun hA hx hby hr => XS.lload hA hx rfl (hb hby hd) (by simpa using hl) hr
theorem W.lloadN {i : Fin 4} {v : Int64} (C : Good κ R Z own mnm bytes ml ret) (hd : Ins1 bytes pc (.lload_n i) 1 nx) (hl : L[i.val]? = some (.val (.long v))) (k : W κ n0 Q h cs sl nx L ((.long v) :: st)) : W κ n0 Q h cs sl pc L st := by
  obtain ⟨hd, rfl⟩ := hd
  exact W.pure C k fun hA hx hby hr => XS.lloadN hA hx rfl (hb hby hd) (by simpa using hl) hr
theorem W.aload {i : Nat} {v : Value} (C : Good κ R Z own mnm bytes ml ret) (hd : Ins1 bytes pc (.aload i) 2 nx) (hl : L[i]? = some (.val (v))) (hv : v.isRef = true) (k : W κ n0 Q h cs sl nx L ((v) :: st)) : W κ n0 Q h cs sl pc L st := by
  obtain ⟨hd, rfl⟩ := hd
  exact W.pure C k fun hA hx hby hr => XS.aload hA hx rfl (hb hby hd) (by simpa using hl) hv hr
theorem W.aloadN {i : Fin 4} {v : Value} (C : Good κ R Z own mnm bytes ml ret) (hd : Ins1 bytes pc (.aload_n i) 1 nx) (hl : L[i.val]? = some (.val (v))) (hv : v.isRef = true) (k : W κ n0 Q h cs sl nx L ((v) :: st)) : W κ n0 Q h cs sl pc L st := by
  obtain ⟨hd, rfl⟩ := hd
  exact W.pure C k fun hA hx hby hr => XS.aloadN hA hx rfl (hb hby hd) (by simpa using hl) hv hr
theorem W.istore {i : Nat} {L' : List Slot} {v : Int32} (C : Good κ R Z own mnm bytes ml ret) (hd : Ins1 bytes pc (.istore i) 2 nx) (hl : storeLocals L.toArray i (.int v) = some L'.toArray) (k : W κ n0 Q h cs sl nx L' rest) : W κ n0 Q h cs sl pc L ((.int v) :: rest) := by
  obtain ⟨hd, rfl⟩ := hd
  exact W.pure C k fun hA hx hby hr => XS.istore hA hx rfl (hb hby hd) rfl hl hr
theorem W.istoreN {i : Fin 4} {L' : List Slot} {v : Int32} (C : Good κ R Z own mnm bytes ml ret) (hd : Ins1 bytes pc (.istore_n i) 1 nx) (hl : storeLocals L.toArray i.val (.int v) = some L'.toArray) (k : W κ n0 Q h cs sl nx L' rest) : W κ n0 Q h cs sl pc L ((.int v) :: rest) := by
  obtain ⟨hd, rfl⟩ := hd
  exact W.pure C k fun hA hx hby hr => XS.istoreN hA hx rfl (hb hby hd) rfl hl hr
theorem W.lstore {i : Nat} {L' : List Slot} {v : Int64} (C : Good κ R Z own mnm bytes ml ret) (hd : Ins1 bytes pc (.lstore i) 2 nx) (hl : storeLocals L.toArray i (.long v) = some L'.toArray) (k : W κ n0 Q h cs sl nx L' rest) : W κ n0 Q h cs sl pc L ((.long v) :: rest) := by
  obtain ⟨hd, rfl⟩ := hd
  exact W.pure C k fun hA hx hby hr => XS.lstore hA hx rfl (hb hby hd) rfl hl hr
theorem W.lstoreN {i : Fin 4} {L' : List Slot} {v : Int64} (C : Good κ R Z own mnm bytes ml ret) (hd : Ins1 bytes pc (.lstore_n i) 1 nx) (hl : storeLocals L.toArray i.val (.long v) = some L'.toArray) (k : W κ n0 Q h cs sl nx L' rest) : W κ n0 Q h cs sl pc L ((.long v) :: rest) := by
  obtain ⟨hd, rfl⟩ := hd
  exact W.pure C k fun hA hx hby hr => XS.lstoreN hA hx rfl (hb hby hd) rfl hl hr
theorem W.astore {i : Nat} {L' : List Slot} {v : Value} (C : Good κ R Z own mnm bytes ml ret) (hd : Ins1 bytes pc (.astore i) 2 nx) (hl : storeLocals L.toArray i (v) = some L'.toArray) (hv : v.isRef = true) (k : W κ n0 Q h cs sl nx L' rest) : W κ n0 Q h cs sl pc L ((v) :: rest) := by
  obtain ⟨hd, rfl⟩ := hd
  exact W.pure C k fun hA hx hby hr => XS.astore hA hx rfl (hb hby hd) rfl hv hl hr
theorem W.astoreN {i : Fin 4} {L' : List Slot} {v : Value} (C : Good κ R Z own mnm bytes ml ret) (hd : Ins1 bytes pc (.astore_n i) 1 nx) (hl : storeLocals L.toArray i.val (v) = some L'.toArray) (hv : v.isRef = true) (k : W κ n0 Q h cs sl nx L' rest) : W κ n0 Q h cs sl pc L ((v) :: rest) := by
  obtain ⟨hd, rfl⟩ := hd
  exact W.pure C k fun hA hx hby hr => XS.astoreN hA hx rfl (hb hby hd) rfl hv hl hr
theorem W.iinc {i : Nat} {d : Int} {v z : Int32} {L' : List Slot} (C : Good κ R Z own mnm bytes ml ret) (hd : Ins1 bytes pc (.iinc i d) 3 nx) (hl : L[i]? = some (.val (.int v))) (hz : v + Int32.ofInt d = z) (hl' : storeLocals L.toArray i (.int z) = some L'.toArray) (k : W κ n0 Q h cs sl nx L' st) : W κ n0 Q h cs sl pc L st := by
  obtain ⟨hd, rfl⟩ := hd
  subst hz
  exact W.pure C k fun hA hx hby hr => XS.iinc hA hx rfl (hb hby hd) (by simpa using hl) hl' hr
theorem W.dup {x : Value} (C : Good κ R Z own mnm bytes ml ret) (hd : Ins1 bytes pc .dup 1 nx) (hc : x.category = 1) (k : W κ n0 Q h cs sl nx L (x :: x :: rest)) : W κ n0 Q h cs sl pc L (x :: rest) := by
  obtain ⟨hd, rfl⟩ := hd
  exact W.pure C k fun hA hx hby hr => XS.dup hA hx rfl (hb hby hd) rfl hc hr
theorem W.pop {x : Value} (C : Good κ R Z own mnm bytes ml ret) (hd : Ins1 bytes pc .pop 1 nx) (hc : x.category = 1) (k : W κ n0 Q h cs sl nx L rest) : W κ n0 Q h cs sl pc L (x :: rest) := by
  obtain ⟨hd, rfl⟩ := hd
  exact W.pure C k fun hA hx hby hr => XS.pop hA hx rfl (hb hby hd) rfl hc hr
theorem W.dup_x1 {x y : Value} (C : Good κ R Z own mnm bytes ml ret) (hd : Ins1 bytes pc .dup_x1 1 nx) (hc : x.category = 1) (hc' : y.category = 1) (k : W κ n0 Q h cs sl nx L (x :: y :: x :: rest)) : W κ n0 Q h cs sl pc L (x :: y :: rest) := by
  obtain ⟨hd, rfl⟩ := hd
  exact W.pure C k fun hA hx hby hr => XS.dupX1 hA hx rfl (hb hby hd) rfl hc hc' hr
theorem W.dup2 {x y : Value} (C : Good κ R Z own mnm bytes ml ret) (hd : Ins1 bytes pc .dup2 1 nx) (hc : x.category = 1) (hc' : y.category = 1) (k : W κ n0 Q h cs sl nx L (x :: y :: x :: y :: rest)) : W κ n0 Q h cs sl pc L (x :: y :: rest) := by
  obtain ⟨hd, rfl⟩ := hd
  exact W.pure C k fun hA hx hby hr => XT.dup2 hA hx rfl (hb hby hd) rfl hc hc' hr
theorem W.dup2L {x : Int64} (C : Good κ R Z own mnm bytes ml ret) (hd : Ins1 bytes pc .dup2 1 nx) (k : W κ n0 Q h cs sl nx L (.long x :: .long x :: rest)) : W κ n0 Q h cs sl pc L (.long x :: rest) := by
  obtain ⟨hd, rfl⟩ := hd
  exact W.pure C k fun hA hx hby hr => XT.dup2L hA hx rfl (hb hby hd) rfl hr
theorem W.dup_x2 {x y z : Value} (C : Good κ R Z own mnm bytes ml ret) (hd : Ins1 bytes pc .dup_x2 1 nx) (hc : x.category = 1) (hc' : y.category = 1) (hc2 : z.category = 1) (k : W κ n0 Q h cs sl nx L (x :: y :: z :: x :: rest)) : W κ n0 Q h cs sl pc L (x :: y :: z :: rest) := by
  obtain ⟨hd, rfl⟩ := hd
  refine W.pure C k fun {p e below T target m c} hA hx hby hr => ?_
  have hd' := hb hby hd
  jvm_step hA [hA.top, hx, hd', hc, hc', hc2]
  exact hr
theorem W.goto {o : Int} (C : Good κ R Z own mnm bytes ml ret) (hd : Jmp1 bytes pc (.goto o) o nx tg) (k : W κ n0 Q h cs sl tg L st) : W κ n0 Q h cs sl pc L st := by
  obtain ⟨hd, rfl, h1, h2⟩ := hd
  exact W.pure C k fun hA hx hby hr => XS.goto hA hx rfl rfl (hb hby hd) h1 h2 hr
theorem W.icmpY {o : Int} {cd : ClassFile.Cond} {x y : Int32} (C : Good κ R Z own mnm bytes ml ret) (hd : Jmp1 bytes pc (.if_icmp cd o) o nx tg) (hc : cmpP cd x y) (k : W κ n0 Q h cs sl tg L rest) : W κ n0 Q h cs sl pc L (.int y :: .int x :: rest) := by
  obtain ⟨hd, rfl, h1, h2⟩ := hd
  exact W.pure C k fun hA hx hby hr => XS.icmpYes hA hx rfl rfl (hb hby hd) rfl ((cmpP_iff _ _ _).mpr hc) h1 h2 hr
theorem W.icmpN {o : Int} {cd : ClassFile.Cond} {x y : Int32} (C : Good κ R Z own mnm bytes ml ret) (hd : Jmp1 bytes pc (.if_icmp cd o) o nx tg) (hc : ¬ cmpP cd x y) (k : W κ n0 Q h cs sl nx L rest) : W κ n0 Q h cs sl pc L (.int y :: .int x :: rest) := by
  obtain ⟨hd, rfl, h1, h2⟩ := hd
  exact W.pure C k fun hA hx hby hr => XS.icmpNo hA hx rfl (hb hby hd) rfl (cmpP_no hc) hr
theorem W.icmp {o : Int} {cd : ClassFile.Cond} {x y : Int32} (C : Good κ R Z own mnm bytes ml ret) (hd : Jmp1 bytes pc (.if_icmp cd o) o nx tg) (ky : cmpP cd x y → W κ n0 Q h cs sl tg L rest) (kn : ¬ cmpP cd x y → W κ n0 Q h cs sl nx L rest) : W κ n0 Q h cs sl pc L (.int y :: .int x :: rest) := by
  by_cases hc : cmpP cd x y
  · exact W.icmpY C hd hc (ky hc)
  · exact W.icmpN C hd hc (kn hc)
theorem W.ifY {o : Int} {cd : ClassFile.Cond} {x : Int32} (C : Good κ R Z own mnm bytes ml ret) (hd : Jmp1 bytes pc (.ifCond cd o) o nx tg) (hc : cmp0 cd x) (k : W κ n0 Q h cs sl tg L rest) : W κ n0 Q h cs sl pc L (.int x :: rest) := by
  obtain ⟨hd, rfl, h1, h2⟩ := hd
  exact W.pure C k fun hA hx hby hr => XS.ifYes hA hx rfl rfl (hb hby hd) rfl ((if0 _ _).trans ((cmpP_iff _ _ _).mpr ((cmp0_iff _ _).mpr hc))) h1 h2 hr
theorem W.ifN {o : Int} {cd : ClassFile.Cond} {x : Int32} (C : Good κ R Z own mnm bytes ml ret) (hd : Jmp1 bytes pc (.ifCond cd o) o nx tg) (hc : ¬ cmp0 cd x) (k : W κ n0 Q h cs sl nx L rest) : W κ n0 Q h cs sl pc L (.int x :: rest) := by
  obtain ⟨hd, rfl, h1, h2⟩ := hd
  exact W.pure C k fun hA hx hby hr => XS.ifNo hA hx rfl (hb hby hd) rfl ((if0 _ _).trans (cmpP_no fun q => hc ((cmp0_iff _ _).mp q))) hr
theorem W.ifc {o : Int} {cd : ClassFile.Cond} {x : Int32} (C : Good κ R Z own mnm bytes ml ret) (hd : Jmp1 bytes pc (.ifCond cd o) o nx tg) (ky : cmp0 cd x → W κ n0 Q h cs sl tg L rest) (kn : ¬ cmp0 cd x → W κ n0 Q h cs sl nx L rest) : W κ n0 Q h cs sl pc L (.int x :: rest) := by
  by_cases hc : cmp0 cd x
  · exact W.ifY C hd hc (ky hc)
  · exact W.ifN C hd hc (kn hc)
theorem W.lcmp {x y : Int64} (C : Good κ R Z own mnm bytes ml ret) (hd : Ins1 bytes pc .lcmp 1 nx) (k : W κ n0 Q h cs sl nx L (.int (if x > y then 1 else if x = y then 0 else -1) :: rest)) : W κ n0 Q h cs sl pc L (.long y :: .long x :: rest) := by
  obtain ⟨hd, rfl⟩ := hd
  exact W.pure C k fun hA hx hby hr => XS.lcmp hA hx rfl (hb hby hd) rfl hr
theorem W.lcY {pc1 : Nat} {o : Int} {cd : ClassFile.Cond} {x y : Int64} (C : Good κ R Z own mnm bytes ml ret) (hd1 : Ins1 bytes pc .lcmp 1 pc1) (hd : Jmp1 bytes pc1 (.ifCond cd o) o nx tg) (hc : cmpL cd x y) (k : W κ n0 Q h cs sl tg L rest) : W κ n0 Q h cs sl pc L (.long y :: .long x :: rest) :=
  W.lcmp C hd1 (W.ifY C hd ((cmpL_iff _ _ _).mpr hc) k)
theorem W.lcN {pc1 : Nat} {o : Int} {cd : ClassFile.Cond} {x y : Int64} (C : Good κ R Z own mnm bytes ml ret) (hd1 : Ins1 bytes pc .lcmp 1 pc1) (hd : Jmp1 bytes pc1 (.ifCond cd o) o nx tg) (hc : ¬ cmpL cd x y) (k : W κ n0 Q h cs sl nx L rest) : W κ n0 Q h cs sl pc L (.long y :: .long x :: rest) :=
  W.lcmp C hd1 (W.ifN C hd (fun q => hc ((cmpL_iff _ _ _).mp q)) k)
theorem W.lc {pc1 : Nat} {o : Int} {cd : ClassFile.Cond} {x y : Int64} (C : Good κ R Z own mnm bytes ml ret) (hd1 : Ins1 bytes pc .lcmp 1 pc1) (hd : Jmp1 bytes pc1 (.ifCond cd o) o nx tg) (ky : cmpL cd x y → W κ n0 Q h cs sl tg L rest) (kn : ¬ cmpL cd x y → W κ n0 Q h cs sl nx L rest) : W κ n0 Q h cs sl pc L (.long y :: .long x :: rest) := by
  by_cases hc : cmpL cd x y
  · exact W.lcY C hd1 hd hc (ky hc)
  · exact W.lcN C hd1 hd hc (kn hc)
theorem W.ifnullY {o : Int} (C : Good κ R Z own mnm bytes ml ret) (hd : Jmp1 bytes pc (.ifnull o) o nx tg) (k : W κ n0 Q h cs sl tg L rest) : W κ n0 Q h cs sl pc L (.null :: rest) := by
  obtain ⟨hd, rfl, h1, h2⟩ := hd
  exact W.pure C k fun hA hx hby hr => XS.ifnullYes hA hx rfl rfl (hb hby hd) rfl h1 h2 hr
theorem W.ifnullN {o : Int} {b : Addr} (C : Good κ R Z own mnm bytes ml ret) (hd : Jmp1 bytes pc (.ifnull o) o nx tg) (k : W κ n0 Q h cs sl nx L rest) : W κ n0 Q h cs sl pc L (.ref b :: rest) := by
  obtain ⟨hd, rfl, h1, h2⟩ := hd
  exact W.pure C k fun hA hx hby hr => XS.ifnullNo hA hx rfl (hb hby hd) rfl hr
theorem W.ifnonnullY {o : Int} {b : Addr} (C : Good κ R Z own mnm bytes ml ret) (hd : Jmp1 bytes pc (.ifnonnull o) o nx tg) (k : W κ n0 Q h cs sl tg L rest) : W κ n0 Q h cs sl pc L (.ref b :: rest) := by
  obtain ⟨hd, rfl, h1, h2⟩ := hd
  exact W.pure C k fun hA hx hby hr => XS.ifnonnullYes hA hx rfl rfl (hb hby hd) rfl h1 h2 hr
theorem W.ifnonnullN {o : Int} (C : Good κ R Z own mnm bytes ml ret) (hd : Jmp1 bytes pc (.ifnonnull o) o nx tg) (k : W κ n0 Q h cs sl nx L rest) : W κ n0 Q h cs sl pc L (.null :: rest) := by
  obtain ⟨hd, rfl, h1, h2⟩ := hd
  exact W.pure C k fun hA hx hby hr => XS.ifnonnullNo hA hx rfl (hb hby hd) rfl hr
/-! ### steps that read the tables -/
theorem W.ldc {i : Nat} {v : Int32} (C : Good κ R Z own mnm bytes ml ret) (hd : Ins1 bytes pc (.ldc i) 2 nx) (w : (Jvm.Cond.constant own i v).before a0 Z = true) (k : W κ n0 Q h cs sl nx L (.int v :: st)) : W κ n0 Q h cs sl pc L st := by
  obtain ⟨hd, rfl⟩ := hd
  obtain ⟨p, l, e, R', s, m, args, below, meth, c⟩ := κ
  obtain ⟨hx, hZ, hby, hml, hown, hret, hlk, hnm, rfl⟩ := C
  intro T locs X eT N h1 h2
  obtain ⟨s₂, o, a, r⟩ := k T locs X eT N h1 h2
  exact ⟨s₂, o, X.ldcInt hx hown (mvT hZ w) (g := mkF m pc L.toArray st) rfl (hb hby hd) _ a, r⟩
theorem W.ldcw {i : Nat} {v : Int32} (C : Good κ R Z own mnm bytes ml ret) (hd : Ins1 bytes pc (.ldc_w i) 3 nx) (w : (Jvm.Cond.constant own i v).before a0 Z = true) (k : W κ n0 Q h cs sl nx L (.int v :: st)) : W κ n0 Q h cs sl pc L st := by
  obtain ⟨hd, rfl⟩ := hd
  obtain ⟨p, l, e, R', s, m, args, below, meth, c⟩ := κ
  obtain ⟨hx, hZ, hby, hml, hown, hret, hlk, hnm, rfl⟩ := C
  intro T locs X eT N h1 h2
  obtain ⟨s₂, o, a, r⟩ := k T locs X eT N h1 h2
  exact ⟨s₂, o, X.ldcwInt hx hown (mvT hZ w) (g := mkF m pc L.toArray st) rfl (hb hby hd) _ a, r⟩
theorem W.ldc2 {i : Nat} {v : Int64} (C : Good κ R Z own mnm bytes ml ret) (hd : Ins1 bytes pc (.ldc2_w i) 3 nx) (w : (Jvm.Cond.constantLong own i v).before a0 Z = true) (k : W κ n0 Q h cs sl nx L (.long v :: st)) : W κ n0 Q h cs sl pc L st := by
  obtain ⟨hd, rfl⟩ := hd
  obtain ⟨p, l, e, R', s, m, args, below, meth, c⟩ := κ
  obtain ⟨hx, hZ, hby, hml, hown, hret, hlk, hnm, rfl⟩ := C
  intro T locs X eT N h1 h2
  obtain ⟨s₂, o, a, r⟩ := k T locs X eT N h1 h2
  exact ⟨s₂, o, X.ldc2Long hx hown (mvT hZ w) (g := mkF m pc L.toArray st) rfl (hb hby hd) _ a, r⟩
/-! ### arrays -/
/-- at a lies an array of ty whose values are vs -/
def Av (Z : State) (h : Heap) (a : Addr) (ty : FieldType) (vs : List Value) : Prop := ∃ c : Cell, Arr Z h a c ty ∧ c.slots.toList = vs ∧ vs.length < 2147483648
theorem Av.lt {a : Addr} {ty : FieldType} {vs : List Value} (A : Av Z h a ty vs) : a < h.size := by obtain ⟨c, A, -⟩ := A; exact A.lt
theorem Av.ext {h' : Heap} {a : Addr} {ty : FieldType} {vs : List Value} (A : Av Z h a ty vs) (E : Ext h h') : Av Z h' a ty vs := by obtain ⟨c, A, r⟩ := A; exact ⟨c, A.ext E, r⟩
theorem Av.keep {h' : Heap} {ws : List Addr} {a : Addr} {ty : FieldType} {vs : List Value} (A : Av Z h a ty vs) (K : Keep h h' ws) (q : a ∉ ws) : Av Z h' a ty vs := by obtain ⟨c, A, r⟩ := A; exact ⟨c, ⟨K.2.1 a c A.1 q, A.2⟩, r⟩
theorem Av.other {h' : Heap} {a b : Addr} {sl : Nat} {v : Value} {ty : FieldType} {vs : List Value} (A : Av Z h b ty vs) (W : Wr h h' a sl v) (q : b ≠ a) : Av Z h' b ty vs := by obtain ⟨c, A, r⟩ := A; exact ⟨c, A.other W q, r⟩
theorem Av.set {h' : Heap} {a : Addr} {i : Nat} {v : Value} {ty : FieldType} {vs : List Value} (A : Av Z h a ty vs) (W : Wr h h' a i v) : Av Z h' a ty (vs.set i v) := by
  obtain ⟨c, A, rfl, r⟩ := A
  exact ⟨_, A.same W, by simp [Cell.setSlot], by simpa using r⟩
theorem Av.ne_exa {a b : Addr} {C' : String} {kk : Nat} {ty : FieldType} {vs : List Value} (A : Av Z h a ty vs) (E : Exa Z h b C') (wi : (Jvm.Cond.instantiable C' kk).before a0 Z = true) : a ≠ b := by obtain ⟨c, A, -⟩ := A; exact (ne_arr E wi A).symm
theorem clampNat {j : Int32} {i : Nat} (hj : j.toInt = i) : j.toNatClampNeg = i := by
  have e : j.toNatClampNeg = j.toInt.toNat := rfl
  omega
theorem inB {c : Cell} {vs : List Value} {j : Int32} {i : Nat} (e : c.slots.toList = vs) (hj : j.toInt = i) (hi : i < vs.length) : ¬ (j < 0 ∨ c.slots.size ≤ j.toNatClampNeg) := by
  have e1 := clampNat hj
  have e2 : c.slots.size = vs.length := by rw [← e]; simp
  rw [e1, e2, Int32.lt_iff_toInt_lt, hj, Int32.toInt_zero]
  omega
theorem inV {c : Cell} {vs : List Value} {j : Int32} {i : Nat} {v : Value} (e : c.slots.toList = vs) (hj : j.toInt = i) (hv : vs[i]? = some v) : c.slots[j.toNatClampNeg]? = some v := by
  rw [clampNat hj, ← hv, ← e]; simp
theorem ltOf {vs : List Value} {i : Nat} {v : Value} (hv : vs[i]? = some v) : i < vs.length := (List.getElem?_eq_some_iff.mp hv).1

theorem W.iaload {a : Addr} {vs : List Value} {j : Int32} {i : Nat} {v : Int32} (C : Good κ R Z own mnm bytes ml ret) (hd : Ins1 bytes pc .iaload 1 nx) (A : Av Z h a .int vs) (hj : j.toInt = i) (hv : vs[i]? = some (.int v)) (k : W κ n0 Q h cs sl nx L ((.int v) :: rest)) : W κ n0 Q h cs sl pc L (.int j :: .ref a :: rest) := by
  obtain ⟨hd, rfl⟩ := hd
  obtain ⟨p, l, e, R', s, m, args, below, meth, c⟩ := κ
  obtain ⟨hx, hZ, hby, hml, hown, hret, hlk, hnm, rfl⟩ := C
  intro T locs X eT N h1 h2
  obtain ⟨s₂, o, b, r⟩ := k T locs X eT N h1 h2
  obtain ⟨cl, Ar, q1, q2⟩ := A
  exact ⟨s₂, o, X.iaload hx (j := j) (by rw [eT]; exact Ar.1) (State.isArrayOf_alike hZ.alike Ar.2.1) Ar.2.2 (inB q1 hj (ltOf hv)) (inV q1 hj hv) (g := mkF m pc L.toArray (.int j :: .ref a :: rest)) rfl rfl (hb hby hd) _ b, r⟩
theorem W.baload {a : Addr} {vs : List Value} {j : Int32} {i : Nat} {v : Int32} (C : Good κ R Z own mnm bytes ml ret) (hd : Ins1 bytes pc .baload 1 nx) (A : Av Z h a .byte vs) (hj : j.toInt = i) (hv : vs[i]? = some (.int v)) (k : W κ n0 Q h cs sl nx L ((.int v) :: rest)) : W κ n0 Q h cs sl pc L (.int j :: .ref a :: rest) := by
  obtain ⟨hd, rfl⟩ := hd
  obtain ⟨p, l, e, R', s, m, args, below, meth, c⟩ := κ
  obtain ⟨hx, hZ, hby, hml, hown, hret, hlk, hnm, rfl⟩ := C
  intro T locs X eT N h1 h2
  obtain ⟨s₂, o, b, r⟩ := k T locs X eT N h1 h2
  obtain ⟨cl, Ar, q1, q2⟩ := A
  exact ⟨s₂, o, X.baloadBytes hx (j := j) (by rw [eT]; exact Ar.1) (State.isArrayOf_alike hZ.alike Ar.2.1) Ar.2.2 (inB q1 hj (ltOf hv)) (inV q1 hj hv) (g := mkF m pc L.toArray (.int j :: .ref a :: rest)) rfl rfl (hb hby hd) _ b, r⟩
theorem W.zaload {a : Addr} {vs : List Value} {j : Int32} {i : Nat} {v : Int32} (C : Good κ R Z own mnm bytes ml ret) (hd : Ins1 bytes pc .baload 1 nx) (A : Av Z h a .boolean vs) (hj : j.toInt = i) (hv : vs[i]? = some (.int v)) (k : W κ n0 Q h cs sl nx L ((.int v) :: rest)) : W κ n0 Q h cs sl pc L (.int j :: .ref a :: rest) := by
  obtain ⟨hd, rfl⟩ := hd
  obtain ⟨p, l, e, R', s, m, args, below, meth, c⟩ := κ
  obtain ⟨hx, hZ, hby, hml, hown, hret, hlk, hnm, rfl⟩ := C
  intro T locs X eT N h1 h2
  obtain ⟨s₂, o, b, r⟩ := k T locs X eT N h1 h2
  obtain ⟨cl, Ar, q1, q2⟩ := A
  exact ⟨s₂, o, X.baloadBooleans hx (j := j) (by rw [eT]; exact Ar.1) (State.isArrayOf_alike hZ.alike Ar.2.1) Ar.2.2 (inB q1 hj (ltOf hv)) (inV q1 hj hv) (g := mkF m pc L.toArray (.int j :: .ref a :: rest)) rfl rfl (hb hby hd) _ b, r⟩
theorem W.laload {a : Addr} {vs : List Value} {j : Int32} {i : Nat} {v : Int64} (C : Good κ R Z own mnm bytes ml ret) (hd : Ins1 bytes pc .laload 1 nx) (A : Av Z h a .long vs) (hj : j.toInt = i) (hv : vs[i]? = some (.long v)) (k : W κ n0 Q h cs sl nx L ((.long v) :: rest)) : W κ n0 Q h cs sl pc L (.int j :: .ref a :: rest) := by
  obtain ⟨hd, rfl⟩ := hd
  obtain ⟨p, l, e, R', s, m, args, below, meth, c⟩ := κ
  obtain ⟨hx, hZ, hby, hml, hown, hret, hlk, hnm, rfl⟩ := C
  intro T locs X eT N h1 h2
  obtain ⟨s₂, o, b, r⟩ := k T locs X eT N h1 h2
  obtain ⟨cl, Ar, q1, q2⟩ := A
  exact ⟨s₂, o, X.laload hx (j := j) (by rw [eT]; exact Ar.1) (State.isArrayOf_alike hZ.alike Ar.2.1) Ar.2.2 (inB q1 hj (ltOf hv)) (inV q1 hj hv) (g := mkF m pc L.toArray (.int j :: .ref a :: rest)) rfl rfl (hb hby hd) _ b, r⟩
theorem W.caload {a : Addr} {vs : List Value} {j : Int32} {i : Nat} {v : Int32} (C : Good κ R Z own mnm bytes ml ret) (hd : Ins1 bytes pc .caload 1 nx) (A : Av Z h a .char vs) (hj : j.toInt = i) (hv : vs[i]? = some (.int v)) (k : W κ n0 Q h cs sl nx L ((.int v) :: rest)) : W κ n0 Q h cs sl pc L (.int j :: .ref a :: rest) := by
  obtain ⟨hd, rfl⟩ := hd
  obtain ⟨p, l, e, R', s, m, args, below, meth, c⟩ := κ
  obtain ⟨hx, hZ, hby, hml, hown, hret, hlk, hnm, rfl⟩ := C
  intro T locs X eT N h1 h2
  obtain ⟨s₂, o, b, r⟩ := k T locs X eT N h1 h2
  obtain ⟨cl, Ar, q1, q2⟩ := A
  exact ⟨s₂, o, X.caload hx (j := j) (by rw [eT]; exact Ar.1) (State.isArrayOf_alike hZ.alike Ar.2.1) Ar.2.2 (inB q1 hj (ltOf hv)) (inV q1 hj hv) (g := mkF m pc L.toArray (.int j :: .ref a :: rest)) rfl rfl (hb hby hd) _ b, r⟩
theorem W.aaload {a : Addr} {ty : FieldType} {vs : List Value} {j : Int32} {i : Nat} {v : Value} (C : Good κ R Z own mnm bytes ml ret) (hd : Ins1 bytes pc .aaload 1 nx) (A : Av Z h a ty vs) (hty : ty.isReference = true) (hj : j.toInt = i) (hv : vs[i]? = some v) (k : W κ n0 Q h cs sl nx L (v :: rest)) : W κ n0 Q h cs sl pc L (.int j :: .ref a :: rest) := by
  obtain ⟨hd, rfl⟩ := hd
  obtain ⟨p, l, e, R', s, m, args, below, meth, c⟩ := κ
  obtain ⟨hx, hZ, hby, hml, hown, hret, hlk, hnm, rfl⟩ := C
  intro T locs X eT N h1 h2
  obtain ⟨s₂, o, b, r⟩ := k T locs X eT N h1 h2
  obtain ⟨cl, Ar, q1, q2⟩ := A
  exact ⟨s₂, o, X.aaload hx (j := j) (by rw [eT]; exact Ar.1) (State.isArrayOf_alike hZ.alike Ar.2.1) hty Ar.2.2 (inB q1 hj (ltOf hv)) (inV q1 hj hv) (g := mkF m pc L.toArray (.int j :: .ref a :: rest)) rfl rfl (hb hby hd) _ b, r⟩
theorem W.arraylength {a : Addr} {ty : FieldType} {vs : List Value} {z : Int32} (C : Good κ R Z own mnm bytes ml ret) (hd : Ins1 bytes pc .arraylength 1 nx) (A : Av Z h a ty vs) (hz : z.toInt = vs.length) (k : W κ n0 Q h cs sl nx L (.int z :: rest)) : W κ n0 Q h cs sl pc L (.ref a :: rest) := by
  obtain ⟨hd, rfl⟩ := hd
  obtain ⟨p, l, e, R', s, m, args, below, meth, c⟩ := κ
  obtain ⟨hx, hZ, hby, hml, hown, hret, hlk, hnm, rfl⟩ := C
  intro T locs X eT N h1 h2
  obtain ⟨s₂, o, b, r⟩ := k T locs X eT N h1 h2
  obtain ⟨cl, Ar, q1, q2⟩ := A
  have e2 : cl.slots.size = vs.length := by rw [← q1]; simp
  have e3 : cl.slots.size.toInt32 = z := Int32.toInt_inj.mp (by rw [hz, e2]; exact Int32.toInt_ofNat_of_lt q2)
  refine ⟨s₂, o, X.arraylength hx (by rw [eT]; exact Ar.1) (State.isArrayOf_alike hZ.alike Ar.2.1) (g := mkF m pc L.toArray (.ref a :: rest)) rfl rfl (hb hby hd) _ ?_, r⟩
  rw [e3]; exact b
theorem W.iastore {a : Addr} {vs : List Value} {j : Int32} {i : Nat} {x : Int32} (C : Good κ R Z own mnm bytes ml ret) (hd : Ins1 bytes pc .iastore 1 nx) (A : Av Z h a .int vs) (hj : j.toInt = i) (hi : i < vs.length) (hn : n0 ≤ a) (k : ∀ h', Wr h h' a i (.int x) → Av Z h' a .int (vs.set i (.int x)) → W κ n0 Q h' cs sl nx L rest) : W κ n0 Q h cs sl pc L ((.int x) :: .int j :: .ref a :: rest) := by
  obtain ⟨hd, rfl⟩ := hd
  obtain ⟨p, l, e, R', s, m, args, below, meth, c⟩ := κ
  obtain ⟨hx, hZ, hby, hml, hown, hret, hlk, hnm, rfl⟩ := C
  intro T locs X eT N h1 h2
  have A' := A
  obtain ⟨cl, Ar, q1, q2⟩ := A'
  obtain ⟨T', h', X', e', W', st'⟩ := stI X hx hZ eT Ar (j := j) (inB q1 hj hi) (g := mkF m pc L.toArray ((.int x) :: .int j :: .ref a :: rest)) rfl rfl (hb hby hd)
  have N' := Fr.snoc X' N hn
  rw [clampNat hj] at W'
  obtain ⟨s₂, o, b, r⟩ := k h' W' (A.set W') T' _ X' e' N' h1 h2
  exact ⟨s₂, o, st' _ b, r⟩
theorem W.bastore {a : Addr} {vs : List Value} {j : Int32} {i : Nat} {x : Int32} (C : Good κ R Z own mnm bytes ml ret) (hd : Ins1 bytes pc .bastore 1 nx) (A : Av Z h a .byte vs) (hj : j.toInt = i) (hi : i < vs.length) (hn : n0 ≤ a) (k : ∀ h', Wr h h' a i (.int x.toInt8.toInt32) → Av Z h' a .byte (vs.set i (.int x.toInt8.toInt32)) → W κ n0 Q h' cs sl nx L rest) : W κ n0 Q h cs sl pc L ((.int x) :: .int j :: .ref a :: rest) := by
  obtain ⟨hd, rfl⟩ := hd
  obtain ⟨p, l, e, R', s, m, args, below, meth, c⟩ := κ
  obtain ⟨hx, hZ, hby, hml, hown, hret, hlk, hnm, rfl⟩ := C
  intro T locs X eT N h1 h2
  have A' := A
  obtain ⟨cl, Ar, q1, q2⟩ := A'
  obtain ⟨T', h', X', e', W', st'⟩ := stB X hx hZ eT Ar (j := j) (inB q1 hj hi) (g := mkF m pc L.toArray ((.int x) :: .int j :: .ref a :: rest)) rfl rfl (hb hby hd)
  have N' := Fr.snoc X' N hn
  rw [clampNat hj] at W'
  obtain ⟨s₂, o, b, r⟩ := k h' W' (A.set W') T' _ X' e' N' h1 h2
  exact ⟨s₂, o, st' _ b, r⟩
theorem W.zastore {a : Addr} {vs : List Value} {j : Int32} {i : Nat} {x : Int32} (C : Good κ R Z own mnm bytes ml ret) (hd : Ins1 bytes pc .bastore 1 nx) (A : Av Z h a .boolean vs) (hj : j.toInt = i) (hi : i < vs.length) (hn : n0 ≤ a) (k : ∀ h', Wr h h' a i (.int (x &&& 1)) → Av Z h' a .boolean (vs.set i (.int (x &&& 1))) → W κ n0 Q h' cs sl nx L rest) : W κ n0 Q h cs sl pc L ((.int x) :: .int j :: .ref a :: rest) := by
  obtain ⟨hd, rfl⟩ := hd
  obtain ⟨p, l, e, R', s, m, args, below, meth, c⟩ := κ
  obtain ⟨hx, hZ, hby, hml, hown, hret, hlk, hnm, rfl⟩ := C
  intro T locs X eT N h1 h2
  have A' := A
  obtain ⟨cl, Ar, q1, q2⟩ := A'
  obtain ⟨T', h', X', e', W', st'⟩ := stZ X hx hZ eT Ar (j := j) (inB q1 hj hi) (g := mkF m pc L.toArray ((.int x) :: .int j :: .ref a :: rest)) rfl rfl (hb hby hd)
  have N' := Fr.snoc X' N hn
  rw [clampNat hj] at W'
  obtain ⟨s₂, o, b, r⟩ := k h' W' (A.set W') T' _ X' e' N' h1 h2
  exact ⟨s₂, o, st' _ b, r⟩
theorem W.lastore {a : Addr} {vs : List Value} {j : Int32} {i : Nat} {x : Int64} (C : Good κ R Z own mnm bytes ml ret) (hd : Ins1 bytes pc .lastore 1 nx) (A : Av Z h a .long vs) (hj : j.toInt = i) (hi : i < vs.length) (hn : n0 ≤ a) (k : ∀ h', Wr h h' a i (.long x) → Av Z h' a .long (vs.set i (.long x)) → W κ n0 Q h' cs sl nx L rest) : W κ n0 Q h cs sl pc L ((.long x) :: .int j :: .ref a :: rest) := by
  obtain ⟨hd, rfl⟩ := hd
  obtain ⟨p, l, e, R', s, m, args, below, meth, c⟩ := κ
  obtain ⟨hx, hZ, hby, hml, hown, hret, hlk, hnm, rfl⟩ := C
  intro T locs X eT N h1 h2
  have A' := A
  obtain ⟨cl, Ar, q1, q2⟩ := A'
  obtain ⟨T', h', X', e', W', st'⟩ := stJ X hx hZ eT Ar (j := j) (inB q1 hj hi) (g := mkF m pc L.toArray ((.long x) :: .int j :: .ref a :: rest)) rfl rfl (hb hby hd)
  have N' := Fr.snoc X' N hn
  rw [clampNat hj] at W'
  obtain ⟨s₂, o, b, r⟩ := k h' W' (A.set W') T' _ X' e' N' h1 h2
  exact ⟨s₂, o, st' _ b, r⟩
theorem W.castore {a : Addr} {vs : List Value} {j : Int32} {i : Nat} {x : Int32} (C : Good κ R Z own mnm bytes ml ret) (hd : Ins1 bytes pc .castore 1 nx) (A : Av Z h a .char vs) (hj : j.toInt = i) (hi : i < vs.length) (hn : n0 ≤ a) (k : ∀ h', Wr h h' a i (.int (nar .char x)) → Av Z h' a .char (vs.set i (.int (nar .char x))) → W κ n0 Q h' cs sl nx L rest) : W κ n0 Q h cs sl pc L ((.int x) :: .int j :: .ref a :: rest) := by
  obtain ⟨hd, rfl⟩ := hd
  obtain ⟨p, l, e, R', s, m, args, below, meth, c⟩ := κ
  obtain ⟨hx, hZ, hby, hml, hown, hret, hlk, hnm, rfl⟩ := C
  intro T locs X eT N h1 h2
  have A' := A
  obtain ⟨cl, Ar, q1, q2⟩ := A'
  obtain ⟨T', h', X', e', W', st'⟩ := stC X hx hZ eT Ar (j := j) (inB q1 hj hi) (g := mkF m pc L.toArray ((.int x) :: .int j :: .ref a :: rest)) rfl rfl (hb hby hd)
  have N' := Fr.snoc X' N hn
  rw [clampNat hj] at W'
  obtain ⟨s₂, o, b, r⟩ := k h' W' (A.set W') T' _ X' e' N' h1 h2
  exact ⟨s₂, o, st' _ b, r⟩
theorem Av.of_new {h' : Heap} {a : Addr} {cA : ClassId} {ty : FieldType} {n : Int32} (A : Arr Z h' a (newA cA ty n) ty) : Av Z h' a ty (List.replicate n.toNatClampNeg (defaultValue ty)) := by
  refine ⟨_, A, by simp [newA], ?_⟩
  have e : n.toNatClampNeg = n.toInt.toNat := rfl
  have := Int32.toInt_lt n
  rw [List.length_replicate]; omega
theorem W.newarray {aty : ArrayType} {ty : FieldType} {n : Int32} {vs : List Value} (cap : Nat) (C : Good κ R Z own mnm bytes ml ret) (hd : Ins1 bytes pc (.newarray aty) 2 nx) (hty : newarray.typeOf aty = ty) (w : (Jvm.Cond.arrayClass ty).before a0 Z = true) (hn : 0 ≤ n.toInt) (hcap : n.toInt ≤ cap) (hvs : List.replicate n.toNatClampNeg (defaultValue ty) = vs) (hb8 : cap * 8 ≤ 536870912) (hc : cs + 1 ≤ R.cells) (hl : sl + cap ≤ R.slots) (k : ∀ h' a, h.size = a → Ext h h' → Av Z h' a ty vs → W κ n0 Q h' (cs + 1) (sl + cap) nx L (.ref a :: rest)) : W κ n0 Q h cs sl pc L (.int n :: rest) := by
  subst hty
  obtain ⟨hd, rfl⟩ := hd
  obtain ⟨p, l, e, R', s, m, args, below, meth, c⟩ := κ
  obtain ⟨hx, hZ, hby, hml, hown, hret, hlk, hnm, rfl⟩ := C
  intro T locs X eT N h1 h2
  have hn' : ¬ n < 0 := by rw [Int32.lt_iff_toInt_lt, Int32.toInt_zero]; omega
  have hc' : n.toNatClampNeg ≤ cap := by have e : n.toNatClampNeg = n.toInt.toNat := rfl; omega
  obtain ⟨T', h', cA, X', e', E', A', st'⟩ := newP X hx hZ w eT (g := mkF m pc L.toArray (.int n :: rest)) rfl (hb hby hd) rfl hn' (cap := cap) hc' hb8 hc hl
  obtain ⟨s₂, o, b, r⟩ := k h' _ rfl E' (hvs ▸ Av.of_new A') T' _ X' e' N hc hl
  exact ⟨s₂, o, st' _ b, r⟩
/-! ### objects -/
theorem W.new {i : Nat} {C' : String} {nf : Nat} (C : Good κ R Z own mnm bytes ml ret) (hd : Ins1 bytes pc (.new i) 3 nx) (w1 : (Jvm.Cond.classLink own i C').before a0 Z = true) (w2 : (Jvm.Cond.instantiable C' nf).before a0 Z = true) (w3 : (Jvm.Cond.initialized C').before a0 Z = true) (hc : cs + 1 ≤ R.cells) (hl : sl + nf ≤ R.slots)
    (k : ∀ h' a, h.size = a → Ext h h' → Exa Z h' a C' → (∀ {O nm d : String} {ty : FieldType}, Laid Z a0 C' O nm d → parseFieldDescriptor d = some ty → Fld Z h' a O nm d (defaultValue ty)) → W κ n0 Q h' (cs + 1) (sl + nf) nx L (.ref a :: st)) : W κ n0 Q h cs sl pc L st := by
  obtain ⟨hd, rfl⟩ := hd
  obtain ⟨p, l, e, R', s, m, args, below, meth, c⟩ := κ
  obtain ⟨hx, hZ, hby, hml, hown, hret, hlk, hnm, rfl⟩ := C
  intro T locs X eT N h1 h2
  obtain ⟨T', h', X', e', E', A', D', -, st'⟩ := newO X hx hZ hown w1 w2 w3 eT (g := mkF m pc L.toArray st) rfl (hb hby hd) hc hl
  obtain ⟨s₂, o, b, r⟩ := k h' _ rfl E' A' D' T' _ X' e' N hc hl
  exact ⟨s₂, o, st' _ b, r⟩
theorem W.getfield {i : Nat} {R0 O nm d host : String} {a : Addr} {v : Value} (C : Good κ R Z own mnm bytes ml ret) (hd : Ins1 bytes pc (.getfield i) 3 nx) (w : (Jvm.Cond.fieldLink own i R0 nm d).before a0 Z = true ∨ (Jvm.Cond.fieldLinkNest own i R0 nm d host).before a0 Z = true) (via : Via Z R0 O nm d) (F : Fld Z h a O nm d v) (k : W κ n0 Q h cs sl nx L (v :: rest)) : W κ n0 Q h cs sl pc L (.ref a :: rest) := by
  obtain ⟨hd, rfl⟩ := hd
  obtain ⟨p, l, e, R', s, m, args, below, meth, c⟩ := κ
  obtain ⟨hx, hZ, hby, hml, hown, hret, hlk, hnm, rfl⟩ := C
  intro T locs X eT N h1 h2
  obtain ⟨T', X', e', st'⟩ := getF X hx hZ hown w via eT F (g := mkF m pc L.toArray (.ref a :: rest)) rfl rfl (hb hby hd)
  obtain ⟨s₂, o, b, r⟩ := k T' _ X' e' N h1 h2
  exact ⟨s₂, o, st' _ b, r⟩
theorem W.getstatic {i : Nat} {R0 O nm d host : String} {v : Value} (C : Good κ R Z own mnm bytes ml ret) (hd : Ins1 bytes pc (.getstatic i) 3 nx) (w : (Jvm.Cond.fieldLink own i R0 nm d).before a0 Z = true ∨ (Jvm.Cond.fieldLinkNest own i R0 nm d host).before a0 Z = true) (via : Via Z R0 O nm d) (F : Sta Z h O nm d v) (k : W κ n0 Q h cs sl nx L (v :: st)) : W κ n0 Q h cs sl pc L st := by
  obtain ⟨hd, rfl⟩ := hd
  obtain ⟨p, l, e, R', s, m, args, below, meth, c⟩ := κ
  obtain ⟨hx, hZ, hby, hml, hown, hret, hlk, hnm, rfl⟩ := C
  intro T locs X eT N h1 h2
  obtain ⟨T', X', e', st'⟩ := getS2 X hx hZ hown w via eT F (g := mkF m pc L.toArray st) rfl (hb hby hd)
  obtain ⟨s₂, o, b, r⟩ := k T' _ X' e' N h1 h2
  exact ⟨s₂, o, st' _ b, r⟩
theorem W.putfield {i kk : Nat} {R0 O nm d host C' : String} {ty : FieldType} {a : Addr} {v old : Value} (C : Good κ R Z own mnm bytes ml ret) (hd : Ins1 bytes pc (.putfield i) 3 nx) (w : (Jvm.Cond.fieldLink own i R0 nm d).before a0 Z = true ∨ (Jvm.Cond.fieldLinkNest own i R0 nm d host).before a0 Z = true) (via : Via Z R0 O nm d) (F : Fld Z h a O nm d old) (E : Exa Z h a C')
    (Ly : (Jvm.Cond.lays C' O nm d).before a0 Z = true ∨ ((Jvm.Cond.laysFinal C' O nm d).before a0 Z = true ∧ own = O ∧ mnm = "<init>")) (wi : (Jvm.Cond.instantiable C' kk).before a0 Z = true) (hty : parseFieldDescriptor d = some ty) (hnw : narrow ty v = v) (hf : fits ty v = true) (hn : n0 ≤ a)
    (k : ∀ h', Wr h h' a (Jvm.RoadKit.slotOf Z O nm d) v → Fld Z h' a O nm d v → W κ n0 Q h' cs sl nx L rest) : W κ n0 Q h cs sl pc L (v :: .ref a :: rest) := by
  obtain ⟨hd, rfl⟩ := hd
  obtain ⟨p, l, e, R', s, m, args, below, meth, c⟩ := κ
  obtain ⟨hx, hZ, hby, hml, hown, hret, hlk, hnm, rfl⟩ := C
  intro T locs X eT N h1 h2
  obtain ⟨T', h', X', e', W', st'⟩ := putF X hx hZ hown w via eT F E (Ly.imp id fun q => ⟨q.1, q.2.1, hnm.trans q.2.2⟩) wi hty hnw hf (g := mkF m pc L.toArray (v :: .ref a :: rest)) rfl rfl (hb hby hd)
  have N' := Fr.snoc X' N hn
  obtain ⟨s₂, o, b, r⟩ := k h' W' (F.same W') T' _ X' e' N' h1 h2
  exact ⟨s₂, o, st' _ b, r⟩
theorem W.putfieldN {i kk : Nat} {R0 O nm d C' : String} {ty : FieldType} {a : Addr} {v v' old : Value} (C : Good κ R Z own mnm bytes ml ret) (hd : Ins1 bytes pc (.putfield i) 3 nx) (w : (Jvm.Cond.fieldLink own i R0 nm d).before a0 Z = true) (via : Via Z R0 O nm d) (F : Fld Z h a O nm d old) (E : Exa Z h a C')
    (Ly : (Jvm.Cond.lays C' O nm d).before a0 Z = true ∨ ((Jvm.Cond.laysFinal C' O nm d).before a0 Z = true ∧ own = O ∧ mnm = "<init>")) (wi : (Jvm.Cond.instantiable C' kk).before a0 Z = true) (hty : parseFieldDescriptor d = some ty) (hnw : narrow ty v = v') (hf : fits ty v' = true) (hn : n0 ≤ a)
    (k : ∀ h', Wr h h' a (Jvm.RoadKit.slotOf Z O nm d) v' → Fld Z h' a O nm d v' → W κ n0 Q h' cs sl nx L rest) : W κ n0 Q h cs sl pc L (v :: .ref a :: rest) := by
  obtain ⟨hd, rfl⟩ := hd
  obtain ⟨p, l, e, R', s, m, args, below, meth, c⟩ := κ
  obtain ⟨hx, hZ, hby, hml, hown, hret, hlk, hnm, rfl⟩ := C
  intro T locs X eT N h1 h2
  obtain ⟨T', h', X', e', W', st'⟩ := putFN X hx hZ hown w via eT F E (Ly.imp id fun q => ⟨q.1, q.2.1, hnm.trans q.2.2⟩) wi hty hnw hf (g := mkF m pc L.toArray (v :: .ref a :: rest)) rfl rfl (hb hby hd)
  have N' := Fr.snoc X' N hn
  obtain ⟨s₂, o, b, r⟩ := k h' W' (F.same W') T' _ X' e' N' h1 h2
  exact ⟨s₂, o, st' _ b, r⟩
/-! ### returns -/
theorem W.ireturn {z : Int32} (C : Good κ R Z own mnm bytes ml (some .int)) (hd : Ins1 bytes pc .ireturn 1 nx) (hq : Q (some (.int z)) h) : W κ n0 Q h cs sl pc L (.int z :: rest) := by
  obtain ⟨p, l, e, R', s, m, args, below, meth, c⟩ := κ
  obtain ⟨hx, hZ, hby, hml, hown, hret, hlk, hnm, rfl⟩ := C
  intro T locs X eT N h1 h2
  obtain ⟨fs, hr, hrun, hended, hW, hsame⟩ := X.leave (v := some (.int z)) (fun h => by rw [hret] at h; cases h) hlk
  refine ⟨_, _, retOut X hx hret rfl (Or.inl ⟨rfl, Or.inl rfl, z, rfl⟩) (hb hby hd.1) hr, hrun, hended, _, _, rfl, ⟨?_, N⟩, ⟨_, rfl⟩, hW, hsame.mono h1 h2⟩
  show Q _ T.heap
  rw [eT]; exact hq
theorem W.nreturn {t : FieldType} {z : Int32} (C : Good κ R Z own mnm bytes ml (some t)) (ht : t = .boolean ∨ t = .byte ∨ t = .char ∨ t = .short) (hd : Ins1 bytes pc .ireturn 1 nx) (hq : Q (some (.int (nar t z))) h) : W κ n0 Q h cs sl pc L (.int z :: rest) := by
  obtain ⟨p, l, e, R', s, m, args, below, meth, c⟩ := κ
  obtain ⟨hx, hZ, hby, hml, hown, hret, hlk, hnm, rfl⟩ := C
  intro T locs X eT N h1 h2
  obtain ⟨fs, hr, hrun, hended, hW, hsame⟩ := X.leave (v := some (.int (nar t z))) (fun h => by rw [hret] at h; cases h) hlk
  refine ⟨_, _, retN X hx hret ht (hb hby hd.1) hr, hrun, hended, _, _, rfl, ⟨?_, N⟩, ⟨_, rfl⟩, hW, hsame.mono h1 h2⟩
  show Q _ T.heap
  rw [eT]; exact hq
theorem W.zreturn {z : Int32} (C : Good κ R Z own mnm bytes ml (some .boolean)) (hd : Ins1 bytes pc .ireturn 1 nx) (hq : Q (some (.int (z &&& 1))) h) : W κ n0 Q h cs sl pc L (.int z :: rest) := W.nreturn C (Or.inl rfl) hd hq
theorem W.lreturn {z : Int64} (C : Good κ R Z own mnm bytes ml (some .long)) (hd : Ins1 bytes pc .lreturn 1 nx) (hq : Q (some (.long z)) h) : W κ n0 Q h cs sl pc L (.long z :: rest) := by
  obtain ⟨p, l, e, R', s, m, args, below, meth, c⟩ := κ
  obtain ⟨hx, hZ, hby, hml, hown, hret, hlk, hnm, rfl⟩ := C
  intro T locs X eT N h1 h2
  obtain ⟨fs, hr, hrun, hended, hW, hsame⟩ := X.leave (v := some (.long z)) (fun h => by rw [hret] at h; cases h) hlk
  refine ⟨_, _, retOut X hx hret rfl (Or.inr (Or.inl ⟨rfl, rfl, z, rfl⟩)) (hb hby hd.1) hr, hrun, hended, _, _, rfl, ⟨?_, N⟩, ⟨_, rfl⟩, hW, hsame.mono h1 h2⟩
  show Q _ T.heap
  rw [eT]; exact hq
theorem W.areturn {t : FieldType} {v : Value} (C : Good κ R Z own mnm bytes ml (some t)) (ht : t.isReference = true) (hv : v.isRef = true) (hd : Ins1 bytes pc .areturn 1 nx) (hq : Q (some v) h) : W κ n0 Q h cs sl pc L (v :: rest) := by
  obtain ⟨p, l, e, R', s, m, args, below, meth, c⟩ := κ
  obtain ⟨hx, hZ, hby, hml, hown, hret, hlk, hnm, rfl⟩ := C
  intro T locs X eT N h1 h2
  obtain ⟨fs, hr, hrun, hended, hW, hsame⟩ := X.leave (v := some v) (fun h => by rw [hret] at h; cases h) hlk
  have hnw : narrow t v = v := by cases t <;> first | (cases ht; done) | (cases v <;> first | rfl | (cases hv; done))
  refine ⟨_, _, retOut X hx hret hnw (Or.inr (Or.inr (Or.inr (Or.inr ⟨rfl, ht, hv⟩)))) (hb hby hd.1) hr, hrun, hended, _, _, rfl, ⟨?_, N⟩, ⟨_, rfl⟩, hW, hsame.mono h1 h2⟩
  show Q _ T.heap
  rw [eT]; exact hq
theorem W.vreturn (C : Good κ R Z own mnm bytes ml none) (hd : Ins1 bytes pc .return_ 1 nx) (hq : Q none h) : W κ n0 Q h cs sl pc L [] := by
  obtain ⟨p, l, e, R', s, m, args, below, meth, c⟩ := κ
  obtain ⟨hx, hZ, hby, hml, hown, hret, hlk, hnm, rfl⟩ := C
  intro T locs X eT N h1 h2
  obtain ⟨fs, hr, hrun, hended, hW, hsame⟩ := X.leave (v := none) (fun _ => rfl) hlk
  refine ⟨_, _, X.returnOut hx hret (hb hby hd.1) hr, hrun, hended, _, _, rfl, ⟨?_, N⟩, ⟨_, rfl⟩, hW, hsame.mono h1 h2⟩
  show Q _ T.heap
  rw [eT]; exact hq
/-! ### calls -/
theorem Con.of {y : MethodName} {cb : ByteArray} {cml : Nat} {cret : Option FieldType} {rm : Room} {as' : List Value} {h0 : Heap} {L : List Slot} (hy : plainFor y = true) (hef : ∀ m, entryFrame m as'.toArray cml = mkF m 0 L.toArray []) (k : ∀ κ (Qx : Option Value → Heap → Prop), (∀ v h', Q v h' → Qx v h') → Good κ rm Z y.cls y.name cb cml cret → W κ n0 Qx h0 0 0 0 L []) : Con Z y cb cml cret rm as' h0 n0 Q := by
  intro l ws
  refine MetFree.of_bodySF hy hisR ?_
  intro p e s m args below meth c s₁ Bd hml0 hP hK
  obtain ⟨rfl, hZ, hh⟩ := hP
  have X0 : Stand p l e rm s m as'.toArray below meth c s₁ [] 0 0 := Stand.of_body Bd
  have e0 : s₁.heap = h0 := by rw [← hh, Bd.state]; rfl
  rw [hef m]
  exact k (p, l, e, rm, s, m, as'.toArray, below, meth, c) Q (fun _ _ q => q) ⟨Bd.exec, hZ, Bd.bytes, hml0, findClass_of_methodNamed Bd.named, Bd.returns, BodyLoose.notSynchronized Bd, (name_of_methodNamed Bd.named Bd.method).1, rfl⟩ s₁ [] X0 e0 (Fr.nil n0) (Nat.zero_le _) (Nat.zero_le _)
theorem Con.post {y : MethodName} {cb : ByteArray} {cml : Nat} {cret : Option FieldType} {rm : Room} {as' : List Value} {h0 : Heap} {Q' : Option Value → Heap → Prop} (hq : ∀ v h, Q v h → Q' v h) (k : Con Z y cb cml cret rm as' h0 n0 Q) : Con Z y cb cml cret rm as' h0 n0 Q' := by
  intro l ws p e h1 h2 h3 s m args below h4 h5 h6 h7
  obtain ⟨n, o, g1, g2, g3, v, L, e1, ⟨e2, e3⟩, e4⟩ := k l ws p e h1 h2 h3 s m args below h4 h5 h6 h7
  exact ⟨n, o, g1, g2, g3, v, L, e1, ⟨hq _ _ e2, e3⟩, e4⟩
theorem W.callS {i : Nat} {y : MethodName} {cb : ByteArray} {cml wt : Nat} {cret : Option FieldType} {rm : Room} {as' : List Value} {Qc : Option Value → Heap → Prop} {ps : List FieldType} {rt : Option FieldType} (C : Good κ R Z own mnm bytes ml ret) (hd : Ins1 bytes pc (.invokestatic i) 3 nx)
    (w1 : (Jvm.Cond.methodLink own i y).before a0 Z = true) (w2 : (Jvm.Cond.static y).before a0 Z = true) (w3 : (Jvm.Cond.initialized y.cls).before a0 Z = true) (w4 : (Jvm.Cond.code y cb cml cret).before a0 Z = true) (hy : y.cls ≠ "java/lang/invoke/MethodHandle" ∧ y.cls ≠ "java/lang/invoke/VarHandle")
    (hpd : parseMethodDescriptor y.desc = some ⟨ps, rt⟩) (hlen : as'.length = ps.length) (hM : Con Z y cb cml cret rm as' h n0 Qc) (hst : st = as'.reverse ++ rest) (hL : L.length = ml) (hwt : 2 * 0 + (rest.map fun v => v.category).sum ≤ wt)
    (hfr : rm.frames + 1 ≤ R.frames) (hlo : wt + (cml + 11) + rm.locals ≤ R.locals) (hcs : cs + rm.cells ≤ R.cells) (hsl : sl + rm.slots ≤ R.slots)
    (k : ∀ v h', Qc v h' → W κ n0 Q h' (cs + rm.cells) (sl + rm.slots) nx L (v.toList ++ rest)) : W κ n0 Q h cs sl pc L st := by
  obtain ⟨hd, rfl⟩ := hd
  obtain ⟨p, l, e, R', s, m, args, below, meth, c⟩ := κ
  obtain ⟨hx, hZ, hby, hml, hown, hret, hlk, hnm, rfl⟩ := C
  intro T locs X eT N h1 h2
  obtain ⟨v, _, ⟨T2, L2, k2, n2⟩, -, X2, ⟨Lc, hQ, l2, y2, z2⟩, st2⟩ := Jvm.LawKit.callS X hx (y := y) hown (mvT hZ w1) (mvT hZ w2) (mvT hZ w3) (mvT hZ w4) hy (backOf (W := wt) (Q := fun v h L => Qc v h ∧ Fr n0 L) (hM l []) hZ w4 w3 hfr hlo) (g := mkF m pc L.toArray st) rfl (by show L.toArray.size = _; rw [hml, ← hL]; simp) (argsL := as') (rest := rest) (lenOf hpd hlen) hst hwt (hb hby hd) (fun _ _ => ⟨rfl, eT, hcs, hsl⟩)
  dsimp only [Pt.U, Pt.locs, Pt.cells, Pt.slots] at X2 l2 y2 z2 st2 hQ
  subst l2 y2 z2
  obtain ⟨s₂, o, b, r⟩ := k v T2.heap hQ.1 T2 _ X2 rfl (Fr.app N hQ.2) hcs hsl
  exact ⟨s₂, o, st2 _ b, r⟩
theorem W.callC {i : Nat} {y : MethodName} {cb : ByteArray} {cml wt : Nat} {rm : Room} {a : Addr} {as' : List Value} {Qc : Option Value → Heap → Prop} {ps : List FieldType} {rt : Option FieldType} (C : Good κ R Z own mnm bytes ml ret) (hd : Ins1 bytes pc (.invokespecial i) 3 nx) (hy1 : y.name = "<init>")
    (w1 : (Jvm.Cond.methodLink own i y).before a0 Z = true) (w2 : (Jvm.Cond.instanceMethod y).before a0 Z = true) (w3 : (Jvm.Cond.initialized y.cls).before a0 Z = true) (w4 : (Jvm.Cond.code y cb cml none).before a0 Z = true) (hy : y.cls ≠ "java/lang/invoke/MethodHandle" ∧ y.cls ≠ "java/lang/invoke/VarHandle")
    (hpd : parseMethodDescriptor y.desc = some ⟨ps, rt⟩) (hlen : as'.length = ps.length) (hM : Con Z y cb cml none rm (.ref a :: as') h n0 Qc) (hst : st = as'.reverse ++ .ref a :: rest) (hL : L.length = ml) (hwt : 2 * 0 + (rest.map fun v => v.category).sum ≤ wt)
    (hfr : rm.frames + 1 ≤ R.frames) (hlo : wt + (cml + 11) + rm.locals ≤ R.locals) (hcs : cs + rm.cells ≤ R.cells) (hsl : sl + rm.slots ≤ R.slots)
    (k : ∀ v h', Qc v h' → W κ n0 Q h' (cs + rm.cells) (sl + rm.slots) nx L (v.toList ++ rest)) : W κ n0 Q h cs sl pc L st := by
  obtain ⟨hd, rfl⟩ := hd
  obtain ⟨p, l, e, R', s, m, args, below, meth, c⟩ := κ
  obtain ⟨hx, hZ, hby, hml, hown, hret, hlk, hnm, rfl⟩ := C
  intro T locs X eT N h1 h2
  obtain ⟨v, _, ⟨T2, L2, k2, n2⟩, -, X2, ⟨Lc, hQ, l2, y2, z2⟩, st2⟩ := X.specialBack hx (y := y) hy1 hown (mvT hZ w1) (mvT hZ w2) (mvT hZ w4) hy (backOf (W := wt) (Q := fun v h L => Qc v h ∧ Fr n0 L) (hM l []) hZ w4 w3 hfr hlo) (g := mkF m pc L.toArray st) rfl (by show L.toArray.size = _; rw [hml, ← hL]; simp) (Steps.refl _) (a := a) (argsL := as') (rest := rest) (lenOf hpd hlen) hst hwt (hb hby hd) (fun _ _ => ⟨rfl, eT, hcs, hsl⟩)
  dsimp only [Pt.U, Pt.locs, Pt.cells, Pt.slots] at X2 l2 y2 z2 st2 hQ
  subst l2 y2 z2
  obtain ⟨s₂, o, b, r⟩ := k v T2.heap hQ.1 T2 _ X2 rfl (Fr.app N hQ.2) hcs hsl
  exact ⟨s₂, o, st2.trans b, r⟩
theorem W.callV {i : Nat} {C' : String} {y : MethodName} {cb : ByteArray} {cml wt : Nat} {cret : Option FieldType} {rm : Room} {a : Addr} {as' : List Value} {Qc : Option Value → Heap → Prop} {ps : List FieldType} {rt : Option FieldType} (C : Good κ R Z own mnm bytes ml ret) (hd : Ins1 bytes pc (.invokevirtual i) 3 nx)
    (w1 : (Jvm.Cond.methodLink own i y).before a0 Z = true) (w2 : (Jvm.Cond.declares y).before a0 Z = true) (w5 : (Jvm.Cond.selects C' y y).before a0 Z = true) (w6 : (Jvm.Cond.instanceMethod y).before a0 Z = true) (w3 : (Jvm.Cond.initialized y.cls).before a0 Z = true) (w4 : (Jvm.Cond.code y cb cml cret).before a0 Z = true) (hy : y.cls ≠ "java/lang/invoke/MethodHandle" ∧ y.cls ≠ "java/lang/invoke/VarHandle")
    (E : Exa Z h a C') (hpd : parseMethodDescriptor y.desc = some ⟨ps, rt⟩) (hlen : as'.length = ps.length) (hM : Con Z y cb cml cret rm (.ref a :: as') h n0 Qc) (hst : st = as'.reverse ++ .ref a :: rest) (hL : L.length = ml) (hwt : 2 * 0 + (rest.map fun v => v.category).sum ≤ wt)
    (hfr : rm.frames + 1 ≤ R.frames) (hlo : wt + (cml + 11) + rm.locals ≤ R.locals) (hcs : cs + rm.cells ≤ R.cells) (hsl : sl + rm.slots ≤ R.slots)
    (k : ∀ v h', Qc v h' → W κ n0 Q h' (cs + rm.cells) (sl + rm.slots) nx L (v.toList ++ rest)) : W κ n0 Q h cs sl pc L st := by
  obtain ⟨hd, rfl⟩ := hd
  obtain ⟨p, l, e, R', s, m, args, below, meth, c⟩ := κ
  obtain ⟨hx, hZ, hby, hml, hown, hret, hlk, hnm, rfl⟩ := C
  intro T locs X eT N h1 h2
  obtain ⟨cq, kq, qa, qb, qc⟩ := isOf hZ eT E
  obtain ⟨v, _, ⟨T2, L2, k2, n2⟩, -, X2, ⟨Lc, hQ, l2, y2, z2⟩, st2⟩ := X.virtualBack hx (y := y) (z := y) hown (mvT hZ w1) (mvT hZ w2) (notFace_of_selects (args := #[]) (mvT hZ w5)) (mvT hZ w5) (mvT hZ w6) hy (backOf (W := wt) (Q := fun v h L => Qc v h ∧ Fr n0 L) (hM l []) hZ w4 w3 hfr hlo) qa qc (g := mkF m pc L.toArray st) rfl (by show L.toArray.size = _; rw [hml, ← hL]; simp) (Steps.refl _) (argsL := as') (rest := rest) (lenOf hpd hlen) hst hwt (hb hby hd) (fun _ _ => ⟨rfl, eT, hcs, hsl⟩)
  dsimp only [Pt.U, Pt.locs, Pt.cells, Pt.slots] at X2 l2 y2 z2 st2 hQ
  subst l2 y2 z2
  obtain ⟨s₂, o, b, r⟩ := k v T2.heap hQ.1 T2 _ X2 rfl (Fr.app N hQ.2) hcs hsl
  exact ⟨s₂, o, st2.trans b, r⟩
theorem W.callP {i kk : Nat} {y : MethodName} {cb : ByteArray} {cml wt : Nat} {cret : Option FieldType} {rm : Room} {a : Addr} {as' : List Value} {Qc : Option Value → Heap → Prop} {ps : List FieldType} {rt : Option FieldType} (C : Good κ R Z own mnm bytes ml ret) (hd : Ins1 bytes pc (.invokevirtual i) 3 nx)
    (w1 : (Jvm.Cond.methodLink own i y).before a0 Z = true) (w6 : (Jvm.Cond.instanceMethod y).before a0 Z = true) (wi : (Jvm.Cond.instantiable y.cls kk).before a0 Z = true) (w7 : (Jvm.Cond.privateMethod y).before a0 Z = true) (w3 : (Jvm.Cond.initialized y.cls).before a0 Z = true) (w4 : (Jvm.Cond.code y cb cml cret).before a0 Z = true) (hy : y.cls ≠ "java/lang/invoke/MethodHandle" ∧ y.cls ≠ "java/lang/invoke/VarHandle")
    (E : Exa Z h a y.cls) (hpd : parseMethodDescriptor y.desc = some ⟨ps, rt⟩) (hlen : as'.length = ps.length) (hM : Con Z y cb cml cret rm (.ref a :: as') h n0 Qc) (hst : st = as'.reverse ++ .ref a :: rest) (hL : L.length = ml) (hwt : 2 * 0 + (rest.map fun v => v.category).sum ≤ wt)
    (hfr : rm.frames + 1 ≤ R.frames) (hlo : wt + (cml + 11) + rm.locals ≤ R.locals) (hcs : cs + rm.cells ≤ R.cells) (hsl : sl + rm.slots ≤ R.slots)
    (k : ∀ v h', Qc v h' → W κ n0 Q h' (cs + rm.cells) (sl + rm.slots) nx L (v.toList ++ rest)) : W κ n0 Q h cs sl pc L st := by
  obtain ⟨hd, rfl⟩ := hd
  obtain ⟨p, l, e, R', s, m, args, below, meth, c⟩ := κ
  obtain ⟨hx, hZ, hby, hml, hown, hret, hlk, hnm, rfl⟩ := C
  intro T locs X eT N h1 h2
  obtain ⟨cq, q1, q2⟩ := E.cell
  have hpr := Cond.privateMethod_at (mvP hZ w7 (args := args))
  have hin : (Jvm.Cond.instanceMethod y).before args s = true := mvT hZ w6
  obtain ⟨cc, kc, c1, c2, -, c4, -⟩ := Cond.instantiable_spec (mvT (args := args) hZ wi)
  have hse := selects_self_of_private c1 c2 (Bool.or_eq_false_iff.mp c4).1 hpr hin hy
  obtain ⟨v, _, ⟨T2, L2, k2, n2⟩, -, X2, ⟨Lc, hQ, l2, y2, z2⟩, st2⟩ := X.privateBack hx (y := y) hown (mvT hZ w1) hin hse hpr (mvT hZ w4) hy (backOf (W := wt) (Q := fun v h L => Qc v h ∧ Fr n0 L) (hM l []) hZ w4 w3 hfr hlo) (g := mkF m pc L.toArray st) rfl (by show L.toArray.size = _; rw [hml, ← hL]; simp) (Steps.refl _) (a := a) (by rw [eT]; exact q1) q2 (argsL := as') (rest := rest) (lenOf hpd hlen) hst hwt (hb hby hd) (fun _ _ => ⟨rfl, eT, hcs, hsl⟩)
  dsimp only [Pt.U, Pt.locs, Pt.cells, Pt.slots] at X2 l2 y2 z2 st2 hQ
  subst l2 y2 z2
  obtain ⟨s₂, o, b, r⟩ := k v T2.heap hQ.1 T2 _ X2 rfl (Fr.app N hQ.2) hcs hsl
  exact ⟨s₂, o, st2.trans b, r⟩
theorem W.initO {i : Nat} {a : Addr} {wt : Nat} (C : Good κ R Z own mnm bytes ml ret) (hd : Ins1 bytes pc (.invokespecial i) 3 nx) (w1 : (Jvm.Cond.methodLink own i Lib.objectInit).before a0 Z = true) (w2 : (Jvm.Cond.instanceMethod Lib.objectInit).before a0 Z = true) (w3 : (Jvm.Cond.code Lib.objectInit ⟨#[0xb1]⟩ 1 none).before a0 Z = true)
    (hL : L.length = ml) (hfr : 1 ≤ R.frames) (hwt : 2 * 0 + (rest.map fun v => v.category).sum ≤ wt) (hlo : wt + 12 ≤ R.locals) (k : W κ n0 Q h cs sl nx L rest) : W κ n0 Q h cs sl pc L (.ref a :: rest) := by
  obtain ⟨hd, rfl⟩ := hd
  obtain ⟨p, l, e, R', s, m, args, below, meth, c⟩ := κ
  obtain ⟨hx, hZ, hby, hml, hown, hret, hlk, hnm, rfl⟩ := C
  intro T locs X eT N h1 h2
  obtain ⟨T', X', e', st'⟩ := initO X hx hZ hown w1 w2 w3 eT (g := mkF m pc L.toArray (.ref a :: rest)) rfl (by show L.toArray.size = _; rw [hml, ← hL]; simp) rfl (hb hby hd) hfr hwt hlo
  obtain ⟨s₂, o, b, r⟩ := k T' _ X' e' N h1 h2
  exact ⟨s₂, o, st' _ b, r⟩
end WKit
/-- a value of one word stored over one word -/
theorem st1 {L : List Slot} {k : Nat} {o : Slot} {v : Value} (hold : L[k]? = some o) (ho : One o) (hv : v.category = 1) : storeLocals L.toArray k v = some (L.set k (.val v)).toArray := by
  have := XS.store1 (l := L.toArray) (i := k) (v := v) (o := o) (by simpa using hold) ho hv
  rw [this]; simp
theorem ofNat_toInt {n : Nat} (h : n < 2147483648) : (Int32.ofNat n).toInt = n := Int32.toInt_ofNat_of_lt h
theorem natOf {x : Int32} (h : 0 ≤ x.toInt) : ∃ n : Nat, x = Int32.ofNat n ∧ n < 2147483648 ∧ x.toInt = n := by
  have h2 := Int32.toInt_lt x
  refine ⟨x.toInt.toNat, Int32.toInt_inj.mp ?_, by omega, by omega⟩
  rw [ofNat_toInt (by omega)]; omega
theorem own_get {bs : List Int32} {i : Nat} (hi : i < bs.length) : (bs.map Value.int)[i]? = some (.int (bs.getD i 0)) := by simp [List.getD, hi]
theorem own_set {Z : State} {h : Heap} {a : Addr} {ty : FieldType} {bs : List Int32} {i : Nat} {v : Int32} (A : Av Z h a ty ((bs.map Value.int).set i (.int v))) : Av Z h a ty ((bs.set i v).map Value.int) := by rw [List.map_set]; exact A
/-- the byte of q at the shift s, as bastore leaves it -/
def own_by (q : Int64) (s : Int32) : Int32 := ((q.toUInt64 >>> (s &&& 0x3f).toInt64.toUInt64).toInt64).toInt32.toInt8.toInt32.toInt8.toInt32
theorem own_b8 {x y : Int32} (h : (x.toInt - y.toInt) % 256 = 0) : x.toInt8.toInt32 = y.toInt8.toInt32 := by
  apply Int32.toInt_inj.mp
  have h1 := c_i2b x
  have h2 := c_i2b y
  omega
theorem own_p0 {x : Int32} {i : Nat} (h : x.toInt = i) (hi : i ≤ 100) : (x + (0 : Int32)).toInt = ((i + 0 : Nat) : Int) := by
  have t1 := rng32 x
  have t2 : (0 : Int32).toInt = 0 := rfl
  have t3 := rng32 (x + (0 : Int32))
  have t4 := c_iadd x (0 : Int32)
  omega
theorem own_p1 {x : Int32} {i : Nat} (h : x.toInt = i) (hi : i ≤ 100) : (x + (1 : Int32)).toInt = ((i + 1 : Nat) : Int) := by
  have t1 := rng32 x
  have t2 : (1 : Int32).toInt = 1 := rfl
  have t3 := rng32 (x + (1 : Int32))
  have t4 := c_iadd x (1 : Int32)
  omega
theorem own_p2 {x : Int32} {i : Nat} (h : x.toInt = i) (hi : i ≤ 100) : (x + (2 : Int32)).toInt = ((i + 2 : Nat) : Int) := by
  have t1 := rng32 x
  have t2 : (2 : Int32).toInt = 2 := rfl
  have t3 := rng32 (x + (2 : Int32))
  have t4 := c_iadd x (2 : Int32)
  omega
theorem own_p3 {x : Int32} {i : Nat} (h : x.toInt = i) (hi : i ≤ 100) : (x + (3 : Int32)).toInt = ((i + 3 : Nat) : Int) := by
  have t1 := rng32 x
  have t2 : (3 : Int32).toInt = 3 := rfl
  have t3 := rng32 (x + (3 : Int32))
  have t4 := c_iadd x (3 : Int32)
  omega
theorem own_p4 {x : Int32} {i : Nat} (h : x.toInt = i) (hi : i ≤ 100) : (x + (4 : Int32)).toInt = ((i + 4 : Nat) : Int) := by
  have t1 := rng32 x
  have t2 : (4 : Int32).toInt = 4 := rfl
  have t3 := rng32 (x + (4 : Int32))
  have t4 := c_iadd x (4 : Int32)
  omega
theorem own_p5 {x : Int32} {i : Nat} (h : x.toInt = i) (hi : i ≤ 100) : (x + (5 : Int32)).toInt = ((i + 5 : Nat) : Int) := by
  have t1 := rng32 x
  have t2 : (5 : Int32).toInt = 5 := rfl
  have t3 := rng32 (x + (5 : Int32))
  have t4 := c_iadd x (5 : Int32)
  omega
theorem own_p6 {x : Int32} {i : Nat} (h : x.toInt = i) (hi : i ≤ 100) : (x + (6 : Int32)).toInt = ((i + 6 : Nat) : Int) := by
  have t1 := rng32 x
  have t2 : (6 : Int32).toInt = 6 := rfl
  have t3 := rng32 (x + (6 : Int32))
  have t4 := c_iadd x (6 : Int32)
  omega
theorem own_p7 {x : Int32} {i : Nat} (h : x.toInt = i) (hi : i ≤ 100) : (x + (7 : Int32)).toInt = ((i + 7 : Nat) : Int) := by
  have t1 := rng32 x
  have t2 : (7 : Int32).toInt = 7 := rfl
  have t3 := rng32 (x + (7 : Int32))
  have t4 := c_iadd x (7 : Int32)
  omega
theorem own_p8 {x : Int32} {i : Nat} (h : x.toInt = i) (hi : i ≤ 100) : (x + (8 : Int32)).toInt = ((i + 8 : Nat) : Int) := by
  have t1 := rng32 x
  have t2 : (8 : Int32).toInt = 8 := rfl
  have t3 := rng32 (x + (8 : Int32))
  have t4 := c_iadd x (8 : Int32)
  omega
theorem own_p9 {x : Int32} {i : Nat} (h : x.toInt = i) (hi : i ≤ 100) : (x + (9 : Int32)).toInt = ((i + 9 : Nat) : Int) := by
  have t1 := rng32 x
  have t2 : (9 : Int32).toInt = 9 := rfl
  have t3 := rng32 (x + (9 : Int32))
  have t4 := c_iadd x (9 : Int32)
  omega
theorem own_p10 {x : Int32} {i : Nat} (h : x.toInt = i) (hi : i ≤ 100) : (x + (10 : Int32)).toInt = ((i + 10 : Nat) : Int) := by
  have t1 := rng32 x
  have t2 : (10 : Int32).toInt = 10 := rfl
  have t3 := rng32 (x + (10 : Int32))
  have t4 := c_iadd x (10 : Int32)
  omega
abbrev y10 : MethodName := ⟨"com/example/hearts_content/heartscontent/websocket/Framing", "writeLength", "([BIJI)I"⟩
theorem m10_0 : Ins1 prog_26_method_5_code 0 (.iconst 0) 1 1 := ⟨by decide +kernel, rfl⟩
theorem m10_1 : Ins1 prog_26_method_5_code 1 (.istore 5) 2 3 := ⟨by decide +kernel, rfl⟩
theorem m10_3 : Ins1 prog_26_method_5_code 3 (.iload 5) 2 5 := ⟨by decide +kernel, rfl⟩
theorem m10_5 : Ins1 prog_26_method_5_code 5 (.iload 4) 2 7 := ⟨by decide +kernel, rfl⟩
theorem m10_7 : Jmp1 prog_26_method_5_code 7 (.if_icmp .ge 29) 29 10 36 := ⟨by decide +kernel, rfl, by decide, by decide⟩
theorem m10_10 : Ins1 prog_26_method_5_code 10 (.aload_n 0) 1 11 := ⟨by decide +kernel, rfl⟩
theorem m10_11 : Ins1 prog_26_method_5_code 11 (.iload_n 1) 1 12 := ⟨by decide +kernel, rfl⟩
theorem m10_12 : Ins1 prog_26_method_5_code 12 (.iload 5) 2 14 := ⟨by decide +kernel, rfl⟩
theorem m10_14 : Ins1 prog_26_method_5_code 14 (.iadd) 1 15 := ⟨by decide +kernel, rfl⟩
theorem m10_15 : Ins1 prog_26_method_5_code 15 (.lload_n 2) 1 16 := ⟨by decide +kernel, rfl⟩
theorem m10_16 : Ins1 prog_26_method_5_code 16 (.bipush 8) 2 18 := ⟨by decide +kernel, rfl⟩
theorem m10_18 : Ins1 prog_26_method_5_code 18 (.iload 4) 2 20 := ⟨by decide +kernel, rfl⟩
theorem m10_20 : Ins1 prog_26_method_5_code 20 (.iconst 1) 1 21 := ⟨by decide +kernel, rfl⟩
theorem m10_21 : Ins1 prog_26_method_5_code 21 (.isub) 1 22 := ⟨by decide +kernel, rfl⟩
theorem m10_22 : Ins1 prog_26_method_5_code 22 (.iload 5) 2 24 := ⟨by decide +kernel, rfl⟩
theorem m10_24 : Ins1 prog_26_method_5_code 24 (.isub) 1 25 := ⟨by decide +kernel, rfl⟩
theorem m10_25 : Ins1 prog_26_method_5_code 25 (.imul) 1 26 := ⟨by decide +kernel, rfl⟩
theorem m10_26 : Ins1 prog_26_method_5_code 26 (.lushr) 1 27 := ⟨by decide +kernel, rfl⟩
theorem m10_27 : Ins1 prog_26_method_5_code 27 (.l2i) 1 28 := ⟨by decide +kernel, rfl⟩
theorem m10_28 : Ins1 prog_26_method_5_code 28 (.i2b) 1 29 := ⟨by decide +kernel, rfl⟩
theorem m10_29 : Ins1 prog_26_method_5_code 29 (.bastore) 1 30 := ⟨by decide +kernel, rfl⟩
theorem m10_30 : Ins1 prog_26_method_5_code 30 (.iinc 5 1) 3 33 := ⟨by decide +kernel, rfl⟩
theorem m10_33 : Jmp1 prog_26_method_5_code 33 (.goto (-30)) (-30) 36 3 := ⟨by decide +kernel, rfl, by decide, by decide⟩
theorem m10_36 : Ins1 prog_26_method_5_code 36 (.iload_n 1) 1 37 := ⟨by decide +kernel, rfl⟩
theorem m10_37 : Ins1 prog_26_method_5_code 37 (.iload 4) 2 39 := ⟨by decide +kernel, rfl⟩
theorem m10_39 : Ins1 prog_26_method_5_code 39 (.iadd) 1 40 := ⟨by decide +kernel, rfl⟩
theorem m10_40 : Ins1 prog_26_method_5_code 40 (.ireturn) 1 41 := ⟨by decide +kernel, rfl⟩
theorem pl10 : plainFor y10 = true := plainFor_of_name (show plainName "com/example/hearts_content/heartscontent/websocket/Framing" = true by first | (simp [plainName, overriddenIn]; done) | decide +kernel)
theorem pd10 : parseMethodDescriptor "([BIJI)I" = some ⟨[(.array .byte), .int, .long, .int], some .int⟩ := by decide +kernel
set_option maxRecDepth 65536 in
set_option maxHeartbeats 4000000 in
theorem own_wl2 (Z : State) (a0 : Array Value) (hw : ∀ d ∈ tables_1, d.before a0 Z = true) (a : Addr) (x : Int32) (q : Int64) (h : Heap) (n0 : Nat) (bs : List Int32) (p N : Nat) (A0 : Av Z h a .byte (bs.map Value.int)) (hl : bs.length = N) (hN : p + 2 ≤ N) (hN2 : N ≤ 100) (hx : x.toInt = p) (g0 : n0 ≤ a) :
    Con Z y10 prog_26_method_5_code 6 (some .int) ({ frames := 0, cells := 0, slots := 0, locals := 0 } : Room) [.ref a, .int x, .long q, .int (2 : Int32)] h n0 (fun v h' => Keep h h' [a] ∧ Av Z h' a .byte (((bs.set (p + 0) (own_by q (8 : Int32))).set (p + 1) (own_by q (0 : Int32))).map Value.int) ∧ ∃ r : Int32, v = some (.int r) ∧ r.toInt = ((p + 2 : Nat) : Int)) := by
  refine Con.of pl10 (L := [.val (.ref a), .val (.int x), .val (.long q), .second, .val (.int (2 : Int32)), .unset]) (fun m => by first | (simp [entryFrame, mkF, argsToLocals, Value.category]; done) | rfl) ?_
  intro κ Qx hQ C
  have K0 := Keep.refl h [a]
  refine W.iconst C m10_0 (z := (0 : Int32)) rfl ?_
  refine W.istore C m10_1 (L' := [.val (.ref a), .val (.int x), .val (.long q), .second, .val (.int (2 : Int32)), .val (.int (0 : Int32))]) rfl ?_
  refine W.iload C m10_3 rfl ?_
  refine W.iload C m10_5 rfl ?_
  refine W.icmpN C m10_7 (show ¬ ((2 : Int) ≤ (0 : Int)) from (by decide)) ?_
  refine W.aloadN C m10_10 rfl rfl ?_
  refine W.iloadN C m10_11 rfl ?_
  refine W.iload C m10_12 rfl ?_
  refine W.iadd C m10_14 rfl ?_
  refine W.lloadN C m10_15 rfl ?_
  refine W.bipush C m10_16 (z := (8 : Int32)) rfl ?_
  refine W.iload C m10_18 rfl ?_
  refine W.iconst C m10_20 (z := (1 : Int32)) rfl ?_
  refine W.isub C m10_21 (z := (1 : Int32)) rfl ?_
  refine W.iload C m10_22 rfl ?_
  refine W.isub C m10_24 (z := (1 : Int32)) rfl ?_
  refine W.imul C m10_25 (z := (8 : Int32)) rfl ?_
  refine W.lushr C m10_26 rfl ?_
  refine W.l2i C m10_27 rfl ?_
  refine W.i2b C m10_28 rfl ?_
  refine W.bastore C m10_29 A0 (i := (p + 0)) (own_p0 hx (by omega)) (by rw [List.length_map, hl]; omega) g0 ?_
  intro h1 W2 A3
  have K4 := K0.wr W2 (Or.inl (List.mem_of_getElem? (i := 0) rfl))
  have A6 := own_set A3
  obtain ⟨bs5, hbs5⟩ : ∃ l : List Int32, l = bs.set (p + 0) (q.toUInt64 >>> ((8 : Int32) &&& 0x3f).toInt64.toUInt64).toInt64.toInt32.toInt8.toInt32.toInt8.toInt32 := ⟨_, rfl⟩
  rw [← hbs5] at A6
  have hlbs5 : bs5.length = N := by rw [hbs5, List.length_set]; exact hl
  refine W.iinc C m10_30 rfl (z := (1 : Int32)) rfl (L' := [.val (.ref a), .val (.int x), .val (.long q), .second, .val (.int (2 : Int32)), .val (.int (1 : Int32))]) rfl ?_
  refine W.goto C m10_33 ?_
  refine W.iload C m10_3 rfl ?_
  refine W.iload C m10_5 rfl ?_
  refine W.icmpN C m10_7 (show ¬ ((2 : Int) ≤ (1 : Int)) from (by decide)) ?_
  refine W.aloadN C m10_10 rfl rfl ?_
  refine W.iloadN C m10_11 rfl ?_
  refine W.iload C m10_12 rfl ?_
  refine W.iadd C m10_14 rfl ?_
  refine W.lloadN C m10_15 rfl ?_
  refine W.bipush C m10_16 (z := (8 : Int32)) rfl ?_
  refine W.iload C m10_18 rfl ?_
  refine W.iconst C m10_20 (z := (1 : Int32)) rfl ?_
  refine W.isub C m10_21 (z := (1 : Int32)) rfl ?_
  refine W.iload C m10_22 rfl ?_
  refine W.isub C m10_24 (z := (0 : Int32)) rfl ?_
  refine W.imul C m10_25 (z := (0 : Int32)) rfl ?_
  refine W.lushr C m10_26 rfl ?_
  refine W.l2i C m10_27 rfl ?_
  refine W.i2b C m10_28 rfl ?_
  refine W.bastore C m10_29 A6 (i := (p + 1)) (own_p1 hx (by omega)) (by rw [List.length_map, hlbs5]; omega) g0 ?_
  intro h7 W8 A9
  have K10 := K4.wr W8 (Or.inl (List.mem_of_getElem? (i := 0) rfl))
  have A12 := own_set A9
  obtain ⟨bs11, hbs11⟩ : ∃ l : List Int32, l = bs5.set (p + 1) (q.toUInt64 >>> ((0 : Int32) &&& 0x3f).toInt64.toUInt64).toInt64.toInt32.toInt8.toInt32.toInt8.toInt32 := ⟨_, rfl⟩
  rw [← hbs11] at A12
  have hlbs11 : bs11.length = N := by rw [hbs11, List.length_set]; exact hlbs5
  refine W.iinc C m10_30 rfl (z := (2 : Int32)) rfl (L' := [.val (.ref a), .val (.int x), .val (.long q), .second, .val (.int (2 : Int32)), .val (.int (2 : Int32))]) rfl ?_
  refine W.goto C m10_33 ?_
  refine W.iload C m10_3 rfl ?_
  refine W.iload C m10_5 rfl ?_
  refine W.icmpY C m10_7 (show (2 : Int) ≤ (2 : Int) from (by decide)) ?_
  refine W.iloadN C m10_36 rfl ?_
  refine W.iload C m10_37 rfl ?_
  refine W.iadd C m10_39 rfl ?_
  refine W.ireturn C m10_40 (hQ _ _ ?_)
  have hfin : bs11 = ((bs.set (p + 0) (own_by q (8 : Int32))).set (p + 1) (own_by q (0 : Int32))) := by rw [hbs11, hbs5]; rfl
  rw [hfin] at A12
  exact ⟨K10, A12, _, rfl, own_p2 hx (by omega)⟩

set_option maxRecDepth 65536 in
set_option maxHeartbeats 4000000 in
theorem own_wl8 (Z : State) (a0 : Array Value) (hw : ∀ d ∈ tables_1, d.before a0 Z = true) (a : Addr) (x : Int32) (q : Int64) (h : Heap) (n0 : Nat) (bs : List Int32) (p N : Nat) (A0 : Av Z h a .byte (bs.map Value.int)) (hl : bs.length = N) (hN : p + 8 ≤ N) (hN2 : N ≤ 100) (hx : x.toInt = p) (g0 : n0 ≤ a) :
    Con Z y10 prog_26_method_5_code 6 (some .int) ({ frames := 0, cells := 0, slots := 0, locals := 0 } : Room) [.ref a, .int x, .long q, .int (8 : Int32)] h n0 (fun v h' => Keep h h' [a] ∧ Av Z h' a .byte (((((((((bs.set (p + 0) (own_by q (56 : Int32))).set (p + 1) (own_by q (48 : Int32))).set (p + 2) (own_by q (40 : Int32))).set (p + 3) (own_by q (32 : Int32))).set (p + 4) (own_by q (24 : Int32))).set (p + 5) (own_by q (16 : Int32))).set (p + 6) (own_by q (8 : Int32))).set (p + 7) (own_by q (0 : Int32))).map Value.int) ∧ ∃ r : Int32, v = some (.int r) ∧ r.toInt = ((p + 8 : Nat) : Int)) := by
  refine Con.of pl10 (L := [.val (.ref a), .val (.int x), .val (.long q), .second, .val (.int (8 : Int32)), .unset]) (fun m => by first | (simp [entryFrame, mkF, argsToLocals, Value.category]; done) | rfl) ?_
  intro κ Qx hQ C
  have K0 := Keep.refl h [a]
  refine W.iconst C m10_0 (z := (0 : Int32)) rfl ?_
  refine W.istore C m10_1 (L' := [.val (.ref a), .val (.int x), .val (.long q), .second, .val (.int (8 : Int32)), .val (.int (0 : Int32))]) rfl ?_
  refine W.iload C m10_3 rfl ?_
  refine W.iload C m10_5 rfl ?_
  refine W.icmpN C m10_7 (show ¬ ((8 : Int) ≤ (0 : Int)) from (by decide)) ?_
  refine W.aloadN C m10_10 rfl rfl ?_
  refine W.iloadN C m10_11 rfl ?_
  refine W.iload C m10_12 rfl ?_
  refine W.iadd C m10_14 rfl ?_
  refine W.lloadN C m10_15 rfl ?_
  refine W.bipush C m10_16 (z := (8 : Int32)) rfl ?_
  refine W.iload C m10_18 rfl ?_
  refine W.iconst C m10_20 (z := (1 : Int32)) rfl ?_
  refine W.isub C m10_21 (z := (7 : Int32)) rfl ?_
  refine W.iload C m10_22 rfl ?_
  refine W.isub C m10_24 (z := (7 : Int32)) rfl ?_
  refine W.imul C m10_25 (z := (56 : Int32)) rfl ?_
  refine W.lushr C m10_26 rfl ?_
  refine W.l2i C m10_27 rfl ?_
  refine W.i2b C m10_28 rfl ?_
  refine W.bastore C m10_29 A0 (i := (p + 0)) (own_p0 hx (by omega)) (by rw [List.length_map, hl]; omega) g0 ?_
  intro h1 W2 A3
  have K4 := K0.wr W2 (Or.inl (List.mem_of_getElem? (i := 0) rfl))
  have A6 := own_set A3
  obtain ⟨bs5, hbs5⟩ : ∃ l : List Int32, l = bs.set (p + 0) (q.toUInt64 >>> ((56 : Int32) &&& 0x3f).toInt64.toUInt64).toInt64.toInt32.toInt8.toInt32.toInt8.toInt32 := ⟨_, rfl⟩
  rw [← hbs5] at A6
  have hlbs5 : bs5.length = N := by rw [hbs5, List.length_set]; exact hl
  refine W.iinc C m10_30 rfl (z := (1 : Int32)) rfl (L' := [.val (.ref a), .val (.int x), .val (.long q), .second, .val (.int (8 : Int32)), .val (.int (1 : Int32))]) rfl ?_
  refine W.goto C m10_33 ?_
  refine W.iload C m10_3 rfl ?_
  refine W.iload C m10_5 rfl ?_
  refine W.icmpN C m10_7 (show ¬ ((8 : Int) ≤ (1 : Int)) from (by decide)) ?_
  refine W.aloadN C m10_10 rfl rfl ?_
  refine W.iloadN C m10_11 rfl ?_
  refine W.iload C m10_12 rfl ?_
  refine W.iadd C m10_14 rfl ?_
  refine W.lloadN C m10_15 rfl ?_
  refine W.bipush C m10_16 (z := (8 : Int32)) rfl ?_
  refine W.iload C m10_18 rfl ?_
  refine W.iconst C m10_20 (z := (1 : Int32)) rfl ?_
  refine W.isub C m10_21 (z := (7 : Int32)) rfl ?_
  refine W.iload C m10_22 rfl ?_
  refine W.isub C m10_24 (z := (6 : Int32)) rfl ?_
  refine W.imul C m10_25 (z := (48 : Int32)) rfl ?_
  refine W.lushr C m10_26 rfl ?_
  refine W.l2i C m10_27 rfl ?_
  refine W.i2b C m10_28 rfl ?_
  refine W.bastore C m10_29 A6 (i := (p + 1)) (own_p1 hx (by omega)) (by rw [List.length_map, hlbs5]; omega) g0 ?_
  intro h7 W8 A9
  have K10 := K4.wr W8 (Or.inl (List.mem_of_getElem? (i := 0) rfl))
  have A12 := own_set A9
  obtain ⟨bs11, hbs11⟩ : ∃ l : List Int32, l = bs5.set (p + 1) (q.toUInt64 >>> ((48 : Int32) &&& 0x3f).toInt64.toUInt64).toInt64.toInt32.toInt8.toInt32.toInt8.toInt32 := ⟨_, rfl⟩
  rw [← hbs11] at A12
  have hlbs11 : bs11.length = N := by rw [hbs11, List.length_set]; exact hlbs5
  refine W.iinc C m10_30 rfl (z := (2 : Int32)) rfl (L' := [.val (.ref a), .val (.int x), .val (.long q), .second, .val (.int (8 : Int32)), .val (.int (2 : Int32))]) rfl ?_
  refine W.goto C m10_33 ?_
  refine W.iload C m10_3 rfl ?_
  refine W.iload C m10_5 rfl ?_
  refine W.icmpN C m10_7 (show ¬ ((8 : Int) ≤ (2 : Int)) from (by decide)) ?_
  refine W.aloadN C m10_10 rfl rfl ?_
  refine W.iloadN C m10_11 rfl ?_
  refine W.iload C m10_12 rfl ?_
  refine W.iadd C m10_14 rfl ?_
  refine W.lloadN C m10_15 rfl ?_
  refine W.bipush C m10_16 (z := (8 : Int32)) rfl ?_
  refine W.iload C m10_18 rfl ?_
  refine W.iconst C m10_20 (z := (1 : Int32)) rfl ?_
  refine W.isub C m10_21 (z := (7 : Int32)) rfl ?_
  refine W.iload C m10_22 rfl ?_
  refine W.isub C m10_24 (z := (5 : Int32)) rfl ?_
  refine W.imul C m10_25 (z := (40 : Int32)) rfl ?_
  refine W.lushr C m10_26 rfl ?_
  refine W.l2i C m10_27 rfl ?_
  refine W.i2b C m10_28 rfl ?_
  refine W.bastore C m10_29 A12 (i := (p + 2)) (own_p2 hx (by omega)) (by rw [List.length_map, hlbs11]; omega) g0 ?_
  intro h13 W14 A15
  have K16 := K10.wr W14 (Or.inl (List.mem_of_getElem? (i := 0) rfl))
  have A18 := own_set A15
  obtain ⟨bs17, hbs17⟩ : ∃ l : List Int32, l = bs11.set (p + 2) (q.toUInt64 >>> ((40 : Int32) &&& 0x3f).toInt64.toUInt64).toInt64.toInt32.toInt8.toInt32.toInt8.toInt32 := ⟨_, rfl⟩
  rw [← hbs17] at A18
  have hlbs17 : bs17.length = N := by rw [hbs17, List.length_set]; exact hlbs11
  refine W.iinc C m10_30 rfl (z := (3 : Int32)) rfl (L' := [.val (.ref a), .val (.int x), .val (.long q), .second, .val (.int (8 : Int32)), .val (.int (3 : Int32))]) rfl ?_
  refine W.goto C m10_33 ?_
  refine W.iload C m10_3 rfl ?_
  refine W.iload C m10_5 rfl ?_
  refine W.icmpN C m10_7 (show ¬ ((8 : Int) ≤ (3 : Int)) from (by decide)) ?_
  refine W.aloadN C m10_10 rfl rfl ?_
  refine W.iloadN C m10_11 rfl ?_
  refine W.iload C m10_12 rfl ?_
  refine W.iadd C m10_14 rfl ?_
  refine W.lloadN C m10_15 rfl ?_
  refine W.bipush C m10_16 (z := (8 : Int32)) rfl ?_
  refine W.iload C m10_18 rfl ?_
  refine W.iconst C m10_20 (z := (1 : Int32)) rfl ?_
  refine W.isub C m10_21 (z := (7 : Int32)) rfl ?_
  refine W.iload C m10_22 rfl ?_
  refine W.isub C m10_24 (z := (4 : Int32)) rfl ?_
  refine W.imul C m10_25 (z := (32 : Int32)) rfl ?_
  refine W.lushr C m10_26 rfl ?_
  refine W.l2i C m10_27 rfl ?_
  refine W.i2b C m10_28 rfl ?_
  refine W.bastore C m10_29 A18 (i := (p + 3)) (own_p3 hx (by omega)) (by rw [List.length_map, hlbs17]; omega) g0 ?_
  intro h19 W20 A21
  have K22 := K16.wr W20 (Or.inl (List.mem_of_getElem? (i := 0) rfl))
  have A24 := own_set A21
  obtain ⟨bs23, hbs23⟩ : ∃ l : List Int32, l = bs17.set (p + 3) (q.toUInt64 >>> ((32 : Int32) &&& 0x3f).toInt64.toUInt64).toInt64.toInt32.toInt8.toInt32.toInt8.toInt32 := ⟨_, rfl⟩
  rw [← hbs23] at A24
  have hlbs23 : bs23.length = N := by rw [hbs23, List.length_set]; exact hlbs17
  refine W.iinc C m10_30 rfl (z := (4 : Int32)) rfl (L' := [.val (.ref a), .val (.int x), .val (.long q), .second, .val (.int (8 : Int32)), .val (.int (4 : Int32))]) rfl ?_
  refine W.goto C m10_33 ?_
  refine W.iload C m10_3 rfl ?_
  refine W.iload C m10_5 rfl ?_
  refine W.icmpN C m10_7 (show ¬ ((8 : Int) ≤ (4 : Int)) from (by decide)) ?_
  refine W.aloadN C m10_10 rfl rfl ?_
  refine W.iloadN C m10_11 rfl ?_
  refine W.iload C m10_12 rfl ?_
  refine W.iadd C m10_14 rfl ?_
  refine W.lloadN C m10_15 rfl ?_
  refine W.bipush C m10_16 (z := (8 : Int32)) rfl ?_
  refine W.iload C m10_18 rfl ?_
  refine W.iconst C m10_20 (z := (1 : Int32)) rfl ?_
  refine W.isub C m10_21 (z := (7 : Int32)) rfl ?_
  refine W.iload C m10_22 rfl ?_
  refine W.isub C m10_24 (z := (3 : Int32)) rfl ?_
  refine W.imul C m10_25 (z := (24 : Int32)) rfl ?_
  refine W.lushr C m10_26 rfl ?_
  refine W.l2i C m10_27 rfl ?_
  refine W.i2b C m10_28 rfl ?_
  refine W.bastore C m10_29 A24 (i := (p + 4)) (own_p4 hx (by omega)) (by rw [List.length_map, hlbs23]; omega) g0 ?_
  intro h25 W26 A27
  have K28 := K22.wr W26 (Or.inl (List.mem_of_getElem? (i := 0) rfl))
  have A30 := own_set A27
  obtain ⟨bs29, hbs29⟩ : ∃ l : List Int32, l = bs23.set (p + 4) (q.toUInt64 >>> ((24 : Int32) &&& 0x3f).toInt64.toUInt64).toInt64.toInt32.toInt8.toInt32.toInt8.toInt32 := ⟨_, rfl⟩
  rw [← hbs29] at A30
  have hlbs29 : bs29.length = N := by rw [hbs29, List.length_set]; exact hlbs23
  refine W.iinc C m10_30 rfl (z := (5 : Int32)) rfl (L' := [.val (.ref a), .val (.int x), .val (.long q), .second, .val (.int (8 : Int32)), .val (.int (5 : Int32))]) rfl ?_
  refine W.goto C m10_33 ?_
  refine W.iload C m10_3 rfl ?_
  refine W.iload C m10_5 rfl ?_
  refine W.icmpN C m10_7 (show ¬ ((8 : Int) ≤ (5 : Int)) from (by decide)) ?_
  refine W.aloadN C m10_10 rfl rfl ?_
  refine W.iloadN C m10_11 rfl ?_
  refine W.iload C m10_12 rfl ?_
  refine W.iadd C m10_14 rfl ?_
  refine W.lloadN C m10_15 rfl ?_
  refine W.bipush C m10_16 (z := (8 : Int32)) rfl ?_
  refine W.iload C m10_18 rfl ?_
  refine W.iconst C m10_20 (z := (1 : Int32)) rfl ?_
  refine W.isub C m10_21 (z := (7 : Int32)) rfl ?_
  refine W.iload C m10_22 rfl ?_
  refine W.isub C m10_24 (z := (2 : Int32)) rfl ?_
  refine W.imul C m10_25 (z := (16 : Int32)) rfl ?_
  refine W.lushr C m10_26 rfl ?_
  refine W.l2i C m10_27 rfl ?_
  refine W.i2b C m10_28 rfl ?_
  refine W.bastore C m10_29 A30 (i := (p + 5)) (own_p5 hx (by omega)) (by rw [List.length_map, hlbs29]; omega) g0 ?_
  intro h31 W32 A33
  have K34 := K28.wr W32 (Or.inl (List.mem_of_getElem? (i := 0) rfl))
  have A36 := own_set A33
  obtain ⟨bs35, hbs35⟩ : ∃ l : List Int32, l = bs29.set (p + 5) (q.toUInt64 >>> ((16 : Int32) &&& 0x3f).toInt64.toUInt64).toInt64.toInt32.toInt8.toInt32.toInt8.toInt32 := ⟨_, rfl⟩
  rw [← hbs35] at A36
  have hlbs35 : bs35.length = N := by rw [hbs35, List.length_set]; exact hlbs29
  refine W.iinc C m10_30 rfl (z := (6 : Int32)) rfl (L' := [.val (.ref a), .val (.int x), .val (.long q), .second, .val (.int (8 : Int32)), .val (.int (6 : Int32))]) rfl ?_
  refine W.goto C m10_33 ?_
  refine W.iload C m10_3 rfl ?_
  refine W.iload C m10_5 rfl ?_
  refine W.icmpN C m10_7 (show ¬ ((8 : Int) ≤ (6 : Int)) from (by decide)) ?_
  refine W.aloadN C m10_10 rfl rfl ?_
  refine W.iloadN C m10_11 rfl ?_
  refine W.iload C m10_12 rfl ?_
  refine W.iadd C m10_14 rfl ?_
  refine W.lloadN C m10_15 rfl ?_
  refine W.bipush C m10_16 (z := (8 : Int32)) rfl ?_
  refine W.iload C m10_18 rfl ?_
  refine W.iconst C m10_20 (z := (1 : Int32)) rfl ?_
  refine W.isub C m10_21 (z := (7 : Int32)) rfl ?_
  refine W.iload C m10_22 rfl ?_
  refine W.isub C m10_24 (z := (1 : Int32)) rfl ?_
  refine W.imul C m10_25 (z := (8 : Int32)) rfl ?_
  refine W.lushr C m10_26 rfl ?_
  refine W.l2i C m10_27 rfl ?_
  refine W.i2b C m10_28 rfl ?_
  refine W.bastore C m10_29 A36 (i := (p + 6)) (own_p6 hx (by omega)) (by rw [List.length_map, hlbs35]; omega) g0 ?_
  intro h37 W38 A39
  have K40 := K34.wr W38 (Or.inl (List.mem_of_getElem? (i := 0) rfl))
  have A42 := own_set A39
  obtain ⟨bs41, hbs41⟩ : ∃ l : List Int32, l = bs35.set (p + 6) (q.toUInt64 >>> ((8 : Int32) &&& 0x3f).toInt64.toUInt64).toInt64.toInt32.toInt8.toInt32.toInt8.toInt32 := ⟨_, rfl⟩
  rw [← hbs41] at A42
  have hlbs41 : bs41.length = N := by rw [hbs41, List.length_set]; exact hlbs35
  refine W.iinc C m10_30 rfl (z := (7 : Int32)) rfl (L' := [.val (.ref a), .val (.int x), .val (.long q), .second, .val (.int (8 : Int32)), .val (.int (7 : Int32))]) rfl ?_
  refine W.goto C m10_33 ?_
  refine W.iload C m10_3 rfl ?_
  refine W.iload C m10_5 rfl ?_
  refine W.icmpN C m10_7 (show ¬ ((8 : Int) ≤ (7 : Int)) from (by decide)) ?_
  refine W.aloadN C m10_10 rfl rfl ?_
  refine W.iloadN C m10_11 rfl ?_
  refine W.iload C m10_12 rfl ?_
  refine W.iadd C m10_14 rfl ?_
  refine W.lloadN C m10_15 rfl ?_
  refine W.bipush C m10_16 (z := (8 : Int32)) rfl ?_
  refine W.iload C m10_18 rfl ?_
  refine W.iconst C m10_20 (z := (1 : Int32)) rfl ?_
  refine W.isub C m10_21 (z := (7 : Int32)) rfl ?_
  refine W.iload C m10_22 rfl ?_
  refine W.isub C m10_24 (z := (0 : Int32)) rfl ?_
  refine W.imul C m10_25 (z := (0 : Int32)) rfl ?_
  refine W.lushr C m10_26 rfl ?_
  refine W.l2i C m10_27 rfl ?_
  refine W.i2b C m10_28 rfl ?_
  refine W.bastore C m10_29 A42 (i := (p + 7)) (own_p7 hx (by omega)) (by rw [List.length_map, hlbs41]; omega) g0 ?_
  intro h43 W44 A45
  have K46 := K40.wr W44 (Or.inl (List.mem_of_getElem? (i := 0) rfl))
  have A48 := own_set A45
  obtain ⟨bs47, hbs47⟩ : ∃ l : List Int32, l = bs41.set (p + 7) (q.toUInt64 >>> ((0 : Int32) &&& 0x3f).toInt64.toUInt64).toInt64.toInt32.toInt8.toInt32.toInt8.toInt32 := ⟨_, rfl⟩
  rw [← hbs47] at A48
  have hlbs47 : bs47.length = N := by rw [hbs47, List.length_set]; exact hlbs41
  refine W.iinc C m10_30 rfl (z := (8 : Int32)) rfl (L' := [.val (.ref a), .val (.int x), .val (.long q), .second, .val (.int (8 : Int32)), .val (.int (8 : Int32))]) rfl ?_
  refine W.goto C m10_33 ?_
  refine W.iload C m10_3 rfl ?_
  refine W.iload C m10_5 rfl ?_
  refine W.icmpY C m10_7 (show (8 : Int) ≤ (8 : Int) from (by decide)) ?_
  refine W.iloadN C m10_36 rfl ?_
  refine W.iload C m10_37 rfl ?_
  refine W.iadd C m10_39 rfl ?_
  refine W.ireturn C m10_40 (hQ _ _ ?_)
  have hfin : bs47 = ((((((((bs.set (p + 0) (own_by q (56 : Int32))).set (p + 1) (own_by q (48 : Int32))).set (p + 2) (own_by q (40 : Int32))).set (p + 3) (own_by q (32 : Int32))).set (p + 4) (own_by q (24 : Int32))).set (p + 5) (own_by q (16 : Int32))).set (p + 6) (own_by q (8 : Int32))).set (p + 7) (own_by q (0 : Int32))) := by rw [hbs47, hbs41, hbs35, hbs29, hbs23, hbs17, hbs11, hbs5]; rfl
  rw [hfin] at A48
  exact ⟨K46, A48, _, rfl, own_p8 hx (by omega)⟩
abbrev y2 : MethodName := ⟨"com/example/hearts_content/heartscontent/websocket/Framing", "writeHeader", "([BIIJZ)I"⟩
theorem m2_0 : Ins1 prog_26_method_3_code 0 (.iload_n 1) 1 1 := ⟨by decide +kernel, rfl⟩
theorem m2_1 : Ins1 prog_26_method_3_code 1 (.istore 6) 2 3 := ⟨by decide +kernel, rfl⟩
theorem m2_3 : Ins1 prog_26_method_3_code 3 (.aload_n 0) 1 4 := ⟨by decide +kernel, rfl⟩
theorem m2_4 : Ins1 prog_26_method_3_code 4 (.iload 6) 2 6 := ⟨by decide +kernel, rfl⟩
theorem m2_6 : Ins1 prog_26_method_3_code 6 (.iinc 6 1) 3 9 := ⟨by decide +kernel, rfl⟩
theorem m2_9 : Ins1 prog_26_method_3_code 9 (.sipush 128) 3 12 := ⟨by decide +kernel, rfl⟩
theorem m2_12 : Ins1 prog_26_method_3_code 12 (.iload_n 2) 1 13 := ⟨by decide +kernel, rfl⟩
theorem m2_13 : Ins1 prog_26_method_3_code 13 (.ior) 1 14 := ⟨by decide +kernel, rfl⟩
theorem m2_14 : Ins1 prog_26_method_3_code 14 (.i2b) 1 15 := ⟨by decide +kernel, rfl⟩
theorem m2_15 : Ins1 prog_26_method_3_code 15 (.bastore) 1 16 := ⟨by decide +kernel, rfl⟩
theorem m2_16 : Ins1 prog_26_method_3_code 16 (.iload 5) 2 18 := ⟨by decide +kernel, rfl⟩
theorem m2_18 : Jmp1 prog_26_method_3_code 18 (.ifCond .eq 9) 9 21 27 := ⟨by decide +kernel, rfl, by decide, by decide⟩
theorem m2_21 : Ins1 prog_26_method_3_code 21 (.sipush 128) 3 24 := ⟨by decide +kernel, rfl⟩
theorem m2_24 : Jmp1 prog_26_method_3_code 24 (.goto 4) 4 27 28 := ⟨by decide +kernel, rfl, by decide, by decide⟩
theorem m2_27 : Ins1 prog_26_method_3_code 27 (.iconst 0) 1 28 := ⟨by decide +kernel, rfl⟩
theorem m2_28 : Ins1 prog_26_method_3_code 28 (.istore 7) 2 30 := ⟨by decide +kernel, rfl⟩
theorem m2_30 : Ins1 prog_26_method_3_code 30 (.lload_n 3) 1 31 := ⟨by decide +kernel, rfl⟩
theorem m2_31 : Ins1 prog_26_method_3_code 31 (.ldc2_w 9) 3 34 := ⟨by decide +kernel, rfl⟩
theorem m2_34 : Ins1 prog_26_method_3_code 34 (.lcmp) 1 35 := ⟨by decide +kernel, rfl⟩
theorem m2_35 : Jmp1 prog_26_method_3_code 35 (.ifCond .gt 20) 20 38 55 := ⟨by decide +kernel, rfl, by decide, by decide⟩
theorem m2_38 : Ins1 prog_26_method_3_code 38 (.aload_n 0) 1 39 := ⟨by decide +kernel, rfl⟩
theorem m2_39 : Ins1 prog_26_method_3_code 39 (.iload 6) 2 41 := ⟨by decide +kernel, rfl⟩
theorem m2_41 : Ins1 prog_26_method_3_code 41 (.iinc 6 1) 3 44 := ⟨by decide +kernel, rfl⟩
theorem m2_44 : Ins1 prog_26_method_3_code 44 (.iload 7) 2 46 := ⟨by decide +kernel, rfl⟩
theorem m2_46 : Ins1 prog_26_method_3_code 46 (.i2l) 1 47 := ⟨by decide +kernel, rfl⟩
theorem m2_47 : Ins1 prog_26_method_3_code 47 (.lload_n 3) 1 48 := ⟨by decide +kernel, rfl⟩
theorem m2_48 : Ins1 prog_26_method_3_code 48 (.lor) 1 49 := ⟨by decide +kernel, rfl⟩
theorem m2_49 : Ins1 prog_26_method_3_code 49 (.l2i) 1 50 := ⟨by decide +kernel, rfl⟩
theorem m2_50 : Ins1 prog_26_method_3_code 50 (.i2b) 1 51 := ⟨by decide +kernel, rfl⟩
theorem m2_51 : Ins1 prog_26_method_3_code 51 (.bastore) 1 52 := ⟨by decide +kernel, rfl⟩
theorem m2_52 : Jmp1 prog_26_method_3_code 52 (.goto 61) 61 55 113 := ⟨by decide +kernel, rfl, by decide, by decide⟩
theorem m2_55 : Ins1 prog_26_method_3_code 55 (.lload_n 3) 1 56 := ⟨by decide +kernel, rfl⟩
theorem m2_56 : Ins1 prog_26_method_3_code 56 (.ldc2_w 11) 3 59 := ⟨by decide +kernel, rfl⟩
theorem m2_59 : Ins1 prog_26_method_3_code 59 (.lcmp) 1 60 := ⟨by decide +kernel, rfl⟩
theorem m2_60 : Jmp1 prog_26_method_3_code 60 (.ifCond .gt 29) 29 63 89 := ⟨by decide +kernel, rfl, by decide, by decide⟩
theorem m2_63 : Ins1 prog_26_method_3_code 63 (.aload_n 0) 1 64 := ⟨by decide +kernel, rfl⟩
theorem m2_64 : Ins1 prog_26_method_3_code 64 (.iload 6) 2 66 := ⟨by decide +kernel, rfl⟩
theorem m2_66 : Ins1 prog_26_method_3_code 66 (.iinc 6 1) 3 69 := ⟨by decide +kernel, rfl⟩
theorem m2_69 : Ins1 prog_26_method_3_code 69 (.iload 7) 2 71 := ⟨by decide +kernel, rfl⟩
theorem m2_71 : Ins1 prog_26_method_3_code 71 (.bipush 126) 2 73 := ⟨by decide +kernel, rfl⟩
theorem m2_73 : Ins1 prog_26_method_3_code 73 (.ior) 1 74 := ⟨by decide +kernel, rfl⟩
theorem m2_74 : Ins1 prog_26_method_3_code 74 (.i2b) 1 75 := ⟨by decide +kernel, rfl⟩
theorem m2_75 : Ins1 prog_26_method_3_code 75 (.bastore) 1 76 := ⟨by decide +kernel, rfl⟩
theorem m2_76 : Ins1 prog_26_method_3_code 76 (.aload_n 0) 1 77 := ⟨by decide +kernel, rfl⟩
theorem m2_77 : Ins1 prog_26_method_3_code 77 (.iload 6) 2 79 := ⟨by decide +kernel, rfl⟩
theorem m2_79 : Ins1 prog_26_method_3_code 79 (.lload_n 3) 1 80 := ⟨by decide +kernel, rfl⟩
theorem m2_80 : Ins1 prog_26_method_3_code 80 (.iconst 2) 1 81 := ⟨by decide +kernel, rfl⟩
theorem m2_81 : Ins1 prog_26_method_3_code 81 (.invokestatic 13) 3 84 := ⟨by decide +kernel, rfl⟩
theorem m2_84 : Ins1 prog_26_method_3_code 84 (.istore 6) 2 86 := ⟨by decide +kernel, rfl⟩
theorem m2_86 : Jmp1 prog_26_method_3_code 86 (.goto 27) 27 89 113 := ⟨by decide +kernel, rfl, by decide, by decide⟩
theorem m2_89 : Ins1 prog_26_method_3_code 89 (.aload_n 0) 1 90 := ⟨by decide +kernel, rfl⟩
theorem m2_90 : Ins1 prog_26_method_3_code 90 (.iload 6) 2 92 := ⟨by decide +kernel, rfl⟩
theorem m2_92 : Ins1 prog_26_method_3_code 92 (.iinc 6 1) 3 95 := ⟨by decide +kernel, rfl⟩
theorem m2_95 : Ins1 prog_26_method_3_code 95 (.iload 7) 2 97 := ⟨by decide +kernel, rfl⟩
theorem m2_97 : Ins1 prog_26_method_3_code 97 (.bipush 127) 2 99 := ⟨by decide +kernel, rfl⟩
theorem m2_99 : Ins1 prog_26_method_3_code 99 (.ior) 1 100 := ⟨by decide +kernel, rfl⟩
theorem m2_100 : Ins1 prog_26_method_3_code 100 (.i2b) 1 101 := ⟨by decide +kernel, rfl⟩
theorem m2_101 : Ins1 prog_26_method_3_code 101 (.bastore) 1 102 := ⟨by decide +kernel, rfl⟩
theorem m2_102 : Ins1 prog_26_method_3_code 102 (.aload_n 0) 1 103 := ⟨by decide +kernel, rfl⟩
theorem m2_103 : Ins1 prog_26_method_3_code 103 (.iload 6) 2 105 := ⟨by decide +kernel, rfl⟩
theorem m2_105 : Ins1 prog_26_method_3_code 105 (.lload_n 3) 1 106 := ⟨by decide +kernel, rfl⟩
theorem m2_106 : Ins1 prog_26_method_3_code 106 (.bipush 8) 2 108 := ⟨by decide +kernel, rfl⟩
theorem m2_108 : Ins1 prog_26_method_3_code 108 (.invokestatic 13) 3 111 := ⟨by decide +kernel, rfl⟩
theorem m2_111 : Ins1 prog_26_method_3_code 111 (.istore 6) 2 113 := ⟨by decide +kernel, rfl⟩
theorem m2_113 : Ins1 prog_26_method_3_code 113 (.iload 6) 2 115 := ⟨by decide +kernel, rfl⟩
theorem m2_115 : Ins1 prog_26_method_3_code 115 (.ireturn) 1 116 := ⟨by decide +kernel, rfl⟩
theorem pl2 : plainFor y2 = true := plainFor_of_name (show plainName "com/example/hearts_content/heartscontent/websocket/Framing" = true by first | (simp [plainName, overriddenIn]; done) | decide +kernel)
theorem pd2 : parseMethodDescriptor "([BIIJZ)I" = some ⟨[(.array .byte), .int, .int, .long, .boolean], some .int⟩ := by decide +kernel
set_option maxRecDepth 65536 in
set_option maxHeartbeats 4000000 in
theorem own_wh (Z : State) (a0 : Array Value) (hw : ∀ d ∈ tables_1, d.before a0 Z = true) (a : Addr) (x : Int32) (op : Int32) (q : Int64) (z : Int32) (bs : List Int32) (p N : Nat) (h : Heap) (n0 : Nat) (A0 : Av Z h a .byte (bs.map Value.int)) (hl : bs.length = N) (hN : p + 10 ≤ N) (hN2 : N ≤ 90) (hx : x.toInt = p) (g0 : n0 ≤ a) :
    Con Z y2 prog_26_method_3_code 8 (some .int) ({ frames := 1, cells := 0, slots := 0, locals := 17 } : Room) [(.ref a), (.int x), (.int op), (.long q), (.int z)] h n0 (fun v h' => Keep h h' [a] ∧ ∃ (mk : Int32) (cs : List Int32) (r : Int32), v = some (.int r) ∧ Av Z h' a .byte (cs.map Value.int) ∧ ((z.toInt = 0 ∧ mk.toInt = 0) ∨ (¬ z.toInt = 0 ∧ mk.toInt = 128)) ∧ ((q.toInt ≤ 125 ∧ r.toInt = ((p + 2 : Nat) : Int) ∧ cs = ((bs.set p (((128 : Int32) ||| op).toInt8.toInt32.toInt8.toInt32)).set (p + 1) ((mk.toInt64 ||| q).toInt32.toInt8.toInt32.toInt8.toInt32))) ∨ (125 < q.toInt ∧ q.toInt ≤ 65535 ∧ r.toInt = ((p + 4 : Nat) : Int) ∧ cs = ((((bs.set p (((128 : Int32) ||| op).toInt8.toInt32.toInt8.toInt32)).set (p + 1) ((mk ||| (126 : Int32)).toInt8.toInt32.toInt8.toInt32)).set ((p + 2) + 0) (own_by q (8 : Int32))).set ((p + 2) + 1) (own_by q (0 : Int32)))) ∨ (65535 < q.toInt ∧ r.toInt = ((p + 10 : Nat) : Int) ∧ cs = ((((((((((bs.set p (((128 : Int32) ||| op).toInt8.toInt32.toInt8.toInt32)).set (p + 1) ((mk ||| (127 : Int32)).toInt8.toInt32.toInt8.toInt32)).set ((p + 2) + 0) (own_by q (56 : Int32))).set ((p + 2) + 1) (own_by q (48 : Int32))).set ((p + 2) + 2) (own_by q (40 : Int32))).set ((p + 2) + 3) (own_by q (32 : Int32))).set ((p + 2) + 4) (own_by q (24 : Int32))).set ((p + 2) + 5) (own_by q (16 : Int32))).set ((p + 2) + 6) (own_by q (8 : Int32))).set ((p + 2) + 7) (own_by q (0 : Int32)))))) := by
  refine Con.of pl2 (L := [.val (.ref a), .val (.int x), .val (.int op), .val (.long q), .second, .val (.int z), .unset, .unset]) (fun m => by first | (simp [entryFrame, mkF, argsToLocals, Value.category]; done) | rfl) ?_
  intro κ Qx hQ C
  have K0 := Keep.refl h [a]
  refine W.iloadN C m2_0 rfl ?_
  refine W.istore C m2_1 (L' := [.val (.ref a), .val (.int x), .val (.int op), .val (.long q), .second, .val (.int z), .val (.int x), .unset]) rfl ?_
  refine W.aloadN C m2_3 rfl rfl ?_
  refine W.iload C m2_4 rfl ?_
  refine W.iinc C m2_6 rfl (z := (x + (1 : Int32))) rfl (L' := [.val (.ref a), .val (.int x), .val (.int op), .val (.long q), .second, .val (.int z), .val (.int (x + (1 : Int32))), .unset]) rfl ?_
  generalize hv1 : (x + (1 : Int32)) = v1
  have hxv1 : v1.toInt = ((p + 1 : Nat) : Int) := by rw [← hv1]; exact own_p1 hx (by omega)
  refine W.sipush C m2_9 (z := (128 : Int32)) rfl ?_
  refine W.iloadN C m2_12 rfl ?_
  refine W.ior C m2_13 rfl ?_
  refine W.i2b C m2_14 rfl ?_
  refine W.bastore C m2_15 A0 (i := p) hx (by rw [List.length_map, hl]; omega) g0 ?_
  intro h2 W3 A4
  have K5 := K0.wr W3 (Or.inl (List.mem_of_getElem? (i := 0) rfl))
  have A7 := own_set A4
  obtain ⟨bs6, hbs6⟩ : ∃ l : List Int32, l = bs.set p ((128 : Int32) ||| op).toInt8.toInt32.toInt8.toInt32 := ⟨_, rfl⟩
  rw [← hbs6] at A7
  have hlbs6 : bs6.length = N := by rw [hbs6, List.length_set]; exact hl
  refine W.iload C m2_16 rfl ?_
  suffices J18 : ∀ (mk : Int32), (((z.toInt = (0 : Int)) ∧ (mk.toInt = (0 : Int))) ∨ ((¬ z.toInt = (0 : Int)) ∧ (mk.toInt = (128 : Int)))) → W κ n0 Qx h2 0 0 28 [.val (.ref a), .val (.int x), .val (.int op), .val (.long q), .second, .val (.int z), .val (.int v1), .unset] [(.int mk)] by
    refine W.ifc C m2_18 ?_ ?_
    · intro (h18 : z.toInt = (0 : Int))
      refine W.iconst C m2_27 (z := (0 : Int32)) rfl ?_
      exact J18 _ (Or.inl ⟨h18, rfl⟩)
    · intro (h18 : ¬ (z.toInt = (0 : Int)))
      refine W.sipush C m2_21 (z := (128 : Int32)) rfl ?_
      refine W.goto C m2_24 ?_
      exact J18 _ (Or.inr (⟨h18, rfl⟩))
  intro mk hJ18
  refine W.istore C m2_28 (L' := [.val (.ref a), .val (.int x), .val (.int op), .val (.long q), .second, .val (.int z), .val (.int v1), .val (.int mk)]) rfl ?_
  refine W.lloadN C m2_30 rfl ?_
  refine W.ldc2 C m2_31 (hw _ (List.mem_of_getElem? (i := 6) rfl)) ?_
  refine W.lc C m2_34 m2_35 ?_ ?_
  · intro (h34 : (125 : Int) < q.toInt)
    refine W.lloadN C m2_55 rfl ?_
    refine W.ldc2 C m2_56 (hw _ (List.mem_of_getElem? (i := 54) rfl)) ?_
    refine W.lc C m2_59 m2_60 ?_ ?_
    · intro (h59 : (65535 : Int) < q.toInt)
      refine W.aloadN C m2_89 rfl rfl ?_
      refine W.iload C m2_90 rfl ?_
      refine W.iinc C m2_92 rfl (z := (v1 + (1 : Int32))) rfl (L' := [.val (.ref a), .val (.int x), .val (.int op), .val (.long q), .second, .val (.int z), .val (.int (v1 + (1 : Int32))), .val (.int mk)]) rfl ?_
      generalize hv8 : (v1 + (1 : Int32)) = v8
      have hxv8 : v8.toInt = ((p + 2 : Nat) : Int) := by rw [← hv8]; exact own_p1 hxv1 (by omega)
      refine W.iload C m2_95 rfl ?_
      refine W.bipush C m2_97 (z := (127 : Int32)) rfl ?_
      refine W.ior C m2_99 rfl ?_
      refine W.i2b C m2_100 rfl ?_
      refine W.bastore C m2_101 A7 (i := (p + 1)) hxv1 (by rw [List.length_map, hlbs6]; omega) g0 ?_
      intro h9 W10 A11
      have K12 := K5.wr W10 (Or.inl (List.mem_of_getElem? (i := 0) rfl))
      have A14 := own_set A11
      obtain ⟨bs13, hbs13⟩ : ∃ l : List Int32, l = bs6.set (p + 1) (mk ||| (127 : Int32)).toInt8.toInt32.toInt8.toInt32 := ⟨_, rfl⟩
      rw [← hbs13] at A14
      have hlbs13 : bs13.length = N := by rw [hbs13, List.length_set]; exact hlbs6
      refine W.aloadN C m2_102 rfl rfl ?_
      refine W.iload C m2_103 rfl ?_
      refine W.lloadN C m2_105 rfl ?_
      refine W.bipush C m2_106 (z := (8 : Int32)) rfl ?_
      refine W.callS (y := y10) (wt := 0) C m2_108 (hw _ (List.mem_of_getElem? (i := 55) rfl)) (hw _ (List.mem_of_getElem? (i := 56) rfl)) (hw _ (List.mem_of_getElem? (i := 4) rfl)) (hw _ (List.mem_of_getElem? (i := 57) rfl)) (by decide) pd10 rfl (own_wl8 Z a0 hw a v8 q h9 n0 bs13 (p + 2) N A14 hlbs13 (by omega) (by omega) hxv8 g0) (as' := [(.ref a), (.int v8), (.long q), (.int (8 : Int32))]) (rest := []) rfl rfl (Nat.le_of_eq rfl) (by decide) (by decide) (by decide) (by decide) ?_
      intro r20 h18 q19
      obtain ⟨K15, A16, r17, rfl, hr17⟩ := q19
      have K21 := Keep.trans K12 K15 (allS (Or.inl (List.mem_of_getElem? (i := 0) rfl)) all0)
      obtain ⟨bs22, hbs22⟩ : ∃ l : List Int32, l = ((((((((bs13.set ((p + 2) + 0) (own_by q (56 : Int32))).set ((p + 2) + 1) (own_by q (48 : Int32))).set ((p + 2) + 2) (own_by q (40 : Int32))).set ((p + 2) + 3) (own_by q (32 : Int32))).set ((p + 2) + 4) (own_by q (24 : Int32))).set ((p + 2) + 5) (own_by q (16 : Int32))).set ((p + 2) + 6) (own_by q (8 : Int32))).set ((p + 2) + 7) (own_by q (0 : Int32))) := ⟨_, rfl⟩
      rw [← hbs22] at A16
      show W κ n0 Qx h18 0 0 111 [.val (.ref a), .val (.int x), .val (.int op), .val (.long q), .second, .val (.int z), .val (.int v8), .val (.int mk)] [(.int r17)]
      refine W.istore C m2_111 (L' := [.val (.ref a), .val (.int x), .val (.int op), .val (.long q), .second, .val (.int z), .val (.int r17), .val (.int mk)]) rfl ?_
      refine W.iload C m2_113 rfl ?_
      refine W.ireturn C m2_115 (hQ _ _ ?_)
      have hfin : bs22 = ((((((((((bs.set p (((128 : Int32) ||| op).toInt8.toInt32.toInt8.toInt32)).set (p + 1) ((mk ||| (127 : Int32)).toInt8.toInt32.toInt8.toInt32)).set ((p + 2) + 0) (own_by q (56 : Int32))).set ((p + 2) + 1) (own_by q (48 : Int32))).set ((p + 2) + 2) (own_by q (40 : Int32))).set ((p + 2) + 3) (own_by q (32 : Int32))).set ((p + 2) + 4) (own_by q (24 : Int32))).set ((p + 2) + 5) (own_by q (16 : Int32))).set ((p + 2) + 6) (own_by q (8 : Int32))).set ((p + 2) + 7) (own_by q (0 : Int32))) := by rw [hbs22, hbs13, hbs6]
      exact ⟨K21, mk, _, _, rfl, A16, hJ18, Or.inr (Or.inr ⟨by omega, by omega, hfin⟩)⟩
    · intro (h59 : ¬ ((65535 : Int) < q.toInt))
      replace h59 : q.toInt ≤ (65535 : Int) := by omega
      refine W.aloadN C m2_63 rfl rfl ?_
      refine W.iload C m2_64 rfl ?_
      refine W.iinc C m2_66 rfl (z := (v1 + (1 : Int32))) rfl (L' := [.val (.ref a), .val (.int x), .val (.int op), .val (.long q), .second, .val (.int z), .val (.int (v1 + (1 : Int32))), .val (.int mk)]) rfl ?_
      generalize hv8 : (v1 + (1 : Int32)) = v8
      have hxv8 : v8.toInt = ((p + 2 : Nat) : Int) := by rw [← hv8]; exact own_p1 hxv1 (by omega)
      refine W.iload C m2_69 rfl ?_
      refine W.bipush C m2_71 (z := (126 : Int32)) rfl ?_
      refine W.ior C m2_73 rfl ?_
      refine W.i2b C m2_74 rfl ?_
      refine W.bastore C m2_75 A7 (i := (p + 1)) hxv1 (by rw [List.length_map, hlbs6]; omega) g0 ?_
      intro h9 W10 A11
      have K12 := K5.wr W10 (Or.inl (List.mem_of_getElem? (i := 0) rfl))
      have A14 := own_set A11
      obtain ⟨bs13, hbs13⟩ : ∃ l : List Int32, l = bs6.set (p + 1) (mk ||| (126 : Int32)).toInt8.toInt32.toInt8.toInt32 := ⟨_, rfl⟩
      rw [← hbs13] at A14
      have hlbs13 : bs13.length = N := by rw [hbs13, List.length_set]; exact hlbs6
      refine W.aloadN C m2_76 rfl rfl ?_
      refine W.iload C m2_77 rfl ?_
      refine W.lloadN C m2_79 rfl ?_
      refine W.iconst C m2_80 (z := (2 : Int32)) rfl ?_
      refine W.callS (y := y10) (wt := 0) C m2_81 (hw _ (List.mem_of_getElem? (i := 55) rfl)) (hw _ (List.mem_of_getElem? (i := 56) rfl)) (hw _ (List.mem_of_getElem? (i := 4) rfl)) (hw _ (List.mem_of_getElem? (i := 57) rfl)) (by decide) pd10 rfl (own_wl2 Z a0 hw a v8 q h9 n0 bs13 (p + 2) N A14 hlbs13 (by omega) (by omega) hxv8 g0) (as' := [(.ref a), (.int v8), (.long q), (.int (2 : Int32))]) (rest := []) rfl rfl (Nat.le_of_eq rfl) (by decide) (by decide) (by decide) (by decide) ?_
      intro r20 h18 q19
      obtain ⟨K15, A16, r17, rfl, hr17⟩ := q19
      have K21 := Keep.trans K12 K15 (allS (Or.inl (List.mem_of_getElem? (i := 0) rfl)) all0)
      obtain ⟨bs22, hbs22⟩ : ∃ l : List Int32, l = ((bs13.set ((p + 2) + 0) (own_by q (8 : Int32))).set ((p + 2) + 1) (own_by q (0 : Int32))) := ⟨_, rfl⟩
      rw [← hbs22] at A16
      show W κ n0 Qx h18 0 0 84 [.val (.ref a), .val (.int x), .val (.int op), .val (.long q), .second, .val (.int z), .val (.int v8), .val (.int mk)] [(.int r17)]
      refine W.istore C m2_84 (L' := [.val (.ref a), .val (.int x), .val (.int op), .val (.long q), .second, .val (.int z), .val (.int r17), .val (.int mk)]) rfl ?_
      refine W.goto C m2_86 ?_
      refine W.iload C m2_113 rfl ?_
      refine W.ireturn C m2_115 (hQ _ _ ?_)
      have hfin : bs22 = ((((bs.set p (((128 : Int32) ||| op).toInt8.toInt32.toInt8.toInt32)).set (p + 1) ((mk ||| (126 : Int32)).toInt8.toInt32.toInt8.toInt32)).set ((p + 2) + 0) (own_by q (8 : Int32))).set ((p + 2) + 1) (own_by q (0 : Int32))) := by rw [hbs22, hbs13, hbs6]
      exact ⟨K21, mk, _, _, rfl, A16, hJ18, Or.inr (Or.inl ⟨by omega, by omega, by omega, hfin⟩)⟩
  · intro (h34 : ¬ ((125 : Int) < q.toInt))
    replace h34 : q.toInt ≤ (125 : Int) := by omega
    refine W.aloadN C m2_38 rfl rfl ?_
    refine W.iload C m2_39 rfl ?_
    refine W.iinc C m2_41 rfl (z := (v1 + (1 : Int32))) rfl (L' := [.val (.ref a), .val (.int x), .val (.int op), .val (.long q), .second, .val (.int z), .val (.int (v1 + (1 : Int32))), .val (.int mk)]) rfl ?_
    generalize hv8 : (v1 + (1 : Int32)) = v8
    have hxv8 : v8.toInt = ((p + 2 : Nat) : Int) := by rw [← hv8]; exact own_p1 hxv1 (by omega)
    refine W.iload C m2_44 rfl ?_
    refine W.i2l C m2_46 rfl ?_
    refine W.lloadN C m2_47 rfl ?_
    refine W.lor C m2_48 rfl ?_
    refine W.l2i C m2_49 rfl ?_
    refine W.i2b C m2_50 rfl ?_
    refine W.bastore C m2_51 A7 (i := (p + 1)) hxv1 (by rw [List.length_map, hlbs6]; omega) g0 ?_
    intro h9 W10 A11
    have K12 := K5.wr W10 (Or.inl (List.mem_of_getElem? (i := 0) rfl))
    have A14 := own_set A11
    obtain ⟨bs13, hbs13⟩ : ∃ l : List Int32, l = bs6.set (p + 1) (mk.toInt64 ||| q).toInt32.toInt8.toInt32.toInt8.toInt32 := ⟨_, rfl⟩
    rw [← hbs13] at A14
    have hlbs13 : bs13.length = N := by rw [hbs13, List.length_set]; exact hlbs6
    refine W.goto C m2_52 ?_
    refine W.iload C m2_113 rfl ?_
    refine W.ireturn C m2_115 (hQ _ _ ?_)
    have hfin : bs13 = ((bs.set p (((128 : Int32) ||| op).toInt8.toInt32.toInt8.toInt32)).set (p + 1) ((mk.toInt64 ||| q).toInt32.toInt8.toInt32.toInt8.toInt32)) := by rw [hbs13, hbs6]
    exact ⟨K12, mk, _, _, rfl, A14, hJ18, Or.inl ⟨by omega, by omega, hfin⟩⟩
abbrev y5 : MethodName := ⟨"java/lang/Record", "<init>", "()V"⟩
theorem m5_0 : Ins1 jdk_30_method_1_code 0 (.aload_n 0) 1 1 := ⟨by decide +kernel, rfl⟩
theorem m5_1 : Ins1 jdk_30_method_1_code 1 (.invokespecial 1) 3 4 := ⟨by decide +kernel, rfl⟩
theorem m5_4 : Ins1 jdk_30_method_1_code 4 (.return_) 1 5 := ⟨by decide +kernel, rfl⟩
theorem pl5 : plainFor y5 = true := plainFor_of_name (show plainName "java/lang/Record" = true by first | (simp [plainName, overriddenIn]; done) | decide +kernel)
theorem pd5 : parseMethodDescriptor "()V" = some ⟨[], none⟩ := by decide +kernel
set_option maxRecDepth 65536 in
set_option maxHeartbeats 4000000 in
theorem own_rec (Z : State) (a0 : Array Value) (hw : ∀ d ∈ tables_1, d.before a0 Z = true) (a : Addr)  (h : Heap) (n0 : Nat)  :
    Con Z y5 jdk_30_method_1_code 1 none ({ frames := 1, cells := 0, slots := 0, locals := 12 } : Room) [(.ref a)] h n0 (fun v h' => h = h' ∧ v = none) := by
  refine Con.of pl5 (L := [.val (.ref a)]) (fun m => by first | (simp [entryFrame, mkF, argsToLocals, Value.category]; done) | rfl) ?_
  intro κ Qx hQ C
  refine W.aloadN C m5_0 rfl rfl ?_
  refine W.initO (wt := 0) C m5_1 (hw _ (List.mem_of_getElem? (i := 25) rfl)) (hw _ (List.mem_of_getElem? (i := 26) rfl)) (hw _ (List.mem_of_getElem? (i := 27) rfl)) rfl (by decide) (Nat.le_of_eq rfl) (by decide) ?_
  refine W.vreturn C m5_4 (hQ _ _ ?_)
  exact ⟨rfl, rfl⟩
abbrev y4 : MethodName := ⟨"com/example/hearts_content/heartscontent/websocket/Framing$Header", "<init>", "(ZIZJI)V"⟩
theorem m4_0 : Ins1 prog_27_method_1_code 0 (.aload_n 0) 1 1 := ⟨by decide +kernel, rfl⟩
theorem m4_1 : Ins1 prog_27_method_1_code 1 (.invokespecial 1) 3 4 := ⟨by decide +kernel, rfl⟩
theorem m4_4 : Ins1 prog_27_method_1_code 4 (.aload_n 0) 1 5 := ⟨by decide +kernel, rfl⟩
theorem m4_5 : Ins1 prog_27_method_1_code 5 (.iload_n 1) 1 6 := ⟨by decide +kernel, rfl⟩
theorem m4_6 : Ins1 prog_27_method_1_code 6 (.putfield 7) 3 9 := ⟨by decide +kernel, rfl⟩
theorem m4_9 : Ins1 prog_27_method_1_code 9 (.aload_n 0) 1 10 := ⟨by decide +kernel, rfl⟩
theorem m4_10 : Ins1 prog_27_method_1_code 10 (.iload_n 2) 1 11 := ⟨by decide +kernel, rfl⟩
theorem m4_11 : Ins1 prog_27_method_1_code 11 (.putfield 13) 3 14 := ⟨by decide +kernel, rfl⟩
theorem m4_14 : Ins1 prog_27_method_1_code 14 (.aload_n 0) 1 15 := ⟨by decide +kernel, rfl⟩
theorem m4_15 : Ins1 prog_27_method_1_code 15 (.iload_n 3) 1 16 := ⟨by decide +kernel, rfl⟩
theorem m4_16 : Ins1 prog_27_method_1_code 16 (.putfield 17) 3 19 := ⟨by decide +kernel, rfl⟩
theorem m4_19 : Ins1 prog_27_method_1_code 19 (.aload_n 0) 1 20 := ⟨by decide +kernel, rfl⟩
theorem m4_20 : Ins1 prog_27_method_1_code 20 (.lload 4) 2 22 := ⟨by decide +kernel, rfl⟩
theorem m4_22 : Ins1 prog_27_method_1_code 22 (.putfield 20) 3 25 := ⟨by decide +kernel, rfl⟩
theorem m4_25 : Ins1 prog_27_method_1_code 25 (.aload_n 0) 1 26 := ⟨by decide +kernel, rfl⟩
theorem m4_26 : Ins1 prog_27_method_1_code 26 (.iload 6) 2 28 := ⟨by decide +kernel, rfl⟩
theorem m4_28 : Ins1 prog_27_method_1_code 28 (.putfield 24) 3 31 := ⟨by decide +kernel, rfl⟩
theorem m4_31 : Ins1 prog_27_method_1_code 31 (.return_) 1 32 := ⟨by decide +kernel, rfl⟩
theorem pl4 : plainFor y4 = true := plainFor_of_name (show plainName "com/example/hearts_content/heartscontent/websocket/Framing$Header" = true by first | (simp [plainName, overriddenIn]; done) | decide +kernel)
theorem pd4 : parseMethodDescriptor "(ZIZJI)V" = some ⟨[.boolean, .int, .boolean, .long, .int], none⟩ := by decide +kernel
set_option maxRecDepth 65536 in
set_option maxHeartbeats 4000000 in
theorem own_init (Z : State) (a0 : Array Value) (hw : ∀ d ∈ tables_1, d.before a0 Z = true) (a : Addr) (p0 : Int32) (p1 : Int32) (p2 : Int32) (q3 : Int64) (p4 : Int32)  (h : Heap) (n0 : Nat) (g0 : n0 ≤ a) (E0 : Exa Z h a "com/example/hearts_content/heartscontent/websocket/Framing$Header") (F0 : Fld Z h a "com/example/hearts_content/heartscontent/websocket/Framing$Header" "isFinal" "Z" (.int (0 : Int32))) (F1 : Fld Z h a "com/example/hearts_content/heartscontent/websocket/Framing$Header" "opcode" "I" (.int (0 : Int32))) (F2 : Fld Z h a "com/example/hearts_content/heartscontent/websocket/Framing$Header" "masked" "Z" (.int (0 : Int32))) (F3 : Fld Z h a "com/example/hearts_content/heartscontent/websocket/Framing$Header" "length" "J" (.long (0 : Int64))) (F4 : Fld Z h a "com/example/hearts_content/heartscontent/websocket/Framing$Header" "size" "I" (.int (0 : Int32)))  :
    Con Z y4 prog_27_method_1_code 7 none ({ frames := 2, cells := 0, slots := 0, locals := 24 } : Room) [(.ref a), (.int p0), (.int p1), (.int p2), (.long q3), (.int p4)] h n0 (fun v h' => v = none ∧ Keep h h' [a] ∧ Exa Z h' a "com/example/hearts_content/heartscontent/websocket/Framing$Header" ∧ Fld Z h' a "com/example/hearts_content/heartscontent/websocket/Framing$Header" "isFinal" "Z" (.int (p0 &&& 1)) ∧ Fld Z h' a "com/example/hearts_content/heartscontent/websocket/Framing$Header" "opcode" "I" (.int p1) ∧ Fld Z h' a "com/example/hearts_content/heartscontent/websocket/Framing$Header" "masked" "Z" (.int (p2 &&& 1)) ∧ Fld Z h' a "com/example/hearts_content/heartscontent/websocket/Framing$Header" "length" "J" (.long q3) ∧ Fld Z h' a "com/example/hearts_content/heartscontent/websocket/Framing$Header" "size" "I" (.int p4)) := by
  refine Con.of pl4 (L := [.val (.ref a), .val (.int p0), .val (.int p1), .val (.int p2), .val (.long q3), .second, .val (.int p4)]) (fun m => by first | (simp [entryFrame, mkF, argsToLocals, Value.category]; done) | rfl) ?_
  intro κ Qx hQ C
  have K0 := Keep.refl h [a]
  refine W.aloadN C m4_0 rfl rfl ?_
  refine W.callC (y := y5) (wt := 0) C m4_1 rfl (hw _ (List.mem_of_getElem? (i := 20) rfl)) (hw _ (List.mem_of_getElem? (i := 21) rfl)) (hw _ (List.mem_of_getElem? (i := 23) rfl)) (hw _ (List.mem_of_getElem? (i := 24) rfl)) (by decide) pd5 rfl (own_rec Z a0 hw a h n0) (a := a) (as' := []) (rest := []) rfl rfl (Nat.le_of_eq rfl) (by decide) (by decide) (by decide) (by decide) ?_
  intro ir3 ih1 iq2
  obtain ⟨rfl, rfl⟩ := iq2
  show W κ n0 Qx h 0 0 4 [.val (.ref a), .val (.int p0), .val (.int p1), .val (.int p2), .val (.long q3), .second, .val (.int p4)] []
  refine W.aloadN C m4_4 rfl rfl ?_
  refine W.iloadN C m4_5 rfl ?_
  refine W.putfieldN C m4_6 (hw _ (List.mem_of_getElem? (i := 28) rfl)) Via.refl F0 E0 (Or.inr ⟨(hw _ (List.mem_of_getElem? (i := 29) rfl)), rfl, rfl⟩) (hw _ (List.mem_of_getElem? (i := 15) rfl)) (ty := .boolean) (by decide) rfl (fits_nar_bool _) g0 ?_
  intro ih4 iW5 iF6
  have iE7 := E0.wr iW5
  have iF8 := F1.other iW5 (Or.inr (slot_ne (a0 := a0) (Or.inr (hw _ (List.mem_of_getElem? (i := 31) rfl))) (Or.inr (hw _ (List.mem_of_getElem? (i := 29) rfl))) (by decide) (t := .int) (t' := .boolean) (by decide) (by decide)))
  have iF9 := F2.other iW5 (Or.inr (slot_ne (a0 := a0) (Or.inr (hw _ (List.mem_of_getElem? (i := 33) rfl))) (Or.inr (hw _ (List.mem_of_getElem? (i := 29) rfl))) (by decide) (t := .boolean) (t' := .boolean) (by decide) (by decide)))
  have iF10 := F3.other iW5 (Or.inr (slot_ne (a0 := a0) (Or.inr (hw _ (List.mem_of_getElem? (i := 35) rfl))) (Or.inr (hw _ (List.mem_of_getElem? (i := 29) rfl))) (by decide) (t := .long) (t' := .boolean) (by decide) (by decide)))
  have iF11 := F4.other iW5 (Or.inr (slot_ne (a0 := a0) (Or.inr (hw _ (List.mem_of_getElem? (i := 37) rfl))) (Or.inr (hw _ (List.mem_of_getElem? (i := 29) rfl))) (by decide) (t := .int) (t' := .boolean) (by decide) (by decide)))
  have iK12 := K0.wr iW5 (Or.inl (List.mem_of_getElem? (i := 0) rfl))
  refine W.aloadN C m4_9 rfl rfl ?_
  refine W.iloadN C m4_10 rfl ?_
  refine W.putfield C m4_11 (host := "") (Or.inl (hw _ (List.mem_of_getElem? (i := 30) rfl))) Via.refl iF8 iE7 (Or.inr ⟨(hw _ (List.mem_of_getElem? (i := 31) rfl)), rfl, rfl⟩) (hw _ (List.mem_of_getElem? (i := 15) rfl)) (ty := .int) (by decide) rfl rfl g0 ?_
  intro ih13 iW14 iF15
  have iE16 := iE7.wr iW14
  have iF17 := iF6.other iW14 (Or.inr (slot_ne (a0 := a0) (Or.inr (hw _ (List.mem_of_getElem? (i := 29) rfl))) (Or.inr (hw _ (List.mem_of_getElem? (i := 31) rfl))) (by decide) (t := .boolean) (t' := .int) (by decide) (by decide)))
  have iF18 := iF9.other iW14 (Or.inr (slot_ne (a0 := a0) (Or.inr (hw _ (List.mem_of_getElem? (i := 33) rfl))) (Or.inr (hw _ (List.mem_of_getElem? (i := 31) rfl))) (by decide) (t := .boolean) (t' := .int) (by decide) (by decide)))
  have iF19 := iF10.other iW14 (Or.inr (slot_ne (a0 := a0) (Or.inr (hw _ (List.mem_of_getElem? (i := 35) rfl))) (Or.inr (hw _ (List.mem_of_getElem? (i := 31) rfl))) (by decide) (t := .long) (t' := .int) (by decide) (by decide)))
  have iF20 := iF11.other iW14 (Or.inr (slot_ne (a0 := a0) (Or.inr (hw _ (List.mem_of_getElem? (i := 37) rfl))) (Or.inr (hw _ (List.mem_of_getElem? (i := 31) rfl))) (by decide) (t := .int) (t' := .int) (by decide) (by decide)))
  have iK21 := iK12.wr iW14 (Or.inl (List.mem_of_getElem? (i := 0) rfl))
  refine W.aloadN C m4_14 rfl rfl ?_
  refine W.iloadN C m4_15 rfl ?_
  refine W.putfieldN C m4_16 (hw _ (List.mem_of_getElem? (i := 32) rfl)) Via.refl iF18 iE16 (Or.inr ⟨(hw _ (List.mem_of_getElem? (i := 33) rfl)), rfl, rfl⟩) (hw _ (List.mem_of_getElem? (i := 15) rfl)) (ty := .boolean) (by decide) rfl (fits_nar_bool _) g0 ?_
  intro ih22 iW23 iF24
  have iE25 := iE16.wr iW23
  have iF26 := iF17.other iW23 (Or.inr (slot_ne (a0 := a0) (Or.inr (hw _ (List.mem_of_getElem? (i := 29) rfl))) (Or.inr (hw _ (List.mem_of_getElem? (i := 33) rfl))) (by decide) (t := .boolean) (t' := .boolean) (by decide) (by decide)))
  have iF27 := iF15.other iW23 (Or.inr (slot_ne (a0 := a0) (Or.inr (hw _ (List.mem_of_getElem? (i := 31) rfl))) (Or.inr (hw _ (List.mem_of_getElem? (i := 33) rfl))) (by decide) (t := .int) (t' := .boolean) (by decide) (by decide)))
  have iF28 := iF19.other iW23 (Or.inr (slot_ne (a0 := a0) (Or.inr (hw _ (List.mem_of_getElem? (i := 35) rfl))) (Or.inr (hw _ (List.mem_of_getElem? (i := 33) rfl))) (by decide) (t := .long) (t' := .boolean) (by decide) (by decide)))
  have iF29 := iF20.other iW23 (Or.inr (slot_ne (a0 := a0) (Or.inr (hw _ (List.mem_of_getElem? (i := 37) rfl))) (Or.inr (hw _ (List.mem_of_getElem? (i := 33) rfl))) (by decide) (t := .int) (t' := .boolean) (by decide) (by decide)))
  have iK30 := iK21.wr iW23 (Or.inl (List.mem_of_getElem? (i := 0) rfl))
  refine W.aloadN C m4_19 rfl rfl ?_
  refine W.lload C m4_20 rfl ?_
  refine W.putfield C m4_22 (host := "") (Or.inl (hw _ (List.mem_of_getElem? (i := 34) rfl))) Via.refl iF28 iE25 (Or.inr ⟨(hw _ (List.mem_of_getElem? (i := 35) rfl)), rfl, rfl⟩) (hw _ (List.mem_of_getElem? (i := 15) rfl)) (ty := .long) (by decide) rfl rfl g0 ?_
  intro ih31 iW32 iF33
  have iE34 := iE25.wr iW32
  have iF35 := iF26.other iW32 (Or.inr (slot_ne (a0 := a0) (Or.inr (hw _ (List.mem_of_getElem? (i := 29) rfl))) (Or.inr (hw _ (List.mem_of_getElem? (i := 35) rfl))) (by decide) (t := .boolean) (t' := .long) (by decide) (by decide)))
  have iF36 := iF27.other iW32 (Or.inr (slot_ne (a0 := a0) (Or.inr (hw _ (List.mem_of_getElem? (i := 31) rfl))) (Or.inr (hw _ (List.mem_of_getElem? (i := 35) rfl))) (by decide) (t := .int) (t' := .long) (by decide) (by decide)))
  have iF37 := iF24.other iW32 (Or.inr (slot_ne (a0 := a0) (Or.inr (hw _ (List.mem_of_getElem? (i := 33) rfl))) (Or.inr (hw _ (List.mem_of_getElem? (i := 35) rfl))) (by decide) (t := .boolean) (t' := .long) (by decide) (by decide)))
  have iF38 := iF29.other iW32 (Or.inr (slot_ne (a0 := a0) (Or.inr (hw _ (List.mem_of_getElem? (i := 37) rfl))) (Or.inr (hw _ (List.mem_of_getElem? (i := 35) rfl))) (by decide) (t := .int) (t' := .long) (by decide) (by decide)))
  have iK39 := iK30.wr iW32 (Or.inl (List.mem_of_getElem? (i := 0) rfl))
  refine W.aloadN C m4_25 rfl rfl ?_
  refine W.iload C m4_26 rfl ?_
  refine W.putfield C m4_28 (host := "") (Or.inl (hw _ (List.mem_of_getElem? (i := 36) rfl))) Via.refl iF38 iE34 (Or.inr ⟨(hw _ (List.mem_of_getElem? (i := 37) rfl)), rfl, rfl⟩) (hw _ (List.mem_of_getElem? (i := 15) rfl)) (ty := .int) (by decide) rfl rfl g0 ?_
  intro ih40 iW41 iF42
  have iE43 := iE34.wr iW41
  have iF44 := iF35.other iW41 (Or.inr (slot_ne (a0 := a0) (Or.inr (hw _ (List.mem_of_getElem? (i := 29) rfl))) (Or.inr (hw _ (List.mem_of_getElem? (i := 37) rfl))) (by decide) (t := .boolean) (t' := .int) (by decide) (by decide)))
  have iF45 := iF36.other iW41 (Or.inr (slot_ne (a0 := a0) (Or.inr (hw _ (List.mem_of_getElem? (i := 31) rfl))) (Or.inr (hw _ (List.mem_of_getElem? (i := 37) rfl))) (by decide) (t := .int) (t' := .int) (by decide) (by decide)))
  have iF46 := iF37.other iW41 (Or.inr (slot_ne (a0 := a0) (Or.inr (hw _ (List.mem_of_getElem? (i := 33) rfl))) (Or.inr (hw _ (List.mem_of_getElem? (i := 37) rfl))) (by decide) (t := .boolean) (t' := .int) (by decide) (by decide)))
  have iF47 := iF33.other iW41 (Or.inr (slot_ne (a0 := a0) (Or.inr (hw _ (List.mem_of_getElem? (i := 35) rfl))) (Or.inr (hw _ (List.mem_of_getElem? (i := 37) rfl))) (by decide) (t := .long) (t' := .int) (by decide) (by decide)))
  have iK48 := iK39.wr iW41 (Or.inl (List.mem_of_getElem? (i := 0) rfl))
  refine W.vreturn C m4_31 (hQ _ _ ?_)
  exact ⟨rfl, iK48, iE43, iF44, iF45, iF46, iF47, iF42⟩
abbrev y7 : MethodName := ⟨"com/example/hearts_content/heartscontent/websocket/Framing$Header", "size", "()I"⟩
theorem m7_0 : Ins1 prog_27_method_9_code 0 (.aload_n 0) 1 1 := ⟨by decide +kernel, rfl⟩
theorem m7_1 : Ins1 prog_27_method_9_code 1 (.getfield 24) 3 4 := ⟨by decide +kernel, rfl⟩
theorem m7_4 : Ins1 prog_27_method_9_code 4 (.ireturn) 1 5 := ⟨by decide +kernel, rfl⟩
theorem pl7 : plainFor y7 = true := plainFor_of_name (show plainName "com/example/hearts_content/heartscontent/websocket/Framing$Header" = true by first | (simp [plainName, overriddenIn]; done) | decide +kernel)
theorem pd7 : parseMethodDescriptor "()I" = some ⟨[], some .int⟩ := by decide +kernel
set_option maxRecDepth 65536 in
set_option maxHeartbeats 4000000 in
theorem own_size (Z : State) (a0 : Array Value) (hw : ∀ d ∈ tables_1, d.before a0 Z = true) (a : Addr) (f : Int32) (h : Heap) (n0 : Nat) (F0 : Fld Z h a "com/example/hearts_content/heartscontent/websocket/Framing$Header" "size" "I" (.int f)) :
    Con Z y7 prog_27_method_9_code 1 (some .int) ({ frames := 0, cells := 0, slots := 0, locals := 0 } : Room) [(.ref a)] h n0 (fun v h' => h = h' ∧ v = some (.int f)) := by
  refine Con.of pl7 (L := [.val (.ref a)]) (fun m => by first | (simp [entryFrame, mkF, argsToLocals, Value.category]; done) | rfl) ?_
  intro κ Qx hQ C
  refine W.aloadN C m7_0 rfl rfl ?_
  refine W.getfield C m7_1 (host := "") (Or.inl (hw _ (List.mem_of_getElem? (i := 36) rfl))) Via.refl F0 ?_
  refine W.ireturn C m7_4 (hQ _ _ ?_)
  exact ⟨rfl, rfl⟩
abbrev y8 : MethodName := ⟨"com/example/hearts_content/heartscontent/websocket/Framing$Header", "length", "()J"⟩
theorem m8_0 : Ins1 prog_27_method_8_code 0 (.aload_n 0) 1 1 := ⟨by decide +kernel, rfl⟩
theorem m8_1 : Ins1 prog_27_method_8_code 1 (.getfield 20) 3 4 := ⟨by decide +kernel, rfl⟩
theorem m8_4 : Ins1 prog_27_method_8_code 4 (.lreturn) 1 5 := ⟨by decide +kernel, rfl⟩
theorem pl8 : plainFor y8 = true := plainFor_of_name (show plainName "com/example/hearts_content/heartscontent/websocket/Framing$Header" = true by first | (simp [plainName, overriddenIn]; done) | decide +kernel)
theorem pd8 : parseMethodDescriptor "()J" = some ⟨[], some .long⟩ := by decide +kernel
set_option maxRecDepth 65536 in
set_option maxHeartbeats 4000000 in
theorem own_length (Z : State) (a0 : Array Value) (hw : ∀ d ∈ tables_1, d.before a0 Z = true) (a : Addr) (f : Int64) (h : Heap) (n0 : Nat) (F0 : Fld Z h a "com/example/hearts_content/heartscontent/websocket/Framing$Header" "length" "J" (.long f)) :
    Con Z y8 prog_27_method_8_code 1 (some .long) ({ frames := 0, cells := 0, slots := 0, locals := 0 } : Room) [(.ref a)] h n0 (fun v h' => h = h' ∧ v = some (.long f)) := by
  refine Con.of pl8 (L := [.val (.ref a)]) (fun m => by first | (simp [entryFrame, mkF, argsToLocals, Value.category]; done) | rfl) ?_
  intro κ Qx hQ C
  refine W.aloadN C m8_0 rfl rfl ?_
  refine W.getfield C m8_1 (host := "") (Or.inl (hw _ (List.mem_of_getElem? (i := 34) rfl))) Via.refl F0 ?_
  refine W.lreturn C m8_4 (hQ _ _ ?_)
  exact ⟨rfl, rfl⟩
abbrev y9 : MethodName := ⟨"com/example/hearts_content/heartscontent/websocket/Framing$Header", "masked", "()Z"⟩
theorem m9_0 : Ins1 prog_27_method_7_code 0 (.aload_n 0) 1 1 := ⟨by decide +kernel, rfl⟩
theorem m9_1 : Ins1 prog_27_method_7_code 1 (.getfield 17) 3 4 := ⟨by decide +kernel, rfl⟩
theorem m9_4 : Ins1 prog_27_method_7_code 4 (.ireturn) 1 5 := ⟨by decide +kernel, rfl⟩
theorem pl9 : plainFor y9 = true := plainFor_of_name (show plainName "com/example/hearts_content/heartscontent/websocket/Framing$Header" = true by first | (simp [plainName, overriddenIn]; done) | decide +kernel)
theorem pd9 : parseMethodDescriptor "()Z" = some ⟨[], some .boolean⟩ := by decide +kernel
set_option maxRecDepth 65536 in
set_option maxHeartbeats 4000000 in
theorem own_masked (Z : State) (a0 : Array Value) (hw : ∀ d ∈ tables_1, d.before a0 Z = true) (a : Addr) (f : Int32) (h : Heap) (n0 : Nat) (F0 : Fld Z h a "com/example/hearts_content/heartscontent/websocket/Framing$Header" "masked" "Z" (.int f)) :
    Con Z y9 prog_27_method_7_code 1 (some .boolean) ({ frames := 0, cells := 0, slots := 0, locals := 0 } : Room) [(.ref a)] h n0 (fun v h' => h = h' ∧ v = some (.int (f &&& 1))) := by
  refine Con.of pl9 (L := [.val (.ref a)]) (fun m => by first | (simp [entryFrame, mkF, argsToLocals, Value.category]; done) | rfl) ?_
  intro κ Qx hQ C
  refine W.aloadN C m9_0 rfl rfl ?_
  refine W.getfield C m9_1 (host := "") (Or.inl (hw _ (List.mem_of_getElem? (i := 32) rfl))) Via.refl F0 ?_
  refine W.zreturn C m9_4 (hQ _ _ ?_)
  exact ⟨rfl, rfl⟩
abbrev y1 : MethodName := ⟨"com/example/hearts_content/heartscontent/websocket/Framing", "headerLength", "(JZ)I"⟩
theorem m1_0 : Ins1 prog_26_method_2_code 0 (.lload_n 0) 1 1 := ⟨by decide +kernel, rfl⟩
theorem m1_1 : Ins1 prog_26_method_2_code 1 (.ldc2_w 9) 3 4 := ⟨by decide +kernel, rfl⟩
theorem m1_4 : Ins1 prog_26_method_2_code 4 (.lcmp) 1 5 := ⟨by decide +kernel, rfl⟩
theorem m1_5 : Jmp1 prog_26_method_2_code 5 (.ifCond .gt 8) 8 8 13 := ⟨by decide +kernel, rfl, by decide, by decide⟩
theorem m1_8 : Ins1 prog_26_method_2_code 8 (.iconst 2) 1 9 := ⟨by decide +kernel, rfl⟩
theorem m1_9 : Ins1 prog_26_method_2_code 9 (.istore_n 3) 1 10 := ⟨by decide +kernel, rfl⟩
theorem m1_10 : Jmp1 prog_26_method_2_code 10 (.goto 19) 19 13 29 := ⟨by decide +kernel, rfl, by decide, by decide⟩
theorem m1_13 : Ins1 prog_26_method_2_code 13 (.lload_n 0) 1 14 := ⟨by decide +kernel, rfl⟩
theorem m1_14 : Ins1 prog_26_method_2_code 14 (.ldc2_w 11) 3 17 := ⟨by decide +kernel, rfl⟩
theorem m1_17 : Ins1 prog_26_method_2_code 17 (.lcmp) 1 18 := ⟨by decide +kernel, rfl⟩
theorem m1_18 : Jmp1 prog_26_method_2_code 18 (.ifCond .gt 8) 8 21 26 := ⟨by decide +kernel, rfl, by decide, by decide⟩
theorem m1_21 : Ins1 prog_26_method_2_code 21 (.iconst 4) 1 22 := ⟨by decide +kernel, rfl⟩
theorem m1_22 : Ins1 prog_26_method_2_code 22 (.istore_n 3) 1 23 := ⟨by decide +kernel, rfl⟩
theorem m1_23 : Jmp1 prog_26_method_2_code 23 (.goto 6) 6 26 29 := ⟨by decide +kernel, rfl, by decide, by decide⟩
theorem m1_26 : Ins1 prog_26_method_2_code 26 (.bipush 10) 2 28 := ⟨by decide +kernel, rfl⟩
theorem m1_28 : Ins1 prog_26_method_2_code 28 (.istore_n 3) 1 29 := ⟨by decide +kernel, rfl⟩
theorem m1_29 : Ins1 prog_26_method_2_code 29 (.iload_n 2) 1 30 := ⟨by decide +kernel, rfl⟩
theorem m1_30 : Jmp1 prog_26_method_2_code 30 (.ifCond .eq 9) 9 33 39 := ⟨by decide +kernel, rfl, by decide, by decide⟩
theorem m1_33 : Ins1 prog_26_method_2_code 33 (.iload_n 3) 1 34 := ⟨by decide +kernel, rfl⟩
theorem m1_34 : Ins1 prog_26_method_2_code 34 (.iconst 4) 1 35 := ⟨by decide +kernel, rfl⟩
theorem m1_35 : Ins1 prog_26_method_2_code 35 (.iadd) 1 36 := ⟨by decide +kernel, rfl⟩
theorem m1_36 : Jmp1 prog_26_method_2_code 36 (.goto 4) 4 39 40 := ⟨by decide +kernel, rfl, by decide, by decide⟩
theorem m1_39 : Ins1 prog_26_method_2_code 39 (.iload_n 3) 1 40 := ⟨by decide +kernel, rfl⟩
theorem m1_40 : Ins1 prog_26_method_2_code 40 (.ireturn) 1 41 := ⟨by decide +kernel, rfl⟩
theorem pl1 : plainFor y1 = true := plainFor_of_name (show plainName "com/example/hearts_content/heartscontent/websocket/Framing" = true by first | (simp [plainName, overriddenIn]; done) | decide +kernel)
theorem pd1 : parseMethodDescriptor "(JZ)I" = some ⟨[.long, .boolean], some .int⟩ := by decide +kernel
set_option maxRecDepth 65536 in
set_option maxHeartbeats 4000000 in
theorem own_hl (Z : State) (a0 : Array Value) (hw : ∀ d ∈ tables_1, d.before a0 Z = true) (q : Int64) (z : Int32) (e : Int) (h : Heap) (n0 : Nat) (he : (z.toInt = 0 ∧ e = 0) ∨ (¬ z.toInt = 0 ∧ e = 4)) :
    Con Z y1 prog_26_method_2_code 4 (some .int) ({ frames := 0, cells := 0, slots := 0, locals := 0 } : Room) [(.long q), (.int z)] h n0 (fun v h' => h = h' ∧ ∃ r : Int32, v = some (.int r) ∧ ((q.toInt ≤ 125 ∧ r.toInt = 2 + e) ∨ (125 < q.toInt ∧ q.toInt ≤ 65535 ∧ r.toInt = 4 + e) ∨ (65535 < q.toInt ∧ r.toInt = 10 + e))) := by
  refine Con.of pl1 (L := [.val (.long q), .second, .val (.int z), .unset]) (fun m => by first | (simp [entryFrame, mkF, argsToLocals, Value.category]; done) | rfl) ?_
  intro κ Qx hQ C
  refine W.lloadN C m1_0 rfl ?_
  refine W.ldc2 C m1_1 (hw _ (List.mem_of_getElem? (i := 6) rfl)) ?_
  refine W.lc C m1_4 m1_5 ?_ ?_
  · intro (h4 : (125 : Int) < q.toInt)
    refine W.lloadN C m1_13 rfl ?_
    refine W.ldc2 C m1_14 (hw _ (List.mem_of_getElem? (i := 54) rfl)) ?_
    refine W.lc C m1_17 m1_18 ?_ ?_
    · intro (h17 : (65535 : Int) < q.toInt)
      refine W.bipush C m1_26 (z := (10 : Int32)) rfl ?_
      refine W.istoreN C m1_28 (L' := [.val (.long q), .second, .val (.int z), .val (.int (10 : Int32))]) rfl ?_
      refine W.iloadN C m1_29 rfl ?_
      refine W.ifc C m1_30 ?_ ?_
      · intro (h30 : z.toInt = (0 : Int))
        refine W.iloadN C m1_39 rfl ?_
        refine W.ireturn C m1_40 (hQ _ _ ?_)
        have e1 : (10 : Int32).toInt = 10 := rfl
        exact ⟨rfl, _, rfl, by omega⟩
      · intro (h30 : ¬ (z.toInt = (0 : Int)))
        refine W.iloadN C m1_33 rfl ?_
        refine W.iconst C m1_34 (z := (4 : Int32)) rfl ?_
        refine W.iadd C m1_35 (z := (14 : Int32)) rfl ?_
        refine W.goto C m1_36 ?_
        refine W.ireturn C m1_40 (hQ _ _ ?_)
        have e1 : (14 : Int32).toInt = 14 := rfl
        exact ⟨rfl, _, rfl, by omega⟩
    · intro (h17 : ¬ ((65535 : Int) < q.toInt))
      replace h17 : q.toInt ≤ (65535 : Int) := by omega
      refine W.iconst C m1_21 (z := (4 : Int32)) rfl ?_
      refine W.istoreN C m1_22 (L' := [.val (.long q), .second, .val (.int z), .val (.int (4 : Int32))]) rfl ?_
      refine W.goto C m1_23 ?_
      refine W.iloadN C m1_29 rfl ?_
      refine W.ifc C m1_30 ?_ ?_
      · intro (h30 : z.toInt = (0 : Int))
        refine W.iloadN C m1_39 rfl ?_
        refine W.ireturn C m1_40 (hQ _ _ ?_)
        have e1 : (4 : Int32).toInt = 4 := rfl
        exact ⟨rfl, _, rfl, by omega⟩
      · intro (h30 : ¬ (z.toInt = (0 : Int)))
        refine W.iloadN C m1_33 rfl ?_
        refine W.iconst C m1_34 (z := (4 : Int32)) rfl ?_
        refine W.iadd C m1_35 (z := (8 : Int32)) rfl ?_
        refine W.goto C m1_36 ?_
        refine W.ireturn C m1_40 (hQ _ _ ?_)
        have e1 : (8 : Int32).toInt = 8 := rfl
        exact ⟨rfl, _, rfl, by omega⟩
  · intro (h4 : ¬ ((125 : Int) < q.toInt))
    replace h4 : q.toInt ≤ (125 : Int) := by omega
    refine W.iconst C m1_8 (z := (2 : Int32)) rfl ?_
    refine W.istoreN C m1_9 (L' := [.val (.long q), .second, .val (.int z), .val (.int (2 : Int32))]) rfl ?_
    refine W.goto C m1_10 ?_
    refine W.iloadN C m1_29 rfl ?_
    refine W.ifc C m1_30 ?_ ?_
    · intro (h30 : z.toInt = (0 : Int))
      refine W.iloadN C m1_39 rfl ?_
      refine W.ireturn C m1_40 (hQ _ _ ?_)
      have e1 : (2 : Int32).toInt = 2 := rfl
      exact ⟨rfl, _, rfl, by omega⟩
    · intro (h30 : ¬ (z.toInt = (0 : Int)))
      refine W.iloadN C m1_33 rfl ?_
      refine W.iconst C m1_34 (z := (4 : Int32)) rfl ?_
      refine W.iadd C m1_35 (z := (6 : Int32)) rfl ?_
      refine W.goto C m1_36 ?_
      refine W.ireturn C m1_40 (hQ _ _ ?_)
      have e1 : (6 : Int32).toInt = 6 := rfl
      exact ⟨rfl, _, rfl, by omega⟩
theorem own_128 : ∀ n, n < 256 → ((Int32.ofNat n &&& (128 : Int32)).toInt = 0 ↔ n < 128) := by decide +kernel
theorem own_127 {n : Nat} (h : n < 256) : (Int32.ofNat n &&& (127 : Int32)).toInt = ((n % 128 : Nat) : Int) := by
  have e := c_mask (Int32.ofNat n) (127 : Int32) 7 (by decide) (by decide)
  rw [ofNat_toInt (by omega)] at e
  omega
theorem own_acc {x L : Int64} {b : Int32} (hb : 0 ≤ b.toInt ∧ b.toInt ≤ 255) (hx : 0 ≤ x.toInt ∧ x.toInt ≤ 36028797018963967) (h : (x <<< ((8 : Int32) &&& 0x3f).toInt64) ||| b.toInt64 = L) : L.toInt = x.toInt * 256 + b.toInt := by
  subst h
  have e1 := c_lshl x (8 : Int32) 8 (by decide)
  have e2 := rng64 (x <<< ((8 : Int32) &&& 0x3f).toInt64)
  have e3 := c_i2l b
  have e4 := c_orL (x <<< ((8 : Int32) &&& 0x3f).toInt64) b.toInt64 8 (by decide) 256 rfl (by omega) (by omega) (by omega)
  have e5 := rng64 ((x <<< ((8 : Int32) &&& 0x3f).toInt64) ||| b.toInt64)
  omega
theorem own_255 (x : Int32) : 0 ≤ (x &&& (255 : Int32)).toInt ∧ (x &&& (255 : Int32)).toInt ≤ 255 := by
  have e := c_mask x (255 : Int32) 8 (by decide) (by decide)
  omega
abbrev y3 : MethodName := ⟨"com/example/hearts_content/heartscontent/websocket/Framing", "readHeader", "([BII)Lcom/example/hearts_content/heartscontent/websocket/Framing$Header;"⟩
theorem m3_0 : Ins1 prog_26_method_6_code 0 (.iload_n 2) 1 1 := ⟨by decide +kernel, rfl⟩
theorem m3_1 : Ins1 prog_26_method_6_code 1 (.iload_n 1) 1 2 := ⟨by decide +kernel, rfl⟩
theorem m3_2 : Ins1 prog_26_method_6_code 2 (.isub) 1 3 := ⟨by decide +kernel, rfl⟩
theorem m3_3 : Ins1 prog_26_method_6_code 3 (.iconst 2) 1 4 := ⟨by decide +kernel, rfl⟩
theorem m3_4 : Jmp1 prog_26_method_6_code 4 (.if_icmp .ge 5) 5 7 9 := ⟨by decide +kernel, rfl, by decide, by decide⟩
theorem m3_9 : Ins1 prog_26_method_6_code 9 (.aload_n 0) 1 10 := ⟨by decide +kernel, rfl⟩
theorem m3_10 : Ins1 prog_26_method_6_code 10 (.iload_n 1) 1 11 := ⟨by decide +kernel, rfl⟩
theorem m3_11 : Ins1 prog_26_method_6_code 11 (.baload) 1 12 := ⟨by decide +kernel, rfl⟩
theorem m3_12 : Ins1 prog_26_method_6_code 12 (.sipush 255) 3 15 := ⟨by decide +kernel, rfl⟩
theorem m3_15 : Ins1 prog_26_method_6_code 15 (.iand) 1 16 := ⟨by decide +kernel, rfl⟩
theorem m3_16 : Ins1 prog_26_method_6_code 16 (.istore_n 3) 1 17 := ⟨by decide +kernel, rfl⟩
theorem m3_17 : Ins1 prog_26_method_6_code 17 (.aload_n 0) 1 18 := ⟨by decide +kernel, rfl⟩
theorem m3_18 : Ins1 prog_26_method_6_code 18 (.iload_n 1) 1 19 := ⟨by decide +kernel, rfl⟩
theorem m3_19 : Ins1 prog_26_method_6_code 19 (.iconst 1) 1 20 := ⟨by decide +kernel, rfl⟩
theorem m3_20 : Ins1 prog_26_method_6_code 20 (.iadd) 1 21 := ⟨by decide +kernel, rfl⟩
theorem m3_21 : Ins1 prog_26_method_6_code 21 (.baload) 1 22 := ⟨by decide +kernel, rfl⟩
theorem m3_22 : Ins1 prog_26_method_6_code 22 (.sipush 255) 3 25 := ⟨by decide +kernel, rfl⟩
theorem m3_25 : Ins1 prog_26_method_6_code 25 (.iand) 1 26 := ⟨by decide +kernel, rfl⟩
theorem m3_26 : Ins1 prog_26_method_6_code 26 (.istore 4) 2 28 := ⟨by decide +kernel, rfl⟩
theorem m3_28 : Ins1 prog_26_method_6_code 28 (.iload 4) 2 30 := ⟨by decide +kernel, rfl⟩
theorem m3_30 : Ins1 prog_26_method_6_code 30 (.sipush 128) 3 33 := ⟨by decide +kernel, rfl⟩
theorem m3_33 : Ins1 prog_26_method_6_code 33 (.iand) 1 34 := ⟨by decide +kernel, rfl⟩
theorem m3_34 : Jmp1 prog_26_method_6_code 34 (.ifCond .eq 7) 7 37 41 := ⟨by decide +kernel, rfl, by decide, by decide⟩
theorem m3_37 : Ins1 prog_26_method_6_code 37 (.iconst 1) 1 38 := ⟨by decide +kernel, rfl⟩
theorem m3_38 : Jmp1 prog_26_method_6_code 38 (.goto 4) 4 41 42 := ⟨by decide +kernel, rfl, by decide, by decide⟩
theorem m3_41 : Ins1 prog_26_method_6_code 41 (.iconst 0) 1 42 := ⟨by decide +kernel, rfl⟩
theorem m3_42 : Ins1 prog_26_method_6_code 42 (.istore 5) 2 44 := ⟨by decide +kernel, rfl⟩
theorem m3_44 : Ins1 prog_26_method_6_code 44 (.iload 4) 2 46 := ⟨by decide +kernel, rfl⟩
theorem m3_46 : Ins1 prog_26_method_6_code 46 (.bipush 127) 2 48 := ⟨by decide +kernel, rfl⟩
theorem m3_48 : Ins1 prog_26_method_6_code 48 (.iand) 1 49 := ⟨by decide +kernel, rfl⟩
theorem m3_49 : Ins1 prog_26_method_6_code 49 (.istore 6) 2 51 := ⟨by decide +kernel, rfl⟩
theorem m3_51 : Ins1 prog_26_method_6_code 51 (.iload 6) 2 53 := ⟨by decide +kernel, rfl⟩
theorem m3_53 : Ins1 prog_26_method_6_code 53 (.bipush 126) 2 55 := ⟨by decide +kernel, rfl⟩
theorem m3_55 : Jmp1 prog_26_method_6_code 55 (.if_icmp .ne 9) 9 58 64 := ⟨by decide +kernel, rfl, by decide, by decide⟩
theorem m3_64 : Ins1 prog_26_method_6_code 64 (.iload 6) 2 66 := ⟨by decide +kernel, rfl⟩
theorem m3_66 : Ins1 prog_26_method_6_code 66 (.bipush 127) 2 68 := ⟨by decide +kernel, rfl⟩
theorem m3_68 : Jmp1 prog_26_method_6_code 68 (.if_icmp .ne 10) 10 71 78 := ⟨by decide +kernel, rfl, by decide, by decide⟩
theorem m3_78 : Ins1 prog_26_method_6_code 78 (.iconst 0) 1 79 := ⟨by decide +kernel, rfl⟩
theorem m3_79 : Ins1 prog_26_method_6_code 79 (.istore 7) 2 81 := ⟨by decide +kernel, rfl⟩
theorem m3_81 : Ins1 prog_26_method_6_code 81 (.iconst 2) 1 82 := ⟨by decide +kernel, rfl⟩
theorem m3_82 : Ins1 prog_26_method_6_code 82 (.iload 7) 2 84 := ⟨by decide +kernel, rfl⟩
theorem m3_84 : Ins1 prog_26_method_6_code 84 (.iadd) 1 85 := ⟨by decide +kernel, rfl⟩
theorem m3_85 : Ins1 prog_26_method_6_code 85 (.iload 5) 2 87 := ⟨by decide +kernel, rfl⟩
theorem m3_87 : Jmp1 prog_26_method_6_code 87 (.ifCond .eq 7) 7 90 94 := ⟨by decide +kernel, rfl, by decide, by decide⟩
theorem m3_90 : Ins1 prog_26_method_6_code 90 (.iconst 4) 1 91 := ⟨by decide +kernel, rfl⟩
theorem m3_91 : Jmp1 prog_26_method_6_code 91 (.goto 4) 4 94 95 := ⟨by decide +kernel, rfl, by decide, by decide⟩
theorem m3_94 : Ins1 prog_26_method_6_code 94 (.iconst 0) 1 95 := ⟨by decide +kernel, rfl⟩
theorem m3_95 : Ins1 prog_26_method_6_code 95 (.iadd) 1 96 := ⟨by decide +kernel, rfl⟩
theorem m3_96 : Ins1 prog_26_method_6_code 96 (.istore 8) 2 98 := ⟨by decide +kernel, rfl⟩
theorem m3_98 : Ins1 prog_26_method_6_code 98 (.iload_n 2) 1 99 := ⟨by decide +kernel, rfl⟩
theorem m3_99 : Ins1 prog_26_method_6_code 99 (.iload_n 1) 1 100 := ⟨by decide +kernel, rfl⟩
theorem m3_100 : Ins1 prog_26_method_6_code 100 (.isub) 1 101 := ⟨by decide +kernel, rfl⟩
theorem m3_101 : Ins1 prog_26_method_6_code 101 (.iload 8) 2 103 := ⟨by decide +kernel, rfl⟩
theorem m3_103 : Jmp1 prog_26_method_6_code 103 (.if_icmp .ge 5) 5 106 108 := ⟨by decide +kernel, rfl, by decide, by decide⟩
theorem m3_108 : Ins1 prog_26_method_6_code 108 (.iload 7) 2 110 := ⟨by decide +kernel, rfl⟩
theorem m3_110 : Jmp1 prog_26_method_6_code 110 (.ifCond .ne 9) 9 113 119 := ⟨by decide +kernel, rfl, by decide, by decide⟩
theorem m3_113 : Ins1 prog_26_method_6_code 113 (.iload 6) 2 115 := ⟨by decide +kernel, rfl⟩
theorem m3_115 : Ins1 prog_26_method_6_code 115 (.i2l) 1 116 := ⟨by decide +kernel, rfl⟩
theorem m3_116 : Jmp1 prog_26_method_6_code 116 (.goto 4) 4 119 120 := ⟨by decide +kernel, rfl, by decide, by decide⟩
theorem m3_120 : Ins1 prog_26_method_6_code 120 (.lstore 9) 2 122 := ⟨by decide +kernel, rfl⟩
theorem m3_122 : Ins1 prog_26_method_6_code 122 (.iconst 0) 1 123 := ⟨by decide +kernel, rfl⟩
theorem m3_123 : Ins1 prog_26_method_6_code 123 (.istore 11) 2 125 := ⟨by decide +kernel, rfl⟩
theorem m3_125 : Ins1 prog_26_method_6_code 125 (.iload 11) 2 127 := ⟨by decide +kernel, rfl⟩
theorem m3_127 : Ins1 prog_26_method_6_code 127 (.iload 7) 2 129 := ⟨by decide +kernel, rfl⟩
theorem m3_129 : Jmp1 prog_26_method_6_code 129 (.if_icmp .ge 30) 30 132 159 := ⟨by decide +kernel, rfl, by decide, by decide⟩
theorem m3_159 : Ins1 prog_26_method_6_code 159 (.new 25) 3 162 := ⟨by decide +kernel, rfl⟩
theorem m3_162 : Ins1 prog_26_method_6_code 162 (.dup) 1 163 := ⟨by decide +kernel, rfl⟩
theorem m3_163 : Ins1 prog_26_method_6_code 163 (.iload_n 3) 1 164 := ⟨by decide +kernel, rfl⟩
theorem m3_164 : Ins1 prog_26_method_6_code 164 (.sipush 128) 3 167 := ⟨by decide +kernel, rfl⟩
theorem m3_167 : Ins1 prog_26_method_6_code 167 (.iand) 1 168 := ⟨by decide +kernel, rfl⟩
theorem m3_168 : Jmp1 prog_26_method_6_code 168 (.ifCond .eq 7) 7 171 175 := ⟨by decide +kernel, rfl, by decide, by decide⟩
theorem m3_171 : Ins1 prog_26_method_6_code 171 (.iconst 1) 1 172 := ⟨by decide +kernel, rfl⟩
theorem m3_172 : Jmp1 prog_26_method_6_code 172 (.goto 4) 4 175 176 := ⟨by decide +kernel, rfl, by decide, by decide⟩
theorem m3_175 : Ins1 prog_26_method_6_code 175 (.iconst 0) 1 176 := ⟨by decide +kernel, rfl⟩
theorem m3_176 : Ins1 prog_26_method_6_code 176 (.iload_n 3) 1 177 := ⟨by decide +kernel, rfl⟩
theorem m3_177 : Ins1 prog_26_method_6_code 177 (.bipush 15) 2 179 := ⟨by decide +kernel, rfl⟩
theorem m3_179 : Ins1 prog_26_method_6_code 179 (.iand) 1 180 := ⟨by decide +kernel, rfl⟩
theorem m3_180 : Ins1 prog_26_method_6_code 180 (.iload 5) 2 182 := ⟨by decide +kernel, rfl⟩
theorem m3_182 : Ins1 prog_26_method_6_code 182 (.lload 9) 2 184 := ⟨by decide +kernel, rfl⟩
theorem m3_184 : Ins1 prog_26_method_6_code 184 (.iload 8) 2 186 := ⟨by decide +kernel, rfl⟩
theorem m3_186 : Ins1 prog_26_method_6_code 186 (.invokespecial 27) 3 189 := ⟨by decide +kernel, rfl⟩
theorem m3_189 : Ins1 prog_26_method_6_code 189 (.areturn) 1 190 := ⟨by decide +kernel, rfl⟩
theorem pl3 : plainFor y3 = true := plainFor_of_name (show plainName "com/example/hearts_content/heartscontent/websocket/Framing" = true by first | (simp [plainName, overriddenIn]; done) | decide +kernel)
theorem pd3 : parseMethodDescriptor "([BII)Lcom/example/hearts_content/heartscontent/websocket/Framing$Header;" = some ⟨[(.array .byte), .int, .int], some (.object "com/example/hearts_content/heartscontent/websocket/Framing$Header")⟩ := by decide +kernel
set_option maxRecDepth 65536 in
set_option maxHeartbeats 4000000 in
theorem own_rh0 (Z : State) (a0 : Array Value) (hw : ∀ d ∈ tables_1, d.before a0 Z = true) (a : Addr) (bs : List Int32) (n2 : Nat) (h : Heap) (n0 : Nat) (z0 : n0 ≤ h.size) (A0 : Av Z h a .byte (bs.map Value.int)) (hl : bs.length = 14) (hn2 : n2 < 256) (h2 : (bs.getD 1 0 &&& (255 : Int32)) = Int32.ofNat n2) (hc : n2 % 128 ≤ 125) :
    Con Z y3 prog_26_method_6_code 12 (some (.object "com/example/hearts_content/heartscontent/websocket/Framing$Header")) ({ frames := 3, cells := 1, slots := 5, locals := 43 } : Room) [.ref a, .int (0 : Int32), .int (14 : Int32)] h n0 (fun v h' => ∃ o : Addr, v = some (.ref o) ∧ Exa Z h' o "com/example/hearts_content/heartscontent/websocket/Framing$Header" ∧ ∃ (m : Int32) (l : Int64) (s : Int32), Fld Z h' o "com/example/hearts_content/heartscontent/websocket/Framing$Header" "masked" "Z" (.int (m &&& 1)) ∧ Fld Z h' o "com/example/hearts_content/heartscontent/websocket/Framing$Header" "length" "J" (.long l) ∧ Fld Z h' o "com/example/hearts_content/heartscontent/websocket/Framing$Header" "size" "I" (.int s) ∧ ((n2 < 128 ∧ m.toInt = 0) ∨ (128 ≤ n2 ∧ m.toInt = 1)) ∧ s.toInt = 2 + 4 * m.toInt ∧ l.toInt = ((n2 % 128 : Nat) : Int)) := by
  refine Con.of pl3 (L := [.val (.ref a), .val (.int (0 : Int32)), .val (.int (14 : Int32)), .unset, .unset, .unset, .unset, .unset, .unset, .unset, .unset, .unset]) (fun m => by first | (simp [entryFrame, mkF, argsToLocals, Value.category]; done) | rfl) ?_
  intro κ Qx hQ C
  refine W.iloadN C m3_0 rfl ?_
  refine W.iloadN C m3_1 rfl ?_
  refine W.isub C m3_2 (z := (14 : Int32)) rfl ?_
  refine W.iconst C m3_3 (z := (2 : Int32)) rfl ?_
  refine W.icmpY C m3_4 (show (2 : Int) ≤ (14 : Int) from (by decide)) ?_
  refine W.aloadN C m3_9 rfl rfl ?_
  refine W.iloadN C m3_10 rfl ?_
  refine W.baload C m3_11 A0 (i := 0) rfl (own_get (by omega)) ?_
  refine W.sipush C m3_12 (z := (255 : Int32)) rfl ?_
  refine W.iand C m3_15 rfl ?_
  generalize hv1 : ((bs.getD 0 0) &&& (255 : Int32)) = v1
  refine W.istoreN C m3_16 (L' := [.val (.ref a), .val (.int (0 : Int32)), .val (.int (14 : Int32)), .val (.int v1), .unset, .unset, .unset, .unset, .unset, .unset, .unset, .unset]) rfl ?_
  refine W.aloadN C m3_17 rfl rfl ?_
  refine W.iloadN C m3_18 rfl ?_
  refine W.iconst C m3_19 (z := (1 : Int32)) rfl ?_
  refine W.iadd C m3_20 (z := (1 : Int32)) rfl ?_
  refine W.baload C m3_21 A0 (i := 1) rfl (own_get (by omega)) ?_
  refine W.sipush C m3_22 (z := (255 : Int32)) rfl ?_
  refine W.iand C m3_25 rfl ?_
  rw [h2]
  refine W.istore C m3_26 (L' := [.val (.ref a), .val (.int (0 : Int32)), .val (.int (14 : Int32)), .val (.int v1), .val (.int (Int32.ofNat n2)), .unset, .unset, .unset, .unset, .unset, .unset, .unset]) rfl ?_
  refine W.iload C m3_28 rfl ?_
  refine W.sipush C m3_30 (z := (128 : Int32)) rfl ?_
  refine W.iand C m3_33 rfl ?_
  suffices J34 : ∀ (w5 : Int32), ((((((Int32.ofNat n2) &&& (128 : Int32))).toInt = (0 : Int)) ∧ (w5.toInt = (0 : Int))) ∨ ((¬ (((Int32.ofNat n2) &&& (128 : Int32))).toInt = (0 : Int)) ∧ (w5.toInt = (1 : Int)))) → W κ n0 Qx h 0 0 42 [.val (.ref a), .val (.int (0 : Int32)), .val (.int (14 : Int32)), .val (.int v1), .val (.int (Int32.ofNat n2)), .unset, .unset, .unset, .unset, .unset, .unset, .unset] [(.int w5)] by
    refine W.ifc C m3_34 ?_ ?_
    · intro (h34 : (((Int32.ofNat n2) &&& (128 : Int32))).toInt = (0 : Int))
      refine W.iconst C m3_41 (z := (0 : Int32)) rfl ?_
      exact J34 _ (Or.inl ⟨h34, rfl⟩)
    · intro (h34 : ¬ ((((Int32.ofNat n2) &&& (128 : Int32))).toInt = (0 : Int)))
      refine W.iconst C m3_37 (z := (1 : Int32)) rfl ?_
      refine W.goto C m3_38 ?_
      exact J34 _ (Or.inr (⟨h34, rfl⟩))
  intro w5 hJ34
  refine W.istore C m3_42 (L' := [.val (.ref a), .val (.int (0 : Int32)), .val (.int (14 : Int32)), .val (.int v1), .val (.int (Int32.ofNat n2)), .val (.int w5), .unset, .unset, .unset, .unset, .unset, .unset]) rfl ?_
  have h128 := own_128 n2 hn2
  refine W.iload C m3_44 rfl ?_
  refine W.bipush C m3_46 (z := (127 : Int32)) rfl ?_
  refine W.iand C m3_48 rfl ?_
  generalize hv2 : ((Int32.ofNat n2) &&& (127 : Int32)) = v2
  refine W.istore C m3_49 (L' := [.val (.ref a), .val (.int (0 : Int32)), .val (.int (14 : Int32)), .val (.int v1), .val (.int (Int32.ofNat n2)), .val (.int w5), .val (.int v2), .unset, .unset, .unset, .unset, .unset]) rfl ?_
  have h127 := own_127 hn2
  rw [hv2] at h127
  refine W.iload C m3_51 rfl ?_
  refine W.bipush C m3_53 (z := (126 : Int32)) rfl ?_
  refine W.icmpY C m3_55 (show ¬ v2.toInt = (126 : Int) from (by omega)) ?_
  refine W.iload C m3_64 rfl ?_
  refine W.bipush C m3_66 (z := (127 : Int32)) rfl ?_
  refine W.icmpY C m3_68 (show ¬ v2.toInt = (127 : Int) from (by omega)) ?_
  refine W.iconst C m3_78 (z := (0 : Int32)) rfl ?_
  refine W.istore C m3_79 (L' := [.val (.ref a), .val (.int (0 : Int32)), .val (.int (14 : Int32)), .val (.int v1), .val (.int (Int32.ofNat n2)), .val (.int w5), .val (.int v2), .val (.int (0 : Int32)), .unset, .unset, .unset, .unset]) rfl ?_
  refine W.iconst C m3_81 (z := (2 : Int32)) rfl ?_
  refine W.iload C m3_82 rfl ?_
  refine W.iadd C m3_84 (z := (2 : Int32)) rfl ?_
  refine W.iload C m3_85 rfl ?_
  suffices J87 : ∀ (w9 : Int32), (((w5.toInt = (0 : Int)) ∧ (w9.toInt = (0 : Int))) ∨ ((¬ w5.toInt = (0 : Int)) ∧ (w9.toInt = (4 : Int)))) → W κ n0 Qx h 0 0 95 [.val (.ref a), .val (.int (0 : Int32)), .val (.int (14 : Int32)), .val (.int v1), .val (.int (Int32.ofNat n2)), .val (.int w5), .val (.int v2), .val (.int (0 : Int32)), .unset, .unset, .unset, .unset] [(.int w9), (.int (2 : Int32))] by
    refine W.ifc C m3_87 ?_ ?_
    · intro (h87 : w5.toInt = (0 : Int))
      refine W.iconst C m3_94 (z := (0 : Int32)) rfl ?_
      exact J87 _ (Or.inl ⟨h87, rfl⟩)
    · intro (h87 : ¬ (w5.toInt = (0 : Int)))
      refine W.iconst C m3_90 (z := (4 : Int32)) rfl ?_
      refine W.goto C m3_91 ?_
      exact J87 _ (Or.inr (⟨h87, rfl⟩))
  intro w9 hJ87
  refine W.iadd C m3_95 rfl ?_
  generalize hv3 : ((2 : Int32) + w9) = v3
  refine W.istore C m3_96 (L' := [.val (.ref a), .val (.int (0 : Int32)), .val (.int (14 : Int32)), .val (.int v1), .val (.int (Int32.ofNat n2)), .val (.int w5), .val (.int v2), .val (.int (0 : Int32)), .val (.int v3), .unset, .unset, .unset]) rfl ?_
  have hz8 : v3.toInt = 2 + w9.toInt := by
    have e1 := c_iadd (2 : Int32) w9
    have e2 := rng32 ((2 : Int32) + w9)
    have e3 : (2 : Int32).toInt = 2 := rfl
    rw [hv3] at e1 e2
    omega
  refine W.iloadN C m3_98 rfl ?_
  refine W.iloadN C m3_99 rfl ?_
  refine W.isub C m3_100 (z := (14 : Int32)) rfl ?_
  refine W.iload C m3_101 rfl ?_
  refine W.icmpY C m3_103 (show v3.toInt ≤ (14 : Int) from (by omega)) ?_
  refine W.iload C m3_108 rfl ?_
  refine W.ifN C m3_110 (show ¬ ¬ (0 : Int) = (0 : Int) from (by decide)) ?_
  refine W.iload C m3_113 rfl ?_
  refine W.i2l C m3_115 rfl ?_
  refine W.goto C m3_116 ?_
  generalize hv4 : v2.toInt64 = v4
  refine W.lstore C m3_120 (L' := [.val (.ref a), .val (.int (0 : Int32)), .val (.int (14 : Int32)), .val (.int v1), .val (.int (Int32.ofNat n2)), .val (.int w5), .val (.int v2), .val (.int (0 : Int32)), .val (.int v3), .val (.long v4), .second, .unset]) rfl ?_
  have hL0 := c_i2l v2
  rw [hv4] at hL0
  refine W.iconst C m3_122 (z := (0 : Int32)) rfl ?_
  refine W.istore C m3_123 (L' := [.val (.ref a), .val (.int (0 : Int32)), .val (.int (14 : Int32)), .val (.int v1), .val (.int (Int32.ofNat n2)), .val (.int w5), .val (.int v2), .val (.int (0 : Int32)), .val (.int v3), .val (.long v4), .second, .val (.int (0 : Int32))]) rfl ?_
  refine W.iload C m3_125 rfl ?_
  refine W.iload C m3_127 rfl ?_
  refine W.icmpY C m3_129 (show (0 : Int) ≤ (0 : Int) from (by decide)) ?_
  refine W.new (a0 := a0) C m3_159 (hw _ (List.mem_of_getElem? (i := 14) rfl)) (hw _ (List.mem_of_getElem? (i := 15) rfl)) (hw _ (List.mem_of_getElem? (i := 16) rfl)) (by decide) (by decide) ?_
  intro h5 a6 g7 E8 E9 D10
  have ne11 : a ≠ a6 := Nat.ne_of_lt (Nat.lt_of_lt_of_eq A0.lt g7)
  have g12 : n0 ≤ a6 := Nat.le_trans z0 (Nat.le_of_eq g7)
  have A13 := A0.ext E8
  have z14 : n0 ≤ h5.size := Nat.le_trans z0 E8.1
  have F15 : Fld Z h5 a6 "com/example/hearts_content/heartscontent/websocket/Framing$Header" "isFinal" "Z" (.int (0 : Int32)) := D10 (Or.inr (hw _ (List.mem_of_getElem? (i := 29) rfl))) (ty := .boolean) (by decide)
  have F16 : Fld Z h5 a6 "com/example/hearts_content/heartscontent/websocket/Framing$Header" "opcode" "I" (.int (0 : Int32)) := D10 (Or.inr (hw _ (List.mem_of_getElem? (i := 31) rfl))) (ty := .int) (by decide)
  have F17 : Fld Z h5 a6 "com/example/hearts_content/heartscontent/websocket/Framing$Header" "masked" "Z" (.int (0 : Int32)) := D10 (Or.inr (hw _ (List.mem_of_getElem? (i := 33) rfl))) (ty := .boolean) (by decide)
  have F18 : Fld Z h5 a6 "com/example/hearts_content/heartscontent/websocket/Framing$Header" "length" "J" (.long (0 : Int64)) := D10 (Or.inr (hw _ (List.mem_of_getElem? (i := 35) rfl))) (ty := .long) (by decide)
  have F19 : Fld Z h5 a6 "com/example/hearts_content/heartscontent/websocket/Framing$Header" "size" "I" (.int (0 : Int32)) := D10 (Or.inr (hw _ (List.mem_of_getElem? (i := 37) rfl))) (ty := .int) (by decide)
  show W κ n0 Qx h5 1 5 162 [.val (.ref a), .val (.int (0 : Int32)), .val (.int (14 : Int32)), .val (.int v1), .val (.int (Int32.ofNat n2)), .val (.int w5), .val (.int v2), .val (.int (0 : Int32)), .val (.int v3), .val (.long v4), .second, .val (.int (0 : Int32))] [(.ref a6)]
  refine W.dup C m3_162 rfl ?_
  refine W.iloadN C m3_163 rfl ?_
  refine W.sipush C m3_164 (z := (128 : Int32)) rfl ?_
  refine W.iand C m3_167 rfl ?_
  suffices J168 : ∀ (w20 : Int32), (True) → W κ n0 Qx h5 1 5 176 [.val (.ref a), .val (.int (0 : Int32)), .val (.int (14 : Int32)), .val (.int v1), .val (.int (Int32.ofNat n2)), .val (.int w5), .val (.int v2), .val (.int (0 : Int32)), .val (.int v3), .val (.long v4), .second, .val (.int (0 : Int32))] [(.int w20), (.ref a6), (.ref a6)] by
    refine W.ifc C m3_168 ?_ ?_
    · intro (h168 : ((v1 &&& (128 : Int32))).toInt = (0 : Int))
      refine W.iconst C m3_175 (z := (0 : Int32)) rfl ?_
      exact J168 _ (by trivial)
    · intro (h168 : ¬ (((v1 &&& (128 : Int32))).toInt = (0 : Int)))
      refine W.iconst C m3_171 (z := (1 : Int32)) rfl ?_
      refine W.goto C m3_172 ?_
      exact J168 _ (by trivial)
  intro w20 hJ168
  refine W.iloadN C m3_176 rfl ?_
  refine W.bipush C m3_177 (z := (15 : Int32)) rfl ?_
  refine W.iand C m3_179 rfl ?_
  refine W.iload C m3_180 rfl ?_
  refine W.lload C m3_182 rfl ?_
  refine W.iload C m3_184 rfl ?_
  refine W.callC (y := y4) (wt := 1) C m3_186 rfl (hw _ (List.mem_of_getElem? (i := 17) rfl)) (hw _ (List.mem_of_getElem? (i := 18) rfl)) (hw _ (List.mem_of_getElem? (i := 16) rfl)) (hw _ (List.mem_of_getElem? (i := 19) rfl)) (by decide) pd4 rfl (own_init Z a0 hw a6 w20 (v1 &&& (15 : Int32)) w5 v4 v3 h5 n0 g12 E9 F15 F16 F17 F18 F19 ) (a := a6) (as' := [(.int w20), (.int (v1 &&& (15 : Int32))), (.int w5), (.long v4), (.int v3)]) (rest := [(.ref a6)]) rfl rfl (Nat.le_of_eq rfl) (by decide) (by decide) (by decide) (by decide) ?_
  intro r30 h28 q29
  obtain ⟨rfl, K21, E22, F23, F24, F25, F26, F27⟩ := q29
  have A31 := A13.keep K21 (ninS ne11 nin0)
  have z32 : n0 ≤ h28.size := Nat.le_trans z14 K21.1
  have E33 := E9.keep K21
  show W κ n0 Qx h28 1 5 189 [.val (.ref a), .val (.int (0 : Int32)), .val (.int (14 : Int32)), .val (.int v1), .val (.int (Int32.ofNat n2)), .val (.int w5), .val (.int v2), .val (.int (0 : Int32)), .val (.int v3), .val (.long v4), .second, .val (.int (0 : Int32))] [(.ref a6)]
  refine W.areturn C rfl rfl m3_189 (hQ _ _ ?_)
  exact ⟨a6, rfl, E22, w5, v4, v3, F25, F26, F27, by omega, by omega, by omega⟩
theorem m3_58 : Ins1 prog_26_method_6_code 58 (.iconst 2) 1 59 := ⟨by decide +kernel, rfl⟩
theorem m3_59 : Ins1 prog_26_method_6_code 59 (.istore 7) 2 61 := ⟨by decide +kernel, rfl⟩
theorem m3_61 : Jmp1 prog_26_method_6_code 61 (.goto 20) 20 64 81 := ⟨by decide +kernel, rfl, by decide, by decide⟩
theorem m3_119 : Ins1 prog_26_method_6_code 119 (.lconst 0) 1 120 := ⟨by decide +kernel, rfl⟩
theorem m3_132 : Ins1 prog_26_method_6_code 132 (.lload 9) 2 134 := ⟨by decide +kernel, rfl⟩
theorem m3_134 : Ins1 prog_26_method_6_code 134 (.bipush 8) 2 136 := ⟨by decide +kernel, rfl⟩
theorem m3_136 : Ins1 prog_26_method_6_code 136 (.lshl) 1 137 := ⟨by decide +kernel, rfl⟩
theorem m3_137 : Ins1 prog_26_method_6_code 137 (.aload_n 0) 1 138 := ⟨by decide +kernel, rfl⟩
theorem m3_138 : Ins1 prog_26_method_6_code 138 (.iload_n 1) 1 139 := ⟨by decide +kernel, rfl⟩
theorem m3_139 : Ins1 prog_26_method_6_code 139 (.iconst 2) 1 140 := ⟨by decide +kernel, rfl⟩
theorem m3_140 : Ins1 prog_26_method_6_code 140 (.iadd) 1 141 := ⟨by decide +kernel, rfl⟩
theorem m3_141 : Ins1 prog_26_method_6_code 141 (.iload 11) 2 143 := ⟨by decide +kernel, rfl⟩
theorem m3_143 : Ins1 prog_26_method_6_code 143 (.iadd) 1 144 := ⟨by decide +kernel, rfl⟩
theorem m3_144 : Ins1 prog_26_method_6_code 144 (.baload) 1 145 := ⟨by decide +kernel, rfl⟩
theorem m3_145 : Ins1 prog_26_method_6_code 145 (.sipush 255) 3 148 := ⟨by decide +kernel, rfl⟩
theorem m3_148 : Ins1 prog_26_method_6_code 148 (.iand) 1 149 := ⟨by decide +kernel, rfl⟩
theorem m3_149 : Ins1 prog_26_method_6_code 149 (.i2l) 1 150 := ⟨by decide +kernel, rfl⟩
theorem m3_150 : Ins1 prog_26_method_6_code 150 (.lor) 1 151 := ⟨by decide +kernel, rfl⟩
theorem m3_151 : Ins1 prog_26_method_6_code 151 (.lstore 9) 2 153 := ⟨by decide +kernel, rfl⟩
theorem m3_153 : Ins1 prog_26_method_6_code 153 (.iinc 11 1) 3 156 := ⟨by decide +kernel, rfl⟩
theorem m3_156 : Jmp1 prog_26_method_6_code 156 (.goto (-31)) (-31) 159 125 := ⟨by decide +kernel, rfl, by decide, by decide⟩
set_option maxRecDepth 65536 in
set_option maxHeartbeats 4000000 in
theorem own_rh1 (Z : State) (a0 : Array Value) (hw : ∀ d ∈ tables_1, d.before a0 Z = true) (a : Addr) (bs : List Int32) (n2 : Nat) (h : Heap) (n0 : Nat) (z0 : n0 ≤ h.size) (A0 : Av Z h a .byte (bs.map Value.int)) (hl : bs.length = 14) (hn2 : n2 < 256) (h2 : (bs.getD 1 0 &&& (255 : Int32)) = Int32.ofNat n2) (hc : n2 % 128 = 126) :
    Con Z y3 prog_26_method_6_code 12 (some (.object "com/example/hearts_content/heartscontent/websocket/Framing$Header")) ({ frames := 3, cells := 1, slots := 5, locals := 43 } : Room) [.ref a, .int (0 : Int32), .int (14 : Int32)] h n0 (fun v h' => ∃ o : Addr, v = some (.ref o) ∧ Exa Z h' o "com/example/hearts_content/heartscontent/websocket/Framing$Header" ∧ ∃ (m : Int32) (l : Int64) (s : Int32), Fld Z h' o "com/example/hearts_content/heartscontent/websocket/Framing$Header" "masked" "Z" (.int (m &&& 1)) ∧ Fld Z h' o "com/example/hearts_content/heartscontent/websocket/Framing$Header" "length" "J" (.long l) ∧ Fld Z h' o "com/example/hearts_content/heartscontent/websocket/Framing$Header" "size" "I" (.int s) ∧ ((n2 < 128 ∧ m.toInt = 0) ∨ (128 ≤ n2 ∧ m.toInt = 1)) ∧ s.toInt = 4 + 4 * m.toInt ∧ l.toInt = ((bs.getD 2 0 &&& (255 : Int32)).toInt * 256 + (bs.getD 3 0 &&& (255 : Int32)).toInt)) := by
  refine Con.of pl3 (L := [.val (.ref a), .val (.int (0 : Int32)), .val (.int (14 : Int32)), .unset, .unset, .unset, .unset, .unset, .unset, .unset, .unset, .unset]) (fun m => by first | (simp [entryFrame, mkF, argsToLocals, Value.category]; done) | rfl) ?_
  intro κ Qx hQ C
  refine W.iloadN C m3_0 rfl ?_
  refine W.iloadN C m3_1 rfl ?_
  refine W.isub C m3_2 (z := (14 : Int32)) rfl ?_
  refine W.iconst C m3_3 (z := (2 : Int32)) rfl ?_
  refine W.icmpY C m3_4 (show (2 : Int) ≤ (14 : Int) from (by decide)) ?_
  refine W.aloadN C m3_9 rfl rfl ?_
  refine W.iloadN C m3_10 rfl ?_
  refine W.baload C m3_11 A0 (i := 0) rfl (own_get (by omega)) ?_
  refine W.sipush C m3_12 (z := (255 : Int32)) rfl ?_
  refine W.iand C m3_15 rfl ?_
  generalize hv1 : ((bs.getD 0 0) &&& (255 : Int32)) = v1
  refine W.istoreN C m3_16 (L' := [.val (.ref a), .val (.int (0 : Int32)), .val (.int (14 : Int32)), .val (.int v1), .unset, .unset, .unset, .unset, .unset, .unset, .unset, .unset]) rfl ?_
  refine W.aloadN C m3_17 rfl rfl ?_
  refine W.iloadN C m3_18 rfl ?_
  refine W.iconst C m3_19 (z := (1 : Int32)) rfl ?_
  refine W.iadd C m3_20 (z := (1 : Int32)) rfl ?_
  refine W.baload C m3_21 A0 (i := 1) rfl (own_get (by omega)) ?_
  refine W.sipush C m3_22 (z := (255 : Int32)) rfl ?_
  refine W.iand C m3_25 rfl ?_
  rw [h2]
  refine W.istore C m3_26 (L' := [.val (.ref a), .val (.int (0 : Int32)), .val (.int (14 : Int32)), .val (.int v1), .val (.int (Int32.ofNat n2)), .unset, .unset, .unset, .unset, .unset, .unset, .unset]) rfl ?_
  refine W.iload C m3_28 rfl ?_
  refine W.sipush C m3_30 (z := (128 : Int32)) rfl ?_
  refine W.iand C m3_33 rfl ?_
  suffices J34 : ∀ (w5 : Int32), ((((((Int32.ofNat n2) &&& (128 : Int32))).toInt = (0 : Int)) ∧ (w5.toInt = (0 : Int))) ∨ ((¬ (((Int32.ofNat n2) &&& (128 : Int32))).toInt = (0 : Int)) ∧ (w5.toInt = (1 : Int)))) → W κ n0 Qx h 0 0 42 [.val (.ref a), .val (.int (0 : Int32)), .val (.int (14 : Int32)), .val (.int v1), .val (.int (Int32.ofNat n2)), .unset, .unset, .unset, .unset, .unset, .unset, .unset] [(.int w5)] by
    refine W.ifc C m3_34 ?_ ?_
    · intro (h34 : (((Int32.ofNat n2) &&& (128 : Int32))).toInt = (0 : Int))
      refine W.iconst C m3_41 (z := (0 : Int32)) rfl ?_
      exact J34 _ (Or.inl ⟨h34, rfl⟩)
    · intro (h34 : ¬ ((((Int32.ofNat n2) &&& (128 : Int32))).toInt = (0 : Int)))
      refine W.iconst C m3_37 (z := (1 : Int32)) rfl ?_
      refine W.goto C m3_38 ?_
      exact J34 _ (Or.inr (⟨h34, rfl⟩))
  intro w5 hJ34
  refine W.istore C m3_42 (L' := [.val (.ref a), .val (.int (0 : Int32)), .val (.int (14 : Int32)), .val (.int v1), .val (.int (Int32.ofNat n2)), .val (.int w5), .unset, .unset, .unset, .unset, .unset, .unset]) rfl ?_
  have h128 := own_128 n2 hn2
  refine W.iload C m3_44 rfl ?_
  refine W.bipush C m3_46 (z := (127 : Int32)) rfl ?_
  refine W.iand C m3_48 rfl ?_
  generalize hv2 : ((Int32.ofNat n2) &&& (127 : Int32)) = v2
  refine W.istore C m3_49 (L' := [.val (.ref a), .val (.int (0 : Int32)), .val (.int (14 : Int32)), .val (.int v1), .val (.int (Int32.ofNat n2)), .val (.int w5), .val (.int v2), .unset, .unset, .unset, .unset, .unset]) rfl ?_
  have h127 := own_127 hn2
  rw [hv2] at h127
  refine W.iload C m3_51 rfl ?_
  refine W.bipush C m3_53 (z := (126 : Int32)) rfl ?_
  refine W.icmpN C m3_55 (show ¬ ¬ v2.toInt = (126 : Int) from (fun q => q (by omega))) ?_
  refine W.iconst C m3_58 (z := (2 : Int32)) rfl ?_
  refine W.istore C m3_59 (L' := [.val (.ref a), .val (.int (0 : Int32)), .val (.int (14 : Int32)), .val (.int v1), .val (.int (Int32.ofNat n2)), .val (.int w5), .val (.int v2), .val (.int (2 : Int32)), .unset, .unset, .unset, .unset]) rfl ?_
  refine W.goto C m3_61 ?_
  refine W.iconst C m3_81 (z := (2 : Int32)) rfl ?_
  refine W.iload C m3_82 rfl ?_
  refine W.iadd C m3_84 (z := (4 : Int32)) rfl ?_
  refine W.iload C m3_85 rfl ?_
  suffices J87 : ∀ (w9 : Int32), (((w5.toInt = (0 : Int)) ∧ (w9.toInt = (0 : Int))) ∨ ((¬ w5.toInt = (0 : Int)) ∧ (w9.toInt = (4 : Int)))) → W κ n0 Qx h 0 0 95 [.val (.ref a), .val (.int (0 : Int32)), .val (.int (14 : Int32)), .val (.int v1), .val (.int (Int32.ofNat n2)), .val (.int w5), .val (.int v2), .val (.int (2 : Int32)), .unset, .unset, .unset, .unset] [(.int w9), (.int (4 : Int32))] by
    refine W.ifc C m3_87 ?_ ?_
    · intro (h87 : w5.toInt = (0 : Int))
      refine W.iconst C m3_94 (z := (0 : Int32)) rfl ?_
      exact J87 _ (Or.inl ⟨h87, rfl⟩)
    · intro (h87 : ¬ (w5.toInt = (0 : Int)))
      refine W.iconst C m3_90 (z := (4 : Int32)) rfl ?_
      refine W.goto C m3_91 ?_
      exact J87 _ (Or.inr (⟨h87, rfl⟩))
  intro w9 hJ87
  refine W.iadd C m3_95 rfl ?_
  generalize hv3 : ((4 : Int32) + w9) = v3
  refine W.istore C m3_96 (L' := [.val (.ref a), .val (.int (0 : Int32)), .val (.int (14 : Int32)), .val (.int v1), .val (.int (Int32.ofNat n2)), .val (.int w5), .val (.int v2), .val (.int (2 : Int32)), .val (.int v3), .unset, .unset, .unset]) rfl ?_
  have hz8 : v3.toInt = 4 + w9.toInt := by
    have e1 := c_iadd (4 : Int32) w9
    have e2 := rng32 ((4 : Int32) + w9)
    have e3 : (4 : Int32).toInt = 4 := rfl
    rw [hv3] at e1 e2
    omega
  refine W.iloadN C m3_98 rfl ?_
  refine W.iloadN C m3_99 rfl ?_
  refine W.isub C m3_100 (z := (14 : Int32)) rfl ?_
  refine W.iload C m3_101 rfl ?_
  refine W.icmpY C m3_103 (show v3.toInt ≤ (14 : Int) from (by omega)) ?_
  refine W.iload C m3_108 rfl ?_
  refine W.ifY C m3_110 (show ¬ (2 : Int) = (0 : Int) from (by decide)) ?_
  refine W.lconst C m3_119 (z := (0 : Int64)) rfl ?_
  refine W.lstore C m3_120 (L' := [.val (.ref a), .val (.int (0 : Int32)), .val (.int (14 : Int32)), .val (.int v1), .val (.int (Int32.ofNat n2)), .val (.int w5), .val (.int v2), .val (.int (2 : Int32)), .val (.int v3), .val (.long (0 : Int64)), .second, .unset]) rfl ?_
  refine W.iconst C m3_122 (z := (0 : Int32)) rfl ?_
  refine W.istore C m3_123 (L' := [.val (.ref a), .val (.int (0 : Int32)), .val (.int (14 : Int32)), .val (.int v1), .val (.int (Int32.ofNat n2)), .val (.int w5), .val (.int v2), .val (.int (2 : Int32)), .val (.int v3), .val (.long (0 : Int64)), .second, .val (.int (0 : Int32))]) rfl ?_
  refine W.iload C m3_125 rfl ?_
  refine W.iload C m3_127 rfl ?_
  refine W.icmpN C m3_129 (show ¬ ((2 : Int) ≤ (0 : Int)) from (by decide)) ?_
  refine W.lload C m3_132 rfl ?_
  refine W.bipush C m3_134 (z := (8 : Int32)) rfl ?_
  refine W.lshl C m3_136 rfl ?_
  refine W.aloadN C m3_137 rfl rfl ?_
  refine W.iloadN C m3_138 rfl ?_
  refine W.iconst C m3_139 (z := (2 : Int32)) rfl ?_
  refine W.iadd C m3_140 (z := (2 : Int32)) rfl ?_
  refine W.iload C m3_141 rfl ?_
  refine W.iadd C m3_143 (z := (2 : Int32)) rfl ?_
  refine W.baload C m3_144 A0 (i := 2) rfl (own_get (by omega)) ?_
  refine W.sipush C m3_145 (z := (255 : Int32)) rfl ?_
  refine W.iand C m3_148 rfl ?_
  refine W.i2l C m3_149 rfl ?_
  refine W.lor C m3_150 rfl ?_
  generalize hv4 : (((0 : Int64) <<< ((8 : Int32) &&& 0x3f).toInt64) ||| ((bs.getD 2 0) &&& (255 : Int32)).toInt64) = v4
  refine W.lstore C m3_151 (L' := [.val (.ref a), .val (.int (0 : Int32)), .val (.int (14 : Int32)), .val (.int v1), .val (.int (Int32.ofNat n2)), .val (.int w5), .val (.int v2), .val (.int (2 : Int32)), .val (.int v3), .val (.long v4), .second, .val (.int (0 : Int32))]) rfl ?_
  have hz0 : (0 : Int64).toInt = 0 := rfl
  have hb0 := own_255 (bs.getD 2 0)
  have hL0 := own_acc hb0 (by omega) hv4
  refine W.iinc C m3_153 rfl (z := (1 : Int32)) rfl (L' := [.val (.ref a), .val (.int (0 : Int32)), .val (.int (14 : Int32)), .val (.int v1), .val (.int (Int32.ofNat n2)), .val (.int w5), .val (.int v2), .val (.int (2 : Int32)), .val (.int v3), .val (.long v4), .second, .val (.int (1 : Int32))]) rfl ?_
  refine W.goto C m3_156 ?_
  refine W.iload C m3_125 rfl ?_
  refine W.iload C m3_127 rfl ?_
  refine W.icmpN C m3_129 (show ¬ ((2 : Int) ≤ (1 : Int)) from (by decide)) ?_
  refine W.lload C m3_132 rfl ?_
  refine W.bipush C m3_134 (z := (8 : Int32)) rfl ?_
  refine W.lshl C m3_136 rfl ?_
  refine W.aloadN C m3_137 rfl rfl ?_
  refine W.iloadN C m3_138 rfl ?_
  refine W.iconst C m3_139 (z := (2 : Int32)) rfl ?_
  refine W.iadd C m3_140 (z := (2 : Int32)) rfl ?_
  refine W.iload C m3_141 rfl ?_
  refine W.iadd C m3_143 (z := (3 : Int32)) rfl ?_
  refine W.baload C m3_144 A0 (i := 3) rfl (own_get (by omega)) ?_
  refine W.sipush C m3_145 (z := (255 : Int32)) rfl ?_
  refine W.iand C m3_148 rfl ?_
  refine W.i2l C m3_149 rfl ?_
  refine W.lor C m3_150 rfl ?_
  generalize hv5 : ((v4 <<< ((8 : Int32) &&& 0x3f).toInt64) ||| ((bs.getD 3 0) &&& (255 : Int32)).toInt64) = v5
  refine W.lstore C m3_151 (L' := [.val (.ref a), .val (.int (0 : Int32)), .val (.int (14 : Int32)), .val (.int v1), .val (.int (Int32.ofNat n2)), .val (.int w5), .val (.int v2), .val (.int (2 : Int32)), .val (.int v3), .val (.long v5), .second, .val (.int (1 : Int32))]) rfl ?_
  have hb1 := own_255 (bs.getD 3 0)
  have hL1 := own_acc hb1 (by omega) hv5
  refine W.iinc C m3_153 rfl (z := (2 : Int32)) rfl (L' := [.val (.ref a), .val (.int (0 : Int32)), .val (.int (14 : Int32)), .val (.int v1), .val (.int (Int32.ofNat n2)), .val (.int w5), .val (.int v2), .val (.int (2 : Int32)), .val (.int v3), .val (.long v5), .second, .val (.int (2 : Int32))]) rfl ?_
  refine W.goto C m3_156 ?_
  refine W.iload C m3_125 rfl ?_
  refine W.iload C m3_127 rfl ?_
  refine W.icmpY C m3_129 (show (2 : Int) ≤ (2 : Int) from (by decide)) ?_
  refine W.new (a0 := a0) C m3_159 (hw _ (List.mem_of_getElem? (i := 14) rfl)) (hw _ (List.mem_of_getElem? (i := 15) rfl)) (hw _ (List.mem_of_getElem? (i := 16) rfl)) (by decide) (by decide) ?_
  intro h6 a7 g8 E9 E10 D11
  have ne12 : a ≠ a7 := Nat.ne_of_lt (Nat.lt_of_lt_of_eq A0.lt g8)
  have g13 : n0 ≤ a7 := Nat.le_trans z0 (Nat.le_of_eq g8)
  have A14 := A0.ext E9
  have z15 : n0 ≤ h6.size := Nat.le_trans z0 E9.1
  have F16 : Fld Z h6 a7 "com/example/hearts_content/heartscontent/websocket/Framing$Header" "isFinal" "Z" (.int (0 : Int32)) := D11 (Or.inr (hw _ (List.mem_of_getElem? (i := 29) rfl))) (ty := .boolean) (by decide)
  have F17 : Fld Z h6 a7 "com/example/hearts_content/heartscontent/websocket/Framing$Header" "opcode" "I" (.int (0 : Int32)) := D11 (Or.inr (hw _ (List.mem_of_getElem? (i := 31) rfl))) (ty := .int) (by decide)
  have F18 : Fld Z h6 a7 "com/example/hearts_content/heartscontent/websocket/Framing$Header" "masked" "Z" (.int (0 : Int32)) := D11 (Or.inr (hw _ (List.mem_of_getElem? (i := 33) rfl))) (ty := .boolean) (by decide)
  have F19 : Fld Z h6 a7 "com/example/hearts_content/heartscontent/websocket/Framing$Header" "length" "J" (.long (0 : Int64)) := D11 (Or.inr (hw _ (List.mem_of_getElem? (i := 35) rfl))) (ty := .long) (by decide)
  have F20 : Fld Z h6 a7 "com/example/hearts_content/heartscontent/websocket/Framing$Header" "size" "I" (.int (0 : Int32)) := D11 (Or.inr (hw _ (List.mem_of_getElem? (i := 37) rfl))) (ty := .int) (by decide)
  show W κ n0 Qx h6 1 5 162 [.val (.ref a), .val (.int (0 : Int32)), .val (.int (14 : Int32)), .val (.int v1), .val (.int (Int32.ofNat n2)), .val (.int w5), .val (.int v2), .val (.int (2 : Int32)), .val (.int v3), .val (.long v5), .second, .val (.int (2 : Int32))] [(.ref a7)]
  refine W.dup C m3_162 rfl ?_
  refine W.iloadN C m3_163 rfl ?_
  refine W.sipush C m3_164 (z := (128 : Int32)) rfl ?_
  refine W.iand C m3_167 rfl ?_
  suffices J168 : ∀ (w21 : Int32), (True) → W κ n0 Qx h6 1 5 176 [.val (.ref a), .val (.int (0 : Int32)), .val (.int (14 : Int32)), .val (.int v1), .val (.int (Int32.ofNat n2)), .val (.int w5), .val (.int v2), .val (.int (2 : Int32)), .val (.int v3), .val (.long v5), .second, .val (.int (2 : Int32))] [(.int w21), (.ref a7), (.ref a7)] by
    refine W.ifc C m3_168 ?_ ?_
    · intro (h168 : ((v1 &&& (128 : Int32))).toInt = (0 : Int))
      refine W.iconst C m3_175 (z := (0 : Int32)) rfl ?_
      exact J168 _ (by trivial)
    · intro (h168 : ¬ (((v1 &&& (128 : Int32))).toInt = (0 : Int)))
      refine W.iconst C m3_171 (z := (1 : Int32)) rfl ?_
      refine W.goto C m3_172 ?_
      exact J168 _ (by trivial)
  intro w21 hJ168
  refine W.iloadN C m3_176 rfl ?_
  refine W.bipush C m3_177 (z := (15 : Int32)) rfl ?_
  refine W.iand C m3_179 rfl ?_
  refine W.iload C m3_180 rfl ?_
  refine W.lload C m3_182 rfl ?_
  refine W.iload C m3_184 rfl ?_
  refine W.callC (y := y4) (wt := 1) C m3_186 rfl (hw _ (List.mem_of_getElem? (i := 17) rfl)) (hw _ (List.mem_of_getElem? (i := 18) rfl)) (hw _ (List.mem_of_getElem? (i := 16) rfl)) (hw _ (List.mem_of_getElem? (i := 19) rfl)) (by decide) pd4 rfl (own_init Z a0 hw a7 w21 (v1 &&& (15 : Int32)) w5 v5 v3 h6 n0 g13 E10 F16 F17 F18 F19 F20 ) (a := a7) (as' := [(.int w21), (.int (v1 &&& (15 : Int32))), (.int w5), (.long v5), (.int v3)]) (rest := [(.ref a7)]) rfl rfl (Nat.le_of_eq rfl) (by decide) (by decide) (by decide) (by decide) ?_
  intro r31 h29 q30
  obtain ⟨rfl, K22, E23, F24, F25, F26, F27, F28⟩ := q30
  have A32 := A14.keep K22 (ninS ne12 nin0)
  have z33 : n0 ≤ h29.size := Nat.le_trans z15 K22.1
  have E34 := E10.keep K22
  show W κ n0 Qx h29 1 5 189 [.val (.ref a), .val (.int (0 : Int32)), .val (.int (14 : Int32)), .val (.int v1), .val (.int (Int32.ofNat n2)), .val (.int w5), .val (.int v2), .val (.int (2 : Int32)), .val (.int v3), .val (.long v5), .second, .val (.int (2 : Int32))] [(.ref a7)]
  refine W.areturn C rfl rfl m3_189 (hQ _ _ ?_)
  exact ⟨a7, rfl, E23, w5, v5, v3, F26, F27, F28, by omega, by omega, by omega⟩
theorem m3_71 : Ins1 prog_26_method_6_code 71 (.bipush 8) 2 73 := ⟨by decide +kernel, rfl⟩
theorem m3_73 : Ins1 prog_26_method_6_code 73 (.istore 7) 2 75 := ⟨by decide +kernel, rfl⟩
theorem m3_75 : Jmp1 prog_26_method_6_code 75 (.goto 6) 6 78 81 := ⟨by decide +kernel, rfl, by decide, by decide⟩
set_option maxRecDepth 65536 in
set_option maxHeartbeats 4000000 in
theorem own_rh2 (Z : State) (a0 : Array Value) (hw : ∀ d ∈ tables_1, d.before a0 Z = true) (a : Addr) (bs : List Int32) (n2 : Nat) (h : Heap) (n0 : Nat) (z0 : n0 ≤ h.size) (A0 : Av Z h a .byte (bs.map Value.int)) (hl : bs.length = 14) (hn2 : n2 < 256) (h2 : (bs.getD 1 0 &&& (255 : Int32)) = Int32.ofNat n2) (hc : n2 % 128 = 127) (hb : (bs.getD 2 0 &&& (255 : Int32)).toInt ≤ 127) :
    Con Z y3 prog_26_method_6_code 12 (some (.object "com/example/hearts_content/heartscontent/websocket/Framing$Header")) ({ frames := 3, cells := 1, slots := 5, locals := 43 } : Room) [.ref a, .int (0 : Int32), .int (14 : Int32)] h n0 (fun v h' => ∃ o : Addr, v = some (.ref o) ∧ Exa Z h' o "com/example/hearts_content/heartscontent/websocket/Framing$Header" ∧ ∃ (m : Int32) (l : Int64) (s : Int32), Fld Z h' o "com/example/hearts_content/heartscontent/websocket/Framing$Header" "masked" "Z" (.int (m &&& 1)) ∧ Fld Z h' o "com/example/hearts_content/heartscontent/websocket/Framing$Header" "length" "J" (.long l) ∧ Fld Z h' o "com/example/hearts_content/heartscontent/websocket/Framing$Header" "size" "I" (.int s) ∧ ((n2 < 128 ∧ m.toInt = 0) ∨ (128 ≤ n2 ∧ m.toInt = 1)) ∧ s.toInt = 10 + 4 * m.toInt ∧ l.toInt = ((((((((bs.getD 2 0 &&& (255 : Int32)).toInt * 256 + (bs.getD 3 0 &&& (255 : Int32)).toInt) * 256 + (bs.getD 4 0 &&& (255 : Int32)).toInt) * 256 + (bs.getD 5 0 &&& (255 : Int32)).toInt) * 256 + (bs.getD 6 0 &&& (255 : Int32)).toInt) * 256 + (bs.getD 7 0 &&& (255 : Int32)).toInt) * 256 + (bs.getD 8 0 &&& (255 : Int32)).toInt) * 256 + (bs.getD 9 0 &&& (255 : Int32)).toInt)) := by
  refine Con.of pl3 (L := [.val (.ref a), .val (.int (0 : Int32)), .val (.int (14 : Int32)), .unset, .unset, .unset, .unset, .unset, .unset, .unset, .unset, .unset]) (fun m => by first | (simp [entryFrame, mkF, argsToLocals, Value.category]; done) | rfl) ?_
  intro κ Qx hQ C
  refine W.iloadN C m3_0 rfl ?_
  refine W.iloadN C m3_1 rfl ?_
  refine W.isub C m3_2 (z := (14 : Int32)) rfl ?_
  refine W.iconst C m3_3 (z := (2 : Int32)) rfl ?_
  refine W.icmpY C m3_4 (show (2 : Int) ≤ (14 : Int) from (by decide)) ?_
  refine W.aloadN C m3_9 rfl rfl ?_
  refine W.iloadN C m3_10 rfl ?_
  refine W.baload C m3_11 A0 (i := 0) rfl (own_get (by omega)) ?_
  refine W.sipush C m3_12 (z := (255 : Int32)) rfl ?_
  refine W.iand C m3_15 rfl ?_
  generalize hv1 : ((bs.getD 0 0) &&& (255 : Int32)) = v1
  refine W.istoreN C m3_16 (L' := [.val (.ref a), .val (.int (0 : Int32)), .val (.int (14 : Int32)), .val (.int v1), .unset, .unset, .unset, .unset, .unset, .unset, .unset, .unset]) rfl ?_
  refine W.aloadN C m3_17 rfl rfl ?_
  refine W.iloadN C m3_18 rfl ?_
  refine W.iconst C m3_19 (z := (1 : Int32)) rfl ?_
  refine W.iadd C m3_20 (z := (1 : Int32)) rfl ?_
  refine W.baload C m3_21 A0 (i := 1) rfl (own_get (by omega)) ?_
  refine W.sipush C m3_22 (z := (255 : Int32)) rfl ?_
  refine W.iand C m3_25 rfl ?_
  rw [h2]
  refine W.istore C m3_26 (L' := [.val (.ref a), .val (.int (0 : Int32)), .val (.int (14 : Int32)), .val (.int v1), .val (.int (Int32.ofNat n2)), .unset, .unset, .unset, .unset, .unset, .unset, .unset]) rfl ?_
  refine W.iload C m3_28 rfl ?_
  refine W.sipush C m3_30 (z := (128 : Int32)) rfl ?_
  refine W.iand C m3_33 rfl ?_
  suffices J34 : ∀ (w5 : Int32), ((((((Int32.ofNat n2) &&& (128 : Int32))).toInt = (0 : Int)) ∧ (w5.toInt = (0 : Int))) ∨ ((¬ (((Int32.ofNat n2) &&& (128 : Int32))).toInt = (0 : Int)) ∧ (w5.toInt = (1 : Int)))) → W κ n0 Qx h 0 0 42 [.val (.ref a), .val (.int (0 : Int32)), .val (.int (14 : Int32)), .val (.int v1), .val (.int (Int32.ofNat n2)), .unset, .unset, .unset, .unset, .unset, .unset, .unset] [(.int w5)] by
    refine W.ifc C m3_34 ?_ ?_
    · intro (h34 : (((Int32.ofNat n2) &&& (128 : Int32))).toInt = (0 : Int))
      refine W.iconst C m3_41 (z := (0 : Int32)) rfl ?_
      exact J34 _ (Or.inl ⟨h34, rfl⟩)
    · intro (h34 : ¬ ((((Int32.ofNat n2) &&& (128 : Int32))).toInt = (0 : Int)))
      refine W.iconst C m3_37 (z := (1 : Int32)) rfl ?_
      refine W.goto C m3_38 ?_
      exact J34 _ (Or.inr (⟨h34, rfl⟩))
  intro w5 hJ34
  refine W.istore C m3_42 (L' := [.val (.ref a), .val (.int (0 : Int32)), .val (.int (14 : Int32)), .val (.int v1), .val (.int (Int32.ofNat n2)), .val (.int w5), .unset, .unset, .unset, .unset, .unset, .unset]) rfl ?_
  have h128 := own_128 n2 hn2
  refine W.iload C m3_44 rfl ?_
  refine W.bipush C m3_46 (z := (127 : Int32)) rfl ?_
  refine W.iand C m3_48 rfl ?_
  generalize hv2 : ((Int32.ofNat n2) &&& (127 : Int32)) = v2
  refine W.istore C m3_49 (L' := [.val (.ref a), .val (.int (0 : Int32)), .val (.int (14 : Int32)), .val (.int v1), .val (.int (Int32.ofNat n2)), .val (.int w5), .val (.int v2), .unset, .unset, .unset, .unset, .unset]) rfl ?_
  have h127 := own_127 hn2
  rw [hv2] at h127
  refine W.iload C m3_51 rfl ?_
  refine W.bipush C m3_53 (z := (126 : Int32)) rfl ?_
  refine W.icmpY C m3_55 (show ¬ v2.toInt = (126 : Int) from (by omega)) ?_
  refine W.iload C m3_64 rfl ?_
  refine W.bipush C m3_66 (z := (127 : Int32)) rfl ?_
  refine W.icmpN C m3_68 (show ¬ ¬ v2.toInt = (127 : Int) from (fun q => q (by omega))) ?_
  refine W.bipush C m3_71 (z := (8 : Int32)) rfl ?_
  refine W.istore C m3_73 (L' := [.val (.ref a), .val (.int (0 : Int32)), .val (.int (14 : Int32)), .val (.int v1), .val (.int (Int32.ofNat n2)), .val (.int w5), .val (.int v2), .val (.int (8 : Int32)), .unset, .unset, .unset, .unset]) rfl ?_
  refine W.goto C m3_75 ?_
  refine W.iconst C m3_81 (z := (2 : Int32)) rfl ?_
  refine W.iload C m3_82 rfl ?_
  refine W.iadd C m3_84 (z := (10 : Int32)) rfl ?_
  refine W.iload C m3_85 rfl ?_
  suffices J87 : ∀ (w9 : Int32), (((w5.toInt = (0 : Int)) ∧ (w9.toInt = (0 : Int))) ∨ ((¬ w5.toInt = (0 : Int)) ∧ (w9.toInt = (4 : Int)))) → W κ n0 Qx h 0 0 95 [.val (.ref a), .val (.int (0 : Int32)), .val (.int (14 : Int32)), .val (.int v1), .val (.int (Int32.ofNat n2)), .val (.int w5), .val (.int v2), .val (.int (8 : Int32)), .unset, .unset, .unset, .unset] [(.int w9), (.int (10 : Int32))] by
    refine W.ifc C m3_87 ?_ ?_
    · intro (h87 : w5.toInt = (0 : Int))
      refine W.iconst C m3_94 (z := (0 : Int32)) rfl ?_
      exact J87 _ (Or.inl ⟨h87, rfl⟩)
    · intro (h87 : ¬ (w5.toInt = (0 : Int)))
      refine W.iconst C m3_90 (z := (4 : Int32)) rfl ?_
      refine W.goto C m3_91 ?_
      exact J87 _ (Or.inr (⟨h87, rfl⟩))
  intro w9 hJ87
  refine W.iadd C m3_95 rfl ?_
  generalize hv3 : ((10 : Int32) + w9) = v3
  refine W.istore C m3_96 (L' := [.val (.ref a), .val (.int (0 : Int32)), .val (.int (14 : Int32)), .val (.int v1), .val (.int (Int32.ofNat n2)), .val (.int w5), .val (.int v2), .val (.int (8 : Int32)), .val (.int v3), .unset, .unset, .unset]) rfl ?_
  have hz8 : v3.toInt = 10 + w9.toInt := by
    have e1 := c_iadd (10 : Int32) w9
    have e2 := rng32 ((10 : Int32) + w9)
    have e3 : (10 : Int32).toInt = 10 := rfl
    rw [hv3] at e1 e2
    omega
  refine W.iloadN C m3_98 rfl ?_
  refine W.iloadN C m3_99 rfl ?_
  refine W.isub C m3_100 (z := (14 : Int32)) rfl ?_
  refine W.iload C m3_101 rfl ?_
  refine W.icmpY C m3_103 (show v3.toInt ≤ (14 : Int) from (by omega)) ?_
  refine W.iload C m3_108 rfl ?_
  refine W.ifY C m3_110 (show ¬ (8 : Int) = (0 : Int) from (by decide)) ?_
  refine W.lconst C m3_119 (z := (0 : Int64)) rfl ?_
  refine W.lstore C m3_120 (L' := [.val (.ref a), .val (.int (0 : Int32)), .val (.int (14 : Int32)), .val (.int v1), .val (.int (Int32.ofNat n2)), .val (.int w5), .val (.int v2), .val (.int (8 : Int32)), .val (.int v3), .val (.long (0 : Int64)), .second, .unset]) rfl ?_
  refine W.iconst C m3_122 (z := (0 : Int32)) rfl ?_
  refine W.istore C m3_123 (L' := [.val (.ref a), .val (.int (0 : Int32)), .val (.int (14 : Int32)), .val (.int v1), .val (.int (Int32.ofNat n2)), .val (.int w5), .val (.int v2), .val (.int (8 : Int32)), .val (.int v3), .val (.long (0 : Int64)), .second, .val (.int (0 : Int32))]) rfl ?_
  refine W.iload C m3_125 rfl ?_
  refine W.iload C m3_127 rfl ?_
  refine W.icmpN C m3_129 (show ¬ ((8 : Int) ≤ (0 : Int)) from (by decide)) ?_
  refine W.lload C m3_132 rfl ?_
  refine W.bipush C m3_134 (z := (8 : Int32)) rfl ?_
  refine W.lshl C m3_136 rfl ?_
  refine W.aloadN C m3_137 rfl rfl ?_
  refine W.iloadN C m3_138 rfl ?_
  refine W.iconst C m3_139 (z := (2 : Int32)) rfl ?_
  refine W.iadd C m3_140 (z := (2 : Int32)) rfl ?_
  refine W.iload C m3_141 rfl ?_
  refine W.iadd C m3_143 (z := (2 : Int32)) rfl ?_
  refine W.baload C m3_144 A0 (i := 2) rfl (own_get (by omega)) ?_
  refine W.sipush C m3_145 (z := (255 : Int32)) rfl ?_
  refine W.iand C m3_148 rfl ?_
  refine W.i2l C m3_149 rfl ?_
  refine W.lor C m3_150 rfl ?_
  generalize hv4 : (((0 : Int64) <<< ((8 : Int32) &&& 0x3f).toInt64) ||| ((bs.getD 2 0) &&& (255 : Int32)).toInt64) = v4
  refine W.lstore C m3_151 (L' := [.val (.ref a), .val (.int (0 : Int32)), .val (.int (14 : Int32)), .val (.int v1), .val (.int (Int32.ofNat n2)), .val (.int w5), .val (.int v2), .val (.int (8 : Int32)), .val (.int v3), .val (.long v4), .second, .val (.int (0 : Int32))]) rfl ?_
  have hz0 : (0 : Int64).toInt = 0 := rfl
  have hb0 := own_255 (bs.getD 2 0)
  have hL0 := own_acc hb0 (by omega) hv4
  refine W.iinc C m3_153 rfl (z := (1 : Int32)) rfl (L' := [.val (.ref a), .val (.int (0 : Int32)), .val (.int (14 : Int32)), .val (.int v1), .val (.int (Int32.ofNat n2)), .val (.int w5), .val (.int v2), .val (.int (8 : Int32)), .val (.int v3), .val (.long v4), .second, .val (.int (1 : Int32))]) rfl ?_
  refine W.goto C m3_156 ?_
  refine W.iload C m3_125 rfl ?_
  refine W.iload C m3_127 rfl ?_
  refine W.icmpN C m3_129 (show ¬ ((8 : Int) ≤ (1 : Int)) from (by decide)) ?_
  refine W.lload C m3_132 rfl ?_
  refine W.bipush C m3_134 (z := (8 : Int32)) rfl ?_
  refine W.lshl C m3_136 rfl ?_
  refine W.aloadN C m3_137 rfl rfl ?_
  refine W.iloadN C m3_138 rfl ?_
  refine W.iconst C m3_139 (z := (2 : Int32)) rfl ?_
  refine W.iadd C m3_140 (z := (2 : Int32)) rfl ?_
  refine W.iload C m3_141 rfl ?_
  refine W.iadd C m3_143 (z := (3 : Int32)) rfl ?_
  refine W.baload C m3_144 A0 (i := 3) rfl (own_get (by omega)) ?_
  refine W.sipush C m3_145 (z := (255 : Int32)) rfl ?_
  refine W.iand C m3_148 rfl ?_
  refine W.i2l C m3_149 rfl ?_
  refine W.lor C m3_150 rfl ?_
  generalize hv5 : ((v4 <<< ((8 : Int32) &&& 0x3f).toInt64) ||| ((bs.getD 3 0) &&& (255 : Int32)).toInt64) = v5
  refine W.lstore C m3_151 (L' := [.val (.ref a), .val (.int (0 : Int32)), .val (.int (14 : Int32)), .val (.int v1), .val (.int (Int32.ofNat n2)), .val (.int w5), .val (.int v2), .val (.int (8 : Int32)), .val (.int v3), .val (.long v5), .second, .val (.int (1 : Int32))]) rfl ?_
  have hb1 := own_255 (bs.getD 3 0)
  have hL1 := own_acc hb1 (by omega) hv5
  refine W.iinc C m3_153 rfl (z := (2 : Int32)) rfl (L' := [.val (.ref a), .val (.int (0 : Int32)), .val (.int (14 : Int32)), .val (.int v1), .val (.int (Int32.ofNat n2)), .val (.int w5), .val (.int v2), .val (.int (8 : Int32)), .val (.int v3), .val (.long v5), .second, .val (.int (2 : Int32))]) rfl ?_
  refine W.goto C m3_156 ?_
  refine W.iload C m3_125 rfl ?_
  refine W.iload C m3_127 rfl ?_
  refine W.icmpN C m3_129 (show ¬ ((8 : Int) ≤ (2 : Int)) from (by decide)) ?_
  refine W.lload C m3_132 rfl ?_
  refine W.bipush C m3_134 (z := (8 : Int32)) rfl ?_
  refine W.lshl C m3_136 rfl ?_
  refine W.aloadN C m3_137 rfl rfl ?_
  refine W.iloadN C m3_138 rfl ?_
  refine W.iconst C m3_139 (z := (2 : Int32)) rfl ?_
  refine W.iadd C m3_140 (z := (2 : Int32)) rfl ?_
  refine W.iload C m3_141 rfl ?_
  refine W.iadd C m3_143 (z := (4 : Int32)) rfl ?_
  refine W.baload C m3_144 A0 (i := 4) rfl (own_get (by omega)) ?_
  refine W.sipush C m3_145 (z := (255 : Int32)) rfl ?_
  refine W.iand C m3_148 rfl ?_
  refine W.i2l C m3_149 rfl ?_
  refine W.lor C m3_150 rfl ?_
  generalize hv6 : ((v5 <<< ((8 : Int32) &&& 0x3f).toInt64) ||| ((bs.getD 4 0) &&& (255 : Int32)).toInt64) = v6
  refine W.lstore C m3_151 (L' := [.val (.ref a), .val (.int (0 : Int32)), .val (.int (14 : Int32)), .val (.int v1), .val (.int (Int32.ofNat n2)), .val (.int w5), .val (.int v2), .val (.int (8 : Int32)), .val (.int v3), .val (.long v6), .second, .val (.int (2 : Int32))]) rfl ?_
  have hb2 := own_255 (bs.getD 4 0)
  have hL2 := own_acc hb2 (by omega) hv6
  refine W.iinc C m3_153 rfl (z := (3 : Int32)) rfl (L' := [.val (.ref a), .val (.int (0 : Int32)), .val (.int (14 : Int32)), .val (.int v1), .val (.int (Int32.ofNat n2)), .val (.int w5), .val (.int v2), .val (.int (8 : Int32)), .val (.int v3), .val (.long v6), .second, .val (.int (3 : Int32))]) rfl ?_
  refine W.goto C m3_156 ?_
  refine W.iload C m3_125 rfl ?_
  refine W.iload C m3_127 rfl ?_
  refine W.icmpN C m3_129 (show ¬ ((8 : Int) ≤ (3 : Int)) from (by decide)) ?_
  refine W.lload C m3_132 rfl ?_
  refine W.bipush C m3_134 (z := (8 : Int32)) rfl ?_
  refine W.lshl C m3_136 rfl ?_
  refine W.aloadN C m3_137 rfl rfl ?_
  refine W.iloadN C m3_138 rfl ?_
  refine W.iconst C m3_139 (z := (2 : Int32)) rfl ?_
  refine W.iadd C m3_140 (z := (2 : Int32)) rfl ?_
  refine W.iload C m3_141 rfl ?_
  refine W.iadd C m3_143 (z := (5 : Int32)) rfl ?_
  refine W.baload C m3_144 A0 (i := 5) rfl (own_get (by omega)) ?_
  refine W.sipush C m3_145 (z := (255 : Int32)) rfl ?_
  refine W.iand C m3_148 rfl ?_
  refine W.i2l C m3_149 rfl ?_
  refine W.lor C m3_150 rfl ?_
  generalize hv7 : ((v6 <<< ((8 : Int32) &&& 0x3f).toInt64) ||| ((bs.getD 5 0) &&& (255 : Int32)).toInt64) = v7
  refine W.lstore C m3_151 (L' := [.val (.ref a), .val (.int (0 : Int32)), .val (.int (14 : Int32)), .val (.int v1), .val (.int (Int32.ofNat n2)), .val (.int w5), .val (.int v2), .val (.int (8 : Int32)), .val (.int v3), .val (.long v7), .second, .val (.int (3 : Int32))]) rfl ?_
  have hb3 := own_255 (bs.getD 5 0)
  have hL3 := own_acc hb3 (by omega) hv7
  refine W.iinc C m3_153 rfl (z := (4 : Int32)) rfl (L' := [.val (.ref a), .val (.int (0 : Int32)), .val (.int (14 : Int32)), .val (.int v1), .val (.int (Int32.ofNat n2)), .val (.int w5), .val (.int v2), .val (.int (8 : Int32)), .val (.int v3), .val (.long v7), .second, .val (.int (4 : Int32))]) rfl ?_
  refine W.goto C m3_156 ?_
  refine W.iload C m3_125 rfl ?_
  refine W.iload C m3_127 rfl ?_
  refine W.icmpN C m3_129 (show ¬ ((8 : Int) ≤ (4 : Int)) from (by decide)) ?_
  refine W.lload C m3_132 rfl ?_
  refine W.bipush C m3_134 (z := (8 : Int32)) rfl ?_
  refine W.lshl C m3_136 rfl ?_
  refine W.aloadN C m3_137 rfl rfl ?_
  refine W.iloadN C m3_138 rfl ?_
  refine W.iconst C m3_139 (z := (2 : Int32)) rfl ?_
  refine W.iadd C m3_140 (z := (2 : Int32)) rfl ?_
  refine W.iload C m3_141 rfl ?_
  refine W.iadd C m3_143 (z := (6 : Int32)) rfl ?_
  refine W.baload C m3_144 A0 (i := 6) rfl (own_get (by omega)) ?_
  refine W.sipush C m3_145 (z := (255 : Int32)) rfl ?_
  refine W.iand C m3_148 rfl ?_
  refine W.i2l C m3_149 rfl ?_
  refine W.lor C m3_150 rfl ?_
  generalize hv8 : ((v7 <<< ((8 : Int32) &&& 0x3f).toInt64) ||| ((bs.getD 6 0) &&& (255 : Int32)).toInt64) = v8
  refine W.lstore C m3_151 (L' := [.val (.ref a), .val (.int (0 : Int32)), .val (.int (14 : Int32)), .val (.int v1), .val (.int (Int32.ofNat n2)), .val (.int w5), .val (.int v2), .val (.int (8 : Int32)), .val (.int v3), .val (.long v8), .second, .val (.int (4 : Int32))]) rfl ?_
  have hb4 := own_255 (bs.getD 6 0)
  have hL4 := own_acc hb4 (by omega) hv8
  refine W.iinc C m3_153 rfl (z := (5 : Int32)) rfl (L' := [.val (.ref a), .val (.int (0 : Int32)), .val (.int (14 : Int32)), .val (.int v1), .val (.int (Int32.ofNat n2)), .val (.int w5), .val (.int v2), .val (.int (8 : Int32)), .val (.int v3), .val (.long v8), .second, .val (.int (5 : Int32))]) rfl ?_
  refine W.goto C m3_156 ?_
  refine W.iload C m3_125 rfl ?_
  refine W.iload C m3_127 rfl ?_
  refine W.icmpN C m3_129 (show ¬ ((8 : Int) ≤ (5 : Int)) from (by decide)) ?_
  refine W.lload C m3_132 rfl ?_
  refine W.bipush C m3_134 (z := (8 : Int32)) rfl ?_
  refine W.lshl C m3_136 rfl ?_
  refine W.aloadN C m3_137 rfl rfl ?_
  refine W.iloadN C m3_138 rfl ?_
  refine W.iconst C m3_139 (z := (2 : Int32)) rfl ?_
  refine W.iadd C m3_140 (z := (2 : Int32)) rfl ?_
  refine W.iload C m3_141 rfl ?_
  refine W.iadd C m3_143 (z := (7 : Int32)) rfl ?_
  refine W.baload C m3_144 A0 (i := 7) rfl (own_get (by omega)) ?_
  refine W.sipush C m3_145 (z := (255 : Int32)) rfl ?_
  refine W.iand C m3_148 rfl ?_
  refine W.i2l C m3_149 rfl ?_
  refine W.lor C m3_150 rfl ?_
  generalize hv9 : ((v8 <<< ((8 : Int32) &&& 0x3f).toInt64) ||| ((bs.getD 7 0) &&& (255 : Int32)).toInt64) = v9
  refine W.lstore C m3_151 (L' := [.val (.ref a), .val (.int (0 : Int32)), .val (.int (14 : Int32)), .val (.int v1), .val (.int (Int32.ofNat n2)), .val (.int w5), .val (.int v2), .val (.int (8 : Int32)), .val (.int v3), .val (.long v9), .second, .val (.int (5 : Int32))]) rfl ?_
  have hb5 := own_255 (bs.getD 7 0)
  have hL5 := own_acc hb5 (by omega) hv9
  refine W.iinc C m3_153 rfl (z := (6 : Int32)) rfl (L' := [.val (.ref a), .val (.int (0 : Int32)), .val (.int (14 : Int32)), .val (.int v1), .val (.int (Int32.ofNat n2)), .val (.int w5), .val (.int v2), .val (.int (8 : Int32)), .val (.int v3), .val (.long v9), .second, .val (.int (6 : Int32))]) rfl ?_
  refine W.goto C m3_156 ?_
  refine W.iload C m3_125 rfl ?_
  refine W.iload C m3_127 rfl ?_
  refine W.icmpN C m3_129 (show ¬ ((8 : Int) ≤ (6 : Int)) from (by decide)) ?_
  refine W.lload C m3_132 rfl ?_
  refine W.bipush C m3_134 (z := (8 : Int32)) rfl ?_
  refine W.lshl C m3_136 rfl ?_
  refine W.aloadN C m3_137 rfl rfl ?_
  refine W.iloadN C m3_138 rfl ?_
  refine W.iconst C m3_139 (z := (2 : Int32)) rfl ?_
  refine W.iadd C m3_140 (z := (2 : Int32)) rfl ?_
  refine W.iload C m3_141 rfl ?_
  refine W.iadd C m3_143 (z := (8 : Int32)) rfl ?_
  refine W.baload C m3_144 A0 (i := 8) rfl (own_get (by omega)) ?_
  refine W.sipush C m3_145 (z := (255 : Int32)) rfl ?_
  refine W.iand C m3_148 rfl ?_
  refine W.i2l C m3_149 rfl ?_
  refine W.lor C m3_150 rfl ?_
  generalize hv10 : ((v9 <<< ((8 : Int32) &&& 0x3f).toInt64) ||| ((bs.getD 8 0) &&& (255 : Int32)).toInt64) = v10
  refine W.lstore C m3_151 (L' := [.val (.ref a), .val (.int (0 : Int32)), .val (.int (14 : Int32)), .val (.int v1), .val (.int (Int32.ofNat n2)), .val (.int w5), .val (.int v2), .val (.int (8 : Int32)), .val (.int v3), .val (.long v10), .second, .val (.int (6 : Int32))]) rfl ?_
  have hb6 := own_255 (bs.getD 8 0)
  have hL6 := own_acc hb6 (by omega) hv10
  refine W.iinc C m3_153 rfl (z := (7 : Int32)) rfl (L' := [.val (.ref a), .val (.int (0 : Int32)), .val (.int (14 : Int32)), .val (.int v1), .val (.int (Int32.ofNat n2)), .val (.int w5), .val (.int v2), .val (.int (8 : Int32)), .val (.int v3), .val (.long v10), .second, .val (.int (7 : Int32))]) rfl ?_
  refine W.goto C m3_156 ?_
  refine W.iload C m3_125 rfl ?_
  refine W.iload C m3_127 rfl ?_
  refine W.icmpN C m3_129 (show ¬ ((8 : Int) ≤ (7 : Int)) from (by decide)) ?_
  refine W.lload C m3_132 rfl ?_
  refine W.bipush C m3_134 (z := (8 : Int32)) rfl ?_
  refine W.lshl C m3_136 rfl ?_
  refine W.aloadN C m3_137 rfl rfl ?_
  refine W.iloadN C m3_138 rfl ?_
  refine W.iconst C m3_139 (z := (2 : Int32)) rfl ?_
  refine W.iadd C m3_140 (z := (2 : Int32)) rfl ?_
  refine W.iload C m3_141 rfl ?_
  refine W.iadd C m3_143 (z := (9 : Int32)) rfl ?_
  refine W.baload C m3_144 A0 (i := 9) rfl (own_get (by omega)) ?_
  refine W.sipush C m3_145 (z := (255 : Int32)) rfl ?_
  refine W.iand C m3_148 rfl ?_
  refine W.i2l C m3_149 rfl ?_
  refine W.lor C m3_150 rfl ?_
  generalize hv11 : ((v10 <<< ((8 : Int32) &&& 0x3f).toInt64) ||| ((bs.getD 9 0) &&& (255 : Int32)).toInt64) = v11
  refine W.lstore C m3_151 (L' := [.val (.ref a), .val (.int (0 : Int32)), .val (.int (14 : Int32)), .val (.int v1), .val (.int (Int32.ofNat n2)), .val (.int w5), .val (.int v2), .val (.int (8 : Int32)), .val (.int v3), .val (.long v11), .second, .val (.int (7 : Int32))]) rfl ?_
  have hb7 := own_255 (bs.getD 9 0)
  have hL7 := own_acc hb7 (by omega) hv11
  refine W.iinc C m3_153 rfl (z := (8 : Int32)) rfl (L' := [.val (.ref a), .val (.int (0 : Int32)), .val (.int (14 : Int32)), .val (.int v1), .val (.int (Int32.ofNat n2)), .val (.int w5), .val (.int v2), .val (.int (8 : Int32)), .val (.int v3), .val (.long v11), .second, .val (.int (8 : Int32))]) rfl ?_
  refine W.goto C m3_156 ?_
  refine W.iload C m3_125 rfl ?_
  refine W.iload C m3_127 rfl ?_
  refine W.icmpY C m3_129 (show (8 : Int) ≤ (8 : Int) from (by decide)) ?_
  refine W.new (a0 := a0) C m3_159 (hw _ (List.mem_of_getElem? (i := 14) rfl)) (hw _ (List.mem_of_getElem? (i := 15) rfl)) (hw _ (List.mem_of_getElem? (i := 16) rfl)) (by decide) (by decide) ?_
  intro h12 a13 g14 E15 E16 D17
  have ne18 : a ≠ a13 := Nat.ne_of_lt (Nat.lt_of_lt_of_eq A0.lt g14)
  have g19 : n0 ≤ a13 := Nat.le_trans z0 (Nat.le_of_eq g14)
  have A20 := A0.ext E15
  have z21 : n0 ≤ h12.size := Nat.le_trans z0 E15.1
  have F22 : Fld Z h12 a13 "com/example/hearts_content/heartscontent/websocket/Framing$Header" "isFinal" "Z" (.int (0 : Int32)) := D17 (Or.inr (hw _ (List.mem_of_getElem? (i := 29) rfl))) (ty := .boolean) (by decide)
  have F23 : Fld Z h12 a13 "com/example/hearts_content/heartscontent/websocket/Framing$Header" "opcode" "I" (.int (0 : Int32)) := D17 (Or.inr (hw _ (List.mem_of_getElem? (i := 31) rfl))) (ty := .int) (by decide)
  have F24 : Fld Z h12 a13 "com/example/hearts_content/heartscontent/websocket/Framing$Header" "masked" "Z" (.int (0 : Int32)) := D17 (Or.inr (hw _ (List.mem_of_getElem? (i := 33) rfl))) (ty := .boolean) (by decide)
  have F25 : Fld Z h12 a13 "com/example/hearts_content/heartscontent/websocket/Framing$Header" "length" "J" (.long (0 : Int64)) := D17 (Or.inr (hw _ (List.mem_of_getElem? (i := 35) rfl))) (ty := .long) (by decide)
  have F26 : Fld Z h12 a13 "com/example/hearts_content/heartscontent/websocket/Framing$Header" "size" "I" (.int (0 : Int32)) := D17 (Or.inr (hw _ (List.mem_of_getElem? (i := 37) rfl))) (ty := .int) (by decide)
  show W κ n0 Qx h12 1 5 162 [.val (.ref a), .val (.int (0 : Int32)), .val (.int (14 : Int32)), .val (.int v1), .val (.int (Int32.ofNat n2)), .val (.int w5), .val (.int v2), .val (.int (8 : Int32)), .val (.int v3), .val (.long v11), .second, .val (.int (8 : Int32))] [(.ref a13)]
  refine W.dup C m3_162 rfl ?_
  refine W.iloadN C m3_163 rfl ?_
  refine W.sipush C m3_164 (z := (128 : Int32)) rfl ?_
  refine W.iand C m3_167 rfl ?_
  suffices J168 : ∀ (w27 : Int32), (True) → W κ n0 Qx h12 1 5 176 [.val (.ref a), .val (.int (0 : Int32)), .val (.int (14 : Int32)), .val (.int v1), .val (.int (Int32.ofNat n2)), .val (.int w5), .val (.int v2), .val (.int (8 : Int32)), .val (.int v3), .val (.long v11), .second, .val (.int (8 : Int32))] [(.int w27), (.ref a13), (.ref a13)] by
    refine W.ifc C m3_168 ?_ ?_
    · intro (h168 : ((v1 &&& (128 : Int32))).toInt = (0 : Int))
      refine W.iconst C m3_175 (z := (0 : Int32)) rfl ?_
      exact J168 _ (by trivial)
    · intro (h168 : ¬ (((v1 &&& (128 : Int32))).toInt = (0 : Int)))
      refine W.iconst C m3_171 (z := (1 : Int32)) rfl ?_
      refine W.goto C m3_172 ?_
      exact J168 _ (by trivial)
  intro w27 hJ168
  refine W.iloadN C m3_176 rfl ?_
  refine W.bipush C m3_177 (z := (15 : Int32)) rfl ?_
  refine W.iand C m3_179 rfl ?_
  refine W.iload C m3_180 rfl ?_
  refine W.lload C m3_182 rfl ?_
  refine W.iload C m3_184 rfl ?_
  refine W.callC (y := y4) (wt := 1) C m3_186 rfl (hw _ (List.mem_of_getElem? (i := 17) rfl)) (hw _ (List.mem_of_getElem? (i := 18) rfl)) (hw _ (List.mem_of_getElem? (i := 16) rfl)) (hw _ (List.mem_of_getElem? (i := 19) rfl)) (by decide) pd4 rfl (own_init Z a0 hw a13 w27 (v1 &&& (15 : Int32)) w5 v11 v3 h12 n0 g19 E16 F22 F23 F24 F25 F26 ) (a := a13) (as' := [(.int w27), (.int (v1 &&& (15 : Int32))), (.int w5), (.long v11), (.int v3)]) (rest := [(.ref a13)]) rfl rfl (Nat.le_of_eq rfl) (by decide) (by decide) (by decide) (by decide) ?_
  intro r37 h35 q36
  obtain ⟨rfl, K28, E29, F30, F31, F32, F33, F34⟩ := q36
  have A38 := A20.keep K28 (ninS ne18 nin0)
  have z39 : n0 ≤ h35.size := Nat.le_trans z21 K28.1
  have E40 := E16.keep K28
  show W κ n0 Qx h35 1 5 189 [.val (.ref a), .val (.int (0 : Int32)), .val (.int (14 : Int32)), .val (.int v1), .val (.int (Int32.ofNat n2)), .val (.int w5), .val (.int v2), .val (.int (8 : Int32)), .val (.int v3), .val (.long v11), .second, .val (.int (8 : Int32))] [(.ref a13)]
  refine W.areturn C rfl rfl m3_189 (hQ _ _ ?_)
  exact ⟨a13, rfl, E29, w5, v11, v3, F32, F33, F34, by omega, by omega, by omega⟩
theorem own_bb (x : Int32) : (x.toInt8.toInt32.toInt8.toInt32 &&& (255 : Int32)).toInt = x.toInt % 256 := by
  have e := c_mask x.toInt8.toInt32.toInt8.toInt32 (255 : Int32) 8 (by decide) (by decide)
  have h1 := c_i2b x
  have h2 := c_i2b x.toInt8.toInt32
  omega
theorem own_by0 (q : Int64) : own_by q (0 : Int32) = q.toInt32.toInt8.toInt32.toInt8.toInt32 := by
  have e : (q.toUInt64 >>> ((0 : Int32) &&& 0x3f).toInt64.toUInt64).toInt64 = q := by
    have : ((0 : Int32) &&& 0x3f).toInt64.toUInt64 = 0 := by decide
    rw [this]; simp
  unfold own_by; rw [e]
theorem own_byv0 (q : Int64) : (own_by q (0 : Int32) &&& (255 : Int32)).toInt = q.toInt % 256 := by
  rw [own_by0, own_bb]
  have := c_l2i q
  omega
theorem own_byv8 (q : Int64) (h : 0 ≤ q.toInt) : (own_by q (8 : Int32) &&& (255 : Int32)).toInt = q.toInt / 256 % 256 := by
  unfold own_by
  rw [own_bb]
  have e1 := c_lushr q (8 : Int32) 8 (by decide) (by decide)
  have e2 := c_l2i (q.toUInt64 >>> ((8 : Int32) &&& 0x3f).toInt64.toUInt64).toInt64
  have e3 := rng64 q
  omega
theorem own_byv16 (q : Int64) (h : 0 ≤ q.toInt) : (own_by q (16 : Int32) &&& (255 : Int32)).toInt = q.toInt / 65536 % 256 := by
  unfold own_by
  rw [own_bb]
  have e1 := c_lushr q (16 : Int32) 16 (by decide) (by decide)
  have e2 := c_l2i (q.toUInt64 >>> ((16 : Int32) &&& 0x3f).toInt64.toUInt64).toInt64
  have e3 := rng64 q
  omega
theorem own_byv24 (q : Int64) (h : 0 ≤ q.toInt) : (own_by q (24 : Int32) &&& (255 : Int32)).toInt = q.toInt / 16777216 % 256 := by
  unfold own_by
  rw [own_bb]
  have e1 := c_lushr q (24 : Int32) 24 (by decide) (by decide)
  have e2 := c_l2i (q.toUInt64 >>> ((24 : Int32) &&& 0x3f).toInt64.toUInt64).toInt64
  have e3 := rng64 q
  omega
theorem own_byv32 (q : Int64) (h : 0 ≤ q.toInt) : (own_by q (32 : Int32) &&& (255 : Int32)).toInt = q.toInt / 4294967296 % 256 := by
  unfold own_by
  rw [own_bb]
  have e1 := c_lushr q (32 : Int32) 32 (by decide) (by decide)
  have e2 := c_l2i (q.toUInt64 >>> ((32 : Int32) &&& 0x3f).toInt64.toUInt64).toInt64
  have e3 := rng64 q
  omega
theorem own_byv40 (q : Int64) (h : 0 ≤ q.toInt) : (own_by q (40 : Int32) &&& (255 : Int32)).toInt = q.toInt / 1099511627776 % 256 := by
  unfold own_by
  rw [own_bb]
  have e1 := c_lushr q (40 : Int32) 40 (by decide) (by decide)
  have e2 := c_l2i (q.toUInt64 >>> ((40 : Int32) &&& 0x3f).toInt64.toUInt64).toInt64
  have e3 := rng64 q
  omega
theorem own_byv48 (q : Int64) (h : 0 ≤ q.toInt) : (own_by q (48 : Int32) &&& (255 : Int32)).toInt = q.toInt / 281474976710656 % 256 := by
  unfold own_by
  rw [own_bb]
  have e1 := c_lushr q (48 : Int32) 48 (by decide) (by decide)
  have e2 := c_l2i (q.toUInt64 >>> ((48 : Int32) &&& 0x3f).toInt64.toUInt64).toInt64
  have e3 := rng64 q
  omega
theorem own_byv56 (q : Int64) (h : 0 ≤ q.toInt) : (own_by q (56 : Int32) &&& (255 : Int32)).toInt = q.toInt / 72057594037927936 % 256 := by
  unfold own_by
  rw [own_bb]
  have e1 := c_lushr q (56 : Int32) 56 (by decide) (by decide)
  have e2 := c_l2i (q.toUInt64 >>> ((56 : Int32) &&& 0x3f).toInt64.toUInt64).toInt64
  have e3 := rng64 q
  omega
theorem own_tel (q : Int) (h0 : 0 ≤ q) (h1 : q < 9223372036854775808) : ((((((((q / 72057594037927936 % 256) * 256 + q / 281474976710656 % 256) * 256 + q / 1099511627776 % 256) * 256 + q / 4294967296 % 256) * 256 + q / 16777216 % 256) * 256 + q / 65536 % 256) * 256 + q / 256 % 256) * 256 + q % 256) = q := by
  have s1 : q % 256 = q - 256 * (q / 256) := by omega
  have s2 : q / 256 % 256 = q / 256 - 256 * (q / 65536) := by omega
  have s3 : q / 65536 % 256 = q / 65536 - 256 * (q / 16777216) := by omega
  have s4 : q / 16777216 % 256 = q / 16777216 - 256 * (q / 4294967296) := by omega
  have s5 : q / 4294967296 % 256 = q / 4294967296 - 256 * (q / 1099511627776) := by omega
  have s6 : q / 1099511627776 % 256 = q / 1099511627776 - 256 * (q / 281474976710656) := by omega
  have s7 : q / 281474976710656 % 256 = q / 281474976710656 - 256 * (q / 72057594037927936) := by omega
  have s8 : q / 72057594037927936 % 256 = q / 72057594037927936 := by omega
  rw [s1, s2, s3, s4, s5, s6, s7, s8]
  omega
theorem own_m1b {w : Int32} (h : w.toInt = 0 ∨ w.toInt = 1) : ((w &&& 1) &&& 1).toInt = w.toInt := by
  have e1 := c_mask w (1 : Int32) 1 (by decide) (by decide)
  have e2 := c_mask (w &&& 1) (1 : Int32) 1 (by decide) (by decide)
  omega
theorem own_or7 {mk : Int32} (q : Int64) (h : mk.toInt = 0 ∨ mk.toInt = 128) (hq : 0 ≤ q.toInt ∧ q.toInt ≤ 125) : ((mk.toInt64 ||| q).toInt32).toInt % 256 = mk.toInt + q.toInt := by
  have e := c_i2l mk
  have h1 := c_orL mk.toInt64 q 7 (by decide) 128 rfl (by omega) hq.1 (by omega)
  have h4 := c_l2i (mk.toInt64 ||| q)
  omega
theorem own_or8 {mk k : Int32} (h : mk.toInt = 0 ∨ mk.toInt = 128) (hk : 0 ≤ k.toInt ∧ k.toInt ≤ 127) : (mk ||| k).toInt % 256 = mk.toInt + k.toInt := by
  have h1 := c_or mk k 7 (by decide) 128 rfl (by omega) hk.1 (by omega)
  omega
theorem own_q0 (x : Int64) : 0 ≤ (x &&& (255 : Int64)).toInt := by
  have e := c_maskL x (255 : Int64) 8 (by decide) (by decide)
  omega
theorem own_q1 (x : Int64) : 0 ≤ (x &&& (131071 : Int64)).toInt := by
  have e := c_maskL x (131071 : Int64) 17 (by decide) (by decide)
  omega
theorem own_q2 (x : Int64) : 0 ≤ (x &&& (9223372036854775807 : Int64)).toInt := by
  have e := c_maskL x (9223372036854775807 : Int64) 63 (by decide) (by decide)
  omega
abbrev y0 : MethodName := x
theorem m0_0 : Ins1 code 0 (.iload_n 3) 1 1 := ⟨at_0, rfl⟩
theorem m0_1 : Ins1 code 1 (.iconst 1) 1 2 := ⟨at_1, rfl⟩
theorem m0_2 : Ins1 code 2 (.iand) 1 3 := ⟨at_2, rfl⟩
theorem m0_3 : Jmp1 code 3 (.ifCond .eq 7) 7 6 10 := ⟨at_3, rfl, by decide, by decide⟩
theorem m0_6 : Ins1 code 6 (.iconst 1) 1 7 := ⟨at_6, rfl⟩
theorem m0_7 : Jmp1 code 7 (.goto 4) 4 10 11 := ⟨at_7, rfl, by decide, by decide⟩
theorem m0_10 : Ins1 code 10 (.iconst 0) 1 11 := ⟨at_10, rfl⟩
theorem m0_11 : Ins1 code 11 (.istore 4) 2 13 := ⟨at_11, rfl⟩
theorem m0_13 : Ins1 code 13 (.iload_n 2) 1 14 := ⟨at_13, rfl⟩
theorem m0_14 : Ins1 code 14 (.iconst 3) 1 15 := ⟨at_14, rfl⟩
theorem m0_15 : Ins1 code 15 (.iand) 1 16 := ⟨at_15, rfl⟩
theorem m0_16 : Ins1 code 16 (.istore 5) 2 18 := ⟨at_16, rfl⟩
theorem m0_18 : Ins1 code 18 (.iload 5) 2 20 := ⟨at_18, rfl⟩
theorem m0_20 : Jmp1 code 20 (.ifCond .ne 13) 13 23 33 := ⟨at_20, rfl, by decide, by decide⟩
theorem m0_23 : Ins1 code 23 (.lload_n 0) 1 24 := ⟨at_23, rfl⟩
theorem m0_24 : Ins1 code 24 (.ldc2_w 7) 3 27 := ⟨at_24, rfl⟩
theorem m0_27 : Ins1 code 27 (.land) 1 28 := ⟨at_27, rfl⟩
theorem m0_28 : Ins1 code 28 (.lstore 6) 2 30 := ⟨at_28, rfl⟩
theorem m0_30 : Jmp1 code 30 (.goto 26) 26 33 56 := ⟨at_30, rfl, by decide, by decide⟩
theorem m0_33 : Ins1 code 33 (.iload 5) 2 35 := ⟨at_33, rfl⟩
theorem m0_35 : Ins1 code 35 (.iconst 1) 1 36 := ⟨at_35, rfl⟩
theorem m0_36 : Jmp1 code 36 (.if_icmp .ne 13) 13 39 49 := ⟨at_36, rfl, by decide, by decide⟩
theorem m0_39 : Ins1 code 39 (.lload_n 0) 1 40 := ⟨at_39, rfl⟩
theorem m0_40 : Ins1 code 40 (.ldc2_w 9) 3 43 := ⟨at_40, rfl⟩
theorem m0_43 : Ins1 code 43 (.land) 1 44 := ⟨at_43, rfl⟩
theorem m0_44 : Ins1 code 44 (.lstore 6) 2 46 := ⟨at_44, rfl⟩
theorem m0_46 : Jmp1 code 46 (.goto 10) 10 49 56 := ⟨at_46, rfl, by decide, by decide⟩
theorem m0_49 : Ins1 code 49 (.lload_n 0) 1 50 := ⟨at_49, rfl⟩
theorem m0_50 : Ins1 code 50 (.ldc2_w 13) 3 53 := ⟨at_50, rfl⟩
theorem m0_53 : Ins1 code 53 (.land) 1 54 := ⟨at_53, rfl⟩
theorem m0_54 : Ins1 code 54 (.lstore 6) 2 56 := ⟨at_54, rfl⟩
theorem m0_56 : Ins1 code 56 (.iload 4) 2 58 := ⟨at_56, rfl⟩
theorem m0_58 : Jmp1 code 58 (.ifCond .eq 7) 7 61 65 := ⟨at_58, rfl, by decide, by decide⟩
theorem m0_61 : Ins1 code 61 (.iconst 4) 1 62 := ⟨at_61, rfl⟩
theorem m0_62 : Jmp1 code 62 (.goto 4) 4 65 66 := ⟨at_62, rfl, by decide, by decide⟩
theorem m0_65 : Ins1 code 65 (.iconst 0) 1 66 := ⟨at_65, rfl⟩
theorem m0_66 : Ins1 code 66 (.istore 8) 2 68 := ⟨at_66, rfl⟩
theorem m0_68 : Ins1 code 68 (.lload 6) 2 70 := ⟨at_68, rfl⟩
theorem m0_70 : Ins1 code 70 (.ldc2_w 15) 3 73 := ⟨at_70, rfl⟩
theorem m0_73 : Ins1 code 73 (.lcmp) 1 74 := ⟨at_73, rfl⟩
theorem m0_74 : Jmp1 code 74 (.ifCond .ge 12) 12 77 86 := ⟨at_74, rfl, by decide, by decide⟩
theorem m0_77 : Ins1 code 77 (.iconst 2) 1 78 := ⟨at_77, rfl⟩
theorem m0_78 : Ins1 code 78 (.iload 8) 2 80 := ⟨at_78, rfl⟩
theorem m0_80 : Ins1 code 80 (.iadd) 1 81 := ⟨at_80, rfl⟩
theorem m0_81 : Ins1 code 81 (.istore 9) 2 83 := ⟨at_81, rfl⟩
theorem m0_83 : Jmp1 code 83 (.goto 28) 28 86 111 := ⟨at_83, rfl, by decide, by decide⟩
theorem m0_86 : Ins1 code 86 (.lload 6) 2 88 := ⟨at_86, rfl⟩
theorem m0_88 : Ins1 code 88 (.ldc2_w 17) 3 91 := ⟨at_88, rfl⟩
theorem m0_91 : Ins1 code 91 (.lcmp) 1 92 := ⟨at_91, rfl⟩
theorem m0_92 : Jmp1 code 92 (.ifCond .ge 12) 12 95 104 := ⟨at_92, rfl, by decide, by decide⟩
theorem m0_95 : Ins1 code 95 (.iconst 4) 1 96 := ⟨at_95, rfl⟩
theorem m0_96 : Ins1 code 96 (.iload 8) 2 98 := ⟨at_96, rfl⟩
theorem m0_98 : Ins1 code 98 (.iadd) 1 99 := ⟨at_98, rfl⟩
theorem m0_99 : Ins1 code 99 (.istore 9) 2 101 := ⟨at_99, rfl⟩
theorem m0_101 : Jmp1 code 101 (.goto 10) 10 104 111 := ⟨at_101, rfl, by decide, by decide⟩
theorem m0_104 : Ins1 code 104 (.bipush 10) 2 106 := ⟨at_104, rfl⟩
theorem m0_106 : Ins1 code 106 (.iload 8) 2 108 := ⟨at_106, rfl⟩
theorem m0_108 : Ins1 code 108 (.iadd) 1 109 := ⟨at_108, rfl⟩
theorem m0_109 : Ins1 code 109 (.istore 9) 2 111 := ⟨at_109, rfl⟩
theorem m0_111 : Ins1 code 111 (.lload 6) 2 113 := ⟨at_111, rfl⟩
theorem m0_113 : Ins1 code 113 (.iload 4) 2 115 := ⟨at_113, rfl⟩
theorem m0_115 : Ins1 code 115 (.invokestatic 19) 3 118 := ⟨at_115, rfl⟩
theorem m0_118 : Ins1 code 118 (.istore 10) 2 120 := ⟨at_118, rfl⟩
theorem m0_120 : Ins1 code 120 (.bipush 14) 2 122 := ⟨at_120, rfl⟩
theorem m0_122 : Ins1 code 122 (.newarray .byte) 2 124 := ⟨at_122, rfl⟩
theorem m0_124 : Ins1 code 124 (.astore 11) 2 126 := ⟨at_124, rfl⟩
theorem m0_126 : Ins1 code 126 (.aload 11) 2 128 := ⟨at_126, rfl⟩
theorem m0_128 : Ins1 code 128 (.iconst 0) 1 129 := ⟨at_128, rfl⟩
theorem m0_129 : Ins1 code 129 (.iconst 2) 1 130 := ⟨at_129, rfl⟩
theorem m0_130 : Ins1 code 130 (.lload 6) 2 132 := ⟨at_130, rfl⟩
theorem m0_132 : Ins1 code 132 (.iload 4) 2 134 := ⟨at_132, rfl⟩
theorem m0_134 : Ins1 code 134 (.invokestatic 25) 3 137 := ⟨at_134, rfl⟩
theorem m0_137 : Ins1 code 137 (.istore 12) 2 139 := ⟨at_137, rfl⟩
theorem m0_139 : Ins1 code 139 (.aload 11) 2 141 := ⟨at_139, rfl⟩
theorem m0_141 : Ins1 code 141 (.iconst 0) 1 142 := ⟨at_141, rfl⟩
theorem m0_142 : Ins1 code 142 (.bipush 14) 2 144 := ⟨at_142, rfl⟩
theorem m0_144 : Ins1 code 144 (.invokestatic 29) 3 147 := ⟨at_144, rfl⟩
theorem m0_147 : Ins1 code 147 (.astore 13) 2 149 := ⟨at_147, rfl⟩
theorem m0_149 : Ins1 code 149 (.aload 13) 2 151 := ⟨at_149, rfl⟩
theorem m0_151 : Jmp1 code 151 (.ifnonnull 5) 5 154 156 := ⟨at_151, rfl, by decide, by decide⟩
theorem m0_156 : Ins1 code 156 (.iload 10) 2 158 := ⟨at_156, rfl⟩
theorem m0_158 : Ins1 code 158 (.iload 9) 2 160 := ⟨at_158, rfl⟩
theorem m0_160 : Jmp1 code 160 (.if_icmp .ne 61) 61 163 221 := ⟨at_160, rfl, by decide, by decide⟩
theorem m0_163 : Ins1 code 163 (.iload 12) 2 165 := ⟨at_163, rfl⟩
theorem m0_165 : Ins1 code 165 (.iload 8) 2 167 := ⟨at_165, rfl⟩
theorem m0_167 : Ins1 code 167 (.iadd) 1 168 := ⟨at_167, rfl⟩
theorem m0_168 : Ins1 code 168 (.iload 10) 2 170 := ⟨at_168, rfl⟩
theorem m0_170 : Jmp1 code 170 (.if_icmp .ne 51) 51 173 221 := ⟨at_170, rfl, by decide, by decide⟩
theorem m0_173 : Ins1 code 173 (.aload 13) 2 175 := ⟨at_173, rfl⟩
theorem m0_175 : Ins1 code 175 (.invokevirtual 33) 3 178 := ⟨at_175, rfl⟩
theorem m0_178 : Ins1 code 178 (.iload 10) 2 180 := ⟨at_178, rfl⟩
theorem m0_180 : Jmp1 code 180 (.if_icmp .ne 41) 41 183 221 := ⟨at_180, rfl, by decide, by decide⟩
theorem m0_183 : Ins1 code 183 (.aload 13) 2 185 := ⟨at_183, rfl⟩
theorem m0_185 : Ins1 code 185 (.invokevirtual 39) 3 188 := ⟨at_185, rfl⟩
theorem m0_188 : Ins1 code 188 (.lload 6) 2 190 := ⟨at_188, rfl⟩
theorem m0_190 : Ins1 code 190 (.lcmp) 1 191 := ⟨at_190, rfl⟩
theorem m0_191 : Jmp1 code 191 (.ifCond .ne 30) 30 194 221 := ⟨at_191, rfl, by decide, by decide⟩
theorem m0_194 : Ins1 code 194 (.aload 13) 2 196 := ⟨at_194, rfl⟩
theorem m0_196 : Ins1 code 196 (.invokevirtual 43) 3 199 := ⟨at_196, rfl⟩
theorem m0_199 : Ins1 code 199 (.iload 4) 2 201 := ⟨at_199, rfl⟩
theorem m0_201 : Jmp1 code 201 (.if_icmp .ne 20) 20 204 221 := ⟨at_201, rfl, by decide, by decide⟩
theorem m0_204 : Ins1 code 204 (.iload 10) 2 206 := ⟨at_204, rfl⟩
theorem m0_206 : Ins1 code 206 (.iconst 2) 1 207 := ⟨at_206, rfl⟩
theorem m0_207 : Jmp1 code 207 (.if_icmp .lt 14) 14 210 221 := ⟨at_207, rfl, by decide, by decide⟩
theorem m0_210 : Ins1 code 210 (.iload 10) 2 212 := ⟨at_210, rfl⟩
theorem m0_212 : Ins1 code 212 (.bipush 14) 2 214 := ⟨at_212, rfl⟩
theorem m0_214 : Jmp1 code 214 (.if_icmp .gt 7) 7 217 221 := ⟨at_214, rfl, by decide, by decide⟩
theorem m0_217 : Ins1 code 217 (.iconst 1) 1 218 := ⟨at_217, rfl⟩
theorem m0_218 : Jmp1 code 218 (.goto 4) 4 221 222 := ⟨at_218, rfl, by decide, by decide⟩
theorem m0_221 : Ins1 code 221 (.iconst 0) 1 222 := ⟨at_221, rfl⟩
theorem m0_222 : Ins1 code 222 (.ireturn) 1 223 := ⟨at_222, rfl⟩
theorem pl0 : plainFor y0 = true := plainFor_of_name (show plainName "com/example/hearts_content/heartscontent/websocket/FramingHeaderLengthPinLaw" = true by first | (simp [plainName, overriddenIn]; done) | decide +kernel)
theorem pd0 : parseMethodDescriptor "(JII)Z" = some ⟨[.long, .int, .int], some .boolean⟩ := by decide +kernel
set_option maxRecDepth 65536 in
set_option maxHeartbeats 4000000 in
theorem own_law (Z : State) (a0 : Array Value) (hw : ∀ d ∈ tables_1, d.before a0 Z = true) (q0 : Int64) (p1 : Int32) (p2 : Int32)  (h : Heap) (n0 : Nat) (z0 : n0 ≤ h.size) :
    Con Z y0 code maxLocals ret room_1 [(.long q0), (.int p1), (.int p2)] h n0 (fun v h' => v = some (.int 1)) := by
  refine Con.of pl0 (L := [.val (.long q0), .second, .val (.int p1), .val (.int p2), .unset, .unset, .unset, .unset, .unset, .unset, .unset, .unset, .unset, .unset]) (fun m => by first | (simp [entryFrame, mkF, argsToLocals, Value.category, maxLocals]; done) | rfl) ?_
  intro κ Qx hQ C
  replace C : Good κ room_1 Z "com/example/hearts_content/heartscontent/websocket/FramingHeaderLengthPinLaw" "law" code 14 (some .boolean) := C
  refine W.iloadN C m0_0 rfl ?_
  refine W.iconst C m0_1 (z := (1 : Int32)) rfl ?_
  refine W.iand C m0_2 rfl ?_
  suffices J3 : ∀ (w4 : Int32), (((((p2 &&& (1 : Int32))).toInt = (0 : Int)) ∧ (w4.toInt = (0 : Int))) ∨ ((¬ ((p2 &&& (1 : Int32))).toInt = (0 : Int)) ∧ (w4.toInt = (1 : Int)))) → W κ n0 Qx h 0 0 11 [.val (.long q0), .second, .val (.int p1), .val (.int p2), .unset, .unset, .unset, .unset, .unset, .unset, .unset, .unset, .unset, .unset] [(.int w4)] by
    refine W.ifc C m0_3 ?_ ?_
    · intro (h3 : ((p2 &&& (1 : Int32))).toInt = (0 : Int))
      refine W.iconst C m0_10 (z := (0 : Int32)) rfl ?_
      exact J3 _ (Or.inl ⟨h3, rfl⟩)
    · intro (h3 : ¬ (((p2 &&& (1 : Int32))).toInt = (0 : Int)))
      refine W.iconst C m0_6 (z := (1 : Int32)) rfl ?_
      refine W.goto C m0_7 ?_
      exact J3 _ (Or.inr (⟨h3, rfl⟩))
  intro w4 hJ3
  refine W.istore C m0_11 (L' := [.val (.long q0), .second, .val (.int p1), .val (.int p2), .val (.int w4), .unset, .unset, .unset, .unset, .unset, .unset, .unset, .unset, .unset]) rfl ?_
  refine W.iloadN C m0_13 rfl ?_
  refine W.iconst C m0_14 (z := (3 : Int32)) rfl ?_
  refine W.iand C m0_15 rfl ?_
  generalize hv1 : (p1 &&& (3 : Int32)) = v1
  refine W.istore C m0_16 (L' := [.val (.long q0), .second, .val (.int p1), .val (.int p2), .val (.int w4), .val (.int v1), .unset, .unset, .unset, .unset, .unset, .unset, .unset, .unset]) rfl ?_
  refine W.iload C m0_18 rfl ?_
  suffices J20 : ∀ (w6 : Int64), (0 ≤ w6.toInt) → W κ n0 Qx h 0 0 56 [.val (.long q0), .second, .val (.int p1), .val (.int p2), .val (.int w4), .val (.int v1), .val (.long w6), .second, .unset, .unset, .unset, .unset, .unset, .unset] [] by
    refine W.ifc C m0_20 ?_ ?_
    · intro (h20 : ¬ v1.toInt = (0 : Int))
      refine W.iload C m0_33 rfl ?_
      refine W.iconst C m0_35 (z := (1 : Int32)) rfl ?_
      refine W.icmp C m0_36 ?_ ?_
      · intro (h36 : ¬ v1.toInt = (1 : Int))
        refine W.lloadN C m0_49 rfl ?_
        refine W.ldc2 C m0_50 (hw _ (List.mem_of_getElem? (i := 0) rfl)) ?_
        refine W.land C m0_53 rfl ?_
        refine W.lstore C m0_54 (L' := [.val (.long q0), .second, .val (.int p1), .val (.int p2), .val (.int w4), .val (.int v1), .val (.long (q0 &&& (9223372036854775807 : Int64))), .second, .unset, .unset, .unset, .unset, .unset, .unset]) rfl ?_
        exact J20 _ (by first | exact own_q0 _ | exact own_q1 _ | exact own_q2 _)
      · intro (h36 : ¬ ¬ v1.toInt = (1 : Int))
        replace h36 := Decidable.not_not.mp h36
        refine W.lloadN C m0_39 rfl ?_
        refine W.ldc2 C m0_40 (hw _ (List.mem_of_getElem? (i := 59) rfl)) ?_
        refine W.land C m0_43 rfl ?_
        refine W.lstore C m0_44 (L' := [.val (.long q0), .second, .val (.int p1), .val (.int p2), .val (.int w4), .val (.int v1), .val (.long (q0 &&& (131071 : Int64))), .second, .unset, .unset, .unset, .unset, .unset, .unset]) rfl ?_
        refine W.goto C m0_46 ?_
        exact J20 _ (by first | exact own_q0 _ | exact own_q1 _ | exact own_q2 _)
    · intro (h20 : ¬ ¬ v1.toInt = (0 : Int))
      replace h20 := Decidable.not_not.mp h20
      refine W.lloadN C m0_23 rfl ?_
      refine W.ldc2 C m0_24 (hw _ (List.mem_of_getElem? (i := 58) rfl)) ?_
      refine W.land C m0_27 rfl ?_
      refine W.lstore C m0_28 (L' := [.val (.long q0), .second, .val (.int p1), .val (.int p2), .val (.int w4), .val (.int v1), .val (.long (q0 &&& (255 : Int64))), .second, .unset, .unset, .unset, .unset, .unset, .unset]) rfl ?_
      refine W.goto C m0_30 ?_
      exact J20 _ (by first | exact own_q0 _ | exact own_q1 _ | exact own_q2 _)
  intro w6 hJ20
  refine W.iload C m0_56 rfl ?_
  suffices J58 : ∀ (w8 : Int32), (((w4.toInt = (0 : Int)) ∧ (w8.toInt = (0 : Int))) ∨ ((¬ w4.toInt = (0 : Int)) ∧ (w8.toInt = (4 : Int)))) → W κ n0 Qx h 0 0 66 [.val (.long q0), .second, .val (.int p1), .val (.int p2), .val (.int w4), .val (.int v1), .val (.long w6), .second, .unset, .unset, .unset, .unset, .unset, .unset] [(.int w8)] by
    refine W.ifc C m0_58 ?_ ?_
    · intro (h58 : w4.toInt = (0 : Int))
      refine W.iconst C m0_65 (z := (0 : Int32)) rfl ?_
      exact J58 _ (Or.inl ⟨h58, rfl⟩)
    · intro (h58 : ¬ (w4.toInt = (0 : Int)))
      refine W.iconst C m0_61 (z := (4 : Int32)) rfl ?_
      refine W.goto C m0_62 ?_
      exact J58 _ (Or.inr (⟨h58, rfl⟩))
  intro w8 hJ58
  refine W.istore C m0_66 (L' := [.val (.long q0), .second, .val (.int p1), .val (.int p2), .val (.int w4), .val (.int v1), .val (.long w6), .second, .val (.int w8), .unset, .unset, .unset, .unset, .unset]) rfl ?_
  have hq0 : 0 ≤ w6.toInt := hJ20
  refine W.lload C m0_68 rfl ?_
  refine W.ldc2 C m0_70 (hw _ (List.mem_of_getElem? (i := 1) rfl)) ?_
  suffices J73 : ∀ (w9 : Int32), ((((126 : Int) ≤ w6.toInt) ∧ ((65536 : Int) ≤ w6.toInt) ∧ (w9.toInt = (((10 : Int32) + w8)).toInt)) ∨ (((126 : Int) ≤ w6.toInt) ∧ (w6.toInt < (65536 : Int)) ∧ (w9.toInt = (((4 : Int32) + w8)).toInt)) ∨ ((w6.toInt < (126 : Int)) ∧ (w9.toInt = (((2 : Int32) + w8)).toInt))) → W κ n0 Qx h 0 0 111 [.val (.long q0), .second, .val (.int p1), .val (.int p2), .val (.int w4), .val (.int v1), .val (.long w6), .second, .val (.int w8), .val (.int w9), .unset, .unset, .unset, .unset] [] by
    refine W.lc C m0_73 m0_74 ?_ ?_
    · intro (h73 : (126 : Int) ≤ w6.toInt)
      refine W.lload C m0_86 rfl ?_
      refine W.ldc2 C m0_88 (hw _ (List.mem_of_getElem? (i := 53) rfl)) ?_
      refine W.lc C m0_91 m0_92 ?_ ?_
      · intro (h91 : (65536 : Int) ≤ w6.toInt)
        refine W.bipush C m0_104 (z := (10 : Int32)) rfl ?_
        refine W.iload C m0_106 rfl ?_
        refine W.iadd C m0_108 rfl ?_
        refine W.istore C m0_109 (L' := [.val (.long q0), .second, .val (.int p1), .val (.int p2), .val (.int w4), .val (.int v1), .val (.long w6), .second, .val (.int w8), .val (.int ((10 : Int32) + w8)), .unset, .unset, .unset, .unset]) rfl ?_
        exact J73 _ (Or.inl ⟨h73, h91, rfl⟩)
      · intro (h91 : ¬ ((65536 : Int) ≤ w6.toInt))
        replace h91 : w6.toInt < (65536 : Int) := by omega
        refine W.iconst C m0_95 (z := (4 : Int32)) rfl ?_
        refine W.iload C m0_96 rfl ?_
        refine W.iadd C m0_98 rfl ?_
        refine W.istore C m0_99 (L' := [.val (.long q0), .second, .val (.int p1), .val (.int p2), .val (.int w4), .val (.int v1), .val (.long w6), .second, .val (.int w8), .val (.int ((4 : Int32) + w8)), .unset, .unset, .unset, .unset]) rfl ?_
        refine W.goto C m0_101 ?_
        exact J73 _ (Or.inr (Or.inl ⟨h73, h91, rfl⟩))
    · intro (h73 : ¬ ((126 : Int) ≤ w6.toInt))
      replace h73 : w6.toInt < (126 : Int) := by omega
      refine W.iconst C m0_77 (z := (2 : Int32)) rfl ?_
      refine W.iload C m0_78 rfl ?_
      refine W.iadd C m0_80 rfl ?_
      refine W.istore C m0_81 (L' := [.val (.long q0), .second, .val (.int p1), .val (.int p2), .val (.int w4), .val (.int v1), .val (.long w6), .second, .val (.int w8), .val (.int ((2 : Int32) + w8)), .unset, .unset, .unset, .unset]) rfl ?_
      refine W.goto C m0_83 ?_
      exact J73 _ (Or.inr (Or.inr (⟨h73, rfl⟩)))
  intro w9 hJ73
  have hi2 := c_iadd (2 : Int32) w8
  have hi4 := c_iadd (4 : Int32) w8
  have hi10 := c_iadd (10 : Int32) w8
  have hj2 := rng32 ((2 : Int32) + w8)
  have hj4 := rng32 ((4 : Int32) + w8)
  have hj10 := rng32 ((10 : Int32) + w8)
  have hk2 : (2 : Int32).toInt = 2 := rfl
  have hk4 : (4 : Int32).toInt = 4 := rfl
  have hk10 : (10 : Int32).toInt = 10 := rfl
  refine W.lload C m0_111 rfl ?_
  refine W.iload C m0_113 rfl ?_
  obtain ⟨ex, hex⟩ : ∃ e : Int, (w4.toInt = 0 ∧ e = 0) ∨ (¬ w4.toInt = 0 ∧ e = 4) := by
    by_cases hz : w4.toInt = 0
    · exact ⟨0, Or.inl ⟨hz, rfl⟩⟩
    · exact ⟨4, Or.inr ⟨hz, rfl⟩⟩
  refine W.callS (y := y1) (wt := 0) C m0_115 (hw _ (List.mem_of_getElem? (i := 2) rfl)) (hw _ (List.mem_of_getElem? (i := 3) rfl)) (hw _ (List.mem_of_getElem? (i := 4) rfl)) (hw _ (List.mem_of_getElem? (i := 5) rfl)) (by decide) pd1 rfl (own_hl Z a0 hw w6 w4 ex h n0 hex) (as' := [(.long w6), (.int w4)]) (rest := []) rfl rfl (Nat.le_of_eq rfl) (by decide) (by decide) (by decide) (by decide) ?_
  intro r5 h3 q4
  obtain ⟨rfl, r2, rfl, hr2⟩ := q4
  show W κ n0 Qx h 0 0 118 [.val (.long q0), .second, .val (.int p1), .val (.int p2), .val (.int w4), .val (.int v1), .val (.long w6), .second, .val (.int w8), .val (.int w9), .unset, .unset, .unset, .unset] [(.int r2)]
  refine W.istore C m0_118 (L' := [.val (.long q0), .second, .val (.int p1), .val (.int p2), .val (.int w4), .val (.int v1), .val (.long w6), .second, .val (.int w8), .val (.int w9), .val (.int r2), .unset, .unset, .unset]) rfl ?_
  refine W.bipush C m0_120 (z := (14 : Int32)) rfl ?_
  refine W.newarray (a0 := a0) (vs := [(.int (0 : Int32)), (.int (0 : Int32)), (.int (0 : Int32)), (.int (0 : Int32)), (.int (0 : Int32)), (.int (0 : Int32)), (.int (0 : Int32)), (.int (0 : Int32)), (.int (0 : Int32)), (.int (0 : Int32)), (.int (0 : Int32)), (.int (0 : Int32)), (.int (0 : Int32)), (.int (0 : Int32))]) 14 C m0_122 rfl (hw _ (List.mem_of_getElem? (i := 7) rfl)) (by decide) (by decide) rfl (by decide) (by decide) (by decide) ?_
  intro h6 a7 g8 E9 A10
  have g11 : n0 ≤ a7 := Nat.le_trans z0 (Nat.le_of_eq g8)
  have z12 : n0 ≤ h6.size := Nat.le_trans z0 E9.1
  show W κ n0 Qx h6 1 14 124 [.val (.long q0), .second, .val (.int p1), .val (.int p2), .val (.int w4), .val (.int v1), .val (.long w6), .second, .val (.int w8), .val (.int w9), .val (.int r2), .unset, .unset, .unset] [(.ref a7)]
  refine W.astore C m0_124 (L' := [.val (.long q0), .second, .val (.int p1), .val (.int p2), .val (.int w4), .val (.int v1), .val (.long w6), .second, .val (.int w8), .val (.int w9), .val (.int r2), .val (.ref a7), .unset, .unset]) rfl rfl ?_
  obtain ⟨bs, hbs⟩ : ∃ l : List Int32, l = [(0 : Int32), (0 : Int32), (0 : Int32), (0 : Int32), (0 : Int32), (0 : Int32), (0 : Int32), (0 : Int32), (0 : Int32), (0 : Int32), (0 : Int32), (0 : Int32), (0 : Int32), (0 : Int32)] := ⟨_, rfl⟩
  have AB : Av Z h6 a7 .byte (bs.map Value.int) := by rw [hbs]; exact A10
  have hlbs : bs.length = 14 := by rw [hbs]; rfl
  refine W.aload C m0_126 rfl rfl ?_
  refine W.iconst C m0_128 (z := (0 : Int32)) rfl ?_
  refine W.iconst C m0_129 (z := (2 : Int32)) rfl ?_
  refine W.lload C m0_130 rfl ?_
  refine W.iload C m0_132 rfl ?_
  refine W.callS (y := y2) (wt := 0) C m0_134 (hw _ (List.mem_of_getElem? (i := 8) rfl)) (hw _ (List.mem_of_getElem? (i := 9) rfl)) (hw _ (List.mem_of_getElem? (i := 4) rfl)) (hw _ (List.mem_of_getElem? (i := 10) rfl)) (by decide) pd2 rfl (own_wh Z a0 hw a7 (0 : Int32) (2 : Int32) w6 w4 bs 0 14 h6 n0 AB hlbs (by decide) (by decide) rfl g11) (as' := [(.ref a7), (.int (0 : Int32)), (.int (2 : Int32)), (.long w6), (.int w4)]) (rest := []) rfl rfl (Nat.le_of_eq rfl) (by decide) (by decide) (by decide) (by decide) ?_
  intro r20 h18 q19
  obtain ⟨K13, mk14, cs15, r16, rfl, A17, hmk, hwh⟩ := q19
  have z21 : n0 ≤ h18.size := Nat.le_trans z12 K13.1
  show W κ n0 Qx h18 1 14 137 [.val (.long q0), .second, .val (.int p1), .val (.int p2), .val (.int w4), .val (.int v1), .val (.long w6), .second, .val (.int w8), .val (.int w9), .val (.int r2), .val (.ref a7), .unset, .unset] [(.int r16)]
  refine W.istore C m0_137 (L' := [.val (.long q0), .second, .val (.int p1), .val (.int p2), .val (.int w4), .val (.int v1), .val (.long w6), .second, .val (.int w8), .val (.int w9), .val (.int r2), .val (.ref a7), .val (.int r16), .unset]) rfl ?_
  refine W.aload C m0_139 rfl rfl ?_
  refine W.iconst C m0_141 (z := (0 : Int32)) rfl ?_
  refine W.bipush C m0_142 (z := (14 : Int32)) rfl ?_
  rcases hwh with ⟨g1, g2, g3⟩ | ⟨g1, g4, g2, g3⟩ | ⟨g1, g2, g3⟩
  · skip
    have hlcs : cs15.length = 14 := by rw [g3]; simp [hlbs]
    have hb1 : (cs15.getD 1 0 &&& (255 : Int32)).toInt = mk14.toInt + w6.toInt := by
      rw [g3, hbs]
      show ((mk14.toInt64 ||| w6).toInt32.toInt8.toInt32.toInt8.toInt32 &&& (255 : Int32)).toInt = _
      rw [own_bb, own_or7 w6 (by omega) (by omega)]
    obtain ⟨n2, hn2, h2, hv2⟩ : ∃ n2 : Nat, n2 < 256 ∧ (cs15.getD 1 0 &&& (255 : Int32)) = Int32.ofNat n2 ∧ (n2 : Int) = mk14.toInt + w6.toInt := by
      obtain ⟨n, e1, e2, e3⟩ := natOf (x := (cs15.getD 1 0 &&& (255 : Int32))) (by omega)
      exact ⟨n, by omega, e1, by omega⟩
    have hc : n2 % 128 ≤ 125 := by omega
    refine W.callS (y := y3) (wt := 0) C m0_144 (hw _ (List.mem_of_getElem? (i := 11) rfl)) (hw _ (List.mem_of_getElem? (i := 12) rfl)) (hw _ (List.mem_of_getElem? (i := 4) rfl)) (hw _ (List.mem_of_getElem? (i := 13) rfl)) (by decide) pd3 rfl (own_rh0 Z a0 hw a7 cs15 n2 h18 n0 z21 A17 hlcs hn2 h2 hc) (as' := [(.ref a7), (.int (0 : Int32)), (.int (14 : Int32))]) (rest := []) rfl rfl (Nat.le_of_eq rfl) (by decide) (by decide) (by decide) (by decide) ?_
    intro r32 h30 q31
    obtain ⟨o22, rfl, E23, m24, l25, s26, F27, F28, F29, hm1, hs1, hl1⟩ := q31
    show W κ n0 Qx h30 2 19 147 [.val (.long q0), .second, .val (.int p1), .val (.int p2), .val (.int w4), .val (.int v1), .val (.long w6), .second, .val (.int w8), .val (.int w9), .val (.int r2), .val (.ref a7), .val (.int r16), .unset] [(.ref o22)]
    refine W.astore C m0_147 (L' := [.val (.long q0), .second, .val (.int p1), .val (.int p2), .val (.int w4), .val (.int v1), .val (.long w6), .second, .val (.int w8), .val (.int w9), .val (.int r2), .val (.ref a7), .val (.int r16), .val (.ref o22)]) rfl rfl ?_
    refine W.aload C m0_149 rfl rfl ?_
    refine W.ifnonnullY C m0_151 ?_
    have hm2 := own_m1b (w := m24) (by omega)
    refine W.iload C m0_156 rfl ?_
    refine W.iload C m0_158 rfl ?_
    refine W.icmp C m0_160 ?_ ?_
    · intro (h160 : ¬ r2.toInt = w9.toInt)
      refine W.iconst C m0_221 (z := (0 : Int32)) rfl ?_
      refine W.zreturn C m0_222 (hQ _ _ ?_)
      exfalso
      omega
    · intro (h160 : ¬ ¬ r2.toInt = w9.toInt)
      replace h160 := Decidable.not_not.mp h160
      refine W.iload C m0_163 rfl ?_
      refine W.iload C m0_165 rfl ?_
      refine W.iadd C m0_167 rfl ?_
      have hn1 := c_iadd r16 w8
      have hn2' := rng32 (r16 + w8)
      refine W.iload C m0_168 rfl ?_
      refine W.icmp C m0_170 ?_ ?_
      · intro (h170 : ¬ ((r16 + w8)).toInt = r2.toInt)
        refine W.iconst C m0_221 (z := (0 : Int32)) rfl ?_
        refine W.zreturn C m0_222 (hQ _ _ ?_)
        exfalso
        omega
      · intro (h170 : ¬ ¬ ((r16 + w8)).toInt = r2.toInt)
        replace h170 := Decidable.not_not.mp h170
        refine W.aload C m0_173 rfl rfl ?_
        refine W.callV (y := y7) (wt := 0) C m0_175 (hw _ (List.mem_of_getElem? (i := 38) rfl)) (hw _ (List.mem_of_getElem? (i := 39) rfl)) (hw _ (List.mem_of_getElem? (i := 41) rfl)) (hw _ (List.mem_of_getElem? (i := 40) rfl)) (hw _ (List.mem_of_getElem? (i := 16) rfl)) (hw _ (List.mem_of_getElem? (i := 42) rfl)) (by decide) E23 pd7 rfl (own_size Z a0 hw o22 s26 h30 n0 F29) (as' := []) (rest := []) rfl rfl (Nat.le_of_eq rfl) (by decide) (by decide) (by decide) (by decide) ?_
        intro r35 h33 q34
        obtain ⟨rfl, rfl⟩ := q34
        show W κ n0 Qx h30 2 19 178 [.val (.long q0), .second, .val (.int p1), .val (.int p2), .val (.int w4), .val (.int v1), .val (.long w6), .second, .val (.int w8), .val (.int w9), .val (.int r2), .val (.ref a7), .val (.int r16), .val (.ref o22)] [(.int s26)]
        refine W.iload C m0_178 rfl ?_
        refine W.icmp C m0_180 ?_ ?_
        · intro (h180 : ¬ s26.toInt = r2.toInt)
          refine W.iconst C m0_221 (z := (0 : Int32)) rfl ?_
          refine W.zreturn C m0_222 (hQ _ _ ?_)
          exfalso
          omega
        · intro (h180 : ¬ ¬ s26.toInt = r2.toInt)
          replace h180 := Decidable.not_not.mp h180
          refine W.aload C m0_183 rfl rfl ?_
          refine W.callV (y := y8) (wt := 0) C m0_185 (hw _ (List.mem_of_getElem? (i := 43) rfl)) (hw _ (List.mem_of_getElem? (i := 44) rfl)) (hw _ (List.mem_of_getElem? (i := 46) rfl)) (hw _ (List.mem_of_getElem? (i := 45) rfl)) (hw _ (List.mem_of_getElem? (i := 16) rfl)) (hw _ (List.mem_of_getElem? (i := 47) rfl)) (by decide) E23 pd8 rfl (own_length Z a0 hw o22 l25 h30 n0 F28) (as' := []) (rest := []) rfl rfl (Nat.le_of_eq rfl) (by decide) (by decide) (by decide) (by decide) ?_
          intro r38 h36 q37
          obtain ⟨rfl, rfl⟩ := q37
          show W κ n0 Qx h30 2 19 188 [.val (.long q0), .second, .val (.int p1), .val (.int p2), .val (.int w4), .val (.int v1), .val (.long w6), .second, .val (.int w8), .val (.int w9), .val (.int r2), .val (.ref a7), .val (.int r16), .val (.ref o22)] [(.long l25)]
          refine W.lload C m0_188 rfl ?_
          refine W.lc C m0_190 m0_191 ?_ ?_
          · intro (h190 : ¬ l25.toInt = w6.toInt)
            refine W.iconst C m0_221 (z := (0 : Int32)) rfl ?_
            refine W.zreturn C m0_222 (hQ _ _ ?_)
            exfalso
            omega
          · intro (h190 : ¬ ¬ l25.toInt = w6.toInt)
            replace h190 := Decidable.not_not.mp h190
            refine W.aload C m0_194 rfl rfl ?_
            refine W.callV (y := y9) (wt := 0) C m0_196 (hw _ (List.mem_of_getElem? (i := 48) rfl)) (hw _ (List.mem_of_getElem? (i := 49) rfl)) (hw _ (List.mem_of_getElem? (i := 51) rfl)) (hw _ (List.mem_of_getElem? (i := 50) rfl)) (hw _ (List.mem_of_getElem? (i := 16) rfl)) (hw _ (List.mem_of_getElem? (i := 52) rfl)) (by decide) E23 pd9 rfl (own_masked Z a0 hw o22 (m24 &&& 1) h30 n0 F27) (as' := []) (rest := []) rfl rfl (Nat.le_of_eq rfl) (by decide) (by decide) (by decide) (by decide) ?_
            intro r41 h39 q40
            obtain ⟨rfl, rfl⟩ := q40
            show W κ n0 Qx h30 2 19 199 [.val (.long q0), .second, .val (.int p1), .val (.int p2), .val (.int w4), .val (.int v1), .val (.long w6), .second, .val (.int w8), .val (.int w9), .val (.int r2), .val (.ref a7), .val (.int r16), .val (.ref o22)] [(.int ((m24 &&& 1) &&& 1))]
            refine W.iload C m0_199 rfl ?_
            refine W.icmp C m0_201 ?_ ?_
            · intro (h201 : ¬ (((m24 &&& 1) &&& 1)).toInt = w4.toInt)
              refine W.iconst C m0_221 (z := (0 : Int32)) rfl ?_
              refine W.zreturn C m0_222 (hQ _ _ ?_)
              exfalso
              omega
            · intro (h201 : ¬ ¬ (((m24 &&& 1) &&& 1)).toInt = w4.toInt)
              replace h201 := Decidable.not_not.mp h201
              refine W.iload C m0_204 rfl ?_
              refine W.iconst C m0_206 (z := (2 : Int32)) rfl ?_
              refine W.icmp C m0_207 ?_ ?_
              · intro (h207 : r2.toInt < (2 : Int))
                refine W.iconst C m0_221 (z := (0 : Int32)) rfl ?_
                refine W.zreturn C m0_222 (hQ _ _ ?_)
                exfalso
                omega
              · intro (h207 : ¬ (r2.toInt < (2 : Int)))
                replace h207 : (2 : Int) ≤ r2.toInt := by omega
                refine W.iload C m0_210 rfl ?_
                refine W.bipush C m0_212 (z := (14 : Int32)) rfl ?_
                refine W.icmp C m0_214 ?_ ?_
                · intro (h214 : (14 : Int) < r2.toInt)
                  refine W.iconst C m0_221 (z := (0 : Int32)) rfl ?_
                  refine W.zreturn C m0_222 (hQ _ _ ?_)
                  exfalso
                  omega
                · intro (h214 : ¬ ((14 : Int) < r2.toInt))
                  replace h214 : r2.toInt ≤ (14 : Int) := by omega
                  refine W.iconst C m0_217 (z := (1 : Int32)) rfl ?_
                  refine W.goto C m0_218 ?_
                  refine W.zreturn C m0_222 (hQ _ _ ?_)
                  exact rfl
  · skip
    have hlcs : cs15.length = 14 := by rw [g3]; simp [hlbs]
    have hb1 : (cs15.getD 1 0 &&& (255 : Int32)).toInt = mk14.toInt + 126 := by
      rw [g3, hbs]
      show ((mk14 ||| (126 : Int32)).toInt8.toInt32.toInt8.toInt32 &&& (255 : Int32)).toInt = _
      rw [own_bb, own_or8 (by omega) (by decide)]; rfl
    obtain ⟨n2, hn2, h2, hv2⟩ : ∃ n2 : Nat, n2 < 256 ∧ (cs15.getD 1 0 &&& (255 : Int32)) = Int32.ofNat n2 ∧ (n2 : Int) = mk14.toInt + 126 := by
      obtain ⟨n, e1, e2, e3⟩ := natOf (x := (cs15.getD 1 0 &&& (255 : Int32))) (by omega)
      exact ⟨n, by omega, e1, by omega⟩
    have hc : n2 % 128 = 126 := by omega
    have hy0 : (cs15.getD 2 0 &&& (255 : Int32)).toInt = w6.toInt / 256 % 256 := by
      rw [g3, hbs]
      exact own_byv8 w6 hq0
    have hy1 : (cs15.getD 3 0 &&& (255 : Int32)).toInt = w6.toInt % 256 := by
      rw [g3, hbs]
      exact own_byv0 w6
    refine W.callS (y := y3) (wt := 0) C m0_144 (hw _ (List.mem_of_getElem? (i := 11) rfl)) (hw _ (List.mem_of_getElem? (i := 12) rfl)) (hw _ (List.mem_of_getElem? (i := 4) rfl)) (hw _ (List.mem_of_getElem? (i := 13) rfl)) (by decide) pd3 rfl (own_rh1 Z a0 hw a7 cs15 n2 h18 n0 z21 A17 hlcs hn2 h2 hc) (as' := [(.ref a7), (.int (0 : Int32)), (.int (14 : Int32))]) (rest := []) rfl rfl (Nat.le_of_eq rfl) (by decide) (by decide) (by decide) (by decide) ?_
    intro r43 h41 q42
    obtain ⟨o33, rfl, E34, m35, l36, s37, F38, F39, F40, hm1, hs1, hl1⟩ := q42
    show W κ n0 Qx h41 2 19 147 [.val (.long q0), .second, .val (.int p1), .val (.int p2), .val (.int w4), .val (.int v1), .val (.long w6), .second, .val (.int w8), .val (.int w9), .val (.int r2), .val (.ref a7), .val (.int r16), .unset] [(.ref o33)]
    refine W.astore C m0_147 (L' := [.val (.long q0), .second, .val (.int p1), .val (.int p2), .val (.int w4), .val (.int v1), .val (.long w6), .second, .val (.int w8), .val (.int w9), .val (.int r2), .val (.ref a7), .val (.int r16), .val (.ref o33)]) rfl rfl ?_
    refine W.aload C m0_149 rfl rfl ?_
    refine W.ifnonnullY C m0_151 ?_
    rw [hy0, hy1] at hl1
    have hm2 := own_m1b (w := m35) (by omega)
    refine W.iload C m0_156 rfl ?_
    refine W.iload C m0_158 rfl ?_
    refine W.icmp C m0_160 ?_ ?_
    · intro (h160 : ¬ r2.toInt = w9.toInt)
      refine W.iconst C m0_221 (z := (0 : Int32)) rfl ?_
      refine W.zreturn C m0_222 (hQ _ _ ?_)
      exfalso
      omega
    · intro (h160 : ¬ ¬ r2.toInt = w9.toInt)
      replace h160 := Decidable.not_not.mp h160
      refine W.iload C m0_163 rfl ?_
      refine W.iload C m0_165 rfl ?_
      refine W.iadd C m0_167 rfl ?_
      have hn1 := c_iadd r16 w8
      have hn2' := rng32 (r16 + w8)
      refine W.iload C m0_168 rfl ?_
      refine W.icmp C m0_170 ?_ ?_
      · intro (h170 : ¬ ((r16 + w8)).toInt = r2.toInt)
        refine W.iconst C m0_221 (z := (0 : Int32)) rfl ?_
        refine W.zreturn C m0_222 (hQ _ _ ?_)
        exfalso
        omega
      · intro (h170 : ¬ ¬ ((r16 + w8)).toInt = r2.toInt)
        replace h170 := Decidable.not_not.mp h170
        refine W.aload C m0_173 rfl rfl ?_
        refine W.callV (y := y7) (wt := 0) C m0_175 (hw _ (List.mem_of_getElem? (i := 38) rfl)) (hw _ (List.mem_of_getElem? (i := 39) rfl)) (hw _ (List.mem_of_getElem? (i := 41) rfl)) (hw _ (List.mem_of_getElem? (i := 40) rfl)) (hw _ (List.mem_of_getElem? (i := 16) rfl)) (hw _ (List.mem_of_getElem? (i := 42) rfl)) (by decide) E34 pd7 rfl (own_size Z a0 hw o33 s37 h41 n0 F40) (as' := []) (rest := []) rfl rfl (Nat.le_of_eq rfl) (by decide) (by decide) (by decide) (by decide) ?_
        intro r46 h44 q45
        obtain ⟨rfl, rfl⟩ := q45
        show W κ n0 Qx h41 2 19 178 [.val (.long q0), .second, .val (.int p1), .val (.int p2), .val (.int w4), .val (.int v1), .val (.long w6), .second, .val (.int w8), .val (.int w9), .val (.int r2), .val (.ref a7), .val (.int r16), .val (.ref o33)] [(.int s37)]
        refine W.iload C m0_178 rfl ?_
        refine W.icmp C m0_180 ?_ ?_
        · intro (h180 : ¬ s37.toInt = r2.toInt)
          refine W.iconst C m0_221 (z := (0 : Int32)) rfl ?_
          refine W.zreturn C m0_222 (hQ _ _ ?_)
          exfalso
          omega
        · intro (h180 : ¬ ¬ s37.toInt = r2.toInt)
          replace h180 := Decidable.not_not.mp h180
          refine W.aload C m0_183 rfl rfl ?_
          refine W.callV (y := y8) (wt := 0) C m0_185 (hw _ (List.mem_of_getElem? (i := 43) rfl)) (hw _ (List.mem_of_getElem? (i := 44) rfl)) (hw _ (List.mem_of_getElem? (i := 46) rfl)) (hw _ (List.mem_of_getElem? (i := 45) rfl)) (hw _ (List.mem_of_getElem? (i := 16) rfl)) (hw _ (List.mem_of_getElem? (i := 47) rfl)) (by decide) E34 pd8 rfl (own_length Z a0 hw o33 l36 h41 n0 F39) (as' := []) (rest := []) rfl rfl (Nat.le_of_eq rfl) (by decide) (by decide) (by decide) (by decide) ?_
          intro r49 h47 q48
          obtain ⟨rfl, rfl⟩ := q48
          show W κ n0 Qx h41 2 19 188 [.val (.long q0), .second, .val (.int p1), .val (.int p2), .val (.int w4), .val (.int v1), .val (.long w6), .second, .val (.int w8), .val (.int w9), .val (.int r2), .val (.ref a7), .val (.int r16), .val (.ref o33)] [(.long l36)]
          refine W.lload C m0_188 rfl ?_
          refine W.lc C m0_190 m0_191 ?_ ?_
          · intro (h190 : ¬ l36.toInt = w6.toInt)
            refine W.iconst C m0_221 (z := (0 : Int32)) rfl ?_
            refine W.zreturn C m0_222 (hQ _ _ ?_)
            exfalso
            omega
          · intro (h190 : ¬ ¬ l36.toInt = w6.toInt)
            replace h190 := Decidable.not_not.mp h190
            refine W.aload C m0_194 rfl rfl ?_
            refine W.callV (y := y9) (wt := 0) C m0_196 (hw _ (List.mem_of_getElem? (i := 48) rfl)) (hw _ (List.mem_of_getElem? (i := 49) rfl)) (hw _ (List.mem_of_getElem? (i := 51) rfl)) (hw _ (List.mem_of_getElem? (i := 50) rfl)) (hw _ (List.mem_of_getElem? (i := 16) rfl)) (hw _ (List.mem_of_getElem? (i := 52) rfl)) (by decide) E34 pd9 rfl (own_masked Z a0 hw o33 (m35 &&& 1) h41 n0 F38) (as' := []) (rest := []) rfl rfl (Nat.le_of_eq rfl) (by decide) (by decide) (by decide) (by decide) ?_
            intro r52 h50 q51
            obtain ⟨rfl, rfl⟩ := q51
            show W κ n0 Qx h41 2 19 199 [.val (.long q0), .second, .val (.int p1), .val (.int p2), .val (.int w4), .val (.int v1), .val (.long w6), .second, .val (.int w8), .val (.int w9), .val (.int r2), .val (.ref a7), .val (.int r16), .val (.ref o33)] [(.int ((m35 &&& 1) &&& 1))]
            refine W.iload C m0_199 rfl ?_
            refine W.icmp C m0_201 ?_ ?_
            · intro (h201 : ¬ (((m35 &&& 1) &&& 1)).toInt = w4.toInt)
              refine W.iconst C m0_221 (z := (0 : Int32)) rfl ?_
              refine W.zreturn C m0_222 (hQ _ _ ?_)
              exfalso
              omega
            · intro (h201 : ¬ ¬ (((m35 &&& 1) &&& 1)).toInt = w4.toInt)
              replace h201 := Decidable.not_not.mp h201
              refine W.iload C m0_204 rfl ?_
              refine W.iconst C m0_206 (z := (2 : Int32)) rfl ?_
              refine W.icmp C m0_207 ?_ ?_
              · intro (h207 : r2.toInt < (2 : Int))
                refine W.iconst C m0_221 (z := (0 : Int32)) rfl ?_
                refine W.zreturn C m0_222 (hQ _ _ ?_)
                exfalso
                omega
              · intro (h207 : ¬ (r2.toInt < (2 : Int)))
                replace h207 : (2 : Int) ≤ r2.toInt := by omega
                refine W.iload C m0_210 rfl ?_
                refine W.bipush C m0_212 (z := (14 : Int32)) rfl ?_
                refine W.icmp C m0_214 ?_ ?_
                · intro (h214 : (14 : Int) < r2.toInt)
                  refine W.iconst C m0_221 (z := (0 : Int32)) rfl ?_
                  refine W.zreturn C m0_222 (hQ _ _ ?_)
                  exfalso
                  omega
                · intro (h214 : ¬ ((14 : Int) < r2.toInt))
                  replace h214 : r2.toInt ≤ (14 : Int) := by omega
                  refine W.iconst C m0_217 (z := (1 : Int32)) rfl ?_
                  refine W.goto C m0_218 ?_
                  refine W.zreturn C m0_222 (hQ _ _ ?_)
                  exact rfl
  · skip
    have hlcs : cs15.length = 14 := by rw [g3]; simp [hlbs]
    have hb1 : (cs15.getD 1 0 &&& (255 : Int32)).toInt = mk14.toInt + 127 := by
      rw [g3, hbs]
      show ((mk14 ||| (127 : Int32)).toInt8.toInt32.toInt8.toInt32 &&& (255 : Int32)).toInt = _
      rw [own_bb, own_or8 (by omega) (by decide)]; rfl
    obtain ⟨n2, hn2, h2, hv2⟩ : ∃ n2 : Nat, n2 < 256 ∧ (cs15.getD 1 0 &&& (255 : Int32)) = Int32.ofNat n2 ∧ (n2 : Int) = mk14.toInt + 127 := by
      obtain ⟨n, e1, e2, e3⟩ := natOf (x := (cs15.getD 1 0 &&& (255 : Int32))) (by omega)
      exact ⟨n, by omega, e1, by omega⟩
    have hc : n2 % 128 = 127 := by omega
    have hy0 : (cs15.getD 2 0 &&& (255 : Int32)).toInt = w6.toInt / 72057594037927936 % 256 := by
      rw [g3, hbs]
      exact own_byv56 w6 hq0
    have hy1 : (cs15.getD 3 0 &&& (255 : Int32)).toInt = w6.toInt / 281474976710656 % 256 := by
      rw [g3, hbs]
      exact own_byv48 w6 hq0
    have hy2 : (cs15.getD 4 0 &&& (255 : Int32)).toInt = w6.toInt / 1099511627776 % 256 := by
      rw [g3, hbs]
      exact own_byv40 w6 hq0
    have hy3 : (cs15.getD 5 0 &&& (255 : Int32)).toInt = w6.toInt / 4294967296 % 256 := by
      rw [g3, hbs]
      exact own_byv32 w6 hq0
    have hy4 : (cs15.getD 6 0 &&& (255 : Int32)).toInt = w6.toInt / 16777216 % 256 := by
      rw [g3, hbs]
      exact own_byv24 w6 hq0
    have hy5 : (cs15.getD 7 0 &&& (255 : Int32)).toInt = w6.toInt / 65536 % 256 := by
      rw [g3, hbs]
      exact own_byv16 w6 hq0
    have hy6 : (cs15.getD 8 0 &&& (255 : Int32)).toInt = w6.toInt / 256 % 256 := by
      rw [g3, hbs]
      exact own_byv8 w6 hq0
    have hy7 : (cs15.getD 9 0 &&& (255 : Int32)).toInt = w6.toInt % 256 := by
      rw [g3, hbs]
      exact own_byv0 w6
    have hrq := rng64 w6
    have hb : (cs15.getD 2 0 &&& (255 : Int32)).toInt ≤ 127 := by rw [hy0]; omega
    refine W.callS (y := y3) (wt := 0) C m0_144 (hw _ (List.mem_of_getElem? (i := 11) rfl)) (hw _ (List.mem_of_getElem? (i := 12) rfl)) (hw _ (List.mem_of_getElem? (i := 4) rfl)) (hw _ (List.mem_of_getElem? (i := 13) rfl)) (by decide) pd3 rfl (own_rh2 Z a0 hw a7 cs15 n2 h18 n0 z21 A17 hlcs hn2 h2 hc hb) (as' := [(.ref a7), (.int (0 : Int32)), (.int (14 : Int32))]) (rest := []) rfl rfl (Nat.le_of_eq rfl) (by decide) (by decide) (by decide) (by decide) ?_
    intro r54 h52 q53
    obtain ⟨o44, rfl, E45, m46, l47, s48, F49, F50, F51, hm1, hs1, hl1⟩ := q53
    show W κ n0 Qx h52 2 19 147 [.val (.long q0), .second, .val (.int p1), .val (.int p2), .val (.int w4), .val (.int v1), .val (.long w6), .second, .val (.int w8), .val (.int w9), .val (.int r2), .val (.ref a7), .val (.int r16), .unset] [(.ref o44)]
    refine W.astore C m0_147 (L' := [.val (.long q0), .second, .val (.int p1), .val (.int p2), .val (.int w4), .val (.int v1), .val (.long w6), .second, .val (.int w8), .val (.int w9), .val (.int r2), .val (.ref a7), .val (.int r16), .val (.ref o44)]) rfl rfl ?_
    refine W.aload C m0_149 rfl rfl ?_
    refine W.ifnonnullY C m0_151 ?_
    rw [hy0, hy1, hy2, hy3, hy4, hy5, hy6, hy7, own_tel _ hq0 (by omega)] at hl1
    have hm2 := own_m1b (w := m46) (by omega)
    refine W.iload C m0_156 rfl ?_
    refine W.iload C m0_158 rfl ?_
    refine W.icmp C m0_160 ?_ ?_
    · intro (h160 : ¬ r2.toInt = w9.toInt)
      refine W.iconst C m0_221 (z := (0 : Int32)) rfl ?_
      refine W.zreturn C m0_222 (hQ _ _ ?_)
      exfalso
      omega
    · intro (h160 : ¬ ¬ r2.toInt = w9.toInt)
      replace h160 := Decidable.not_not.mp h160
      refine W.iload C m0_163 rfl ?_
      refine W.iload C m0_165 rfl ?_
      refine W.iadd C m0_167 rfl ?_
      have hn1 := c_iadd r16 w8
      have hn2' := rng32 (r16 + w8)
      refine W.iload C m0_168 rfl ?_
      refine W.icmp C m0_170 ?_ ?_
      · intro (h170 : ¬ ((r16 + w8)).toInt = r2.toInt)
        refine W.iconst C m0_221 (z := (0 : Int32)) rfl ?_
        refine W.zreturn C m0_222 (hQ _ _ ?_)
        exfalso
        omega
      · intro (h170 : ¬ ¬ ((r16 + w8)).toInt = r2.toInt)
        replace h170 := Decidable.not_not.mp h170
        refine W.aload C m0_173 rfl rfl ?_
        refine W.callV (y := y7) (wt := 0) C m0_175 (hw _ (List.mem_of_getElem? (i := 38) rfl)) (hw _ (List.mem_of_getElem? (i := 39) rfl)) (hw _ (List.mem_of_getElem? (i := 41) rfl)) (hw _ (List.mem_of_getElem? (i := 40) rfl)) (hw _ (List.mem_of_getElem? (i := 16) rfl)) (hw _ (List.mem_of_getElem? (i := 42) rfl)) (by decide) E45 pd7 rfl (own_size Z a0 hw o44 s48 h52 n0 F51) (as' := []) (rest := []) rfl rfl (Nat.le_of_eq rfl) (by decide) (by decide) (by decide) (by decide) ?_
        intro r57 h55 q56
        obtain ⟨rfl, rfl⟩ := q56
        show W κ n0 Qx h52 2 19 178 [.val (.long q0), .second, .val (.int p1), .val (.int p2), .val (.int w4), .val (.int v1), .val (.long w6), .second, .val (.int w8), .val (.int w9), .val (.int r2), .val (.ref a7), .val (.int r16), .val (.ref o44)] [(.int s48)]
        refine W.iload C m0_178 rfl ?_
        refine W.icmp C m0_180 ?_ ?_
        · intro (h180 : ¬ s48.toInt = r2.toInt)
          refine W.iconst C m0_221 (z := (0 : Int32)) rfl ?_
          refine W.zreturn C m0_222 (hQ _ _ ?_)
          exfalso
          omega
        · intro (h180 : ¬ ¬ s48.toInt = r2.toInt)
          replace h180 := Decidable.not_not.mp h180
          refine W.aload C m0_183 rfl rfl ?_
          refine W.callV (y := y8) (wt := 0) C m0_185 (hw _ (List.mem_of_getElem? (i := 43) rfl)) (hw _ (List.mem_of_getElem? (i := 44) rfl)) (hw _ (List.mem_of_getElem? (i := 46) rfl)) (hw _ (List.mem_of_getElem? (i := 45) rfl)) (hw _ (List.mem_of_getElem? (i := 16) rfl)) (hw _ (List.mem_of_getElem? (i := 47) rfl)) (by decide) E45 pd8 rfl (own_length Z a0 hw o44 l47 h52 n0 F50) (as' := []) (rest := []) rfl rfl (Nat.le_of_eq rfl) (by decide) (by decide) (by decide) (by decide) ?_
          intro r60 h58 q59
          obtain ⟨rfl, rfl⟩ := q59
          show W κ n0 Qx h52 2 19 188 [.val (.long q0), .second, .val (.int p1), .val (.int p2), .val (.int w4), .val (.int v1), .val (.long w6), .second, .val (.int w8), .val (.int w9), .val (.int r2), .val (.ref a7), .val (.int r16), .val (.ref o44)] [(.long l47)]
          refine W.lload C m0_188 rfl ?_
          refine W.lc C m0_190 m0_191 ?_ ?_
          · intro (h190 : ¬ l47.toInt = w6.toInt)
            refine W.iconst C m0_221 (z := (0 : Int32)) rfl ?_
            refine W.zreturn C m0_222 (hQ _ _ ?_)
            exfalso
            omega
          · intro (h190 : ¬ ¬ l47.toInt = w6.toInt)
            replace h190 := Decidable.not_not.mp h190
            refine W.aload C m0_194 rfl rfl ?_
            refine W.callV (y := y9) (wt := 0) C m0_196 (hw _ (List.mem_of_getElem? (i := 48) rfl)) (hw _ (List.mem_of_getElem? (i := 49) rfl)) (hw _ (List.mem_of_getElem? (i := 51) rfl)) (hw _ (List.mem_of_getElem? (i := 50) rfl)) (hw _ (List.mem_of_getElem? (i := 16) rfl)) (hw _ (List.mem_of_getElem? (i := 52) rfl)) (by decide) E45 pd9 rfl (own_masked Z a0 hw o44 (m46 &&& 1) h52 n0 F49) (as' := []) (rest := []) rfl rfl (Nat.le_of_eq rfl) (by decide) (by decide) (by decide) (by decide) ?_
            intro r63 h61 q62
            obtain ⟨rfl, rfl⟩ := q62
            show W κ n0 Qx h52 2 19 199 [.val (.long q0), .second, .val (.int p1), .val (.int p2), .val (.int w4), .val (.int v1), .val (.long w6), .second, .val (.int w8), .val (.int w9), .val (.int r2), .val (.ref a7), .val (.int r16), .val (.ref o44)] [(.int ((m46 &&& 1) &&& 1))]
            refine W.iload C m0_199 rfl ?_
            refine W.icmp C m0_201 ?_ ?_
            · intro (h201 : ¬ (((m46 &&& 1) &&& 1)).toInt = w4.toInt)
              refine W.iconst C m0_221 (z := (0 : Int32)) rfl ?_
              refine W.zreturn C m0_222 (hQ _ _ ?_)
              exfalso
              omega
            · intro (h201 : ¬ ¬ (((m46 &&& 1) &&& 1)).toInt = w4.toInt)
              replace h201 := Decidable.not_not.mp h201
              refine W.iload C m0_204 rfl ?_
              refine W.iconst C m0_206 (z := (2 : Int32)) rfl ?_
              refine W.icmp C m0_207 ?_ ?_
              · intro (h207 : r2.toInt < (2 : Int))
                refine W.iconst C m0_221 (z := (0 : Int32)) rfl ?_
                refine W.zreturn C m0_222 (hQ _ _ ?_)
                exfalso
                omega
              · intro (h207 : ¬ (r2.toInt < (2 : Int)))
                replace h207 : (2 : Int) ≤ r2.toInt := by omega
                refine W.iload C m0_210 rfl ?_
                refine W.bipush C m0_212 (z := (14 : Int32)) rfl ?_
                refine W.icmp C m0_214 ?_ ?_
                · intro (h214 : (14 : Int) < r2.toInt)
                  refine W.iconst C m0_221 (z := (0 : Int32)) rfl ?_
                  refine W.zreturn C m0_222 (hQ _ _ ?_)
                  exfalso
                  omega
                · intro (h214 : ¬ ((14 : Int) < r2.toInt))
                  replace h214 : r2.toInt ≤ (14 : Int) := by omega
                  refine W.iconst C m0_217 (z := (1 : Int32)) rfl ?_
                  refine W.goto C m0_218 ?_
                  refine W.zreturn C m0_222 (hQ _ _ ?_)
                  exact rfl
set_option maxRecDepth 65536 in
set_option maxHeartbeats 4000000 in
theorem comes_1 {Post : Tables → Env → Array Value → State → Outcome → State → Prop} (hpost : ∀ tb e args s v u, (limb_1_1.after args s (.returned v) u = true ∧ limb_1_2.after args s (.returned v) u = true ∧ True) → FrameEnd s (.returned v) u (Jvm.fieldLocs frame_1_writes args s ++ Jvm.arrayLocs frame_1_arrays args s ++ Jvm.staticLocs frame_1_statics s) 16 128 → Post tb e args s (.returned v) u) :
    ArmFor flags0 classFile x code maxLocals ret World_1 tables_1 room_1 Calls_1 rest_1 Pre_1 Post := by
  intro l hfl _ _ p e ha hc hk s m args below hf hA hF happ hP
  obtain ⟨hcalls, hrest, hpre⟩ := hP
  obtain ⟨-, -, -, hnamed, -, -, -, hat⟩ := (Spec.applies_iff hf).mp happ
  obtain ⟨hg, hn⟩ := and_e (Cond.before_iff.mp (show (Jvm.Cond.and given_1 narrow_1).before args s = true from hpre))
  obtain ⟨hcount, hg0⟩ := and_e hg
  obtain ⟨ha0, hg1⟩ := and_e hg0
  obtain ⟨ha1, hg2⟩ := and_e hg1
  have ha2 := hg2
  obtain ⟨w0, w1, w2, rfl⟩ : ∃ w0 w1 w2 : Value, args = #[w0, w1, w2] := by
    have hs : args.size = 3 := by simpa [Cond.value, given_1] using hcount
    obtain ⟨L⟩ := args
    match L, hs with
    | [w0, w1, w2], _ => exact ⟨w0, w1, w2, rfl⟩
  have hw := fun d (hd : d ∈ tables_1) => atoms_spec (ws := Jvm.Cond.code x code maxLocals ret :: tables_1) hat d (List.mem_cons_of_mem _ hd)
  obtain ⟨i0, ei0⟩ := isL_v ha0
  obtain rfl : w0 = (.long i0) := Option.some.inj ei0
  obtain ⟨i1, ei1⟩ := is_v ha1
  obtain rfl : w1 = (.int i1) := Option.some.inj ei1
  obtain ⟨i2, ei2⟩ := is_v ha2
  obtain rfl : w2 = (.int i2) := Option.some.inj ei2
  obtain ⟨n, o, h1, h2, h3, _, L, rfl, ⟨rfl, N⟩, hq⟩ := own_law s _ hw i0 i1 i2 s.heap s.heap.size (Nat.le_refl _) l tables_1 p e ha hc hk s m _ below hf ((Spec.applies_iff_loose hf).mp happ).1 ⟨rfl, State.Warmed39.refl s, rfl⟩ trivial
  refine ⟨n, _, h1, h2, h3, hpost _ _ _ _ _ _ ⟨Cond.after_iff.mpr rfl, Cond.after_iff.mpr (eq_i res_at (Term.int_eval (1)) rfl), trivial⟩ ⟨hq.1, hq.2.1, (hq.2.2.sift fun y hy => Or.inr (N y hy)).mono (by decide) (by decide)⟩⟩
theorem main_1_1 : Claimed_1_1 := comes_1 fun _ _ _ _ _ _ h hF => ⟨h.1, hF⟩
theorem main_1_2 : Claimed_1_2 := comes_1 fun _ _ _ _ _ _ h hF => ⟨h.2.1, hF⟩
end Jvm.Pilot.@@N@@
namespace Jvm.Pilot.@@N@@
open Jvm Jvm.ClassFile Sem Op Lib Jvm.Free Jvm.Stand Jvm.Pilot.@@N@@.Jvm.D
/-! MADE BY PROGRAM (witnessworld.py) out of the Statement's table words and the real class files: 11 classes; the members and pool entries that the words name. The judged class is class 1, her method 1. -/
namespace start1
open Jvm.ClassFile
def u (s : String) : CpInfo := .utf8 (stringToUtf16 s)
/-- a pool by its gaps: so many unusable entries, then the entry; so many at the end -/
def gap : Nat → List CpInfo → List CpInfo
  | 0, r => r
  | n + 1, r => .unusable :: gap n r
def poolList (es : List (Nat × CpInfo)) (last : Nat) : List CpInfo := es.foldr (fun e r => gap e.1 (e.2 :: r)) (gap last [])
def pool (es : List (Nat × CpInfo)) (last : Nat) : Array CpInfo := ⟨poolList es last⟩
def fileOf (pool : Array CpInfo) (this : Nat) (attrs : Array Attribute := #[]) (ms : Array MethodInfo := #[]) (fl : Nat := 33) (sup : Nat := 0) (ifs : Array Nat := #[]) (fds : Array FieldInfo := #[]) : ClassFile where
  minorVersion := 0
  majorVersion := 65
  constantPool := pool
  accessFlags := fl
  thisClass := this
  superClass := sup
  interfaces := ifs
  fields := fds
  methods := ms
  attributes := attrs
def plain (name : String) (sup : Option ClassId) : Class where
  name := name
  kind := .ordinary
  loader := none
  accessFlags := 33
  super := sup
  interfaces := #[]
  cf := none
  fields := #[]
  methods := #[]
  instanceTypes := #[]
  staticTypes := #[]
  resolved := #[]
  callSites := []
  init := .initialized
  statics := none
  mirror := none

def pool0 : Array CpInfo := pool [(5, u "<init>"), (0, u "()V"), (1, .class_ 10), (1, u "java/lang/Object")] 113

def k0c0 : Code := { maxStack := 0, maxLocals := 1, code := object_method_1_code, exceptionTable := #[], attributes := #[] }
def k0m0 : Method := { name := "<init>", desc := "()V", sig := { parameters := [], returnType := none }, accessFlags := 1, code := some k0c0 }
/-- java/lang/Object -/
def k0 : Class := { plain "java/lang/Object" none with
  accessFlags := 33
  interfaces := #[]
  cf := some (fileOf pool0 8 #[] #[{ accessFlags := 1, nameIndex := 5, descriptorIndex := 6, attributes := #[] }] 33 0 #[] #[])
  fields := #[]
  methods := #[k0m0]
  instanceTypes := #[]
  staticTypes := #[]
  resolved := Array.replicate 124 none
  statics := none }

def pool1 : Array CpInfo := pool [(2, .class_ 4), (1, u "java/lang/Object"), (0, u "<init>"), (0, u "()V"), (0, .long 255), (1, .long 131071), (3, .long 9223372036854775807), (1, .long 126), (1, .long 65536), (1, .methodref 20 21), (0, .class_ 22), (0, .nameAndType 23 24), (0, u "com/example/hearts_content/heartscontent/websocket/Framing"), (0, u "headerLength"), (0, u "(JZ)I"), (0, .methodref 20 26), (0, .nameAndType 27 28), (0, u "writeHeader"), (0, u "([BIIJZ)I"), (0, .methodref 20 30), (0, .nameAndType 31 32), (0, u "readHeader"), (0, u "([BII)Lcom/example/hearts_content/heartscontent/websocket/Framing$Header;"), (0, .methodref 34 35), (0, .class_ 36), (0, .nameAndType 37 38), (0, u "com/example/hearts_content/heartscontent/websocket/Framing$Header"), (0, u "size"), (0, u "()I"), (0, .methodref 34 40), (0, .nameAndType 41 42), (0, u "length"), (0, u "()J"), (0, .methodref 34 44), (0, .nameAndType 45 46), (0, u "masked"), (0, u "()Z"), (0, .class_ 48), (0, u "com/example/hearts_content/heartscontent/websocket/FramingHeaderLengthPinLaw"), (2, u "law"), (0, u "(JII)Z")] 7

def k1m0 : Method := { name := "<init>", desc := "()V", sig := { parameters := [], returnType := none }, accessFlags := 2, code := none }
def k1c1 : Code := { maxStack := 6, maxLocals := 14, code := code, exceptionTable := #[], attributes := #[] }
def k1m1 : Method := { name := "law", desc := "(JII)Z", sig := { parameters := [.long, .int, .int], returnType := some .boolean }, accessFlags := 9, code := some k1c1 }
/-- com/example/hearts_content/heartscontent/websocket/FramingHeaderLengthPinLaw -/
def k1 : Class := { plain "com/example/hearts_content/heartscontent/websocket/FramingHeaderLengthPinLaw" (some 0) with
  accessFlags := 49
  interfaces := #[]
  cf := some (fileOf pool1 47 #[] #[{ accessFlags := 2, nameIndex := 5, descriptorIndex := 6, attributes := #[] }, { accessFlags := 9, nameIndex := 51, descriptorIndex := 52, attributes := #[] }] 49 2 #[] #[])
  fields := #[]
  methods := #[k1m0, k1m1]
  instanceTypes := #[]
  staticTypes := #[]
  resolved := Array.replicate 60 none
  statics := none }

def pool2 : Array CpInfo := pool [(1, .class_ 2), (0, u "com/example/hearts_content/heartscontent/websocket/Framing"), (1, .class_ 6), (1, u "java/lang/Object"), (0, u "<init>"), (0, u "()V"), (0, .long 125), (1, .long 65535), (1, .methodref 1 14), (0, .nameAndType 15 16), (0, u "writeLength"), (0, u "([BIJI)I"), (2, u "headerLength"), (0, u "(JZ)I"), (2, u "writeHeader"), (0, u "([BIIJZ)I"), (0, .class_ 26), (0, u "com/example/hearts_content/heartscontent/websocket/Framing$Header"), (0, .methodref 25 28), (0, .nameAndType 7 29), (0, u "(ZIZJI)V"), (0, u "CONTINUATION"), (0, u "I"), (2, u "TEXT"), (1, u "BINARY"), (1, u "CLOSE"), (1, u "PING"), (1, u "PONG"), (1, u "MASK_BYTES"), (1, u "LONGEST_HEADER"), (1, u "FINAL"), (1, u "MASKED"), (0, u "OPCODE"), (1, u "SHORT_LENGTH"), (1, u "LONGEST_SHORT"), (1, u "TWO_BYTES"), (1, u "EIGHT_BYTES"), (0, u "LONGEST_TWO"), (8, u "readHeader"), (0, u "([BII)Lcom/example/hearts_content/heartscontent/websocket/Framing$Header;")] 5

def k2m0 : Method := { name := "<init>", desc := "()V", sig := { parameters := [], returnType := none }, accessFlags := 2, code := none }
def k2c1 : Code := { maxStack := 4, maxLocals := 4, code := prog_26_method_2_code, exceptionTable := #[], attributes := #[] }
def k2m1 : Method := { name := "headerLength", desc := "(JZ)I", sig := { parameters := [.long, .boolean], returnType := some .int }, accessFlags := 9, code := some k2c1 }
def k2c2 : Code := { maxStack := 6, maxLocals := 8, code := prog_26_method_3_code, exceptionTable := #[], attributes := #[] }
def k2m2 : Method := { name := "writeHeader", desc := "([BIIJZ)I", sig := { parameters := [(.array .byte), .int, .int, .long, .boolean], returnType := some .int }, accessFlags := 9, code := some k2c2 }
def k2c3 : Code := { maxStack := 7, maxLocals := 6, code := prog_26_method_5_code, exceptionTable := #[], attributes := #[] }
def k2m3 : Method := { name := "writeLength", desc := "([BIJI)I", sig := { parameters := [(.array .byte), .int, .long, .int], returnType := some .int }, accessFlags := 10, code := some k2c3 }
def k2c4 : Code := { maxStack := 8, maxLocals := 12, code := prog_26_method_6_code, exceptionTable := #[], attributes := #[] }
def k2m4 : Method := { name := "readHeader", desc := "([BII)Lcom/example/hearts_content/heartscontent/websocket/Framing$Header;", sig := { parameters := [(.array .byte), .int, .int], returnType := some (.object "com/example/hearts_content/heartscontent/websocket/Framing$Header") }, accessFlags := 9, code := some k2c4 }
/-- com/example/hearts_content/heartscontent/websocket/Framing -/
def k2 : Class := { plain "com/example/hearts_content/heartscontent/websocket/Framing" (some 0) with
  accessFlags := 49
  interfaces := #[]
  cf := some (fileOf pool2 1 #[.nestMembers #[25]] #[{ accessFlags := 2, nameIndex := 7, descriptorIndex := 8, attributes := #[] }, { accessFlags := 9, nameIndex := 19, descriptorIndex := 20, attributes := #[] }, { accessFlags := 9, nameIndex := 23, descriptorIndex := 24, attributes := #[] }, { accessFlags := 10, nameIndex := 15, descriptorIndex := 16, attributes := #[] }, { accessFlags := 9, nameIndex := 69, descriptorIndex := 70, attributes := #[] }] 49 4 #[] #[{ accessFlags := 25, nameIndex := 30, descriptorIndex := 31, attributes := #[] }, { accessFlags := 25, nameIndex := 34, descriptorIndex := 31, attributes := #[] }, { accessFlags := 25, nameIndex := 36, descriptorIndex := 31, attributes := #[] }, { accessFlags := 25, nameIndex := 38, descriptorIndex := 31, attributes := #[] }, { accessFlags := 25, nameIndex := 40, descriptorIndex := 31, attributes := #[] }, { accessFlags := 25, nameIndex := 42, descriptorIndex := 31, attributes := #[] }, { accessFlags := 25, nameIndex := 44, descriptorIndex := 31, attributes := #[] }, { accessFlags := 25, nameIndex := 46, descriptorIndex := 31, attributes := #[] }, { accessFlags := 26, nameIndex := 48, descriptorIndex := 31, attributes := #[] }, { accessFlags := 26, nameIndex := 50, descriptorIndex := 31, attributes := #[] }, { accessFlags := 26, nameIndex := 51, descriptorIndex := 31, attributes := #[] }, { accessFlags := 26, nameIndex := 53, descriptorIndex := 31, attributes := #[] }, { accessFlags := 26, nameIndex := 55, descriptorIndex := 31, attributes := #[] }, { accessFlags := 26, nameIndex := 57, descriptorIndex := 31, attributes := #[] }, { accessFlags := 26, nameIndex := 59, descriptorIndex := 31, attributes := #[] }, { accessFlags := 26, nameIndex := 60, descriptorIndex := 31, attributes := #[] }])
  fields := #[{ name := "CONTINUATION", type := .int, accessFlags := 25, slot := 0, constantValue := 0 }, { name := "TEXT", type := .int, accessFlags := 25, slot := 1, constantValue := 0 }, { name := "BINARY", type := .int, accessFlags := 25, slot := 2, constantValue := 0 }, { name := "CLOSE", type := .int, accessFlags := 25, slot := 3, constantValue := 0 }, { name := "PING", type := .int, accessFlags := 25, slot := 4, constantValue := 0 }, { name := "PONG", type := .int, accessFlags := 25, slot := 5, constantValue := 0 }, { name := "MASK_BYTES", type := .int, accessFlags := 25, slot := 6, constantValue := 0 }, { name := "LONGEST_HEADER", type := .int, accessFlags := 25, slot := 7, constantValue := 0 }, { name := "FINAL", type := .int, accessFlags := 26, slot := 8, constantValue := 0 }, { name := "MASKED", type := .int, accessFlags := 26, slot := 9, constantValue := 0 }, { name := "OPCODE", type := .int, accessFlags := 26, slot := 10, constantValue := 0 }, { name := "SHORT_LENGTH", type := .int, accessFlags := 26, slot := 11, constantValue := 0 }, { name := "LONGEST_SHORT", type := .int, accessFlags := 26, slot := 12, constantValue := 0 }, { name := "TWO_BYTES", type := .int, accessFlags := 26, slot := 13, constantValue := 0 }, { name := "EIGHT_BYTES", type := .int, accessFlags := 26, slot := 14, constantValue := 0 }, { name := "LONGEST_TWO", type := .int, accessFlags := 26, slot := 15, constantValue := 0 }]
  methods := #[k2m0, k2m1, k2m2, k2m3, k2m4]
  instanceTypes := #[]
  staticTypes := #[.int, .int, .int, .int, .int, .int, .int, .int, .int, .int, .int, .int, .int, .int, .int, .int]
  resolved := Array.replicate 76 none
  statics := none }

def pool3 : Array CpInfo := pool [(1, .methodref 2 3), (0, .class_ 4), (0, .nameAndType 5 6), (0, u "java/lang/Object"), (0, u "<init>"), (0, u "()V"), (0, .class_ 8), (0, u "java/lang/Record")] 13

def k3c0 : Code := { maxStack := 1, maxLocals := 1, code := jdk_30_method_1_code, exceptionTable := #[], attributes := #[] }
def k3m0 : Method := { name := "<init>", desc := "()V", sig := { parameters := [], returnType := none }, accessFlags := 4, code := some k3c0 }
/-- java/lang/Record -/
def k3 : Class := { plain "java/lang/Record" (some 0) with
  accessFlags := 1057
  interfaces := #[]
  cf := some (fileOf pool3 7 #[] #[{ accessFlags := 4, nameIndex := 5, descriptorIndex := 6, attributes := #[] }] 1057 2 #[] #[])
  fields := #[]
  methods := #[k3m0]
  instanceTypes := #[]
  staticTypes := #[]
  resolved := Array.replicate 22 none
  statics := none }

def pool4 : Array CpInfo := pool [(1, .methodref 2 3), (0, .class_ 4), (0, .nameAndType 5 6), (0, u "java/lang/Record"), (0, u "<init>"), (0, u "()V"), (0, .fieldref 8 9), (0, .class_ 10), (0, .nameAndType 11 12), (0, u "com/example/hearts_content/heartscontent/websocket/Framing$Header"), (0, u "isFinal"), (0, u "Z"), (0, .fieldref 8 14), (0, .nameAndType 15 16), (0, u "opcode"), (0, u "I"), (0, .fieldref 8 18), (0, .nameAndType 19 12), (0, u "masked"), (0, .fieldref 8 21), (0, .nameAndType 22 23), (0, u "length"), (0, u "J"), (0, .fieldref 8 25), (0, .nameAndType 26 16), (0, u "size"), (12, u "(ZIZJI)V"), (4, u "()I"), (1, u "()Z"), (0, u "()J"), (3, .class_ 52), (0, u "com/example/hearts_content/heartscontent/websocket/Framing")] 23

def k4c0 : Code := { maxStack := 3, maxLocals := 7, code := prog_27_method_1_code, exceptionTable := #[], attributes := #[] }
def k4m0 : Method := { name := "<init>", desc := "(ZIZJI)V", sig := { parameters := [.boolean, .int, .boolean, .long, .int], returnType := none }, accessFlags := 1, code := some k4c0 }
def k4c1 : Code := { maxStack := 1, maxLocals := 1, code := prog_27_method_7_code, exceptionTable := #[], attributes := #[] }
def k4m1 : Method := { name := "masked", desc := "()Z", sig := { parameters := [], returnType := some .boolean }, accessFlags := 1, code := some k4c1 }
def k4c2 : Code := { maxStack := 2, maxLocals := 1, code := prog_27_method_8_code, exceptionTable := #[], attributes := #[] }
def k4m2 : Method := { name := "length", desc := "()J", sig := { parameters := [], returnType := some .long }, accessFlags := 1, code := some k4c2 }
def k4c3 : Code := { maxStack := 1, maxLocals := 1, code := prog_27_method_9_code, exceptionTable := #[], attributes := #[] }
def k4m3 : Method := { name := "size", desc := "()I", sig := { parameters := [], returnType := some .int }, accessFlags := 1, code := some k4c3 }
/-- com/example/hearts_content/heartscontent/websocket/Framing$Header -/
def k4 : Class := { plain "com/example/hearts_content/heartscontent/websocket/Framing$Header" (some 3) with
  accessFlags := 49
  interfaces := #[]
  cf := some (fileOf pool4 8 #[.nestHost 51] #[{ accessFlags := 1, nameIndex := 5, descriptorIndex := 39, attributes := #[] }, { accessFlags := 1, nameIndex := 19, descriptorIndex := 46, attributes := #[] }, { accessFlags := 1, nameIndex := 22, descriptorIndex := 47, attributes := #[] }, { accessFlags := 1, nameIndex := 26, descriptorIndex := 44, attributes := #[] }] 49 2 #[] #[{ accessFlags := 18, nameIndex := 11, descriptorIndex := 12, attributes := #[] }, { accessFlags := 18, nameIndex := 15, descriptorIndex := 16, attributes := #[] }, { accessFlags := 18, nameIndex := 19, descriptorIndex := 12, attributes := #[] }, { accessFlags := 18, nameIndex := 22, descriptorIndex := 23, attributes := #[] }, { accessFlags := 18, nameIndex := 26, descriptorIndex := 16, attributes := #[] }])
  fields := #[{ name := "isFinal", type := .boolean, accessFlags := 18, slot := 0, constantValue := 0 }, { name := "opcode", type := .int, accessFlags := 18, slot := 1, constantValue := 0 }, { name := "masked", type := .boolean, accessFlags := 18, slot := 2, constantValue := 0 }, { name := "length", type := .long, accessFlags := 18, slot := 3, constantValue := 0 }, { name := "size", type := .int, accessFlags := 18, slot := 4, constantValue := 0 }]
  methods := #[k4m0, k4m1, k4m2, k4m3]
  instanceTypes := #[.boolean, .int, .boolean, .long, .int]
  staticTypes := #[]
  resolved := Array.replicate 76 none
  statics := none }

def pool5 : Array CpInfo := pool [(1, u "java/lang/Cloneable"), (0, .class_ 1), (0, u "java/lang/Object"), (0, .class_ 3)] 3

/-- java/lang/Cloneable -/
def k5 : Class := { plain "java/lang/Cloneable" (some 0) with
  accessFlags := 1537
  interfaces := #[]
  cf := some (fileOf pool5 2 #[] #[] 1537 4 #[] #[])
  fields := #[]
  methods := #[]
  instanceTypes := #[]
  staticTypes := #[]
  resolved := Array.replicate 8 none
  statics := none }

def pool6 : Array CpInfo := pool [(1, u "java/io/Serializable"), (0, .class_ 1), (0, u "java/lang/Object"), (0, .class_ 3)] 3

/-- java/io/Serializable -/
def k6 : Class := { plain "java/io/Serializable" (some 0) with
  accessFlags := 1537
  interfaces := #[]
  cf := some (fileOf pool6 2 #[] #[] 1537 4 #[] #[])
  fields := #[]
  methods := #[]
  instanceTypes := #[]
  staticTypes := #[]
  resolved := Array.replicate 8 none
  statics := none }

/-- the primitive byte -/
def k7 : Class := { plain "byte" none with kind := .primitive 'B', accessFlags := 0x411 }
/-- [B -/
def k8 : Class := { plain "[B" (some 0) with kind := .array 7 .byte, interfaces := #[5, 6], accessFlags := 1041 }

/-- the primitive int -/
def k9 : Class := { plain "int" none with kind := .primitive 'I', accessFlags := 0x411 }
/-- [I -/
def k10 : Class := { plain "[I" (some 0) with kind := .array 9 .int, interfaces := #[5, 6], accessFlags := 1041 }

def heap : Heap := #[]
def classes : Array Class := #[k0, k1, k2, k3, k4, k5, k6, k7, k8, k9, k10]
def interned : List (Array UInt16 × Addr) := []
def slotsUsed : Nat := 0
def theMethod : MethodId := ⟨1, 1⟩
def args0 : Array Value := #[.long 77, .int 3, .int 4]
def aboutOver (below : List Frame) : State where
  vm := { classes := classes, interned := interned.toArray }
  heap := heap
  slotsUsed := slotsUsed
  threads := #[{ frames := .invoking theMethod args0 :: below }]
def below0 : List Frame := [.native { method := ⟨0, 0⟩, args := #[] }]
def about1 : State := aboutOver below0
def p0 : Program := .bare "" "" ""
def e0 : Env := launch0.env 0 0 0
theorem w_frames : about1.frames = Frame.invoking theMethod args0 :: below0 := rfl
set_option maxRecDepth 65536 in
theorem w_args : argsFit about1.vm theMethod args0 = true := by decide +kernel
set_option maxRecDepth 65536 in
theorem w_heap : heapFits about1 = true := by decide +kernel
set_option maxRecDepth 65536 in
theorem w_runnable : about1.curStatus? = some .runnable := by decide +kernel
set_option maxRecDepth 65536 in
theorem w_alone : about1.alone = true := by decide +kernel
set_option maxRecDepth 65536 in
theorem w_named : about1.methodNamed? x = some theMethod := by decide +kernel
set_option maxRecDepth 65536 in
theorem w_hears : about1.hears theMethod below0 = true := by decide +kernel
set_option maxRecDepth 65536 in
theorem w_ripe : about1.ripe theMethod args0 below0 = true := by decide +kernel
theorem w_running : about1.status = .running := rfl
set_option maxRecDepth 65536 in
theorem w_room : about1.hasRoom e0.platform room_1 = true :=
  launch0.hasRoom_least _ room_1 (by decide +kernel) (by decide +kernel) (by decide +kernel) (by decide +kernel) (by decide +kernel) (by decide +kernel)
theorem allAtoms_all (ts : List Jvm.Cond) (a : Array Jvm.Value) (st : Jvm.State) : (allAtoms ts).before a st = ts.all (fun c => c.before a st) := by
  induction ts with
  | nil => rfl
  | cons c t ih =>
    show (Jvm.Cond.and c (allAtoms t)).before a st = _
    rw [Jvm.Cond.before_and, ih, List.all_cons]
def words1 : List Jvm.Cond := Jvm.Cond.code x code maxLocals ret :: tables_1
/-- a 'code' word, met by the world's own term for the bytes: nothing is compared byte by byte -/
theorem code_word {y : MethodName} {bytes : ByteArray} {mx : Nat} {rt : Option FieldType} {a : Array Value} {s : State} {m : MethodId} {meth : Method} {c : Code} (h1 : s.methodNamed? y = some m) (h2 : s.vm.method? m = some meth) (h3 : meth.code = some c) (h4 : c.code = bytes)
    (h5 : (c.maxLocals == mx && c.exceptionTable.isEmpty && decide (c.maxStack ≤ mostOperands) && decide (meth.sig.returnType = rt) && !meth.locks && decide (parseMethodDescriptor y.desc = some meth.sig)) = true) : (Jvm.Cond.code y bytes mx rt).before a s = true := by
  simp only [Bool.and_eq_true, beq_iff_eq, Bool.not_eq_true', decide_eq_true_eq] at h5
  obtain ⟨⟨⟨⟨⟨g1, g2⟩, g3⟩, g4⟩, g5⟩, g6⟩ := h5
  simp [Cond.before, Cond.holds, Cond.value, h1, h2, h3, h4, g1, g2, g3, g4, g5, g6]
def isCode : Jvm.Cond → Bool
  | .code _ _ _ _ => true
  | _ => false
theorem all_split {L : List Jvm.Cond} {P : Jvm.Cond → Bool} (h1 : L.all (fun c => isCode c || P c) = true) (h2 : ∀ c ∈ L.filter isCode, P c = true) : L.all P = true := by
  refine List.all_eq_true.mpr fun c hc => ?_
  have h := List.all_eq_true.mp h1 c hc
  rcases Bool.eq_false_or_eq_true (isCode c) with hi | hi
  · exact h2 c (List.mem_filter.mpr ⟨hc, hi⟩)
  · simpa [hi] using h
set_option maxRecDepth 65536 in
theorem w_c0 : (Jvm.Cond.code x code maxLocals ret).before args0 about1 = true := code_word (m := ⟨1, 1⟩) (meth := k1m1) (c := k1c1) (by decide +kernel) rfl rfl rfl (by decide +kernel)
set_option maxRecDepth 65536 in
theorem w_c1 : (Jvm.Cond.code ({ cls := "com/example/hearts_content/heartscontent/websocket/Framing", name := "headerLength", desc := "(JZ)I" } : Jvm.MethodName) prog_26_method_2_code (4 : Nat) (Option.some Jvm.ClassFile.FieldType.int)).before args0 about1 = true := code_word (m := ⟨2, 1⟩) (meth := k2m1) (c := k2c1) (by decide +kernel) rfl rfl rfl (by decide +kernel)
set_option maxRecDepth 65536 in
theorem w_c2 : (Jvm.Cond.code ({ cls := "com/example/hearts_content/heartscontent/websocket/Framing", name := "writeHeader", desc := "([BIIJZ)I" } : Jvm.MethodName) prog_26_method_3_code (8 : Nat) (Option.some Jvm.ClassFile.FieldType.int)).before args0 about1 = true := code_word (m := ⟨2, 2⟩) (meth := k2m2) (c := k2c2) (by decide +kernel) rfl rfl rfl (by decide +kernel)
set_option maxRecDepth 65536 in
theorem w_c3 : (Jvm.Cond.code ({ cls := "com/example/hearts_content/heartscontent/websocket/Framing", name := "readHeader", desc := "([BII)Lcom/example/hearts_content/heartscontent/websocket/Framing$Header;" } : Jvm.MethodName) prog_26_method_6_code (12 : Nat) (Option.some (Jvm.ClassFile.FieldType.object "com/example/hearts_content/heartscontent/websocket/Framing$Header"))).before args0 about1 = true := code_word (m := ⟨2, 4⟩) (meth := k2m4) (c := k2c4) (by decide +kernel) rfl rfl rfl (by decide +kernel)
set_option maxRecDepth 65536 in
theorem w_c4 : (Jvm.Cond.code ({ cls := "com/example/hearts_content/heartscontent/websocket/Framing$Header", name := "<init>", desc := "(ZIZJI)V" } : Jvm.MethodName) prog_27_method_1_code (7 : Nat) (Option.none : Option Jvm.ClassFile.FieldType)).before args0 about1 = true := code_word (m := ⟨4, 0⟩) (meth := k4m0) (c := k4c0) (by decide +kernel) rfl rfl rfl (by decide +kernel)
set_option maxRecDepth 65536 in
theorem w_c5 : (Jvm.Cond.code ({ cls := "java/lang/Record", name := "<init>", desc := "()V" } : Jvm.MethodName) jdk_30_method_1_code (1 : Nat) (Option.none : Option Jvm.ClassFile.FieldType)).before args0 about1 = true := code_word (m := ⟨3, 0⟩) (meth := k3m0) (c := k3c0) (by decide +kernel) rfl rfl rfl (by decide +kernel)
set_option maxRecDepth 65536 in
theorem w_c6 : (Jvm.Cond.code ({ cls := "java/lang/Object", name := "<init>", desc := "()V" } : Jvm.MethodName) object_method_1_code (1 : Nat) (Option.none : Option Jvm.ClassFile.FieldType)).before args0 about1 = true := code_word (m := ⟨0, 0⟩) (meth := k0m0) (c := k0c0) (by decide +kernel) rfl rfl rfl (by decide +kernel)
set_option maxRecDepth 65536 in
theorem w_c7 : (Jvm.Cond.code ({ cls := "com/example/hearts_content/heartscontent/websocket/Framing$Header", name := "size", desc := "()I" } : Jvm.MethodName) prog_27_method_9_code (1 : Nat) (Option.some Jvm.ClassFile.FieldType.int)).before args0 about1 = true := code_word (m := ⟨4, 3⟩) (meth := k4m3) (c := k4c3) (by decide +kernel) rfl rfl rfl (by decide +kernel)
set_option maxRecDepth 65536 in
theorem w_c8 : (Jvm.Cond.code ({ cls := "com/example/hearts_content/heartscontent/websocket/Framing$Header", name := "length", desc := "()J" } : Jvm.MethodName) prog_27_method_8_code (1 : Nat) (Option.some Jvm.ClassFile.FieldType.long)).before args0 about1 = true := code_word (m := ⟨4, 2⟩) (meth := k4m2) (c := k4c2) (by decide +kernel) rfl rfl rfl (by decide +kernel)
set_option maxRecDepth 65536 in
theorem w_c9 : (Jvm.Cond.code ({ cls := "com/example/hearts_content/heartscontent/websocket/Framing$Header", name := "masked", desc := "()Z" } : Jvm.MethodName) prog_27_method_7_code (1 : Nat) (Option.some Jvm.ClassFile.FieldType.boolean)).before args0 about1 = true := code_word (m := ⟨4, 1⟩) (meth := k4m1) (c := k4c1) (by decide +kernel) rfl rfl rfl (by decide +kernel)
set_option maxRecDepth 65536 in
theorem w_c10 : (Jvm.Cond.code ({ cls := "com/example/hearts_content/heartscontent/websocket/Framing", name := "writeLength", desc := "([BIJI)I" } : Jvm.MethodName) prog_26_method_5_code (6 : Nat) (Option.some Jvm.ClassFile.FieldType.int)).before args0 about1 = true := code_word (m := ⟨2, 3⟩) (meth := k2m3) (c := k2c3) (by decide +kernel) rfl rfl rfl (by decide +kernel)
def codes1 : List Jvm.Cond := [Jvm.Cond.code x code maxLocals ret, Jvm.Cond.code ({ cls := "com/example/hearts_content/heartscontent/websocket/Framing", name := "headerLength", desc := "(JZ)I" } : Jvm.MethodName) prog_26_method_2_code (4 : Nat) (Option.some Jvm.ClassFile.FieldType.int), Jvm.Cond.code ({ cls := "com/example/hearts_content/heartscontent/websocket/Framing", name := "writeHeader", desc := "([BIIJZ)I" } : Jvm.MethodName) prog_26_method_3_code (8 : Nat) (Option.some Jvm.ClassFile.FieldType.int), Jvm.Cond.code ({ cls := "com/example/hearts_content/heartscontent/websocket/Framing", name := "readHeader", desc := "([BII)Lcom/example/hearts_content/heartscontent/websocket/Framing$Header;" } : Jvm.MethodName) prog_26_method_6_code (12 : Nat) (Option.some (Jvm.ClassFile.FieldType.object "com/example/hearts_content/heartscontent/websocket/Framing$Header")), Jvm.Cond.code ({ cls := "com/example/hearts_content/heartscontent/websocket/Framing$Header", name := "<init>", desc := "(ZIZJI)V" } : Jvm.MethodName) prog_27_method_1_code (7 : Nat) (Option.none : Option Jvm.ClassFile.FieldType), Jvm.Cond.code ({ cls := "java/lang/Record", name := "<init>", desc := "()V" } : Jvm.MethodName) jdk_30_method_1_code (1 : Nat) (Option.none : Option Jvm.ClassFile.FieldType), Jvm.Cond.code ({ cls := "java/lang/Object", name := "<init>", desc := "()V" } : Jvm.MethodName) object_method_1_code (1 : Nat) (Option.none : Option Jvm.ClassFile.FieldType), Jvm.Cond.code ({ cls := "com/example/hearts_content/heartscontent/websocket/Framing$Header", name := "size", desc := "()I" } : Jvm.MethodName) prog_27_method_9_code (1 : Nat) (Option.some Jvm.ClassFile.FieldType.int), Jvm.Cond.code ({ cls := "com/example/hearts_content/heartscontent/websocket/Framing$Header", name := "length", desc := "()J" } : Jvm.MethodName) prog_27_method_8_code (1 : Nat) (Option.some Jvm.ClassFile.FieldType.long), Jvm.Cond.code ({ cls := "com/example/hearts_content/heartscontent/websocket/Framing$Header", name := "masked", desc := "()Z" } : Jvm.MethodName) prog_27_method_7_code (1 : Nat) (Option.some Jvm.ClassFile.FieldType.boolean), Jvm.Cond.code ({ cls := "com/example/hearts_content/heartscontent/websocket/Framing", name := "writeLength", desc := "([BIJI)I" } : Jvm.MethodName) prog_26_method_5_code (6 : Nat) (Option.some Jvm.ClassFile.FieldType.int)]
set_option maxRecDepth 65536 in
theorem codes_eq : words1.filter isCode = codes1 := rfl
theorem w_codes : ∀ c ∈ words1.filter isCode, c.before args0 about1 = true := by
  rw [codes_eq]
  intro c hc
  simp only [codes1, List.mem_cons, List.not_mem_nil, or_false] at hc
  rcases hc with rfl | rfl | rfl | rfl | rfl | rfl | rfl | rfl | rfl | rfl | rfl
  · exact w_c0
  · exact w_c1
  · exact w_c2
  · exact w_c3
  · exact w_c4
  · exact w_c5
  · exact w_c6
  · exact w_c7
  · exact w_c8
  · exact w_c9
  · exact w_c10
set_option maxRecDepth 65536 in
theorem w_t1 : (words1.take 24).all (fun c => isCode c || c.before args0 about1) = true := by decide +kernel
set_option maxRecDepth 65536 in
theorem w_t2 : ((words1.drop 24).take 24).all (fun c => isCode c || c.before args0 about1) = true := by decide +kernel
set_option maxRecDepth 65536 in
theorem w_t3 : ((words1.drop 24).drop 24).all (fun c => isCode c || c.before args0 about1) = true := by decide +kernel
theorem w_tables : (allAtoms (Jvm.Cond.code x code maxLocals ret :: tables_1)).before args0 about1 = true := by
  rw [allAtoms_all]
  show words1.all (fun c => c.before args0 about1) = true
  refine all_split ?_ w_codes
  rw [← List.take_append_drop 24 words1, List.all_append, w_t1, ← List.take_append_drop 24 (words1.drop 24), List.all_append, w_t2, w_t3]
  rfl
set_option maxRecDepth 65536 in
theorem w_case : (Jvm.Cond.and given_1 narrow_1).before args0 about1 = true := by decide +kernel
theorem w_applies : (headSpec (Jvm.Cond.code x code maxLocals ret :: tables_1) room_1).applies x e0.platform about1 = true :=
  (Spec.applies_iff w_frames).mpr ⟨w_running, w_runnable, w_alone, w_named, w_hears, w_ripe, w_room, w_tables⟩
theorem atStart : AtStart classFile x code maxLocals ret World_1 tables_1 room_1 Calls_1 rest_1 Pre_1 launch0 p0 e0 about1 theMethod args0 below0 :=
  ⟨lists_1, trivial, launch0.admits_env _ _ _, launch0.least_env, fairChoices_fair.cas, fairChoices_fair.clock, w_frames, w_args, w_heap, w_applies, trivial, trivial, w_case⟩
end start1
theorem witness_1 : WitnessClaimed_1 := ⟨start1.p0, start1.e0, start1.about1, start1.theMethod, start1.args0, start1.below0, start1.atStart⟩
end Jvm.Pilot.@@N@@
