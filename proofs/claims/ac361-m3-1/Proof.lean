import JvmDerived
import JvmDerived.Pilot.@@N@@Statement
import JvmDerived.Pilot.@@N@@Code
set_option linter.unusedVariables false
set_option linter.unusedSimpArgs false
namespace Jvm.Own
open Sem ClassFile Op Lib Jvm.Stand Jvm.Free Jvm.LawKit Jvm.RoadKit
abbrev Ctx := Program × Launch × Env × State × MethodId × Array Value × List Frame × Method × Code
def ushr (x y : Int32) : Int32 := (x.toUInt32 >>> (y &&& 31).toUInt32).toInt32
def ushrL (x : Int64) (y : Int32) : Int64 := (x.toUInt64 >>> (y &&& 63).toInt64.toUInt64).toInt64
/-- from here the body comes to its return, and Q holds of what it returns and of the heap -/
def Go (K : Ctx) (rm : Room) (Z : State) (n0 : Nat) (bs : ByteArray) (ml : Nat) (ret : Option FieldType) (own nm : String) (Q : Option Value → Heap → Prop) (kc ks : Nat) (h : Heap) (pc : Nat) (L : Array Slot) (S : List Value) : Prop :=
  match K with
  | (p, l, e, s, m, args, below, meth, c) =>
    p.tables.exec = Jvm.exec → c.code = bs → c.maxLocals = ml → s.vm.findClass own = some m.cls → Z.Warmed39 s.vm → meth.sig.returnType = ret → meth.locks = false → meth.name = nm →
    ∀ T locs, Stand p l e rm s m args below meth c T locs kc ks → Fr n0 locs → T.heap = h →
    ∃ s₂ v L', Steps p.tables e below (T.setTop (mkF m pc L S)) s₂ ∧ s₂.status = .running ∧ Ended s₂ below (.returned v) ∧ Q v s₂.heap ∧ Fr n0 L' ∧ FrameEnd s (.returned v) s₂ L' rm.cells rm.slots
/-- a body's contract -/
def Con (Z : State) (n0 : Nat) (y : MethodName) (bs : ByteArray) (ml : Nat) (ret : Option FieldType) (rm : Room) (as : List Value) (h : Heap) (Q : Option Value → Heap → Prop) : Prop :=
  ∀ l, MetFree l y (head1 [Jvm.Cond.code y bs ml ret] rm) (fun a U => a = as.toArray ∧ Z.Warmed39 U.vm ∧ U.heap = h) (fun _ _ _ _ _ => True) (fun _ U o U' => ∃ v L, o = .returned v ∧ (Q v U'.heap ∧ Fr n0 L) ∧ FrameEnd U o U' L rm.cells rm.slots)
section Laws
variable {K : Ctx} {rm : Room} {Z : State} {n0 : Nat} {bs : ByteArray} {ml : Nat} {ret : Option FieldType} {own nm : String} {Q : Option Value → Heap → Prop} {kc ks : Nat} {h : Heap} {pc pc' : Nat} {L : Array Slot} {S : List Value} {a0 : Array Value}
theorem enterW {l : Launch} {y : MethodName} {ws : List Jvm.Cond} {as : Array Value} {L0 : Array Slot} (hpl : plainFor y = true) (hL : ∀ m, entryFrame m as ml = mkF m 0 L0 [])
    (H : ∀ K, Go K rm Z n0 bs ml ret y.cls y.name Q 0 0 h 0 L0 []) :
    MetFree l y (head1 (Jvm.Cond.code y bs ml ret :: ws) rm) (fun a U => a = as ∧ Z.Warmed39 U.vm ∧ U.heap = h) (fun _ _ _ _ _ => True) (fun _ U o U' => ∃ v L, o = .returned v ∧ (Q v U'.heap ∧ Fr n0 L) ∧ FrameEnd U o U' L rm.cells rm.slots) := by
  refine MetFree.of_bodySF hpl hisR ?_
  intro p e s m args below meth c s₁ Bd hml0 hP hK
  obtain ⟨rfl, hZ, hh⟩ := hP
  have X0 : Stand p l e rm s m args below meth c s₁ [] 0 0 := Stand.of_body Bd
  obtain ⟨s₂, v, L', st, h1, h2, h3, h4, h5⟩ := H (p, l, e, s, m, args, below, meth, c) Bd.exec Bd.bytes hml0 (findClass_of_methodNamed Bd.named) hZ Bd.returns Bd.notSynchronized (name_of_methodNamed Bd.named Bd.method).1 s₁ [] X0 (Fr.nil n0) (by rw [← hh, Bd.state]; rfl)
  exact ⟨s₂, _, castTop (hL m) st, h1, h2, v, L', rfl, ⟨h3, h4⟩, h5⟩
theorem enter {y : MethodName} {as : List Value} {L0 : Array Slot} (hpl : plainFor y = true) (hL : ∀ m, entryFrame m as.toArray ml = mkF m 0 L0 [])
    (H : ∀ K, Go K rm Z n0 bs ml ret y.cls y.name Q 0 0 h 0 L0 []) : Con Z n0 y bs ml ret rm as h Q := fun _ => enterW hpl hL H
theorem iload {k : Nat} {v : Int32} (hd : decode bs pc = .ok (.iload k, 2)) (hl : L[k]? = some (.val (.int v))) (hp : pc + 2 = pc') (hr : Go K rm Z n0 bs ml ret own nm Q kc ks h pc' L (.int v :: S)) : Go K rm Z n0 bs ml ret own nm Q kc ks h pc L S := by
  subst hp
  obtain ⟨p, l, e, s, m, args, below, meth, c⟩ := K
  intro hx hby hml hown hZ hret hlk hnm T locs X hF hh
  obtain ⟨s₂, v, L', st, r⟩ := hr hx hby hml hown hZ hret hlk hnm T locs X hF hh
  exact ⟨s₂, v, L', XS.iload X.here hx rfl (hb hby hd) hl st, r⟩
theorem iloadN {k : Fin 4} {v : Int32} (hd : decode bs pc = .ok (.iload_n k, 1)) (hl : L[k.val]? = some (.val (.int v))) (hp : pc + 1 = pc') (hr : Go K rm Z n0 bs ml ret own nm Q kc ks h pc' L (.int v :: S)) : Go K rm Z n0 bs ml ret own nm Q kc ks h pc L S := by
  subst hp
  obtain ⟨p, l, e, s, m, args, below, meth, c⟩ := K
  intro hx hby hml hown hZ hret hlk hnm T locs X hF hh
  obtain ⟨s₂, v, L', st, r⟩ := hr hx hby hml hown hZ hret hlk hnm T locs X hF hh
  exact ⟨s₂, v, L', XS.iloadN X.here hx rfl (hb hby hd) hl st, r⟩
theorem lload {k : Nat} {v : Int64} (hd : decode bs pc = .ok (.lload k, 2)) (hl : L[k]? = some (.val (.long v))) (hp : pc + 2 = pc') (hr : Go K rm Z n0 bs ml ret own nm Q kc ks h pc' L (.long v :: S)) : Go K rm Z n0 bs ml ret own nm Q kc ks h pc L S := by
  subst hp
  obtain ⟨p, l, e, s, m, args, below, meth, c⟩ := K
  intro hx hby hml hown hZ hret hlk hnm T locs X hF hh
  obtain ⟨s₂, v, L', st, r⟩ := hr hx hby hml hown hZ hret hlk hnm T locs X hF hh
  exact ⟨s₂, v, L', XS.lload X.here hx rfl (hb hby hd) hl st, r⟩
theorem lloadN {k : Fin 4} {v : Int64} (hd : decode bs pc = .ok (.lload_n k, 1)) (hl : L[k.val]? = some (.val (.long v))) (hp : pc + 1 = pc') (hr : Go K rm Z n0 bs ml ret own nm Q kc ks h pc' L (.long v :: S)) : Go K rm Z n0 bs ml ret own nm Q kc ks h pc L S := by
  subst hp
  obtain ⟨p, l, e, s, m, args, below, meth, c⟩ := K
  intro hx hby hml hown hZ hret hlk hnm T locs X hF hh
  obtain ⟨s₂, v, L', st, r⟩ := hr hx hby hml hown hZ hret hlk hnm T locs X hF hh
  exact ⟨s₂, v, L', XS.lloadN X.here hx rfl (hb hby hd) hl st, r⟩
theorem aload {k : Nat} {v : Value} (hd : decode bs pc = .ok (.aload k, 2)) (hl : L[k]? = some (.val v)) (hv : v.isRef = true) (hp : pc + 2 = pc') (hr : Go K rm Z n0 bs ml ret own nm Q kc ks h pc' L (v :: S)) : Go K rm Z n0 bs ml ret own nm Q kc ks h pc L S := by
  subst hp
  obtain ⟨p, l, e, s, m, args, below, meth, c⟩ := K
  intro hx hby hml hown hZ hret hlk hnm T locs X hF hh
  obtain ⟨s₂, v, L', st, r⟩ := hr hx hby hml hown hZ hret hlk hnm T locs X hF hh
  exact ⟨s₂, v, L', XS.aload X.here hx rfl (hb hby hd) hl hv st, r⟩
theorem aloadN {k : Fin 4} {v : Value} (hd : decode bs pc = .ok (.aload_n k, 1)) (hl : L[k.val]? = some (.val v)) (hv : v.isRef = true) (hp : pc + 1 = pc') (hr : Go K rm Z n0 bs ml ret own nm Q kc ks h pc' L (v :: S)) : Go K rm Z n0 bs ml ret own nm Q kc ks h pc L S := by
  subst hp
  obtain ⟨p, l, e, s, m, args, below, meth, c⟩ := K
  intro hx hby hml hown hZ hret hlk hnm T locs X hF hh
  obtain ⟨s₂, v, L', st, r⟩ := hr hx hby hml hown hZ hret hlk hnm T locs X hF hh
  exact ⟨s₂, v, L', XS.aloadN X.here hx rfl (hb hby hd) hl hv st, r⟩
theorem istore {k : Nat} {x : Int32} {L1 : Array Slot} (hd : decode bs pc = .ok (.istore k, 2)) (hl : storeLocals L k (.int x) = some L1) (hp : pc + 2 = pc') (hr : Go K rm Z n0 bs ml ret own nm Q kc ks h pc' L1 S) : Go K rm Z n0 bs ml ret own nm Q kc ks h pc L (.int x :: S) := by
  subst hp
  obtain ⟨p, l, e, s, m, args, below, meth, c⟩ := K
  intro hx hby hml hown hZ hret hlk hnm T locs X hF hh
  obtain ⟨s₂, v, L', st, r⟩ := hr hx hby hml hown hZ hret hlk hnm T locs X hF hh
  exact ⟨s₂, v, L', XS.istore X.here hx rfl (hb hby hd) rfl hl st, r⟩
theorem istoreN {k : Fin 4} {x : Int32} {L1 : Array Slot} (hd : decode bs pc = .ok (.istore_n k, 1)) (hl : storeLocals L k.val (.int x) = some L1) (hp : pc + 1 = pc') (hr : Go K rm Z n0 bs ml ret own nm Q kc ks h pc' L1 S) : Go K rm Z n0 bs ml ret own nm Q kc ks h pc L (.int x :: S) := by
  subst hp
  obtain ⟨p, l, e, s, m, args, below, meth, c⟩ := K
  intro hx hby hml hown hZ hret hlk hnm T locs X hF hh
  obtain ⟨s₂, v, L', st, r⟩ := hr hx hby hml hown hZ hret hlk hnm T locs X hF hh
  exact ⟨s₂, v, L', XS.istoreN X.here hx rfl (hb hby hd) rfl hl st, r⟩
theorem lstore {k : Nat} {x : Int64} {L1 : Array Slot} (hd : decode bs pc = .ok (.lstore k, 2)) (hl : storeLocals L k (.long x) = some L1) (hp : pc + 2 = pc') (hr : Go K rm Z n0 bs ml ret own nm Q kc ks h pc' L1 S) : Go K rm Z n0 bs ml ret own nm Q kc ks h pc L (.long x :: S) := by
  subst hp
  obtain ⟨p, l, e, s, m, args, below, meth, c⟩ := K
  intro hx hby hml hown hZ hret hlk hnm T locs X hF hh
  obtain ⟨s₂, v, L', st, r⟩ := hr hx hby hml hown hZ hret hlk hnm T locs X hF hh
  exact ⟨s₂, v, L', XS.lstore X.here hx rfl (hb hby hd) rfl hl st, r⟩
theorem lstoreN {k : Fin 4} {x : Int64} {L1 : Array Slot} (hd : decode bs pc = .ok (.lstore_n k, 1)) (hl : storeLocals L k.val (.long x) = some L1) (hp : pc + 1 = pc') (hr : Go K rm Z n0 bs ml ret own nm Q kc ks h pc' L1 S) : Go K rm Z n0 bs ml ret own nm Q kc ks h pc L (.long x :: S) := by
  subst hp
  obtain ⟨p, l, e, s, m, args, below, meth, c⟩ := K
  intro hx hby hml hown hZ hret hlk hnm T locs X hF hh
  obtain ⟨s₂, v, L', st, r⟩ := hr hx hby hml hown hZ hret hlk hnm T locs X hF hh
  exact ⟨s₂, v, L', XS.lstoreN X.here hx rfl (hb hby hd) rfl hl st, r⟩
theorem astore {k : Nat} {x : Value} {L1 : Array Slot} (hd : decode bs pc = .ok (.astore k, 2)) (hv : x.isRef = true) (hl : storeLocals L k x = some L1) (hp : pc + 2 = pc') (hr : Go K rm Z n0 bs ml ret own nm Q kc ks h pc' L1 S) : Go K rm Z n0 bs ml ret own nm Q kc ks h pc L (x :: S) := by
  subst hp
  obtain ⟨p, l, e, s, m, args, below, meth, c⟩ := K
  intro hx hby hml hown hZ hret hlk hnm T locs X hF hh
  obtain ⟨s₂, v, L', st, r⟩ := hr hx hby hml hown hZ hret hlk hnm T locs X hF hh
  exact ⟨s₂, v, L', XS.astore X.here hx rfl (hb hby hd) rfl hv hl st, r⟩
theorem astoreN {k : Fin 4} {x : Value} {L1 : Array Slot} (hd : decode bs pc = .ok (.astore_n k, 1)) (hv : x.isRef = true) (hl : storeLocals L k.val x = some L1) (hp : pc + 1 = pc') (hr : Go K rm Z n0 bs ml ret own nm Q kc ks h pc' L1 S) : Go K rm Z n0 bs ml ret own nm Q kc ks h pc L (x :: S) := by
  subst hp
  obtain ⟨p, l, e, s, m, args, below, meth, c⟩ := K
  intro hx hby hml hown hZ hret hlk hnm T locs X hF hh
  obtain ⟨s₂, v, L', st, r⟩ := hr hx hby hml hown hZ hret hlk hnm T locs X hF hh
  exact ⟨s₂, v, L', XS.astoreN X.here hx rfl (hb hby hd) rfl hv hl st, r⟩
theorem iconst {i : Int} {v : Int32} (hd : decode bs pc = .ok (.iconst i, 1)) (hv : Int32.ofInt i = v) (hp : pc + 1 = pc') (hr : Go K rm Z n0 bs ml ret own nm Q kc ks h pc' L (.int v :: S)) : Go K rm Z n0 bs ml ret own nm Q kc ks h pc L S := by
  subst hp
  obtain ⟨p, l, e, s, m, args, below, meth, c⟩ := K
  intro hx hby hml hown hZ hret hlk hnm T locs X hF hh
  obtain ⟨s₂, v, L', st, r⟩ := hr hx hby hml hown hZ hret hlk hnm T locs X hF hh
  exact ⟨s₂, v, L', XS.iconst X.here hx rfl (hb hby hd) (hv ▸ st), r⟩
theorem bipush {i : Int} {v : Int32} (hd : decode bs pc = .ok (.bipush i, 2)) (hv : (Int8.ofInt i).toInt32 = v) (hp : pc + 2 = pc') (hr : Go K rm Z n0 bs ml ret own nm Q kc ks h pc' L (.int v :: S)) : Go K rm Z n0 bs ml ret own nm Q kc ks h pc L S := by
  subst hp
  obtain ⟨p, l, e, s, m, args, below, meth, c⟩ := K
  intro hx hby hml hown hZ hret hlk hnm T locs X hF hh
  obtain ⟨s₂, v, L', st, r⟩ := hr hx hby hml hown hZ hret hlk hnm T locs X hF hh
  exact ⟨s₂, v, L', XS.bipush X.here hx rfl (hb hby hd) (hv ▸ st), r⟩
theorem sipush {i : Int} {v : Int32} (hd : decode bs pc = .ok (.sipush i, 3)) (hv : (Int16.ofInt i).toInt32 = v) (hp : pc + 3 = pc') (hr : Go K rm Z n0 bs ml ret own nm Q kc ks h pc' L (.int v :: S)) : Go K rm Z n0 bs ml ret own nm Q kc ks h pc L S := by
  subst hp
  obtain ⟨p, l, e, s, m, args, below, meth, c⟩ := K
  intro hx hby hml hown hZ hret hlk hnm T locs X hF hh
  obtain ⟨s₂, v, L', st, r⟩ := hr hx hby hml hown hZ hret hlk hnm T locs X hF hh
  exact ⟨s₂, v, L', XS.sipush X.here hx rfl (hb hby hd) (hv ▸ st), r⟩
theorem aconstNull  (hd : decode bs pc = .ok (.aconst_null, 1)) (hp : pc + 1 = pc') (hr : Go K rm Z n0 bs ml ret own nm Q kc ks h pc' L (.null :: S)) : Go K rm Z n0 bs ml ret own nm Q kc ks h pc L S := by
  subst hp
  obtain ⟨p, l, e, s, m, args, below, meth, c⟩ := K
  intro hx hby hml hown hZ hret hlk hnm T locs X hF hh
  obtain ⟨s₂, v, L', st, r⟩ := hr hx hby hml hown hZ hret hlk hnm T locs X hF hh
  exact ⟨s₂, v, L', XS.aconstNull X.here hx rfl (hb hby hd) st, r⟩
theorem lconst0  (hd : decode bs pc = .ok (.lconst 0, 1)) (hp : pc + 1 = pc') (hr : Go K rm Z n0 bs ml ret own nm Q kc ks h pc' L (.long 0 :: S)) : Go K rm Z n0 bs ml ret own nm Q kc ks h pc L S := by
  subst hp
  obtain ⟨p, l, e, s, m, args, below, meth, c⟩ := K
  intro hx hby hml hown hZ hret hlk hnm T locs X hF hh
  obtain ⟨s₂, v, L', st, r⟩ := hr hx hby hml hown hZ hret hlk hnm T locs X hF hh
  exact ⟨s₂, v, L', XS.lconst X.here hx rfl (hb hby hd) st, r⟩
theorem lconst1  (hd : decode bs pc = .ok (.lconst 1, 1)) (hp : pc + 1 = pc') (hr : Go K rm Z n0 bs ml ret own nm Q kc ks h pc' L (.long 1 :: S)) : Go K rm Z n0 bs ml ret own nm Q kc ks h pc L S := by
  subst hp
  obtain ⟨p, l, e, s, m, args, below, meth, c⟩ := K
  intro hx hby hml hown hZ hret hlk hnm T locs X hF hh
  obtain ⟨s₂, v, L', st, r⟩ := hr hx hby hml hown hZ hret hlk hnm T locs X hF hh
  exact ⟨s₂, v, L', XS.lconst X.here hx rfl (hb hby hd) st, r⟩
theorem ldcInt {i : Nat} {v : Int32} (hd : decode bs pc = .ok (.ldc i, 2)) (w : (Jvm.Cond.constant own i v).before a0 Z = true) (hp : pc + 2 = pc') (hr : Go K rm Z n0 bs ml ret own nm Q kc ks h pc' L (.int v :: S)) : Go K rm Z n0 bs ml ret own nm Q kc ks h pc L S := by
  subst hp
  obtain ⟨p, l, e, s, m, args, below, meth, c⟩ := K
  intro hx hby hml hown hZ hret hlk hnm T locs X hF hh
  obtain ⟨s₂, v, L', st, r⟩ := hr hx hby hml hown hZ hret hlk hnm T locs X hF hh
  exact ⟨s₂, v, L', X.ldcInt hx hown (mvT hZ w) (g := mkF m pc L S) rfl (hb hby hd) _ st, r⟩
theorem ldc2Long {i : Nat} {v : Int64} (hd : decode bs pc = .ok (.ldc2_w i, 3)) (w : (Jvm.Cond.constantLong own i v).before a0 Z = true) (hp : pc + 3 = pc') (hr : Go K rm Z n0 bs ml ret own nm Q kc ks h pc' L (.long v :: S)) : Go K rm Z n0 bs ml ret own nm Q kc ks h pc L S := by
  subst hp
  obtain ⟨p, l, e, s, m, args, below, meth, c⟩ := K
  intro hx hby hml hown hZ hret hlk hnm T locs X hF hh
  obtain ⟨s₂, v, L', st, r⟩ := hr hx hby hml hown hZ hret hlk hnm T locs X hF hh
  exact ⟨s₂, v, L', X.ldc2Long hx hown (mvT hZ w) (g := mkF m pc L S) rfl (hb hby hd) _ st, r⟩
theorem iadd {x y : Int32} (hd : decode bs pc = .ok (.iadd, 1)) (hp : pc + 1 = pc') (hr : ∀ z, z = x + y → Go K rm Z n0 bs ml ret own nm Q kc ks h pc' L (.int z :: S)) : Go K rm Z n0 bs ml ret own nm Q kc ks h pc L (.int y :: .int x :: S) := by
  subst hp
  obtain ⟨p, l, e, s, m, args, below, meth, c⟩ := K
  intro hx hby hml hown hZ hret hlk hnm T locs X hF hh
  obtain ⟨s₂, v, L', st, r⟩ := hr _ rfl hx hby hml hown hZ hret hlk hnm T locs X hF hh
  exact ⟨s₂, v, L', XS.iadd X.here hx rfl (hb hby hd) rfl st, r⟩
theorem isub {x y : Int32} (hd : decode bs pc = .ok (.isub, 1)) (hp : pc + 1 = pc') (hr : ∀ z, z = x - y → Go K rm Z n0 bs ml ret own nm Q kc ks h pc' L (.int z :: S)) : Go K rm Z n0 bs ml ret own nm Q kc ks h pc L (.int y :: .int x :: S) := by
  subst hp
  obtain ⟨p, l, e, s, m, args, below, meth, c⟩ := K
  intro hx hby hml hown hZ hret hlk hnm T locs X hF hh
  obtain ⟨s₂, v, L', st, r⟩ := hr _ rfl hx hby hml hown hZ hret hlk hnm T locs X hF hh
  exact ⟨s₂, v, L', XS.isub X.here hx rfl (hb hby hd) rfl st, r⟩
theorem imul {x y : Int32} (hd : decode bs pc = .ok (.imul, 1)) (hp : pc + 1 = pc') (hr : ∀ z, z = x * y → Go K rm Z n0 bs ml ret own nm Q kc ks h pc' L (.int z :: S)) : Go K rm Z n0 bs ml ret own nm Q kc ks h pc L (.int y :: .int x :: S) := by
  subst hp
  obtain ⟨p, l, e, s, m, args, below, meth, c⟩ := K
  intro hx hby hml hown hZ hret hlk hnm T locs X hF hh
  obtain ⟨s₂, v, L', st, r⟩ := hr _ rfl hx hby hml hown hZ hret hlk hnm T locs X hF hh
  exact ⟨s₂, v, L', XS.imul X.here hx rfl (hb hby hd) rfl st, r⟩
theorem iand {x y : Int32} (hd : decode bs pc = .ok (.iand, 1)) (hp : pc + 1 = pc') (hr : ∀ z, z = x &&& y → Go K rm Z n0 bs ml ret own nm Q kc ks h pc' L (.int z :: S)) : Go K rm Z n0 bs ml ret own nm Q kc ks h pc L (.int y :: .int x :: S) := by
  subst hp
  obtain ⟨p, l, e, s, m, args, below, meth, c⟩ := K
  intro hx hby hml hown hZ hret hlk hnm T locs X hF hh
  obtain ⟨s₂, v, L', st, r⟩ := hr _ rfl hx hby hml hown hZ hret hlk hnm T locs X hF hh
  exact ⟨s₂, v, L', XS.iand X.here hx rfl (hb hby hd) rfl st, r⟩
theorem ior {x y : Int32} (hd : decode bs pc = .ok (.ior, 1)) (hp : pc + 1 = pc') (hr : ∀ z, z = x ||| y → Go K rm Z n0 bs ml ret own nm Q kc ks h pc' L (.int z :: S)) : Go K rm Z n0 bs ml ret own nm Q kc ks h pc L (.int y :: .int x :: S) := by
  subst hp
  obtain ⟨p, l, e, s, m, args, below, meth, c⟩ := K
  intro hx hby hml hown hZ hret hlk hnm T locs X hF hh
  obtain ⟨s₂, v, L', st, r⟩ := hr _ rfl hx hby hml hown hZ hret hlk hnm T locs X hF hh
  exact ⟨s₂, v, L', XS.ior X.here hx rfl (hb hby hd) rfl st, r⟩
theorem ixor {x y : Int32} (hd : decode bs pc = .ok (.ixor, 1)) (hp : pc + 1 = pc') (hr : ∀ z, z = x ^^^ y → Go K rm Z n0 bs ml ret own nm Q kc ks h pc' L (.int z :: S)) : Go K rm Z n0 bs ml ret own nm Q kc ks h pc L (.int y :: .int x :: S) := by
  subst hp
  obtain ⟨p, l, e, s, m, args, below, meth, c⟩ := K
  intro hx hby hml hown hZ hret hlk hnm T locs X hF hh
  obtain ⟨s₂, v, L', st, r⟩ := hr _ rfl hx hby hml hown hZ hret hlk hnm T locs X hF hh
  exact ⟨s₂, v, L', XS.ixor X.here hx rfl (hb hby hd) rfl st, r⟩
theorem ishl {x y : Int32} (hd : decode bs pc = .ok (.ishl, 1)) (hp : pc + 1 = pc') (hr : ∀ z, z = x <<< (y &&& 31) → Go K rm Z n0 bs ml ret own nm Q kc ks h pc' L (.int z :: S)) : Go K rm Z n0 bs ml ret own nm Q kc ks h pc L (.int y :: .int x :: S) := by
  subst hp
  obtain ⟨p, l, e, s, m, args, below, meth, c⟩ := K
  intro hx hby hml hown hZ hret hlk hnm T locs X hF hh
  obtain ⟨s₂, v, L', st, r⟩ := hr _ rfl hx hby hml hown hZ hret hlk hnm T locs X hF hh
  exact ⟨s₂, v, L', XS.ishl X.here hx rfl (hb hby hd) rfl st, r⟩
theorem ishr {x y : Int32} (hd : decode bs pc = .ok (.ishr, 1)) (hp : pc + 1 = pc') (hr : ∀ z, z = x >>> (y &&& 31) → Go K rm Z n0 bs ml ret own nm Q kc ks h pc' L (.int z :: S)) : Go K rm Z n0 bs ml ret own nm Q kc ks h pc L (.int y :: .int x :: S) := by
  subst hp
  obtain ⟨p, l, e, s, m, args, below, meth, c⟩ := K
  intro hx hby hml hown hZ hret hlk hnm T locs X hF hh
  obtain ⟨s₂, v, L', st, r⟩ := hr _ rfl hx hby hml hown hZ hret hlk hnm T locs X hF hh
  exact ⟨s₂, v, L', XS.ishr X.here hx rfl (hb hby hd) rfl st, r⟩
theorem iushr {x y : Int32} (hd : decode bs pc = .ok (.iushr, 1)) (hp : pc + 1 = pc') (hr : ∀ z, z = Jvm.Own.ushr x y → Go K rm Z n0 bs ml ret own nm Q kc ks h pc' L (.int z :: S)) : Go K rm Z n0 bs ml ret own nm Q kc ks h pc L (.int y :: .int x :: S) := by
  subst hp
  obtain ⟨p, l, e, s, m, args, below, meth, c⟩ := K
  intro hx hby hml hown hZ hret hlk hnm T locs X hF hh
  obtain ⟨s₂, v, L', st, r⟩ := hr _ rfl hx hby hml hown hZ hret hlk hnm T locs X hF hh
  exact ⟨s₂, v, L', XS.iushr X.here hx rfl (hb hby hd) rfl st, r⟩
theorem ladd {x y : Int64} (hd : decode bs pc = .ok (.ladd, 1)) (hp : pc + 1 = pc') (hr : ∀ z, z = x + y → Go K rm Z n0 bs ml ret own nm Q kc ks h pc' L (.long z :: S)) : Go K rm Z n0 bs ml ret own nm Q kc ks h pc L (.long y :: .long x :: S) := by
  subst hp
  obtain ⟨p, l, e, s, m, args, below, meth, c⟩ := K
  intro hx hby hml hown hZ hret hlk hnm T locs X hF hh
  obtain ⟨s₂, v, L', st, r⟩ := hr _ rfl hx hby hml hown hZ hret hlk hnm T locs X hF hh
  exact ⟨s₂, v, L', XS.ladd X.here hx rfl (hb hby hd) rfl st, r⟩
theorem lsub {x y : Int64} (hd : decode bs pc = .ok (.lsub, 1)) (hp : pc + 1 = pc') (hr : ∀ z, z = x - y → Go K rm Z n0 bs ml ret own nm Q kc ks h pc' L (.long z :: S)) : Go K rm Z n0 bs ml ret own nm Q kc ks h pc L (.long y :: .long x :: S) := by
  subst hp
  obtain ⟨p, l, e, s, m, args, below, meth, c⟩ := K
  intro hx hby hml hown hZ hret hlk hnm T locs X hF hh
  obtain ⟨s₂, v, L', st, r⟩ := hr _ rfl hx hby hml hown hZ hret hlk hnm T locs X hF hh
  exact ⟨s₂, v, L', XS.lsub X.here hx rfl (hb hby hd) rfl st, r⟩
theorem lmul {x y : Int64} (hd : decode bs pc = .ok (.lmul, 1)) (hp : pc + 1 = pc') (hr : ∀ z, z = x * y → Go K rm Z n0 bs ml ret own nm Q kc ks h pc' L (.long z :: S)) : Go K rm Z n0 bs ml ret own nm Q kc ks h pc L (.long y :: .long x :: S) := by
  subst hp
  obtain ⟨p, l, e, s, m, args, below, meth, c⟩ := K
  intro hx hby hml hown hZ hret hlk hnm T locs X hF hh
  obtain ⟨s₂, v, L', st, r⟩ := hr _ rfl hx hby hml hown hZ hret hlk hnm T locs X hF hh
  exact ⟨s₂, v, L', XS.lmul X.here hx rfl (hb hby hd) rfl st, r⟩
theorem land {x y : Int64} (hd : decode bs pc = .ok (.land, 1)) (hp : pc + 1 = pc') (hr : ∀ z, z = x &&& y → Go K rm Z n0 bs ml ret own nm Q kc ks h pc' L (.long z :: S)) : Go K rm Z n0 bs ml ret own nm Q kc ks h pc L (.long y :: .long x :: S) := by
  subst hp
  obtain ⟨p, l, e, s, m, args, below, meth, c⟩ := K
  intro hx hby hml hown hZ hret hlk hnm T locs X hF hh
  obtain ⟨s₂, v, L', st, r⟩ := hr _ rfl hx hby hml hown hZ hret hlk hnm T locs X hF hh
  exact ⟨s₂, v, L', XS.land X.here hx rfl (hb hby hd) rfl st, r⟩
theorem lor {x y : Int64} (hd : decode bs pc = .ok (.lor, 1)) (hp : pc + 1 = pc') (hr : ∀ z, z = x ||| y → Go K rm Z n0 bs ml ret own nm Q kc ks h pc' L (.long z :: S)) : Go K rm Z n0 bs ml ret own nm Q kc ks h pc L (.long y :: .long x :: S) := by
  subst hp
  obtain ⟨p, l, e, s, m, args, below, meth, c⟩ := K
  intro hx hby hml hown hZ hret hlk hnm T locs X hF hh
  obtain ⟨s₂, v, L', st, r⟩ := hr _ rfl hx hby hml hown hZ hret hlk hnm T locs X hF hh
  exact ⟨s₂, v, L', XS.lor X.here hx rfl (hb hby hd) rfl st, r⟩
theorem lxor {x y : Int64} (hd : decode bs pc = .ok (.lxor, 1)) (hp : pc + 1 = pc') (hr : ∀ z, z = x ^^^ y → Go K rm Z n0 bs ml ret own nm Q kc ks h pc' L (.long z :: S)) : Go K rm Z n0 bs ml ret own nm Q kc ks h pc L (.long y :: .long x :: S) := by
  subst hp
  obtain ⟨p, l, e, s, m, args, below, meth, c⟩ := K
  intro hx hby hml hown hZ hret hlk hnm T locs X hF hh
  obtain ⟨s₂, v, L', st, r⟩ := hr _ rfl hx hby hml hown hZ hret hlk hnm T locs X hF hh
  exact ⟨s₂, v, L', XS.lxor X.here hx rfl (hb hby hd) rfl st, r⟩
theorem lshl {x : Int64} {y : Int32} (hd : decode bs pc = .ok (.lshl, 1)) (hp : pc + 1 = pc') (hr : ∀ z, z = x <<< (y &&& 63).toInt64 → Go K rm Z n0 bs ml ret own nm Q kc ks h pc' L (.long z :: S)) : Go K rm Z n0 bs ml ret own nm Q kc ks h pc L (.int y :: .long x :: S) := by
  subst hp
  obtain ⟨p, l, e, s, m, args, below, meth, c⟩ := K
  intro hx hby hml hown hZ hret hlk hnm T locs X hF hh
  obtain ⟨s₂, v, L', st, r⟩ := hr _ rfl hx hby hml hown hZ hret hlk hnm T locs X hF hh
  exact ⟨s₂, v, L', XS.lshl X.here hx rfl (hb hby hd) rfl st, r⟩
theorem lshr {x : Int64} {y : Int32} (hd : decode bs pc = .ok (.lshr, 1)) (hp : pc + 1 = pc') (hr : ∀ z, z = x >>> (y &&& 63).toInt64 → Go K rm Z n0 bs ml ret own nm Q kc ks h pc' L (.long z :: S)) : Go K rm Z n0 bs ml ret own nm Q kc ks h pc L (.int y :: .long x :: S) := by
  subst hp
  obtain ⟨p, l, e, s, m, args, below, meth, c⟩ := K
  intro hx hby hml hown hZ hret hlk hnm T locs X hF hh
  obtain ⟨s₂, v, L', st, r⟩ := hr _ rfl hx hby hml hown hZ hret hlk hnm T locs X hF hh
  exact ⟨s₂, v, L', XS.lshr X.here hx rfl (hb hby hd) rfl st, r⟩
theorem lushr {x : Int64} {y : Int32} (hd : decode bs pc = .ok (.lushr, 1)) (hp : pc + 1 = pc') (hr : ∀ z, z = Jvm.Own.ushrL x y → Go K rm Z n0 bs ml ret own nm Q kc ks h pc' L (.long z :: S)) : Go K rm Z n0 bs ml ret own nm Q kc ks h pc L (.int y :: .long x :: S) := by
  subst hp
  obtain ⟨p, l, e, s, m, args, below, meth, c⟩ := K
  intro hx hby hml hown hZ hret hlk hnm T locs X hF hh
  obtain ⟨s₂, v, L', st, r⟩ := hr _ rfl hx hby hml hown hZ hret hlk hnm T locs X hF hh
  exact ⟨s₂, v, L', XS.lushr X.here hx rfl (hb hby hd) rfl st, r⟩
theorem idiv {x y : Int32} (hd : decode bs pc = .ok (.idiv, 1)) (hy : y ≠ 0) (hp : pc + 1 = pc') (hr : ∀ z, z = x / y → Go K rm Z n0 bs ml ret own nm Q kc ks h pc' L (.int z :: S)) : Go K rm Z n0 bs ml ret own nm Q kc ks h pc L (.int y :: .int x :: S) := by
  subst hp
  obtain ⟨p, l, e, s, m, args, below, meth, c⟩ := K
  intro hx hby hml hown hZ hret hlk hnm T locs X hF hh
  obtain ⟨s₂, v, L', st, r⟩ := hr _ rfl hx hby hml hown hZ hret hlk hnm T locs X hF hh
  exact ⟨s₂, v, L', XS.idiv X.here hx rfl (hb hby hd) rfl hy st, r⟩
theorem irem {x y : Int32} (hd : decode bs pc = .ok (.irem, 1)) (hy : y ≠ 0) (hp : pc + 1 = pc') (hr : ∀ z, z = x % y → Go K rm Z n0 bs ml ret own nm Q kc ks h pc' L (.int z :: S)) : Go K rm Z n0 bs ml ret own nm Q kc ks h pc L (.int y :: .int x :: S) := by
  subst hp
  obtain ⟨p, l, e, s, m, args, below, meth, c⟩ := K
  intro hx hby hml hown hZ hret hlk hnm T locs X hF hh
  obtain ⟨s₂, v, L', st, r⟩ := hr _ rfl hx hby hml hown hZ hret hlk hnm T locs X hF hh
  exact ⟨s₂, v, L', iremM X hx rfl (hb hby hd) rfl hy st, r⟩
theorem ldiv {x y : Int64} (hd : decode bs pc = .ok (.ldiv, 1)) (hy : y ≠ 0) (hp : pc + 1 = pc') (hr : ∀ z, z = x / y → Go K rm Z n0 bs ml ret own nm Q kc ks h pc' L (.long z :: S)) : Go K rm Z n0 bs ml ret own nm Q kc ks h pc L (.long y :: .long x :: S) := by
  subst hp
  obtain ⟨p, l, e, s, m, args, below, meth, c⟩ := K
  intro hx hby hml hown hZ hret hlk hnm T locs X hF hh
  obtain ⟨s₂, v, L', st, r⟩ := hr _ rfl hx hby hml hown hZ hret hlk hnm T locs X hF hh
  exact ⟨s₂, v, L', XS.ldiv X.here hx rfl (hb hby hd) rfl hy st, r⟩
theorem lrem {x y : Int64} (hd : decode bs pc = .ok (.lrem, 1)) (hy : y ≠ 0) (hp : pc + 1 = pc') (hr : ∀ z, z = x - (x / y) * y → Go K rm Z n0 bs ml ret own nm Q kc ks h pc' L (.long z :: S)) : Go K rm Z n0 bs ml ret own nm Q kc ks h pc L (.long y :: .long x :: S) := by
  subst hp
  obtain ⟨p, l, e, s, m, args, below, meth, c⟩ := K
  intro hx hby hml hown hZ hret hlk hnm T locs X hF hh
  obtain ⟨s₂, v, L', st, r⟩ := hr _ rfl hx hby hml hown hZ hret hlk hnm T locs X hF hh
  exact ⟨s₂, v, L', XS.lrem X.here hx rfl (hb hby hd) rfl hy st, r⟩
theorem ineg {x : Int32} (hd : decode bs pc = .ok (.ineg, 1)) (hp : pc + 1 = pc') (hr : ∀ z, z = -x → Go K rm Z n0 bs ml ret own nm Q kc ks h pc' L (.int z :: S)) : Go K rm Z n0 bs ml ret own nm Q kc ks h pc L (.int x :: S) := by
  subst hp
  obtain ⟨p, l, e, s, m, args, below, meth, c⟩ := K
  intro hx hby hml hown hZ hret hlk hnm T locs X hF hh
  obtain ⟨s₂, v, L', st, r⟩ := hr _ rfl hx hby hml hown hZ hret hlk hnm T locs X hF hh
  exact ⟨s₂, v, L', XS.ineg X.here hx rfl (hb hby hd) rfl st, r⟩
theorem lneg {x : Int64} (hd : decode bs pc = .ok (.lneg, 1)) (hp : pc + 1 = pc') (hr : ∀ z, z = -x → Go K rm Z n0 bs ml ret own nm Q kc ks h pc' L (.long z :: S)) : Go K rm Z n0 bs ml ret own nm Q kc ks h pc L (.long x :: S) := by
  subst hp
  obtain ⟨p, l, e, s, m, args, below, meth, c⟩ := K
  intro hx hby hml hown hZ hret hlk hnm T locs X hF hh
  obtain ⟨s₂, v, L', st, r⟩ := hr _ rfl hx hby hml hown hZ hret hlk hnm T locs X hF hh
  exact ⟨s₂, v, L', XS.lneg X.here hx rfl (hb hby hd) rfl st, r⟩
theorem i2l {x : Int32} (hd : decode bs pc = .ok (.i2l, 1)) (hp : pc + 1 = pc') (hr : ∀ z, z = x.toInt64 → Go K rm Z n0 bs ml ret own nm Q kc ks h pc' L (.long z :: S)) : Go K rm Z n0 bs ml ret own nm Q kc ks h pc L (.int x :: S) := by
  subst hp
  obtain ⟨p, l, e, s, m, args, below, meth, c⟩ := K
  intro hx hby hml hown hZ hret hlk hnm T locs X hF hh
  obtain ⟨s₂, v, L', st, r⟩ := hr _ rfl hx hby hml hown hZ hret hlk hnm T locs X hF hh
  exact ⟨s₂, v, L', XS.i2l X.here hx rfl (hb hby hd) rfl st, r⟩
theorem l2i {x : Int64} (hd : decode bs pc = .ok (.l2i, 1)) (hp : pc + 1 = pc') (hr : ∀ z, z = x.toInt32 → Go K rm Z n0 bs ml ret own nm Q kc ks h pc' L (.int z :: S)) : Go K rm Z n0 bs ml ret own nm Q kc ks h pc L (.long x :: S) := by
  subst hp
  obtain ⟨p, l, e, s, m, args, below, meth, c⟩ := K
  intro hx hby hml hown hZ hret hlk hnm T locs X hF hh
  obtain ⟨s₂, v, L', st, r⟩ := hr _ rfl hx hby hml hown hZ hret hlk hnm T locs X hF hh
  exact ⟨s₂, v, L', XS.l2i X.here hx rfl (hb hby hd) rfl st, r⟩
theorem i2b {x : Int32} (hd : decode bs pc = .ok (.i2b, 1)) (hp : pc + 1 = pc') (hr : ∀ z, z = x.toInt8.toInt32 → Go K rm Z n0 bs ml ret own nm Q kc ks h pc' L (.int z :: S)) : Go K rm Z n0 bs ml ret own nm Q kc ks h pc L (.int x :: S) := by
  subst hp
  obtain ⟨p, l, e, s, m, args, below, meth, c⟩ := K
  intro hx hby hml hown hZ hret hlk hnm T locs X hF hh
  obtain ⟨s₂, v, L', st, r⟩ := hr _ rfl hx hby hml hown hZ hret hlk hnm T locs X hF hh
  exact ⟨s₂, v, L', XS.i2b X.here hx rfl (hb hby hd) rfl st, r⟩
theorem i2c {x : Int32} (hd : decode bs pc = .ok (.i2c, 1)) (hp : pc + 1 = pc') (hr : ∀ z, z = x.toUInt32.toUInt16.toUInt32.toInt32 → Go K rm Z n0 bs ml ret own nm Q kc ks h pc' L (.int z :: S)) : Go K rm Z n0 bs ml ret own nm Q kc ks h pc L (.int x :: S) := by
  subst hp
  obtain ⟨p, l, e, s, m, args, below, meth, c⟩ := K
  intro hx hby hml hown hZ hret hlk hnm T locs X hF hh
  obtain ⟨s₂, v, L', st, r⟩ := hr _ rfl hx hby hml hown hZ hret hlk hnm T locs X hF hh
  exact ⟨s₂, v, L', XS.i2c X.here hx rfl (hb hby hd) rfl st, r⟩
theorem iinc {k : Nat} {i : Int} {x : Int32} {L1 : Int32 → Array Slot} (hd : decode bs pc = .ok (.iinc k i, 3)) (hl : L[k]? = some (.val (.int x))) (hl1 : ∀ z : Int32, storeLocals L k (.int z) = some (L1 z)) (hp : pc + 3 = pc') (hr : ∀ z, z = x + Int32.ofInt i → Go K rm Z n0 bs ml ret own nm Q kc ks h pc' (L1 z) S) : Go K rm Z n0 bs ml ret own nm Q kc ks h pc L S := by
  subst hp
  obtain ⟨p, l, e, s, m, args, below, meth, c⟩ := K
  intro hx hby hml hown hZ hret hlk hnm T locs X hF hh
  obtain ⟨s₂, v, L', st, r⟩ := hr _ rfl hx hby hml hown hZ hret hlk hnm T locs X hF hh
  exact ⟨s₂, v, L', XS.iinc X.here hx rfl (hb hby hd) hl (hl1 _) st, r⟩
theorem dup {x : Value} (hd : decode bs pc = .ok (.dup, 1)) (hc : x.category = 1) (hp : pc + 1 = pc') (hr : Go K rm Z n0 bs ml ret own nm Q kc ks h pc' L (x :: x :: S)) : Go K rm Z n0 bs ml ret own nm Q kc ks h pc L (x :: S) := by
  subst hp
  obtain ⟨p, l, e, s, m, args, below, meth, c⟩ := K
  intro hx hby hml hown hZ hret hlk hnm T locs X hF hh
  obtain ⟨s₂, v, L', st, r⟩ := hr hx hby hml hown hZ hret hlk hnm T locs X hF hh
  exact ⟨s₂, v, L', XS.dup X.here hx rfl (hb hby hd) rfl hc st, r⟩
theorem pop {x : Value} (hd : decode bs pc = .ok (.pop, 1)) (hc : x.category = 1) (hp : pc + 1 = pc') (hr : Go K rm Z n0 bs ml ret own nm Q kc ks h pc' L S) : Go K rm Z n0 bs ml ret own nm Q kc ks h pc L (x :: S) := by
  subst hp
  obtain ⟨p, l, e, s, m, args, below, meth, c⟩ := K
  intro hx hby hml hown hZ hret hlk hnm T locs X hF hh
  obtain ⟨s₂, v, L', st, r⟩ := hr hx hby hml hown hZ hret hlk hnm T locs X hF hh
  exact ⟨s₂, v, L', XS.pop X.here hx rfl (hb hby hd) rfl hc st, r⟩
theorem dupX1 {x y : Value} (hd : decode bs pc = .ok (.dup_x1, 1)) (hc : x.category = 1) (hc2 : y.category = 1) (hp : pc + 1 = pc') (hr : Go K rm Z n0 bs ml ret own nm Q kc ks h pc' L (x :: y :: x :: S)) : Go K rm Z n0 bs ml ret own nm Q kc ks h pc L (x :: y :: S) := by
  subst hp
  obtain ⟨p, l, e, s, m, args, below, meth, c⟩ := K
  intro hx hby hml hown hZ hret hlk hnm T locs X hF hh
  obtain ⟨s₂, v, L', st, r⟩ := hr hx hby hml hown hZ hret hlk hnm T locs X hF hh
  exact ⟨s₂, v, L', XS.dupX1 X.here hx rfl (hb hby hd) rfl hc hc2 st, r⟩
theorem goto {o : Int} (hd : decode bs pc = .ok (.goto o, 3)) (ho : 0 ≤ (pc : Int) + o) (hp : ((pc : Int) + o).toNat = pc') (hr : Go K rm Z n0 bs ml ret own nm Q kc ks h pc' L S) : Go K rm Z n0 bs ml ret own nm Q kc ks h pc L S := by
  obtain ⟨p, l, e, s, m, args, below, meth, c⟩ := K
  intro hx hby hml hown hZ hret hlk hnm T locs X hF hh
  obtain ⟨s₂, v, L', st, r⟩ := hr hx hby hml hown hZ hret hlk hnm T locs X hF hh
  exact ⟨s₂, v, L', XS.goto X.here hx rfl (pc0 := pc) (pc' := pc') rfl (hb hby hd) ho hp st, r⟩
theorem holds_iff (cd : ClassFile.Cond) (x y : Int32) : if_icmp.holds cd x y = true ↔ (match cd with | .lt => x.toInt < y.toInt | .ge => y.toInt ≤ x.toInt | .gt => y.toInt < x.toInt | .le => x.toInt ≤ y.toInt | .eq => x = y | .ne => x ≠ y) := by
  cases cd <;> simp [if_icmp.holds, Int32.lt_iff_toInt_lt, Int32.le_iff_toInt_le]
theorem icmp_lt {x y : Int32} {o : Int} {pc2 : Nat} (hd : decode bs pc = .ok (.if_icmp .lt o, 3)) (ho : 0 ≤ (pc : Int) + o) (hp : ((pc : Int) + o).toNat = pc') (hp2 : pc + 3 = pc2)
    (hy : x.toInt < y.toInt → Go K rm Z n0 bs ml ret own nm Q kc ks h pc' L S) (hn : ¬ (x.toInt < y.toInt) → Go K rm Z n0 bs ml ret own nm Q kc ks h pc2 L S) : Go K rm Z n0 bs ml ret own nm Q kc ks h pc L (.int y :: .int x :: S) := by
  subst hp2
  by_cases q : x.toInt < y.toInt
  · have q2 := (holds_iff .lt x y).mpr q
    replace hy := hy q
    obtain ⟨p, l, e, s, m, args, below, meth, c⟩ := K
    intro hx hby hml hown hZ hret hlk hnm T locs X hF hh
    obtain ⟨s₂, v, L', st, r⟩ := hy hx hby hml hown hZ hret hlk hnm T locs X hF hh
    exact ⟨s₂, v, L', XS.icmpYes X.here hx rfl (pc0 := pc) (pc' := pc') rfl (hb hby hd) rfl q2 ho hp st, r⟩
  · have q2 : if_icmp.holds .lt x y = false := by rw [← Bool.not_eq_true]; exact fun t => q ((holds_iff .lt x y).mp t)
    replace hn := hn q
    obtain ⟨p, l, e, s, m, args, below, meth, c⟩ := K
    intro hx hby hml hown hZ hret hlk hnm T locs X hF hh
    obtain ⟨s₂, v, L', st, r⟩ := hn hx hby hml hown hZ hret hlk hnm T locs X hF hh
    exact ⟨s₂, v, L', XS.icmpNo X.here hx rfl (hb hby hd) rfl q2 st, r⟩
theorem icmp_ge {x y : Int32} {o : Int} {pc2 : Nat} (hd : decode bs pc = .ok (.if_icmp .ge o, 3)) (ho : 0 ≤ (pc : Int) + o) (hp : ((pc : Int) + o).toNat = pc') (hp2 : pc + 3 = pc2)
    (hy : y.toInt ≤ x.toInt → Go K rm Z n0 bs ml ret own nm Q kc ks h pc' L S) (hn : ¬ (y.toInt ≤ x.toInt) → Go K rm Z n0 bs ml ret own nm Q kc ks h pc2 L S) : Go K rm Z n0 bs ml ret own nm Q kc ks h pc L (.int y :: .int x :: S) := by
  subst hp2
  by_cases q : y.toInt ≤ x.toInt
  · have q2 := (holds_iff .ge x y).mpr q
    replace hy := hy q
    obtain ⟨p, l, e, s, m, args, below, meth, c⟩ := K
    intro hx hby hml hown hZ hret hlk hnm T locs X hF hh
    obtain ⟨s₂, v, L', st, r⟩ := hy hx hby hml hown hZ hret hlk hnm T locs X hF hh
    exact ⟨s₂, v, L', XS.icmpYes X.here hx rfl (pc0 := pc) (pc' := pc') rfl (hb hby hd) rfl q2 ho hp st, r⟩
  · have q2 : if_icmp.holds .ge x y = false := by rw [← Bool.not_eq_true]; exact fun t => q ((holds_iff .ge x y).mp t)
    replace hn := hn q
    obtain ⟨p, l, e, s, m, args, below, meth, c⟩ := K
    intro hx hby hml hown hZ hret hlk hnm T locs X hF hh
    obtain ⟨s₂, v, L', st, r⟩ := hn hx hby hml hown hZ hret hlk hnm T locs X hF hh
    exact ⟨s₂, v, L', XS.icmpNo X.here hx rfl (hb hby hd) rfl q2 st, r⟩
theorem icmp_gt {x y : Int32} {o : Int} {pc2 : Nat} (hd : decode bs pc = .ok (.if_icmp .gt o, 3)) (ho : 0 ≤ (pc : Int) + o) (hp : ((pc : Int) + o).toNat = pc') (hp2 : pc + 3 = pc2)
    (hy : y.toInt < x.toInt → Go K rm Z n0 bs ml ret own nm Q kc ks h pc' L S) (hn : ¬ (y.toInt < x.toInt) → Go K rm Z n0 bs ml ret own nm Q kc ks h pc2 L S) : Go K rm Z n0 bs ml ret own nm Q kc ks h pc L (.int y :: .int x :: S) := by
  subst hp2
  by_cases q : y.toInt < x.toInt
  · have q2 := (holds_iff .gt x y).mpr q
    replace hy := hy q
    obtain ⟨p, l, e, s, m, args, below, meth, c⟩ := K
    intro hx hby hml hown hZ hret hlk hnm T locs X hF hh
    obtain ⟨s₂, v, L', st, r⟩ := hy hx hby hml hown hZ hret hlk hnm T locs X hF hh
    exact ⟨s₂, v, L', XS.icmpYes X.here hx rfl (pc0 := pc) (pc' := pc') rfl (hb hby hd) rfl q2 ho hp st, r⟩
  · have q2 : if_icmp.holds .gt x y = false := by rw [← Bool.not_eq_true]; exact fun t => q ((holds_iff .gt x y).mp t)
    replace hn := hn q
    obtain ⟨p, l, e, s, m, args, below, meth, c⟩ := K
    intro hx hby hml hown hZ hret hlk hnm T locs X hF hh
    obtain ⟨s₂, v, L', st, r⟩ := hn hx hby hml hown hZ hret hlk hnm T locs X hF hh
    exact ⟨s₂, v, L', XS.icmpNo X.here hx rfl (hb hby hd) rfl q2 st, r⟩
theorem icmp_le {x y : Int32} {o : Int} {pc2 : Nat} (hd : decode bs pc = .ok (.if_icmp .le o, 3)) (ho : 0 ≤ (pc : Int) + o) (hp : ((pc : Int) + o).toNat = pc') (hp2 : pc + 3 = pc2)
    (hy : x.toInt ≤ y.toInt → Go K rm Z n0 bs ml ret own nm Q kc ks h pc' L S) (hn : ¬ (x.toInt ≤ y.toInt) → Go K rm Z n0 bs ml ret own nm Q kc ks h pc2 L S) : Go K rm Z n0 bs ml ret own nm Q kc ks h pc L (.int y :: .int x :: S) := by
  subst hp2
  by_cases q : x.toInt ≤ y.toInt
  · have q2 := (holds_iff .le x y).mpr q
    replace hy := hy q
    obtain ⟨p, l, e, s, m, args, below, meth, c⟩ := K
    intro hx hby hml hown hZ hret hlk hnm T locs X hF hh
    obtain ⟨s₂, v, L', st, r⟩ := hy hx hby hml hown hZ hret hlk hnm T locs X hF hh
    exact ⟨s₂, v, L', XS.icmpYes X.here hx rfl (pc0 := pc) (pc' := pc') rfl (hb hby hd) rfl q2 ho hp st, r⟩
  · have q2 : if_icmp.holds .le x y = false := by rw [← Bool.not_eq_true]; exact fun t => q ((holds_iff .le x y).mp t)
    replace hn := hn q
    obtain ⟨p, l, e, s, m, args, below, meth, c⟩ := K
    intro hx hby hml hown hZ hret hlk hnm T locs X hF hh
    obtain ⟨s₂, v, L', st, r⟩ := hn hx hby hml hown hZ hret hlk hnm T locs X hF hh
    exact ⟨s₂, v, L', XS.icmpNo X.here hx rfl (hb hby hd) rfl q2 st, r⟩
theorem icmp_eq {x y : Int32} {o : Int} {pc2 : Nat} (hd : decode bs pc = .ok (.if_icmp .eq o, 3)) (ho : 0 ≤ (pc : Int) + o) (hp : ((pc : Int) + o).toNat = pc') (hp2 : pc + 3 = pc2)
    (hy : x = y → Go K rm Z n0 bs ml ret own nm Q kc ks h pc' L S) (hn : ¬ (x = y) → Go K rm Z n0 bs ml ret own nm Q kc ks h pc2 L S) : Go K rm Z n0 bs ml ret own nm Q kc ks h pc L (.int y :: .int x :: S) := by
  subst hp2
  by_cases q : x = y
  · have q2 := (holds_iff .eq x y).mpr q
    replace hy := hy q
    obtain ⟨p, l, e, s, m, args, below, meth, c⟩ := K
    intro hx hby hml hown hZ hret hlk hnm T locs X hF hh
    obtain ⟨s₂, v, L', st, r⟩ := hy hx hby hml hown hZ hret hlk hnm T locs X hF hh
    exact ⟨s₂, v, L', XS.icmpYes X.here hx rfl (pc0 := pc) (pc' := pc') rfl (hb hby hd) rfl q2 ho hp st, r⟩
  · have q2 : if_icmp.holds .eq x y = false := by rw [← Bool.not_eq_true]; exact fun t => q ((holds_iff .eq x y).mp t)
    replace hn := hn q
    obtain ⟨p, l, e, s, m, args, below, meth, c⟩ := K
    intro hx hby hml hown hZ hret hlk hnm T locs X hF hh
    obtain ⟨s₂, v, L', st, r⟩ := hn hx hby hml hown hZ hret hlk hnm T locs X hF hh
    exact ⟨s₂, v, L', XS.icmpNo X.here hx rfl (hb hby hd) rfl q2 st, r⟩
theorem icmp_ne {x y : Int32} {o : Int} {pc2 : Nat} (hd : decode bs pc = .ok (.if_icmp .ne o, 3)) (ho : 0 ≤ (pc : Int) + o) (hp : ((pc : Int) + o).toNat = pc') (hp2 : pc + 3 = pc2)
    (hy : x ≠ y → Go K rm Z n0 bs ml ret own nm Q kc ks h pc' L S) (hn : ¬ (x ≠ y) → Go K rm Z n0 bs ml ret own nm Q kc ks h pc2 L S) : Go K rm Z n0 bs ml ret own nm Q kc ks h pc L (.int y :: .int x :: S) := by
  subst hp2
  by_cases q : x ≠ y
  · have q2 := (holds_iff .ne x y).mpr q
    replace hy := hy q
    obtain ⟨p, l, e, s, m, args, below, meth, c⟩ := K
    intro hx hby hml hown hZ hret hlk hnm T locs X hF hh
    obtain ⟨s₂, v, L', st, r⟩ := hy hx hby hml hown hZ hret hlk hnm T locs X hF hh
    exact ⟨s₂, v, L', XS.icmpYes X.here hx rfl (pc0 := pc) (pc' := pc') rfl (hb hby hd) rfl q2 ho hp st, r⟩
  · have q2 : if_icmp.holds .ne x y = false := by rw [← Bool.not_eq_true]; exact fun t => q ((holds_iff .ne x y).mp t)
    replace hn := hn q
    obtain ⟨p, l, e, s, m, args, below, meth, c⟩ := K
    intro hx hby hml hown hZ hret hlk hnm T locs X hF hh
    obtain ⟨s₂, v, L', st, r⟩ := hn hx hby hml hown hZ hret hlk hnm T locs X hF hh
    exact ⟨s₂, v, L', XS.icmpNo X.here hx rfl (hb hby hd) rfl q2 st, r⟩
theorem if_lt {x : Int32} {o : Int} {pc2 : Nat} (hd : decode bs pc = .ok (.ifCond .lt o, 3)) (ho : 0 ≤ (pc : Int) + o) (hp : ((pc : Int) + o).toNat = pc') (hp2 : pc + 3 = pc2)
    (hy : x.toInt < 0 → Go K rm Z n0 bs ml ret own nm Q kc ks h pc' L S) (hn : ¬ (x.toInt < 0) → Go K rm Z n0 bs ml ret own nm Q kc ks h pc2 L S) : Go K rm Z n0 bs ml ret own nm Q kc ks h pc L (.int x :: S) := by
  subst hp2
  by_cases q : x.toInt < 0
  · have q2 : ifCond.holds .lt x = true := (if0 _ _).trans ((holds_iff .lt x 0).mpr (by simpa using q))
    replace hy := hy q
    obtain ⟨p, l, e, s, m, args, below, meth, c⟩ := K
    intro hx hby hml hown hZ hret hlk hnm T locs X hF hh
    obtain ⟨s₂, v, L', st, r⟩ := hy hx hby hml hown hZ hret hlk hnm T locs X hF hh
    exact ⟨s₂, v, L', XS.ifYes X.here hx rfl (pc0 := pc) (pc' := pc') rfl (hb hby hd) rfl q2 ho hp st, r⟩
  · have q2 : ifCond.holds .lt x = false := by rw [← Bool.not_eq_true, if0]; exact fun t => q (by simpa using (holds_iff .lt x 0).mp t)
    replace hn := hn q
    obtain ⟨p, l, e, s, m, args, below, meth, c⟩ := K
    intro hx hby hml hown hZ hret hlk hnm T locs X hF hh
    obtain ⟨s₂, v, L', st, r⟩ := hn hx hby hml hown hZ hret hlk hnm T locs X hF hh
    exact ⟨s₂, v, L', XS.ifNo X.here hx rfl (hb hby hd) rfl q2 st, r⟩
theorem if_ge {x : Int32} {o : Int} {pc2 : Nat} (hd : decode bs pc = .ok (.ifCond .ge o, 3)) (ho : 0 ≤ (pc : Int) + o) (hp : ((pc : Int) + o).toNat = pc') (hp2 : pc + 3 = pc2)
    (hy : 0 ≤ x.toInt → Go K rm Z n0 bs ml ret own nm Q kc ks h pc' L S) (hn : ¬ (0 ≤ x.toInt) → Go K rm Z n0 bs ml ret own nm Q kc ks h pc2 L S) : Go K rm Z n0 bs ml ret own nm Q kc ks h pc L (.int x :: S) := by
  subst hp2
  by_cases q : 0 ≤ x.toInt
  · have q2 : ifCond.holds .ge x = true := (if0 _ _).trans ((holds_iff .ge x 0).mpr (by simpa using q))
    replace hy := hy q
    obtain ⟨p, l, e, s, m, args, below, meth, c⟩ := K
    intro hx hby hml hown hZ hret hlk hnm T locs X hF hh
    obtain ⟨s₂, v, L', st, r⟩ := hy hx hby hml hown hZ hret hlk hnm T locs X hF hh
    exact ⟨s₂, v, L', XS.ifYes X.here hx rfl (pc0 := pc) (pc' := pc') rfl (hb hby hd) rfl q2 ho hp st, r⟩
  · have q2 : ifCond.holds .ge x = false := by rw [← Bool.not_eq_true, if0]; exact fun t => q (by simpa using (holds_iff .ge x 0).mp t)
    replace hn := hn q
    obtain ⟨p, l, e, s, m, args, below, meth, c⟩ := K
    intro hx hby hml hown hZ hret hlk hnm T locs X hF hh
    obtain ⟨s₂, v, L', st, r⟩ := hn hx hby hml hown hZ hret hlk hnm T locs X hF hh
    exact ⟨s₂, v, L', XS.ifNo X.here hx rfl (hb hby hd) rfl q2 st, r⟩
theorem if_gt {x : Int32} {o : Int} {pc2 : Nat} (hd : decode bs pc = .ok (.ifCond .gt o, 3)) (ho : 0 ≤ (pc : Int) + o) (hp : ((pc : Int) + o).toNat = pc') (hp2 : pc + 3 = pc2)
    (hy : 0 < x.toInt → Go K rm Z n0 bs ml ret own nm Q kc ks h pc' L S) (hn : ¬ (0 < x.toInt) → Go K rm Z n0 bs ml ret own nm Q kc ks h pc2 L S) : Go K rm Z n0 bs ml ret own nm Q kc ks h pc L (.int x :: S) := by
  subst hp2
  by_cases q : 0 < x.toInt
  · have q2 : ifCond.holds .gt x = true := (if0 _ _).trans ((holds_iff .gt x 0).mpr (by simpa using q))
    replace hy := hy q
    obtain ⟨p, l, e, s, m, args, below, meth, c⟩ := K
    intro hx hby hml hown hZ hret hlk hnm T locs X hF hh
    obtain ⟨s₂, v, L', st, r⟩ := hy hx hby hml hown hZ hret hlk hnm T locs X hF hh
    exact ⟨s₂, v, L', XS.ifYes X.here hx rfl (pc0 := pc) (pc' := pc') rfl (hb hby hd) rfl q2 ho hp st, r⟩
  · have q2 : ifCond.holds .gt x = false := by rw [← Bool.not_eq_true, if0]; exact fun t => q (by simpa using (holds_iff .gt x 0).mp t)
    replace hn := hn q
    obtain ⟨p, l, e, s, m, args, below, meth, c⟩ := K
    intro hx hby hml hown hZ hret hlk hnm T locs X hF hh
    obtain ⟨s₂, v, L', st, r⟩ := hn hx hby hml hown hZ hret hlk hnm T locs X hF hh
    exact ⟨s₂, v, L', XS.ifNo X.here hx rfl (hb hby hd) rfl q2 st, r⟩
theorem if_le {x : Int32} {o : Int} {pc2 : Nat} (hd : decode bs pc = .ok (.ifCond .le o, 3)) (ho : 0 ≤ (pc : Int) + o) (hp : ((pc : Int) + o).toNat = pc') (hp2 : pc + 3 = pc2)
    (hy : x.toInt ≤ 0 → Go K rm Z n0 bs ml ret own nm Q kc ks h pc' L S) (hn : ¬ (x.toInt ≤ 0) → Go K rm Z n0 bs ml ret own nm Q kc ks h pc2 L S) : Go K rm Z n0 bs ml ret own nm Q kc ks h pc L (.int x :: S) := by
  subst hp2
  by_cases q : x.toInt ≤ 0
  · have q2 : ifCond.holds .le x = true := (if0 _ _).trans ((holds_iff .le x 0).mpr (by simpa using q))
    replace hy := hy q
    obtain ⟨p, l, e, s, m, args, below, meth, c⟩ := K
    intro hx hby hml hown hZ hret hlk hnm T locs X hF hh
    obtain ⟨s₂, v, L', st, r⟩ := hy hx hby hml hown hZ hret hlk hnm T locs X hF hh
    exact ⟨s₂, v, L', XS.ifYes X.here hx rfl (pc0 := pc) (pc' := pc') rfl (hb hby hd) rfl q2 ho hp st, r⟩
  · have q2 : ifCond.holds .le x = false := by rw [← Bool.not_eq_true, if0]; exact fun t => q (by simpa using (holds_iff .le x 0).mp t)
    replace hn := hn q
    obtain ⟨p, l, e, s, m, args, below, meth, c⟩ := K
    intro hx hby hml hown hZ hret hlk hnm T locs X hF hh
    obtain ⟨s₂, v, L', st, r⟩ := hn hx hby hml hown hZ hret hlk hnm T locs X hF hh
    exact ⟨s₂, v, L', XS.ifNo X.here hx rfl (hb hby hd) rfl q2 st, r⟩
theorem if_eq {x : Int32} {o : Int} {pc2 : Nat} (hd : decode bs pc = .ok (.ifCond .eq o, 3)) (ho : 0 ≤ (pc : Int) + o) (hp : ((pc : Int) + o).toNat = pc') (hp2 : pc + 3 = pc2)
    (hy : x = 0 → Go K rm Z n0 bs ml ret own nm Q kc ks h pc' L S) (hn : ¬ (x = 0) → Go K rm Z n0 bs ml ret own nm Q kc ks h pc2 L S) : Go K rm Z n0 bs ml ret own nm Q kc ks h pc L (.int x :: S) := by
  subst hp2
  by_cases q : x = 0
  · have q2 : ifCond.holds .eq x = true := (if0 _ _).trans ((holds_iff .eq x 0).mpr (by simpa using q))
    replace hy := hy q
    obtain ⟨p, l, e, s, m, args, below, meth, c⟩ := K
    intro hx hby hml hown hZ hret hlk hnm T locs X hF hh
    obtain ⟨s₂, v, L', st, r⟩ := hy hx hby hml hown hZ hret hlk hnm T locs X hF hh
    exact ⟨s₂, v, L', XS.ifYes X.here hx rfl (pc0 := pc) (pc' := pc') rfl (hb hby hd) rfl q2 ho hp st, r⟩
  · have q2 : ifCond.holds .eq x = false := by rw [← Bool.not_eq_true, if0]; exact fun t => q (by simpa using (holds_iff .eq x 0).mp t)
    replace hn := hn q
    obtain ⟨p, l, e, s, m, args, below, meth, c⟩ := K
    intro hx hby hml hown hZ hret hlk hnm T locs X hF hh
    obtain ⟨s₂, v, L', st, r⟩ := hn hx hby hml hown hZ hret hlk hnm T locs X hF hh
    exact ⟨s₂, v, L', XS.ifNo X.here hx rfl (hb hby hd) rfl q2 st, r⟩
theorem if_ne {x : Int32} {o : Int} {pc2 : Nat} (hd : decode bs pc = .ok (.ifCond .ne o, 3)) (ho : 0 ≤ (pc : Int) + o) (hp : ((pc : Int) + o).toNat = pc') (hp2 : pc + 3 = pc2)
    (hy : x ≠ 0 → Go K rm Z n0 bs ml ret own nm Q kc ks h pc' L S) (hn : ¬ (x ≠ 0) → Go K rm Z n0 bs ml ret own nm Q kc ks h pc2 L S) : Go K rm Z n0 bs ml ret own nm Q kc ks h pc L (.int x :: S) := by
  subst hp2
  by_cases q : x ≠ 0
  · have q2 : ifCond.holds .ne x = true := (if0 _ _).trans ((holds_iff .ne x 0).mpr (by simpa using q))
    replace hy := hy q
    obtain ⟨p, l, e, s, m, args, below, meth, c⟩ := K
    intro hx hby hml hown hZ hret hlk hnm T locs X hF hh
    obtain ⟨s₂, v, L', st, r⟩ := hy hx hby hml hown hZ hret hlk hnm T locs X hF hh
    exact ⟨s₂, v, L', XS.ifYes X.here hx rfl (pc0 := pc) (pc' := pc') rfl (hb hby hd) rfl q2 ho hp st, r⟩
  · have q2 : ifCond.holds .ne x = false := by rw [← Bool.not_eq_true, if0]; exact fun t => q (by simpa using (holds_iff .ne x 0).mp t)
    replace hn := hn q
    obtain ⟨p, l, e, s, m, args, below, meth, c⟩ := K
    intro hx hby hml hown hZ hret hlk hnm T locs X hF hh
    obtain ⟨s₂, v, L', st, r⟩ := hn hx hby hml hown hZ hret hlk hnm T locs X hF hh
    exact ⟨s₂, v, L', XS.ifNo X.here hx rfl (hb hby hd) rfl q2 st, r⟩
theorem lcmp0 {x y : Int64} (hd : decode bs pc = .ok (.lcmp, 1)) (hp : pc + 1 = pc') (hr : Go K rm Z n0 bs ml ret own nm Q kc ks h pc' L (.int (lcmpW x y) :: S)) : Go K rm Z n0 bs ml ret own nm Q kc ks h pc L (.long y :: .long x :: S) := by
  subst hp
  obtain ⟨p, l, e, s, m, args, below, meth, c⟩ := K
  intro hx hby hml hown hZ hret hlk hnm T locs X hF hh
  obtain ⟨s₂, v, L', st, r⟩ := hr hx hby hml hown hZ hret hlk hnm T locs X hF hh
  exact ⟨s₂, v, L', XS.lcmp X.here hx rfl (hb hby hd) rfl st, r⟩
theorem lw_pos (x y : Int64) : (lcmpW x y).toInt < 0 ↔ x.toInt < y.toInt := by
  have := lw_lt x y; rw [Int32.lt_iff_toInt_lt, Int64.lt_iff_toInt_lt] at this; simpa using this
theorem lw_neg (x y : Int64) : 0 < (lcmpW x y).toInt ↔ y.toInt < x.toInt := by
  have := lw_gt x y; rw [Int32.lt_iff_toInt_lt, Int64.lt_iff_toInt_lt] at this; simpa using this
theorem lcmp_lt {x y : Int64} {o : Int} {pc1 pc2 : Nat} (hd : decode bs pc = .ok (.lcmp, 1)) (hp1 : pc + 1 = pc1) (hd1 : decode bs pc1 = .ok (.ifCond .lt o, 3)) (ho : 0 ≤ (pc1 : Int) + o) (hp : ((pc1 : Int) + o).toNat = pc') (hp2 : pc1 + 3 = pc2)
    (hy : x.toInt < y.toInt → Go K rm Z n0 bs ml ret own nm Q kc ks h pc' L S) (hn : ¬ (x.toInt < y.toInt) → Go K rm Z n0 bs ml ret own nm Q kc ks h pc2 L S) : Go K rm Z n0 bs ml ret own nm Q kc ks h pc L (.long y :: .long x :: S) := by
  have e : ((lcmpW x y).toInt < 0) ↔ (x.toInt < y.toInt) := lw_pos x y
  exact lcmp0 hd hp1 (if_lt hd1 ho hp hp2 (fun q => hy (e.mp q)) (fun q => hn (fun t => q (e.mpr t))))
theorem lcmp_ge {x y : Int64} {o : Int} {pc1 pc2 : Nat} (hd : decode bs pc = .ok (.lcmp, 1)) (hp1 : pc + 1 = pc1) (hd1 : decode bs pc1 = .ok (.ifCond .ge o, 3)) (ho : 0 ≤ (pc1 : Int) + o) (hp : ((pc1 : Int) + o).toNat = pc') (hp2 : pc1 + 3 = pc2)
    (hy : y.toInt ≤ x.toInt → Go K rm Z n0 bs ml ret own nm Q kc ks h pc' L S) (hn : ¬ (y.toInt ≤ x.toInt) → Go K rm Z n0 bs ml ret own nm Q kc ks h pc2 L S) : Go K rm Z n0 bs ml ret own nm Q kc ks h pc L (.long y :: .long x :: S) := by
  have e : (0 ≤ (lcmpW x y).toInt) ↔ (y.toInt ≤ x.toInt) := (by rw [← Int.not_lt, ← Int.not_lt, lw_pos])
  exact lcmp0 hd hp1 (if_ge hd1 ho hp hp2 (fun q => hy (e.mp q)) (fun q => hn (fun t => q (e.mpr t))))
theorem lcmp_gt {x y : Int64} {o : Int} {pc1 pc2 : Nat} (hd : decode bs pc = .ok (.lcmp, 1)) (hp1 : pc + 1 = pc1) (hd1 : decode bs pc1 = .ok (.ifCond .gt o, 3)) (ho : 0 ≤ (pc1 : Int) + o) (hp : ((pc1 : Int) + o).toNat = pc') (hp2 : pc1 + 3 = pc2)
    (hy : y.toInt < x.toInt → Go K rm Z n0 bs ml ret own nm Q kc ks h pc' L S) (hn : ¬ (y.toInt < x.toInt) → Go K rm Z n0 bs ml ret own nm Q kc ks h pc2 L S) : Go K rm Z n0 bs ml ret own nm Q kc ks h pc L (.long y :: .long x :: S) := by
  have e : (0 < (lcmpW x y).toInt) ↔ (y.toInt < x.toInt) := lw_neg x y
  exact lcmp0 hd hp1 (if_gt hd1 ho hp hp2 (fun q => hy (e.mp q)) (fun q => hn (fun t => q (e.mpr t))))
theorem lcmp_le {x y : Int64} {o : Int} {pc1 pc2 : Nat} (hd : decode bs pc = .ok (.lcmp, 1)) (hp1 : pc + 1 = pc1) (hd1 : decode bs pc1 = .ok (.ifCond .le o, 3)) (ho : 0 ≤ (pc1 : Int) + o) (hp : ((pc1 : Int) + o).toNat = pc') (hp2 : pc1 + 3 = pc2)
    (hy : x.toInt ≤ y.toInt → Go K rm Z n0 bs ml ret own nm Q kc ks h pc' L S) (hn : ¬ (x.toInt ≤ y.toInt) → Go K rm Z n0 bs ml ret own nm Q kc ks h pc2 L S) : Go K rm Z n0 bs ml ret own nm Q kc ks h pc L (.long y :: .long x :: S) := by
  have e : ((lcmpW x y).toInt ≤ 0) ↔ (x.toInt ≤ y.toInt) := (by rw [← Int.not_lt, ← Int.not_lt, lw_neg])
  exact lcmp0 hd hp1 (if_le hd1 ho hp hp2 (fun q => hy (e.mp q)) (fun q => hn (fun t => q (e.mpr t))))
theorem lcmp_eq {x y : Int64} {o : Int} {pc1 pc2 : Nat} (hd : decode bs pc = .ok (.lcmp, 1)) (hp1 : pc + 1 = pc1) (hd1 : decode bs pc1 = .ok (.ifCond .eq o, 3)) (ho : 0 ≤ (pc1 : Int) + o) (hp : ((pc1 : Int) + o).toNat = pc') (hp2 : pc1 + 3 = pc2)
    (hy : x = y → Go K rm Z n0 bs ml ret own nm Q kc ks h pc' L S) (hn : ¬ (x = y) → Go K rm Z n0 bs ml ret own nm Q kc ks h pc2 L S) : Go K rm Z n0 bs ml ret own nm Q kc ks h pc L (.long y :: .long x :: S) := by
  have e : ((lcmpW x y) = 0) ↔ (x = y) := lw_eq x y
  exact lcmp0 hd hp1 (if_eq hd1 ho hp hp2 (fun q => hy (e.mp q)) (fun q => hn (fun t => q (e.mpr t))))
theorem lcmp_ne {x y : Int64} {o : Int} {pc1 pc2 : Nat} (hd : decode bs pc = .ok (.lcmp, 1)) (hp1 : pc + 1 = pc1) (hd1 : decode bs pc1 = .ok (.ifCond .ne o, 3)) (ho : 0 ≤ (pc1 : Int) + o) (hp : ((pc1 : Int) + o).toNat = pc') (hp2 : pc1 + 3 = pc2)
    (hy : x ≠ y → Go K rm Z n0 bs ml ret own nm Q kc ks h pc' L S) (hn : ¬ (x ≠ y) → Go K rm Z n0 bs ml ret own nm Q kc ks h pc2 L S) : Go K rm Z n0 bs ml ret own nm Q kc ks h pc L (.long y :: .long x :: S) := by
  have e : ((lcmpW x y) ≠ 0) ↔ (x ≠ y) := not_congr (lw_eq x y)
  exact lcmp0 hd hp1 (if_ne hd1 ho hp hp2 (fun q => hy (e.mp q)) (fun q => hn (fun t => q (e.mpr t))))
theorem ifnull_yes {o : Int} (hd : decode bs pc = .ok (.ifnull o, 3)) (ho : 0 ≤ (pc : Int) + o) (hp : ((pc : Int) + o).toNat = pc') (hr : Go K rm Z n0 bs ml ret own nm Q kc ks h pc' L S) : Go K rm Z n0 bs ml ret own nm Q kc ks h pc L (.null :: S) := by
  obtain ⟨p, l, e, s, m, args, below, meth, c⟩ := K
  intro hx hby hml hown hZ hret hlk hnm T locs X hF hh
  obtain ⟨s₂, v, L', st, r⟩ := hr hx hby hml hown hZ hret hlk hnm T locs X hF hh
  exact ⟨s₂, v, L', XS.ifnullYes X.here hx rfl (pc0 := pc) (pc' := pc') rfl (hb hby hd) rfl ho hp st, r⟩
theorem ifnull_no {o : Int} {b : Addr} (hd : decode bs pc = .ok (.ifnull o, 3)) (hp : pc + 3 = pc') (hr : Go K rm Z n0 bs ml ret own nm Q kc ks h pc' L S) : Go K rm Z n0 bs ml ret own nm Q kc ks h pc L (.ref b :: S) := by
  subst hp
  obtain ⟨p, l, e, s, m, args, below, meth, c⟩ := K
  intro hx hby hml hown hZ hret hlk hnm T locs X hF hh
  obtain ⟨s₂, v, L', st, r⟩ := hr hx hby hml hown hZ hret hlk hnm T locs X hF hh
  exact ⟨s₂, v, L', XS.ifnullNo X.here hx rfl (hb hby hd) rfl st, r⟩
theorem getfield {R0 O n d host : String} {idx : Nat} {a : Addr} {v : Value} (hd : decode bs pc = .ok (.getfield idx, 3)) (hp : pc + 3 = pc') (w : (Jvm.Cond.fieldLink own idx R0 n d).before a0 Z = true ∨ (Jvm.Cond.fieldLinkNest own idx R0 n d host).before a0 Z = true) (via : Via Z R0 O n d) (F : Fld Z h a O n d v) (hr : Go K rm Z n0 bs ml ret own nm Q kc ks h pc' L (v :: S)) : Go K rm Z n0 bs ml ret own nm Q kc ks h pc L (.ref a :: S) := by
  subst hp
  obtain ⟨p, l, e, s, m, args, below, meth, c⟩ := K
  intro hx hby hml hown hZ hret hlk hnm T locs X hF hh
  obtain ⟨T', X', e', st'⟩ := getF X hx hZ hown w via hh F (g := mkF m pc L (.ref a :: S)) rfl rfl (hb hby hd)
  obtain ⟨s₂, v, L', st, r⟩ := hr hx hby hml hown hZ hret hlk hnm T' locs X' hF e'
  exact ⟨s₂, v, L', st' _ st, r⟩
theorem getstatic {R0 O n d : String} {idx : Nat} {v : Value} (hd : decode bs pc = .ok (.getstatic idx, 3)) (hp : pc + 3 = pc') (w : (Jvm.Cond.fieldLink own idx R0 n d).before a0 Z = true) (via : Via Z R0 O n d) (F : Sta Z h O n d v) (hr : Go K rm Z n0 bs ml ret own nm Q kc ks h pc' L (v :: S)) : Go K rm Z n0 bs ml ret own nm Q kc ks h pc L S := by
  subst hp
  obtain ⟨p, l, e, s, m, args, below, meth, c⟩ := K
  intro hx hby hml hown hZ hret hlk hnm T locs X hF hh
  obtain ⟨T', X', e', st'⟩ := getS (host := "") X hx hZ hown w via hh F (g := mkF m pc L S) rfl (hb hby hd)
  obtain ⟨s₂, v, L', st, r⟩ := hr hx hby hml hown hZ hret hlk hnm T' locs X' hF e'
  exact ⟨s₂, v, L', st' _ st, r⟩
theorem putfield {R0 O n d host C : String} {idx kk : Nat} {ty : FieldType} {a : Addr} {v old : Value} (hd : decode bs pc = .ok (.putfield idx, 3)) (hp : pc + 3 = pc') (w : (Jvm.Cond.fieldLink own idx R0 n d).before a0 Z = true ∨ (Jvm.Cond.fieldLinkNest own idx R0 n d host).before a0 Z = true) (via : Via Z R0 O n d)
    (F : Fld Z h a O n d old) (E : Exa Z h a C) (Lw : (Jvm.Cond.lays C O n d).before a0 Z = true ∨ ((Jvm.Cond.laysFinal C O n d).before a0 Z = true ∧ own = O ∧ nm = "<init>")) (wi : (Jvm.Cond.instantiable C kk).before a0 Z = true)
    (hty : parseFieldDescriptor d = some ty) (hn : narrow ty v = v) (hf : fits ty v = true) (hg : n0 ≤ a) (hr : ∀ h', Wr h h' a (Jvm.RoadKit.slotOf Z O n d) v → Go K rm Z n0 bs ml ret own nm Q kc ks h' pc' L S) : Go K rm Z n0 bs ml ret own nm Q kc ks h pc L (v :: .ref a :: S) := by
  subst hp
  obtain ⟨p, l, e, s, m, args, below, meth, c⟩ := K
  intro hx hby hml hown hZ hret hlk hnm T locs X hF hh
  obtain ⟨T', h', X', e', W', st'⟩ := putF X hx hZ hown w via hh F E (Lw.imp id fun q => ⟨q.1, q.2.1, hnm.trans q.2.2⟩) wi hty hn hf (g := mkF m pc L (v :: .ref a :: S)) rfl rfl (hb hby hd)
  obtain ⟨s₂, v, L', st, r⟩ := hr h' W' hx hby hml hown hZ hret hlk hnm T' _ X' (Fr.snoc X' hF hg) e'
  exact ⟨s₂, v, L', st' _ st, r⟩
theorem newobj {C : String} {idx n : Nat} (hd : decode bs pc = .ok (.new idx, 3)) (hp : pc + 3 = pc') (w : (Jvm.Cond.classLink own idx C).before a0 Z = true) (wi : (Jvm.Cond.instantiable C n).before a0 Z = true) (wz : (Jvm.Cond.initialized C).before a0 Z = true) (hc : kc + 1 ≤ rm.cells) (hs : ks + n ≤ rm.slots)
    (hr : ∀ a h', a = h.size → Ext h h' → Exa Z h' a C → (∀ {O nm d : String} {ty : FieldType}, Laid Z a0 C O nm d → parseFieldDescriptor d = some ty → Fld Z h' a O nm d (defaultValue ty)) → Go K rm Z n0 bs ml ret own nm Q (kc + 1) (ks + n) h' pc' L (.ref a :: S)) : Go K rm Z n0 bs ml ret own nm Q kc ks h pc L S := by
  subst hp
  obtain ⟨p, l, e, s, m, args, below, meth, c⟩ := K
  intro hx hby hml hown hZ hret hlk hnm T locs X hF hh
  obtain ⟨T', h', X', e', E', A', D', -, st'⟩ := newO X hx hZ hown w wi wz hh (g := mkF m pc L S) rfl (hb hby hd) hc hs
  obtain ⟨s₂, v, L', st, r⟩ := hr _ h' rfl E' A' D' hx hby hml hown hZ hret hlk hnm T' _ X' hF e'
  exact ⟨s₂, v, L', st' _ st, r⟩
theorem objinit {idx : Nat} {a : Addr} (hd : decode bs pc = .ok (.invokespecial idx, 3)) (hp : pc + 3 = pc') (w1 : (Jvm.Cond.methodLink own idx Lib.objectInit).before a0 Z = true) (w2 : (Jvm.Cond.instanceMethod Lib.objectInit).before a0 Z = true) (w3 : (Jvm.Cond.code Lib.objectInit ⟨#[0xb1]⟩ 1 none).before a0 Z = true)
    (hL : L.size = ml) (hf : 1 ≤ rm.frames) {W : Nat} (hW : (S.map fun v => v.category).sum = W) (hl : W + 12 ≤ rm.locals) (hr : Go K rm Z n0 bs ml ret own nm Q kc ks h pc' L S) : Go K rm Z n0 bs ml ret own nm Q kc ks h pc L (.ref a :: S) := by
  subst hp
  obtain ⟨p, l, e, s, m, args, below, meth, c⟩ := K
  intro hx hby hml hown hZ hret hlk hnm T locs X hF hh
  obtain ⟨T', X', e', st'⟩ := initO X hx hZ hown w1 w2 w3 hh (g := mkF m pc L (.ref a :: S)) rfl (by rw [hml]; exact hL) rfl (hb hby hd) hf (W := W) (by show 2 * 0 + _ ≤ _; omega) hl
  obtain ⟨s₂, v, L', st, r⟩ := hr hx hby hml hown hZ hret hlk hnm T' locs X' hF e'
  exact ⟨s₂, v, L', st' _ st, r⟩
theorem static {W : Nat} {y : MethodName} {bs' : ByteArray} {ml' idx : Nat} {ret' : Option FieldType} {rm' : Room} {as rest : List Value} {Q' : Option Value → Heap → Prop} (hd : decode bs pc = .ok (.invokestatic idx, 3)) (hp : pc + 3 = pc') (w1 : (Jvm.Cond.methodLink own idx y).before a0 Z = true) (w2 : (Jvm.Cond.static y).before a0 Z = true) (w3 : (Jvm.Cond.initialized y.cls).before a0 Z = true) (w4 : (Jvm.Cond.code y bs' ml' ret').before a0 Z = true)
    (hy : y.cls ≠ "java/lang/invoke/MethodHandle" ∧ y.cls ≠ "java/lang/invoke/VarHandle") (C : Con Z n0 y bs' ml' ret' rm' as h Q') (hst : S = as.reverse ++ rest) (hL : L.size = ml) (hlen : ∀ sig, parseMethodDescriptor y.desc = some sig → as.length = sig.parameters.length)
    (hf : rm'.frames + 1 ≤ rm.frames) (hW : (rest.map fun v => v.category).sum = W) (hl : W + (ml' + 11) + rm'.locals ≤ rm.locals) (hc : kc + rm'.cells ≤ rm.cells) (hs : ks + rm'.slots ≤ rm.slots)
    (hr : ∀ v h', Q' v h' → Go K rm Z n0 bs ml ret own nm Q (kc + rm'.cells) (ks + rm'.slots) h' pc' L (v.toList ++ rest)) : Go K rm Z n0 bs ml ret own nm Q kc ks h pc L S := by
  subst hp
  obtain ⟨p, l, e, s, m, args, below, meth, c⟩ := K
  intro hx hby hml hown hZ hret hlk hnm T locs X hF hh
  obtain ⟨_, _, ⟨T', L1, k1, n1⟩, -, X', ⟨Lc, hQ, l1, y1, z1⟩, st'⟩ := Jvm.LawKit.callS X hx hown (mvT hZ w1) (mvT hZ w2) (mvT hZ w3) (mvT hZ w4) hy (backOf (Q := fun v h L => Q' v h ∧ Fr n0 L) (W := W) (C l) hZ w4 w3 hf hl) (g := mkF m pc L S) rfl (by rw [hml]; exact hL) (argsL := as) (rest := rest) hlen hst (by show 2 * 0 + _ ≤ _; omega) (hb hby hd) (fun _ _ => ⟨rfl, hh, hc, hs⟩)
  dsimp only [Pt.U, Pt.locs, Pt.cells, Pt.slots] at X' l1 y1 z1 st' hQ
  subst l1 y1 z1
  obtain ⟨s₂, v, L', st, r⟩ := hr _ _ hQ.1 hx hby hml hown hZ hret hlk hnm T' _ X' (Fr.app hF hQ.2) rfl
  exact ⟨s₂, v, L', st' _ st, r⟩
theorem special {W : Nat} {y : MethodName} {bs' : ByteArray} {ml' idx : Nat} {rm' : Room} {as rest : List Value} {Q' : Option Value → Heap → Prop} {a : Addr} (hd : decode bs pc = .ok (.invokespecial idx, 3)) (hp : pc + 3 = pc') (hy1 : y.name = "<init>") (w1 : (Jvm.Cond.methodLink own idx y).before a0 Z = true) (w2 : (Jvm.Cond.instanceMethod y).before a0 Z = true) (w3 : (Jvm.Cond.initialized y.cls).before a0 Z = true) (w4 : (Jvm.Cond.code y bs' ml' none).before a0 Z = true)
    (hy : y.cls ≠ "java/lang/invoke/MethodHandle" ∧ y.cls ≠ "java/lang/invoke/VarHandle") (C : Con Z n0 y bs' ml' none rm' (.ref a :: as) h Q') (hst : S = as.reverse ++ .ref a :: rest) (hL : L.size = ml) (hlen : ∀ sig, parseMethodDescriptor y.desc = some sig → as.length = sig.parameters.length)
    (hf : rm'.frames + 1 ≤ rm.frames) (hW : (rest.map fun v => v.category).sum = W) (hl : W + (ml' + 11) + rm'.locals ≤ rm.locals) (hc : kc + rm'.cells ≤ rm.cells) (hs : ks + rm'.slots ≤ rm.slots)
    (hr : ∀ v h', Q' v h' → Go K rm Z n0 bs ml ret own nm Q (kc + rm'.cells) (ks + rm'.slots) h' pc' L (v.toList ++ rest)) : Go K rm Z n0 bs ml ret own nm Q kc ks h pc L S := by
  subst hp
  obtain ⟨p, l, e, s, m, args, below, meth, c⟩ := K
  intro hx hby hml hown hZ hret hlk hnm T locs X hF hh
  obtain ⟨_, _, ⟨T', L1, k1, n1⟩, -, X', ⟨Lc, hQ, l1, y1, z1⟩, st'⟩ := X.specialBack hx hy1 hown (mvT hZ w1) (mvT hZ w2) (mvT hZ w4) hy (backOf (Q := fun v h L => Q' v h ∧ Fr n0 L) (W := W) (C l) hZ w4 w3 hf hl) (g := mkF m pc L S) rfl (by rw [hml]; exact hL) (Steps.refl _) (a := a) (argsL := as) (rest := rest) hlen hst (by show 2 * 0 + _ ≤ _; omega) (hb hby hd) (fun _ _ => ⟨rfl, hh, hc, hs⟩)
  dsimp only [Pt.U, Pt.locs, Pt.cells, Pt.slots] at X' l1 y1 z1 st' hQ
  subst l1 y1 z1
  obtain ⟨s₂, v, L', st, r⟩ := hr _ _ hQ.1 hx hby hml hown hZ hret hlk hnm T' _ X' (Fr.app hF hQ.2) rfl
  exact ⟨s₂, v, L', st'.trans st, r⟩
theorem virtual {W : Nat} {y : MethodName} {bs' : ByteArray} {ml' idx : Nat} {ret' : Option FieldType} {rm' : Room} {as rest : List Value} {Q' : Option Value → Heap → Prop} {C' : String} {a : Addr} (hd : decode bs pc = .ok (.invokevirtual idx, 3)) (hp : pc + 3 = pc') (w1 : (Jvm.Cond.methodLink own idx y).before a0 Z = true) (w2 : (Jvm.Cond.declares y).before a0 Z = true) (w5 : (Jvm.Cond.selects C' y y).before a0 Z = true) (w6 : (Jvm.Cond.instanceMethod y).before a0 Z = true) (w3 : (Jvm.Cond.initialized y.cls).before a0 Z = true) (w4 : (Jvm.Cond.code y bs' ml' ret').before a0 Z = true)
    (hy : y.cls ≠ "java/lang/invoke/MethodHandle" ∧ y.cls ≠ "java/lang/invoke/VarHandle") (E : Exa Z h a C') (C : Con Z n0 y bs' ml' ret' rm' (.ref a :: as) h Q') (hst : S = as.reverse ++ .ref a :: rest) (hL : L.size = ml) (hlen : ∀ sig, parseMethodDescriptor y.desc = some sig → as.length = sig.parameters.length)
    (hf : rm'.frames + 1 ≤ rm.frames) (hW : (rest.map fun v => v.category).sum = W) (hl : W + (ml' + 11) + rm'.locals ≤ rm.locals) (hc : kc + rm'.cells ≤ rm.cells) (hs : ks + rm'.slots ≤ rm.slots)
    (hr : ∀ v h', Q' v h' → Go K rm Z n0 bs ml ret own nm Q (kc + rm'.cells) (ks + rm'.slots) h' pc' L (v.toList ++ rest)) : Go K rm Z n0 bs ml ret own nm Q kc ks h pc L S := by
  subst hp
  obtain ⟨p, l, e, s, m, args, below, meth, c⟩ := K
  intro hx hby hml hown hZ hret hlk hnm T locs X hF hh
  obtain ⟨cq, kq, qa, qb, qc⟩ := isOf (T := T) hZ hh E
  obtain ⟨_, _, ⟨T', L1, k1, n1⟩, -, X', ⟨Lc, hQ, l1, y1, z1⟩, st'⟩ := X.virtualBack hx (y := y) (z := y) hown (mvT hZ w1) (mvT hZ w2) (notFace_of_selects (args := #[]) (mvT hZ w5)) (mvT hZ w5) (mvT hZ w6) hy (backOf (Q := fun v h L => Q' v h ∧ Fr n0 L) (W := W) (C l) hZ w4 w3 hf hl) qa qc (g := mkF m pc L S) rfl (by rw [hml]; exact hL) (Steps.refl _) (argsL := as) (rest := rest) hlen hst (by show 2 * 0 + _ ≤ _; omega) (hb hby hd) (fun _ _ => ⟨rfl, hh, hc, hs⟩)
  dsimp only [Pt.U, Pt.locs, Pt.cells, Pt.slots] at X' l1 y1 z1 st' hQ
  subst l1 y1 z1
  obtain ⟨s₂, v, L', st, r⟩ := hr _ _ hQ.1 hx hby hml hown hZ hret hlk hnm T' _ X' (Fr.app hF hQ.2) rfl
  exact ⟨s₂, v, L', st'.trans st, r⟩
theorem privat {W : Nat} {y : MethodName} {bs' : ByteArray} {ml' idx : Nat} {ret' : Option FieldType} {rm' : Room} {as rest : List Value} {Q' : Option Value → Heap → Prop} {a : Addr} (hd : decode bs pc = .ok (.invokevirtual idx, 3)) (hp : pc + 3 = pc') (w1 : (Jvm.Cond.methodLink own idx y).before a0 Z = true) (w6 : (Jvm.Cond.instanceMethod y).before a0 Z = true) (w5 : (Jvm.Cond.selects y.cls y y).before a0 Z = true) (w7 : (Jvm.Cond.privateMethod y).before a0 Z = true) (w3 : (Jvm.Cond.initialized y.cls).before a0 Z = true) (w4 : (Jvm.Cond.code y bs' ml' ret').before a0 Z = true)
    (hy : y.cls ≠ "java/lang/invoke/MethodHandle" ∧ y.cls ≠ "java/lang/invoke/VarHandle") (E : Exa Z h a y.cls) (C : Con Z n0 y bs' ml' ret' rm' (.ref a :: as) h Q') (hst : S = as.reverse ++ .ref a :: rest) (hL : L.size = ml) (hlen : ∀ sig, parseMethodDescriptor y.desc = some sig → as.length = sig.parameters.length)
    (hf : rm'.frames + 1 ≤ rm.frames) (hW : (rest.map fun v => v.category).sum = W) (hl : W + (ml' + 11) + rm'.locals ≤ rm.locals) (hc : kc + rm'.cells ≤ rm.cells) (hs : ks + rm'.slots ≤ rm.slots)
    (hr : ∀ v h', Q' v h' → Go K rm Z n0 bs ml ret own nm Q (kc + rm'.cells) (ks + rm'.slots) h' pc' L (v.toList ++ rest)) : Go K rm Z n0 bs ml ret own nm Q kc ks h pc L S := by
  subst hp
  obtain ⟨p, l, e, s, m, args, below, meth, c⟩ := K
  intro hx hby hml hown hZ hret hlk hnm T locs X hF hh
  obtain ⟨cq, q1, q2⟩ := E.cell
  obtain ⟨_, _, ⟨T', L1, k1, n1⟩, -, X', ⟨Lc, hQ, l1, y1, z1⟩, st'⟩ := X.privateBack hx hown (mvT hZ w1) (mvT hZ w6) (mvT hZ w5) (Cond.privateMethod_at (mvP hZ w7 (args := #[]))) (mvT hZ w4) hy (backOf (Q := fun v h L => Q' v h ∧ Fr n0 L) (W := W) (C l) hZ w4 w3 hf hl) (g := mkF m pc L S) rfl (by rw [hml]; exact hL) (Steps.refl _) (a := a) (by rw [hh]; exact q1) q2 (argsL := as) (rest := rest) hlen hst (by show 2 * 0 + _ ≤ _; omega) (hb hby hd) (fun _ _ => ⟨rfl, hh, hc, hs⟩)
  dsimp only [Pt.U, Pt.locs, Pt.cells, Pt.slots] at X' l1 y1 z1 st' hQ
  subst l1 y1 z1
  obtain ⟨s₂, v, L', st, r⟩ := hr _ _ hQ.1 hx hby hml hown hZ hret hlk hnm T' _ X' (Fr.app hF hQ.2) rfl
  exact ⟨s₂, v, L', st'.trans st, r⟩
theorem ireturnZ {z z' : Int32} (hd : decode bs pc = .ok (.ireturn, 1)) (ht : ret = some .boolean) (hz : nar .boolean z = z') (hQ : Q (some (.int z')) h) (hc : kc ≤ rm.cells) (hs : ks ≤ rm.slots) : Go K rm Z n0 bs ml ret own nm Q kc ks h pc L (.int z :: S) := by
  subst ht hz
  obtain ⟨p, l, e, s, m, args, below, meth, c⟩ := K
  intro hx hby hml hown hZ hret hlk hnm T locs X hF hh
  obtain ⟨fs, hr, hrun, hended, hW, hsame⟩ := X.leave (v := some (.int (nar .boolean z))) (fun q => by rw [hret] at q; cases q) hlk
  exact ⟨T.setFrames fs, _, locs, retN X hx (t := .boolean) hret (by simp) (hb hby hd) hr, hrun, hended, by rw [show (T.setFrames fs).heap = h from hh]; exact hQ, hF, ⟨_, rfl⟩, hW, hsame.mono hc hs⟩
theorem ireturnI {z : Int32} (hd : decode bs pc = .ok (.ireturn, 1)) (ht : ret = some .int) (hQ : Q (some (.int z)) h) (hc : kc ≤ rm.cells) (hs : ks ≤ rm.slots) : Go K rm Z n0 bs ml ret own nm Q kc ks h pc L (.int z :: S) := by
  subst ht
  obtain ⟨p, l, e, s, m, args, below, meth, c⟩ := K
  intro hx hby hml hown hZ hret hlk hnm T locs X hF hh
  obtain ⟨fs, hr, hrun, hended, hW, hsame⟩ := X.leave (v := some (.int z)) (fun q => by rw [hret] at q; cases q) hlk
  exact ⟨T.setFrames fs, _, locs, retOut X hx hret rfl (Or.inl ⟨rfl, Or.inl rfl, z, rfl⟩) (hb hby hd) hr, hrun, hended, by rw [show (T.setFrames fs).heap = h from hh]; exact hQ, hF, ⟨_, rfl⟩, hW, hsame.mono hc hs⟩
theorem lreturn {z : Int64} (hd : decode bs pc = .ok (.lreturn, 1)) (ht : ret = some .long) (hQ : Q (some (.long z)) h) (hc : kc ≤ rm.cells) (hs : ks ≤ rm.slots) : Go K rm Z n0 bs ml ret own nm Q kc ks h pc L (.long z :: S) := by
  subst ht
  obtain ⟨p, l, e, s, m, args, below, meth, c⟩ := K
  intro hx hby hml hown hZ hret hlk hnm T locs X hF hh
  obtain ⟨fs, hr, hrun, hended, hW, hsame⟩ := X.leave (v := some (.long z)) (fun q => by rw [hret] at q; cases q) hlk
  exact ⟨T.setFrames fs, _, locs, retOut X hx hret rfl (Or.inr (Or.inl ⟨rfl, rfl, z, rfl⟩)) (hb hby hd) hr, hrun, hended, by rw [show (T.setFrames fs).heap = h from hh]; exact hQ, hF, ⟨_, rfl⟩, hW, hsame.mono hc hs⟩
theorem areturn {t : FieldType} {v : Value} (hd : decode bs pc = .ok (.areturn, 1)) (ht : ret = some t) (htr : t.isReference = true) (hv : v.isRef = true) (hnn : narrow t v = v) (hQ : Q (some v) h) (hc : kc ≤ rm.cells) (hs : ks ≤ rm.slots) : Go K rm Z n0 bs ml ret own nm Q kc ks h pc L (v :: S) := by
  subst ht
  obtain ⟨p, l, e, s, m, args, below, meth, c⟩ := K
  intro hx hby hml hown hZ hret hlk hnm T locs X hF hh
  obtain ⟨fs, hr, hrun, hended, hW, hsame⟩ := X.leave (v := some v) (fun q => by rw [hret] at q; cases q) hlk
  exact ⟨T.setFrames fs, _, locs, retOut X hx hret hnn (Or.inr (Or.inr (Or.inr (Or.inr ⟨rfl, htr, hv⟩)))) (hb hby hd) hr, hrun, hended, by rw [show (T.setFrames fs).heap = h from hh]; exact hQ, hF, ⟨_, rfl⟩, hW, hsame.mono hc hs⟩
theorem vreturn (hd : decode bs pc = .ok (.return_, 1)) (ht : ret = none) (hQ : Q none h) (hc : kc ≤ rm.cells) (hs : ks ≤ rm.slots) : Go K rm Z n0 bs ml ret own nm Q kc ks h pc L [] := by
  subst ht
  obtain ⟨p, l, e, s, m, args, below, meth, c⟩ := K
  intro hx hby hml hown hZ hret hlk hnm T locs X hF hh
  obtain ⟨fs, hr, hrun, hended, hW, hsame⟩ := X.leave (v := none) (fun _ => rfl) hlk
  exact ⟨T.setFrames fs, _, locs, X.returnOut hx hret (hb hby hd) hr, hrun, hended, by rw [show (T.setFrames fs).heap = h from hh]; exact hQ, hF, ⟨_, rfl⟩, hW, hsame.mono hc hs⟩
theorem join {pc2 : Nat} {L2 : Array Slot} {S2 : List Value} (h1 : Go K rm Z n0 bs ml ret own nm Q kc ks h pc2 L2 S2 → Go K rm Z n0 bs ml ret own nm Q kc ks h pc L S) (h2 : Go K rm Z n0 bs ml ret own nm Q kc ks h pc2 L2 S2) : Go K rm Z n0 bs ml ret own nm Q kc ks h pc L S := h1 h2
theorem ifnonnull_yes {o : Int} {b : Addr} (hd : decode bs pc = .ok (.ifnonnull o, 3)) (ho : 0 ≤ (pc : Int) + o) (hp : ((pc : Int) + o).toNat = pc') (hr : Go K rm Z n0 bs ml ret own nm Q kc ks h pc' L S) : Go K rm Z n0 bs ml ret own nm Q kc ks h pc L (.ref b :: S) := by
  obtain ⟨p, l, e, s, m, args, below, meth, c⟩ := K
  intro hx hby hml hown hZ hret hlk hnm T locs X hF hh
  obtain ⟨s₂, v, L', st, r⟩ := hr hx hby hml hown hZ hret hlk hnm T locs X hF hh
  exact ⟨s₂, v, L', XS.ifnonnullYes X.here hx rfl (pc0 := pc) (pc' := pc') rfl (hb hby hd) rfl ho hp st, r⟩
theorem Go.more {kc' ks' : Nat} (hc : kc ≤ kc') (hs : ks ≤ ks') (hr : Go K rm Z n0 bs ml ret own nm Q kc' ks' h pc L S) : Go K rm Z n0 bs ml ret own nm Q kc ks h pc L S := by
  obtain ⟨p, l, e, s, m, args, below, meth, c⟩ := K
  intro hx hby hml hown hZ hret hlk hnm T locs X hF hh
  exact hr hx hby hml hown hZ hret hlk hnm T locs (X.more hc hs) hF hh
theorem Con.post {y : MethodName} {rm' : Room} {bs' : ByteArray} {ml' : Nat} {ret' : Option FieldType} {as : List Value} {Q1 Q2 : Option Value → Heap → Prop} (C : Con Z n0 y bs' ml' ret' rm' as h Q1) (q : ∀ v h', Q1 v h' → Q2 v h') : Con Z n0 y bs' ml' ret' rm' as h Q2 := fun l p e h1 h2 h3 s m args below h4 h5 h6 h7 => by
  obtain ⟨n, o, g1, g2, g3, v, L, g4, g5, g6⟩ := C l p e h1 h2 h3 s m args below h4 h5 h6 h7
  exact ⟨n, o, g1, g2, g3, v, L, g4, ⟨q _ _ g5.1, g5.2⟩, g6⟩
/-- an int[] of n places that hold f 0 .. f (n - 1) -/
def AI (Z : State) (h : Heap) (a : Addr) (n : Nat) (f : Nat → Int32) : Prop := ∃ cl : Cell, Arr Z h a cl .int ∧ cl.slots.size = n ∧ n < 2 ^ 31 ∧ ∀ k, k < n → cl.slots[k]? = some (.int (f k))
def AJ (Z : State) (h : Heap) (a : Addr) (n : Nat) (f : Nat → Int64) : Prop := ∃ cl : Cell, Arr Z h a cl .long ∧ cl.slots.size = n ∧ n < 2 ^ 31 ∧ ∀ k, k < n → cl.slots[k]? = some (.long (f k))
def AB (Z : State) (h : Heap) (a : Addr) (n : Nat) (f : Nat → Int32) : Prop := ∃ cl : Cell, Arr Z h a cl .byte ∧ cl.slots.size = n ∧ n < 2 ^ 31 ∧ ∀ k, k < n → cl.slots[k]? = some (.int (f k))
def ownSet {α : Type} (f : Nat → α) (i : Nat) (x : α) : Nat → α := fun k => if k = i then x else f k
theorem inb {j : Int32} {i n : Nat} (hj : j.toInt = (i : Int)) (hi : i < n) : ¬ (j < 0 ∨ n ≤ j.toNatClampNeg) ∧ j.toNatClampNeg = i := by
  have e : j.toNatClampNeg = i := by simp [Int32.toNatClampNeg, hj]
  refine ⟨?_, e⟩
  rw [e, Int32.lt_iff_toInt_lt, hj]
  simp; omega
theorem AI.ext {h' : Heap} {a : Addr} {n : Nat} {f : Nat → Int32} (F : AI Z h a n f) (E : Ext h h') : AI Z h' a n f := by obtain ⟨c, A, r⟩ := F; exact ⟨c, A.ext E, r⟩
theorem AI.other {h' : Heap} {a b : Addr} {sl n : Nat} {v : Value} {f : Nat → Int32} (F : AI Z h b n f) (W : Wr h h' a sl v) (q : b ≠ a) : AI Z h' b n f := by obtain ⟨c, A, r⟩ := F; exact ⟨c, A.other W q, r⟩
theorem AI.keep {h' : Heap} {a : Addr} {n : Nat} {ws : List Addr} {f : Nat → Int32} (F : AI Z h a n f) (K : Keep h h' ws) (q : a ∉ ws) : AI Z h' a n f := by obtain ⟨c, A, r⟩ := F; exact ⟨c, ⟨K.2.1 a c A.1 q, A.2⟩, r⟩
theorem AI.lt {a : Addr} {n : Nat} {f : Nat → Int32} (F : AI Z h a n f) : a < h.size := by obtain ⟨c, A, -⟩ := F; exact A.lt
theorem AI.set {h' : Heap} {a : Addr} {n i : Nat} {x : Int32} {f : Nat → Int32} (F : AI Z h a n f) (W : Wr h h' a i (.int x)) : AI Z h' a n (ownSet f i x) := by
  obtain ⟨c, A, r1, r2, r3⟩ := F
  refine ⟨_, A.same W, by rw [sz_set]; exact r1, r2, fun k hk => ?_⟩
  by_cases e : k = i
  · subst e; simp [Cell.setSlot, ownSet, r1, hk]
  · rw [show (c.setSlot i (.int x)).slots[k]? = c.slots[k]? from Array.getElem?_setIfInBounds_ne (Ne.symm e), r3 k hk]; simp [ownSet, e]
theorem AI.cong {a : Addr} {n : Nat} {f g : Nat → Int32} (F : AI Z h a n f) (q : ∀ k, k < n → f k = g k) : AI Z h a n g := by obtain ⟨c, A, r1, r2, r3⟩ := F; exact ⟨c, A, r1, r2, fun k hk => by rw [r3 k hk, q k hk]⟩
theorem AJ.ext {h' : Heap} {a : Addr} {n : Nat} {f : Nat → Int64} (F : AJ Z h a n f) (E : Ext h h') : AJ Z h' a n f := by obtain ⟨c, A, r⟩ := F; exact ⟨c, A.ext E, r⟩
theorem AJ.other {h' : Heap} {a b : Addr} {sl n : Nat} {v : Value} {f : Nat → Int64} (F : AJ Z h b n f) (W : Wr h h' a sl v) (q : b ≠ a) : AJ Z h' b n f := by obtain ⟨c, A, r⟩ := F; exact ⟨c, A.other W q, r⟩
theorem AJ.keep {h' : Heap} {a : Addr} {n : Nat} {ws : List Addr} {f : Nat → Int64} (F : AJ Z h a n f) (K : Keep h h' ws) (q : a ∉ ws) : AJ Z h' a n f := by obtain ⟨c, A, r⟩ := F; exact ⟨c, ⟨K.2.1 a c A.1 q, A.2⟩, r⟩
theorem AJ.lt {a : Addr} {n : Nat} {f : Nat → Int64} (F : AJ Z h a n f) : a < h.size := by obtain ⟨c, A, -⟩ := F; exact A.lt
theorem AJ.set {h' : Heap} {a : Addr} {n i : Nat} {x : Int64} {f : Nat → Int64} (F : AJ Z h a n f) (W : Wr h h' a i (.long x)) : AJ Z h' a n (ownSet f i x) := by
  obtain ⟨c, A, r1, r2, r3⟩ := F
  refine ⟨_, A.same W, by rw [sz_set]; exact r1, r2, fun k hk => ?_⟩
  by_cases e : k = i
  · subst e; simp [Cell.setSlot, ownSet, r1, hk]
  · rw [show (c.setSlot i (.long x)).slots[k]? = c.slots[k]? from Array.getElem?_setIfInBounds_ne (Ne.symm e), r3 k hk]; simp [ownSet, e]
theorem AJ.cong {a : Addr} {n : Nat} {f g : Nat → Int64} (F : AJ Z h a n f) (q : ∀ k, k < n → f k = g k) : AJ Z h a n g := by obtain ⟨c, A, r1, r2, r3⟩ := F; exact ⟨c, A, r1, r2, fun k hk => by rw [r3 k hk, q k hk]⟩
theorem AB.ext {h' : Heap} {a : Addr} {n : Nat} {f : Nat → Int32} (F : AB Z h a n f) (E : Ext h h') : AB Z h' a n f := by obtain ⟨c, A, r⟩ := F; exact ⟨c, A.ext E, r⟩
theorem AB.other {h' : Heap} {a b : Addr} {sl n : Nat} {v : Value} {f : Nat → Int32} (F : AB Z h b n f) (W : Wr h h' a sl v) (q : b ≠ a) : AB Z h' b n f := by obtain ⟨c, A, r⟩ := F; exact ⟨c, A.other W q, r⟩
theorem AB.keep {h' : Heap} {a : Addr} {n : Nat} {ws : List Addr} {f : Nat → Int32} (F : AB Z h a n f) (K : Keep h h' ws) (q : a ∉ ws) : AB Z h' a n f := by obtain ⟨c, A, r⟩ := F; exact ⟨c, ⟨K.2.1 a c A.1 q, A.2⟩, r⟩
theorem AB.lt {a : Addr} {n : Nat} {f : Nat → Int32} (F : AB Z h a n f) : a < h.size := by obtain ⟨c, A, -⟩ := F; exact A.lt
theorem AB.set {h' : Heap} {a : Addr} {n i : Nat} {x : Int32} {f : Nat → Int32} (F : AB Z h a n f) (W : Wr h h' a i (.int x)) : AB Z h' a n (ownSet f i x) := by
  obtain ⟨c, A, r1, r2, r3⟩ := F
  refine ⟨_, A.same W, by rw [sz_set]; exact r1, r2, fun k hk => ?_⟩
  by_cases e : k = i
  · subst e; simp [Cell.setSlot, ownSet, r1, hk]
  · rw [show (c.setSlot i (.int x)).slots[k]? = c.slots[k]? from Array.getElem?_setIfInBounds_ne (Ne.symm e), r3 k hk]; simp [ownSet, e]
theorem AB.cong {a : Addr} {n : Nat} {f g : Nat → Int32} (F : AB Z h a n f) (q : ∀ k, k < n → f k = g k) : AB Z h a n g := by obtain ⟨c, A, r1, r2, r3⟩ := F; exact ⟨c, A, r1, r2, fun k hk => by rw [r3 k hk, q k hk]⟩
theorem iaload {a : Addr} {j : Int32} {i n : Nat} {f : Nat → Int32} (hd : decode bs pc = .ok (.iaload, 1)) (hp : pc + 1 = pc') (A : AI Z h a n f) (hj : j.toInt = (i : Int)) (hi : i < n) (hr : Go K rm Z n0 bs ml ret own nm Q kc ks h pc' L (.int (f i) :: S)) : Go K rm Z n0 bs ml ret own nm Q kc ks h pc L (.int j :: .ref a :: S) := by
  subst hp
  obtain ⟨p, l, e, s, m, args, below, meth, c⟩ := K
  intro hx hby hml hown hZ hret hlk hnm T locs X hF hh
  obtain ⟨cl, A1, r1, r2, r3⟩ := A
  obtain ⟨g1, g2⟩ := inb hj hi
  obtain ⟨s₂, v, L', st, r⟩ := hr hx hby hml hown hZ hret hlk hnm T locs X hF hh
  exact ⟨s₂, v, L', X.iaload hx (j := j) (v := .int (f i)) (by rw [hh]; exact A1.1) (State.isArrayOf_alike hZ.alike A1.2.1) A1.2.2 (by rw [r1]; exact g1) (by rw [g2]; exact r3 i hi) (g := mkF m pc L (.int j :: .ref a :: S)) rfl rfl (hb hby hd) _ st, r⟩
theorem laload {a : Addr} {j : Int32} {i n : Nat} {f : Nat → Int64} (hd : decode bs pc = .ok (.laload, 1)) (hp : pc + 1 = pc') (A : AJ Z h a n f) (hj : j.toInt = (i : Int)) (hi : i < n) (hr : Go K rm Z n0 bs ml ret own nm Q kc ks h pc' L (.long (f i) :: S)) : Go K rm Z n0 bs ml ret own nm Q kc ks h pc L (.int j :: .ref a :: S) := by
  subst hp
  obtain ⟨p, l, e, s, m, args, below, meth, c⟩ := K
  intro hx hby hml hown hZ hret hlk hnm T locs X hF hh
  obtain ⟨cl, A1, r1, r2, r3⟩ := A
  obtain ⟨g1, g2⟩ := inb hj hi
  obtain ⟨s₂, v, L', st, r⟩ := hr hx hby hml hown hZ hret hlk hnm T locs X hF hh
  exact ⟨s₂, v, L', X.laload hx (j := j) (v := .long (f i)) (by rw [hh]; exact A1.1) (State.isArrayOf_alike hZ.alike A1.2.1) A1.2.2 (by rw [r1]; exact g1) (by rw [g2]; exact r3 i hi) (g := mkF m pc L (.int j :: .ref a :: S)) rfl rfl (hb hby hd) _ st, r⟩
theorem baload {a : Addr} {j : Int32} {i n : Nat} {f : Nat → Int32} (hd : decode bs pc = .ok (.baload, 1)) (hp : pc + 1 = pc') (A : AB Z h a n f) (hj : j.toInt = (i : Int)) (hi : i < n) (hr : Go K rm Z n0 bs ml ret own nm Q kc ks h pc' L (.int (f i) :: S)) : Go K rm Z n0 bs ml ret own nm Q kc ks h pc L (.int j :: .ref a :: S) := by
  subst hp
  obtain ⟨p, l, e, s, m, args, below, meth, c⟩ := K
  intro hx hby hml hown hZ hret hlk hnm T locs X hF hh
  obtain ⟨cl, A1, r1, r2, r3⟩ := A
  obtain ⟨g1, g2⟩ := inb hj hi
  obtain ⟨s₂, v, L', st, r⟩ := hr hx hby hml hown hZ hret hlk hnm T locs X hF hh
  exact ⟨s₂, v, L', X.baloadBytes hx (j := j) (v := .int (f i)) (by rw [hh]; exact A1.1) (State.isArrayOf_alike hZ.alike A1.2.1) A1.2.2 (by rw [r1]; exact g1) (by rw [g2]; exact r3 i hi) (g := mkF m pc L (.int j :: .ref a :: S)) rfl rfl (hb hby hd) _ st, r⟩
theorem iastore {a : Addr} {j : Int32} {x : Int32} {i n : Nat} {f : Nat → Int32} (hd : decode bs pc = .ok (.iastore, 1)) (hp : pc + 1 = pc') (A : AI Z h a n f) (hg : n0 ≤ a) (hj : j.toInt = (i : Int)) (hi : i < n) (hr : ∀ h', Wr h h' a i (.int x) → AI Z h' a n (ownSet f i x) → Go K rm Z n0 bs ml ret own nm Q kc ks h' pc' L S) : Go K rm Z n0 bs ml ret own nm Q kc ks h pc L (.int x :: .int j :: .ref a :: S) := by
  subst hp
  have A0 := A
  obtain ⟨p, l, e, s, m, args, below, meth, c⟩ := K
  intro hx hby hml hown hZ hret hlk hnm T locs X hF hh
  obtain ⟨cl, A1, r1, r2, r3⟩ := A
  obtain ⟨g1, g2⟩ := inb hj hi
  obtain ⟨T', h', X', e', W', st'⟩ := stI X hx hZ hh A1 (j := j) (by rw [r1]; exact g1) (g := mkF m pc L (.int x :: .int j :: .ref a :: S)) rfl rfl (hb hby hd)
  have W2 : Wr h h' a i (.int x) := by rw [g2] at W'; exact W'
  obtain ⟨s₂, v, L', st, r⟩ := hr h' W2 (A0.set W2) hx hby hml hown hZ hret hlk hnm T' _ X' (Fr.snoc X' hF hg) e'
  exact ⟨s₂, v, L', st' _ st, r⟩
theorem lastore {a : Addr} {j : Int32} {x : Int64} {i n : Nat} {f : Nat → Int64} (hd : decode bs pc = .ok (.lastore, 1)) (hp : pc + 1 = pc') (A : AJ Z h a n f) (hg : n0 ≤ a) (hj : j.toInt = (i : Int)) (hi : i < n) (hr : ∀ h', Wr h h' a i (.long x) → AJ Z h' a n (ownSet f i x) → Go K rm Z n0 bs ml ret own nm Q kc ks h' pc' L S) : Go K rm Z n0 bs ml ret own nm Q kc ks h pc L (.long x :: .int j :: .ref a :: S) := by
  subst hp
  have A0 := A
  obtain ⟨p, l, e, s, m, args, below, meth, c⟩ := K
  intro hx hby hml hown hZ hret hlk hnm T locs X hF hh
  obtain ⟨cl, A1, r1, r2, r3⟩ := A
  obtain ⟨g1, g2⟩ := inb hj hi
  obtain ⟨T', h', X', e', W', st'⟩ := stJ X hx hZ hh A1 (j := j) (by rw [r1]; exact g1) (g := mkF m pc L (.long x :: .int j :: .ref a :: S)) rfl rfl (hb hby hd)
  have W2 : Wr h h' a i (.long x) := by rw [g2] at W'; exact W'
  obtain ⟨s₂, v, L', st, r⟩ := hr h' W2 (A0.set W2) hx hby hml hown hZ hret hlk hnm T' _ X' (Fr.snoc X' hF hg) e'
  exact ⟨s₂, v, L', st' _ st, r⟩
theorem bastore {a : Addr} {j x : Int32} {i n : Nat} {f : Nat → Int32} (hd : decode bs pc = .ok (.bastore, 1)) (hp : pc + 1 = pc') (A : AB Z h a n f) (hg : n0 ≤ a) (hj : j.toInt = (i : Int)) (hi : i < n) (hr : ∀ h', Wr h h' a i (.int x.toInt8.toInt32) → AB Z h' a n (ownSet f i x.toInt8.toInt32) → Go K rm Z n0 bs ml ret own nm Q kc ks h' pc' L S) : Go K rm Z n0 bs ml ret own nm Q kc ks h pc L (.int x :: .int j :: .ref a :: S) := by
  subst hp
  have A0 := A
  obtain ⟨p, l, e, s, m, args, below, meth, c⟩ := K
  intro hx hby hml hown hZ hret hlk hnm T locs X hF hh
  obtain ⟨cl, A1, r1, r2, r3⟩ := A
  obtain ⟨g1, g2⟩ := inb hj hi
  obtain ⟨T', h', X', e', W', st'⟩ := stB X hx hZ hh A1 (j := j) (by rw [r1]; exact g1) (g := mkF m pc L (.int x :: .int j :: .ref a :: S)) rfl rfl (hb hby hd)
  have W2 : Wr h h' a i (.int x.toInt8.toInt32) := by rw [g2] at W'; exact W'
  obtain ⟨s₂, v, L', st, r⟩ := hr h' W2 (A0.set W2) hx hby hml hown hZ hret hlk hnm T' _ X' (Fr.snoc X' hF hg) e'
  exact ⟨s₂, v, L', st' _ st, r⟩
theorem newI {j : Int32} {n cap : Nat} (hd : decode bs pc = .ok (.newarray .int, 2)) (hp : pc + 2 = pc') (w : (Jvm.Cond.arrayClass .int).before a0 Z = true) (hj : j.toInt = (n : Int)) (hcap : n ≤ cap) (hb8 : cap * 8 ≤ 536870912) (hc : kc + 1 ≤ rm.cells) (hs : ks + cap ≤ rm.slots)
    (hr : ∀ a h', a = h.size → Ext h h' → AI Z h' a n (fun _ => 0) → Go K rm Z n0 bs ml ret own nm Q (kc + 1) (ks + cap) h' pc' L (.ref a :: S)) : Go K rm Z n0 bs ml ret own nm Q kc ks h pc L (.int j :: S) := by
  subst hp
  obtain ⟨p, l, e, s, m, args, below, meth, c⟩ := K
  intro hx hby hml hown hZ hret hlk hnm T locs X hF hh
  have hn : ¬ j < 0 := by rw [Int32.lt_iff_toInt_lt, hj]; simp
  have e : j.toNatClampNeg = n := by simp [Int32.toNatClampNeg, hj]
  obtain ⟨T', h', cA, X', e', E', A', st'⟩ := newP (aty := .int) X hx hZ w hh (g := mkF m pc L (.int j :: S)) rfl (hb hby hd) rfl hn (cap := cap) (by rw [e]; exact hcap) hb8 hc hs
  have hj2 := Int32.toInt_lt j
  have F : AI Z h' h.size n (fun _ => 0) := ⟨_, A', by rw [sz_new]; exact e, by omega, fun k hk => by
    have q : (newA cA .int j).slots[k]? = some (defaultValue .int) := by simp only [newA, e, Array.getElem?_replicate, if_pos hk]
    exact q⟩
  obtain ⟨s₂, v, L', st, r⟩ := hr _ h' rfl E' F hx hby hml hown hZ hret hlk hnm T' _ X' hF e'
  exact ⟨s₂, v, L', st' _ st, r⟩
theorem newJ {j : Int32} {n cap : Nat} (hd : decode bs pc = .ok (.newarray .long, 2)) (hp : pc + 2 = pc') (w : (Jvm.Cond.arrayClass .long).before a0 Z = true) (hj : j.toInt = (n : Int)) (hcap : n ≤ cap) (hb8 : cap * 8 ≤ 536870912) (hc : kc + 1 ≤ rm.cells) (hs : ks + cap ≤ rm.slots)
    (hr : ∀ a h', a = h.size → Ext h h' → AJ Z h' a n (fun _ => 0) → Go K rm Z n0 bs ml ret own nm Q (kc + 1) (ks + cap) h' pc' L (.ref a :: S)) : Go K rm Z n0 bs ml ret own nm Q kc ks h pc L (.int j :: S) := by
  subst hp
  obtain ⟨p, l, e, s, m, args, below, meth, c⟩ := K
  intro hx hby hml hown hZ hret hlk hnm T locs X hF hh
  have hn : ¬ j < 0 := by rw [Int32.lt_iff_toInt_lt, hj]; simp
  have e : j.toNatClampNeg = n := by simp [Int32.toNatClampNeg, hj]
  obtain ⟨T', h', cA, X', e', E', A', st'⟩ := newP (aty := .long) X hx hZ w hh (g := mkF m pc L (.int j :: S)) rfl (hb hby hd) rfl hn (cap := cap) (by rw [e]; exact hcap) hb8 hc hs
  have hj2 := Int32.toInt_lt j
  have F : AJ Z h' h.size n (fun _ => 0) := ⟨_, A', by rw [sz_new]; exact e, by omega, fun k hk => by
    have q : (newA cA .long j).slots[k]? = some (defaultValue .long) := by simp only [newA, e, Array.getElem?_replicate, if_pos hk]
    exact q⟩
  obtain ⟨s₂, v, L', st, r⟩ := hr _ h' rfl E' F hx hby hml hown hZ hret hlk hnm T' _ X' hF e'
  exact ⟨s₂, v, L', st' _ st, r⟩
theorem newB {j : Int32} {n cap : Nat} (hd : decode bs pc = .ok (.newarray .byte, 2)) (hp : pc + 2 = pc') (w : (Jvm.Cond.arrayClass .byte).before a0 Z = true) (hj : j.toInt = (n : Int)) (hcap : n ≤ cap) (hb8 : cap * 8 ≤ 536870912) (hc : kc + 1 ≤ rm.cells) (hs : ks + cap ≤ rm.slots)
    (hr : ∀ a h', a = h.size → Ext h h' → AB Z h' a n (fun _ => 0) → Go K rm Z n0 bs ml ret own nm Q (kc + 1) (ks + cap) h' pc' L (.ref a :: S)) : Go K rm Z n0 bs ml ret own nm Q kc ks h pc L (.int j :: S) := by
  subst hp
  obtain ⟨p, l, e, s, m, args, below, meth, c⟩ := K
  intro hx hby hml hown hZ hret hlk hnm T locs X hF hh
  have hn : ¬ j < 0 := by rw [Int32.lt_iff_toInt_lt, hj]; simp
  have e : j.toNatClampNeg = n := by simp [Int32.toNatClampNeg, hj]
  obtain ⟨T', h', cA, X', e', E', A', st'⟩ := newP (aty := .byte) X hx hZ w hh (g := mkF m pc L (.int j :: S)) rfl (hb hby hd) rfl hn (cap := cap) (by rw [e]; exact hcap) hb8 hc hs
  have hj2 := Int32.toInt_lt j
  have F : AB Z h' h.size n (fun _ => 0) := ⟨_, A', by rw [sz_new]; exact e, by omega, fun k hk => by
    have q : (newA cA .byte j).slots[k]? = some (defaultValue .byte) := by simp only [newA, e, Array.getElem?_replicate, if_pos hk]
    exact q⟩
  obtain ⟨s₂, v, L', st, r⟩ := hr _ h' rfl E' F hx hby hml hown hZ hret hlk hnm T' _ X' hF e'
  exact ⟨s₂, v, L', st' _ st, r⟩
theorem lenI {a : Addr} {n : Nat} {f : Nat → Int32} (hd : decode bs pc = .ok (.arraylength, 1)) (hp : pc + 1 = pc') (A : AI Z h a n f) (hr : ∀ z : Int32, z.toInt = (n : Int) → Go K rm Z n0 bs ml ret own nm Q kc ks h pc' L (.int z :: S)) : Go K rm Z n0 bs ml ret own nm Q kc ks h pc L (.ref a :: S) := by
  subst hp
  obtain ⟨p, l, e, s, m, args, below, meth, c⟩ := K
  intro hx hby hml hown hZ hret hlk hnm T locs X hF hh
  obtain ⟨cl, A1, r1, r2, r3⟩ := A
  obtain ⟨s₂, v, L', st, r⟩ := hr cl.slots.size.toInt32 (by rw [r1]; exact len_toInt r2) hx hby hml hown hZ hret hlk hnm T locs X hF hh
  exact ⟨s₂, v, L', X.arraylength hx (by rw [hh]; exact A1.1) (State.isArrayOf_alike hZ.alike A1.2.1) (g := mkF m pc L (.ref a :: S)) rfl rfl (hb hby hd) _ st, r⟩
theorem lenJ {a : Addr} {n : Nat} {f : Nat → Int64} (hd : decode bs pc = .ok (.arraylength, 1)) (hp : pc + 1 = pc') (A : AJ Z h a n f) (hr : ∀ z : Int32, z.toInt = (n : Int) → Go K rm Z n0 bs ml ret own nm Q kc ks h pc' L (.int z :: S)) : Go K rm Z n0 bs ml ret own nm Q kc ks h pc L (.ref a :: S) := by
  subst hp
  obtain ⟨p, l, e, s, m, args, below, meth, c⟩ := K
  intro hx hby hml hown hZ hret hlk hnm T locs X hF hh
  obtain ⟨cl, A1, r1, r2, r3⟩ := A
  obtain ⟨s₂, v, L', st, r⟩ := hr cl.slots.size.toInt32 (by rw [r1]; exact len_toInt r2) hx hby hml hown hZ hret hlk hnm T locs X hF hh
  exact ⟨s₂, v, L', X.arraylength hx (by rw [hh]; exact A1.1) (State.isArrayOf_alike hZ.alike A1.2.1) (g := mkF m pc L (.ref a :: S)) rfl rfl (hb hby hd) _ st, r⟩
theorem lenB {a : Addr} {n : Nat} {f : Nat → Int32} (hd : decode bs pc = .ok (.arraylength, 1)) (hp : pc + 1 = pc') (A : AB Z h a n f) (hr : ∀ z : Int32, z.toInt = (n : Int) → Go K rm Z n0 bs ml ret own nm Q kc ks h pc' L (.int z :: S)) : Go K rm Z n0 bs ml ret own nm Q kc ks h pc L (.ref a :: S) := by
  subst hp
  obtain ⟨p, l, e, s, m, args, below, meth, c⟩ := K
  intro hx hby hml hown hZ hret hlk hnm T locs X hF hh
  obtain ⟨cl, A1, r1, r2, r3⟩ := A
  obtain ⟨s₂, v, L', st, r⟩ := hr cl.slots.size.toInt32 (by rw [r1]; exact len_toInt r2) hx hby hml hown hZ hret hlk hnm T locs X hF hh
  exact ⟨s₂, v, L', X.arraylength hx (by rw [hh]; exact A1.1) (State.isArrayOf_alike hZ.alike A1.2.1) (g := mkF m pc L (.ref a :: S)) rfl rfl (hb hby hd) _ st, r⟩
end Laws
end Jvm.Own
@@BLOCK:NumsL.lean.txt@@
namespace Jvm.Own
theorem i64_nat (x : Int64) (h : 0 ≤ x.toInt) : (x.toBitVec.toNat : Int) = x.toInt := by
  have hl := x.toBitVec.isLt
  have e : x.toInt = x.toBitVec.toInt := rfl
  rw [e] at h ⊢
  rw [BitVec.toInt_eq_toNat_cond] at h ⊢
  split at h <;> rename_i hc
  · rw [if_pos hc]
  · omega
theorem i64_ofnat (x : Int64) (h : x.toBitVec.toNat < 2 ^ 63) : x.toInt = (x.toBitVec.toNat : Int) := by
  show x.toBitVec.toInt = _
  rw [BitVec.toInt_eq_toNat_cond, if_pos (by omega)]
theorem i64_or (x y : Int64) (k q : Nat) (hx : x.toInt = (q : Int) * 2 ^ k) (hy0 : 0 ≤ y.toInt) (hy : y.toInt < 2 ^ k) (hb : (q : Int) * 2 ^ k + 2 ^ k ≤ 2 ^ 63) : (x ||| y).toInt = x.toInt + y.toInt := by
  have c : ((q * 2 ^ k : Nat) : Int) = (q : Int) * 2 ^ k := by simp
  have c2 : ((2 ^ k : Nat) : Int) = 2 ^ k := by simp
  have x0 : 0 ≤ x.toInt := by omega
  have hx' := i64_nat x x0
  have hy' := i64_nat y hy0
  have ex : x.toBitVec.toNat = 2 ^ k * q := by rw [Nat.mul_comm]; omega
  have ey : y.toBitVec.toNat < 2 ^ k := by omega
  have e : (x ||| y).toBitVec.toNat = x.toBitVec.toNat + y.toBitVec.toNat := by
    rw [Int64.toBitVec_or, BitVec.toNat_or, ex, ← Nat.two_pow_add_eq_or_of_lt ey]
  rw [i64_ofnat _ (by omega), e]; omega
theorem i64_hi (x m : Int64) (k : Nat) (hk : k < 63) (hm : m.toBitVec.toNat = (2 ^ (64 - k) - 1) * 2 ^ k) (h0 : 0 ≤ x.toInt) : (x &&& m).toInt = x.toInt / 2 ^ k * 2 ^ k := by
  have hx' := i64_nat x h0
  have hl := x.toBitVec.isLt
  have c2 : ((2 ^ k : Nat) : Int) = 2 ^ k := by simp
  have hlt := Int64.toInt_lt x
  have e : (x &&& m).toBitVec.toNat = x.toBitVec.toNat / 2 ^ k * 2 ^ k := by
    rw [Int64.toBitVec_and, BitVec.toNat_and, hm, ← Nat.shiftLeft_eq, ← Nat.shiftLeft_eq, ← Nat.shiftRight_eq_div_pow]
    apply Nat.eq_of_testBit_eq
    intro i
    rw [Nat.testBit_and, Nat.testBit_shiftLeft, Nat.testBit_shiftLeft, Nat.testBit_two_pow_sub_one, Nat.testBit_shiftRight]
    by_cases q : k ≤ i
    · rw [show k + (i - k) = i by omega]
      by_cases q2 : i < 64
      · simp [q, show i - k < 64 - k by omega]
      · rw [Nat.testBit_lt_two_pow (Nat.lt_of_lt_of_le hl (Nat.pow_le_pow_right (by omega) (by omega)))]; simp
    · simp [q]
  have le : x.toBitVec.toNat / 2 ^ k * 2 ^ k ≤ x.toBitVec.toNat := Nat.div_mul_le_self _ _
  rw [i64_ofnat _ (by omega), e, ← hx', ← c2]; simp
theorem i32_nat (x : Int32) (h : 0 ≤ x.toInt) : (x.toBitVec.toNat : Int) = x.toInt := by
  have hl := x.toBitVec.isLt
  have e : x.toInt = x.toBitVec.toInt := rfl
  rw [e] at h ⊢
  rw [BitVec.toInt_eq_toNat_cond] at h ⊢
  split at h <;> rename_i hc
  · rw [if_pos hc]
  · omega
theorem i32_ofnat (x : Int32) (h : x.toBitVec.toNat < 2 ^ 31) : x.toInt = (x.toBitVec.toNat : Int) := by
  show x.toBitVec.toInt = _
  rw [BitVec.toInt_eq_toNat_cond, if_pos (by omega)]
theorem i2c_small (y : Int32) (h0 : 0 ≤ y.toInt) (h1 : y.toInt < 65536) : y.toUInt32.toUInt16.toUInt32.toInt32 = y := by
  apply Int32.toBitVec_inj.mp
  apply BitVec.eq_of_toNat_eq
  have h := i32_nat y h0
  have e : y.toUInt32.toUInt16.toUInt32.toInt32.toBitVec.toNat = y.toUInt32.toUInt16.toUInt32.toNat := rfl
  rw [e, UInt16.toNat_toUInt32, UInt32.toNat_toUInt16]
  show y.toBitVec.toNat % 2 ^ 16 = _
  omega
theorem ushrL_nn (x : Int64) (h0 : 0 ≤ x.toInt) (y : Int32) {k : Nat} (hy : y.toInt = (k : Int)) (hk : k < 64) : (Jvm.Own.ushrL x y).toInt = x.toInt / 2 ^ k := by
  refine Jvm.Kit.i64_lushr (Jvm.Kit.i64_nonneg.mpr h0) ?_ hk
  have e1 := i32_nat y (by omega)
  have e2 : y.toInt64.toBitVec.toNat = k := by
    have := i64_nat y.toInt64 (by rw [Int32.toInt_toInt64]; omega)
    rw [Int32.toInt_toInt64] at this; omega
  have e4 := Jvm.Kit.i32_mask y 63 (k := 6) (by decide) (by decide)
  have e5 := i64_nat (y &&& 63).toInt64 (by rw [Int32.toInt_toInt64]; omega)
  rw [Int32.toInt_toInt64] at e5
  have e6 : (y &&& 63).toInt64.toUInt64.toNat = (y &&& 63).toInt64.toBitVec.toNat := rfl
  omega
theorem ushrL_bv (x : Int64) (y : Int32) (k : Nat) (hy : y.toInt = (k : Int)) (hk : k < 64) : Jvm.Own.ushrL x y = Int64.ofBitVec (x.toBitVec >>> k) := by
  have e4 := Jvm.Kit.i32_mask y 63 (k := 6) (by decide) (by decide)
  have e5 := i64_nat (y &&& 63).toInt64 (by rw [Int32.toInt_toInt64]; omega)
  rw [Int32.toInt_toInt64] at e5
  have e6 : (y &&& 63).toInt64.toUInt64.toBitVec.toNat = k := by
    have : (y &&& 63).toInt64.toUInt64.toBitVec.toNat = (y &&& 63).toInt64.toBitVec.toNat := rfl
    omega
  apply Int64.toBitVec_inj.mp
  apply BitVec.eq_of_toNat_eq
  show (x.toUInt64 >>> (y &&& 63).toInt64.toUInt64).toBitVec.toNat = (x.toBitVec >>> k).toNat
  rw [UInt64.toBitVec_shiftRight, BitVec.ushiftRight_eq', BitVec.toNat_ushiftRight, BitVec.toNat_ushiftRight, BitVec.toNat_umod, e6]
  show x.toBitVec.toNat >>> (k % 64) = _
  rw [Nat.mod_eq_of_lt hk]
end Jvm.Own
namespace Jvm.Pilot.@@N@@
open Jvm Jvm.ClassFile Sem Op Lib Jvm.Free Jvm.Stand Jvm.LawKit Jvm.RoadKit Bundle Jvm.Own Jvm.Pilot.@@N@@.Jvm.D

theorem d_prog_28_method_1_0 : decode prog_28_method_1_code 0 = .ok (.aload_n 0, 1) := by decide +kernel
theorem d_prog_28_method_1_1 : decode prog_28_method_1_code 1 = .ok (.invokespecial 1, 3) := by decide +kernel
theorem d_prog_28_method_1_4 : decode prog_28_method_1_code 4 = .ok (.aload_n 0, 1) := by decide +kernel
theorem d_prog_28_method_1_5 : decode prog_28_method_1_code 5 = .ok (.aload_n 1, 1) := by decide +kernel
theorem d_prog_28_method_1_6 : decode prog_28_method_1_code 6 = .ok (.putfield 7, 3) := by decide +kernel
theorem d_prog_28_method_1_9 : decode prog_28_method_1_code 9 = .ok (.aload_n 0, 1) := by decide +kernel
theorem d_prog_28_method_1_10 : decode prog_28_method_1_code 10 = .ok (.iload_n 2, 1) := by decide +kernel
theorem d_prog_28_method_1_11 : decode prog_28_method_1_code 11 = .ok (.putfield 13, 3) := by decide +kernel
theorem d_prog_28_method_1_14 : decode prog_28_method_1_code 14 = .ok (.return_, 1) := by decide +kernel
theorem d_prog_28_method_3_4 : decode prog_28_method_3_code 4 = .ok (.aload_n 0, 1) := by decide +kernel
theorem d_prog_28_method_3_5 : decode prog_28_method_3_code 5 = .ok (.getfield 7, 3) := by decide +kernel
theorem d_prog_28_method_3_8 : decode prog_28_method_3_code 8 = .ok (.aload_n 0, 1) := by decide +kernel
theorem d_prog_28_method_3_9 : decode prog_28_method_3_code 9 = .ok (.getfield 13, 3) := by decide +kernel
theorem d_prog_28_method_3_12 : decode prog_28_method_3_code 12 = .ok (.baload, 1) := by decide +kernel
theorem d_prog_28_method_3_13 : decode prog_28_method_3_code 13 = .ok (.istore 4, 2) := by decide +kernel
theorem d_prog_28_method_3_15 : decode prog_28_method_3_code 15 = .ok (.aload_n 0, 1) := by decide +kernel
theorem d_prog_28_method_3_16 : decode prog_28_method_3_code 16 = .ok (.dup, 1) := by decide +kernel
theorem d_prog_28_method_3_17 : decode prog_28_method_3_code 17 = .ok (.getfield 13, 3) := by decide +kernel
theorem d_prog_28_method_3_20 : decode prog_28_method_3_code 20 = .ok (.iconst 1, 1) := by decide +kernel
theorem d_prog_28_method_3_21 : decode prog_28_method_3_code 21 = .ok (.iadd, 1) := by decide +kernel
theorem d_prog_28_method_3_22 : decode prog_28_method_3_code 22 = .ok (.putfield 13, 3) := by decide +kernel
theorem d_prog_28_method_3_25 : decode prog_28_method_3_code 25 = .ok (.lload_n 1, 1) := by decide +kernel
theorem d_prog_28_method_3_26 : decode prog_28_method_3_code 26 = .ok (.iload 4, 2) := by decide +kernel
theorem d_prog_28_method_3_28 : decode prog_28_method_3_code 28 = .ok (.bipush 127, 2) := by decide +kernel
theorem d_prog_28_method_3_30 : decode prog_28_method_3_code 30 = .ok (.iand, 1) := by decide +kernel
theorem d_prog_28_method_3_31 : decode prog_28_method_3_code 31 = .ok (.i2l, 1) := by decide +kernel
theorem d_prog_28_method_3_32 : decode prog_28_method_3_code 32 = .ok (.iload_n 3, 1) := by decide +kernel
theorem d_prog_28_method_3_33 : decode prog_28_method_3_code 33 = .ok (.lshl, 1) := by decide +kernel
theorem d_prog_28_method_3_34 : decode prog_28_method_3_code 34 = .ok (.lor, 1) := by decide +kernel
theorem d_prog_28_method_3_35 : decode prog_28_method_3_code 35 = .ok (.lstore_n 1, 1) := by decide +kernel
theorem d_prog_28_method_3_36 : decode prog_28_method_3_code 36 = .ok (.iinc 3 7, 3) := by decide +kernel
theorem d_prog_28_method_3_39 : decode prog_28_method_3_code 39 = .ok (.iload 4, 2) := by decide +kernel
theorem d_prog_28_method_3_41 : decode prog_28_method_3_code 41 = .ok (.ifCond .lt (-37), 3) := by decide +kernel
theorem d_prog_28_method_3_44 : decode prog_28_method_3_code 44 = .ok (.lload_n 1, 1) := by decide +kernel
theorem d_prog_28_method_3_45 : decode prog_28_method_3_code 45 = .ok (.lreturn, 1) := by decide +kernel
theorem d_prog_28_method_3_0 : decode prog_28_method_3_code 0 = .ok (.lconst 0, 1) := by decide +kernel
theorem d_prog_28_method_3_1 : decode prog_28_method_3_code 1 = .ok (.lstore_n 1, 1) := by decide +kernel
theorem d_prog_28_method_3_2 : decode prog_28_method_3_code 2 = .ok (.iconst 0, 1) := by decide +kernel
theorem d_prog_28_method_3_3 : decode prog_28_method_3_code 3 = .ok (.istore_n 3, 1) := by decide +kernel
theorem d_prog_28_method_2_0 : decode prog_28_method_2_code 0 = .ok (.aload_n 0, 1) := by decide +kernel
theorem d_prog_28_method_2_1 : decode prog_28_method_2_code 1 = .ok (.getfield 13, 3) := by decide +kernel
theorem d_prog_28_method_2_4 : decode prog_28_method_2_code 4 = .ok (.ireturn, 1) := by decide +kernel
theorem d_method_2_0 : decode method_2_code 0 = .ok (.aload_n 0, 1) := by decide +kernel
theorem d_method_2_1 : decode method_2_code 1 = .ok (.iload_n 1, 1) := by decide +kernel
theorem d_method_2_2 : decode method_2_code 2 = .ok (.iload_n 2, 1) := by decide +kernel
theorem d_method_2_3 : decode method_2_code 3 = .ok (.iadd, 1) := by decide +kernel
theorem d_method_2_4 : decode method_2_code 4 = .ok (.baload, 1) := by decide +kernel
theorem d_method_2_5 : decode method_2_code 5 = .ok (.bipush 127, 2) := by decide +kernel
theorem d_method_2_7 : decode method_2_code 7 = .ok (.iand, 1) := by decide +kernel
theorem d_method_2_8 : decode method_2_code 8 = .ok (.i2l, 1) := by decide +kernel
theorem d_method_2_9 : decode method_2_code 9 = .ok (.bipush 7, 2) := by decide +kernel
theorem d_method_2_11 : decode method_2_code 11 = .ok (.iload_n 2, 1) := by decide +kernel
theorem d_method_2_12 : decode method_2_code 12 = .ok (.imul, 1) := by decide +kernel
theorem d_method_2_13 : decode method_2_code 13 = .ok (.lshl, 1) := by decide +kernel
theorem d_method_2_14 : decode method_2_code 14 = .ok (.lreturn, 1) := by decide +kernel
theorem pn_0 : plainName "com/example/tokens_over_transports/tokensovertransports/engine/MarkingCodec$Reader" = true := by first | (simp [plainName, overriddenIn]; done) | decide +kernel
theorem pn_1 : plainName "com/example/tokens_over_transports/tokensovertransports/engine/ReaderNextPinLaw" = true := by first | (simp [plainName, overriddenIn]; done) | decide +kernel
theorem pd_0 : parseMethodDescriptor "([BI)V" = some ⟨[(.array .byte), .int], none⟩ := by decide +kernel
theorem pd_1 : parseMethodDescriptor "()J" = some ⟨[], some .long⟩ := by decide +kernel
theorem pd_2 : parseMethodDescriptor "()I" = some ⟨[], some .int⟩ := by decide +kernel
theorem pd_3 : parseMethodDescriptor "([BII)J" = some ⟨[(.array .byte), .int, .int], some .long⟩ := by decide +kernel
set_option maxRecDepth 65536 in
set_option maxHeartbeats 40000000 in
theorem c_own_rd (Z : State) (a0 : Array Value) (hw : ∀ d ∈ tables_1, d.before a0 Z = true) (n0 : Nat) (h : Heap) (hZ0 : n0 ≤ h.size) (r : Addr) (b : Addr) (p : Int32) (E_r : Exa Z h r "com/example/tokens_over_transports/tokensovertransports/engine/MarkingCodec$Reader") (F_bytes_r : Fld Z h r "com/example/tokens_over_transports/tokensovertransports/engine/MarkingCodec$Reader" "bytes" "[B" .null) (F_at_r : Fld Z h r "com/example/tokens_over_transports/tokensovertransports/engine/MarkingCodec$Reader" "at" "I" (.int (0 : Int32))) (g_r : n0 ≤ r)  :
    Con Z n0 (⟨"com/example/tokens_over_transports/tokensovertransports/engine/MarkingCodec$Reader", "<init>", "([BI)V"⟩ : MethodName) prog_28_method_1_code 3 none ({ frames := 1, cells := 0, slots := 0, locals := 12 } : Room) [(.ref r), (.ref b), (.int p)] h (fun v h' => v = none ∧ Keep h h' [r] ∧ Exa Z h' r "com/example/tokens_over_transports/tokensovertransports/engine/MarkingCodec$Reader" ∧ Fld Z h' r "com/example/tokens_over_transports/tokensovertransports/engine/MarkingCodec$Reader" "bytes" "[B" (.ref b) ∧ Fld Z h' r "com/example/tokens_over_transports/tokensovertransports/engine/MarkingCodec$Reader" "at" "I" (.int p)) := by
  refine Own.enter (plainFor_of_name pn_0) (L0 := #[.val (.ref r), .val (.ref b), .val (.int p)]) (fun m => by first | (simp [entryFrame, mkF, argsToLocals, Value.category]; done) | rfl) fun K => ?_
  show Go K _ _ _ _ _ _ "com/example/tokens_over_transports/tokensovertransports/engine/MarkingCodec$Reader" "<init>" _ 0 0 h 0 #[.val (.ref r), .val (.ref b), .val (.int p)] []
  refine Own.aloadN (pc' := 1) d_prog_28_method_1_0 rfl rfl rfl ?_
  refine Own.objinit (pc' := 4) d_prog_28_method_1_1 rfl (hw _ (List.mem_of_getElem? (i := 8) rfl)) (hw _ (List.mem_of_getElem? (i := 9) rfl)) (hw _ (List.mem_of_getElem? (i := 10) rfl)) rfl (by decide) (W := 0) rfl (by decide) ?_
  refine Own.aloadN (pc' := 5) d_prog_28_method_1_4 rfl rfl rfl ?_
  refine Own.aloadN (pc' := 6) d_prog_28_method_1_5 rfl rfl rfl ?_
  refine Own.putfield (pc' := 9) d_prog_28_method_1_6 rfl (host := "") (Or.inl (hw _ (List.mem_of_getElem? (i := 11) rfl))) Via.refl F_bytes_r E_r (Or.inr ⟨(hw _ (List.mem_of_getElem? (i := 12) rfl)), rfl, rfl⟩) (hw _ (List.mem_of_getElem? (i := 3) rfl)) (ty := (.array .byte)) (by decide) rfl rfl g_r fun h1 Wh1 => ?_
  have f2 := F_bytes_r.same Wh1
  have f3 := F_at_r.other Wh1 (Or.inr (slot_ne (Or.inl (hw _ (List.mem_of_getElem? (i := 14) rfl))) (Or.inr (hw _ (List.mem_of_getElem? (i := 12) rfl))) (by decide) (t := .int) (t' := (.array .byte)) (by decide) (by decide)))
  have f4 := E_r.wr Wh1
  have Zh1 : n0 ≤ h1.size := by rw [Wh1.size]; exact hZ0
  have Kh1 := (Keep.refl h [r]).wr Wh1 (Or.inl (by simp))
  refine Own.aloadN (pc' := 10) d_prog_28_method_1_9 rfl rfl rfl ?_
  refine Own.iloadN (pc' := 11) d_prog_28_method_1_10 rfl rfl ?_
  refine Own.putfield (pc' := 14) d_prog_28_method_1_11 rfl (host := "") (Or.inl (hw _ (List.mem_of_getElem? (i := 13) rfl))) Via.refl f3 f4 (Or.inl (hw _ (List.mem_of_getElem? (i := 14) rfl))) (hw _ (List.mem_of_getElem? (i := 3) rfl)) (ty := .int) (by decide) rfl rfl g_r fun h5 Wh5 => ?_
  have f6 := f2.other Wh5 (Or.inr (slot_ne (Or.inr (hw _ (List.mem_of_getElem? (i := 12) rfl))) (Or.inl (hw _ (List.mem_of_getElem? (i := 14) rfl))) (by decide) (t := (.array .byte)) (t' := .int) (by decide) (by decide)))
  have f7 := f3.same Wh5
  have f8 := f4.wr Wh5
  have Zh5 : n0 ≤ h5.size := by rw [Wh5.size]; exact Zh1
  have Kh5 := Kh1.wr Wh5 (Or.inl (by simp))
  exact Own.vreturn d_prog_28_method_1_14 rfl (⟨rfl, Kh5, f8, f6, f7⟩) (by decide) (by decide)
def own_sh (e y : Int32) : Int64 := (e &&& 127).toInt64 <<< (y &&& 63).toInt64
def own_pt (g : Nat → Int32) (t k : Nat) : Int64 := own_sh (g (t + k)) (Int32.ofInt (7 * (k : Int)))
def own_acc (g : Nat → Int32) (t : Nat) : Nat → Int64
  | 0 => 0
  | k + 1 => own_acc g t k ||| own_pt g t k
def own_Q (Z : State) (h : Heap) (r : Addr) (t : Nat) (g : Nat → Int32) (v : Option Value) (h' : Heap) : Prop := Keep h h' [r] ∧ ∃ (k : Nat) (z : Int32), v = some (.long (own_acc g t (k + 1))) ∧ k ≤ 9 ∧ (∀ j, j < k → (g (t + j)).toInt < 0) ∧ 0 ≤ (g (t + k)).toInt ∧ Exa Z h' r "com/example/tokens_over_transports/tokensovertransports/engine/MarkingCodec$Reader" ∧ Fld Z h' r "com/example/tokens_over_transports/tokensovertransports/engine/MarkingCodec$Reader" "at" "I" (.int z) ∧ z.toInt = (t : Int) + k + 1
theorem own_y (y : Int32) (k : Nat) (h : y.toInt = 7 * (k : Int)) : y = Int32.ofInt (7 * (k : Int)) := by rw [← h, Int32.ofInt_toInt]
set_option maxRecDepth 65536 in
set_option maxHeartbeats 40000000 in
theorem own_loop (Z : State) (a0 : Array Value) (hw : ∀ d ∈ tables_1, d.before a0 Z = true) (n0 : Nat) (K : Ctx) (h0 : Heap) (r a : Addr) (t : Nat) (ht : t ≤ 2) (g : Nat → Int32) (g9 : 0 ≤ (g (t + 9)).toInt) (gr : n0 ≤ r) (hne : a ≠ r) :
    ∀ m k : Nat, k + m = 9 → ∀ (h : Heap) (i : Int32) (acc : Int64) (sh : Int32) (s4 : Slot), (s4 = .unset ∨ ∃ w, s4 = .val w ∧ w.category = 1) → i.toInt = (t : Int) + k → acc = own_acc g t k → sh.toInt = 7 * (k : Int) → Fld Z h r "com/example/tokens_over_transports/tokensovertransports/engine/MarkingCodec$Reader" "bytes" "[B" (.ref a) → Fld Z h r "com/example/tokens_over_transports/tokensovertransports/engine/MarkingCodec$Reader" "at" "I" (.int i) → Exa Z h r "com/example/tokens_over_transports/tokensovertransports/engine/MarkingCodec$Reader" → AB Z h a 12 g → Keep h0 h [r] → n0 ≤ h.size → (∀ j, j < k → (g (t + j)).toInt < 0) →
    Go K ({ frames := 0, cells := 0, slots := 0, locals := 0 } : Room) Z n0 prog_28_method_3_code 5 (some .long) "com/example/tokens_over_transports/tokensovertransports/engine/MarkingCodec$Reader" "next" (own_Q Z h0 r t g) 0 0 h 4 #[.val (.ref r), .val (.long acc), .second, .val (.int sh), s4] [] := by
  intro m
  induction m with
  | zero =>
    intro k hk h i acc sh s4 hs4 hi hacc hsh Fb Fi E A Kp hz hlt
    refine Own.aloadN (pc' := 5) d_prog_28_method_3_4 rfl rfl rfl ?_
    refine Own.getfield (pc' := 8) d_prog_28_method_3_5 rfl (host := "") (Or.inl (hw _ (List.mem_of_getElem? (i := 11) rfl))) Via.refl Fb ?_
    refine Own.aloadN (pc' := 9) d_prog_28_method_3_8 rfl rfl rfl ?_
    refine Own.getfield (pc' := 12) d_prog_28_method_3_9 rfl (host := "") (Or.inl (hw _ (List.mem_of_getElem? (i := 13) rfl))) Via.refl Fi ?_
    refine Own.baload (pc' := 13) (i := (t + k)) d_prog_28_method_3_12 rfl A (by rw [hi]; omega) (by omega) ?_
    obtain ⟨v9, hv9⟩ : ∃ z, z = g (t + k) := ⟨_, rfl⟩
    rw [← hv9]
    refine Own.istore (pc' := 15) (L1 := #[.val (.ref r), .val (.long acc), .second, .val (.int sh), .val (.int v9)]) d_prog_28_method_3_13 (Jvm.Free.XS.store1 rfl hs4 rfl) rfl ?_
    refine Own.aloadN (pc' := 16) d_prog_28_method_3_15 rfl rfl rfl ?_
    refine Own.dup (pc' := 17) d_prog_28_method_3_16 rfl rfl ?_
    refine Own.getfield (pc' := 20) d_prog_28_method_3_17 rfl (host := "") (Or.inl (hw _ (List.mem_of_getElem? (i := 13) rfl))) Via.refl Fi ?_
    have hi1 : (i + (1 : Int32)).toInt = (t : Int) + (k : Int) + 1 := by rw [Jvm.Kit.i32_add (by rw [hi, show (1 : Int32).toInt = 1 by decide]; omega) (by rw [hi, show (1 : Int32).toInt = 1 by decide]; omega), hi, show (1 : Int32).toInt = 1 by decide]
    refine Own.iconst (pc' := 21) (v := (1 : Int32)) d_prog_28_method_3_20 (by decide) rfl ?_
    refine Own.iadd (pc' := 22) d_prog_28_method_3_21 rfl fun v10 hv10 => ?_
    refine Own.putfield (pc' := 25) d_prog_28_method_3_22 rfl (host := "") (Or.inl (hw _ (List.mem_of_getElem? (i := 13) rfl))) Via.refl Fi E (Or.inl (hw _ (List.mem_of_getElem? (i := 14) rfl))) (hw _ (List.mem_of_getElem? (i := 3) rfl)) (ty := .int) (by decide) rfl rfl gr fun h11 Wh11 => ?_
    have f12 := Fb.other Wh11 (Or.inr (slot_ne (Or.inr (hw _ (List.mem_of_getElem? (i := 12) rfl))) (Or.inl (hw _ (List.mem_of_getElem? (i := 14) rfl))) (by decide) (t := (.array .byte)) (t' := .int) (by decide) (by decide)))
    have f13 := Fi.same Wh11
    have f14 := E.wr Wh11
    have f15 := A.other Wh11 hne
    have Zh11 : n0 ≤ h11.size := by rw [Wh11.size]; exact hz
    have Kh11 := Kp.wr Wh11 (Or.inl (by simp))
    refine Own.lloadN (pc' := 26) d_prog_28_method_3_25 rfl rfl ?_
    refine Own.iload (pc' := 28) d_prog_28_method_3_26 rfl rfl ?_
    refine Own.bipush (pc' := 30) (v := (127 : Int32)) d_prog_28_method_3_28 (by decide) rfl ?_
    refine Own.iand (pc' := 31) d_prog_28_method_3_30 rfl fun v16 hv16 => ?_
    refine Own.i2l (pc' := 32) d_prog_28_method_3_31 rfl fun v17 hv17 => ?_
    refine Own.iloadN (pc' := 33) d_prog_28_method_3_32 rfl rfl ?_
    refine Own.lshl (pc' := 34) d_prog_28_method_3_33 rfl fun v18 hv18 => ?_
    refine Own.lor (pc' := 35) d_prog_28_method_3_34 rfl fun v19 hv19 => ?_
    refine Own.lstoreN (pc' := 36) (L1 := #[.val (.ref r), .val (.long v19), .second, .val (.int sh), .val (.int v9)]) d_prog_28_method_3_35 rfl rfl ?_
    refine Own.iinc (pc' := 39) (L1 := fun zz => #[.val (.ref r), .val (.long v19), .second, .val (.int zz), .val (.int v9)]) d_prog_28_method_3_36 rfl (fun _ => rfl) rfl fun v20 hv20 => ?_
    show Go K _ _ _ _ _ _ _ _ _ 0 0 h11 39 #[.val (.ref r), .val (.long v19), .second, .val (.int v20), .val (.int v9)] []
    refine Own.iload (pc' := 41) d_prog_28_method_3_39 rfl rfl ?_
    refine Own.if_lt (pc' := 4) (pc2 := 44) d_prog_28_method_3_41 (by decide) (by decide) rfl (fun c41_20 => False.elim (by obtain rfl : k = 9 := (by omega); rw [hv9] at c41_20; omega)) (fun c41_20 => ?_)
    refine Own.lloadN (pc' := 45) d_prog_28_method_3_44 rfl rfl ?_
    have hret : v19 = own_acc g t (k + 1) := by rw [hv19, hacc, hv18, hv17, hv16, hv9, own_y sh k hsh]; rfl
    refine Own.lreturn d_prog_28_method_3_45 rfl ⟨Kh11, k, v10, by rw [hret], by omega, hlt, ?_, f14, f13, by rw [hv10, hi1]⟩ (by decide) (by decide)
    rw [← hv9]; have := c41_20; omega
  | succ m ih =>
    intro k hk h i acc sh s4 hs4 hi hacc hsh Fb Fi E A Kp hz hlt
    refine Own.aloadN (pc' := 5) d_prog_28_method_3_4 rfl rfl rfl ?_
    refine Own.getfield (pc' := 8) d_prog_28_method_3_5 rfl (host := "") (Or.inl (hw _ (List.mem_of_getElem? (i := 11) rfl))) Via.refl Fb ?_
    refine Own.aloadN (pc' := 9) d_prog_28_method_3_8 rfl rfl rfl ?_
    refine Own.getfield (pc' := 12) d_prog_28_method_3_9 rfl (host := "") (Or.inl (hw _ (List.mem_of_getElem? (i := 13) rfl))) Via.refl Fi ?_
    refine Own.baload (pc' := 13) (i := (t + k)) d_prog_28_method_3_12 rfl A (by rw [hi]; omega) (by omega) ?_
    obtain ⟨v22, hv22⟩ : ∃ z, z = g (t + k) := ⟨_, rfl⟩
    rw [← hv22]
    refine Own.istore (pc' := 15) (L1 := #[.val (.ref r), .val (.long acc), .second, .val (.int sh), .val (.int v22)]) d_prog_28_method_3_13 (Jvm.Free.XS.store1 rfl hs4 rfl) rfl ?_
    refine Own.aloadN (pc' := 16) d_prog_28_method_3_15 rfl rfl rfl ?_
    refine Own.dup (pc' := 17) d_prog_28_method_3_16 rfl rfl ?_
    refine Own.getfield (pc' := 20) d_prog_28_method_3_17 rfl (host := "") (Or.inl (hw _ (List.mem_of_getElem? (i := 13) rfl))) Via.refl Fi ?_
    have hi1 : (i + (1 : Int32)).toInt = (t : Int) + (k : Int) + 1 := by rw [Jvm.Kit.i32_add (by rw [hi, show (1 : Int32).toInt = 1 by decide]; omega) (by rw [hi, show (1 : Int32).toInt = 1 by decide]; omega), hi, show (1 : Int32).toInt = 1 by decide]
    refine Own.iconst (pc' := 21) (v := (1 : Int32)) d_prog_28_method_3_20 (by decide) rfl ?_
    refine Own.iadd (pc' := 22) d_prog_28_method_3_21 rfl fun v23 hv23 => ?_
    refine Own.putfield (pc' := 25) d_prog_28_method_3_22 rfl (host := "") (Or.inl (hw _ (List.mem_of_getElem? (i := 13) rfl))) Via.refl Fi E (Or.inl (hw _ (List.mem_of_getElem? (i := 14) rfl))) (hw _ (List.mem_of_getElem? (i := 3) rfl)) (ty := .int) (by decide) rfl rfl gr fun h24 Wh24 => ?_
    have f25 := Fb.other Wh24 (Or.inr (slot_ne (Or.inr (hw _ (List.mem_of_getElem? (i := 12) rfl))) (Or.inl (hw _ (List.mem_of_getElem? (i := 14) rfl))) (by decide) (t := (.array .byte)) (t' := .int) (by decide) (by decide)))
    have f26 := Fi.same Wh24
    have f27 := E.wr Wh24
    have f28 := A.other Wh24 hne
    have Zh24 : n0 ≤ h24.size := by rw [Wh24.size]; exact hz
    have Kh24 := Kp.wr Wh24 (Or.inl (by simp))
    refine Own.lloadN (pc' := 26) d_prog_28_method_3_25 rfl rfl ?_
    refine Own.iload (pc' := 28) d_prog_28_method_3_26 rfl rfl ?_
    refine Own.bipush (pc' := 30) (v := (127 : Int32)) d_prog_28_method_3_28 (by decide) rfl ?_
    refine Own.iand (pc' := 31) d_prog_28_method_3_30 rfl fun v29 hv29 => ?_
    refine Own.i2l (pc' := 32) d_prog_28_method_3_31 rfl fun v30 hv30 => ?_
    refine Own.iloadN (pc' := 33) d_prog_28_method_3_32 rfl rfl ?_
    refine Own.lshl (pc' := 34) d_prog_28_method_3_33 rfl fun v31 hv31 => ?_
    refine Own.lor (pc' := 35) d_prog_28_method_3_34 rfl fun v32 hv32 => ?_
    refine Own.lstoreN (pc' := 36) (L1 := #[.val (.ref r), .val (.long v32), .second, .val (.int sh), .val (.int v22)]) d_prog_28_method_3_35 rfl rfl ?_
    refine Own.iinc (pc' := 39) (L1 := fun zz => #[.val (.ref r), .val (.long v32), .second, .val (.int zz), .val (.int v22)]) d_prog_28_method_3_36 rfl (fun _ => rfl) rfl fun v33 hv33 => ?_
    show Go K _ _ _ _ _ _ _ _ _ 0 0 h24 39 #[.val (.ref r), .val (.long v32), .second, .val (.int v33), .val (.int v22)] []
    refine Own.iload (pc' := 41) d_prog_28_method_3_39 rfl rfl ?_
    refine Own.if_lt (pc' := 4) (pc2 := 44) d_prog_28_method_3_41 (by decide) (by decide) rfl (fun c41_33 => ?_) (fun c41_33 => ?_)
    · refine ih (k + 1) (by omega) h24 v23 v32 v33 (.val (.int v22)) (Or.inr ⟨_, rfl, rfl⟩) ?_ ?_ ?_ f25 f26 f27 f28 Kh24 Zh24 (fun j hj => ?_)
      · rw [hv23, hi1]; omega
      · rw [hv32, hacc, hv31, hv30, hv29, hv22, own_y sh k hsh]; rfl
      · rw [hv33, Jvm.Kit.i32_add (by rw [hsh]; show _ ≤ _ + (7 : Int); omega) (by rw [hsh]; show _ + (7 : Int) < _; omega), hsh]; show _ + (7 : Int) = _; omega
      · by_cases q : j = k
        · subst q; rw [← hv22]; exact c41_33
        · exact hlt j (by omega)
    · refine Own.lloadN (pc' := 45) d_prog_28_method_3_44 rfl rfl ?_
      have hret : v32 = own_acc g t (k + 1) := by rw [hv32, hacc, hv31, hv30, hv29, hv22, own_y sh k hsh]; rfl
      refine Own.lreturn d_prog_28_method_3_45 rfl ⟨Kh24, k, v23, by rw [hret], by omega, hlt, ?_, f27, f26, by rw [hv23, hi1]⟩ (by decide) (by decide)
      rw [← hv22]; have := c41_33; omega
set_option maxRecDepth 65536 in
set_option maxHeartbeats 40000000 in
theorem c_own_next (Z : State) (a0 : Array Value) (hw : ∀ d ∈ tables_1, d.before a0 Z = true) (n0 : Nat) (h : Heap) (hZ0 : n0 ≤ h.size) (r a : Addr) (t : Nat) (ht : t ≤ 2) (i : Int32) (hi : i.toInt = (t : Int)) (g : Nat → Int32) (g9 : 0 ≤ (g (t + 9)).toInt) (gr : n0 ≤ r) (hne : a ≠ r) (Fb : Fld Z h r "com/example/tokens_over_transports/tokensovertransports/engine/MarkingCodec$Reader" "bytes" "[B" (.ref a)) (Fi : Fld Z h r "com/example/tokens_over_transports/tokensovertransports/engine/MarkingCodec$Reader" "at" "I" (.int i)) (E : Exa Z h r "com/example/tokens_over_transports/tokensovertransports/engine/MarkingCodec$Reader") (A : AB Z h a 12 g) :
    Con Z n0 (⟨"com/example/tokens_over_transports/tokensovertransports/engine/MarkingCodec$Reader", "next", "()J"⟩ : MethodName) prog_28_method_3_code 5 (some .long) ({ frames := 0, cells := 0, slots := 0, locals := 0 } : Room) [(.ref r)] h (own_Q Z h r t g) := by
  refine Own.enter (plainFor_of_name pn_0) (L0 := #[.val (.ref r), .unset, .unset, .unset, .unset]) (fun m => by first | (simp [entryFrame, mkF, argsToLocals, Value.category]; done) | rfl) fun K => ?_
  show Go K _ _ _ _ _ _ "com/example/tokens_over_transports/tokensovertransports/engine/MarkingCodec$Reader" "next" _ 0 0 h 0 #[.val (.ref r), .unset, .unset, .unset, .unset] []
  refine Own.lconst0 (pc' := 1) d_prog_28_method_3_0 rfl ?_
  refine Own.lstoreN (pc' := 2) (L1 := #[.val (.ref r), .val (.long (0 : Int64)), .second, .unset, .unset]) d_prog_28_method_3_1 rfl rfl ?_
  refine Own.iconst (pc' := 3) (v := (0 : Int32)) d_prog_28_method_3_2 (by decide) rfl ?_
  refine Own.istoreN (pc' := 4) (L1 := #[.val (.ref r), .val (.long (0 : Int64)), .second, .val (.int (0 : Int32)), .unset]) d_prog_28_method_3_3 rfl rfl ?_
  exact own_loop Z a0 hw n0 K h r a t ht g g9 gr hne 9 0 rfl h i 0 0 .unset (Or.inl rfl) (by rw [hi]; simp) rfl (by decide) Fb Fi E A (Keep.refl _ _) hZ0 (fun j hj => absurd hj (Nat.not_lt_zero j))
def own_at (u : Int32) : Int32 := u
set_option maxRecDepth 65536 in
set_option maxHeartbeats 40000000 in
theorem c_own_at (Z : State) (a0 : Array Value) (hw : ∀ d ∈ tables_1, d.before a0 Z = true) (n0 : Nat) (h : Heap) (hZ0 : n0 ≤ h.size) (r : Addr) (u : Int32) (F_at_r : Fld Z h r "com/example/tokens_over_transports/tokensovertransports/engine/MarkingCodec$Reader" "at" "I" (.int u))  :
    Con Z n0 (⟨"com/example/tokens_over_transports/tokensovertransports/engine/MarkingCodec$Reader", "at", "()I"⟩ : MethodName) prog_28_method_2_code 1 (some .int) ({ frames := 0, cells := 0, slots := 0, locals := 0 } : Room) [(.ref r)] h (fun v h' => h = h' ∧ ∃ z, v = some (.int z) ∧ z = (own_at u)) := by
  refine Own.enter (plainFor_of_name pn_0) (L0 := #[.val (.ref r)]) (fun m => by first | (simp [entryFrame, mkF, argsToLocals, Value.category]; done) | rfl) fun K => ?_
  show Go K _ _ _ _ _ _ "com/example/tokens_over_transports/tokensovertransports/engine/MarkingCodec$Reader" "at" _ 0 0 h 0 #[.val (.ref r)] []
  refine Own.aloadN (pc' := 1) d_prog_28_method_2_0 rfl rfl rfl ?_
  refine Own.getfield (pc' := 4) d_prog_28_method_2_1 rfl (host := "") (Or.inl (hw _ (List.mem_of_getElem? (i := 13) rfl))) Via.refl F_at_r ?_
  have hq : u = (own_at u) := by unfold own_at; rfl
  exact Own.ireturnI d_prog_28_method_2_4 rfl (⟨rfl, _, rfl, hq⟩) (by decide) (by decide)
def own_part (s : Int32) (i : Int32) (e : Int32) : Int64 := (((e &&& (127 : Int32)).toInt64) <<< (((7 : Int32) * i) &&& 63).toInt64)
set_option maxRecDepth 65536 in
set_option maxHeartbeats 40000000 in
theorem c_own_part (Z : State) (a0 : Array Value) (hw : ∀ d ∈ tables_1, d.before a0 Z = true) (n0 : Nat) (h : Heap) (hZ0 : n0 ≤ h.size) (b : Addr) (s : Int32) (i : Int32)   (k : Nat) (hk : (s + i).toInt = (k : Int)) (hk12 : k < 12) (f : Nat → Int32) (A : AB Z h b 12 f) (e : Int32) (he : f k = e) :
    Con Z n0 (⟨"com/example/tokens_over_transports/tokensovertransports/engine/ReaderNextPinLaw", "part", "([BII)J"⟩ : MethodName) method_2_code 3 (some .long) ({ frames := 0, cells := 0, slots := 0, locals := 0 } : Room) [(.ref b), (.int s), (.int i)] h (fun v h' => h = h' ∧ ∃ z, v = some (.long z) ∧ z = (own_part s i e)) := by
  refine Own.enter (plainFor_of_name pn_1) (L0 := #[.val (.ref b), .val (.int s), .val (.int i)]) (fun m => by first | (simp [entryFrame, mkF, argsToLocals, Value.category]; done) | rfl) fun K => ?_
  show Go K _ _ _ _ _ _ "com/example/tokens_over_transports/tokensovertransports/engine/ReaderNextPinLaw" "part" _ 0 0 h 0 #[.val (.ref b), .val (.int s), .val (.int i)] []
  refine Own.aloadN (pc' := 1) d_method_2_0 rfl rfl rfl ?_
  refine Own.iloadN (pc' := 2) d_method_2_1 rfl rfl ?_
  refine Own.iloadN (pc' := 3) d_method_2_2 rfl rfl ?_
  refine Own.iadd (pc' := 4) d_method_2_3 rfl fun v35 hv35 => ?_
  have hv_add := hv35
  refine Own.baload (pc' := 5) (i := k) d_method_2_4 rfl A (by rw [hv_add]; exact hk) hk12 ?_
  rw [he]
  show Go K _ _ _ _ _ _ _ _ _ 0 0 h 5 #[.val (.ref b), .val (.int s), .val (.int i)] [(.int e)]
  refine Own.bipush (pc' := 7) (v := (127 : Int32)) d_method_2_5 (by decide) rfl ?_
  refine Own.iand (pc' := 8) d_method_2_7 rfl fun v36 hv36 => ?_
  refine Own.i2l (pc' := 9) d_method_2_8 rfl fun v37 hv37 => ?_
  refine Own.bipush (pc' := 11) (v := (7 : Int32)) d_method_2_9 (by decide) rfl ?_
  refine Own.iloadN (pc' := 12) d_method_2_11 rfl rfl ?_
  refine Own.imul (pc' := 13) d_method_2_12 rfl fun v38 hv38 => ?_
  refine Own.lshl (pc' := 14) d_method_2_13 rfl fun v39 hv39 => ?_
  subst hv35
  subst hv36
  subst hv37
  subst hv38
  subst hv39
  have hq : (((e &&& (127 : Int32)).toInt64) <<< (((7 : Int32) * i) &&& 63).toInt64) = (own_part s i e) := by unfold own_part; rfl
  exact Own.lreturn d_method_2_14 rfl (⟨rfl, _, rfl, hq⟩) (by decide) (by decide)
theorem own_kstep (j k : Nat) (w e : Int32) (h : w = if j ≤ k then 1 else 0) (h1 : j < k → e.toInt < 0) (h2 : j = k → 0 ≤ e.toInt) : (if w = 0 then (0 : Int32) else (if 0 ≤ e.toInt then (0 : Int32) else (1 : Int32))) = if j + 1 ≤ k then 1 else 0 := by
  by_cases q : j ≤ k
  · rw [if_pos q] at h; subst h
    rw [if_neg (by decide)]
    by_cases q2 : j = k
    · rw [if_pos (h2 q2), if_neg (by omega)]
    · have := h1 (by omega)
      rw [if_neg (by omega), if_pos (by omega)]
  · rw [if_neg q] at h; subst h
    rw [if_pos rfl, if_neg (by omega)]
theorem own_k1 (k : Nat) (e : Int32) (h1 : 0 < k → e.toInt < 0) (h2 : k = 0 → 0 ≤ e.toInt) : (if 0 ≤ e.toInt then (0 : Int32) else (1 : Int32)) = if 1 ≤ k then 1 else 0 := by
  by_cases q : k = 0
  · rw [if_pos (h2 q), if_neg (by omega)]
  · have := h1 (by omega)
    rw [if_neg (by omega), if_pos (by omega)]
theorem own_estep (g : Nat → Int32) (t j k : Nat) (x p y : Int64) (w : Int32) (hx : x = own_acc g t (min j (k + 1))) (h : w = if j ≤ k then 1 else 0) (hp : p = own_pt g t j) (hy : y = if w = 0 then 0 else p) : x ||| y = own_acc g t (min (j + 1) (k + 1)) := by
  by_cases q : j ≤ k
  · rw [if_pos q] at h; subst h
    rw [if_neg (by decide)] at hy
    rw [show min (j + 1) (k + 1) = j + 1 by omega, hx, show min j (k + 1) = j by omega, hy, hp]; rfl
  · rw [if_neg q] at h; subst h
    rw [if_pos rfl] at hy
    rw [show min (j + 1) (k + 1) = min j (k + 1) by omega, hy, hx, Int64.or_zero]
theorem own_nstep (j k : Nat) (x y w : Int32) (hj : j ≤ 9) (hx : x.toInt = ((min (j - 1) k : Nat) : Int) + 1) (h1 : 1 ≤ j) (h : w = if j ≤ k then 1 else 0) (hy : y = if w = 0 then 0 else 1) : (x + y).toInt = ((min j k : Nat) : Int) + 1 := by
  have k1 : (1 : Int32).toInt = 1 := by decide
  have k0 : (0 : Int32).toInt = 0 := by decide
  by_cases q : j ≤ k
  · rw [if_pos q] at h; subst h
    rw [if_neg (by decide)] at hy; subst hy
    rw [Jvm.Kit.i32_add (by omega) (by omega)]; omega
  · rw [if_neg q] at h; subst h
    rw [if_pos rfl] at hy; subst hy
    rw [Jvm.Kit.i32_add (by omega) (by omega)]; omega
theorem own_partI (s i e : Int32) (g : Nat → Int32) (t j : Nat) (he : e = g (t + j)) (hi : ((7 : Int32) * i) = Int32.ofInt (7 * (j : Int))) : own_part s i e = own_pt g t j := by
  unfold own_part own_pt own_sh; rw [he, hi]
theorem own_idx (s : Int32) (i : Int32) (t j : Nat) (hs : s.toInt = (t : Int)) (t2 : t ≤ 2) (hi : i.toInt = (j : Int)) (hj : j ≤ 9) : (s + i).toInt = ((t + j : Nat) : Int) := by
  rw [Jvm.Kit.i32_add (by omega) (by omega)]; omega
theorem own_low1 (x : Int32) : 0 ≤ ((x &&& 1).toInt8.toInt32.toInt8.toInt32).toInt := by
  rcases and_one x with q | q <;> rw [q] <;> decide
set_option maxRecDepth 65536 in
set_option maxHeartbeats 40000000 in
theorem own_law (l : Launch) (Z : State) (a0 : Array Value) (hw : ∀ d ∈ tables_1, d.before a0 Z = true) (ws : List Jvm.Cond) (n0 : Nat) (h : Heap) (hZ0 : n0 ≤ h.size) (p0 : Int64) (p1 : Int32) (p2 : Int32)  :
    MetFree l x (head1 (Jvm.Cond.code x code maxLocals ret :: ws) room_1) (fun a U => a = #[(.long p0), (.int p1), (.int p2)] ∧ Z.Warmed39 U.vm ∧ U.heap = h) (fun _ _ _ _ _ => True) (fun _ U o U' => ∃ v L, o = .returned v ∧ ((fun v _ => v = some (.int 1)) v U'.heap ∧ Fr n0 L) ∧ FrameEnd U o U' L room_1.cells room_1.slots) := by
  refine Own.enterW (Q := fun v _ => v = some (.int 1)) (plainFor_of_name pn_1) (L0 := #[.val (.long p0), .second, .val (.int p1), .val (.int p2), .unset, .unset, .unset, .unset, .unset, .unset, .unset, .unset, .unset, .unset, .unset, .unset, .unset, .unset, .unset, .unset, .unset, .unset]) (fun m => by first | (simp [entryFrame, mkF, argsToLocals, Value.category, maxLocals]; done) | rfl) fun K => ?_
  show Go K _ _ _ code 22 (some .boolean) "com/example/tokens_over_transports/tokensovertransports/engine/ReaderNextPinLaw" "law" _ 0 0 h 0 #[.val (.long p0), .second, .val (.int p1), .val (.int p2), .unset, .unset, .unset, .unset, .unset, .unset, .unset, .unset, .unset, .unset, .unset, .unset, .unset, .unset, .unset, .unset, .unset, .unset] []
  refine Own.bipush (pc' := 2) (v := (12 : Int32)) at_0 (by decide) rfl ?_
  refine Own.newB (pc' := 4) (n := 12) (cap := 12) at_2 rfl (hw _ (List.mem_of_getElem? (i := 0) rfl)) (by decide) (by decide) (by decide) (by decide) (by decide) fun a40 h41 ga40 Eh41 Aa40 => ?_
  have Ga40 : n0 ≤ a40 := by rw [ga40]; exact hZ0
  have Zh41 : n0 ≤ h41.size := Nat.le_trans hZ0 Eh41.1
  show Go K _ _ _ _ _ _ _ _ _ 1 12 h41 4 #[.val (.long p0), .second, .val (.int p1), .val (.int p2), .unset, .unset, .unset, .unset, .unset, .unset, .unset, .unset, .unset, .unset, .unset, .unset, .unset, .unset, .unset, .unset, .unset, .unset] [(.ref a40)]
  refine Own.astore (pc' := 6) (L1 := #[.val (.long p0), .second, .val (.int p1), .val (.int p2), .val (.ref a40), .unset, .unset, .unset, .unset, .unset, .unset, .unset, .unset, .unset, .unset, .unset, .unset, .unset, .unset, .unset, .unset, .unset]) at_4 rfl rfl rfl ?_
  refine Own.aload (pc' := 8) at_6 rfl rfl rfl ?_
  refine Own.iconst (pc' := 9) (v := (0 : Int32)) at_8 (by decide) rfl ?_
  refine Own.lloadN (pc' := 10) at_9 rfl rfl ?_
  refine Own.l2i (pc' := 11) at_10 rfl fun v42 hv42 => ?_
  refine Own.i2b (pc' := 12) at_11 rfl fun v43 hv43 => ?_
  refine Own.bastore (pc' := 13) (i := 0) at_12 rfl Aa40 Ga40 (by decide) (by decide) fun h44 Wh44 Ah44 => ?_
  have Zh44 : n0 ≤ h44.size := by rw [Wh44.size]; exact Zh41
  refine Own.aload (pc' := 15) at_13 rfl rfl rfl ?_
  refine Own.iconst (pc' := 16) (v := (1 : Int32)) at_15 (by decide) rfl ?_
  refine Own.lloadN (pc' := 17) at_16 rfl rfl ?_
  refine Own.bipush (pc' := 19) (v := (8 : Int32)) at_17 (by decide) rfl ?_
  refine Own.lushr (pc' := 20) at_19 rfl fun v45 hv45 => ?_
  refine Own.l2i (pc' := 21) at_20 rfl fun v46 hv46 => ?_
  refine Own.i2b (pc' := 22) at_21 rfl fun v47 hv47 => ?_
  refine Own.bastore (pc' := 23) (i := 1) at_22 rfl Ah44 Ga40 (by decide) (by decide) fun h48 Wh48 Ah48 => ?_
  have Zh48 : n0 ≤ h48.size := by rw [Wh48.size]; exact Zh44
  refine Own.aload (pc' := 25) at_23 rfl rfl rfl ?_
  refine Own.iconst (pc' := 26) (v := (2 : Int32)) at_25 (by decide) rfl ?_
  refine Own.lloadN (pc' := 27) at_26 rfl rfl ?_
  refine Own.bipush (pc' := 29) (v := (16 : Int32)) at_27 (by decide) rfl ?_
  refine Own.lushr (pc' := 30) at_29 rfl fun v49 hv49 => ?_
  refine Own.l2i (pc' := 31) at_30 rfl fun v50 hv50 => ?_
  refine Own.i2b (pc' := 32) at_31 rfl fun v51 hv51 => ?_
  refine Own.bastore (pc' := 33) (i := 2) at_32 rfl Ah48 Ga40 (by decide) (by decide) fun h52 Wh52 Ah52 => ?_
  have Zh52 : n0 ≤ h52.size := by rw [Wh52.size]; exact Zh48
  refine Own.aload (pc' := 35) at_33 rfl rfl rfl ?_
  refine Own.iconst (pc' := 36) (v := (3 : Int32)) at_35 (by decide) rfl ?_
  refine Own.lloadN (pc' := 37) at_36 rfl rfl ?_
  refine Own.bipush (pc' := 39) (v := (24 : Int32)) at_37 (by decide) rfl ?_
  refine Own.lushr (pc' := 40) at_39 rfl fun v53 hv53 => ?_
  refine Own.l2i (pc' := 41) at_40 rfl fun v54 hv54 => ?_
  refine Own.i2b (pc' := 42) at_41 rfl fun v55 hv55 => ?_
  refine Own.bastore (pc' := 43) (i := 3) at_42 rfl Ah52 Ga40 (by decide) (by decide) fun h56 Wh56 Ah56 => ?_
  have Zh56 : n0 ≤ h56.size := by rw [Wh56.size]; exact Zh52
  refine Own.aload (pc' := 45) at_43 rfl rfl rfl ?_
  refine Own.iconst (pc' := 46) (v := (4 : Int32)) at_45 (by decide) rfl ?_
  refine Own.lloadN (pc' := 47) at_46 rfl rfl ?_
  refine Own.bipush (pc' := 49) (v := (32 : Int32)) at_47 (by decide) rfl ?_
  refine Own.lushr (pc' := 50) at_49 rfl fun v57 hv57 => ?_
  refine Own.l2i (pc' := 51) at_50 rfl fun v58 hv58 => ?_
  refine Own.i2b (pc' := 52) at_51 rfl fun v59 hv59 => ?_
  refine Own.bastore (pc' := 53) (i := 4) at_52 rfl Ah56 Ga40 (by decide) (by decide) fun h60 Wh60 Ah60 => ?_
  have Zh60 : n0 ≤ h60.size := by rw [Wh60.size]; exact Zh56
  refine Own.aload (pc' := 55) at_53 rfl rfl rfl ?_
  refine Own.iconst (pc' := 56) (v := (5 : Int32)) at_55 (by decide) rfl ?_
  refine Own.lloadN (pc' := 57) at_56 rfl rfl ?_
  refine Own.bipush (pc' := 59) (v := (40 : Int32)) at_57 (by decide) rfl ?_
  refine Own.lushr (pc' := 60) at_59 rfl fun v61 hv61 => ?_
  refine Own.l2i (pc' := 61) at_60 rfl fun v62 hv62 => ?_
  refine Own.i2b (pc' := 62) at_61 rfl fun v63 hv63 => ?_
  refine Own.bastore (pc' := 63) (i := 5) at_62 rfl Ah60 Ga40 (by decide) (by decide) fun h64 Wh64 Ah64 => ?_
  have Zh64 : n0 ≤ h64.size := by rw [Wh64.size]; exact Zh60
  refine Own.aload (pc' := 65) at_63 rfl rfl rfl ?_
  refine Own.bipush (pc' := 67) (v := (6 : Int32)) at_65 (by decide) rfl ?_
  refine Own.lloadN (pc' := 68) at_67 rfl rfl ?_
  refine Own.bipush (pc' := 70) (v := (48 : Int32)) at_68 (by decide) rfl ?_
  refine Own.lushr (pc' := 71) at_70 rfl fun v65 hv65 => ?_
  refine Own.l2i (pc' := 72) at_71 rfl fun v66 hv66 => ?_
  refine Own.i2b (pc' := 73) at_72 rfl fun v67 hv67 => ?_
  refine Own.bastore (pc' := 74) (i := 6) at_73 rfl Ah64 Ga40 (by decide) (by decide) fun h68 Wh68 Ah68 => ?_
  have Zh68 : n0 ≤ h68.size := by rw [Wh68.size]; exact Zh64
  refine Own.aload (pc' := 76) at_74 rfl rfl rfl ?_
  refine Own.bipush (pc' := 78) (v := (7 : Int32)) at_76 (by decide) rfl ?_
  refine Own.lloadN (pc' := 79) at_78 rfl rfl ?_
  refine Own.bipush (pc' := 81) (v := (56 : Int32)) at_79 (by decide) rfl ?_
  refine Own.lushr (pc' := 82) at_81 rfl fun v69 hv69 => ?_
  refine Own.l2i (pc' := 83) at_82 rfl fun v70 hv70 => ?_
  refine Own.i2b (pc' := 84) at_83 rfl fun v71 hv71 => ?_
  refine Own.bastore (pc' := 85) (i := 7) at_84 rfl Ah68 Ga40 (by decide) (by decide) fun h72 Wh72 Ah72 => ?_
  have Zh72 : n0 ≤ h72.size := by rw [Wh72.size]; exact Zh68
  refine Own.aload (pc' := 87) at_85 rfl rfl rfl ?_
  refine Own.bipush (pc' := 89) (v := (8 : Int32)) at_87 (by decide) rfl ?_
  refine Own.iloadN (pc' := 90) at_89 rfl rfl ?_
  refine Own.i2b (pc' := 91) at_90 rfl fun v73 hv73 => ?_
  refine Own.bastore (pc' := 92) (i := 8) at_91 rfl Ah72 Ga40 (by decide) (by decide) fun h74 Wh74 Ah74 => ?_
  have Zh74 : n0 ≤ h74.size := by rw [Wh74.size]; exact Zh72
  refine Own.aload (pc' := 94) at_92 rfl rfl rfl ?_
  refine Own.bipush (pc' := 96) (v := (9 : Int32)) at_94 (by decide) rfl ?_
  refine Own.iloadN (pc' := 97) at_96 rfl rfl ?_
  refine Own.bipush (pc' := 99) (v := (8 : Int32)) at_97 (by decide) rfl ?_
  refine Own.iushr (pc' := 100) at_99 rfl fun v75 hv75 => ?_
  refine Own.i2b (pc' := 101) at_100 rfl fun v76 hv76 => ?_
  refine Own.bastore (pc' := 102) (i := 9) at_101 rfl Ah74 Ga40 (by decide) (by decide) fun h77 Wh77 Ah77 => ?_
  have Zh77 : n0 ≤ h77.size := by rw [Wh77.size]; exact Zh74
  refine Own.aload (pc' := 104) at_102 rfl rfl rfl ?_
  refine Own.bipush (pc' := 106) (v := (10 : Int32)) at_104 (by decide) rfl ?_
  refine Own.iloadN (pc' := 107) at_106 rfl rfl ?_
  refine Own.bipush (pc' := 109) (v := (16 : Int32)) at_107 (by decide) rfl ?_
  refine Own.iushr (pc' := 110) at_109 rfl fun v78 hv78 => ?_
  refine Own.i2b (pc' := 111) at_110 rfl fun v79 hv79 => ?_
  refine Own.bastore (pc' := 112) (i := 10) at_111 rfl Ah77 Ga40 (by decide) (by decide) fun h80 Wh80 Ah80 => ?_
  have Zh80 : n0 ≤ h80.size := by rw [Wh80.size]; exact Zh77
  refine Own.aload (pc' := 114) at_112 rfl rfl rfl ?_
  refine Own.bipush (pc' := 116) (v := (11 : Int32)) at_114 (by decide) rfl ?_
  refine Own.iloadN (pc' := 117) at_116 rfl rfl ?_
  refine Own.bipush (pc' := 119) (v := (24 : Int32)) at_117 (by decide) rfl ?_
  refine Own.iushr (pc' := 120) at_119 rfl fun v81 hv81 => ?_
  refine Own.i2b (pc' := 121) at_120 rfl fun v82 hv82 => ?_
  refine Own.bastore (pc' := 122) (i := 11) at_121 rfl Ah80 Ga40 (by decide) (by decide) fun h83 Wh83 Ah83 => ?_
  have Zh83 : n0 ≤ h83.size := by rw [Wh83.size]; exact Zh80
  refine Own.iloadN (pc' := 123) at_122 rfl rfl ?_
  refine Own.ldcInt (pc' := 125) (v := (2147483647 : Int32)) at_123 (hw _ (List.mem_of_getElem? (i := 1) rfl)) rfl ?_
  refine Own.iand (pc' := 126) at_125 rfl fun v84 hv84 => ?_
  refine Own.iconst (pc' := 127) (v := (3 : Int32)) at_126 (by decide) rfl ?_
  refine Own.irem (pc' := 128) at_127 (by decide) rfl fun v85 hv85 => ?_
  refine Own.istore (pc' := 130) (L1 := #[.val (.long p0), .second, .val (.int p1), .val (.int p2), .val (.ref a40), .val (.int v85), .unset, .unset, .unset, .unset, .unset, .unset, .unset, .unset, .unset, .unset, .unset, .unset, .unset, .unset, .unset, .unset]) at_128 rfl rfl ?_
  have hm31 : 0 ≤ v84.toInt := by rw [hv84, Jvm.Kit.i32_mask _ 2147483647 (k := 31) (by decide) (by decide)]; omega
  have hat : 0 ≤ v85.toInt ∧ v85.toInt < 3 := by rw [hv85, Jvm.Kit.i32_rem_nonneg hm31, show (3 : Int32).toInt = 3 by decide]; omega
  obtain ⟨t, ht⟩ : ∃ t : Nat, v85.toInt = (t : Int) := ⟨v85.toInt.toNat, by omega⟩
  refine Own.aload (pc' := 132) at_130 rfl rfl rfl ?_
  refine Own.iload (pc' := 134) at_132 rfl rfl ?_
  refine Own.bipush (pc' := 136) (v := (9 : Int32)) at_134 (by decide) rfl ?_
  refine Own.iadd (pc' := 137) at_136 rfl fun v86 hv86 => ?_
  refine Own.aload (pc' := 139) at_137 rfl rfl rfl ?_
  refine Own.iload (pc' := 141) at_139 rfl rfl ?_
  refine Own.bipush (pc' := 143) (v := (9 : Int32)) at_141 (by decide) rfl ?_
  refine Own.iadd (pc' := 144) at_143 rfl fun v87 hv87 => ?_
  refine Own.baload (pc' := 145) (i := (t + 9)) at_144 rfl Ah83 (by rw [hv87]; exact own_idx _ _ t 9 ht (by omega) (by decide) (by decide)) (by omega) ?_
  obtain ⟨v88, hv88⟩ : ∃ z, z = (ownSet (ownSet (ownSet (ownSet (ownSet (ownSet (ownSet (ownSet (ownSet (ownSet (ownSet (ownSet (fun _ => 0) 0 v43.toInt8.toInt32) 1 v47.toInt8.toInt32) 2 v51.toInt8.toInt32) 3 v55.toInt8.toInt32) 4 v59.toInt8.toInt32) 5 v63.toInt8.toInt32) 6 v67.toInt8.toInt32) 7 v71.toInt8.toInt32) 8 v73.toInt8.toInt32) 9 v76.toInt8.toInt32) 10 v79.toInt8.toInt32) 11 v82.toInt8.toInt32) (t + 9) := ⟨_, rfl⟩
  rw [← hv88]
  refine Own.iconst (pc' := 146) (v := (1 : Int32)) at_145 (by decide) rfl ?_
  refine Own.iand (pc' := 147) at_146 rfl fun v89 hv89 => ?_
  refine Own.i2b (pc' := 148) at_147 rfl fun v90 hv90 => ?_
  refine Own.bastore (pc' := 149) (i := (t + 9)) at_148 rfl Ah83 Ga40 (by rw [hv86]; exact own_idx _ _ t 9 ht (by omega) (by decide) (by decide)) (by omega) fun h91 Wh91 Ah91 => ?_
  have Zh91 : n0 ≤ h91.size := by rw [Wh91.size]; exact Zh83
  obtain ⟨g, Ag, g9⟩ : ∃ g : Nat → Int32, AB Z h91 a40 12 g ∧ 0 ≤ (g (t + 9)).toInt := ⟨_, Ah91, by
    show 0 ≤ (ownSet _ (t + 9) v90.toInt8.toInt32 (t + 9)).toInt
    unfold ownSet; rw [if_pos rfl, hv90, hv89]; exact own_low1 _⟩
  refine Own.newobj (pc' := 152) at_149 rfl (hw _ (List.mem_of_getElem? (i := 2) rfl)) (hw _ (List.mem_of_getElem? (i := 3) rfl)) (hw _ (List.mem_of_getElem? (i := 4) rfl)) (by decide) (by decide) fun a92 h93 ga92 Eh93 Xa92 Da92 => ?_
  have ne_a40_a92 : a40 ≠ a92 := Nat.ne_of_lt (ga92 ▸ (Ag).lt)
  have Ga92 : n0 ≤ a92 := by rw [ga92]; exact Zh91
  have Zh93 : n0 ≤ h93.size := Nat.le_trans Zh91 Eh93.1
  have f94 := Ag.ext Eh93
  have F_bytes_a92 : Fld Z h93 a92 "com/example/tokens_over_transports/tokensovertransports/engine/MarkingCodec$Reader" "bytes" "[B" .null := Da92 (Or.inr (hw _ (List.mem_of_getElem? (i := 12) rfl))) (ty := (.array .byte)) (by decide)
  have F_at_a92 : Fld Z h93 a92 "com/example/tokens_over_transports/tokensovertransports/engine/MarkingCodec$Reader" "at" "I" (.int (0 : Int32)) := Da92 (Or.inl (hw _ (List.mem_of_getElem? (i := 14) rfl))) (ty := .int) (by decide)
  show Go K _ _ _ _ _ _ _ _ _ 2 14 h93 152 #[.val (.long p0), .second, .val (.int p1), .val (.int p2), .val (.ref a40), .val (.int v85), .unset, .unset, .unset, .unset, .unset, .unset, .unset, .unset, .unset, .unset, .unset, .unset, .unset, .unset, .unset, .unset] [(.ref a92)]
  refine Own.dup (pc' := 153) at_152 rfl rfl ?_
  refine Own.aload (pc' := 155) at_153 rfl rfl rfl ?_
  refine Own.iload (pc' := 157) at_155 rfl rfl ?_
  refine Own.special (pc' := 160) (y := (⟨"com/example/tokens_over_transports/tokensovertransports/engine/MarkingCodec$Reader", "<init>", "([BI)V"⟩ : MethodName)) (rm' := ({ frames := 1, cells := 0, slots := 0, locals := 12 } : Room)) (W := 1) (as := [(.ref a40), (.int v85)]) (rest := [(.ref a92)]) (a := a92) at_157 rfl rfl (hw _ (List.mem_of_getElem? (i := 5) rfl)) (hw _ (List.mem_of_getElem? (i := 6) rfl)) (hw _ (List.mem_of_getElem? (i := 4) rfl)) (hw _ (List.mem_of_getElem? (i := 7) rfl)) (by decide) (c_own_rd Z a0 hw n0 h93 Zh93 a92 a40 v85 Xa92 F_bytes_a92 F_at_a92 Ga92 ) rfl rfl (lenOf pd_0 rfl) (by decide) rfl (by decide) (by decide) (by decide) fun r96 h95 qh95 => ?_
  obtain ⟨e2, Kh95, eh95, f97, f98⟩ := qh95
  subst e2
  have f99 := Xa92.keep Kh95
  have f100 := f94.keep Kh95 (ninS ne_a40_a92 nin0)
  have Zh95 : n0 ≤ h95.size := Nat.le_trans Zh93 Kh95.1
  show Go K _ _ _ _ _ _ _ _ _ 2 14 h95 160 #[.val (.long p0), .second, .val (.int p1), .val (.int p2), .val (.ref a40), .val (.int v85), .unset, .unset, .unset, .unset, .unset, .unset, .unset, .unset, .unset, .unset, .unset, .unset, .unset, .unset, .unset, .unset] [(.ref a92)]
  refine Own.astore (pc' := 162) (L1 := #[.val (.long p0), .second, .val (.int p1), .val (.int p2), .val (.ref a40), .val (.int v85), .val (.ref a92), .unset, .unset, .unset, .unset, .unset, .unset, .unset, .unset, .unset, .unset, .unset, .unset, .unset, .unset, .unset]) at_160 rfl rfl rfl ?_
  refine Own.aload (pc' := 164) at_162 rfl rfl rfl ?_
  refine Own.virtual (pc' := 167) (y := (⟨"com/example/tokens_over_transports/tokensovertransports/engine/MarkingCodec$Reader", "next", "()J"⟩ : MethodName)) (rm' := ({ frames := 0, cells := 0, slots := 0, locals := 0 } : Room)) (W := 0) (as := []) (rest := []) (a := a92) at_164 rfl (hw _ (List.mem_of_getElem? (i := 15) rfl)) (hw _ (List.mem_of_getElem? (i := 16) rfl)) (hw _ (List.mem_of_getElem? (i := 18) rfl)) (hw _ (List.mem_of_getElem? (i := 17) rfl)) (hw _ (List.mem_of_getElem? (i := 4) rfl)) (hw _ (List.mem_of_getElem? (i := 19) rfl)) (by decide) eh95 (c_own_next Z a0 hw n0 h95 Zh95 a92 a40 t (by omega) v85 ht g g9 Ga92 ne_a40_a92 f97 f98 eh95 f100) rfl rfl (lenOf pd_1 rfl) (by decide) rfl (by decide) (by decide) (by decide) fun r102 h101 qh101 => ?_
  obtain ⟨Kh101, k, v103, e2, k9, hlt, hge, eh101, fh101, hv103⟩ := qh101
  subst e2
  have f105 := eh95.keep Kh101
  have f106 := f100.keep Kh101 (ninS ne_a40_a92 nin0)
  have Zh101 : n0 ≤ h101.size := Nat.le_trans Zh95 Kh101.1
  obtain ⟨v104, hv104⟩ : ∃ z, z = own_acc g t (k + 1) := ⟨_, rfl⟩
  rw [← hv104]
  show Go K _ _ _ _ _ _ _ _ _ 2 14 h101 167 #[.val (.long p0), .second, .val (.int p1), .val (.int p2), .val (.ref a40), .val (.int v85), .val (.ref a92), .unset, .unset, .unset, .unset, .unset, .unset, .unset, .unset, .unset, .unset, .unset, .unset, .unset, .unset, .unset] [(.long v104)]
  refine Own.lstore (pc' := 169) (L1 := #[.val (.long p0), .second, .val (.int p1), .val (.int p2), .val (.ref a40), .val (.int v85), .val (.ref a92), .val (.long v104), .second, .unset, .unset, .unset, .unset, .unset, .unset, .unset, .unset, .unset, .unset, .unset, .unset, .unset]) at_167 rfl rfl ?_
  refine Own.aload (pc' := 171) at_169 rfl rfl rfl ?_
  refine Own.virtual (pc' := 174) (y := (⟨"com/example/tokens_over_transports/tokensovertransports/engine/MarkingCodec$Reader", "at", "()I"⟩ : MethodName)) (rm' := ({ frames := 0, cells := 0, slots := 0, locals := 0 } : Room)) (W := 0) (as := []) (rest := []) (a := a92) at_171 rfl (hw _ (List.mem_of_getElem? (i := 20) rfl)) (hw _ (List.mem_of_getElem? (i := 21) rfl)) (hw _ (List.mem_of_getElem? (i := 23) rfl)) (hw _ (List.mem_of_getElem? (i := 22) rfl)) (hw _ (List.mem_of_getElem? (i := 4) rfl)) (hw _ (List.mem_of_getElem? (i := 24) rfl)) (by decide) eh101 (c_own_at Z a0 hw n0 h101 Zh101 a92 v103 fh101 ) rfl rfl (lenOf pd_2 rfl) (by decide) rfl (by decide) (by decide) (by decide) fun r108 h107 qh107 => ?_
  obtain ⟨e1, v109, e2, hv109⟩ := qh107
  subst e1 e2
  show Go K _ _ _ _ _ _ _ _ _ 2 14 h101 174 #[.val (.long p0), .second, .val (.int p1), .val (.int p2), .val (.ref a40), .val (.int v85), .val (.ref a92), .val (.long v104), .second, .unset, .unset, .unset, .unset, .unset, .unset, .unset, .unset, .unset, .unset, .unset, .unset, .unset] [(.int v109)]
  refine Own.istore (pc' := 176) (L1 := #[.val (.long p0), .second, .val (.int p1), .val (.int p2), .val (.ref a40), .val (.int v85), .val (.ref a92), .val (.long v104), .second, .val (.int v109), .unset, .unset, .unset, .unset, .unset, .unset, .unset, .unset, .unset, .unset, .unset, .unset]) at_174 rfl rfl ?_
  refine Own.aload (pc' := 178) at_176 rfl rfl rfl ?_
  refine Own.iload (pc' := 180) at_178 rfl rfl ?_
  refine Own.baload (pc' := 181) (i := (t + 0)) at_180 rfl f106 ht (by omega) ?_
  obtain ⟨v110, hv110⟩ : ∃ z, z = g (t + 0) := ⟨_, rfl⟩
  rw [← hv110]
  obtain ⟨w112, hw112⟩ : ∃ w : Int32, w = (if 0 ≤ v110.toInt then (0 : Int32) else (1 : Int32)) := ⟨_, rfl⟩
  refine Own.join (pc2 := 189) (L2 := #[.val (.long p0), .second, .val (.int p1), .val (.int p2), .val (.ref a40), .val (.int v85), .val (.ref a92), .val (.long v104), .second, .val (.int v109), .unset, .unset, .unset, .unset, .unset, .unset, .unset, .unset, .unset, .unset, .unset, .unset]) (S2 := [(.int w112)]) (fun J113 => ?_) ?_
  · refine Own.if_ge (pc' := 188) (pc2 := 184) at_181 (by decide) (by decide) rfl (fun c181_110 => ?_) (fun c181_110 => ?_)
    · refine Own.iconst (pc' := 189) (v := (0 : Int32)) at_188 (by decide) rfl ?_
      try rw [if_pos c181_110] at hw112
      subst hw112
      exact J113
    · refine Own.iconst (pc' := 185) (v := (1 : Int32)) at_184 (by decide) rfl ?_
      refine Own.goto (pc' := 189) at_185 (by decide) (by decide) ?_
      try rw [if_neg c181_110] at hw112
      subst hw112
      exact J113
  have hk1 : w112 = if 1 ≤ k then 1 else 0 := by rw [hw112, hv110]; exact own_k1 k (g (t + 0)) (hlt 0) (fun q => by subst q; exact hge)
  refine Own.istore (pc' := 191) (L1 := #[.val (.long p0), .second, .val (.int p1), .val (.int p2), .val (.ref a40), .val (.int v85), .val (.ref a92), .val (.long v104), .second, .val (.int v109), .val (.int w112), .unset, .unset, .unset, .unset, .unset, .unset, .unset, .unset, .unset, .unset, .unset]) at_189 rfl rfl ?_
  refine Own.iload (pc' := 193) at_191 rfl rfl ?_
  obtain ⟨w120, hw120⟩ : ∃ w : Int32, w = (if w112 = 0 then (0 : Int32) else (if 0 ≤ (g (t + 1)).toInt then (0 : Int32) else (1 : Int32))) := ⟨_, rfl⟩
  refine Own.join (pc2 := 211) (L2 := #[.val (.long p0), .second, .val (.int p1), .val (.int p2), .val (.ref a40), .val (.int v85), .val (.ref a92), .val (.long v104), .second, .val (.int v109), .val (.int w112), .unset, .unset, .unset, .unset, .unset, .unset, .unset, .unset, .unset, .unset, .unset]) (S2 := [(.int w120)]) (fun J121 => ?_) ?_
  · refine Own.if_eq (pc' := 210) (pc2 := 196) at_193 (by decide) (by decide) rfl (fun c193_113 => ?_) (fun c193_113 => ?_)
    · refine Own.iconst (pc' := 211) (v := (0 : Int32)) at_210 (by decide) rfl ?_
      try rw [if_pos c193_113] at hw120
      subst hw120
      exact J121
    · refine Own.aload (pc' := 198) at_196 rfl rfl rfl ?_
      refine Own.iload (pc' := 200) at_198 rfl rfl ?_
      refine Own.iconst (pc' := 201) (v := (1 : Int32)) at_200 (by decide) rfl ?_
      refine Own.iadd (pc' := 202) at_201 rfl fun v122 hv122 => ?_
      refine Own.baload (pc' := 203) (i := (t + 1)) at_202 rfl f106 (by rw [hv122]; exact own_idx _ _ t 1 ht (by omega) (by decide) (by decide)) (by omega) ?_
      obtain ⟨v123, hv123⟩ : ∃ z, z = g (t + 1) := ⟨_, rfl⟩
      rw [← hv123]
      obtain ⟨w125, hw125⟩ : ∃ w : Int32, w = (if 0 ≤ v123.toInt then (0 : Int32) else (1 : Int32)) := ⟨_, rfl⟩
      refine Own.join (pc2 := 211) (L2 := #[.val (.long p0), .second, .val (.int p1), .val (.int p2), .val (.ref a40), .val (.int v85), .val (.ref a92), .val (.long v104), .second, .val (.int v109), .val (.int w112), .unset, .unset, .unset, .unset, .unset, .unset, .unset, .unset, .unset, .unset, .unset]) (S2 := [(.int w125)]) (fun J126 => ?_) ?_
      · refine Own.if_ge (pc' := 210) (pc2 := 206) at_203 (by decide) (by decide) rfl (fun c203_123 => ?_) (fun c203_123 => ?_)
        · refine Own.iconst (pc' := 211) (v := (0 : Int32)) at_210 (by decide) rfl ?_
          try rw [if_pos c203_123] at hw125
          subst hw125
          exact J126
        · refine Own.iconst (pc' := 207) (v := (1 : Int32)) at_206 (by decide) rfl ?_
          refine Own.goto (pc' := 211) at_207 (by decide) (by decide) ?_
          try rw [if_neg c203_123] at hw125
          subst hw125
          exact J126
      subst hv122 hv123 hw125
      try rw [if_neg c193_113] at hw120
      subst hw120
      exact J121
  have hk2 : w120 = if 2 ≤ k then 1 else 0 := by rw [hw120]; exact own_kstep 1 k w112 (g (t + 1)) hk1 (hlt 1) (fun q => by subst q; exact hge)
  refine Own.istore (pc' := 213) (L1 := #[.val (.long p0), .second, .val (.int p1), .val (.int p2), .val (.ref a40), .val (.int v85), .val (.ref a92), .val (.long v104), .second, .val (.int v109), .val (.int w112), .val (.int w120), .unset, .unset, .unset, .unset, .unset, .unset, .unset, .unset, .unset, .unset]) at_211 rfl rfl ?_
  refine Own.iload (pc' := 215) at_213 rfl rfl ?_
  obtain ⟨w133, hw133⟩ : ∃ w : Int32, w = (if w120 = 0 then (0 : Int32) else (if 0 ≤ (g (t + 2)).toInt then (0 : Int32) else (1 : Int32))) := ⟨_, rfl⟩
  refine Own.join (pc2 := 233) (L2 := #[.val (.long p0), .second, .val (.int p1), .val (.int p2), .val (.ref a40), .val (.int v85), .val (.ref a92), .val (.long v104), .second, .val (.int v109), .val (.int w112), .val (.int w120), .unset, .unset, .unset, .unset, .unset, .unset, .unset, .unset, .unset, .unset]) (S2 := [(.int w133)]) (fun J134 => ?_) ?_
  · refine Own.if_eq (pc' := 232) (pc2 := 218) at_215 (by decide) (by decide) rfl (fun c215_126 => ?_) (fun c215_126 => ?_)
    · refine Own.iconst (pc' := 233) (v := (0 : Int32)) at_232 (by decide) rfl ?_
      try rw [if_pos c215_126] at hw133
      subst hw133
      exact J134
    · refine Own.aload (pc' := 220) at_218 rfl rfl rfl ?_
      refine Own.iload (pc' := 222) at_220 rfl rfl ?_
      refine Own.iconst (pc' := 223) (v := (2 : Int32)) at_222 (by decide) rfl ?_
      refine Own.iadd (pc' := 224) at_223 rfl fun v135 hv135 => ?_
      refine Own.baload (pc' := 225) (i := (t + 2)) at_224 rfl f106 (by rw [hv135]; exact own_idx _ _ t 2 ht (by omega) (by decide) (by decide)) (by omega) ?_
      obtain ⟨v136, hv136⟩ : ∃ z, z = g (t + 2) := ⟨_, rfl⟩
      rw [← hv136]
      obtain ⟨w138, hw138⟩ : ∃ w : Int32, w = (if 0 ≤ v136.toInt then (0 : Int32) else (1 : Int32)) := ⟨_, rfl⟩
      refine Own.join (pc2 := 233) (L2 := #[.val (.long p0), .second, .val (.int p1), .val (.int p2), .val (.ref a40), .val (.int v85), .val (.ref a92), .val (.long v104), .second, .val (.int v109), .val (.int w112), .val (.int w120), .unset, .unset, .unset, .unset, .unset, .unset, .unset, .unset, .unset, .unset]) (S2 := [(.int w138)]) (fun J139 => ?_) ?_
      · refine Own.if_ge (pc' := 232) (pc2 := 228) at_225 (by decide) (by decide) rfl (fun c225_136 => ?_) (fun c225_136 => ?_)
        · refine Own.iconst (pc' := 233) (v := (0 : Int32)) at_232 (by decide) rfl ?_
          try rw [if_pos c225_136] at hw138
          subst hw138
          exact J139
        · refine Own.iconst (pc' := 229) (v := (1 : Int32)) at_228 (by decide) rfl ?_
          refine Own.goto (pc' := 233) at_229 (by decide) (by decide) ?_
          try rw [if_neg c225_136] at hw138
          subst hw138
          exact J139
      subst hv135 hv136 hw138
      try rw [if_neg c215_126] at hw133
      subst hw133
      exact J134
  have hk3 : w133 = if 3 ≤ k then 1 else 0 := by rw [hw133]; exact own_kstep 2 k w120 (g (t + 2)) hk2 (hlt 2) (fun q => by subst q; exact hge)
  refine Own.istore (pc' := 235) (L1 := #[.val (.long p0), .second, .val (.int p1), .val (.int p2), .val (.ref a40), .val (.int v85), .val (.ref a92), .val (.long v104), .second, .val (.int v109), .val (.int w112), .val (.int w120), .val (.int w133), .unset, .unset, .unset, .unset, .unset, .unset, .unset, .unset, .unset]) at_233 rfl rfl ?_
  refine Own.iload (pc' := 237) at_235 rfl rfl ?_
  obtain ⟨w146, hw146⟩ : ∃ w : Int32, w = (if w133 = 0 then (0 : Int32) else (if 0 ≤ (g (t + 3)).toInt then (0 : Int32) else (1 : Int32))) := ⟨_, rfl⟩
  refine Own.join (pc2 := 255) (L2 := #[.val (.long p0), .second, .val (.int p1), .val (.int p2), .val (.ref a40), .val (.int v85), .val (.ref a92), .val (.long v104), .second, .val (.int v109), .val (.int w112), .val (.int w120), .val (.int w133), .unset, .unset, .unset, .unset, .unset, .unset, .unset, .unset, .unset]) (S2 := [(.int w146)]) (fun J147 => ?_) ?_
  · refine Own.if_eq (pc' := 254) (pc2 := 240) at_237 (by decide) (by decide) rfl (fun c237_139 => ?_) (fun c237_139 => ?_)
    · refine Own.iconst (pc' := 255) (v := (0 : Int32)) at_254 (by decide) rfl ?_
      try rw [if_pos c237_139] at hw146
      subst hw146
      exact J147
    · refine Own.aload (pc' := 242) at_240 rfl rfl rfl ?_
      refine Own.iload (pc' := 244) at_242 rfl rfl ?_
      refine Own.iconst (pc' := 245) (v := (3 : Int32)) at_244 (by decide) rfl ?_
      refine Own.iadd (pc' := 246) at_245 rfl fun v148 hv148 => ?_
      refine Own.baload (pc' := 247) (i := (t + 3)) at_246 rfl f106 (by rw [hv148]; exact own_idx _ _ t 3 ht (by omega) (by decide) (by decide)) (by omega) ?_
      obtain ⟨v149, hv149⟩ : ∃ z, z = g (t + 3) := ⟨_, rfl⟩
      rw [← hv149]
      obtain ⟨w151, hw151⟩ : ∃ w : Int32, w = (if 0 ≤ v149.toInt then (0 : Int32) else (1 : Int32)) := ⟨_, rfl⟩
      refine Own.join (pc2 := 255) (L2 := #[.val (.long p0), .second, .val (.int p1), .val (.int p2), .val (.ref a40), .val (.int v85), .val (.ref a92), .val (.long v104), .second, .val (.int v109), .val (.int w112), .val (.int w120), .val (.int w133), .unset, .unset, .unset, .unset, .unset, .unset, .unset, .unset, .unset]) (S2 := [(.int w151)]) (fun J152 => ?_) ?_
      · refine Own.if_ge (pc' := 254) (pc2 := 250) at_247 (by decide) (by decide) rfl (fun c247_149 => ?_) (fun c247_149 => ?_)
        · refine Own.iconst (pc' := 255) (v := (0 : Int32)) at_254 (by decide) rfl ?_
          try rw [if_pos c247_149] at hw151
          subst hw151
          exact J152
        · refine Own.iconst (pc' := 251) (v := (1 : Int32)) at_250 (by decide) rfl ?_
          refine Own.goto (pc' := 255) at_251 (by decide) (by decide) ?_
          try rw [if_neg c247_149] at hw151
          subst hw151
          exact J152
      subst hv148 hv149 hw151
      try rw [if_neg c237_139] at hw146
      subst hw146
      exact J147
  have hk4 : w146 = if 4 ≤ k then 1 else 0 := by rw [hw146]; exact own_kstep 3 k w133 (g (t + 3)) hk3 (hlt 3) (fun q => by subst q; exact hge)
  refine Own.istore (pc' := 257) (L1 := #[.val (.long p0), .second, .val (.int p1), .val (.int p2), .val (.ref a40), .val (.int v85), .val (.ref a92), .val (.long v104), .second, .val (.int v109), .val (.int w112), .val (.int w120), .val (.int w133), .val (.int w146), .unset, .unset, .unset, .unset, .unset, .unset, .unset, .unset]) at_255 rfl rfl ?_
  refine Own.iload (pc' := 259) at_257 rfl rfl ?_
  obtain ⟨w159, hw159⟩ : ∃ w : Int32, w = (if w146 = 0 then (0 : Int32) else (if 0 ≤ (g (t + 4)).toInt then (0 : Int32) else (1 : Int32))) := ⟨_, rfl⟩
  refine Own.join (pc2 := 277) (L2 := #[.val (.long p0), .second, .val (.int p1), .val (.int p2), .val (.ref a40), .val (.int v85), .val (.ref a92), .val (.long v104), .second, .val (.int v109), .val (.int w112), .val (.int w120), .val (.int w133), .val (.int w146), .unset, .unset, .unset, .unset, .unset, .unset, .unset, .unset]) (S2 := [(.int w159)]) (fun J160 => ?_) ?_
  · refine Own.if_eq (pc' := 276) (pc2 := 262) at_259 (by decide) (by decide) rfl (fun c259_152 => ?_) (fun c259_152 => ?_)
    · refine Own.iconst (pc' := 277) (v := (0 : Int32)) at_276 (by decide) rfl ?_
      try rw [if_pos c259_152] at hw159
      subst hw159
      exact J160
    · refine Own.aload (pc' := 264) at_262 rfl rfl rfl ?_
      refine Own.iload (pc' := 266) at_264 rfl rfl ?_
      refine Own.iconst (pc' := 267) (v := (4 : Int32)) at_266 (by decide) rfl ?_
      refine Own.iadd (pc' := 268) at_267 rfl fun v161 hv161 => ?_
      refine Own.baload (pc' := 269) (i := (t + 4)) at_268 rfl f106 (by rw [hv161]; exact own_idx _ _ t 4 ht (by omega) (by decide) (by decide)) (by omega) ?_
      obtain ⟨v162, hv162⟩ : ∃ z, z = g (t + 4) := ⟨_, rfl⟩
      rw [← hv162]
      obtain ⟨w164, hw164⟩ : ∃ w : Int32, w = (if 0 ≤ v162.toInt then (0 : Int32) else (1 : Int32)) := ⟨_, rfl⟩
      refine Own.join (pc2 := 277) (L2 := #[.val (.long p0), .second, .val (.int p1), .val (.int p2), .val (.ref a40), .val (.int v85), .val (.ref a92), .val (.long v104), .second, .val (.int v109), .val (.int w112), .val (.int w120), .val (.int w133), .val (.int w146), .unset, .unset, .unset, .unset, .unset, .unset, .unset, .unset]) (S2 := [(.int w164)]) (fun J165 => ?_) ?_
      · refine Own.if_ge (pc' := 276) (pc2 := 272) at_269 (by decide) (by decide) rfl (fun c269_162 => ?_) (fun c269_162 => ?_)
        · refine Own.iconst (pc' := 277) (v := (0 : Int32)) at_276 (by decide) rfl ?_
          try rw [if_pos c269_162] at hw164
          subst hw164
          exact J165
        · refine Own.iconst (pc' := 273) (v := (1 : Int32)) at_272 (by decide) rfl ?_
          refine Own.goto (pc' := 277) at_273 (by decide) (by decide) ?_
          try rw [if_neg c269_162] at hw164
          subst hw164
          exact J165
      subst hv161 hv162 hw164
      try rw [if_neg c259_152] at hw159
      subst hw159
      exact J160
  have hk5 : w159 = if 5 ≤ k then 1 else 0 := by rw [hw159]; exact own_kstep 4 k w146 (g (t + 4)) hk4 (hlt 4) (fun q => by subst q; exact hge)
  refine Own.istore (pc' := 279) (L1 := #[.val (.long p0), .second, .val (.int p1), .val (.int p2), .val (.ref a40), .val (.int v85), .val (.ref a92), .val (.long v104), .second, .val (.int v109), .val (.int w112), .val (.int w120), .val (.int w133), .val (.int w146), .val (.int w159), .unset, .unset, .unset, .unset, .unset, .unset, .unset]) at_277 rfl rfl ?_
  refine Own.iload (pc' := 281) at_279 rfl rfl ?_
  obtain ⟨w172, hw172⟩ : ∃ w : Int32, w = (if w159 = 0 then (0 : Int32) else (if 0 ≤ (g (t + 5)).toInt then (0 : Int32) else (1 : Int32))) := ⟨_, rfl⟩
  refine Own.join (pc2 := 299) (L2 := #[.val (.long p0), .second, .val (.int p1), .val (.int p2), .val (.ref a40), .val (.int v85), .val (.ref a92), .val (.long v104), .second, .val (.int v109), .val (.int w112), .val (.int w120), .val (.int w133), .val (.int w146), .val (.int w159), .unset, .unset, .unset, .unset, .unset, .unset, .unset]) (S2 := [(.int w172)]) (fun J173 => ?_) ?_
  · refine Own.if_eq (pc' := 298) (pc2 := 284) at_281 (by decide) (by decide) rfl (fun c281_165 => ?_) (fun c281_165 => ?_)
    · refine Own.iconst (pc' := 299) (v := (0 : Int32)) at_298 (by decide) rfl ?_
      try rw [if_pos c281_165] at hw172
      subst hw172
      exact J173
    · refine Own.aload (pc' := 286) at_284 rfl rfl rfl ?_
      refine Own.iload (pc' := 288) at_286 rfl rfl ?_
      refine Own.iconst (pc' := 289) (v := (5 : Int32)) at_288 (by decide) rfl ?_
      refine Own.iadd (pc' := 290) at_289 rfl fun v174 hv174 => ?_
      refine Own.baload (pc' := 291) (i := (t + 5)) at_290 rfl f106 (by rw [hv174]; exact own_idx _ _ t 5 ht (by omega) (by decide) (by decide)) (by omega) ?_
      obtain ⟨v175, hv175⟩ : ∃ z, z = g (t + 5) := ⟨_, rfl⟩
      rw [← hv175]
      obtain ⟨w177, hw177⟩ : ∃ w : Int32, w = (if 0 ≤ v175.toInt then (0 : Int32) else (1 : Int32)) := ⟨_, rfl⟩
      refine Own.join (pc2 := 299) (L2 := #[.val (.long p0), .second, .val (.int p1), .val (.int p2), .val (.ref a40), .val (.int v85), .val (.ref a92), .val (.long v104), .second, .val (.int v109), .val (.int w112), .val (.int w120), .val (.int w133), .val (.int w146), .val (.int w159), .unset, .unset, .unset, .unset, .unset, .unset, .unset]) (S2 := [(.int w177)]) (fun J178 => ?_) ?_
      · refine Own.if_ge (pc' := 298) (pc2 := 294) at_291 (by decide) (by decide) rfl (fun c291_175 => ?_) (fun c291_175 => ?_)
        · refine Own.iconst (pc' := 299) (v := (0 : Int32)) at_298 (by decide) rfl ?_
          try rw [if_pos c291_175] at hw177
          subst hw177
          exact J178
        · refine Own.iconst (pc' := 295) (v := (1 : Int32)) at_294 (by decide) rfl ?_
          refine Own.goto (pc' := 299) at_295 (by decide) (by decide) ?_
          try rw [if_neg c291_175] at hw177
          subst hw177
          exact J178
      subst hv174 hv175 hw177
      try rw [if_neg c281_165] at hw172
      subst hw172
      exact J173
  have hk6 : w172 = if 6 ≤ k then 1 else 0 := by rw [hw172]; exact own_kstep 5 k w159 (g (t + 5)) hk5 (hlt 5) (fun q => by subst q; exact hge)
  refine Own.istore (pc' := 301) (L1 := #[.val (.long p0), .second, .val (.int p1), .val (.int p2), .val (.ref a40), .val (.int v85), .val (.ref a92), .val (.long v104), .second, .val (.int v109), .val (.int w112), .val (.int w120), .val (.int w133), .val (.int w146), .val (.int w159), .val (.int w172), .unset, .unset, .unset, .unset, .unset, .unset]) at_299 rfl rfl ?_
  refine Own.iload (pc' := 303) at_301 rfl rfl ?_
  obtain ⟨w185, hw185⟩ : ∃ w : Int32, w = (if w172 = 0 then (0 : Int32) else (if 0 ≤ (g (t + 6)).toInt then (0 : Int32) else (1 : Int32))) := ⟨_, rfl⟩
  refine Own.join (pc2 := 322) (L2 := #[.val (.long p0), .second, .val (.int p1), .val (.int p2), .val (.ref a40), .val (.int v85), .val (.ref a92), .val (.long v104), .second, .val (.int v109), .val (.int w112), .val (.int w120), .val (.int w133), .val (.int w146), .val (.int w159), .val (.int w172), .unset, .unset, .unset, .unset, .unset, .unset]) (S2 := [(.int w185)]) (fun J186 => ?_) ?_
  · refine Own.if_eq (pc' := 321) (pc2 := 306) at_303 (by decide) (by decide) rfl (fun c303_178 => ?_) (fun c303_178 => ?_)
    · refine Own.iconst (pc' := 322) (v := (0 : Int32)) at_321 (by decide) rfl ?_
      try rw [if_pos c303_178] at hw185
      subst hw185
      exact J186
    · refine Own.aload (pc' := 308) at_306 rfl rfl rfl ?_
      refine Own.iload (pc' := 310) at_308 rfl rfl ?_
      refine Own.bipush (pc' := 312) (v := (6 : Int32)) at_310 (by decide) rfl ?_
      refine Own.iadd (pc' := 313) at_312 rfl fun v187 hv187 => ?_
      refine Own.baload (pc' := 314) (i := (t + 6)) at_313 rfl f106 (by rw [hv187]; exact own_idx _ _ t 6 ht (by omega) (by decide) (by decide)) (by omega) ?_
      obtain ⟨v188, hv188⟩ : ∃ z, z = g (t + 6) := ⟨_, rfl⟩
      rw [← hv188]
      obtain ⟨w190, hw190⟩ : ∃ w : Int32, w = (if 0 ≤ v188.toInt then (0 : Int32) else (1 : Int32)) := ⟨_, rfl⟩
      refine Own.join (pc2 := 322) (L2 := #[.val (.long p0), .second, .val (.int p1), .val (.int p2), .val (.ref a40), .val (.int v85), .val (.ref a92), .val (.long v104), .second, .val (.int v109), .val (.int w112), .val (.int w120), .val (.int w133), .val (.int w146), .val (.int w159), .val (.int w172), .unset, .unset, .unset, .unset, .unset, .unset]) (S2 := [(.int w190)]) (fun J191 => ?_) ?_
      · refine Own.if_ge (pc' := 321) (pc2 := 317) at_314 (by decide) (by decide) rfl (fun c314_188 => ?_) (fun c314_188 => ?_)
        · refine Own.iconst (pc' := 322) (v := (0 : Int32)) at_321 (by decide) rfl ?_
          try rw [if_pos c314_188] at hw190
          subst hw190
          exact J191
        · refine Own.iconst (pc' := 318) (v := (1 : Int32)) at_317 (by decide) rfl ?_
          refine Own.goto (pc' := 322) at_318 (by decide) (by decide) ?_
          try rw [if_neg c314_188] at hw190
          subst hw190
          exact J191
      subst hv187 hv188 hw190
      try rw [if_neg c303_178] at hw185
      subst hw185
      exact J186
  have hk7 : w185 = if 7 ≤ k then 1 else 0 := by rw [hw185]; exact own_kstep 6 k w172 (g (t + 6)) hk6 (hlt 6) (fun q => by subst q; exact hge)
  refine Own.istore (pc' := 324) (L1 := #[.val (.long p0), .second, .val (.int p1), .val (.int p2), .val (.ref a40), .val (.int v85), .val (.ref a92), .val (.long v104), .second, .val (.int v109), .val (.int w112), .val (.int w120), .val (.int w133), .val (.int w146), .val (.int w159), .val (.int w172), .val (.int w185), .unset, .unset, .unset, .unset, .unset]) at_322 rfl rfl ?_
  refine Own.iload (pc' := 326) at_324 rfl rfl ?_
  obtain ⟨w198, hw198⟩ : ∃ w : Int32, w = (if w185 = 0 then (0 : Int32) else (if 0 ≤ (g (t + 7)).toInt then (0 : Int32) else (1 : Int32))) := ⟨_, rfl⟩
  refine Own.join (pc2 := 345) (L2 := #[.val (.long p0), .second, .val (.int p1), .val (.int p2), .val (.ref a40), .val (.int v85), .val (.ref a92), .val (.long v104), .second, .val (.int v109), .val (.int w112), .val (.int w120), .val (.int w133), .val (.int w146), .val (.int w159), .val (.int w172), .val (.int w185), .unset, .unset, .unset, .unset, .unset]) (S2 := [(.int w198)]) (fun J199 => ?_) ?_
  · refine Own.if_eq (pc' := 344) (pc2 := 329) at_326 (by decide) (by decide) rfl (fun c326_191 => ?_) (fun c326_191 => ?_)
    · refine Own.iconst (pc' := 345) (v := (0 : Int32)) at_344 (by decide) rfl ?_
      try rw [if_pos c326_191] at hw198
      subst hw198
      exact J199
    · refine Own.aload (pc' := 331) at_329 rfl rfl rfl ?_
      refine Own.iload (pc' := 333) at_331 rfl rfl ?_
      refine Own.bipush (pc' := 335) (v := (7 : Int32)) at_333 (by decide) rfl ?_
      refine Own.iadd (pc' := 336) at_335 rfl fun v200 hv200 => ?_
      refine Own.baload (pc' := 337) (i := (t + 7)) at_336 rfl f106 (by rw [hv200]; exact own_idx _ _ t 7 ht (by omega) (by decide) (by decide)) (by omega) ?_
      obtain ⟨v201, hv201⟩ : ∃ z, z = g (t + 7) := ⟨_, rfl⟩
      rw [← hv201]
      obtain ⟨w203, hw203⟩ : ∃ w : Int32, w = (if 0 ≤ v201.toInt then (0 : Int32) else (1 : Int32)) := ⟨_, rfl⟩
      refine Own.join (pc2 := 345) (L2 := #[.val (.long p0), .second, .val (.int p1), .val (.int p2), .val (.ref a40), .val (.int v85), .val (.ref a92), .val (.long v104), .second, .val (.int v109), .val (.int w112), .val (.int w120), .val (.int w133), .val (.int w146), .val (.int w159), .val (.int w172), .val (.int w185), .unset, .unset, .unset, .unset, .unset]) (S2 := [(.int w203)]) (fun J204 => ?_) ?_
      · refine Own.if_ge (pc' := 344) (pc2 := 340) at_337 (by decide) (by decide) rfl (fun c337_201 => ?_) (fun c337_201 => ?_)
        · refine Own.iconst (pc' := 345) (v := (0 : Int32)) at_344 (by decide) rfl ?_
          try rw [if_pos c337_201] at hw203
          subst hw203
          exact J204
        · refine Own.iconst (pc' := 341) (v := (1 : Int32)) at_340 (by decide) rfl ?_
          refine Own.goto (pc' := 345) at_341 (by decide) (by decide) ?_
          try rw [if_neg c337_201] at hw203
          subst hw203
          exact J204
      subst hv200 hv201 hw203
      try rw [if_neg c326_191] at hw198
      subst hw198
      exact J199
  have hk8 : w198 = if 8 ≤ k then 1 else 0 := by rw [hw198]; exact own_kstep 7 k w185 (g (t + 7)) hk7 (hlt 7) (fun q => by subst q; exact hge)
  refine Own.istore (pc' := 347) (L1 := #[.val (.long p0), .second, .val (.int p1), .val (.int p2), .val (.ref a40), .val (.int v85), .val (.ref a92), .val (.long v104), .second, .val (.int v109), .val (.int w112), .val (.int w120), .val (.int w133), .val (.int w146), .val (.int w159), .val (.int w172), .val (.int w185), .val (.int w198), .unset, .unset, .unset, .unset]) at_345 rfl rfl ?_
  refine Own.iload (pc' := 349) at_347 rfl rfl ?_
  obtain ⟨w211, hw211⟩ : ∃ w : Int32, w = (if w198 = 0 then (0 : Int32) else (if 0 ≤ (g (t + 8)).toInt then (0 : Int32) else (1 : Int32))) := ⟨_, rfl⟩
  refine Own.join (pc2 := 368) (L2 := #[.val (.long p0), .second, .val (.int p1), .val (.int p2), .val (.ref a40), .val (.int v85), .val (.ref a92), .val (.long v104), .second, .val (.int v109), .val (.int w112), .val (.int w120), .val (.int w133), .val (.int w146), .val (.int w159), .val (.int w172), .val (.int w185), .val (.int w198), .unset, .unset, .unset, .unset]) (S2 := [(.int w211)]) (fun J212 => ?_) ?_
  · refine Own.if_eq (pc' := 367) (pc2 := 352) at_349 (by decide) (by decide) rfl (fun c349_204 => ?_) (fun c349_204 => ?_)
    · refine Own.iconst (pc' := 368) (v := (0 : Int32)) at_367 (by decide) rfl ?_
      try rw [if_pos c349_204] at hw211
      subst hw211
      exact J212
    · refine Own.aload (pc' := 354) at_352 rfl rfl rfl ?_
      refine Own.iload (pc' := 356) at_354 rfl rfl ?_
      refine Own.bipush (pc' := 358) (v := (8 : Int32)) at_356 (by decide) rfl ?_
      refine Own.iadd (pc' := 359) at_358 rfl fun v213 hv213 => ?_
      refine Own.baload (pc' := 360) (i := (t + 8)) at_359 rfl f106 (by rw [hv213]; exact own_idx _ _ t 8 ht (by omega) (by decide) (by decide)) (by omega) ?_
      obtain ⟨v214, hv214⟩ : ∃ z, z = g (t + 8) := ⟨_, rfl⟩
      rw [← hv214]
      obtain ⟨w216, hw216⟩ : ∃ w : Int32, w = (if 0 ≤ v214.toInt then (0 : Int32) else (1 : Int32)) := ⟨_, rfl⟩
      refine Own.join (pc2 := 368) (L2 := #[.val (.long p0), .second, .val (.int p1), .val (.int p2), .val (.ref a40), .val (.int v85), .val (.ref a92), .val (.long v104), .second, .val (.int v109), .val (.int w112), .val (.int w120), .val (.int w133), .val (.int w146), .val (.int w159), .val (.int w172), .val (.int w185), .val (.int w198), .unset, .unset, .unset, .unset]) (S2 := [(.int w216)]) (fun J217 => ?_) ?_
      · refine Own.if_ge (pc' := 367) (pc2 := 363) at_360 (by decide) (by decide) rfl (fun c360_214 => ?_) (fun c360_214 => ?_)
        · refine Own.iconst (pc' := 368) (v := (0 : Int32)) at_367 (by decide) rfl ?_
          try rw [if_pos c360_214] at hw216
          subst hw216
          exact J217
        · refine Own.iconst (pc' := 364) (v := (1 : Int32)) at_363 (by decide) rfl ?_
          refine Own.goto (pc' := 368) at_364 (by decide) (by decide) ?_
          try rw [if_neg c360_214] at hw216
          subst hw216
          exact J217
      subst hv213 hv214 hw216
      try rw [if_neg c349_204] at hw211
      subst hw211
      exact J212
  have hk9 : w211 = if 9 ≤ k then 1 else 0 := by rw [hw211]; exact own_kstep 8 k w198 (g (t + 8)) hk8 (hlt 8) (fun q => by subst q; exact hge)
  refine Own.istore (pc' := 370) (L1 := #[.val (.long p0), .second, .val (.int p1), .val (.int p2), .val (.ref a40), .val (.int v85), .val (.ref a92), .val (.long v104), .second, .val (.int v109), .val (.int w112), .val (.int w120), .val (.int w133), .val (.int w146), .val (.int w159), .val (.int w172), .val (.int w185), .val (.int w198), .val (.int w211), .unset, .unset, .unset]) at_368 rfl rfl ?_
  refine Own.aload (pc' := 372) at_370 rfl rfl rfl ?_
  refine Own.iload (pc' := 374) at_372 rfl rfl ?_
  refine Own.iconst (pc' := 375) (v := (0 : Int32)) at_374 (by decide) rfl ?_
  refine Own.static (pc' := 378) (y := (⟨"com/example/tokens_over_transports/tokensovertransports/engine/ReaderNextPinLaw", "part", "([BII)J"⟩ : MethodName)) (rm' := ({ frames := 0, cells := 0, slots := 0, locals := 0 } : Room)) (W := 0) (as := [(.ref a40), (.int v85), (.int (0 : Int32))]) (rest := []) at_375 rfl (hw _ (List.mem_of_getElem? (i := 25) rfl)) (hw _ (List.mem_of_getElem? (i := 26) rfl)) (hw _ (List.mem_of_getElem? (i := 27) rfl)) (hw _ (List.mem_of_getElem? (i := 28) rfl)) (by decide) (c_own_part Z a0 hw n0 h101 Zh101 a40 v85 (0 : Int32)   (t + 0) (own_idx _ _ t 0 ht (by omega) (by decide) (by decide)) (by omega) g f106 _ rfl) rfl rfl (lenOf pd_3 rfl) (by decide) rfl (by decide) (by decide) (by decide) fun r219 h218 qh218 => ?_
  obtain ⟨e1, v220, e2, hv220⟩ := qh218
  subst e1 e2
  show Go K _ _ _ _ _ _ _ _ _ 2 14 h101 378 #[.val (.long p0), .second, .val (.int p1), .val (.int p2), .val (.ref a40), .val (.int v85), .val (.ref a92), .val (.long v104), .second, .val (.int v109), .val (.int w112), .val (.int w120), .val (.int w133), .val (.int w146), .val (.int w159), .val (.int w172), .val (.int w185), .val (.int w198), .val (.int w211), .unset, .unset, .unset] [(.long v220)]
  have hE0 : v220 = own_acc g t (min 1 (k + 1)) := by rw [hv220, own_partI _ _ _ g t 0 rfl (by decide), show min 1 (k + 1) = 1 by omega]; show _ = 0 ||| _; rw [Int64.zero_or]
  refine Own.iload (pc' := 380) at_378 rfl rfl ?_
  obtain ⟨w225, hw225⟩ : ∃ w : Int64, w = (if w112 = 0 then (0 : Int64) else (own_part v85 (1 : Int32) (g (t + 1)))) := ⟨_, rfl⟩
  refine Own.join (pc2 := 395) (L2 := #[.val (.long p0), .second, .val (.int p1), .val (.int p2), .val (.ref a40), .val (.int v85), .val (.ref a92), .val (.long v104), .second, .val (.int v109), .val (.int w112), .val (.int w120), .val (.int w133), .val (.int w146), .val (.int w159), .val (.int w172), .val (.int w185), .val (.int w198), .val (.int w211), .unset, .unset, .unset]) (S2 := [(.long w225), (.long v220)]) (fun J226 => ?_) ?_
  · refine Own.if_eq (pc' := 394) (pc2 := 383) at_380 (by decide) (by decide) rfl (fun c380_220 => ?_) (fun c380_220 => ?_)
    · refine Own.lconst0 (pc' := 395) at_394 rfl ?_
      try rw [if_pos c380_220] at hw225
      subst hw225
      exact J226
    · refine Own.aload (pc' := 385) at_383 rfl rfl rfl ?_
      refine Own.iload (pc' := 387) at_385 rfl rfl ?_
      refine Own.iconst (pc' := 388) (v := (1 : Int32)) at_387 (by decide) rfl ?_
      refine Own.static (pc' := 391) (y := (⟨"com/example/tokens_over_transports/tokensovertransports/engine/ReaderNextPinLaw", "part", "([BII)J"⟩ : MethodName)) (rm' := ({ frames := 0, cells := 0, slots := 0, locals := 0 } : Room)) (W := 2) (as := [(.ref a40), (.int v85), (.int (1 : Int32))]) (rest := [(.long v220)]) at_388 rfl (hw _ (List.mem_of_getElem? (i := 25) rfl)) (hw _ (List.mem_of_getElem? (i := 26) rfl)) (hw _ (List.mem_of_getElem? (i := 27) rfl)) (hw _ (List.mem_of_getElem? (i := 28) rfl)) (by decide) (c_own_part Z a0 hw n0 h101 Zh101 a40 v85 (1 : Int32)   (t + 1) (own_idx _ _ t 1 ht (by omega) (by decide) (by decide)) (by omega) g f106 _ rfl) rfl rfl (lenOf pd_3 rfl) (by decide) rfl (by decide) (by decide) (by decide) fun r228 h227 qh227 => ?_
      obtain ⟨e1, v229, e2, hv229⟩ := qh227
      subst e1 e2
      show Go K _ _ _ _ _ _ _ _ _ 2 14 h101 391 #[.val (.long p0), .second, .val (.int p1), .val (.int p2), .val (.ref a40), .val (.int v85), .val (.ref a92), .val (.long v104), .second, .val (.int v109), .val (.int w112), .val (.int w120), .val (.int w133), .val (.int w146), .val (.int w159), .val (.int w172), .val (.int w185), .val (.int w198), .val (.int w211), .unset, .unset, .unset] [(.long v229), (.long v220)]
      refine Own.goto (pc' := 395) at_391 (by decide) (by decide) ?_
      subst hv229
      try rw [if_neg c380_220] at hw225
      subst hw225
      exact J226
  refine Own.lor (pc' := 396) at_395 rfl fun v230 hv230 => ?_
  have hE1 : v230 = own_acc g t (min 2 (k + 1)) := by rw [hv230]; exact own_estep g t 1 k _ _ _ w112 hE0 hk1 (own_partI _ _ _ g t 1 rfl (by decide)) hw225
  refine Own.iload (pc' := 398) at_396 rfl rfl ?_
  obtain ⟨w235, hw235⟩ : ∃ w : Int64, w = (if w120 = 0 then (0 : Int64) else (own_part v85 (2 : Int32) (g (t + 2)))) := ⟨_, rfl⟩
  refine Own.join (pc2 := 413) (L2 := #[.val (.long p0), .second, .val (.int p1), .val (.int p2), .val (.ref a40), .val (.int v85), .val (.ref a92), .val (.long v104), .second, .val (.int v109), .val (.int w112), .val (.int w120), .val (.int w133), .val (.int w146), .val (.int w159), .val (.int w172), .val (.int w185), .val (.int w198), .val (.int w211), .unset, .unset, .unset]) (S2 := [(.long w235), (.long v230)]) (fun J236 => ?_) ?_
  · refine Own.if_eq (pc' := 412) (pc2 := 401) at_398 (by decide) (by decide) rfl (fun c398_230 => ?_) (fun c398_230 => ?_)
    · refine Own.lconst0 (pc' := 413) at_412 rfl ?_
      try rw [if_pos c398_230] at hw235
      subst hw235
      exact J236
    · refine Own.aload (pc' := 403) at_401 rfl rfl rfl ?_
      refine Own.iload (pc' := 405) at_403 rfl rfl ?_
      refine Own.iconst (pc' := 406) (v := (2 : Int32)) at_405 (by decide) rfl ?_
      refine Own.static (pc' := 409) (y := (⟨"com/example/tokens_over_transports/tokensovertransports/engine/ReaderNextPinLaw", "part", "([BII)J"⟩ : MethodName)) (rm' := ({ frames := 0, cells := 0, slots := 0, locals := 0 } : Room)) (W := 2) (as := [(.ref a40), (.int v85), (.int (2 : Int32))]) (rest := [(.long v230)]) at_406 rfl (hw _ (List.mem_of_getElem? (i := 25) rfl)) (hw _ (List.mem_of_getElem? (i := 26) rfl)) (hw _ (List.mem_of_getElem? (i := 27) rfl)) (hw _ (List.mem_of_getElem? (i := 28) rfl)) (by decide) (c_own_part Z a0 hw n0 h101 Zh101 a40 v85 (2 : Int32)   (t + 2) (own_idx _ _ t 2 ht (by omega) (by decide) (by decide)) (by omega) g f106 _ rfl) rfl rfl (lenOf pd_3 rfl) (by decide) rfl (by decide) (by decide) (by decide) fun r238 h237 qh237 => ?_
      obtain ⟨e1, v239, e2, hv239⟩ := qh237
      subst e1 e2
      show Go K _ _ _ _ _ _ _ _ _ 2 14 h101 409 #[.val (.long p0), .second, .val (.int p1), .val (.int p2), .val (.ref a40), .val (.int v85), .val (.ref a92), .val (.long v104), .second, .val (.int v109), .val (.int w112), .val (.int w120), .val (.int w133), .val (.int w146), .val (.int w159), .val (.int w172), .val (.int w185), .val (.int w198), .val (.int w211), .unset, .unset, .unset] [(.long v239), (.long v230)]
      refine Own.goto (pc' := 413) at_409 (by decide) (by decide) ?_
      subst hv239
      try rw [if_neg c398_230] at hw235
      subst hw235
      exact J236
  refine Own.lor (pc' := 414) at_413 rfl fun v240 hv240 => ?_
  have hE2 : v240 = own_acc g t (min 3 (k + 1)) := by rw [hv240]; exact own_estep g t 2 k _ _ _ w120 hE1 hk2 (own_partI _ _ _ g t 2 rfl (by decide)) hw235
  refine Own.iload (pc' := 416) at_414 rfl rfl ?_
  obtain ⟨w245, hw245⟩ : ∃ w : Int64, w = (if w133 = 0 then (0 : Int64) else (own_part v85 (3 : Int32) (g (t + 3)))) := ⟨_, rfl⟩
  refine Own.join (pc2 := 431) (L2 := #[.val (.long p0), .second, .val (.int p1), .val (.int p2), .val (.ref a40), .val (.int v85), .val (.ref a92), .val (.long v104), .second, .val (.int v109), .val (.int w112), .val (.int w120), .val (.int w133), .val (.int w146), .val (.int w159), .val (.int w172), .val (.int w185), .val (.int w198), .val (.int w211), .unset, .unset, .unset]) (S2 := [(.long w245), (.long v240)]) (fun J246 => ?_) ?_
  · refine Own.if_eq (pc' := 430) (pc2 := 419) at_416 (by decide) (by decide) rfl (fun c416_240 => ?_) (fun c416_240 => ?_)
    · refine Own.lconst0 (pc' := 431) at_430 rfl ?_
      try rw [if_pos c416_240] at hw245
      subst hw245
      exact J246
    · refine Own.aload (pc' := 421) at_419 rfl rfl rfl ?_
      refine Own.iload (pc' := 423) at_421 rfl rfl ?_
      refine Own.iconst (pc' := 424) (v := (3 : Int32)) at_423 (by decide) rfl ?_
      refine Own.static (pc' := 427) (y := (⟨"com/example/tokens_over_transports/tokensovertransports/engine/ReaderNextPinLaw", "part", "([BII)J"⟩ : MethodName)) (rm' := ({ frames := 0, cells := 0, slots := 0, locals := 0 } : Room)) (W := 2) (as := [(.ref a40), (.int v85), (.int (3 : Int32))]) (rest := [(.long v240)]) at_424 rfl (hw _ (List.mem_of_getElem? (i := 25) rfl)) (hw _ (List.mem_of_getElem? (i := 26) rfl)) (hw _ (List.mem_of_getElem? (i := 27) rfl)) (hw _ (List.mem_of_getElem? (i := 28) rfl)) (by decide) (c_own_part Z a0 hw n0 h101 Zh101 a40 v85 (3 : Int32)   (t + 3) (own_idx _ _ t 3 ht (by omega) (by decide) (by decide)) (by omega) g f106 _ rfl) rfl rfl (lenOf pd_3 rfl) (by decide) rfl (by decide) (by decide) (by decide) fun r248 h247 qh247 => ?_
      obtain ⟨e1, v249, e2, hv249⟩ := qh247
      subst e1 e2
      show Go K _ _ _ _ _ _ _ _ _ 2 14 h101 427 #[.val (.long p0), .second, .val (.int p1), .val (.int p2), .val (.ref a40), .val (.int v85), .val (.ref a92), .val (.long v104), .second, .val (.int v109), .val (.int w112), .val (.int w120), .val (.int w133), .val (.int w146), .val (.int w159), .val (.int w172), .val (.int w185), .val (.int w198), .val (.int w211), .unset, .unset, .unset] [(.long v249), (.long v240)]
      refine Own.goto (pc' := 431) at_427 (by decide) (by decide) ?_
      subst hv249
      try rw [if_neg c416_240] at hw245
      subst hw245
      exact J246
  refine Own.lor (pc' := 432) at_431 rfl fun v250 hv250 => ?_
  have hE3 : v250 = own_acc g t (min 4 (k + 1)) := by rw [hv250]; exact own_estep g t 3 k _ _ _ w133 hE2 hk3 (own_partI _ _ _ g t 3 rfl (by decide)) hw245
  refine Own.iload (pc' := 434) at_432 rfl rfl ?_
  obtain ⟨w255, hw255⟩ : ∃ w : Int64, w = (if w146 = 0 then (0 : Int64) else (own_part v85 (4 : Int32) (g (t + 4)))) := ⟨_, rfl⟩
  refine Own.join (pc2 := 449) (L2 := #[.val (.long p0), .second, .val (.int p1), .val (.int p2), .val (.ref a40), .val (.int v85), .val (.ref a92), .val (.long v104), .second, .val (.int v109), .val (.int w112), .val (.int w120), .val (.int w133), .val (.int w146), .val (.int w159), .val (.int w172), .val (.int w185), .val (.int w198), .val (.int w211), .unset, .unset, .unset]) (S2 := [(.long w255), (.long v250)]) (fun J256 => ?_) ?_
  · refine Own.if_eq (pc' := 448) (pc2 := 437) at_434 (by decide) (by decide) rfl (fun c434_250 => ?_) (fun c434_250 => ?_)
    · refine Own.lconst0 (pc' := 449) at_448 rfl ?_
      try rw [if_pos c434_250] at hw255
      subst hw255
      exact J256
    · refine Own.aload (pc' := 439) at_437 rfl rfl rfl ?_
      refine Own.iload (pc' := 441) at_439 rfl rfl ?_
      refine Own.iconst (pc' := 442) (v := (4 : Int32)) at_441 (by decide) rfl ?_
      refine Own.static (pc' := 445) (y := (⟨"com/example/tokens_over_transports/tokensovertransports/engine/ReaderNextPinLaw", "part", "([BII)J"⟩ : MethodName)) (rm' := ({ frames := 0, cells := 0, slots := 0, locals := 0 } : Room)) (W := 2) (as := [(.ref a40), (.int v85), (.int (4 : Int32))]) (rest := [(.long v250)]) at_442 rfl (hw _ (List.mem_of_getElem? (i := 25) rfl)) (hw _ (List.mem_of_getElem? (i := 26) rfl)) (hw _ (List.mem_of_getElem? (i := 27) rfl)) (hw _ (List.mem_of_getElem? (i := 28) rfl)) (by decide) (c_own_part Z a0 hw n0 h101 Zh101 a40 v85 (4 : Int32)   (t + 4) (own_idx _ _ t 4 ht (by omega) (by decide) (by decide)) (by omega) g f106 _ rfl) rfl rfl (lenOf pd_3 rfl) (by decide) rfl (by decide) (by decide) (by decide) fun r258 h257 qh257 => ?_
      obtain ⟨e1, v259, e2, hv259⟩ := qh257
      subst e1 e2
      show Go K _ _ _ _ _ _ _ _ _ 2 14 h101 445 #[.val (.long p0), .second, .val (.int p1), .val (.int p2), .val (.ref a40), .val (.int v85), .val (.ref a92), .val (.long v104), .second, .val (.int v109), .val (.int w112), .val (.int w120), .val (.int w133), .val (.int w146), .val (.int w159), .val (.int w172), .val (.int w185), .val (.int w198), .val (.int w211), .unset, .unset, .unset] [(.long v259), (.long v250)]
      refine Own.goto (pc' := 449) at_445 (by decide) (by decide) ?_
      subst hv259
      try rw [if_neg c434_250] at hw255
      subst hw255
      exact J256
  refine Own.lor (pc' := 450) at_449 rfl fun v260 hv260 => ?_
  have hE4 : v260 = own_acc g t (min 5 (k + 1)) := by rw [hv260]; exact own_estep g t 4 k _ _ _ w146 hE3 hk4 (own_partI _ _ _ g t 4 rfl (by decide)) hw255
  refine Own.iload (pc' := 452) at_450 rfl rfl ?_
  obtain ⟨w265, hw265⟩ : ∃ w : Int64, w = (if w159 = 0 then (0 : Int64) else (own_part v85 (5 : Int32) (g (t + 5)))) := ⟨_, rfl⟩
  refine Own.join (pc2 := 467) (L2 := #[.val (.long p0), .second, .val (.int p1), .val (.int p2), .val (.ref a40), .val (.int v85), .val (.ref a92), .val (.long v104), .second, .val (.int v109), .val (.int w112), .val (.int w120), .val (.int w133), .val (.int w146), .val (.int w159), .val (.int w172), .val (.int w185), .val (.int w198), .val (.int w211), .unset, .unset, .unset]) (S2 := [(.long w265), (.long v260)]) (fun J266 => ?_) ?_
  · refine Own.if_eq (pc' := 466) (pc2 := 455) at_452 (by decide) (by decide) rfl (fun c452_260 => ?_) (fun c452_260 => ?_)
    · refine Own.lconst0 (pc' := 467) at_466 rfl ?_
      try rw [if_pos c452_260] at hw265
      subst hw265
      exact J266
    · refine Own.aload (pc' := 457) at_455 rfl rfl rfl ?_
      refine Own.iload (pc' := 459) at_457 rfl rfl ?_
      refine Own.iconst (pc' := 460) (v := (5 : Int32)) at_459 (by decide) rfl ?_
      refine Own.static (pc' := 463) (y := (⟨"com/example/tokens_over_transports/tokensovertransports/engine/ReaderNextPinLaw", "part", "([BII)J"⟩ : MethodName)) (rm' := ({ frames := 0, cells := 0, slots := 0, locals := 0 } : Room)) (W := 2) (as := [(.ref a40), (.int v85), (.int (5 : Int32))]) (rest := [(.long v260)]) at_460 rfl (hw _ (List.mem_of_getElem? (i := 25) rfl)) (hw _ (List.mem_of_getElem? (i := 26) rfl)) (hw _ (List.mem_of_getElem? (i := 27) rfl)) (hw _ (List.mem_of_getElem? (i := 28) rfl)) (by decide) (c_own_part Z a0 hw n0 h101 Zh101 a40 v85 (5 : Int32)   (t + 5) (own_idx _ _ t 5 ht (by omega) (by decide) (by decide)) (by omega) g f106 _ rfl) rfl rfl (lenOf pd_3 rfl) (by decide) rfl (by decide) (by decide) (by decide) fun r268 h267 qh267 => ?_
      obtain ⟨e1, v269, e2, hv269⟩ := qh267
      subst e1 e2
      show Go K _ _ _ _ _ _ _ _ _ 2 14 h101 463 #[.val (.long p0), .second, .val (.int p1), .val (.int p2), .val (.ref a40), .val (.int v85), .val (.ref a92), .val (.long v104), .second, .val (.int v109), .val (.int w112), .val (.int w120), .val (.int w133), .val (.int w146), .val (.int w159), .val (.int w172), .val (.int w185), .val (.int w198), .val (.int w211), .unset, .unset, .unset] [(.long v269), (.long v260)]
      refine Own.goto (pc' := 467) at_463 (by decide) (by decide) ?_
      subst hv269
      try rw [if_neg c452_260] at hw265
      subst hw265
      exact J266
  refine Own.lor (pc' := 468) at_467 rfl fun v270 hv270 => ?_
  have hE5 : v270 = own_acc g t (min 6 (k + 1)) := by rw [hv270]; exact own_estep g t 5 k _ _ _ w159 hE4 hk5 (own_partI _ _ _ g t 5 rfl (by decide)) hw265
  refine Own.iload (pc' := 470) at_468 rfl rfl ?_
  obtain ⟨w275, hw275⟩ : ∃ w : Int64, w = (if w172 = 0 then (0 : Int64) else (own_part v85 (6 : Int32) (g (t + 6)))) := ⟨_, rfl⟩
  refine Own.join (pc2 := 486) (L2 := #[.val (.long p0), .second, .val (.int p1), .val (.int p2), .val (.ref a40), .val (.int v85), .val (.ref a92), .val (.long v104), .second, .val (.int v109), .val (.int w112), .val (.int w120), .val (.int w133), .val (.int w146), .val (.int w159), .val (.int w172), .val (.int w185), .val (.int w198), .val (.int w211), .unset, .unset, .unset]) (S2 := [(.long w275), (.long v270)]) (fun J276 => ?_) ?_
  · refine Own.if_eq (pc' := 485) (pc2 := 473) at_470 (by decide) (by decide) rfl (fun c470_270 => ?_) (fun c470_270 => ?_)
    · refine Own.lconst0 (pc' := 486) at_485 rfl ?_
      try rw [if_pos c470_270] at hw275
      subst hw275
      exact J276
    · refine Own.aload (pc' := 475) at_473 rfl rfl rfl ?_
      refine Own.iload (pc' := 477) at_475 rfl rfl ?_
      refine Own.bipush (pc' := 479) (v := (6 : Int32)) at_477 (by decide) rfl ?_
      refine Own.static (pc' := 482) (y := (⟨"com/example/tokens_over_transports/tokensovertransports/engine/ReaderNextPinLaw", "part", "([BII)J"⟩ : MethodName)) (rm' := ({ frames := 0, cells := 0, slots := 0, locals := 0 } : Room)) (W := 2) (as := [(.ref a40), (.int v85), (.int (6 : Int32))]) (rest := [(.long v270)]) at_479 rfl (hw _ (List.mem_of_getElem? (i := 25) rfl)) (hw _ (List.mem_of_getElem? (i := 26) rfl)) (hw _ (List.mem_of_getElem? (i := 27) rfl)) (hw _ (List.mem_of_getElem? (i := 28) rfl)) (by decide) (c_own_part Z a0 hw n0 h101 Zh101 a40 v85 (6 : Int32)   (t + 6) (own_idx _ _ t 6 ht (by omega) (by decide) (by decide)) (by omega) g f106 _ rfl) rfl rfl (lenOf pd_3 rfl) (by decide) rfl (by decide) (by decide) (by decide) fun r278 h277 qh277 => ?_
      obtain ⟨e1, v279, e2, hv279⟩ := qh277
      subst e1 e2
      show Go K _ _ _ _ _ _ _ _ _ 2 14 h101 482 #[.val (.long p0), .second, .val (.int p1), .val (.int p2), .val (.ref a40), .val (.int v85), .val (.ref a92), .val (.long v104), .second, .val (.int v109), .val (.int w112), .val (.int w120), .val (.int w133), .val (.int w146), .val (.int w159), .val (.int w172), .val (.int w185), .val (.int w198), .val (.int w211), .unset, .unset, .unset] [(.long v279), (.long v270)]
      refine Own.goto (pc' := 486) at_482 (by decide) (by decide) ?_
      subst hv279
      try rw [if_neg c470_270] at hw275
      subst hw275
      exact J276
  refine Own.lor (pc' := 487) at_486 rfl fun v280 hv280 => ?_
  have hE6 : v280 = own_acc g t (min 7 (k + 1)) := by rw [hv280]; exact own_estep g t 6 k _ _ _ w172 hE5 hk6 (own_partI _ _ _ g t 6 rfl (by decide)) hw275
  refine Own.iload (pc' := 489) at_487 rfl rfl ?_
  obtain ⟨w285, hw285⟩ : ∃ w : Int64, w = (if w185 = 0 then (0 : Int64) else (own_part v85 (7 : Int32) (g (t + 7)))) := ⟨_, rfl⟩
  refine Own.join (pc2 := 505) (L2 := #[.val (.long p0), .second, .val (.int p1), .val (.int p2), .val (.ref a40), .val (.int v85), .val (.ref a92), .val (.long v104), .second, .val (.int v109), .val (.int w112), .val (.int w120), .val (.int w133), .val (.int w146), .val (.int w159), .val (.int w172), .val (.int w185), .val (.int w198), .val (.int w211), .unset, .unset, .unset]) (S2 := [(.long w285), (.long v280)]) (fun J286 => ?_) ?_
  · refine Own.if_eq (pc' := 504) (pc2 := 492) at_489 (by decide) (by decide) rfl (fun c489_280 => ?_) (fun c489_280 => ?_)
    · refine Own.lconst0 (pc' := 505) at_504 rfl ?_
      try rw [if_pos c489_280] at hw285
      subst hw285
      exact J286
    · refine Own.aload (pc' := 494) at_492 rfl rfl rfl ?_
      refine Own.iload (pc' := 496) at_494 rfl rfl ?_
      refine Own.bipush (pc' := 498) (v := (7 : Int32)) at_496 (by decide) rfl ?_
      refine Own.static (pc' := 501) (y := (⟨"com/example/tokens_over_transports/tokensovertransports/engine/ReaderNextPinLaw", "part", "([BII)J"⟩ : MethodName)) (rm' := ({ frames := 0, cells := 0, slots := 0, locals := 0 } : Room)) (W := 2) (as := [(.ref a40), (.int v85), (.int (7 : Int32))]) (rest := [(.long v280)]) at_498 rfl (hw _ (List.mem_of_getElem? (i := 25) rfl)) (hw _ (List.mem_of_getElem? (i := 26) rfl)) (hw _ (List.mem_of_getElem? (i := 27) rfl)) (hw _ (List.mem_of_getElem? (i := 28) rfl)) (by decide) (c_own_part Z a0 hw n0 h101 Zh101 a40 v85 (7 : Int32)   (t + 7) (own_idx _ _ t 7 ht (by omega) (by decide) (by decide)) (by omega) g f106 _ rfl) rfl rfl (lenOf pd_3 rfl) (by decide) rfl (by decide) (by decide) (by decide) fun r288 h287 qh287 => ?_
      obtain ⟨e1, v289, e2, hv289⟩ := qh287
      subst e1 e2
      show Go K _ _ _ _ _ _ _ _ _ 2 14 h101 501 #[.val (.long p0), .second, .val (.int p1), .val (.int p2), .val (.ref a40), .val (.int v85), .val (.ref a92), .val (.long v104), .second, .val (.int v109), .val (.int w112), .val (.int w120), .val (.int w133), .val (.int w146), .val (.int w159), .val (.int w172), .val (.int w185), .val (.int w198), .val (.int w211), .unset, .unset, .unset] [(.long v289), (.long v280)]
      refine Own.goto (pc' := 505) at_501 (by decide) (by decide) ?_
      subst hv289
      try rw [if_neg c489_280] at hw285
      subst hw285
      exact J286
  refine Own.lor (pc' := 506) at_505 rfl fun v290 hv290 => ?_
  have hE7 : v290 = own_acc g t (min 8 (k + 1)) := by rw [hv290]; exact own_estep g t 7 k _ _ _ w185 hE6 hk7 (own_partI _ _ _ g t 7 rfl (by decide)) hw285
  refine Own.iload (pc' := 508) at_506 rfl rfl ?_
  obtain ⟨w295, hw295⟩ : ∃ w : Int64, w = (if w198 = 0 then (0 : Int64) else (own_part v85 (8 : Int32) (g (t + 8)))) := ⟨_, rfl⟩
  refine Own.join (pc2 := 524) (L2 := #[.val (.long p0), .second, .val (.int p1), .val (.int p2), .val (.ref a40), .val (.int v85), .val (.ref a92), .val (.long v104), .second, .val (.int v109), .val (.int w112), .val (.int w120), .val (.int w133), .val (.int w146), .val (.int w159), .val (.int w172), .val (.int w185), .val (.int w198), .val (.int w211), .unset, .unset, .unset]) (S2 := [(.long w295), (.long v290)]) (fun J296 => ?_) ?_
  · refine Own.if_eq (pc' := 523) (pc2 := 511) at_508 (by decide) (by decide) rfl (fun c508_290 => ?_) (fun c508_290 => ?_)
    · refine Own.lconst0 (pc' := 524) at_523 rfl ?_
      try rw [if_pos c508_290] at hw295
      subst hw295
      exact J296
    · refine Own.aload (pc' := 513) at_511 rfl rfl rfl ?_
      refine Own.iload (pc' := 515) at_513 rfl rfl ?_
      refine Own.bipush (pc' := 517) (v := (8 : Int32)) at_515 (by decide) rfl ?_
      refine Own.static (pc' := 520) (y := (⟨"com/example/tokens_over_transports/tokensovertransports/engine/ReaderNextPinLaw", "part", "([BII)J"⟩ : MethodName)) (rm' := ({ frames := 0, cells := 0, slots := 0, locals := 0 } : Room)) (W := 2) (as := [(.ref a40), (.int v85), (.int (8 : Int32))]) (rest := [(.long v290)]) at_517 rfl (hw _ (List.mem_of_getElem? (i := 25) rfl)) (hw _ (List.mem_of_getElem? (i := 26) rfl)) (hw _ (List.mem_of_getElem? (i := 27) rfl)) (hw _ (List.mem_of_getElem? (i := 28) rfl)) (by decide) (c_own_part Z a0 hw n0 h101 Zh101 a40 v85 (8 : Int32)   (t + 8) (own_idx _ _ t 8 ht (by omega) (by decide) (by decide)) (by omega) g f106 _ rfl) rfl rfl (lenOf pd_3 rfl) (by decide) rfl (by decide) (by decide) (by decide) fun r298 h297 qh297 => ?_
      obtain ⟨e1, v299, e2, hv299⟩ := qh297
      subst e1 e2
      show Go K _ _ _ _ _ _ _ _ _ 2 14 h101 520 #[.val (.long p0), .second, .val (.int p1), .val (.int p2), .val (.ref a40), .val (.int v85), .val (.ref a92), .val (.long v104), .second, .val (.int v109), .val (.int w112), .val (.int w120), .val (.int w133), .val (.int w146), .val (.int w159), .val (.int w172), .val (.int w185), .val (.int w198), .val (.int w211), .unset, .unset, .unset] [(.long v299), (.long v290)]
      refine Own.goto (pc' := 524) at_520 (by decide) (by decide) ?_
      subst hv299
      try rw [if_neg c508_290] at hw295
      subst hw295
      exact J296
  refine Own.lor (pc' := 525) at_524 rfl fun v300 hv300 => ?_
  have hE8 : v300 = own_acc g t (min 9 (k + 1)) := by rw [hv300]; exact own_estep g t 8 k _ _ _ w198 hE7 hk8 (own_partI _ _ _ g t 8 rfl (by decide)) hw295
  refine Own.iload (pc' := 527) at_525 rfl rfl ?_
  obtain ⟨w305, hw305⟩ : ∃ w : Int64, w = (if w211 = 0 then (0 : Int64) else (own_part v85 (9 : Int32) (g (t + 9)))) := ⟨_, rfl⟩
  refine Own.join (pc2 := 543) (L2 := #[.val (.long p0), .second, .val (.int p1), .val (.int p2), .val (.ref a40), .val (.int v85), .val (.ref a92), .val (.long v104), .second, .val (.int v109), .val (.int w112), .val (.int w120), .val (.int w133), .val (.int w146), .val (.int w159), .val (.int w172), .val (.int w185), .val (.int w198), .val (.int w211), .unset, .unset, .unset]) (S2 := [(.long w305), (.long v300)]) (fun J306 => ?_) ?_
  · refine Own.if_eq (pc' := 542) (pc2 := 530) at_527 (by decide) (by decide) rfl (fun c527_300 => ?_) (fun c527_300 => ?_)
    · refine Own.lconst0 (pc' := 543) at_542 rfl ?_
      try rw [if_pos c527_300] at hw305
      subst hw305
      exact J306
    · refine Own.aload (pc' := 532) at_530 rfl rfl rfl ?_
      refine Own.iload (pc' := 534) at_532 rfl rfl ?_
      refine Own.bipush (pc' := 536) (v := (9 : Int32)) at_534 (by decide) rfl ?_
      refine Own.static (pc' := 539) (y := (⟨"com/example/tokens_over_transports/tokensovertransports/engine/ReaderNextPinLaw", "part", "([BII)J"⟩ : MethodName)) (rm' := ({ frames := 0, cells := 0, slots := 0, locals := 0 } : Room)) (W := 2) (as := [(.ref a40), (.int v85), (.int (9 : Int32))]) (rest := [(.long v300)]) at_536 rfl (hw _ (List.mem_of_getElem? (i := 25) rfl)) (hw _ (List.mem_of_getElem? (i := 26) rfl)) (hw _ (List.mem_of_getElem? (i := 27) rfl)) (hw _ (List.mem_of_getElem? (i := 28) rfl)) (by decide) (c_own_part Z a0 hw n0 h101 Zh101 a40 v85 (9 : Int32)   (t + 9) (own_idx _ _ t 9 ht (by omega) (by decide) (by decide)) (by omega) g f106 _ rfl) rfl rfl (lenOf pd_3 rfl) (by decide) rfl (by decide) (by decide) (by decide) fun r308 h307 qh307 => ?_
      obtain ⟨e1, v309, e2, hv309⟩ := qh307
      subst e1 e2
      show Go K _ _ _ _ _ _ _ _ _ 2 14 h101 539 #[.val (.long p0), .second, .val (.int p1), .val (.int p2), .val (.ref a40), .val (.int v85), .val (.ref a92), .val (.long v104), .second, .val (.int v109), .val (.int w112), .val (.int w120), .val (.int w133), .val (.int w146), .val (.int w159), .val (.int w172), .val (.int w185), .val (.int w198), .val (.int w211), .unset, .unset, .unset] [(.long v309), (.long v300)]
      refine Own.goto (pc' := 543) at_539 (by decide) (by decide) ?_
      subst hv309
      try rw [if_neg c527_300] at hw305
      subst hw305
      exact J306
  refine Own.lor (pc' := 544) at_543 rfl fun v310 hv310 => ?_
  have hE9 : v310 = own_acc g t (min 10 (k + 1)) := by rw [hv310]; exact own_estep g t 9 k _ _ _ w211 hE8 hk9 (own_partI _ _ _ g t 9 rfl (by decide)) hw305
  refine Own.lstore (pc' := 546) (L1 := #[.val (.long p0), .second, .val (.int p1), .val (.int p2), .val (.ref a40), .val (.int v85), .val (.ref a92), .val (.long v104), .second, .val (.int v109), .val (.int w112), .val (.int w120), .val (.int w133), .val (.int w146), .val (.int w159), .val (.int w172), .val (.int w185), .val (.int w198), .val (.int w211), .val (.long v310), .second, .unset]) at_544 rfl rfl ?_
  refine Own.iconst (pc' := 547) (v := (1 : Int32)) at_546 (by decide) rfl ?_
  refine Own.iload (pc' := 549) at_547 rfl rfl ?_
  obtain ⟨w312, hw312⟩ : ∃ w : Int32, w = (if w112 = 0 then (0 : Int32) else (1 : Int32)) := ⟨_, rfl⟩
  refine Own.join (pc2 := 557) (L2 := #[.val (.long p0), .second, .val (.int p1), .val (.int p2), .val (.ref a40), .val (.int v85), .val (.ref a92), .val (.long v104), .second, .val (.int v109), .val (.int w112), .val (.int w120), .val (.int w133), .val (.int w146), .val (.int w159), .val (.int w172), .val (.int w185), .val (.int w198), .val (.int w211), .val (.long v310), .second, .unset]) (S2 := [(.int w312), (.int (1 : Int32))]) (fun J313 => ?_) ?_
  · refine Own.if_eq (pc' := 556) (pc2 := 552) at_549 (by decide) (by decide) rfl (fun c549_310 => ?_) (fun c549_310 => ?_)
    · refine Own.iconst (pc' := 557) (v := (0 : Int32)) at_556 (by decide) rfl ?_
      try rw [if_pos c549_310] at hw312
      subst hw312
      exact J313
    · refine Own.iconst (pc' := 553) (v := (1 : Int32)) at_552 (by decide) rfl ?_
      refine Own.goto (pc' := 557) at_553 (by decide) (by decide) ?_
      try rw [if_neg c549_310] at hw312
      subst hw312
      exact J313
  refine Own.iadd (pc' := 558) at_557 rfl fun v314 hv314 => ?_
  have hN1 : v314.toInt = ((min 1 k : Nat) : Int) + 1 := by rw [hv314]; exact own_nstep 1 k _ _ w112 (by decide) (by simp) (by decide) hk1 hw312
  refine Own.iload (pc' := 560) at_558 rfl rfl ?_
  obtain ⟨w316, hw316⟩ : ∃ w : Int32, w = (if w120 = 0 then (0 : Int32) else (1 : Int32)) := ⟨_, rfl⟩
  refine Own.join (pc2 := 568) (L2 := #[.val (.long p0), .second, .val (.int p1), .val (.int p2), .val (.ref a40), .val (.int v85), .val (.ref a92), .val (.long v104), .second, .val (.int v109), .val (.int w112), .val (.int w120), .val (.int w133), .val (.int w146), .val (.int w159), .val (.int w172), .val (.int w185), .val (.int w198), .val (.int w211), .val (.long v310), .second, .unset]) (S2 := [(.int w316), (.int v314)]) (fun J317 => ?_) ?_
  · refine Own.if_eq (pc' := 567) (pc2 := 563) at_560 (by decide) (by decide) rfl (fun c560_314 => ?_) (fun c560_314 => ?_)
    · refine Own.iconst (pc' := 568) (v := (0 : Int32)) at_567 (by decide) rfl ?_
      try rw [if_pos c560_314] at hw316
      subst hw316
      exact J317
    · refine Own.iconst (pc' := 564) (v := (1 : Int32)) at_563 (by decide) rfl ?_
      refine Own.goto (pc' := 568) at_564 (by decide) (by decide) ?_
      try rw [if_neg c560_314] at hw316
      subst hw316
      exact J317
  refine Own.iadd (pc' := 569) at_568 rfl fun v318 hv318 => ?_
  have hN2 : v318.toInt = ((min 2 k : Nat) : Int) + 1 := by rw [hv318]; exact own_nstep 2 k _ _ w120 (by decide) hN1 (by decide) hk2 hw316
  refine Own.iload (pc' := 571) at_569 rfl rfl ?_
  obtain ⟨w320, hw320⟩ : ∃ w : Int32, w = (if w133 = 0 then (0 : Int32) else (1 : Int32)) := ⟨_, rfl⟩
  refine Own.join (pc2 := 579) (L2 := #[.val (.long p0), .second, .val (.int p1), .val (.int p2), .val (.ref a40), .val (.int v85), .val (.ref a92), .val (.long v104), .second, .val (.int v109), .val (.int w112), .val (.int w120), .val (.int w133), .val (.int w146), .val (.int w159), .val (.int w172), .val (.int w185), .val (.int w198), .val (.int w211), .val (.long v310), .second, .unset]) (S2 := [(.int w320), (.int v318)]) (fun J321 => ?_) ?_
  · refine Own.if_eq (pc' := 578) (pc2 := 574) at_571 (by decide) (by decide) rfl (fun c571_318 => ?_) (fun c571_318 => ?_)
    · refine Own.iconst (pc' := 579) (v := (0 : Int32)) at_578 (by decide) rfl ?_
      try rw [if_pos c571_318] at hw320
      subst hw320
      exact J321
    · refine Own.iconst (pc' := 575) (v := (1 : Int32)) at_574 (by decide) rfl ?_
      refine Own.goto (pc' := 579) at_575 (by decide) (by decide) ?_
      try rw [if_neg c571_318] at hw320
      subst hw320
      exact J321
  refine Own.iadd (pc' := 580) at_579 rfl fun v322 hv322 => ?_
  have hN3 : v322.toInt = ((min 3 k : Nat) : Int) + 1 := by rw [hv322]; exact own_nstep 3 k _ _ w133 (by decide) hN2 (by decide) hk3 hw320
  refine Own.iload (pc' := 582) at_580 rfl rfl ?_
  obtain ⟨w324, hw324⟩ : ∃ w : Int32, w = (if w146 = 0 then (0 : Int32) else (1 : Int32)) := ⟨_, rfl⟩
  refine Own.join (pc2 := 590) (L2 := #[.val (.long p0), .second, .val (.int p1), .val (.int p2), .val (.ref a40), .val (.int v85), .val (.ref a92), .val (.long v104), .second, .val (.int v109), .val (.int w112), .val (.int w120), .val (.int w133), .val (.int w146), .val (.int w159), .val (.int w172), .val (.int w185), .val (.int w198), .val (.int w211), .val (.long v310), .second, .unset]) (S2 := [(.int w324), (.int v322)]) (fun J325 => ?_) ?_
  · refine Own.if_eq (pc' := 589) (pc2 := 585) at_582 (by decide) (by decide) rfl (fun c582_322 => ?_) (fun c582_322 => ?_)
    · refine Own.iconst (pc' := 590) (v := (0 : Int32)) at_589 (by decide) rfl ?_
      try rw [if_pos c582_322] at hw324
      subst hw324
      exact J325
    · refine Own.iconst (pc' := 586) (v := (1 : Int32)) at_585 (by decide) rfl ?_
      refine Own.goto (pc' := 590) at_586 (by decide) (by decide) ?_
      try rw [if_neg c582_322] at hw324
      subst hw324
      exact J325
  refine Own.iadd (pc' := 591) at_590 rfl fun v326 hv326 => ?_
  have hN4 : v326.toInt = ((min 4 k : Nat) : Int) + 1 := by rw [hv326]; exact own_nstep 4 k _ _ w146 (by decide) hN3 (by decide) hk4 hw324
  refine Own.iload (pc' := 593) at_591 rfl rfl ?_
  obtain ⟨w328, hw328⟩ : ∃ w : Int32, w = (if w159 = 0 then (0 : Int32) else (1 : Int32)) := ⟨_, rfl⟩
  refine Own.join (pc2 := 601) (L2 := #[.val (.long p0), .second, .val (.int p1), .val (.int p2), .val (.ref a40), .val (.int v85), .val (.ref a92), .val (.long v104), .second, .val (.int v109), .val (.int w112), .val (.int w120), .val (.int w133), .val (.int w146), .val (.int w159), .val (.int w172), .val (.int w185), .val (.int w198), .val (.int w211), .val (.long v310), .second, .unset]) (S2 := [(.int w328), (.int v326)]) (fun J329 => ?_) ?_
  · refine Own.if_eq (pc' := 600) (pc2 := 596) at_593 (by decide) (by decide) rfl (fun c593_326 => ?_) (fun c593_326 => ?_)
    · refine Own.iconst (pc' := 601) (v := (0 : Int32)) at_600 (by decide) rfl ?_
      try rw [if_pos c593_326] at hw328
      subst hw328
      exact J329
    · refine Own.iconst (pc' := 597) (v := (1 : Int32)) at_596 (by decide) rfl ?_
      refine Own.goto (pc' := 601) at_597 (by decide) (by decide) ?_
      try rw [if_neg c593_326] at hw328
      subst hw328
      exact J329
  refine Own.iadd (pc' := 602) at_601 rfl fun v330 hv330 => ?_
  have hN5 : v330.toInt = ((min 5 k : Nat) : Int) + 1 := by rw [hv330]; exact own_nstep 5 k _ _ w159 (by decide) hN4 (by decide) hk5 hw328
  refine Own.iload (pc' := 604) at_602 rfl rfl ?_
  obtain ⟨w332, hw332⟩ : ∃ w : Int32, w = (if w172 = 0 then (0 : Int32) else (1 : Int32)) := ⟨_, rfl⟩
  refine Own.join (pc2 := 612) (L2 := #[.val (.long p0), .second, .val (.int p1), .val (.int p2), .val (.ref a40), .val (.int v85), .val (.ref a92), .val (.long v104), .second, .val (.int v109), .val (.int w112), .val (.int w120), .val (.int w133), .val (.int w146), .val (.int w159), .val (.int w172), .val (.int w185), .val (.int w198), .val (.int w211), .val (.long v310), .second, .unset]) (S2 := [(.int w332), (.int v330)]) (fun J333 => ?_) ?_
  · refine Own.if_eq (pc' := 611) (pc2 := 607) at_604 (by decide) (by decide) rfl (fun c604_330 => ?_) (fun c604_330 => ?_)
    · refine Own.iconst (pc' := 612) (v := (0 : Int32)) at_611 (by decide) rfl ?_
      try rw [if_pos c604_330] at hw332
      subst hw332
      exact J333
    · refine Own.iconst (pc' := 608) (v := (1 : Int32)) at_607 (by decide) rfl ?_
      refine Own.goto (pc' := 612) at_608 (by decide) (by decide) ?_
      try rw [if_neg c604_330] at hw332
      subst hw332
      exact J333
  refine Own.iadd (pc' := 613) at_612 rfl fun v334 hv334 => ?_
  have hN6 : v334.toInt = ((min 6 k : Nat) : Int) + 1 := by rw [hv334]; exact own_nstep 6 k _ _ w172 (by decide) hN5 (by decide) hk6 hw332
  refine Own.iload (pc' := 615) at_613 rfl rfl ?_
  obtain ⟨w336, hw336⟩ : ∃ w : Int32, w = (if w185 = 0 then (0 : Int32) else (1 : Int32)) := ⟨_, rfl⟩
  refine Own.join (pc2 := 623) (L2 := #[.val (.long p0), .second, .val (.int p1), .val (.int p2), .val (.ref a40), .val (.int v85), .val (.ref a92), .val (.long v104), .second, .val (.int v109), .val (.int w112), .val (.int w120), .val (.int w133), .val (.int w146), .val (.int w159), .val (.int w172), .val (.int w185), .val (.int w198), .val (.int w211), .val (.long v310), .second, .unset]) (S2 := [(.int w336), (.int v334)]) (fun J337 => ?_) ?_
  · refine Own.if_eq (pc' := 622) (pc2 := 618) at_615 (by decide) (by decide) rfl (fun c615_334 => ?_) (fun c615_334 => ?_)
    · refine Own.iconst (pc' := 623) (v := (0 : Int32)) at_622 (by decide) rfl ?_
      try rw [if_pos c615_334] at hw336
      subst hw336
      exact J337
    · refine Own.iconst (pc' := 619) (v := (1 : Int32)) at_618 (by decide) rfl ?_
      refine Own.goto (pc' := 623) at_619 (by decide) (by decide) ?_
      try rw [if_neg c615_334] at hw336
      subst hw336
      exact J337
  refine Own.iadd (pc' := 624) at_623 rfl fun v338 hv338 => ?_
  have hN7 : v338.toInt = ((min 7 k : Nat) : Int) + 1 := by rw [hv338]; exact own_nstep 7 k _ _ w185 (by decide) hN6 (by decide) hk7 hw336
  refine Own.iload (pc' := 626) at_624 rfl rfl ?_
  obtain ⟨w340, hw340⟩ : ∃ w : Int32, w = (if w198 = 0 then (0 : Int32) else (1 : Int32)) := ⟨_, rfl⟩
  refine Own.join (pc2 := 634) (L2 := #[.val (.long p0), .second, .val (.int p1), .val (.int p2), .val (.ref a40), .val (.int v85), .val (.ref a92), .val (.long v104), .second, .val (.int v109), .val (.int w112), .val (.int w120), .val (.int w133), .val (.int w146), .val (.int w159), .val (.int w172), .val (.int w185), .val (.int w198), .val (.int w211), .val (.long v310), .second, .unset]) (S2 := [(.int w340), (.int v338)]) (fun J341 => ?_) ?_
  · refine Own.if_eq (pc' := 633) (pc2 := 629) at_626 (by decide) (by decide) rfl (fun c626_338 => ?_) (fun c626_338 => ?_)
    · refine Own.iconst (pc' := 634) (v := (0 : Int32)) at_633 (by decide) rfl ?_
      try rw [if_pos c626_338] at hw340
      subst hw340
      exact J341
    · refine Own.iconst (pc' := 630) (v := (1 : Int32)) at_629 (by decide) rfl ?_
      refine Own.goto (pc' := 634) at_630 (by decide) (by decide) ?_
      try rw [if_neg c626_338] at hw340
      subst hw340
      exact J341
  refine Own.iadd (pc' := 635) at_634 rfl fun v342 hv342 => ?_
  have hN8 : v342.toInt = ((min 8 k : Nat) : Int) + 1 := by rw [hv342]; exact own_nstep 8 k _ _ w198 (by decide) hN7 (by decide) hk8 hw340
  refine Own.iload (pc' := 637) at_635 rfl rfl ?_
  obtain ⟨w344, hw344⟩ : ∃ w : Int32, w = (if w211 = 0 then (0 : Int32) else (1 : Int32)) := ⟨_, rfl⟩
  refine Own.join (pc2 := 645) (L2 := #[.val (.long p0), .second, .val (.int p1), .val (.int p2), .val (.ref a40), .val (.int v85), .val (.ref a92), .val (.long v104), .second, .val (.int v109), .val (.int w112), .val (.int w120), .val (.int w133), .val (.int w146), .val (.int w159), .val (.int w172), .val (.int w185), .val (.int w198), .val (.int w211), .val (.long v310), .second, .unset]) (S2 := [(.int w344), (.int v342)]) (fun J345 => ?_) ?_
  · refine Own.if_eq (pc' := 644) (pc2 := 640) at_637 (by decide) (by decide) rfl (fun c637_342 => ?_) (fun c637_342 => ?_)
    · refine Own.iconst (pc' := 645) (v := (0 : Int32)) at_644 (by decide) rfl ?_
      try rw [if_pos c637_342] at hw344
      subst hw344
      exact J345
    · refine Own.iconst (pc' := 641) (v := (1 : Int32)) at_640 (by decide) rfl ?_
      refine Own.goto (pc' := 645) at_641 (by decide) (by decide) ?_
      try rw [if_neg c637_342] at hw344
      subst hw344
      exact J345
  refine Own.iadd (pc' := 646) at_645 rfl fun v346 hv346 => ?_
  have hN9 : v346.toInt = ((min 9 k : Nat) : Int) + 1 := by rw [hv346]; exact own_nstep 9 k _ _ w211 (by decide) hN8 (by decide) hk9 hw344
  refine Own.istore (pc' := 648) (L1 := #[.val (.long p0), .second, .val (.int p1), .val (.int p2), .val (.ref a40), .val (.int v85), .val (.ref a92), .val (.long v104), .second, .val (.int v109), .val (.int w112), .val (.int w120), .val (.int w133), .val (.int w146), .val (.int w159), .val (.int w172), .val (.int w185), .val (.int w198), .val (.int w211), .val (.long v310), .second, .val (.int v346)]) at_646 rfl rfl ?_
  refine Own.lload (pc' := 650) at_648 rfl rfl ?_
  refine Own.lload (pc' := 652) at_650 rfl rfl ?_
  refine Own.lcmp_ne (pc1 := 653) (pc' := 670) (pc2 := 656) at_652 rfl at_653 (by decide) (by decide) rfl (fun c652_346 => False.elim (by apply c652_346; rw [hv104, hE9, show min 10 (k + 1) = k + 1 by omega])) (fun c652_346 => ?_)
  refine Own.iload (pc' := 658) at_656 rfl rfl ?_
  refine Own.iload (pc' := 660) at_658 rfl rfl ?_
  refine Own.iload (pc' := 662) at_660 rfl rfl ?_
  refine Own.iadd (pc' := 663) at_662 rfl fun v348 hv348 => ?_
  refine Own.icmp_ne (pc' := 670) (pc2 := 666) at_663 (by decide) (by decide) rfl (fun c663_348 => False.elim (by apply c663_348; apply Int32.toInt_inj.mp; rw [hv109, show own_at v103 = v103 from rfl, hv103, hv348, Jvm.Kit.i32_add (by omega) (by omega)]; omega)) (fun c663_348 => ?_)
  refine Own.iconst (pc' := 667) (v := (1 : Int32)) at_666 (by decide) rfl ?_
  refine Own.goto (pc' := 671) at_667 (by decide) (by decide) ?_
  exact Own.ireturnZ (z' := (1 : Int32)) at_671 rfl (by decide) (rfl) (by decide) (by decide)
set_option maxRecDepth 65536 in
set_option maxHeartbeats 40000000 in
theorem comes_1 {Post : Tables → Env → Array Value → State → Outcome → State → Prop} (hpost : ∀ tb e args s v u, (limb_1_1.after args s (.returned v) u = true ∧ limb_1_2.after args s (.returned v) u = true ∧ True) → FrameEnd s (.returned v) u (Jvm.fieldLocs frame_1_writes args s ++ Jvm.arrayLocs frame_1_arrays args s ++ Jvm.staticLocs frame_1_statics s) 16 128 → Post tb e args s (.returned v) u) :
    ArmFor flags0 classFile x code maxLocals ret World_1 tables_1 room_1 Calls_1 rest_1 Pre_1 Post := by
  intro l hfl _ _ p e ha hc hk s m args below hf hA hF happ hP
  obtain ⟨hcalls, hrest, hpre⟩ := hP
  obtain ⟨-, -, -, hnamed, -, -, -, hat⟩ := (Spec.applies_iff hf).mp happ
  obtain ⟨hg, hn⟩ := and_e (Cond.before_iff.mp (show (Jvm.Cond.and given_1 narrow_1).before args s = true from hpre))
  obtain ⟨hcnt, hg0⟩ := and_e hg
  obtain ⟨w0, w1, w2, rfl⟩ : ∃ w0 w1 w2 : Value, args = #[w0, w1, w2] := by
    have hs : args.size = 3 := by simpa [Cond.value, given_1] using hcnt
    obtain ⟨L⟩ := args
    match L, hs with
    | [w0, w1, w2], _ => exact ⟨w0, w1, w2, rfl⟩
  have hw := fun d (hd : d ∈ tables_1) => atoms_spec (ws := Jvm.Cond.code x code maxLocals ret :: tables_1) hat d (List.mem_cons_of_mem _ hd)
  obtain ⟨ha0, hg1⟩ := and_e hg0
  obtain ⟨i0, e0⟩ := isL_v ha0
  obtain rfl : w0 = (.long i0) := Option.some.inj e0
  obtain ⟨ha1, hg2⟩ := and_e hg1
  obtain ⟨i1, e1⟩ := is_v ha1
  obtain rfl : w1 = (.int i1) := Option.some.inj e1
  obtain ⟨i2, e2⟩ := is_v hg2
  obtain rfl : w2 = (.int i2) := Option.some.inj e2
  obtain ⟨n, o, h1, h2, h3, _, L, rfl, ⟨rfl, N⟩, hq⟩ := own_law l s _ hw tables_1 s.heap.size s.heap (Nat.le_refl _) i0 i1 i2  p e ha hc hk s m _ below hf ((Spec.applies_iff_loose hf).mp happ).1 ⟨rfl, State.Warmed39.refl s, rfl⟩ trivial
  refine ⟨n, _, h1, h2, h3, hpost _ _ _ _ _ _ ⟨Cond.after_iff.mpr rfl, Cond.after_iff.mpr (eq_i res_at (Term.int_eval (1)) rfl), trivial⟩ ⟨hq.1, hq.2.1, (hq.2.2.sift fun y hy => Or.inr (N y hy)).mono (by decide) (by decide)⟩⟩
theorem main_1_1 : Claimed_1_1 := comes_1 fun _ _ _ _ _ _ h hF => ⟨h.1, hF⟩
theorem main_1_2 : Claimed_1_2 := comes_1 fun _ _ _ _ _ _ h hF => ⟨h.2.1, hF⟩
end Jvm.Pilot.@@N@@
namespace Jvm.Pilot.@@N@@
open Jvm Jvm.ClassFile Sem Op Lib Jvm.Free Jvm.Stand Jvm.Pilot.@@N@@.Jvm.D
/-! MADE BY PROGRAM (witnessworld.py) out of the Statement's table words and the real class files: 9 classes; the members and pool entries that the words name. The judged class is class 1, her method 2. -/
namespace start1
open Jvm.ClassFile
def u (s : String) : CpInfo := .utf8 (stringToUtf16 s)
/-- a pool by its gaps: so many unusable entries, then the entry; so many at the end -/
def gap : Nat → List CpInfo → List CpInfo
  | 0, r => r
  | n + 1, r => .unusable :: gap n r
def poolList (es : List (Nat × CpInfo)) (last : Nat) : List CpInfo := es.foldr (fun e r => gap e.1 (e.2 :: r)) (gap last [])
def pool (es : List (Nat × CpInfo)) (last : Nat) : Array CpInfo := ⟨poolList es last⟩
def fileOf (pool : Array CpInfo) (this : Nat) (attrs : Array Attribute := #[]) (ms : Array MethodInfo := #[]) (fl : Nat := 33) (sup : Nat := 0) (ifs : Array Nat := #[]) (fds : Array FieldInfo := #[]) : ClassFile where
  minorVersion := 0
  majorVersion := 65
  constantPool := pool
  accessFlags := fl
  thisClass := this
  superClass := sup
  interfaces := ifs
  fields := fds
  methods := ms
  attributes := attrs
def plain (name : String) (sup : Option ClassId) : Class where
  name := name
  kind := .ordinary
  loader := none
  accessFlags := 33
  super := sup
  interfaces := #[]
  cf := none
  fields := #[]
  methods := #[]
  instanceTypes := #[]
  staticTypes := #[]
  resolved := #[]
  callSites := []
  init := .initialized
  statics := none
  mirror := none

def pool0 : Array CpInfo := pool [(5, u "<init>"), (0, u "()V"), (1, .class_ 10), (1, u "java/lang/Object")] 113

def k0c0 : Code := { maxStack := 0, maxLocals := 1, code := object_method_1_code, exceptionTable := #[], attributes := #[] }
def k0m0 : Method := { name := "<init>", desc := "()V", sig := { parameters := [], returnType := none }, accessFlags := 1, code := some k0c0 }
/-- java/lang/Object -/
def k0 : Class := { plain "java/lang/Object" none with
  accessFlags := 33
  interfaces := #[]
  cf := some (fileOf pool0 8 #[] #[{ accessFlags := 1, nameIndex := 5, descriptorIndex := 6, attributes := #[] }] 33 0 #[] #[])
  fields := #[]
  methods := #[k0m0]
  instanceTypes := #[]
  staticTypes := #[]
  resolved := Array.replicate 124 none
  statics := none }

def pool1 : Array CpInfo := pool [(2, .class_ 4), (1, u "java/lang/Object"), (0, u "<init>"), (0, u "()V"), (0, .integer 2147483647), (0, .class_ 9), (0, u "com/example/tokens_over_transports/tokensovertransports/engine/MarkingCodec$Reader"), (0, .methodref 8 11), (0, .nameAndType 5 12), (0, u "([BI)V"), (0, .methodref 8 14), (0, .nameAndType 15 16), (0, u "next"), (0, u "()J"), (0, .methodref 8 18), (0, .nameAndType 19 20), (0, u "at"), (0, u "()I"), (0, .methodref 22 23), (0, .class_ 24), (0, .nameAndType 25 26), (0, u "com/example/tokens_over_transports/tokensovertransports/engine/ReaderNextPinLaw"), (0, u "part"), (0, u "([BII)J"), (2, u "law"), (0, u "(JII)Z")] 9

def k1m0 : Method := { name := "<init>", desc := "()V", sig := { parameters := [], returnType := none }, accessFlags := 1, code := none }
def k1c1 : Code := { maxStack := 4, maxLocals := 3, code := method_2_code, exceptionTable := #[], attributes := #[] }
def k1m1 : Method := { name := "part", desc := "([BII)J", sig := { parameters := [(.array .byte), .int, .int], returnType := some .long }, accessFlags := 10, code := some k1c1 }
def k1c2 : Code := { maxStack := 5, maxLocals := 22, code := code, exceptionTable := #[], attributes := #[] }
def k1m2 : Method := { name := "law", desc := "(JII)Z", sig := { parameters := [.long, .int, .int], returnType := some .boolean }, accessFlags := 9, code := some k1c2 }
/-- com/example/tokens_over_transports/tokensovertransports/engine/ReaderNextPinLaw -/
def k1 : Class := { plain "com/example/tokens_over_transports/tokensovertransports/engine/ReaderNextPinLaw" (some 0) with
  accessFlags := 49
  interfaces := #[]
  cf := some (fileOf pool1 22 #[] #[{ accessFlags := 1, nameIndex := 5, descriptorIndex := 6, attributes := #[] }, { accessFlags := 10, nameIndex := 25, descriptorIndex := 26, attributes := #[] }, { accessFlags := 9, nameIndex := 29, descriptorIndex := 30, attributes := #[] }] 49 2 #[] #[])
  fields := #[]
  methods := #[k1m0, k1m1, k1m2]
  instanceTypes := #[]
  staticTypes := #[]
  resolved := Array.replicate 40 none
  statics := none }

def pool2 : Array CpInfo := pool [(1, .methodref 2 3), (0, .class_ 4), (0, .nameAndType 5 6), (0, u "java/lang/Object"), (0, u "<init>"), (0, u "()V"), (0, .fieldref 8 9), (0, .class_ 10), (0, .nameAndType 11 12), (0, u "com/example/tokens_over_transports/tokensovertransports/engine/MarkingCodec$Reader"), (0, u "bytes"), (0, u "[B"), (0, .fieldref 8 14), (0, .nameAndType 15 16), (0, u "at"), (0, u "I"), (0, u "([BI)V"), (2, u "()I"), (0, u "next"), (0, u "()J"), (4, .class_ 28), (0, u "com/example/tokens_over_transports/tokensovertransports/engine/MarkingCodec")] 2

def k2c0 : Code := { maxStack := 2, maxLocals := 3, code := prog_28_method_1_code, exceptionTable := #[], attributes := #[] }
def k2m0 : Method := { name := "<init>", desc := "([BI)V", sig := { parameters := [(.array .byte), .int], returnType := none }, accessFlags := 0, code := some k2c0 }
def k2c1 : Code := { maxStack := 1, maxLocals := 1, code := prog_28_method_2_code, exceptionTable := #[], attributes := #[] }
def k2m1 : Method := { name := "at", desc := "()I", sig := { parameters := [], returnType := some .int }, accessFlags := 0, code := some k2c1 }
def k2c2 : Code := { maxStack := 5, maxLocals := 5, code := prog_28_method_3_code, exceptionTable := #[], attributes := #[] }
def k2m2 : Method := { name := "next", desc := "()J", sig := { parameters := [], returnType := some .long }, accessFlags := 0, code := some k2c2 }
/-- com/example/tokens_over_transports/tokensovertransports/engine/MarkingCodec$Reader -/
def k2 : Class := { plain "com/example/tokens_over_transports/tokensovertransports/engine/MarkingCodec$Reader" (some 0) with
  accessFlags := 32
  interfaces := #[]
  cf := some (fileOf pool2 8 #[.nestHost 27] #[{ accessFlags := 0, nameIndex := 5, descriptorIndex := 17, attributes := #[] }, { accessFlags := 0, nameIndex := 15, descriptorIndex := 20, attributes := #[] }, { accessFlags := 0, nameIndex := 21, descriptorIndex := 22, attributes := #[] }] 32 2 #[] #[{ accessFlags := 18, nameIndex := 11, descriptorIndex := 12, attributes := #[] }, { accessFlags := 2, nameIndex := 15, descriptorIndex := 16, attributes := #[] }])
  fields := #[{ name := "bytes", type := (.array .byte), accessFlags := 18, slot := 0, constantValue := 0 }, { name := "at", type := .int, accessFlags := 2, slot := 1, constantValue := 0 }]
  methods := #[k2m0, k2m1, k2m2]
  instanceTypes := #[(.array .byte), .int]
  staticTypes := #[]
  resolved := Array.replicate 31 none
  statics := none }

def pool3 : Array CpInfo := pool [(1, u "java/lang/Cloneable"), (0, .class_ 1), (0, u "java/lang/Object"), (0, .class_ 3)] 3

/-- java/lang/Cloneable -/
def k3 : Class := { plain "java/lang/Cloneable" (some 0) with
  accessFlags := 1537
  interfaces := #[]
  cf := some (fileOf pool3 2 #[] #[] 1537 4 #[] #[])
  fields := #[]
  methods := #[]
  instanceTypes := #[]
  staticTypes := #[]
  resolved := Array.replicate 8 none
  statics := none }

def pool4 : Array CpInfo := pool [(1, u "java/io/Serializable"), (0, .class_ 1), (0, u "java/lang/Object"), (0, .class_ 3)] 3

/-- java/io/Serializable -/
def k4 : Class := { plain "java/io/Serializable" (some 0) with
  accessFlags := 1537
  interfaces := #[]
  cf := some (fileOf pool4 2 #[] #[] 1537 4 #[] #[])
  fields := #[]
  methods := #[]
  instanceTypes := #[]
  staticTypes := #[]
  resolved := Array.replicate 8 none
  statics := none }

/-- the primitive byte -/
def k5 : Class := { plain "byte" none with kind := .primitive 'B', accessFlags := 0x411 }
/-- [B -/
def k6 : Class := { plain "[B" (some 0) with kind := .array 5 .byte, interfaces := #[3, 4], accessFlags := 1041 }

/-- the primitive int -/
def k7 : Class := { plain "int" none with kind := .primitive 'I', accessFlags := 0x411 }
/-- [I -/
def k8 : Class := { plain "[I" (some 0) with kind := .array 7 .int, interfaces := #[3, 4], accessFlags := 1041 }

def heap : Heap := #[]
def classes : Array Class := #[k0, k1, k2, k3, k4, k5, k6, k7, k8]
def interned : List (Array UInt16 × Addr) := []
def slotsUsed : Nat := 0
def theMethod : MethodId := ⟨1, 2⟩
def args0 : Array Value := #[.long 500, .int 3, .int 7]
def aboutOver (below : List Frame) : State where
  vm := { classes := classes, interned := interned.toArray }
  heap := heap
  slotsUsed := slotsUsed
  threads := #[{ frames := .invoking theMethod args0 :: below }]
def below0 : List Frame := [.native { method := ⟨0, 0⟩, args := #[] }]
def about1 : State := aboutOver below0
def p0 : Program := .bare "" "" ""
def e0 : Env := launch0.env 0 0 0
theorem w_frames : about1.frames = Frame.invoking theMethod args0 :: below0 := rfl
set_option maxRecDepth 65536 in
theorem w_args : argsFit about1.vm theMethod args0 = true := by decide +kernel
set_option maxRecDepth 65536 in
theorem w_heap : heapFits about1 = true := by decide +kernel
set_option maxRecDepth 65536 in
theorem w_runnable : about1.curStatus? = some .runnable := by decide +kernel
set_option maxRecDepth 65536 in
theorem w_alone : about1.alone = true := by decide +kernel
set_option maxRecDepth 65536 in
theorem w_named : about1.methodNamed? x = some theMethod := by decide +kernel
set_option maxRecDepth 65536 in
theorem w_hears : about1.hears theMethod below0 = true := by decide +kernel
set_option maxRecDepth 65536 in
theorem w_ripe : about1.ripe theMethod args0 below0 = true := by decide +kernel
theorem w_running : about1.status = .running := rfl
set_option maxRecDepth 65536 in
theorem w_room : about1.hasRoom e0.platform room_1 = true :=
  launch0.hasRoom_least _ room_1 (by decide +kernel) (by decide +kernel) (by decide +kernel) (by decide +kernel) (by decide +kernel) (by decide +kernel)
theorem allAtoms_all (ts : List Jvm.Cond) (a : Array Jvm.Value) (st : Jvm.State) : (allAtoms ts).before a st = ts.all (fun c => c.before a st) := by
  induction ts with
  | nil => rfl
  | cons c t ih =>
    show (Jvm.Cond.and c (allAtoms t)).before a st = _
    rw [Jvm.Cond.before_and, ih, List.all_cons]
def words1 : List Jvm.Cond := Jvm.Cond.code x code maxLocals ret :: tables_1
/-- a 'code' word, met by the world's own term for the bytes: nothing is compared byte by byte -/
theorem code_word {y : MethodName} {bytes : ByteArray} {mx : Nat} {rt : Option FieldType} {a : Array Value} {s : State} {m : MethodId} {meth : Method} {c : Code} (h1 : s.methodNamed? y = some m) (h2 : s.vm.method? m = some meth) (h3 : meth.code = some c) (h4 : c.code = bytes)
    (h5 : (c.maxLocals == mx && c.exceptionTable.isEmpty && decide (c.maxStack ≤ mostOperands) && decide (meth.sig.returnType = rt) && !meth.locks && decide (parseMethodDescriptor y.desc = some meth.sig)) = true) : (Jvm.Cond.code y bytes mx rt).before a s = true := by
  simp only [Bool.and_eq_true, beq_iff_eq, Bool.not_eq_true', decide_eq_true_eq] at h5
  obtain ⟨⟨⟨⟨⟨g1, g2⟩, g3⟩, g4⟩, g5⟩, g6⟩ := h5
  simp [Cond.before, Cond.holds, Cond.value, h1, h2, h3, h4, g1, g2, g3, g4, g5, g6]
def isCode : Jvm.Cond → Bool
  | .code _ _ _ _ => true
  | _ => false
theorem all_split {L : List Jvm.Cond} {P : Jvm.Cond → Bool} (h1 : L.all (fun c => isCode c || P c) = true) (h2 : ∀ c ∈ L.filter isCode, P c = true) : L.all P = true := by
  refine List.all_eq_true.mpr fun c hc => ?_
  have h := List.all_eq_true.mp h1 c hc
  rcases Bool.eq_false_or_eq_true (isCode c) with hi | hi
  · exact h2 c (List.mem_filter.mpr ⟨hc, hi⟩)
  · simpa [hi] using h
set_option maxRecDepth 65536 in
theorem w_c0 : (Jvm.Cond.code x code maxLocals ret).before args0 about1 = true := code_word (m := ⟨1, 2⟩) (meth := k1m2) (c := k1c2) (by decide +kernel) rfl rfl rfl (by decide +kernel)
set_option maxRecDepth 65536 in
theorem w_c1 : (Jvm.Cond.code ({ cls := "com/example/tokens_over_transports/tokensovertransports/engine/MarkingCodec$Reader", name := "<init>", desc := "([BI)V" } : Jvm.MethodName) prog_28_method_1_code (3 : Nat) (Option.none : Option Jvm.ClassFile.FieldType)).before args0 about1 = true := code_word (m := ⟨2, 0⟩) (meth := k2m0) (c := k2c0) (by decide +kernel) rfl rfl rfl (by decide +kernel)
set_option maxRecDepth 65536 in
theorem w_c2 : (Jvm.Cond.code ({ cls := "java/lang/Object", name := "<init>", desc := "()V" } : Jvm.MethodName) object_method_1_code (1 : Nat) (Option.none : Option Jvm.ClassFile.FieldType)).before args0 about1 = true := code_word (m := ⟨0, 0⟩) (meth := k0m0) (c := k0c0) (by decide +kernel) rfl rfl rfl (by decide +kernel)
set_option maxRecDepth 65536 in
theorem w_c3 : (Jvm.Cond.code ({ cls := "com/example/tokens_over_transports/tokensovertransports/engine/MarkingCodec$Reader", name := "next", desc := "()J" } : Jvm.MethodName) prog_28_method_3_code (5 : Nat) (Option.some Jvm.ClassFile.FieldType.long)).before args0 about1 = true := code_word (m := ⟨2, 2⟩) (meth := k2m2) (c := k2c2) (by decide +kernel) rfl rfl rfl (by decide +kernel)
set_option maxRecDepth 65536 in
theorem w_c4 : (Jvm.Cond.code ({ cls := "com/example/tokens_over_transports/tokensovertransports/engine/MarkingCodec$Reader", name := "at", desc := "()I" } : Jvm.MethodName) prog_28_method_2_code (1 : Nat) (Option.some Jvm.ClassFile.FieldType.int)).before args0 about1 = true := code_word (m := ⟨2, 1⟩) (meth := k2m1) (c := k2c1) (by decide +kernel) rfl rfl rfl (by decide +kernel)
set_option maxRecDepth 65536 in
theorem w_c5 : (Jvm.Cond.code ({ cls := "com/example/tokens_over_transports/tokensovertransports/engine/ReaderNextPinLaw", name := "part", desc := "([BII)J" } : Jvm.MethodName) method_2_code (3 : Nat) (Option.some Jvm.ClassFile.FieldType.long)).before args0 about1 = true := code_word (m := ⟨1, 1⟩) (meth := k1m1) (c := k1c1) (by decide +kernel) rfl rfl rfl (by decide +kernel)
def codes1 : List Jvm.Cond := [Jvm.Cond.code x code maxLocals ret, Jvm.Cond.code ({ cls := "com/example/tokens_over_transports/tokensovertransports/engine/MarkingCodec$Reader", name := "<init>", desc := "([BI)V" } : Jvm.MethodName) prog_28_method_1_code (3 : Nat) (Option.none : Option Jvm.ClassFile.FieldType), Jvm.Cond.code ({ cls := "java/lang/Object", name := "<init>", desc := "()V" } : Jvm.MethodName) object_method_1_code (1 : Nat) (Option.none : Option Jvm.ClassFile.FieldType), Jvm.Cond.code ({ cls := "com/example/tokens_over_transports/tokensovertransports/engine/MarkingCodec$Reader", name := "next", desc := "()J" } : Jvm.MethodName) prog_28_method_3_code (5 : Nat) (Option.some Jvm.ClassFile.FieldType.long), Jvm.Cond.code ({ cls := "com/example/tokens_over_transports/tokensovertransports/engine/MarkingCodec$Reader", name := "at", desc := "()I" } : Jvm.MethodName) prog_28_method_2_code (1 : Nat) (Option.some Jvm.ClassFile.FieldType.int), Jvm.Cond.code ({ cls := "com/example/tokens_over_transports/tokensovertransports/engine/ReaderNextPinLaw", name := "part", desc := "([BII)J" } : Jvm.MethodName) method_2_code (3 : Nat) (Option.some Jvm.ClassFile.FieldType.long)]
set_option maxRecDepth 65536 in
theorem codes_eq : words1.filter isCode = codes1 := rfl
theorem w_codes : ∀ c ∈ words1.filter isCode, c.before args0 about1 = true := by
  rw [codes_eq]
  intro c hc
  simp only [codes1, List.mem_cons, List.not_mem_nil, or_false] at hc
  rcases hc with rfl | rfl | rfl | rfl | rfl | rfl
  · exact w_c0
  · exact w_c1
  · exact w_c2
  · exact w_c3
  · exact w_c4
  · exact w_c5
set_option maxRecDepth 65536 in
theorem w_t1 : (words1.take 24).all (fun c => isCode c || c.before args0 about1) = true := by decide +kernel
set_option maxRecDepth 65536 in
theorem w_t2 : (words1.drop 24).all (fun c => isCode c || c.before args0 about1) = true := by decide +kernel
theorem w_tables : (allAtoms (Jvm.Cond.code x code maxLocals ret :: tables_1)).before args0 about1 = true := by
  rw [allAtoms_all]
  show words1.all (fun c => c.before args0 about1) = true
  refine all_split ?_ w_codes
  rw [← List.take_append_drop 24 words1, List.all_append, w_t1, w_t2]
  rfl
set_option maxRecDepth 65536 in
theorem w_case : (Jvm.Cond.and given_1 narrow_1).before args0 about1 = true := by decide +kernel
theorem w_applies : (headSpec (Jvm.Cond.code x code maxLocals ret :: tables_1) room_1).applies x e0.platform about1 = true :=
  (Spec.applies_iff w_frames).mpr ⟨w_running, w_runnable, w_alone, w_named, w_hears, w_ripe, w_room, w_tables⟩
theorem atStart : AtStart classFile x code maxLocals ret World_1 tables_1 room_1 Calls_1 rest_1 Pre_1 launch0 p0 e0 about1 theMethod args0 below0 :=
  ⟨lists_1, trivial, launch0.admits_env _ _ _, launch0.least_env, fairChoices_fair.cas, fairChoices_fair.clock, w_frames, w_args, w_heap, w_applies, trivial, trivial, w_case⟩
end start1
theorem witness_1 : WitnessClaimed_1 := ⟨start1.p0, start1.e0, start1.about1, start1.theMethod, start1.args0, start1.below0, start1.atStart⟩
end Jvm.Pilot.@@N@@
