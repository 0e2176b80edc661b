import JvmDerived
import JvmDerived.Pilot.@@N@@Statement
import JvmDerived.Pilot.@@N@@Code
set_option linter.unusedVariables false
set_option linter.unusedSimpArgs false
namespace Jvm.Own
open Sem ClassFile Op Lib Jvm.Stand Jvm.Free Jvm.LawKit Jvm.RoadKit
abbrev Ctx := Program × Launch × Env × State × MethodId × Array Value × List Frame × Method × Code
def ushr (x y : Int32) : Int32 := (x.toUInt32 >>> (y &&& 31).toUInt32).toInt32
def ushrL (x : Int64) (y : Int32) : Int64 := (x.toUInt64 >>> (y &&& 63).toInt64.toUInt64).toInt64
/-- from here the body comes to its return, and Q holds of what it returns and of the heap -/
def Go (K : Ctx) (rm : Room) (Z : State) (n0 : Nat) (bs : ByteArray) (ml : Nat) (ret : Option FieldType) (own nm : String) (Q : Option Value → Heap → Prop) (kc ks : Nat) (h : Heap) (pc : Nat) (L : Array Slot) (S : List Value) : Prop :=
  match K with
  | (p, l, e, s, m, args, below, meth, c) =>
    p.tables.exec = Jvm.exec → c.code = bs → c.maxLocals = ml → s.vm.findClass own = some m.cls → Z.Warmed39 s.vm → meth.sig.returnType = ret → meth.locks = false → meth.name = nm →
    ∀ T locs, Stand p l e rm s m args below meth c T locs kc ks → Fr n0 locs → T.heap = h →
    ∃ s₂ v L', Steps p.tables e below (T.setTop (mkF m pc L S)) s₂ ∧ s₂.status = .running ∧ Ended s₂ below (.returned v) ∧ Q v s₂.heap ∧ Fr n0 L' ∧ FrameEnd s (.returned v) s₂ L' rm.cells rm.slots
/-- a body's contract -/
def Con (Z : State) (n0 : Nat) (y : MethodName) (bs : ByteArray) (ml : Nat) (ret : Option FieldType) (rm : Room) (as : List Value) (h : Heap) (Q : Option Value → Heap → Prop) : Prop :=
  ∀ l, MetFree l y (head1 [Jvm.Cond.code y bs ml ret] rm) (fun a U => a = as.toArray ∧ Z.Warmed39 U.vm ∧ U.heap = h) (fun _ _ _ _ _ => True) (fun _ U o U' => ∃ v L, o = .returned v ∧ (Q v U'.heap ∧ Fr n0 L) ∧ FrameEnd U o U' L rm.cells rm.slots)
section Laws
variable {K : Ctx} {rm : Room} {Z : State} {n0 : Nat} {bs : ByteArray} {ml : Nat} {ret : Option FieldType} {own nm : String} {Q : Option Value → Heap → Prop} {kc ks : Nat} {h : Heap} {pc pc' : Nat} {L : Array Slot} {S : List Value} {a0 : Array Value}
theorem enterW {l : Launch} {y : MethodName} {ws : List Jvm.Cond} {as : Array Value} {L0 : Array Slot} (hpl : plainFor y = true) (hL : ∀ m, entryFrame m as ml = mkF m 0 L0 [])
    (H : ∀ K, Go K rm Z n0 bs ml ret y.cls y.name Q 0 0 h 0 L0 []) :
    MetFree l y (head1 (Jvm.Cond.code y bs ml ret :: ws) rm) (fun a U => a = as ∧ Z.Warmed39 U.vm ∧ U.heap = h) (fun _ _ _ _ _ => True) (fun _ U o U' => ∃ v L, o = .returned v ∧ (Q v U'.heap ∧ Fr n0 L) ∧ FrameEnd U o U' L rm.cells rm.slots) := by
  refine MetFree.of_bodySF hpl hisR ?_
  intro p e s m args below meth c s₁ Bd hml0 hP hK
  obtain ⟨rfl, hZ, hh⟩ := hP
  have X0 : Stand p l e rm s m args below meth c s₁ [] 0 0 := Stand.of_body Bd
  obtain ⟨s₂, v, L', st, h1, h2, h3, h4, h5⟩ := H (p, l, e, s, m, args, below, meth, c) Bd.exec Bd.bytes hml0 (findClass_of_methodNamed Bd.named) hZ Bd.returns Bd.notSynchronized (name_of_methodNamed Bd.named Bd.method).1 s₁ [] X0 (Fr.nil n0) (by rw [← hh, Bd.state]; rfl)
  exact ⟨s₂, _, castTop (hL m) st, h1, h2, v, L', rfl, ⟨h3, h4⟩, h5⟩
theorem enter {y : MethodName} {as : List Value} {L0 : Array Slot} (hpl : plainFor y = true) (hL : ∀ m, entryFrame m as.toArray ml = mkF m 0 L0 [])
    (H : ∀ K, Go K rm Z n0 bs ml ret y.cls y.name Q 0 0 h 0 L0 []) : Con Z n0 y bs ml ret rm as h Q := fun _ => enterW hpl hL H
theorem iload {k : Nat} {v : Int32} (hd : decode bs pc = .ok (.iload k, 2)) (hl : L[k]? = some (.val (.int v))) (hp : pc + 2 = pc') (hr : Go K rm Z n0 bs ml ret own nm Q kc ks h pc' L (.int v :: S)) : Go K rm Z n0 bs ml ret own nm Q kc ks h pc L S := by
  subst hp
  obtain ⟨p, l, e, s, m, args, below, meth, c⟩ := K
  intro hx hby hml hown hZ hret hlk hnm T locs X hF hh
  obtain ⟨s₂, v, L', st, r⟩ := hr hx hby hml hown hZ hret hlk hnm T locs X hF hh
  exact ⟨s₂, v, L', XS.iload X.here hx rfl (hb hby hd) hl st, r⟩
theorem iloadN {k : Fin 4} {v : Int32} (hd : decode bs pc = .ok (.iload_n k, 1)) (hl : L[k.val]? = some (.val (.int v))) (hp : pc + 1 = pc') (hr : Go K rm Z n0 bs ml ret own nm Q kc ks h pc' L (.int v :: S)) : Go K rm Z n0 bs ml ret own nm Q kc ks h pc L S := by
  subst hp
  obtain ⟨p, l, e, s, m, args, below, meth, c⟩ := K
  intro hx hby hml hown hZ hret hlk hnm T locs X hF hh
  obtain ⟨s₂, v, L', st, r⟩ := hr hx hby hml hown hZ hret hlk hnm T locs X hF hh
  exact ⟨s₂, v, L', XS.iloadN X.here hx rfl (hb hby hd) hl st, r⟩
theorem lload {k : Nat} {v : Int64} (hd : decode bs pc = .ok (.lload k, 2)) (hl : L[k]? = some (.val (.long v))) (hp : pc + 2 = pc') (hr : Go K rm Z n0 bs ml ret own nm Q kc ks h pc' L (.long v :: S)) : Go K rm Z n0 bs ml ret own nm Q kc ks h pc L S := by
  subst hp
  obtain ⟨p, l, e, s, m, args, below, meth, c⟩ := K
  intro hx hby hml hown hZ hret hlk hnm T locs X hF hh
  obtain ⟨s₂, v, L', st, r⟩ := hr hx hby hml hown hZ hret hlk hnm T locs X hF hh
  exact ⟨s₂, v, L', XS.lload X.here hx rfl (hb hby hd) hl st, r⟩
theorem lloadN {k : Fin 4} {v : Int64} (hd : decode bs pc = .ok (.lload_n k, 1)) (hl : L[k.val]? = some (.val (.long v))) (hp : pc + 1 = pc') (hr : Go K rm Z n0 bs ml ret own nm Q kc ks h pc' L (.long v :: S)) : Go K rm Z n0 bs ml ret own nm Q kc ks h pc L S := by
  subst hp
  obtain ⟨p, l, e, s, m, args, below, meth, c⟩ := K
  intro hx hby hml hown hZ hret hlk hnm T locs X hF hh
  obtain ⟨s₂, v, L', st, r⟩ := hr hx hby hml hown hZ hret hlk hnm T locs X hF hh
  exact ⟨s₂, v, L', XS.lloadN X.here hx rfl (hb hby hd) hl st, r⟩
theorem aload {k : Nat} {v : Value} (hd : decode bs pc = .ok (.aload k, 2)) (hl : L[k]? = some (.val v)) (hv : v.isRef = true) (hp : pc + 2 = pc') (hr : Go K rm Z n0 bs ml ret own nm Q kc ks h pc' L (v :: S)) : Go K rm Z n0 bs ml ret own nm Q kc ks h pc L S := by
  subst hp
  obtain ⟨p, l, e, s, m, args, below, meth, c⟩ := K
  intro hx hby hml hown hZ hret hlk hnm T locs X hF hh
  obtain ⟨s₂, v, L', st, r⟩ := hr hx hby hml hown hZ hret hlk hnm T locs X hF hh
  exact ⟨s₂, v, L', XS.aload X.here hx rfl (hb hby hd) hl hv st, r⟩
theorem aloadN {k : Fin 4} {v : Value} (hd : decode bs pc = .ok (.aload_n k, 1)) (hl : L[k.val]? = some (.val v)) (hv : v.isRef = true) (hp : pc + 1 = pc') (hr : Go K rm Z n0 bs ml ret own nm Q kc ks h pc' L (v :: S)) : Go K rm Z n0 bs ml ret own nm Q kc ks h pc L S := by
  subst hp
  obtain ⟨p, l, e, s, m, args, below, meth, c⟩ := K
  intro hx hby hml hown hZ hret hlk hnm T locs X hF hh
  obtain ⟨s₂, v, L', st, r⟩ := hr hx hby hml hown hZ hret hlk hnm T locs X hF hh
  exact ⟨s₂, v, L', XS.aloadN X.here hx rfl (hb hby hd) hl hv st, r⟩
theorem istore {k : Nat} {x : Int32} {L1 : Array Slot} (hd : decode bs pc = .ok (.istore k, 2)) (hl : storeLocals L k (.int x) = some L1) (hp : pc + 2 = pc') (hr : Go K rm Z n0 bs ml ret own nm Q kc ks h pc' L1 S) : Go K rm Z n0 bs ml ret own nm Q kc ks h pc L (.int x :: S) := by
  subst hp
  obtain ⟨p, l, e, s, m, args, below, meth, c⟩ := K
  intro hx hby hml hown hZ hret hlk hnm T locs X hF hh
  obtain ⟨s₂, v, L', st, r⟩ := hr hx hby hml hown hZ hret hlk hnm T locs X hF hh
  exact ⟨s₂, v, L', XS.istore X.here hx rfl (hb hby hd) rfl hl st, r⟩
theorem istoreN {k : Fin 4} {x : Int32} {L1 : Array Slot} (hd : decode bs pc = .ok (.istore_n k, 1)) (hl : storeLocals L k.val (.int x) = some L1) (hp : pc + 1 = pc') (hr : Go K rm Z n0 bs ml ret own nm Q kc ks h pc' L1 S) : Go K rm Z n0 bs ml ret own nm Q kc ks h pc L (.int x :: S) := by
  subst hp
  obtain ⟨p, l, e, s, m, args, below, meth, c⟩ := K
  intro hx hby hml hown hZ hret hlk hnm T locs X hF hh
  obtain ⟨s₂, v, L', st, r⟩ := hr hx hby hml hown hZ hret hlk hnm T locs X hF hh
  exact ⟨s₂, v, L', XS.istoreN X.here hx rfl (hb hby hd) rfl hl st, r⟩
theorem lstore {k : Nat} {x : Int64} {L1 : Array Slot} (hd : decode bs pc = .ok (.lstore k, 2)) (hl : storeLocals L k (.long x) = some L1) (hp : pc + 2 = pc') (hr : Go K rm Z n0 bs ml ret own nm Q kc ks h pc' L1 S) : Go K rm Z n0 bs ml ret own nm Q kc ks h pc L (.long x :: S) := by
  subst hp
  obtain ⟨p, l, e, s, m, args, below, meth, c⟩ := K
  intro hx hby hml hown hZ hret hlk hnm T locs X hF hh
  obtain ⟨s₂, v, L', st, r⟩ := hr hx hby hml hown hZ hret hlk hnm T locs X hF hh
  exact ⟨s₂, v, L', XS.lstore X.here hx rfl (hb hby hd) rfl hl st, r⟩
theorem lstoreN {k : Fin 4} {x : Int64} {L1 : Array Slot} (hd : decode bs pc = .ok (.lstore_n k, 1)) (hl : storeLocals L k.val (.long x) = some L1) (hp : pc + 1 = pc') (hr : Go K rm Z n0 bs ml ret own nm Q kc ks h pc' L1 S) : Go K rm Z n0 bs ml ret own nm Q kc ks h pc L (.long x :: S) := by
  subst hp
  obtain ⟨p, l, e, s, m, args, below, meth, c⟩ := K
  intro hx hby hml hown hZ hret hlk hnm T locs X hF hh
  obtain ⟨s₂, v, L', st, r⟩ := hr hx hby hml hown hZ hret hlk hnm T locs X hF hh
  exact ⟨s₂, v, L', XS.lstoreN X.here hx rfl (hb hby hd) rfl hl st, r⟩
theorem astore {k : Nat} {x : Value} {L1 : Array Slot} (hd : decode bs pc = .ok (.astore k, 2)) (hv : x.isRef = true) (hl : storeLocals L k x = some L1) (hp : pc + 2 = pc') (hr : Go K rm Z n0 bs ml ret own nm Q kc ks h pc' L1 S) : Go K rm Z n0 bs ml ret own nm Q kc ks h pc L (x :: S) := by
  subst hp
  obtain ⟨p, l, e, s, m, args, below, meth, c⟩ := K
  intro hx hby hml hown hZ hret hlk hnm T locs X hF hh
  obtain ⟨s₂, v, L', st, r⟩ := hr hx hby hml hown hZ hret hlk hnm T locs X hF hh
  exact ⟨s₂, v, L', XS.astore X.here hx rfl (hb hby hd) rfl hv hl st, r⟩
theorem astoreN {k : Fin 4} {x : Value} {L1 : Array Slot} (hd : decode bs pc = .ok (.astore_n k, 1)) (hv : x.isRef = true) (hl : storeLocals L k.val x = some L1) (hp : pc + 1 = pc') (hr : Go K rm Z n0 bs ml ret own nm Q kc ks h pc' L1 S) : Go K rm Z n0 bs ml ret own nm Q kc ks h pc L (x :: S) := by
  subst hp
  obtain ⟨p, l, e, s, m, args, below, meth, c⟩ := K
  intro hx hby hml hown hZ hret hlk hnm T locs X hF hh
  obtain ⟨s₂, v, L', st, r⟩ := hr hx hby hml hown hZ hret hlk hnm T locs X hF hh
  exact ⟨s₂, v, L', XS.astoreN X.here hx rfl (hb hby hd) rfl hv hl st, r⟩
theorem iconst {i : Int} {v : Int32} (hd : decode bs pc = .ok (.iconst i, 1)) (hv : Int32.ofInt i = v) (hp : pc + 1 = pc') (hr : Go K rm Z n0 bs ml ret own nm Q kc ks h pc' L (.int v :: S)) : Go K rm Z n0 bs ml ret own nm Q kc ks h pc L S := by
  subst hp
  obtain ⟨p, l, e, s, m, args, below, meth, c⟩ := K
  intro hx hby hml hown hZ hret hlk hnm T locs X hF hh
  obtain ⟨s₂, v, L', st, r⟩ := hr hx hby hml hown hZ hret hlk hnm T locs X hF hh
  exact ⟨s₂, v, L', XS.iconst X.here hx rfl (hb hby hd) (hv ▸ st), r⟩
theorem bipush {i : Int} {v : Int32} (hd : decode bs pc = .ok (.bipush i, 2)) (hv : (Int8.ofInt i).toInt32 = v) (hp : pc + 2 = pc') (hr : Go K rm Z n0 bs ml ret own nm Q kc ks h pc' L (.int v :: S)) : Go K rm Z n0 bs ml ret own nm Q kc ks h pc L S := by
  subst hp
  obtain ⟨p, l, e, s, m, args, below, meth, c⟩ := K
  intro hx hby hml hown hZ hret hlk hnm T locs X hF hh
  obtain ⟨s₂, v, L', st, r⟩ := hr hx hby hml hown hZ hret hlk hnm T locs X hF hh
  exact ⟨s₂, v, L', XS.bipush X.here hx rfl (hb hby hd) (hv ▸ st), r⟩
theorem sipush {i : Int} {v : Int32} (hd : decode bs pc = .ok (.sipush i, 3)) (hv : (Int16.ofInt i).toInt32 = v) (hp : pc + 3 = pc') (hr : Go K rm Z n0 bs ml ret own nm Q kc ks h pc' L (.int v :: S)) : Go K rm Z n0 bs ml ret own nm Q kc ks h pc L S := by
  subst hp
  obtain ⟨p, l, e, s, m, args, below, meth, c⟩ := K
  intro hx hby hml hown hZ hret hlk hnm T locs X hF hh
  obtain ⟨s₂, v, L', st, r⟩ := hr hx hby hml hown hZ hret hlk hnm T locs X hF hh
  exact ⟨s₂, v, L', XS.sipush X.here hx rfl (hb hby hd) (hv ▸ st), r⟩
theorem aconstNull  (hd : decode bs pc = .ok (.aconst_null, 1)) (hp : pc + 1 = pc') (hr : Go K rm Z n0 bs ml ret own nm Q kc ks h pc' L (.null :: S)) : Go K rm Z n0 bs ml ret own nm Q kc ks h pc L S := by
  subst hp
  obtain ⟨p, l, e, s, m, args, below, meth, c⟩ := K
  intro hx hby hml hown hZ hret hlk hnm T locs X hF hh
  obtain ⟨s₂, v, L', st, r⟩ := hr hx hby hml hown hZ hret hlk hnm T locs X hF hh
  exact ⟨s₂, v, L', XS.aconstNull X.here hx rfl (hb hby hd) st, r⟩
theorem lconst0  (hd : decode bs pc = .ok (.lconst 0, 1)) (hp : pc + 1 = pc') (hr : Go K rm Z n0 bs ml ret own nm Q kc ks h pc' L (.long 0 :: S)) : Go K rm Z n0 bs ml ret own nm Q kc ks h pc L S := by
  subst hp
  obtain ⟨p, l, e, s, m, args, below, meth, c⟩ := K
  intro hx hby hml hown hZ hret hlk hnm T locs X hF hh
  obtain ⟨s₂, v, L', st, r⟩ := hr hx hby hml hown hZ hret hlk hnm T locs X hF hh
  exact ⟨s₂, v, L', XS.lconst X.here hx rfl (hb hby hd) st, r⟩
theorem lconst1  (hd : decode bs pc = .ok (.lconst 1, 1)) (hp : pc + 1 = pc') (hr : Go K rm Z n0 bs ml ret own nm Q kc ks h pc' L (.long 1 :: S)) : Go K rm Z n0 bs ml ret own nm Q kc ks h pc L S := by
  subst hp
  obtain ⟨p, l, e, s, m, args, below, meth, c⟩ := K
  intro hx hby hml hown hZ hret hlk hnm T locs X hF hh
  obtain ⟨s₂, v, L', st, r⟩ := hr hx hby hml hown hZ hret hlk hnm T locs X hF hh
  exact ⟨s₂, v, L', XS.lconst X.here hx rfl (hb hby hd) st, r⟩
theorem ldcInt {i : Nat} {v : Int32} (hd : decode bs pc = .ok (.ldc i, 2)) (w : (Jvm.Cond.constant own i v).before a0 Z = true) (hp : pc + 2 = pc') (hr : Go K rm Z n0 bs ml ret own nm Q kc ks h pc' L (.int v :: S)) : Go K rm Z n0 bs ml ret own nm Q kc ks h pc L S := by
  subst hp
  obtain ⟨p, l, e, s, m, args, below, meth, c⟩ := K
  intro hx hby hml hown hZ hret hlk hnm T locs X hF hh
  obtain ⟨s₂, v, L', st, r⟩ := hr hx hby hml hown hZ hret hlk hnm T locs X hF hh
  exact ⟨s₂, v, L', X.ldcInt hx hown (mvT hZ w) (g := mkF m pc L S) rfl (hb hby hd) _ st, r⟩
theorem ldc2Long {i : Nat} {v : Int64} (hd : decode bs pc = .ok (.ldc2_w i, 3)) (w : (Jvm.Cond.constantLong own i v).before a0 Z = true) (hp : pc + 3 = pc') (hr : Go K rm Z n0 bs ml ret own nm Q kc ks h pc' L (.long v :: S)) : Go K rm Z n0 bs ml ret own nm Q kc ks h pc L S := by
  subst hp
  obtain ⟨p, l, e, s, m, args, below, meth, c⟩ := K
  intro hx hby hml hown hZ hret hlk hnm T locs X hF hh
  obtain ⟨s₂, v, L', st, r⟩ := hr hx hby hml hown hZ hret hlk hnm T locs X hF hh
  exact ⟨s₂, v, L', X.ldc2Long hx hown (mvT hZ w) (g := mkF m pc L S) rfl (hb hby hd) _ st, r⟩
theorem iadd {x y : Int32} (hd : decode bs pc = .ok (.iadd, 1)) (hp : pc + 1 = pc') (hr : ∀ z, z = x + y → Go K rm Z n0 bs ml ret own nm Q kc ks h pc' L (.int z :: S)) : Go K rm Z n0 bs ml ret own nm Q kc ks h pc L (.int y :: .int x :: S) := by
  subst hp
  obtain ⟨p, l, e, s, m, args, below, meth, c⟩ := K
  intro hx hby hml hown hZ hret hlk hnm T locs X hF hh
  obtain ⟨s₂, v, L', st, r⟩ := hr _ rfl hx hby hml hown hZ hret hlk hnm T locs X hF hh
  exact ⟨s₂, v, L', XS.iadd X.here hx rfl (hb hby hd) rfl st, r⟩
theorem isub {x y : Int32} (hd : decode bs pc = .ok (.isub, 1)) (hp : pc + 1 = pc') (hr : ∀ z, z = x - y → Go K rm Z n0 bs ml ret own nm Q kc ks h pc' L (.int z :: S)) : Go K rm Z n0 bs ml ret own nm Q kc ks h pc L (.int y :: .int x :: S) := by
  subst hp
  obtain ⟨p, l, e, s, m, args, below, meth, c⟩ := K
  intro hx hby hml hown hZ hret hlk hnm T locs X hF hh
  obtain ⟨s₂, v, L', st, r⟩ := hr _ rfl hx hby hml hown hZ hret hlk hnm T locs X hF hh
  exact ⟨s₂, v, L', XS.isub X.here hx rfl (hb hby hd) rfl st, r⟩
theorem imul {x y : Int32} (hd : decode bs pc = .ok (.imul, 1)) (hp : pc + 1 = pc') (hr : ∀ z, z = x * y → Go K rm Z n0 bs ml ret own nm Q kc ks h pc' L (.int z :: S)) : Go K rm Z n0 bs ml ret own nm Q kc ks h pc L (.int y :: .int x :: S) := by
  subst hp
  obtain ⟨p, l, e, s, m, args, below, meth, c⟩ := K
  intro hx hby hml hown hZ hret hlk hnm T locs X hF hh
  obtain ⟨s₂, v, L', st, r⟩ := hr _ rfl hx hby hml hown hZ hret hlk hnm T locs X hF hh
  exact ⟨s₂, v, L', XS.imul X.here hx rfl (hb hby hd) rfl st, r⟩
theorem iand {x y : Int32} (hd : decode bs pc = .ok (.iand, 1)) (hp : pc + 1 = pc') (hr : ∀ z, z = x &&& y → Go K rm Z n0 bs ml ret own nm Q kc ks h pc' L (.int z :: S)) : Go K rm Z n0 bs ml ret own nm Q kc ks h pc L (.int y :: .int x :: S) := by
  subst hp
  obtain ⟨p, l, e, s, m, args, below, meth, c⟩ := K
  intro hx hby hml hown hZ hret hlk hnm T locs X hF hh
  obtain ⟨s₂, v, L', st, r⟩ := hr _ rfl hx hby hml hown hZ hret hlk hnm T locs X hF hh
  exact ⟨s₂, v, L', XS.iand X.here hx rfl (hb hby hd) rfl st, r⟩
theorem ior {x y : Int32} (hd : decode bs pc = .ok (.ior, 1)) (hp : pc + 1 = pc') (hr : ∀ z, z = x ||| y → Go K rm Z n0 bs ml ret own nm Q kc ks h pc' L (.int z :: S)) : Go K rm Z n0 bs ml ret own nm Q kc ks h pc L (.int y :: .int x :: S) := by
  subst hp
  obtain ⟨p, l, e, s, m, args, below, meth, c⟩ := K
  intro hx hby hml hown hZ hret hlk hnm T locs X hF hh
  obtain ⟨s₂, v, L', st, r⟩ := hr _ rfl hx hby hml hown hZ hret hlk hnm T locs X hF hh
  exact ⟨s₂, v, L', XS.ior X.here hx rfl (hb hby hd) rfl st, r⟩
theorem ixor {x y : Int32} (hd : decode bs pc = .ok (.ixor, 1)) (hp : pc + 1 = pc') (hr : ∀ z, z = x ^^^ y → Go K rm Z n0 bs ml ret own nm Q kc ks h pc' L (.int z :: S)) : Go K rm Z n0 bs ml ret own nm Q kc ks h pc L (.int y :: .int x :: S) := by
  subst hp
  obtain ⟨p, l, e, s, m, args, below, meth, c⟩ := K
  intro hx hby hml hown hZ hret hlk hnm T locs X hF hh
  obtain ⟨s₂, v, L', st, r⟩ := hr _ rfl hx hby hml hown hZ hret hlk hnm T locs X hF hh
  exact ⟨s₂, v, L', XS.ixor X.here hx rfl (hb hby hd) rfl st, r⟩
theorem ishl {x y : Int32} (hd : decode bs pc = .ok (.ishl, 1)) (hp : pc + 1 = pc') (hr : ∀ z, z = x <<< (y &&& 31) → Go K rm Z n0 bs ml ret own nm Q kc ks h pc' L (.int z :: S)) : Go K rm Z n0 bs ml ret own nm Q kc ks h pc L (.int y :: .int x :: S) := by
  subst hp
  obtain ⟨p, l, e, s, m, args, below, meth, c⟩ := K
  intro hx hby hml hown hZ hret hlk hnm T locs X hF hh
  obtain ⟨s₂, v, L', st, r⟩ := hr _ rfl hx hby hml hown hZ hret hlk hnm T locs X hF hh
  exact ⟨s₂, v, L', XS.ishl X.here hx rfl (hb hby hd) rfl st, r⟩
theorem ishr {x y : Int32} (hd : decode bs pc = .ok (.ishr, 1)) (hp : pc + 1 = pc') (hr : ∀ z, z = x >>> (y &&& 31) → Go K rm Z n0 bs ml ret own nm Q kc ks h pc' L (.int z :: S)) : Go K rm Z n0 bs ml ret own nm Q kc ks h pc L (.int y :: .int x :: S) := by
  subst hp
  obtain ⟨p, l, e, s, m, args, below, meth, c⟩ := K
  intro hx hby hml hown hZ hret hlk hnm T locs X hF hh
  obtain ⟨s₂, v, L', st, r⟩ := hr _ rfl hx hby hml hown hZ hret hlk hnm T locs X hF hh
  exact ⟨s₂, v, L', XS.ishr X.here hx rfl (hb hby hd) rfl st, r⟩
theorem iushr {x y : Int32} (hd : decode bs pc = .ok (.iushr, 1)) (hp : pc + 1 = pc') (hr : ∀ z, z = Jvm.Own.ushr x y → Go K rm Z n0 bs ml ret own nm Q kc ks h pc' L (.int z :: S)) : Go K rm Z n0 bs ml ret own nm Q kc ks h pc L (.int y :: .int x :: S) := by
  subst hp
  obtain ⟨p, l, e, s, m, args, below, meth, c⟩ := K
  intro hx hby hml hown hZ hret hlk hnm T locs X hF hh
  obtain ⟨s₂, v, L', st, r⟩ := hr _ rfl hx hby hml hown hZ hret hlk hnm T locs X hF hh
  exact ⟨s₂, v, L', XS.iushr X.here hx rfl (hb hby hd) rfl st, r⟩
theorem ladd {x y : Int64} (hd : decode bs pc = .ok (.ladd, 1)) (hp : pc + 1 = pc') (hr : ∀ z, z = x + y → Go K rm Z n0 bs ml ret own nm Q kc ks h pc' L (.long z :: S)) : Go K rm Z n0 bs ml ret own nm Q kc ks h pc L (.long y :: .long x :: S) := by
  subst hp
  obtain ⟨p, l, e, s, m, args, below, meth, c⟩ := K
  intro hx hby hml hown hZ hret hlk hnm T locs X hF hh
  obtain ⟨s₂, v, L', st, r⟩ := hr _ rfl hx hby hml hown hZ hret hlk hnm T locs X hF hh
  exact ⟨s₂, v, L', XS.ladd X.here hx rfl (hb hby hd) rfl st, r⟩
theorem lsub {x y : Int64} (hd : decode bs pc = .ok (.lsub, 1)) (hp : pc + 1 = pc') (hr : ∀ z, z = x - y → Go K rm Z n0 bs ml ret own nm Q kc ks h pc' L (.long z :: S)) : Go K rm Z n0 bs ml ret own nm Q kc ks h pc L (.long y :: .long x :: S) := by
  subst hp
  obtain ⟨p, l, e, s, m, args, below, meth, c⟩ := K
  intro hx hby hml hown hZ hret hlk hnm T locs X hF hh
  obtain ⟨s₂, v, L', st, r⟩ := hr _ rfl hx hby hml hown hZ hret hlk hnm T locs X hF hh
  exact ⟨s₂, v, L', XS.lsub X.here hx rfl (hb hby hd) rfl st, r⟩
theorem lmul {x y : Int64} (hd : decode bs pc = .ok (.lmul, 1)) (hp : pc + 1 = pc') (hr : ∀ z, z = x * y → Go K rm Z n0 bs ml ret own nm Q kc ks h pc' L (.long z :: S)) : Go K rm Z n0 bs ml ret own nm Q kc ks h pc L (.long y :: .long x :: S) := by
  subst hp
  obtain ⟨p, l, e, s, m, args, below, meth, c⟩ := K
  intro hx hby hml hown hZ hret hlk hnm T locs X hF hh
  obtain ⟨s₂, v, L', st, r⟩ := hr _ rfl hx hby hml hown hZ hret hlk hnm T locs X hF hh
  exact ⟨s₂, v, L', XS.lmul X.here hx rfl (hb hby hd) rfl st, r⟩
theorem land {x y : Int64} (hd : decode bs pc = .ok (.land, 1)) (hp : pc + 1 = pc') (hr : ∀ z, z = x &&& y → Go K rm Z n0 bs ml ret own nm Q kc ks h pc' L (.long z :: S)) : Go K rm Z n0 bs ml ret own nm Q kc ks h pc L (.long y :: .long x :: S) := by
  subst hp
  obtain ⟨p, l, e, s, m, args, below, meth, c⟩ := K
  intro hx hby hml hown hZ hret hlk hnm T locs X hF hh
  obtain ⟨s₂, v, L', st, r⟩ := hr _ rfl hx hby hml hown hZ hret hlk hnm T locs X hF hh
  exact ⟨s₂, v, L', XS.land X.here hx rfl (hb hby hd) rfl st, r⟩
theorem lor {x y : Int64} (hd : decode bs pc = .ok (.lor, 1)) (hp : pc + 1 = pc') (hr : ∀ z, z = x ||| y → Go K rm Z n0 bs ml ret own nm Q kc ks h pc' L (.long z :: S)) : Go K rm Z n0 bs ml ret own nm Q kc ks h pc L (.long y :: .long x :: S) := by
  subst hp
  obtain ⟨p, l, e, s, m, args, below, meth, c⟩ := K
  intro hx hby hml hown hZ hret hlk hnm T locs X hF hh
  obtain ⟨s₂, v, L', st, r⟩ := hr _ rfl hx hby hml hown hZ hret hlk hnm T locs X hF hh
  exact ⟨s₂, v, L', XS.lor X.here hx rfl (hb hby hd) rfl st, r⟩
theorem lxor {x y : Int64} (hd : decode bs pc = .ok (.lxor, 1)) (hp : pc + 1 = pc') (hr : ∀ z, z = x ^^^ y → Go K rm Z n0 bs ml ret own nm Q kc ks h pc' L (.long z :: S)) : Go K rm Z n0 bs ml ret own nm Q kc ks h pc L (.long y :: .long x :: S) := by
  subst hp
  obtain ⟨p, l, e, s, m, args, below, meth, c⟩ := K
  intro hx hby hml hown hZ hret hlk hnm T locs X hF hh
  obtain ⟨s₂, v, L', st, r⟩ := hr _ rfl hx hby hml hown hZ hret hlk hnm T locs X hF hh
  exact ⟨s₂, v, L', XS.lxor X.here hx rfl (hb hby hd) rfl st, r⟩
theorem lshl {x : Int64} {y : Int32} (hd : decode bs pc = .ok (.lshl, 1)) (hp : pc + 1 = pc') (hr : ∀ z, z = x <<< (y &&& 63).toInt64 → Go K rm Z n0 bs ml ret own nm Q kc ks h pc' L (.long z :: S)) : Go K rm Z n0 bs ml ret own nm Q kc ks h pc L (.int y :: .long x :: S) := by
  subst hp
  obtain ⟨p, l, e, s, m, args, below, meth, c⟩ := K
  intro hx hby hml hown hZ hret hlk hnm T locs X hF hh
  obtain ⟨s₂, v, L', st, r⟩ := hr _ rfl hx hby hml hown hZ hret hlk hnm T locs X hF hh
  exact ⟨s₂, v, L', XS.lshl X.here hx rfl (hb hby hd) rfl st, r⟩
theorem lshr {x : Int64} {y : Int32} (hd : decode bs pc = .ok (.lshr, 1)) (hp : pc + 1 = pc') (hr : ∀ z, z = x >>> (y &&& 63).toInt64 → Go K rm Z n0 bs ml ret own nm Q kc ks h pc' L (.long z :: S)) : Go K rm Z n0 bs ml ret own nm Q kc ks h pc L (.int y :: .long x :: S) := by
  subst hp
  obtain ⟨p, l, e, s, m, args, below, meth, c⟩ := K
  intro hx hby hml hown hZ hret hlk hnm T locs X hF hh
  obtain ⟨s₂, v, L', st, r⟩ := hr _ rfl hx hby hml hown hZ hret hlk hnm T locs X hF hh
  exact ⟨s₂, v, L', XS.lshr X.here hx rfl (hb hby hd) rfl st, r⟩
theorem lushr {x : Int64} {y : Int32} (hd : decode bs pc = .ok (.lushr, 1)) (hp : pc + 1 = pc') (hr : ∀ z, z = Jvm.Own.ushrL x y → Go K rm Z n0 bs ml ret own nm Q kc ks h pc' L (.long z :: S)) : Go K rm Z n0 bs ml ret own nm Q kc ks h pc L (.int y :: .long x :: S) := by
  subst hp
  obtain ⟨p, l, e, s, m, args, below, meth, c⟩ := K
  intro hx hby hml hown hZ hret hlk hnm T locs X hF hh
  obtain ⟨s₂, v, L', st, r⟩ := hr _ rfl hx hby hml hown hZ hret hlk hnm T locs X hF hh
  exact ⟨s₂, v, L', XS.lushr X.here hx rfl (hb hby hd) rfl st, r⟩
theorem idiv {x y : Int32} (hd : decode bs pc = .ok (.idiv, 1)) (hy : y ≠ 0) (hp : pc + 1 = pc') (hr : ∀ z, z = x / y → Go K rm Z n0 bs ml ret own nm Q kc ks h pc' L (.int z :: S)) : Go K rm Z n0 bs ml ret own nm Q kc ks h pc L (.int y :: .int x :: S) := by
  subst hp
  obtain ⟨p, l, e, s, m, args, below, meth, c⟩ := K
  intro hx hby hml hown hZ hret hlk hnm T locs X hF hh
  obtain ⟨s₂, v, L', st, r⟩ := hr _ rfl hx hby hml hown hZ hret hlk hnm T locs X hF hh
  exact ⟨s₂, v, L', XS.idiv X.here hx rfl (hb hby hd) rfl hy st, r⟩
theorem irem {x y : Int32} (hd : decode bs pc = .ok (.irem, 1)) (hy : y ≠ 0) (hp : pc + 1 = pc') (hr : ∀ z, z = x % y → Go K rm Z n0 bs ml ret own nm Q kc ks h pc' L (.int z :: S)) : Go K rm Z n0 bs ml ret own nm Q kc ks h pc L (.int y :: .int x :: S) := by
  subst hp
  obtain ⟨p, l, e, s, m, args, below, meth, c⟩ := K
  intro hx hby hml hown hZ hret hlk hnm T locs X hF hh
  obtain ⟨s₂, v, L', st, r⟩ := hr _ rfl hx hby hml hown hZ hret hlk hnm T locs X hF hh
  exact ⟨s₂, v, L', iremM X hx rfl (hb hby hd) rfl hy st, r⟩
theorem ldiv {x y : Int64} (hd : decode bs pc = .ok (.ldiv, 1)) (hy : y ≠ 0) (hp : pc + 1 = pc') (hr : ∀ z, z = x / y → Go K rm Z n0 bs ml ret own nm Q kc ks h pc' L (.long z :: S)) : Go K rm Z n0 bs ml ret own nm Q kc ks h pc L (.long y :: .long x :: S) := by
  subst hp
  obtain ⟨p, l, e, s, m, args, below, meth, c⟩ := K
  intro hx hby hml hown hZ hret hlk hnm T locs X hF hh
  obtain ⟨s₂, v, L', st, r⟩ := hr _ rfl hx hby hml hown hZ hret hlk hnm T locs X hF hh
  exact ⟨s₂, v, L', XS.ldiv X.here hx rfl (hb hby hd) rfl hy st, r⟩
theorem lrem {x y : Int64} (hd : decode bs pc = .ok (.lrem, 1)) (hy : y ≠ 0) (hp : pc + 1 = pc') (hr : ∀ z, z = x - (x / y) * y → Go K rm Z n0 bs ml ret own nm Q kc ks h pc' L (.long z :: S)) : Go K rm Z n0 bs ml ret own nm Q kc ks h pc L (.long y :: .long x :: S) := by
  subst hp
  obtain ⟨p, l, e, s, m, args, below, meth, c⟩ := K
  intro hx hby hml hown hZ hret hlk hnm T locs X hF hh
  obtain ⟨s₂, v, L', st, r⟩ := hr _ rfl hx hby hml hown hZ hret hlk hnm T locs X hF hh
  exact ⟨s₂, v, L', XS.lrem X.here hx rfl (hb hby hd) rfl hy st, r⟩
theorem ineg {x : Int32} (hd : decode bs pc = .ok (.ineg, 1)) (hp : pc + 1 = pc') (hr : ∀ z, z = -x → Go K rm Z n0 bs ml ret own nm Q kc ks h pc' L (.int z :: S)) : Go K rm Z n0 bs ml ret own nm Q kc ks h pc L (.int x :: S) := by
  subst hp
  obtain ⟨p, l, e, s, m, args, below, meth, c⟩ := K
  intro hx hby hml hown hZ hret hlk hnm T locs X hF hh
  obtain ⟨s₂, v, L', st, r⟩ := hr _ rfl hx hby hml hown hZ hret hlk hnm T locs X hF hh
  exact ⟨s₂, v, L', XS.ineg X.here hx rfl (hb hby hd) rfl st, r⟩
theorem lneg {x : Int64} (hd : decode bs pc = .ok (.lneg, 1)) (hp : pc + 1 = pc') (hr : ∀ z, z = -x → Go K rm Z n0 bs ml ret own nm Q kc ks h pc' L (.long z :: S)) : Go K rm Z n0 bs ml ret own nm Q kc ks h pc L (.long x :: S) := by
  subst hp
  obtain ⟨p, l, e, s, m, args, below, meth, c⟩ := K
  intro hx hby hml hown hZ hret hlk hnm T locs X hF hh
  obtain ⟨s₂, v, L', st, r⟩ := hr _ rfl hx hby hml hown hZ hret hlk hnm T locs X hF hh
  exact ⟨s₂, v, L', XS.lneg X.here hx rfl (hb hby hd) rfl st, r⟩
theorem i2l {x : Int32} (hd : decode bs pc = .ok (.i2l, 1)) (hp : pc + 1 = pc') (hr : ∀ z, z = x.toInt64 → Go K rm Z n0 bs ml ret own nm Q kc ks h pc' L (.long z :: S)) : Go K rm Z n0 bs ml ret own nm Q kc ks h pc L (.int x :: S) := by
  subst hp
  obtain ⟨p, l, e, s, m, args, below, meth, c⟩ := K
  intro hx hby hml hown hZ hret hlk hnm T locs X hF hh
  obtain ⟨s₂, v, L', st, r⟩ := hr _ rfl hx hby hml hown hZ hret hlk hnm T locs X hF hh
  exact ⟨s₂, v, L', XS.i2l X.here hx rfl (hb hby hd) rfl st, r⟩
theorem l2i {x : Int64} (hd : decode bs pc = .ok (.l2i, 1)) (hp : pc + 1 = pc') (hr : ∀ z, z = x.toInt32 → Go K rm Z n0 bs ml ret own nm Q kc ks h pc' L (.int z :: S)) : Go K rm Z n0 bs ml ret own nm Q kc ks h pc L (.long x :: S) := by
  subst hp
  obtain ⟨p, l, e, s, m, args, below, meth, c⟩ := K
  intro hx hby hml hown hZ hret hlk hnm T locs X hF hh
  obtain ⟨s₂, v, L', st, r⟩ := hr _ rfl hx hby hml hown hZ hret hlk hnm T locs X hF hh
  exact ⟨s₂, v, L', XS.l2i X.here hx rfl (hb hby hd) rfl st, r⟩
theorem i2b {x : Int32} (hd : decode bs pc = .ok (.i2b, 1)) (hp : pc + 1 = pc') (hr : ∀ z, z = x.toInt8.toInt32 → Go K rm Z n0 bs ml ret own nm Q kc ks h pc' L (.int z :: S)) : Go K rm Z n0 bs ml ret own nm Q kc ks h pc L (.int x :: S) := by
  subst hp
  obtain ⟨p, l, e, s, m, args, below, meth, c⟩ := K
  intro hx hby hml hown hZ hret hlk hnm T locs X hF hh
  obtain ⟨s₂, v, L', st, r⟩ := hr _ rfl hx hby hml hown hZ hret hlk hnm T locs X hF hh
  exact ⟨s₂, v, L', XS.i2b X.here hx rfl (hb hby hd) rfl st, r⟩
theorem i2c {x : Int32} (hd : decode bs pc = .ok (.i2c, 1)) (hp : pc + 1 = pc') (hr : ∀ z, z = x.toUInt32.toUInt16.toUInt32.toInt32 → Go K rm Z n0 bs ml ret own nm Q kc ks h pc' L (.int z :: S)) : Go K rm Z n0 bs ml ret own nm Q kc ks h pc L (.int x :: S) := by
  subst hp
  obtain ⟨p, l, e, s, m, args, below, meth, c⟩ := K
  intro hx hby hml hown hZ hret hlk hnm T locs X hF hh
  obtain ⟨s₂, v, L', st, r⟩ := hr _ rfl hx hby hml hown hZ hret hlk hnm T locs X hF hh
  exact ⟨s₂, v, L', XS.i2c X.here hx rfl (hb hby hd) rfl st, r⟩
theorem iinc {k : Nat} {i : Int} {x : Int32} {L1 : Int32 → Array Slot} (hd : decode bs pc = .ok (.iinc k i, 3)) (hl : L[k]? = some (.val (.int x))) (hl1 : ∀ z : Int32, storeLocals L k (.int z) = some (L1 z)) (hp : pc + 3 = pc') (hr : ∀ z, z = x + Int32.ofInt i → Go K rm Z n0 bs ml ret own nm Q kc ks h pc' (L1 z) S) : Go K rm Z n0 bs ml ret own nm Q kc ks h pc L S := by
  subst hp
  obtain ⟨p, l, e, s, m, args, below, meth, c⟩ := K
  intro hx hby hml hown hZ hret hlk hnm T locs X hF hh
  obtain ⟨s₂, v, L', st, r⟩ := hr _ rfl hx hby hml hown hZ hret hlk hnm T locs X hF hh
  exact ⟨s₂, v, L', XS.iinc X.here hx rfl (hb hby hd) hl (hl1 _) st, r⟩
theorem dup {x : Value} (hd : decode bs pc = .ok (.dup, 1)) (hc : x.category = 1) (hp : pc + 1 = pc') (hr : Go K rm Z n0 bs ml ret own nm Q kc ks h pc' L (x :: x :: S)) : Go K rm Z n0 bs ml ret own nm Q kc ks h pc L (x :: S) := by
  subst hp
  obtain ⟨p, l, e, s, m, args, below, meth, c⟩ := K
  intro hx hby hml hown hZ hret hlk hnm T locs X hF hh
  obtain ⟨s₂, v, L', st, r⟩ := hr hx hby hml hown hZ hret hlk hnm T locs X hF hh
  exact ⟨s₂, v, L', XS.dup X.here hx rfl (hb hby hd) rfl hc st, r⟩
theorem pop {x : Value} (hd : decode bs pc = .ok (.pop, 1)) (hc : x.category = 1) (hp : pc + 1 = pc') (hr : Go K rm Z n0 bs ml ret own nm Q kc ks h pc' L S) : Go K rm Z n0 bs ml ret own nm Q kc ks h pc L (x :: S) := by
  subst hp
  obtain ⟨p, l, e, s, m, args, below, meth, c⟩ := K
  intro hx hby hml hown hZ hret hlk hnm T locs X hF hh
  obtain ⟨s₂, v, L', st, r⟩ := hr hx hby hml hown hZ hret hlk hnm T locs X hF hh
  exact ⟨s₂, v, L', XS.pop X.here hx rfl (hb hby hd) rfl hc st, r⟩
theorem dupX1 {x y : Value} (hd : decode bs pc = .ok (.dup_x1, 1)) (hc : x.category = 1) (hc2 : y.category = 1) (hp : pc + 1 = pc') (hr : Go K rm Z n0 bs ml ret own nm Q kc ks h pc' L (x :: y :: x :: S)) : Go K rm Z n0 bs ml ret own nm Q kc ks h pc L (x :: y :: S) := by
  subst hp
  obtain ⟨p, l, e, s, m, args, below, meth, c⟩ := K
  intro hx hby hml hown hZ hret hlk hnm T locs X hF hh
  obtain ⟨s₂, v, L', st, r⟩ := hr hx hby hml hown hZ hret hlk hnm T locs X hF hh
  exact ⟨s₂, v, L', XS.dupX1 X.here hx rfl (hb hby hd) rfl hc hc2 st, r⟩
theorem goto {o : Int} (hd : decode bs pc = .ok (.goto o, 3)) (ho : 0 ≤ (pc : Int) + o) (hp : ((pc : Int) + o).toNat = pc') (hr : Go K rm Z n0 bs ml ret own nm Q kc ks h pc' L S) : Go K rm Z n0 bs ml ret own nm Q kc ks h pc L S := by
  obtain ⟨p, l, e, s, m, args, below, meth, c⟩ := K
  intro hx hby hml hown hZ hret hlk hnm T locs X hF hh
  obtain ⟨s₂, v, L', st, r⟩ := hr hx hby hml hown hZ hret hlk hnm T locs X hF hh
  exact ⟨s₂, v, L', XS.goto X.here hx rfl (pc0 := pc) (pc' := pc') rfl (hb hby hd) ho hp st, r⟩
theorem holds_iff (cd : ClassFile.Cond) (x y : Int32) : if_icmp.holds cd x y = true ↔ (match cd with | .lt => x.toInt < y.toInt | .ge => y.toInt ≤ x.toInt | .gt => y.toInt < x.toInt | .le => x.toInt ≤ y.toInt | .eq => x = y | .ne => x ≠ y) := by
  cases cd <;> simp [if_icmp.holds, Int32.lt_iff_toInt_lt, Int32.le_iff_toInt_le]
theorem icmp_lt {x y : Int32} {o : Int} {pc2 : Nat} (hd : decode bs pc = .ok (.if_icmp .lt o, 3)) (ho : 0 ≤ (pc : Int) + o) (hp : ((pc : Int) + o).toNat = pc') (hp2 : pc + 3 = pc2)
    (hy : x.toInt < y.toInt → Go K rm Z n0 bs ml ret own nm Q kc ks h pc' L S) (hn : ¬ (x.toInt < y.toInt) → Go K rm Z n0 bs ml ret own nm Q kc ks h pc2 L S) : Go K rm Z n0 bs ml ret own nm Q kc ks h pc L (.int y :: .int x :: S) := by
  subst hp2
  by_cases q : x.toInt < y.toInt
  · have q2 := (holds_iff .lt x y).mpr q
    replace hy := hy q
    obtain ⟨p, l, e, s, m, args, below, meth, c⟩ := K
    intro hx hby hml hown hZ hret hlk hnm T locs X hF hh
    obtain ⟨s₂, v, L', st, r⟩ := hy hx hby hml hown hZ hret hlk hnm T locs X hF hh
    exact ⟨s₂, v, L', XS.icmpYes X.here hx rfl (pc0 := pc) (pc' := pc') rfl (hb hby hd) rfl q2 ho hp st, r⟩
  · have q2 : if_icmp.holds .lt x y = false := by rw [← Bool.not_eq_true]; exact fun t => q ((holds_iff .lt x y).mp t)
    replace hn := hn q
    obtain ⟨p, l, e, s, m, args, below, meth, c⟩ := K
    intro hx hby hml hown hZ hret hlk hnm T locs X hF hh
    obtain ⟨s₂, v, L', st, r⟩ := hn hx hby hml hown hZ hret hlk hnm T locs X hF hh
    exact ⟨s₂, v, L', XS.icmpNo X.here hx rfl (hb hby hd) rfl q2 st, r⟩
theorem icmp_ge {x y : Int32} {o : Int} {pc2 : Nat} (hd : decode bs pc = .ok (.if_icmp .ge o, 3)) (ho : 0 ≤ (pc : Int) + o) (hp : ((pc : Int) + o).toNat = pc') (hp2 : pc + 3 = pc2)
    (hy : y.toInt ≤ x.toInt → Go K rm Z n0 bs ml ret own nm Q kc ks h pc' L S) (hn : ¬ (y.toInt ≤ x.toInt) → Go K rm Z n0 bs ml ret own nm Q kc ks h pc2 L S) : Go K rm Z n0 bs ml ret own nm Q kc ks h pc L (.int y :: .int x :: S) := by
  subst hp2
  by_cases q : y.toInt ≤ x.toInt
  · have q2 := (holds_iff .ge x y).mpr q
    replace hy := hy q
    obtain ⟨p, l, e, s, m, args, below, meth, c⟩ := K
    intro hx hby hml hown hZ hret hlk hnm T locs X hF hh
    obtain ⟨s₂, v, L', st, r⟩ := hy hx hby hml hown hZ hret hlk hnm T locs X hF hh
    exact ⟨s₂, v, L', XS.icmpYes X.here hx rfl (pc0 := pc) (pc' := pc') rfl (hb hby hd) rfl q2 ho hp st, r⟩
  · have q2 : if_icmp.holds .ge x y = false := by rw [← Bool.not_eq_true]; exact fun t => q ((holds_iff .ge x y).mp t)
    replace hn := hn q
    obtain ⟨p, l, e, s, m, args, below, meth, c⟩ := K
    intro hx hby hml hown hZ hret hlk hnm T locs X hF hh
    obtain ⟨s₂, v, L', st, r⟩ := hn hx hby hml hown hZ hret hlk hnm T locs X hF hh
    exact ⟨s₂, v, L', XS.icmpNo X.here hx rfl (hb hby hd) rfl q2 st, r⟩
theorem icmp_gt {x y : Int32} {o : Int} {pc2 : Nat} (hd : decode bs pc = .ok (.if_icmp .gt o, 3)) (ho : 0 ≤ (pc : Int) + o) (hp : ((pc : Int) + o).toNat = pc') (hp2 : pc + 3 = pc2)
    (hy : y.toInt < x.toInt → Go K rm Z n0 bs ml ret own nm Q kc ks h pc' L S) (hn : ¬ (y.toInt < x.toInt) → Go K rm Z n0 bs ml ret own nm Q kc ks h pc2 L S) : Go K rm Z n0 bs ml ret own nm Q kc ks h pc L (.int y :: .int x :: S) := by
  subst hp2
  by_cases q : y.toInt < x.toInt
  · have q2 := (holds_iff .gt x y).mpr q
    replace hy := hy q
    obtain ⟨p, l, e, s, m, args, below, meth, c⟩ := K
    intro hx hby hml hown hZ hret hlk hnm T locs X hF hh
    obtain ⟨s₂, v, L', st, r⟩ := hy hx hby hml hown hZ hret hlk hnm T locs X hF hh
    exact ⟨s₂, v, L', XS.icmpYes X.here hx rfl (pc0 := pc) (pc' := pc') rfl (hb hby hd) rfl q2 ho hp st, r⟩
  · have q2 : if_icmp.holds .gt x y = false := by rw [← Bool.not_eq_true]; exact fun t => q ((holds_iff .gt x y).mp t)
    replace hn := hn q
    obtain ⟨p, l, e, s, m, args, below, meth, c⟩ := K
    intro hx hby hml hown hZ hret hlk hnm T locs X hF hh
    obtain ⟨s₂, v, L', st, r⟩ := hn hx hby hml hown hZ hret hlk hnm T locs X hF hh
    exact ⟨s₂, v, L', XS.icmpNo X.here hx rfl (hb hby hd) rfl q2 st, r⟩
theorem icmp_le {x y : Int32} {o : Int} {pc2 : Nat} (hd : decode bs pc = .ok (.if_icmp .le o, 3)) (ho : 0 ≤ (pc : Int) + o) (hp : ((pc : Int) + o).toNat = pc') (hp2 : pc + 3 = pc2)
    (hy : x.toInt ≤ y.toInt → Go K rm Z n0 bs ml ret own nm Q kc ks h pc' L S) (hn : ¬ (x.toInt ≤ y.toInt) → Go K rm Z n0 bs ml ret own nm Q kc ks h pc2 L S) : Go K rm Z n0 bs ml ret own nm Q kc ks h pc L (.int y :: .int x :: S) := by
  subst hp2
  by_cases q : x.toInt ≤ y.toInt
  · have q2 := (holds_iff .le x y).mpr q
    replace hy := hy q
    obtain ⟨p, l, e, s, m, args, below, meth, c⟩ := K
    intro hx hby hml hown hZ hret hlk hnm T locs X hF hh
    obtain ⟨s₂, v, L', st, r⟩ := hy hx hby hml hown hZ hret hlk hnm T locs X hF hh
    exact ⟨s₂, v, L', XS.icmpYes X.here hx rfl (pc0 := pc) (pc' := pc') rfl (hb hby hd) rfl q2 ho hp st, r⟩
  · have q2 : if_icmp.holds .le x y = false := by rw [← Bool.not_eq_true]; exact fun t => q ((holds_iff .le x y).mp t)
    replace hn := hn q
    obtain ⟨p, l, e, s, m, args, below, meth, c⟩ := K
    intro hx hby hml hown hZ hret hlk hnm T locs X hF hh
    obtain ⟨s₂, v, L', st, r⟩ := hn hx hby hml hown hZ hret hlk hnm T locs X hF hh
    exact ⟨s₂, v, L', XS.icmpNo X.here hx rfl (hb hby hd) rfl q2 st, r⟩
theorem icmp_eq {x y : Int32} {o : Int} {pc2 : Nat} (hd : decode bs pc = .ok (.if_icmp .eq o, 3)) (ho : 0 ≤ (pc : Int) + o) (hp : ((pc : Int) + o).toNat = pc') (hp2 : pc + 3 = pc2)
    (hy : x = y → Go K rm Z n0 bs ml ret own nm Q kc ks h pc' L S) (hn : ¬ (x = y) → Go K rm Z n0 bs ml ret own nm Q kc ks h pc2 L S) : Go K rm Z n0 bs ml ret own nm Q kc ks h pc L (.int y :: .int x :: S) := by
  subst hp2
  by_cases q : x = y
  · have q2 := (holds_iff .eq x y).mpr q
    replace hy := hy q
    obtain ⟨p, l, e, s, m, args, below, meth, c⟩ := K
    intro hx hby hml hown hZ hret hlk hnm T locs X hF hh
    obtain ⟨s₂, v, L', st, r⟩ := hy hx hby hml hown hZ hret hlk hnm T locs X hF hh
    exact ⟨s₂, v, L', XS.icmpYes X.here hx rfl (pc0 := pc) (pc' := pc') rfl (hb hby hd) rfl q2 ho hp st, r⟩
  · have q2 : if_icmp.holds .eq x y = false := by rw [← Bool.not_eq_true]; exact fun t => q ((holds_iff .eq x y).mp t)
    replace hn := hn q
    obtain ⟨p, l, e, s, m, args, below, meth, c⟩ := K
    intro hx hby hml hown hZ hret hlk hnm T locs X hF hh
    obtain ⟨s₂, v, L', st, r⟩ := hn hx hby hml hown hZ hret hlk hnm T locs X hF hh
    exact ⟨s₂, v, L', XS.icmpNo X.here hx rfl (hb hby hd) rfl q2 st, r⟩
theorem icmp_ne {x y : Int32} {o : Int} {pc2 : Nat} (hd : decode bs pc = .ok (.if_icmp .ne o, 3)) (ho : 0 ≤ (pc : Int) + o) (hp : ((pc : Int) + o).toNat = pc') (hp2 : pc + 3 = pc2)
    (hy : x ≠ y → Go K rm Z n0 bs ml ret own nm Q kc ks h pc' L S) (hn : ¬ (x ≠ y) → Go K rm Z n0 bs ml ret own nm Q kc ks h pc2 L S) : Go K rm Z n0 bs ml ret own nm Q kc ks h pc L (.int y :: .int x :: S) := by
  subst hp2
  by_cases q : x ≠ y
  · have q2 := (holds_iff .ne x y).mpr q
    replace hy := hy q
    obtain ⟨p, l, e, s, m, args, below, meth, c⟩ := K
    intro hx hby hml hown hZ hret hlk hnm T locs X hF hh
    obtain ⟨s₂, v, L', st, r⟩ := hy hx hby hml hown hZ hret hlk hnm T locs X hF hh
    exact ⟨s₂, v, L', XS.icmpYes X.here hx rfl (pc0 := pc) (pc' := pc') rfl (hb hby hd) rfl q2 ho hp st, r⟩
  · have q2 : if_icmp.holds .ne x y = false := by rw [← Bool.not_eq_true]; exact fun t => q ((holds_iff .ne x y).mp t)
    replace hn := hn q
    obtain ⟨p, l, e, s, m, args, below, meth, c⟩ := K
    intro hx hby hml hown hZ hret hlk hnm T locs X hF hh
    obtain ⟨s₂, v, L', st, r⟩ := hn hx hby hml hown hZ hret hlk hnm T locs X hF hh
    exact ⟨s₂, v, L', XS.icmpNo X.here hx rfl (hb hby hd) rfl q2 st, r⟩
theorem if_lt {x : Int32} {o : Int} {pc2 : Nat} (hd : decode bs pc = .ok (.ifCond .lt o, 3)) (ho : 0 ≤ (pc : Int) + o) (hp : ((pc : Int) + o).toNat = pc') (hp2 : pc + 3 = pc2)
    (hy : x.toInt < 0 → Go K rm Z n0 bs ml ret own nm Q kc ks h pc' L S) (hn : ¬ (x.toInt < 0) → Go K rm Z n0 bs ml ret own nm Q kc ks h pc2 L S) : Go K rm Z n0 bs ml ret own nm Q kc ks h pc L (.int x :: S) := by
  subst hp2
  by_cases q : x.toInt < 0
  · have q2 : ifCond.holds .lt x = true := (if0 _ _).trans ((holds_iff .lt x 0).mpr (by simpa using q))
    replace hy := hy q
    obtain ⟨p, l, e, s, m, args, below, meth, c⟩ := K
    intro hx hby hml hown hZ hret hlk hnm T locs X hF hh
    obtain ⟨s₂, v, L', st, r⟩ := hy hx hby hml hown hZ hret hlk hnm T locs X hF hh
    exact ⟨s₂, v, L', XS.ifYes X.here hx rfl (pc0 := pc) (pc' := pc') rfl (hb hby hd) rfl q2 ho hp st, r⟩
  · have q2 : ifCond.holds .lt x = false := by rw [← Bool.not_eq_true, if0]; exact fun t => q (by simpa using (holds_iff .lt x 0).mp t)
    replace hn := hn q
    obtain ⟨p, l, e, s, m, args, below, meth, c⟩ := K
    intro hx hby hml hown hZ hret hlk hnm T locs X hF hh
    obtain ⟨s₂, v, L', st, r⟩ := hn hx hby hml hown hZ hret hlk hnm T locs X hF hh
    exact ⟨s₂, v, L', XS.ifNo X.here hx rfl (hb hby hd) rfl q2 st, r⟩
theorem if_ge {x : Int32} {o : Int} {pc2 : Nat} (hd : decode bs pc = .ok (.ifCond .ge o, 3)) (ho : 0 ≤ (pc : Int) + o) (hp : ((pc : Int) + o).toNat = pc') (hp2 : pc + 3 = pc2)
    (hy : 0 ≤ x.toInt → Go K rm Z n0 bs ml ret own nm Q kc ks h pc' L S) (hn : ¬ (0 ≤ x.toInt) → Go K rm Z n0 bs ml ret own nm Q kc ks h pc2 L S) : Go K rm Z n0 bs ml ret own nm Q kc ks h pc L (.int x :: S) := by
  subst hp2
  by_cases q : 0 ≤ x.toInt
  · have q2 : ifCond.holds .ge x = true := (if0 _ _).trans ((holds_iff .ge x 0).mpr (by simpa using q))
    replace hy := hy q
    obtain ⟨p, l, e, s, m, args, below, meth, c⟩ := K
    intro hx hby hml hown hZ hret hlk hnm T locs X hF hh
    obtain ⟨s₂, v, L', st, r⟩ := hy hx hby hml hown hZ hret hlk hnm T locs X hF hh
    exact ⟨s₂, v, L', XS.ifYes X.here hx rfl (pc0 := pc) (pc' := pc') rfl (hb hby hd) rfl q2 ho hp st, r⟩
  · have q2 : ifCond.holds .ge x = false := by rw [← Bool.not_eq_true, if0]; exact fun t => q (by simpa using (holds_iff .ge x 0).mp t)
    replace hn := hn q
    obtain ⟨p, l, e, s, m, args, below, meth, c⟩ := K
    intro hx hby hml hown hZ hret hlk hnm T locs X hF hh
    obtain ⟨s₂, v, L', st, r⟩ := hn hx hby hml hown hZ hret hlk hnm T locs X hF hh
    exact ⟨s₂, v, L', XS.ifNo X.here hx rfl (hb hby hd) rfl q2 st, r⟩
theorem if_gt {x : Int32} {o : Int} {pc2 : Nat} (hd : decode bs pc = .ok (.ifCond .gt o, 3)) (ho : 0 ≤ (pc : Int) + o) (hp : ((pc : Int) + o).toNat = pc') (hp2 : pc + 3 = pc2)
    (hy : 0 < x.toInt → Go K rm Z n0 bs ml ret own nm Q kc ks h pc' L S) (hn : ¬ (0 < x.toInt) → Go K rm Z n0 bs ml ret own nm Q kc ks h pc2 L S) : Go K rm Z n0 bs ml ret own nm Q kc ks h pc L (.int x :: S) := by
  subst hp2
  by_cases q : 0 < x.toInt
  · have q2 : ifCond.holds .gt x = true := (if0 _ _).trans ((holds_iff .gt x 0).mpr (by simpa using q))
    replace hy := hy q
    obtain ⟨p, l, e, s, m, args, below, meth, c⟩ := K
    intro hx hby hml hown hZ hret hlk hnm T locs X hF hh
    obtain ⟨s₂, v, L', st, r⟩ := hy hx hby hml hown hZ hret hlk hnm T locs X hF hh
    exact ⟨s₂, v, L', XS.ifYes X.here hx rfl (pc0 := pc) (pc' := pc') rfl (hb hby hd) rfl q2 ho hp st, r⟩
  · have q2 : ifCond.holds .gt x = false := by rw [← Bool.not_eq_true, if0]; exact fun t => q (by simpa using (holds_iff .gt x 0).mp t)
    replace hn := hn q
    obtain ⟨p, l, e, s, m, args, below, meth, c⟩ := K
    intro hx hby hml hown hZ hret hlk hnm T locs X hF hh
    obtain ⟨s₂, v, L', st, r⟩ := hn hx hby hml hown hZ hret hlk hnm T locs X hF hh
    exact ⟨s₂, v, L', XS.ifNo X.here hx rfl (hb hby hd) rfl q2 st, r⟩
theorem if_le {x : Int32} {o : Int} {pc2 : Nat} (hd : decode bs pc = .ok (.ifCond .le o, 3)) (ho : 0 ≤ (pc : Int) + o) (hp : ((pc : Int) + o).toNat = pc') (hp2 : pc + 3 = pc2)
    (hy : x.toInt ≤ 0 → Go K rm Z n0 bs ml ret own nm Q kc ks h pc' L S) (hn : ¬ (x.toInt ≤ 0) → Go K rm Z n0 bs ml ret own nm Q kc ks h pc2 L S) : Go K rm Z n0 bs ml ret own nm Q kc ks h pc L (.int x :: S) := by
  subst hp2
  by_cases q : x.toInt ≤ 0
  · have q2 : ifCond.holds .le x = true := (if0 _ _).trans ((holds_iff .le x 0).mpr (by simpa using q))
    replace hy := hy q
    obtain ⟨p, l, e, s, m, args, below, meth, c⟩ := K
    intro hx hby hml hown hZ hret hlk hnm T locs X hF hh
    obtain ⟨s₂, v, L', st, r⟩ := hy hx hby hml hown hZ hret hlk hnm T locs X hF hh
    exact ⟨s₂, v, L', XS.ifYes X.here hx rfl (pc0 := pc) (pc' := pc') rfl (hb hby hd) rfl q2 ho hp st, r⟩
  · have q2 : ifCond.holds .le x = false := by rw [← Bool.not_eq_true, if0]; exact fun t => q (by simpa using (holds_iff .le x 0).mp t)
    replace hn := hn q
    obtain ⟨p, l, e, s, m, args, below, meth, c⟩ := K
    intro hx hby hml hown hZ hret hlk hnm T locs X hF hh
    obtain ⟨s₂, v, L', st, r⟩ := hn hx hby hml hown hZ hret hlk hnm T locs X hF hh
    exact ⟨s₂, v, L', XS.ifNo X.here hx rfl (hb hby hd) rfl q2 st, r⟩
theorem if_eq {x : Int32} {o : Int} {pc2 : Nat} (hd : decode bs pc = .ok (.ifCond .eq o, 3)) (ho : 0 ≤ (pc : Int) + o) (hp : ((pc : Int) + o).toNat = pc') (hp2 : pc + 3 = pc2)
    (hy : x = 0 → Go K rm Z n0 bs ml ret own nm Q kc ks h pc' L S) (hn : ¬ (x = 0) → Go K rm Z n0 bs ml ret own nm Q kc ks h pc2 L S) : Go K rm Z n0 bs ml ret own nm Q kc ks h pc L (.int x :: S) := by
  subst hp2
  by_cases q : x = 0
  · have q2 : ifCond.holds .eq x = true := (if0 _ _).trans ((holds_iff .eq x 0).mpr (by simpa using q))
    replace hy := hy q
    obtain ⟨p, l, e, s, m, args, below, meth, c⟩ := K
    intro hx hby hml hown hZ hret hlk hnm T locs X hF hh
    obtain ⟨s₂, v, L', st, r⟩ := hy hx hby hml hown hZ hret hlk hnm T locs X hF hh
    exact ⟨s₂, v, L', XS.ifYes X.here hx rfl (pc0 := pc) (pc' := pc') rfl (hb hby hd) rfl q2 ho hp st, r⟩
  · have q2 : ifCond.holds .eq x = false := by rw [← Bool.not_eq_true, if0]; exact fun t => q (by simpa using (holds_iff .eq x 0).mp t)
    replace hn := hn q
    obtain ⟨p, l, e, s, m, args, below, meth, c⟩ := K
    intro hx hby hml hown hZ hret hlk hnm T locs X hF hh
    obtain ⟨s₂, v, L', st, r⟩ := hn hx hby hml hown hZ hret hlk hnm T locs X hF hh
    exact ⟨s₂, v, L', XS.ifNo X.here hx rfl (hb hby hd) rfl q2 st, r⟩
theorem if_ne {x : Int32} {o : Int} {pc2 : Nat} (hd : decode bs pc = .ok (.ifCond .ne o, 3)) (ho : 0 ≤ (pc : Int) + o) (hp : ((pc : Int) + o).toNat = pc') (hp2 : pc + 3 = pc2)
    (hy : x ≠ 0 → Go K rm Z n0 bs ml ret own nm Q kc ks h pc' L S) (hn : ¬ (x ≠ 0) → Go K rm Z n0 bs ml ret own nm Q kc ks h pc2 L S) : Go K rm Z n0 bs ml ret own nm Q kc ks h pc L (.int x :: S) := by
  subst hp2
  by_cases q : x ≠ 0
  · have q2 : ifCond.holds .ne x = true := (if0 _ _).trans ((holds_iff .ne x 0).mpr (by simpa using q))
    replace hy := hy q
    obtain ⟨p, l, e, s, m, args, below, meth, c⟩ := K
    intro hx hby hml hown hZ hret hlk hnm T locs X hF hh
    obtain ⟨s₂, v, L', st, r⟩ := hy hx hby hml hown hZ hret hlk hnm T locs X hF hh
    exact ⟨s₂, v, L', XS.ifYes X.here hx rfl (pc0 := pc) (pc' := pc') rfl (hb hby hd) rfl q2 ho hp st, r⟩
  · have q2 : ifCond.holds .ne x = false := by rw [← Bool.not_eq_true, if0]; exact fun t => q (by simpa using (holds_iff .ne x 0).mp t)
    replace hn := hn q
    obtain ⟨p, l, e, s, m, args, below, meth, c⟩ := K
    intro hx hby hml hown hZ hret hlk hnm T locs X hF hh
    obtain ⟨s₂, v, L', st, r⟩ := hn hx hby hml hown hZ hret hlk hnm T locs X hF hh
    exact ⟨s₂, v, L', XS.ifNo X.here hx rfl (hb hby hd) rfl q2 st, r⟩
theorem lcmp0 {x y : Int64} (hd : decode bs pc = .ok (.lcmp, 1)) (hp : pc + 1 = pc') (hr : Go K rm Z n0 bs ml ret own nm Q kc ks h pc' L (.int (lcmpW x y) :: S)) : Go K rm Z n0 bs ml ret own nm Q kc ks h pc L (.long y :: .long x :: S) := by
  subst hp
  obtain ⟨p, l, e, s, m, args, below, meth, c⟩ := K
  intro hx hby hml hown hZ hret hlk hnm T locs X hF hh
  obtain ⟨s₂, v, L', st, r⟩ := hr hx hby hml hown hZ hret hlk hnm T locs X hF hh
  exact ⟨s₂, v, L', XS.lcmp X.here hx rfl (hb hby hd) rfl st, r⟩
theorem lw_pos (x y : Int64) : (lcmpW x y).toInt < 0 ↔ x.toInt < y.toInt := by
  have := lw_lt x y; rw [Int32.lt_iff_toInt_lt, Int64.lt_iff_toInt_lt] at this; simpa using this
theorem lw_neg (x y : Int64) : 0 < (lcmpW x y).toInt ↔ y.toInt < x.toInt := by
  have := lw_gt x y; rw [Int32.lt_iff_toInt_lt, Int64.lt_iff_toInt_lt] at this; simpa using this
theorem lcmp_lt {x y : Int64} {o : Int} {pc1 pc2 : Nat} (hd : decode bs pc = .ok (.lcmp, 1)) (hp1 : pc + 1 = pc1) (hd1 : decode bs pc1 = .ok (.ifCond .lt o, 3)) (ho : 0 ≤ (pc1 : Int) + o) (hp : ((pc1 : Int) + o).toNat = pc') (hp2 : pc1 + 3 = pc2)
    (hy : x.toInt < y.toInt → Go K rm Z n0 bs ml ret own nm Q kc ks h pc' L S) (hn : ¬ (x.toInt < y.toInt) → Go K rm Z n0 bs ml ret own nm Q kc ks h pc2 L S) : Go K rm Z n0 bs ml ret own nm Q kc ks h pc L (.long y :: .long x :: S) := by
  have e : ((lcmpW x y).toInt < 0) ↔ (x.toInt < y.toInt) := lw_pos x y
  exact lcmp0 hd hp1 (if_lt hd1 ho hp hp2 (fun q => hy (e.mp q)) (fun q => hn (fun t => q (e.mpr t))))
theorem lcmp_ge {x y : Int64} {o : Int} {pc1 pc2 : Nat} (hd : decode bs pc = .ok (.lcmp, 1)) (hp1 : pc + 1 = pc1) (hd1 : decode bs pc1 = .ok (.ifCond .ge o, 3)) (ho : 0 ≤ (pc1 : Int) + o) (hp : ((pc1 : Int) + o).toNat = pc') (hp2 : pc1 + 3 = pc2)
    (hy : y.toInt ≤ x.toInt → Go K rm Z n0 bs ml ret own nm Q kc ks h pc' L S) (hn : ¬ (y.toInt ≤ x.toInt) → Go K rm Z n0 bs ml ret own nm Q kc ks h pc2 L S) : Go K rm Z n0 bs ml ret own nm Q kc ks h pc L (.long y :: .long x :: S) := by
  have e : (0 ≤ (lcmpW x y).toInt) ↔ (y.toInt ≤ x.toInt) := (by rw [← Int.not_lt, ← Int.not_lt, lw_pos])
  exact lcmp0 hd hp1 (if_ge hd1 ho hp hp2 (fun q => hy (e.mp q)) (fun q => hn (fun t => q (e.mpr t))))
theorem lcmp_gt {x y : Int64} {o : Int} {pc1 pc2 : Nat} (hd : decode bs pc = .ok (.lcmp, 1)) (hp1 : pc + 1 = pc1) (hd1 : decode bs pc1 = .ok (.ifCond .gt o, 3)) (ho : 0 ≤ (pc1 : Int) + o) (hp : ((pc1 : Int) + o).toNat = pc') (hp2 : pc1 + 3 = pc2)
    (hy : y.toInt < x.toInt → Go K rm Z n0 bs ml ret own nm Q kc ks h pc' L S) (hn : ¬ (y.toInt < x.toInt) → Go K rm Z n0 bs ml ret own nm Q kc ks h pc2 L S) : Go K rm Z n0 bs ml ret own nm Q kc ks h pc L (.long y :: .long x :: S) := by
  have e : (0 < (lcmpW x y).toInt) ↔ (y.toInt < x.toInt) := lw_neg x y
  exact lcmp0 hd hp1 (if_gt hd1 ho hp hp2 (fun q => hy (e.mp q)) (fun q => hn (fun t => q (e.mpr t))))
theorem lcmp_le {x y : Int64} {o : Int} {pc1 pc2 : Nat} (hd : decode bs pc = .ok (.lcmp, 1)) (hp1 : pc + 1 = pc1) (hd1 : decode bs pc1 = .ok (.ifCond .le o, 3)) (ho : 0 ≤ (pc1 : Int) + o) (hp : ((pc1 : Int) + o).toNat = pc') (hp2 : pc1 + 3 = pc2)
    (hy : x.toInt ≤ y.toInt → Go K rm Z n0 bs ml ret own nm Q kc ks h pc' L S) (hn : ¬ (x.toInt ≤ y.toInt) → Go K rm Z n0 bs ml ret own nm Q kc ks h pc2 L S) : Go K rm Z n0 bs ml ret own nm Q kc ks h pc L (.long y :: .long x :: S) := by
  have e : ((lcmpW x y).toInt ≤ 0) ↔ (x.toInt ≤ y.toInt) := (by rw [← Int.not_lt, ← Int.not_lt, lw_neg])
  exact lcmp0 hd hp1 (if_le hd1 ho hp hp2 (fun q => hy (e.mp q)) (fun q => hn (fun t => q (e.mpr t))))
theorem lcmp_eq {x y : Int64} {o : Int} {pc1 pc2 : Nat} (hd : decode bs pc = .ok (.lcmp, 1)) (hp1 : pc + 1 = pc1) (hd1 : decode bs pc1 = .ok (.ifCond .eq o, 3)) (ho : 0 ≤ (pc1 : Int) + o) (hp : ((pc1 : Int) + o).toNat = pc') (hp2 : pc1 + 3 = pc2)
    (hy : x = y → Go K rm Z n0 bs ml ret own nm Q kc ks h pc' L S) (hn : ¬ (x = y) → Go K rm Z n0 bs ml ret own nm Q kc ks h pc2 L S) : Go K rm Z n0 bs ml ret own nm Q kc ks h pc L (.long y :: .long x :: S) := by
  have e : ((lcmpW x y) = 0) ↔ (x = y) := lw_eq x y
  exact lcmp0 hd hp1 (if_eq hd1 ho hp hp2 (fun q => hy (e.mp q)) (fun q => hn (fun t => q (e.mpr t))))
theorem lcmp_ne {x y : Int64} {o : Int} {pc1 pc2 : Nat} (hd : decode bs pc = .ok (.lcmp, 1)) (hp1 : pc + 1 = pc1) (hd1 : decode bs pc1 = .ok (.ifCond .ne o, 3)) (ho : 0 ≤ (pc1 : Int) + o) (hp : ((pc1 : Int) + o).toNat = pc') (hp2 : pc1 + 3 = pc2)
    (hy : x ≠ y → Go K rm Z n0 bs ml ret own nm Q kc ks h pc' L S) (hn : ¬ (x ≠ y) → Go K rm Z n0 bs ml ret own nm Q kc ks h pc2 L S) : Go K rm Z n0 bs ml ret own nm Q kc ks h pc L (.long y :: .long x :: S) := by
  have e : ((lcmpW x y) ≠ 0) ↔ (x ≠ y) := not_congr (lw_eq x y)
  exact lcmp0 hd hp1 (if_ne hd1 ho hp hp2 (fun q => hy (e.mp q)) (fun q => hn (fun t => q (e.mpr t))))
theorem ifnull_yes {o : Int} (hd : decode bs pc = .ok (.ifnull o, 3)) (ho : 0 ≤ (pc : Int) + o) (hp : ((pc : Int) + o).toNat = pc') (hr : Go K rm Z n0 bs ml ret own nm Q kc ks h pc' L S) : Go K rm Z n0 bs ml ret own nm Q kc ks h pc L (.null :: S) := by
  obtain ⟨p, l, e, s, m, args, below, meth, c⟩ := K
  intro hx hby hml hown hZ hret hlk hnm T locs X hF hh
  obtain ⟨s₂, v, L', st, r⟩ := hr hx hby hml hown hZ hret hlk hnm T locs X hF hh
  exact ⟨s₂, v, L', XS.ifnullYes X.here hx rfl (pc0 := pc) (pc' := pc') rfl (hb hby hd) rfl ho hp st, r⟩
theorem ifnull_no {o : Int} {b : Addr} (hd : decode bs pc = .ok (.ifnull o, 3)) (hp : pc + 3 = pc') (hr : Go K rm Z n0 bs ml ret own nm Q kc ks h pc' L S) : Go K rm Z n0 bs ml ret own nm Q kc ks h pc L (.ref b :: S) := by
  subst hp
  obtain ⟨p, l, e, s, m, args, below, meth, c⟩ := K
  intro hx hby hml hown hZ hret hlk hnm T locs X hF hh
  obtain ⟨s₂, v, L', st, r⟩ := hr hx hby hml hown hZ hret hlk hnm T locs X hF hh
  exact ⟨s₂, v, L', XS.ifnullNo X.here hx rfl (hb hby hd) rfl st, r⟩
theorem getfield {R0 O n d host : String} {idx : Nat} {a : Addr} {v : Value} (hd : decode bs pc = .ok (.getfield idx, 3)) (hp : pc + 3 = pc') (w : (Jvm.Cond.fieldLink own idx R0 n d).before a0 Z = true ∨ (Jvm.Cond.fieldLinkNest own idx R0 n d host).before a0 Z = true) (via : Via Z R0 O n d) (F : Fld Z h a O n d v) (hr : Go K rm Z n0 bs ml ret own nm Q kc ks h pc' L (v :: S)) : Go K rm Z n0 bs ml ret own nm Q kc ks h pc L (.ref a :: S) := by
  subst hp
  obtain ⟨p, l, e, s, m, args, below, meth, c⟩ := K
  intro hx hby hml hown hZ hret hlk hnm T locs X hF hh
  obtain ⟨T', X', e', st'⟩ := getF X hx hZ hown w via hh F (g := mkF m pc L (.ref a :: S)) rfl rfl (hb hby hd)
  obtain ⟨s₂, v, L', st, r⟩ := hr hx hby hml hown hZ hret hlk hnm T' locs X' hF e'
  exact ⟨s₂, v, L', st' _ st, r⟩
theorem getstatic {R0 O n d : String} {idx : Nat} {v : Value} (hd : decode bs pc = .ok (.getstatic idx, 3)) (hp : pc + 3 = pc') (w : (Jvm.Cond.fieldLink own idx R0 n d).before a0 Z = true) (via : Via Z R0 O n d) (F : Sta Z h O n d v) (hr : Go K rm Z n0 bs ml ret own nm Q kc ks h pc' L (v :: S)) : Go K rm Z n0 bs ml ret own nm Q kc ks h pc L S := by
  subst hp
  obtain ⟨p, l, e, s, m, args, below, meth, c⟩ := K
  intro hx hby hml hown hZ hret hlk hnm T locs X hF hh
  obtain ⟨T', X', e', st'⟩ := getS (host := "") X hx hZ hown w via hh F (g := mkF m pc L S) rfl (hb hby hd)
  obtain ⟨s₂, v, L', st, r⟩ := hr hx hby hml hown hZ hret hlk hnm T' locs X' hF e'
  exact ⟨s₂, v, L', st' _ st, r⟩
theorem putfield {R0 O n d host C : String} {idx kk : Nat} {ty : FieldType} {a : Addr} {v old : Value} (hd : decode bs pc = .ok (.putfield idx, 3)) (hp : pc + 3 = pc') (w : (Jvm.Cond.fieldLink own idx R0 n d).before a0 Z = true ∨ (Jvm.Cond.fieldLinkNest own idx R0 n d host).before a0 Z = true) (via : Via Z R0 O n d)
    (F : Fld Z h a O n d old) (E : Exa Z h a C) (Lw : (Jvm.Cond.lays C O n d).before a0 Z = true ∨ ((Jvm.Cond.laysFinal C O n d).before a0 Z = true ∧ own = O ∧ nm = "<init>")) (wi : (Jvm.Cond.instantiable C kk).before a0 Z = true)
    (hty : parseFieldDescriptor d = some ty) (hn : narrow ty v = v) (hf : fits ty v = true) (hg : n0 ≤ a) (hr : ∀ h', Wr h h' a (Jvm.RoadKit.slotOf Z O n d) v → Go K rm Z n0 bs ml ret own nm Q kc ks h' pc' L S) : Go K rm Z n0 bs ml ret own nm Q kc ks h pc L (v :: .ref a :: S) := by
  subst hp
  obtain ⟨p, l, e, s, m, args, below, meth, c⟩ := K
  intro hx hby hml hown hZ hret hlk hnm T locs X hF hh
  obtain ⟨T', h', X', e', W', st'⟩ := putF X hx hZ hown w via hh F E (Lw.imp id fun q => ⟨q.1, q.2.1, hnm.trans q.2.2⟩) wi hty hn hf (g := mkF m pc L (v :: .ref a :: S)) rfl rfl (hb hby hd)
  obtain ⟨s₂, v, L', st, r⟩ := hr h' W' hx hby hml hown hZ hret hlk hnm T' _ X' (Fr.snoc X' hF hg) e'
  exact ⟨s₂, v, L', st' _ st, r⟩
theorem newobj {C : String} {idx n : Nat} (hd : decode bs pc = .ok (.new idx, 3)) (hp : pc + 3 = pc') (w : (Jvm.Cond.classLink own idx C).before a0 Z = true) (wi : (Jvm.Cond.instantiable C n).before a0 Z = true) (wz : (Jvm.Cond.initialized C).before a0 Z = true) (hc : kc + 1 ≤ rm.cells) (hs : ks + n ≤ rm.slots)
    (hr : ∀ a h', a = h.size → Ext h h' → Exa Z h' a C → (∀ {O nm d : String} {ty : FieldType}, Laid Z a0 C O nm d → parseFieldDescriptor d = some ty → Fld Z h' a O nm d (defaultValue ty)) → Go K rm Z n0 bs ml ret own nm Q (kc + 1) (ks + n) h' pc' L (.ref a :: S)) : Go K rm Z n0 bs ml ret own nm Q kc ks h pc L S := by
  subst hp
  obtain ⟨p, l, e, s, m, args, below, meth, c⟩ := K
  intro hx hby hml hown hZ hret hlk hnm T locs X hF hh
  obtain ⟨T', h', X', e', E', A', D', -, st'⟩ := newO X hx hZ hown w wi wz hh (g := mkF m pc L S) rfl (hb hby hd) hc hs
  obtain ⟨s₂, v, L', st, r⟩ := hr _ h' rfl E' A' D' hx hby hml hown hZ hret hlk hnm T' _ X' hF e'
  exact ⟨s₂, v, L', st' _ st, r⟩
theorem objinit {idx : Nat} {a : Addr} (hd : decode bs pc = .ok (.invokespecial idx, 3)) (hp : pc + 3 = pc') (w1 : (Jvm.Cond.methodLink own idx Lib.objectInit).before a0 Z = true) (w2 : (Jvm.Cond.instanceMethod Lib.objectInit).before a0 Z = true) (w3 : (Jvm.Cond.code Lib.objectInit ⟨#[0xb1]⟩ 1 none).before a0 Z = true)
    (hL : L.size = ml) (hf : 1 ≤ rm.frames) {W : Nat} (hW : (S.map fun v => v.category).sum = W) (hl : W + 12 ≤ rm.locals) (hr : Go K rm Z n0 bs ml ret own nm Q kc ks h pc' L S) : Go K rm Z n0 bs ml ret own nm Q kc ks h pc L (.ref a :: S) := by
  subst hp
  obtain ⟨p, l, e, s, m, args, below, meth, c⟩ := K
  intro hx hby hml hown hZ hret hlk hnm T locs X hF hh
  obtain ⟨T', X', e', st'⟩ := initO X hx hZ hown w1 w2 w3 hh (g := mkF m pc L (.ref a :: S)) rfl (by rw [hml]; exact hL) rfl (hb hby hd) hf (W := W) (by show 2 * 0 + _ ≤ _; omega) hl
  obtain ⟨s₂, v, L', st, r⟩ := hr hx hby hml hown hZ hret hlk hnm T' locs X' hF e'
  exact ⟨s₂, v, L', st' _ st, r⟩
theorem static {W : Nat} {y : MethodName} {bs' : ByteArray} {ml' idx : Nat} {ret' : Option FieldType} {rm' : Room} {as rest : List Value} {Q' : Option Value → Heap → Prop} (hd : decode bs pc = .ok (.invokestatic idx, 3)) (hp : pc + 3 = pc') (w1 : (Jvm.Cond.methodLink own idx y).before a0 Z = true) (w2 : (Jvm.Cond.static y).before a0 Z = true) (w3 : (Jvm.Cond.initialized y.cls).before a0 Z = true) (w4 : (Jvm.Cond.code y bs' ml' ret').before a0 Z = true)
    (hy : y.cls ≠ "java/lang/invoke/MethodHandle" ∧ y.cls ≠ "java/lang/invoke/VarHandle") (C : Con Z n0 y bs' ml' ret' rm' as h Q') (hst : S = as.reverse ++ rest) (hL : L.size = ml) (hlen : ∀ sig, parseMethodDescriptor y.desc = some sig → as.length = sig.parameters.length)
    (hf : rm'.frames + 1 ≤ rm.frames) (hW : (rest.map fun v => v.category).sum = W) (hl : W + (ml' + 11) + rm'.locals ≤ rm.locals) (hc : kc + rm'.cells ≤ rm.cells) (hs : ks + rm'.slots ≤ rm.slots)
    (hr : ∀ v h', Q' v h' → Go K rm Z n0 bs ml ret own nm Q (kc + rm'.cells) (ks + rm'.slots) h' pc' L (v.toList ++ rest)) : Go K rm Z n0 bs ml ret own nm Q kc ks h pc L S := by
  subst hp
  obtain ⟨p, l, e, s, m, args, below, meth, c⟩ := K
  intro hx hby hml hown hZ hret hlk hnm T locs X hF hh
  obtain ⟨_, _, ⟨T', L1, k1, n1⟩, -, X', ⟨Lc, hQ, l1, y1, z1⟩, st'⟩ := Jvm.LawKit.callS X hx hown (mvT hZ w1) (mvT hZ w2) (mvT hZ w3) (mvT hZ w4) hy (backOf (Q := fun v h L => Q' v h ∧ Fr n0 L) (W := W) (C l) hZ w4 w3 hf hl) (g := mkF m pc L S) rfl (by rw [hml]; exact hL) (argsL := as) (rest := rest) hlen hst (by show 2 * 0 + _ ≤ _; omega) (hb hby hd) (fun _ _ => ⟨rfl, hh, hc, hs⟩)
  dsimp only [Pt.U, Pt.locs, Pt.cells, Pt.slots] at X' l1 y1 z1 st' hQ
  subst l1 y1 z1
  obtain ⟨s₂, v, L', st, r⟩ := hr _ _ hQ.1 hx hby hml hown hZ hret hlk hnm T' _ X' (Fr.app hF hQ.2) rfl
  exact ⟨s₂, v, L', st' _ st, r⟩
theorem special {W : Nat} {y : MethodName} {bs' : ByteArray} {ml' idx : Nat} {rm' : Room} {as rest : List Value} {Q' : Option Value → Heap → Prop} {a : Addr} (hd : decode bs pc = .ok (.invokespecial idx, 3)) (hp : pc + 3 = pc') (hy1 : y.name = "<init>") (w1 : (Jvm.Cond.methodLink own idx y).before a0 Z = true) (w2 : (Jvm.Cond.instanceMethod y).before a0 Z = true) (w3 : (Jvm.Cond.initialized y.cls).before a0 Z = true) (w4 : (Jvm.Cond.code y bs' ml' none).before a0 Z = true)
    (hy : y.cls ≠ "java/lang/invoke/MethodHandle" ∧ y.cls ≠ "java/lang/invoke/VarHandle") (C : Con Z n0 y bs' ml' none rm' (.ref a :: as) h Q') (hst : S = as.reverse ++ .ref a :: rest) (hL : L.size = ml) (hlen : ∀ sig, parseMethodDescriptor y.desc = some sig → as.length = sig.parameters.length)
    (hf : rm'.frames + 1 ≤ rm.frames) (hW : (rest.map fun v => v.category).sum = W) (hl : W + (ml' + 11) + rm'.locals ≤ rm.locals) (hc : kc + rm'.cells ≤ rm.cells) (hs : ks + rm'.slots ≤ rm.slots)
    (hr : ∀ v h', Q' v h' → Go K rm Z n0 bs ml ret own nm Q (kc + rm'.cells) (ks + rm'.slots) h' pc' L (v.toList ++ rest)) : Go K rm Z n0 bs ml ret own nm Q kc ks h pc L S := by
  subst hp
  obtain ⟨p, l, e, s, m, args, below, meth, c⟩ := K
  intro hx hby hml hown hZ hret hlk hnm T locs X hF hh
  obtain ⟨_, _, ⟨T', L1, k1, n1⟩, -, X', ⟨Lc, hQ, l1, y1, z1⟩, st'⟩ := X.specialBack hx hy1 hown (mvT hZ w1) (mvT hZ w2) (mvT hZ w4) hy (backOf (Q := fun v h L => Q' v h ∧ Fr n0 L) (W := W) (C l) hZ w4 w3 hf hl) (g := mkF m pc L S) rfl (by rw [hml]; exact hL) (Steps.refl _) (a := a) (argsL := as) (rest := rest) hlen hst (by show 2 * 0 + _ ≤ _; omega) (hb hby hd) (fun _ _ => ⟨rfl, hh, hc, hs⟩)
  dsimp only [Pt.U, Pt.locs, Pt.cells, Pt.slots] at X' l1 y1 z1 st' hQ
  subst l1 y1 z1
  obtain ⟨s₂, v, L', st, r⟩ := hr _ _ hQ.1 hx hby hml hown hZ hret hlk hnm T' _ X' (Fr.app hF hQ.2) rfl
  exact ⟨s₂, v, L', st'.trans st, r⟩
theorem virtual {W : Nat} {y : MethodName} {bs' : ByteArray} {ml' idx : Nat} {ret' : Option FieldType} {rm' : Room} {as rest : List Value} {Q' : Option Value → Heap → Prop} {C' : String} {a : Addr} (hd : decode bs pc = .ok (.invokevirtual idx, 3)) (hp : pc + 3 = pc') (w1 : (Jvm.Cond.methodLink own idx y).before a0 Z = true) (w2 : (Jvm.Cond.declares y).before a0 Z = true) (w5 : (Jvm.Cond.selects C' y y).before a0 Z = true) (w6 : (Jvm.Cond.instanceMethod y).before a0 Z = true) (w3 : (Jvm.Cond.initialized y.cls).before a0 Z = true) (w4 : (Jvm.Cond.code y bs' ml' ret').before a0 Z = true)
    (hy : y.cls ≠ "java/lang/invoke/MethodHandle" ∧ y.cls ≠ "java/lang/invoke/VarHandle") (E : Exa Z h a C') (C : Con Z n0 y bs' ml' ret' rm' (.ref a :: as) h Q') (hst : S = as.reverse ++ .ref a :: rest) (hL : L.size = ml) (hlen : ∀ sig, parseMethodDescriptor y.desc = some sig → as.length = sig.parameters.length)
    (hf : rm'.frames + 1 ≤ rm.frames) (hW : (rest.map fun v => v.category).sum = W) (hl : W + (ml' + 11) + rm'.locals ≤ rm.locals) (hc : kc + rm'.cells ≤ rm.cells) (hs : ks + rm'.slots ≤ rm.slots)
    (hr : ∀ v h', Q' v h' → Go K rm Z n0 bs ml ret own nm Q (kc + rm'.cells) (ks + rm'.slots) h' pc' L (v.toList ++ rest)) : Go K rm Z n0 bs ml ret own nm Q kc ks h pc L S := by
  subst hp
  obtain ⟨p, l, e, s, m, args, below, meth, c⟩ := K
  intro hx hby hml hown hZ hret hlk hnm T locs X hF hh
  obtain ⟨cq, kq, qa, qb, qc⟩ := isOf (T := T) hZ hh E
  obtain ⟨_, _, ⟨T', L1, k1, n1⟩, -, X', ⟨Lc, hQ, l1, y1, z1⟩, st'⟩ := X.virtualBack hx (y := y) (z := y) hown (mvT hZ w1) (mvT hZ w2) (notFace_of_selects (args := #[]) (mvT hZ w5)) (mvT hZ w5) (mvT hZ w6) hy (backOf (Q := fun v h L => Q' v h ∧ Fr n0 L) (W := W) (C l) hZ w4 w3 hf hl) qa qc (g := mkF m pc L S) rfl (by rw [hml]; exact hL) (Steps.refl _) (argsL := as) (rest := rest) hlen hst (by show 2 * 0 + _ ≤ _; omega) (hb hby hd) (fun _ _ => ⟨rfl, hh, hc, hs⟩)
  dsimp only [Pt.U, Pt.locs, Pt.cells, Pt.slots] at X' l1 y1 z1 st' hQ
  subst l1 y1 z1
  obtain ⟨s₂, v, L', st, r⟩ := hr _ _ hQ.1 hx hby hml hown hZ hret hlk hnm T' _ X' (Fr.app hF hQ.2) rfl
  exact ⟨s₂, v, L', st'.trans st, r⟩
theorem privat {W : Nat} {y : MethodName} {bs' : ByteArray} {ml' idx : Nat} {ret' : Option FieldType} {rm' : Room} {as rest : List Value} {Q' : Option Value → Heap → Prop} {a : Addr} (hd : decode bs pc = .ok (.invokevirtual idx, 3)) (hp : pc + 3 = pc') (w1 : (Jvm.Cond.methodLink own idx y).before a0 Z = true) (w6 : (Jvm.Cond.instanceMethod y).before a0 Z = true) (w5 : (Jvm.Cond.selects y.cls y y).before a0 Z = true) (w7 : (Jvm.Cond.privateMethod y).before a0 Z = true) (w3 : (Jvm.Cond.initialized y.cls).before a0 Z = true) (w4 : (Jvm.Cond.code y bs' ml' ret').before a0 Z = true)
    (hy : y.cls ≠ "java/lang/invoke/MethodHandle" ∧ y.cls ≠ "java/lang/invoke/VarHandle") (E : Exa Z h a y.cls) (C : Con Z n0 y bs' ml' ret' rm' (.ref a :: as) h Q') (hst : S = as.reverse ++ .ref a :: rest) (hL : L.size = ml) (hlen : ∀ sig, parseMethodDescriptor y.desc = some sig → as.length = sig.parameters.length)
    (hf : rm'.frames + 1 ≤ rm.frames) (hW : (rest.map fun v => v.category).sum = W) (hl : W + (ml' + 11) + rm'.locals ≤ rm.locals) (hc : kc + rm'.cells ≤ rm.cells) (hs : ks + rm'.slots ≤ rm.slots)
    (hr : ∀ v h', Q' v h' → Go K rm Z n0 bs ml ret own nm Q (kc + rm'.cells) (ks + rm'.slots) h' pc' L (v.toList ++ rest)) : Go K rm Z n0 bs ml ret own nm Q kc ks h pc L S := by
  subst hp
  obtain ⟨p, l, e, s, m, args, below, meth, c⟩ := K
  intro hx hby hml hown hZ hret hlk hnm T locs X hF hh
  obtain ⟨cq, q1, q2⟩ := E.cell
  obtain ⟨_, _, ⟨T', L1, k1, n1⟩, -, X', ⟨Lc, hQ, l1, y1, z1⟩, st'⟩ := X.privateBack hx hown (mvT hZ w1) (mvT hZ w6) (mvT hZ w5) (Cond.privateMethod_at (mvP hZ w7 (args := #[]))) (mvT hZ w4) hy (backOf (Q := fun v h L => Q' v h ∧ Fr n0 L) (W := W) (C l) hZ w4 w3 hf hl) (g := mkF m pc L S) rfl (by rw [hml]; exact hL) (Steps.refl _) (a := a) (by rw [hh]; exact q1) q2 (argsL := as) (rest := rest) hlen hst (by show 2 * 0 + _ ≤ _; omega) (hb hby hd) (fun _ _ => ⟨rfl, hh, hc, hs⟩)
  dsimp only [Pt.U, Pt.locs, Pt.cells, Pt.slots] at X' l1 y1 z1 st' hQ
  subst l1 y1 z1
  obtain ⟨s₂, v, L', st, r⟩ := hr _ _ hQ.1 hx hby hml hown hZ hret hlk hnm T' _ X' (Fr.app hF hQ.2) rfl
  exact ⟨s₂, v, L', st'.trans st, r⟩
theorem ireturnZ {z z' : Int32} (hd : decode bs pc = .ok (.ireturn, 1)) (ht : ret = some .boolean) (hz : nar .boolean z = z') (hQ : Q (some (.int z')) h) (hc : kc ≤ rm.cells) (hs : ks ≤ rm.slots) : Go K rm Z n0 bs ml ret own nm Q kc ks h pc L (.int z :: S) := by
  subst ht hz
  obtain ⟨p, l, e, s, m, args, below, meth, c⟩ := K
  intro hx hby hml hown hZ hret hlk hnm T locs X hF hh
  obtain ⟨fs, hr, hrun, hended, hW, hsame⟩ := X.leave (v := some (.int (nar .boolean z))) (fun q => by rw [hret] at q; cases q) hlk
  exact ⟨T.setFrames fs, _, locs, retN X hx (t := .boolean) hret (by simp) (hb hby hd) hr, hrun, hended, by rw [show (T.setFrames fs).heap = h from hh]; exact hQ, hF, ⟨_, rfl⟩, hW, hsame.mono hc hs⟩
theorem ireturnI {z : Int32} (hd : decode bs pc = .ok (.ireturn, 1)) (ht : ret = some .int) (hQ : Q (some (.int z)) h) (hc : kc ≤ rm.cells) (hs : ks ≤ rm.slots) : Go K rm Z n0 bs ml ret own nm Q kc ks h pc L (.int z :: S) := by
  subst ht
  obtain ⟨p, l, e, s, m, args, below, meth, c⟩ := K
  intro hx hby hml hown hZ hret hlk hnm T locs X hF hh
  obtain ⟨fs, hr, hrun, hended, hW, hsame⟩ := X.leave (v := some (.int z)) (fun q => by rw [hret] at q; cases q) hlk
  exact ⟨T.setFrames fs, _, locs, retOut X hx hret rfl (Or.inl ⟨rfl, Or.inl rfl, z, rfl⟩) (hb hby hd) hr, hrun, hended, by rw [show (T.setFrames fs).heap = h from hh]; exact hQ, hF, ⟨_, rfl⟩, hW, hsame.mono hc hs⟩
theorem lreturn {z : Int64} (hd : decode bs pc = .ok (.lreturn, 1)) (ht : ret = some .long) (hQ : Q (some (.long z)) h) (hc : kc ≤ rm.cells) (hs : ks ≤ rm.slots) : Go K rm Z n0 bs ml ret own nm Q kc ks h pc L (.long z :: S) := by
  subst ht
  obtain ⟨p, l, e, s, m, args, below, meth, c⟩ := K
  intro hx hby hml hown hZ hret hlk hnm T locs X hF hh
  obtain ⟨fs, hr, hrun, hended, hW, hsame⟩ := X.leave (v := some (.long z)) (fun q => by rw [hret] at q; cases q) hlk
  exact ⟨T.setFrames fs, _, locs, retOut X hx hret rfl (Or.inr (Or.inl ⟨rfl, rfl, z, rfl⟩)) (hb hby hd) hr, hrun, hended, by rw [show (T.setFrames fs).heap = h from hh]; exact hQ, hF, ⟨_, rfl⟩, hW, hsame.mono hc hs⟩
theorem areturn {t : FieldType} {v : Value} (hd : decode bs pc = .ok (.areturn, 1)) (ht : ret = some t) (htr : t.isReference = true) (hv : v.isRef = true) (hnn : narrow t v = v) (hQ : Q (some v) h) (hc : kc ≤ rm.cells) (hs : ks ≤ rm.slots) : Go K rm Z n0 bs ml ret own nm Q kc ks h pc L (v :: S) := by
  subst ht
  obtain ⟨p, l, e, s, m, args, below, meth, c⟩ := K
  intro hx hby hml hown hZ hret hlk hnm T locs X hF hh
  obtain ⟨fs, hr, hrun, hended, hW, hsame⟩ := X.leave (v := some v) (fun q => by rw [hret] at q; cases q) hlk
  exact ⟨T.setFrames fs, _, locs, retOut X hx hret hnn (Or.inr (Or.inr (Or.inr (Or.inr ⟨rfl, htr, hv⟩)))) (hb hby hd) hr, hrun, hended, by rw [show (T.setFrames fs).heap = h from hh]; exact hQ, hF, ⟨_, rfl⟩, hW, hsame.mono hc hs⟩
theorem vreturn (hd : decode bs pc = .ok (.return_, 1)) (ht : ret = none) (hQ : Q none h) (hc : kc ≤ rm.cells) (hs : ks ≤ rm.slots) : Go K rm Z n0 bs ml ret own nm Q kc ks h pc L [] := by
  subst ht
  obtain ⟨p, l, e, s, m, args, below, meth, c⟩ := K
  intro hx hby hml hown hZ hret hlk hnm T locs X hF hh
  obtain ⟨fs, hr, hrun, hended, hW, hsame⟩ := X.leave (v := none) (fun _ => rfl) hlk
  exact ⟨T.setFrames fs, _, locs, X.returnOut hx hret (hb hby hd) hr, hrun, hended, by rw [show (T.setFrames fs).heap = h from hh]; exact hQ, hF, ⟨_, rfl⟩, hW, hsame.mono hc hs⟩
theorem join {pc2 : Nat} {L2 : Array Slot} {S2 : List Value} (h1 : Go K rm Z n0 bs ml ret own nm Q kc ks h pc2 L2 S2 → Go K rm Z n0 bs ml ret own nm Q kc ks h pc L S) (h2 : Go K rm Z n0 bs ml ret own nm Q kc ks h pc2 L2 S2) : Go K rm Z n0 bs ml ret own nm Q kc ks h pc L S := h1 h2
theorem ifnonnull_yes {o : Int} {b : Addr} (hd : decode bs pc = .ok (.ifnonnull o, 3)) (ho : 0 ≤ (pc : Int) + o) (hp : ((pc : Int) + o).toNat = pc') (hr : Go K rm Z n0 bs ml ret own nm Q kc ks h pc' L S) : Go K rm Z n0 bs ml ret own nm Q kc ks h pc L (.ref b :: S) := by
  obtain ⟨p, l, e, s, m, args, below, meth, c⟩ := K
  intro hx hby hml hown hZ hret hlk hnm T locs X hF hh
  obtain ⟨s₂, v, L', st, r⟩ := hr hx hby hml hown hZ hret hlk hnm T locs X hF hh
  exact ⟨s₂, v, L', XS.ifnonnullYes X.here hx rfl (pc0 := pc) (pc' := pc') rfl (hb hby hd) rfl ho hp st, r⟩
theorem Go.more {kc' ks' : Nat} (hc : kc ≤ kc') (hs : ks ≤ ks') (hr : Go K rm Z n0 bs ml ret own nm Q kc' ks' h pc L S) : Go K rm Z n0 bs ml ret own nm Q kc ks h pc L S := by
  obtain ⟨p, l, e, s, m, args, below, meth, c⟩ := K
  intro hx hby hml hown hZ hret hlk hnm T locs X hF hh
  exact hr hx hby hml hown hZ hret hlk hnm T locs (X.more hc hs) hF hh
theorem Con.post {y : MethodName} {rm' : Room} {bs' : ByteArray} {ml' : Nat} {ret' : Option FieldType} {as : List Value} {Q1 Q2 : Option Value → Heap → Prop} (C : Con Z n0 y bs' ml' ret' rm' as h Q1) (q : ∀ v h', Q1 v h' → Q2 v h') : Con Z n0 y bs' ml' ret' rm' as h Q2 := fun l p e h1 h2 h3 s m args below h4 h5 h6 h7 => by
  obtain ⟨n, o, g1, g2, g3, v, L, g4, g5, g6⟩ := C l p e h1 h2 h3 s m args below h4 h5 h6 h7
  exact ⟨n, o, g1, g2, g3, v, L, g4, ⟨q _ _ g5.1, g5.2⟩, g6⟩
/-- an int[] of n places that hold f 0 .. f (n - 1) -/
def AI (Z : State) (h : Heap) (a : Addr) (n : Nat) (f : Nat → Int32) : Prop := ∃ cl : Cell, Arr Z h a cl .int ∧ cl.slots.size = n ∧ n < 2 ^ 31 ∧ ∀ k, k < n → cl.slots[k]? = some (.int (f k))
def AJ (Z : State) (h : Heap) (a : Addr) (n : Nat) (f : Nat → Int64) : Prop := ∃ cl : Cell, Arr Z h a cl .long ∧ cl.slots.size = n ∧ n < 2 ^ 31 ∧ ∀ k, k < n → cl.slots[k]? = some (.long (f k))
def AB (Z : State) (h : Heap) (a : Addr) (n : Nat) (f : Nat → Int32) : Prop := ∃ cl : Cell, Arr Z h a cl .byte ∧ cl.slots.size = n ∧ n < 2 ^ 31 ∧ ∀ k, k < n → cl.slots[k]? = some (.int (f k))
def upd {α : Type} (f : Nat → α) (i : Nat) (x : α) : Nat → α := fun k => if k = i then x else f k
theorem inb {j : Int32} {i n : Nat} (hj : j.toInt = (i : Int)) (hi : i < n) : ¬ (j < 0 ∨ n ≤ j.toNatClampNeg) ∧ j.toNatClampNeg = i := by
  have e : j.toNatClampNeg = i := by simp [Int32.toNatClampNeg, hj]
  refine ⟨?_, e⟩
  rw [e, Int32.lt_iff_toInt_lt, hj]
  simp; omega
theorem AI.ext {h' : Heap} {a : Addr} {n : Nat} {f : Nat → Int32} (F : AI Z h a n f) (E : Ext h h') : AI Z h' a n f := by obtain ⟨c, A, r⟩ := F; exact ⟨c, A.ext E, r⟩
theorem AI.other {h' : Heap} {a b : Addr} {sl n : Nat} {v : Value} {f : Nat → Int32} (F : AI Z h b n f) (W : Wr h h' a sl v) (q : b ≠ a) : AI Z h' b n f := by obtain ⟨c, A, r⟩ := F; exact ⟨c, A.other W q, r⟩
theorem AI.keep {h' : Heap} {a : Addr} {n : Nat} {ws : List Addr} {f : Nat → Int32} (F : AI Z h a n f) (K : Keep h h' ws) (q : a ∉ ws) : AI Z h' a n f := by obtain ⟨c, A, r⟩ := F; exact ⟨c, ⟨K.2.1 a c A.1 q, A.2⟩, r⟩
theorem AI.lt {a : Addr} {n : Nat} {f : Nat → Int32} (F : AI Z h a n f) : a < h.size := by obtain ⟨c, A, -⟩ := F; exact A.lt
theorem AI.set {h' : Heap} {a : Addr} {n i : Nat} {x : Int32} {f : Nat → Int32} (F : AI Z h a n f) (W : Wr h h' a i (.int x)) : AI Z h' a n (upd f i x) := by
  obtain ⟨c, A, r1, r2, r3⟩ := F
  refine ⟨_, A.same W, by rw [sz_set]; exact r1, r2, fun k hk => ?_⟩
  by_cases e : k = i
  · subst e; simp [Cell.setSlot, upd, r1, hk]
  · rw [show (c.setSlot i (.int x)).slots[k]? = c.slots[k]? from Array.getElem?_setIfInBounds_ne (Ne.symm e), r3 k hk]; simp [upd, e]
theorem AI.cong {a : Addr} {n : Nat} {f g : Nat → Int32} (F : AI Z h a n f) (q : ∀ k, k < n → f k = g k) : AI Z h a n g := by obtain ⟨c, A, r1, r2, r3⟩ := F; exact ⟨c, A, r1, r2, fun k hk => by rw [r3 k hk, q k hk]⟩
theorem AJ.ext {h' : Heap} {a : Addr} {n : Nat} {f : Nat → Int64} (F : AJ Z h a n f) (E : Ext h h') : AJ Z h' a n f := by obtain ⟨c, A, r⟩ := F; exact ⟨c, A.ext E, r⟩
theorem AJ.other {h' : Heap} {a b : Addr} {sl n : Nat} {v : Value} {f : Nat → Int64} (F : AJ Z h b n f) (W : Wr h h' a sl v) (q : b ≠ a) : AJ Z h' b n f := by obtain ⟨c, A, r⟩ := F; exact ⟨c, A.other W q, r⟩
theorem AJ.keep {h' : Heap} {a : Addr} {n : Nat} {ws : List Addr} {f : Nat → Int64} (F : AJ Z h a n f) (K : Keep h h' ws) (q : a ∉ ws) : AJ Z h' a n f := by obtain ⟨c, A, r⟩ := F; exact ⟨c, ⟨K.2.1 a c A.1 q, A.2⟩, r⟩
theorem AJ.lt {a : Addr} {n : Nat} {f : Nat → Int64} (F : AJ Z h a n f) : a < h.size := by obtain ⟨c, A, -⟩ := F; exact A.lt
theorem AJ.set {h' : Heap} {a : Addr} {n i : Nat} {x : Int64} {f : Nat → Int64} (F : AJ Z h a n f) (W : Wr h h' a i (.long x)) : AJ Z h' a n (upd f i x) := by
  obtain ⟨c, A, r1, r2, r3⟩ := F
  refine ⟨_, A.same W, by rw [sz_set]; exact r1, r2, fun k hk => ?_⟩
  by_cases e : k = i
  · subst e; simp [Cell.setSlot, upd, r1, hk]
  · rw [show (c.setSlot i (.long x)).slots[k]? = c.slots[k]? from Array.getElem?_setIfInBounds_ne (Ne.symm e), r3 k hk]; simp [upd, e]
theorem AJ.cong {a : Addr} {n : Nat} {f g : Nat → Int64} (F : AJ Z h a n f) (q : ∀ k, k < n → f k = g k) : AJ Z h a n g := by obtain ⟨c, A, r1, r2, r3⟩ := F; exact ⟨c, A, r1, r2, fun k hk => by rw [r3 k hk, q k hk]⟩
theorem AB.ext {h' : Heap} {a : Addr} {n : Nat} {f : Nat → Int32} (F : AB Z h a n f) (E : Ext h h') : AB Z h' a n f := by obtain ⟨c, A, r⟩ := F; exact ⟨c, A.ext E, r⟩
theorem AB.other {h' : Heap} {a b : Addr} {sl n : Nat} {v : Value} {f : Nat → Int32} (F : AB Z h b n f) (W : Wr h h' a sl v) (q : b ≠ a) : AB Z h' b n f := by obtain ⟨c, A, r⟩ := F; exact ⟨c, A.other W q, r⟩
theorem AB.keep {h' : Heap} {a : Addr} {n : Nat} {ws : List Addr} {f : Nat → Int32} (F : AB Z h a n f) (K : Keep h h' ws) (q : a ∉ ws) : AB Z h' a n f := by obtain ⟨c, A, r⟩ := F; exact ⟨c, ⟨K.2.1 a c A.1 q, A.2⟩, r⟩
theorem AB.lt {a : Addr} {n : Nat} {f : Nat → Int32} (F : AB Z h a n f) : a < h.size := by obtain ⟨c, A, -⟩ := F; exact A.lt
theorem AB.set {h' : Heap} {a : Addr} {n i : Nat} {x : Int32} {f : Nat → Int32} (F : AB Z h a n f) (W : Wr h h' a i (.int x)) : AB Z h' a n (upd f i x) := by
  obtain ⟨c, A, r1, r2, r3⟩ := F
  refine ⟨_, A.same W, by rw [sz_set]; exact r1, r2, fun k hk => ?_⟩
  by_cases e : k = i
  · subst e; simp [Cell.setSlot, upd, r1, hk]
  · rw [show (c.setSlot i (.int x)).slots[k]? = c.slots[k]? from Array.getElem?_setIfInBounds_ne (Ne.symm e), r3 k hk]; simp [upd, e]
theorem AB.cong {a : Addr} {n : Nat} {f g : Nat → Int32} (F : AB Z h a n f) (q : ∀ k, k < n → f k = g k) : AB Z h a n g := by obtain ⟨c, A, r1, r2, r3⟩ := F; exact ⟨c, A, r1, r2, fun k hk => by rw [r3 k hk, q k hk]⟩
theorem iaload {a : Addr} {j : Int32} {i n : Nat} {f : Nat → Int32} (hd : decode bs pc = .ok (.iaload, 1)) (hp : pc + 1 = pc') (A : AI Z h a n f) (hj : j.toInt = (i : Int)) (hi : i < n) (hr : Go K rm Z n0 bs ml ret own nm Q kc ks h pc' L (.int (f i) :: S)) : Go K rm Z n0 bs ml ret own nm Q kc ks h pc L (.int j :: .ref a :: S) := by
  subst hp
  obtain ⟨p, l, e, s, m, args, below, meth, c⟩ := K
  intro hx hby hml hown hZ hret hlk hnm T locs X hF hh
  obtain ⟨cl, A1, r1, r2, r3⟩ := A
  obtain ⟨g1, g2⟩ := inb hj hi
  obtain ⟨s₂, v, L', st, r⟩ := hr hx hby hml hown hZ hret hlk hnm T locs X hF hh
  exact ⟨s₂, v, L', X.iaload hx (j := j) (v := .int (f i)) (by rw [hh]; exact A1.1) (State.isArrayOf_alike hZ.alike A1.2.1) A1.2.2 (by rw [r1]; exact g1) (by rw [g2]; exact r3 i hi) (g := mkF m pc L (.int j :: .ref a :: S)) rfl rfl (hb hby hd) _ st, r⟩
theorem laload {a : Addr} {j : Int32} {i n : Nat} {f : Nat → Int64} (hd : decode bs pc = .ok (.laload, 1)) (hp : pc + 1 = pc') (A : AJ Z h a n f) (hj : j.toInt = (i : Int)) (hi : i < n) (hr : Go K rm Z n0 bs ml ret own nm Q kc ks h pc' L (.long (f i) :: S)) : Go K rm Z n0 bs ml ret own nm Q kc ks h pc L (.int j :: .ref a :: S) := by
  subst hp
  obtain ⟨p, l, e, s, m, args, below, meth, c⟩ := K
  intro hx hby hml hown hZ hret hlk hnm T locs X hF hh
  obtain ⟨cl, A1, r1, r2, r3⟩ := A
  obtain ⟨g1, g2⟩ := inb hj hi
  obtain ⟨s₂, v, L', st, r⟩ := hr hx hby hml hown hZ hret hlk hnm T locs X hF hh
  exact ⟨s₂, v, L', X.laload hx (j := j) (v := .long (f i)) (by rw [hh]; exact A1.1) (State.isArrayOf_alike hZ.alike A1.2.1) A1.2.2 (by rw [r1]; exact g1) (by rw [g2]; exact r3 i hi) (g := mkF m pc L (.int j :: .ref a :: S)) rfl rfl (hb hby hd) _ st, r⟩
theorem baload {a : Addr} {j : Int32} {i n : Nat} {f : Nat → Int32} (hd : decode bs pc = .ok (.baload, 1)) (hp : pc + 1 = pc') (A : AB Z h a n f) (hj : j.toInt = (i : Int)) (hi : i < n) (hr : Go K rm Z n0 bs ml ret own nm Q kc ks h pc' L (.int (f i) :: S)) : Go K rm Z n0 bs ml ret own nm Q kc ks h pc L (.int j :: .ref a :: S) := by
  subst hp
  obtain ⟨p, l, e, s, m, args, below, meth, c⟩ := K
  intro hx hby hml hown hZ hret hlk hnm T locs X hF hh
  obtain ⟨cl, A1, r1, r2, r3⟩ := A
  obtain ⟨g1, g2⟩ := inb hj hi
  obtain ⟨s₂, v, L', st, r⟩ := hr hx hby hml hown hZ hret hlk hnm T locs X hF hh
  exact ⟨s₂, v, L', X.baloadBytes hx (j := j) (v := .int (f i)) (by rw [hh]; exact A1.1) (State.isArrayOf_alike hZ.alike A1.2.1) A1.2.2 (by rw [r1]; exact g1) (by rw [g2]; exact r3 i hi) (g := mkF m pc L (.int j :: .ref a :: S)) rfl rfl (hb hby hd) _ st, r⟩
theorem iastore {a : Addr} {j : Int32} {x : Int32} {i n : Nat} {f : Nat → Int32} (hd : decode bs pc = .ok (.iastore, 1)) (hp : pc + 1 = pc') (A : AI Z h a n f) (hg : n0 ≤ a) (hj : j.toInt = (i : Int)) (hi : i < n) (hr : ∀ h', Wr h h' a i (.int x) → AI Z h' a n (upd f i x) → Go K rm Z n0 bs ml ret own nm Q kc ks h' pc' L S) : Go K rm Z n0 bs ml ret own nm Q kc ks h pc L (.int x :: .int j :: .ref a :: S) := by
  subst hp
  have A0 := A
  obtain ⟨p, l, e, s, m, args, below, meth, c⟩ := K
  intro hx hby hml hown hZ hret hlk hnm T locs X hF hh
  obtain ⟨cl, A1, r1, r2, r3⟩ := A
  obtain ⟨g1, g2⟩ := inb hj hi
  obtain ⟨T', h', X', e', W', st'⟩ := stI X hx hZ hh A1 (j := j) (by rw [r1]; exact g1) (g := mkF m pc L (.int x :: .int j :: .ref a :: S)) rfl rfl (hb hby hd)
  have W2 : Wr h h' a i (.int x) := by rw [g2] at W'; exact W'
  obtain ⟨s₂, v, L', st, r⟩ := hr h' W2 (A0.set W2) hx hby hml hown hZ hret hlk hnm T' _ X' (Fr.snoc X' hF hg) e'
  exact ⟨s₂, v, L', st' _ st, r⟩
theorem lastore {a : Addr} {j : Int32} {x : Int64} {i n : Nat} {f : Nat → Int64} (hd : decode bs pc = .ok (.lastore, 1)) (hp : pc + 1 = pc') (A : AJ Z h a n f) (hg : n0 ≤ a) (hj : j.toInt = (i : Int)) (hi : i < n) (hr : ∀ h', Wr h h' a i (.long x) → AJ Z h' a n (upd f i x) → Go K rm Z n0 bs ml ret own nm Q kc ks h' pc' L S) : Go K rm Z n0 bs ml ret own nm Q kc ks h pc L (.long x :: .int j :: .ref a :: S) := by
  subst hp
  have A0 := A
  obtain ⟨p, l, e, s, m, args, below, meth, c⟩ := K
  intro hx hby hml hown hZ hret hlk hnm T locs X hF hh
  obtain ⟨cl, A1, r1, r2, r3⟩ := A
  obtain ⟨g1, g2⟩ := inb hj hi
  obtain ⟨T', h', X', e', W', st'⟩ := stJ X hx hZ hh A1 (j := j) (by rw [r1]; exact g1) (g := mkF m pc L (.long x :: .int j :: .ref a :: S)) rfl rfl (hb hby hd)
  have W2 : Wr h h' a i (.long x) := by rw [g2] at W'; exact W'
  obtain ⟨s₂, v, L', st, r⟩ := hr h' W2 (A0.set W2) hx hby hml hown hZ hret hlk hnm T' _ X' (Fr.snoc X' hF hg) e'
  exact ⟨s₂, v, L', st' _ st, r⟩
theorem bastore {a : Addr} {j x : Int32} {i n : Nat} {f : Nat → Int32} (hd : decode bs pc = .ok (.bastore, 1)) (hp : pc + 1 = pc') (A : AB Z h a n f) (hg : n0 ≤ a) (hj : j.toInt = (i : Int)) (hi : i < n) (hr : ∀ h', Wr h h' a i (.int x.toInt8.toInt32) → AB Z h' a n (upd f i x.toInt8.toInt32) → Go K rm Z n0 bs ml ret own nm Q kc ks h' pc' L S) : Go K rm Z n0 bs ml ret own nm Q kc ks h pc L (.int x :: .int j :: .ref a :: S) := by
  subst hp
  have A0 := A
  obtain ⟨p, l, e, s, m, args, below, meth, c⟩ := K
  intro hx hby hml hown hZ hret hlk hnm T locs X hF hh
  obtain ⟨cl, A1, r1, r2, r3⟩ := A
  obtain ⟨g1, g2⟩ := inb hj hi
  obtain ⟨T', h', X', e', W', st'⟩ := stB X hx hZ hh A1 (j := j) (by rw [r1]; exact g1) (g := mkF m pc L (.int x :: .int j :: .ref a :: S)) rfl rfl (hb hby hd)
  have W2 : Wr h h' a i (.int x.toInt8.toInt32) := by rw [g2] at W'; exact W'
  obtain ⟨s₂, v, L', st, r⟩ := hr h' W2 (A0.set W2) hx hby hml hown hZ hret hlk hnm T' _ X' (Fr.snoc X' hF hg) e'
  exact ⟨s₂, v, L', st' _ st, r⟩
theorem newI {j : Int32} {n cap : Nat} (hd : decode bs pc = .ok (.newarray .int, 2)) (hp : pc + 2 = pc') (w : (Jvm.Cond.arrayClass .int).before a0 Z = true) (hj : j.toInt = (n : Int)) (hcap : n ≤ cap) (hb8 : cap * 8 ≤ 536870912) (hc : kc + 1 ≤ rm.cells) (hs : ks + cap ≤ rm.slots)
    (hr : ∀ a h', a = h.size → Ext h h' → AI Z h' a n (fun _ => 0) → Go K rm Z n0 bs ml ret own nm Q (kc + 1) (ks + cap) h' pc' L (.ref a :: S)) : Go K rm Z n0 bs ml ret own nm Q kc ks h pc L (.int j :: S) := by
  subst hp
  obtain ⟨p, l, e, s, m, args, below, meth, c⟩ := K
  intro hx hby hml hown hZ hret hlk hnm T locs X hF hh
  have hn : ¬ j < 0 := by rw [Int32.lt_iff_toInt_lt, hj]; simp
  have e : j.toNatClampNeg = n := by simp [Int32.toNatClampNeg, hj]
  obtain ⟨T', h', cA, X', e', E', A', st'⟩ := newP (aty := .int) X hx hZ w hh (g := mkF m pc L (.int j :: S)) rfl (hb hby hd) rfl hn (cap := cap) (by rw [e]; exact hcap) hb8 hc hs
  have hj2 := Int32.toInt_lt j
  have F : AI Z h' h.size n (fun _ => 0) := ⟨_, A', by rw [sz_new]; exact e, by omega, fun k hk => by
    have q : (newA cA .int j).slots[k]? = some (defaultValue .int) := by simp only [newA, e, Array.getElem?_replicate, if_pos hk]
    exact q⟩
  obtain ⟨s₂, v, L', st, r⟩ := hr _ h' rfl E' F hx hby hml hown hZ hret hlk hnm T' _ X' hF e'
  exact ⟨s₂, v, L', st' _ st, r⟩
theorem newJ {j : Int32} {n cap : Nat} (hd : decode bs pc = .ok (.newarray .long, 2)) (hp : pc + 2 = pc') (w : (Jvm.Cond.arrayClass .long).before a0 Z = true) (hj : j.toInt = (n : Int)) (hcap : n ≤ cap) (hb8 : cap * 8 ≤ 536870912) (hc : kc + 1 ≤ rm.cells) (hs : ks + cap ≤ rm.slots)
    (hr : ∀ a h', a = h.size → Ext h h' → AJ Z h' a n (fun _ => 0) → Go K rm Z n0 bs ml ret own nm Q (kc + 1) (ks + cap) h' pc' L (.ref a :: S)) : Go K rm Z n0 bs ml ret own nm Q kc ks h pc L (.int j :: S) := by
  subst hp
  obtain ⟨p, l, e, s, m, args, below, meth, c⟩ := K
  intro hx hby hml hown hZ hret hlk hnm T locs X hF hh
  have hn : ¬ j < 0 := by rw [Int32.lt_iff_toInt_lt, hj]; simp
  have e : j.toNatClampNeg = n := by simp [Int32.toNatClampNeg, hj]
  obtain ⟨T', h', cA, X', e', E', A', st'⟩ := newP (aty := .long) X hx hZ w hh (g := mkF m pc L (.int j :: S)) rfl (hb hby hd) rfl hn (cap := cap) (by rw [e]; exact hcap) hb8 hc hs
  have hj2 := Int32.toInt_lt j
  have F : AJ Z h' h.size n (fun _ => 0) := ⟨_, A', by rw [sz_new]; exact e, by omega, fun k hk => by
    have q : (newA cA .long j).slots[k]? = some (defaultValue .long) := by simp only [newA, e, Array.getElem?_replicate, if_pos hk]
    exact q⟩
  obtain ⟨s₂, v, L', st, r⟩ := hr _ h' rfl E' F hx hby hml hown hZ hret hlk hnm T' _ X' hF e'
  exact ⟨s₂, v, L', st' _ st, r⟩
theorem newB {j : Int32} {n cap : Nat} (hd : decode bs pc = .ok (.newarray .byte, 2)) (hp : pc + 2 = pc') (w : (Jvm.Cond.arrayClass .byte).before a0 Z = true) (hj : j.toInt = (n : Int)) (hcap : n ≤ cap) (hb8 : cap * 8 ≤ 536870912) (hc : kc + 1 ≤ rm.cells) (hs : ks + cap ≤ rm.slots)
    (hr : ∀ a h', a = h.size → Ext h h' → AB Z h' a n (fun _ => 0) → Go K rm Z n0 bs ml ret own nm Q (kc + 1) (ks + cap) h' pc' L (.ref a :: S)) : Go K rm Z n0 bs ml ret own nm Q kc ks h pc L (.int j :: S) := by
  subst hp
  obtain ⟨p, l, e, s, m, args, below, meth, c⟩ := K
  intro hx hby hml hown hZ hret hlk hnm T locs X hF hh
  have hn : ¬ j < 0 := by rw [Int32.lt_iff_toInt_lt, hj]; simp
  have e : j.toNatClampNeg = n := by simp [Int32.toNatClampNeg, hj]
  obtain ⟨T', h', cA, X', e', E', A', st'⟩ := newP (aty := .byte) X hx hZ w hh (g := mkF m pc L (.int j :: S)) rfl (hb hby hd) rfl hn (cap := cap) (by rw [e]; exact hcap) hb8 hc hs
  have hj2 := Int32.toInt_lt j
  have F : AB Z h' h.size n (fun _ => 0) := ⟨_, A', by rw [sz_new]; exact e, by omega, fun k hk => by
    have q : (newA cA .byte j).slots[k]? = some (defaultValue .byte) := by simp only [newA, e, Array.getElem?_replicate, if_pos hk]
    exact q⟩
  obtain ⟨s₂, v, L', st, r⟩ := hr _ h' rfl E' F hx hby hml hown hZ hret hlk hnm T' _ X' hF e'
  exact ⟨s₂, v, L', st' _ st, r⟩
theorem lenI {a : Addr} {n : Nat} {f : Nat → Int32} (hd : decode bs pc = .ok (.arraylength, 1)) (hp : pc + 1 = pc') (A : AI Z h a n f) (hr : ∀ z : Int32, z.toInt = (n : Int) → Go K rm Z n0 bs ml ret own nm Q kc ks h pc' L (.int z :: S)) : Go K rm Z n0 bs ml ret own nm Q kc ks h pc L (.ref a :: S) := by
  subst hp
  obtain ⟨p, l, e, s, m, args, below, meth, c⟩ := K
  intro hx hby hml hown hZ hret hlk hnm T locs X hF hh
  obtain ⟨cl, A1, r1, r2, r3⟩ := A
  obtain ⟨s₂, v, L', st, r⟩ := hr cl.slots.size.toInt32 (by rw [r1]; exact len_toInt r2) hx hby hml hown hZ hret hlk hnm T locs X hF hh
  exact ⟨s₂, v, L', X.arraylength hx (by rw [hh]; exact A1.1) (State.isArrayOf_alike hZ.alike A1.2.1) (g := mkF m pc L (.ref a :: S)) rfl rfl (hb hby hd) _ st, r⟩
theorem lenJ {a : Addr} {n : Nat} {f : Nat → Int64} (hd : decode bs pc = .ok (.arraylength, 1)) (hp : pc + 1 = pc') (A : AJ Z h a n f) (hr : ∀ z : Int32, z.toInt = (n : Int) → Go K rm Z n0 bs ml ret own nm Q kc ks h pc' L (.int z :: S)) : Go K rm Z n0 bs ml ret own nm Q kc ks h pc L (.ref a :: S) := by
  subst hp
  obtain ⟨p, l, e, s, m, args, below, meth, c⟩ := K
  intro hx hby hml hown hZ hret hlk hnm T locs X hF hh
  obtain ⟨cl, A1, r1, r2, r3⟩ := A
  obtain ⟨s₂, v, L', st, r⟩ := hr cl.slots.size.toInt32 (by rw [r1]; exact len_toInt r2) hx hby hml hown hZ hret hlk hnm T locs X hF hh
  exact ⟨s₂, v, L', X.arraylength hx (by rw [hh]; exact A1.1) (State.isArrayOf_alike hZ.alike A1.2.1) (g := mkF m pc L (.ref a :: S)) rfl rfl (hb hby hd) _ st, r⟩
theorem lenB {a : Addr} {n : Nat} {f : Nat → Int32} (hd : decode bs pc = .ok (.arraylength, 1)) (hp : pc + 1 = pc') (A : AB Z h a n f) (hr : ∀ z : Int32, z.toInt = (n : Int) → Go K rm Z n0 bs ml ret own nm Q kc ks h pc' L (.int z :: S)) : Go K rm Z n0 bs ml ret own nm Q kc ks h pc L (.ref a :: S) := by
  subst hp
  obtain ⟨p, l, e, s, m, args, below, meth, c⟩ := K
  intro hx hby hml hown hZ hret hlk hnm T locs X hF hh
  obtain ⟨cl, A1, r1, r2, r3⟩ := A
  obtain ⟨s₂, v, L', st, r⟩ := hr cl.slots.size.toInt32 (by rw [r1]; exact len_toInt r2) hx hby hml hown hZ hret hlk hnm T locs X hF hh
  exact ⟨s₂, v, L', X.arraylength hx (by rw [hh]; exact A1.1) (State.isArrayOf_alike hZ.alike A1.2.1) (g := mkF m pc L (.ref a :: S)) rfl rfl (hb hby hd) _ st, r⟩
end Laws
end Jvm.Own
@@BLOCK:NumsL.lean.txt@@
namespace Jvm.Own
theorem i64_nat (x : Int64) (h : 0 ≤ x.toInt) : (x.toBitVec.toNat : Int) = x.toInt := by
  have hl := x.toBitVec.isLt
  have e : x.toInt = x.toBitVec.toInt := rfl
  rw [e] at h ⊢
  rw [BitVec.toInt_eq_toNat_cond] at h ⊢
  split at h <;> rename_i hc
  · rw [if_pos hc]
  · omega
theorem i64_ofnat (x : Int64) (h : x.toBitVec.toNat < 2 ^ 63) : x.toInt = (x.toBitVec.toNat : Int) := by
  show x.toBitVec.toInt = _
  rw [BitVec.toInt_eq_toNat_cond, if_pos (by omega)]
theorem i64_or (x y : Int64) (k q : Nat) (hx : x.toInt = (q : Int) * 2 ^ k) (hy0 : 0 ≤ y.toInt) (hy : y.toInt < 2 ^ k) (hb : (q : Int) * 2 ^ k + 2 ^ k ≤ 2 ^ 63) : (x ||| y).toInt = x.toInt + y.toInt := by
  have c : ((q * 2 ^ k : Nat) : Int) = (q : Int) * 2 ^ k := by simp
  have c2 : ((2 ^ k : Nat) : Int) = 2 ^ k := by simp
  have x0 : 0 ≤ x.toInt := by omega
  have hx' := i64_nat x x0
  have hy' := i64_nat y hy0
  have ex : x.toBitVec.toNat = 2 ^ k * q := by rw [Nat.mul_comm]; omega
  have ey : y.toBitVec.toNat < 2 ^ k := by omega
  have e : (x ||| y).toBitVec.toNat = x.toBitVec.toNat + y.toBitVec.toNat := by
    rw [Int64.toBitVec_or, BitVec.toNat_or, ex, ← Nat.two_pow_add_eq_or_of_lt ey]
  rw [i64_ofnat _ (by omega), e]; omega
theorem i64_hi (x m : Int64) (k : Nat) (hk : k < 63) (hm : m.toBitVec.toNat = (2 ^ (64 - k) - 1) * 2 ^ k) (h0 : 0 ≤ x.toInt) : (x &&& m).toInt = x.toInt / 2 ^ k * 2 ^ k := by
  have hx' := i64_nat x h0
  have hl := x.toBitVec.isLt
  have c2 : ((2 ^ k : Nat) : Int) = 2 ^ k := by simp
  have hlt := Int64.toInt_lt x
  have e : (x &&& m).toBitVec.toNat = x.toBitVec.toNat / 2 ^ k * 2 ^ k := by
    rw [Int64.toBitVec_and, BitVec.toNat_and, hm, ← Nat.shiftLeft_eq, ← Nat.shiftLeft_eq, ← Nat.shiftRight_eq_div_pow]
    apply Nat.eq_of_testBit_eq
    intro i
    rw [Nat.testBit_and, Nat.testBit_shiftLeft, Nat.testBit_shiftLeft, Nat.testBit_two_pow_sub_one, Nat.testBit_shiftRight]
    by_cases q : k ≤ i
    · rw [show k + (i - k) = i by omega]
      by_cases q2 : i < 64
      · simp [q, show i - k < 64 - k by omega]
      · rw [Nat.testBit_lt_two_pow (Nat.lt_of_lt_of_le hl (Nat.pow_le_pow_right (by omega) (by omega)))]; simp
    · simp [q]
  have le : x.toBitVec.toNat / 2 ^ k * 2 ^ k ≤ x.toBitVec.toNat := Nat.div_mul_le_self _ _
  rw [i64_ofnat _ (by omega), e, ← hx', ← c2]; simp
theorem i32_nat (x : Int32) (h : 0 ≤ x.toInt) : (x.toBitVec.toNat : Int) = x.toInt := by
  have hl := x.toBitVec.isLt
  have e : x.toInt = x.toBitVec.toInt := rfl
  rw [e] at h ⊢
  rw [BitVec.toInt_eq_toNat_cond] at h ⊢
  split at h <;> rename_i hc
  · rw [if_pos hc]
  · omega
theorem i32_ofnat (x : Int32) (h : x.toBitVec.toNat < 2 ^ 31) : x.toInt = (x.toBitVec.toNat : Int) := by
  show x.toBitVec.toInt = _
  rw [BitVec.toInt_eq_toNat_cond, if_pos (by omega)]
theorem i2c_small (y : Int32) (h0 : 0 ≤ y.toInt) (h1 : y.toInt < 65536) : y.toUInt32.toUInt16.toUInt32.toInt32 = y := by
  apply Int32.toBitVec_inj.mp
  apply BitVec.eq_of_toNat_eq
  have h := i32_nat y h0
  have e : y.toUInt32.toUInt16.toUInt32.toInt32.toBitVec.toNat = y.toUInt32.toUInt16.toUInt32.toNat := rfl
  rw [e, UInt16.toNat_toUInt32, UInt32.toNat_toUInt16]
  show y.toBitVec.toNat % 2 ^ 16 = _
  omega
theorem ushrL_nn (x : Int64) (h0 : 0 ≤ x.toInt) (y : Int32) {k : Nat} (hy : y.toInt = (k : Int)) (hk : k < 64) : (Jvm.Own.ushrL x y).toInt = x.toInt / 2 ^ k := by
  refine Jvm.Kit.i64_lushr (Jvm.Kit.i64_nonneg.mpr h0) ?_ hk
  have e1 := i32_nat y (by omega)
  have e2 : y.toInt64.toBitVec.toNat = k := by
    have := i64_nat y.toInt64 (by rw [Int32.toInt_toInt64]; omega)
    rw [Int32.toInt_toInt64] at this; omega
  have e4 := Jvm.Kit.i32_mask y 63 (k := 6) (by decide) (by decide)
  have e5 := i64_nat (y &&& 63).toInt64 (by rw [Int32.toInt_toInt64]; omega)
  rw [Int32.toInt_toInt64] at e5
  have e6 : (y &&& 63).toInt64.toUInt64.toNat = (y &&& 63).toInt64.toBitVec.toNat := rfl
  omega
theorem ushrL_bv (x : Int64) (y : Int32) (k : Nat) (hy : y.toInt = (k : Int)) (hk : k < 64) : Jvm.Own.ushrL x y = Int64.ofBitVec (x.toBitVec >>> k) := by
  have e4 := Jvm.Kit.i32_mask y 63 (k := 6) (by decide) (by decide)
  have e5 := i64_nat (y &&& 63).toInt64 (by rw [Int32.toInt_toInt64]; omega)
  rw [Int32.toInt_toInt64] at e5
  have e6 : (y &&& 63).toInt64.toUInt64.toBitVec.toNat = k := by
    have : (y &&& 63).toInt64.toUInt64.toBitVec.toNat = (y &&& 63).toInt64.toBitVec.toNat := rfl
    omega
  apply Int64.toBitVec_inj.mp
  apply BitVec.eq_of_toNat_eq
  show (x.toUInt64 >>> (y &&& 63).toInt64.toUInt64).toBitVec.toNat = (x.toBitVec >>> k).toNat
  rw [UInt64.toBitVec_shiftRight, BitVec.ushiftRight_eq', BitVec.toNat_ushiftRight, BitVec.toNat_ushiftRight, BitVec.toNat_umod, e6]
  show x.toBitVec.toNat >>> (k % 64) = _
  rw [Nat.mod_eq_of_lt hk]
end Jvm.Own
namespace Jvm.Pilot.@@N@@
open Jvm Jvm.ClassFile Sem Op Lib Jvm.Free Jvm.Stand Jvm.LawKit Jvm.RoadKit Bundle Jvm.Own Jvm.Pilot.@@N@@.Jvm.D

theorem d_prog_2_method_2_0 : decode prog_2_method_2_code 0 = .ok (.iload_n 0, 1) := by decide +kernel
theorem d_prog_2_method_2_1 : decode prog_2_method_2_code 1 = .ok (.bipush 32, 2) := by decide +kernel
theorem d_prog_2_method_2_3 : decode prog_2_method_2_code 3 = .ok (.if_icmp .lt 9, 3) := by decide +kernel
theorem d_prog_2_method_2_12 : decode prog_2_method_2_code 12 = .ok (.iconst 1, 1) := by decide +kernel
theorem d_prog_2_method_2_13 : decode prog_2_method_2_code 13 = .ok (.goto 4, 3) := by decide +kernel
theorem d_prog_2_method_2_17 : decode prog_2_method_2_code 17 = .ok (.ireturn, 1) := by decide +kernel
theorem d_prog_2_method_2_6 : decode prog_2_method_2_code 6 = .ok (.iload_n 0, 1) := by decide +kernel
theorem d_prog_2_method_2_7 : decode prog_2_method_2_code 7 = .ok (.bipush 127, 2) := by decide +kernel
theorem d_prog_2_method_2_9 : decode prog_2_method_2_code 9 = .ok (.if_icmp .ne 7, 3) := by decide +kernel
theorem d_prog_2_method_2_16 : decode prog_2_method_2_code 16 = .ok (.iconst 0, 1) := by decide +kernel
theorem d_method_2_0 : decode method_2_code 0 = .ok (.iload_n 0, 1) := by decide +kernel
theorem d_method_2_1 : decode method_2_code 1 = .ok (.ifCond .lt 11, 3) := by decide +kernel
theorem d_method_2_12 : decode method_2_code 12 = .ok (.iload_n 0, 1) := by decide +kernel
theorem d_method_2_13 : decode method_2_code 13 = .ok (.bipush 127, 2) := by decide +kernel
theorem d_method_2_15 : decode method_2_code 15 = .ok (.if_icmp .ne 7, 3) := by decide +kernel
theorem d_method_2_22 : decode method_2_code 22 = .ok (.iconst 0, 1) := by decide +kernel
theorem d_method_2_23 : decode method_2_code 23 = .ok (.ireturn, 1) := by decide +kernel
theorem d_method_2_18 : decode method_2_code 18 = .ok (.iconst 1, 1) := by decide +kernel
theorem d_method_2_19 : decode method_2_code 19 = .ok (.goto 4, 3) := by decide +kernel
theorem d_method_2_4 : decode method_2_code 4 = .ok (.iload_n 0, 1) := by decide +kernel
theorem d_method_2_5 : decode method_2_code 5 = .ok (.bipush 31, 2) := by decide +kernel
theorem d_method_2_7 : decode method_2_code 7 = .ok (.if_icmp .gt 5, 3) := by decide +kernel
theorem d_method_2_10 : decode method_2_code 10 = .ok (.iconst 1, 1) := by decide +kernel
theorem d_method_2_11 : decode method_2_code 11 = .ok (.ireturn, 1) := by decide +kernel
theorem pn_0 : plainName "com/example/vouch/vouch/cli/ControlCharacters" = true := by first | (simp [plainName, overriddenIn]; done) | decide +kernel
theorem pn_1 : plainName "com/example/vouch/vouch/cli/ControlCharactersIsControlPinLaw" = true := by first | (simp [plainName, overriddenIn]; done) | decide +kernel
theorem pd_0 : parseMethodDescriptor "(C)Z" = some ⟨[.char], some .boolean⟩ := by decide +kernel
theorem pd_1 : parseMethodDescriptor "(I)Z" = some ⟨[.int], some .boolean⟩ := by decide +kernel
def own_isC (x : Int32) : Int32 := (if x.toInt < (32 : Int32).toInt then (1 : Int32) else (if x ≠ (127 : Int32) then (0 : Int32) else (1 : Int32)))
set_option maxRecDepth 65536 in
set_option maxHeartbeats 40000000 in
theorem c_own_isC (Z : State) (a0 : Array Value) (hw : ∀ d ∈ tables_1, d.before a0 Z = true) (n0 : Nat) (h : Heap) (hZ0 : n0 ≤ h.size) (x : Int32)    :
    Con Z n0 (⟨"com/example/vouch/vouch/cli/ControlCharacters", "isControl", "(C)Z"⟩ : MethodName) prog_2_method_2_code 1 (some .boolean) ({ frames := 0, cells := 0, slots := 0, locals := 0 } : Room) [(.int x)] h (fun v h' => h = h' ∧ ∃ z, v = some (.int z) ∧ z = (own_isC x)) := by
  refine Own.enter (plainFor_of_name pn_0) (L0 := #[.val (.int x)]) (fun m => by first | (simp [entryFrame, mkF, argsToLocals, Value.category]; done) | rfl) fun K => ?_
  show Go K _ _ _ _ _ _ "com/example/vouch/vouch/cli/ControlCharacters" "isControl" _ 0 0 h 0 #[.val (.int x)] []
  refine Own.iloadN (pc' := 1) d_prog_2_method_2_0 rfl rfl ?_
  refine Own.bipush (pc' := 3) (v := (32 : Int32)) d_prog_2_method_2_1 (by decide) rfl ?_
  refine Own.icmp_lt (pc' := 12) (pc2 := 6) d_prog_2_method_2_3 (by decide) (by decide) rfl (fun c3_0 => ?_) (fun c3_0 => ?_)
  · refine Own.iconst (pc' := 13) (v := (1 : Int32)) d_prog_2_method_2_12 (by decide) rfl ?_
    refine Own.goto (pc' := 17) d_prog_2_method_2_13 (by decide) (by decide) ?_
    have hq : (1 : Int32) = (own_isC x) := by unfold own_isC; try rw [if_pos c3_0]
    exact Own.ireturnZ (z' := (1 : Int32)) d_prog_2_method_2_17 rfl (by decide) (⟨rfl, _, rfl, hq⟩) (by decide) (by decide)
  · refine Own.iloadN (pc' := 7) d_prog_2_method_2_6 rfl rfl ?_
    refine Own.bipush (pc' := 9) (v := (127 : Int32)) d_prog_2_method_2_7 (by decide) rfl ?_
    refine Own.icmp_ne (pc' := 16) (pc2 := 12) d_prog_2_method_2_9 (by decide) (by decide) rfl (fun c9_1 => ?_) (fun c9_1 => ?_)
    · refine Own.iconst (pc' := 17) (v := (0 : Int32)) d_prog_2_method_2_16 (by decide) rfl ?_
      have hq : (0 : Int32) = (own_isC x) := by unfold own_isC; try rw [if_neg c3_0]; try rw [if_pos c9_1]
      exact Own.ireturnZ (z' := (0 : Int32)) d_prog_2_method_2_17 rfl (by decide) (⟨rfl, _, rfl, hq⟩) (by decide) (by decide)
    · refine Own.iconst (pc' := 13) (v := (1 : Int32)) d_prog_2_method_2_12 (by decide) rfl ?_
      refine Own.goto (pc' := 17) d_prog_2_method_2_13 (by decide) (by decide) ?_
      have hq : (1 : Int32) = (own_isC x) := by unfold own_isC; try rw [if_neg c3_0]; try rw [if_neg c9_1]
      exact Own.ireturnZ (z' := (1 : Int32)) d_prog_2_method_2_17 rfl (by decide) (⟨rfl, _, rfl, hq⟩) (by decide) (by decide)
def own_exp (p0 : Int32) : Int32 := (if p0.toInt < 0 then (if p0 ≠ (127 : Int32) then (0 : Int32) else (1 : Int32)) else (if (31 : Int32).toInt < p0.toInt then (if p0 ≠ (127 : Int32) then (0 : Int32) else (1 : Int32)) else (1 : Int32)))
set_option maxRecDepth 65536 in
set_option maxHeartbeats 40000000 in
theorem c_own_exp (Z : State) (a0 : Array Value) (hw : ∀ d ∈ tables_1, d.before a0 Z = true) (n0 : Nat) (h : Heap) (hZ0 : n0 ≤ h.size) (p0 : Int32)    :
    Con Z n0 (⟨"com/example/vouch/vouch/cli/ControlCharactersIsControlPinLaw", "expected", "(I)Z"⟩ : MethodName) method_2_code 1 (some .boolean) ({ frames := 0, cells := 0, slots := 0, locals := 0 } : Room) [(.int p0)] h (fun v h' => h = h' ∧ ∃ z, v = some (.int z) ∧ z = (own_exp p0)) := by
  refine Own.enter (plainFor_of_name pn_1) (L0 := #[.val (.int p0)]) (fun m => by first | (simp [entryFrame, mkF, argsToLocals, Value.category]; done) | rfl) fun K => ?_
  show Go K _ _ _ _ _ _ "com/example/vouch/vouch/cli/ControlCharactersIsControlPinLaw" "expected" _ 0 0 h 0 #[.val (.int p0)] []
  refine Own.iloadN (pc' := 1) d_method_2_0 rfl rfl ?_
  refine Own.if_lt (pc' := 12) (pc2 := 4) d_method_2_1 (by decide) (by decide) rfl (fun c1_2 => ?_) (fun c1_2 => ?_)
  · refine Own.iloadN (pc' := 13) d_method_2_12 rfl rfl ?_
    refine Own.bipush (pc' := 15) (v := (127 : Int32)) d_method_2_13 (by decide) rfl ?_
    refine Own.icmp_ne (pc' := 22) (pc2 := 18) d_method_2_15 (by decide) (by decide) rfl (fun c15_3 => ?_) (fun c15_3 => ?_)
    · refine Own.iconst (pc' := 23) (v := (0 : Int32)) d_method_2_22 (by decide) rfl ?_
      have hq : (0 : Int32) = (own_exp p0) := by unfold own_exp; try rw [if_pos c1_2]; try rw [if_pos c15_3]
      exact Own.ireturnZ (z' := (0 : Int32)) d_method_2_23 rfl (by decide) (⟨rfl, _, rfl, hq⟩) (by decide) (by decide)
    · refine Own.iconst (pc' := 19) (v := (1 : Int32)) d_method_2_18 (by decide) rfl ?_
      refine Own.goto (pc' := 23) d_method_2_19 (by decide) (by decide) ?_
      have hq : (1 : Int32) = (own_exp p0) := by unfold own_exp; try rw [if_pos c1_2]; try rw [if_neg c15_3]
      exact Own.ireturnZ (z' := (1 : Int32)) d_method_2_23 rfl (by decide) (⟨rfl, _, rfl, hq⟩) (by decide) (by decide)
  · refine Own.iloadN (pc' := 5) d_method_2_4 rfl rfl ?_
    refine Own.bipush (pc' := 7) (v := (31 : Int32)) d_method_2_5 (by decide) rfl ?_
    refine Own.icmp_gt (pc' := 12) (pc2 := 10) d_method_2_7 (by decide) (by decide) rfl (fun c7_4 => ?_) (fun c7_4 => ?_)
    · refine Own.iloadN (pc' := 13) d_method_2_12 rfl rfl ?_
      refine Own.bipush (pc' := 15) (v := (127 : Int32)) d_method_2_13 (by decide) rfl ?_
      refine Own.icmp_ne (pc' := 22) (pc2 := 18) d_method_2_15 (by decide) (by decide) rfl (fun c15_5 => ?_) (fun c15_5 => ?_)
      · refine Own.iconst (pc' := 23) (v := (0 : Int32)) d_method_2_22 (by decide) rfl ?_
        have hq : (0 : Int32) = (own_exp p0) := by unfold own_exp; try rw [if_neg c1_2]; try rw [if_pos c7_4]; try rw [if_pos c15_5]
        exact Own.ireturnZ (z' := (0 : Int32)) d_method_2_23 rfl (by decide) (⟨rfl, _, rfl, hq⟩) (by decide) (by decide)
      · refine Own.iconst (pc' := 19) (v := (1 : Int32)) d_method_2_18 (by decide) rfl ?_
        refine Own.goto (pc' := 23) d_method_2_19 (by decide) (by decide) ?_
        have hq : (1 : Int32) = (own_exp p0) := by unfold own_exp; try rw [if_neg c1_2]; try rw [if_pos c7_4]; try rw [if_neg c15_5]
        exact Own.ireturnZ (z' := (1 : Int32)) d_method_2_23 rfl (by decide) (⟨rfl, _, rfl, hq⟩) (by decide) (by decide)
    · refine Own.iconst (pc' := 11) (v := (1 : Int32)) d_method_2_10 (by decide) rfl ?_
      have hq : (1 : Int32) = (own_exp p0) := by unfold own_exp; try rw [if_neg c1_2]; try rw [if_neg c7_4]
      exact Own.ireturnZ (z' := (1 : Int32)) d_method_2_11 rfl (by decide) (⟨rfl, _, rfl, hq⟩) (by decide) (by decide)
theorem own_m16 (x : Int32) : 0 ≤ (x &&& 65535).toInt ∧ (x &&& 65535).toInt < 65536 := by
  have e := Jvm.Kit.i32_mask x 65535 (k := 16) (by decide) (by decide)
  omega
theorem own_same (y : Int32) (h0 : 0 ≤ y.toInt) (h1 : y.toInt < 65536) : own_isC y = own_exp y := by
  have a1 : (32 : Int32).toInt = 32 := by decide
  have a2 : (31 : Int32).toInt = 31 := by decide
  unfold own_isC own_exp
  rw [a1, a2]
  split <;> split <;> (try split) <;> (try split) <;> first | rfl | omega | (exfalso; simp_all; done) | (exfalso; omega)
set_option maxRecDepth 65536 in
set_option maxHeartbeats 40000000 in
theorem own_law (l : Launch) (Z : State) (a0 : Array Value) (hw : ∀ d ∈ tables_1, d.before a0 Z = true) (ws : List Jvm.Cond) (n0 : Nat) (h : Heap) (hZ0 : n0 ≤ h.size) (p0 : Int32)  :
    MetFree l x (head1 (Jvm.Cond.code x code maxLocals ret :: ws) room_1) (fun a U => a = #[(.int p0)] ∧ Z.Warmed39 U.vm ∧ U.heap = h) (fun _ _ _ _ _ => True) (fun _ U o U' => ∃ v L, o = .returned v ∧ ((fun v _ => v = some (.int 1)) v U'.heap ∧ Fr n0 L) ∧ FrameEnd U o U' L room_1.cells room_1.slots) := by
  refine Own.enterW (Q := fun v _ => v = some (.int 1)) (plainFor_of_name pn_1) (L0 := #[.val (.int p0), .unset, .unset, .unset]) (fun m => by first | (simp [entryFrame, mkF, argsToLocals, Value.category, maxLocals]; done) | rfl) fun K => ?_
  show Go K _ _ _ code 4 (some .boolean) "com/example/vouch/vouch/cli/ControlCharactersIsControlPinLaw" "law" _ 0 0 h 0 #[.val (.int p0), .unset, .unset, .unset] []
  refine Own.iloadN (pc' := 1) at_0 rfl rfl ?_
  refine Own.ldcInt (pc' := 3) (v := (65535 : Int32)) at_1 (hw _ (List.mem_of_getElem? (i := 0) rfl)) rfl ?_
  refine Own.iand (pc' := 4) at_3 rfl fun v7 hv7 => ?_
  refine Own.istoreN (pc' := 5) (L1 := #[.val (.int p0), .val (.int v7), .unset, .unset]) at_4 rfl rfl ?_
  refine Own.iloadN (pc' := 6) at_5 rfl rfl ?_
  refine Own.i2c (pc' := 7) at_6 rfl fun v8 hv8 => ?_
  refine Own.istoreN (pc' := 8) (L1 := #[.val (.int p0), .val (.int v7), .val (.int v8), .unset]) at_7 rfl rfl ?_
  refine Own.iloadN (pc' := 9) at_8 rfl rfl ?_
  refine Own.static (pc' := 12) (y := (⟨"com/example/vouch/vouch/cli/ControlCharacters", "isControl", "(C)Z"⟩ : MethodName)) (rm' := ({ frames := 0, cells := 0, slots := 0, locals := 0 } : Room)) (W := 0) (as := [(.int v8)]) (rest := []) at_9 rfl (hw _ (List.mem_of_getElem? (i := 1) rfl)) (hw _ (List.mem_of_getElem? (i := 2) rfl)) (hw _ (List.mem_of_getElem? (i := 3) rfl)) (hw _ (List.mem_of_getElem? (i := 4) rfl)) (by decide) (c_own_isC Z a0 hw n0 h hZ0 v8   ) rfl rfl (lenOf pd_0 rfl) (by decide) rfl (by decide) (by decide) (by decide) fun r10 h9 qh9 => ?_
  obtain ⟨e1, v11, e2, hv11⟩ := qh9
  subst e1 e2
  show Go K _ _ _ _ _ _ _ _ _ 0 0 h 12 #[.val (.int p0), .val (.int v7), .val (.int v8), .unset] [(.int v11)]
  refine Own.iloadN (pc' := 13) at_12 rfl rfl ?_
  refine Own.static (pc' := 16) (y := (⟨"com/example/vouch/vouch/cli/ControlCharactersIsControlPinLaw", "expected", "(I)Z"⟩ : MethodName)) (rm' := ({ frames := 0, cells := 0, slots := 0, locals := 0 } : Room)) (W := 1) (as := [(.int v7)]) (rest := [(.int v11)]) at_13 rfl (hw _ (List.mem_of_getElem? (i := 5) rfl)) (hw _ (List.mem_of_getElem? (i := 6) rfl)) (hw _ (List.mem_of_getElem? (i := 7) rfl)) (hw _ (List.mem_of_getElem? (i := 8) rfl)) (by decide) (c_own_exp Z a0 hw n0 h hZ0 v7   ) rfl rfl (lenOf pd_1 rfl) (by decide) rfl (by decide) (by decide) (by decide) fun r13 h12 qh12 => ?_
  obtain ⟨e1, v14, e2, hv14⟩ := qh12
  subst e1 e2
  show Go K _ _ _ _ _ _ _ _ _ 0 0 h 16 #[.val (.int p0), .val (.int v7), .val (.int v8), .unset] [(.int v14), (.int v11)]
  obtain ⟨w16, hw16⟩ : ∃ w : Int32, w = (if v11 ≠ v14 then (0 : Int32) else (1 : Int32)) := ⟨_, rfl⟩
  refine Own.join (pc2 := 24) (L2 := #[.val (.int p0), .val (.int v7), .val (.int v8), .unset]) (S2 := [(.int w16)]) (fun J17 => ?_) ?_
  · refine Own.icmp_ne (pc' := 23) (pc2 := 19) at_16 (by decide) (by decide) rfl (fun c16_14 => ?_) (fun c16_14 => ?_)
    · refine Own.iconst (pc' := 24) (v := (0 : Int32)) at_23 (by decide) rfl ?_
      try rw [if_pos c16_14] at hw16
      subst hw16
      exact J17
    · refine Own.iconst (pc' := 20) (v := (1 : Int32)) at_19 (by decide) rfl ?_
      refine Own.goto (pc' := 24) at_20 (by decide) (by decide) ?_
      try rw [if_neg c16_14] at hw16
      subst hw16
      exact J17
  have e24 : w16 = 1 := by
    have m := own_m16 p0
    rw [hw16, if_neg]
    intro q
    apply q
    subst_vars
    rw [i2c_small _ m.1 m.2]; exact own_same _ m.1 m.2
  subst e24
  refine Own.istoreN (pc' := 25) (L1 := #[.val (.int p0), .val (.int v7), .val (.int v8), .val (.int (1 : Int32))]) at_24 rfl rfl ?_
  refine Own.iloadN (pc' := 26) at_25 rfl rfl ?_
  refine Own.if_eq (pc' := 40) (pc2 := 29) at_26 (by decide) (by decide) rfl (fun q => absurd q (by decide)) (fun _ => ?_)
  refine Own.iconst (pc' := 30) (v := (0 : Int32)) at_29 (by decide) rfl ?_
  refine Own.static (pc' := 33) (y := (⟨"com/example/vouch/vouch/cli/ControlCharacters", "isControl", "(C)Z"⟩ : MethodName)) (rm' := ({ frames := 0, cells := 0, slots := 0, locals := 0 } : Room)) (W := 0) (as := [(.int (0 : Int32))]) (rest := []) at_30 rfl (hw _ (List.mem_of_getElem? (i := 1) rfl)) (hw _ (List.mem_of_getElem? (i := 2) rfl)) (hw _ (List.mem_of_getElem? (i := 3) rfl)) (hw _ (List.mem_of_getElem? (i := 4) rfl)) (by decide) (c_own_isC Z a0 hw n0 h hZ0 (0 : Int32)   ) rfl rfl (lenOf pd_0 rfl) (by decide) rfl (by decide) (by decide) (by decide) fun r20 h19 qh19 => ?_
  obtain ⟨e1, v21, e2, hv21⟩ := qh19
  subst e1 e2
  obtain rfl : v21 = (1 : Int32) := hv21.trans (by decide)
  show Go K _ _ _ _ _ _ _ _ _ 0 0 h 33 #[.val (.int p0), .val (.int v7), .val (.int v8), .val (.int (1 : Int32))] [(.int (1 : Int32))]
  refine Own.if_eq (pc' := 40) (pc2 := 36) at_33 (by decide) (by decide) rfl (fun q => absurd q (by decide)) (fun _ => ?_)
  refine Own.iconst (pc' := 37) (v := (1 : Int32)) at_36 (by decide) rfl ?_
  refine Own.goto (pc' := 41) at_37 (by decide) (by decide) ?_
  refine Own.istoreN (pc' := 42) (L1 := #[.val (.int p0), .val (.int v7), .val (.int v8), .val (.int (1 : Int32))]) at_41 rfl rfl ?_
  refine Own.iloadN (pc' := 43) at_42 rfl rfl ?_
  refine Own.if_eq (pc' := 58) (pc2 := 46) at_43 (by decide) (by decide) rfl (fun q => absurd q (by decide)) (fun _ => ?_)
  refine Own.bipush (pc' := 48) (v := (31 : Int32)) at_46 (by decide) rfl ?_
  refine Own.static (pc' := 51) (y := (⟨"com/example/vouch/vouch/cli/ControlCharacters", "isControl", "(C)Z"⟩ : MethodName)) (rm' := ({ frames := 0, cells := 0, slots := 0, locals := 0 } : Room)) (W := 0) (as := [(.int (31 : Int32))]) (rest := []) at_48 rfl (hw _ (List.mem_of_getElem? (i := 1) rfl)) (hw _ (List.mem_of_getElem? (i := 2) rfl)) (hw _ (List.mem_of_getElem? (i := 3) rfl)) (hw _ (List.mem_of_getElem? (i := 4) rfl)) (by decide) (c_own_isC Z a0 hw n0 h hZ0 (31 : Int32)   ) rfl rfl (lenOf pd_0 rfl) (by decide) rfl (by decide) (by decide) (by decide) fun r25 h24 qh24 => ?_
  obtain ⟨e1, v26, e2, hv26⟩ := qh24
  subst e1 e2
  obtain rfl : v26 = (1 : Int32) := hv26.trans (by decide)
  show Go K _ _ _ _ _ _ _ _ _ 0 0 h 51 #[.val (.int p0), .val (.int v7), .val (.int v8), .val (.int (1 : Int32))] [(.int (1 : Int32))]
  refine Own.if_eq (pc' := 58) (pc2 := 54) at_51 (by decide) (by decide) rfl (fun q => absurd q (by decide)) (fun _ => ?_)
  refine Own.iconst (pc' := 55) (v := (1 : Int32)) at_54 (by decide) rfl ?_
  refine Own.goto (pc' := 59) at_55 (by decide) (by decide) ?_
  refine Own.istoreN (pc' := 60) (L1 := #[.val (.int p0), .val (.int v7), .val (.int v8), .val (.int (1 : Int32))]) at_59 rfl rfl ?_
  refine Own.iloadN (pc' := 61) at_60 rfl rfl ?_
  refine Own.if_eq (pc' := 76) (pc2 := 64) at_61 (by decide) (by decide) rfl (fun q => absurd q (by decide)) (fun _ => ?_)
  refine Own.bipush (pc' := 66) (v := (32 : Int32)) at_64 (by decide) rfl ?_
  refine Own.static (pc' := 69) (y := (⟨"com/example/vouch/vouch/cli/ControlCharacters", "isControl", "(C)Z"⟩ : MethodName)) (rm' := ({ frames := 0, cells := 0, slots := 0, locals := 0 } : Room)) (W := 0) (as := [(.int (32 : Int32))]) (rest := []) at_66 rfl (hw _ (List.mem_of_getElem? (i := 1) rfl)) (hw _ (List.mem_of_getElem? (i := 2) rfl)) (hw _ (List.mem_of_getElem? (i := 3) rfl)) (hw _ (List.mem_of_getElem? (i := 4) rfl)) (by decide) (c_own_isC Z a0 hw n0 h hZ0 (32 : Int32)   ) rfl rfl (lenOf pd_0 rfl) (by decide) rfl (by decide) (by decide) (by decide) fun r30 h29 qh29 => ?_
  obtain ⟨e1, v31, e2, hv31⟩ := qh29
  subst e1 e2
  obtain rfl : v31 = (0 : Int32) := hv31.trans (by decide)
  show Go K _ _ _ _ _ _ _ _ _ 0 0 h 69 #[.val (.int p0), .val (.int v7), .val (.int v8), .val (.int (1 : Int32))] [(.int (0 : Int32))]
  refine Own.if_ne (pc' := 76) (pc2 := 72) at_69 (by decide) (by decide) rfl (fun q => absurd q (by decide)) (fun _ => ?_)
  refine Own.iconst (pc' := 73) (v := (1 : Int32)) at_72 (by decide) rfl ?_
  refine Own.goto (pc' := 77) at_73 (by decide) (by decide) ?_
  refine Own.istoreN (pc' := 78) (L1 := #[.val (.int p0), .val (.int v7), .val (.int v8), .val (.int (1 : Int32))]) at_77 rfl rfl ?_
  refine Own.iloadN (pc' := 79) at_78 rfl rfl ?_
  refine Own.if_eq (pc' := 94) (pc2 := 82) at_79 (by decide) (by decide) rfl (fun q => absurd q (by decide)) (fun _ => ?_)
  refine Own.bipush (pc' := 84) (v := (126 : Int32)) at_82 (by decide) rfl ?_
  refine Own.static (pc' := 87) (y := (⟨"com/example/vouch/vouch/cli/ControlCharacters", "isControl", "(C)Z"⟩ : MethodName)) (rm' := ({ frames := 0, cells := 0, slots := 0, locals := 0 } : Room)) (W := 0) (as := [(.int (126 : Int32))]) (rest := []) at_84 rfl (hw _ (List.mem_of_getElem? (i := 1) rfl)) (hw _ (List.mem_of_getElem? (i := 2) rfl)) (hw _ (List.mem_of_getElem? (i := 3) rfl)) (hw _ (List.mem_of_getElem? (i := 4) rfl)) (by decide) (c_own_isC Z a0 hw n0 h hZ0 (126 : Int32)   ) rfl rfl (lenOf pd_0 rfl) (by decide) rfl (by decide) (by decide) (by decide) fun r35 h34 qh34 => ?_
  obtain ⟨e1, v36, e2, hv36⟩ := qh34
  subst e1 e2
  obtain rfl : v36 = (0 : Int32) := hv36.trans (by decide)
  show Go K _ _ _ _ _ _ _ _ _ 0 0 h 87 #[.val (.int p0), .val (.int v7), .val (.int v8), .val (.int (1 : Int32))] [(.int (0 : Int32))]
  refine Own.if_ne (pc' := 94) (pc2 := 90) at_87 (by decide) (by decide) rfl (fun q => absurd q (by decide)) (fun _ => ?_)
  refine Own.iconst (pc' := 91) (v := (1 : Int32)) at_90 (by decide) rfl ?_
  refine Own.goto (pc' := 95) at_91 (by decide) (by decide) ?_
  refine Own.istoreN (pc' := 96) (L1 := #[.val (.int p0), .val (.int v7), .val (.int v8), .val (.int (1 : Int32))]) at_95 rfl rfl ?_
  refine Own.iloadN (pc' := 97) at_96 rfl rfl ?_
  refine Own.if_eq (pc' := 112) (pc2 := 100) at_97 (by decide) (by decide) rfl (fun q => absurd q (by decide)) (fun _ => ?_)
  refine Own.bipush (pc' := 102) (v := (127 : Int32)) at_100 (by decide) rfl ?_
  refine Own.static (pc' := 105) (y := (⟨"com/example/vouch/vouch/cli/ControlCharacters", "isControl", "(C)Z"⟩ : MethodName)) (rm' := ({ frames := 0, cells := 0, slots := 0, locals := 0 } : Room)) (W := 0) (as := [(.int (127 : Int32))]) (rest := []) at_102 rfl (hw _ (List.mem_of_getElem? (i := 1) rfl)) (hw _ (List.mem_of_getElem? (i := 2) rfl)) (hw _ (List.mem_of_getElem? (i := 3) rfl)) (hw _ (List.mem_of_getElem? (i := 4) rfl)) (by decide) (c_own_isC Z a0 hw n0 h hZ0 (127 : Int32)   ) rfl rfl (lenOf pd_0 rfl) (by decide) rfl (by decide) (by decide) (by decide) fun r40 h39 qh39 => ?_
  obtain ⟨e1, v41, e2, hv41⟩ := qh39
  subst e1 e2
  obtain rfl : v41 = (1 : Int32) := hv41.trans (by decide)
  show Go K _ _ _ _ _ _ _ _ _ 0 0 h 105 #[.val (.int p0), .val (.int v7), .val (.int v8), .val (.int (1 : Int32))] [(.int (1 : Int32))]
  refine Own.if_eq (pc' := 112) (pc2 := 108) at_105 (by decide) (by decide) rfl (fun q => absurd q (by decide)) (fun _ => ?_)
  refine Own.iconst (pc' := 109) (v := (1 : Int32)) at_108 (by decide) rfl ?_
  refine Own.goto (pc' := 113) at_109 (by decide) (by decide) ?_
  refine Own.istoreN (pc' := 114) (L1 := #[.val (.int p0), .val (.int v7), .val (.int v8), .val (.int (1 : Int32))]) at_113 rfl rfl ?_
  refine Own.iloadN (pc' := 115) at_114 rfl rfl ?_
  refine Own.if_eq (pc' := 131) (pc2 := 118) at_115 (by decide) (by decide) rfl (fun q => absurd q (by decide)) (fun _ => ?_)
  refine Own.sipush (pc' := 121) (v := (128 : Int32)) at_118 (by decide) rfl ?_
  refine Own.static (pc' := 124) (y := (⟨"com/example/vouch/vouch/cli/ControlCharacters", "isControl", "(C)Z"⟩ : MethodName)) (rm' := ({ frames := 0, cells := 0, slots := 0, locals := 0 } : Room)) (W := 0) (as := [(.int (128 : Int32))]) (rest := []) at_121 rfl (hw _ (List.mem_of_getElem? (i := 1) rfl)) (hw _ (List.mem_of_getElem? (i := 2) rfl)) (hw _ (List.mem_of_getElem? (i := 3) rfl)) (hw _ (List.mem_of_getElem? (i := 4) rfl)) (by decide) (c_own_isC Z a0 hw n0 h hZ0 (128 : Int32)   ) rfl rfl (lenOf pd_0 rfl) (by decide) rfl (by decide) (by decide) (by decide) fun r45 h44 qh44 => ?_
  obtain ⟨e1, v46, e2, hv46⟩ := qh44
  subst e1 e2
  obtain rfl : v46 = (0 : Int32) := hv46.trans (by decide)
  show Go K _ _ _ _ _ _ _ _ _ 0 0 h 124 #[.val (.int p0), .val (.int v7), .val (.int v8), .val (.int (1 : Int32))] [(.int (0 : Int32))]
  refine Own.if_ne (pc' := 131) (pc2 := 127) at_124 (by decide) (by decide) rfl (fun q => absurd q (by decide)) (fun _ => ?_)
  refine Own.iconst (pc' := 128) (v := (1 : Int32)) at_127 (by decide) rfl ?_
  refine Own.goto (pc' := 132) at_128 (by decide) (by decide) ?_
  refine Own.istoreN (pc' := 133) (L1 := #[.val (.int p0), .val (.int v7), .val (.int v8), .val (.int (1 : Int32))]) at_132 rfl rfl ?_
  refine Own.iloadN (pc' := 134) at_133 rfl rfl ?_
  refine Own.if_eq (pc' := 150) (pc2 := 137) at_134 (by decide) (by decide) rfl (fun q => absurd q (by decide)) (fun _ => ?_)
  refine Own.sipush (pc' := 140) (v := (159 : Int32)) at_137 (by decide) rfl ?_
  refine Own.static (pc' := 143) (y := (⟨"com/example/vouch/vouch/cli/ControlCharacters", "isControl", "(C)Z"⟩ : MethodName)) (rm' := ({ frames := 0, cells := 0, slots := 0, locals := 0 } : Room)) (W := 0) (as := [(.int (159 : Int32))]) (rest := []) at_140 rfl (hw _ (List.mem_of_getElem? (i := 1) rfl)) (hw _ (List.mem_of_getElem? (i := 2) rfl)) (hw _ (List.mem_of_getElem? (i := 3) rfl)) (hw _ (List.mem_of_getElem? (i := 4) rfl)) (by decide) (c_own_isC Z a0 hw n0 h hZ0 (159 : Int32)   ) rfl rfl (lenOf pd_0 rfl) (by decide) rfl (by decide) (by decide) (by decide) fun r50 h49 qh49 => ?_
  obtain ⟨e1, v51, e2, hv51⟩ := qh49
  subst e1 e2
  obtain rfl : v51 = (0 : Int32) := hv51.trans (by decide)
  show Go K _ _ _ _ _ _ _ _ _ 0 0 h 143 #[.val (.int p0), .val (.int v7), .val (.int v8), .val (.int (1 : Int32))] [(.int (0 : Int32))]
  refine Own.if_ne (pc' := 150) (pc2 := 146) at_143 (by decide) (by decide) rfl (fun q => absurd q (by decide)) (fun _ => ?_)
  refine Own.iconst (pc' := 147) (v := (1 : Int32)) at_146 (by decide) rfl ?_
  refine Own.goto (pc' := 151) at_147 (by decide) (by decide) ?_
  refine Own.istoreN (pc' := 152) (L1 := #[.val (.int p0), .val (.int v7), .val (.int v8), .val (.int (1 : Int32))]) at_151 rfl rfl ?_
  refine Own.iloadN (pc' := 153) at_152 rfl rfl ?_
  refine Own.if_eq (pc' := 168) (pc2 := 156) at_153 (by decide) (by decide) rfl (fun q => absurd q (by decide)) (fun _ => ?_)
  refine Own.ldcInt (pc' := 158) (v := (65535 : Int32)) at_156 (hw _ (List.mem_of_getElem? (i := 0) rfl)) rfl ?_
  refine Own.static (pc' := 161) (y := (⟨"com/example/vouch/vouch/cli/ControlCharacters", "isControl", "(C)Z"⟩ : MethodName)) (rm' := ({ frames := 0, cells := 0, slots := 0, locals := 0 } : Room)) (W := 0) (as := [(.int (65535 : Int32))]) (rest := []) at_158 rfl (hw _ (List.mem_of_getElem? (i := 1) rfl)) (hw _ (List.mem_of_getElem? (i := 2) rfl)) (hw _ (List.mem_of_getElem? (i := 3) rfl)) (hw _ (List.mem_of_getElem? (i := 4) rfl)) (by decide) (c_own_isC Z a0 hw n0 h hZ0 (65535 : Int32)   ) rfl rfl (lenOf pd_0 rfl) (by decide) rfl (by decide) (by decide) (by decide) fun r55 h54 qh54 => ?_
  obtain ⟨e1, v56, e2, hv56⟩ := qh54
  subst e1 e2
  obtain rfl : v56 = (0 : Int32) := hv56.trans (by decide)
  show Go K _ _ _ _ _ _ _ _ _ 0 0 h 161 #[.val (.int p0), .val (.int v7), .val (.int v8), .val (.int (1 : Int32))] [(.int (0 : Int32))]
  refine Own.if_ne (pc' := 168) (pc2 := 164) at_161 (by decide) (by decide) rfl (fun q => absurd q (by decide)) (fun _ => ?_)
  refine Own.iconst (pc' := 165) (v := (1 : Int32)) at_164 (by decide) rfl ?_
  refine Own.goto (pc' := 169) at_165 (by decide) (by decide) ?_
  refine Own.istoreN (pc' := 170) (L1 := #[.val (.int p0), .val (.int v7), .val (.int v8), .val (.int (1 : Int32))]) at_169 rfl rfl ?_
  refine Own.iloadN (pc' := 171) at_170 rfl rfl ?_
  exact Own.ireturnZ (z' := (1 : Int32)) at_171 rfl (by decide) (rfl) (by decide) (by decide)
set_option maxRecDepth 65536 in
set_option maxHeartbeats 40000000 in
theorem comes_1 {Post : Tables → Env → Array Value → State → Outcome → State → Prop} (hpost : ∀ tb e args s v u, (limb_1_1.after args s (.returned v) u = true ∧ limb_1_2.after args s (.returned v) u = true ∧ True) → FrameEnd s (.returned v) u (Jvm.fieldLocs frame_1_writes args s ++ Jvm.arrayLocs frame_1_arrays args s ++ Jvm.staticLocs frame_1_statics s) 0 0 → Post tb e args s (.returned v) u) :
    ArmFor flags0 classFile x code maxLocals ret World_1 tables_1 room_1 Calls_1 rest_1 Pre_1 Post := by
  intro l hfl _ _ p e ha hc hk s m args below hf hA hF happ hP
  obtain ⟨hcalls, hrest, hpre⟩ := hP
  obtain ⟨-, -, -, hnamed, -, -, -, hat⟩ := (Spec.applies_iff hf).mp happ
  obtain ⟨hg, hn⟩ := and_e (Cond.before_iff.mp (show (Jvm.Cond.and given_1 narrow_1).before args s = true from hpre))
  obtain ⟨hcnt, hg0⟩ := and_e hg
  obtain ⟨w0, rfl⟩ : ∃ w0 : Value, args = #[w0] := by
    have hs : args.size = 1 := by simpa [Cond.value, given_1] using hcnt
    obtain ⟨L⟩ := args
    match L, hs with
    | [w0], _ => exact ⟨w0, rfl⟩
  have hw := fun d (hd : d ∈ tables_1) => atoms_spec (ws := Jvm.Cond.code x code maxLocals ret :: tables_1) hat d (List.mem_cons_of_mem _ hd)
  obtain ⟨i0, e0⟩ := is_v hg0
  obtain rfl : w0 = (.int i0) := Option.some.inj e0
  obtain ⟨n, o, h1, h2, h3, _, L, rfl, ⟨rfl, N⟩, hq⟩ := own_law l s _ hw tables_1 s.heap.size s.heap (Nat.le_refl _) i0  p e ha hc hk s m _ below hf ((Spec.applies_iff_loose hf).mp happ).1 ⟨rfl, State.Warmed39.refl s, rfl⟩ trivial
  refine ⟨n, _, h1, h2, h3, hpost _ _ _ _ _ _ ⟨Cond.after_iff.mpr rfl, Cond.after_iff.mpr (eq_i res_at (Term.int_eval (1)) rfl), trivial⟩ ⟨hq.1, hq.2.1, (hq.2.2.sift fun y hy => Or.inr (N y hy)).mono (by decide) (by decide)⟩⟩
theorem main_1_1 : Claimed_1_1 := comes_1 fun _ _ _ _ _ _ h hF => ⟨h.1, hF⟩
theorem main_1_2 : Claimed_1_2 := comes_1 fun _ _ _ _ _ _ h hF => ⟨h.2.1, hF⟩
end Jvm.Pilot.@@N@@
namespace Jvm.Pilot.@@N@@
open Jvm Jvm.ClassFile Sem Op Lib Jvm.Free Jvm.Stand Jvm.Pilot.@@N@@.Jvm.D
/-! MADE BY PROGRAM (witnessworld.py) out of the Statement's table words and the real class files: 9 classes; the members and pool entries that the words name. The judged class is class 1, her method 2. -/
namespace start1
open Jvm.ClassFile
def u (s : String) : CpInfo := .utf8 (stringToUtf16 s)
/-- a pool by its gaps: so many unusable entries, then the entry; so many at the end -/
def gap : Nat → List CpInfo → List CpInfo
  | 0, r => r
  | n + 1, r => .unusable :: gap n r
def poolList (es : List (Nat × CpInfo)) (last : Nat) : List CpInfo := es.foldr (fun e r => gap e.1 (e.2 :: r)) (gap last [])
def pool (es : List (Nat × CpInfo)) (last : Nat) : Array CpInfo := ⟨poolList es last⟩
def fileOf (pool : Array CpInfo) (this : Nat) (attrs : Array Attribute := #[]) (ms : Array MethodInfo := #[]) (fl : Nat := 33) (sup : Nat := 0) (ifs : Array Nat := #[]) (fds : Array FieldInfo := #[]) : ClassFile where
  minorVersion := 0
  majorVersion := 65
  constantPool := pool
  accessFlags := fl
  thisClass := this
  superClass := sup
  interfaces := ifs
  fields := fds
  methods := ms
  attributes := attrs
def plain (name : String) (sup : Option ClassId) : Class where
  name := name
  kind := .ordinary
  loader := none
  accessFlags := 33
  super := sup
  interfaces := #[]
  cf := none
  fields := #[]
  methods := #[]
  instanceTypes := #[]
  staticTypes := #[]
  resolved := #[]
  callSites := []
  init := .initialized
  statics := none
  mirror := none

def pool0 : Array CpInfo := pool [(5, u "<init>"), (0, u "()V"), (1, .class_ 10), (1, u "java/lang/Object")] 113

def k0m0 : Method := { name := "<init>", desc := "()V", sig := { parameters := [], returnType := none }, accessFlags := 1, code := none }
/-- java/lang/Object -/
def k0 : Class := { plain "java/lang/Object" none with
  accessFlags := 33
  interfaces := #[]
  cf := some (fileOf pool0 8 #[] #[{ accessFlags := 1, nameIndex := 5, descriptorIndex := 6, attributes := #[] }] 33 0 #[] #[])
  fields := #[]
  methods := #[k0m0]
  instanceTypes := #[]
  staticTypes := #[]
  resolved := Array.replicate 124 none
  statics := none }

def pool1 : Array CpInfo := pool [(2, .class_ 4), (1, u "java/lang/Object"), (0, u "<init>"), (0, u "()V"), (0, .integer 65535), (0, .methodref 9 10), (0, .class_ 11), (0, .nameAndType 12 13), (0, u "com/example/vouch/vouch/cli/ControlCharacters"), (0, u "isControl"), (0, u "(C)Z"), (0, .methodref 15 16), (0, .class_ 17), (0, .nameAndType 18 19), (0, u "com/example/vouch/vouch/cli/ControlCharactersIsControlPinLaw"), (0, u "expected"), (0, u "(I)Z"), (3, u "law")] 2

def k1m0 : Method := { name := "<init>", desc := "()V", sig := { parameters := [], returnType := none }, accessFlags := 2, code := none }
def k1c1 : Code := { maxStack := 2, maxLocals := 1, code := method_2_code, exceptionTable := #[], attributes := #[] }
def k1m1 : Method := { name := "expected", desc := "(I)Z", sig := { parameters := [.int], returnType := some .boolean }, accessFlags := 10, code := some k1c1 }
def k1c2 : Code := { maxStack := 2, maxLocals := 4, code := code, exceptionTable := #[], attributes := #[] }
def k1m2 : Method := { name := "law", desc := "(I)Z", sig := { parameters := [.int], returnType := some .boolean }, accessFlags := 9, code := some k1c2 }
/-- com/example/vouch/vouch/cli/ControlCharactersIsControlPinLaw -/
def k1 : Class := { plain "com/example/vouch/vouch/cli/ControlCharactersIsControlPinLaw" (some 0) with
  accessFlags := 49
  interfaces := #[]
  cf := some (fileOf pool1 15 #[] #[{ accessFlags := 2, nameIndex := 5, descriptorIndex := 6, attributes := #[] }, { accessFlags := 10, nameIndex := 18, descriptorIndex := 19, attributes := #[] }, { accessFlags := 9, nameIndex := 23, descriptorIndex := 19, attributes := #[] }] 49 2 #[] #[])
  fields := #[]
  methods := #[k1m0, k1m1, k1m2]
  instanceTypes := #[]
  staticTypes := #[]
  resolved := Array.replicate 26 none
  statics := none }

def pool2 : Array CpInfo := pool [(2, .class_ 4), (1, u "java/lang/Object"), (0, u "<init>"), (0, u "()V"), (26, .class_ 35), (1, u "com/example/vouch/vouch/cli/ControlCharacters"), (0, u "isControl"), (0, u "(C)Z")] 21

def k2m0 : Method := { name := "<init>", desc := "()V", sig := { parameters := [], returnType := none }, accessFlags := 2, code := none }
def k2c1 : Code := { maxStack := 2, maxLocals := 1, code := prog_2_method_2_code, exceptionTable := #[], attributes := #[] }
def k2m1 : Method := { name := "isControl", desc := "(C)Z", sig := { parameters := [.char], returnType := some .boolean }, accessFlags := 8, code := some k2c1 }
/-- com/example/vouch/vouch/cli/ControlCharacters -/
def k2 : Class := { plain "com/example/vouch/vouch/cli/ControlCharacters" (some 0) with
  accessFlags := 48
  interfaces := #[]
  cf := some (fileOf pool2 33 #[] #[{ accessFlags := 2, nameIndex := 5, descriptorIndex := 6, attributes := #[] }, { accessFlags := 8, nameIndex := 36, descriptorIndex := 37, attributes := #[] }] 48 2 #[] #[])
  fields := #[]
  methods := #[k2m0, k2m1]
  instanceTypes := #[]
  staticTypes := #[]
  resolved := Array.replicate 59 none
  statics := none }

def pool3 : Array CpInfo := pool [(1, u "java/lang/Cloneable"), (0, .class_ 1), (0, u "java/lang/Object"), (0, .class_ 3)] 3

/-- java/lang/Cloneable -/
def k3 : Class := { plain "java/lang/Cloneable" (some 0) with
  accessFlags := 1537
  interfaces := #[]
  cf := some (fileOf pool3 2 #[] #[] 1537 4 #[] #[])
  fields := #[]
  methods := #[]
  instanceTypes := #[]
  staticTypes := #[]
  resolved := Array.replicate 8 none
  statics := none }

def pool4 : Array CpInfo := pool [(1, u "java/io/Serializable"), (0, .class_ 1), (0, u "java/lang/Object"), (0, .class_ 3)] 3

/-- java/io/Serializable -/
def k4 : Class := { plain "java/io/Serializable" (some 0) with
  accessFlags := 1537
  interfaces := #[]
  cf := some (fileOf pool4 2 #[] #[] 1537 4 #[] #[])
  fields := #[]
  methods := #[]
  instanceTypes := #[]
  staticTypes := #[]
  resolved := Array.replicate 8 none
  statics := none }

/-- the primitive byte -/
def k5 : Class := { plain "byte" none with kind := .primitive 'B', accessFlags := 0x411 }
/-- [B -/
def k6 : Class := { plain "[B" (some 0) with kind := .array 5 .byte, interfaces := #[3, 4], accessFlags := 1041 }

/-- the primitive int -/
def k7 : Class := { plain "int" none with kind := .primitive 'I', accessFlags := 0x411 }
/-- [I -/
def k8 : Class := { plain "[I" (some 0) with kind := .array 7 .int, interfaces := #[3, 4], accessFlags := 1041 }

def heap : Heap := #[]
def classes : Array Class := #[k0, k1, k2, k3, k4, k5, k6, k7, k8]
def interned : List (Array UInt16 × Addr) := []
def slotsUsed : Nat := 0
def theMethod : MethodId := ⟨1, 2⟩
def args0 : Array Value := #[.int 5]
def aboutOver (below : List Frame) : State where
  vm := { classes := classes, interned := interned.toArray }
  heap := heap
  slotsUsed := slotsUsed
  threads := #[{ frames := .invoking theMethod args0 :: below }]
def below0 : List Frame := [.native { method := ⟨0, 0⟩, args := #[] }]
def about1 : State := aboutOver below0
def p0 : Program := .bare "" "" ""
def e0 : Env := launch0.env 0 0 0
theorem w_frames : about1.frames = Frame.invoking theMethod args0 :: below0 := rfl
set_option maxRecDepth 65536 in
theorem w_args : argsFit about1.vm theMethod args0 = true := by decide +kernel
set_option maxRecDepth 65536 in
theorem w_heap : heapFits about1 = true := by decide +kernel
set_option maxRecDepth 65536 in
theorem w_runnable : about1.curStatus? = some .runnable := by decide +kernel
set_option maxRecDepth 65536 in
theorem w_alone : about1.alone = true := by decide +kernel
set_option maxRecDepth 65536 in
theorem w_named : about1.methodNamed? x = some theMethod := by decide +kernel
set_option maxRecDepth 65536 in
theorem w_hears : about1.hears theMethod below0 = true := by decide +kernel
set_option maxRecDepth 65536 in
theorem w_ripe : about1.ripe theMethod args0 below0 = true := by decide +kernel
theorem w_running : about1.status = .running := rfl
set_option maxRecDepth 65536 in
theorem w_room : about1.hasRoom e0.platform room_1 = true :=
  launch0.hasRoom_least _ room_1 (by decide +kernel) (by decide +kernel) (by decide +kernel) (by decide +kernel) (by decide +kernel) (by decide +kernel)
theorem allAtoms_all (ts : List Jvm.Cond) (a : Array Jvm.Value) (st : Jvm.State) : (allAtoms ts).before a st = ts.all (fun c => c.before a st) := by
  induction ts with
  | nil => rfl
  | cons c t ih =>
    show (Jvm.Cond.and c (allAtoms t)).before a st = _
    rw [Jvm.Cond.before_and, ih, List.all_cons]
def words1 : List Jvm.Cond := Jvm.Cond.code x code maxLocals ret :: tables_1
/-- a 'code' word, met by the world's own term for the bytes: nothing is compared byte by byte -/
theorem code_word {y : MethodName} {bytes : ByteArray} {mx : Nat} {rt : Option FieldType} {a : Array Value} {s : State} {m : MethodId} {meth : Method} {c : Code} (h1 : s.methodNamed? y = some m) (h2 : s.vm.method? m = some meth) (h3 : meth.code = some c) (h4 : c.code = bytes)
    (h5 : (c.maxLocals == mx && c.exceptionTable.isEmpty && decide (c.maxStack ≤ mostOperands) && decide (meth.sig.returnType = rt) && !meth.locks && decide (parseMethodDescriptor y.desc = some meth.sig)) = true) : (Jvm.Cond.code y bytes mx rt).before a s = true := by
  simp only [Bool.and_eq_true, beq_iff_eq, Bool.not_eq_true', decide_eq_true_eq] at h5
  obtain ⟨⟨⟨⟨⟨g1, g2⟩, g3⟩, g4⟩, g5⟩, g6⟩ := h5
  simp [Cond.before, Cond.holds, Cond.value, h1, h2, h3, h4, g1, g2, g3, g4, g5, g6]
def isCode : Jvm.Cond → Bool
  | .code _ _ _ _ => true
  | _ => false
theorem all_split {L : List Jvm.Cond} {P : Jvm.Cond → Bool} (h1 : L.all (fun c => isCode c || P c) = true) (h2 : ∀ c ∈ L.filter isCode, P c = true) : L.all P = true := by
  refine List.all_eq_true.mpr fun c hc => ?_
  have h := List.all_eq_true.mp h1 c hc
  rcases Bool.eq_false_or_eq_true (isCode c) with hi | hi
  · exact h2 c (List.mem_filter.mpr ⟨hc, hi⟩)
  · simpa [hi] using h
set_option maxRecDepth 65536 in
theorem w_c0 : (Jvm.Cond.code x code maxLocals ret).before args0 about1 = true := code_word (m := ⟨1, 2⟩) (meth := k1m2) (c := k1c2) (by decide +kernel) rfl rfl rfl (by decide +kernel)
set_option maxRecDepth 65536 in
theorem w_c1 : (Jvm.Cond.code ({ cls := "com/example/vouch/vouch/cli/ControlCharacters", name := "isControl", desc := "(C)Z" } : Jvm.MethodName) prog_2_method_2_code (1 : Nat) (Option.some Jvm.ClassFile.FieldType.boolean)).before args0 about1 = true := code_word (m := ⟨2, 1⟩) (meth := k2m1) (c := k2c1) (by decide +kernel) rfl rfl rfl (by decide +kernel)
set_option maxRecDepth 65536 in
theorem w_c2 : (Jvm.Cond.code ({ cls := "com/example/vouch/vouch/cli/ControlCharactersIsControlPinLaw", name := "expected", desc := "(I)Z" } : Jvm.MethodName) method_2_code (1 : Nat) (Option.some Jvm.ClassFile.FieldType.boolean)).before args0 about1 = true := code_word (m := ⟨1, 1⟩) (meth := k1m1) (c := k1c1) (by decide +kernel) rfl rfl rfl (by decide +kernel)
def codes1 : List Jvm.Cond := [Jvm.Cond.code x code maxLocals ret, Jvm.Cond.code ({ cls := "com/example/vouch/vouch/cli/ControlCharacters", name := "isControl", desc := "(C)Z" } : Jvm.MethodName) prog_2_method_2_code (1 : Nat) (Option.some Jvm.ClassFile.FieldType.boolean), Jvm.Cond.code ({ cls := "com/example/vouch/vouch/cli/ControlCharactersIsControlPinLaw", name := "expected", desc := "(I)Z" } : Jvm.MethodName) method_2_code (1 : Nat) (Option.some Jvm.ClassFile.FieldType.boolean)]
set_option maxRecDepth 65536 in
theorem codes_eq : words1.filter isCode = codes1 := rfl
theorem w_codes : ∀ c ∈ words1.filter isCode, c.before args0 about1 = true := by
  rw [codes_eq]
  intro c hc
  simp only [codes1, List.mem_cons, List.not_mem_nil, or_false] at hc
  rcases hc with rfl | rfl | rfl
  · exact w_c0
  · exact w_c1
  · exact w_c2
set_option maxRecDepth 65536 in
theorem w_t1 : words1.all (fun c => isCode c || c.before args0 about1) = true := by decide +kernel
theorem w_tables : (allAtoms (Jvm.Cond.code x code maxLocals ret :: tables_1)).before args0 about1 = true := by
  rw [allAtoms_all]
  show words1.all (fun c => c.before args0 about1) = true
  refine all_split ?_ w_codes
  rw [w_t1]
set_option maxRecDepth 65536 in
theorem w_case : (Jvm.Cond.and given_1 narrow_1).before args0 about1 = true := by decide +kernel
theorem w_applies : (headSpec (Jvm.Cond.code x code maxLocals ret :: tables_1) room_1).applies x e0.platform about1 = true :=
  (Spec.applies_iff w_frames).mpr ⟨w_running, w_runnable, w_alone, w_named, w_hears, w_ripe, w_room, w_tables⟩
theorem atStart : AtStart classFile x code maxLocals ret World_1 tables_1 room_1 Calls_1 rest_1 Pre_1 launch0 p0 e0 about1 theMethod args0 below0 :=
  ⟨lists_1, trivial, launch0.admits_env _ _ _, launch0.least_env, fairChoices_fair.cas, fairChoices_fair.clock, w_frames, w_args, w_heap, w_applies, trivial, trivial, w_case⟩
end start1
theorem witness_1 : WitnessClaimed_1 := ⟨start1.p0, start1.e0, start1.about1, start1.theMethod, start1.args0, start1.below0, start1.atStart⟩
end Jvm.Pilot.@@N@@
