import JvmDerived
import JvmDerived.Pilot.@@N@@Statement
import JvmDerived.Pilot.@@N@@Code
set_option linter.unusedVariables false
set_option linter.unusedSimpArgs false
namespace Jvm.Own
open Sem ClassFile Op Lib Jvm.Stand Jvm.Free Jvm.LawKit Jvm.RoadKit
abbrev Ctx := Program × Launch × Env × State × MethodId × Array Value × List Frame × Method × Code
def ushr (x y : Int32) : Int32 := (x.toUInt32 >>> (y &&& 31).toUInt32).toInt32
def ushrL (x : Int64) (y : Int32) : Int64 := (x.toUInt64 >>> (y &&& 63).toInt64.toUInt64).toInt64
/-- from here the body comes to its return, and Q holds of what it returns and of the heap -/
def Go (K : Ctx) (rm : Room) (Z : State) (n0 : Nat) (bs : ByteArray) (ml : Nat) (ret : Option FieldType) (own nm : String) (Q : Option Value → Heap → Prop) (kc ks : Nat) (h : Heap) (pc : Nat) (L : Array Slot) (S : List Value) : Prop :=
  match K with
  | (p, l, e, s, m, args, below, meth, c) =>
    p.tables.exec = Jvm.exec → c.code = bs → c.maxLocals = ml → s.vm.findClass own = some m.cls → Z.Warmed39 s.vm → meth.sig.returnType = ret → meth.locks = false → meth.name = nm →
    ∀ T locs, Stand p l e rm s m args below meth c T locs kc ks → Fr n0 locs → T.heap = h →
    ∃ s₂ v L', Steps p.tables e below (T.setTop (mkF m pc L S)) s₂ ∧ s₂.status = .running ∧ Ended s₂ below (.returned v) ∧ Q v s₂.heap ∧ Fr n0 L' ∧ FrameEnd s (.returned v) s₂ L' rm.cells rm.slots
/-- a body's contract -/
def Con (Z : State) (n0 : Nat) (y : MethodName) (bs : ByteArray) (ml : Nat) (ret : Option FieldType) (rm : Room) (as : List Value) (h : Heap) (Q : Option Value → Heap → Prop) : Prop :=
  ∀ l, MetFree l y (head1 [Jvm.Cond.code y bs ml ret] rm) (fun a U => a = as.toArray ∧ Z.Warmed39 U.vm ∧ U.heap = h) (fun _ _ _ _ _ => True) (fun _ U o U' => ∃ v L, o = .returned v ∧ (Q v U'.heap ∧ Fr n0 L) ∧ FrameEnd U o U' L rm.cells rm.slots)
section Laws
variable {K : Ctx} {rm : Room} {Z : State} {n0 : Nat} {bs : ByteArray} {ml : Nat} {ret : Option FieldType} {own nm : String} {Q : Option Value → Heap → Prop} {kc ks : Nat} {h : Heap} {pc pc' : Nat} {L : Array Slot} {S : List Value} {a0 : Array Value}
theorem enterW {l : Launch} {y : MethodName} {ws : List Jvm.Cond} {as : Array Value} {L0 : Array Slot} (hpl : plainFor y = true) (hL : ∀ m, entryFrame m as ml = mkF m 0 L0 [])
    (H : ∀ K, Go K rm Z n0 bs ml ret y.cls y.name Q 0 0 h 0 L0 []) :
    MetFree l y (head1 (Jvm.Cond.code y bs ml ret :: ws) rm) (fun a U => a = as ∧ Z.Warmed39 U.vm ∧ U.heap = h) (fun _ _ _ _ _ => True) (fun _ U o U' => ∃ v L, o = .returned v ∧ (Q v U'.heap ∧ Fr n0 L) ∧ FrameEnd U o U' L rm.cells rm.slots) := by
  refine MetFree.of_bodySF hpl hisR ?_
  intro p e s m args below meth c s₁ Bd hml0 hP hK
  obtain ⟨rfl, hZ, hh⟩ := hP
  have X0 : Stand p l e rm s m args below meth c s₁ [] 0 0 := Stand.of_body Bd
  obtain ⟨s₂, v, L', st, h1, h2, h3, h4, h5⟩ := H (p, l, e, s, m, args, below, meth, c) Bd.exec Bd.bytes hml0 (findClass_of_methodNamed Bd.named) hZ Bd.returns Bd.notSynchronized (name_of_methodNamed Bd.named Bd.method).1 s₁ [] X0 (Fr.nil n0) (by rw [← hh, Bd.state]; rfl)
  exact ⟨s₂, _, castTop (hL m) st, h1, h2, v, L', rfl, ⟨h3, h4⟩, h5⟩
theorem enter {y : MethodName} {as : List Value} {L0 : Array Slot} (hpl : plainFor y = true) (hL : ∀ m, entryFrame m as.toArray ml = mkF m 0 L0 [])
    (H : ∀ K, Go K rm Z n0 bs ml ret y.cls y.name Q 0 0 h 0 L0 []) : Con Z n0 y bs ml ret rm as h Q := fun _ => enterW hpl hL H
theorem iload {k : Nat} {v : Int32} (hd : decode bs pc = .ok (.iload k, 2)) (hl : L[k]? = some (.val (.int v))) (hp : pc + 2 = pc') (hr : Go K rm Z n0 bs ml ret own nm Q kc ks h pc' L (.int v :: S)) : Go K rm Z n0 bs ml ret own nm Q kc ks h pc L S := by
  subst hp
  obtain ⟨p, l, e, s, m, args, below, meth, c⟩ := K
  intro hx hby hml hown hZ hret hlk hnm T locs X hF hh
  obtain ⟨s₂, v, L', st, r⟩ := hr hx hby hml hown hZ hret hlk hnm T locs X hF hh
  exact ⟨s₂, v, L', XS.iload X.here hx rfl (hb hby hd) hl st, r⟩
theorem iloadN {k : Fin 4} {v : Int32} (hd : decode bs pc = .ok (.iload_n k, 1)) (hl : L[k.val]? = some (.val (.int v))) (hp : pc + 1 = pc') (hr : Go K rm Z n0 bs ml ret own nm Q kc ks h pc' L (.int v :: S)) : Go K rm Z n0 bs ml ret own nm Q kc ks h pc L S := by
  subst hp
  obtain ⟨p, l, e, s, m, args, below, meth, c⟩ := K
  intro hx hby hml hown hZ hret hlk hnm T locs X hF hh
  obtain ⟨s₂, v, L', st, r⟩ := hr hx hby hml hown hZ hret hlk hnm T locs X hF hh
  exact ⟨s₂, v, L', XS.iloadN X.here hx rfl (hb hby hd) hl st, r⟩
theorem lload {k : Nat} {v : Int64} (hd : decode bs pc = .ok (.lload k, 2)) (hl : L[k]? = some (.val (.long v))) (hp : pc + 2 = pc') (hr : Go K rm Z n0 bs ml ret own nm Q kc ks h pc' L (.long v :: S)) : Go K rm Z n0 bs ml ret own nm Q kc ks h pc L S := by
  subst hp
  obtain ⟨p, l, e, s, m, args, below, meth, c⟩ := K
  intro hx hby hml hown hZ hret hlk hnm T locs X hF hh
  obtain ⟨s₂, v, L', st, r⟩ := hr hx hby hml hown hZ hret hlk hnm T locs X hF hh
  exact ⟨s₂, v, L', XS.lload X.here hx rfl (hb hby hd) hl st, r⟩
theorem lloadN {k : Fin 4} {v : Int64} (hd : decode bs pc = .ok (.lload_n k, 1)) (hl : L[k.val]? = some (.val (.long v))) (hp : pc + 1 = pc') (hr : Go K rm Z n0 bs ml ret own nm Q kc ks h pc' L (.long v :: S)) : Go K rm Z n0 bs ml ret own nm Q kc ks h pc L S := by
  subst hp
  obtain ⟨p, l, e, s, m, args, below, meth, c⟩ := K
  intro hx hby hml hown hZ hret hlk hnm T locs X hF hh
  obtain ⟨s₂, v, L', st, r⟩ := hr hx hby hml hown hZ hret hlk hnm T locs X hF hh
  exact ⟨s₂, v, L', XS.lloadN X.here hx rfl (hb hby hd) hl st, r⟩
theorem aload {k : Nat} {v : Value} (hd : decode bs pc = .ok (.aload k, 2)) (hl : L[k]? = some (.val v)) (hv : v.isRef = true) (hp : pc + 2 = pc') (hr : Go K rm Z n0 bs ml ret own nm Q kc ks h pc' L (v :: S)) : Go K rm Z n0 bs ml ret own nm Q kc ks h pc L S := by
  subst hp
  obtain ⟨p, l, e, s, m, args, below, meth, c⟩ := K
  intro hx hby hml hown hZ hret hlk hnm T locs X hF hh
  obtain ⟨s₂, v, L', st, r⟩ := hr hx hby hml hown hZ hret hlk hnm T locs X hF hh
  exact ⟨s₂, v, L', XS.aload X.here hx rfl (hb hby hd) hl hv st, r⟩
theorem aloadN {k : Fin 4} {v : Value} (hd : decode bs pc = .ok (.aload_n k, 1)) (hl : L[k.val]? = some (.val v)) (hv : v.isRef = true) (hp : pc + 1 = pc') (hr : Go K rm Z n0 bs ml ret own nm Q kc ks h pc' L (v :: S)) : Go K rm Z n0 bs ml ret own nm Q kc ks h pc L S := by
  subst hp
  obtain ⟨p, l, e, s, m, args, below, meth, c⟩ := K
  intro hx hby hml hown hZ hret hlk hnm T locs X hF hh
  obtain ⟨s₂, v, L', st, r⟩ := hr hx hby hml hown hZ hret hlk hnm T locs X hF hh
  exact ⟨s₂, v, L', XS.aloadN X.here hx rfl (hb hby hd) hl hv st, r⟩
theorem istore {k : Nat} {x : Int32} {L1 : Array Slot} (hd : decode bs pc = .ok (.istore k, 2)) (hl : storeLocals L k (.int x) = some L1) (hp : pc + 2 = pc') (hr : Go K rm Z n0 bs ml ret own nm Q kc ks h pc' L1 S) : Go K rm Z n0 bs ml ret own nm Q kc ks h pc L (.int x :: S) := by
  subst hp
  obtain ⟨p, l, e, s, m, args, below, meth, c⟩ := K
  intro hx hby hml hown hZ hret hlk hnm T locs X hF hh
  obtain ⟨s₂, v, L', st, r⟩ := hr hx hby hml hown hZ hret hlk hnm T locs X hF hh
  exact ⟨s₂, v, L', XS.istore X.here hx rfl (hb hby hd) rfl hl st, r⟩
theorem istoreN {k : Fin 4} {x : Int32} {L1 : Array Slot} (hd : decode bs pc = .ok (.istore_n k, 1)) (hl : storeLocals L k.val (.int x) = some L1) (hp : pc + 1 = pc') (hr : Go K rm Z n0 bs ml ret own nm Q kc ks h pc' L1 S) : Go K rm Z n0 bs ml ret own nm Q kc ks h pc L (.int x :: S) := by
  subst hp
  obtain ⟨p, l, e, s, m, args, below, meth, c⟩ := K
  intro hx hby hml hown hZ hret hlk hnm T locs X hF hh
  obtain ⟨s₂, v, L', st, r⟩ := hr hx hby hml hown hZ hret hlk hnm T locs X hF hh
  exact ⟨s₂, v, L', XS.istoreN X.here hx rfl (hb hby hd) rfl hl st, r⟩
theorem lstore {k : Nat} {x : Int64} {L1 : Array Slot} (hd : decode bs pc = .ok (.lstore k, 2)) (hl : storeLocals L k (.long x) = some L1) (hp : pc + 2 = pc') (hr : Go K rm Z n0 bs ml ret own nm Q kc ks h pc' L1 S) : Go K rm Z n0 bs ml ret own nm Q kc ks h pc L (.long x :: S) := by
  subst hp
  obtain ⟨p, l, e, s, m, args, below, meth, c⟩ := K
  intro hx hby hml hown hZ hret hlk hnm T locs X hF hh
  obtain ⟨s₂, v, L', st, r⟩ := hr hx hby hml hown hZ hret hlk hnm T locs X hF hh
  exact ⟨s₂, v, L', XS.lstore X.here hx rfl (hb hby hd) rfl hl st, r⟩
theorem lstoreN {k : Fin 4} {x : Int64} {L1 : Array Slot} (hd : decode bs pc = .ok (.lstore_n k, 1)) (hl : storeLocals L k.val (.long x) = some L1) (hp : pc + 1 = pc') (hr : Go K rm Z n0 bs ml ret own nm Q kc ks h pc' L1 S) : Go K rm Z n0 bs ml ret own nm Q kc ks h pc L (.long x :: S) := by
  subst hp
  obtain ⟨p, l, e, s, m, args, below, meth, c⟩ := K
  intro hx hby hml hown hZ hret hlk hnm T locs X hF hh
  obtain ⟨s₂, v, L', st, r⟩ := hr hx hby hml hown hZ hret hlk hnm T locs X hF hh
  exact ⟨s₂, v, L', XS.lstoreN X.here hx rfl (hb hby hd) rfl hl st, r⟩
theorem astore {k : Nat} {x : Value} {L1 : Array Slot} (hd : decode bs pc = .ok (.astore k, 2)) (hv : x.isRef = true) (hl : storeLocals L k x = some L1) (hp : pc + 2 = pc') (hr : Go K rm Z n0 bs ml ret own nm Q kc ks h pc' L1 S) : Go K rm Z n0 bs ml ret own nm Q kc ks h pc L (x :: S) := by
  subst hp
  obtain ⟨p, l, e, s, m, args, below, meth, c⟩ := K
  intro hx hby hml hown hZ hret hlk hnm T locs X hF hh
  obtain ⟨s₂, v, L', st, r⟩ := hr hx hby hml hown hZ hret hlk hnm T locs X hF hh
  exact ⟨s₂, v, L', XS.astore X.here hx rfl (hb hby hd) rfl hv hl st, r⟩
theorem astoreN {k : Fin 4} {x : Value} {L1 : Array Slot} (hd : decode bs pc = .ok (.astore_n k, 1)) (hv : x.isRef = true) (hl : storeLocals L k.val x = some L1) (hp : pc + 1 = pc') (hr : Go K rm Z n0 bs ml ret own nm Q kc ks h pc' L1 S) : Go K rm Z n0 bs ml ret own nm Q kc ks h pc L (x :: S) := by
  subst hp
  obtain ⟨p, l, e, s, m, args, below, meth, c⟩ := K
  intro hx hby hml hown hZ hret hlk hnm T locs X hF hh
  obtain ⟨s₂, v, L', st, r⟩ := hr hx hby hml hown hZ hret hlk hnm T locs X hF hh
  exact ⟨s₂, v, L', XS.astoreN X.here hx rfl (hb hby hd) rfl hv hl st, r⟩
theorem iconst {i : Int} {v : Int32} (hd : decode bs pc = .ok (.iconst i, 1)) (hv : Int32.ofInt i = v) (hp : pc + 1 = pc') (hr : Go K rm Z n0 bs ml ret own nm Q kc ks h pc' L (.int v :: S)) : Go K rm Z n0 bs ml ret own nm Q kc ks h pc L S := by
  subst hp
  obtain ⟨p, l, e, s, m, args, below, meth, c⟩ := K
  intro hx hby hml hown hZ hret hlk hnm T locs X hF hh
  obtain ⟨s₂, v, L', st, r⟩ := hr hx hby hml hown hZ hret hlk hnm T locs X hF hh
  exact ⟨s₂, v, L', XS.iconst X.here hx rfl (hb hby hd) (hv ▸ st), r⟩
theorem bipush {i : Int} {v : Int32} (hd : decode bs pc = .ok (.bipush i, 2)) (hv : (Int8.ofInt i).toInt32 = v) (hp : pc + 2 = pc') (hr : Go K rm Z n0 bs ml ret own nm Q kc ks h pc' L (.int v :: S)) : Go K rm Z n0 bs ml ret own nm Q kc ks h pc L S := by
  subst hp
  obtain ⟨p, l, e, s, m, args, below, meth, c⟩ := K
  intro hx hby hml hown hZ hret hlk hnm T locs X hF hh
  obtain ⟨s₂, v, L', st, r⟩ := hr hx hby hml hown hZ hret hlk hnm T locs X hF hh
  exact ⟨s₂, v, L', XS.bipush X.here hx rfl (hb hby hd) (hv ▸ st), r⟩
theorem sipush {i : Int} {v : Int32} (hd : decode bs pc = .ok (.sipush i, 3)) (hv : (Int16.ofInt i).toInt32 = v) (hp : pc + 3 = pc') (hr : Go K rm Z n0 bs ml ret own nm Q kc ks h pc' L (.int v :: S)) : Go K rm Z n0 bs ml ret own nm Q kc ks h pc L S := by
  subst hp
  obtain ⟨p, l, e, s, m, args, below, meth, c⟩ := K
  intro hx hby hml hown hZ hret hlk hnm T locs X hF hh
  obtain ⟨s₂, v, L', st, r⟩ := hr hx hby hml hown hZ hret hlk hnm T locs X hF hh
  exact ⟨s₂, v, L', XS.sipush X.here hx rfl (hb hby hd) (hv ▸ st), r⟩
theorem aconstNull  (hd : decode bs pc = .ok (.aconst_null, 1)) (hp : pc + 1 = pc') (hr : Go K rm Z n0 bs ml ret own nm Q kc ks h pc' L (.null :: S)) : Go K rm Z n0 bs ml ret own nm Q kc ks h pc L S := by
  subst hp
  obtain ⟨p, l, e, s, m, args, below, meth, c⟩ := K
  intro hx hby hml hown hZ hret hlk hnm T locs X hF hh
  obtain ⟨s₂, v, L', st, r⟩ := hr hx hby hml hown hZ hret hlk hnm T locs X hF hh
  exact ⟨s₂, v, L', XS.aconstNull X.here hx rfl (hb hby hd) st, r⟩
theorem lconst0  (hd : decode bs pc = .ok (.lconst 0, 1)) (hp : pc + 1 = pc') (hr : Go K rm Z n0 bs ml ret own nm Q kc ks h pc' L (.long 0 :: S)) : Go K rm Z n0 bs ml ret own nm Q kc ks h pc L S := by
  subst hp
  obtain ⟨p, l, e, s, m, args, below, meth, c⟩ := K
  intro hx hby hml hown hZ hret hlk hnm T locs X hF hh
  obtain ⟨s₂, v, L', st, r⟩ := hr hx hby hml hown hZ hret hlk hnm T locs X hF hh
  exact ⟨s₂, v, L', XS.lconst X.here hx rfl (hb hby hd) st, r⟩
theorem lconst1  (hd : decode bs pc = .ok (.lconst 1, 1)) (hp : pc + 1 = pc') (hr : Go K rm Z n0 bs ml ret own nm Q kc ks h pc' L (.long 1 :: S)) : Go K rm Z n0 bs ml ret own nm Q kc ks h pc L S := by
  subst hp
  obtain ⟨p, l, e, s, m, args, below, meth, c⟩ := K
  intro hx hby hml hown hZ hret hlk hnm T locs X hF hh
  obtain ⟨s₂, v, L', st, r⟩ := hr hx hby hml hown hZ hret hlk hnm T locs X hF hh
  exact ⟨s₂, v, L', XS.lconst X.here hx rfl (hb hby hd) st, r⟩
theorem ldcInt {i : Nat} {v : Int32} (hd : decode bs pc = .ok (.ldc i, 2)) (w : (Jvm.Cond.constant own i v).before a0 Z = true) (hp : pc + 2 = pc') (hr : Go K rm Z n0 bs ml ret own nm Q kc ks h pc' L (.int v :: S)) : Go K rm Z n0 bs ml ret own nm Q kc ks h pc L S := by
  subst hp
  obtain ⟨p, l, e, s, m, args, below, meth, c⟩ := K
  intro hx hby hml hown hZ hret hlk hnm T locs X hF hh
  obtain ⟨s₂, v, L', st, r⟩ := hr hx hby hml hown hZ hret hlk hnm T locs X hF hh
  exact ⟨s₂, v, L', X.ldcInt hx hown (mvT hZ w) (g := mkF m pc L S) rfl (hb hby hd) _ st, r⟩
theorem ldc2Long {i : Nat} {v : Int64} (hd : decode bs pc = .ok (.ldc2_w i, 3)) (w : (Jvm.Cond.constantLong own i v).before a0 Z = true) (hp : pc + 3 = pc') (hr : Go K rm Z n0 bs ml ret own nm Q kc ks h pc' L (.long v :: S)) : Go K rm Z n0 bs ml ret own nm Q kc ks h pc L S := by
  subst hp
  obtain ⟨p, l, e, s, m, args, below, meth, c⟩ := K
  intro hx hby hml hown hZ hret hlk hnm T locs X hF hh
  obtain ⟨s₂, v, L', st, r⟩ := hr hx hby hml hown hZ hret hlk hnm T locs X hF hh
  exact ⟨s₂, v, L', X.ldc2Long hx hown (mvT hZ w) (g := mkF m pc L S) rfl (hb hby hd) _ st, r⟩
theorem iadd {x y : Int32} (hd : decode bs pc = .ok (.iadd, 1)) (hp : pc + 1 = pc') (hr : ∀ z, z = x + y → Go K rm Z n0 bs ml ret own nm Q kc ks h pc' L (.int z :: S)) : Go K rm Z n0 bs ml ret own nm Q kc ks h pc L (.int y :: .int x :: S) := by
  subst hp
  obtain ⟨p, l, e, s, m, args, below, meth, c⟩ := K
  intro hx hby hml hown hZ hret hlk hnm T locs X hF hh
  obtain ⟨s₂, v, L', st, r⟩ := hr _ rfl hx hby hml hown hZ hret hlk hnm T locs X hF hh
  exact ⟨s₂, v, L', XS.iadd X.here hx rfl (hb hby hd) rfl st, r⟩
theorem iaddE {x y : Int32} {z : Int32} (hd : decode bs pc = .ok (.iadd, 1)) (hp : pc + 1 = pc') (hz : x + y = z) (hr : Go K rm Z n0 bs ml ret own nm Q kc ks h pc' L (.int z :: S)) : Go K rm Z n0 bs ml ret own nm Q kc ks h pc L (.int y :: .int x :: S) :=
  iadd hd hp fun z' e => by obtain rfl : z' = z := e.trans hz; exact hr
theorem isub {x y : Int32} (hd : decode bs pc = .ok (.isub, 1)) (hp : pc + 1 = pc') (hr : ∀ z, z = x - y → Go K rm Z n0 bs ml ret own nm Q kc ks h pc' L (.int z :: S)) : Go K rm Z n0 bs ml ret own nm Q kc ks h pc L (.int y :: .int x :: S) := by
  subst hp
  obtain ⟨p, l, e, s, m, args, below, meth, c⟩ := K
  intro hx hby hml hown hZ hret hlk hnm T locs X hF hh
  obtain ⟨s₂, v, L', st, r⟩ := hr _ rfl hx hby hml hown hZ hret hlk hnm T locs X hF hh
  exact ⟨s₂, v, L', XS.isub X.here hx rfl (hb hby hd) rfl st, r⟩
theorem isubE {x y : Int32} {z : Int32} (hd : decode bs pc = .ok (.isub, 1)) (hp : pc + 1 = pc') (hz : x - y = z) (hr : Go K rm Z n0 bs ml ret own nm Q kc ks h pc' L (.int z :: S)) : Go K rm Z n0 bs ml ret own nm Q kc ks h pc L (.int y :: .int x :: S) :=
  isub hd hp fun z' e => by obtain rfl : z' = z := e.trans hz; exact hr
theorem imul {x y : Int32} (hd : decode bs pc = .ok (.imul, 1)) (hp : pc + 1 = pc') (hr : ∀ z, z = x * y → Go K rm Z n0 bs ml ret own nm Q kc ks h pc' L (.int z :: S)) : Go K rm Z n0 bs ml ret own nm Q kc ks h pc L (.int y :: .int x :: S) := by
  subst hp
  obtain ⟨p, l, e, s, m, args, below, meth, c⟩ := K
  intro hx hby hml hown hZ hret hlk hnm T locs X hF hh
  obtain ⟨s₂, v, L', st, r⟩ := hr _ rfl hx hby hml hown hZ hret hlk hnm T locs X hF hh
  exact ⟨s₂, v, L', XS.imul X.here hx rfl (hb hby hd) rfl st, r⟩
theorem imulE {x y : Int32} {z : Int32} (hd : decode bs pc = .ok (.imul, 1)) (hp : pc + 1 = pc') (hz : x * y = z) (hr : Go K rm Z n0 bs ml ret own nm Q kc ks h pc' L (.int z :: S)) : Go K rm Z n0 bs ml ret own nm Q kc ks h pc L (.int y :: .int x :: S) :=
  imul hd hp fun z' e => by obtain rfl : z' = z := e.trans hz; exact hr
theorem iand {x y : Int32} (hd : decode bs pc = .ok (.iand, 1)) (hp : pc + 1 = pc') (hr : ∀ z, z = x &&& y → Go K rm Z n0 bs ml ret own nm Q kc ks h pc' L (.int z :: S)) : Go K rm Z n0 bs ml ret own nm Q kc ks h pc L (.int y :: .int x :: S) := by
  subst hp
  obtain ⟨p, l, e, s, m, args, below, meth, c⟩ := K
  intro hx hby hml hown hZ hret hlk hnm T locs X hF hh
  obtain ⟨s₂, v, L', st, r⟩ := hr _ rfl hx hby hml hown hZ hret hlk hnm T locs X hF hh
  exact ⟨s₂, v, L', XS.iand X.here hx rfl (hb hby hd) rfl st, r⟩
theorem iandE {x y : Int32} {z : Int32} (hd : decode bs pc = .ok (.iand, 1)) (hp : pc + 1 = pc') (hz : x &&& y = z) (hr : Go K rm Z n0 bs ml ret own nm Q kc ks h pc' L (.int z :: S)) : Go K rm Z n0 bs ml ret own nm Q kc ks h pc L (.int y :: .int x :: S) :=
  iand hd hp fun z' e => by obtain rfl : z' = z := e.trans hz; exact hr
theorem ior {x y : Int32} (hd : decode bs pc = .ok (.ior, 1)) (hp : pc + 1 = pc') (hr : ∀ z, z = x ||| y → Go K rm Z n0 bs ml ret own nm Q kc ks h pc' L (.int z :: S)) : Go K rm Z n0 bs ml ret own nm Q kc ks h pc L (.int y :: .int x :: S) := by
  subst hp
  obtain ⟨p, l, e, s, m, args, below, meth, c⟩ := K
  intro hx hby hml hown hZ hret hlk hnm T locs X hF hh
  obtain ⟨s₂, v, L', st, r⟩ := hr _ rfl hx hby hml hown hZ hret hlk hnm T locs X hF hh
  exact ⟨s₂, v, L', XS.ior X.here hx rfl (hb hby hd) rfl st, r⟩
theorem iorE {x y : Int32} {z : Int32} (hd : decode bs pc = .ok (.ior, 1)) (hp : pc + 1 = pc') (hz : x ||| y = z) (hr : Go K rm Z n0 bs ml ret own nm Q kc ks h pc' L (.int z :: S)) : Go K rm Z n0 bs ml ret own nm Q kc ks h pc L (.int y :: .int x :: S) :=
  ior hd hp fun z' e => by obtain rfl : z' = z := e.trans hz; exact hr
theorem ixor {x y : Int32} (hd : decode bs pc = .ok (.ixor, 1)) (hp : pc + 1 = pc') (hr : ∀ z, z = x ^^^ y → Go K rm Z n0 bs ml ret own nm Q kc ks h pc' L (.int z :: S)) : Go K rm Z n0 bs ml ret own nm Q kc ks h pc L (.int y :: .int x :: S) := by
  subst hp
  obtain ⟨p, l, e, s, m, args, below, meth, c⟩ := K
  intro hx hby hml hown hZ hret hlk hnm T locs X hF hh
  obtain ⟨s₂, v, L', st, r⟩ := hr _ rfl hx hby hml hown hZ hret hlk hnm T locs X hF hh
  exact ⟨s₂, v, L', XS.ixor X.here hx rfl (hb hby hd) rfl st, r⟩
theorem ixorE {x y : Int32} {z : Int32} (hd : decode bs pc = .ok (.ixor, 1)) (hp : pc + 1 = pc') (hz : x ^^^ y = z) (hr : Go K rm Z n0 bs ml ret own nm Q kc ks h pc' L (.int z :: S)) : Go K rm Z n0 bs ml ret own nm Q kc ks h pc L (.int y :: .int x :: S) :=
  ixor hd hp fun z' e => by obtain rfl : z' = z := e.trans hz; exact hr
theorem ishl {x y : Int32} (hd : decode bs pc = .ok (.ishl, 1)) (hp : pc + 1 = pc') (hr : ∀ z, z = x <<< (y &&& 31) → Go K rm Z n0 bs ml ret own nm Q kc ks h pc' L (.int z :: S)) : Go K rm Z n0 bs ml ret own nm Q kc ks h pc L (.int y :: .int x :: S) := by
  subst hp
  obtain ⟨p, l, e, s, m, args, below, meth, c⟩ := K
  intro hx hby hml hown hZ hret hlk hnm T locs X hF hh
  obtain ⟨s₂, v, L', st, r⟩ := hr _ rfl hx hby hml hown hZ hret hlk hnm T locs X hF hh
  exact ⟨s₂, v, L', XS.ishl X.here hx rfl (hb hby hd) rfl st, r⟩
theorem ishlE {x y : Int32} {z : Int32} (hd : decode bs pc = .ok (.ishl, 1)) (hp : pc + 1 = pc') (hz : x <<< (y &&& 31) = z) (hr : Go K rm Z n0 bs ml ret own nm Q kc ks h pc' L (.int z :: S)) : Go K rm Z n0 bs ml ret own nm Q kc ks h pc L (.int y :: .int x :: S) :=
  ishl hd hp fun z' e => by obtain rfl : z' = z := e.trans hz; exact hr
theorem ishr {x y : Int32} (hd : decode bs pc = .ok (.ishr, 1)) (hp : pc + 1 = pc') (hr : ∀ z, z = x >>> (y &&& 31) → Go K rm Z n0 bs ml ret own nm Q kc ks h pc' L (.int z :: S)) : Go K rm Z n0 bs ml ret own nm Q kc ks h pc L (.int y :: .int x :: S) := by
  subst hp
  obtain ⟨p, l, e, s, m, args, below, meth, c⟩ := K
  intro hx hby hml hown hZ hret hlk hnm T locs X hF hh
  obtain ⟨s₂, v, L', st, r⟩ := hr _ rfl hx hby hml hown hZ hret hlk hnm T locs X hF hh
  exact ⟨s₂, v, L', XS.ishr X.here hx rfl (hb hby hd) rfl st, r⟩
theorem ishrE {x y : Int32} {z : Int32} (hd : decode bs pc = .ok (.ishr, 1)) (hp : pc + 1 = pc') (hz : x >>> (y &&& 31) = z) (hr : Go K rm Z n0 bs ml ret own nm Q kc ks h pc' L (.int z :: S)) : Go K rm Z n0 bs ml ret own nm Q kc ks h pc L (.int y :: .int x :: S) :=
  ishr hd hp fun z' e => by obtain rfl : z' = z := e.trans hz; exact hr
theorem iushr {x y : Int32} (hd : decode bs pc = .ok (.iushr, 1)) (hp : pc + 1 = pc') (hr : ∀ z, z = Jvm.Own.ushr x y → Go K rm Z n0 bs ml ret own nm Q kc ks h pc' L (.int z :: S)) : Go K rm Z n0 bs ml ret own nm Q kc ks h pc L (.int y :: .int x :: S) := by
  subst hp
  obtain ⟨p, l, e, s, m, args, below, meth, c⟩ := K
  intro hx hby hml hown hZ hret hlk hnm T locs X hF hh
  obtain ⟨s₂, v, L', st, r⟩ := hr _ rfl hx hby hml hown hZ hret hlk hnm T locs X hF hh
  exact ⟨s₂, v, L', XS.iushr X.here hx rfl (hb hby hd) rfl st, r⟩
theorem iushrE {x y : Int32} {z : Int32} (hd : decode bs pc = .ok (.iushr, 1)) (hp : pc + 1 = pc') (hz : Jvm.Own.ushr x y = z) (hr : Go K rm Z n0 bs ml ret own nm Q kc ks h pc' L (.int z :: S)) : Go K rm Z n0 bs ml ret own nm Q kc ks h pc L (.int y :: .int x :: S) :=
  iushr hd hp fun z' e => by obtain rfl : z' = z := e.trans hz; exact hr
theorem ladd {x y : Int64} (hd : decode bs pc = .ok (.ladd, 1)) (hp : pc + 1 = pc') (hr : ∀ z, z = x + y → Go K rm Z n0 bs ml ret own nm Q kc ks h pc' L (.long z :: S)) : Go K rm Z n0 bs ml ret own nm Q kc ks h pc L (.long y :: .long x :: S) := by
  subst hp
  obtain ⟨p, l, e, s, m, args, below, meth, c⟩ := K
  intro hx hby hml hown hZ hret hlk hnm T locs X hF hh
  obtain ⟨s₂, v, L', st, r⟩ := hr _ rfl hx hby hml hown hZ hret hlk hnm T locs X hF hh
  exact ⟨s₂, v, L', XS.ladd X.here hx rfl (hb hby hd) rfl st, r⟩
theorem laddE {x y : Int64} {z : Int64} (hd : decode bs pc = .ok (.ladd, 1)) (hp : pc + 1 = pc') (hz : x + y = z) (hr : Go K rm Z n0 bs ml ret own nm Q kc ks h pc' L (.long z :: S)) : Go K rm Z n0 bs ml ret own nm Q kc ks h pc L (.long y :: .long x :: S) :=
  ladd hd hp fun z' e => by obtain rfl : z' = z := e.trans hz; exact hr
theorem lsub {x y : Int64} (hd : decode bs pc = .ok (.lsub, 1)) (hp : pc + 1 = pc') (hr : ∀ z, z = x - y → Go K rm Z n0 bs ml ret own nm Q kc ks h pc' L (.long z :: S)) : Go K rm Z n0 bs ml ret own nm Q kc ks h pc L (.long y :: .long x :: S) := by
  subst hp
  obtain ⟨p, l, e, s, m, args, below, meth, c⟩ := K
  intro hx hby hml hown hZ hret hlk hnm T locs X hF hh
  obtain ⟨s₂, v, L', st, r⟩ := hr _ rfl hx hby hml hown hZ hret hlk hnm T locs X hF hh
  exact ⟨s₂, v, L', XS.lsub X.here hx rfl (hb hby hd) rfl st, r⟩
theorem lsubE {x y : Int64} {z : Int64} (hd : decode bs pc = .ok (.lsub, 1)) (hp : pc + 1 = pc') (hz : x - y = z) (hr : Go K rm Z n0 bs ml ret own nm Q kc ks h pc' L (.long z :: S)) : Go K rm Z n0 bs ml ret own nm Q kc ks h pc L (.long y :: .long x :: S) :=
  lsub hd hp fun z' e => by obtain rfl : z' = z := e.trans hz; exact hr
theorem lmul {x y : Int64} (hd : decode bs pc = .ok (.lmul, 1)) (hp : pc + 1 = pc') (hr : ∀ z, z = x * y → Go K rm Z n0 bs ml ret own nm Q kc ks h pc' L (.long z :: S)) : Go K rm Z n0 bs ml ret own nm Q kc ks h pc L (.long y :: .long x :: S) := by
  subst hp
  obtain ⟨p, l, e, s, m, args, below, meth, c⟩ := K
  intro hx hby hml hown hZ hret hlk hnm T locs X hF hh
  obtain ⟨s₂, v, L', st, r⟩ := hr _ rfl hx hby hml hown hZ hret hlk hnm T locs X hF hh
  exact ⟨s₂, v, L', XS.lmul X.here hx rfl (hb hby hd) rfl st, r⟩
theorem lmulE {x y : Int64} {z : Int64} (hd : decode bs pc = .ok (.lmul, 1)) (hp : pc + 1 = pc') (hz : x * y = z) (hr : Go K rm Z n0 bs ml ret own nm Q kc ks h pc' L (.long z :: S)) : Go K rm Z n0 bs ml ret own nm Q kc ks h pc L (.long y :: .long x :: S) :=
  lmul hd hp fun z' e => by obtain rfl : z' = z := e.trans hz; exact hr
theorem land {x y : Int64} (hd : decode bs pc = .ok (.land, 1)) (hp : pc + 1 = pc') (hr : ∀ z, z = x &&& y → Go K rm Z n0 bs ml ret own nm Q kc ks h pc' L (.long z :: S)) : Go K rm Z n0 bs ml ret own nm Q kc ks h pc L (.long y :: .long x :: S) := by
  subst hp
  obtain ⟨p, l, e, s, m, args, below, meth, c⟩ := K
  intro hx hby hml hown hZ hret hlk hnm T locs X hF hh
  obtain ⟨s₂, v, L', st, r⟩ := hr _ rfl hx hby hml hown hZ hret hlk hnm T locs X hF hh
  exact ⟨s₂, v, L', XS.land X.here hx rfl (hb hby hd) rfl st, r⟩
theorem landE {x y : Int64} {z : Int64} (hd : decode bs pc = .ok (.land, 1)) (hp : pc + 1 = pc') (hz : x &&& y = z) (hr : Go K rm Z n0 bs ml ret own nm Q kc ks h pc' L (.long z :: S)) : Go K rm Z n0 bs ml ret own nm Q kc ks h pc L (.long y :: .long x :: S) :=
  land hd hp fun z' e => by obtain rfl : z' = z := e.trans hz; exact hr
theorem lor {x y : Int64} (hd : decode bs pc = .ok (.lor, 1)) (hp : pc + 1 = pc') (hr : ∀ z, z = x ||| y → Go K rm Z n0 bs ml ret own nm Q kc ks h pc' L (.long z :: S)) : Go K rm Z n0 bs ml ret own nm Q kc ks h pc L (.long y :: .long x :: S) := by
  subst hp
  obtain ⟨p, l, e, s, m, args, below, meth, c⟩ := K
  intro hx hby hml hown hZ hret hlk hnm T locs X hF hh
  obtain ⟨s₂, v, L', st, r⟩ := hr _ rfl hx hby hml hown hZ hret hlk hnm T locs X hF hh
  exact ⟨s₂, v, L', XS.lor X.here hx rfl (hb hby hd) rfl st, r⟩
theorem lorE {x y : Int64} {z : Int64} (hd : decode bs pc = .ok (.lor, 1)) (hp : pc + 1 = pc') (hz : x ||| y = z) (hr : Go K rm Z n0 bs ml ret own nm Q kc ks h pc' L (.long z :: S)) : Go K rm Z n0 bs ml ret own nm Q kc ks h pc L (.long y :: .long x :: S) :=
  lor hd hp fun z' e => by obtain rfl : z' = z := e.trans hz; exact hr
theorem lxor {x y : Int64} (hd : decode bs pc = .ok (.lxor, 1)) (hp : pc + 1 = pc') (hr : ∀ z, z = x ^^^ y → Go K rm Z n0 bs ml ret own nm Q kc ks h pc' L (.long z :: S)) : Go K rm Z n0 bs ml ret own nm Q kc ks h pc L (.long y :: .long x :: S) := by
  subst hp
  obtain ⟨p, l, e, s, m, args, below, meth, c⟩ := K
  intro hx hby hml hown hZ hret hlk hnm T locs X hF hh
  obtain ⟨s₂, v, L', st, r⟩ := hr _ rfl hx hby hml hown hZ hret hlk hnm T locs X hF hh
  exact ⟨s₂, v, L', XS.lxor X.here hx rfl (hb hby hd) rfl st, r⟩
theorem lxorE {x y : Int64} {z : Int64} (hd : decode bs pc = .ok (.lxor, 1)) (hp : pc + 1 = pc') (hz : x ^^^ y = z) (hr : Go K rm Z n0 bs ml ret own nm Q kc ks h pc' L (.long z :: S)) : Go K rm Z n0 bs ml ret own nm Q kc ks h pc L (.long y :: .long x :: S) :=
  lxor hd hp fun z' e => by obtain rfl : z' = z := e.trans hz; exact hr
theorem lshl {x : Int64} {y : Int32} (hd : decode bs pc = .ok (.lshl, 1)) (hp : pc + 1 = pc') (hr : ∀ z, z = x <<< (y &&& 63).toInt64 → Go K rm Z n0 bs ml ret own nm Q kc ks h pc' L (.long z :: S)) : Go K rm Z n0 bs ml ret own nm Q kc ks h pc L (.int y :: .long x :: S) := by
  subst hp
  obtain ⟨p, l, e, s, m, args, below, meth, c⟩ := K
  intro hx hby hml hown hZ hret hlk hnm T locs X hF hh
  obtain ⟨s₂, v, L', st, r⟩ := hr _ rfl hx hby hml hown hZ hret hlk hnm T locs X hF hh
  exact ⟨s₂, v, L', XS.lshl X.here hx rfl (hb hby hd) rfl st, r⟩
theorem lshlE {x : Int64} {y : Int32} {z : Int64} (hd : decode bs pc = .ok (.lshl, 1)) (hp : pc + 1 = pc') (hz : x <<< (y &&& 63).toInt64 = z) (hr : Go K rm Z n0 bs ml ret own nm Q kc ks h pc' L (.long z :: S)) : Go K rm Z n0 bs ml ret own nm Q kc ks h pc L (.int y :: .long x :: S) :=
  lshl hd hp fun z' e => by obtain rfl : z' = z := e.trans hz; exact hr
theorem lshr {x : Int64} {y : Int32} (hd : decode bs pc = .ok (.lshr, 1)) (hp : pc + 1 = pc') (hr : ∀ z, z = x >>> (y &&& 63).toInt64 → Go K rm Z n0 bs ml ret own nm Q kc ks h pc' L (.long z :: S)) : Go K rm Z n0 bs ml ret own nm Q kc ks h pc L (.int y :: .long x :: S) := by
  subst hp
  obtain ⟨p, l, e, s, m, args, below, meth, c⟩ := K
  intro hx hby hml hown hZ hret hlk hnm T locs X hF hh
  obtain ⟨s₂, v, L', st, r⟩ := hr _ rfl hx hby hml hown hZ hret hlk hnm T locs X hF hh
  exact ⟨s₂, v, L', XS.lshr X.here hx rfl (hb hby hd) rfl st, r⟩
theorem lshrE {x : Int64} {y : Int32} {z : Int64} (hd : decode bs pc = .ok (.lshr, 1)) (hp : pc + 1 = pc') (hz : x >>> (y &&& 63).toInt64 = z) (hr : Go K rm Z n0 bs ml ret own nm Q kc ks h pc' L (.long z :: S)) : Go K rm Z n0 bs ml ret own nm Q kc ks h pc L (.int y :: .long x :: S) :=
  lshr hd hp fun z' e => by obtain rfl : z' = z := e.trans hz; exact hr
theorem lushr {x : Int64} {y : Int32} (hd : decode bs pc = .ok (.lushr, 1)) (hp : pc + 1 = pc') (hr : ∀ z, z = Jvm.Own.ushrL x y → Go K rm Z n0 bs ml ret own nm Q kc ks h pc' L (.long z :: S)) : Go K rm Z n0 bs ml ret own nm Q kc ks h pc L (.int y :: .long x :: S) := by
  subst hp
  obtain ⟨p, l, e, s, m, args, below, meth, c⟩ := K
  intro hx hby hml hown hZ hret hlk hnm T locs X hF hh
  obtain ⟨s₂, v, L', st, r⟩ := hr _ rfl hx hby hml hown hZ hret hlk hnm T locs X hF hh
  exact ⟨s₂, v, L', XS.lushr X.here hx rfl (hb hby hd) rfl st, r⟩
theorem lushrE {x : Int64} {y : Int32} {z : Int64} (hd : decode bs pc = .ok (.lushr, 1)) (hp : pc + 1 = pc') (hz : Jvm.Own.ushrL x y = z) (hr : Go K rm Z n0 bs ml ret own nm Q kc ks h pc' L (.long z :: S)) : Go K rm Z n0 bs ml ret own nm Q kc ks h pc L (.int y :: .long x :: S) :=
  lushr hd hp fun z' e => by obtain rfl : z' = z := e.trans hz; exact hr
theorem idiv {x y : Int32} (hd : decode bs pc = .ok (.idiv, 1)) (hy : y ≠ 0) (hp : pc + 1 = pc') (hr : ∀ z, z = x / y → Go K rm Z n0 bs ml ret own nm Q kc ks h pc' L (.int z :: S)) : Go K rm Z n0 bs ml ret own nm Q kc ks h pc L (.int y :: .int x :: S) := by
  subst hp
  obtain ⟨p, l, e, s, m, args, below, meth, c⟩ := K
  intro hx hby hml hown hZ hret hlk hnm T locs X hF hh
  obtain ⟨s₂, v, L', st, r⟩ := hr _ rfl hx hby hml hown hZ hret hlk hnm T locs X hF hh
  exact ⟨s₂, v, L', XS.idiv X.here hx rfl (hb hby hd) rfl hy st, r⟩
theorem idivE {x y : Int32} {z : Int32} (hd : decode bs pc = .ok (.idiv, 1)) (hy : y ≠ 0) (hp : pc + 1 = pc') (hz : x / y = z) (hr : Go K rm Z n0 bs ml ret own nm Q kc ks h pc' L (.int z :: S)) : Go K rm Z n0 bs ml ret own nm Q kc ks h pc L (.int y :: .int x :: S) :=
  idiv hd hy hp fun z' e => by obtain rfl : z' = z := e.trans hz; exact hr
theorem irem {x y : Int32} (hd : decode bs pc = .ok (.irem, 1)) (hy : y ≠ 0) (hp : pc + 1 = pc') (hr : ∀ z, z = x % y → Go K rm Z n0 bs ml ret own nm Q kc ks h pc' L (.int z :: S)) : Go K rm Z n0 bs ml ret own nm Q kc ks h pc L (.int y :: .int x :: S) := by
  subst hp
  obtain ⟨p, l, e, s, m, args, below, meth, c⟩ := K
  intro hx hby hml hown hZ hret hlk hnm T locs X hF hh
  obtain ⟨s₂, v, L', st, r⟩ := hr _ rfl hx hby hml hown hZ hret hlk hnm T locs X hF hh
  exact ⟨s₂, v, L', iremM X hx rfl (hb hby hd) rfl hy st, r⟩
theorem iremE {x y : Int32} {z : Int32} (hd : decode bs pc = .ok (.irem, 1)) (hy : y ≠ 0) (hp : pc + 1 = pc') (hz : x % y = z) (hr : Go K rm Z n0 bs ml ret own nm Q kc ks h pc' L (.int z :: S)) : Go K rm Z n0 bs ml ret own nm Q kc ks h pc L (.int y :: .int x :: S) :=
  irem hd hy hp fun z' e => by obtain rfl : z' = z := e.trans hz; exact hr
theorem ldiv {x y : Int64} (hd : decode bs pc = .ok (.ldiv, 1)) (hy : y ≠ 0) (hp : pc + 1 = pc') (hr : ∀ z, z = x / y → Go K rm Z n0 bs ml ret own nm Q kc ks h pc' L (.long z :: S)) : Go K rm Z n0 bs ml ret own nm Q kc ks h pc L (.long y :: .long x :: S) := by
  subst hp
  obtain ⟨p, l, e, s, m, args, below, meth, c⟩ := K
  intro hx hby hml hown hZ hret hlk hnm T locs X hF hh
  obtain ⟨s₂, v, L', st, r⟩ := hr _ rfl hx hby hml hown hZ hret hlk hnm T locs X hF hh
  exact ⟨s₂, v, L', XS.ldiv X.here hx rfl (hb hby hd) rfl hy st, r⟩
theorem ldivE {x y : Int64} {z : Int64} (hd : decode bs pc = .ok (.ldiv, 1)) (hy : y ≠ 0) (hp : pc + 1 = pc') (hz : x / y = z) (hr : Go K rm Z n0 bs ml ret own nm Q kc ks h pc' L (.long z :: S)) : Go K rm Z n0 bs ml ret own nm Q kc ks h pc L (.long y :: .long x :: S) :=
  ldiv hd hy hp fun z' e => by obtain rfl : z' = z := e.trans hz; exact hr
theorem lrem {x y : Int64} (hd : decode bs pc = .ok (.lrem, 1)) (hy : y ≠ 0) (hp : pc + 1 = pc') (hr : ∀ z, z = x - (x / y) * y → Go K rm Z n0 bs ml ret own nm Q kc ks h pc' L (.long z :: S)) : Go K rm Z n0 bs ml ret own nm Q kc ks h pc L (.long y :: .long x :: S) := by
  subst hp
  obtain ⟨p, l, e, s, m, args, below, meth, c⟩ := K
  intro hx hby hml hown hZ hret hlk hnm T locs X hF hh
  obtain ⟨s₂, v, L', st, r⟩ := hr _ rfl hx hby hml hown hZ hret hlk hnm T locs X hF hh
  exact ⟨s₂, v, L', XS.lrem X.here hx rfl (hb hby hd) rfl hy st, r⟩
theorem lremE {x y : Int64} {z : Int64} (hd : decode bs pc = .ok (.lrem, 1)) (hy : y ≠ 0) (hp : pc + 1 = pc') (hz : x - (x / y) * y = z) (hr : Go K rm Z n0 bs ml ret own nm Q kc ks h pc' L (.long z :: S)) : Go K rm Z n0 bs ml ret own nm Q kc ks h pc L (.long y :: .long x :: S) :=
  lrem hd hy hp fun z' e => by obtain rfl : z' = z := e.trans hz; exact hr
theorem ineg {x : Int32} (hd : decode bs pc = .ok (.ineg, 1)) (hp : pc + 1 = pc') (hr : ∀ z, z = -x → Go K rm Z n0 bs ml ret own nm Q kc ks h pc' L (.int z :: S)) : Go K rm Z n0 bs ml ret own nm Q kc ks h pc L (.int x :: S) := by
  subst hp
  obtain ⟨p, l, e, s, m, args, below, meth, c⟩ := K
  intro hx hby hml hown hZ hret hlk hnm T locs X hF hh
  obtain ⟨s₂, v, L', st, r⟩ := hr _ rfl hx hby hml hown hZ hret hlk hnm T locs X hF hh
  exact ⟨s₂, v, L', XS.ineg X.here hx rfl (hb hby hd) rfl st, r⟩
theorem inegE {x : Int32} {z : Int32} (hd : decode bs pc = .ok (.ineg, 1)) (hp : pc + 1 = pc') (hz : -x = z) (hr : Go K rm Z n0 bs ml ret own nm Q kc ks h pc' L (.int z :: S)) : Go K rm Z n0 bs ml ret own nm Q kc ks h pc L (.int x :: S) :=
  ineg hd hp fun z' e => by obtain rfl : z' = z := e.trans hz; exact hr
theorem lneg {x : Int64} (hd : decode bs pc = .ok (.lneg, 1)) (hp : pc + 1 = pc') (hr : ∀ z, z = -x → Go K rm Z n0 bs ml ret own nm Q kc ks h pc' L (.long z :: S)) : Go K rm Z n0 bs ml ret own nm Q kc ks h pc L (.long x :: S) := by
  subst hp
  obtain ⟨p, l, e, s, m, args, below, meth, c⟩ := K
  intro hx hby hml hown hZ hret hlk hnm T locs X hF hh
  obtain ⟨s₂, v, L', st, r⟩ := hr _ rfl hx hby hml hown hZ hret hlk hnm T locs X hF hh
  exact ⟨s₂, v, L', XS.lneg X.here hx rfl (hb hby hd) rfl st, r⟩
theorem lnegE {x : Int64} {z : Int64} (hd : decode bs pc = .ok (.lneg, 1)) (hp : pc + 1 = pc') (hz : -x = z) (hr : Go K rm Z n0 bs ml ret own nm Q kc ks h pc' L (.long z :: S)) : Go K rm Z n0 bs ml ret own nm Q kc ks h pc L (.long x :: S) :=
  lneg hd hp fun z' e => by obtain rfl : z' = z := e.trans hz; exact hr
theorem i2l {x : Int32} (hd : decode bs pc = .ok (.i2l, 1)) (hp : pc + 1 = pc') (hr : ∀ z, z = x.toInt64 → Go K rm Z n0 bs ml ret own nm Q kc ks h pc' L (.long z :: S)) : Go K rm Z n0 bs ml ret own nm Q kc ks h pc L (.int x :: S) := by
  subst hp
  obtain ⟨p, l, e, s, m, args, below, meth, c⟩ := K
  intro hx hby hml hown hZ hret hlk hnm T locs X hF hh
  obtain ⟨s₂, v, L', st, r⟩ := hr _ rfl hx hby hml hown hZ hret hlk hnm T locs X hF hh
  exact ⟨s₂, v, L', XS.i2l X.here hx rfl (hb hby hd) rfl st, r⟩
theorem i2lE {x : Int32} {z : Int64} (hd : decode bs pc = .ok (.i2l, 1)) (hp : pc + 1 = pc') (hz : x.toInt64 = z) (hr : Go K rm Z n0 bs ml ret own nm Q kc ks h pc' L (.long z :: S)) : Go K rm Z n0 bs ml ret own nm Q kc ks h pc L (.int x :: S) :=
  i2l hd hp fun z' e => by obtain rfl : z' = z := e.trans hz; exact hr
theorem l2i {x : Int64} (hd : decode bs pc = .ok (.l2i, 1)) (hp : pc + 1 = pc') (hr : ∀ z, z = x.toInt32 → Go K rm Z n0 bs ml ret own nm Q kc ks h pc' L (.int z :: S)) : Go K rm Z n0 bs ml ret own nm Q kc ks h pc L (.long x :: S) := by
  subst hp
  obtain ⟨p, l, e, s, m, args, below, meth, c⟩ := K
  intro hx hby hml hown hZ hret hlk hnm T locs X hF hh
  obtain ⟨s₂, v, L', st, r⟩ := hr _ rfl hx hby hml hown hZ hret hlk hnm T locs X hF hh
  exact ⟨s₂, v, L', XS.l2i X.here hx rfl (hb hby hd) rfl st, r⟩
theorem l2iE {x : Int64} {z : Int32} (hd : decode bs pc = .ok (.l2i, 1)) (hp : pc + 1 = pc') (hz : x.toInt32 = z) (hr : Go K rm Z n0 bs ml ret own nm Q kc ks h pc' L (.int z :: S)) : Go K rm Z n0 bs ml ret own nm Q kc ks h pc L (.long x :: S) :=
  l2i hd hp fun z' e => by obtain rfl : z' = z := e.trans hz; exact hr
theorem i2b {x : Int32} (hd : decode bs pc = .ok (.i2b, 1)) (hp : pc + 1 = pc') (hr : ∀ z, z = x.toInt8.toInt32 → Go K rm Z n0 bs ml ret own nm Q kc ks h pc' L (.int z :: S)) : Go K rm Z n0 bs ml ret own nm Q kc ks h pc L (.int x :: S) := by
  subst hp
  obtain ⟨p, l, e, s, m, args, below, meth, c⟩ := K
  intro hx hby hml hown hZ hret hlk hnm T locs X hF hh
  obtain ⟨s₂, v, L', st, r⟩ := hr _ rfl hx hby hml hown hZ hret hlk hnm T locs X hF hh
  exact ⟨s₂, v, L', XS.i2b X.here hx rfl (hb hby hd) rfl st, r⟩
theorem i2bE {x : Int32} {z : Int32} (hd : decode bs pc = .ok (.i2b, 1)) (hp : pc + 1 = pc') (hz : x.toInt8.toInt32 = z) (hr : Go K rm Z n0 bs ml ret own nm Q kc ks h pc' L (.int z :: S)) : Go K rm Z n0 bs ml ret own nm Q kc ks h pc L (.int x :: S) :=
  i2b hd hp fun z' e => by obtain rfl : z' = z := e.trans hz; exact hr
theorem i2c {x : Int32} (hd : decode bs pc = .ok (.i2c, 1)) (hp : pc + 1 = pc') (hr : ∀ z, z = x.toUInt32.toUInt16.toUInt32.toInt32 → Go K rm Z n0 bs ml ret own nm Q kc ks h pc' L (.int z :: S)) : Go K rm Z n0 bs ml ret own nm Q kc ks h pc L (.int x :: S) := by
  subst hp
  obtain ⟨p, l, e, s, m, args, below, meth, c⟩ := K
  intro hx hby hml hown hZ hret hlk hnm T locs X hF hh
  obtain ⟨s₂, v, L', st, r⟩ := hr _ rfl hx hby hml hown hZ hret hlk hnm T locs X hF hh
  exact ⟨s₂, v, L', XS.i2c X.here hx rfl (hb hby hd) rfl st, r⟩
theorem i2cE {x : Int32} {z : Int32} (hd : decode bs pc = .ok (.i2c, 1)) (hp : pc + 1 = pc') (hz : x.toUInt32.toUInt16.toUInt32.toInt32 = z) (hr : Go K rm Z n0 bs ml ret own nm Q kc ks h pc' L (.int z :: S)) : Go K rm Z n0 bs ml ret own nm Q kc ks h pc L (.int x :: S) :=
  i2c hd hp fun z' e => by obtain rfl : z' = z := e.trans hz; exact hr
theorem iinc {k : Nat} {i : Int} {x : Int32} {L1 : Int32 → Array Slot} (hd : decode bs pc = .ok (.iinc k i, 3)) (hl : L[k]? = some (.val (.int x))) (hl1 : ∀ z : Int32, storeLocals L k (.int z) = some (L1 z)) (hp : pc + 3 = pc') (hr : ∀ z, z = x + Int32.ofInt i → Go K rm Z n0 bs ml ret own nm Q kc ks h pc' (L1 z) S) : Go K rm Z n0 bs ml ret own nm Q kc ks h pc L S := by
  subst hp
  obtain ⟨p, l, e, s, m, args, below, meth, c⟩ := K
  intro hx hby hml hown hZ hret hlk hnm T locs X hF hh
  obtain ⟨s₂, v, L', st, r⟩ := hr _ rfl hx hby hml hown hZ hret hlk hnm T locs X hF hh
  exact ⟨s₂, v, L', XS.iinc X.here hx rfl (hb hby hd) hl (hl1 _) st, r⟩
theorem iincE {k : Nat} {i : Int} {x : Int32} {L1 : Int32 → Array Slot} {z : Int32} (hd : decode bs pc = .ok (.iinc k i, 3)) (hl : L[k]? = some (.val (.int x))) (hl1 : ∀ z : Int32, storeLocals L k (.int z) = some (L1 z)) (hp : pc + 3 = pc') (hz : x + Int32.ofInt i = z) (hr : Go K rm Z n0 bs ml ret own nm Q kc ks h pc' (L1 z) S) : Go K rm Z n0 bs ml ret own nm Q kc ks h pc L S :=
  iinc hd hl hl1 hp fun z' e => by obtain rfl : z' = z := e.trans hz; exact hr
theorem dup {x : Value} (hd : decode bs pc = .ok (.dup, 1)) (hc : x.category = 1) (hp : pc + 1 = pc') (hr : Go K rm Z n0 bs ml ret own nm Q kc ks h pc' L (x :: x :: S)) : Go K rm Z n0 bs ml ret own nm Q kc ks h pc L (x :: S) := by
  subst hp
  obtain ⟨p, l, e, s, m, args, below, meth, c⟩ := K
  intro hx hby hml hown hZ hret hlk hnm T locs X hF hh
  obtain ⟨s₂, v, L', st, r⟩ := hr hx hby hml hown hZ hret hlk hnm T locs X hF hh
  exact ⟨s₂, v, L', XS.dup X.here hx rfl (hb hby hd) rfl hc st, r⟩
theorem pop {x : Value} (hd : decode bs pc = .ok (.pop, 1)) (hc : x.category = 1) (hp : pc + 1 = pc') (hr : Go K rm Z n0 bs ml ret own nm Q kc ks h pc' L S) : Go K rm Z n0 bs ml ret own nm Q kc ks h pc L (x :: S) := by
  subst hp
  obtain ⟨p, l, e, s, m, args, below, meth, c⟩ := K
  intro hx hby hml hown hZ hret hlk hnm T locs X hF hh
  obtain ⟨s₂, v, L', st, r⟩ := hr hx hby hml hown hZ hret hlk hnm T locs X hF hh
  exact ⟨s₂, v, L', XS.pop X.here hx rfl (hb hby hd) rfl hc st, r⟩
theorem dupX1 {x y : Value} (hd : decode bs pc = .ok (.dup_x1, 1)) (hc : x.category = 1) (hc2 : y.category = 1) (hp : pc + 1 = pc') (hr : Go K rm Z n0 bs ml ret own nm Q kc ks h pc' L (x :: y :: x :: S)) : Go K rm Z n0 bs ml ret own nm Q kc ks h pc L (x :: y :: S) := by
  subst hp
  obtain ⟨p, l, e, s, m, args, below, meth, c⟩ := K
  intro hx hby hml hown hZ hret hlk hnm T locs X hF hh
  obtain ⟨s₂, v, L', st, r⟩ := hr hx hby hml hown hZ hret hlk hnm T locs X hF hh
  exact ⟨s₂, v, L', XS.dupX1 X.here hx rfl (hb hby hd) rfl hc hc2 st, r⟩
theorem goto {o : Int} (hd : decode bs pc = .ok (.goto o, 3)) (ho : 0 ≤ (pc : Int) + o) (hp : ((pc : Int) + o).toNat = pc') (hr : Go K rm Z n0 bs ml ret own nm Q kc ks h pc' L S) : Go K rm Z n0 bs ml ret own nm Q kc ks h pc L S := by
  obtain ⟨p, l, e, s, m, args, below, meth, c⟩ := K
  intro hx hby hml hown hZ hret hlk hnm T locs X hF hh
  obtain ⟨s₂, v, L', st, r⟩ := hr hx hby hml hown hZ hret hlk hnm T locs X hF hh
  exact ⟨s₂, v, L', XS.goto X.here hx rfl (pc0 := pc) (pc' := pc') rfl (hb hby hd) ho hp st, r⟩
theorem holds_iff (cd : ClassFile.Cond) (x y : Int32) : if_icmp.holds cd x y = true ↔ (match cd with | .lt => x.toInt < y.toInt | .ge => y.toInt ≤ x.toInt | .gt => y.toInt < x.toInt | .le => x.toInt ≤ y.toInt | .eq => x = y | .ne => x ≠ y) := by
  cases cd <;> simp [if_icmp.holds, Int32.lt_iff_toInt_lt, Int32.le_iff_toInt_le]
theorem icmp_lt {x y : Int32} {o : Int} {pc2 : Nat} (hd : decode bs pc = .ok (.if_icmp .lt o, 3)) (ho : 0 ≤ (pc : Int) + o) (hp : ((pc : Int) + o).toNat = pc') (hp2 : pc + 3 = pc2)
    (hy : x.toInt < y.toInt → Go K rm Z n0 bs ml ret own nm Q kc ks h pc' L S) (hn : ¬ (x.toInt < y.toInt) → Go K rm Z n0 bs ml ret own nm Q kc ks h pc2 L S) : Go K rm Z n0 bs ml ret own nm Q kc ks h pc L (.int y :: .int x :: S) := by
  subst hp2
  by_cases q : x.toInt < y.toInt
  · have q2 := (holds_iff .lt x y).mpr q
    replace hy := hy q
    obtain ⟨p, l, e, s, m, args, below, meth, c⟩ := K
    intro hx hby hml hown hZ hret hlk hnm T locs X hF hh
    obtain ⟨s₂, v, L', st, r⟩ := hy hx hby hml hown hZ hret hlk hnm T locs X hF hh
    exact ⟨s₂, v, L', XS.icmpYes X.here hx rfl (pc0 := pc) (pc' := pc') rfl (hb hby hd) rfl q2 ho hp st, r⟩
  · have q2 : if_icmp.holds .lt x y = false := by rw [← Bool.not_eq_true]; exact fun t => q ((holds_iff .lt x y).mp t)
    replace hn := hn q
    obtain ⟨p, l, e, s, m, args, below, meth, c⟩ := K
    intro hx hby hml hown hZ hret hlk hnm T locs X hF hh
    obtain ⟨s₂, v, L', st, r⟩ := hn hx hby hml hown hZ hret hlk hnm T locs X hF hh
    exact ⟨s₂, v, L', XS.icmpNo X.here hx rfl (hb hby hd) rfl q2 st, r⟩
theorem icmp_ge {x y : Int32} {o : Int} {pc2 : Nat} (hd : decode bs pc = .ok (.if_icmp .ge o, 3)) (ho : 0 ≤ (pc : Int) + o) (hp : ((pc : Int) + o).toNat = pc') (hp2 : pc + 3 = pc2)
    (hy : y.toInt ≤ x.toInt → Go K rm Z n0 bs ml ret own nm Q kc ks h pc' L S) (hn : ¬ (y.toInt ≤ x.toInt) → Go K rm Z n0 bs ml ret own nm Q kc ks h pc2 L S) : Go K rm Z n0 bs ml ret own nm Q kc ks h pc L (.int y :: .int x :: S) := by
  subst hp2
  by_cases q : y.toInt ≤ x.toInt
  · have q2 := (holds_iff .ge x y).mpr q
    replace hy := hy q
    obtain ⟨p, l, e, s, m, args, below, meth, c⟩ := K
    intro hx hby hml hown hZ hret hlk hnm T locs X hF hh
    obtain ⟨s₂, v, L', st, r⟩ := hy hx hby hml hown hZ hret hlk hnm T locs X hF hh
    exact ⟨s₂, v, L', XS.icmpYes X.here hx rfl (pc0 := pc) (pc' := pc') rfl (hb hby hd) rfl q2 ho hp st, r⟩
  · have q2 : if_icmp.holds .ge x y = false := by rw [← Bool.not_eq_true]; exact fun t => q ((holds_iff .ge x y).mp t)
    replace hn := hn q
    obtain ⟨p, l, e, s, m, args, below, meth, c⟩ := K
    intro hx hby hml hown hZ hret hlk hnm T locs X hF hh
    obtain ⟨s₂, v, L', st, r⟩ := hn hx hby hml hown hZ hret hlk hnm T locs X hF hh
    exact ⟨s₂, v, L', XS.icmpNo X.here hx rfl (hb hby hd) rfl q2 st, r⟩
theorem icmp_gt {x y : Int32} {o : Int} {pc2 : Nat} (hd : decode bs pc = .ok (.if_icmp .gt o, 3)) (ho : 0 ≤ (pc : Int) + o) (hp : ((pc : Int) + o).toNat = pc') (hp2 : pc + 3 = pc2)
    (hy : y.toInt < x.toInt → Go K rm Z n0 bs ml ret own nm Q kc ks h pc' L S) (hn : ¬ (y.toInt < x.toInt) → Go K rm Z n0 bs ml ret own nm Q kc ks h pc2 L S) : Go K rm Z n0 bs ml ret own nm Q kc ks h pc L (.int y :: .int x :: S) := by
  subst hp2
  by_cases q : y.toInt < x.toInt
  · have q2 := (holds_iff .gt x y).mpr q
    replace hy := hy q
    obtain ⟨p, l, e, s, m, args, below, meth, c⟩ := K
    intro hx hby hml hown hZ hret hlk hnm T locs X hF hh
    obtain ⟨s₂, v, L', st, r⟩ := hy hx hby hml hown hZ hret hlk hnm T locs X hF hh
    exact ⟨s₂, v, L', XS.icmpYes X.here hx rfl (pc0 := pc) (pc' := pc') rfl (hb hby hd) rfl q2 ho hp st, r⟩
  · have q2 : if_icmp.holds .gt x y = false := by rw [← Bool.not_eq_true]; exact fun t => q ((holds_iff .gt x y).mp t)
    replace hn := hn q
    obtain ⟨p, l, e, s, m, args, below, meth, c⟩ := K
    intro hx hby hml hown hZ hret hlk hnm T locs X hF hh
    obtain ⟨s₂, v, L', st, r⟩ := hn hx hby hml hown hZ hret hlk hnm T locs X hF hh
    exact ⟨s₂, v, L', XS.icmpNo X.here hx rfl (hb hby hd) rfl q2 st, r⟩
theorem icmp_le {x y : Int32} {o : Int} {pc2 : Nat} (hd : decode bs pc = .ok (.if_icmp .le o, 3)) (ho : 0 ≤ (pc : Int) + o) (hp : ((pc : Int) + o).toNat = pc') (hp2 : pc + 3 = pc2)
    (hy : x.toInt ≤ y.toInt → Go K rm Z n0 bs ml ret own nm Q kc ks h pc' L S) (hn : ¬ (x.toInt ≤ y.toInt) → Go K rm Z n0 bs ml ret own nm Q kc ks h pc2 L S) : Go K rm Z n0 bs ml ret own nm Q kc ks h pc L (.int y :: .int x :: S) := by
  subst hp2
  by_cases q : x.toInt ≤ y.toInt
  · have q2 := (holds_iff .le x y).mpr q
    replace hy := hy q
    obtain ⟨p, l, e, s, m, args, below, meth, c⟩ := K
    intro hx hby hml hown hZ hret hlk hnm T locs X hF hh
    obtain ⟨s₂, v, L', st, r⟩ := hy hx hby hml hown hZ hret hlk hnm T locs X hF hh
    exact ⟨s₂, v, L', XS.icmpYes X.here hx rfl (pc0 := pc) (pc' := pc') rfl (hb hby hd) rfl q2 ho hp st, r⟩
  · have q2 : if_icmp.holds .le x y = false := by rw [← Bool.not_eq_true]; exact fun t => q ((holds_iff .le x y).mp t)
    replace hn := hn q
    obtain ⟨p, l, e, s, m, args, below, meth, c⟩ := K
    intro hx hby hml hown hZ hret hlk hnm T locs X hF hh
    obtain ⟨s₂, v, L', st, r⟩ := hn hx hby hml hown hZ hret hlk hnm T locs X hF hh
    exact ⟨s₂, v, L', XS.icmpNo X.here hx rfl (hb hby hd) rfl q2 st, r⟩
theorem icmp_eq {x y : Int32} {o : Int} {pc2 : Nat} (hd : decode bs pc = .ok (.if_icmp .eq o, 3)) (ho : 0 ≤ (pc : Int) + o) (hp : ((pc : Int) + o).toNat = pc') (hp2 : pc + 3 = pc2)
    (hy : x = y → Go K rm Z n0 bs ml ret own nm Q kc ks h pc' L S) (hn : ¬ (x = y) → Go K rm Z n0 bs ml ret own nm Q kc ks h pc2 L S) : Go K rm Z n0 bs ml ret own nm Q kc ks h pc L (.int y :: .int x :: S) := by
  subst hp2
  by_cases q : x = y
  · have q2 := (holds_iff .eq x y).mpr q
    replace hy := hy q
    obtain ⟨p, l, e, s, m, args, below, meth, c⟩ := K
    intro hx hby hml hown hZ hret hlk hnm T locs X hF hh
    obtain ⟨s₂, v, L', st, r⟩ := hy hx hby hml hown hZ hret hlk hnm T locs X hF hh
    exact ⟨s₂, v, L', XS.icmpYes X.here hx rfl (pc0 := pc) (pc' := pc') rfl (hb hby hd) rfl q2 ho hp st, r⟩
  · have q2 : if_icmp.holds .eq x y = false := by rw [← Bool.not_eq_true]; exact fun t => q ((holds_iff .eq x y).mp t)
    replace hn := hn q
    obtain ⟨p, l, e, s, m, args, below, meth, c⟩ := K
    intro hx hby hml hown hZ hret hlk hnm T locs X hF hh
    obtain ⟨s₂, v, L', st, r⟩ := hn hx hby hml hown hZ hret hlk hnm T locs X hF hh
    exact ⟨s₂, v, L', XS.icmpNo X.here hx rfl (hb hby hd) rfl q2 st, r⟩
theorem icmp_ne {x y : Int32} {o : Int} {pc2 : Nat} (hd : decode bs pc = .ok (.if_icmp .ne o, 3)) (ho : 0 ≤ (pc : Int) + o) (hp : ((pc : Int) + o).toNat = pc') (hp2 : pc + 3 = pc2)
    (hy : x ≠ y → Go K rm Z n0 bs ml ret own nm Q kc ks h pc' L S) (hn : ¬ (x ≠ y) → Go K rm Z n0 bs ml ret own nm Q kc ks h pc2 L S) : Go K rm Z n0 bs ml ret own nm Q kc ks h pc L (.int y :: .int x :: S) := by
  subst hp2
  by_cases q : x ≠ y
  · have q2 := (holds_iff .ne x y).mpr q
    replace hy := hy q
    obtain ⟨p, l, e, s, m, args, below, meth, c⟩ := K
    intro hx hby hml hown hZ hret hlk hnm T locs X hF hh
    obtain ⟨s₂, v, L', st, r⟩ := hy hx hby hml hown hZ hret hlk hnm T locs X hF hh
    exact ⟨s₂, v, L', XS.icmpYes X.here hx rfl (pc0 := pc) (pc' := pc') rfl (hb hby hd) rfl q2 ho hp st, r⟩
  · have q2 : if_icmp.holds .ne x y = false := by rw [← Bool.not_eq_true]; exact fun t => q ((holds_iff .ne x y).mp t)
    replace hn := hn q
    obtain ⟨p, l, e, s, m, args, below, meth, c⟩ := K
    intro hx hby hml hown hZ hret hlk hnm T locs X hF hh
    obtain ⟨s₂, v, L', st, r⟩ := hn hx hby hml hown hZ hret hlk hnm T locs X hF hh
    exact ⟨s₂, v, L', XS.icmpNo X.here hx rfl (hb hby hd) rfl q2 st, r⟩
theorem if_lt {x : Int32} {o : Int} {pc2 : Nat} (hd : decode bs pc = .ok (.ifCond .lt o, 3)) (ho : 0 ≤ (pc : Int) + o) (hp : ((pc : Int) + o).toNat = pc') (hp2 : pc + 3 = pc2)
    (hy : x.toInt < 0 → Go K rm Z n0 bs ml ret own nm Q kc ks h pc' L S) (hn : ¬ (x.toInt < 0) → Go K rm Z n0 bs ml ret own nm Q kc ks h pc2 L S) : Go K rm Z n0 bs ml ret own nm Q kc ks h pc L (.int x :: S) := by
  subst hp2
  by_cases q : x.toInt < 0
  · have q2 : ifCond.holds .lt x = true := (if0 _ _).trans ((holds_iff .lt x 0).mpr (by simpa using q))
    replace hy := hy q
    obtain ⟨p, l, e, s, m, args, below, meth, c⟩ := K
    intro hx hby hml hown hZ hret hlk hnm T locs X hF hh
    obtain ⟨s₂, v, L', st, r⟩ := hy hx hby hml hown hZ hret hlk hnm T locs X hF hh
    exact ⟨s₂, v, L', XS.ifYes X.here hx rfl (pc0 := pc) (pc' := pc') rfl (hb hby hd) rfl q2 ho hp st, r⟩
  · have q2 : ifCond.holds .lt x = false := by rw [← Bool.not_eq_true, if0]; exact fun t => q (by simpa using (holds_iff .lt x 0).mp t)
    replace hn := hn q
    obtain ⟨p, l, e, s, m, args, below, meth, c⟩ := K
    intro hx hby hml hown hZ hret hlk hnm T locs X hF hh
    obtain ⟨s₂, v, L', st, r⟩ := hn hx hby hml hown hZ hret hlk hnm T locs X hF hh
    exact ⟨s₂, v, L', XS.ifNo X.here hx rfl (hb hby hd) rfl q2 st, r⟩
theorem if_ge {x : Int32} {o : Int} {pc2 : Nat} (hd : decode bs pc = .ok (.ifCond .ge o, 3)) (ho : 0 ≤ (pc : Int) + o) (hp : ((pc : Int) + o).toNat = pc') (hp2 : pc + 3 = pc2)
    (hy : 0 ≤ x.toInt → Go K rm Z n0 bs ml ret own nm Q kc ks h pc' L S) (hn : ¬ (0 ≤ x.toInt) → Go K rm Z n0 bs ml ret own nm Q kc ks h pc2 L S) : Go K rm Z n0 bs ml ret own nm Q kc ks h pc L (.int x :: S) := by
  subst hp2
  by_cases q : 0 ≤ x.toInt
  · have q2 : ifCond.holds .ge x = true := (if0 _ _).trans ((holds_iff .ge x 0).mpr (by simpa using q))
    replace hy := hy q
    obtain ⟨p, l, e, s, m, args, below, meth, c⟩ := K
    intro hx hby hml hown hZ hret hlk hnm T locs X hF hh
    obtain ⟨s₂, v, L', st, r⟩ := hy hx hby hml hown hZ hret hlk hnm T locs X hF hh
    exact ⟨s₂, v, L', XS.ifYes X.here hx rfl (pc0 := pc) (pc' := pc') rfl (hb hby hd) rfl q2 ho hp st, r⟩
  · have q2 : ifCond.holds .ge x = false := by rw [← Bool.not_eq_true, if0]; exact fun t => q (by simpa using (holds_iff .ge x 0).mp t)
    replace hn := hn q
    obtain ⟨p, l, e, s, m, args, below, meth, c⟩ := K
    intro hx hby hml hown hZ hret hlk hnm T locs X hF hh
    obtain ⟨s₂, v, L', st, r⟩ := hn hx hby hml hown hZ hret hlk hnm T locs X hF hh
    exact ⟨s₂, v, L', XS.ifNo X.here hx rfl (hb hby hd) rfl q2 st, r⟩
theorem if_gt {x : Int32} {o : Int} {pc2 : Nat} (hd : decode bs pc = .ok (.ifCond .gt o, 3)) (ho : 0 ≤ (pc : Int) + o) (hp : ((pc : Int) + o).toNat = pc') (hp2 : pc + 3 = pc2)
    (hy : 0 < x.toInt → Go K rm Z n0 bs ml ret own nm Q kc ks h pc' L S) (hn : ¬ (0 < x.toInt) → Go K rm Z n0 bs ml ret own nm Q kc ks h pc2 L S) : Go K rm Z n0 bs ml ret own nm Q kc ks h pc L (.int x :: S) := by
  subst hp2
  by_cases q : 0 < x.toInt
  · have q2 : ifCond.holds .gt x = true := (if0 _ _).trans ((holds_iff .gt x 0).mpr (by simpa using q))
    replace hy := hy q
    obtain ⟨p, l, e, s, m, args, below, meth, c⟩ := K
    intro hx hby hml hown hZ hret hlk hnm T locs X hF hh
    obtain ⟨s₂, v, L', st, r⟩ := hy hx hby hml hown hZ hret hlk hnm T locs X hF hh
    exact ⟨s₂, v, L', XS.ifYes X.here hx rfl (pc0 := pc) (pc' := pc') rfl (hb hby hd) rfl q2 ho hp st, r⟩
  · have q2 : ifCond.holds .gt x = false := by rw [← Bool.not_eq_true, if0]; exact fun t => q (by simpa using (holds_iff .gt x 0).mp t)
    replace hn := hn q
    obtain ⟨p, l, e, s, m, args, below, meth, c⟩ := K
    intro hx hby hml hown hZ hret hlk hnm T locs X hF hh
    obtain ⟨s₂, v, L', st, r⟩ := hn hx hby hml hown hZ hret hlk hnm T locs X hF hh
    exact ⟨s₂, v, L', XS.ifNo X.here hx rfl (hb hby hd) rfl q2 st, r⟩
theorem if_le {x : Int32} {o : Int} {pc2 : Nat} (hd : decode bs pc = .ok (.ifCond .le o, 3)) (ho : 0 ≤ (pc : Int) + o) (hp : ((pc : Int) + o).toNat = pc') (hp2 : pc + 3 = pc2)
    (hy : x.toInt ≤ 0 → Go K rm Z n0 bs ml ret own nm Q kc ks h pc' L S) (hn : ¬ (x.toInt ≤ 0) → Go K rm Z n0 bs ml ret own nm Q kc ks h pc2 L S) : Go K rm Z n0 bs ml ret own nm Q kc ks h pc L (.int x :: S) := by
  subst hp2
  by_cases q : x.toInt ≤ 0
  · have q2 : ifCond.holds .le x = true := (if0 _ _).trans ((holds_iff .le x 0).mpr (by simpa using q))
    replace hy := hy q
    obtain ⟨p, l, e, s, m, args, below, meth, c⟩ := K
    intro hx hby hml hown hZ hret hlk hnm T locs X hF hh
    obtain ⟨s₂, v, L', st, r⟩ := hy hx hby hml hown hZ hret hlk hnm T locs X hF hh
    exact ⟨s₂, v, L', XS.ifYes X.here hx rfl (pc0 := pc) (pc' := pc') rfl (hb hby hd) rfl q2 ho hp st, r⟩
  · have q2 : ifCond.holds .le x = false := by rw [← Bool.not_eq_true, if0]; exact fun t => q (by simpa using (holds_iff .le x 0).mp t)
    replace hn := hn q
    obtain ⟨p, l, e, s, m, args, below, meth, c⟩ := K
    intro hx hby hml hown hZ hret hlk hnm T locs X hF hh
    obtain ⟨s₂, v, L', st, r⟩ := hn hx hby hml hown hZ hret hlk hnm T locs X hF hh
    exact ⟨s₂, v, L', XS.ifNo X.here hx rfl (hb hby hd) rfl q2 st, r⟩
theorem if_eq {x : Int32} {o : Int} {pc2 : Nat} (hd : decode bs pc = .ok (.ifCond .eq o, 3)) (ho : 0 ≤ (pc : Int) + o) (hp : ((pc : Int) + o).toNat = pc') (hp2 : pc + 3 = pc2)
    (hy : x = 0 → Go K rm Z n0 bs ml ret own nm Q kc ks h pc' L S) (hn : ¬ (x = 0) → Go K rm Z n0 bs ml ret own nm Q kc ks h pc2 L S) : Go K rm Z n0 bs ml ret own nm Q kc ks h pc L (.int x :: S) := by
  subst hp2
  by_cases q : x = 0
  · have q2 : ifCond.holds .eq x = true := (if0 _ _).trans ((holds_iff .eq x 0).mpr (by simpa using q))
    replace hy := hy q
    obtain ⟨p, l, e, s, m, args, below, meth, c⟩ := K
    intro hx hby hml hown hZ hret hlk hnm T locs X hF hh
    obtain ⟨s₂, v, L', st, r⟩ := hy hx hby hml hown hZ hret hlk hnm T locs X hF hh
    exact ⟨s₂, v, L', XS.ifYes X.here hx rfl (pc0 := pc) (pc' := pc') rfl (hb hby hd) rfl q2 ho hp st, r⟩
  · have q2 : ifCond.holds .eq x = false := by rw [← Bool.not_eq_true, if0]; exact fun t => q (by simpa using (holds_iff .eq x 0).mp t)
    replace hn := hn q
    obtain ⟨p, l, e, s, m, args, below, meth, c⟩ := K
    intro hx hby hml hown hZ hret hlk hnm T locs X hF hh
    obtain ⟨s₂, v, L', st, r⟩ := hn hx hby hml hown hZ hret hlk hnm T locs X hF hh
    exact ⟨s₂, v, L', XS.ifNo X.here hx rfl (hb hby hd) rfl q2 st, r⟩
theorem if_ne {x : Int32} {o : Int} {pc2 : Nat} (hd : decode bs pc = .ok (.ifCond .ne o, 3)) (ho : 0 ≤ (pc : Int) + o) (hp : ((pc : Int) + o).toNat = pc') (hp2 : pc + 3 = pc2)
    (hy : x ≠ 0 → Go K rm Z n0 bs ml ret own nm Q kc ks h pc' L S) (hn : ¬ (x ≠ 0) → Go K rm Z n0 bs ml ret own nm Q kc ks h pc2 L S) : Go K rm Z n0 bs ml ret own nm Q kc ks h pc L (.int x :: S) := by
  subst hp2
  by_cases q : x ≠ 0
  · have q2 : ifCond.holds .ne x = true := (if0 _ _).trans ((holds_iff .ne x 0).mpr (by simpa using q))
    replace hy := hy q
    obtain ⟨p, l, e, s, m, args, below, meth, c⟩ := K
    intro hx hby hml hown hZ hret hlk hnm T locs X hF hh
    obtain ⟨s₂, v, L', st, r⟩ := hy hx hby hml hown hZ hret hlk hnm T locs X hF hh
    exact ⟨s₂, v, L', XS.ifYes X.here hx rfl (pc0 := pc) (pc' := pc') rfl (hb hby hd) rfl q2 ho hp st, r⟩
  · have q2 : ifCond.holds .ne x = false := by rw [← Bool.not_eq_true, if0]; exact fun t => q (by simpa using (holds_iff .ne x 0).mp t)
    replace hn := hn q
    obtain ⟨p, l, e, s, m, args, below, meth, c⟩ := K
    intro hx hby hml hown hZ hret hlk hnm T locs X hF hh
    obtain ⟨s₂, v, L', st, r⟩ := hn hx hby hml hown hZ hret hlk hnm T locs X hF hh
    exact ⟨s₂, v, L', XS.ifNo X.here hx rfl (hb hby hd) rfl q2 st, r⟩
theorem lcmp0 {x y : Int64} (hd : decode bs pc = .ok (.lcmp, 1)) (hp : pc + 1 = pc') (hr : Go K rm Z n0 bs ml ret own nm Q kc ks h pc' L (.int (lcmpW x y) :: S)) : Go K rm Z n0 bs ml ret own nm Q kc ks h pc L (.long y :: .long x :: S) := by
  subst hp
  obtain ⟨p, l, e, s, m, args, below, meth, c⟩ := K
  intro hx hby hml hown hZ hret hlk hnm T locs X hF hh
  obtain ⟨s₂, v, L', st, r⟩ := hr hx hby hml hown hZ hret hlk hnm T locs X hF hh
  exact ⟨s₂, v, L', XS.lcmp X.here hx rfl (hb hby hd) rfl st, r⟩
theorem lw_pos (x y : Int64) : (lcmpW x y).toInt < 0 ↔ x.toInt < y.toInt := by
  have := lw_lt x y; rw [Int32.lt_iff_toInt_lt, Int64.lt_iff_toInt_lt] at this; simpa using this
theorem lw_neg (x y : Int64) : 0 < (lcmpW x y).toInt ↔ y.toInt < x.toInt := by
  have := lw_gt x y; rw [Int32.lt_iff_toInt_lt, Int64.lt_iff_toInt_lt] at this; simpa using this
theorem lcmp_lt {x y : Int64} {o : Int} {pc1 pc2 : Nat} (hd : decode bs pc = .ok (.lcmp, 1)) (hp1 : pc + 1 = pc1) (hd1 : decode bs pc1 = .ok (.ifCond .lt o, 3)) (ho : 0 ≤ (pc1 : Int) + o) (hp : ((pc1 : Int) + o).toNat = pc') (hp2 : pc1 + 3 = pc2)
    (hy : x.toInt < y.toInt → Go K rm Z n0 bs ml ret own nm Q kc ks h pc' L S) (hn : ¬ (x.toInt < y.toInt) → Go K rm Z n0 bs ml ret own nm Q kc ks h pc2 L S) : Go K rm Z n0 bs ml ret own nm Q kc ks h pc L (.long y :: .long x :: S) := by
  have e : ((lcmpW x y).toInt < 0) ↔ (x.toInt < y.toInt) := lw_pos x y
  exact lcmp0 hd hp1 (if_lt hd1 ho hp hp2 (fun q => hy (e.mp q)) (fun q => hn (fun t => q (e.mpr t))))
theorem lcmp_ge {x y : Int64} {o : Int} {pc1 pc2 : Nat} (hd : decode bs pc = .ok (.lcmp, 1)) (hp1 : pc + 1 = pc1) (hd1 : decode bs pc1 = .ok (.ifCond .ge o, 3)) (ho : 0 ≤ (pc1 : Int) + o) (hp : ((pc1 : Int) + o).toNat = pc') (hp2 : pc1 + 3 = pc2)
    (hy : y.toInt ≤ x.toInt → Go K rm Z n0 bs ml ret own nm Q kc ks h pc' L S) (hn : ¬ (y.toInt ≤ x.toInt) → Go K rm Z n0 bs ml ret own nm Q kc ks h pc2 L S) : Go K rm Z n0 bs ml ret own nm Q kc ks h pc L (.long y :: .long x :: S) := by
  have e : (0 ≤ (lcmpW x y).toInt) ↔ (y.toInt ≤ x.toInt) := (by rw [← Int.not_lt, ← Int.not_lt, lw_pos])
  exact lcmp0 hd hp1 (if_ge hd1 ho hp hp2 (fun q => hy (e.mp q)) (fun q => hn (fun t => q (e.mpr t))))
theorem lcmp_gt {x y : Int64} {o : Int} {pc1 pc2 : Nat} (hd : decode bs pc = .ok (.lcmp, 1)) (hp1 : pc + 1 = pc1) (hd1 : decode bs pc1 = .ok (.ifCond .gt o, 3)) (ho : 0 ≤ (pc1 : Int) + o) (hp : ((pc1 : Int) + o).toNat = pc') (hp2 : pc1 + 3 = pc2)
    (hy : y.toInt < x.toInt → Go K rm Z n0 bs ml ret own nm Q kc ks h pc' L S) (hn : ¬ (y.toInt < x.toInt) → Go K rm Z n0 bs ml ret own nm Q kc ks h pc2 L S) : Go K rm Z n0 bs ml ret own nm Q kc ks h pc L (.long y :: .long x :: S) := by
  have e : (0 < (lcmpW x y).toInt) ↔ (y.toInt < x.toInt) := lw_neg x y
  exact lcmp0 hd hp1 (if_gt hd1 ho hp hp2 (fun q => hy (e.mp q)) (fun q => hn (fun t => q (e.mpr t))))
theorem lcmp_le {x y : Int64} {o : Int} {pc1 pc2 : Nat} (hd : decode bs pc = .ok (.lcmp, 1)) (hp1 : pc + 1 = pc1) (hd1 : decode bs pc1 = .ok (.ifCond .le o, 3)) (ho : 0 ≤ (pc1 : Int) + o) (hp : ((pc1 : Int) + o).toNat = pc') (hp2 : pc1 + 3 = pc2)
    (hy : x.toInt ≤ y.toInt → Go K rm Z n0 bs ml ret own nm Q kc ks h pc' L S) (hn : ¬ (x.toInt ≤ y.toInt) → Go K rm Z n0 bs ml ret own nm Q kc ks h pc2 L S) : Go K rm Z n0 bs ml ret own nm Q kc ks h pc L (.long y :: .long x :: S) := by
  have e : ((lcmpW x y).toInt ≤ 0) ↔ (x.toInt ≤ y.toInt) := (by rw [← Int.not_lt, ← Int.not_lt, lw_neg])
  exact lcmp0 hd hp1 (if_le hd1 ho hp hp2 (fun q => hy (e.mp q)) (fun q => hn (fun t => q (e.mpr t))))
theorem lcmp_eq {x y : Int64} {o : Int} {pc1 pc2 : Nat} (hd : decode bs pc = .ok (.lcmp, 1)) (hp1 : pc + 1 = pc1) (hd1 : decode bs pc1 = .ok (.ifCond .eq o, 3)) (ho : 0 ≤ (pc1 : Int) + o) (hp : ((pc1 : Int) + o).toNat = pc') (hp2 : pc1 + 3 = pc2)
    (hy : x = y → Go K rm Z n0 bs ml ret own nm Q kc ks h pc' L S) (hn : ¬ (x = y) → Go K rm Z n0 bs ml ret own nm Q kc ks h pc2 L S) : Go K rm Z n0 bs ml ret own nm Q kc ks h pc L (.long y :: .long x :: S) := by
  have e : ((lcmpW x y) = 0) ↔ (x = y) := lw_eq x y
  exact lcmp0 hd hp1 (if_eq hd1 ho hp hp2 (fun q => hy (e.mp q)) (fun q => hn (fun t => q (e.mpr t))))
theorem lcmp_ne {x y : Int64} {o : Int} {pc1 pc2 : Nat} (hd : decode bs pc = .ok (.lcmp, 1)) (hp1 : pc + 1 = pc1) (hd1 : decode bs pc1 = .ok (.ifCond .ne o, 3)) (ho : 0 ≤ (pc1 : Int) + o) (hp : ((pc1 : Int) + o).toNat = pc') (hp2 : pc1 + 3 = pc2)
    (hy : x ≠ y → Go K rm Z n0 bs ml ret own nm Q kc ks h pc' L S) (hn : ¬ (x ≠ y) → Go K rm Z n0 bs ml ret own nm Q kc ks h pc2 L S) : Go K rm Z n0 bs ml ret own nm Q kc ks h pc L (.long y :: .long x :: S) := by
  have e : ((lcmpW x y) ≠ 0) ↔ (x ≠ y) := not_congr (lw_eq x y)
  exact lcmp0 hd hp1 (if_ne hd1 ho hp hp2 (fun q => hy (e.mp q)) (fun q => hn (fun t => q (e.mpr t))))
theorem ifnull_yes {o : Int} (hd : decode bs pc = .ok (.ifnull o, 3)) (ho : 0 ≤ (pc : Int) + o) (hp : ((pc : Int) + o).toNat = pc') (hr : Go K rm Z n0 bs ml ret own nm Q kc ks h pc' L S) : Go K rm Z n0 bs ml ret own nm Q kc ks h pc L (.null :: S) := by
  obtain ⟨p, l, e, s, m, args, below, meth, c⟩ := K
  intro hx hby hml hown hZ hret hlk hnm T locs X hF hh
  obtain ⟨s₂, v, L', st, r⟩ := hr hx hby hml hown hZ hret hlk hnm T locs X hF hh
  exact ⟨s₂, v, L', XS.ifnullYes X.here hx rfl (pc0 := pc) (pc' := pc') rfl (hb hby hd) rfl ho hp st, r⟩
theorem ifnull_no {o : Int} {b : Addr} (hd : decode bs pc = .ok (.ifnull o, 3)) (hp : pc + 3 = pc') (hr : Go K rm Z n0 bs ml ret own nm Q kc ks h pc' L S) : Go K rm Z n0 bs ml ret own nm Q kc ks h pc L (.ref b :: S) := by
  subst hp
  obtain ⟨p, l, e, s, m, args, below, meth, c⟩ := K
  intro hx hby hml hown hZ hret hlk hnm T locs X hF hh
  obtain ⟨s₂, v, L', st, r⟩ := hr hx hby hml hown hZ hret hlk hnm T locs X hF hh
  exact ⟨s₂, v, L', XS.ifnullNo X.here hx rfl (hb hby hd) rfl st, r⟩
theorem getfield {R0 O n d host : String} {idx : Nat} {a : Addr} {v : Value} (hd : decode bs pc = .ok (.getfield idx, 3)) (hp : pc + 3 = pc') (w : (Jvm.Cond.fieldLink own idx R0 n d).before a0 Z = true ∨ (Jvm.Cond.fieldLinkNest own idx R0 n d host).before a0 Z = true) (via : Via Z R0 O n d) (F : Fld Z h a O n d v) (hr : Go K rm Z n0 bs ml ret own nm Q kc ks h pc' L (v :: S)) : Go K rm Z n0 bs ml ret own nm Q kc ks h pc L (.ref a :: S) := by
  subst hp
  obtain ⟨p, l, e, s, m, args, below, meth, c⟩ := K
  intro hx hby hml hown hZ hret hlk hnm T locs X hF hh
  obtain ⟨T', X', e', st'⟩ := getF X hx hZ hown w via hh F (g := mkF m pc L (.ref a :: S)) rfl rfl (hb hby hd)
  obtain ⟨s₂, v, L', st, r⟩ := hr hx hby hml hown hZ hret hlk hnm T' locs X' hF e'
  exact ⟨s₂, v, L', st' _ st, r⟩
theorem getstatic {R0 O n d : String} {idx : Nat} {v : Value} (hd : decode bs pc = .ok (.getstatic idx, 3)) (hp : pc + 3 = pc') (w : (Jvm.Cond.fieldLink own idx R0 n d).before a0 Z = true) (via : Via Z R0 O n d) (F : Sta Z h O n d v) (hr : Go K rm Z n0 bs ml ret own nm Q kc ks h pc' L (v :: S)) : Go K rm Z n0 bs ml ret own nm Q kc ks h pc L S := by
  subst hp
  obtain ⟨p, l, e, s, m, args, below, meth, c⟩ := K
  intro hx hby hml hown hZ hret hlk hnm T locs X hF hh
  obtain ⟨T', X', e', st'⟩ := getS (host := "") X hx hZ hown w via hh F (g := mkF m pc L S) rfl (hb hby hd)
  obtain ⟨s₂, v, L', st, r⟩ := hr hx hby hml hown hZ hret hlk hnm T' locs X' hF e'
  exact ⟨s₂, v, L', st' _ st, r⟩
theorem putfield {R0 O n d host C : String} {idx kk : Nat} {ty : FieldType} {a : Addr} {v old : Value} (hd : decode bs pc = .ok (.putfield idx, 3)) (hp : pc + 3 = pc') (w : (Jvm.Cond.fieldLink own idx R0 n d).before a0 Z = true ∨ (Jvm.Cond.fieldLinkNest own idx R0 n d host).before a0 Z = true) (via : Via Z R0 O n d)
    (F : Fld Z h a O n d old) (E : Exa Z h a C) (Lw : (Jvm.Cond.lays C O n d).before a0 Z = true ∨ ((Jvm.Cond.laysFinal C O n d).before a0 Z = true ∧ own = O ∧ nm = "<init>")) (wi : (Jvm.Cond.instantiable C kk).before a0 Z = true)
    (hty : parseFieldDescriptor d = some ty) (hn : narrow ty v = v) (hf : fits ty v = true) (hg : n0 ≤ a) (hr : ∀ h', Wr h h' a (Jvm.RoadKit.slotOf Z O n d) v → Go K rm Z n0 bs ml ret own nm Q kc ks h' pc' L S) : Go K rm Z n0 bs ml ret own nm Q kc ks h pc L (v :: .ref a :: S) := by
  subst hp
  obtain ⟨p, l, e, s, m, args, below, meth, c⟩ := K
  intro hx hby hml hown hZ hret hlk hnm T locs X hF hh
  obtain ⟨T', h', X', e', W', st'⟩ := putF X hx hZ hown w via hh F E (Lw.imp id fun q => ⟨q.1, q.2.1, hnm.trans q.2.2⟩) wi hty hn hf (g := mkF m pc L (v :: .ref a :: S)) rfl rfl (hb hby hd)
  obtain ⟨s₂, v, L', st, r⟩ := hr h' W' hx hby hml hown hZ hret hlk hnm T' _ X' (Fr.snoc X' hF hg) e'
  exact ⟨s₂, v, L', st' _ st, r⟩
theorem newobj {C : String} {idx n : Nat} (hd : decode bs pc = .ok (.new idx, 3)) (hp : pc + 3 = pc') (w : (Jvm.Cond.classLink own idx C).before a0 Z = true) (wi : (Jvm.Cond.instantiable C n).before a0 Z = true) (wz : (Jvm.Cond.initialized C).before a0 Z = true) (hc : kc + 1 ≤ rm.cells) (hs : ks + n ≤ rm.slots)
    (hr : ∀ a h', a = h.size → Ext h h' → Exa Z h' a C → (∀ {O nm d : String} {ty : FieldType}, Laid Z a0 C O nm d → parseFieldDescriptor d = some ty → Fld Z h' a O nm d (defaultValue ty)) → Go K rm Z n0 bs ml ret own nm Q (kc + 1) (ks + n) h' pc' L (.ref a :: S)) : Go K rm Z n0 bs ml ret own nm Q kc ks h pc L S := by
  subst hp
  obtain ⟨p, l, e, s, m, args, below, meth, c⟩ := K
  intro hx hby hml hown hZ hret hlk hnm T locs X hF hh
  obtain ⟨T', h', X', e', E', A', D', -, st'⟩ := newO X hx hZ hown w wi wz hh (g := mkF m pc L S) rfl (hb hby hd) hc hs
  obtain ⟨s₂, v, L', st, r⟩ := hr _ h' rfl E' A' D' hx hby hml hown hZ hret hlk hnm T' _ X' hF e'
  exact ⟨s₂, v, L', st' _ st, r⟩
theorem objinit {idx : Nat} {a : Addr} (hd : decode bs pc = .ok (.invokespecial idx, 3)) (hp : pc + 3 = pc') (w1 : (Jvm.Cond.methodLink own idx Lib.objectInit).before a0 Z = true) (w2 : (Jvm.Cond.instanceMethod Lib.objectInit).before a0 Z = true) (w3 : (Jvm.Cond.code Lib.objectInit ⟨#[0xb1]⟩ 1 none).before a0 Z = true)
    (hL : L.size = ml) (hf : 1 ≤ rm.frames) {W : Nat} (hW : (S.map fun v => v.category).sum = W) (hl : W + 12 ≤ rm.locals) (hr : Go K rm Z n0 bs ml ret own nm Q kc ks h pc' L S) : Go K rm Z n0 bs ml ret own nm Q kc ks h pc L (.ref a :: S) := by
  subst hp
  obtain ⟨p, l, e, s, m, args, below, meth, c⟩ := K
  intro hx hby hml hown hZ hret hlk hnm T locs X hF hh
  obtain ⟨T', X', e', st'⟩ := initO X hx hZ hown w1 w2 w3 hh (g := mkF m pc L (.ref a :: S)) rfl (by rw [hml]; exact hL) rfl (hb hby hd) hf (W := W) (by show 2 * 0 + _ ≤ _; omega) hl
  obtain ⟨s₂, v, L', st, r⟩ := hr hx hby hml hown hZ hret hlk hnm T' locs X' hF e'
  exact ⟨s₂, v, L', st' _ st, r⟩
theorem static {W : Nat} {y : MethodName} {bs' : ByteArray} {ml' idx : Nat} {ret' : Option FieldType} {rm' : Room} {as rest : List Value} {Q' : Option Value → Heap → Prop} (hd : decode bs pc = .ok (.invokestatic idx, 3)) (hp : pc + 3 = pc') (w1 : (Jvm.Cond.methodLink own idx y).before a0 Z = true) (w2 : (Jvm.Cond.static y).before a0 Z = true) (w3 : (Jvm.Cond.initialized y.cls).before a0 Z = true) (w4 : (Jvm.Cond.code y bs' ml' ret').before a0 Z = true)
    (hy : y.cls ≠ "java/lang/invoke/MethodHandle" ∧ y.cls ≠ "java/lang/invoke/VarHandle") (C : Con Z n0 y bs' ml' ret' rm' as h Q') (hst : S = as.reverse ++ rest) (hL : L.size = ml) (hlen : ∀ sig, parseMethodDescriptor y.desc = some sig → as.length = sig.parameters.length)
    (hf : rm'.frames + 1 ≤ rm.frames) (hW : (rest.map fun v => v.category).sum = W) (hl : W + (ml' + 11) + rm'.locals ≤ rm.locals) (hc : kc + rm'.cells ≤ rm.cells) (hs : ks + rm'.slots ≤ rm.slots)
    (hr : ∀ v h', Q' v h' → Go K rm Z n0 bs ml ret own nm Q (kc + rm'.cells) (ks + rm'.slots) h' pc' L (v.toList ++ rest)) : Go K rm Z n0 bs ml ret own nm Q kc ks h pc L S := by
  subst hp
  obtain ⟨p, l, e, s, m, args, below, meth, c⟩ := K
  intro hx hby hml hown hZ hret hlk hnm T locs X hF hh
  obtain ⟨_, _, ⟨T', L1, k1, n1⟩, -, X', ⟨Lc, hQ, l1, y1, z1⟩, st'⟩ := Jvm.LawKit.callS X hx hown (mvT hZ w1) (mvT hZ w2) (mvT hZ w3) (mvT hZ w4) hy (backOf (Q := fun v h L => Q' v h ∧ Fr n0 L) (W := W) (C l) hZ w4 w3 hf hl) (g := mkF m pc L S) rfl (by rw [hml]; exact hL) (argsL := as) (rest := rest) hlen hst (by show 2 * 0 + _ ≤ _; omega) (hb hby hd) (fun _ _ => ⟨rfl, hh, hc, hs⟩)
  dsimp only [Pt.U, Pt.locs, Pt.cells, Pt.slots] at X' l1 y1 z1 st' hQ
  subst l1 y1 z1
  obtain ⟨s₂, v, L', st, r⟩ := hr _ _ hQ.1 hx hby hml hown hZ hret hlk hnm T' _ X' (Fr.app hF hQ.2) rfl
  exact ⟨s₂, v, L', st' _ st, r⟩
theorem special {W : Nat} {y : MethodName} {bs' : ByteArray} {ml' idx : Nat} {rm' : Room} {as rest : List Value} {Q' : Option Value → Heap → Prop} {a : Addr} (hd : decode bs pc = .ok (.invokespecial idx, 3)) (hp : pc + 3 = pc') (hy1 : y.name = "<init>") (w1 : (Jvm.Cond.methodLink own idx y).before a0 Z = true) (w2 : (Jvm.Cond.instanceMethod y).before a0 Z = true) (w3 : (Jvm.Cond.initialized y.cls).before a0 Z = true) (w4 : (Jvm.Cond.code y bs' ml' none).before a0 Z = true)
    (hy : y.cls ≠ "java/lang/invoke/MethodHandle" ∧ y.cls ≠ "java/lang/invoke/VarHandle") (C : Con Z n0 y bs' ml' none rm' (.ref a :: as) h Q') (hst : S = as.reverse ++ .ref a :: rest) (hL : L.size = ml) (hlen : ∀ sig, parseMethodDescriptor y.desc = some sig → as.length = sig.parameters.length)
    (hf : rm'.frames + 1 ≤ rm.frames) (hW : (rest.map fun v => v.category).sum = W) (hl : W + (ml' + 11) + rm'.locals ≤ rm.locals) (hc : kc + rm'.cells ≤ rm.cells) (hs : ks + rm'.slots ≤ rm.slots)
    (hr : ∀ v h', Q' v h' → Go K rm Z n0 bs ml ret own nm Q (kc + rm'.cells) (ks + rm'.slots) h' pc' L (v.toList ++ rest)) : Go K rm Z n0 bs ml ret own nm Q kc ks h pc L S := by
  subst hp
  obtain ⟨p, l, e, s, m, args, below, meth, c⟩ := K
  intro hx hby hml hown hZ hret hlk hnm T locs X hF hh
  obtain ⟨_, _, ⟨T', L1, k1, n1⟩, -, X', ⟨Lc, hQ, l1, y1, z1⟩, st'⟩ := X.specialBack hx hy1 hown (mvT hZ w1) (mvT hZ w2) (mvT hZ w4) hy (backOf (Q := fun v h L => Q' v h ∧ Fr n0 L) (W := W) (C l) hZ w4 w3 hf hl) (g := mkF m pc L S) rfl (by rw [hml]; exact hL) (Steps.refl _) (a := a) (argsL := as) (rest := rest) hlen hst (by show 2 * 0 + _ ≤ _; omega) (hb hby hd) (fun _ _ => ⟨rfl, hh, hc, hs⟩)
  dsimp only [Pt.U, Pt.locs, Pt.cells, Pt.slots] at X' l1 y1 z1 st' hQ
  subst l1 y1 z1
  obtain ⟨s₂, v, L', st, r⟩ := hr _ _ hQ.1 hx hby hml hown hZ hret hlk hnm T' _ X' (Fr.app hF hQ.2) rfl
  exact ⟨s₂, v, L', st'.trans st, r⟩
theorem virtual {W : Nat} {y : MethodName} {bs' : ByteArray} {ml' idx : Nat} {ret' : Option FieldType} {rm' : Room} {as rest : List Value} {Q' : Option Value → Heap → Prop} {C' : String} {a : Addr} (hd : decode bs pc = .ok (.invokevirtual idx, 3)) (hp : pc + 3 = pc') (w1 : (Jvm.Cond.methodLink own idx y).before a0 Z = true) (w2 : (Jvm.Cond.declares y).before a0 Z = true) (w5 : (Jvm.Cond.selects C' y y).before a0 Z = true) (w6 : (Jvm.Cond.instanceMethod y).before a0 Z = true) (w3 : (Jvm.Cond.initialized y.cls).before a0 Z = true) (w4 : (Jvm.Cond.code y bs' ml' ret').before a0 Z = true)
    (hy : y.cls ≠ "java/lang/invoke/MethodHandle" ∧ y.cls ≠ "java/lang/invoke/VarHandle") (E : Exa Z h a C') (C : Con Z n0 y bs' ml' ret' rm' (.ref a :: as) h Q') (hst : S = as.reverse ++ .ref a :: rest) (hL : L.size = ml) (hlen : ∀ sig, parseMethodDescriptor y.desc = some sig → as.length = sig.parameters.length)
    (hf : rm'.frames + 1 ≤ rm.frames) (hW : (rest.map fun v => v.category).sum = W) (hl : W + (ml' + 11) + rm'.locals ≤ rm.locals) (hc : kc + rm'.cells ≤ rm.cells) (hs : ks + rm'.slots ≤ rm.slots)
    (hr : ∀ v h', Q' v h' → Go K rm Z n0 bs ml ret own nm Q (kc + rm'.cells) (ks + rm'.slots) h' pc' L (v.toList ++ rest)) : Go K rm Z n0 bs ml ret own nm Q kc ks h pc L S := by
  subst hp
  obtain ⟨p, l, e, s, m, args, below, meth, c⟩ := K
  intro hx hby hml hown hZ hret hlk hnm T locs X hF hh
  obtain ⟨cq, kq, qa, qb, qc⟩ := isOf (T := T) hZ hh E
  obtain ⟨_, _, ⟨T', L1, k1, n1⟩, -, X', ⟨Lc, hQ, l1, y1, z1⟩, st'⟩ := X.virtualBack hx (y := y) (z := y) hown (mvT hZ w1) (mvT hZ w2) (notFace_of_selects (args := #[]) (mvT hZ w5)) (mvT hZ w5) (mvT hZ w6) hy (backOf (Q := fun v h L => Q' v h ∧ Fr n0 L) (W := W) (C l) hZ w4 w3 hf hl) qa qc (g := mkF m pc L S) rfl (by rw [hml]; exact hL) (Steps.refl _) (argsL := as) (rest := rest) hlen hst (by show 2 * 0 + _ ≤ _; omega) (hb hby hd) (fun _ _ => ⟨rfl, hh, hc, hs⟩)
  dsimp only [Pt.U, Pt.locs, Pt.cells, Pt.slots] at X' l1 y1 z1 st' hQ
  subst l1 y1 z1
  obtain ⟨s₂, v, L', st, r⟩ := hr _ _ hQ.1 hx hby hml hown hZ hret hlk hnm T' _ X' (Fr.app hF hQ.2) rfl
  exact ⟨s₂, v, L', st'.trans st, r⟩
theorem privat {W : Nat} {y : MethodName} {bs' : ByteArray} {ml' idx : Nat} {ret' : Option FieldType} {rm' : Room} {as rest : List Value} {Q' : Option Value → Heap → Prop} {a : Addr} (hd : decode bs pc = .ok (.invokevirtual idx, 3)) (hp : pc + 3 = pc') (w1 : (Jvm.Cond.methodLink own idx y).before a0 Z = true) (w6 : (Jvm.Cond.instanceMethod y).before a0 Z = true) (w5 : (Jvm.Cond.selects y.cls y y).before a0 Z = true) (w7 : (Jvm.Cond.privateMethod y).before a0 Z = true) (w3 : (Jvm.Cond.initialized y.cls).before a0 Z = true) (w4 : (Jvm.Cond.code y bs' ml' ret').before a0 Z = true)
    (hy : y.cls ≠ "java/lang/invoke/MethodHandle" ∧ y.cls ≠ "java/lang/invoke/VarHandle") (E : Exa Z h a y.cls) (C : Con Z n0 y bs' ml' ret' rm' (.ref a :: as) h Q') (hst : S = as.reverse ++ .ref a :: rest) (hL : L.size = ml) (hlen : ∀ sig, parseMethodDescriptor y.desc = some sig → as.length = sig.parameters.length)
    (hf : rm'.frames + 1 ≤ rm.frames) (hW : (rest.map fun v => v.category).sum = W) (hl : W + (ml' + 11) + rm'.locals ≤ rm.locals) (hc : kc + rm'.cells ≤ rm.cells) (hs : ks + rm'.slots ≤ rm.slots)
    (hr : ∀ v h', Q' v h' → Go K rm Z n0 bs ml ret own nm Q (kc + rm'.cells) (ks + rm'.slots) h' pc' L (v.toList ++ rest)) : Go K rm Z n0 bs ml ret own nm Q kc ks h pc L S := by
  subst hp
  obtain ⟨p, l, e, s, m, args, below, meth, c⟩ := K
  intro hx hby hml hown hZ hret hlk hnm T locs X hF hh
  obtain ⟨cq, q1, q2⟩ := E.cell
  obtain ⟨_, _, ⟨T', L1, k1, n1⟩, -, X', ⟨Lc, hQ, l1, y1, z1⟩, st'⟩ := X.privateBack hx hown (mvT hZ w1) (mvT hZ w6) (mvT hZ w5) (Cond.privateMethod_at (mvP hZ w7 (args := #[]))) (mvT hZ w4) hy (backOf (Q := fun v h L => Q' v h ∧ Fr n0 L) (W := W) (C l) hZ w4 w3 hf hl) (g := mkF m pc L S) rfl (by rw [hml]; exact hL) (Steps.refl _) (a := a) (by rw [hh]; exact q1) q2 (argsL := as) (rest := rest) hlen hst (by show 2 * 0 + _ ≤ _; omega) (hb hby hd) (fun _ _ => ⟨rfl, hh, hc, hs⟩)
  dsimp only [Pt.U, Pt.locs, Pt.cells, Pt.slots] at X' l1 y1 z1 st' hQ
  subst l1 y1 z1
  obtain ⟨s₂, v, L', st, r⟩ := hr _ _ hQ.1 hx hby hml hown hZ hret hlk hnm T' _ X' (Fr.app hF hQ.2) rfl
  exact ⟨s₂, v, L', st'.trans st, r⟩
theorem ireturnZ {z z' : Int32} (hd : decode bs pc = .ok (.ireturn, 1)) (ht : ret = some .boolean) (hz : nar .boolean z = z') (hQ : Q (some (.int z')) h) (hc : kc ≤ rm.cells) (hs : ks ≤ rm.slots) : Go K rm Z n0 bs ml ret own nm Q kc ks h pc L (.int z :: S) := by
  subst ht hz
  obtain ⟨p, l, e, s, m, args, below, meth, c⟩ := K
  intro hx hby hml hown hZ hret hlk hnm T locs X hF hh
  obtain ⟨fs, hr, hrun, hended, hW, hsame⟩ := X.leave (v := some (.int (nar .boolean z))) (fun q => by rw [hret] at q; cases q) hlk
  exact ⟨T.setFrames fs, _, locs, retN X hx (t := .boolean) hret (by simp) (hb hby hd) hr, hrun, hended, by rw [show (T.setFrames fs).heap = h from hh]; exact hQ, hF, ⟨_, rfl⟩, hW, hsame.mono hc hs⟩
theorem ireturnI {z : Int32} (hd : decode bs pc = .ok (.ireturn, 1)) (ht : ret = some .int) (hQ : Q (some (.int z)) h) (hc : kc ≤ rm.cells) (hs : ks ≤ rm.slots) : Go K rm Z n0 bs ml ret own nm Q kc ks h pc L (.int z :: S) := by
  subst ht
  obtain ⟨p, l, e, s, m, args, below, meth, c⟩ := K
  intro hx hby hml hown hZ hret hlk hnm T locs X hF hh
  obtain ⟨fs, hr, hrun, hended, hW, hsame⟩ := X.leave (v := some (.int z)) (fun q => by rw [hret] at q; cases q) hlk
  exact ⟨T.setFrames fs, _, locs, retOut X hx hret rfl (Or.inl ⟨rfl, Or.inl rfl, z, rfl⟩) (hb hby hd) hr, hrun, hended, by rw [show (T.setFrames fs).heap = h from hh]; exact hQ, hF, ⟨_, rfl⟩, hW, hsame.mono hc hs⟩
theorem lreturn {z : Int64} (hd : decode bs pc = .ok (.lreturn, 1)) (ht : ret = some .long) (hQ : Q (some (.long z)) h) (hc : kc ≤ rm.cells) (hs : ks ≤ rm.slots) : Go K rm Z n0 bs ml ret own nm Q kc ks h pc L (.long z :: S) := by
  subst ht
  obtain ⟨p, l, e, s, m, args, below, meth, c⟩ := K
  intro hx hby hml hown hZ hret hlk hnm T locs X hF hh
  obtain ⟨fs, hr, hrun, hended, hW, hsame⟩ := X.leave (v := some (.long z)) (fun q => by rw [hret] at q; cases q) hlk
  exact ⟨T.setFrames fs, _, locs, retOut X hx hret rfl (Or.inr (Or.inl ⟨rfl, rfl, z, rfl⟩)) (hb hby hd) hr, hrun, hended, by rw [show (T.setFrames fs).heap = h from hh]; exact hQ, hF, ⟨_, rfl⟩, hW, hsame.mono hc hs⟩
theorem areturn {t : FieldType} {v : Value} (hd : decode bs pc = .ok (.areturn, 1)) (ht : ret = some t) (htr : t.isReference = true) (hv : v.isRef = true) (hnn : narrow t v = v) (hQ : Q (some v) h) (hc : kc ≤ rm.cells) (hs : ks ≤ rm.slots) : Go K rm Z n0 bs ml ret own nm Q kc ks h pc L (v :: S) := by
  subst ht
  obtain ⟨p, l, e, s, m, args, below, meth, c⟩ := K
  intro hx hby hml hown hZ hret hlk hnm T locs X hF hh
  obtain ⟨fs, hr, hrun, hended, hW, hsame⟩ := X.leave (v := some v) (fun q => by rw [hret] at q; cases q) hlk
  exact ⟨T.setFrames fs, _, locs, retOut X hx hret hnn (Or.inr (Or.inr (Or.inr (Or.inr ⟨rfl, htr, hv⟩)))) (hb hby hd) hr, hrun, hended, by rw [show (T.setFrames fs).heap = h from hh]; exact hQ, hF, ⟨_, rfl⟩, hW, hsame.mono hc hs⟩
theorem vreturn (hd : decode bs pc = .ok (.return_, 1)) (ht : ret = none) (hQ : Q none h) (hc : kc ≤ rm.cells) (hs : ks ≤ rm.slots) : Go K rm Z n0 bs ml ret own nm Q kc ks h pc L [] := by
  subst ht
  obtain ⟨p, l, e, s, m, args, below, meth, c⟩ := K
  intro hx hby hml hown hZ hret hlk hnm T locs X hF hh
  obtain ⟨fs, hr, hrun, hended, hW, hsame⟩ := X.leave (v := none) (fun _ => rfl) hlk
  exact ⟨T.setFrames fs, _, locs, X.returnOut hx hret (hb hby hd) hr, hrun, hended, by rw [show (T.setFrames fs).heap = h from hh]; exact hQ, hF, ⟨_, rfl⟩, hW, hsame.mono hc hs⟩
theorem join {pc2 : Nat} {L2 : Array Slot} {S2 : List Value} (h1 : Go K rm Z n0 bs ml ret own nm Q kc ks h pc2 L2 S2 → Go K rm Z n0 bs ml ret own nm Q kc ks h pc L S) (h2 : Go K rm Z n0 bs ml ret own nm Q kc ks h pc2 L2 S2) : Go K rm Z n0 bs ml ret own nm Q kc ks h pc L S := h1 h2
theorem ifnonnull_yes {o : Int} {b : Addr} (hd : decode bs pc = .ok (.ifnonnull o, 3)) (ho : 0 ≤ (pc : Int) + o) (hp : ((pc : Int) + o).toNat = pc') (hr : Go K rm Z n0 bs ml ret own nm Q kc ks h pc' L S) : Go K rm Z n0 bs ml ret own nm Q kc ks h pc L (.ref b :: S) := by
  obtain ⟨p, l, e, s, m, args, below, meth, c⟩ := K
  intro hx hby hml hown hZ hret hlk hnm T locs X hF hh
  obtain ⟨s₂, v, L', st, r⟩ := hr hx hby hml hown hZ hret hlk hnm T locs X hF hh
  exact ⟨s₂, v, L', XS.ifnonnullYes X.here hx rfl (pc0 := pc) (pc' := pc') rfl (hb hby hd) rfl ho hp st, r⟩
theorem Go.more {kc' ks' : Nat} (hc : kc ≤ kc') (hs : ks ≤ ks') (hr : Go K rm Z n0 bs ml ret own nm Q kc' ks' h pc L S) : Go K rm Z n0 bs ml ret own nm Q kc ks h pc L S := by
  obtain ⟨p, l, e, s, m, args, below, meth, c⟩ := K
  intro hx hby hml hown hZ hret hlk hnm T locs X hF hh
  exact hr hx hby hml hown hZ hret hlk hnm T locs (X.more hc hs) hF hh
theorem Con.post {y : MethodName} {rm' : Room} {bs' : ByteArray} {ml' : Nat} {ret' : Option FieldType} {as : List Value} {Q1 Q2 : Option Value → Heap → Prop} (C : Con Z n0 y bs' ml' ret' rm' as h Q1) (q : ∀ v h', Q1 v h' → Q2 v h') : Con Z n0 y bs' ml' ret' rm' as h Q2 := fun l p e h1 h2 h3 s m args below h4 h5 h6 h7 => by
  obtain ⟨n, o, g1, g2, g3, v, L, g4, g5, g6⟩ := C l p e h1 h2 h3 s m args below h4 h5 h6 h7
  exact ⟨n, o, g1, g2, g3, v, L, g4, ⟨q _ _ g5.1, g5.2⟩, g6⟩
/-- an int[] of n places that hold f 0 .. f (n - 1) -/
def AI (Z : State) (h : Heap) (a : Addr) (n : Nat) (f : Nat → Int32) : Prop := ∃ cl : Cell, Arr Z h a cl .int ∧ cl.slots.size = n ∧ n < 2 ^ 31 ∧ ∀ k, k < n → cl.slots[k]? = some (.int (f k))
def AJ (Z : State) (h : Heap) (a : Addr) (n : Nat) (f : Nat → Int64) : Prop := ∃ cl : Cell, Arr Z h a cl .long ∧ cl.slots.size = n ∧ n < 2 ^ 31 ∧ ∀ k, k < n → cl.slots[k]? = some (.long (f k))
def AB (Z : State) (h : Heap) (a : Addr) (n : Nat) (f : Nat → Int32) : Prop := ∃ cl : Cell, Arr Z h a cl .byte ∧ cl.slots.size = n ∧ n < 2 ^ 31 ∧ ∀ k, k < n → cl.slots[k]? = some (.int (f k))
def ownSet {α : Type} (f : Nat → α) (i : Nat) (x : α) : Nat → α := fun k => if k = i then x else f k
theorem inb {j : Int32} {i n : Nat} (hj : j.toInt = (i : Int)) (hi : i < n) : ¬ (j < 0 ∨ n ≤ j.toNatClampNeg) ∧ j.toNatClampNeg = i := by
  have e : j.toNatClampNeg = i := by simp [Int32.toNatClampNeg, hj]
  refine ⟨?_, e⟩
  rw [e, Int32.lt_iff_toInt_lt, hj]
  simp; omega
theorem AI.ext {h' : Heap} {a : Addr} {n : Nat} {f : Nat → Int32} (F : AI Z h a n f) (E : Ext h h') : AI Z h' a n f := by obtain ⟨c, A, r⟩ := F; exact ⟨c, A.ext E, r⟩
theorem AI.other {h' : Heap} {a b : Addr} {sl n : Nat} {v : Value} {f : Nat → Int32} (F : AI Z h b n f) (W : Wr h h' a sl v) (q : b ≠ a) : AI Z h' b n f := by obtain ⟨c, A, r⟩ := F; exact ⟨c, A.other W q, r⟩
theorem AI.keep {h' : Heap} {a : Addr} {n : Nat} {ws : List Addr} {f : Nat → Int32} (F : AI Z h a n f) (K : Keep h h' ws) (q : a ∉ ws) : AI Z h' a n f := by obtain ⟨c, A, r⟩ := F; exact ⟨c, ⟨K.2.1 a c A.1 q, A.2⟩, r⟩
theorem AI.lt {a : Addr} {n : Nat} {f : Nat → Int32} (F : AI Z h a n f) : a < h.size := by obtain ⟨c, A, -⟩ := F; exact A.lt
theorem AI.set {h' : Heap} {a : Addr} {n i : Nat} {x : Int32} {f : Nat → Int32} (F : AI Z h a n f) (W : Wr h h' a i (.int x)) : AI Z h' a n (ownSet f i x) := by
  obtain ⟨c, A, r1, r2, r3⟩ := F
  refine ⟨_, A.same W, by rw [sz_set]; exact r1, r2, fun k hk => ?_⟩
  by_cases e : k = i
  · subst e; simp [Cell.setSlot, ownSet, r1, hk]
  · rw [show (c.setSlot i (.int x)).slots[k]? = c.slots[k]? from Array.getElem?_setIfInBounds_ne (Ne.symm e), r3 k hk]; simp [ownSet, e]
theorem AI.cong {a : Addr} {n : Nat} {f g : Nat → Int32} (F : AI Z h a n f) (q : ∀ k, k < n → f k = g k) : AI Z h a n g := by obtain ⟨c, A, r1, r2, r3⟩ := F; exact ⟨c, A, r1, r2, fun k hk => by rw [r3 k hk, q k hk]⟩
theorem AJ.ext {h' : Heap} {a : Addr} {n : Nat} {f : Nat → Int64} (F : AJ Z h a n f) (E : Ext h h') : AJ Z h' a n f := by obtain ⟨c, A, r⟩ := F; exact ⟨c, A.ext E, r⟩
theorem AJ.other {h' : Heap} {a b : Addr} {sl n : Nat} {v : Value} {f : Nat → Int64} (F : AJ Z h b n f) (W : Wr h h' a sl v) (q : b ≠ a) : AJ Z h' b n f := by obtain ⟨c, A, r⟩ := F; exact ⟨c, A.other W q, r⟩
theorem AJ.keep {h' : Heap} {a : Addr} {n : Nat} {ws : List Addr} {f : Nat → Int64} (F : AJ Z h a n f) (K : Keep h h' ws) (q : a ∉ ws) : AJ Z h' a n f := by obtain ⟨c, A, r⟩ := F; exact ⟨c, ⟨K.2.1 a c A.1 q, A.2⟩, r⟩
theorem AJ.lt {a : Addr} {n : Nat} {f : Nat → Int64} (F : AJ Z h a n f) : a < h.size := by obtain ⟨c, A, -⟩ := F; exact A.lt
theorem AJ.set {h' : Heap} {a : Addr} {n i : Nat} {x : Int64} {f : Nat → Int64} (F : AJ Z h a n f) (W : Wr h h' a i (.long x)) : AJ Z h' a n (ownSet f i x) := by
  obtain ⟨c, A, r1, r2, r3⟩ := F
  refine ⟨_, A.same W, by rw [sz_set]; exact r1, r2, fun k hk => ?_⟩
  by_cases e : k = i
  · subst e; simp [Cell.setSlot, ownSet, r1, hk]
  · rw [show (c.setSlot i (.long x)).slots[k]? = c.slots[k]? from Array.getElem?_setIfInBounds_ne (Ne.symm e), r3 k hk]; simp [ownSet, e]
theorem AJ.cong {a : Addr} {n : Nat} {f g : Nat → Int64} (F : AJ Z h a n f) (q : ∀ k, k < n → f k = g k) : AJ Z h a n g := by obtain ⟨c, A, r1, r2, r3⟩ := F; exact ⟨c, A, r1, r2, fun k hk => by rw [r3 k hk, q k hk]⟩
theorem AB.ext {h' : Heap} {a : Addr} {n : Nat} {f : Nat → Int32} (F : AB Z h a n f) (E : Ext h h') : AB Z h' a n f := by obtain ⟨c, A, r⟩ := F; exact ⟨c, A.ext E, r⟩
theorem AB.other {h' : Heap} {a b : Addr} {sl n : Nat} {v : Value} {f : Nat → Int32} (F : AB Z h b n f) (W : Wr h h' a sl v) (q : b ≠ a) : AB Z h' b n f := by obtain ⟨c, A, r⟩ := F; exact ⟨c, A.other W q, r⟩
theorem AB.keep {h' : Heap} {a : Addr} {n : Nat} {ws : List Addr} {f : Nat → Int32} (F : AB Z h a n f) (K : Keep h h' ws) (q : a ∉ ws) : AB Z h' a n f := by obtain ⟨c, A, r⟩ := F; exact ⟨c, ⟨K.2.1 a c A.1 q, A.2⟩, r⟩
theorem AB.lt {a : Addr} {n : Nat} {f : Nat → Int32} (F : AB Z h a n f) : a < h.size := by obtain ⟨c, A, -⟩ := F; exact A.lt
theorem AB.set {h' : Heap} {a : Addr} {n i : Nat} {x : Int32} {f : Nat → Int32} (F : AB Z h a n f) (W : Wr h h' a i (.int x)) : AB Z h' a n (ownSet f i x) := by
  obtain ⟨c, A, r1, r2, r3⟩ := F
  refine ⟨_, A.same W, by rw [sz_set]; exact r1, r2, fun k hk => ?_⟩
  by_cases e : k = i
  · subst e; simp [Cell.setSlot, ownSet, r1, hk]
  · rw [show (c.setSlot i (.int x)).slots[k]? = c.slots[k]? from Array.getElem?_setIfInBounds_ne (Ne.symm e), r3 k hk]; simp [ownSet, e]
theorem AB.cong {a : Addr} {n : Nat} {f g : Nat → Int32} (F : AB Z h a n f) (q : ∀ k, k < n → f k = g k) : AB Z h a n g := by obtain ⟨c, A, r1, r2, r3⟩ := F; exact ⟨c, A, r1, r2, fun k hk => by rw [r3 k hk, q k hk]⟩
theorem iaload {a : Addr} {j : Int32} {i n : Nat} {f : Nat → Int32} (hd : decode bs pc = .ok (.iaload, 1)) (hp : pc + 1 = pc') (A : AI Z h a n f) (hj : j.toInt = (i : Int)) (hi : i < n) (hr : Go K rm Z n0 bs ml ret own nm Q kc ks h pc' L (.int (f i) :: S)) : Go K rm Z n0 bs ml ret own nm Q kc ks h pc L (.int j :: .ref a :: S) := by
  subst hp
  obtain ⟨p, l, e, s, m, args, below, meth, c⟩ := K
  intro hx hby hml hown hZ hret hlk hnm T locs X hF hh
  obtain ⟨cl, A1, r1, r2, r3⟩ := A
  obtain ⟨g1, g2⟩ := inb hj hi
  obtain ⟨s₂, v, L', st, r⟩ := hr hx hby hml hown hZ hret hlk hnm T locs X hF hh
  exact ⟨s₂, v, L', X.iaload hx (j := j) (v := .int (f i)) (by rw [hh]; exact A1.1) (State.isArrayOf_alike hZ.alike A1.2.1) A1.2.2 (by rw [r1]; exact g1) (by rw [g2]; exact r3 i hi) (g := mkF m pc L (.int j :: .ref a :: S)) rfl rfl (hb hby hd) _ st, r⟩
theorem laload {a : Addr} {j : Int32} {i n : Nat} {f : Nat → Int64} (hd : decode bs pc = .ok (.laload, 1)) (hp : pc + 1 = pc') (A : AJ Z h a n f) (hj : j.toInt = (i : Int)) (hi : i < n) (hr : Go K rm Z n0 bs ml ret own nm Q kc ks h pc' L (.long (f i) :: S)) : Go K rm Z n0 bs ml ret own nm Q kc ks h pc L (.int j :: .ref a :: S) := by
  subst hp
  obtain ⟨p, l, e, s, m, args, below, meth, c⟩ := K
  intro hx hby hml hown hZ hret hlk hnm T locs X hF hh
  obtain ⟨cl, A1, r1, r2, r3⟩ := A
  obtain ⟨g1, g2⟩ := inb hj hi
  obtain ⟨s₂, v, L', st, r⟩ := hr hx hby hml hown hZ hret hlk hnm T locs X hF hh
  exact ⟨s₂, v, L', X.laload hx (j := j) (v := .long (f i)) (by rw [hh]; exact A1.1) (State.isArrayOf_alike hZ.alike A1.2.1) A1.2.2 (by rw [r1]; exact g1) (by rw [g2]; exact r3 i hi) (g := mkF m pc L (.int j :: .ref a :: S)) rfl rfl (hb hby hd) _ st, r⟩
theorem baload {a : Addr} {j : Int32} {i n : Nat} {f : Nat → Int32} (hd : decode bs pc = .ok (.baload, 1)) (hp : pc + 1 = pc') (A : AB Z h a n f) (hj : j.toInt = (i : Int)) (hi : i < n) (hr : Go K rm Z n0 bs ml ret own nm Q kc ks h pc' L (.int (f i) :: S)) : Go K rm Z n0 bs ml ret own nm Q kc ks h pc L (.int j :: .ref a :: S) := by
  subst hp
  obtain ⟨p, l, e, s, m, args, below, meth, c⟩ := K
  intro hx hby hml hown hZ hret hlk hnm T locs X hF hh
  obtain ⟨cl, A1, r1, r2, r3⟩ := A
  obtain ⟨g1, g2⟩ := inb hj hi
  obtain ⟨s₂, v, L', st, r⟩ := hr hx hby hml hown hZ hret hlk hnm T locs X hF hh
  exact ⟨s₂, v, L', X.baloadBytes hx (j := j) (v := .int (f i)) (by rw [hh]; exact A1.1) (State.isArrayOf_alike hZ.alike A1.2.1) A1.2.2 (by rw [r1]; exact g1) (by rw [g2]; exact r3 i hi) (g := mkF m pc L (.int j :: .ref a :: S)) rfl rfl (hb hby hd) _ st, r⟩
theorem iastore {a : Addr} {j : Int32} {x : Int32} {i n : Nat} {f : Nat → Int32} (hd : decode bs pc = .ok (.iastore, 1)) (hp : pc + 1 = pc') (A : AI Z h a n f) (hg : n0 ≤ a) (hj : j.toInt = (i : Int)) (hi : i < n) (hr : ∀ h', Wr h h' a i (.int x) → AI Z h' a n (ownSet f i x) → Go K rm Z n0 bs ml ret own nm Q kc ks h' pc' L S) : Go K rm Z n0 bs ml ret own nm Q kc ks h pc L (.int x :: .int j :: .ref a :: S) := by
  subst hp
  have A0 := A
  obtain ⟨p, l, e, s, m, args, below, meth, c⟩ := K
  intro hx hby hml hown hZ hret hlk hnm T locs X hF hh
  obtain ⟨cl, A1, r1, r2, r3⟩ := A
  obtain ⟨g1, g2⟩ := inb hj hi
  obtain ⟨T', h', X', e', W', st'⟩ := stI X hx hZ hh A1 (j := j) (by rw [r1]; exact g1) (g := mkF m pc L (.int x :: .int j :: .ref a :: S)) rfl rfl (hb hby hd)
  have W2 : Wr h h' a i (.int x) := by rw [g2] at W'; exact W'
  obtain ⟨s₂, v, L', st, r⟩ := hr h' W2 (A0.set W2) hx hby hml hown hZ hret hlk hnm T' _ X' (Fr.snoc X' hF hg) e'
  exact ⟨s₂, v, L', st' _ st, r⟩
theorem lastore {a : Addr} {j : Int32} {x : Int64} {i n : Nat} {f : Nat → Int64} (hd : decode bs pc = .ok (.lastore, 1)) (hp : pc + 1 = pc') (A : AJ Z h a n f) (hg : n0 ≤ a) (hj : j.toInt = (i : Int)) (hi : i < n) (hr : ∀ h', Wr h h' a i (.long x) → AJ Z h' a n (ownSet f i x) → Go K rm Z n0 bs ml ret own nm Q kc ks h' pc' L S) : Go K rm Z n0 bs ml ret own nm Q kc ks h pc L (.long x :: .int j :: .ref a :: S) := by
  subst hp
  have A0 := A
  obtain ⟨p, l, e, s, m, args, below, meth, c⟩ := K
  intro hx hby hml hown hZ hret hlk hnm T locs X hF hh
  obtain ⟨cl, A1, r1, r2, r3⟩ := A
  obtain ⟨g1, g2⟩ := inb hj hi
  obtain ⟨T', h', X', e', W', st'⟩ := stJ X hx hZ hh A1 (j := j) (by rw [r1]; exact g1) (g := mkF m pc L (.long x :: .int j :: .ref a :: S)) rfl rfl (hb hby hd)
  have W2 : Wr h h' a i (.long x) := by rw [g2] at W'; exact W'
  obtain ⟨s₂, v, L', st, r⟩ := hr h' W2 (A0.set W2) hx hby hml hown hZ hret hlk hnm T' _ X' (Fr.snoc X' hF hg) e'
  exact ⟨s₂, v, L', st' _ st, r⟩
theorem bastore {a : Addr} {j x : Int32} {i n : Nat} {f : Nat → Int32} (hd : decode bs pc = .ok (.bastore, 1)) (hp : pc + 1 = pc') (A : AB Z h a n f) (hg : n0 ≤ a) (hj : j.toInt = (i : Int)) (hi : i < n) (hr : ∀ h', Wr h h' a i (.int x.toInt8.toInt32) → AB Z h' a n (ownSet f i x.toInt8.toInt32) → Go K rm Z n0 bs ml ret own nm Q kc ks h' pc' L S) : Go K rm Z n0 bs ml ret own nm Q kc ks h pc L (.int x :: .int j :: .ref a :: S) := by
  subst hp
  have A0 := A
  obtain ⟨p, l, e, s, m, args, below, meth, c⟩ := K
  intro hx hby hml hown hZ hret hlk hnm T locs X hF hh
  obtain ⟨cl, A1, r1, r2, r3⟩ := A
  obtain ⟨g1, g2⟩ := inb hj hi
  obtain ⟨T', h', X', e', W', st'⟩ := stB X hx hZ hh A1 (j := j) (by rw [r1]; exact g1) (g := mkF m pc L (.int x :: .int j :: .ref a :: S)) rfl rfl (hb hby hd)
  have W2 : Wr h h' a i (.int x.toInt8.toInt32) := by rw [g2] at W'; exact W'
  obtain ⟨s₂, v, L', st, r⟩ := hr h' W2 (A0.set W2) hx hby hml hown hZ hret hlk hnm T' _ X' (Fr.snoc X' hF hg) e'
  exact ⟨s₂, v, L', st' _ st, r⟩
theorem newI {j : Int32} {n cap : Nat} (hd : decode bs pc = .ok (.newarray .int, 2)) (hp : pc + 2 = pc') (w : (Jvm.Cond.arrayClass .int).before a0 Z = true) (hj : j.toInt = (n : Int)) (hcap : n ≤ cap) (hb8 : cap * 8 ≤ 536870912) (hc : kc + 1 ≤ rm.cells) (hs : ks + cap ≤ rm.slots)
    (hr : ∀ a h', a = h.size → Ext h h' → AI Z h' a n (fun _ => 0) → Go K rm Z n0 bs ml ret own nm Q (kc + 1) (ks + cap) h' pc' L (.ref a :: S)) : Go K rm Z n0 bs ml ret own nm Q kc ks h pc L (.int j :: S) := by
  subst hp
  obtain ⟨p, l, e, s, m, args, below, meth, c⟩ := K
  intro hx hby hml hown hZ hret hlk hnm T locs X hF hh
  have hn : ¬ j < 0 := by rw [Int32.lt_iff_toInt_lt, hj]; simp
  have e : j.toNatClampNeg = n := by simp [Int32.toNatClampNeg, hj]
  obtain ⟨T', h', cA, X', e', E', A', st'⟩ := newP (aty := .int) X hx hZ w hh (g := mkF m pc L (.int j :: S)) rfl (hb hby hd) rfl hn (cap := cap) (by rw [e]; exact hcap) hb8 hc hs
  have hj2 := Int32.toInt_lt j
  have F : AI Z h' h.size n (fun _ => 0) := ⟨_, A', by rw [sz_new]; exact e, by omega, fun k hk => by
    have q : (newA cA .int j).slots[k]? = some (defaultValue .int) := by simp only [newA, e, Array.getElem?_replicate, if_pos hk]
    exact q⟩
  obtain ⟨s₂, v, L', st, r⟩ := hr _ h' rfl E' F hx hby hml hown hZ hret hlk hnm T' _ X' hF e'
  exact ⟨s₂, v, L', st' _ st, r⟩
theorem newJ {j : Int32} {n cap : Nat} (hd : decode bs pc = .ok (.newarray .long, 2)) (hp : pc + 2 = pc') (w : (Jvm.Cond.arrayClass .long).before a0 Z = true) (hj : j.toInt = (n : Int)) (hcap : n ≤ cap) (hb8 : cap * 8 ≤ 536870912) (hc : kc + 1 ≤ rm.cells) (hs : ks + cap ≤ rm.slots)
    (hr : ∀ a h', a = h.size → Ext h h' → AJ Z h' a n (fun _ => 0) → Go K rm Z n0 bs ml ret own nm Q (kc + 1) (ks + cap) h' pc' L (.ref a :: S)) : Go K rm Z n0 bs ml ret own nm Q kc ks h pc L (.int j :: S) := by
  subst hp
  obtain ⟨p, l, e, s, m, args, below, meth, c⟩ := K
  intro hx hby hml hown hZ hret hlk hnm T locs X hF hh
  have hn : ¬ j < 0 := by rw [Int32.lt_iff_toInt_lt, hj]; simp
  have e : j.toNatClampNeg = n := by simp [Int32.toNatClampNeg, hj]
  obtain ⟨T', h', cA, X', e', E', A', st'⟩ := newP (aty := .long) X hx hZ w hh (g := mkF m pc L (.int j :: S)) rfl (hb hby hd) rfl hn (cap := cap) (by rw [e]; exact hcap) hb8 hc hs
  have hj2 := Int32.toInt_lt j
  have F : AJ Z h' h.size n (fun _ => 0) := ⟨_, A', by rw [sz_new]; exact e, by omega, fun k hk => by
    have q : (newA cA .long j).slots[k]? = some (defaultValue .long) := by simp only [newA, e, Array.getElem?_replicate, if_pos hk]
    exact q⟩
  obtain ⟨s₂, v, L', st, r⟩ := hr _ h' rfl E' F hx hby hml hown hZ hret hlk hnm T' _ X' hF e'
  exact ⟨s₂, v, L', st' _ st, r⟩
theorem newB {j : Int32} {n cap : Nat} (hd : decode bs pc = .ok (.newarray .byte, 2)) (hp : pc + 2 = pc') (w : (Jvm.Cond.arrayClass .byte).before a0 Z = true) (hj : j.toInt = (n : Int)) (hcap : n ≤ cap) (hb8 : cap * 8 ≤ 536870912) (hc : kc + 1 ≤ rm.cells) (hs : ks + cap ≤ rm.slots)
    (hr : ∀ a h', a = h.size → Ext h h' → AB Z h' a n (fun _ => 0) → Go K rm Z n0 bs ml ret own nm Q (kc + 1) (ks + cap) h' pc' L (.ref a :: S)) : Go K rm Z n0 bs ml ret own nm Q kc ks h pc L (.int j :: S) := by
  subst hp
  obtain ⟨p, l, e, s, m, args, below, meth, c⟩ := K
  intro hx hby hml hown hZ hret hlk hnm T locs X hF hh
  have hn : ¬ j < 0 := by rw [Int32.lt_iff_toInt_lt, hj]; simp
  have e : j.toNatClampNeg = n := by simp [Int32.toNatClampNeg, hj]
  obtain ⟨T', h', cA, X', e', E', A', st'⟩ := newP (aty := .byte) X hx hZ w hh (g := mkF m pc L (.int j :: S)) rfl (hb hby hd) rfl hn (cap := cap) (by rw [e]; exact hcap) hb8 hc hs
  have hj2 := Int32.toInt_lt j
  have F : AB Z h' h.size n (fun _ => 0) := ⟨_, A', by rw [sz_new]; exact e, by omega, fun k hk => by
    have q : (newA cA .byte j).slots[k]? = some (defaultValue .byte) := by simp only [newA, e, Array.getElem?_replicate, if_pos hk]
    exact q⟩
  obtain ⟨s₂, v, L', st, r⟩ := hr _ h' rfl E' F hx hby hml hown hZ hret hlk hnm T' _ X' hF e'
  exact ⟨s₂, v, L', st' _ st, r⟩
theorem lenI {a : Addr} {n : Nat} {f : Nat → Int32} (hd : decode bs pc = .ok (.arraylength, 1)) (hp : pc + 1 = pc') (A : AI Z h a n f) (hr : ∀ z : Int32, z.toInt = (n : Int) → Go K rm Z n0 bs ml ret own nm Q kc ks h pc' L (.int z :: S)) : Go K rm Z n0 bs ml ret own nm Q kc ks h pc L (.ref a :: S) := by
  subst hp
  obtain ⟨p, l, e, s, m, args, below, meth, c⟩ := K
  intro hx hby hml hown hZ hret hlk hnm T locs X hF hh
  obtain ⟨cl, A1, r1, r2, r3⟩ := A
  obtain ⟨s₂, v, L', st, r⟩ := hr cl.slots.size.toInt32 (by rw [r1]; exact len_toInt r2) hx hby hml hown hZ hret hlk hnm T locs X hF hh
  exact ⟨s₂, v, L', X.arraylength hx (by rw [hh]; exact A1.1) (State.isArrayOf_alike hZ.alike A1.2.1) (g := mkF m pc L (.ref a :: S)) rfl rfl (hb hby hd) _ st, r⟩
theorem lenIE {a : Addr} {n : Nat} {z : Int32} {f : Nat → Int32} (hd : decode bs pc = .ok (.arraylength, 1)) (hp : pc + 1 = pc') (A : AI Z h a n f) (hz : z.toInt = (n : Int)) (hr : Go K rm Z n0 bs ml ret own nm Q kc ks h pc' L (.int z :: S)) : Go K rm Z n0 bs ml ret own nm Q kc ks h pc L (.ref a :: S) :=
  lenI hd hp A fun z' e => by obtain rfl : z' = z := Int32.toInt_inj.mp (e.trans hz.symm); exact hr
theorem lenJ {a : Addr} {n : Nat} {f : Nat → Int64} (hd : decode bs pc = .ok (.arraylength, 1)) (hp : pc + 1 = pc') (A : AJ Z h a n f) (hr : ∀ z : Int32, z.toInt = (n : Int) → Go K rm Z n0 bs ml ret own nm Q kc ks h pc' L (.int z :: S)) : Go K rm Z n0 bs ml ret own nm Q kc ks h pc L (.ref a :: S) := by
  subst hp
  obtain ⟨p, l, e, s, m, args, below, meth, c⟩ := K
  intro hx hby hml hown hZ hret hlk hnm T locs X hF hh
  obtain ⟨cl, A1, r1, r2, r3⟩ := A
  obtain ⟨s₂, v, L', st, r⟩ := hr cl.slots.size.toInt32 (by rw [r1]; exact len_toInt r2) hx hby hml hown hZ hret hlk hnm T locs X hF hh
  exact ⟨s₂, v, L', X.arraylength hx (by rw [hh]; exact A1.1) (State.isArrayOf_alike hZ.alike A1.2.1) (g := mkF m pc L (.ref a :: S)) rfl rfl (hb hby hd) _ st, r⟩
theorem lenJE {a : Addr} {n : Nat} {z : Int32} {f : Nat → Int64} (hd : decode bs pc = .ok (.arraylength, 1)) (hp : pc + 1 = pc') (A : AJ Z h a n f) (hz : z.toInt = (n : Int)) (hr : Go K rm Z n0 bs ml ret own nm Q kc ks h pc' L (.int z :: S)) : Go K rm Z n0 bs ml ret own nm Q kc ks h pc L (.ref a :: S) :=
  lenJ hd hp A fun z' e => by obtain rfl : z' = z := Int32.toInt_inj.mp (e.trans hz.symm); exact hr
theorem lenB {a : Addr} {n : Nat} {f : Nat → Int32} (hd : decode bs pc = .ok (.arraylength, 1)) (hp : pc + 1 = pc') (A : AB Z h a n f) (hr : ∀ z : Int32, z.toInt = (n : Int) → Go K rm Z n0 bs ml ret own nm Q kc ks h pc' L (.int z :: S)) : Go K rm Z n0 bs ml ret own nm Q kc ks h pc L (.ref a :: S) := by
  subst hp
  obtain ⟨p, l, e, s, m, args, below, meth, c⟩ := K
  intro hx hby hml hown hZ hret hlk hnm T locs X hF hh
  obtain ⟨cl, A1, r1, r2, r3⟩ := A
  obtain ⟨s₂, v, L', st, r⟩ := hr cl.slots.size.toInt32 (by rw [r1]; exact len_toInt r2) hx hby hml hown hZ hret hlk hnm T locs X hF hh
  exact ⟨s₂, v, L', X.arraylength hx (by rw [hh]; exact A1.1) (State.isArrayOf_alike hZ.alike A1.2.1) (g := mkF m pc L (.ref a :: S)) rfl rfl (hb hby hd) _ st, r⟩
theorem lenBE {a : Addr} {n : Nat} {z : Int32} {f : Nat → Int32} (hd : decode bs pc = .ok (.arraylength, 1)) (hp : pc + 1 = pc') (A : AB Z h a n f) (hz : z.toInt = (n : Int)) (hr : Go K rm Z n0 bs ml ret own nm Q kc ks h pc' L (.int z :: S)) : Go K rm Z n0 bs ml ret own nm Q kc ks h pc L (.ref a :: S) :=
  lenB hd hp A fun z' e => by obtain rfl : z' = z := Int32.toInt_inj.mp (e.trans hz.symm); exact hr
theorem clamp_of {j : Int32} {i : Nat} (hj : j.toInt = (i : Int)) : j.toNatClampNeg = i ∧ ¬ j < 0 := by
  refine ⟨by simp [Int32.toNatClampNeg, hj], ?_⟩
  rw [Int32.lt_iff_toInt_lt, hj]; simp
theorem AJ.arv {a : Addr} {n : Nat} {f : Nat → Int64} (F : AJ Z h a n f) : ∃ k, Arv Z h a k .long (Int32.ofInt n) ((List.range n).map fun i => Value.long (f i)) (.long 0) ∧ (Int32.ofInt (n : Int)).toNatClampNeg = n := by
  obtain ⟨c, A, r1, r2, r3⟩ := F
  have e : (Int32.ofInt (n : Int)).toInt = (n : Int) := by rw [Int32.toInt_ofInt]; exact LawKit.bmod32 (by omega) (by omega)
  obtain ⟨e1, e2⟩ := clamp_of e
  refine ⟨c.cls, ⟨c, A, rfl, by rw [r1, e1], e2, fun k hk => ?_, fun k hk => ?_⟩, e1⟩
  · rw [r1] at hk; rw [r3 k hk]; simp [List.getD_eq_getElem?_getD, hk]
  · rw [r1] at hk; simp [List.getD_eq_getElem?_getD, hk, fits]
theorem arraycopyJ {idx W : Nat} {a b : Addr} {sp dp nn : Int32} {n m i j k : Nat} {f g : Nat → Int64} (hd : decode bs pc = .ok (.invokestatic idx, 3)) (hp : pc + 3 = pc') (w1 : (Jvm.Cond.methodLink own idx Jvm.Stand.acN).before a0 Z = true) (w2 : (Jvm.Cond.native Jvm.Stand.acN).before a0 Z = true) (w3 : (Jvm.Cond.static Jvm.Stand.acN).before a0 Z = true) (w4 : (Jvm.Cond.initialized "java/lang/System").before a0 Z = true)
    (A : AJ Z h a n f) (B : AJ Z h b m g) (hsp : sp.toInt = (i : Int)) (hdp : dp.toInt = (j : Int)) (hnn : nn.toInt = (k : Int)) (h4 : i + k ≤ n) (h5 : j + k ≤ m) (ge : n0 ≤ b) (hL : L.size = ml) (hf : 1 ≤ rm.frames) (hW : (S.map fun v => v.category).sum = W) (hlo : W + (nativeFrameWords "java/lang/System" "arraycopy" 5 + 11) ≤ rm.locals)
    (hr : ∀ h', Keep h h' [b] → AJ Z h' b m (fun t => if j ≤ t ∧ t < j + k then f (i + (t - j)) else g t) → Go K rm Z n0 bs ml ret own nm Q kc ks h' pc' L S) : Go K rm Z n0 bs ml ret own nm Q kc ks h pc L (.int nn :: .int dp :: .ref b :: .int sp :: .ref a :: S) := by
  subst hp
  obtain ⟨ka, Va, ea⟩ := A.arv
  obtain ⟨kb, Vb, eb⟩ := B.arv
  obtain ⟨s1, s2⟩ := clamp_of hsp
  obtain ⟨d1, d2⟩ := clamp_of hdp
  obtain ⟨n1, n2⟩ := clamp_of hnn
  have hm : m < 2 ^ 31 := by obtain ⟨_, _, _, q, _⟩ := B; exact q
  obtain ⟨p, l, e, s, m_, args, below, meth, c⟩ := K
  intro hx hby hml hown hZ hret hlk hnm T locs X hF hh
  obtain ⟨T', h', L2, X', e', N', Kp, V', st'⟩ := cpA X hx hZ hown w1 w2 w3 w4 hh Va Vb (Or.inl ⟨rfl, rfl⟩) s2 d2 n2 (by rw [s1, n1, ea]; exact h4) (by rw [d1, n1, eb]; exact h5) rfl (by rw [d1, n1, List.length_map, List.length_range]; exact h5) hF ge (g := mkF m_ pc L (.int nn :: .int dp :: .ref b :: .int sp :: .ref a :: S)) rfl (by rw [hml]; exact hL) rfl (hb hby hd) hf (W := W) (by show 2 * 0 + _ ≤ _; omega) hlo
  have F' : AJ Z h' b m (fun t => if j ≤ t ∧ t < j + k then f (i + (t - j)) else g t) := by
    obtain ⟨c', A', -, q1, -, q2, -⟩ := V'
    refine ⟨c', A', by rw [q1, eb], hm, fun t ht => ?_⟩
    rw [q2 t (by rw [q1, eb]; exact ht), d1, n1, s1]
    congr 1
    show _ = Value.long (if j ≤ t ∧ t < j + k then f (i + (t - j)) else g t)
    rw [List.getD_eq_getElem?_getD]
    by_cases c1 : t < j
    · rw [if_neg (by omega), List.append_assoc, List.getElem?_append_left (by rw [List.length_take, List.length_map, List.length_range]; omega), List.getElem?_take_of_lt c1]
      simp [show t < m by omega]
    · by_cases c2 : t < j + k
      · rw [if_pos ⟨by omega, c2⟩, List.getElem?_append_left (by rw [List.length_append, List.length_take, List.length_map, List.length_range, List.length_map, List.length_range]; omega), List.getElem?_append_right (by rw [List.length_take, List.length_map, List.length_range]; omega), List.length_take, List.length_map, List.length_range, show min j m = j by omega]
        simp [List.getD_eq_getElem?_getD, show t - j < k by omega, show i + (t - j) < n by omega]
      · rw [if_neg (by omega), List.getElem?_append_right (by rw [List.length_append, List.length_take, List.length_map, List.length_range, List.length_map, List.length_range]; omega), List.length_append, List.length_take, List.length_map, List.length_range, List.length_map, List.length_range, show min j m = j by omega, List.getElem?_drop, show j + k + (t - (j + k)) = t by omega]
        simp [show t < m by omega]
  obtain ⟨s₂, v, L', st, r⟩ := hr h' Kp F' hx hby hml hown hZ hret hlk hnm T' _ X' N' e'
  exact ⟨s₂, v, L', st' _ st, r⟩
/-- an array of C of n places that hold f 0 .. f (n - 1) -/
def AR (Z : State) (h : Heap) (a : Addr) (C : String) (n : Nat) (f : Nat → Value) : Prop := ∃ cl : Cell, Arr Z h a cl (.object C) ∧ Ovr Z cl.cls C ∧ cl.slots.size = n ∧ n < 2 ^ 31 ∧ ∀ k, k < n → cl.slots[k]? = some (f k) ∧ (f k).isRef = true
def AZ (Z : State) (h : Heap) (a : Addr) (n : Nat) (f : Nat → Int32) : Prop := ∃ cl : Cell, Arr Z h a cl .boolean ∧ cl.slots.size = n ∧ n < 2 ^ 31 ∧ ∀ k, k < n → cl.slots[k]? = some (.int (f k))
theorem AZ.ext {h' : Heap} {a : Addr} {n : Nat} {f : Nat → Int32} (F : AZ Z h a n f) (E : Ext h h') : AZ Z h' a n f := by obtain ⟨c, A, r⟩ := F; exact ⟨c, A.ext E, r⟩
theorem AZ.other {h' : Heap} {a b : Addr} {sl n : Nat} {v : Value} {f : Nat → Int32} (F : AZ Z h b n f) (W : Wr h h' a sl v) (q : b ≠ a) : AZ Z h' b n f := by obtain ⟨c, A, r⟩ := F; exact ⟨c, A.other W q, r⟩
theorem AZ.keep {h' : Heap} {a : Addr} {n : Nat} {ws : List Addr} {f : Nat → Int32} (F : AZ Z h a n f) (K : Keep h h' ws) (q : a ∉ ws) : AZ Z h' a n f := by obtain ⟨c, A, r⟩ := F; exact ⟨c, ⟨K.2.1 a c A.1 q, A.2⟩, r⟩
theorem AZ.lt {a : Addr} {n : Nat} {f : Nat → Int32} (F : AZ Z h a n f) : a < h.size := by obtain ⟨c, A, -⟩ := F; exact A.lt
theorem AR.ext {h' : Heap} {a : Addr} {C : String} {n : Nat} {f : Nat → Value} (F : AR Z h a C n f) (E : Ext h h') : AR Z h' a C n f := by obtain ⟨c, A, r⟩ := F; exact ⟨c, A.ext E, r⟩
theorem AR.other {h' : Heap} {a b : Addr} {C : String} {sl n : Nat} {v : Value} {f : Nat → Value} (F : AR Z h b C n f) (W : Wr h h' a sl v) (q : b ≠ a) : AR Z h' b C n f := by obtain ⟨c, A, r⟩ := F; exact ⟨c, A.other W q, r⟩
theorem AR.keep {h' : Heap} {a : Addr} {C : String} {n : Nat} {ws : List Addr} {f : Nat → Value} (F : AR Z h a C n f) (K : Keep h h' ws) (q : a ∉ ws) : AR Z h' a C n f := by obtain ⟨c, A, r⟩ := F; exact ⟨c, ⟨K.2.1 a c A.1 q, A.2⟩, r⟩
theorem AR.lt {a : Addr} {C : String} {n : Nat} {f : Nat → Value} (F : AR Z h a C n f) : a < h.size := by obtain ⟨c, A, -⟩ := F; exact A.lt
theorem AR.set {h' : Heap} {a : Addr} {C : String} {n i : Nat} {x : Value} {f : Nat → Value} (F : AR Z h a C n f) (W : Wr h h' a i x) (hx : x.isRef = true) : AR Z h' a C n (ownSet f i x) := by
  obtain ⟨c, A, O, r1, r2, r3⟩ := F
  refine ⟨_, A.same W, O, by rw [sz_set]; exact r1, r2, fun k hk => ?_⟩
  by_cases e : k = i
  · subst e; simp [Cell.setSlot, ownSet, r1, hk, hx]
  · rw [show (c.setSlot i x).slots[k]? = c.slots[k]? from Array.getElem?_setIfInBounds_ne (Ne.symm e)]
    have := r3 k hk
    simp only [ownSet, if_neg e]; exact this
theorem newR {j : Int32} {n cap idx : Nat} {C : String} (hd : decode bs pc = .ok (.anewarray idx, 3)) (hp : pc + 3 = pc') (w1 : (Jvm.Cond.classLink own idx C).before a0 Z = true) (w2 : (Jvm.Cond.arrayOver (.object C)).before a0 Z = true) (hj : j.toInt = (n : Int)) (hcap : n ≤ cap) (hb8 : cap * 8 ≤ 536870912) (hc : kc + 1 ≤ rm.cells) (hs : ks + cap ≤ rm.slots)
    (hr : ∀ a h', a = h.size → Ext h h' → AR Z h' a C n (fun _ => .null) → Go K rm Z n0 bs ml ret own nm Q (kc + 1) (ks + cap) h' pc' L (.ref a :: S)) : Go K rm Z n0 bs ml ret own nm Q kc ks h pc L (.int j :: S) := by
  subst hp
  obtain ⟨p, l, e, s, m, args, below, meth, c⟩ := K
  intro hx hby hml hown hZ hret hlk hnm T locs X hF hh
  obtain ⟨e, hn⟩ := clamp_of hj
  obtain ⟨T', h', cA, X', e', E', A', O', st'⟩ := Jvm.RoadKit.newR X hx hZ hown w1 w2 hh (g := mkF m pc L (.int j :: S)) rfl (hb hby hd) rfl hn (cap := cap) (by rw [e]; exact hcap) hb8 hc hs
  have hj2 := Int32.toInt_lt j
  have F : AR Z h' h.size C n (fun _ => .null) := ⟨_, A', O', by rw [sz_new]; exact e, by omega, fun k hk => by
    have q : (newA cA (.object C) j).slots[k]? = some (defaultValue (.object C)) := by simp only [newA, e, Array.getElem?_replicate, if_pos hk]
    exact ⟨q, rfl⟩⟩
  obtain ⟨s₂, v, L', st, r⟩ := hr _ h' rfl E' F hx hby hml hown hZ hret hlk hnm T' _ X' hF e'
  exact ⟨s₂, v, L', st' _ st, r⟩
theorem newZ {j : Int32} {n cap : Nat} (hd : decode bs pc = .ok (.newarray .boolean, 2)) (hp : pc + 2 = pc') (w : (Jvm.Cond.arrayClass .boolean).before a0 Z = true) (hj : j.toInt = (n : Int)) (hcap : n ≤ cap) (hb8 : cap * 8 ≤ 536870912) (hc : kc + 1 ≤ rm.cells) (hs : ks + cap ≤ rm.slots)
    (hr : ∀ a h', a = h.size → Ext h h' → AZ Z h' a n (fun _ => 0) → Go K rm Z n0 bs ml ret own nm Q (kc + 1) (ks + cap) h' pc' L (.ref a :: S)) : Go K rm Z n0 bs ml ret own nm Q kc ks h pc L (.int j :: S) := by
  subst hp
  obtain ⟨p, l, e, s, m, args, below, meth, c⟩ := K
  intro hx hby hml hown hZ hret hlk hnm T locs X hF hh
  obtain ⟨e, hn⟩ := clamp_of hj
  obtain ⟨T', h', cA, X', e', E', A', st'⟩ := newP (aty := .boolean) X hx hZ w hh (g := mkF m pc L (.int j :: S)) rfl (hb hby hd) rfl hn (cap := cap) (by rw [e]; exact hcap) hb8 hc hs
  have hj2 := Int32.toInt_lt j
  have F : AZ Z h' h.size n (fun _ => 0) := ⟨_, A', by rw [sz_new]; exact e, by omega, fun k hk => by
    have q : (newA cA .boolean j).slots[k]? = some (defaultValue .boolean) := by simp only [newA, e, Array.getElem?_replicate, if_pos hk]
    exact q⟩
  obtain ⟨s₂, v, L', st, r⟩ := hr _ h' rfl E' F hx hby hml hown hZ hret hlk hnm T' _ X' hF e'
  exact ⟨s₂, v, L', st' _ st, r⟩
theorem aaload {a : Addr} {C : String} {j : Int32} {i n : Nat} {f : Nat → Value} (hd : decode bs pc = .ok (.aaload, 1)) (hp : pc + 1 = pc') (A : AR Z h a C n f) (hj : j.toInt = (i : Int)) (hi : i < n) (hr : Go K rm Z n0 bs ml ret own nm Q kc ks h pc' L (f i :: S)) : Go K rm Z n0 bs ml ret own nm Q kc ks h pc L (.int j :: .ref a :: S) := by
  subst hp
  obtain ⟨p, l, e, s, m, args, below, meth, c⟩ := K
  intro hx hby hml hown hZ hret hlk hnm T locs X hF hh
  obtain ⟨cl, A1, O1, r1, r2, r3⟩ := A
  obtain ⟨g1, g2⟩ := inb hj hi
  obtain ⟨s₂, v, L', st, r⟩ := hr hx hby hml hown hZ hret hlk hnm T locs X hF hh
  exact ⟨s₂, v, L', X.aaload hx (j := j) (v := f i) (by rw [hh]; exact A1.1) (State.isArrayOf_alike hZ.alike A1.2.1) rfl A1.2.2 (by rw [r1]; exact g1) (by rw [g2]; exact (r3 i hi).1) (g := mkF m pc L (.int j :: .ref a :: S)) rfl rfl (hb hby hd) _ st, r⟩
theorem aastore {a y : Addr} {C : String} {j : Int32} {i n : Nat} {f : Nat → Value} (hd : decode bs pc = .ok (.aastore, 1)) (hp : pc + 1 = pc') (A : AR Z h a C n f) (I : Ins Z h y C true) (hg : n0 ≤ a) (hj : j.toInt = (i : Int)) (hi : i < n) (hr : ∀ h', Wr h h' a i (.ref y) → AR Z h' a C n (ownSet f i (.ref y)) → Go K rm Z n0 bs ml ret own nm Q kc ks h' pc' L S) : Go K rm Z n0 bs ml ret own nm Q kc ks h pc L (.ref y :: .int j :: .ref a :: S) := by
  subst hp
  have A0 := A
  obtain ⟨p, l, e, s, m, args, below, meth, c⟩ := K
  intro hx hby hml hown hZ hret hlk hnm T locs X hF hh
  obtain ⟨cl, A1, O1, r1, r2, r3⟩ := A
  obtain ⟨g1, g2⟩ := inb hj hi
  obtain ⟨T', h', X', e', W', st'⟩ := stR X hx hZ hh A1 (j := j) (by rw [r1]; exact g1) rfl (Sto.of A1 O1 I) (g := mkF m pc L (.ref y :: .int j :: .ref a :: S)) rfl rfl (hb hby hd)
  have W2 : Wr h h' a i (.ref y) := by rw [g2] at W'; exact W'
  obtain ⟨s₂, v, L', st, r⟩ := hr h' W2 (A0.set W2 rfl) hx hby hml hown hZ hret hlk hnm T' _ X' (Fr.snoc X' hF hg) e'
  exact ⟨s₂, v, L', st' _ st, r⟩
theorem lenR {a : Addr} {C : String} {n : Nat} {f : Nat → Value} (hd : decode bs pc = .ok (.arraylength, 1)) (hp : pc + 1 = pc') (A : AR Z h a C n f) (hr : ∀ z : Int32, z.toInt = (n : Int) → Go K rm Z n0 bs ml ret own nm Q kc ks h pc' L (.int z :: S)) : Go K rm Z n0 bs ml ret own nm Q kc ks h pc L (.ref a :: S) := by
  subst hp
  obtain ⟨p, l, e, s, m, args, below, meth, c⟩ := K
  intro hx hby hml hown hZ hret hlk hnm T locs X hF hh
  obtain ⟨cl, A1, O1, r1, r2, r3⟩ := A
  obtain ⟨s₂, v, L', st, r⟩ := hr cl.slots.size.toInt32 (by rw [r1]; exact len_toInt r2) hx hby hml hown hZ hret hlk hnm T locs X hF hh
  exact ⟨s₂, v, L', X.arraylength hx (by rw [hh]; exact A1.1) (State.isArrayOf_alike hZ.alike A1.2.1) (g := mkF m pc L (.ref a :: S)) rfl rfl (hb hby hd) _ st, r⟩
theorem lenRE {a : Addr} {C : String} {n : Nat} {z : Int32} {f : Nat → Value} (hd : decode bs pc = .ok (.arraylength, 1)) (hp : pc + 1 = pc') (A : AR Z h a C n f) (hz : z.toInt = (n : Int)) (hr : Go K rm Z n0 bs ml ret own nm Q kc ks h pc' L (.int z :: S)) : Go K rm Z n0 bs ml ret own nm Q kc ks h pc L (.ref a :: S) :=
  lenR hd hp A fun z' e => by obtain rfl : z' = z := Int32.toInt_inj.mp (e.trans hz.symm); exact hr
theorem putfieldN {R0 O n d C : String} {idx kk : Nat} {ty : FieldType} {a : Addr} {v v' old : Value} (hd : decode bs pc = .ok (.putfield idx, 3)) (hp : pc + 3 = pc') (w : (Jvm.Cond.fieldLink own idx R0 n d).before a0 Z = true) (via : Via Z R0 O n d)
    (F : Fld Z h a O n d old) (E : Exa Z h a C) (Lw : (Jvm.Cond.lays C O n d).before a0 Z = true ∨ ((Jvm.Cond.laysFinal C O n d).before a0 Z = true ∧ own = O ∧ nm = "<init>")) (wi : (Jvm.Cond.instantiable C kk).before a0 Z = true)
    (hty : parseFieldDescriptor d = some ty) (hn : narrow ty v = v') (hf : fits ty v' = true) (hg : n0 ≤ a) (hr : ∀ h', Wr h h' a (Jvm.RoadKit.slotOf Z O n d) v' → Go K rm Z n0 bs ml ret own nm Q kc ks h' pc' L S) : Go K rm Z n0 bs ml ret own nm Q kc ks h pc L (v :: .ref a :: S) := by
  subst hp
  obtain ⟨p, l, e, s, m, args, below, meth, c⟩ := K
  intro hx hby hml hown hZ hret hlk hnm T locs X hF hh
  obtain ⟨T', h', X', e', W', st'⟩ := putFN X hx hZ hown w via hh F E (Lw.imp id fun q => ⟨q.1, q.2.1, hnm.trans q.2.2⟩) wi hty hn hf (g := mkF m pc L (v :: .ref a :: S)) rfl rfl (hb hby hd)
  obtain ⟨s₂, v, L', st, r⟩ := hr h' W' hx hby hml hown hZ hret hlk hnm T' _ X' (Fr.snoc X' hF hg) e'
  exact ⟨s₂, v, L', st' _ st, r⟩
theorem AR.arv {a : Addr} {C : String} {n : Nat} {f : Nat → Value} (F : AR Z h a C n f) : ∃ k, Arv Z h a k (.object C) (Int32.ofInt n) ((List.range n).map f) .null ∧ (Int32.ofInt (n : Int)).toNatClampNeg = n := by
  obtain ⟨c, A, -, r1, r2, r3⟩ := F
  have e : (Int32.ofInt (n : Int)).toInt = (n : Int) := by rw [Int32.toInt_ofInt]; exact LawKit.bmod32 (by omega) (by omega)
  obtain ⟨e1, e2⟩ := clamp_of e
  refine ⟨c.cls, ⟨c, A, rfl, by rw [r1, e1], e2, fun k hk => ?_, fun k hk => ?_⟩, e1⟩
  · rw [r1] at hk; rw [(r3 k hk).1]; simp [List.getD_eq_getElem?_getD, hk]
  · rw [r1] at hk; have := (r3 k hk).2; simp [List.getD_eq_getElem?_getD, hk]; rcases ref_cases this with q | ⟨x, q⟩ <;> rw [q] <;> rfl
theorem arraycopyR0 {idx W : Nat} {a b : Addr} {C : String} {sp dp nn : Int32} {n m i j : Nat} {f g : Nat → Value} (hd : decode bs pc = .ok (.invokestatic idx, 3)) (hp : pc + 3 = pc') (w1 : (Jvm.Cond.methodLink own idx Jvm.Stand.acN).before a0 Z = true) (w2 : (Jvm.Cond.native Jvm.Stand.acN).before a0 Z = true) (w3 : (Jvm.Cond.static Jvm.Stand.acN).before a0 Z = true) (w4 : (Jvm.Cond.initialized "java/lang/System").before a0 Z = true)
    (A : AR Z h a C n f) (B : AR Z h b C m g) (hsp : sp.toInt = (i : Int)) (hdp : dp.toInt = (j : Int)) (hnn : nn.toInt = 0) (h4 : i ≤ n) (h5 : j ≤ m) (ge : n0 ≤ b) (hL : L.size = ml) (hf : 1 ≤ rm.frames) (hW : (S.map fun v => v.category).sum = W) (hlo : W + (nativeFrameWords "java/lang/System" "arraycopy" 5 + 11) ≤ rm.locals)
    (hr : ∀ h', Keep h h' [b] → AR Z h' b C m g → Go K rm Z n0 bs ml ret own nm Q kc ks h' pc' L S) : Go K rm Z n0 bs ml ret own nm Q kc ks h pc L (.int nn :: .int dp :: .ref b :: .int sp :: .ref a :: S) := by
  subst hp
  obtain ⟨ka, Va, ea⟩ := A.arv
  obtain ⟨kb, Vb, eb⟩ := B.arv
  obtain ⟨s1, s2⟩ := clamp_of hsp
  obtain ⟨d1, d2⟩ := clamp_of hdp
  obtain ⟨n1, n2⟩ := clamp_of (i := 0) hnn
  obtain ⟨cB, AB1, OB, rB1, hm, rB3⟩ := B
  obtain ⟨p, l, e, s, m_, args, below, meth, c⟩ := K
  intro hx hby hml hown hZ hret hlk hnm T locs X hF hh
  obtain ⟨T', h', L2, X', e', N', Kp, V', st'⟩ := cpA X hx hZ hown w1 w2 w3 w4 hh Va Vb (us := []) (Or.inr ⟨rfl, rfl, trivial⟩) s2 d2 n2 (by rw [s1, n1, ea]; exact h4) (by rw [d1, n1, eb]; exact h5) (by rw [n1]; rfl) (by rw [d1, n1, List.length_map, List.length_range]; exact h5) hF ge (g := mkF m_ pc L (.int nn :: .int dp :: .ref b :: .int sp :: .ref a :: S)) rfl (by rw [hml]; exact hL) rfl (hb hby hd) hf (W := W) (by show 2 * 0 + _ ≤ _; omega) hlo
  have F' : AR Z h' b C m g := by
    obtain ⟨c', A', q0, q1, -, q2, -⟩ := V'
    refine ⟨c', A', ?_, by rw [q1, eb], hm, fun t ht => ?_⟩
    · obtain ⟨c2, p1, p2, -⟩ := Kp.2.2 b cB AB1.1
      have : c' = c2 := Option.some.inj (A'.1.symm.trans p1)
      rw [this, p2]; exact OB
    · refine ⟨?_, (rB3 t ht).2⟩
      rw [q2 t (by rw [q1, eb]; exact ht), d1, n1]
      simp [List.getD_eq_getElem?_getD, ht]
  obtain ⟨s₂, v, L', st, r⟩ := hr h' Kp F' hx hby hml hown hZ hret hlk hnm T' _ X' N' e'
  exact ⟨s₂, v, L', st' _ st, r⟩
end Laws
end Jvm.Own
@@BLOCK:NumsL.lean.txt@@
namespace Jvm.Own
theorem i64_nat (x : Int64) (h : 0 ≤ x.toInt) : (x.toBitVec.toNat : Int) = x.toInt := by
  have hl := x.toBitVec.isLt
  have e : x.toInt = x.toBitVec.toInt := rfl
  rw [e] at h ⊢
  rw [BitVec.toInt_eq_toNat_cond] at h ⊢
  split at h <;> rename_i hc
  · rw [if_pos hc]
  · omega
theorem i64_ofnat (x : Int64) (h : x.toBitVec.toNat < 2 ^ 63) : x.toInt = (x.toBitVec.toNat : Int) := by
  show x.toBitVec.toInt = _
  rw [BitVec.toInt_eq_toNat_cond, if_pos (by omega)]
theorem i64_or (x y : Int64) (k q : Nat) (hx : x.toInt = (q : Int) * 2 ^ k) (hy0 : 0 ≤ y.toInt) (hy : y.toInt < 2 ^ k) (hb : (q : Int) * 2 ^ k + 2 ^ k ≤ 2 ^ 63) : (x ||| y).toInt = x.toInt + y.toInt := by
  have c : ((q * 2 ^ k : Nat) : Int) = (q : Int) * 2 ^ k := by simp
  have c2 : ((2 ^ k : Nat) : Int) = 2 ^ k := by simp
  have x0 : 0 ≤ x.toInt := by omega
  have hx' := i64_nat x x0
  have hy' := i64_nat y hy0
  have ex : x.toBitVec.toNat = 2 ^ k * q := by rw [Nat.mul_comm]; omega
  have ey : y.toBitVec.toNat < 2 ^ k := by omega
  have e : (x ||| y).toBitVec.toNat = x.toBitVec.toNat + y.toBitVec.toNat := by
    rw [Int64.toBitVec_or, BitVec.toNat_or, ex, ← Nat.two_pow_add_eq_or_of_lt ey]
  rw [i64_ofnat _ (by omega), e]; omega
theorem i64_hi (x m : Int64) (k : Nat) (hk : k < 63) (hm : m.toBitVec.toNat = (2 ^ (64 - k) - 1) * 2 ^ k) (h0 : 0 ≤ x.toInt) : (x &&& m).toInt = x.toInt / 2 ^ k * 2 ^ k := by
  have hx' := i64_nat x h0
  have hl := x.toBitVec.isLt
  have c2 : ((2 ^ k : Nat) : Int) = 2 ^ k := by simp
  have hlt := Int64.toInt_lt x
  have e : (x &&& m).toBitVec.toNat = x.toBitVec.toNat / 2 ^ k * 2 ^ k := by
    rw [Int64.toBitVec_and, BitVec.toNat_and, hm, ← Nat.shiftLeft_eq, ← Nat.shiftLeft_eq, ← Nat.shiftRight_eq_div_pow]
    apply Nat.eq_of_testBit_eq
    intro i
    rw [Nat.testBit_and, Nat.testBit_shiftLeft, Nat.testBit_shiftLeft, Nat.testBit_two_pow_sub_one, Nat.testBit_shiftRight]
    by_cases q : k ≤ i
    · rw [show k + (i - k) = i by omega]
      by_cases q2 : i < 64
      · simp [q, show i - k < 64 - k by omega]
      · rw [Nat.testBit_lt_two_pow (Nat.lt_of_lt_of_le hl (Nat.pow_le_pow_right (by omega) (by omega)))]; simp
    · simp [q]
  have le : x.toBitVec.toNat / 2 ^ k * 2 ^ k ≤ x.toBitVec.toNat := Nat.div_mul_le_self _ _
  rw [i64_ofnat _ (by omega), e, ← hx', ← c2]; simp
theorem i32_nat (x : Int32) (h : 0 ≤ x.toInt) : (x.toBitVec.toNat : Int) = x.toInt := by
  have hl := x.toBitVec.isLt
  have e : x.toInt = x.toBitVec.toInt := rfl
  rw [e] at h ⊢
  rw [BitVec.toInt_eq_toNat_cond] at h ⊢
  split at h <;> rename_i hc
  · rw [if_pos hc]
  · omega
theorem i32_ofnat (x : Int32) (h : x.toBitVec.toNat < 2 ^ 31) : x.toInt = (x.toBitVec.toNat : Int) := by
  show x.toBitVec.toInt = _
  rw [BitVec.toInt_eq_toNat_cond, if_pos (by omega)]
theorem i2c_small (y : Int32) (h0 : 0 ≤ y.toInt) (h1 : y.toInt < 65536) : y.toUInt32.toUInt16.toUInt32.toInt32 = y := by
  apply Int32.toBitVec_inj.mp
  apply BitVec.eq_of_toNat_eq
  have h := i32_nat y h0
  have e : y.toUInt32.toUInt16.toUInt32.toInt32.toBitVec.toNat = y.toUInt32.toUInt16.toUInt32.toNat := rfl
  rw [e, UInt16.toNat_toUInt32, UInt32.toNat_toUInt16]
  show y.toBitVec.toNat % 2 ^ 16 = _
  omega
theorem ushrL_nn (x : Int64) (h0 : 0 ≤ x.toInt) (y : Int32) {k : Nat} (hy : y.toInt = (k : Int)) (hk : k < 64) : (Jvm.Own.ushrL x y).toInt = x.toInt / 2 ^ k := by
  refine Jvm.Kit.i64_lushr (Jvm.Kit.i64_nonneg.mpr h0) ?_ hk
  have e1 := i32_nat y (by omega)
  have e2 : y.toInt64.toBitVec.toNat = k := by
    have := i64_nat y.toInt64 (by rw [Int32.toInt_toInt64]; omega)
    rw [Int32.toInt_toInt64] at this; omega
  have e4 := Jvm.Kit.i32_mask y 63 (k := 6) (by decide) (by decide)
  have e5 := i64_nat (y &&& 63).toInt64 (by rw [Int32.toInt_toInt64]; omega)
  rw [Int32.toInt_toInt64] at e5
  have e6 : (y &&& 63).toInt64.toUInt64.toNat = (y &&& 63).toInt64.toBitVec.toNat := rfl
  omega
theorem ushrL_bv (x : Int64) (y : Int32) (k : Nat) (hy : y.toInt = (k : Int)) (hk : k < 64) : Jvm.Own.ushrL x y = Int64.ofBitVec (x.toBitVec >>> k) := by
  have e4 := Jvm.Kit.i32_mask y 63 (k := 6) (by decide) (by decide)
  have e5 := i64_nat (y &&& 63).toInt64 (by rw [Int32.toInt_toInt64]; omega)
  rw [Int32.toInt_toInt64] at e5
  have e6 : (y &&& 63).toInt64.toUInt64.toBitVec.toNat = k := by
    have : (y &&& 63).toInt64.toUInt64.toBitVec.toNat = (y &&& 63).toInt64.toBitVec.toNat := rfl
    omega
  apply Int64.toBitVec_inj.mp
  apply BitVec.eq_of_toNat_eq
  show (x.toUInt64 >>> (y &&& 63).toInt64.toUInt64).toBitVec.toNat = (x.toBitVec >>> k).toNat
  rw [UInt64.toBitVec_shiftRight, BitVec.ushiftRight_eq', BitVec.toNat_ushiftRight, BitVec.toNat_ushiftRight, BitVec.toNat_umod, e6]
  show x.toBitVec.toNat >>> (k % 64) = _
  rw [Nat.mod_eq_of_lt hk]
end Jvm.Own
namespace Jvm.Pilot.@@N@@
open Jvm Jvm.ClassFile Sem Op Lib Jvm.Free Jvm.Stand Jvm.LawKit Jvm.RoadKit Bundle Jvm.Own Jvm.Pilot.@@N@@.Jvm.D

theorem d_jdk_29_method_66_0 : decode jdk_29_method_66_code 0 = .ok (.lload_n 0, 1) := by decide +kernel
theorem d_jdk_29_method_66_1 : decode jdk_29_method_66_code 1 = .ok (.lload_n 2, 1) := by decide +kernel
theorem d_jdk_29_method_66_2 : decode jdk_29_method_66_code 2 = .ok (.lcmp, 1) := by decide +kernel
theorem d_jdk_29_method_66_3 : decode jdk_29_method_66_code 3 = .ok (.ifCond .lt 7, 3) := by decide +kernel
theorem d_jdk_29_method_66_10 : decode jdk_29_method_66_code 10 = .ok (.lload_n 2, 1) := by decide +kernel
theorem d_jdk_29_method_66_11 : decode jdk_29_method_66_code 11 = .ok (.lreturn, 1) := by decide +kernel
theorem d_jdk_29_method_66_6 : decode jdk_29_method_66_code 6 = .ok (.lload_n 0, 1) := by decide +kernel
theorem d_jdk_29_method_66_7 : decode jdk_29_method_66_code 7 = .ok (.goto 4, 3) := by decide +kernel
theorem d_method_2_0 : decode method_2_code 0 = .ok (.iload_n 1, 1) := by decide +kernel
theorem d_method_2_1 : decode method_2_code 1 = .ok (.iload_n 0, 1) := by decide +kernel
theorem d_method_2_2 : decode method_2_code 2 = .ok (.if_icmp .gt 19, 3) := by decide +kernel
theorem d_method_2_21 : decode method_2_code 21 = .ok (.iconst 0, 1) := by decide +kernel
theorem d_method_2_22 : decode method_2_code 22 = .ok (.ireturn, 1) := by decide +kernel
theorem d_method_2_5 : decode method_2_code 5 = .ok (.iload_n 0, 1) := by decide +kernel
theorem d_method_2_6 : decode method_2_code 6 = .ok (.iload_n 2, 1) := by decide +kernel
theorem d_method_2_7 : decode method_2_code 7 = .ok (.if_icmp .ge 14, 3) := by decide +kernel
theorem d_method_2_10 : decode method_2_code 10 = .ok (.lload_n 3, 1) := by decide +kernel
theorem d_method_2_11 : decode method_2_code 11 = .ok (.lload 5, 2) := by decide +kernel
theorem d_method_2_13 : decode method_2_code 13 = .ok (.lcmp, 1) := by decide +kernel
theorem d_method_2_14 : decode method_2_code 14 = .ok (.ifCond .lt 7, 3) := by decide +kernel
theorem d_method_2_17 : decode method_2_code 17 = .ok (.iconst 1, 1) := by decide +kernel
theorem d_method_2_18 : decode method_2_code 18 = .ok (.goto 4, 3) := by decide +kernel
theorem d_prog_107_method_1_0 : decode prog_107_method_1_code 0 = .ok (.aload_n 0, 1) := by decide +kernel
theorem d_prog_107_method_1_1 : decode prog_107_method_1_code 1 = .ok (.invokespecial 1, 3) := by decide +kernel
theorem d_prog_107_method_1_4 : decode prog_107_method_1_code 4 = .ok (.iconst 1, 1) := by decide +kernel
theorem d_prog_107_method_1_5 : decode prog_107_method_1_code 5 = .ok (.istore_n 2, 1) := by decide +kernel
theorem d_prog_107_method_1_6 : decode prog_107_method_1_code 6 = .ok (.iload_n 2, 1) := by decide +kernel
theorem d_prog_107_method_1_7 : decode prog_107_method_1_code 7 = .ok (.aload_n 1, 1) := by decide +kernel
theorem d_prog_107_method_1_8 : decode prog_107_method_1_code 8 = .ok (.arraylength, 1) := by decide +kernel
theorem d_prog_107_method_1_9 : decode prog_107_method_1_code 9 = .ok (.if_icmp .ge 10, 3) := by decide +kernel
theorem d_prog_107_method_1_19 : decode prog_107_method_1_code 19 = .ok (.aload_n 0, 1) := by decide +kernel
theorem d_prog_107_method_1_20 : decode prog_107_method_1_code 20 = .ok (.iload_n 2, 1) := by decide +kernel
theorem d_prog_107_method_1_21 : decode prog_107_method_1_code 21 = .ok (.putfield 7, 3) := by decide +kernel
theorem d_prog_107_method_1_24 : decode prog_107_method_1_code 24 = .ok (.aload_n 0, 1) := by decide +kernel
theorem d_prog_107_method_1_25 : decode prog_107_method_1_code 25 = .ok (.aload_n 1, 1) := by decide +kernel
theorem d_prog_107_method_1_26 : decode prog_107_method_1_code 26 = .ok (.arraylength, 1) := by decide +kernel
theorem d_prog_107_method_1_27 : decode prog_107_method_1_code 27 = .ok (.putfield 13, 3) := by decide +kernel
theorem d_prog_107_method_1_30 : decode prog_107_method_1_code 30 = .ok (.aload_n 0, 1) := by decide +kernel
theorem d_prog_107_method_1_31 : decode prog_107_method_1_code 31 = .ok (.iconst 2, 1) := by decide +kernel
theorem d_prog_107_method_1_32 : decode prog_107_method_1_code 32 = .ok (.aload_n 0, 1) := by decide +kernel
theorem d_prog_107_method_1_33 : decode prog_107_method_1_code 33 = .ok (.getfield 7, 3) := by decide +kernel
theorem d_prog_107_method_1_36 : decode prog_107_method_1_code 36 = .ok (.imul, 1) := by decide +kernel
theorem d_prog_107_method_1_37 : decode prog_107_method_1_code 37 = .ok (.newarray .long, 2) := by decide +kernel
theorem d_prog_107_method_1_39 : decode prog_107_method_1_code 39 = .ok (.putfield 16, 3) := by decide +kernel
theorem d_prog_107_method_1_42 : decode prog_107_method_1_code 42 = .ok (.aload_n 1, 1) := by decide +kernel
theorem d_prog_107_method_1_43 : decode prog_107_method_1_code 43 = .ok (.iconst 0, 1) := by decide +kernel
theorem d_prog_107_method_1_44 : decode prog_107_method_1_code 44 = .ok (.aload_n 0, 1) := by decide +kernel
theorem d_prog_107_method_1_45 : decode prog_107_method_1_code 45 = .ok (.getfield 16, 3) := by decide +kernel
theorem d_prog_107_method_1_48 : decode prog_107_method_1_code 48 = .ok (.aload_n 0, 1) := by decide +kernel
theorem d_prog_107_method_1_49 : decode prog_107_method_1_code 49 = .ok (.getfield 7, 3) := by decide +kernel
theorem d_prog_107_method_1_52 : decode prog_107_method_1_code 52 = .ok (.aload_n 0, 1) := by decide +kernel
theorem d_prog_107_method_1_53 : decode prog_107_method_1_code 53 = .ok (.getfield 13, 3) := by decide +kernel
theorem d_prog_107_method_1_56 : decode prog_107_method_1_code 56 = .ok (.invokestatic 20, 3) := by decide +kernel
theorem d_prog_107_method_1_59 : decode prog_107_method_1_code 59 = .ok (.aload_n 0, 1) := by decide +kernel
theorem d_prog_107_method_1_60 : decode prog_107_method_1_code 60 = .ok (.getfield 7, 3) := by decide +kernel
theorem d_prog_107_method_1_63 : decode prog_107_method_1_code 63 = .ok (.iconst 1, 1) := by decide +kernel
theorem d_prog_107_method_1_64 : decode prog_107_method_1_code 64 = .ok (.isub, 1) := by decide +kernel
theorem d_prog_107_method_1_65 : decode prog_107_method_1_code 65 = .ok (.istore_n 3, 1) := by decide +kernel
theorem d_prog_107_method_1_66 : decode prog_107_method_1_code 66 = .ok (.iload_n 3, 1) := by decide +kernel
theorem d_prog_107_method_1_67 : decode prog_107_method_1_code 67 = .ok (.ifCond .le 36, 3) := by decide +kernel
theorem d_prog_107_method_1_103 : decode prog_107_method_1_code 103 = .ok (.return_, 1) := by decide +kernel
theorem d_prog_107_method_1_12 : decode prog_107_method_1_code 12 = .ok (.iload_n 2, 1) := by decide +kernel
theorem d_prog_107_method_1_13 : decode prog_107_method_1_code 13 = .ok (.iconst 2, 1) := by decide +kernel
theorem d_prog_107_method_1_14 : decode prog_107_method_1_code 14 = .ok (.imul, 1) := by decide +kernel
theorem d_prog_107_method_1_15 : decode prog_107_method_1_code 15 = .ok (.istore_n 2, 1) := by decide +kernel
theorem d_prog_107_method_1_16 : decode prog_107_method_1_code 16 = .ok (.goto (-10), 3) := by decide +kernel
theorem d_prog_107_method_1_70 : decode prog_107_method_1_code 70 = .ok (.aload_n 0, 1) := by decide +kernel
theorem d_prog_107_method_1_71 : decode prog_107_method_1_code 71 = .ok (.getfield 16, 3) := by decide +kernel
theorem d_prog_107_method_1_74 : decode prog_107_method_1_code 74 = .ok (.iload_n 3, 1) := by decide +kernel
theorem d_prog_107_method_1_75 : decode prog_107_method_1_code 75 = .ok (.aload_n 0, 1) := by decide +kernel
theorem d_prog_107_method_1_76 : decode prog_107_method_1_code 76 = .ok (.getfield 16, 3) := by decide +kernel
theorem d_prog_107_method_1_79 : decode prog_107_method_1_code 79 = .ok (.iconst 2, 1) := by decide +kernel
theorem d_prog_107_method_1_80 : decode prog_107_method_1_code 80 = .ok (.iload_n 3, 1) := by decide +kernel
theorem d_prog_107_method_1_81 : decode prog_107_method_1_code 81 = .ok (.imul, 1) := by decide +kernel
theorem d_prog_107_method_1_82 : decode prog_107_method_1_code 82 = .ok (.laload, 1) := by decide +kernel
theorem d_prog_107_method_1_83 : decode prog_107_method_1_code 83 = .ok (.aload_n 0, 1) := by decide +kernel
theorem d_prog_107_method_1_84 : decode prog_107_method_1_code 84 = .ok (.getfield 16, 3) := by decide +kernel
theorem d_prog_107_method_1_87 : decode prog_107_method_1_code 87 = .ok (.iconst 2, 1) := by decide +kernel
theorem d_prog_107_method_1_88 : decode prog_107_method_1_code 88 = .ok (.iload_n 3, 1) := by decide +kernel
theorem d_prog_107_method_1_89 : decode prog_107_method_1_code 89 = .ok (.imul, 1) := by decide +kernel
theorem d_prog_107_method_1_90 : decode prog_107_method_1_code 90 = .ok (.iconst 1, 1) := by decide +kernel
theorem d_prog_107_method_1_91 : decode prog_107_method_1_code 91 = .ok (.iadd, 1) := by decide +kernel
theorem d_prog_107_method_1_92 : decode prog_107_method_1_code 92 = .ok (.laload, 1) := by decide +kernel
theorem d_prog_107_method_1_93 : decode prog_107_method_1_code 93 = .ok (.invokestatic 26, 3) := by decide +kernel
theorem d_prog_107_method_1_96 : decode prog_107_method_1_code 96 = .ok (.lastore, 1) := by decide +kernel
theorem d_prog_107_method_1_97 : decode prog_107_method_1_code 97 = .ok (.iinc 3 (-1), 3) := by decide +kernel
theorem d_prog_107_method_1_100 : decode prog_107_method_1_code 100 = .ok (.goto (-34), 3) := by decide +kernel
theorem d_prog_107_method_2_0 : decode prog_107_method_2_code 0 = .ok (.iload_n 1, 1) := by decide +kernel
theorem d_prog_107_method_2_1 : decode prog_107_method_2_code 1 = .ok (.aload_n 0, 1) := by decide +kernel
theorem d_prog_107_method_2_2 : decode prog_107_method_2_code 2 = .ok (.getfield 13, 3) := by decide +kernel
theorem d_prog_107_method_2_5 : decode prog_107_method_2_code 5 = .ok (.if_icmp .lt 8, 3) := by decide +kernel
theorem d_prog_107_method_2_8 : decode prog_107_method_2_code 8 = .ok (.aload_n 0, 1) := by decide +kernel
theorem d_prog_107_method_2_9 : decode prog_107_method_2_code 9 = .ok (.getfield 13, 3) := by decide +kernel
theorem d_prog_107_method_2_12 : decode prog_107_method_2_code 12 = .ok (.ireturn, 1) := by decide +kernel
theorem d_prog_107_method_2_13 : decode prog_107_method_2_code 13 = .ok (.aload_n 0, 1) := by decide +kernel
theorem d_prog_107_method_2_14 : decode prog_107_method_2_code 14 = .ok (.getfield 7, 3) := by decide +kernel
theorem d_prog_107_method_2_17 : decode prog_107_method_2_code 17 = .ok (.iload_n 1, 1) := by decide +kernel
theorem d_prog_107_method_2_18 : decode prog_107_method_2_code 18 = .ok (.iadd, 1) := by decide +kernel
theorem d_prog_107_method_2_19 : decode prog_107_method_2_code 19 = .ok (.istore 4, 2) := by decide +kernel
theorem d_prog_107_method_2_21 : decode prog_107_method_2_code 21 = .ok (.iload 4, 2) := by decide +kernel
theorem d_prog_107_method_2_23 : decode prog_107_method_2_code 23 = .ok (.ifCond .le 43, 3) := by decide +kernel
theorem d_prog_107_method_2_26 : decode prog_107_method_2_code 26 = .ok (.aload_n 0, 1) := by decide +kernel
theorem d_prog_107_method_2_27 : decode prog_107_method_2_code 27 = .ok (.getfield 16, 3) := by decide +kernel
theorem d_prog_107_method_2_30 : decode prog_107_method_2_code 30 = .ok (.iload 4, 2) := by decide +kernel
theorem d_prog_107_method_2_32 : decode prog_107_method_2_code 32 = .ok (.laload, 1) := by decide +kernel
theorem d_prog_107_method_2_33 : decode prog_107_method_2_code 33 = .ok (.lload_n 2, 1) := by decide +kernel
theorem d_prog_107_method_2_34 : decode prog_107_method_2_code 34 = .ok (.lcmp, 1) := by decide +kernel
theorem d_prog_107_method_2_35 : decode prog_107_method_2_code 35 = .ok (.ifCond .ge 31, 3) := by decide +kernel
theorem d_prog_107_method_2_66 : decode prog_107_method_2_code 66 = .ok (.aload_n 0, 1) := by decide +kernel
theorem d_prog_107_method_2_67 : decode prog_107_method_2_code 67 = .ok (.getfield 13, 3) := by decide +kernel
theorem d_prog_107_method_2_70 : decode prog_107_method_2_code 70 = .ok (.istore 5, 2) := by decide +kernel
theorem d_prog_107_method_2_72 : decode prog_107_method_2_code 72 = .ok (.iload 4, 2) := by decide +kernel
theorem d_prog_107_method_2_74 : decode prog_107_method_2_code 74 = .ok (.ifCond .le 53, 3) := by decide +kernel
theorem d_prog_107_method_2_77 : decode prog_107_method_2_code 77 = .ok (.iload 4, 2) := by decide +kernel
theorem d_prog_107_method_2_79 : decode prog_107_method_2_code 79 = .ok (.aload_n 0, 1) := by decide +kernel
theorem d_prog_107_method_2_80 : decode prog_107_method_2_code 80 = .ok (.getfield 7, 3) := by decide +kernel
theorem d_prog_107_method_2_83 : decode prog_107_method_2_code 83 = .ok (.if_icmp .ge 35, 3) := by decide +kernel
theorem d_prog_107_method_2_118 : decode prog_107_method_2_code 118 = .ok (.iload 4, 2) := by decide +kernel
theorem d_prog_107_method_2_120 : decode prog_107_method_2_code 120 = .ok (.aload_n 0, 1) := by decide +kernel
theorem d_prog_107_method_2_121 : decode prog_107_method_2_code 121 = .ok (.getfield 7, 3) := by decide +kernel
theorem d_prog_107_method_2_124 : decode prog_107_method_2_code 124 = .ok (.isub, 1) := by decide +kernel
theorem d_prog_107_method_2_125 : decode prog_107_method_2_code 125 = .ok (.istore 5, 2) := by decide +kernel
theorem d_prog_107_method_2_127 : decode prog_107_method_2_code 127 = .ok (.iload 5, 2) := by decide +kernel
theorem d_prog_107_method_2_129 : decode prog_107_method_2_code 129 = .ok (.ireturn, 1) := by decide +kernel
theorem d_prog_107_method_2_38 : decode prog_107_method_2_code 38 = .ok (.iload 4, 2) := by decide +kernel
theorem d_prog_107_method_2_40 : decode prog_107_method_2_code 40 = .ok (.iconst 2, 1) := by decide +kernel
theorem d_prog_107_method_2_41 : decode prog_107_method_2_code 41 = .ok (.irem, 1) := by decide +kernel
theorem d_prog_107_method_2_42 : decode prog_107_method_2_code 42 = .ok (.iconst 1, 1) := by decide +kernel
theorem d_prog_107_method_2_43 : decode prog_107_method_2_code 43 = .ok (.if_icmp .ne 12, 3) := by decide +kernel
theorem d_prog_107_method_2_46 : decode prog_107_method_2_code 46 = .ok (.iload 4, 2) := by decide +kernel
theorem d_prog_107_method_2_48 : decode prog_107_method_2_code 48 = .ok (.iconst 2, 1) := by decide +kernel
theorem d_prog_107_method_2_49 : decode prog_107_method_2_code 49 = .ok (.idiv, 1) := by decide +kernel
theorem d_prog_107_method_2_50 : decode prog_107_method_2_code 50 = .ok (.istore 4, 2) := by decide +kernel
theorem d_prog_107_method_2_52 : decode prog_107_method_2_code 52 = .ok (.goto (-14), 3) := by decide +kernel
theorem d_prog_107_method_2_55 : decode prog_107_method_2_code 55 = .ok (.iload 4, 2) := by decide +kernel
theorem d_prog_107_method_2_57 : decode prog_107_method_2_code 57 = .ok (.ifCond .le (-36), 3) := by decide +kernel
theorem d_prog_107_method_2_60 : decode prog_107_method_2_code 60 = .ok (.iinc 4 1, 3) := by decide +kernel
theorem d_prog_107_method_2_63 : decode prog_107_method_2_code 63 = .ok (.goto (-42), 3) := by decide +kernel
theorem d_prog_107_method_2_86 : decode prog_107_method_2_code 86 = .ok (.aload_n 0, 1) := by decide +kernel
theorem d_prog_107_method_2_87 : decode prog_107_method_2_code 87 = .ok (.getfield 16, 3) := by decide +kernel
theorem d_prog_107_method_2_90 : decode prog_107_method_2_code 90 = .ok (.iconst 2, 1) := by decide +kernel
theorem d_prog_107_method_2_91 : decode prog_107_method_2_code 91 = .ok (.iload 4, 2) := by decide +kernel
theorem d_prog_107_method_2_93 : decode prog_107_method_2_code 93 = .ok (.imul, 1) := by decide +kernel
theorem d_prog_107_method_2_94 : decode prog_107_method_2_code 94 = .ok (.laload, 1) := by decide +kernel
theorem d_prog_107_method_2_95 : decode prog_107_method_2_code 95 = .ok (.lload_n 2, 1) := by decide +kernel
theorem d_prog_107_method_2_96 : decode prog_107_method_2_code 96 = .ok (.lcmp, 1) := by decide +kernel
theorem d_prog_107_method_2_97 : decode prog_107_method_2_code 97 = .ok (.ifCond .lt 10, 3) := by decide +kernel
theorem d_prog_107_method_2_107 : decode prog_107_method_2_code 107 = .ok (.iconst 2, 1) := by decide +kernel
theorem d_prog_107_method_2_108 : decode prog_107_method_2_code 108 = .ok (.iload 4, 2) := by decide +kernel
theorem d_prog_107_method_2_110 : decode prog_107_method_2_code 110 = .ok (.imul, 1) := by decide +kernel
theorem d_prog_107_method_2_111 : decode prog_107_method_2_code 111 = .ok (.iconst 1, 1) := by decide +kernel
theorem d_prog_107_method_2_112 : decode prog_107_method_2_code 112 = .ok (.iadd, 1) := by decide +kernel
theorem d_prog_107_method_2_113 : decode prog_107_method_2_code 113 = .ok (.istore 4, 2) := by decide +kernel
theorem d_prog_107_method_2_115 : decode prog_107_method_2_code 115 = .ok (.goto (-38), 3) := by decide +kernel
theorem d_prog_107_method_2_100 : decode prog_107_method_2_code 100 = .ok (.iconst 2, 1) := by decide +kernel
theorem d_prog_107_method_2_101 : decode prog_107_method_2_code 101 = .ok (.iload 4, 2) := by decide +kernel
theorem d_prog_107_method_2_103 : decode prog_107_method_2_code 103 = .ok (.imul, 1) := by decide +kernel
theorem d_prog_107_method_2_104 : decode prog_107_method_2_code 104 = .ok (.goto 9, 3) := by decide +kernel
theorem pn_0 : plainName "com/example/coldtail/coldtail/segment/MaxTreeFirstAtLeastPinLaw" = true := by first | (simp [plainName, overriddenIn]; done) | decide +kernel
theorem pn_1 : plainName "com/example/coldtail/coldtail/segment/MaxTree" = true := by first | (simp [plainName, overriddenIn]; done) | decide +kernel
theorem pd_0 : parseMethodDescriptor "(JJ)J" = some ⟨[.long, .long], some .long⟩ := by decide +kernel
theorem pd_1 : parseMethodDescriptor "([J)V" = some ⟨[(.array .long)], none⟩ := by decide +kernel
theorem pd_2 : parseMethodDescriptor "(IJ)I" = some ⟨[.int, .long], some .int⟩ := by decide +kernel
theorem pd_3 : parseMethodDescriptor "(IIIJJ)Z" = some ⟨[.int, .int, .int, .long, .long], some .boolean⟩ := by decide +kernel
def own_max (p : Int64) (q : Int64) : Int64 := (if p.toInt < q.toInt then q else p)
set_option maxRecDepth 65536 in
set_option maxHeartbeats 40000000 in
theorem c_own_max (Z : State) (a0 : Array Value) (hw : ∀ d ∈ tables_1, d.before a0 Z = true) (n0 : Nat) (h : Heap) (hZ0 : n0 ≤ h.size) (p : Int64) (q : Int64)    :
    Con Z n0 (⟨"java/lang/Math", "max", "(JJ)J"⟩ : MethodName) jdk_29_method_66_code 4 (some .long) ({ frames := 0, cells := 0, slots := 0, locals := 0 } : Room) [(.long p), (.long q)] h (fun v h' => h = h' ∧ ∃ z, v = some (.long z) ∧ z = (own_max p q)) := by
  refine Own.enter (Jvm.Free.JP.mathPlain rfl (by decide +kernel)) (L0 := #[.val (.long p), .second, .val (.long q), .second]) (fun m => by first | (simp [entryFrame, mkF, argsToLocals, Value.category]; done) | rfl) fun K => ?_
  show Go K _ _ _ _ _ _ "java/lang/Math" "max" _ 0 0 h 0 #[.val (.long p), .second, .val (.long q), .second] []
  refine Own.lloadN (pc' := 1) d_jdk_29_method_66_0 rfl rfl ?_
  refine Own.lloadN (pc' := 2) d_jdk_29_method_66_1 rfl rfl ?_
  refine Own.lcmp_lt (pc1 := 3) (pc' := 10) (pc2 := 6) d_jdk_29_method_66_2 rfl d_jdk_29_method_66_3 (by decide) (by decide) rfl (fun c2_0 => ?_) (fun c2_0 => ?_)
  · refine Own.lloadN (pc' := 11) d_jdk_29_method_66_10 rfl rfl ?_
    have hq : q = (own_max p q) := by unfold own_max; try rw [if_pos c2_0]
    exact Own.lreturn d_jdk_29_method_66_11 rfl (⟨rfl, _, rfl, hq⟩) (by decide) (by decide)
  · refine Own.lloadN (pc' := 7) d_jdk_29_method_66_6 rfl rfl ?_
    refine Own.goto (pc' := 11) d_jdk_29_method_66_7 (by decide) (by decide) ?_
    have hq : p = (own_max p q) := by unfold own_max; try rw [if_neg c2_0]
    exact Own.lreturn d_jdk_29_method_66_11 rfl (⟨rfl, _, rfl, hq⟩) (by decide) (by decide)
def own_hit (i : Int32) (p : Int32) (n : Int32) (u : Int64) (q : Int64) : Int32 := (if i.toInt < p.toInt then (0 : Int32) else (if n.toInt ≤ i.toInt then (0 : Int32) else (if u.toInt < q.toInt then (0 : Int32) else (1 : Int32))))
set_option maxRecDepth 65536 in
set_option maxHeartbeats 40000000 in
theorem c_own_hit (Z : State) (a0 : Array Value) (hw : ∀ d ∈ tables_1, d.before a0 Z = true) (n0 : Nat) (h : Heap) (hZ0 : n0 ≤ h.size) (i : Int32) (p : Int32) (n : Int32) (u : Int64) (q : Int64)    :
    Con Z n0 (⟨"com/example/coldtail/coldtail/segment/MaxTreeFirstAtLeastPinLaw", "hit", "(IIIJJ)Z"⟩ : MethodName) method_2_code 7 (some .boolean) ({ frames := 0, cells := 0, slots := 0, locals := 0 } : Room) [(.int i), (.int p), (.int n), (.long u), (.long q)] h (fun v h' => h = h' ∧ ∃ z, v = some (.int z) ∧ z = (own_hit i p n u q)) := by
  refine Own.enter (plainFor_of_name pn_0) (L0 := #[.val (.int i), .val (.int p), .val (.int n), .val (.long u), .second, .val (.long q), .second]) (fun m => by first | (simp [entryFrame, mkF, argsToLocals, Value.category]; done) | rfl) fun K => ?_
  show Go K _ _ _ _ _ _ "com/example/coldtail/coldtail/segment/MaxTreeFirstAtLeastPinLaw" "hit" _ 0 0 h 0 #[.val (.int i), .val (.int p), .val (.int n), .val (.long u), .second, .val (.long q), .second] []
  refine Own.iloadN (pc' := 1) d_method_2_0 rfl rfl ?_
  refine Own.iloadN (pc' := 2) d_method_2_1 rfl rfl ?_
  refine Own.icmp_gt (pc' := 21) (pc2 := 5) d_method_2_2 (by decide) (by decide) rfl (fun c2_1 => ?_) (fun c2_1 => ?_)
  · refine Own.iconst (pc' := 22) (v := (0 : Int32)) d_method_2_21 (by decide) rfl ?_
    have hq : (0 : Int32) = (own_hit i p n u q) := by unfold own_hit; try rw [if_pos c2_1]
    exact Own.ireturnZ (z' := (0 : Int32)) d_method_2_22 rfl (by decide) (⟨rfl, _, rfl, hq⟩) (by decide) (by decide)
  · refine Own.iloadN (pc' := 6) d_method_2_5 rfl rfl ?_
    refine Own.iloadN (pc' := 7) d_method_2_6 rfl rfl ?_
    refine Own.icmp_ge (pc' := 21) (pc2 := 10) d_method_2_7 (by decide) (by decide) rfl (fun c7_2 => ?_) (fun c7_2 => ?_)
    · refine Own.iconst (pc' := 22) (v := (0 : Int32)) d_method_2_21 (by decide) rfl ?_
      have hq : (0 : Int32) = (own_hit i p n u q) := by unfold own_hit; try rw [if_neg c2_1]; try rw [if_pos c7_2]
      exact Own.ireturnZ (z' := (0 : Int32)) d_method_2_22 rfl (by decide) (⟨rfl, _, rfl, hq⟩) (by decide) (by decide)
    · refine Own.lloadN (pc' := 11) d_method_2_10 rfl rfl ?_
      refine Own.lload (pc' := 13) d_method_2_11 rfl rfl ?_
      refine Own.lcmp_lt (pc1 := 14) (pc' := 21) (pc2 := 17) d_method_2_13 rfl d_method_2_14 (by decide) (by decide) rfl (fun c13_3 => ?_) (fun c13_3 => ?_)
      · refine Own.iconst (pc' := 22) (v := (0 : Int32)) d_method_2_21 (by decide) rfl ?_
        have hq : (0 : Int32) = (own_hit i p n u q) := by unfold own_hit; try rw [if_neg c2_1]; try rw [if_neg c7_2]; try rw [if_pos c13_3]
        exact Own.ireturnZ (z' := (0 : Int32)) d_method_2_22 rfl (by decide) (⟨rfl, _, rfl, hq⟩) (by decide) (by decide)
      · refine Own.iconst (pc' := 18) (v := (1 : Int32)) d_method_2_17 (by decide) rfl ?_
        refine Own.goto (pc' := 22) d_method_2_18 (by decide) (by decide) ?_
        have hq : (1 : Int32) = (own_hit i p n u q) := by unfold own_hit; try rw [if_neg c2_1]; try rw [if_neg c7_2]; try rw [if_neg c13_3]
        exact Own.ireturnZ (z' := (1 : Int32)) d_method_2_22 rfl (by decide) (⟨rfl, _, rfl, hq⟩) (by decide) (by decide)
def own_vals (x0 x1 x2 x3 x4 : Int64) : Nat → Int64 := fun t => if t = 0 then x0 else if t = 1 then x1 else if t = 2 then x2 else if t = 3 then x3 else x4
def own_want (n p : Int32) (q x0 x1 x2 x3 x4 : Int64) : Int32 := (if p.toInt ≤ (0 : Int32).toInt ∧ (0 : Int32).toInt < n.toInt ∧ q.toInt ≤ x0.toInt then (0 : Int32) else (if p.toInt ≤ (1 : Int32).toInt ∧ (1 : Int32).toInt < n.toInt ∧ q.toInt ≤ x1.toInt then (1 : Int32) else (if p.toInt ≤ (2 : Int32).toInt ∧ (2 : Int32).toInt < n.toInt ∧ q.toInt ≤ x2.toInt then (2 : Int32) else (if p.toInt ≤ (3 : Int32).toInt ∧ (3 : Int32).toInt < n.toInt ∧ q.toInt ≤ x3.toInt then (3 : Int32) else (if p.toInt ≤ (4 : Int32).toInt ∧ (4 : Int32).toInt < n.toInt ∧ q.toInt ≤ x4.toInt then (4 : Int32) else n)))))
theorem own_maxI (p q : Int64) : (own_max p q).toInt = max p.toInt q.toInt := by unfold own_max; split <;> omega
def own_nd0 (x0 x1 x2 x3 x4 : Int64) : Nat → Int64 := fun t => if t = 0 then (0 : Int64) else if t = 1 then (0 : Int64) else 0
set_option maxRecDepth 65536 in
set_option maxHeartbeats 40000000 in
theorem c_own_mt0 (Z : State) (a0 : Array Value) (hw : ∀ d ∈ tables_1, d.before a0 Z = true) (n0 : Nat) (h : Heap) (hZ0 : n0 ≤ h.size) (a : Addr) (b : Addr) (x0 x1 x2 x3 x4 : Int64) (E : Exa Z h a "com/example/coldtail/coldtail/segment/MaxTree") (F_leaves : Fld Z h a "com/example/coldtail/coldtail/segment/MaxTree" "leaves" "I" (.int (0 : Int32))) (F_count : Fld Z h a "com/example/coldtail/coldtail/segment/MaxTree" "count" "I" (.int (0 : Int32))) (F_nodes : Fld Z h a "com/example/coldtail/coldtail/segment/MaxTree" "nodes" "[J" .null) (g_a : n0 ≤ a) (hne : b ≠ a) (A : AJ Z h b 0 (own_vals x0 x1 x2 x3 x4)) :
    Con Z n0 (⟨"com/example/coldtail/coldtail/segment/MaxTree", "<init>", "([J)V"⟩ : MethodName) prog_107_method_1_code 4 none ({ frames := 1, cells := 1, slots := 16, locals := 40 } : Room) [(.ref a), (.ref b)] h (fun v h' => v = none ∧ ∃ r, Keep h h' [a] ∧ h.size ≤ r ∧ Exa Z h' a "com/example/coldtail/coldtail/segment/MaxTree" ∧ Fld Z h' a "com/example/coldtail/coldtail/segment/MaxTree" "leaves" "I" (.int (1 : Int32)) ∧ Fld Z h' a "com/example/coldtail/coldtail/segment/MaxTree" "count" "I" (.int (0 : Int32)) ∧ Fld Z h' a "com/example/coldtail/coldtail/segment/MaxTree" "nodes" "[J" (.ref r) ∧ AJ Z h' r 2 (own_nd0 x0 x1 x2 x3 x4)) := by
  refine Own.enter (plainFor_of_name pn_1) (L0 := #[.val (.ref a), .val (.ref b), .unset, .unset]) (fun m => by first | (simp [entryFrame, mkF, argsToLocals, Value.category]; done) | rfl) fun K => ?_
  show Go K _ _ _ _ _ _ "com/example/coldtail/coldtail/segment/MaxTree" "<init>" _ 0 0 h 0 #[.val (.ref a), .val (.ref b), .unset, .unset] []
  refine Own.aloadN (pc' := 1) d_prog_107_method_1_0 rfl rfl rfl ?_
  refine Own.objinit (pc' := 4) d_prog_107_method_1_1 rfl (hw _ (List.mem_of_getElem? (i := 7) rfl)) (hw _ (List.mem_of_getElem? (i := 8) rfl)) (hw _ (List.mem_of_getElem? (i := 9) rfl)) rfl (by decide) (W := 0) rfl (by decide) ?_
  refine Own.iconst (pc' := 5) (v := (1 : Int32)) d_prog_107_method_1_4 (by decide) rfl ?_
  refine Own.istoreN (pc' := 6) (L1 := #[.val (.ref a), .val (.ref b), .val (.int (1 : Int32)), .unset]) d_prog_107_method_1_5 rfl rfl ?_
  refine Own.iloadN (pc' := 7) d_prog_107_method_1_6 rfl rfl ?_
  refine Own.aloadN (pc' := 8) d_prog_107_method_1_7 rfl rfl rfl ?_
  refine Own.lenJ (pc' := 9) d_prog_107_method_1_8 rfl A fun v5 hv5 => ?_
  obtain rfl : v5 = (0 : Int32) := Int32.toInt_inj.mp (hv5.trans (by decide))
  refine Own.icmp_ge (pc' := 19) (pc2 := 12) d_prog_107_method_1_9 (by decide) (by decide) rfl (fun _ => ?_) (fun q => absurd (by decide) q)
  refine Own.aloadN (pc' := 20) d_prog_107_method_1_19 rfl rfl rfl ?_
  refine Own.iloadN (pc' := 21) d_prog_107_method_1_20 rfl rfl ?_
  refine Own.putfield (pc' := 24) d_prog_107_method_1_21 rfl (host := "") (Or.inl (hw _ (List.mem_of_getElem? (i := 10) rfl))) Via.refl F_leaves E (Or.inr ⟨(hw _ (List.mem_of_getElem? (i := 11) rfl)), rfl, rfl⟩) (hw _ (List.mem_of_getElem? (i := 2) rfl)) (ty := .int) (by decide) rfl rfl g_a fun h7 Wh7 => ?_
  have f8 := F_leaves.same Wh7
  have f9 := F_count.other Wh7 (Or.inr (slot_ne (Or.inr (hw _ (List.mem_of_getElem? (i := 13) rfl))) (Or.inr (hw _ (List.mem_of_getElem? (i := 11) rfl))) (by decide) (t := .int) (t' := .int) (by decide) (by decide)))
  have f10 := F_nodes.other Wh7 (Or.inr (slot_ne (Or.inr (hw _ (List.mem_of_getElem? (i := 15) rfl))) (Or.inr (hw _ (List.mem_of_getElem? (i := 11) rfl))) (by decide) (t := (.array .long)) (t' := .int) (by decide) (by decide)))
  have f11 := E.wr Wh7
  have f12 := A.other Wh7 hne
  have Zh7 : n0 ≤ h7.size := by rw [Wh7.size]; exact hZ0
  have Kh7 := (Keep.refl h [a]).wr Wh7 (Or.inl (by simp))
  refine Own.aloadN (pc' := 25) d_prog_107_method_1_24 rfl rfl rfl ?_
  refine Own.aloadN (pc' := 26) d_prog_107_method_1_25 rfl rfl rfl ?_
  refine Own.lenJ (pc' := 27) d_prog_107_method_1_26 rfl f12 fun v13 hv13 => ?_
  obtain rfl : v13 = (0 : Int32) := Int32.toInt_inj.mp (hv13.trans (by decide))
  refine Own.putfield (pc' := 30) d_prog_107_method_1_27 rfl (host := "") (Or.inl (hw _ (List.mem_of_getElem? (i := 12) rfl))) Via.refl f9 f11 (Or.inr ⟨(hw _ (List.mem_of_getElem? (i := 13) rfl)), rfl, rfl⟩) (hw _ (List.mem_of_getElem? (i := 2) rfl)) (ty := .int) (by decide) rfl rfl g_a fun h14 Wh14 => ?_
  have f15 := f8.other Wh14 (Or.inr (slot_ne (Or.inr (hw _ (List.mem_of_getElem? (i := 11) rfl))) (Or.inr (hw _ (List.mem_of_getElem? (i := 13) rfl))) (by decide) (t := .int) (t' := .int) (by decide) (by decide)))
  have f16 := f9.same Wh14
  have f17 := f10.other Wh14 (Or.inr (slot_ne (Or.inr (hw _ (List.mem_of_getElem? (i := 15) rfl))) (Or.inr (hw _ (List.mem_of_getElem? (i := 13) rfl))) (by decide) (t := (.array .long)) (t' := .int) (by decide) (by decide)))
  have f18 := f11.wr Wh14
  have f19 := f12.other Wh14 hne
  have Zh14 : n0 ≤ h14.size := by rw [Wh14.size]; exact Zh7
  have Kh14 := Kh7.wr Wh14 (Or.inl (by simp))
  refine Own.aloadN (pc' := 31) d_prog_107_method_1_30 rfl rfl rfl ?_
  refine Own.iconst (pc' := 32) (v := (2 : Int32)) d_prog_107_method_1_31 (by decide) rfl ?_
  refine Own.aloadN (pc' := 33) d_prog_107_method_1_32 rfl rfl rfl ?_
  refine Own.getfield (pc' := 36) d_prog_107_method_1_33 rfl (host := "") (Or.inl (hw _ (List.mem_of_getElem? (i := 10) rfl))) Via.refl f15 ?_
  refine Own.imulE (pc' := 37) d_prog_107_method_1_36 rfl (z := (2 : Int32)) (by decide) ?_
  refine Own.newJ (pc' := 39) (n := 2) (cap := 2) d_prog_107_method_1_37 rfl (hw _ (List.mem_of_getElem? (i := 0) rfl)) (by decide) (by decide) (by decide) (by decide) (by decide) fun a21 h22 ga21 Eh22 Aa21 => ?_
  have ne_a_a21 : a ≠ a21 := Nat.ne_of_lt (ga21 ▸ (f18).lt)
  have ne_b_a21 : b ≠ a21 := Nat.ne_of_lt (ga21 ▸ (f19).lt)
  have Ga21 : n0 ≤ a21 := by rw [ga21]; exact Zh14
  have hs_a21 := Nat.le_trans Kh14.1 (Nat.le_of_eq ga21.symm)
  have Zh22 : n0 ≤ h22.size := Nat.le_trans Zh14 Eh22.1
  have f23 := f15.ext Eh22
  have f24 := f16.ext Eh22
  have f25 := f17.ext Eh22
  have f26 := f18.ext Eh22
  have f27 := f19.ext Eh22
  have Kh22 := Kh14.ext Eh22
  show Go K _ _ _ _ _ _ _ _ _ 1 2 h22 39 #[.val (.ref a), .val (.ref b), .val (.int (1 : Int32)), .unset] [(.ref a21), (.ref a)]
  refine Own.putfield (pc' := 42) d_prog_107_method_1_39 rfl (host := "") (Or.inl (hw _ (List.mem_of_getElem? (i := 14) rfl))) Via.refl f25 f26 (Or.inr ⟨(hw _ (List.mem_of_getElem? (i := 15) rfl)), rfl, rfl⟩) (hw _ (List.mem_of_getElem? (i := 2) rfl)) (ty := (.array .long)) (by decide) rfl rfl g_a fun h28 Wh28 => ?_
  have f29 := f23.other Wh28 (Or.inr (slot_ne (Or.inr (hw _ (List.mem_of_getElem? (i := 11) rfl))) (Or.inr (hw _ (List.mem_of_getElem? (i := 15) rfl))) (by decide) (t := .int) (t' := (.array .long)) (by decide) (by decide)))
  have f30 := f24.other Wh28 (Or.inr (slot_ne (Or.inr (hw _ (List.mem_of_getElem? (i := 13) rfl))) (Or.inr (hw _ (List.mem_of_getElem? (i := 15) rfl))) (by decide) (t := .int) (t' := (.array .long)) (by decide) (by decide)))
  have f31 := f25.same Wh28
  have f32 := f26.wr Wh28
  have f33 := f27.other Wh28 hne
  have f34 := Aa21.other Wh28 (Ne.symm ne_a_a21)
  have Zh28 : n0 ≤ h28.size := by rw [Wh28.size]; exact Zh22
  have Kh28 := Kh22.wr Wh28 (Or.inl (by simp))
  refine Own.aloadN (pc' := 43) d_prog_107_method_1_42 rfl rfl rfl ?_
  refine Own.iconst (pc' := 44) (v := (0 : Int32)) d_prog_107_method_1_43 (by decide) rfl ?_
  refine Own.aloadN (pc' := 45) d_prog_107_method_1_44 rfl rfl rfl ?_
  refine Own.getfield (pc' := 48) d_prog_107_method_1_45 rfl (host := "") (Or.inl (hw _ (List.mem_of_getElem? (i := 14) rfl))) Via.refl f31 ?_
  refine Own.aloadN (pc' := 49) d_prog_107_method_1_48 rfl rfl rfl ?_
  refine Own.getfield (pc' := 52) d_prog_107_method_1_49 rfl (host := "") (Or.inl (hw _ (List.mem_of_getElem? (i := 10) rfl))) Via.refl f29 ?_
  refine Own.aloadN (pc' := 53) d_prog_107_method_1_52 rfl rfl rfl ?_
  refine Own.getfield (pc' := 56) d_prog_107_method_1_53 rfl (host := "") (Or.inl (hw _ (List.mem_of_getElem? (i := 12) rfl))) Via.refl f30 ?_
  refine Own.arraycopyJ (pc' := 59) (i := 0) (j := 1) (k := 0) (W := 0) d_prog_107_method_1_56 rfl (hw _ (List.mem_of_getElem? (i := 16) rfl)) (hw _ (List.mem_of_getElem? (i := 19) rfl)) (hw _ (List.mem_of_getElem? (i := 17) rfl)) (hw _ (List.mem_of_getElem? (i := 18) rfl)) f33 f34 (by decide) (by decide) (by decide) (by decide) (by decide) Ga21 rfl (by decide) rfl (by decide) fun h35 Kh35 Ah35 => ?_
  have f36 := f29.keep Kh35 (ninS ne_a_a21 nin0)
  have f37 := f30.keep Kh35 (ninS ne_a_a21 nin0)
  have f38 := f31.keep Kh35 (ninS ne_a_a21 nin0)
  have f39 := f32.keep Kh35
  have f40 := f33.keep Kh35 (ninS ne_b_a21 nin0)
  have Zh35 : n0 ≤ h35.size := Nat.le_trans Zh28 Kh35.1
  have Kh35 := Kh28.trans Kh35 (allS (Or.inr hs_a21) all0)
  have f41 := AJ.cong (g := (fun _ => 0)) Ah35 (fun t _ => if_neg (by omega))
  refine Own.aloadN (pc' := 60) d_prog_107_method_1_59 rfl rfl rfl ?_
  refine Own.getfield (pc' := 63) d_prog_107_method_1_60 rfl (host := "") (Or.inl (hw _ (List.mem_of_getElem? (i := 10) rfl))) Via.refl f36 ?_
  refine Own.iconst (pc' := 64) (v := (1 : Int32)) d_prog_107_method_1_63 (by decide) rfl ?_
  refine Own.isubE (pc' := 65) d_prog_107_method_1_64 rfl (z := (0 : Int32)) (by decide) ?_
  refine Own.istoreN (pc' := 66) (L1 := #[.val (.ref a), .val (.ref b), .val (.int (1 : Int32)), .val (.int (0 : Int32))]) d_prog_107_method_1_65 rfl rfl ?_
  refine Own.iloadN (pc' := 67) d_prog_107_method_1_66 rfl rfl ?_
  refine Own.if_le (pc' := 103) (pc2 := 70) d_prog_107_method_1_67 (by decide) (by decide) rfl (fun _ => ?_) (fun q => absurd (by decide) q)
  have Af := (f41).cong (g := own_nd0 x0 x1 x2 x3 x4) (fun k hk => by have hk' : k = 0 ∨ k = 1 := (by omega); rcases hk' with rfl | rfl <;> simp [ownSet, own_vals, own_nd0])
  exact Own.vreturn d_prog_107_method_1_103 rfl (⟨rfl, a21, Kh35, hs_a21, f39, f36, f37, f38, Af⟩) (by decide) (by decide)
theorem own_nd0_0 (x0 x1 x2 x3 x4 : Int64) : own_nd0 x0 x1 x2 x3 x4 0 = (0 : Int64) := by simp [own_nd0]
theorem own_nd0_1 (x0 x1 x2 x3 x4 : Int64) : own_nd0 x0 x1 x2 x3 x4 1 = (0 : Int64) := by simp [own_nd0]
def own_nd1 (x0 x1 x2 x3 x4 : Int64) : Nat → Int64 := fun t => if t = 0 then (0 : Int64) else if t = 1 then x0 else 0
set_option maxRecDepth 65536 in
set_option maxHeartbeats 40000000 in
theorem c_own_mt1 (Z : State) (a0 : Array Value) (hw : ∀ d ∈ tables_1, d.before a0 Z = true) (n0 : Nat) (h : Heap) (hZ0 : n0 ≤ h.size) (a : Addr) (b : Addr) (x0 x1 x2 x3 x4 : Int64) (E : Exa Z h a "com/example/coldtail/coldtail/segment/MaxTree") (F_leaves : Fld Z h a "com/example/coldtail/coldtail/segment/MaxTree" "leaves" "I" (.int (0 : Int32))) (F_count : Fld Z h a "com/example/coldtail/coldtail/segment/MaxTree" "count" "I" (.int (0 : Int32))) (F_nodes : Fld Z h a "com/example/coldtail/coldtail/segment/MaxTree" "nodes" "[J" .null) (g_a : n0 ≤ a) (hne : b ≠ a) (A : AJ Z h b 1 (own_vals x0 x1 x2 x3 x4)) :
    Con Z n0 (⟨"com/example/coldtail/coldtail/segment/MaxTree", "<init>", "([J)V"⟩ : MethodName) prog_107_method_1_code 4 none ({ frames := 1, cells := 1, slots := 16, locals := 40 } : Room) [(.ref a), (.ref b)] h (fun v h' => v = none ∧ ∃ r, Keep h h' [a] ∧ h.size ≤ r ∧ Exa Z h' a "com/example/coldtail/coldtail/segment/MaxTree" ∧ Fld Z h' a "com/example/coldtail/coldtail/segment/MaxTree" "leaves" "I" (.int (1 : Int32)) ∧ Fld Z h' a "com/example/coldtail/coldtail/segment/MaxTree" "count" "I" (.int (1 : Int32)) ∧ Fld Z h' a "com/example/coldtail/coldtail/segment/MaxTree" "nodes" "[J" (.ref r) ∧ AJ Z h' r 2 (own_nd1 x0 x1 x2 x3 x4)) := by
  refine Own.enter (plainFor_of_name pn_1) (L0 := #[.val (.ref a), .val (.ref b), .unset, .unset]) (fun m => by first | (simp [entryFrame, mkF, argsToLocals, Value.category]; done) | rfl) fun K => ?_
  show Go K _ _ _ _ _ _ "com/example/coldtail/coldtail/segment/MaxTree" "<init>" _ 0 0 h 0 #[.val (.ref a), .val (.ref b), .unset, .unset] []
  refine Own.aloadN (pc' := 1) d_prog_107_method_1_0 rfl rfl rfl ?_
  refine Own.objinit (pc' := 4) d_prog_107_method_1_1 rfl (hw _ (List.mem_of_getElem? (i := 7) rfl)) (hw _ (List.mem_of_getElem? (i := 8) rfl)) (hw _ (List.mem_of_getElem? (i := 9) rfl)) rfl (by decide) (W := 0) rfl (by decide) ?_
  refine Own.iconst (pc' := 5) (v := (1 : Int32)) d_prog_107_method_1_4 (by decide) rfl ?_
  refine Own.istoreN (pc' := 6) (L1 := #[.val (.ref a), .val (.ref b), .val (.int (1 : Int32)), .unset]) d_prog_107_method_1_5 rfl rfl ?_
  refine Own.iloadN (pc' := 7) d_prog_107_method_1_6 rfl rfl ?_
  refine Own.aloadN (pc' := 8) d_prog_107_method_1_7 rfl rfl rfl ?_
  refine Own.lenJ (pc' := 9) d_prog_107_method_1_8 rfl A fun v44 hv44 => ?_
  obtain rfl : v44 = (1 : Int32) := Int32.toInt_inj.mp (hv44.trans (by decide))
  refine Own.icmp_ge (pc' := 19) (pc2 := 12) d_prog_107_method_1_9 (by decide) (by decide) rfl (fun _ => ?_) (fun q => absurd (by decide) q)
  refine Own.aloadN (pc' := 20) d_prog_107_method_1_19 rfl rfl rfl ?_
  refine Own.iloadN (pc' := 21) d_prog_107_method_1_20 rfl rfl ?_
  refine Own.putfield (pc' := 24) d_prog_107_method_1_21 rfl (host := "") (Or.inl (hw _ (List.mem_of_getElem? (i := 10) rfl))) Via.refl F_leaves E (Or.inr ⟨(hw _ (List.mem_of_getElem? (i := 11) rfl)), rfl, rfl⟩) (hw _ (List.mem_of_getElem? (i := 2) rfl)) (ty := .int) (by decide) rfl rfl g_a fun h46 Wh46 => ?_
  have f47 := F_leaves.same Wh46
  have f48 := F_count.other Wh46 (Or.inr (slot_ne (Or.inr (hw _ (List.mem_of_getElem? (i := 13) rfl))) (Or.inr (hw _ (List.mem_of_getElem? (i := 11) rfl))) (by decide) (t := .int) (t' := .int) (by decide) (by decide)))
  have f49 := F_nodes.other Wh46 (Or.inr (slot_ne (Or.inr (hw _ (List.mem_of_getElem? (i := 15) rfl))) (Or.inr (hw _ (List.mem_of_getElem? (i := 11) rfl))) (by decide) (t := (.array .long)) (t' := .int) (by decide) (by decide)))
  have f50 := E.wr Wh46
  have f51 := A.other Wh46 hne
  have Zh46 : n0 ≤ h46.size := by rw [Wh46.size]; exact hZ0
  have Kh46 := (Keep.refl h [a]).wr Wh46 (Or.inl (by simp))
  refine Own.aloadN (pc' := 25) d_prog_107_method_1_24 rfl rfl rfl ?_
  refine Own.aloadN (pc' := 26) d_prog_107_method_1_25 rfl rfl rfl ?_
  refine Own.lenJ (pc' := 27) d_prog_107_method_1_26 rfl f51 fun v52 hv52 => ?_
  obtain rfl : v52 = (1 : Int32) := Int32.toInt_inj.mp (hv52.trans (by decide))
  refine Own.putfield (pc' := 30) d_prog_107_method_1_27 rfl (host := "") (Or.inl (hw _ (List.mem_of_getElem? (i := 12) rfl))) Via.refl f48 f50 (Or.inr ⟨(hw _ (List.mem_of_getElem? (i := 13) rfl)), rfl, rfl⟩) (hw _ (List.mem_of_getElem? (i := 2) rfl)) (ty := .int) (by decide) rfl rfl g_a fun h53 Wh53 => ?_
  have f54 := f47.other Wh53 (Or.inr (slot_ne (Or.inr (hw _ (List.mem_of_getElem? (i := 11) rfl))) (Or.inr (hw _ (List.mem_of_getElem? (i := 13) rfl))) (by decide) (t := .int) (t' := .int) (by decide) (by decide)))
  have f55 := f48.same Wh53
  have f56 := f49.other Wh53 (Or.inr (slot_ne (Or.inr (hw _ (List.mem_of_getElem? (i := 15) rfl))) (Or.inr (hw _ (List.mem_of_getElem? (i := 13) rfl))) (by decide) (t := (.array .long)) (t' := .int) (by decide) (by decide)))
  have f57 := f50.wr Wh53
  have f58 := f51.other Wh53 hne
  have Zh53 : n0 ≤ h53.size := by rw [Wh53.size]; exact Zh46
  have Kh53 := Kh46.wr Wh53 (Or.inl (by simp))
  refine Own.aloadN (pc' := 31) d_prog_107_method_1_30 rfl rfl rfl ?_
  refine Own.iconst (pc' := 32) (v := (2 : Int32)) d_prog_107_method_1_31 (by decide) rfl ?_
  refine Own.aloadN (pc' := 33) d_prog_107_method_1_32 rfl rfl rfl ?_
  refine Own.getfield (pc' := 36) d_prog_107_method_1_33 rfl (host := "") (Or.inl (hw _ (List.mem_of_getElem? (i := 10) rfl))) Via.refl f54 ?_
  refine Own.imulE (pc' := 37) d_prog_107_method_1_36 rfl (z := (2 : Int32)) (by decide) ?_
  refine Own.newJ (pc' := 39) (n := 2) (cap := 2) d_prog_107_method_1_37 rfl (hw _ (List.mem_of_getElem? (i := 0) rfl)) (by decide) (by decide) (by decide) (by decide) (by decide) fun a60 h61 ga60 Eh61 Aa60 => ?_
  have ne_a_a60 : a ≠ a60 := Nat.ne_of_lt (ga60 ▸ (f57).lt)
  have ne_b_a60 : b ≠ a60 := Nat.ne_of_lt (ga60 ▸ (f58).lt)
  have Ga60 : n0 ≤ a60 := by rw [ga60]; exact Zh53
  have hs_a60 := Nat.le_trans Kh53.1 (Nat.le_of_eq ga60.symm)
  have Zh61 : n0 ≤ h61.size := Nat.le_trans Zh53 Eh61.1
  have f62 := f54.ext Eh61
  have f63 := f55.ext Eh61
  have f64 := f56.ext Eh61
  have f65 := f57.ext Eh61
  have f66 := f58.ext Eh61
  have Kh61 := Kh53.ext Eh61
  show Go K _ _ _ _ _ _ _ _ _ 1 2 h61 39 #[.val (.ref a), .val (.ref b), .val (.int (1 : Int32)), .unset] [(.ref a60), (.ref a)]
  refine Own.putfield (pc' := 42) d_prog_107_method_1_39 rfl (host := "") (Or.inl (hw _ (List.mem_of_getElem? (i := 14) rfl))) Via.refl f64 f65 (Or.inr ⟨(hw _ (List.mem_of_getElem? (i := 15) rfl)), rfl, rfl⟩) (hw _ (List.mem_of_getElem? (i := 2) rfl)) (ty := (.array .long)) (by decide) rfl rfl g_a fun h67 Wh67 => ?_
  have f68 := f62.other Wh67 (Or.inr (slot_ne (Or.inr (hw _ (List.mem_of_getElem? (i := 11) rfl))) (Or.inr (hw _ (List.mem_of_getElem? (i := 15) rfl))) (by decide) (t := .int) (t' := (.array .long)) (by decide) (by decide)))
  have f69 := f63.other Wh67 (Or.inr (slot_ne (Or.inr (hw _ (List.mem_of_getElem? (i := 13) rfl))) (Or.inr (hw _ (List.mem_of_getElem? (i := 15) rfl))) (by decide) (t := .int) (t' := (.array .long)) (by decide) (by decide)))
  have f70 := f64.same Wh67
  have f71 := f65.wr Wh67
  have f72 := f66.other Wh67 hne
  have f73 := Aa60.other Wh67 (Ne.symm ne_a_a60)
  have Zh67 : n0 ≤ h67.size := by rw [Wh67.size]; exact Zh61
  have Kh67 := Kh61.wr Wh67 (Or.inl (by simp))
  refine Own.aloadN (pc' := 43) d_prog_107_method_1_42 rfl rfl rfl ?_
  refine Own.iconst (pc' := 44) (v := (0 : Int32)) d_prog_107_method_1_43 (by decide) rfl ?_
  refine Own.aloadN (pc' := 45) d_prog_107_method_1_44 rfl rfl rfl ?_
  refine Own.getfield (pc' := 48) d_prog_107_method_1_45 rfl (host := "") (Or.inl (hw _ (List.mem_of_getElem? (i := 14) rfl))) Via.refl f70 ?_
  refine Own.aloadN (pc' := 49) d_prog_107_method_1_48 rfl rfl rfl ?_
  refine Own.getfield (pc' := 52) d_prog_107_method_1_49 rfl (host := "") (Or.inl (hw _ (List.mem_of_getElem? (i := 10) rfl))) Via.refl f68 ?_
  refine Own.aloadN (pc' := 53) d_prog_107_method_1_52 rfl rfl rfl ?_
  refine Own.getfield (pc' := 56) d_prog_107_method_1_53 rfl (host := "") (Or.inl (hw _ (List.mem_of_getElem? (i := 12) rfl))) Via.refl f69 ?_
  refine Own.arraycopyJ (pc' := 59) (i := 0) (j := 1) (k := 1) (W := 0) d_prog_107_method_1_56 rfl (hw _ (List.mem_of_getElem? (i := 16) rfl)) (hw _ (List.mem_of_getElem? (i := 19) rfl)) (hw _ (List.mem_of_getElem? (i := 17) rfl)) (hw _ (List.mem_of_getElem? (i := 18) rfl)) f72 f73 (by decide) (by decide) (by decide) (by decide) (by decide) Ga60 rfl (by decide) rfl (by decide) fun h74 Kh74 Ah74 => ?_
  have f75 := f68.keep Kh74 (ninS ne_a_a60 nin0)
  have f76 := f69.keep Kh74 (ninS ne_a_a60 nin0)
  have f77 := f70.keep Kh74 (ninS ne_a_a60 nin0)
  have f78 := f71.keep Kh74
  have f79 := f72.keep Kh74 (ninS ne_b_a60 nin0)
  have Zh74 : n0 ≤ h74.size := Nat.le_trans Zh67 Kh74.1
  have Kh74 := Kh67.trans Kh74 (allS (Or.inr hs_a60) all0)
  refine Own.aloadN (pc' := 60) d_prog_107_method_1_59 rfl rfl rfl ?_
  refine Own.getfield (pc' := 63) d_prog_107_method_1_60 rfl (host := "") (Or.inl (hw _ (List.mem_of_getElem? (i := 10) rfl))) Via.refl f75 ?_
  refine Own.iconst (pc' := 64) (v := (1 : Int32)) d_prog_107_method_1_63 (by decide) rfl ?_
  refine Own.isubE (pc' := 65) d_prog_107_method_1_64 rfl (z := (0 : Int32)) (by decide) ?_
  refine Own.istoreN (pc' := 66) (L1 := #[.val (.ref a), .val (.ref b), .val (.int (1 : Int32)), .val (.int (0 : Int32))]) d_prog_107_method_1_65 rfl rfl ?_
  refine Own.iloadN (pc' := 67) d_prog_107_method_1_66 rfl rfl ?_
  refine Own.if_le (pc' := 103) (pc2 := 70) d_prog_107_method_1_67 (by decide) (by decide) rfl (fun _ => ?_) (fun q => absurd (by decide) q)
  have Af := (Ah74).cong (g := own_nd1 x0 x1 x2 x3 x4) (fun k hk => by have hk' : k = 0 ∨ k = 1 := (by omega); rcases hk' with rfl | rfl <;> simp [ownSet, own_vals, own_nd1])
  exact Own.vreturn d_prog_107_method_1_103 rfl (⟨rfl, a60, Kh74, hs_a60, f78, f75, f76, f77, Af⟩) (by decide) (by decide)
theorem own_nd1_0 (x0 x1 x2 x3 x4 : Int64) : own_nd1 x0 x1 x2 x3 x4 0 = (0 : Int64) := by simp [own_nd1]
theorem own_nd1_1 (x0 x1 x2 x3 x4 : Int64) : own_nd1 x0 x1 x2 x3 x4 1 = x0 := by simp [own_nd1]
def own_nd2 (x0 x1 x2 x3 x4 : Int64) : Nat → Int64 := fun t => if t = 0 then (0 : Int64) else if t = 1 then (own_max x0 x1) else if t = 2 then x0 else if t = 3 then x1 else 0
set_option maxRecDepth 65536 in
set_option maxHeartbeats 40000000 in
theorem c_own_mt2 (Z : State) (a0 : Array Value) (hw : ∀ d ∈ tables_1, d.before a0 Z = true) (n0 : Nat) (h : Heap) (hZ0 : n0 ≤ h.size) (a : Addr) (b : Addr) (x0 x1 x2 x3 x4 : Int64) (E : Exa Z h a "com/example/coldtail/coldtail/segment/MaxTree") (F_leaves : Fld Z h a "com/example/coldtail/coldtail/segment/MaxTree" "leaves" "I" (.int (0 : Int32))) (F_count : Fld Z h a "com/example/coldtail/coldtail/segment/MaxTree" "count" "I" (.int (0 : Int32))) (F_nodes : Fld Z h a "com/example/coldtail/coldtail/segment/MaxTree" "nodes" "[J" .null) (g_a : n0 ≤ a) (hne : b ≠ a) (A : AJ Z h b 2 (own_vals x0 x1 x2 x3 x4)) :
    Con Z n0 (⟨"com/example/coldtail/coldtail/segment/MaxTree", "<init>", "([J)V"⟩ : MethodName) prog_107_method_1_code 4 none ({ frames := 1, cells := 1, slots := 16, locals := 40 } : Room) [(.ref a), (.ref b)] h (fun v h' => v = none ∧ ∃ r, Keep h h' [a] ∧ h.size ≤ r ∧ Exa Z h' a "com/example/coldtail/coldtail/segment/MaxTree" ∧ Fld Z h' a "com/example/coldtail/coldtail/segment/MaxTree" "leaves" "I" (.int (2 : Int32)) ∧ Fld Z h' a "com/example/coldtail/coldtail/segment/MaxTree" "count" "I" (.int (2 : Int32)) ∧ Fld Z h' a "com/example/coldtail/coldtail/segment/MaxTree" "nodes" "[J" (.ref r) ∧ AJ Z h' r 4 (own_nd2 x0 x1 x2 x3 x4)) := by
  refine Own.enter (plainFor_of_name pn_1) (L0 := #[.val (.ref a), .val (.ref b), .unset, .unset]) (fun m => by first | (simp [entryFrame, mkF, argsToLocals, Value.category]; done) | rfl) fun K => ?_
  show Go K _ _ _ _ _ _ "com/example/coldtail/coldtail/segment/MaxTree" "<init>" _ 0 0 h 0 #[.val (.ref a), .val (.ref b), .unset, .unset] []
  refine Own.aloadN (pc' := 1) d_prog_107_method_1_0 rfl rfl rfl ?_
  refine Own.objinit (pc' := 4) d_prog_107_method_1_1 rfl (hw _ (List.mem_of_getElem? (i := 7) rfl)) (hw _ (List.mem_of_getElem? (i := 8) rfl)) (hw _ (List.mem_of_getElem? (i := 9) rfl)) rfl (by decide) (W := 0) rfl (by decide) ?_
  refine Own.iconst (pc' := 5) (v := (1 : Int32)) d_prog_107_method_1_4 (by decide) rfl ?_
  refine Own.istoreN (pc' := 6) (L1 := #[.val (.ref a), .val (.ref b), .val (.int (1 : Int32)), .unset]) d_prog_107_method_1_5 rfl rfl ?_
  refine Own.iloadN (pc' := 7) d_prog_107_method_1_6 rfl rfl ?_
  refine Own.aloadN (pc' := 8) d_prog_107_method_1_7 rfl rfl rfl ?_
  refine Own.lenJ (pc' := 9) d_prog_107_method_1_8 rfl A fun v82 hv82 => ?_
  obtain rfl : v82 = (2 : Int32) := Int32.toInt_inj.mp (hv82.trans (by decide))
  refine Own.icmp_ge (pc' := 19) (pc2 := 12) d_prog_107_method_1_9 (by decide) (by decide) rfl (fun q => absurd q (by decide)) (fun _ => ?_)
  refine Own.iloadN (pc' := 13) d_prog_107_method_1_12 rfl rfl ?_
  refine Own.iconst (pc' := 14) (v := (2 : Int32)) d_prog_107_method_1_13 (by decide) rfl ?_
  refine Own.imulE (pc' := 15) d_prog_107_method_1_14 rfl (z := (2 : Int32)) (by decide) ?_
  refine Own.istoreN (pc' := 16) (L1 := #[.val (.ref a), .val (.ref b), .val (.int (2 : Int32)), .unset]) d_prog_107_method_1_15 rfl rfl ?_
  refine Own.goto (pc' := 6) d_prog_107_method_1_16 (by decide) (by decide) ?_
  refine Own.iloadN (pc' := 7) d_prog_107_method_1_6 rfl rfl ?_
  refine Own.aloadN (pc' := 8) d_prog_107_method_1_7 rfl rfl rfl ?_
  refine Own.lenJ (pc' := 9) d_prog_107_method_1_8 rfl A fun v85 hv85 => ?_
  obtain rfl : v85 = (2 : Int32) := Int32.toInt_inj.mp (hv85.trans (by decide))
  refine Own.icmp_ge (pc' := 19) (pc2 := 12) d_prog_107_method_1_9 (by decide) (by decide) rfl (fun _ => ?_) (fun q => absurd (by decide) q)
  refine Own.aloadN (pc' := 20) d_prog_107_method_1_19 rfl rfl rfl ?_
  refine Own.iloadN (pc' := 21) d_prog_107_method_1_20 rfl rfl ?_
  refine Own.putfield (pc' := 24) d_prog_107_method_1_21 rfl (host := "") (Or.inl (hw _ (List.mem_of_getElem? (i := 10) rfl))) Via.refl F_leaves E (Or.inr ⟨(hw _ (List.mem_of_getElem? (i := 11) rfl)), rfl, rfl⟩) (hw _ (List.mem_of_getElem? (i := 2) rfl)) (ty := .int) (by decide) rfl rfl g_a fun h87 Wh87 => ?_
  have f88 := F_leaves.same Wh87
  have f89 := F_count.other Wh87 (Or.inr (slot_ne (Or.inr (hw _ (List.mem_of_getElem? (i := 13) rfl))) (Or.inr (hw _ (List.mem_of_getElem? (i := 11) rfl))) (by decide) (t := .int) (t' := .int) (by decide) (by decide)))
  have f90 := F_nodes.other Wh87 (Or.inr (slot_ne (Or.inr (hw _ (List.mem_of_getElem? (i := 15) rfl))) (Or.inr (hw _ (List.mem_of_getElem? (i := 11) rfl))) (by decide) (t := (.array .long)) (t' := .int) (by decide) (by decide)))
  have f91 := E.wr Wh87
  have f92 := A.other Wh87 hne
  have Zh87 : n0 ≤ h87.size := by rw [Wh87.size]; exact hZ0
  have Kh87 := (Keep.refl h [a]).wr Wh87 (Or.inl (by simp))
  refine Own.aloadN (pc' := 25) d_prog_107_method_1_24 rfl rfl rfl ?_
  refine Own.aloadN (pc' := 26) d_prog_107_method_1_25 rfl rfl rfl ?_
  refine Own.lenJ (pc' := 27) d_prog_107_method_1_26 rfl f92 fun v93 hv93 => ?_
  obtain rfl : v93 = (2 : Int32) := Int32.toInt_inj.mp (hv93.trans (by decide))
  refine Own.putfield (pc' := 30) d_prog_107_method_1_27 rfl (host := "") (Or.inl (hw _ (List.mem_of_getElem? (i := 12) rfl))) Via.refl f89 f91 (Or.inr ⟨(hw _ (List.mem_of_getElem? (i := 13) rfl)), rfl, rfl⟩) (hw _ (List.mem_of_getElem? (i := 2) rfl)) (ty := .int) (by decide) rfl rfl g_a fun h94 Wh94 => ?_
  have f95 := f88.other Wh94 (Or.inr (slot_ne (Or.inr (hw _ (List.mem_of_getElem? (i := 11) rfl))) (Or.inr (hw _ (List.mem_of_getElem? (i := 13) rfl))) (by decide) (t := .int) (t' := .int) (by decide) (by decide)))
  have f96 := f89.same Wh94
  have f97 := f90.other Wh94 (Or.inr (slot_ne (Or.inr (hw _ (List.mem_of_getElem? (i := 15) rfl))) (Or.inr (hw _ (List.mem_of_getElem? (i := 13) rfl))) (by decide) (t := (.array .long)) (t' := .int) (by decide) (by decide)))
  have f98 := f91.wr Wh94
  have f99 := f92.other Wh94 hne
  have Zh94 : n0 ≤ h94.size := by rw [Wh94.size]; exact Zh87
  have Kh94 := Kh87.wr Wh94 (Or.inl (by simp))
  refine Own.aloadN (pc' := 31) d_prog_107_method_1_30 rfl rfl rfl ?_
  refine Own.iconst (pc' := 32) (v := (2 : Int32)) d_prog_107_method_1_31 (by decide) rfl ?_
  refine Own.aloadN (pc' := 33) d_prog_107_method_1_32 rfl rfl rfl ?_
  refine Own.getfield (pc' := 36) d_prog_107_method_1_33 rfl (host := "") (Or.inl (hw _ (List.mem_of_getElem? (i := 10) rfl))) Via.refl f95 ?_
  refine Own.imulE (pc' := 37) d_prog_107_method_1_36 rfl (z := (4 : Int32)) (by decide) ?_
  refine Own.newJ (pc' := 39) (n := 4) (cap := 4) d_prog_107_method_1_37 rfl (hw _ (List.mem_of_getElem? (i := 0) rfl)) (by decide) (by decide) (by decide) (by decide) (by decide) fun a101 h102 ga101 Eh102 Aa101 => ?_
  have ne_a_a101 : a ≠ a101 := Nat.ne_of_lt (ga101 ▸ (f98).lt)
  have ne_b_a101 : b ≠ a101 := Nat.ne_of_lt (ga101 ▸ (f99).lt)
  have Ga101 : n0 ≤ a101 := by rw [ga101]; exact Zh94
  have hs_a101 := Nat.le_trans Kh94.1 (Nat.le_of_eq ga101.symm)
  have Zh102 : n0 ≤ h102.size := Nat.le_trans Zh94 Eh102.1
  have f103 := f95.ext Eh102
  have f104 := f96.ext Eh102
  have f105 := f97.ext Eh102
  have f106 := f98.ext Eh102
  have f107 := f99.ext Eh102
  have Kh102 := Kh94.ext Eh102
  show Go K _ _ _ _ _ _ _ _ _ 1 4 h102 39 #[.val (.ref a), .val (.ref b), .val (.int (2 : Int32)), .unset] [(.ref a101), (.ref a)]
  refine Own.putfield (pc' := 42) d_prog_107_method_1_39 rfl (host := "") (Or.inl (hw _ (List.mem_of_getElem? (i := 14) rfl))) Via.refl f105 f106 (Or.inr ⟨(hw _ (List.mem_of_getElem? (i := 15) rfl)), rfl, rfl⟩) (hw _ (List.mem_of_getElem? (i := 2) rfl)) (ty := (.array .long)) (by decide) rfl rfl g_a fun h108 Wh108 => ?_
  have f109 := f103.other Wh108 (Or.inr (slot_ne (Or.inr (hw _ (List.mem_of_getElem? (i := 11) rfl))) (Or.inr (hw _ (List.mem_of_getElem? (i := 15) rfl))) (by decide) (t := .int) (t' := (.array .long)) (by decide) (by decide)))
  have f110 := f104.other Wh108 (Or.inr (slot_ne (Or.inr (hw _ (List.mem_of_getElem? (i := 13) rfl))) (Or.inr (hw _ (List.mem_of_getElem? (i := 15) rfl))) (by decide) (t := .int) (t' := (.array .long)) (by decide) (by decide)))
  have f111 := f105.same Wh108
  have f112 := f106.wr Wh108
  have f113 := f107.other Wh108 hne
  have f114 := Aa101.other Wh108 (Ne.symm ne_a_a101)
  have Zh108 : n0 ≤ h108.size := by rw [Wh108.size]; exact Zh102
  have Kh108 := Kh102.wr Wh108 (Or.inl (by simp))
  refine Own.aloadN (pc' := 43) d_prog_107_method_1_42 rfl rfl rfl ?_
  refine Own.iconst (pc' := 44) (v := (0 : Int32)) d_prog_107_method_1_43 (by decide) rfl ?_
  refine Own.aloadN (pc' := 45) d_prog_107_method_1_44 rfl rfl rfl ?_
  refine Own.getfield (pc' := 48) d_prog_107_method_1_45 rfl (host := "") (Or.inl (hw _ (List.mem_of_getElem? (i := 14) rfl))) Via.refl f111 ?_
  refine Own.aloadN (pc' := 49) d_prog_107_method_1_48 rfl rfl rfl ?_
  refine Own.getfield (pc' := 52) d_prog_107_method_1_49 rfl (host := "") (Or.inl (hw _ (List.mem_of_getElem? (i := 10) rfl))) Via.refl f109 ?_
  refine Own.aloadN (pc' := 53) d_prog_107_method_1_52 rfl rfl rfl ?_
  refine Own.getfield (pc' := 56) d_prog_107_method_1_53 rfl (host := "") (Or.inl (hw _ (List.mem_of_getElem? (i := 12) rfl))) Via.refl f110 ?_
  refine Own.arraycopyJ (pc' := 59) (i := 0) (j := 2) (k := 2) (W := 0) d_prog_107_method_1_56 rfl (hw _ (List.mem_of_getElem? (i := 16) rfl)) (hw _ (List.mem_of_getElem? (i := 19) rfl)) (hw _ (List.mem_of_getElem? (i := 17) rfl)) (hw _ (List.mem_of_getElem? (i := 18) rfl)) f113 f114 (by decide) (by decide) (by decide) (by decide) (by decide) Ga101 rfl (by decide) rfl (by decide) fun h115 Kh115 Ah115 => ?_
  have f116 := f109.keep Kh115 (ninS ne_a_a101 nin0)
  have f117 := f110.keep Kh115 (ninS ne_a_a101 nin0)
  have f118 := f111.keep Kh115 (ninS ne_a_a101 nin0)
  have f119 := f112.keep Kh115
  have f120 := f113.keep Kh115 (ninS ne_b_a101 nin0)
  have Zh115 : n0 ≤ h115.size := Nat.le_trans Zh108 Kh115.1
  have Kh115 := Kh108.trans Kh115 (allS (Or.inr hs_a101) all0)
  refine Own.aloadN (pc' := 60) d_prog_107_method_1_59 rfl rfl rfl ?_
  refine Own.getfield (pc' := 63) d_prog_107_method_1_60 rfl (host := "") (Or.inl (hw _ (List.mem_of_getElem? (i := 10) rfl))) Via.refl f116 ?_
  refine Own.iconst (pc' := 64) (v := (1 : Int32)) d_prog_107_method_1_63 (by decide) rfl ?_
  refine Own.isubE (pc' := 65) d_prog_107_method_1_64 rfl (z := (1 : Int32)) (by decide) ?_
  refine Own.istoreN (pc' := 66) (L1 := #[.val (.ref a), .val (.ref b), .val (.int (2 : Int32)), .val (.int (1 : Int32))]) d_prog_107_method_1_65 rfl rfl ?_
  refine Own.iloadN (pc' := 67) d_prog_107_method_1_66 rfl rfl ?_
  refine Own.if_le (pc' := 103) (pc2 := 70) d_prog_107_method_1_67 (by decide) (by decide) rfl (fun q => absurd q (by decide)) (fun _ => ?_)
  refine Own.aloadN (pc' := 71) d_prog_107_method_1_70 rfl rfl rfl ?_
  refine Own.getfield (pc' := 74) d_prog_107_method_1_71 rfl (host := "") (Or.inl (hw _ (List.mem_of_getElem? (i := 14) rfl))) Via.refl f118 ?_
  refine Own.iloadN (pc' := 75) d_prog_107_method_1_74 rfl rfl ?_
  refine Own.aloadN (pc' := 76) d_prog_107_method_1_75 rfl rfl rfl ?_
  refine Own.getfield (pc' := 79) d_prog_107_method_1_76 rfl (host := "") (Or.inl (hw _ (List.mem_of_getElem? (i := 14) rfl))) Via.refl f118 ?_
  refine Own.iconst (pc' := 80) (v := (2 : Int32)) d_prog_107_method_1_79 (by decide) rfl ?_
  refine Own.iloadN (pc' := 81) d_prog_107_method_1_80 rfl rfl ?_
  refine Own.imulE (pc' := 82) d_prog_107_method_1_81 rfl (z := (2 : Int32)) (by decide) ?_
  refine Own.laload (pc' := 83) (i := 2) d_prog_107_method_1_82 rfl Ah115 (by decide) (by decide) ?_
  show Go K _ _ _ _ _ _ _ _ _ 1 4 h115 83 #[.val (.ref a), .val (.ref b), .val (.int (2 : Int32)), .val (.int (1 : Int32))] [(.long x0), (.int (1 : Int32)), (.ref a101)]
  refine Own.aloadN (pc' := 84) d_prog_107_method_1_83 rfl rfl rfl ?_
  refine Own.getfield (pc' := 87) d_prog_107_method_1_84 rfl (host := "") (Or.inl (hw _ (List.mem_of_getElem? (i := 14) rfl))) Via.refl f118 ?_
  refine Own.iconst (pc' := 88) (v := (2 : Int32)) d_prog_107_method_1_87 (by decide) rfl ?_
  refine Own.iloadN (pc' := 89) d_prog_107_method_1_88 rfl rfl ?_
  refine Own.imulE (pc' := 90) d_prog_107_method_1_89 rfl (z := (2 : Int32)) (by decide) ?_
  refine Own.iconst (pc' := 91) (v := (1 : Int32)) d_prog_107_method_1_90 (by decide) rfl ?_
  refine Own.iaddE (pc' := 92) d_prog_107_method_1_91 rfl (z := (3 : Int32)) (by decide) ?_
  refine Own.laload (pc' := 93) (i := 3) d_prog_107_method_1_92 rfl Ah115 (by decide) (by decide) ?_
  show Go K _ _ _ _ _ _ _ _ _ 1 4 h115 93 #[.val (.ref a), .val (.ref b), .val (.int (2 : Int32)), .val (.int (1 : Int32))] [(.long x1), (.long x0), (.int (1 : Int32)), (.ref a101)]
  refine Own.static (pc' := 96) (y := (⟨"java/lang/Math", "max", "(JJ)J"⟩ : MethodName)) (rm' := ({ frames := 0, cells := 0, slots := 0, locals := 0 } : Room)) (W := 2) (as := [(.long x0), (.long x1)]) (rest := [(.int (1 : Int32)), (.ref a101)]) d_prog_107_method_1_93 rfl (hw _ (List.mem_of_getElem? (i := 29) rfl)) (hw _ (List.mem_of_getElem? (i := 30) rfl)) (hw _ (List.mem_of_getElem? (i := 31) rfl)) (hw _ (List.mem_of_getElem? (i := 32) rfl)) (by decide) (c_own_max Z a0 hw n0 h115 Zh115 x0 x1   ) rfl rfl (lenOf pd_0 rfl) (by decide) rfl (by decide) (by decide) (by decide) fun r127 h126 qh126 => ?_
  obtain ⟨e1, v128, e2, hv128⟩ := qh126
  subst e1 e2
  show Go K _ _ _ _ _ _ _ _ _ 1 4 h115 96 #[.val (.ref a), .val (.ref b), .val (.int (2 : Int32)), .val (.int (1 : Int32))] [(.long v128), (.int (1 : Int32)), (.ref a101)]
  refine Own.lastore (pc' := 97) (i := 1) d_prog_107_method_1_96 rfl Ah115 Ga101 (by decide) (by decide) fun h129 Wh129 Ah129 => ?_
  have f130 := f116.other Wh129 (Or.inl ne_a_a101)
  have f131 := f117.other Wh129 (Or.inl ne_a_a101)
  have f132 := f118.other Wh129 (Or.inl ne_a_a101)
  have f133 := f119.wr Wh129
  have f134 := f120.other Wh129 ne_b_a101
  have Zh129 : n0 ≤ h129.size := by rw [Wh129.size]; exact Zh115
  have Kh129 := Kh115.wr Wh129 (Or.inr (hs_a101))
  refine Own.iincE (pc' := 100) (L1 := fun zz => #[.val (.ref a), .val (.ref b), .val (.int (2 : Int32)), .val (.int zz)]) d_prog_107_method_1_97 rfl (fun _ => rfl) rfl (z := (0 : Int32)) (by decide) ?_
  show Go K _ _ _ _ _ _ _ _ _ 1 4 h129 100 #[.val (.ref a), .val (.ref b), .val (.int (2 : Int32)), .val (.int (0 : Int32))] []
  refine Own.goto (pc' := 66) d_prog_107_method_1_100 (by decide) (by decide) ?_
  refine Own.iloadN (pc' := 67) d_prog_107_method_1_66 rfl rfl ?_
  refine Own.if_le (pc' := 103) (pc2 := 70) d_prog_107_method_1_67 (by decide) (by decide) rfl (fun _ => ?_) (fun q => absurd (by decide) q)
  subst hv128
  have Af := (Ah129).cong (g := own_nd2 x0 x1 x2 x3 x4) (fun k hk => by have hk' : k = 0 ∨ k = 1 ∨ k = 2 ∨ k = 3 := (by omega); rcases hk' with rfl | rfl | rfl | rfl <;> simp [ownSet, own_vals, own_nd2])
  exact Own.vreturn d_prog_107_method_1_103 rfl (⟨rfl, a101, Kh129, hs_a101, f133, f130, f131, f132, Af⟩) (by decide) (by decide)
theorem own_nd2_0 (x0 x1 x2 x3 x4 : Int64) : own_nd2 x0 x1 x2 x3 x4 0 = (0 : Int64) := by simp [own_nd2]
theorem own_nd2_1 (x0 x1 x2 x3 x4 : Int64) : own_nd2 x0 x1 x2 x3 x4 1 = (own_max x0 x1) := by simp [own_nd2]
theorem own_nd2_2 (x0 x1 x2 x3 x4 : Int64) : own_nd2 x0 x1 x2 x3 x4 2 = x0 := by simp [own_nd2]
theorem own_nd2_3 (x0 x1 x2 x3 x4 : Int64) : own_nd2 x0 x1 x2 x3 x4 3 = x1 := by simp [own_nd2]
def own_nd3 (x0 x1 x2 x3 x4 : Int64) : Nat → Int64 := fun t => if t = 0 then (0 : Int64) else if t = 1 then (own_max (own_max x0 x1) (own_max x2 (0 : Int64))) else if t = 2 then (own_max x0 x1) else if t = 3 then (own_max x2 (0 : Int64)) else if t = 4 then x0 else if t = 5 then x1 else if t = 6 then x2 else if t = 7 then (0 : Int64) else 0
set_option maxRecDepth 65536 in
set_option maxHeartbeats 40000000 in
theorem c_own_mt3 (Z : State) (a0 : Array Value) (hw : ∀ d ∈ tables_1, d.before a0 Z = true) (n0 : Nat) (h : Heap) (hZ0 : n0 ≤ h.size) (a : Addr) (b : Addr) (x0 x1 x2 x3 x4 : Int64) (E : Exa Z h a "com/example/coldtail/coldtail/segment/MaxTree") (F_leaves : Fld Z h a "com/example/coldtail/coldtail/segment/MaxTree" "leaves" "I" (.int (0 : Int32))) (F_count : Fld Z h a "com/example/coldtail/coldtail/segment/MaxTree" "count" "I" (.int (0 : Int32))) (F_nodes : Fld Z h a "com/example/coldtail/coldtail/segment/MaxTree" "nodes" "[J" .null) (g_a : n0 ≤ a) (hne : b ≠ a) (A : AJ Z h b 3 (own_vals x0 x1 x2 x3 x4)) :
    Con Z n0 (⟨"com/example/coldtail/coldtail/segment/MaxTree", "<init>", "([J)V"⟩ : MethodName) prog_107_method_1_code 4 none ({ frames := 1, cells := 1, slots := 16, locals := 40 } : Room) [(.ref a), (.ref b)] h (fun v h' => v = none ∧ ∃ r, Keep h h' [a] ∧ h.size ≤ r ∧ Exa Z h' a "com/example/coldtail/coldtail/segment/MaxTree" ∧ Fld Z h' a "com/example/coldtail/coldtail/segment/MaxTree" "leaves" "I" (.int (4 : Int32)) ∧ Fld Z h' a "com/example/coldtail/coldtail/segment/MaxTree" "count" "I" (.int (3 : Int32)) ∧ Fld Z h' a "com/example/coldtail/coldtail/segment/MaxTree" "nodes" "[J" (.ref r) ∧ AJ Z h' r 8 (own_nd3 x0 x1 x2 x3 x4)) := by
  refine Own.enter (plainFor_of_name pn_1) (L0 := #[.val (.ref a), .val (.ref b), .unset, .unset]) (fun m => by first | (simp [entryFrame, mkF, argsToLocals, Value.category]; done) | rfl) fun K => ?_
  show Go K _ _ _ _ _ _ "com/example/coldtail/coldtail/segment/MaxTree" "<init>" _ 0 0 h 0 #[.val (.ref a), .val (.ref b), .unset, .unset] []
  refine Own.aloadN (pc' := 1) d_prog_107_method_1_0 rfl rfl rfl ?_
  refine Own.objinit (pc' := 4) d_prog_107_method_1_1 rfl (hw _ (List.mem_of_getElem? (i := 7) rfl)) (hw _ (List.mem_of_getElem? (i := 8) rfl)) (hw _ (List.mem_of_getElem? (i := 9) rfl)) rfl (by decide) (W := 0) rfl (by decide) ?_
  refine Own.iconst (pc' := 5) (v := (1 : Int32)) d_prog_107_method_1_4 (by decide) rfl ?_
  refine Own.istoreN (pc' := 6) (L1 := #[.val (.ref a), .val (.ref b), .val (.int (1 : Int32)), .unset]) d_prog_107_method_1_5 rfl rfl ?_
  refine Own.iloadN (pc' := 7) d_prog_107_method_1_6 rfl rfl ?_
  refine Own.aloadN (pc' := 8) d_prog_107_method_1_7 rfl rfl rfl ?_
  refine Own.lenJ (pc' := 9) d_prog_107_method_1_8 rfl A fun v137 hv137 => ?_
  obtain rfl : v137 = (3 : Int32) := Int32.toInt_inj.mp (hv137.trans (by decide))
  refine Own.icmp_ge (pc' := 19) (pc2 := 12) d_prog_107_method_1_9 (by decide) (by decide) rfl (fun q => absurd q (by decide)) (fun _ => ?_)
  refine Own.iloadN (pc' := 13) d_prog_107_method_1_12 rfl rfl ?_
  refine Own.iconst (pc' := 14) (v := (2 : Int32)) d_prog_107_method_1_13 (by decide) rfl ?_
  refine Own.imulE (pc' := 15) d_prog_107_method_1_14 rfl (z := (2 : Int32)) (by decide) ?_
  refine Own.istoreN (pc' := 16) (L1 := #[.val (.ref a), .val (.ref b), .val (.int (2 : Int32)), .unset]) d_prog_107_method_1_15 rfl rfl ?_
  refine Own.goto (pc' := 6) d_prog_107_method_1_16 (by decide) (by decide) ?_
  refine Own.iloadN (pc' := 7) d_prog_107_method_1_6 rfl rfl ?_
  refine Own.aloadN (pc' := 8) d_prog_107_method_1_7 rfl rfl rfl ?_
  refine Own.lenJ (pc' := 9) d_prog_107_method_1_8 rfl A fun v140 hv140 => ?_
  obtain rfl : v140 = (3 : Int32) := Int32.toInt_inj.mp (hv140.trans (by decide))
  refine Own.icmp_ge (pc' := 19) (pc2 := 12) d_prog_107_method_1_9 (by decide) (by decide) rfl (fun q => absurd q (by decide)) (fun _ => ?_)
  refine Own.iloadN (pc' := 13) d_prog_107_method_1_12 rfl rfl ?_
  refine Own.iconst (pc' := 14) (v := (2 : Int32)) d_prog_107_method_1_13 (by decide) rfl ?_
  refine Own.imulE (pc' := 15) d_prog_107_method_1_14 rfl (z := (4 : Int32)) (by decide) ?_
  refine Own.istoreN (pc' := 16) (L1 := #[.val (.ref a), .val (.ref b), .val (.int (4 : Int32)), .unset]) d_prog_107_method_1_15 rfl rfl ?_
  refine Own.goto (pc' := 6) d_prog_107_method_1_16 (by decide) (by decide) ?_
  refine Own.iloadN (pc' := 7) d_prog_107_method_1_6 rfl rfl ?_
  refine Own.aloadN (pc' := 8) d_prog_107_method_1_7 rfl rfl rfl ?_
  refine Own.lenJ (pc' := 9) d_prog_107_method_1_8 rfl A fun v143 hv143 => ?_
  obtain rfl : v143 = (3 : Int32) := Int32.toInt_inj.mp (hv143.trans (by decide))
  refine Own.icmp_ge (pc' := 19) (pc2 := 12) d_prog_107_method_1_9 (by decide) (by decide) rfl (fun _ => ?_) (fun q => absurd (by decide) q)
  refine Own.aloadN (pc' := 20) d_prog_107_method_1_19 rfl rfl rfl ?_
  refine Own.iloadN (pc' := 21) d_prog_107_method_1_20 rfl rfl ?_
  refine Own.putfield (pc' := 24) d_prog_107_method_1_21 rfl (host := "") (Or.inl (hw _ (List.mem_of_getElem? (i := 10) rfl))) Via.refl F_leaves E (Or.inr ⟨(hw _ (List.mem_of_getElem? (i := 11) rfl)), rfl, rfl⟩) (hw _ (List.mem_of_getElem? (i := 2) rfl)) (ty := .int) (by decide) rfl rfl g_a fun h145 Wh145 => ?_
  have f146 := F_leaves.same Wh145
  have f147 := F_count.other Wh145 (Or.inr (slot_ne (Or.inr (hw _ (List.mem_of_getElem? (i := 13) rfl))) (Or.inr (hw _ (List.mem_of_getElem? (i := 11) rfl))) (by decide) (t := .int) (t' := .int) (by decide) (by decide)))
  have f148 := F_nodes.other Wh145 (Or.inr (slot_ne (Or.inr (hw _ (List.mem_of_getElem? (i := 15) rfl))) (Or.inr (hw _ (List.mem_of_getElem? (i := 11) rfl))) (by decide) (t := (.array .long)) (t' := .int) (by decide) (by decide)))
  have f149 := E.wr Wh145
  have f150 := A.other Wh145 hne
  have Zh145 : n0 ≤ h145.size := by rw [Wh145.size]; exact hZ0
  have Kh145 := (Keep.refl h [a]).wr Wh145 (Or.inl (by simp))
  refine Own.aloadN (pc' := 25) d_prog_107_method_1_24 rfl rfl rfl ?_
  refine Own.aloadN (pc' := 26) d_prog_107_method_1_25 rfl rfl rfl ?_
  refine Own.lenJ (pc' := 27) d_prog_107_method_1_26 rfl f150 fun v151 hv151 => ?_
  obtain rfl : v151 = (3 : Int32) := Int32.toInt_inj.mp (hv151.trans (by decide))
  refine Own.putfield (pc' := 30) d_prog_107_method_1_27 rfl (host := "") (Or.inl (hw _ (List.mem_of_getElem? (i := 12) rfl))) Via.refl f147 f149 (Or.inr ⟨(hw _ (List.mem_of_getElem? (i := 13) rfl)), rfl, rfl⟩) (hw _ (List.mem_of_getElem? (i := 2) rfl)) (ty := .int) (by decide) rfl rfl g_a fun h152 Wh152 => ?_
  have f153 := f146.other Wh152 (Or.inr (slot_ne (Or.inr (hw _ (List.mem_of_getElem? (i := 11) rfl))) (Or.inr (hw _ (List.mem_of_getElem? (i := 13) rfl))) (by decide) (t := .int) (t' := .int) (by decide) (by decide)))
  have f154 := f147.same Wh152
  have f155 := f148.other Wh152 (Or.inr (slot_ne (Or.inr (hw _ (List.mem_of_getElem? (i := 15) rfl))) (Or.inr (hw _ (List.mem_of_getElem? (i := 13) rfl))) (by decide) (t := (.array .long)) (t' := .int) (by decide) (by decide)))
  have f156 := f149.wr Wh152
  have f157 := f150.other Wh152 hne
  have Zh152 : n0 ≤ h152.size := by rw [Wh152.size]; exact Zh145
  have Kh152 := Kh145.wr Wh152 (Or.inl (by simp))
  refine Own.aloadN (pc' := 31) d_prog_107_method_1_30 rfl rfl rfl ?_
  refine Own.iconst (pc' := 32) (v := (2 : Int32)) d_prog_107_method_1_31 (by decide) rfl ?_
  refine Own.aloadN (pc' := 33) d_prog_107_method_1_32 rfl rfl rfl ?_
  refine Own.getfield (pc' := 36) d_prog_107_method_1_33 rfl (host := "") (Or.inl (hw _ (List.mem_of_getElem? (i := 10) rfl))) Via.refl f153 ?_
  refine Own.imulE (pc' := 37) d_prog_107_method_1_36 rfl (z := (8 : Int32)) (by decide) ?_
  refine Own.newJ (pc' := 39) (n := 8) (cap := 8) d_prog_107_method_1_37 rfl (hw _ (List.mem_of_getElem? (i := 0) rfl)) (by decide) (by decide) (by decide) (by decide) (by decide) fun a159 h160 ga159 Eh160 Aa159 => ?_
  have ne_a_a159 : a ≠ a159 := Nat.ne_of_lt (ga159 ▸ (f156).lt)
  have ne_b_a159 : b ≠ a159 := Nat.ne_of_lt (ga159 ▸ (f157).lt)
  have Ga159 : n0 ≤ a159 := by rw [ga159]; exact Zh152
  have hs_a159 := Nat.le_trans Kh152.1 (Nat.le_of_eq ga159.symm)
  have Zh160 : n0 ≤ h160.size := Nat.le_trans Zh152 Eh160.1
  have f161 := f153.ext Eh160
  have f162 := f154.ext Eh160
  have f163 := f155.ext Eh160
  have f164 := f156.ext Eh160
  have f165 := f157.ext Eh160
  have Kh160 := Kh152.ext Eh160
  show Go K _ _ _ _ _ _ _ _ _ 1 8 h160 39 #[.val (.ref a), .val (.ref b), .val (.int (4 : Int32)), .unset] [(.ref a159), (.ref a)]
  refine Own.putfield (pc' := 42) d_prog_107_method_1_39 rfl (host := "") (Or.inl (hw _ (List.mem_of_getElem? (i := 14) rfl))) Via.refl f163 f164 (Or.inr ⟨(hw _ (List.mem_of_getElem? (i := 15) rfl)), rfl, rfl⟩) (hw _ (List.mem_of_getElem? (i := 2) rfl)) (ty := (.array .long)) (by decide) rfl rfl g_a fun h166 Wh166 => ?_
  have f167 := f161.other Wh166 (Or.inr (slot_ne (Or.inr (hw _ (List.mem_of_getElem? (i := 11) rfl))) (Or.inr (hw _ (List.mem_of_getElem? (i := 15) rfl))) (by decide) (t := .int) (t' := (.array .long)) (by decide) (by decide)))
  have f168 := f162.other Wh166 (Or.inr (slot_ne (Or.inr (hw _ (List.mem_of_getElem? (i := 13) rfl))) (Or.inr (hw _ (List.mem_of_getElem? (i := 15) rfl))) (by decide) (t := .int) (t' := (.array .long)) (by decide) (by decide)))
  have f169 := f163.same Wh166
  have f170 := f164.wr Wh166
  have f171 := f165.other Wh166 hne
  have f172 := Aa159.other Wh166 (Ne.symm ne_a_a159)
  have Zh166 : n0 ≤ h166.size := by rw [Wh166.size]; exact Zh160
  have Kh166 := Kh160.wr Wh166 (Or.inl (by simp))
  refine Own.aloadN (pc' := 43) d_prog_107_method_1_42 rfl rfl rfl ?_
  refine Own.iconst (pc' := 44) (v := (0 : Int32)) d_prog_107_method_1_43 (by decide) rfl ?_
  refine Own.aloadN (pc' := 45) d_prog_107_method_1_44 rfl rfl rfl ?_
  refine Own.getfield (pc' := 48) d_prog_107_method_1_45 rfl (host := "") (Or.inl (hw _ (List.mem_of_getElem? (i := 14) rfl))) Via.refl f169 ?_
  refine Own.aloadN (pc' := 49) d_prog_107_method_1_48 rfl rfl rfl ?_
  refine Own.getfield (pc' := 52) d_prog_107_method_1_49 rfl (host := "") (Or.inl (hw _ (List.mem_of_getElem? (i := 10) rfl))) Via.refl f167 ?_
  refine Own.aloadN (pc' := 53) d_prog_107_method_1_52 rfl rfl rfl ?_
  refine Own.getfield (pc' := 56) d_prog_107_method_1_53 rfl (host := "") (Or.inl (hw _ (List.mem_of_getElem? (i := 12) rfl))) Via.refl f168 ?_
  refine Own.arraycopyJ (pc' := 59) (i := 0) (j := 4) (k := 3) (W := 0) d_prog_107_method_1_56 rfl (hw _ (List.mem_of_getElem? (i := 16) rfl)) (hw _ (List.mem_of_getElem? (i := 19) rfl)) (hw _ (List.mem_of_getElem? (i := 17) rfl)) (hw _ (List.mem_of_getElem? (i := 18) rfl)) f171 f172 (by decide) (by decide) (by decide) (by decide) (by decide) Ga159 rfl (by decide) rfl (by decide) fun h173 Kh173 Ah173 => ?_
  have f174 := f167.keep Kh173 (ninS ne_a_a159 nin0)
  have f175 := f168.keep Kh173 (ninS ne_a_a159 nin0)
  have f176 := f169.keep Kh173 (ninS ne_a_a159 nin0)
  have f177 := f170.keep Kh173
  have f178 := f171.keep Kh173 (ninS ne_b_a159 nin0)
  have Zh173 : n0 ≤ h173.size := Nat.le_trans Zh166 Kh173.1
  have Kh173 := Kh166.trans Kh173 (allS (Or.inr hs_a159) all0)
  refine Own.aloadN (pc' := 60) d_prog_107_method_1_59 rfl rfl rfl ?_
  refine Own.getfield (pc' := 63) d_prog_107_method_1_60 rfl (host := "") (Or.inl (hw _ (List.mem_of_getElem? (i := 10) rfl))) Via.refl f174 ?_
  refine Own.iconst (pc' := 64) (v := (1 : Int32)) d_prog_107_method_1_63 (by decide) rfl ?_
  refine Own.isubE (pc' := 65) d_prog_107_method_1_64 rfl (z := (3 : Int32)) (by decide) ?_
  refine Own.istoreN (pc' := 66) (L1 := #[.val (.ref a), .val (.ref b), .val (.int (4 : Int32)), .val (.int (3 : Int32))]) d_prog_107_method_1_65 rfl rfl ?_
  refine Own.iloadN (pc' := 67) d_prog_107_method_1_66 rfl rfl ?_
  refine Own.if_le (pc' := 103) (pc2 := 70) d_prog_107_method_1_67 (by decide) (by decide) rfl (fun q => absurd q (by decide)) (fun _ => ?_)
  refine Own.aloadN (pc' := 71) d_prog_107_method_1_70 rfl rfl rfl ?_
  refine Own.getfield (pc' := 74) d_prog_107_method_1_71 rfl (host := "") (Or.inl (hw _ (List.mem_of_getElem? (i := 14) rfl))) Via.refl f176 ?_
  refine Own.iloadN (pc' := 75) d_prog_107_method_1_74 rfl rfl ?_
  refine Own.aloadN (pc' := 76) d_prog_107_method_1_75 rfl rfl rfl ?_
  refine Own.getfield (pc' := 79) d_prog_107_method_1_76 rfl (host := "") (Or.inl (hw _ (List.mem_of_getElem? (i := 14) rfl))) Via.refl f176 ?_
  refine Own.iconst (pc' := 80) (v := (2 : Int32)) d_prog_107_method_1_79 (by decide) rfl ?_
  refine Own.iloadN (pc' := 81) d_prog_107_method_1_80 rfl rfl ?_
  refine Own.imulE (pc' := 82) d_prog_107_method_1_81 rfl (z := (6 : Int32)) (by decide) ?_
  refine Own.laload (pc' := 83) (i := 6) d_prog_107_method_1_82 rfl Ah173 (by decide) (by decide) ?_
  show Go K _ _ _ _ _ _ _ _ _ 1 8 h173 83 #[.val (.ref a), .val (.ref b), .val (.int (4 : Int32)), .val (.int (3 : Int32))] [(.long x2), (.int (3 : Int32)), (.ref a159)]
  refine Own.aloadN (pc' := 84) d_prog_107_method_1_83 rfl rfl rfl ?_
  refine Own.getfield (pc' := 87) d_prog_107_method_1_84 rfl (host := "") (Or.inl (hw _ (List.mem_of_getElem? (i := 14) rfl))) Via.refl f176 ?_
  refine Own.iconst (pc' := 88) (v := (2 : Int32)) d_prog_107_method_1_87 (by decide) rfl ?_
  refine Own.iloadN (pc' := 89) d_prog_107_method_1_88 rfl rfl ?_
  refine Own.imulE (pc' := 90) d_prog_107_method_1_89 rfl (z := (6 : Int32)) (by decide) ?_
  refine Own.iconst (pc' := 91) (v := (1 : Int32)) d_prog_107_method_1_90 (by decide) rfl ?_
  refine Own.iaddE (pc' := 92) d_prog_107_method_1_91 rfl (z := (7 : Int32)) (by decide) ?_
  refine Own.laload (pc' := 93) (i := 7) d_prog_107_method_1_92 rfl Ah173 (by decide) (by decide) ?_
  show Go K _ _ _ _ _ _ _ _ _ 1 8 h173 93 #[.val (.ref a), .val (.ref b), .val (.int (4 : Int32)), .val (.int (3 : Int32))] [(.long (0 : Int64)), (.long x2), (.int (3 : Int32)), (.ref a159)]
  refine Own.static (pc' := 96) (y := (⟨"java/lang/Math", "max", "(JJ)J"⟩ : MethodName)) (rm' := ({ frames := 0, cells := 0, slots := 0, locals := 0 } : Room)) (W := 2) (as := [(.long x2), (.long (0 : Int64))]) (rest := [(.int (3 : Int32)), (.ref a159)]) d_prog_107_method_1_93 rfl (hw _ (List.mem_of_getElem? (i := 29) rfl)) (hw _ (List.mem_of_getElem? (i := 30) rfl)) (hw _ (List.mem_of_getElem? (i := 31) rfl)) (hw _ (List.mem_of_getElem? (i := 32) rfl)) (by decide) (c_own_max Z a0 hw n0 h173 Zh173 x2 (0 : Int64)   ) rfl rfl (lenOf pd_0 rfl) (by decide) rfl (by decide) (by decide) (by decide) fun r185 h184 qh184 => ?_
  obtain ⟨e1, v186, e2, hv186⟩ := qh184
  subst e1 e2
  show Go K _ _ _ _ _ _ _ _ _ 1 8 h173 96 #[.val (.ref a), .val (.ref b), .val (.int (4 : Int32)), .val (.int (3 : Int32))] [(.long v186), (.int (3 : Int32)), (.ref a159)]
  refine Own.lastore (pc' := 97) (i := 3) d_prog_107_method_1_96 rfl Ah173 Ga159 (by decide) (by decide) fun h187 Wh187 Ah187 => ?_
  have f188 := f174.other Wh187 (Or.inl ne_a_a159)
  have f189 := f175.other Wh187 (Or.inl ne_a_a159)
  have f190 := f176.other Wh187 (Or.inl ne_a_a159)
  have f191 := f177.wr Wh187
  have f192 := f178.other Wh187 ne_b_a159
  have Zh187 : n0 ≤ h187.size := by rw [Wh187.size]; exact Zh173
  have Kh187 := Kh173.wr Wh187 (Or.inr (hs_a159))
  refine Own.iincE (pc' := 100) (L1 := fun zz => #[.val (.ref a), .val (.ref b), .val (.int (4 : Int32)), .val (.int zz)]) d_prog_107_method_1_97 rfl (fun _ => rfl) rfl (z := (2 : Int32)) (by decide) ?_
  show Go K _ _ _ _ _ _ _ _ _ 1 8 h187 100 #[.val (.ref a), .val (.ref b), .val (.int (4 : Int32)), .val (.int (2 : Int32))] []
  refine Own.goto (pc' := 66) d_prog_107_method_1_100 (by decide) (by decide) ?_
  refine Own.iloadN (pc' := 67) d_prog_107_method_1_66 rfl rfl ?_
  refine Own.if_le (pc' := 103) (pc2 := 70) d_prog_107_method_1_67 (by decide) (by decide) rfl (fun q => absurd q (by decide)) (fun _ => ?_)
  refine Own.aloadN (pc' := 71) d_prog_107_method_1_70 rfl rfl rfl ?_
  refine Own.getfield (pc' := 74) d_prog_107_method_1_71 rfl (host := "") (Or.inl (hw _ (List.mem_of_getElem? (i := 14) rfl))) Via.refl f190 ?_
  refine Own.iloadN (pc' := 75) d_prog_107_method_1_74 rfl rfl ?_
  refine Own.aloadN (pc' := 76) d_prog_107_method_1_75 rfl rfl rfl ?_
  refine Own.getfield (pc' := 79) d_prog_107_method_1_76 rfl (host := "") (Or.inl (hw _ (List.mem_of_getElem? (i := 14) rfl))) Via.refl f190 ?_
  refine Own.iconst (pc' := 80) (v := (2 : Int32)) d_prog_107_method_1_79 (by decide) rfl ?_
  refine Own.iloadN (pc' := 81) d_prog_107_method_1_80 rfl rfl ?_
  refine Own.imulE (pc' := 82) d_prog_107_method_1_81 rfl (z := (4 : Int32)) (by decide) ?_
  refine Own.laload (pc' := 83) (i := 4) d_prog_107_method_1_82 rfl Ah187 (by decide) (by decide) ?_
  show Go K _ _ _ _ _ _ _ _ _ 1 8 h187 83 #[.val (.ref a), .val (.ref b), .val (.int (4 : Int32)), .val (.int (2 : Int32))] [(.long x0), (.int (2 : Int32)), (.ref a159)]
  refine Own.aloadN (pc' := 84) d_prog_107_method_1_83 rfl rfl rfl ?_
  refine Own.getfield (pc' := 87) d_prog_107_method_1_84 rfl (host := "") (Or.inl (hw _ (List.mem_of_getElem? (i := 14) rfl))) Via.refl f190 ?_
  refine Own.iconst (pc' := 88) (v := (2 : Int32)) d_prog_107_method_1_87 (by decide) rfl ?_
  refine Own.iloadN (pc' := 89) d_prog_107_method_1_88 rfl rfl ?_
  refine Own.imulE (pc' := 90) d_prog_107_method_1_89 rfl (z := (4 : Int32)) (by decide) ?_
  refine Own.iconst (pc' := 91) (v := (1 : Int32)) d_prog_107_method_1_90 (by decide) rfl ?_
  refine Own.iaddE (pc' := 92) d_prog_107_method_1_91 rfl (z := (5 : Int32)) (by decide) ?_
  refine Own.laload (pc' := 93) (i := 5) d_prog_107_method_1_92 rfl Ah187 (by decide) (by decide) ?_
  show Go K _ _ _ _ _ _ _ _ _ 1 8 h187 93 #[.val (.ref a), .val (.ref b), .val (.int (4 : Int32)), .val (.int (2 : Int32))] [(.long x1), (.long x0), (.int (2 : Int32)), (.ref a159)]
  refine Own.static (pc' := 96) (y := (⟨"java/lang/Math", "max", "(JJ)J"⟩ : MethodName)) (rm' := ({ frames := 0, cells := 0, slots := 0, locals := 0 } : Room)) (W := 2) (as := [(.long x0), (.long x1)]) (rest := [(.int (2 : Int32)), (.ref a159)]) d_prog_107_method_1_93 rfl (hw _ (List.mem_of_getElem? (i := 29) rfl)) (hw _ (List.mem_of_getElem? (i := 30) rfl)) (hw _ (List.mem_of_getElem? (i := 31) rfl)) (hw _ (List.mem_of_getElem? (i := 32) rfl)) (by decide) (c_own_max Z a0 hw n0 h187 Zh187 x0 x1   ) rfl rfl (lenOf pd_0 rfl) (by decide) rfl (by decide) (by decide) (by decide) fun r199 h198 qh198 => ?_
  obtain ⟨e1, v200, e2, hv200⟩ := qh198
  subst e1 e2
  show Go K _ _ _ _ _ _ _ _ _ 1 8 h187 96 #[.val (.ref a), .val (.ref b), .val (.int (4 : Int32)), .val (.int (2 : Int32))] [(.long v200), (.int (2 : Int32)), (.ref a159)]
  refine Own.lastore (pc' := 97) (i := 2) d_prog_107_method_1_96 rfl Ah187 Ga159 (by decide) (by decide) fun h201 Wh201 Ah201 => ?_
  have f202 := f188.other Wh201 (Or.inl ne_a_a159)
  have f203 := f189.other Wh201 (Or.inl ne_a_a159)
  have f204 := f190.other Wh201 (Or.inl ne_a_a159)
  have f205 := f191.wr Wh201
  have f206 := f192.other Wh201 ne_b_a159
  have Zh201 : n0 ≤ h201.size := by rw [Wh201.size]; exact Zh187
  have Kh201 := Kh187.wr Wh201 (Or.inr (hs_a159))
  refine Own.iincE (pc' := 100) (L1 := fun zz => #[.val (.ref a), .val (.ref b), .val (.int (4 : Int32)), .val (.int zz)]) d_prog_107_method_1_97 rfl (fun _ => rfl) rfl (z := (1 : Int32)) (by decide) ?_
  show Go K _ _ _ _ _ _ _ _ _ 1 8 h201 100 #[.val (.ref a), .val (.ref b), .val (.int (4 : Int32)), .val (.int (1 : Int32))] []
  refine Own.goto (pc' := 66) d_prog_107_method_1_100 (by decide) (by decide) ?_
  refine Own.iloadN (pc' := 67) d_prog_107_method_1_66 rfl rfl ?_
  refine Own.if_le (pc' := 103) (pc2 := 70) d_prog_107_method_1_67 (by decide) (by decide) rfl (fun q => absurd q (by decide)) (fun _ => ?_)
  refine Own.aloadN (pc' := 71) d_prog_107_method_1_70 rfl rfl rfl ?_
  refine Own.getfield (pc' := 74) d_prog_107_method_1_71 rfl (host := "") (Or.inl (hw _ (List.mem_of_getElem? (i := 14) rfl))) Via.refl f204 ?_
  refine Own.iloadN (pc' := 75) d_prog_107_method_1_74 rfl rfl ?_
  refine Own.aloadN (pc' := 76) d_prog_107_method_1_75 rfl rfl rfl ?_
  refine Own.getfield (pc' := 79) d_prog_107_method_1_76 rfl (host := "") (Or.inl (hw _ (List.mem_of_getElem? (i := 14) rfl))) Via.refl f204 ?_
  refine Own.iconst (pc' := 80) (v := (2 : Int32)) d_prog_107_method_1_79 (by decide) rfl ?_
  refine Own.iloadN (pc' := 81) d_prog_107_method_1_80 rfl rfl ?_
  refine Own.imulE (pc' := 82) d_prog_107_method_1_81 rfl (z := (2 : Int32)) (by decide) ?_
  refine Own.laload (pc' := 83) (i := 2) d_prog_107_method_1_82 rfl Ah201 (by decide) (by decide) ?_
  show Go K _ _ _ _ _ _ _ _ _ 1 8 h201 83 #[.val (.ref a), .val (.ref b), .val (.int (4 : Int32)), .val (.int (1 : Int32))] [(.long v200), (.int (1 : Int32)), (.ref a159)]
  refine Own.aloadN (pc' := 84) d_prog_107_method_1_83 rfl rfl rfl ?_
  refine Own.getfield (pc' := 87) d_prog_107_method_1_84 rfl (host := "") (Or.inl (hw _ (List.mem_of_getElem? (i := 14) rfl))) Via.refl f204 ?_
  refine Own.iconst (pc' := 88) (v := (2 : Int32)) d_prog_107_method_1_87 (by decide) rfl ?_
  refine Own.iloadN (pc' := 89) d_prog_107_method_1_88 rfl rfl ?_
  refine Own.imulE (pc' := 90) d_prog_107_method_1_89 rfl (z := (2 : Int32)) (by decide) ?_
  refine Own.iconst (pc' := 91) (v := (1 : Int32)) d_prog_107_method_1_90 (by decide) rfl ?_
  refine Own.iaddE (pc' := 92) d_prog_107_method_1_91 rfl (z := (3 : Int32)) (by decide) ?_
  refine Own.laload (pc' := 93) (i := 3) d_prog_107_method_1_92 rfl Ah201 (by decide) (by decide) ?_
  show Go K _ _ _ _ _ _ _ _ _ 1 8 h201 93 #[.val (.ref a), .val (.ref b), .val (.int (4 : Int32)), .val (.int (1 : Int32))] [(.long v186), (.long v200), (.int (1 : Int32)), (.ref a159)]
  refine Own.static (pc' := 96) (y := (⟨"java/lang/Math", "max", "(JJ)J"⟩ : MethodName)) (rm' := ({ frames := 0, cells := 0, slots := 0, locals := 0 } : Room)) (W := 2) (as := [(.long v200), (.long v186)]) (rest := [(.int (1 : Int32)), (.ref a159)]) d_prog_107_method_1_93 rfl (hw _ (List.mem_of_getElem? (i := 29) rfl)) (hw _ (List.mem_of_getElem? (i := 30) rfl)) (hw _ (List.mem_of_getElem? (i := 31) rfl)) (hw _ (List.mem_of_getElem? (i := 32) rfl)) (by decide) (c_own_max Z a0 hw n0 h201 Zh201 v200 v186   ) rfl rfl (lenOf pd_0 rfl) (by decide) rfl (by decide) (by decide) (by decide) fun r213 h212 qh212 => ?_
  obtain ⟨e1, v214, e2, hv214⟩ := qh212
  subst e1 e2
  show Go K _ _ _ _ _ _ _ _ _ 1 8 h201 96 #[.val (.ref a), .val (.ref b), .val (.int (4 : Int32)), .val (.int (1 : Int32))] [(.long v214), (.int (1 : Int32)), (.ref a159)]
  refine Own.lastore (pc' := 97) (i := 1) d_prog_107_method_1_96 rfl Ah201 Ga159 (by decide) (by decide) fun h215 Wh215 Ah215 => ?_
  have f216 := f202.other Wh215 (Or.inl ne_a_a159)
  have f217 := f203.other Wh215 (Or.inl ne_a_a159)
  have f218 := f204.other Wh215 (Or.inl ne_a_a159)
  have f219 := f205.wr Wh215
  have f220 := f206.other Wh215 ne_b_a159
  have Zh215 : n0 ≤ h215.size := by rw [Wh215.size]; exact Zh201
  have Kh215 := Kh201.wr Wh215 (Or.inr (hs_a159))
  refine Own.iincE (pc' := 100) (L1 := fun zz => #[.val (.ref a), .val (.ref b), .val (.int (4 : Int32)), .val (.int zz)]) d_prog_107_method_1_97 rfl (fun _ => rfl) rfl (z := (0 : Int32)) (by decide) ?_
  show Go K _ _ _ _ _ _ _ _ _ 1 8 h215 100 #[.val (.ref a), .val (.ref b), .val (.int (4 : Int32)), .val (.int (0 : Int32))] []
  refine Own.goto (pc' := 66) d_prog_107_method_1_100 (by decide) (by decide) ?_
  refine Own.iloadN (pc' := 67) d_prog_107_method_1_66 rfl rfl ?_
  refine Own.if_le (pc' := 103) (pc2 := 70) d_prog_107_method_1_67 (by decide) (by decide) rfl (fun _ => ?_) (fun q => absurd (by decide) q)
  subst hv186 hv200 hv214
  have Af := (Ah215).cong (g := own_nd3 x0 x1 x2 x3 x4) (fun k hk => by have hk' : k = 0 ∨ k = 1 ∨ k = 2 ∨ k = 3 ∨ k = 4 ∨ k = 5 ∨ k = 6 ∨ k = 7 := (by omega); rcases hk' with rfl | rfl | rfl | rfl | rfl | rfl | rfl | rfl <;> simp [ownSet, own_vals, own_nd3])
  exact Own.vreturn d_prog_107_method_1_103 rfl (⟨rfl, a159, Kh215, hs_a159, f219, f216, f217, f218, Af⟩) (by decide) (by decide)
theorem own_nd3_0 (x0 x1 x2 x3 x4 : Int64) : own_nd3 x0 x1 x2 x3 x4 0 = (0 : Int64) := by simp [own_nd3]
theorem own_nd3_1 (x0 x1 x2 x3 x4 : Int64) : own_nd3 x0 x1 x2 x3 x4 1 = (own_max (own_max x0 x1) (own_max x2 (0 : Int64))) := by simp [own_nd3]
theorem own_nd3_2 (x0 x1 x2 x3 x4 : Int64) : own_nd3 x0 x1 x2 x3 x4 2 = (own_max x0 x1) := by simp [own_nd3]
theorem own_nd3_3 (x0 x1 x2 x3 x4 : Int64) : own_nd3 x0 x1 x2 x3 x4 3 = (own_max x2 (0 : Int64)) := by simp [own_nd3]
theorem own_nd3_4 (x0 x1 x2 x3 x4 : Int64) : own_nd3 x0 x1 x2 x3 x4 4 = x0 := by simp [own_nd3]
theorem own_nd3_5 (x0 x1 x2 x3 x4 : Int64) : own_nd3 x0 x1 x2 x3 x4 5 = x1 := by simp [own_nd3]
theorem own_nd3_6 (x0 x1 x2 x3 x4 : Int64) : own_nd3 x0 x1 x2 x3 x4 6 = x2 := by simp [own_nd3]
theorem own_nd3_7 (x0 x1 x2 x3 x4 : Int64) : own_nd3 x0 x1 x2 x3 x4 7 = (0 : Int64) := by simp [own_nd3]
def own_nd4 (x0 x1 x2 x3 x4 : Int64) : Nat → Int64 := fun t => if t = 0 then (0 : Int64) else if t = 1 then (own_max (own_max x0 x1) (own_max x2 x3)) else if t = 2 then (own_max x0 x1) else if t = 3 then (own_max x2 x3) else if t = 4 then x0 else if t = 5 then x1 else if t = 6 then x2 else if t = 7 then x3 else 0
set_option maxRecDepth 65536 in
set_option maxHeartbeats 40000000 in
theorem c_own_mt4 (Z : State) (a0 : Array Value) (hw : ∀ d ∈ tables_1, d.before a0 Z = true) (n0 : Nat) (h : Heap) (hZ0 : n0 ≤ h.size) (a : Addr) (b : Addr) (x0 x1 x2 x3 x4 : Int64) (E : Exa Z h a "com/example/coldtail/coldtail/segment/MaxTree") (F_leaves : Fld Z h a "com/example/coldtail/coldtail/segment/MaxTree" "leaves" "I" (.int (0 : Int32))) (F_count : Fld Z h a "com/example/coldtail/coldtail/segment/MaxTree" "count" "I" (.int (0 : Int32))) (F_nodes : Fld Z h a "com/example/coldtail/coldtail/segment/MaxTree" "nodes" "[J" .null) (g_a : n0 ≤ a) (hne : b ≠ a) (A : AJ Z h b 4 (own_vals x0 x1 x2 x3 x4)) :
    Con Z n0 (⟨"com/example/coldtail/coldtail/segment/MaxTree", "<init>", "([J)V"⟩ : MethodName) prog_107_method_1_code 4 none ({ frames := 1, cells := 1, slots := 16, locals := 40 } : Room) [(.ref a), (.ref b)] h (fun v h' => v = none ∧ ∃ r, Keep h h' [a] ∧ h.size ≤ r ∧ Exa Z h' a "com/example/coldtail/coldtail/segment/MaxTree" ∧ Fld Z h' a "com/example/coldtail/coldtail/segment/MaxTree" "leaves" "I" (.int (4 : Int32)) ∧ Fld Z h' a "com/example/coldtail/coldtail/segment/MaxTree" "count" "I" (.int (4 : Int32)) ∧ Fld Z h' a "com/example/coldtail/coldtail/segment/MaxTree" "nodes" "[J" (.ref r) ∧ AJ Z h' r 8 (own_nd4 x0 x1 x2 x3 x4)) := by
  refine Own.enter (plainFor_of_name pn_1) (L0 := #[.val (.ref a), .val (.ref b), .unset, .unset]) (fun m => by first | (simp [entryFrame, mkF, argsToLocals, Value.category]; done) | rfl) fun K => ?_
  show Go K _ _ _ _ _ _ "com/example/coldtail/coldtail/segment/MaxTree" "<init>" _ 0 0 h 0 #[.val (.ref a), .val (.ref b), .unset, .unset] []
  refine Own.aloadN (pc' := 1) d_prog_107_method_1_0 rfl rfl rfl ?_
  refine Own.objinit (pc' := 4) d_prog_107_method_1_1 rfl (hw _ (List.mem_of_getElem? (i := 7) rfl)) (hw _ (List.mem_of_getElem? (i := 8) rfl)) (hw _ (List.mem_of_getElem? (i := 9) rfl)) rfl (by decide) (W := 0) rfl (by decide) ?_
  refine Own.iconst (pc' := 5) (v := (1 : Int32)) d_prog_107_method_1_4 (by decide) rfl ?_
  refine Own.istoreN (pc' := 6) (L1 := #[.val (.ref a), .val (.ref b), .val (.int (1 : Int32)), .unset]) d_prog_107_method_1_5 rfl rfl ?_
  refine Own.iloadN (pc' := 7) d_prog_107_method_1_6 rfl rfl ?_
  refine Own.aloadN (pc' := 8) d_prog_107_method_1_7 rfl rfl rfl ?_
  refine Own.lenJ (pc' := 9) d_prog_107_method_1_8 rfl A fun v223 hv223 => ?_
  obtain rfl : v223 = (4 : Int32) := Int32.toInt_inj.mp (hv223.trans (by decide))
  refine Own.icmp_ge (pc' := 19) (pc2 := 12) d_prog_107_method_1_9 (by decide) (by decide) rfl (fun q => absurd q (by decide)) (fun _ => ?_)
  refine Own.iloadN (pc' := 13) d_prog_107_method_1_12 rfl rfl ?_
  refine Own.iconst (pc' := 14) (v := (2 : Int32)) d_prog_107_method_1_13 (by decide) rfl ?_
  refine Own.imulE (pc' := 15) d_prog_107_method_1_14 rfl (z := (2 : Int32)) (by decide) ?_
  refine Own.istoreN (pc' := 16) (L1 := #[.val (.ref a), .val (.ref b), .val (.int (2 : Int32)), .unset]) d_prog_107_method_1_15 rfl rfl ?_
  refine Own.goto (pc' := 6) d_prog_107_method_1_16 (by decide) (by decide) ?_
  refine Own.iloadN (pc' := 7) d_prog_107_method_1_6 rfl rfl ?_
  refine Own.aloadN (pc' := 8) d_prog_107_method_1_7 rfl rfl rfl ?_
  refine Own.lenJ (pc' := 9) d_prog_107_method_1_8 rfl A fun v226 hv226 => ?_
  obtain rfl : v226 = (4 : Int32) := Int32.toInt_inj.mp (hv226.trans (by decide))
  refine Own.icmp_ge (pc' := 19) (pc2 := 12) d_prog_107_method_1_9 (by decide) (by decide) rfl (fun q => absurd q (by decide)) (fun _ => ?_)
  refine Own.iloadN (pc' := 13) d_prog_107_method_1_12 rfl rfl ?_
  refine Own.iconst (pc' := 14) (v := (2 : Int32)) d_prog_107_method_1_13 (by decide) rfl ?_
  refine Own.imulE (pc' := 15) d_prog_107_method_1_14 rfl (z := (4 : Int32)) (by decide) ?_
  refine Own.istoreN (pc' := 16) (L1 := #[.val (.ref a), .val (.ref b), .val (.int (4 : Int32)), .unset]) d_prog_107_method_1_15 rfl rfl ?_
  refine Own.goto (pc' := 6) d_prog_107_method_1_16 (by decide) (by decide) ?_
  refine Own.iloadN (pc' := 7) d_prog_107_method_1_6 rfl rfl ?_
  refine Own.aloadN (pc' := 8) d_prog_107_method_1_7 rfl rfl rfl ?_
  refine Own.lenJ (pc' := 9) d_prog_107_method_1_8 rfl A fun v229 hv229 => ?_
  obtain rfl : v229 = (4 : Int32) := Int32.toInt_inj.mp (hv229.trans (by decide))
  refine Own.icmp_ge (pc' := 19) (pc2 := 12) d_prog_107_method_1_9 (by decide) (by decide) rfl (fun _ => ?_) (fun q => absurd (by decide) q)
  refine Own.aloadN (pc' := 20) d_prog_107_method_1_19 rfl rfl rfl ?_
  refine Own.iloadN (pc' := 21) d_prog_107_method_1_20 rfl rfl ?_
  refine Own.putfield (pc' := 24) d_prog_107_method_1_21 rfl (host := "") (Or.inl (hw _ (List.mem_of_getElem? (i := 10) rfl))) Via.refl F_leaves E (Or.inr ⟨(hw _ (List.mem_of_getElem? (i := 11) rfl)), rfl, rfl⟩) (hw _ (List.mem_of_getElem? (i := 2) rfl)) (ty := .int) (by decide) rfl rfl g_a fun h231 Wh231 => ?_
  have f232 := F_leaves.same Wh231
  have f233 := F_count.other Wh231 (Or.inr (slot_ne (Or.inr (hw _ (List.mem_of_getElem? (i := 13) rfl))) (Or.inr (hw _ (List.mem_of_getElem? (i := 11) rfl))) (by decide) (t := .int) (t' := .int) (by decide) (by decide)))
  have f234 := F_nodes.other Wh231 (Or.inr (slot_ne (Or.inr (hw _ (List.mem_of_getElem? (i := 15) rfl))) (Or.inr (hw _ (List.mem_of_getElem? (i := 11) rfl))) (by decide) (t := (.array .long)) (t' := .int) (by decide) (by decide)))
  have f235 := E.wr Wh231
  have f236 := A.other Wh231 hne
  have Zh231 : n0 ≤ h231.size := by rw [Wh231.size]; exact hZ0
  have Kh231 := (Keep.refl h [a]).wr Wh231 (Or.inl (by simp))
  refine Own.aloadN (pc' := 25) d_prog_107_method_1_24 rfl rfl rfl ?_
  refine Own.aloadN (pc' := 26) d_prog_107_method_1_25 rfl rfl rfl ?_
  refine Own.lenJ (pc' := 27) d_prog_107_method_1_26 rfl f236 fun v237 hv237 => ?_
  obtain rfl : v237 = (4 : Int32) := Int32.toInt_inj.mp (hv237.trans (by decide))
  refine Own.putfield (pc' := 30) d_prog_107_method_1_27 rfl (host := "") (Or.inl (hw _ (List.mem_of_getElem? (i := 12) rfl))) Via.refl f233 f235 (Or.inr ⟨(hw _ (List.mem_of_getElem? (i := 13) rfl)), rfl, rfl⟩) (hw _ (List.mem_of_getElem? (i := 2) rfl)) (ty := .int) (by decide) rfl rfl g_a fun h238 Wh238 => ?_
  have f239 := f232.other Wh238 (Or.inr (slot_ne (Or.inr (hw _ (List.mem_of_getElem? (i := 11) rfl))) (Or.inr (hw _ (List.mem_of_getElem? (i := 13) rfl))) (by decide) (t := .int) (t' := .int) (by decide) (by decide)))
  have f240 := f233.same Wh238
  have f241 := f234.other Wh238 (Or.inr (slot_ne (Or.inr (hw _ (List.mem_of_getElem? (i := 15) rfl))) (Or.inr (hw _ (List.mem_of_getElem? (i := 13) rfl))) (by decide) (t := (.array .long)) (t' := .int) (by decide) (by decide)))
  have f242 := f235.wr Wh238
  have f243 := f236.other Wh238 hne
  have Zh238 : n0 ≤ h238.size := by rw [Wh238.size]; exact Zh231
  have Kh238 := Kh231.wr Wh238 (Or.inl (by simp))
  refine Own.aloadN (pc' := 31) d_prog_107_method_1_30 rfl rfl rfl ?_
  refine Own.iconst (pc' := 32) (v := (2 : Int32)) d_prog_107_method_1_31 (by decide) rfl ?_
  refine Own.aloadN (pc' := 33) d_prog_107_method_1_32 rfl rfl rfl ?_
  refine Own.getfield (pc' := 36) d_prog_107_method_1_33 rfl (host := "") (Or.inl (hw _ (List.mem_of_getElem? (i := 10) rfl))) Via.refl f239 ?_
  refine Own.imulE (pc' := 37) d_prog_107_method_1_36 rfl (z := (8 : Int32)) (by decide) ?_
  refine Own.newJ (pc' := 39) (n := 8) (cap := 8) d_prog_107_method_1_37 rfl (hw _ (List.mem_of_getElem? (i := 0) rfl)) (by decide) (by decide) (by decide) (by decide) (by decide) fun a245 h246 ga245 Eh246 Aa245 => ?_
  have ne_a_a245 : a ≠ a245 := Nat.ne_of_lt (ga245 ▸ (f242).lt)
  have ne_b_a245 : b ≠ a245 := Nat.ne_of_lt (ga245 ▸ (f243).lt)
  have Ga245 : n0 ≤ a245 := by rw [ga245]; exact Zh238
  have hs_a245 := Nat.le_trans Kh238.1 (Nat.le_of_eq ga245.symm)
  have Zh246 : n0 ≤ h246.size := Nat.le_trans Zh238 Eh246.1
  have f247 := f239.ext Eh246
  have f248 := f240.ext Eh246
  have f249 := f241.ext Eh246
  have f250 := f242.ext Eh246
  have f251 := f243.ext Eh246
  have Kh246 := Kh238.ext Eh246
  show Go K _ _ _ _ _ _ _ _ _ 1 8 h246 39 #[.val (.ref a), .val (.ref b), .val (.int (4 : Int32)), .unset] [(.ref a245), (.ref a)]
  refine Own.putfield (pc' := 42) d_prog_107_method_1_39 rfl (host := "") (Or.inl (hw _ (List.mem_of_getElem? (i := 14) rfl))) Via.refl f249 f250 (Or.inr ⟨(hw _ (List.mem_of_getElem? (i := 15) rfl)), rfl, rfl⟩) (hw _ (List.mem_of_getElem? (i := 2) rfl)) (ty := (.array .long)) (by decide) rfl rfl g_a fun h252 Wh252 => ?_
  have f253 := f247.other Wh252 (Or.inr (slot_ne (Or.inr (hw _ (List.mem_of_getElem? (i := 11) rfl))) (Or.inr (hw _ (List.mem_of_getElem? (i := 15) rfl))) (by decide) (t := .int) (t' := (.array .long)) (by decide) (by decide)))
  have f254 := f248.other Wh252 (Or.inr (slot_ne (Or.inr (hw _ (List.mem_of_getElem? (i := 13) rfl))) (Or.inr (hw _ (List.mem_of_getElem? (i := 15) rfl))) (by decide) (t := .int) (t' := (.array .long)) (by decide) (by decide)))
  have f255 := f249.same Wh252
  have f256 := f250.wr Wh252
  have f257 := f251.other Wh252 hne
  have f258 := Aa245.other Wh252 (Ne.symm ne_a_a245)
  have Zh252 : n0 ≤ h252.size := by rw [Wh252.size]; exact Zh246
  have Kh252 := Kh246.wr Wh252 (Or.inl (by simp))
  refine Own.aloadN (pc' := 43) d_prog_107_method_1_42 rfl rfl rfl ?_
  refine Own.iconst (pc' := 44) (v := (0 : Int32)) d_prog_107_method_1_43 (by decide) rfl ?_
  refine Own.aloadN (pc' := 45) d_prog_107_method_1_44 rfl rfl rfl ?_
  refine Own.getfield (pc' := 48) d_prog_107_method_1_45 rfl (host := "") (Or.inl (hw _ (List.mem_of_getElem? (i := 14) rfl))) Via.refl f255 ?_
  refine Own.aloadN (pc' := 49) d_prog_107_method_1_48 rfl rfl rfl ?_
  refine Own.getfield (pc' := 52) d_prog_107_method_1_49 rfl (host := "") (Or.inl (hw _ (List.mem_of_getElem? (i := 10) rfl))) Via.refl f253 ?_
  refine Own.aloadN (pc' := 53) d_prog_107_method_1_52 rfl rfl rfl ?_
  refine Own.getfield (pc' := 56) d_prog_107_method_1_53 rfl (host := "") (Or.inl (hw _ (List.mem_of_getElem? (i := 12) rfl))) Via.refl f254 ?_
  refine Own.arraycopyJ (pc' := 59) (i := 0) (j := 4) (k := 4) (W := 0) d_prog_107_method_1_56 rfl (hw _ (List.mem_of_getElem? (i := 16) rfl)) (hw _ (List.mem_of_getElem? (i := 19) rfl)) (hw _ (List.mem_of_getElem? (i := 17) rfl)) (hw _ (List.mem_of_getElem? (i := 18) rfl)) f257 f258 (by decide) (by decide) (by decide) (by decide) (by decide) Ga245 rfl (by decide) rfl (by decide) fun h259 Kh259 Ah259 => ?_
  have f260 := f253.keep Kh259 (ninS ne_a_a245 nin0)
  have f261 := f254.keep Kh259 (ninS ne_a_a245 nin0)
  have f262 := f255.keep Kh259 (ninS ne_a_a245 nin0)
  have f263 := f256.keep Kh259
  have f264 := f257.keep Kh259 (ninS ne_b_a245 nin0)
  have Zh259 : n0 ≤ h259.size := Nat.le_trans Zh252 Kh259.1
  have Kh259 := Kh252.trans Kh259 (allS (Or.inr hs_a245) all0)
  refine Own.aloadN (pc' := 60) d_prog_107_method_1_59 rfl rfl rfl ?_
  refine Own.getfield (pc' := 63) d_prog_107_method_1_60 rfl (host := "") (Or.inl (hw _ (List.mem_of_getElem? (i := 10) rfl))) Via.refl f260 ?_
  refine Own.iconst (pc' := 64) (v := (1 : Int32)) d_prog_107_method_1_63 (by decide) rfl ?_
  refine Own.isubE (pc' := 65) d_prog_107_method_1_64 rfl (z := (3 : Int32)) (by decide) ?_
  refine Own.istoreN (pc' := 66) (L1 := #[.val (.ref a), .val (.ref b), .val (.int (4 : Int32)), .val (.int (3 : Int32))]) d_prog_107_method_1_65 rfl rfl ?_
  refine Own.iloadN (pc' := 67) d_prog_107_method_1_66 rfl rfl ?_
  refine Own.if_le (pc' := 103) (pc2 := 70) d_prog_107_method_1_67 (by decide) (by decide) rfl (fun q => absurd q (by decide)) (fun _ => ?_)
  refine Own.aloadN (pc' := 71) d_prog_107_method_1_70 rfl rfl rfl ?_
  refine Own.getfield (pc' := 74) d_prog_107_method_1_71 rfl (host := "") (Or.inl (hw _ (List.mem_of_getElem? (i := 14) rfl))) Via.refl f262 ?_
  refine Own.iloadN (pc' := 75) d_prog_107_method_1_74 rfl rfl ?_
  refine Own.aloadN (pc' := 76) d_prog_107_method_1_75 rfl rfl rfl ?_
  refine Own.getfield (pc' := 79) d_prog_107_method_1_76 rfl (host := "") (Or.inl (hw _ (List.mem_of_getElem? (i := 14) rfl))) Via.refl f262 ?_
  refine Own.iconst (pc' := 80) (v := (2 : Int32)) d_prog_107_method_1_79 (by decide) rfl ?_
  refine Own.iloadN (pc' := 81) d_prog_107_method_1_80 rfl rfl ?_
  refine Own.imulE (pc' := 82) d_prog_107_method_1_81 rfl (z := (6 : Int32)) (by decide) ?_
  refine Own.laload (pc' := 83) (i := 6) d_prog_107_method_1_82 rfl Ah259 (by decide) (by decide) ?_
  show Go K _ _ _ _ _ _ _ _ _ 1 8 h259 83 #[.val (.ref a), .val (.ref b), .val (.int (4 : Int32)), .val (.int (3 : Int32))] [(.long x2), (.int (3 : Int32)), (.ref a245)]
  refine Own.aloadN (pc' := 84) d_prog_107_method_1_83 rfl rfl rfl ?_
  refine Own.getfield (pc' := 87) d_prog_107_method_1_84 rfl (host := "") (Or.inl (hw _ (List.mem_of_getElem? (i := 14) rfl))) Via.refl f262 ?_
  refine Own.iconst (pc' := 88) (v := (2 : Int32)) d_prog_107_method_1_87 (by decide) rfl ?_
  refine Own.iloadN (pc' := 89) d_prog_107_method_1_88 rfl rfl ?_
  refine Own.imulE (pc' := 90) d_prog_107_method_1_89 rfl (z := (6 : Int32)) (by decide) ?_
  refine Own.iconst (pc' := 91) (v := (1 : Int32)) d_prog_107_method_1_90 (by decide) rfl ?_
  refine Own.iaddE (pc' := 92) d_prog_107_method_1_91 rfl (z := (7 : Int32)) (by decide) ?_
  refine Own.laload (pc' := 93) (i := 7) d_prog_107_method_1_92 rfl Ah259 (by decide) (by decide) ?_
  show Go K _ _ _ _ _ _ _ _ _ 1 8 h259 93 #[.val (.ref a), .val (.ref b), .val (.int (4 : Int32)), .val (.int (3 : Int32))] [(.long x3), (.long x2), (.int (3 : Int32)), (.ref a245)]
  refine Own.static (pc' := 96) (y := (⟨"java/lang/Math", "max", "(JJ)J"⟩ : MethodName)) (rm' := ({ frames := 0, cells := 0, slots := 0, locals := 0 } : Room)) (W := 2) (as := [(.long x2), (.long x3)]) (rest := [(.int (3 : Int32)), (.ref a245)]) d_prog_107_method_1_93 rfl (hw _ (List.mem_of_getElem? (i := 29) rfl)) (hw _ (List.mem_of_getElem? (i := 30) rfl)) (hw _ (List.mem_of_getElem? (i := 31) rfl)) (hw _ (List.mem_of_getElem? (i := 32) rfl)) (by decide) (c_own_max Z a0 hw n0 h259 Zh259 x2 x3   ) rfl rfl (lenOf pd_0 rfl) (by decide) rfl (by decide) (by decide) (by decide) fun r271 h270 qh270 => ?_
  obtain ⟨e1, v272, e2, hv272⟩ := qh270
  subst e1 e2
  show Go K _ _ _ _ _ _ _ _ _ 1 8 h259 96 #[.val (.ref a), .val (.ref b), .val (.int (4 : Int32)), .val (.int (3 : Int32))] [(.long v272), (.int (3 : Int32)), (.ref a245)]
  refine Own.lastore (pc' := 97) (i := 3) d_prog_107_method_1_96 rfl Ah259 Ga245 (by decide) (by decide) fun h273 Wh273 Ah273 => ?_
  have f274 := f260.other Wh273 (Or.inl ne_a_a245)
  have f275 := f261.other Wh273 (Or.inl ne_a_a245)
  have f276 := f262.other Wh273 (Or.inl ne_a_a245)
  have f277 := f263.wr Wh273
  have f278 := f264.other Wh273 ne_b_a245
  have Zh273 : n0 ≤ h273.size := by rw [Wh273.size]; exact Zh259
  have Kh273 := Kh259.wr Wh273 (Or.inr (hs_a245))
  refine Own.iincE (pc' := 100) (L1 := fun zz => #[.val (.ref a), .val (.ref b), .val (.int (4 : Int32)), .val (.int zz)]) d_prog_107_method_1_97 rfl (fun _ => rfl) rfl (z := (2 : Int32)) (by decide) ?_
  show Go K _ _ _ _ _ _ _ _ _ 1 8 h273 100 #[.val (.ref a), .val (.ref b), .val (.int (4 : Int32)), .val (.int (2 : Int32))] []
  refine Own.goto (pc' := 66) d_prog_107_method_1_100 (by decide) (by decide) ?_
  refine Own.iloadN (pc' := 67) d_prog_107_method_1_66 rfl rfl ?_
  refine Own.if_le (pc' := 103) (pc2 := 70) d_prog_107_method_1_67 (by decide) (by decide) rfl (fun q => absurd q (by decide)) (fun _ => ?_)
  refine Own.aloadN (pc' := 71) d_prog_107_method_1_70 rfl rfl rfl ?_
  refine Own.getfield (pc' := 74) d_prog_107_method_1_71 rfl (host := "") (Or.inl (hw _ (List.mem_of_getElem? (i := 14) rfl))) Via.refl f276 ?_
  refine Own.iloadN (pc' := 75) d_prog_107_method_1_74 rfl rfl ?_
  refine Own.aloadN (pc' := 76) d_prog_107_method_1_75 rfl rfl rfl ?_
  refine Own.getfield (pc' := 79) d_prog_107_method_1_76 rfl (host := "") (Or.inl (hw _ (List.mem_of_getElem? (i := 14) rfl))) Via.refl f276 ?_
  refine Own.iconst (pc' := 80) (v := (2 : Int32)) d_prog_107_method_1_79 (by decide) rfl ?_
  refine Own.iloadN (pc' := 81) d_prog_107_method_1_80 rfl rfl ?_
  refine Own.imulE (pc' := 82) d_prog_107_method_1_81 rfl (z := (4 : Int32)) (by decide) ?_
  refine Own.laload (pc' := 83) (i := 4) d_prog_107_method_1_82 rfl Ah273 (by decide) (by decide) ?_
  show Go K _ _ _ _ _ _ _ _ _ 1 8 h273 83 #[.val (.ref a), .val (.ref b), .val (.int (4 : Int32)), .val (.int (2 : Int32))] [(.long x0), (.int (2 : Int32)), (.ref a245)]
  refine Own.aloadN (pc' := 84) d_prog_107_method_1_83 rfl rfl rfl ?_
  refine Own.getfield (pc' := 87) d_prog_107_method_1_84 rfl (host := "") (Or.inl (hw _ (List.mem_of_getElem? (i := 14) rfl))) Via.refl f276 ?_
  refine Own.iconst (pc' := 88) (v := (2 : Int32)) d_prog_107_method_1_87 (by decide) rfl ?_
  refine Own.iloadN (pc' := 89) d_prog_107_method_1_88 rfl rfl ?_
  refine Own.imulE (pc' := 90) d_prog_107_method_1_89 rfl (z := (4 : Int32)) (by decide) ?_
  refine Own.iconst (pc' := 91) (v := (1 : Int32)) d_prog_107_method_1_90 (by decide) rfl ?_
  refine Own.iaddE (pc' := 92) d_prog_107_method_1_91 rfl (z := (5 : Int32)) (by decide) ?_
  refine Own.laload (pc' := 93) (i := 5) d_prog_107_method_1_92 rfl Ah273 (by decide) (by decide) ?_
  show Go K _ _ _ _ _ _ _ _ _ 1 8 h273 93 #[.val (.ref a), .val (.ref b), .val (.int (4 : Int32)), .val (.int (2 : Int32))] [(.long x1), (.long x0), (.int (2 : Int32)), (.ref a245)]
  refine Own.static (pc' := 96) (y := (⟨"java/lang/Math", "max", "(JJ)J"⟩ : MethodName)) (rm' := ({ frames := 0, cells := 0, slots := 0, locals := 0 } : Room)) (W := 2) (as := [(.long x0), (.long x1)]) (rest := [(.int (2 : Int32)), (.ref a245)]) d_prog_107_method_1_93 rfl (hw _ (List.mem_of_getElem? (i := 29) rfl)) (hw _ (List.mem_of_getElem? (i := 30) rfl)) (hw _ (List.mem_of_getElem? (i := 31) rfl)) (hw _ (List.mem_of_getElem? (i := 32) rfl)) (by decide) (c_own_max Z a0 hw n0 h273 Zh273 x0 x1   ) rfl rfl (lenOf pd_0 rfl) (by decide) rfl (by decide) (by decide) (by decide) fun r285 h284 qh284 => ?_
  obtain ⟨e1, v286, e2, hv286⟩ := qh284
  subst e1 e2
  show Go K _ _ _ _ _ _ _ _ _ 1 8 h273 96 #[.val (.ref a), .val (.ref b), .val (.int (4 : Int32)), .val (.int (2 : Int32))] [(.long v286), (.int (2 : Int32)), (.ref a245)]
  refine Own.lastore (pc' := 97) (i := 2) d_prog_107_method_1_96 rfl Ah273 Ga245 (by decide) (by decide) fun h287 Wh287 Ah287 => ?_
  have f288 := f274.other Wh287 (Or.inl ne_a_a245)
  have f289 := f275.other Wh287 (Or.inl ne_a_a245)
  have f290 := f276.other Wh287 (Or.inl ne_a_a245)
  have f291 := f277.wr Wh287
  have f292 := f278.other Wh287 ne_b_a245
  have Zh287 : n0 ≤ h287.size := by rw [Wh287.size]; exact Zh273
  have Kh287 := Kh273.wr Wh287 (Or.inr (hs_a245))
  refine Own.iincE (pc' := 100) (L1 := fun zz => #[.val (.ref a), .val (.ref b), .val (.int (4 : Int32)), .val (.int zz)]) d_prog_107_method_1_97 rfl (fun _ => rfl) rfl (z := (1 : Int32)) (by decide) ?_
  show Go K _ _ _ _ _ _ _ _ _ 1 8 h287 100 #[.val (.ref a), .val (.ref b), .val (.int (4 : Int32)), .val (.int (1 : Int32))] []
  refine Own.goto (pc' := 66) d_prog_107_method_1_100 (by decide) (by decide) ?_
  refine Own.iloadN (pc' := 67) d_prog_107_method_1_66 rfl rfl ?_
  refine Own.if_le (pc' := 103) (pc2 := 70) d_prog_107_method_1_67 (by decide) (by decide) rfl (fun q => absurd q (by decide)) (fun _ => ?_)
  refine Own.aloadN (pc' := 71) d_prog_107_method_1_70 rfl rfl rfl ?_
  refine Own.getfield (pc' := 74) d_prog_107_method_1_71 rfl (host := "") (Or.inl (hw _ (List.mem_of_getElem? (i := 14) rfl))) Via.refl f290 ?_
  refine Own.iloadN (pc' := 75) d_prog_107_method_1_74 rfl rfl ?_
  refine Own.aloadN (pc' := 76) d_prog_107_method_1_75 rfl rfl rfl ?_
  refine Own.getfield (pc' := 79) d_prog_107_method_1_76 rfl (host := "") (Or.inl (hw _ (List.mem_of_getElem? (i := 14) rfl))) Via.refl f290 ?_
  refine Own.iconst (pc' := 80) (v := (2 : Int32)) d_prog_107_method_1_79 (by decide) rfl ?_
  refine Own.iloadN (pc' := 81) d_prog_107_method_1_80 rfl rfl ?_
  refine Own.imulE (pc' := 82) d_prog_107_method_1_81 rfl (z := (2 : Int32)) (by decide) ?_
  refine Own.laload (pc' := 83) (i := 2) d_prog_107_method_1_82 rfl Ah287 (by decide) (by decide) ?_
  show Go K _ _ _ _ _ _ _ _ _ 1 8 h287 83 #[.val (.ref a), .val (.ref b), .val (.int (4 : Int32)), .val (.int (1 : Int32))] [(.long v286), (.int (1 : Int32)), (.ref a245)]
  refine Own.aloadN (pc' := 84) d_prog_107_method_1_83 rfl rfl rfl ?_
  refine Own.getfield (pc' := 87) d_prog_107_method_1_84 rfl (host := "") (Or.inl (hw _ (List.mem_of_getElem? (i := 14) rfl))) Via.refl f290 ?_
  refine Own.iconst (pc' := 88) (v := (2 : Int32)) d_prog_107_method_1_87 (by decide) rfl ?_
  refine Own.iloadN (pc' := 89) d_prog_107_method_1_88 rfl rfl ?_
  refine Own.imulE (pc' := 90) d_prog_107_method_1_89 rfl (z := (2 : Int32)) (by decide) ?_
  refine Own.iconst (pc' := 91) (v := (1 : Int32)) d_prog_107_method_1_90 (by decide) rfl ?_
  refine Own.iaddE (pc' := 92) d_prog_107_method_1_91 rfl (z := (3 : Int32)) (by decide) ?_
  refine Own.laload (pc' := 93) (i := 3) d_prog_107_method_1_92 rfl Ah287 (by decide) (by decide) ?_
  show Go K _ _ _ _ _ _ _ _ _ 1 8 h287 93 #[.val (.ref a), .val (.ref b), .val (.int (4 : Int32)), .val (.int (1 : Int32))] [(.long v272), (.long v286), (.int (1 : Int32)), (.ref a245)]
  refine Own.static (pc' := 96) (y := (⟨"java/lang/Math", "max", "(JJ)J"⟩ : MethodName)) (rm' := ({ frames := 0, cells := 0, slots := 0, locals := 0 } : Room)) (W := 2) (as := [(.long v286), (.long v272)]) (rest := [(.int (1 : Int32)), (.ref a245)]) d_prog_107_method_1_93 rfl (hw _ (List.mem_of_getElem? (i := 29) rfl)) (hw _ (List.mem_of_getElem? (i := 30) rfl)) (hw _ (List.mem_of_getElem? (i := 31) rfl)) (hw _ (List.mem_of_getElem? (i := 32) rfl)) (by decide) (c_own_max Z a0 hw n0 h287 Zh287 v286 v272   ) rfl rfl (lenOf pd_0 rfl) (by decide) rfl (by decide) (by decide) (by decide) fun r299 h298 qh298 => ?_
  obtain ⟨e1, v300, e2, hv300⟩ := qh298
  subst e1 e2
  show Go K _ _ _ _ _ _ _ _ _ 1 8 h287 96 #[.val (.ref a), .val (.ref b), .val (.int (4 : Int32)), .val (.int (1 : Int32))] [(.long v300), (.int (1 : Int32)), (.ref a245)]
  refine Own.lastore (pc' := 97) (i := 1) d_prog_107_method_1_96 rfl Ah287 Ga245 (by decide) (by decide) fun h301 Wh301 Ah301 => ?_
  have f302 := f288.other Wh301 (Or.inl ne_a_a245)
  have f303 := f289.other Wh301 (Or.inl ne_a_a245)
  have f304 := f290.other Wh301 (Or.inl ne_a_a245)
  have f305 := f291.wr Wh301
  have f306 := f292.other Wh301 ne_b_a245
  have Zh301 : n0 ≤ h301.size := by rw [Wh301.size]; exact Zh287
  have Kh301 := Kh287.wr Wh301 (Or.inr (hs_a245))
  refine Own.iincE (pc' := 100) (L1 := fun zz => #[.val (.ref a), .val (.ref b), .val (.int (4 : Int32)), .val (.int zz)]) d_prog_107_method_1_97 rfl (fun _ => rfl) rfl (z := (0 : Int32)) (by decide) ?_
  show Go K _ _ _ _ _ _ _ _ _ 1 8 h301 100 #[.val (.ref a), .val (.ref b), .val (.int (4 : Int32)), .val (.int (0 : Int32))] []
  refine Own.goto (pc' := 66) d_prog_107_method_1_100 (by decide) (by decide) ?_
  refine Own.iloadN (pc' := 67) d_prog_107_method_1_66 rfl rfl ?_
  refine Own.if_le (pc' := 103) (pc2 := 70) d_prog_107_method_1_67 (by decide) (by decide) rfl (fun _ => ?_) (fun q => absurd (by decide) q)
  subst hv272 hv286 hv300
  have Af := (Ah301).cong (g := own_nd4 x0 x1 x2 x3 x4) (fun k hk => by have hk' : k = 0 ∨ k = 1 ∨ k = 2 ∨ k = 3 ∨ k = 4 ∨ k = 5 ∨ k = 6 ∨ k = 7 := (by omega); rcases hk' with rfl | rfl | rfl | rfl | rfl | rfl | rfl | rfl <;> simp [ownSet, own_vals, own_nd4])
  exact Own.vreturn d_prog_107_method_1_103 rfl (⟨rfl, a245, Kh301, hs_a245, f305, f302, f303, f304, Af⟩) (by decide) (by decide)
theorem own_nd4_0 (x0 x1 x2 x3 x4 : Int64) : own_nd4 x0 x1 x2 x3 x4 0 = (0 : Int64) := by simp [own_nd4]
theorem own_nd4_1 (x0 x1 x2 x3 x4 : Int64) : own_nd4 x0 x1 x2 x3 x4 1 = (own_max (own_max x0 x1) (own_max x2 x3)) := by simp [own_nd4]
theorem own_nd4_2 (x0 x1 x2 x3 x4 : Int64) : own_nd4 x0 x1 x2 x3 x4 2 = (own_max x0 x1) := by simp [own_nd4]
theorem own_nd4_3 (x0 x1 x2 x3 x4 : Int64) : own_nd4 x0 x1 x2 x3 x4 3 = (own_max x2 x3) := by simp [own_nd4]
theorem own_nd4_4 (x0 x1 x2 x3 x4 : Int64) : own_nd4 x0 x1 x2 x3 x4 4 = x0 := by simp [own_nd4]
theorem own_nd4_5 (x0 x1 x2 x3 x4 : Int64) : own_nd4 x0 x1 x2 x3 x4 5 = x1 := by simp [own_nd4]
theorem own_nd4_6 (x0 x1 x2 x3 x4 : Int64) : own_nd4 x0 x1 x2 x3 x4 6 = x2 := by simp [own_nd4]
theorem own_nd4_7 (x0 x1 x2 x3 x4 : Int64) : own_nd4 x0 x1 x2 x3 x4 7 = x3 := by simp [own_nd4]
def own_nd5 (x0 x1 x2 x3 x4 : Int64) : Nat → Int64 := fun t => if t = 0 then (0 : Int64) else if t = 1 then (own_max (own_max (own_max x0 x1) (own_max x2 x3)) (own_max (own_max x4 (0 : Int64)) (own_max (0 : Int64) (0 : Int64)))) else if t = 2 then (own_max (own_max x0 x1) (own_max x2 x3)) else if t = 3 then (own_max (own_max x4 (0 : Int64)) (own_max (0 : Int64) (0 : Int64))) else if t = 4 then (own_max x0 x1) else if t = 5 then (own_max x2 x3) else if t = 6 then (own_max x4 (0 : Int64)) else if t = 7 then (own_max (0 : Int64) (0 : Int64)) else if t = 8 then x0 else if t = 9 then x1 else if t = 10 then x2 else if t = 11 then x3 else if t = 12 then x4 else if t = 13 then (0 : Int64) else if t = 14 then (0 : Int64) else if t = 15 then (0 : Int64) else 0
set_option maxRecDepth 65536 in
set_option maxHeartbeats 40000000 in
theorem c_own_mt5 (Z : State) (a0 : Array Value) (hw : ∀ d ∈ tables_1, d.before a0 Z = true) (n0 : Nat) (h : Heap) (hZ0 : n0 ≤ h.size) (a : Addr) (b : Addr) (x0 x1 x2 x3 x4 : Int64) (E : Exa Z h a "com/example/coldtail/coldtail/segment/MaxTree") (F_leaves : Fld Z h a "com/example/coldtail/coldtail/segment/MaxTree" "leaves" "I" (.int (0 : Int32))) (F_count : Fld Z h a "com/example/coldtail/coldtail/segment/MaxTree" "count" "I" (.int (0 : Int32))) (F_nodes : Fld Z h a "com/example/coldtail/coldtail/segment/MaxTree" "nodes" "[J" .null) (g_a : n0 ≤ a) (hne : b ≠ a) (A : AJ Z h b 5 (own_vals x0 x1 x2 x3 x4)) :
    Con Z n0 (⟨"com/example/coldtail/coldtail/segment/MaxTree", "<init>", "([J)V"⟩ : MethodName) prog_107_method_1_code 4 none ({ frames := 1, cells := 1, slots := 16, locals := 40 } : Room) [(.ref a), (.ref b)] h (fun v h' => v = none ∧ ∃ r, Keep h h' [a] ∧ h.size ≤ r ∧ Exa Z h' a "com/example/coldtail/coldtail/segment/MaxTree" ∧ Fld Z h' a "com/example/coldtail/coldtail/segment/MaxTree" "leaves" "I" (.int (8 : Int32)) ∧ Fld Z h' a "com/example/coldtail/coldtail/segment/MaxTree" "count" "I" (.int (5 : Int32)) ∧ Fld Z h' a "com/example/coldtail/coldtail/segment/MaxTree" "nodes" "[J" (.ref r) ∧ AJ Z h' r 16 (own_nd5 x0 x1 x2 x3 x4)) := by
  refine Own.enter (plainFor_of_name pn_1) (L0 := #[.val (.ref a), .val (.ref b), .unset, .unset]) (fun m => by first | (simp [entryFrame, mkF, argsToLocals, Value.category]; done) | rfl) fun K => ?_
  show Go K _ _ _ _ _ _ "com/example/coldtail/coldtail/segment/MaxTree" "<init>" _ 0 0 h 0 #[.val (.ref a), .val (.ref b), .unset, .unset] []
  refine Own.aloadN (pc' := 1) d_prog_107_method_1_0 rfl rfl rfl ?_
  refine Own.objinit (pc' := 4) d_prog_107_method_1_1 rfl (hw _ (List.mem_of_getElem? (i := 7) rfl)) (hw _ (List.mem_of_getElem? (i := 8) rfl)) (hw _ (List.mem_of_getElem? (i := 9) rfl)) rfl (by decide) (W := 0) rfl (by decide) ?_
  refine Own.iconst (pc' := 5) (v := (1 : Int32)) d_prog_107_method_1_4 (by decide) rfl ?_
  refine Own.istoreN (pc' := 6) (L1 := #[.val (.ref a), .val (.ref b), .val (.int (1 : Int32)), .unset]) d_prog_107_method_1_5 rfl rfl ?_
  refine Own.iloadN (pc' := 7) d_prog_107_method_1_6 rfl rfl ?_
  refine Own.aloadN (pc' := 8) d_prog_107_method_1_7 rfl rfl rfl ?_
  refine Own.lenJ (pc' := 9) d_prog_107_method_1_8 rfl A fun v309 hv309 => ?_
  obtain rfl : v309 = (5 : Int32) := Int32.toInt_inj.mp (hv309.trans (by decide))
  refine Own.icmp_ge (pc' := 19) (pc2 := 12) d_prog_107_method_1_9 (by decide) (by decide) rfl (fun q => absurd q (by decide)) (fun _ => ?_)
  refine Own.iloadN (pc' := 13) d_prog_107_method_1_12 rfl rfl ?_
  refine Own.iconst (pc' := 14) (v := (2 : Int32)) d_prog_107_method_1_13 (by decide) rfl ?_
  refine Own.imulE (pc' := 15) d_prog_107_method_1_14 rfl (z := (2 : Int32)) (by decide) ?_
  refine Own.istoreN (pc' := 16) (L1 := #[.val (.ref a), .val (.ref b), .val (.int (2 : Int32)), .unset]) d_prog_107_method_1_15 rfl rfl ?_
  refine Own.goto (pc' := 6) d_prog_107_method_1_16 (by decide) (by decide) ?_
  refine Own.iloadN (pc' := 7) d_prog_107_method_1_6 rfl rfl ?_
  refine Own.aloadN (pc' := 8) d_prog_107_method_1_7 rfl rfl rfl ?_
  refine Own.lenJ (pc' := 9) d_prog_107_method_1_8 rfl A fun v312 hv312 => ?_
  obtain rfl : v312 = (5 : Int32) := Int32.toInt_inj.mp (hv312.trans (by decide))
  refine Own.icmp_ge (pc' := 19) (pc2 := 12) d_prog_107_method_1_9 (by decide) (by decide) rfl (fun q => absurd q (by decide)) (fun _ => ?_)
  refine Own.iloadN (pc' := 13) d_prog_107_method_1_12 rfl rfl ?_
  refine Own.iconst (pc' := 14) (v := (2 : Int32)) d_prog_107_method_1_13 (by decide) rfl ?_
  refine Own.imulE (pc' := 15) d_prog_107_method_1_14 rfl (z := (4 : Int32)) (by decide) ?_
  refine Own.istoreN (pc' := 16) (L1 := #[.val (.ref a), .val (.ref b), .val (.int (4 : Int32)), .unset]) d_prog_107_method_1_15 rfl rfl ?_
  refine Own.goto (pc' := 6) d_prog_107_method_1_16 (by decide) (by decide) ?_
  refine Own.iloadN (pc' := 7) d_prog_107_method_1_6 rfl rfl ?_
  refine Own.aloadN (pc' := 8) d_prog_107_method_1_7 rfl rfl rfl ?_
  refine Own.lenJ (pc' := 9) d_prog_107_method_1_8 rfl A fun v315 hv315 => ?_
  obtain rfl : v315 = (5 : Int32) := Int32.toInt_inj.mp (hv315.trans (by decide))
  refine Own.icmp_ge (pc' := 19) (pc2 := 12) d_prog_107_method_1_9 (by decide) (by decide) rfl (fun q => absurd q (by decide)) (fun _ => ?_)
  refine Own.iloadN (pc' := 13) d_prog_107_method_1_12 rfl rfl ?_
  refine Own.iconst (pc' := 14) (v := (2 : Int32)) d_prog_107_method_1_13 (by decide) rfl ?_
  refine Own.imulE (pc' := 15) d_prog_107_method_1_14 rfl (z := (8 : Int32)) (by decide) ?_
  refine Own.istoreN (pc' := 16) (L1 := #[.val (.ref a), .val (.ref b), .val (.int (8 : Int32)), .unset]) d_prog_107_method_1_15 rfl rfl ?_
  refine Own.goto (pc' := 6) d_prog_107_method_1_16 (by decide) (by decide) ?_
  refine Own.iloadN (pc' := 7) d_prog_107_method_1_6 rfl rfl ?_
  refine Own.aloadN (pc' := 8) d_prog_107_method_1_7 rfl rfl rfl ?_
  refine Own.lenJ (pc' := 9) d_prog_107_method_1_8 rfl A fun v318 hv318 => ?_
  obtain rfl : v318 = (5 : Int32) := Int32.toInt_inj.mp (hv318.trans (by decide))
  refine Own.icmp_ge (pc' := 19) (pc2 := 12) d_prog_107_method_1_9 (by decide) (by decide) rfl (fun _ => ?_) (fun q => absurd (by decide) q)
  refine Own.aloadN (pc' := 20) d_prog_107_method_1_19 rfl rfl rfl ?_
  refine Own.iloadN (pc' := 21) d_prog_107_method_1_20 rfl rfl ?_
  refine Own.putfield (pc' := 24) d_prog_107_method_1_21 rfl (host := "") (Or.inl (hw _ (List.mem_of_getElem? (i := 10) rfl))) Via.refl F_leaves E (Or.inr ⟨(hw _ (List.mem_of_getElem? (i := 11) rfl)), rfl, rfl⟩) (hw _ (List.mem_of_getElem? (i := 2) rfl)) (ty := .int) (by decide) rfl rfl g_a fun h320 Wh320 => ?_
  have f321 := F_leaves.same Wh320
  have f322 := F_count.other Wh320 (Or.inr (slot_ne (Or.inr (hw _ (List.mem_of_getElem? (i := 13) rfl))) (Or.inr (hw _ (List.mem_of_getElem? (i := 11) rfl))) (by decide) (t := .int) (t' := .int) (by decide) (by decide)))
  have f323 := F_nodes.other Wh320 (Or.inr (slot_ne (Or.inr (hw _ (List.mem_of_getElem? (i := 15) rfl))) (Or.inr (hw _ (List.mem_of_getElem? (i := 11) rfl))) (by decide) (t := (.array .long)) (t' := .int) (by decide) (by decide)))
  have f324 := E.wr Wh320
  have f325 := A.other Wh320 hne
  have Zh320 : n0 ≤ h320.size := by rw [Wh320.size]; exact hZ0
  have Kh320 := (Keep.refl h [a]).wr Wh320 (Or.inl (by simp))
  refine Own.aloadN (pc' := 25) d_prog_107_method_1_24 rfl rfl rfl ?_
  refine Own.aloadN (pc' := 26) d_prog_107_method_1_25 rfl rfl rfl ?_
  refine Own.lenJ (pc' := 27) d_prog_107_method_1_26 rfl f325 fun v326 hv326 => ?_
  obtain rfl : v326 = (5 : Int32) := Int32.toInt_inj.mp (hv326.trans (by decide))
  refine Own.putfield (pc' := 30) d_prog_107_method_1_27 rfl (host := "") (Or.inl (hw _ (List.mem_of_getElem? (i := 12) rfl))) Via.refl f322 f324 (Or.inr ⟨(hw _ (List.mem_of_getElem? (i := 13) rfl)), rfl, rfl⟩) (hw _ (List.mem_of_getElem? (i := 2) rfl)) (ty := .int) (by decide) rfl rfl g_a fun h327 Wh327 => ?_
  have f328 := f321.other Wh327 (Or.inr (slot_ne (Or.inr (hw _ (List.mem_of_getElem? (i := 11) rfl))) (Or.inr (hw _ (List.mem_of_getElem? (i := 13) rfl))) (by decide) (t := .int) (t' := .int) (by decide) (by decide)))
  have f329 := f322.same Wh327
  have f330 := f323.other Wh327 (Or.inr (slot_ne (Or.inr (hw _ (List.mem_of_getElem? (i := 15) rfl))) (Or.inr (hw _ (List.mem_of_getElem? (i := 13) rfl))) (by decide) (t := (.array .long)) (t' := .int) (by decide) (by decide)))
  have f331 := f324.wr Wh327
  have f332 := f325.other Wh327 hne
  have Zh327 : n0 ≤ h327.size := by rw [Wh327.size]; exact Zh320
  have Kh327 := Kh320.wr Wh327 (Or.inl (by simp))
  refine Own.aloadN (pc' := 31) d_prog_107_method_1_30 rfl rfl rfl ?_
  refine Own.iconst (pc' := 32) (v := (2 : Int32)) d_prog_107_method_1_31 (by decide) rfl ?_
  refine Own.aloadN (pc' := 33) d_prog_107_method_1_32 rfl rfl rfl ?_
  refine Own.getfield (pc' := 36) d_prog_107_method_1_33 rfl (host := "") (Or.inl (hw _ (List.mem_of_getElem? (i := 10) rfl))) Via.refl f328 ?_
  refine Own.imulE (pc' := 37) d_prog_107_method_1_36 rfl (z := (16 : Int32)) (by decide) ?_
  refine Own.newJ (pc' := 39) (n := 16) (cap := 16) d_prog_107_method_1_37 rfl (hw _ (List.mem_of_getElem? (i := 0) rfl)) (by decide) (by decide) (by decide) (by decide) (by decide) fun a334 h335 ga334 Eh335 Aa334 => ?_
  have ne_a_a334 : a ≠ a334 := Nat.ne_of_lt (ga334 ▸ (f331).lt)
  have ne_b_a334 : b ≠ a334 := Nat.ne_of_lt (ga334 ▸ (f332).lt)
  have Ga334 : n0 ≤ a334 := by rw [ga334]; exact Zh327
  have hs_a334 := Nat.le_trans Kh327.1 (Nat.le_of_eq ga334.symm)
  have Zh335 : n0 ≤ h335.size := Nat.le_trans Zh327 Eh335.1
  have f336 := f328.ext Eh335
  have f337 := f329.ext Eh335
  have f338 := f330.ext Eh335
  have f339 := f331.ext Eh335
  have f340 := f332.ext Eh335
  have Kh335 := Kh327.ext Eh335
  show Go K _ _ _ _ _ _ _ _ _ 1 16 h335 39 #[.val (.ref a), .val (.ref b), .val (.int (8 : Int32)), .unset] [(.ref a334), (.ref a)]
  refine Own.putfield (pc' := 42) d_prog_107_method_1_39 rfl (host := "") (Or.inl (hw _ (List.mem_of_getElem? (i := 14) rfl))) Via.refl f338 f339 (Or.inr ⟨(hw _ (List.mem_of_getElem? (i := 15) rfl)), rfl, rfl⟩) (hw _ (List.mem_of_getElem? (i := 2) rfl)) (ty := (.array .long)) (by decide) rfl rfl g_a fun h341 Wh341 => ?_
  have f342 := f336.other Wh341 (Or.inr (slot_ne (Or.inr (hw _ (List.mem_of_getElem? (i := 11) rfl))) (Or.inr (hw _ (List.mem_of_getElem? (i := 15) rfl))) (by decide) (t := .int) (t' := (.array .long)) (by decide) (by decide)))
  have f343 := f337.other Wh341 (Or.inr (slot_ne (Or.inr (hw _ (List.mem_of_getElem? (i := 13) rfl))) (Or.inr (hw _ (List.mem_of_getElem? (i := 15) rfl))) (by decide) (t := .int) (t' := (.array .long)) (by decide) (by decide)))
  have f344 := f338.same Wh341
  have f345 := f339.wr Wh341
  have f346 := f340.other Wh341 hne
  have f347 := Aa334.other Wh341 (Ne.symm ne_a_a334)
  have Zh341 : n0 ≤ h341.size := by rw [Wh341.size]; exact Zh335
  have Kh341 := Kh335.wr Wh341 (Or.inl (by simp))
  refine Own.aloadN (pc' := 43) d_prog_107_method_1_42 rfl rfl rfl ?_
  refine Own.iconst (pc' := 44) (v := (0 : Int32)) d_prog_107_method_1_43 (by decide) rfl ?_
  refine Own.aloadN (pc' := 45) d_prog_107_method_1_44 rfl rfl rfl ?_
  refine Own.getfield (pc' := 48) d_prog_107_method_1_45 rfl (host := "") (Or.inl (hw _ (List.mem_of_getElem? (i := 14) rfl))) Via.refl f344 ?_
  refine Own.aloadN (pc' := 49) d_prog_107_method_1_48 rfl rfl rfl ?_
  refine Own.getfield (pc' := 52) d_prog_107_method_1_49 rfl (host := "") (Or.inl (hw _ (List.mem_of_getElem? (i := 10) rfl))) Via.refl f342 ?_
  refine Own.aloadN (pc' := 53) d_prog_107_method_1_52 rfl rfl rfl ?_
  refine Own.getfield (pc' := 56) d_prog_107_method_1_53 rfl (host := "") (Or.inl (hw _ (List.mem_of_getElem? (i := 12) rfl))) Via.refl f343 ?_
  refine Own.arraycopyJ (pc' := 59) (i := 0) (j := 8) (k := 5) (W := 0) d_prog_107_method_1_56 rfl (hw _ (List.mem_of_getElem? (i := 16) rfl)) (hw _ (List.mem_of_getElem? (i := 19) rfl)) (hw _ (List.mem_of_getElem? (i := 17) rfl)) (hw _ (List.mem_of_getElem? (i := 18) rfl)) f346 f347 (by decide) (by decide) (by decide) (by decide) (by decide) Ga334 rfl (by decide) rfl (by decide) fun h348 Kh348 Ah348 => ?_
  have f349 := f342.keep Kh348 (ninS ne_a_a334 nin0)
  have f350 := f343.keep Kh348 (ninS ne_a_a334 nin0)
  have f351 := f344.keep Kh348 (ninS ne_a_a334 nin0)
  have f352 := f345.keep Kh348
  have f353 := f346.keep Kh348 (ninS ne_b_a334 nin0)
  have Zh348 : n0 ≤ h348.size := Nat.le_trans Zh341 Kh348.1
  have Kh348 := Kh341.trans Kh348 (allS (Or.inr hs_a334) all0)
  refine Own.aloadN (pc' := 60) d_prog_107_method_1_59 rfl rfl rfl ?_
  refine Own.getfield (pc' := 63) d_prog_107_method_1_60 rfl (host := "") (Or.inl (hw _ (List.mem_of_getElem? (i := 10) rfl))) Via.refl f349 ?_
  refine Own.iconst (pc' := 64) (v := (1 : Int32)) d_prog_107_method_1_63 (by decide) rfl ?_
  refine Own.isubE (pc' := 65) d_prog_107_method_1_64 rfl (z := (7 : Int32)) (by decide) ?_
  refine Own.istoreN (pc' := 66) (L1 := #[.val (.ref a), .val (.ref b), .val (.int (8 : Int32)), .val (.int (7 : Int32))]) d_prog_107_method_1_65 rfl rfl ?_
  refine Own.iloadN (pc' := 67) d_prog_107_method_1_66 rfl rfl ?_
  refine Own.if_le (pc' := 103) (pc2 := 70) d_prog_107_method_1_67 (by decide) (by decide) rfl (fun q => absurd q (by decide)) (fun _ => ?_)
  refine Own.aloadN (pc' := 71) d_prog_107_method_1_70 rfl rfl rfl ?_
  refine Own.getfield (pc' := 74) d_prog_107_method_1_71 rfl (host := "") (Or.inl (hw _ (List.mem_of_getElem? (i := 14) rfl))) Via.refl f351 ?_
  refine Own.iloadN (pc' := 75) d_prog_107_method_1_74 rfl rfl ?_
  refine Own.aloadN (pc' := 76) d_prog_107_method_1_75 rfl rfl rfl ?_
  refine Own.getfield (pc' := 79) d_prog_107_method_1_76 rfl (host := "") (Or.inl (hw _ (List.mem_of_getElem? (i := 14) rfl))) Via.refl f351 ?_
  refine Own.iconst (pc' := 80) (v := (2 : Int32)) d_prog_107_method_1_79 (by decide) rfl ?_
  refine Own.iloadN (pc' := 81) d_prog_107_method_1_80 rfl rfl ?_
  refine Own.imulE (pc' := 82) d_prog_107_method_1_81 rfl (z := (14 : Int32)) (by decide) ?_
  refine Own.laload (pc' := 83) (i := 14) d_prog_107_method_1_82 rfl Ah348 (by decide) (by decide) ?_
  show Go K _ _ _ _ _ _ _ _ _ 1 16 h348 83 #[.val (.ref a), .val (.ref b), .val (.int (8 : Int32)), .val (.int (7 : Int32))] [(.long (0 : Int64)), (.int (7 : Int32)), (.ref a334)]
  refine Own.aloadN (pc' := 84) d_prog_107_method_1_83 rfl rfl rfl ?_
  refine Own.getfield (pc' := 87) d_prog_107_method_1_84 rfl (host := "") (Or.inl (hw _ (List.mem_of_getElem? (i := 14) rfl))) Via.refl f351 ?_
  refine Own.iconst (pc' := 88) (v := (2 : Int32)) d_prog_107_method_1_87 (by decide) rfl ?_
  refine Own.iloadN (pc' := 89) d_prog_107_method_1_88 rfl rfl ?_
  refine Own.imulE (pc' := 90) d_prog_107_method_1_89 rfl (z := (14 : Int32)) (by decide) ?_
  refine Own.iconst (pc' := 91) (v := (1 : Int32)) d_prog_107_method_1_90 (by decide) rfl ?_
  refine Own.iaddE (pc' := 92) d_prog_107_method_1_91 rfl (z := (15 : Int32)) (by decide) ?_
  refine Own.laload (pc' := 93) (i := 15) d_prog_107_method_1_92 rfl Ah348 (by decide) (by decide) ?_
  show Go K _ _ _ _ _ _ _ _ _ 1 16 h348 93 #[.val (.ref a), .val (.ref b), .val (.int (8 : Int32)), .val (.int (7 : Int32))] [(.long (0 : Int64)), (.long (0 : Int64)), (.int (7 : Int32)), (.ref a334)]
  refine Own.static (pc' := 96) (y := (⟨"java/lang/Math", "max", "(JJ)J"⟩ : MethodName)) (rm' := ({ frames := 0, cells := 0, slots := 0, locals := 0 } : Room)) (W := 2) (as := [(.long (0 : Int64)), (.long (0 : Int64))]) (rest := [(.int (7 : Int32)), (.ref a334)]) d_prog_107_method_1_93 rfl (hw _ (List.mem_of_getElem? (i := 29) rfl)) (hw _ (List.mem_of_getElem? (i := 30) rfl)) (hw _ (List.mem_of_getElem? (i := 31) rfl)) (hw _ (List.mem_of_getElem? (i := 32) rfl)) (by decide) (c_own_max Z a0 hw n0 h348 Zh348 (0 : Int64) (0 : Int64)   ) rfl rfl (lenOf pd_0 rfl) (by decide) rfl (by decide) (by decide) (by decide) fun r360 h359 qh359 => ?_
  obtain ⟨e1, v361, e2, hv361⟩ := qh359
  subst e1 e2
  show Go K _ _ _ _ _ _ _ _ _ 1 16 h348 96 #[.val (.ref a), .val (.ref b), .val (.int (8 : Int32)), .val (.int (7 : Int32))] [(.long v361), (.int (7 : Int32)), (.ref a334)]
  refine Own.lastore (pc' := 97) (i := 7) d_prog_107_method_1_96 rfl Ah348 Ga334 (by decide) (by decide) fun h362 Wh362 Ah362 => ?_
  have f363 := f349.other Wh362 (Or.inl ne_a_a334)
  have f364 := f350.other Wh362 (Or.inl ne_a_a334)
  have f365 := f351.other Wh362 (Or.inl ne_a_a334)
  have f366 := f352.wr Wh362
  have f367 := f353.other Wh362 ne_b_a334
  have Zh362 : n0 ≤ h362.size := by rw [Wh362.size]; exact Zh348
  have Kh362 := Kh348.wr Wh362 (Or.inr (hs_a334))
  refine Own.iincE (pc' := 100) (L1 := fun zz => #[.val (.ref a), .val (.ref b), .val (.int (8 : Int32)), .val (.int zz)]) d_prog_107_method_1_97 rfl (fun _ => rfl) rfl (z := (6 : Int32)) (by decide) ?_
  show Go K _ _ _ _ _ _ _ _ _ 1 16 h362 100 #[.val (.ref a), .val (.ref b), .val (.int (8 : Int32)), .val (.int (6 : Int32))] []
  refine Own.goto (pc' := 66) d_prog_107_method_1_100 (by decide) (by decide) ?_
  refine Own.iloadN (pc' := 67) d_prog_107_method_1_66 rfl rfl ?_
  refine Own.if_le (pc' := 103) (pc2 := 70) d_prog_107_method_1_67 (by decide) (by decide) rfl (fun q => absurd q (by decide)) (fun _ => ?_)
  refine Own.aloadN (pc' := 71) d_prog_107_method_1_70 rfl rfl rfl ?_
  refine Own.getfield (pc' := 74) d_prog_107_method_1_71 rfl (host := "") (Or.inl (hw _ (List.mem_of_getElem? (i := 14) rfl))) Via.refl f365 ?_
  refine Own.iloadN (pc' := 75) d_prog_107_method_1_74 rfl rfl ?_
  refine Own.aloadN (pc' := 76) d_prog_107_method_1_75 rfl rfl rfl ?_
  refine Own.getfield (pc' := 79) d_prog_107_method_1_76 rfl (host := "") (Or.inl (hw _ (List.mem_of_getElem? (i := 14) rfl))) Via.refl f365 ?_
  refine Own.iconst (pc' := 80) (v := (2 : Int32)) d_prog_107_method_1_79 (by decide) rfl ?_
  refine Own.iloadN (pc' := 81) d_prog_107_method_1_80 rfl rfl ?_
  refine Own.imulE (pc' := 82) d_prog_107_method_1_81 rfl (z := (12 : Int32)) (by decide) ?_
  refine Own.laload (pc' := 83) (i := 12) d_prog_107_method_1_82 rfl Ah362 (by decide) (by decide) ?_
  show Go K _ _ _ _ _ _ _ _ _ 1 16 h362 83 #[.val (.ref a), .val (.ref b), .val (.int (8 : Int32)), .val (.int (6 : Int32))] [(.long x4), (.int (6 : Int32)), (.ref a334)]
  refine Own.aloadN (pc' := 84) d_prog_107_method_1_83 rfl rfl rfl ?_
  refine Own.getfield (pc' := 87) d_prog_107_method_1_84 rfl (host := "") (Or.inl (hw _ (List.mem_of_getElem? (i := 14) rfl))) Via.refl f365 ?_
  refine Own.iconst (pc' := 88) (v := (2 : Int32)) d_prog_107_method_1_87 (by decide) rfl ?_
  refine Own.iloadN (pc' := 89) d_prog_107_method_1_88 rfl rfl ?_
  refine Own.imulE (pc' := 90) d_prog_107_method_1_89 rfl (z := (12 : Int32)) (by decide) ?_
  refine Own.iconst (pc' := 91) (v := (1 : Int32)) d_prog_107_method_1_90 (by decide) rfl ?_
  refine Own.iaddE (pc' := 92) d_prog_107_method_1_91 rfl (z := (13 : Int32)) (by decide) ?_
  refine Own.laload (pc' := 93) (i := 13) d_prog_107_method_1_92 rfl Ah362 (by decide) (by decide) ?_
  show Go K _ _ _ _ _ _ _ _ _ 1 16 h362 93 #[.val (.ref a), .val (.ref b), .val (.int (8 : Int32)), .val (.int (6 : Int32))] [(.long (0 : Int64)), (.long x4), (.int (6 : Int32)), (.ref a334)]
  refine Own.static (pc' := 96) (y := (⟨"java/lang/Math", "max", "(JJ)J"⟩ : MethodName)) (rm' := ({ frames := 0, cells := 0, slots := 0, locals := 0 } : Room)) (W := 2) (as := [(.long x4), (.long (0 : Int64))]) (rest := [(.int (6 : Int32)), (.ref a334)]) d_prog_107_method_1_93 rfl (hw _ (List.mem_of_getElem? (i := 29) rfl)) (hw _ (List.mem_of_getElem? (i := 30) rfl)) (hw _ (List.mem_of_getElem? (i := 31) rfl)) (hw _ (List.mem_of_getElem? (i := 32) rfl)) (by decide) (c_own_max Z a0 hw n0 h362 Zh362 x4 (0 : Int64)   ) rfl rfl (lenOf pd_0 rfl) (by decide) rfl (by decide) (by decide) (by decide) fun r374 h373 qh373 => ?_
  obtain ⟨e1, v375, e2, hv375⟩ := qh373
  subst e1 e2
  show Go K _ _ _ _ _ _ _ _ _ 1 16 h362 96 #[.val (.ref a), .val (.ref b), .val (.int (8 : Int32)), .val (.int (6 : Int32))] [(.long v375), (.int (6 : Int32)), (.ref a334)]
  refine Own.lastore (pc' := 97) (i := 6) d_prog_107_method_1_96 rfl Ah362 Ga334 (by decide) (by decide) fun h376 Wh376 Ah376 => ?_
  have f377 := f363.other Wh376 (Or.inl ne_a_a334)
  have f378 := f364.other Wh376 (Or.inl ne_a_a334)
  have f379 := f365.other Wh376 (Or.inl ne_a_a334)
  have f380 := f366.wr Wh376
  have f381 := f367.other Wh376 ne_b_a334
  have Zh376 : n0 ≤ h376.size := by rw [Wh376.size]; exact Zh362
  have Kh376 := Kh362.wr Wh376 (Or.inr (hs_a334))
  refine Own.iincE (pc' := 100) (L1 := fun zz => #[.val (.ref a), .val (.ref b), .val (.int (8 : Int32)), .val (.int zz)]) d_prog_107_method_1_97 rfl (fun _ => rfl) rfl (z := (5 : Int32)) (by decide) ?_
  show Go K _ _ _ _ _ _ _ _ _ 1 16 h376 100 #[.val (.ref a), .val (.ref b), .val (.int (8 : Int32)), .val (.int (5 : Int32))] []
  refine Own.goto (pc' := 66) d_prog_107_method_1_100 (by decide) (by decide) ?_
  refine Own.iloadN (pc' := 67) d_prog_107_method_1_66 rfl rfl ?_
  refine Own.if_le (pc' := 103) (pc2 := 70) d_prog_107_method_1_67 (by decide) (by decide) rfl (fun q => absurd q (by decide)) (fun _ => ?_)
  refine Own.aloadN (pc' := 71) d_prog_107_method_1_70 rfl rfl rfl ?_
  refine Own.getfield (pc' := 74) d_prog_107_method_1_71 rfl (host := "") (Or.inl (hw _ (List.mem_of_getElem? (i := 14) rfl))) Via.refl f379 ?_
  refine Own.iloadN (pc' := 75) d_prog_107_method_1_74 rfl rfl ?_
  refine Own.aloadN (pc' := 76) d_prog_107_method_1_75 rfl rfl rfl ?_
  refine Own.getfield (pc' := 79) d_prog_107_method_1_76 rfl (host := "") (Or.inl (hw _ (List.mem_of_getElem? (i := 14) rfl))) Via.refl f379 ?_
  refine Own.iconst (pc' := 80) (v := (2 : Int32)) d_prog_107_method_1_79 (by decide) rfl ?_
  refine Own.iloadN (pc' := 81) d_prog_107_method_1_80 rfl rfl ?_
  refine Own.imulE (pc' := 82) d_prog_107_method_1_81 rfl (z := (10 : Int32)) (by decide) ?_
  refine Own.laload (pc' := 83) (i := 10) d_prog_107_method_1_82 rfl Ah376 (by decide) (by decide) ?_
  show Go K _ _ _ _ _ _ _ _ _ 1 16 h376 83 #[.val (.ref a), .val (.ref b), .val (.int (8 : Int32)), .val (.int (5 : Int32))] [(.long x2), (.int (5 : Int32)), (.ref a334)]
  refine Own.aloadN (pc' := 84) d_prog_107_method_1_83 rfl rfl rfl ?_
  refine Own.getfield (pc' := 87) d_prog_107_method_1_84 rfl (host := "") (Or.inl (hw _ (List.mem_of_getElem? (i := 14) rfl))) Via.refl f379 ?_
  refine Own.iconst (pc' := 88) (v := (2 : Int32)) d_prog_107_method_1_87 (by decide) rfl ?_
  refine Own.iloadN (pc' := 89) d_prog_107_method_1_88 rfl rfl ?_
  refine Own.imulE (pc' := 90) d_prog_107_method_1_89 rfl (z := (10 : Int32)) (by decide) ?_
  refine Own.iconst (pc' := 91) (v := (1 : Int32)) d_prog_107_method_1_90 (by decide) rfl ?_
  refine Own.iaddE (pc' := 92) d_prog_107_method_1_91 rfl (z := (11 : Int32)) (by decide) ?_
  refine Own.laload (pc' := 93) (i := 11) d_prog_107_method_1_92 rfl Ah376 (by decide) (by decide) ?_
  show Go K _ _ _ _ _ _ _ _ _ 1 16 h376 93 #[.val (.ref a), .val (.ref b), .val (.int (8 : Int32)), .val (.int (5 : Int32))] [(.long x3), (.long x2), (.int (5 : Int32)), (.ref a334)]
  refine Own.static (pc' := 96) (y := (⟨"java/lang/Math", "max", "(JJ)J"⟩ : MethodName)) (rm' := ({ frames := 0, cells := 0, slots := 0, locals := 0 } : Room)) (W := 2) (as := [(.long x2), (.long x3)]) (rest := [(.int (5 : Int32)), (.ref a334)]) d_prog_107_method_1_93 rfl (hw _ (List.mem_of_getElem? (i := 29) rfl)) (hw _ (List.mem_of_getElem? (i := 30) rfl)) (hw _ (List.mem_of_getElem? (i := 31) rfl)) (hw _ (List.mem_of_getElem? (i := 32) rfl)) (by decide) (c_own_max Z a0 hw n0 h376 Zh376 x2 x3   ) rfl rfl (lenOf pd_0 rfl) (by decide) rfl (by decide) (by decide) (by decide) fun r388 h387 qh387 => ?_
  obtain ⟨e1, v389, e2, hv389⟩ := qh387
  subst e1 e2
  show Go K _ _ _ _ _ _ _ _ _ 1 16 h376 96 #[.val (.ref a), .val (.ref b), .val (.int (8 : Int32)), .val (.int (5 : Int32))] [(.long v389), (.int (5 : Int32)), (.ref a334)]
  refine Own.lastore (pc' := 97) (i := 5) d_prog_107_method_1_96 rfl Ah376 Ga334 (by decide) (by decide) fun h390 Wh390 Ah390 => ?_
  have f391 := f377.other Wh390 (Or.inl ne_a_a334)
  have f392 := f378.other Wh390 (Or.inl ne_a_a334)
  have f393 := f379.other Wh390 (Or.inl ne_a_a334)
  have f394 := f380.wr Wh390
  have f395 := f381.other Wh390 ne_b_a334
  have Zh390 : n0 ≤ h390.size := by rw [Wh390.size]; exact Zh376
  have Kh390 := Kh376.wr Wh390 (Or.inr (hs_a334))
  refine Own.iincE (pc' := 100) (L1 := fun zz => #[.val (.ref a), .val (.ref b), .val (.int (8 : Int32)), .val (.int zz)]) d_prog_107_method_1_97 rfl (fun _ => rfl) rfl (z := (4 : Int32)) (by decide) ?_
  show Go K _ _ _ _ _ _ _ _ _ 1 16 h390 100 #[.val (.ref a), .val (.ref b), .val (.int (8 : Int32)), .val (.int (4 : Int32))] []
  refine Own.goto (pc' := 66) d_prog_107_method_1_100 (by decide) (by decide) ?_
  refine Own.iloadN (pc' := 67) d_prog_107_method_1_66 rfl rfl ?_
  refine Own.if_le (pc' := 103) (pc2 := 70) d_prog_107_method_1_67 (by decide) (by decide) rfl (fun q => absurd q (by decide)) (fun _ => ?_)
  refine Own.aloadN (pc' := 71) d_prog_107_method_1_70 rfl rfl rfl ?_
  refine Own.getfield (pc' := 74) d_prog_107_method_1_71 rfl (host := "") (Or.inl (hw _ (List.mem_of_getElem? (i := 14) rfl))) Via.refl f393 ?_
  refine Own.iloadN (pc' := 75) d_prog_107_method_1_74 rfl rfl ?_
  refine Own.aloadN (pc' := 76) d_prog_107_method_1_75 rfl rfl rfl ?_
  refine Own.getfield (pc' := 79) d_prog_107_method_1_76 rfl (host := "") (Or.inl (hw _ (List.mem_of_getElem? (i := 14) rfl))) Via.refl f393 ?_
  refine Own.iconst (pc' := 80) (v := (2 : Int32)) d_prog_107_method_1_79 (by decide) rfl ?_
  refine Own.iloadN (pc' := 81) d_prog_107_method_1_80 rfl rfl ?_
  refine Own.imulE (pc' := 82) d_prog_107_method_1_81 rfl (z := (8 : Int32)) (by decide) ?_
  refine Own.laload (pc' := 83) (i := 8) d_prog_107_method_1_82 rfl Ah390 (by decide) (by decide) ?_
  show Go K _ _ _ _ _ _ _ _ _ 1 16 h390 83 #[.val (.ref a), .val (.ref b), .val (.int (8 : Int32)), .val (.int (4 : Int32))] [(.long x0), (.int (4 : Int32)), (.ref a334)]
  refine Own.aloadN (pc' := 84) d_prog_107_method_1_83 rfl rfl rfl ?_
  refine Own.getfield (pc' := 87) d_prog_107_method_1_84 rfl (host := "") (Or.inl (hw _ (List.mem_of_getElem? (i := 14) rfl))) Via.refl f393 ?_
  refine Own.iconst (pc' := 88) (v := (2 : Int32)) d_prog_107_method_1_87 (by decide) rfl ?_
  refine Own.iloadN (pc' := 89) d_prog_107_method_1_88 rfl rfl ?_
  refine Own.imulE (pc' := 90) d_prog_107_method_1_89 rfl (z := (8 : Int32)) (by decide) ?_
  refine Own.iconst (pc' := 91) (v := (1 : Int32)) d_prog_107_method_1_90 (by decide) rfl ?_
  refine Own.iaddE (pc' := 92) d_prog_107_method_1_91 rfl (z := (9 : Int32)) (by decide) ?_
  refine Own.laload (pc' := 93) (i := 9) d_prog_107_method_1_92 rfl Ah390 (by decide) (by decide) ?_
  show Go K _ _ _ _ _ _ _ _ _ 1 16 h390 93 #[.val (.ref a), .val (.ref b), .val (.int (8 : Int32)), .val (.int (4 : Int32))] [(.long x1), (.long x0), (.int (4 : Int32)), (.ref a334)]
  refine Own.static (pc' := 96) (y := (⟨"java/lang/Math", "max", "(JJ)J"⟩ : MethodName)) (rm' := ({ frames := 0, cells := 0, slots := 0, locals := 0 } : Room)) (W := 2) (as := [(.long x0), (.long x1)]) (rest := [(.int (4 : Int32)), (.ref a334)]) d_prog_107_method_1_93 rfl (hw _ (List.mem_of_getElem? (i := 29) rfl)) (hw _ (List.mem_of_getElem? (i := 30) rfl)) (hw _ (List.mem_of_getElem? (i := 31) rfl)) (hw _ (List.mem_of_getElem? (i := 32) rfl)) (by decide) (c_own_max Z a0 hw n0 h390 Zh390 x0 x1   ) rfl rfl (lenOf pd_0 rfl) (by decide) rfl (by decide) (by decide) (by decide) fun r402 h401 qh401 => ?_
  obtain ⟨e1, v403, e2, hv403⟩ := qh401
  subst e1 e2
  show Go K _ _ _ _ _ _ _ _ _ 1 16 h390 96 #[.val (.ref a), .val (.ref b), .val (.int (8 : Int32)), .val (.int (4 : Int32))] [(.long v403), (.int (4 : Int32)), (.ref a334)]
  refine Own.lastore (pc' := 97) (i := 4) d_prog_107_method_1_96 rfl Ah390 Ga334 (by decide) (by decide) fun h404 Wh404 Ah404 => ?_
  have f405 := f391.other Wh404 (Or.inl ne_a_a334)
  have f406 := f392.other Wh404 (Or.inl ne_a_a334)
  have f407 := f393.other Wh404 (Or.inl ne_a_a334)
  have f408 := f394.wr Wh404
  have f409 := f395.other Wh404 ne_b_a334
  have Zh404 : n0 ≤ h404.size := by rw [Wh404.size]; exact Zh390
  have Kh404 := Kh390.wr Wh404 (Or.inr (hs_a334))
  refine Own.iincE (pc' := 100) (L1 := fun zz => #[.val (.ref a), .val (.ref b), .val (.int (8 : Int32)), .val (.int zz)]) d_prog_107_method_1_97 rfl (fun _ => rfl) rfl (z := (3 : Int32)) (by decide) ?_
  show Go K _ _ _ _ _ _ _ _ _ 1 16 h404 100 #[.val (.ref a), .val (.ref b), .val (.int (8 : Int32)), .val (.int (3 : Int32))] []
  refine Own.goto (pc' := 66) d_prog_107_method_1_100 (by decide) (by decide) ?_
  refine Own.iloadN (pc' := 67) d_prog_107_method_1_66 rfl rfl ?_
  refine Own.if_le (pc' := 103) (pc2 := 70) d_prog_107_method_1_67 (by decide) (by decide) rfl (fun q => absurd q (by decide)) (fun _ => ?_)
  refine Own.aloadN (pc' := 71) d_prog_107_method_1_70 rfl rfl rfl ?_
  refine Own.getfield (pc' := 74) d_prog_107_method_1_71 rfl (host := "") (Or.inl (hw _ (List.mem_of_getElem? (i := 14) rfl))) Via.refl f407 ?_
  refine Own.iloadN (pc' := 75) d_prog_107_method_1_74 rfl rfl ?_
  refine Own.aloadN (pc' := 76) d_prog_107_method_1_75 rfl rfl rfl ?_
  refine Own.getfield (pc' := 79) d_prog_107_method_1_76 rfl (host := "") (Or.inl (hw _ (List.mem_of_getElem? (i := 14) rfl))) Via.refl f407 ?_
  refine Own.iconst (pc' := 80) (v := (2 : Int32)) d_prog_107_method_1_79 (by decide) rfl ?_
  refine Own.iloadN (pc' := 81) d_prog_107_method_1_80 rfl rfl ?_
  refine Own.imulE (pc' := 82) d_prog_107_method_1_81 rfl (z := (6 : Int32)) (by decide) ?_
  refine Own.laload (pc' := 83) (i := 6) d_prog_107_method_1_82 rfl Ah404 (by decide) (by decide) ?_
  show Go K _ _ _ _ _ _ _ _ _ 1 16 h404 83 #[.val (.ref a), .val (.ref b), .val (.int (8 : Int32)), .val (.int (3 : Int32))] [(.long v375), (.int (3 : Int32)), (.ref a334)]
  refine Own.aloadN (pc' := 84) d_prog_107_method_1_83 rfl rfl rfl ?_
  refine Own.getfield (pc' := 87) d_prog_107_method_1_84 rfl (host := "") (Or.inl (hw _ (List.mem_of_getElem? (i := 14) rfl))) Via.refl f407 ?_
  refine Own.iconst (pc' := 88) (v := (2 : Int32)) d_prog_107_method_1_87 (by decide) rfl ?_
  refine Own.iloadN (pc' := 89) d_prog_107_method_1_88 rfl rfl ?_
  refine Own.imulE (pc' := 90) d_prog_107_method_1_89 rfl (z := (6 : Int32)) (by decide) ?_
  refine Own.iconst (pc' := 91) (v := (1 : Int32)) d_prog_107_method_1_90 (by decide) rfl ?_
  refine Own.iaddE (pc' := 92) d_prog_107_method_1_91 rfl (z := (7 : Int32)) (by decide) ?_
  refine Own.laload (pc' := 93) (i := 7) d_prog_107_method_1_92 rfl Ah404 (by decide) (by decide) ?_
  show Go K _ _ _ _ _ _ _ _ _ 1 16 h404 93 #[.val (.ref a), .val (.ref b), .val (.int (8 : Int32)), .val (.int (3 : Int32))] [(.long v361), (.long v375), (.int (3 : Int32)), (.ref a334)]
  refine Own.static (pc' := 96) (y := (⟨"java/lang/Math", "max", "(JJ)J"⟩ : MethodName)) (rm' := ({ frames := 0, cells := 0, slots := 0, locals := 0 } : Room)) (W := 2) (as := [(.long v375), (.long v361)]) (rest := [(.int (3 : Int32)), (.ref a334)]) d_prog_107_method_1_93 rfl (hw _ (List.mem_of_getElem? (i := 29) rfl)) (hw _ (List.mem_of_getElem? (i := 30) rfl)) (hw _ (List.mem_of_getElem? (i := 31) rfl)) (hw _ (List.mem_of_getElem? (i := 32) rfl)) (by decide) (c_own_max Z a0 hw n0 h404 Zh404 v375 v361   ) rfl rfl (lenOf pd_0 rfl) (by decide) rfl (by decide) (by decide) (by decide) fun r416 h415 qh415 => ?_
  obtain ⟨e1, v417, e2, hv417⟩ := qh415
  subst e1 e2
  show Go K _ _ _ _ _ _ _ _ _ 1 16 h404 96 #[.val (.ref a), .val (.ref b), .val (.int (8 : Int32)), .val (.int (3 : Int32))] [(.long v417), (.int (3 : Int32)), (.ref a334)]
  refine Own.lastore (pc' := 97) (i := 3) d_prog_107_method_1_96 rfl Ah404 Ga334 (by decide) (by decide) fun h418 Wh418 Ah418 => ?_
  have f419 := f405.other Wh418 (Or.inl ne_a_a334)
  have f420 := f406.other Wh418 (Or.inl ne_a_a334)
  have f421 := f407.other Wh418 (Or.inl ne_a_a334)
  have f422 := f408.wr Wh418
  have f423 := f409.other Wh418 ne_b_a334
  have Zh418 : n0 ≤ h418.size := by rw [Wh418.size]; exact Zh404
  have Kh418 := Kh404.wr Wh418 (Or.inr (hs_a334))
  refine Own.iincE (pc' := 100) (L1 := fun zz => #[.val (.ref a), .val (.ref b), .val (.int (8 : Int32)), .val (.int zz)]) d_prog_107_method_1_97 rfl (fun _ => rfl) rfl (z := (2 : Int32)) (by decide) ?_
  show Go K _ _ _ _ _ _ _ _ _ 1 16 h418 100 #[.val (.ref a), .val (.ref b), .val (.int (8 : Int32)), .val (.int (2 : Int32))] []
  refine Own.goto (pc' := 66) d_prog_107_method_1_100 (by decide) (by decide) ?_
  refine Own.iloadN (pc' := 67) d_prog_107_method_1_66 rfl rfl ?_
  refine Own.if_le (pc' := 103) (pc2 := 70) d_prog_107_method_1_67 (by decide) (by decide) rfl (fun q => absurd q (by decide)) (fun _ => ?_)
  refine Own.aloadN (pc' := 71) d_prog_107_method_1_70 rfl rfl rfl ?_
  refine Own.getfield (pc' := 74) d_prog_107_method_1_71 rfl (host := "") (Or.inl (hw _ (List.mem_of_getElem? (i := 14) rfl))) Via.refl f421 ?_
  refine Own.iloadN (pc' := 75) d_prog_107_method_1_74 rfl rfl ?_
  refine Own.aloadN (pc' := 76) d_prog_107_method_1_75 rfl rfl rfl ?_
  refine Own.getfield (pc' := 79) d_prog_107_method_1_76 rfl (host := "") (Or.inl (hw _ (List.mem_of_getElem? (i := 14) rfl))) Via.refl f421 ?_
  refine Own.iconst (pc' := 80) (v := (2 : Int32)) d_prog_107_method_1_79 (by decide) rfl ?_
  refine Own.iloadN (pc' := 81) d_prog_107_method_1_80 rfl rfl ?_
  refine Own.imulE (pc' := 82) d_prog_107_method_1_81 rfl (z := (4 : Int32)) (by decide) ?_
  refine Own.laload (pc' := 83) (i := 4) d_prog_107_method_1_82 rfl Ah418 (by decide) (by decide) ?_
  show Go K _ _ _ _ _ _ _ _ _ 1 16 h418 83 #[.val (.ref a), .val (.ref b), .val (.int (8 : Int32)), .val (.int (2 : Int32))] [(.long v403), (.int (2 : Int32)), (.ref a334)]
  refine Own.aloadN (pc' := 84) d_prog_107_method_1_83 rfl rfl rfl ?_
  refine Own.getfield (pc' := 87) d_prog_107_method_1_84 rfl (host := "") (Or.inl (hw _ (List.mem_of_getElem? (i := 14) rfl))) Via.refl f421 ?_
  refine Own.iconst (pc' := 88) (v := (2 : Int32)) d_prog_107_method_1_87 (by decide) rfl ?_
  refine Own.iloadN (pc' := 89) d_prog_107_method_1_88 rfl rfl ?_
  refine Own.imulE (pc' := 90) d_prog_107_method_1_89 rfl (z := (4 : Int32)) (by decide) ?_
  refine Own.iconst (pc' := 91) (v := (1 : Int32)) d_prog_107_method_1_90 (by decide) rfl ?_
  refine Own.iaddE (pc' := 92) d_prog_107_method_1_91 rfl (z := (5 : Int32)) (by decide) ?_
  refine Own.laload (pc' := 93) (i := 5) d_prog_107_method_1_92 rfl Ah418 (by decide) (by decide) ?_
  show Go K _ _ _ _ _ _ _ _ _ 1 16 h418 93 #[.val (.ref a), .val (.ref b), .val (.int (8 : Int32)), .val (.int (2 : Int32))] [(.long v389), (.long v403), (.int (2 : Int32)), (.ref a334)]
  refine Own.static (pc' := 96) (y := (⟨"java/lang/Math", "max", "(JJ)J"⟩ : MethodName)) (rm' := ({ frames := 0, cells := 0, slots := 0, locals := 0 } : Room)) (W := 2) (as := [(.long v403), (.long v389)]) (rest := [(.int (2 : Int32)), (.ref a334)]) d_prog_107_method_1_93 rfl (hw _ (List.mem_of_getElem? (i := 29) rfl)) (hw _ (List.mem_of_getElem? (i := 30) rfl)) (hw _ (List.mem_of_getElem? (i := 31) rfl)) (hw _ (List.mem_of_getElem? (i := 32) rfl)) (by decide) (c_own_max Z a0 hw n0 h418 Zh418 v403 v389   ) rfl rfl (lenOf pd_0 rfl) (by decide) rfl (by decide) (by decide) (by decide) fun r430 h429 qh429 => ?_
  obtain ⟨e1, v431, e2, hv431⟩ := qh429
  subst e1 e2
  show Go K _ _ _ _ _ _ _ _ _ 1 16 h418 96 #[.val (.ref a), .val (.ref b), .val (.int (8 : Int32)), .val (.int (2 : Int32))] [(.long v431), (.int (2 : Int32)), (.ref a334)]
  refine Own.lastore (pc' := 97) (i := 2) d_prog_107_method_1_96 rfl Ah418 Ga334 (by decide) (by decide) fun h432 Wh432 Ah432 => ?_
  have f433 := f419.other Wh432 (Or.inl ne_a_a334)
  have f434 := f420.other Wh432 (Or.inl ne_a_a334)
  have f435 := f421.other Wh432 (Or.inl ne_a_a334)
  have f436 := f422.wr Wh432
  have f437 := f423.other Wh432 ne_b_a334
  have Zh432 : n0 ≤ h432.size := by rw [Wh432.size]; exact Zh418
  have Kh432 := Kh418.wr Wh432 (Or.inr (hs_a334))
  refine Own.iincE (pc' := 100) (L1 := fun zz => #[.val (.ref a), .val (.ref b), .val (.int (8 : Int32)), .val (.int zz)]) d_prog_107_method_1_97 rfl (fun _ => rfl) rfl (z := (1 : Int32)) (by decide) ?_
  show Go K _ _ _ _ _ _ _ _ _ 1 16 h432 100 #[.val (.ref a), .val (.ref b), .val (.int (8 : Int32)), .val (.int (1 : Int32))] []
  refine Own.goto (pc' := 66) d_prog_107_method_1_100 (by decide) (by decide) ?_
  refine Own.iloadN (pc' := 67) d_prog_107_method_1_66 rfl rfl ?_
  refine Own.if_le (pc' := 103) (pc2 := 70) d_prog_107_method_1_67 (by decide) (by decide) rfl (fun q => absurd q (by decide)) (fun _ => ?_)
  refine Own.aloadN (pc' := 71) d_prog_107_method_1_70 rfl rfl rfl ?_
  refine Own.getfield (pc' := 74) d_prog_107_method_1_71 rfl (host := "") (Or.inl (hw _ (List.mem_of_getElem? (i := 14) rfl))) Via.refl f435 ?_
  refine Own.iloadN (pc' := 75) d_prog_107_method_1_74 rfl rfl ?_
  refine Own.aloadN (pc' := 76) d_prog_107_method_1_75 rfl rfl rfl ?_
  refine Own.getfield (pc' := 79) d_prog_107_method_1_76 rfl (host := "") (Or.inl (hw _ (List.mem_of_getElem? (i := 14) rfl))) Via.refl f435 ?_
  refine Own.iconst (pc' := 80) (v := (2 : Int32)) d_prog_107_method_1_79 (by decide) rfl ?_
  refine Own.iloadN (pc' := 81) d_prog_107_method_1_80 rfl rfl ?_
  refine Own.imulE (pc' := 82) d_prog_107_method_1_81 rfl (z := (2 : Int32)) (by decide) ?_
  refine Own.laload (pc' := 83) (i := 2) d_prog_107_method_1_82 rfl Ah432 (by decide) (by decide) ?_
  show Go K _ _ _ _ _ _ _ _ _ 1 16 h432 83 #[.val (.ref a), .val (.ref b), .val (.int (8 : Int32)), .val (.int (1 : Int32))] [(.long v431), (.int (1 : Int32)), (.ref a334)]
  refine Own.aloadN (pc' := 84) d_prog_107_method_1_83 rfl rfl rfl ?_
  refine Own.getfield (pc' := 87) d_prog_107_method_1_84 rfl (host := "") (Or.inl (hw _ (List.mem_of_getElem? (i := 14) rfl))) Via.refl f435 ?_
  refine Own.iconst (pc' := 88) (v := (2 : Int32)) d_prog_107_method_1_87 (by decide) rfl ?_
  refine Own.iloadN (pc' := 89) d_prog_107_method_1_88 rfl rfl ?_
  refine Own.imulE (pc' := 90) d_prog_107_method_1_89 rfl (z := (2 : Int32)) (by decide) ?_
  refine Own.iconst (pc' := 91) (v := (1 : Int32)) d_prog_107_method_1_90 (by decide) rfl ?_
  refine Own.iaddE (pc' := 92) d_prog_107_method_1_91 rfl (z := (3 : Int32)) (by decide) ?_
  refine Own.laload (pc' := 93) (i := 3) d_prog_107_method_1_92 rfl Ah432 (by decide) (by decide) ?_
  show Go K _ _ _ _ _ _ _ _ _ 1 16 h432 93 #[.val (.ref a), .val (.ref b), .val (.int (8 : Int32)), .val (.int (1 : Int32))] [(.long v417), (.long v431), (.int (1 : Int32)), (.ref a334)]
  refine Own.static (pc' := 96) (y := (⟨"java/lang/Math", "max", "(JJ)J"⟩ : MethodName)) (rm' := ({ frames := 0, cells := 0, slots := 0, locals := 0 } : Room)) (W := 2) (as := [(.long v431), (.long v417)]) (rest := [(.int (1 : Int32)), (.ref a334)]) d_prog_107_method_1_93 rfl (hw _ (List.mem_of_getElem? (i := 29) rfl)) (hw _ (List.mem_of_getElem? (i := 30) rfl)) (hw _ (List.mem_of_getElem? (i := 31) rfl)) (hw _ (List.mem_of_getElem? (i := 32) rfl)) (by decide) (c_own_max Z a0 hw n0 h432 Zh432 v431 v417   ) rfl rfl (lenOf pd_0 rfl) (by decide) rfl (by decide) (by decide) (by decide) fun r444 h443 qh443 => ?_
  obtain ⟨e1, v445, e2, hv445⟩ := qh443
  subst e1 e2
  show Go K _ _ _ _ _ _ _ _ _ 1 16 h432 96 #[.val (.ref a), .val (.ref b), .val (.int (8 : Int32)), .val (.int (1 : Int32))] [(.long v445), (.int (1 : Int32)), (.ref a334)]
  refine Own.lastore (pc' := 97) (i := 1) d_prog_107_method_1_96 rfl Ah432 Ga334 (by decide) (by decide) fun h446 Wh446 Ah446 => ?_
  have f447 := f433.other Wh446 (Or.inl ne_a_a334)
  have f448 := f434.other Wh446 (Or.inl ne_a_a334)
  have f449 := f435.other Wh446 (Or.inl ne_a_a334)
  have f450 := f436.wr Wh446
  have f451 := f437.other Wh446 ne_b_a334
  have Zh446 : n0 ≤ h446.size := by rw [Wh446.size]; exact Zh432
  have Kh446 := Kh432.wr Wh446 (Or.inr (hs_a334))
  refine Own.iincE (pc' := 100) (L1 := fun zz => #[.val (.ref a), .val (.ref b), .val (.int (8 : Int32)), .val (.int zz)]) d_prog_107_method_1_97 rfl (fun _ => rfl) rfl (z := (0 : Int32)) (by decide) ?_
  show Go K _ _ _ _ _ _ _ _ _ 1 16 h446 100 #[.val (.ref a), .val (.ref b), .val (.int (8 : Int32)), .val (.int (0 : Int32))] []
  refine Own.goto (pc' := 66) d_prog_107_method_1_100 (by decide) (by decide) ?_
  refine Own.iloadN (pc' := 67) d_prog_107_method_1_66 rfl rfl ?_
  refine Own.if_le (pc' := 103) (pc2 := 70) d_prog_107_method_1_67 (by decide) (by decide) rfl (fun _ => ?_) (fun q => absurd (by decide) q)
  subst hv361 hv375 hv389 hv403 hv417 hv431 hv445
  have Af := (Ah446).cong (g := own_nd5 x0 x1 x2 x3 x4) (fun k hk => by have hk' : k = 0 ∨ k = 1 ∨ k = 2 ∨ k = 3 ∨ k = 4 ∨ k = 5 ∨ k = 6 ∨ k = 7 ∨ k = 8 ∨ k = 9 ∨ k = 10 ∨ k = 11 ∨ k = 12 ∨ k = 13 ∨ k = 14 ∨ k = 15 := (by omega); rcases hk' with rfl | rfl | rfl | rfl | rfl | rfl | rfl | rfl | rfl | rfl | rfl | rfl | rfl | rfl | rfl | rfl <;> simp [ownSet, own_vals, own_nd5])
  exact Own.vreturn d_prog_107_method_1_103 rfl (⟨rfl, a334, Kh446, hs_a334, f450, f447, f448, f449, Af⟩) (by decide) (by decide)
theorem own_nd5_0 (x0 x1 x2 x3 x4 : Int64) : own_nd5 x0 x1 x2 x3 x4 0 = (0 : Int64) := by simp [own_nd5]
theorem own_nd5_1 (x0 x1 x2 x3 x4 : Int64) : own_nd5 x0 x1 x2 x3 x4 1 = (own_max (own_max (own_max x0 x1) (own_max x2 x3)) (own_max (own_max x4 (0 : Int64)) (own_max (0 : Int64) (0 : Int64)))) := by simp [own_nd5]
theorem own_nd5_2 (x0 x1 x2 x3 x4 : Int64) : own_nd5 x0 x1 x2 x3 x4 2 = (own_max (own_max x0 x1) (own_max x2 x3)) := by simp [own_nd5]
theorem own_nd5_3 (x0 x1 x2 x3 x4 : Int64) : own_nd5 x0 x1 x2 x3 x4 3 = (own_max (own_max x4 (0 : Int64)) (own_max (0 : Int64) (0 : Int64))) := by simp [own_nd5]
theorem own_nd5_4 (x0 x1 x2 x3 x4 : Int64) : own_nd5 x0 x1 x2 x3 x4 4 = (own_max x0 x1) := by simp [own_nd5]
theorem own_nd5_5 (x0 x1 x2 x3 x4 : Int64) : own_nd5 x0 x1 x2 x3 x4 5 = (own_max x2 x3) := by simp [own_nd5]
theorem own_nd5_6 (x0 x1 x2 x3 x4 : Int64) : own_nd5 x0 x1 x2 x3 x4 6 = (own_max x4 (0 : Int64)) := by simp [own_nd5]
theorem own_nd5_7 (x0 x1 x2 x3 x4 : Int64) : own_nd5 x0 x1 x2 x3 x4 7 = (own_max (0 : Int64) (0 : Int64)) := by simp [own_nd5]
theorem own_nd5_8 (x0 x1 x2 x3 x4 : Int64) : own_nd5 x0 x1 x2 x3 x4 8 = x0 := by simp [own_nd5]
theorem own_nd5_9 (x0 x1 x2 x3 x4 : Int64) : own_nd5 x0 x1 x2 x3 x4 9 = x1 := by simp [own_nd5]
theorem own_nd5_10 (x0 x1 x2 x3 x4 : Int64) : own_nd5 x0 x1 x2 x3 x4 10 = x2 := by simp [own_nd5]
theorem own_nd5_11 (x0 x1 x2 x3 x4 : Int64) : own_nd5 x0 x1 x2 x3 x4 11 = x3 := by simp [own_nd5]
theorem own_nd5_12 (x0 x1 x2 x3 x4 : Int64) : own_nd5 x0 x1 x2 x3 x4 12 = x4 := by simp [own_nd5]
theorem own_nd5_13 (x0 x1 x2 x3 x4 : Int64) : own_nd5 x0 x1 x2 x3 x4 13 = (0 : Int64) := by simp [own_nd5]
theorem own_nd5_14 (x0 x1 x2 x3 x4 : Int64) : own_nd5 x0 x1 x2 x3 x4 14 = (0 : Int64) := by simp [own_nd5]
theorem own_nd5_15 (x0 x1 x2 x3 x4 : Int64) : own_nd5 x0 x1 x2 x3 x4 15 = (0 : Int64) := by simp [own_nd5]
set_option maxRecDepth 65536 in
set_option maxHeartbeats 40000000 in
theorem c_own_fa0 (Z : State) (a0 : Array Value) (hw : ∀ d ∈ tables_1, d.before a0 Z = true) (n0 : Nat) (h : Heap) (hZ0 : n0 ≤ h.size) (a : Addr) (p : Int32) (q : Int64) (x0 x1 x2 x3 x4 : Int64) (r : Addr) (F_leaves : Fld Z h a "com/example/coldtail/coldtail/segment/MaxTree" "leaves" "I" (.int (1 : Int32))) (F_count : Fld Z h a "com/example/coldtail/coldtail/segment/MaxTree" "count" "I" (.int (0 : Int32))) (F_nodes : Fld Z h a "com/example/coldtail/coldtail/segment/MaxTree" "nodes" "[J" (.ref r)) (A : AJ Z h r 2 (own_nd0 x0 x1 x2 x3 x4)) (hp : 0 ≤ p.toInt) :
    Con Z n0 (⟨"com/example/coldtail/coldtail/segment/MaxTree", "firstAtLeast", "(IJ)I"⟩ : MethodName) prog_107_method_2_code 6 (some .int) ({ frames := 0, cells := 0, slots := 0, locals := 0 } : Room) [(.ref a), (.int p), (.long q)] h (fun v h' => h = h' ∧ ∃ z, v = some (.int z) ∧ z = own_want (0 : Int32) p q x0 x1 x2 x3 x4) := by
  refine Own.enter (plainFor_of_name pn_1) (L0 := #[.val (.ref a), .val (.int p), .val (.long q), .second, .unset, .unset]) (fun m => by first | (simp [entryFrame, mkF, argsToLocals, Value.category]; done) | rfl) fun K => ?_
  show Go K _ _ _ _ _ _ "com/example/coldtail/coldtail/segment/MaxTree" "firstAtLeast" _ 0 0 h 0 #[.val (.ref a), .val (.int p), .val (.long q), .second, .unset, .unset] []
  have k0 : (0 : Int32).toInt = 0 := by decide
  have k1 : (1 : Int32).toInt = 1 := by decide
  have k2 : (2 : Int32).toInt = 2 := by decide
  have k3 : (3 : Int32).toInt = 3 := by decide
  have k4 : (4 : Int32).toInt = 4 := by decide
  have k5 : (5 : Int32).toInt = 5 := by decide
  have k6 : (6 : Int32).toInt = 6 := by decide
  have k7 : (7 : Int32).toInt = 7 := by decide
  have k8 : (8 : Int32).toInt = 8 := by decide
  have kz : (0 : Int64).toInt = 0 := by decide
  refine Own.iloadN (pc' := 1) d_prog_107_method_2_0 rfl rfl ?_
  refine Own.aloadN (pc' := 2) d_prog_107_method_2_1 rfl rfl rfl ?_
  refine Own.getfield (pc' := 5) d_prog_107_method_2_2 rfl (host := "") (Or.inl (hw _ (List.mem_of_getElem? (i := 12) rfl))) Via.refl F_count ?_
  refine Own.icmp_lt (pc' := 13) (pc2 := 8) d_prog_107_method_2_5 (by decide) (by decide) rfl (fun c5_453 => False.elim (by omega)) (fun c5_453 => ?_)
  refine Own.aloadN (pc' := 9) d_prog_107_method_2_8 rfl rfl rfl ?_
  refine Own.getfield (pc' := 12) d_prog_107_method_2_9 rfl (host := "") (Or.inl (hw _ (List.mem_of_getElem? (i := 12) rfl))) Via.refl F_count ?_
  have hq : (0 : Int32) = own_want (0 : Int32) p q x0 x1 x2 x3 x4 := by unfold own_want; (repeat' split) <;> first | rfl | (exfalso; omega) | omega
  exact Own.ireturnI d_prog_107_method_2_12 rfl (⟨rfl, _, rfl, hq⟩) (by decide) (by decide)
set_option maxRecDepth 65536 in
set_option maxHeartbeats 40000000 in
theorem c_own_fa1 (Z : State) (a0 : Array Value) (hw : ∀ d ∈ tables_1, d.before a0 Z = true) (n0 : Nat) (h : Heap) (hZ0 : n0 ≤ h.size) (a : Addr) (p : Int32) (q : Int64) (x0 x1 x2 x3 x4 : Int64) (r : Addr) (F_leaves : Fld Z h a "com/example/coldtail/coldtail/segment/MaxTree" "leaves" "I" (.int (1 : Int32))) (F_count : Fld Z h a "com/example/coldtail/coldtail/segment/MaxTree" "count" "I" (.int (1 : Int32))) (F_nodes : Fld Z h a "com/example/coldtail/coldtail/segment/MaxTree" "nodes" "[J" (.ref r)) (A : AJ Z h r 2 (own_nd1 x0 x1 x2 x3 x4)) (hp : 0 ≤ p.toInt) :
    Con Z n0 (⟨"com/example/coldtail/coldtail/segment/MaxTree", "firstAtLeast", "(IJ)I"⟩ : MethodName) prog_107_method_2_code 6 (some .int) ({ frames := 0, cells := 0, slots := 0, locals := 0 } : Room) [(.ref a), (.int p), (.long q)] h (fun v h' => h = h' ∧ ∃ z, v = some (.int z) ∧ z = own_want (1 : Int32) p q x0 x1 x2 x3 x4) := by
  refine Own.enter (plainFor_of_name pn_1) (L0 := #[.val (.ref a), .val (.int p), .val (.long q), .second, .unset, .unset]) (fun m => by first | (simp [entryFrame, mkF, argsToLocals, Value.category]; done) | rfl) fun K => ?_
  show Go K _ _ _ _ _ _ "com/example/coldtail/coldtail/segment/MaxTree" "firstAtLeast" _ 0 0 h 0 #[.val (.ref a), .val (.int p), .val (.long q), .second, .unset, .unset] []
  have k0 : (0 : Int32).toInt = 0 := by decide
  have k1 : (1 : Int32).toInt = 1 := by decide
  have k2 : (2 : Int32).toInt = 2 := by decide
  have k3 : (3 : Int32).toInt = 3 := by decide
  have k4 : (4 : Int32).toInt = 4 := by decide
  have k5 : (5 : Int32).toInt = 5 := by decide
  have k6 : (6 : Int32).toInt = 6 := by decide
  have k7 : (7 : Int32).toInt = 7 := by decide
  have k8 : (8 : Int32).toInt = 8 := by decide
  have kz : (0 : Int64).toInt = 0 := by decide
  refine Own.iloadN (pc' := 1) d_prog_107_method_2_0 rfl rfl ?_
  refine Own.aloadN (pc' := 2) d_prog_107_method_2_1 rfl rfl rfl ?_
  refine Own.getfield (pc' := 5) d_prog_107_method_2_2 rfl (host := "") (Or.inl (hw _ (List.mem_of_getElem? (i := 12) rfl))) Via.refl F_count ?_
  refine Own.icmp_lt (pc' := 13) (pc2 := 8) d_prog_107_method_2_5 (by decide) (by decide) rfl (fun c5_454 => ?_) (fun c5_454 => ?_)
  · have hc : p = (0 : Int32) := by
      have : p.toInt = 0 := by omega
      have qq := this
      · exact (Int32.toInt_inj.mp (by rw [qq]; decide))
    subst hc
    · refine Own.aloadN (pc' := 14) d_prog_107_method_2_13 rfl rfl rfl ?_
      refine Own.getfield (pc' := 17) d_prog_107_method_2_14 rfl (host := "") (Or.inl (hw _ (List.mem_of_getElem? (i := 10) rfl))) Via.refl F_leaves ?_
      refine Own.iloadN (pc' := 18) d_prog_107_method_2_17 rfl rfl ?_
      refine Own.iaddE (pc' := 19) d_prog_107_method_2_18 rfl (z := (1 : Int32)) (by decide) ?_
      refine Own.istore (pc' := 21) (L1 := #[.val (.ref a), .val (.int (0 : Int32)), .val (.long q), .second, .val (.int (1 : Int32)), .unset]) d_prog_107_method_2_19 rfl rfl ?_
      refine Own.iload (pc' := 23) d_prog_107_method_2_21 rfl rfl ?_
      refine Own.if_le (pc' := 66) (pc2 := 26) d_prog_107_method_2_23 (by decide) (by decide) rfl (fun q => absurd q (by decide)) (fun _ => ?_)
      refine Own.aloadN (pc' := 27) d_prog_107_method_2_26 rfl rfl rfl ?_
      refine Own.getfield (pc' := 30) d_prog_107_method_2_27 rfl (host := "") (Or.inl (hw _ (List.mem_of_getElem? (i := 14) rfl))) Via.refl F_nodes ?_
      refine Own.iload (pc' := 32) d_prog_107_method_2_30 rfl rfl ?_
      refine Own.laload (pc' := 33) (i := 1) d_prog_107_method_2_32 rfl A (by decide) (by decide) ?_
      rw [own_nd1_1]
      show Go K _ _ _ _ _ _ _ _ _ 0 0 h 33 #[.val (.ref a), .val (.int (0 : Int32)), .val (.long q), .second, .val (.int (1 : Int32)), .unset] [(.long x0)]
      refine Own.lloadN (pc' := 34) d_prog_107_method_2_33 rfl rfl ?_
      refine Own.lcmp_ge (pc1 := 35) (pc' := 66) (pc2 := 38) d_prog_107_method_2_34 rfl d_prog_107_method_2_35 (by decide) (by decide) rfl (fun c34_457 => ?_) (fun c34_457 => ?_)
      · refine Own.aloadN (pc' := 67) d_prog_107_method_2_66 rfl rfl rfl ?_
        refine Own.getfield (pc' := 70) d_prog_107_method_2_67 rfl (host := "") (Or.inl (hw _ (List.mem_of_getElem? (i := 12) rfl))) Via.refl F_count ?_
        refine Own.istore (pc' := 72) (L1 := #[.val (.ref a), .val (.int (0 : Int32)), .val (.long q), .second, .val (.int (1 : Int32)), .val (.int (1 : Int32))]) d_prog_107_method_2_70 rfl rfl ?_
        refine Own.iload (pc' := 74) d_prog_107_method_2_72 rfl rfl ?_
        refine Own.if_le (pc' := 127) (pc2 := 77) d_prog_107_method_2_74 (by decide) (by decide) rfl (fun q => absurd q (by decide)) (fun _ => ?_)
        refine Own.iload (pc' := 79) d_prog_107_method_2_77 rfl rfl ?_
        refine Own.aloadN (pc' := 80) d_prog_107_method_2_79 rfl rfl rfl ?_
        refine Own.getfield (pc' := 83) d_prog_107_method_2_80 rfl (host := "") (Or.inl (hw _ (List.mem_of_getElem? (i := 10) rfl))) Via.refl F_leaves ?_
        refine Own.icmp_ge (pc' := 118) (pc2 := 86) d_prog_107_method_2_83 (by decide) (by decide) rfl (fun _ => ?_) (fun q => absurd (by decide) q)
        refine Own.iload (pc' := 120) d_prog_107_method_2_118 rfl rfl ?_
        refine Own.aloadN (pc' := 121) d_prog_107_method_2_120 rfl rfl rfl ?_
        refine Own.getfield (pc' := 124) d_prog_107_method_2_121 rfl (host := "") (Or.inl (hw _ (List.mem_of_getElem? (i := 10) rfl))) Via.refl F_leaves ?_
        refine Own.isubE (pc' := 125) d_prog_107_method_2_124 rfl (z := (0 : Int32)) (by decide) ?_
        refine Own.istore (pc' := 127) (L1 := #[.val (.ref a), .val (.int (0 : Int32)), .val (.long q), .second, .val (.int (1 : Int32)), .val (.int (0 : Int32))]) d_prog_107_method_2_125 rfl rfl ?_
        refine Own.iload (pc' := 129) d_prog_107_method_2_127 rfl rfl ?_
        have hq : (0 : Int32) = own_want (1 : Int32) (0 : Int32) q x0 x1 x2 x3 x4 := by unfold own_want; (repeat' split) <;> first | rfl | (exfalso; omega) | omega
        exact Own.ireturnI d_prog_107_method_2_129 rfl (⟨rfl, _, rfl, hq⟩) (by decide) (by decide)
      · refine Own.iload (pc' := 40) d_prog_107_method_2_38 rfl rfl ?_
        refine Own.iconst (pc' := 41) (v := (2 : Int32)) d_prog_107_method_2_40 (by decide) rfl ?_
        refine Own.iremE (pc' := 42) d_prog_107_method_2_41 (by decide) rfl (z := (1 : Int32)) (by decide) ?_
        refine Own.iconst (pc' := 43) (v := (1 : Int32)) d_prog_107_method_2_42 (by decide) rfl ?_
        refine Own.icmp_ne (pc' := 55) (pc2 := 46) d_prog_107_method_2_43 (by decide) (by decide) rfl (fun q => absurd q (by decide)) (fun _ => ?_)
        refine Own.iload (pc' := 48) d_prog_107_method_2_46 rfl rfl ?_
        refine Own.iconst (pc' := 49) (v := (2 : Int32)) d_prog_107_method_2_48 (by decide) rfl ?_
        refine Own.idivE (pc' := 50) d_prog_107_method_2_49 (by decide) rfl (z := (0 : Int32)) (by decide) ?_
        refine Own.istore (pc' := 52) (L1 := #[.val (.ref a), .val (.int (0 : Int32)), .val (.long q), .second, .val (.int (0 : Int32)), .unset]) d_prog_107_method_2_50 rfl rfl ?_
        refine Own.goto (pc' := 38) d_prog_107_method_2_52 (by decide) (by decide) ?_
        refine Own.iload (pc' := 40) d_prog_107_method_2_38 rfl rfl ?_
        refine Own.iconst (pc' := 41) (v := (2 : Int32)) d_prog_107_method_2_40 (by decide) rfl ?_
        refine Own.iremE (pc' := 42) d_prog_107_method_2_41 (by decide) rfl (z := (0 : Int32)) (by decide) ?_
        refine Own.iconst (pc' := 43) (v := (1 : Int32)) d_prog_107_method_2_42 (by decide) rfl ?_
        refine Own.icmp_ne (pc' := 55) (pc2 := 46) d_prog_107_method_2_43 (by decide) (by decide) rfl (fun _ => ?_) (fun q => absurd (by decide) q)
        refine Own.iload (pc' := 57) d_prog_107_method_2_55 rfl rfl ?_
        refine Own.if_le (pc' := 21) (pc2 := 60) d_prog_107_method_2_57 (by decide) (by decide) rfl (fun _ => ?_) (fun q => absurd (by decide) q)
        refine Own.iload (pc' := 23) d_prog_107_method_2_21 rfl rfl ?_
        refine Own.if_le (pc' := 66) (pc2 := 26) d_prog_107_method_2_23 (by decide) (by decide) rfl (fun _ => ?_) (fun q => absurd (by decide) q)
        refine Own.aloadN (pc' := 67) d_prog_107_method_2_66 rfl rfl rfl ?_
        refine Own.getfield (pc' := 70) d_prog_107_method_2_67 rfl (host := "") (Or.inl (hw _ (List.mem_of_getElem? (i := 12) rfl))) Via.refl F_count ?_
        refine Own.istore (pc' := 72) (L1 := #[.val (.ref a), .val (.int (0 : Int32)), .val (.long q), .second, .val (.int (0 : Int32)), .val (.int (1 : Int32))]) d_prog_107_method_2_70 rfl rfl ?_
        refine Own.iload (pc' := 74) d_prog_107_method_2_72 rfl rfl ?_
        refine Own.if_le (pc' := 127) (pc2 := 77) d_prog_107_method_2_74 (by decide) (by decide) rfl (fun _ => ?_) (fun q => absurd (by decide) q)
        refine Own.iload (pc' := 129) d_prog_107_method_2_127 rfl rfl ?_
        have hq : (1 : Int32) = own_want (1 : Int32) (0 : Int32) q x0 x1 x2 x3 x4 := by unfold own_want; (repeat' split) <;> first | rfl | (exfalso; omega) | omega
        exact Own.ireturnI d_prog_107_method_2_129 rfl (⟨rfl, _, rfl, hq⟩) (by decide) (by decide)
  · refine Own.aloadN (pc' := 9) d_prog_107_method_2_8 rfl rfl rfl ?_
    refine Own.getfield (pc' := 12) d_prog_107_method_2_9 rfl (host := "") (Or.inl (hw _ (List.mem_of_getElem? (i := 12) rfl))) Via.refl F_count ?_
    have hq : (1 : Int32) = own_want (1 : Int32) p q x0 x1 x2 x3 x4 := by unfold own_want; (repeat' split) <;> first | rfl | (exfalso; omega) | omega
    exact Own.ireturnI d_prog_107_method_2_12 rfl (⟨rfl, _, rfl, hq⟩) (by decide) (by decide)
set_option maxRecDepth 65536 in
set_option maxHeartbeats 40000000 in
theorem c_own_fa2 (Z : State) (a0 : Array Value) (hw : ∀ d ∈ tables_1, d.before a0 Z = true) (n0 : Nat) (h : Heap) (hZ0 : n0 ≤ h.size) (a : Addr) (p : Int32) (q : Int64) (x0 x1 x2 x3 x4 : Int64) (r : Addr) (F_leaves : Fld Z h a "com/example/coldtail/coldtail/segment/MaxTree" "leaves" "I" (.int (2 : Int32))) (F_count : Fld Z h a "com/example/coldtail/coldtail/segment/MaxTree" "count" "I" (.int (2 : Int32))) (F_nodes : Fld Z h a "com/example/coldtail/coldtail/segment/MaxTree" "nodes" "[J" (.ref r)) (A : AJ Z h r 4 (own_nd2 x0 x1 x2 x3 x4)) (hp : 0 ≤ p.toInt) :
    Con Z n0 (⟨"com/example/coldtail/coldtail/segment/MaxTree", "firstAtLeast", "(IJ)I"⟩ : MethodName) prog_107_method_2_code 6 (some .int) ({ frames := 0, cells := 0, slots := 0, locals := 0 } : Room) [(.ref a), (.int p), (.long q)] h (fun v h' => h = h' ∧ ∃ z, v = some (.int z) ∧ z = own_want (2 : Int32) p q x0 x1 x2 x3 x4) := by
  refine Own.enter (plainFor_of_name pn_1) (L0 := #[.val (.ref a), .val (.int p), .val (.long q), .second, .unset, .unset]) (fun m => by first | (simp [entryFrame, mkF, argsToLocals, Value.category]; done) | rfl) fun K => ?_
  show Go K _ _ _ _ _ _ "com/example/coldtail/coldtail/segment/MaxTree" "firstAtLeast" _ 0 0 h 0 #[.val (.ref a), .val (.int p), .val (.long q), .second, .unset, .unset] []
  have k0 : (0 : Int32).toInt = 0 := by decide
  have k1 : (1 : Int32).toInt = 1 := by decide
  have k2 : (2 : Int32).toInt = 2 := by decide
  have k3 : (3 : Int32).toInt = 3 := by decide
  have k4 : (4 : Int32).toInt = 4 := by decide
  have k5 : (5 : Int32).toInt = 5 := by decide
  have k6 : (6 : Int32).toInt = 6 := by decide
  have k7 : (7 : Int32).toInt = 7 := by decide
  have k8 : (8 : Int32).toInt = 8 := by decide
  have kz : (0 : Int64).toInt = 0 := by decide
  have e0 := own_maxI x0 x1
  refine Own.iloadN (pc' := 1) d_prog_107_method_2_0 rfl rfl ?_
  refine Own.aloadN (pc' := 2) d_prog_107_method_2_1 rfl rfl rfl ?_
  refine Own.getfield (pc' := 5) d_prog_107_method_2_2 rfl (host := "") (Or.inl (hw _ (List.mem_of_getElem? (i := 12) rfl))) Via.refl F_count ?_
  refine Own.icmp_lt (pc' := 13) (pc2 := 8) d_prog_107_method_2_5 (by decide) (by decide) rfl (fun c5_469 => ?_) (fun c5_469 => ?_)
  · have hc : p = (0 : Int32) ∨ p = (1 : Int32) := by
      have : p.toInt = 0 ∨ p.toInt = 1 := by omega
      rcases this with qq | qq
      · exact Or.inl (Int32.toInt_inj.mp (by rw [qq]; decide))
      · exact Or.inr ((Int32.toInt_inj.mp (by rw [qq]; decide)))
    rcases hc with rfl | rfl
    · refine Own.aloadN (pc' := 14) d_prog_107_method_2_13 rfl rfl rfl ?_
      refine Own.getfield (pc' := 17) d_prog_107_method_2_14 rfl (host := "") (Or.inl (hw _ (List.mem_of_getElem? (i := 10) rfl))) Via.refl F_leaves ?_
      refine Own.iloadN (pc' := 18) d_prog_107_method_2_17 rfl rfl ?_
      refine Own.iaddE (pc' := 19) d_prog_107_method_2_18 rfl (z := (2 : Int32)) (by decide) ?_
      refine Own.istore (pc' := 21) (L1 := #[.val (.ref a), .val (.int (0 : Int32)), .val (.long q), .second, .val (.int (2 : Int32)), .unset]) d_prog_107_method_2_19 rfl rfl ?_
      refine Own.iload (pc' := 23) d_prog_107_method_2_21 rfl rfl ?_
      refine Own.if_le (pc' := 66) (pc2 := 26) d_prog_107_method_2_23 (by decide) (by decide) rfl (fun q => absurd q (by decide)) (fun _ => ?_)
      refine Own.aloadN (pc' := 27) d_prog_107_method_2_26 rfl rfl rfl ?_
      refine Own.getfield (pc' := 30) d_prog_107_method_2_27 rfl (host := "") (Or.inl (hw _ (List.mem_of_getElem? (i := 14) rfl))) Via.refl F_nodes ?_
      refine Own.iload (pc' := 32) d_prog_107_method_2_30 rfl rfl ?_
      refine Own.laload (pc' := 33) (i := 2) d_prog_107_method_2_32 rfl A (by decide) (by decide) ?_
      rw [own_nd2_2]
      show Go K _ _ _ _ _ _ _ _ _ 0 0 h 33 #[.val (.ref a), .val (.int (0 : Int32)), .val (.long q), .second, .val (.int (2 : Int32)), .unset] [(.long x0)]
      refine Own.lloadN (pc' := 34) d_prog_107_method_2_33 rfl rfl ?_
      refine Own.lcmp_ge (pc1 := 35) (pc' := 66) (pc2 := 38) d_prog_107_method_2_34 rfl d_prog_107_method_2_35 (by decide) (by decide) rfl (fun c34_472 => ?_) (fun c34_472 => ?_)
      · refine Own.aloadN (pc' := 67) d_prog_107_method_2_66 rfl rfl rfl ?_
        refine Own.getfield (pc' := 70) d_prog_107_method_2_67 rfl (host := "") (Or.inl (hw _ (List.mem_of_getElem? (i := 12) rfl))) Via.refl F_count ?_
        refine Own.istore (pc' := 72) (L1 := #[.val (.ref a), .val (.int (0 : Int32)), .val (.long q), .second, .val (.int (2 : Int32)), .val (.int (2 : Int32))]) d_prog_107_method_2_70 rfl rfl ?_
        refine Own.iload (pc' := 74) d_prog_107_method_2_72 rfl rfl ?_
        refine Own.if_le (pc' := 127) (pc2 := 77) d_prog_107_method_2_74 (by decide) (by decide) rfl (fun q => absurd q (by decide)) (fun _ => ?_)
        refine Own.iload (pc' := 79) d_prog_107_method_2_77 rfl rfl ?_
        refine Own.aloadN (pc' := 80) d_prog_107_method_2_79 rfl rfl rfl ?_
        refine Own.getfield (pc' := 83) d_prog_107_method_2_80 rfl (host := "") (Or.inl (hw _ (List.mem_of_getElem? (i := 10) rfl))) Via.refl F_leaves ?_
        refine Own.icmp_ge (pc' := 118) (pc2 := 86) d_prog_107_method_2_83 (by decide) (by decide) rfl (fun _ => ?_) (fun q => absurd (by decide) q)
        refine Own.iload (pc' := 120) d_prog_107_method_2_118 rfl rfl ?_
        refine Own.aloadN (pc' := 121) d_prog_107_method_2_120 rfl rfl rfl ?_
        refine Own.getfield (pc' := 124) d_prog_107_method_2_121 rfl (host := "") (Or.inl (hw _ (List.mem_of_getElem? (i := 10) rfl))) Via.refl F_leaves ?_
        refine Own.isubE (pc' := 125) d_prog_107_method_2_124 rfl (z := (0 : Int32)) (by decide) ?_
        refine Own.istore (pc' := 127) (L1 := #[.val (.ref a), .val (.int (0 : Int32)), .val (.long q), .second, .val (.int (2 : Int32)), .val (.int (0 : Int32))]) d_prog_107_method_2_125 rfl rfl ?_
        refine Own.iload (pc' := 129) d_prog_107_method_2_127 rfl rfl ?_
        have hq : (0 : Int32) = own_want (2 : Int32) (0 : Int32) q x0 x1 x2 x3 x4 := by unfold own_want; (repeat' split) <;> first | rfl | (exfalso; omega) | omega
        exact Own.ireturnI d_prog_107_method_2_129 rfl (⟨rfl, _, rfl, hq⟩) (by decide) (by decide)
      · refine Own.iload (pc' := 40) d_prog_107_method_2_38 rfl rfl ?_
        refine Own.iconst (pc' := 41) (v := (2 : Int32)) d_prog_107_method_2_40 (by decide) rfl ?_
        refine Own.iremE (pc' := 42) d_prog_107_method_2_41 (by decide) rfl (z := (0 : Int32)) (by decide) ?_
        refine Own.iconst (pc' := 43) (v := (1 : Int32)) d_prog_107_method_2_42 (by decide) rfl ?_
        refine Own.icmp_ne (pc' := 55) (pc2 := 46) d_prog_107_method_2_43 (by decide) (by decide) rfl (fun _ => ?_) (fun q => absurd (by decide) q)
        refine Own.iload (pc' := 57) d_prog_107_method_2_55 rfl rfl ?_
        refine Own.if_le (pc' := 21) (pc2 := 60) d_prog_107_method_2_57 (by decide) (by decide) rfl (fun q => absurd q (by decide)) (fun _ => ?_)
        refine Own.iincE (pc' := 63) (L1 := fun zz => #[.val (.ref a), .val (.int (0 : Int32)), .val (.long q), .second, .val (.int zz), .unset]) d_prog_107_method_2_60 rfl (fun _ => rfl) rfl (z := (3 : Int32)) (by decide) ?_
        show Go K _ _ _ _ _ _ _ _ _ 0 0 h 63 #[.val (.ref a), .val (.int (0 : Int32)), .val (.long q), .second, .val (.int (3 : Int32)), .unset] []
        refine Own.goto (pc' := 21) d_prog_107_method_2_63 (by decide) (by decide) ?_
        refine Own.iload (pc' := 23) d_prog_107_method_2_21 rfl rfl ?_
        refine Own.if_le (pc' := 66) (pc2 := 26) d_prog_107_method_2_23 (by decide) (by decide) rfl (fun q => absurd q (by decide)) (fun _ => ?_)
        refine Own.aloadN (pc' := 27) d_prog_107_method_2_26 rfl rfl rfl ?_
        refine Own.getfield (pc' := 30) d_prog_107_method_2_27 rfl (host := "") (Or.inl (hw _ (List.mem_of_getElem? (i := 14) rfl))) Via.refl F_nodes ?_
        refine Own.iload (pc' := 32) d_prog_107_method_2_30 rfl rfl ?_
        refine Own.laload (pc' := 33) (i := 3) d_prog_107_method_2_32 rfl A (by decide) (by decide) ?_
        rw [own_nd2_3]
        show Go K _ _ _ _ _ _ _ _ _ 0 0 h 33 #[.val (.ref a), .val (.int (0 : Int32)), .val (.long q), .second, .val (.int (3 : Int32)), .unset] [(.long x1)]
        refine Own.lloadN (pc' := 34) d_prog_107_method_2_33 rfl rfl ?_
        refine Own.lcmp_ge (pc1 := 35) (pc' := 66) (pc2 := 38) d_prog_107_method_2_34 rfl d_prog_107_method_2_35 (by decide) (by decide) rfl (fun c34_481 => ?_) (fun c34_481 => ?_)
        · refine Own.aloadN (pc' := 67) d_prog_107_method_2_66 rfl rfl rfl ?_
          refine Own.getfield (pc' := 70) d_prog_107_method_2_67 rfl (host := "") (Or.inl (hw _ (List.mem_of_getElem? (i := 12) rfl))) Via.refl F_count ?_
          refine Own.istore (pc' := 72) (L1 := #[.val (.ref a), .val (.int (0 : Int32)), .val (.long q), .second, .val (.int (3 : Int32)), .val (.int (2 : Int32))]) d_prog_107_method_2_70 rfl rfl ?_
          refine Own.iload (pc' := 74) d_prog_107_method_2_72 rfl rfl ?_
          refine Own.if_le (pc' := 127) (pc2 := 77) d_prog_107_method_2_74 (by decide) (by decide) rfl (fun q => absurd q (by decide)) (fun _ => ?_)
          refine Own.iload (pc' := 79) d_prog_107_method_2_77 rfl rfl ?_
          refine Own.aloadN (pc' := 80) d_prog_107_method_2_79 rfl rfl rfl ?_
          refine Own.getfield (pc' := 83) d_prog_107_method_2_80 rfl (host := "") (Or.inl (hw _ (List.mem_of_getElem? (i := 10) rfl))) Via.refl F_leaves ?_
          refine Own.icmp_ge (pc' := 118) (pc2 := 86) d_prog_107_method_2_83 (by decide) (by decide) rfl (fun _ => ?_) (fun q => absurd (by decide) q)
          refine Own.iload (pc' := 120) d_prog_107_method_2_118 rfl rfl ?_
          refine Own.aloadN (pc' := 121) d_prog_107_method_2_120 rfl rfl rfl ?_
          refine Own.getfield (pc' := 124) d_prog_107_method_2_121 rfl (host := "") (Or.inl (hw _ (List.mem_of_getElem? (i := 10) rfl))) Via.refl F_leaves ?_
          refine Own.isubE (pc' := 125) d_prog_107_method_2_124 rfl (z := (1 : Int32)) (by decide) ?_
          refine Own.istore (pc' := 127) (L1 := #[.val (.ref a), .val (.int (0 : Int32)), .val (.long q), .second, .val (.int (3 : Int32)), .val (.int (1 : Int32))]) d_prog_107_method_2_125 rfl rfl ?_
          refine Own.iload (pc' := 129) d_prog_107_method_2_127 rfl rfl ?_
          have hq : (1 : Int32) = own_want (2 : Int32) (0 : Int32) q x0 x1 x2 x3 x4 := by unfold own_want; (repeat' split) <;> first | rfl | (exfalso; omega) | omega
          exact Own.ireturnI d_prog_107_method_2_129 rfl (⟨rfl, _, rfl, hq⟩) (by decide) (by decide)
        · refine Own.iload (pc' := 40) d_prog_107_method_2_38 rfl rfl ?_
          refine Own.iconst (pc' := 41) (v := (2 : Int32)) d_prog_107_method_2_40 (by decide) rfl ?_
          refine Own.iremE (pc' := 42) d_prog_107_method_2_41 (by decide) rfl (z := (1 : Int32)) (by decide) ?_
          refine Own.iconst (pc' := 43) (v := (1 : Int32)) d_prog_107_method_2_42 (by decide) rfl ?_
          refine Own.icmp_ne (pc' := 55) (pc2 := 46) d_prog_107_method_2_43 (by decide) (by decide) rfl (fun q => absurd q (by decide)) (fun _ => ?_)
          refine Own.iload (pc' := 48) d_prog_107_method_2_46 rfl rfl ?_
          refine Own.iconst (pc' := 49) (v := (2 : Int32)) d_prog_107_method_2_48 (by decide) rfl ?_
          refine Own.idivE (pc' := 50) d_prog_107_method_2_49 (by decide) rfl (z := (1 : Int32)) (by decide) ?_
          refine Own.istore (pc' := 52) (L1 := #[.val (.ref a), .val (.int (0 : Int32)), .val (.long q), .second, .val (.int (1 : Int32)), .unset]) d_prog_107_method_2_50 rfl rfl ?_
          refine Own.goto (pc' := 38) d_prog_107_method_2_52 (by decide) (by decide) ?_
          refine Own.iload (pc' := 40) d_prog_107_method_2_38 rfl rfl ?_
          refine Own.iconst (pc' := 41) (v := (2 : Int32)) d_prog_107_method_2_40 (by decide) rfl ?_
          refine Own.iremE (pc' := 42) d_prog_107_method_2_41 (by decide) rfl (z := (1 : Int32)) (by decide) ?_
          refine Own.iconst (pc' := 43) (v := (1 : Int32)) d_prog_107_method_2_42 (by decide) rfl ?_
          refine Own.icmp_ne (pc' := 55) (pc2 := 46) d_prog_107_method_2_43 (by decide) (by decide) rfl (fun q => absurd q (by decide)) (fun _ => ?_)
          refine Own.iload (pc' := 48) d_prog_107_method_2_46 rfl rfl ?_
          refine Own.iconst (pc' := 49) (v := (2 : Int32)) d_prog_107_method_2_48 (by decide) rfl ?_
          refine Own.idivE (pc' := 50) d_prog_107_method_2_49 (by decide) rfl (z := (0 : Int32)) (by decide) ?_
          refine Own.istore (pc' := 52) (L1 := #[.val (.ref a), .val (.int (0 : Int32)), .val (.long q), .second, .val (.int (0 : Int32)), .unset]) d_prog_107_method_2_50 rfl rfl ?_
          refine Own.goto (pc' := 38) d_prog_107_method_2_52 (by decide) (by decide) ?_
          refine Own.iload (pc' := 40) d_prog_107_method_2_38 rfl rfl ?_
          refine Own.iconst (pc' := 41) (v := (2 : Int32)) d_prog_107_method_2_40 (by decide) rfl ?_
          refine Own.iremE (pc' := 42) d_prog_107_method_2_41 (by decide) rfl (z := (0 : Int32)) (by decide) ?_
          refine Own.iconst (pc' := 43) (v := (1 : Int32)) d_prog_107_method_2_42 (by decide) rfl ?_
          refine Own.icmp_ne (pc' := 55) (pc2 := 46) d_prog_107_method_2_43 (by decide) (by decide) rfl (fun _ => ?_) (fun q => absurd (by decide) q)
          refine Own.iload (pc' := 57) d_prog_107_method_2_55 rfl rfl ?_
          refine Own.if_le (pc' := 21) (pc2 := 60) d_prog_107_method_2_57 (by decide) (by decide) rfl (fun _ => ?_) (fun q => absurd (by decide) q)
          refine Own.iload (pc' := 23) d_prog_107_method_2_21 rfl rfl ?_
          refine Own.if_le (pc' := 66) (pc2 := 26) d_prog_107_method_2_23 (by decide) (by decide) rfl (fun _ => ?_) (fun q => absurd (by decide) q)
          refine Own.aloadN (pc' := 67) d_prog_107_method_2_66 rfl rfl rfl ?_
          refine Own.getfield (pc' := 70) d_prog_107_method_2_67 rfl (host := "") (Or.inl (hw _ (List.mem_of_getElem? (i := 12) rfl))) Via.refl F_count ?_
          refine Own.istore (pc' := 72) (L1 := #[.val (.ref a), .val (.int (0 : Int32)), .val (.long q), .second, .val (.int (0 : Int32)), .val (.int (2 : Int32))]) d_prog_107_method_2_70 rfl rfl ?_
          refine Own.iload (pc' := 74) d_prog_107_method_2_72 rfl rfl ?_
          refine Own.if_le (pc' := 127) (pc2 := 77) d_prog_107_method_2_74 (by decide) (by decide) rfl (fun _ => ?_) (fun q => absurd (by decide) q)
          refine Own.iload (pc' := 129) d_prog_107_method_2_127 rfl rfl ?_
          have hq : (2 : Int32) = own_want (2 : Int32) (0 : Int32) q x0 x1 x2 x3 x4 := by unfold own_want; (repeat' split) <;> first | rfl | (exfalso; omega) | omega
          exact Own.ireturnI d_prog_107_method_2_129 rfl (⟨rfl, _, rfl, hq⟩) (by decide) (by decide)
    · refine Own.aloadN (pc' := 14) d_prog_107_method_2_13 rfl rfl rfl ?_
      refine Own.getfield (pc' := 17) d_prog_107_method_2_14 rfl (host := "") (Or.inl (hw _ (List.mem_of_getElem? (i := 10) rfl))) Via.refl F_leaves ?_
      refine Own.iloadN (pc' := 18) d_prog_107_method_2_17 rfl rfl ?_
      refine Own.iaddE (pc' := 19) d_prog_107_method_2_18 rfl (z := (3 : Int32)) (by decide) ?_
      refine Own.istore (pc' := 21) (L1 := #[.val (.ref a), .val (.int (1 : Int32)), .val (.long q), .second, .val (.int (3 : Int32)), .unset]) d_prog_107_method_2_19 rfl rfl ?_
      refine Own.iload (pc' := 23) d_prog_107_method_2_21 rfl rfl ?_
      refine Own.if_le (pc' := 66) (pc2 := 26) d_prog_107_method_2_23 (by decide) (by decide) rfl (fun q => absurd q (by decide)) (fun _ => ?_)
      refine Own.aloadN (pc' := 27) d_prog_107_method_2_26 rfl rfl rfl ?_
      refine Own.getfield (pc' := 30) d_prog_107_method_2_27 rfl (host := "") (Or.inl (hw _ (List.mem_of_getElem? (i := 14) rfl))) Via.refl F_nodes ?_
      refine Own.iload (pc' := 32) d_prog_107_method_2_30 rfl rfl ?_
      refine Own.laload (pc' := 33) (i := 3) d_prog_107_method_2_32 rfl A (by decide) (by decide) ?_
      rw [own_nd2_3]
      show Go K _ _ _ _ _ _ _ _ _ 0 0 h 33 #[.val (.ref a), .val (.int (1 : Int32)), .val (.long q), .second, .val (.int (3 : Int32)), .unset] [(.long x1)]
      refine Own.lloadN (pc' := 34) d_prog_107_method_2_33 rfl rfl ?_
      refine Own.lcmp_ge (pc1 := 35) (pc' := 66) (pc2 := 38) d_prog_107_method_2_34 rfl d_prog_107_method_2_35 (by decide) (by decide) rfl (fun c34_498 => ?_) (fun c34_498 => ?_)
      · refine Own.aloadN (pc' := 67) d_prog_107_method_2_66 rfl rfl rfl ?_
        refine Own.getfield (pc' := 70) d_prog_107_method_2_67 rfl (host := "") (Or.inl (hw _ (List.mem_of_getElem? (i := 12) rfl))) Via.refl F_count ?_
        refine Own.istore (pc' := 72) (L1 := #[.val (.ref a), .val (.int (1 : Int32)), .val (.long q), .second, .val (.int (3 : Int32)), .val (.int (2 : Int32))]) d_prog_107_method_2_70 rfl rfl ?_
        refine Own.iload (pc' := 74) d_prog_107_method_2_72 rfl rfl ?_
        refine Own.if_le (pc' := 127) (pc2 := 77) d_prog_107_method_2_74 (by decide) (by decide) rfl (fun q => absurd q (by decide)) (fun _ => ?_)
        refine Own.iload (pc' := 79) d_prog_107_method_2_77 rfl rfl ?_
        refine Own.aloadN (pc' := 80) d_prog_107_method_2_79 rfl rfl rfl ?_
        refine Own.getfield (pc' := 83) d_prog_107_method_2_80 rfl (host := "") (Or.inl (hw _ (List.mem_of_getElem? (i := 10) rfl))) Via.refl F_leaves ?_
        refine Own.icmp_ge (pc' := 118) (pc2 := 86) d_prog_107_method_2_83 (by decide) (by decide) rfl (fun _ => ?_) (fun q => absurd (by decide) q)
        refine Own.iload (pc' := 120) d_prog_107_method_2_118 rfl rfl ?_
        refine Own.aloadN (pc' := 121) d_prog_107_method_2_120 rfl rfl rfl ?_
        refine Own.getfield (pc' := 124) d_prog_107_method_2_121 rfl (host := "") (Or.inl (hw _ (List.mem_of_getElem? (i := 10) rfl))) Via.refl F_leaves ?_
        refine Own.isubE (pc' := 125) d_prog_107_method_2_124 rfl (z := (1 : Int32)) (by decide) ?_
        refine Own.istore (pc' := 127) (L1 := #[.val (.ref a), .val (.int (1 : Int32)), .val (.long q), .second, .val (.int (3 : Int32)), .val (.int (1 : Int32))]) d_prog_107_method_2_125 rfl rfl ?_
        refine Own.iload (pc' := 129) d_prog_107_method_2_127 rfl rfl ?_
        have hq : (1 : Int32) = own_want (2 : Int32) (1 : Int32) q x0 x1 x2 x3 x4 := by unfold own_want; (repeat' split) <;> first | rfl | (exfalso; omega) | omega
        exact Own.ireturnI d_prog_107_method_2_129 rfl (⟨rfl, _, rfl, hq⟩) (by decide) (by decide)
      · refine Own.iload (pc' := 40) d_prog_107_method_2_38 rfl rfl ?_
        refine Own.iconst (pc' := 41) (v := (2 : Int32)) d_prog_107_method_2_40 (by decide) rfl ?_
        refine Own.iremE (pc' := 42) d_prog_107_method_2_41 (by decide) rfl (z := (1 : Int32)) (by decide) ?_
        refine Own.iconst (pc' := 43) (v := (1 : Int32)) d_prog_107_method_2_42 (by decide) rfl ?_
        refine Own.icmp_ne (pc' := 55) (pc2 := 46) d_prog_107_method_2_43 (by decide) (by decide) rfl (fun q => absurd q (by decide)) (fun _ => ?_)
        refine Own.iload (pc' := 48) d_prog_107_method_2_46 rfl rfl ?_
        refine Own.iconst (pc' := 49) (v := (2 : Int32)) d_prog_107_method_2_48 (by decide) rfl ?_
        refine Own.idivE (pc' := 50) d_prog_107_method_2_49 (by decide) rfl (z := (1 : Int32)) (by decide) ?_
        refine Own.istore (pc' := 52) (L1 := #[.val (.ref a), .val (.int (1 : Int32)), .val (.long q), .second, .val (.int (1 : Int32)), .unset]) d_prog_107_method_2_50 rfl rfl ?_
        refine Own.goto (pc' := 38) d_prog_107_method_2_52 (by decide) (by decide) ?_
        refine Own.iload (pc' := 40) d_prog_107_method_2_38 rfl rfl ?_
        refine Own.iconst (pc' := 41) (v := (2 : Int32)) d_prog_107_method_2_40 (by decide) rfl ?_
        refine Own.iremE (pc' := 42) d_prog_107_method_2_41 (by decide) rfl (z := (1 : Int32)) (by decide) ?_
        refine Own.iconst (pc' := 43) (v := (1 : Int32)) d_prog_107_method_2_42 (by decide) rfl ?_
        refine Own.icmp_ne (pc' := 55) (pc2 := 46) d_prog_107_method_2_43 (by decide) (by decide) rfl (fun q => absurd q (by decide)) (fun _ => ?_)
        refine Own.iload (pc' := 48) d_prog_107_method_2_46 rfl rfl ?_
        refine Own.iconst (pc' := 49) (v := (2 : Int32)) d_prog_107_method_2_48 (by decide) rfl ?_
        refine Own.idivE (pc' := 50) d_prog_107_method_2_49 (by decide) rfl (z := (0 : Int32)) (by decide) ?_
        refine Own.istore (pc' := 52) (L1 := #[.val (.ref a), .val (.int (1 : Int32)), .val (.long q), .second, .val (.int (0 : Int32)), .unset]) d_prog_107_method_2_50 rfl rfl ?_
        refine Own.goto (pc' := 38) d_prog_107_method_2_52 (by decide) (by decide) ?_
        refine Own.iload (pc' := 40) d_prog_107_method_2_38 rfl rfl ?_
        refine Own.iconst (pc' := 41) (v := (2 : Int32)) d_prog_107_method_2_40 (by decide) rfl ?_
        refine Own.iremE (pc' := 42) d_prog_107_method_2_41 (by decide) rfl (z := (0 : Int32)) (by decide) ?_
        refine Own.iconst (pc' := 43) (v := (1 : Int32)) d_prog_107_method_2_42 (by decide) rfl ?_
        refine Own.icmp_ne (pc' := 55) (pc2 := 46) d_prog_107_method_2_43 (by decide) (by decide) rfl (fun _ => ?_) (fun q => absurd (by decide) q)
        refine Own.iload (pc' := 57) d_prog_107_method_2_55 rfl rfl ?_
        refine Own.if_le (pc' := 21) (pc2 := 60) d_prog_107_method_2_57 (by decide) (by decide) rfl (fun _ => ?_) (fun q => absurd (by decide) q)
        refine Own.iload (pc' := 23) d_prog_107_method_2_21 rfl rfl ?_
        refine Own.if_le (pc' := 66) (pc2 := 26) d_prog_107_method_2_23 (by decide) (by decide) rfl (fun _ => ?_) (fun q => absurd (by decide) q)
        refine Own.aloadN (pc' := 67) d_prog_107_method_2_66 rfl rfl rfl ?_
        refine Own.getfield (pc' := 70) d_prog_107_method_2_67 rfl (host := "") (Or.inl (hw _ (List.mem_of_getElem? (i := 12) rfl))) Via.refl F_count ?_
        refine Own.istore (pc' := 72) (L1 := #[.val (.ref a), .val (.int (1 : Int32)), .val (.long q), .second, .val (.int (0 : Int32)), .val (.int (2 : Int32))]) d_prog_107_method_2_70 rfl rfl ?_
        refine Own.iload (pc' := 74) d_prog_107_method_2_72 rfl rfl ?_
        refine Own.if_le (pc' := 127) (pc2 := 77) d_prog_107_method_2_74 (by decide) (by decide) rfl (fun _ => ?_) (fun q => absurd (by decide) q)
        refine Own.iload (pc' := 129) d_prog_107_method_2_127 rfl rfl ?_
        have hq : (2 : Int32) = own_want (2 : Int32) (1 : Int32) q x0 x1 x2 x3 x4 := by unfold own_want; (repeat' split) <;> first | rfl | (exfalso; omega) | omega
        exact Own.ireturnI d_prog_107_method_2_129 rfl (⟨rfl, _, rfl, hq⟩) (by decide) (by decide)
  · refine Own.aloadN (pc' := 9) d_prog_107_method_2_8 rfl rfl rfl ?_
    refine Own.getfield (pc' := 12) d_prog_107_method_2_9 rfl (host := "") (Or.inl (hw _ (List.mem_of_getElem? (i := 12) rfl))) Via.refl F_count ?_
    have hq : (2 : Int32) = own_want (2 : Int32) p q x0 x1 x2 x3 x4 := by unfold own_want; (repeat' split) <;> first | rfl | (exfalso; omega) | omega
    exact Own.ireturnI d_prog_107_method_2_12 rfl (⟨rfl, _, rfl, hq⟩) (by decide) (by decide)
set_option maxRecDepth 65536 in
set_option maxHeartbeats 40000000 in
theorem c_own_fa3 (Z : State) (a0 : Array Value) (hw : ∀ d ∈ tables_1, d.before a0 Z = true) (n0 : Nat) (h : Heap) (hZ0 : n0 ≤ h.size) (a : Addr) (p : Int32) (q : Int64) (x0 x1 x2 x3 x4 : Int64) (r : Addr) (F_leaves : Fld Z h a "com/example/coldtail/coldtail/segment/MaxTree" "leaves" "I" (.int (4 : Int32))) (F_count : Fld Z h a "com/example/coldtail/coldtail/segment/MaxTree" "count" "I" (.int (3 : Int32))) (F_nodes : Fld Z h a "com/example/coldtail/coldtail/segment/MaxTree" "nodes" "[J" (.ref r)) (A : AJ Z h r 8 (own_nd3 x0 x1 x2 x3 x4)) (hp : 0 ≤ p.toInt) :
    Con Z n0 (⟨"com/example/coldtail/coldtail/segment/MaxTree", "firstAtLeast", "(IJ)I"⟩ : MethodName) prog_107_method_2_code 6 (some .int) ({ frames := 0, cells := 0, slots := 0, locals := 0 } : Room) [(.ref a), (.int p), (.long q)] h (fun v h' => h = h' ∧ ∃ z, v = some (.int z) ∧ z = own_want (3 : Int32) p q x0 x1 x2 x3 x4) := by
  refine Own.enter (plainFor_of_name pn_1) (L0 := #[.val (.ref a), .val (.int p), .val (.long q), .second, .unset, .unset]) (fun m => by first | (simp [entryFrame, mkF, argsToLocals, Value.category]; done) | rfl) fun K => ?_
  show Go K _ _ _ _ _ _ "com/example/coldtail/coldtail/segment/MaxTree" "firstAtLeast" _ 0 0 h 0 #[.val (.ref a), .val (.int p), .val (.long q), .second, .unset, .unset] []
  have k0 : (0 : Int32).toInt = 0 := by decide
  have k1 : (1 : Int32).toInt = 1 := by decide
  have k2 : (2 : Int32).toInt = 2 := by decide
  have k3 : (3 : Int32).toInt = 3 := by decide
  have k4 : (4 : Int32).toInt = 4 := by decide
  have k5 : (5 : Int32).toInt = 5 := by decide
  have k6 : (6 : Int32).toInt = 6 := by decide
  have k7 : (7 : Int32).toInt = 7 := by decide
  have k8 : (8 : Int32).toInt = 8 := by decide
  have kz : (0 : Int64).toInt = 0 := by decide
  have e0 := own_maxI x0 x1
  have e1 := own_maxI x2 (0 : Int64)
  have e2 := own_maxI (own_max x0 x1) (own_max x2 (0 : Int64))
  refine Own.iloadN (pc' := 1) d_prog_107_method_2_0 rfl rfl ?_
  refine Own.aloadN (pc' := 2) d_prog_107_method_2_1 rfl rfl rfl ?_
  refine Own.getfield (pc' := 5) d_prog_107_method_2_2 rfl (host := "") (Or.inl (hw _ (List.mem_of_getElem? (i := 12) rfl))) Via.refl F_count ?_
  refine Own.icmp_lt (pc' := 13) (pc2 := 8) d_prog_107_method_2_5 (by decide) (by decide) rfl (fun c5_513 => ?_) (fun c5_513 => ?_)
  · have hc : p = (0 : Int32) ∨ p = (1 : Int32) ∨ p = (2 : Int32) := by
      have : p.toInt = 0 ∨ p.toInt = 1 ∨ p.toInt = 2 := by omega
      rcases this with qq | qq | qq
      · exact Or.inl (Int32.toInt_inj.mp (by rw [qq]; decide))
      · exact Or.inr (Or.inl (Int32.toInt_inj.mp (by rw [qq]; decide)))
      · exact Or.inr (Or.inr ((Int32.toInt_inj.mp (by rw [qq]; decide))))
    rcases hc with rfl | rfl | rfl
    · refine Own.aloadN (pc' := 14) d_prog_107_method_2_13 rfl rfl rfl ?_
      refine Own.getfield (pc' := 17) d_prog_107_method_2_14 rfl (host := "") (Or.inl (hw _ (List.mem_of_getElem? (i := 10) rfl))) Via.refl F_leaves ?_
      refine Own.iloadN (pc' := 18) d_prog_107_method_2_17 rfl rfl ?_
      refine Own.iaddE (pc' := 19) d_prog_107_method_2_18 rfl (z := (4 : Int32)) (by decide) ?_
      refine Own.istore (pc' := 21) (L1 := #[.val (.ref a), .val (.int (0 : Int32)), .val (.long q), .second, .val (.int (4 : Int32)), .unset]) d_prog_107_method_2_19 rfl rfl ?_
      refine Own.iload (pc' := 23) d_prog_107_method_2_21 rfl rfl ?_
      refine Own.if_le (pc' := 66) (pc2 := 26) d_prog_107_method_2_23 (by decide) (by decide) rfl (fun q => absurd q (by decide)) (fun _ => ?_)
      refine Own.aloadN (pc' := 27) d_prog_107_method_2_26 rfl rfl rfl ?_
      refine Own.getfield (pc' := 30) d_prog_107_method_2_27 rfl (host := "") (Or.inl (hw _ (List.mem_of_getElem? (i := 14) rfl))) Via.refl F_nodes ?_
      refine Own.iload (pc' := 32) d_prog_107_method_2_30 rfl rfl ?_
      refine Own.laload (pc' := 33) (i := 4) d_prog_107_method_2_32 rfl A (by decide) (by decide) ?_
      rw [own_nd3_4]
      show Go K _ _ _ _ _ _ _ _ _ 0 0 h 33 #[.val (.ref a), .val (.int (0 : Int32)), .val (.long q), .second, .val (.int (4 : Int32)), .unset] [(.long x0)]
      refine Own.lloadN (pc' := 34) d_prog_107_method_2_33 rfl rfl ?_
      refine Own.lcmp_ge (pc1 := 35) (pc' := 66) (pc2 := 38) d_prog_107_method_2_34 rfl d_prog_107_method_2_35 (by decide) (by decide) rfl (fun c34_516 => ?_) (fun c34_516 => ?_)
      · refine Own.aloadN (pc' := 67) d_prog_107_method_2_66 rfl rfl rfl ?_
        refine Own.getfield (pc' := 70) d_prog_107_method_2_67 rfl (host := "") (Or.inl (hw _ (List.mem_of_getElem? (i := 12) rfl))) Via.refl F_count ?_
        refine Own.istore (pc' := 72) (L1 := #[.val (.ref a), .val (.int (0 : Int32)), .val (.long q), .second, .val (.int (4 : Int32)), .val (.int (3 : Int32))]) d_prog_107_method_2_70 rfl rfl ?_
        refine Own.iload (pc' := 74) d_prog_107_method_2_72 rfl rfl ?_
        refine Own.if_le (pc' := 127) (pc2 := 77) d_prog_107_method_2_74 (by decide) (by decide) rfl (fun q => absurd q (by decide)) (fun _ => ?_)
        refine Own.iload (pc' := 79) d_prog_107_method_2_77 rfl rfl ?_
        refine Own.aloadN (pc' := 80) d_prog_107_method_2_79 rfl rfl rfl ?_
        refine Own.getfield (pc' := 83) d_prog_107_method_2_80 rfl (host := "") (Or.inl (hw _ (List.mem_of_getElem? (i := 10) rfl))) Via.refl F_leaves ?_
        refine Own.icmp_ge (pc' := 118) (pc2 := 86) d_prog_107_method_2_83 (by decide) (by decide) rfl (fun _ => ?_) (fun q => absurd (by decide) q)
        refine Own.iload (pc' := 120) d_prog_107_method_2_118 rfl rfl ?_
        refine Own.aloadN (pc' := 121) d_prog_107_method_2_120 rfl rfl rfl ?_
        refine Own.getfield (pc' := 124) d_prog_107_method_2_121 rfl (host := "") (Or.inl (hw _ (List.mem_of_getElem? (i := 10) rfl))) Via.refl F_leaves ?_
        refine Own.isubE (pc' := 125) d_prog_107_method_2_124 rfl (z := (0 : Int32)) (by decide) ?_
        refine Own.istore (pc' := 127) (L1 := #[.val (.ref a), .val (.int (0 : Int32)), .val (.long q), .second, .val (.int (4 : Int32)), .val (.int (0 : Int32))]) d_prog_107_method_2_125 rfl rfl ?_
        refine Own.iload (pc' := 129) d_prog_107_method_2_127 rfl rfl ?_
        have hq : (0 : Int32) = own_want (3 : Int32) (0 : Int32) q x0 x1 x2 x3 x4 := by unfold own_want; (repeat' split) <;> first | rfl | (exfalso; omega) | omega
        exact Own.ireturnI d_prog_107_method_2_129 rfl (⟨rfl, _, rfl, hq⟩) (by decide) (by decide)
      · refine Own.iload (pc' := 40) d_prog_107_method_2_38 rfl rfl ?_
        refine Own.iconst (pc' := 41) (v := (2 : Int32)) d_prog_107_method_2_40 (by decide) rfl ?_
        refine Own.iremE (pc' := 42) d_prog_107_method_2_41 (by decide) rfl (z := (0 : Int32)) (by decide) ?_
        refine Own.iconst (pc' := 43) (v := (1 : Int32)) d_prog_107_method_2_42 (by decide) rfl ?_
        refine Own.icmp_ne (pc' := 55) (pc2 := 46) d_prog_107_method_2_43 (by decide) (by decide) rfl (fun _ => ?_) (fun q => absurd (by decide) q)
        refine Own.iload (pc' := 57) d_prog_107_method_2_55 rfl rfl ?_
        refine Own.if_le (pc' := 21) (pc2 := 60) d_prog_107_method_2_57 (by decide) (by decide) rfl (fun q => absurd q (by decide)) (fun _ => ?_)
        refine Own.iincE (pc' := 63) (L1 := fun zz => #[.val (.ref a), .val (.int (0 : Int32)), .val (.long q), .second, .val (.int zz), .unset]) d_prog_107_method_2_60 rfl (fun _ => rfl) rfl (z := (5 : Int32)) (by decide) ?_
        show Go K _ _ _ _ _ _ _ _ _ 0 0 h 63 #[.val (.ref a), .val (.int (0 : Int32)), .val (.long q), .second, .val (.int (5 : Int32)), .unset] []
        refine Own.goto (pc' := 21) d_prog_107_method_2_63 (by decide) (by decide) ?_
        refine Own.iload (pc' := 23) d_prog_107_method_2_21 rfl rfl ?_
        refine Own.if_le (pc' := 66) (pc2 := 26) d_prog_107_method_2_23 (by decide) (by decide) rfl (fun q => absurd q (by decide)) (fun _ => ?_)
        refine Own.aloadN (pc' := 27) d_prog_107_method_2_26 rfl rfl rfl ?_
        refine Own.getfield (pc' := 30) d_prog_107_method_2_27 rfl (host := "") (Or.inl (hw _ (List.mem_of_getElem? (i := 14) rfl))) Via.refl F_nodes ?_
        refine Own.iload (pc' := 32) d_prog_107_method_2_30 rfl rfl ?_
        refine Own.laload (pc' := 33) (i := 5) d_prog_107_method_2_32 rfl A (by decide) (by decide) ?_
        rw [own_nd3_5]
        show Go K _ _ _ _ _ _ _ _ _ 0 0 h 33 #[.val (.ref a), .val (.int (0 : Int32)), .val (.long q), .second, .val (.int (5 : Int32)), .unset] [(.long x1)]
        refine Own.lloadN (pc' := 34) d_prog_107_method_2_33 rfl rfl ?_
        refine Own.lcmp_ge (pc1 := 35) (pc' := 66) (pc2 := 38) d_prog_107_method_2_34 rfl d_prog_107_method_2_35 (by decide) (by decide) rfl (fun c34_525 => ?_) (fun c34_525 => ?_)
        · refine Own.aloadN (pc' := 67) d_prog_107_method_2_66 rfl rfl rfl ?_
          refine Own.getfield (pc' := 70) d_prog_107_method_2_67 rfl (host := "") (Or.inl (hw _ (List.mem_of_getElem? (i := 12) rfl))) Via.refl F_count ?_
          refine Own.istore (pc' := 72) (L1 := #[.val (.ref a), .val (.int (0 : Int32)), .val (.long q), .second, .val (.int (5 : Int32)), .val (.int (3 : Int32))]) d_prog_107_method_2_70 rfl rfl ?_
          refine Own.iload (pc' := 74) d_prog_107_method_2_72 rfl rfl ?_
          refine Own.if_le (pc' := 127) (pc2 := 77) d_prog_107_method_2_74 (by decide) (by decide) rfl (fun q => absurd q (by decide)) (fun _ => ?_)
          refine Own.iload (pc' := 79) d_prog_107_method_2_77 rfl rfl ?_
          refine Own.aloadN (pc' := 80) d_prog_107_method_2_79 rfl rfl rfl ?_
          refine Own.getfield (pc' := 83) d_prog_107_method_2_80 rfl (host := "") (Or.inl (hw _ (List.mem_of_getElem? (i := 10) rfl))) Via.refl F_leaves ?_
          refine Own.icmp_ge (pc' := 118) (pc2 := 86) d_prog_107_method_2_83 (by decide) (by decide) rfl (fun _ => ?_) (fun q => absurd (by decide) q)
          refine Own.iload (pc' := 120) d_prog_107_method_2_118 rfl rfl ?_
          refine Own.aloadN (pc' := 121) d_prog_107_method_2_120 rfl rfl rfl ?_
          refine Own.getfield (pc' := 124) d_prog_107_method_2_121 rfl (host := "") (Or.inl (hw _ (List.mem_of_getElem? (i := 10) rfl))) Via.refl F_leaves ?_
          refine Own.isubE (pc' := 125) d_prog_107_method_2_124 rfl (z := (1 : Int32)) (by decide) ?_
          refine Own.istore (pc' := 127) (L1 := #[.val (.ref a), .val (.int (0 : Int32)), .val (.long q), .second, .val (.int (5 : Int32)), .val (.int (1 : Int32))]) d_prog_107_method_2_125 rfl rfl ?_
          refine Own.iload (pc' := 129) d_prog_107_method_2_127 rfl rfl ?_
          have hq : (1 : Int32) = own_want (3 : Int32) (0 : Int32) q x0 x1 x2 x3 x4 := by unfold own_want; (repeat' split) <;> first | rfl | (exfalso; omega) | omega
          exact Own.ireturnI d_prog_107_method_2_129 rfl (⟨rfl, _, rfl, hq⟩) (by decide) (by decide)
        · refine Own.iload (pc' := 40) d_prog_107_method_2_38 rfl rfl ?_
          refine Own.iconst (pc' := 41) (v := (2 : Int32)) d_prog_107_method_2_40 (by decide) rfl ?_
          refine Own.iremE (pc' := 42) d_prog_107_method_2_41 (by decide) rfl (z := (1 : Int32)) (by decide) ?_
          refine Own.iconst (pc' := 43) (v := (1 : Int32)) d_prog_107_method_2_42 (by decide) rfl ?_
          refine Own.icmp_ne (pc' := 55) (pc2 := 46) d_prog_107_method_2_43 (by decide) (by decide) rfl (fun q => absurd q (by decide)) (fun _ => ?_)
          refine Own.iload (pc' := 48) d_prog_107_method_2_46 rfl rfl ?_
          refine Own.iconst (pc' := 49) (v := (2 : Int32)) d_prog_107_method_2_48 (by decide) rfl ?_
          refine Own.idivE (pc' := 50) d_prog_107_method_2_49 (by decide) rfl (z := (2 : Int32)) (by decide) ?_
          refine Own.istore (pc' := 52) (L1 := #[.val (.ref a), .val (.int (0 : Int32)), .val (.long q), .second, .val (.int (2 : Int32)), .unset]) d_prog_107_method_2_50 rfl rfl ?_
          refine Own.goto (pc' := 38) d_prog_107_method_2_52 (by decide) (by decide) ?_
          refine Own.iload (pc' := 40) d_prog_107_method_2_38 rfl rfl ?_
          refine Own.iconst (pc' := 41) (v := (2 : Int32)) d_prog_107_method_2_40 (by decide) rfl ?_
          refine Own.iremE (pc' := 42) d_prog_107_method_2_41 (by decide) rfl (z := (0 : Int32)) (by decide) ?_
          refine Own.iconst (pc' := 43) (v := (1 : Int32)) d_prog_107_method_2_42 (by decide) rfl ?_
          refine Own.icmp_ne (pc' := 55) (pc2 := 46) d_prog_107_method_2_43 (by decide) (by decide) rfl (fun _ => ?_) (fun q => absurd (by decide) q)
          refine Own.iload (pc' := 57) d_prog_107_method_2_55 rfl rfl ?_
          refine Own.if_le (pc' := 21) (pc2 := 60) d_prog_107_method_2_57 (by decide) (by decide) rfl (fun q => absurd q (by decide)) (fun _ => ?_)
          refine Own.iincE (pc' := 63) (L1 := fun zz => #[.val (.ref a), .val (.int (0 : Int32)), .val (.long q), .second, .val (.int zz), .unset]) d_prog_107_method_2_60 rfl (fun _ => rfl) rfl (z := (3 : Int32)) (by decide) ?_
          show Go K _ _ _ _ _ _ _ _ _ 0 0 h 63 #[.val (.ref a), .val (.int (0 : Int32)), .val (.long q), .second, .val (.int (3 : Int32)), .unset] []
          refine Own.goto (pc' := 21) d_prog_107_method_2_63 (by decide) (by decide) ?_
          refine Own.iload (pc' := 23) d_prog_107_method_2_21 rfl rfl ?_
          refine Own.if_le (pc' := 66) (pc2 := 26) d_prog_107_method_2_23 (by decide) (by decide) rfl (fun q => absurd q (by decide)) (fun _ => ?_)
          refine Own.aloadN (pc' := 27) d_prog_107_method_2_26 rfl rfl rfl ?_
          refine Own.getfield (pc' := 30) d_prog_107_method_2_27 rfl (host := "") (Or.inl (hw _ (List.mem_of_getElem? (i := 14) rfl))) Via.refl F_nodes ?_
          refine Own.iload (pc' := 32) d_prog_107_method_2_30 rfl rfl ?_
          refine Own.laload (pc' := 33) (i := 3) d_prog_107_method_2_32 rfl A (by decide) (by decide) ?_
          rw [own_nd3_3]
          show Go K _ _ _ _ _ _ _ _ _ 0 0 h 33 #[.val (.ref a), .val (.int (0 : Int32)), .val (.long q), .second, .val (.int (3 : Int32)), .unset] [(.long (own_max x2 (0 : Int64)))]
          refine Own.lloadN (pc' := 34) d_prog_107_method_2_33 rfl rfl ?_
          refine Own.lcmp_ge (pc1 := 35) (pc' := 66) (pc2 := 38) d_prog_107_method_2_34 rfl d_prog_107_method_2_35 (by decide) (by decide) rfl (fun c34_537 => ?_) (fun c34_537 => ?_)
          · refine Own.aloadN (pc' := 67) d_prog_107_method_2_66 rfl rfl rfl ?_
            refine Own.getfield (pc' := 70) d_prog_107_method_2_67 rfl (host := "") (Or.inl (hw _ (List.mem_of_getElem? (i := 12) rfl))) Via.refl F_count ?_
            refine Own.istore (pc' := 72) (L1 := #[.val (.ref a), .val (.int (0 : Int32)), .val (.long q), .second, .val (.int (3 : Int32)), .val (.int (3 : Int32))]) d_prog_107_method_2_70 rfl rfl ?_
            refine Own.iload (pc' := 74) d_prog_107_method_2_72 rfl rfl ?_
            refine Own.if_le (pc' := 127) (pc2 := 77) d_prog_107_method_2_74 (by decide) (by decide) rfl (fun q => absurd q (by decide)) (fun _ => ?_)
            refine Own.iload (pc' := 79) d_prog_107_method_2_77 rfl rfl ?_
            refine Own.aloadN (pc' := 80) d_prog_107_method_2_79 rfl rfl rfl ?_
            refine Own.getfield (pc' := 83) d_prog_107_method_2_80 rfl (host := "") (Or.inl (hw _ (List.mem_of_getElem? (i := 10) rfl))) Via.refl F_leaves ?_
            refine Own.icmp_ge (pc' := 118) (pc2 := 86) d_prog_107_method_2_83 (by decide) (by decide) rfl (fun q => absurd q (by decide)) (fun _ => ?_)
            refine Own.aloadN (pc' := 87) d_prog_107_method_2_86 rfl rfl rfl ?_
            refine Own.getfield (pc' := 90) d_prog_107_method_2_87 rfl (host := "") (Or.inl (hw _ (List.mem_of_getElem? (i := 14) rfl))) Via.refl F_nodes ?_
            refine Own.iconst (pc' := 91) (v := (2 : Int32)) d_prog_107_method_2_90 (by decide) rfl ?_
            refine Own.iload (pc' := 93) d_prog_107_method_2_91 rfl rfl ?_
            refine Own.imulE (pc' := 94) d_prog_107_method_2_93 rfl (z := (6 : Int32)) (by decide) ?_
            refine Own.laload (pc' := 95) (i := 6) d_prog_107_method_2_94 rfl A (by decide) (by decide) ?_
            rw [own_nd3_6]
            show Go K _ _ _ _ _ _ _ _ _ 0 0 h 95 #[.val (.ref a), .val (.int (0 : Int32)), .val (.long q), .second, .val (.int (3 : Int32)), .val (.int (3 : Int32))] [(.long x2)]
            refine Own.lloadN (pc' := 96) d_prog_107_method_2_95 rfl rfl ?_
            refine Own.lcmp_lt (pc1 := 97) (pc' := 107) (pc2 := 100) d_prog_107_method_2_96 rfl d_prog_107_method_2_97 (by decide) (by decide) rfl (fun c96_541 => ?_) (fun c96_541 => ?_)
            · refine Own.iconst (pc' := 108) (v := (2 : Int32)) d_prog_107_method_2_107 (by decide) rfl ?_
              refine Own.iload (pc' := 110) d_prog_107_method_2_108 rfl rfl ?_
              refine Own.imulE (pc' := 111) d_prog_107_method_2_110 rfl (z := (6 : Int32)) (by decide) ?_
              refine Own.iconst (pc' := 112) (v := (1 : Int32)) d_prog_107_method_2_111 (by decide) rfl ?_
              refine Own.iaddE (pc' := 113) d_prog_107_method_2_112 rfl (z := (7 : Int32)) (by decide) ?_
              refine Own.istore (pc' := 115) (L1 := #[.val (.ref a), .val (.int (0 : Int32)), .val (.long q), .second, .val (.int (7 : Int32)), .val (.int (3 : Int32))]) d_prog_107_method_2_113 rfl rfl ?_
              refine Own.goto (pc' := 77) d_prog_107_method_2_115 (by decide) (by decide) ?_
              refine Own.iload (pc' := 79) d_prog_107_method_2_77 rfl rfl ?_
              refine Own.aloadN (pc' := 80) d_prog_107_method_2_79 rfl rfl rfl ?_
              refine Own.getfield (pc' := 83) d_prog_107_method_2_80 rfl (host := "") (Or.inl (hw _ (List.mem_of_getElem? (i := 10) rfl))) Via.refl F_leaves ?_
              refine Own.icmp_ge (pc' := 118) (pc2 := 86) d_prog_107_method_2_83 (by decide) (by decide) rfl (fun _ => ?_) (fun q => absurd (by decide) q)
              refine Own.iload (pc' := 120) d_prog_107_method_2_118 rfl rfl ?_
              refine Own.aloadN (pc' := 121) d_prog_107_method_2_120 rfl rfl rfl ?_
              refine Own.getfield (pc' := 124) d_prog_107_method_2_121 rfl (host := "") (Or.inl (hw _ (List.mem_of_getElem? (i := 10) rfl))) Via.refl F_leaves ?_
              refine Own.isubE (pc' := 125) d_prog_107_method_2_124 rfl (z := (3 : Int32)) (by decide) ?_
              refine Own.istore (pc' := 127) (L1 := #[.val (.ref a), .val (.int (0 : Int32)), .val (.long q), .second, .val (.int (7 : Int32)), .val (.int (3 : Int32))]) d_prog_107_method_2_125 rfl rfl ?_
              refine Own.iload (pc' := 129) d_prog_107_method_2_127 rfl rfl ?_
              have hq : (3 : Int32) = own_want (3 : Int32) (0 : Int32) q x0 x1 x2 x3 x4 := by unfold own_want; (repeat' split) <;> first | rfl | (exfalso; omega) | omega
              exact Own.ireturnI d_prog_107_method_2_129 rfl (⟨rfl, _, rfl, hq⟩) (by decide) (by decide)
            · refine Own.iconst (pc' := 101) (v := (2 : Int32)) d_prog_107_method_2_100 (by decide) rfl ?_
              refine Own.iload (pc' := 103) d_prog_107_method_2_101 rfl rfl ?_
              refine Own.imulE (pc' := 104) d_prog_107_method_2_103 rfl (z := (6 : Int32)) (by decide) ?_
              refine Own.goto (pc' := 113) d_prog_107_method_2_104 (by decide) (by decide) ?_
              refine Own.istore (pc' := 115) (L1 := #[.val (.ref a), .val (.int (0 : Int32)), .val (.long q), .second, .val (.int (6 : Int32)), .val (.int (3 : Int32))]) d_prog_107_method_2_113 rfl rfl ?_
              refine Own.goto (pc' := 77) d_prog_107_method_2_115 (by decide) (by decide) ?_
              refine Own.iload (pc' := 79) d_prog_107_method_2_77 rfl rfl ?_
              refine Own.aloadN (pc' := 80) d_prog_107_method_2_79 rfl rfl rfl ?_
              refine Own.getfield (pc' := 83) d_prog_107_method_2_80 rfl (host := "") (Or.inl (hw _ (List.mem_of_getElem? (i := 10) rfl))) Via.refl F_leaves ?_
              refine Own.icmp_ge (pc' := 118) (pc2 := 86) d_prog_107_method_2_83 (by decide) (by decide) rfl (fun _ => ?_) (fun q => absurd (by decide) q)
              refine Own.iload (pc' := 120) d_prog_107_method_2_118 rfl rfl ?_
              refine Own.aloadN (pc' := 121) d_prog_107_method_2_120 rfl rfl rfl ?_
              refine Own.getfield (pc' := 124) d_prog_107_method_2_121 rfl (host := "") (Or.inl (hw _ (List.mem_of_getElem? (i := 10) rfl))) Via.refl F_leaves ?_
              refine Own.isubE (pc' := 125) d_prog_107_method_2_124 rfl (z := (2 : Int32)) (by decide) ?_
              refine Own.istore (pc' := 127) (L1 := #[.val (.ref a), .val (.int (0 : Int32)), .val (.long q), .second, .val (.int (6 : Int32)), .val (.int (2 : Int32))]) d_prog_107_method_2_125 rfl rfl ?_
              refine Own.iload (pc' := 129) d_prog_107_method_2_127 rfl rfl ?_
              have hq : (2 : Int32) = own_want (3 : Int32) (0 : Int32) q x0 x1 x2 x3 x4 := by unfold own_want; (repeat' split) <;> first | rfl | (exfalso; omega) | omega
              exact Own.ireturnI d_prog_107_method_2_129 rfl (⟨rfl, _, rfl, hq⟩) (by decide) (by decide)
          · refine Own.iload (pc' := 40) d_prog_107_method_2_38 rfl rfl ?_
            refine Own.iconst (pc' := 41) (v := (2 : Int32)) d_prog_107_method_2_40 (by decide) rfl ?_
            refine Own.iremE (pc' := 42) d_prog_107_method_2_41 (by decide) rfl (z := (1 : Int32)) (by decide) ?_
            refine Own.iconst (pc' := 43) (v := (1 : Int32)) d_prog_107_method_2_42 (by decide) rfl ?_
            refine Own.icmp_ne (pc' := 55) (pc2 := 46) d_prog_107_method_2_43 (by decide) (by decide) rfl (fun q => absurd q (by decide)) (fun _ => ?_)
            refine Own.iload (pc' := 48) d_prog_107_method_2_46 rfl rfl ?_
            refine Own.iconst (pc' := 49) (v := (2 : Int32)) d_prog_107_method_2_48 (by decide) rfl ?_
            refine Own.idivE (pc' := 50) d_prog_107_method_2_49 (by decide) rfl (z := (1 : Int32)) (by decide) ?_
            refine Own.istore (pc' := 52) (L1 := #[.val (.ref a), .val (.int (0 : Int32)), .val (.long q), .second, .val (.int (1 : Int32)), .unset]) d_prog_107_method_2_50 rfl rfl ?_
            refine Own.goto (pc' := 38) d_prog_107_method_2_52 (by decide) (by decide) ?_
            refine Own.iload (pc' := 40) d_prog_107_method_2_38 rfl rfl ?_
            refine Own.iconst (pc' := 41) (v := (2 : Int32)) d_prog_107_method_2_40 (by decide) rfl ?_
            refine Own.iremE (pc' := 42) d_prog_107_method_2_41 (by decide) rfl (z := (1 : Int32)) (by decide) ?_
            refine Own.iconst (pc' := 43) (v := (1 : Int32)) d_prog_107_method_2_42 (by decide) rfl ?_
            refine Own.icmp_ne (pc' := 55) (pc2 := 46) d_prog_107_method_2_43 (by decide) (by decide) rfl (fun q => absurd q (by decide)) (fun _ => ?_)
            refine Own.iload (pc' := 48) d_prog_107_method_2_46 rfl rfl ?_
            refine Own.iconst (pc' := 49) (v := (2 : Int32)) d_prog_107_method_2_48 (by decide) rfl ?_
            refine Own.idivE (pc' := 50) d_prog_107_method_2_49 (by decide) rfl (z := (0 : Int32)) (by decide) ?_
            refine Own.istore (pc' := 52) (L1 := #[.val (.ref a), .val (.int (0 : Int32)), .val (.long q), .second, .val (.int (0 : Int32)), .unset]) d_prog_107_method_2_50 rfl rfl ?_
            refine Own.goto (pc' := 38) d_prog_107_method_2_52 (by decide) (by decide) ?_
            refine Own.iload (pc' := 40) d_prog_107_method_2_38 rfl rfl ?_
            refine Own.iconst (pc' := 41) (v := (2 : Int32)) d_prog_107_method_2_40 (by decide) rfl ?_
            refine Own.iremE (pc' := 42) d_prog_107_method_2_41 (by decide) rfl (z := (0 : Int32)) (by decide) ?_
            refine Own.iconst (pc' := 43) (v := (1 : Int32)) d_prog_107_method_2_42 (by decide) rfl ?_
            refine Own.icmp_ne (pc' := 55) (pc2 := 46) d_prog_107_method_2_43 (by decide) (by decide) rfl (fun _ => ?_) (fun q => absurd (by decide) q)
            refine Own.iload (pc' := 57) d_prog_107_method_2_55 rfl rfl ?_
            refine Own.if_le (pc' := 21) (pc2 := 60) d_prog_107_method_2_57 (by decide) (by decide) rfl (fun _ => ?_) (fun q => absurd (by decide) q)
            refine Own.iload (pc' := 23) d_prog_107_method_2_21 rfl rfl ?_
            refine Own.if_le (pc' := 66) (pc2 := 26) d_prog_107_method_2_23 (by decide) (by decide) rfl (fun _ => ?_) (fun q => absurd (by decide) q)
            refine Own.aloadN (pc' := 67) d_prog_107_method_2_66 rfl rfl rfl ?_
            refine Own.getfield (pc' := 70) d_prog_107_method_2_67 rfl (host := "") (Or.inl (hw _ (List.mem_of_getElem? (i := 12) rfl))) Via.refl F_count ?_
            refine Own.istore (pc' := 72) (L1 := #[.val (.ref a), .val (.int (0 : Int32)), .val (.long q), .second, .val (.int (0 : Int32)), .val (.int (3 : Int32))]) d_prog_107_method_2_70 rfl rfl ?_
            refine Own.iload (pc' := 74) d_prog_107_method_2_72 rfl rfl ?_
            refine Own.if_le (pc' := 127) (pc2 := 77) d_prog_107_method_2_74 (by decide) (by decide) rfl (fun _ => ?_) (fun q => absurd (by decide) q)
            refine Own.iload (pc' := 129) d_prog_107_method_2_127 rfl rfl ?_
            have hq : (3 : Int32) = own_want (3 : Int32) (0 : Int32) q x0 x1 x2 x3 x4 := by unfold own_want; (repeat' split) <;> first | rfl | (exfalso; omega) | omega
            exact Own.ireturnI d_prog_107_method_2_129 rfl (⟨rfl, _, rfl, hq⟩) (by decide) (by decide)
    · refine Own.aloadN (pc' := 14) d_prog_107_method_2_13 rfl rfl rfl ?_
      refine Own.getfield (pc' := 17) d_prog_107_method_2_14 rfl (host := "") (Or.inl (hw _ (List.mem_of_getElem? (i := 10) rfl))) Via.refl F_leaves ?_
      refine Own.iloadN (pc' := 18) d_prog_107_method_2_17 rfl rfl ?_
      refine Own.iaddE (pc' := 19) d_prog_107_method_2_18 rfl (z := (5 : Int32)) (by decide) ?_
      refine Own.istore (pc' := 21) (L1 := #[.val (.ref a), .val (.int (1 : Int32)), .val (.long q), .second, .val (.int (5 : Int32)), .unset]) d_prog_107_method_2_19 rfl rfl ?_
      refine Own.iload (pc' := 23) d_prog_107_method_2_21 rfl rfl ?_
      refine Own.if_le (pc' := 66) (pc2 := 26) d_prog_107_method_2_23 (by decide) (by decide) rfl (fun q => absurd q (by decide)) (fun _ => ?_)
      refine Own.aloadN (pc' := 27) d_prog_107_method_2_26 rfl rfl rfl ?_
      refine Own.getfield (pc' := 30) d_prog_107_method_2_27 rfl (host := "") (Or.inl (hw _ (List.mem_of_getElem? (i := 14) rfl))) Via.refl F_nodes ?_
      refine Own.iload (pc' := 32) d_prog_107_method_2_30 rfl rfl ?_
      refine Own.laload (pc' := 33) (i := 5) d_prog_107_method_2_32 rfl A (by decide) (by decide) ?_
      rw [own_nd3_5]
      show Go K _ _ _ _ _ _ _ _ _ 0 0 h 33 #[.val (.ref a), .val (.int (1 : Int32)), .val (.long q), .second, .val (.int (5 : Int32)), .unset] [(.long x1)]
      refine Own.lloadN (pc' := 34) d_prog_107_method_2_33 rfl rfl ?_
      refine Own.lcmp_ge (pc1 := 35) (pc' := 66) (pc2 := 38) d_prog_107_method_2_34 rfl d_prog_107_method_2_35 (by decide) (by decide) rfl (fun c34_562 => ?_) (fun c34_562 => ?_)
      · refine Own.aloadN (pc' := 67) d_prog_107_method_2_66 rfl rfl rfl ?_
        refine Own.getfield (pc' := 70) d_prog_107_method_2_67 rfl (host := "") (Or.inl (hw _ (List.mem_of_getElem? (i := 12) rfl))) Via.refl F_count ?_
        refine Own.istore (pc' := 72) (L1 := #[.val (.ref a), .val (.int (1 : Int32)), .val (.long q), .second, .val (.int (5 : Int32)), .val (.int (3 : Int32))]) d_prog_107_method_2_70 rfl rfl ?_
        refine Own.iload (pc' := 74) d_prog_107_method_2_72 rfl rfl ?_
        refine Own.if_le (pc' := 127) (pc2 := 77) d_prog_107_method_2_74 (by decide) (by decide) rfl (fun q => absurd q (by decide)) (fun _ => ?_)
        refine Own.iload (pc' := 79) d_prog_107_method_2_77 rfl rfl ?_
        refine Own.aloadN (pc' := 80) d_prog_107_method_2_79 rfl rfl rfl ?_
        refine Own.getfield (pc' := 83) d_prog_107_method_2_80 rfl (host := "") (Or.inl (hw _ (List.mem_of_getElem? (i := 10) rfl))) Via.refl F_leaves ?_
        refine Own.icmp_ge (pc' := 118) (pc2 := 86) d_prog_107_method_2_83 (by decide) (by decide) rfl (fun _ => ?_) (fun q => absurd (by decide) q)
        refine Own.iload (pc' := 120) d_prog_107_method_2_118 rfl rfl ?_
        refine Own.aloadN (pc' := 121) d_prog_107_method_2_120 rfl rfl rfl ?_
        refine Own.getfield (pc' := 124) d_prog_107_method_2_121 rfl (host := "") (Or.inl (hw _ (List.mem_of_getElem? (i := 10) rfl))) Via.refl F_leaves ?_
        refine Own.isubE (pc' := 125) d_prog_107_method_2_124 rfl (z := (1 : Int32)) (by decide) ?_
        refine Own.istore (pc' := 127) (L1 := #[.val (.ref a), .val (.int (1 : Int32)), .val (.long q), .second, .val (.int (5 : Int32)), .val (.int (1 : Int32))]) d_prog_107_method_2_125 rfl rfl ?_
        refine Own.iload (pc' := 129) d_prog_107_method_2_127 rfl rfl ?_
        have hq : (1 : Int32) = own_want (3 : Int32) (1 : Int32) q x0 x1 x2 x3 x4 := by unfold own_want; (repeat' split) <;> first | rfl | (exfalso; omega) | omega
        exact Own.ireturnI d_prog_107_method_2_129 rfl (⟨rfl, _, rfl, hq⟩) (by decide) (by decide)
      · refine Own.iload (pc' := 40) d_prog_107_method_2_38 rfl rfl ?_
        refine Own.iconst (pc' := 41) (v := (2 : Int32)) d_prog_107_method_2_40 (by decide) rfl ?_
        refine Own.iremE (pc' := 42) d_prog_107_method_2_41 (by decide) rfl (z := (1 : Int32)) (by decide) ?_
        refine Own.iconst (pc' := 43) (v := (1 : Int32)) d_prog_107_method_2_42 (by decide) rfl ?_
        refine Own.icmp_ne (pc' := 55) (pc2 := 46) d_prog_107_method_2_43 (by decide) (by decide) rfl (fun q => absurd q (by decide)) (fun _ => ?_)
        refine Own.iload (pc' := 48) d_prog_107_method_2_46 rfl rfl ?_
        refine Own.iconst (pc' := 49) (v := (2 : Int32)) d_prog_107_method_2_48 (by decide) rfl ?_
        refine Own.idivE (pc' := 50) d_prog_107_method_2_49 (by decide) rfl (z := (2 : Int32)) (by decide) ?_
        refine Own.istore (pc' := 52) (L1 := #[.val (.ref a), .val (.int (1 : Int32)), .val (.long q), .second, .val (.int (2 : Int32)), .unset]) d_prog_107_method_2_50 rfl rfl ?_
        refine Own.goto (pc' := 38) d_prog_107_method_2_52 (by decide) (by decide) ?_
        refine Own.iload (pc' := 40) d_prog_107_method_2_38 rfl rfl ?_
        refine Own.iconst (pc' := 41) (v := (2 : Int32)) d_prog_107_method_2_40 (by decide) rfl ?_
        refine Own.iremE (pc' := 42) d_prog_107_method_2_41 (by decide) rfl (z := (0 : Int32)) (by decide) ?_
        refine Own.iconst (pc' := 43) (v := (1 : Int32)) d_prog_107_method_2_42 (by decide) rfl ?_
        refine Own.icmp_ne (pc' := 55) (pc2 := 46) d_prog_107_method_2_43 (by decide) (by decide) rfl (fun _ => ?_) (fun q => absurd (by decide) q)
        refine Own.iload (pc' := 57) d_prog_107_method_2_55 rfl rfl ?_
        refine Own.if_le (pc' := 21) (pc2 := 60) d_prog_107_method_2_57 (by decide) (by decide) rfl (fun q => absurd q (by decide)) (fun _ => ?_)
        refine Own.iincE (pc' := 63) (L1 := fun zz => #[.val (.ref a), .val (.int (1 : Int32)), .val (.long q), .second, .val (.int zz), .unset]) d_prog_107_method_2_60 rfl (fun _ => rfl) rfl (z := (3 : Int32)) (by decide) ?_
        show Go K _ _ _ _ _ _ _ _ _ 0 0 h 63 #[.val (.ref a), .val (.int (1 : Int32)), .val (.long q), .second, .val (.int (3 : Int32)), .unset] []
        refine Own.goto (pc' := 21) d_prog_107_method_2_63 (by decide) (by decide) ?_
        refine Own.iload (pc' := 23) d_prog_107_method_2_21 rfl rfl ?_
        refine Own.if_le (pc' := 66) (pc2 := 26) d_prog_107_method_2_23 (by decide) (by decide) rfl (fun q => absurd q (by decide)) (fun _ => ?_)
        refine Own.aloadN (pc' := 27) d_prog_107_method_2_26 rfl rfl rfl ?_
        refine Own.getfield (pc' := 30) d_prog_107_method_2_27 rfl (host := "") (Or.inl (hw _ (List.mem_of_getElem? (i := 14) rfl))) Via.refl F_nodes ?_
        refine Own.iload (pc' := 32) d_prog_107_method_2_30 rfl rfl ?_
        refine Own.laload (pc' := 33) (i := 3) d_prog_107_method_2_32 rfl A (by decide) (by decide) ?_
        rw [own_nd3_3]
        show Go K _ _ _ _ _ _ _ _ _ 0 0 h 33 #[.val (.ref a), .val (.int (1 : Int32)), .val (.long q), .second, .val (.int (3 : Int32)), .unset] [(.long (own_max x2 (0 : Int64)))]
        refine Own.lloadN (pc' := 34) d_prog_107_method_2_33 rfl rfl ?_
        refine Own.lcmp_ge (pc1 := 35) (pc' := 66) (pc2 := 38) d_prog_107_method_2_34 rfl d_prog_107_method_2_35 (by decide) (by decide) rfl (fun c34_574 => ?_) (fun c34_574 => ?_)
        · refine Own.aloadN (pc' := 67) d_prog_107_method_2_66 rfl rfl rfl ?_
          refine Own.getfield (pc' := 70) d_prog_107_method_2_67 rfl (host := "") (Or.inl (hw _ (List.mem_of_getElem? (i := 12) rfl))) Via.refl F_count ?_
          refine Own.istore (pc' := 72) (L1 := #[.val (.ref a), .val (.int (1 : Int32)), .val (.long q), .second, .val (.int (3 : Int32)), .val (.int (3 : Int32))]) d_prog_107_method_2_70 rfl rfl ?_
          refine Own.iload (pc' := 74) d_prog_107_method_2_72 rfl rfl ?_
          refine Own.if_le (pc' := 127) (pc2 := 77) d_prog_107_method_2_74 (by decide) (by decide) rfl (fun q => absurd q (by decide)) (fun _ => ?_)
          refine Own.iload (pc' := 79) d_prog_107_method_2_77 rfl rfl ?_
          refine Own.aloadN (pc' := 80) d_prog_107_method_2_79 rfl rfl rfl ?_
          refine Own.getfield (pc' := 83) d_prog_107_method_2_80 rfl (host := "") (Or.inl (hw _ (List.mem_of_getElem? (i := 10) rfl))) Via.refl F_leaves ?_
          refine Own.icmp_ge (pc' := 118) (pc2 := 86) d_prog_107_method_2_83 (by decide) (by decide) rfl (fun q => absurd q (by decide)) (fun _ => ?_)
          refine Own.aloadN (pc' := 87) d_prog_107_method_2_86 rfl rfl rfl ?_
          refine Own.getfield (pc' := 90) d_prog_107_method_2_87 rfl (host := "") (Or.inl (hw _ (List.mem_of_getElem? (i := 14) rfl))) Via.refl F_nodes ?_
          refine Own.iconst (pc' := 91) (v := (2 : Int32)) d_prog_107_method_2_90 (by decide) rfl ?_
          refine Own.iload (pc' := 93) d_prog_107_method_2_91 rfl rfl ?_
          refine Own.imulE (pc' := 94) d_prog_107_method_2_93 rfl (z := (6 : Int32)) (by decide) ?_
          refine Own.laload (pc' := 95) (i := 6) d_prog_107_method_2_94 rfl A (by decide) (by decide) ?_
          rw [own_nd3_6]
          show Go K _ _ _ _ _ _ _ _ _ 0 0 h 95 #[.val (.ref a), .val (.int (1 : Int32)), .val (.long q), .second, .val (.int (3 : Int32)), .val (.int (3 : Int32))] [(.long x2)]
          refine Own.lloadN (pc' := 96) d_prog_107_method_2_95 rfl rfl ?_
          refine Own.lcmp_lt (pc1 := 97) (pc' := 107) (pc2 := 100) d_prog_107_method_2_96 rfl d_prog_107_method_2_97 (by decide) (by decide) rfl (fun c96_578 => ?_) (fun c96_578 => ?_)
          · refine Own.iconst (pc' := 108) (v := (2 : Int32)) d_prog_107_method_2_107 (by decide) rfl ?_
            refine Own.iload (pc' := 110) d_prog_107_method_2_108 rfl rfl ?_
            refine Own.imulE (pc' := 111) d_prog_107_method_2_110 rfl (z := (6 : Int32)) (by decide) ?_
            refine Own.iconst (pc' := 112) (v := (1 : Int32)) d_prog_107_method_2_111 (by decide) rfl ?_
            refine Own.iaddE (pc' := 113) d_prog_107_method_2_112 rfl (z := (7 : Int32)) (by decide) ?_
            refine Own.istore (pc' := 115) (L1 := #[.val (.ref a), .val (.int (1 : Int32)), .val (.long q), .second, .val (.int (7 : Int32)), .val (.int (3 : Int32))]) d_prog_107_method_2_113 rfl rfl ?_
            refine Own.goto (pc' := 77) d_prog_107_method_2_115 (by decide) (by decide) ?_
            refine Own.iload (pc' := 79) d_prog_107_method_2_77 rfl rfl ?_
            refine Own.aloadN (pc' := 80) d_prog_107_method_2_79 rfl rfl rfl ?_
            refine Own.getfield (pc' := 83) d_prog_107_method_2_80 rfl (host := "") (Or.inl (hw _ (List.mem_of_getElem? (i := 10) rfl))) Via.refl F_leaves ?_
            refine Own.icmp_ge (pc' := 118) (pc2 := 86) d_prog_107_method_2_83 (by decide) (by decide) rfl (fun _ => ?_) (fun q => absurd (by decide) q)
            refine Own.iload (pc' := 120) d_prog_107_method_2_118 rfl rfl ?_
            refine Own.aloadN (pc' := 121) d_prog_107_method_2_120 rfl rfl rfl ?_
            refine Own.getfield (pc' := 124) d_prog_107_method_2_121 rfl (host := "") (Or.inl (hw _ (List.mem_of_getElem? (i := 10) rfl))) Via.refl F_leaves ?_
            refine Own.isubE (pc' := 125) d_prog_107_method_2_124 rfl (z := (3 : Int32)) (by decide) ?_
            refine Own.istore (pc' := 127) (L1 := #[.val (.ref a), .val (.int (1 : Int32)), .val (.long q), .second, .val (.int (7 : Int32)), .val (.int (3 : Int32))]) d_prog_107_method_2_125 rfl rfl ?_
            refine Own.iload (pc' := 129) d_prog_107_method_2_127 rfl rfl ?_
            have hq : (3 : Int32) = own_want (3 : Int32) (1 : Int32) q x0 x1 x2 x3 x4 := by unfold own_want; (repeat' split) <;> first | rfl | (exfalso; omega) | omega
            exact Own.ireturnI d_prog_107_method_2_129 rfl (⟨rfl, _, rfl, hq⟩) (by decide) (by decide)
          · refine Own.iconst (pc' := 101) (v := (2 : Int32)) d_prog_107_method_2_100 (by decide) rfl ?_
            refine Own.iload (pc' := 103) d_prog_107_method_2_101 rfl rfl ?_
            refine Own.imulE (pc' := 104) d_prog_107_method_2_103 rfl (z := (6 : Int32)) (by decide) ?_
            refine Own.goto (pc' := 113) d_prog_107_method_2_104 (by decide) (by decide) ?_
            refine Own.istore (pc' := 115) (L1 := #[.val (.ref a), .val (.int (1 : Int32)), .val (.long q), .second, .val (.int (6 : Int32)), .val (.int (3 : Int32))]) d_prog_107_method_2_113 rfl rfl ?_
            refine Own.goto (pc' := 77) d_prog_107_method_2_115 (by decide) (by decide) ?_
            refine Own.iload (pc' := 79) d_prog_107_method_2_77 rfl rfl ?_
            refine Own.aloadN (pc' := 80) d_prog_107_method_2_79 rfl rfl rfl ?_
            refine Own.getfield (pc' := 83) d_prog_107_method_2_80 rfl (host := "") (Or.inl (hw _ (List.mem_of_getElem? (i := 10) rfl))) Via.refl F_leaves ?_
            refine Own.icmp_ge (pc' := 118) (pc2 := 86) d_prog_107_method_2_83 (by decide) (by decide) rfl (fun _ => ?_) (fun q => absurd (by decide) q)
            refine Own.iload (pc' := 120) d_prog_107_method_2_118 rfl rfl ?_
            refine Own.aloadN (pc' := 121) d_prog_107_method_2_120 rfl rfl rfl ?_
            refine Own.getfield (pc' := 124) d_prog_107_method_2_121 rfl (host := "") (Or.inl (hw _ (List.mem_of_getElem? (i := 10) rfl))) Via.refl F_leaves ?_
            refine Own.isubE (pc' := 125) d_prog_107_method_2_124 rfl (z := (2 : Int32)) (by decide) ?_
            refine Own.istore (pc' := 127) (L1 := #[.val (.ref a), .val (.int (1 : Int32)), .val (.long q), .second, .val (.int (6 : Int32)), .val (.int (2 : Int32))]) d_prog_107_method_2_125 rfl rfl ?_
            refine Own.iload (pc' := 129) d_prog_107_method_2_127 rfl rfl ?_
            have hq : (2 : Int32) = own_want (3 : Int32) (1 : Int32) q x0 x1 x2 x3 x4 := by unfold own_want; (repeat' split) <;> first | rfl | (exfalso; omega) | omega
            exact Own.ireturnI d_prog_107_method_2_129 rfl (⟨rfl, _, rfl, hq⟩) (by decide) (by decide)
        · refine Own.iload (pc' := 40) d_prog_107_method_2_38 rfl rfl ?_
          refine Own.iconst (pc' := 41) (v := (2 : Int32)) d_prog_107_method_2_40 (by decide) rfl ?_
          refine Own.iremE (pc' := 42) d_prog_107_method_2_41 (by decide) rfl (z := (1 : Int32)) (by decide) ?_
          refine Own.iconst (pc' := 43) (v := (1 : Int32)) d_prog_107_method_2_42 (by decide) rfl ?_
          refine Own.icmp_ne (pc' := 55) (pc2 := 46) d_prog_107_method_2_43 (by decide) (by decide) rfl (fun q => absurd q (by decide)) (fun _ => ?_)
          refine Own.iload (pc' := 48) d_prog_107_method_2_46 rfl rfl ?_
          refine Own.iconst (pc' := 49) (v := (2 : Int32)) d_prog_107_method_2_48 (by decide) rfl ?_
          refine Own.idivE (pc' := 50) d_prog_107_method_2_49 (by decide) rfl (z := (1 : Int32)) (by decide) ?_
          refine Own.istore (pc' := 52) (L1 := #[.val (.ref a), .val (.int (1 : Int32)), .val (.long q), .second, .val (.int (1 : Int32)), .unset]) d_prog_107_method_2_50 rfl rfl ?_
          refine Own.goto (pc' := 38) d_prog_107_method_2_52 (by decide) (by decide) ?_
          refine Own.iload (pc' := 40) d_prog_107_method_2_38 rfl rfl ?_
          refine Own.iconst (pc' := 41) (v := (2 : Int32)) d_prog_107_method_2_40 (by decide) rfl ?_
          refine Own.iremE (pc' := 42) d_prog_107_method_2_41 (by decide) rfl (z := (1 : Int32)) (by decide) ?_
          refine Own.iconst (pc' := 43) (v := (1 : Int32)) d_prog_107_method_2_42 (by decide) rfl ?_
          refine Own.icmp_ne (pc' := 55) (pc2 := 46) d_prog_107_method_2_43 (by decide) (by decide) rfl (fun q => absurd q (by decide)) (fun _ => ?_)
          refine Own.iload (pc' := 48) d_prog_107_method_2_46 rfl rfl ?_
          refine Own.iconst (pc' := 49) (v := (2 : Int32)) d_prog_107_method_2_48 (by decide) rfl ?_
          refine Own.idivE (pc' := 50) d_prog_107_method_2_49 (by decide) rfl (z := (0 : Int32)) (by decide) ?_
          refine Own.istore (pc' := 52) (L1 := #[.val (.ref a), .val (.int (1 : Int32)), .val (.long q), .second, .val (.int (0 : Int32)), .unset]) d_prog_107_method_2_50 rfl rfl ?_
          refine Own.goto (pc' := 38) d_prog_107_method_2_52 (by decide) (by decide) ?_
          refine Own.iload (pc' := 40) d_prog_107_method_2_38 rfl rfl ?_
          refine Own.iconst (pc' := 41) (v := (2 : Int32)) d_prog_107_method_2_40 (by decide) rfl ?_
          refine Own.iremE (pc' := 42) d_prog_107_method_2_41 (by decide) rfl (z := (0 : Int32)) (by decide) ?_
          refine Own.iconst (pc' := 43) (v := (1 : Int32)) d_prog_107_method_2_42 (by decide) rfl ?_
          refine Own.icmp_ne (pc' := 55) (pc2 := 46) d_prog_107_method_2_43 (by decide) (by decide) rfl (fun _ => ?_) (fun q => absurd (by decide) q)
          refine Own.iload (pc' := 57) d_prog_107_method_2_55 rfl rfl ?_
          refine Own.if_le (pc' := 21) (pc2 := 60) d_prog_107_method_2_57 (by decide) (by decide) rfl (fun _ => ?_) (fun q => absurd (by decide) q)
          refine Own.iload (pc' := 23) d_prog_107_method_2_21 rfl rfl ?_
          refine Own.if_le (pc' := 66) (pc2 := 26) d_prog_107_method_2_23 (by decide) (by decide) rfl (fun _ => ?_) (fun q => absurd (by decide) q)
          refine Own.aloadN (pc' := 67) d_prog_107_method_2_66 rfl rfl rfl ?_
          refine Own.getfield (pc' := 70) d_prog_107_method_2_67 rfl (host := "") (Or.inl (hw _ (List.mem_of_getElem? (i := 12) rfl))) Via.refl F_count ?_
          refine Own.istore (pc' := 72) (L1 := #[.val (.ref a), .val (.int (1 : Int32)), .val (.long q), .second, .val (.int (0 : Int32)), .val (.int (3 : Int32))]) d_prog_107_method_2_70 rfl rfl ?_
          refine Own.iload (pc' := 74) d_prog_107_method_2_72 rfl rfl ?_
          refine Own.if_le (pc' := 127) (pc2 := 77) d_prog_107_method_2_74 (by decide) (by decide) rfl (fun _ => ?_) (fun q => absurd (by decide) q)
          refine Own.iload (pc' := 129) d_prog_107_method_2_127 rfl rfl ?_
          have hq : (3 : Int32) = own_want (3 : Int32) (1 : Int32) q x0 x1 x2 x3 x4 := by unfold own_want; (repeat' split) <;> first | rfl | (exfalso; omega) | omega
          exact Own.ireturnI d_prog_107_method_2_129 rfl (⟨rfl, _, rfl, hq⟩) (by decide) (by decide)
    · refine Own.aloadN (pc' := 14) d_prog_107_method_2_13 rfl rfl rfl ?_
      refine Own.getfield (pc' := 17) d_prog_107_method_2_14 rfl (host := "") (Or.inl (hw _ (List.mem_of_getElem? (i := 10) rfl))) Via.refl F_leaves ?_
      refine Own.iloadN (pc' := 18) d_prog_107_method_2_17 rfl rfl ?_
      refine Own.iaddE (pc' := 19) d_prog_107_method_2_18 rfl (z := (6 : Int32)) (by decide) ?_
      refine Own.istore (pc' := 21) (L1 := #[.val (.ref a), .val (.int (2 : Int32)), .val (.long q), .second, .val (.int (6 : Int32)), .unset]) d_prog_107_method_2_19 rfl rfl ?_
      refine Own.iload (pc' := 23) d_prog_107_method_2_21 rfl rfl ?_
      refine Own.if_le (pc' := 66) (pc2 := 26) d_prog_107_method_2_23 (by decide) (by decide) rfl (fun q => absurd q (by decide)) (fun _ => ?_)
      refine Own.aloadN (pc' := 27) d_prog_107_method_2_26 rfl rfl rfl ?_
      refine Own.getfield (pc' := 30) d_prog_107_method_2_27 rfl (host := "") (Or.inl (hw _ (List.mem_of_getElem? (i := 14) rfl))) Via.refl F_nodes ?_
      refine Own.iload (pc' := 32) d_prog_107_method_2_30 rfl rfl ?_
      refine Own.laload (pc' := 33) (i := 6) d_prog_107_method_2_32 rfl A (by decide) (by decide) ?_
      rw [own_nd3_6]
      show Go K _ _ _ _ _ _ _ _ _ 0 0 h 33 #[.val (.ref a), .val (.int (2 : Int32)), .val (.long q), .second, .val (.int (6 : Int32)), .unset] [(.long x2)]
      refine Own.lloadN (pc' := 34) d_prog_107_method_2_33 rfl rfl ?_
      refine Own.lcmp_ge (pc1 := 35) (pc' := 66) (pc2 := 38) d_prog_107_method_2_34 rfl d_prog_107_method_2_35 (by decide) (by decide) rfl (fun c34_599 => ?_) (fun c34_599 => ?_)
      · refine Own.aloadN (pc' := 67) d_prog_107_method_2_66 rfl rfl rfl ?_
        refine Own.getfield (pc' := 70) d_prog_107_method_2_67 rfl (host := "") (Or.inl (hw _ (List.mem_of_getElem? (i := 12) rfl))) Via.refl F_count ?_
        refine Own.istore (pc' := 72) (L1 := #[.val (.ref a), .val (.int (2 : Int32)), .val (.long q), .second, .val (.int (6 : Int32)), .val (.int (3 : Int32))]) d_prog_107_method_2_70 rfl rfl ?_
        refine Own.iload (pc' := 74) d_prog_107_method_2_72 rfl rfl ?_
        refine Own.if_le (pc' := 127) (pc2 := 77) d_prog_107_method_2_74 (by decide) (by decide) rfl (fun q => absurd q (by decide)) (fun _ => ?_)
        refine Own.iload (pc' := 79) d_prog_107_method_2_77 rfl rfl ?_
        refine Own.aloadN (pc' := 80) d_prog_107_method_2_79 rfl rfl rfl ?_
        refine Own.getfield (pc' := 83) d_prog_107_method_2_80 rfl (host := "") (Or.inl (hw _ (List.mem_of_getElem? (i := 10) rfl))) Via.refl F_leaves ?_
        refine Own.icmp_ge (pc' := 118) (pc2 := 86) d_prog_107_method_2_83 (by decide) (by decide) rfl (fun _ => ?_) (fun q => absurd (by decide) q)
        refine Own.iload (pc' := 120) d_prog_107_method_2_118 rfl rfl ?_
        refine Own.aloadN (pc' := 121) d_prog_107_method_2_120 rfl rfl rfl ?_
        refine Own.getfield (pc' := 124) d_prog_107_method_2_121 rfl (host := "") (Or.inl (hw _ (List.mem_of_getElem? (i := 10) rfl))) Via.refl F_leaves ?_
        refine Own.isubE (pc' := 125) d_prog_107_method_2_124 rfl (z := (2 : Int32)) (by decide) ?_
        refine Own.istore (pc' := 127) (L1 := #[.val (.ref a), .val (.int (2 : Int32)), .val (.long q), .second, .val (.int (6 : Int32)), .val (.int (2 : Int32))]) d_prog_107_method_2_125 rfl rfl ?_
        refine Own.iload (pc' := 129) d_prog_107_method_2_127 rfl rfl ?_
        have hq : (2 : Int32) = own_want (3 : Int32) (2 : Int32) q x0 x1 x2 x3 x4 := by unfold own_want; (repeat' split) <;> first | rfl | (exfalso; omega) | omega
        exact Own.ireturnI d_prog_107_method_2_129 rfl (⟨rfl, _, rfl, hq⟩) (by decide) (by decide)
      · refine Own.iload (pc' := 40) d_prog_107_method_2_38 rfl rfl ?_
        refine Own.iconst (pc' := 41) (v := (2 : Int32)) d_prog_107_method_2_40 (by decide) rfl ?_
        refine Own.iremE (pc' := 42) d_prog_107_method_2_41 (by decide) rfl (z := (0 : Int32)) (by decide) ?_
        refine Own.iconst (pc' := 43) (v := (1 : Int32)) d_prog_107_method_2_42 (by decide) rfl ?_
        refine Own.icmp_ne (pc' := 55) (pc2 := 46) d_prog_107_method_2_43 (by decide) (by decide) rfl (fun _ => ?_) (fun q => absurd (by decide) q)
        refine Own.iload (pc' := 57) d_prog_107_method_2_55 rfl rfl ?_
        refine Own.if_le (pc' := 21) (pc2 := 60) d_prog_107_method_2_57 (by decide) (by decide) rfl (fun q => absurd q (by decide)) (fun _ => ?_)
        refine Own.iincE (pc' := 63) (L1 := fun zz => #[.val (.ref a), .val (.int (2 : Int32)), .val (.long q), .second, .val (.int zz), .unset]) d_prog_107_method_2_60 rfl (fun _ => rfl) rfl (z := (7 : Int32)) (by decide) ?_
        show Go K _ _ _ _ _ _ _ _ _ 0 0 h 63 #[.val (.ref a), .val (.int (2 : Int32)), .val (.long q), .second, .val (.int (7 : Int32)), .unset] []
        refine Own.goto (pc' := 21) d_prog_107_method_2_63 (by decide) (by decide) ?_
        refine Own.iload (pc' := 23) d_prog_107_method_2_21 rfl rfl ?_
        refine Own.if_le (pc' := 66) (pc2 := 26) d_prog_107_method_2_23 (by decide) (by decide) rfl (fun q => absurd q (by decide)) (fun _ => ?_)
        refine Own.aloadN (pc' := 27) d_prog_107_method_2_26 rfl rfl rfl ?_
        refine Own.getfield (pc' := 30) d_prog_107_method_2_27 rfl (host := "") (Or.inl (hw _ (List.mem_of_getElem? (i := 14) rfl))) Via.refl F_nodes ?_
        refine Own.iload (pc' := 32) d_prog_107_method_2_30 rfl rfl ?_
        refine Own.laload (pc' := 33) (i := 7) d_prog_107_method_2_32 rfl A (by decide) (by decide) ?_
        rw [own_nd3_7]
        show Go K _ _ _ _ _ _ _ _ _ 0 0 h 33 #[.val (.ref a), .val (.int (2 : Int32)), .val (.long q), .second, .val (.int (7 : Int32)), .unset] [(.long (0 : Int64))]
        refine Own.lloadN (pc' := 34) d_prog_107_method_2_33 rfl rfl ?_
        refine Own.lcmp_ge (pc1 := 35) (pc' := 66) (pc2 := 38) d_prog_107_method_2_34 rfl d_prog_107_method_2_35 (by decide) (by decide) rfl (fun c34_608 => ?_) (fun c34_608 => ?_)
        · refine Own.aloadN (pc' := 67) d_prog_107_method_2_66 rfl rfl rfl ?_
          refine Own.getfield (pc' := 70) d_prog_107_method_2_67 rfl (host := "") (Or.inl (hw _ (List.mem_of_getElem? (i := 12) rfl))) Via.refl F_count ?_
          refine Own.istore (pc' := 72) (L1 := #[.val (.ref a), .val (.int (2 : Int32)), .val (.long q), .second, .val (.int (7 : Int32)), .val (.int (3 : Int32))]) d_prog_107_method_2_70 rfl rfl ?_
          refine Own.iload (pc' := 74) d_prog_107_method_2_72 rfl rfl ?_
          refine Own.if_le (pc' := 127) (pc2 := 77) d_prog_107_method_2_74 (by decide) (by decide) rfl (fun q => absurd q (by decide)) (fun _ => ?_)
          refine Own.iload (pc' := 79) d_prog_107_method_2_77 rfl rfl ?_
          refine Own.aloadN (pc' := 80) d_prog_107_method_2_79 rfl rfl rfl ?_
          refine Own.getfield (pc' := 83) d_prog_107_method_2_80 rfl (host := "") (Or.inl (hw _ (List.mem_of_getElem? (i := 10) rfl))) Via.refl F_leaves ?_
          refine Own.icmp_ge (pc' := 118) (pc2 := 86) d_prog_107_method_2_83 (by decide) (by decide) rfl (fun _ => ?_) (fun q => absurd (by decide) q)
          refine Own.iload (pc' := 120) d_prog_107_method_2_118 rfl rfl ?_
          refine Own.aloadN (pc' := 121) d_prog_107_method_2_120 rfl rfl rfl ?_
          refine Own.getfield (pc' := 124) d_prog_107_method_2_121 rfl (host := "") (Or.inl (hw _ (List.mem_of_getElem? (i := 10) rfl))) Via.refl F_leaves ?_
          refine Own.isubE (pc' := 125) d_prog_107_method_2_124 rfl (z := (3 : Int32)) (by decide) ?_
          refine Own.istore (pc' := 127) (L1 := #[.val (.ref a), .val (.int (2 : Int32)), .val (.long q), .second, .val (.int (7 : Int32)), .val (.int (3 : Int32))]) d_prog_107_method_2_125 rfl rfl ?_
          refine Own.iload (pc' := 129) d_prog_107_method_2_127 rfl rfl ?_
          have hq : (3 : Int32) = own_want (3 : Int32) (2 : Int32) q x0 x1 x2 x3 x4 := by unfold own_want; (repeat' split) <;> first | rfl | (exfalso; omega) | omega
          exact Own.ireturnI d_prog_107_method_2_129 rfl (⟨rfl, _, rfl, hq⟩) (by decide) (by decide)
        · refine Own.iload (pc' := 40) d_prog_107_method_2_38 rfl rfl ?_
          refine Own.iconst (pc' := 41) (v := (2 : Int32)) d_prog_107_method_2_40 (by decide) rfl ?_
          refine Own.iremE (pc' := 42) d_prog_107_method_2_41 (by decide) rfl (z := (1 : Int32)) (by decide) ?_
          refine Own.iconst (pc' := 43) (v := (1 : Int32)) d_prog_107_method_2_42 (by decide) rfl ?_
          refine Own.icmp_ne (pc' := 55) (pc2 := 46) d_prog_107_method_2_43 (by decide) (by decide) rfl (fun q => absurd q (by decide)) (fun _ => ?_)
          refine Own.iload (pc' := 48) d_prog_107_method_2_46 rfl rfl ?_
          refine Own.iconst (pc' := 49) (v := (2 : Int32)) d_prog_107_method_2_48 (by decide) rfl ?_
          refine Own.idivE (pc' := 50) d_prog_107_method_2_49 (by decide) rfl (z := (3 : Int32)) (by decide) ?_
          refine Own.istore (pc' := 52) (L1 := #[.val (.ref a), .val (.int (2 : Int32)), .val (.long q), .second, .val (.int (3 : Int32)), .unset]) d_prog_107_method_2_50 rfl rfl ?_
          refine Own.goto (pc' := 38) d_prog_107_method_2_52 (by decide) (by decide) ?_
          refine Own.iload (pc' := 40) d_prog_107_method_2_38 rfl rfl ?_
          refine Own.iconst (pc' := 41) (v := (2 : Int32)) d_prog_107_method_2_40 (by decide) rfl ?_
          refine Own.iremE (pc' := 42) d_prog_107_method_2_41 (by decide) rfl (z := (1 : Int32)) (by decide) ?_
          refine Own.iconst (pc' := 43) (v := (1 : Int32)) d_prog_107_method_2_42 (by decide) rfl ?_
          refine Own.icmp_ne (pc' := 55) (pc2 := 46) d_prog_107_method_2_43 (by decide) (by decide) rfl (fun q => absurd q (by decide)) (fun _ => ?_)
          refine Own.iload (pc' := 48) d_prog_107_method_2_46 rfl rfl ?_
          refine Own.iconst (pc' := 49) (v := (2 : Int32)) d_prog_107_method_2_48 (by decide) rfl ?_
          refine Own.idivE (pc' := 50) d_prog_107_method_2_49 (by decide) rfl (z := (1 : Int32)) (by decide) ?_
          refine Own.istore (pc' := 52) (L1 := #[.val (.ref a), .val (.int (2 : Int32)), .val (.long q), .second, .val (.int (1 : Int32)), .unset]) d_prog_107_method_2_50 rfl rfl ?_
          refine Own.goto (pc' := 38) d_prog_107_method_2_52 (by decide) (by decide) ?_
          refine Own.iload (pc' := 40) d_prog_107_method_2_38 rfl rfl ?_
          refine Own.iconst (pc' := 41) (v := (2 : Int32)) d_prog_107_method_2_40 (by decide) rfl ?_
          refine Own.iremE (pc' := 42) d_prog_107_method_2_41 (by decide) rfl (z := (1 : Int32)) (by decide) ?_
          refine Own.iconst (pc' := 43) (v := (1 : Int32)) d_prog_107_method_2_42 (by decide) rfl ?_
          refine Own.icmp_ne (pc' := 55) (pc2 := 46) d_prog_107_method_2_43 (by decide) (by decide) rfl (fun q => absurd q (by decide)) (fun _ => ?_)
          refine Own.iload (pc' := 48) d_prog_107_method_2_46 rfl rfl ?_
          refine Own.iconst (pc' := 49) (v := (2 : Int32)) d_prog_107_method_2_48 (by decide) rfl ?_
          refine Own.idivE (pc' := 50) d_prog_107_method_2_49 (by decide) rfl (z := (0 : Int32)) (by decide) ?_
          refine Own.istore (pc' := 52) (L1 := #[.val (.ref a), .val (.int (2 : Int32)), .val (.long q), .second, .val (.int (0 : Int32)), .unset]) d_prog_107_method_2_50 rfl rfl ?_
          refine Own.goto (pc' := 38) d_prog_107_method_2_52 (by decide) (by decide) ?_
          refine Own.iload (pc' := 40) d_prog_107_method_2_38 rfl rfl ?_
          refine Own.iconst (pc' := 41) (v := (2 : Int32)) d_prog_107_method_2_40 (by decide) rfl ?_
          refine Own.iremE (pc' := 42) d_prog_107_method_2_41 (by decide) rfl (z := (0 : Int32)) (by decide) ?_
          refine Own.iconst (pc' := 43) (v := (1 : Int32)) d_prog_107_method_2_42 (by decide) rfl ?_
          refine Own.icmp_ne (pc' := 55) (pc2 := 46) d_prog_107_method_2_43 (by decide) (by decide) rfl (fun _ => ?_) (fun q => absurd (by decide) q)
          refine Own.iload (pc' := 57) d_prog_107_method_2_55 rfl rfl ?_
          refine Own.if_le (pc' := 21) (pc2 := 60) d_prog_107_method_2_57 (by decide) (by decide) rfl (fun _ => ?_) (fun q => absurd (by decide) q)
          refine Own.iload (pc' := 23) d_prog_107_method_2_21 rfl rfl ?_
          refine Own.if_le (pc' := 66) (pc2 := 26) d_prog_107_method_2_23 (by decide) (by decide) rfl (fun _ => ?_) (fun q => absurd (by decide) q)
          refine Own.aloadN (pc' := 67) d_prog_107_method_2_66 rfl rfl rfl ?_
          refine Own.getfield (pc' := 70) d_prog_107_method_2_67 rfl (host := "") (Or.inl (hw _ (List.mem_of_getElem? (i := 12) rfl))) Via.refl F_count ?_
          refine Own.istore (pc' := 72) (L1 := #[.val (.ref a), .val (.int (2 : Int32)), .val (.long q), .second, .val (.int (0 : Int32)), .val (.int (3 : Int32))]) d_prog_107_method_2_70 rfl rfl ?_
          refine Own.iload (pc' := 74) d_prog_107_method_2_72 rfl rfl ?_
          refine Own.if_le (pc' := 127) (pc2 := 77) d_prog_107_method_2_74 (by decide) (by decide) rfl (fun _ => ?_) (fun q => absurd (by decide) q)
          refine Own.iload (pc' := 129) d_prog_107_method_2_127 rfl rfl ?_
          have hq : (3 : Int32) = own_want (3 : Int32) (2 : Int32) q x0 x1 x2 x3 x4 := by unfold own_want; (repeat' split) <;> first | rfl | (exfalso; omega) | omega
          exact Own.ireturnI d_prog_107_method_2_129 rfl (⟨rfl, _, rfl, hq⟩) (by decide) (by decide)
  · refine Own.aloadN (pc' := 9) d_prog_107_method_2_8 rfl rfl rfl ?_
    refine Own.getfield (pc' := 12) d_prog_107_method_2_9 rfl (host := "") (Or.inl (hw _ (List.mem_of_getElem? (i := 12) rfl))) Via.refl F_count ?_
    have hq : (3 : Int32) = own_want (3 : Int32) p q x0 x1 x2 x3 x4 := by unfold own_want; (repeat' split) <;> first | rfl | (exfalso; omega) | omega
    exact Own.ireturnI d_prog_107_method_2_12 rfl (⟨rfl, _, rfl, hq⟩) (by decide) (by decide)
set_option maxRecDepth 65536 in
set_option maxHeartbeats 40000000 in
theorem c_own_fa4 (Z : State) (a0 : Array Value) (hw : ∀ d ∈ tables_1, d.before a0 Z = true) (n0 : Nat) (h : Heap) (hZ0 : n0 ≤ h.size) (a : Addr) (p : Int32) (q : Int64) (x0 x1 x2 x3 x4 : Int64) (r : Addr) (F_leaves : Fld Z h a "com/example/coldtail/coldtail/segment/MaxTree" "leaves" "I" (.int (4 : Int32))) (F_count : Fld Z h a "com/example/coldtail/coldtail/segment/MaxTree" "count" "I" (.int (4 : Int32))) (F_nodes : Fld Z h a "com/example/coldtail/coldtail/segment/MaxTree" "nodes" "[J" (.ref r)) (A : AJ Z h r 8 (own_nd4 x0 x1 x2 x3 x4)) (hp : 0 ≤ p.toInt) :
    Con Z n0 (⟨"com/example/coldtail/coldtail/segment/MaxTree", "firstAtLeast", "(IJ)I"⟩ : MethodName) prog_107_method_2_code 6 (some .int) ({ frames := 0, cells := 0, slots := 0, locals := 0 } : Room) [(.ref a), (.int p), (.long q)] h (fun v h' => h = h' ∧ ∃ z, v = some (.int z) ∧ z = own_want (4 : Int32) p q x0 x1 x2 x3 x4) := by
  refine Own.enter (plainFor_of_name pn_1) (L0 := #[.val (.ref a), .val (.int p), .val (.long q), .second, .unset, .unset]) (fun m => by first | (simp [entryFrame, mkF, argsToLocals, Value.category]; done) | rfl) fun K => ?_
  show Go K _ _ _ _ _ _ "com/example/coldtail/coldtail/segment/MaxTree" "firstAtLeast" _ 0 0 h 0 #[.val (.ref a), .val (.int p), .val (.long q), .second, .unset, .unset] []
  have k0 : (0 : Int32).toInt = 0 := by decide
  have k1 : (1 : Int32).toInt = 1 := by decide
  have k2 : (2 : Int32).toInt = 2 := by decide
  have k3 : (3 : Int32).toInt = 3 := by decide
  have k4 : (4 : Int32).toInt = 4 := by decide
  have k5 : (5 : Int32).toInt = 5 := by decide
  have k6 : (6 : Int32).toInt = 6 := by decide
  have k7 : (7 : Int32).toInt = 7 := by decide
  have k8 : (8 : Int32).toInt = 8 := by decide
  have kz : (0 : Int64).toInt = 0 := by decide
  have e0 := own_maxI x0 x1
  have e1 := own_maxI x2 x3
  have e2 := own_maxI (own_max x0 x1) (own_max x2 x3)
  refine Own.iloadN (pc' := 1) d_prog_107_method_2_0 rfl rfl ?_
  refine Own.aloadN (pc' := 2) d_prog_107_method_2_1 rfl rfl rfl ?_
  refine Own.getfield (pc' := 5) d_prog_107_method_2_2 rfl (host := "") (Or.inl (hw _ (List.mem_of_getElem? (i := 12) rfl))) Via.refl F_count ?_
  refine Own.icmp_lt (pc' := 13) (pc2 := 8) d_prog_107_method_2_5 (by decide) (by decide) rfl (fun c5_626 => ?_) (fun c5_626 => ?_)
  · have hc : p = (0 : Int32) ∨ p = (1 : Int32) ∨ p = (2 : Int32) ∨ p = (3 : Int32) := by
      have : p.toInt = 0 ∨ p.toInt = 1 ∨ p.toInt = 2 ∨ p.toInt = 3 := by omega
      rcases this with qq | qq | qq | qq
      · exact Or.inl (Int32.toInt_inj.mp (by rw [qq]; decide))
      · exact Or.inr (Or.inl (Int32.toInt_inj.mp (by rw [qq]; decide)))
      · exact Or.inr (Or.inr (Or.inl (Int32.toInt_inj.mp (by rw [qq]; decide))))
      · exact Or.inr (Or.inr (Or.inr ((Int32.toInt_inj.mp (by rw [qq]; decide)))))
    rcases hc with rfl | rfl | rfl | rfl
    · refine Own.aloadN (pc' := 14) d_prog_107_method_2_13 rfl rfl rfl ?_
      refine Own.getfield (pc' := 17) d_prog_107_method_2_14 rfl (host := "") (Or.inl (hw _ (List.mem_of_getElem? (i := 10) rfl))) Via.refl F_leaves ?_
      refine Own.iloadN (pc' := 18) d_prog_107_method_2_17 rfl rfl ?_
      refine Own.iaddE (pc' := 19) d_prog_107_method_2_18 rfl (z := (4 : Int32)) (by decide) ?_
      refine Own.istore (pc' := 21) (L1 := #[.val (.ref a), .val (.int (0 : Int32)), .val (.long q), .second, .val (.int (4 : Int32)), .unset]) d_prog_107_method_2_19 rfl rfl ?_
      refine Own.iload (pc' := 23) d_prog_107_method_2_21 rfl rfl ?_
      refine Own.if_le (pc' := 66) (pc2 := 26) d_prog_107_method_2_23 (by decide) (by decide) rfl (fun q => absurd q (by decide)) (fun _ => ?_)
      refine Own.aloadN (pc' := 27) d_prog_107_method_2_26 rfl rfl rfl ?_
      refine Own.getfield (pc' := 30) d_prog_107_method_2_27 rfl (host := "") (Or.inl (hw _ (List.mem_of_getElem? (i := 14) rfl))) Via.refl F_nodes ?_
      refine Own.iload (pc' := 32) d_prog_107_method_2_30 rfl rfl ?_
      refine Own.laload (pc' := 33) (i := 4) d_prog_107_method_2_32 rfl A (by decide) (by decide) ?_
      rw [own_nd4_4]
      show Go K _ _ _ _ _ _ _ _ _ 0 0 h 33 #[.val (.ref a), .val (.int (0 : Int32)), .val (.long q), .second, .val (.int (4 : Int32)), .unset] [(.long x0)]
      refine Own.lloadN (pc' := 34) d_prog_107_method_2_33 rfl rfl ?_
      refine Own.lcmp_ge (pc1 := 35) (pc' := 66) (pc2 := 38) d_prog_107_method_2_34 rfl d_prog_107_method_2_35 (by decide) (by decide) rfl (fun c34_629 => ?_) (fun c34_629 => ?_)
      · refine Own.aloadN (pc' := 67) d_prog_107_method_2_66 rfl rfl rfl ?_
        refine Own.getfield (pc' := 70) d_prog_107_method_2_67 rfl (host := "") (Or.inl (hw _ (List.mem_of_getElem? (i := 12) rfl))) Via.refl F_count ?_
        refine Own.istore (pc' := 72) (L1 := #[.val (.ref a), .val (.int (0 : Int32)), .val (.long q), .second, .val (.int (4 : Int32)), .val (.int (4 : Int32))]) d_prog_107_method_2_70 rfl rfl ?_
        refine Own.iload (pc' := 74) d_prog_107_method_2_72 rfl rfl ?_
        refine Own.if_le (pc' := 127) (pc2 := 77) d_prog_107_method_2_74 (by decide) (by decide) rfl (fun q => absurd q (by decide)) (fun _ => ?_)
        refine Own.iload (pc' := 79) d_prog_107_method_2_77 rfl rfl ?_
        refine Own.aloadN (pc' := 80) d_prog_107_method_2_79 rfl rfl rfl ?_
        refine Own.getfield (pc' := 83) d_prog_107_method_2_80 rfl (host := "") (Or.inl (hw _ (List.mem_of_getElem? (i := 10) rfl))) Via.refl F_leaves ?_
        refine Own.icmp_ge (pc' := 118) (pc2 := 86) d_prog_107_method_2_83 (by decide) (by decide) rfl (fun _ => ?_) (fun q => absurd (by decide) q)
        refine Own.iload (pc' := 120) d_prog_107_method_2_118 rfl rfl ?_
        refine Own.aloadN (pc' := 121) d_prog_107_method_2_120 rfl rfl rfl ?_
        refine Own.getfield (pc' := 124) d_prog_107_method_2_121 rfl (host := "") (Or.inl (hw _ (List.mem_of_getElem? (i := 10) rfl))) Via.refl F_leaves ?_
        refine Own.isubE (pc' := 125) d_prog_107_method_2_124 rfl (z := (0 : Int32)) (by decide) ?_
        refine Own.istore (pc' := 127) (L1 := #[.val (.ref a), .val (.int (0 : Int32)), .val (.long q), .second, .val (.int (4 : Int32)), .val (.int (0 : Int32))]) d_prog_107_method_2_125 rfl rfl ?_
        refine Own.iload (pc' := 129) d_prog_107_method_2_127 rfl rfl ?_
        have hq : (0 : Int32) = own_want (4 : Int32) (0 : Int32) q x0 x1 x2 x3 x4 := by unfold own_want; (repeat' split) <;> first | rfl | (exfalso; omega) | omega
        exact Own.ireturnI d_prog_107_method_2_129 rfl (⟨rfl, _, rfl, hq⟩) (by decide) (by decide)
      · refine Own.iload (pc' := 40) d_prog_107_method_2_38 rfl rfl ?_
        refine Own.iconst (pc' := 41) (v := (2 : Int32)) d_prog_107_method_2_40 (by decide) rfl ?_
        refine Own.iremE (pc' := 42) d_prog_107_method_2_41 (by decide) rfl (z := (0 : Int32)) (by decide) ?_
        refine Own.iconst (pc' := 43) (v := (1 : Int32)) d_prog_107_method_2_42 (by decide) rfl ?_
        refine Own.icmp_ne (pc' := 55) (pc2 := 46) d_prog_107_method_2_43 (by decide) (by decide) rfl (fun _ => ?_) (fun q => absurd (by decide) q)
        refine Own.iload (pc' := 57) d_prog_107_method_2_55 rfl rfl ?_
        refine Own.if_le (pc' := 21) (pc2 := 60) d_prog_107_method_2_57 (by decide) (by decide) rfl (fun q => absurd q (by decide)) (fun _ => ?_)
        refine Own.iincE (pc' := 63) (L1 := fun zz => #[.val (.ref a), .val (.int (0 : Int32)), .val (.long q), .second, .val (.int zz), .unset]) d_prog_107_method_2_60 rfl (fun _ => rfl) rfl (z := (5 : Int32)) (by decide) ?_
        show Go K _ _ _ _ _ _ _ _ _ 0 0 h 63 #[.val (.ref a), .val (.int (0 : Int32)), .val (.long q), .second, .val (.int (5 : Int32)), .unset] []
        refine Own.goto (pc' := 21) d_prog_107_method_2_63 (by decide) (by decide) ?_
        refine Own.iload (pc' := 23) d_prog_107_method_2_21 rfl rfl ?_
        refine Own.if_le (pc' := 66) (pc2 := 26) d_prog_107_method_2_23 (by decide) (by decide) rfl (fun q => absurd q (by decide)) (fun _ => ?_)
        refine Own.aloadN (pc' := 27) d_prog_107_method_2_26 rfl rfl rfl ?_
        refine Own.getfield (pc' := 30) d_prog_107_method_2_27 rfl (host := "") (Or.inl (hw _ (List.mem_of_getElem? (i := 14) rfl))) Via.refl F_nodes ?_
        refine Own.iload (pc' := 32) d_prog_107_method_2_30 rfl rfl ?_
        refine Own.laload (pc' := 33) (i := 5) d_prog_107_method_2_32 rfl A (by decide) (by decide) ?_
        rw [own_nd4_5]
        show Go K _ _ _ _ _ _ _ _ _ 0 0 h 33 #[.val (.ref a), .val (.int (0 : Int32)), .val (.long q), .second, .val (.int (5 : Int32)), .unset] [(.long x1)]
        refine Own.lloadN (pc' := 34) d_prog_107_method_2_33 rfl rfl ?_
        refine Own.lcmp_ge (pc1 := 35) (pc' := 66) (pc2 := 38) d_prog_107_method_2_34 rfl d_prog_107_method_2_35 (by decide) (by decide) rfl (fun c34_638 => ?_) (fun c34_638 => ?_)
        · refine Own.aloadN (pc' := 67) d_prog_107_method_2_66 rfl rfl rfl ?_
          refine Own.getfield (pc' := 70) d_prog_107_method_2_67 rfl (host := "") (Or.inl (hw _ (List.mem_of_getElem? (i := 12) rfl))) Via.refl F_count ?_
          refine Own.istore (pc' := 72) (L1 := #[.val (.ref a), .val (.int (0 : Int32)), .val (.long q), .second, .val (.int (5 : Int32)), .val (.int (4 : Int32))]) d_prog_107_method_2_70 rfl rfl ?_
          refine Own.iload (pc' := 74) d_prog_107_method_2_72 rfl rfl ?_
          refine Own.if_le (pc' := 127) (pc2 := 77) d_prog_107_method_2_74 (by decide) (by decide) rfl (fun q => absurd q (by decide)) (fun _ => ?_)
          refine Own.iload (pc' := 79) d_prog_107_method_2_77 rfl rfl ?_
          refine Own.aloadN (pc' := 80) d_prog_107_method_2_79 rfl rfl rfl ?_
          refine Own.getfield (pc' := 83) d_prog_107_method_2_80 rfl (host := "") (Or.inl (hw _ (List.mem_of_getElem? (i := 10) rfl))) Via.refl F_leaves ?_
          refine Own.icmp_ge (pc' := 118) (pc2 := 86) d_prog_107_method_2_83 (by decide) (by decide) rfl (fun _ => ?_) (fun q => absurd (by decide) q)
          refine Own.iload (pc' := 120) d_prog_107_method_2_118 rfl rfl ?_
          refine Own.aloadN (pc' := 121) d_prog_107_method_2_120 rfl rfl rfl ?_
          refine Own.getfield (pc' := 124) d_prog_107_method_2_121 rfl (host := "") (Or.inl (hw _ (List.mem_of_getElem? (i := 10) rfl))) Via.refl F_leaves ?_
          refine Own.isubE (pc' := 125) d_prog_107_method_2_124 rfl (z := (1 : Int32)) (by decide) ?_
          refine Own.istore (pc' := 127) (L1 := #[.val (.ref a), .val (.int (0 : Int32)), .val (.long q), .second, .val (.int (5 : Int32)), .val (.int (1 : Int32))]) d_prog_107_method_2_125 rfl rfl ?_
          refine Own.iload (pc' := 129) d_prog_107_method_2_127 rfl rfl ?_
          have hq : (1 : Int32) = own_want (4 : Int32) (0 : Int32) q x0 x1 x2 x3 x4 := by unfold own_want; (repeat' split) <;> first | rfl | (exfalso; omega) | omega
          exact Own.ireturnI d_prog_107_method_2_129 rfl (⟨rfl, _, rfl, hq⟩) (by decide) (by decide)
        · refine Own.iload (pc' := 40) d_prog_107_method_2_38 rfl rfl ?_
          refine Own.iconst (pc' := 41) (v := (2 : Int32)) d_prog_107_method_2_40 (by decide) rfl ?_
          refine Own.iremE (pc' := 42) d_prog_107_method_2_41 (by decide) rfl (z := (1 : Int32)) (by decide) ?_
          refine Own.iconst (pc' := 43) (v := (1 : Int32)) d_prog_107_method_2_42 (by decide) rfl ?_
          refine Own.icmp_ne (pc' := 55) (pc2 := 46) d_prog_107_method_2_43 (by decide) (by decide) rfl (fun q => absurd q (by decide)) (fun _ => ?_)
          refine Own.iload (pc' := 48) d_prog_107_method_2_46 rfl rfl ?_
          refine Own.iconst (pc' := 49) (v := (2 : Int32)) d_prog_107_method_2_48 (by decide) rfl ?_
          refine Own.idivE (pc' := 50) d_prog_107_method_2_49 (by decide) rfl (z := (2 : Int32)) (by decide) ?_
          refine Own.istore (pc' := 52) (L1 := #[.val (.ref a), .val (.int (0 : Int32)), .val (.long q), .second, .val (.int (2 : Int32)), .unset]) d_prog_107_method_2_50 rfl rfl ?_
          refine Own.goto (pc' := 38) d_prog_107_method_2_52 (by decide) (by decide) ?_
          refine Own.iload (pc' := 40) d_prog_107_method_2_38 rfl rfl ?_
          refine Own.iconst (pc' := 41) (v := (2 : Int32)) d_prog_107_method_2_40 (by decide) rfl ?_
          refine Own.iremE (pc' := 42) d_prog_107_method_2_41 (by decide) rfl (z := (0 : Int32)) (by decide) ?_
          refine Own.iconst (pc' := 43) (v := (1 : Int32)) d_prog_107_method_2_42 (by decide) rfl ?_
          refine Own.icmp_ne (pc' := 55) (pc2 := 46) d_prog_107_method_2_43 (by decide) (by decide) rfl (fun _ => ?_) (fun q => absurd (by decide) q)
          refine Own.iload (pc' := 57) d_prog_107_method_2_55 rfl rfl ?_
          refine Own.if_le (pc' := 21) (pc2 := 60) d_prog_107_method_2_57 (by decide) (by decide) rfl (fun q => absurd q (by decide)) (fun _ => ?_)
          refine Own.iincE (pc' := 63) (L1 := fun zz => #[.val (.ref a), .val (.int (0 : Int32)), .val (.long q), .second, .val (.int zz), .unset]) d_prog_107_method_2_60 rfl (fun _ => rfl) rfl (z := (3 : Int32)) (by decide) ?_
          show Go K _ _ _ _ _ _ _ _ _ 0 0 h 63 #[.val (.ref a), .val (.int (0 : Int32)), .val (.long q), .second, .val (.int (3 : Int32)), .unset] []
          refine Own.goto (pc' := 21) d_prog_107_method_2_63 (by decide) (by decide) ?_
          refine Own.iload (pc' := 23) d_prog_107_method_2_21 rfl rfl ?_
          refine Own.if_le (pc' := 66) (pc2 := 26) d_prog_107_method_2_23 (by decide) (by decide) rfl (fun q => absurd q (by decide)) (fun _ => ?_)
          refine Own.aloadN (pc' := 27) d_prog_107_method_2_26 rfl rfl rfl ?_
          refine Own.getfield (pc' := 30) d_prog_107_method_2_27 rfl (host := "") (Or.inl (hw _ (List.mem_of_getElem? (i := 14) rfl))) Via.refl F_nodes ?_
          refine Own.iload (pc' := 32) d_prog_107_method_2_30 rfl rfl ?_
          refine Own.laload (pc' := 33) (i := 3) d_prog_107_method_2_32 rfl A (by decide) (by decide) ?_
          rw [own_nd4_3]
          show Go K _ _ _ _ _ _ _ _ _ 0 0 h 33 #[.val (.ref a), .val (.int (0 : Int32)), .val (.long q), .second, .val (.int (3 : Int32)), .unset] [(.long (own_max x2 x3))]
          refine Own.lloadN (pc' := 34) d_prog_107_method_2_33 rfl rfl ?_
          refine Own.lcmp_ge (pc1 := 35) (pc' := 66) (pc2 := 38) d_prog_107_method_2_34 rfl d_prog_107_method_2_35 (by decide) (by decide) rfl (fun c34_650 => ?_) (fun c34_650 => ?_)
          · refine Own.aloadN (pc' := 67) d_prog_107_method_2_66 rfl rfl rfl ?_
            refine Own.getfield (pc' := 70) d_prog_107_method_2_67 rfl (host := "") (Or.inl (hw _ (List.mem_of_getElem? (i := 12) rfl))) Via.refl F_count ?_
            refine Own.istore (pc' := 72) (L1 := #[.val (.ref a), .val (.int (0 : Int32)), .val (.long q), .second, .val (.int (3 : Int32)), .val (.int (4 : Int32))]) d_prog_107_method_2_70 rfl rfl ?_
            refine Own.iload (pc' := 74) d_prog_107_method_2_72 rfl rfl ?_
            refine Own.if_le (pc' := 127) (pc2 := 77) d_prog_107_method_2_74 (by decide) (by decide) rfl (fun q => absurd q (by decide)) (fun _ => ?_)
            refine Own.iload (pc' := 79) d_prog_107_method_2_77 rfl rfl ?_
            refine Own.aloadN (pc' := 80) d_prog_107_method_2_79 rfl rfl rfl ?_
            refine Own.getfield (pc' := 83) d_prog_107_method_2_80 rfl (host := "") (Or.inl (hw _ (List.mem_of_getElem? (i := 10) rfl))) Via.refl F_leaves ?_
            refine Own.icmp_ge (pc' := 118) (pc2 := 86) d_prog_107_method_2_83 (by decide) (by decide) rfl (fun q => absurd q (by decide)) (fun _ => ?_)
            refine Own.aloadN (pc' := 87) d_prog_107_method_2_86 rfl rfl rfl ?_
            refine Own.getfield (pc' := 90) d_prog_107_method_2_87 rfl (host := "") (Or.inl (hw _ (List.mem_of_getElem? (i := 14) rfl))) Via.refl F_nodes ?_
            refine Own.iconst (pc' := 91) (v := (2 : Int32)) d_prog_107_method_2_90 (by decide) rfl ?_
            refine Own.iload (pc' := 93) d_prog_107_method_2_91 rfl rfl ?_
            refine Own.imulE (pc' := 94) d_prog_107_method_2_93 rfl (z := (6 : Int32)) (by decide) ?_
            refine Own.laload (pc' := 95) (i := 6) d_prog_107_method_2_94 rfl A (by decide) (by decide) ?_
            rw [own_nd4_6]
            show Go K _ _ _ _ _ _ _ _ _ 0 0 h 95 #[.val (.ref a), .val (.int (0 : Int32)), .val (.long q), .second, .val (.int (3 : Int32)), .val (.int (4 : Int32))] [(.long x2)]
            refine Own.lloadN (pc' := 96) d_prog_107_method_2_95 rfl rfl ?_
            refine Own.lcmp_lt (pc1 := 97) (pc' := 107) (pc2 := 100) d_prog_107_method_2_96 rfl d_prog_107_method_2_97 (by decide) (by decide) rfl (fun c96_654 => ?_) (fun c96_654 => ?_)
            · refine Own.iconst (pc' := 108) (v := (2 : Int32)) d_prog_107_method_2_107 (by decide) rfl ?_
              refine Own.iload (pc' := 110) d_prog_107_method_2_108 rfl rfl ?_
              refine Own.imulE (pc' := 111) d_prog_107_method_2_110 rfl (z := (6 : Int32)) (by decide) ?_
              refine Own.iconst (pc' := 112) (v := (1 : Int32)) d_prog_107_method_2_111 (by decide) rfl ?_
              refine Own.iaddE (pc' := 113) d_prog_107_method_2_112 rfl (z := (7 : Int32)) (by decide) ?_
              refine Own.istore (pc' := 115) (L1 := #[.val (.ref a), .val (.int (0 : Int32)), .val (.long q), .second, .val (.int (7 : Int32)), .val (.int (4 : Int32))]) d_prog_107_method_2_113 rfl rfl ?_
              refine Own.goto (pc' := 77) d_prog_107_method_2_115 (by decide) (by decide) ?_
              refine Own.iload (pc' := 79) d_prog_107_method_2_77 rfl rfl ?_
              refine Own.aloadN (pc' := 80) d_prog_107_method_2_79 rfl rfl rfl ?_
              refine Own.getfield (pc' := 83) d_prog_107_method_2_80 rfl (host := "") (Or.inl (hw _ (List.mem_of_getElem? (i := 10) rfl))) Via.refl F_leaves ?_
              refine Own.icmp_ge (pc' := 118) (pc2 := 86) d_prog_107_method_2_83 (by decide) (by decide) rfl (fun _ => ?_) (fun q => absurd (by decide) q)
              refine Own.iload (pc' := 120) d_prog_107_method_2_118 rfl rfl ?_
              refine Own.aloadN (pc' := 121) d_prog_107_method_2_120 rfl rfl rfl ?_
              refine Own.getfield (pc' := 124) d_prog_107_method_2_121 rfl (host := "") (Or.inl (hw _ (List.mem_of_getElem? (i := 10) rfl))) Via.refl F_leaves ?_
              refine Own.isubE (pc' := 125) d_prog_107_method_2_124 rfl (z := (3 : Int32)) (by decide) ?_
              refine Own.istore (pc' := 127) (L1 := #[.val (.ref a), .val (.int (0 : Int32)), .val (.long q), .second, .val (.int (7 : Int32)), .val (.int (3 : Int32))]) d_prog_107_method_2_125 rfl rfl ?_
              refine Own.iload (pc' := 129) d_prog_107_method_2_127 rfl rfl ?_
              have hq : (3 : Int32) = own_want (4 : Int32) (0 : Int32) q x0 x1 x2 x3 x4 := by unfold own_want; (repeat' split) <;> first | rfl | (exfalso; omega) | omega
              exact Own.ireturnI d_prog_107_method_2_129 rfl (⟨rfl, _, rfl, hq⟩) (by decide) (by decide)
            · refine Own.iconst (pc' := 101) (v := (2 : Int32)) d_prog_107_method_2_100 (by decide) rfl ?_
              refine Own.iload (pc' := 103) d_prog_107_method_2_101 rfl rfl ?_
              refine Own.imulE (pc' := 104) d_prog_107_method_2_103 rfl (z := (6 : Int32)) (by decide) ?_
              refine Own.goto (pc' := 113) d_prog_107_method_2_104 (by decide) (by decide) ?_
              refine Own.istore (pc' := 115) (L1 := #[.val (.ref a), .val (.int (0 : Int32)), .val (.long q), .second, .val (.int (6 : Int32)), .val (.int (4 : Int32))]) d_prog_107_method_2_113 rfl rfl ?_
              refine Own.goto (pc' := 77) d_prog_107_method_2_115 (by decide) (by decide) ?_
              refine Own.iload (pc' := 79) d_prog_107_method_2_77 rfl rfl ?_
              refine Own.aloadN (pc' := 80) d_prog_107_method_2_79 rfl rfl rfl ?_
              refine Own.getfield (pc' := 83) d_prog_107_method_2_80 rfl (host := "") (Or.inl (hw _ (List.mem_of_getElem? (i := 10) rfl))) Via.refl F_leaves ?_
              refine Own.icmp_ge (pc' := 118) (pc2 := 86) d_prog_107_method_2_83 (by decide) (by decide) rfl (fun _ => ?_) (fun q => absurd (by decide) q)
              refine Own.iload (pc' := 120) d_prog_107_method_2_118 rfl rfl ?_
              refine Own.aloadN (pc' := 121) d_prog_107_method_2_120 rfl rfl rfl ?_
              refine Own.getfield (pc' := 124) d_prog_107_method_2_121 rfl (host := "") (Or.inl (hw _ (List.mem_of_getElem? (i := 10) rfl))) Via.refl F_leaves ?_
              refine Own.isubE (pc' := 125) d_prog_107_method_2_124 rfl (z := (2 : Int32)) (by decide) ?_
              refine Own.istore (pc' := 127) (L1 := #[.val (.ref a), .val (.int (0 : Int32)), .val (.long q), .second, .val (.int (6 : Int32)), .val (.int (2 : Int32))]) d_prog_107_method_2_125 rfl rfl ?_
              refine Own.iload (pc' := 129) d_prog_107_method_2_127 rfl rfl ?_
              have hq : (2 : Int32) = own_want (4 : Int32) (0 : Int32) q x0 x1 x2 x3 x4 := by unfold own_want; (repeat' split) <;> first | rfl | (exfalso; omega) | omega
              exact Own.ireturnI d_prog_107_method_2_129 rfl (⟨rfl, _, rfl, hq⟩) (by decide) (by decide)
          · refine Own.iload (pc' := 40) d_prog_107_method_2_38 rfl rfl ?_
            refine Own.iconst (pc' := 41) (v := (2 : Int32)) d_prog_107_method_2_40 (by decide) rfl ?_
            refine Own.iremE (pc' := 42) d_prog_107_method_2_41 (by decide) rfl (z := (1 : Int32)) (by decide) ?_
            refine Own.iconst (pc' := 43) (v := (1 : Int32)) d_prog_107_method_2_42 (by decide) rfl ?_
            refine Own.icmp_ne (pc' := 55) (pc2 := 46) d_prog_107_method_2_43 (by decide) (by decide) rfl (fun q => absurd q (by decide)) (fun _ => ?_)
            refine Own.iload (pc' := 48) d_prog_107_method_2_46 rfl rfl ?_
            refine Own.iconst (pc' := 49) (v := (2 : Int32)) d_prog_107_method_2_48 (by decide) rfl ?_
            refine Own.idivE (pc' := 50) d_prog_107_method_2_49 (by decide) rfl (z := (1 : Int32)) (by decide) ?_
            refine Own.istore (pc' := 52) (L1 := #[.val (.ref a), .val (.int (0 : Int32)), .val (.long q), .second, .val (.int (1 : Int32)), .unset]) d_prog_107_method_2_50 rfl rfl ?_
            refine Own.goto (pc' := 38) d_prog_107_method_2_52 (by decide) (by decide) ?_
            refine Own.iload (pc' := 40) d_prog_107_method_2_38 rfl rfl ?_
            refine Own.iconst (pc' := 41) (v := (2 : Int32)) d_prog_107_method_2_40 (by decide) rfl ?_
            refine Own.iremE (pc' := 42) d_prog_107_method_2_41 (by decide) rfl (z := (1 : Int32)) (by decide) ?_
            refine Own.iconst (pc' := 43) (v := (1 : Int32)) d_prog_107_method_2_42 (by decide) rfl ?_
            refine Own.icmp_ne (pc' := 55) (pc2 := 46) d_prog_107_method_2_43 (by decide) (by decide) rfl (fun q => absurd q (by decide)) (fun _ => ?_)
            refine Own.iload (pc' := 48) d_prog_107_method_2_46 rfl rfl ?_
            refine Own.iconst (pc' := 49) (v := (2 : Int32)) d_prog_107_method_2_48 (by decide) rfl ?_
            refine Own.idivE (pc' := 50) d_prog_107_method_2_49 (by decide) rfl (z := (0 : Int32)) (by decide) ?_
            refine Own.istore (pc' := 52) (L1 := #[.val (.ref a), .val (.int (0 : Int32)), .val (.long q), .second, .val (.int (0 : Int32)), .unset]) d_prog_107_method_2_50 rfl rfl ?_
            refine Own.goto (pc' := 38) d_prog_107_method_2_52 (by decide) (by decide) ?_
            refine Own.iload (pc' := 40) d_prog_107_method_2_38 rfl rfl ?_
            refine Own.iconst (pc' := 41) (v := (2 : Int32)) d_prog_107_method_2_40 (by decide) rfl ?_
            refine Own.iremE (pc' := 42) d_prog_107_method_2_41 (by decide) rfl (z := (0 : Int32)) (by decide) ?_
            refine Own.iconst (pc' := 43) (v := (1 : Int32)) d_prog_107_method_2_42 (by decide) rfl ?_
            refine Own.icmp_ne (pc' := 55) (pc2 := 46) d_prog_107_method_2_43 (by decide) (by decide) rfl (fun _ => ?_) (fun q => absurd (by decide) q)
            refine Own.iload (pc' := 57) d_prog_107_method_2_55 rfl rfl ?_
            refine Own.if_le (pc' := 21) (pc2 := 60) d_prog_107_method_2_57 (by decide) (by decide) rfl (fun _ => ?_) (fun q => absurd (by decide) q)
            refine Own.iload (pc' := 23) d_prog_107_method_2_21 rfl rfl ?_
            refine Own.if_le (pc' := 66) (pc2 := 26) d_prog_107_method_2_23 (by decide) (by decide) rfl (fun _ => ?_) (fun q => absurd (by decide) q)
            refine Own.aloadN (pc' := 67) d_prog_107_method_2_66 rfl rfl rfl ?_
            refine Own.getfield (pc' := 70) d_prog_107_method_2_67 rfl (host := "") (Or.inl (hw _ (List.mem_of_getElem? (i := 12) rfl))) Via.refl F_count ?_
            refine Own.istore (pc' := 72) (L1 := #[.val (.ref a), .val (.int (0 : Int32)), .val (.long q), .second, .val (.int (0 : Int32)), .val (.int (4 : Int32))]) d_prog_107_method_2_70 rfl rfl ?_
            refine Own.iload (pc' := 74) d_prog_107_method_2_72 rfl rfl ?_
            refine Own.if_le (pc' := 127) (pc2 := 77) d_prog_107_method_2_74 (by decide) (by decide) rfl (fun _ => ?_) (fun q => absurd (by decide) q)
            refine Own.iload (pc' := 129) d_prog_107_method_2_127 rfl rfl ?_
            have hq : (4 : Int32) = own_want (4 : Int32) (0 : Int32) q x0 x1 x2 x3 x4 := by unfold own_want; (repeat' split) <;> first | rfl | (exfalso; omega) | omega
            exact Own.ireturnI d_prog_107_method_2_129 rfl (⟨rfl, _, rfl, hq⟩) (by decide) (by decide)
    · refine Own.aloadN (pc' := 14) d_prog_107_method_2_13 rfl rfl rfl ?_
      refine Own.getfield (pc' := 17) d_prog_107_method_2_14 rfl (host := "") (Or.inl (hw _ (List.mem_of_getElem? (i := 10) rfl))) Via.refl F_leaves ?_
      refine Own.iloadN (pc' := 18) d_prog_107_method_2_17 rfl rfl ?_
      refine Own.iaddE (pc' := 19) d_prog_107_method_2_18 rfl (z := (5 : Int32)) (by decide) ?_
      refine Own.istore (pc' := 21) (L1 := #[.val (.ref a), .val (.int (1 : Int32)), .val (.long q), .second, .val (.int (5 : Int32)), .unset]) d_prog_107_method_2_19 rfl rfl ?_
      refine Own.iload (pc' := 23) d_prog_107_method_2_21 rfl rfl ?_
      refine Own.if_le (pc' := 66) (pc2 := 26) d_prog_107_method_2_23 (by decide) (by decide) rfl (fun q => absurd q (by decide)) (fun _ => ?_)
      refine Own.aloadN (pc' := 27) d_prog_107_method_2_26 rfl rfl rfl ?_
      refine Own.getfield (pc' := 30) d_prog_107_method_2_27 rfl (host := "") (Or.inl (hw _ (List.mem_of_getElem? (i := 14) rfl))) Via.refl F_nodes ?_
      refine Own.iload (pc' := 32) d_prog_107_method_2_30 rfl rfl ?_
      refine Own.laload (pc' := 33) (i := 5) d_prog_107_method_2_32 rfl A (by decide) (by decide) ?_
      rw [own_nd4_5]
      show Go K _ _ _ _ _ _ _ _ _ 0 0 h 33 #[.val (.ref a), .val (.int (1 : Int32)), .val (.long q), .second, .val (.int (5 : Int32)), .unset] [(.long x1)]
      refine Own.lloadN (pc' := 34) d_prog_107_method_2_33 rfl rfl ?_
      refine Own.lcmp_ge (pc1 := 35) (pc' := 66) (pc2 := 38) d_prog_107_method_2_34 rfl d_prog_107_method_2_35 (by decide) (by decide) rfl (fun c34_675 => ?_) (fun c34_675 => ?_)
      · refine Own.aloadN (pc' := 67) d_prog_107_method_2_66 rfl rfl rfl ?_
        refine Own.getfield (pc' := 70) d_prog_107_method_2_67 rfl (host := "") (Or.inl (hw _ (List.mem_of_getElem? (i := 12) rfl))) Via.refl F_count ?_
        refine Own.istore (pc' := 72) (L1 := #[.val (.ref a), .val (.int (1 : Int32)), .val (.long q), .second, .val (.int (5 : Int32)), .val (.int (4 : Int32))]) d_prog_107_method_2_70 rfl rfl ?_
        refine Own.iload (pc' := 74) d_prog_107_method_2_72 rfl rfl ?_
        refine Own.if_le (pc' := 127) (pc2 := 77) d_prog_107_method_2_74 (by decide) (by decide) rfl (fun q => absurd q (by decide)) (fun _ => ?_)
        refine Own.iload (pc' := 79) d_prog_107_method_2_77 rfl rfl ?_
        refine Own.aloadN (pc' := 80) d_prog_107_method_2_79 rfl rfl rfl ?_
        refine Own.getfield (pc' := 83) d_prog_107_method_2_80 rfl (host := "") (Or.inl (hw _ (List.mem_of_getElem? (i := 10) rfl))) Via.refl F_leaves ?_
        refine Own.icmp_ge (pc' := 118) (pc2 := 86) d_prog_107_method_2_83 (by decide) (by decide) rfl (fun _ => ?_) (fun q => absurd (by decide) q)
        refine Own.iload (pc' := 120) d_prog_107_method_2_118 rfl rfl ?_
        refine Own.aloadN (pc' := 121) d_prog_107_method_2_120 rfl rfl rfl ?_
        refine Own.getfield (pc' := 124) d_prog_107_method_2_121 rfl (host := "") (Or.inl (hw _ (List.mem_of_getElem? (i := 10) rfl))) Via.refl F_leaves ?_
        refine Own.isubE (pc' := 125) d_prog_107_method_2_124 rfl (z := (1 : Int32)) (by decide) ?_
        refine Own.istore (pc' := 127) (L1 := #[.val (.ref a), .val (.int (1 : Int32)), .val (.long q), .second, .val (.int (5 : Int32)), .val (.int (1 : Int32))]) d_prog_107_method_2_125 rfl rfl ?_
        refine Own.iload (pc' := 129) d_prog_107_method_2_127 rfl rfl ?_
        have hq : (1 : Int32) = own_want (4 : Int32) (1 : Int32) q x0 x1 x2 x3 x4 := by unfold own_want; (repeat' split) <;> first | rfl | (exfalso; omega) | omega
        exact Own.ireturnI d_prog_107_method_2_129 rfl (⟨rfl, _, rfl, hq⟩) (by decide) (by decide)
      · refine Own.iload (pc' := 40) d_prog_107_method_2_38 rfl rfl ?_
        refine Own.iconst (pc' := 41) (v := (2 : Int32)) d_prog_107_method_2_40 (by decide) rfl ?_
        refine Own.iremE (pc' := 42) d_prog_107_method_2_41 (by decide) rfl (z := (1 : Int32)) (by decide) ?_
        refine Own.iconst (pc' := 43) (v := (1 : Int32)) d_prog_107_method_2_42 (by decide) rfl ?_
        refine Own.icmp_ne (pc' := 55) (pc2 := 46) d_prog_107_method_2_43 (by decide) (by decide) rfl (fun q => absurd q (by decide)) (fun _ => ?_)
        refine Own.iload (pc' := 48) d_prog_107_method_2_46 rfl rfl ?_
        refine Own.iconst (pc' := 49) (v := (2 : Int32)) d_prog_107_method_2_48 (by decide) rfl ?_
        refine Own.idivE (pc' := 50) d_prog_107_method_2_49 (by decide) rfl (z := (2 : Int32)) (by decide) ?_
        refine Own.istore (pc' := 52) (L1 := #[.val (.ref a), .val (.int (1 : Int32)), .val (.long q), .second, .val (.int (2 : Int32)), .unset]) d_prog_107_method_2_50 rfl rfl ?_
        refine Own.goto (pc' := 38) d_prog_107_method_2_52 (by decide) (by decide) ?_
        refine Own.iload (pc' := 40) d_prog_107_method_2_38 rfl rfl ?_
        refine Own.iconst (pc' := 41) (v := (2 : Int32)) d_prog_107_method_2_40 (by decide) rfl ?_
        refine Own.iremE (pc' := 42) d_prog_107_method_2_41 (by decide) rfl (z := (0 : Int32)) (by decide) ?_
        refine Own.iconst (pc' := 43) (v := (1 : Int32)) d_prog_107_method_2_42 (by decide) rfl ?_
        refine Own.icmp_ne (pc' := 55) (pc2 := 46) d_prog_107_method_2_43 (by decide) (by decide) rfl (fun _ => ?_) (fun q => absurd (by decide) q)
        refine Own.iload (pc' := 57) d_prog_107_method_2_55 rfl rfl ?_
        refine Own.if_le (pc' := 21) (pc2 := 60) d_prog_107_method_2_57 (by decide) (by decide) rfl (fun q => absurd q (by decide)) (fun _ => ?_)
        refine Own.iincE (pc' := 63) (L1 := fun zz => #[.val (.ref a), .val (.int (1 : Int32)), .val (.long q), .second, .val (.int zz), .unset]) d_prog_107_method_2_60 rfl (fun _ => rfl) rfl (z := (3 : Int32)) (by decide) ?_
        show Go K _ _ _ _ _ _ _ _ _ 0 0 h 63 #[.val (.ref a), .val (.int (1 : Int32)), .val (.long q), .second, .val (.int (3 : Int32)), .unset] []
        refine Own.goto (pc' := 21) d_prog_107_method_2_63 (by decide) (by decide) ?_
        refine Own.iload (pc' := 23) d_prog_107_method_2_21 rfl rfl ?_
        refine Own.if_le (pc' := 66) (pc2 := 26) d_prog_107_method_2_23 (by decide) (by decide) rfl (fun q => absurd q (by decide)) (fun _ => ?_)
        refine Own.aloadN (pc' := 27) d_prog_107_method_2_26 rfl rfl rfl ?_
        refine Own.getfield (pc' := 30) d_prog_107_method_2_27 rfl (host := "") (Or.inl (hw _ (List.mem_of_getElem? (i := 14) rfl))) Via.refl F_nodes ?_
        refine Own.iload (pc' := 32) d_prog_107_method_2_30 rfl rfl ?_
        refine Own.laload (pc' := 33) (i := 3) d_prog_107_method_2_32 rfl A (by decide) (by decide) ?_
        rw [own_nd4_3]
        show Go K _ _ _ _ _ _ _ _ _ 0 0 h 33 #[.val (.ref a), .val (.int (1 : Int32)), .val (.long q), .second, .val (.int (3 : Int32)), .unset] [(.long (own_max x2 x3))]
        refine Own.lloadN (pc' := 34) d_prog_107_method_2_33 rfl rfl ?_
        refine Own.lcmp_ge (pc1 := 35) (pc' := 66) (pc2 := 38) d_prog_107_method_2_34 rfl d_prog_107_method_2_35 (by decide) (by decide) rfl (fun c34_687 => ?_) (fun c34_687 => ?_)
        · refine Own.aloadN (pc' := 67) d_prog_107_method_2_66 rfl rfl rfl ?_
          refine Own.getfield (pc' := 70) d_prog_107_method_2_67 rfl (host := "") (Or.inl (hw _ (List.mem_of_getElem? (i := 12) rfl))) Via.refl F_count ?_
          refine Own.istore (pc' := 72) (L1 := #[.val (.ref a), .val (.int (1 : Int32)), .val (.long q), .second, .val (.int (3 : Int32)), .val (.int (4 : Int32))]) d_prog_107_method_2_70 rfl rfl ?_
          refine Own.iload (pc' := 74) d_prog_107_method_2_72 rfl rfl ?_
          refine Own.if_le (pc' := 127) (pc2 := 77) d_prog_107_method_2_74 (by decide) (by decide) rfl (fun q => absurd q (by decide)) (fun _ => ?_)
          refine Own.iload (pc' := 79) d_prog_107_method_2_77 rfl rfl ?_
          refine Own.aloadN (pc' := 80) d_prog_107_method_2_79 rfl rfl rfl ?_
          refine Own.getfield (pc' := 83) d_prog_107_method_2_80 rfl (host := "") (Or.inl (hw _ (List.mem_of_getElem? (i := 10) rfl))) Via.refl F_leaves ?_
          refine Own.icmp_ge (pc' := 118) (pc2 := 86) d_prog_107_method_2_83 (by decide) (by decide) rfl (fun q => absurd q (by decide)) (fun _ => ?_)
          refine Own.aloadN (pc' := 87) d_prog_107_method_2_86 rfl rfl rfl ?_
          refine Own.getfield (pc' := 90) d_prog_107_method_2_87 rfl (host := "") (Or.inl (hw _ (List.mem_of_getElem? (i := 14) rfl))) Via.refl F_nodes ?_
          refine Own.iconst (pc' := 91) (v := (2 : Int32)) d_prog_107_method_2_90 (by decide) rfl ?_
          refine Own.iload (pc' := 93) d_prog_107_method_2_91 rfl rfl ?_
          refine Own.imulE (pc' := 94) d_prog_107_method_2_93 rfl (z := (6 : Int32)) (by decide) ?_
          refine Own.laload (pc' := 95) (i := 6) d_prog_107_method_2_94 rfl A (by decide) (by decide) ?_
          rw [own_nd4_6]
          show Go K _ _ _ _ _ _ _ _ _ 0 0 h 95 #[.val (.ref a), .val (.int (1 : Int32)), .val (.long q), .second, .val (.int (3 : Int32)), .val (.int (4 : Int32))] [(.long x2)]
          refine Own.lloadN (pc' := 96) d_prog_107_method_2_95 rfl rfl ?_
          refine Own.lcmp_lt (pc1 := 97) (pc' := 107) (pc2 := 100) d_prog_107_method_2_96 rfl d_prog_107_method_2_97 (by decide) (by decide) rfl (fun c96_691 => ?_) (fun c96_691 => ?_)
          · refine Own.iconst (pc' := 108) (v := (2 : Int32)) d_prog_107_method_2_107 (by decide) rfl ?_
            refine Own.iload (pc' := 110) d_prog_107_method_2_108 rfl rfl ?_
            refine Own.imulE (pc' := 111) d_prog_107_method_2_110 rfl (z := (6 : Int32)) (by decide) ?_
            refine Own.iconst (pc' := 112) (v := (1 : Int32)) d_prog_107_method_2_111 (by decide) rfl ?_
            refine Own.iaddE (pc' := 113) d_prog_107_method_2_112 rfl (z := (7 : Int32)) (by decide) ?_
            refine Own.istore (pc' := 115) (L1 := #[.val (.ref a), .val (.int (1 : Int32)), .val (.long q), .second, .val (.int (7 : Int32)), .val (.int (4 : Int32))]) d_prog_107_method_2_113 rfl rfl ?_
            refine Own.goto (pc' := 77) d_prog_107_method_2_115 (by decide) (by decide) ?_
            refine Own.iload (pc' := 79) d_prog_107_method_2_77 rfl rfl ?_
            refine Own.aloadN (pc' := 80) d_prog_107_method_2_79 rfl rfl rfl ?_
            refine Own.getfield (pc' := 83) d_prog_107_method_2_80 rfl (host := "") (Or.inl (hw _ (List.mem_of_getElem? (i := 10) rfl))) Via.refl F_leaves ?_
            refine Own.icmp_ge (pc' := 118) (pc2 := 86) d_prog_107_method_2_83 (by decide) (by decide) rfl (fun _ => ?_) (fun q => absurd (by decide) q)
            refine Own.iload (pc' := 120) d_prog_107_method_2_118 rfl rfl ?_
            refine Own.aloadN (pc' := 121) d_prog_107_method_2_120 rfl rfl rfl ?_
            refine Own.getfield (pc' := 124) d_prog_107_method_2_121 rfl (host := "") (Or.inl (hw _ (List.mem_of_getElem? (i := 10) rfl))) Via.refl F_leaves ?_
            refine Own.isubE (pc' := 125) d_prog_107_method_2_124 rfl (z := (3 : Int32)) (by decide) ?_
            refine Own.istore (pc' := 127) (L1 := #[.val (.ref a), .val (.int (1 : Int32)), .val (.long q), .second, .val (.int (7 : Int32)), .val (.int (3 : Int32))]) d_prog_107_method_2_125 rfl rfl ?_
            refine Own.iload (pc' := 129) d_prog_107_method_2_127 rfl rfl ?_
            have hq : (3 : Int32) = own_want (4 : Int32) (1 : Int32) q x0 x1 x2 x3 x4 := by unfold own_want; (repeat' split) <;> first | rfl | (exfalso; omega) | omega
            exact Own.ireturnI d_prog_107_method_2_129 rfl (⟨rfl, _, rfl, hq⟩) (by decide) (by decide)
          · refine Own.iconst (pc' := 101) (v := (2 : Int32)) d_prog_107_method_2_100 (by decide) rfl ?_
            refine Own.iload (pc' := 103) d_prog_107_method_2_101 rfl rfl ?_
            refine Own.imulE (pc' := 104) d_prog_107_method_2_103 rfl (z := (6 : Int32)) (by decide) ?_
            refine Own.goto (pc' := 113) d_prog_107_method_2_104 (by decide) (by decide) ?_
            refine Own.istore (pc' := 115) (L1 := #[.val (.ref a), .val (.int (1 : Int32)), .val (.long q), .second, .val (.int (6 : Int32)), .val (.int (4 : Int32))]) d_prog_107_method_2_113 rfl rfl ?_
            refine Own.goto (pc' := 77) d_prog_107_method_2_115 (by decide) (by decide) ?_
            refine Own.iload (pc' := 79) d_prog_107_method_2_77 rfl rfl ?_
            refine Own.aloadN (pc' := 80) d_prog_107_method_2_79 rfl rfl rfl ?_
            refine Own.getfield (pc' := 83) d_prog_107_method_2_80 rfl (host := "") (Or.inl (hw _ (List.mem_of_getElem? (i := 10) rfl))) Via.refl F_leaves ?_
            refine Own.icmp_ge (pc' := 118) (pc2 := 86) d_prog_107_method_2_83 (by decide) (by decide) rfl (fun _ => ?_) (fun q => absurd (by decide) q)
            refine Own.iload (pc' := 120) d_prog_107_method_2_118 rfl rfl ?_
            refine Own.aloadN (pc' := 121) d_prog_107_method_2_120 rfl rfl rfl ?_
            refine Own.getfield (pc' := 124) d_prog_107_method_2_121 rfl (host := "") (Or.inl (hw _ (List.mem_of_getElem? (i := 10) rfl))) Via.refl F_leaves ?_
            refine Own.isubE (pc' := 125) d_prog_107_method_2_124 rfl (z := (2 : Int32)) (by decide) ?_
            refine Own.istore (pc' := 127) (L1 := #[.val (.ref a), .val (.int (1 : Int32)), .val (.long q), .second, .val (.int (6 : Int32)), .val (.int (2 : Int32))]) d_prog_107_method_2_125 rfl rfl ?_
            refine Own.iload (pc' := 129) d_prog_107_method_2_127 rfl rfl ?_
            have hq : (2 : Int32) = own_want (4 : Int32) (1 : Int32) q x0 x1 x2 x3 x4 := by unfold own_want; (repeat' split) <;> first | rfl | (exfalso; omega) | omega
            exact Own.ireturnI d_prog_107_method_2_129 rfl (⟨rfl, _, rfl, hq⟩) (by decide) (by decide)
        · refine Own.iload (pc' := 40) d_prog_107_method_2_38 rfl rfl ?_
          refine Own.iconst (pc' := 41) (v := (2 : Int32)) d_prog_107_method_2_40 (by decide) rfl ?_
          refine Own.iremE (pc' := 42) d_prog_107_method_2_41 (by decide) rfl (z := (1 : Int32)) (by decide) ?_
          refine Own.iconst (pc' := 43) (v := (1 : Int32)) d_prog_107_method_2_42 (by decide) rfl ?_
          refine Own.icmp_ne (pc' := 55) (pc2 := 46) d_prog_107_method_2_43 (by decide) (by decide) rfl (fun q => absurd q (by decide)) (fun _ => ?_)
          refine Own.iload (pc' := 48) d_prog_107_method_2_46 rfl rfl ?_
          refine Own.iconst (pc' := 49) (v := (2 : Int32)) d_prog_107_method_2_48 (by decide) rfl ?_
          refine Own.idivE (pc' := 50) d_prog_107_method_2_49 (by decide) rfl (z := (1 : Int32)) (by decide) ?_
          refine Own.istore (pc' := 52) (L1 := #[.val (.ref a), .val (.int (1 : Int32)), .val (.long q), .second, .val (.int (1 : Int32)), .unset]) d_prog_107_method_2_50 rfl rfl ?_
          refine Own.goto (pc' := 38) d_prog_107_method_2_52 (by decide) (by decide) ?_
          refine Own.iload (pc' := 40) d_prog_107_method_2_38 rfl rfl ?_
          refine Own.iconst (pc' := 41) (v := (2 : Int32)) d_prog_107_method_2_40 (by decide) rfl ?_
          refine Own.iremE (pc' := 42) d_prog_107_method_2_41 (by decide) rfl (z := (1 : Int32)) (by decide) ?_
          refine Own.iconst (pc' := 43) (v := (1 : Int32)) d_prog_107_method_2_42 (by decide) rfl ?_
          refine Own.icmp_ne (pc' := 55) (pc2 := 46) d_prog_107_method_2_43 (by decide) (by decide) rfl (fun q => absurd q (by decide)) (fun _ => ?_)
          refine Own.iload (pc' := 48) d_prog_107_method_2_46 rfl rfl ?_
          refine Own.iconst (pc' := 49) (v := (2 : Int32)) d_prog_107_method_2_48 (by decide) rfl ?_
          refine Own.idivE (pc' := 50) d_prog_107_method_2_49 (by decide) rfl (z := (0 : Int32)) (by decide) ?_
          refine Own.istore (pc' := 52) (L1 := #[.val (.ref a), .val (.int (1 : Int32)), .val (.long q), .second, .val (.int (0 : Int32)), .unset]) d_prog_107_method_2_50 rfl rfl ?_
          refine Own.goto (pc' := 38) d_prog_107_method_2_52 (by decide) (by decide) ?_
          refine Own.iload (pc' := 40) d_prog_107_method_2_38 rfl rfl ?_
          refine Own.iconst (pc' := 41) (v := (2 : Int32)) d_prog_107_method_2_40 (by decide) rfl ?_
          refine Own.iremE (pc' := 42) d_prog_107_method_2_41 (by decide) rfl (z := (0 : Int32)) (by decide) ?_
          refine Own.iconst (pc' := 43) (v := (1 : Int32)) d_prog_107_method_2_42 (by decide) rfl ?_
          refine Own.icmp_ne (pc' := 55) (pc2 := 46) d_prog_107_method_2_43 (by decide) (by decide) rfl (fun _ => ?_) (fun q => absurd (by decide) q)
          refine Own.iload (pc' := 57) d_prog_107_method_2_55 rfl rfl ?_
          refine Own.if_le (pc' := 21) (pc2 := 60) d_prog_107_method_2_57 (by decide) (by decide) rfl (fun _ => ?_) (fun q => absurd (by decide) q)
          refine Own.iload (pc' := 23) d_prog_107_method_2_21 rfl rfl ?_
          refine Own.if_le (pc' := 66) (pc2 := 26) d_prog_107_method_2_23 (by decide) (by decide) rfl (fun _ => ?_) (fun q => absurd (by decide) q)
          refine Own.aloadN (pc' := 67) d_prog_107_method_2_66 rfl rfl rfl ?_
          refine Own.getfield (pc' := 70) d_prog_107_method_2_67 rfl (host := "") (Or.inl (hw _ (List.mem_of_getElem? (i := 12) rfl))) Via.refl F_count ?_
          refine Own.istore (pc' := 72) (L1 := #[.val (.ref a), .val (.int (1 : Int32)), .val (.long q), .second, .val (.int (0 : Int32)), .val (.int (4 : Int32))]) d_prog_107_method_2_70 rfl rfl ?_
          refine Own.iload (pc' := 74) d_prog_107_method_2_72 rfl rfl ?_
          refine Own.if_le (pc' := 127) (pc2 := 77) d_prog_107_method_2_74 (by decide) (by decide) rfl (fun _ => ?_) (fun q => absurd (by decide) q)
          refine Own.iload (pc' := 129) d_prog_107_method_2_127 rfl rfl ?_
          have hq : (4 : Int32) = own_want (4 : Int32) (1 : Int32) q x0 x1 x2 x3 x4 := by unfold own_want; (repeat' split) <;> first | rfl | (exfalso; omega) | omega
          exact Own.ireturnI d_prog_107_method_2_129 rfl (⟨rfl, _, rfl, hq⟩) (by decide) (by decide)
    · refine Own.aloadN (pc' := 14) d_prog_107_method_2_13 rfl rfl rfl ?_
      refine Own.getfield (pc' := 17) d_prog_107_method_2_14 rfl (host := "") (Or.inl (hw _ (List.mem_of_getElem? (i := 10) rfl))) Via.refl F_leaves ?_
      refine Own.iloadN (pc' := 18) d_prog_107_method_2_17 rfl rfl ?_
      refine Own.iaddE (pc' := 19) d_prog_107_method_2_18 rfl (z := (6 : Int32)) (by decide) ?_
      refine Own.istore (pc' := 21) (L1 := #[.val (.ref a), .val (.int (2 : Int32)), .val (.long q), .second, .val (.int (6 : Int32)), .unset]) d_prog_107_method_2_19 rfl rfl ?_
      refine Own.iload (pc' := 23) d_prog_107_method_2_21 rfl rfl ?_
      refine Own.if_le (pc' := 66) (pc2 := 26) d_prog_107_method_2_23 (by decide) (by decide) rfl (fun q => absurd q (by decide)) (fun _ => ?_)
      refine Own.aloadN (pc' := 27) d_prog_107_method_2_26 rfl rfl rfl ?_
      refine Own.getfield (pc' := 30) d_prog_107_method_2_27 rfl (host := "") (Or.inl (hw _ (List.mem_of_getElem? (i := 14) rfl))) Via.refl F_nodes ?_
      refine Own.iload (pc' := 32) d_prog_107_method_2_30 rfl rfl ?_
      refine Own.laload (pc' := 33) (i := 6) d_prog_107_method_2_32 rfl A (by decide) (by decide) ?_
      rw [own_nd4_6]
      show Go K _ _ _ _ _ _ _ _ _ 0 0 h 33 #[.val (.ref a), .val (.int (2 : Int32)), .val (.long q), .second, .val (.int (6 : Int32)), .unset] [(.long x2)]
      refine Own.lloadN (pc' := 34) d_prog_107_method_2_33 rfl rfl ?_
      refine Own.lcmp_ge (pc1 := 35) (pc' := 66) (pc2 := 38) d_prog_107_method_2_34 rfl d_prog_107_method_2_35 (by decide) (by decide) rfl (fun c34_712 => ?_) (fun c34_712 => ?_)
      · refine Own.aloadN (pc' := 67) d_prog_107_method_2_66 rfl rfl rfl ?_
        refine Own.getfield (pc' := 70) d_prog_107_method_2_67 rfl (host := "") (Or.inl (hw _ (List.mem_of_getElem? (i := 12) rfl))) Via.refl F_count ?_
        refine Own.istore (pc' := 72) (L1 := #[.val (.ref a), .val (.int (2 : Int32)), .val (.long q), .second, .val (.int (6 : Int32)), .val (.int (4 : Int32))]) d_prog_107_method_2_70 rfl rfl ?_
        refine Own.iload (pc' := 74) d_prog_107_method_2_72 rfl rfl ?_
        refine Own.if_le (pc' := 127) (pc2 := 77) d_prog_107_method_2_74 (by decide) (by decide) rfl (fun q => absurd q (by decide)) (fun _ => ?_)
        refine Own.iload (pc' := 79) d_prog_107_method_2_77 rfl rfl ?_
        refine Own.aloadN (pc' := 80) d_prog_107_method_2_79 rfl rfl rfl ?_
        refine Own.getfield (pc' := 83) d_prog_107_method_2_80 rfl (host := "") (Or.inl (hw _ (List.mem_of_getElem? (i := 10) rfl))) Via.refl F_leaves ?_
        refine Own.icmp_ge (pc' := 118) (pc2 := 86) d_prog_107_method_2_83 (by decide) (by decide) rfl (fun _ => ?_) (fun q => absurd (by decide) q)
        refine Own.iload (pc' := 120) d_prog_107_method_2_118 rfl rfl ?_
        refine Own.aloadN (pc' := 121) d_prog_107_method_2_120 rfl rfl rfl ?_
        refine Own.getfield (pc' := 124) d_prog_107_method_2_121 rfl (host := "") (Or.inl (hw _ (List.mem_of_getElem? (i := 10) rfl))) Via.refl F_leaves ?_
        refine Own.isubE (pc' := 125) d_prog_107_method_2_124 rfl (z := (2 : Int32)) (by decide) ?_
        refine Own.istore (pc' := 127) (L1 := #[.val (.ref a), .val (.int (2 : Int32)), .val (.long q), .second, .val (.int (6 : Int32)), .val (.int (2 : Int32))]) d_prog_107_method_2_125 rfl rfl ?_
        refine Own.iload (pc' := 129) d_prog_107_method_2_127 rfl rfl ?_
        have hq : (2 : Int32) = own_want (4 : Int32) (2 : Int32) q x0 x1 x2 x3 x4 := by unfold own_want; (repeat' split) <;> first | rfl | (exfalso; omega) | omega
        exact Own.ireturnI d_prog_107_method_2_129 rfl (⟨rfl, _, rfl, hq⟩) (by decide) (by decide)
      · refine Own.iload (pc' := 40) d_prog_107_method_2_38 rfl rfl ?_
        refine Own.iconst (pc' := 41) (v := (2 : Int32)) d_prog_107_method_2_40 (by decide) rfl ?_
        refine Own.iremE (pc' := 42) d_prog_107_method_2_41 (by decide) rfl (z := (0 : Int32)) (by decide) ?_
        refine Own.iconst (pc' := 43) (v := (1 : Int32)) d_prog_107_method_2_42 (by decide) rfl ?_
        refine Own.icmp_ne (pc' := 55) (pc2 := 46) d_prog_107_method_2_43 (by decide) (by decide) rfl (fun _ => ?_) (fun q => absurd (by decide) q)
        refine Own.iload (pc' := 57) d_prog_107_method_2_55 rfl rfl ?_
        refine Own.if_le (pc' := 21) (pc2 := 60) d_prog_107_method_2_57 (by decide) (by decide) rfl (fun q => absurd q (by decide)) (fun _ => ?_)
        refine Own.iincE (pc' := 63) (L1 := fun zz => #[.val (.ref a), .val (.int (2 : Int32)), .val (.long q), .second, .val (.int zz), .unset]) d_prog_107_method_2_60 rfl (fun _ => rfl) rfl (z := (7 : Int32)) (by decide) ?_
        show Go K _ _ _ _ _ _ _ _ _ 0 0 h 63 #[.val (.ref a), .val (.int (2 : Int32)), .val (.long q), .second, .val (.int (7 : Int32)), .unset] []
        refine Own.goto (pc' := 21) d_prog_107_method_2_63 (by decide) (by decide) ?_
        refine Own.iload (pc' := 23) d_prog_107_method_2_21 rfl rfl ?_
        refine Own.if_le (pc' := 66) (pc2 := 26) d_prog_107_method_2_23 (by decide) (by decide) rfl (fun q => absurd q (by decide)) (fun _ => ?_)
        refine Own.aloadN (pc' := 27) d_prog_107_method_2_26 rfl rfl rfl ?_
        refine Own.getfield (pc' := 30) d_prog_107_method_2_27 rfl (host := "") (Or.inl (hw _ (List.mem_of_getElem? (i := 14) rfl))) Via.refl F_nodes ?_
        refine Own.iload (pc' := 32) d_prog_107_method_2_30 rfl rfl ?_
        refine Own.laload (pc' := 33) (i := 7) d_prog_107_method_2_32 rfl A (by decide) (by decide) ?_
        rw [own_nd4_7]
        show Go K _ _ _ _ _ _ _ _ _ 0 0 h 33 #[.val (.ref a), .val (.int (2 : Int32)), .val (.long q), .second, .val (.int (7 : Int32)), .unset] [(.long x3)]
        refine Own.lloadN (pc' := 34) d_prog_107_method_2_33 rfl rfl ?_
        refine Own.lcmp_ge (pc1 := 35) (pc' := 66) (pc2 := 38) d_prog_107_method_2_34 rfl d_prog_107_method_2_35 (by decide) (by decide) rfl (fun c34_721 => ?_) (fun c34_721 => ?_)
        · refine Own.aloadN (pc' := 67) d_prog_107_method_2_66 rfl rfl rfl ?_
          refine Own.getfield (pc' := 70) d_prog_107_method_2_67 rfl (host := "") (Or.inl (hw _ (List.mem_of_getElem? (i := 12) rfl))) Via.refl F_count ?_
          refine Own.istore (pc' := 72) (L1 := #[.val (.ref a), .val (.int (2 : Int32)), .val (.long q), .second, .val (.int (7 : Int32)), .val (.int (4 : Int32))]) d_prog_107_method_2_70 rfl rfl ?_
          refine Own.iload (pc' := 74) d_prog_107_method_2_72 rfl rfl ?_
          refine Own.if_le (pc' := 127) (pc2 := 77) d_prog_107_method_2_74 (by decide) (by decide) rfl (fun q => absurd q (by decide)) (fun _ => ?_)
          refine Own.iload (pc' := 79) d_prog_107_method_2_77 rfl rfl ?_
          refine Own.aloadN (pc' := 80) d_prog_107_method_2_79 rfl rfl rfl ?_
          refine Own.getfield (pc' := 83) d_prog_107_method_2_80 rfl (host := "") (Or.inl (hw _ (List.mem_of_getElem? (i := 10) rfl))) Via.refl F_leaves ?_
          refine Own.icmp_ge (pc' := 118) (pc2 := 86) d_prog_107_method_2_83 (by decide) (by decide) rfl (fun _ => ?_) (fun q => absurd (by decide) q)
          refine Own.iload (pc' := 120) d_prog_107_method_2_118 rfl rfl ?_
          refine Own.aloadN (pc' := 121) d_prog_107_method_2_120 rfl rfl rfl ?_
          refine Own.getfield (pc' := 124) d_prog_107_method_2_121 rfl (host := "") (Or.inl (hw _ (List.mem_of_getElem? (i := 10) rfl))) Via.refl F_leaves ?_
          refine Own.isubE (pc' := 125) d_prog_107_method_2_124 rfl (z := (3 : Int32)) (by decide) ?_
          refine Own.istore (pc' := 127) (L1 := #[.val (.ref a), .val (.int (2 : Int32)), .val (.long q), .second, .val (.int (7 : Int32)), .val (.int (3 : Int32))]) d_prog_107_method_2_125 rfl rfl ?_
          refine Own.iload (pc' := 129) d_prog_107_method_2_127 rfl rfl ?_
          have hq : (3 : Int32) = own_want (4 : Int32) (2 : Int32) q x0 x1 x2 x3 x4 := by unfold own_want; (repeat' split) <;> first | rfl | (exfalso; omega) | omega
          exact Own.ireturnI d_prog_107_method_2_129 rfl (⟨rfl, _, rfl, hq⟩) (by decide) (by decide)
        · refine Own.iload (pc' := 40) d_prog_107_method_2_38 rfl rfl ?_
          refine Own.iconst (pc' := 41) (v := (2 : Int32)) d_prog_107_method_2_40 (by decide) rfl ?_
          refine Own.iremE (pc' := 42) d_prog_107_method_2_41 (by decide) rfl (z := (1 : Int32)) (by decide) ?_
          refine Own.iconst (pc' := 43) (v := (1 : Int32)) d_prog_107_method_2_42 (by decide) rfl ?_
          refine Own.icmp_ne (pc' := 55) (pc2 := 46) d_prog_107_method_2_43 (by decide) (by decide) rfl (fun q => absurd q (by decide)) (fun _ => ?_)
          refine Own.iload (pc' := 48) d_prog_107_method_2_46 rfl rfl ?_
          refine Own.iconst (pc' := 49) (v := (2 : Int32)) d_prog_107_method_2_48 (by decide) rfl ?_
          refine Own.idivE (pc' := 50) d_prog_107_method_2_49 (by decide) rfl (z := (3 : Int32)) (by decide) ?_
          refine Own.istore (pc' := 52) (L1 := #[.val (.ref a), .val (.int (2 : Int32)), .val (.long q), .second, .val (.int (3 : Int32)), .unset]) d_prog_107_method_2_50 rfl rfl ?_
          refine Own.goto (pc' := 38) d_prog_107_method_2_52 (by decide) (by decide) ?_
          refine Own.iload (pc' := 40) d_prog_107_method_2_38 rfl rfl ?_
          refine Own.iconst (pc' := 41) (v := (2 : Int32)) d_prog_107_method_2_40 (by decide) rfl ?_
          refine Own.iremE (pc' := 42) d_prog_107_method_2_41 (by decide) rfl (z := (1 : Int32)) (by decide) ?_
          refine Own.iconst (pc' := 43) (v := (1 : Int32)) d_prog_107_method_2_42 (by decide) rfl ?_
          refine Own.icmp_ne (pc' := 55) (pc2 := 46) d_prog_107_method_2_43 (by decide) (by decide) rfl (fun q => absurd q (by decide)) (fun _ => ?_)
          refine Own.iload (pc' := 48) d_prog_107_method_2_46 rfl rfl ?_
          refine Own.iconst (pc' := 49) (v := (2 : Int32)) d_prog_107_method_2_48 (by decide) rfl ?_
          refine Own.idivE (pc' := 50) d_prog_107_method_2_49 (by decide) rfl (z := (1 : Int32)) (by decide) ?_
          refine Own.istore (pc' := 52) (L1 := #[.val (.ref a), .val (.int (2 : Int32)), .val (.long q), .second, .val (.int (1 : Int32)), .unset]) d_prog_107_method_2_50 rfl rfl ?_
          refine Own.goto (pc' := 38) d_prog_107_method_2_52 (by decide) (by decide) ?_
          refine Own.iload (pc' := 40) d_prog_107_method_2_38 rfl rfl ?_
          refine Own.iconst (pc' := 41) (v := (2 : Int32)) d_prog_107_method_2_40 (by decide) rfl ?_
          refine Own.iremE (pc' := 42) d_prog_107_method_2_41 (by decide) rfl (z := (1 : Int32)) (by decide) ?_
          refine Own.iconst (pc' := 43) (v := (1 : Int32)) d_prog_107_method_2_42 (by decide) rfl ?_
          refine Own.icmp_ne (pc' := 55) (pc2 := 46) d_prog_107_method_2_43 (by decide) (by decide) rfl (fun q => absurd q (by decide)) (fun _ => ?_)
          refine Own.iload (pc' := 48) d_prog_107_method_2_46 rfl rfl ?_
          refine Own.iconst (pc' := 49) (v := (2 : Int32)) d_prog_107_method_2_48 (by decide) rfl ?_
          refine Own.idivE (pc' := 50) d_prog_107_method_2_49 (by decide) rfl (z := (0 : Int32)) (by decide) ?_
          refine Own.istore (pc' := 52) (L1 := #[.val (.ref a), .val (.int (2 : Int32)), .val (.long q), .second, .val (.int (0 : Int32)), .unset]) d_prog_107_method_2_50 rfl rfl ?_
          refine Own.goto (pc' := 38) d_prog_107_method_2_52 (by decide) (by decide) ?_
          refine Own.iload (pc' := 40) d_prog_107_method_2_38 rfl rfl ?_
          refine Own.iconst (pc' := 41) (v := (2 : Int32)) d_prog_107_method_2_40 (by decide) rfl ?_
          refine Own.iremE (pc' := 42) d_prog_107_method_2_41 (by decide) rfl (z := (0 : Int32)) (by decide) ?_
          refine Own.iconst (pc' := 43) (v := (1 : Int32)) d_prog_107_method_2_42 (by decide) rfl ?_
          refine Own.icmp_ne (pc' := 55) (pc2 := 46) d_prog_107_method_2_43 (by decide) (by decide) rfl (fun _ => ?_) (fun q => absurd (by decide) q)
          refine Own.iload (pc' := 57) d_prog_107_method_2_55 rfl rfl ?_
          refine Own.if_le (pc' := 21) (pc2 := 60) d_prog_107_method_2_57 (by decide) (by decide) rfl (fun _ => ?_) (fun q => absurd (by decide) q)
          refine Own.iload (pc' := 23) d_prog_107_method_2_21 rfl rfl ?_
          refine Own.if_le (pc' := 66) (pc2 := 26) d_prog_107_method_2_23 (by decide) (by decide) rfl (fun _ => ?_) (fun q => absurd (by decide) q)
          refine Own.aloadN (pc' := 67) d_prog_107_method_2_66 rfl rfl rfl ?_
          refine Own.getfield (pc' := 70) d_prog_107_method_2_67 rfl (host := "") (Or.inl (hw _ (List.mem_of_getElem? (i := 12) rfl))) Via.refl F_count ?_
          refine Own.istore (pc' := 72) (L1 := #[.val (.ref a), .val (.int (2 : Int32)), .val (.long q), .second, .val (.int (0 : Int32)), .val (.int (4 : Int32))]) d_prog_107_method_2_70 rfl rfl ?_
          refine Own.iload (pc' := 74) d_prog_107_method_2_72 rfl rfl ?_
          refine Own.if_le (pc' := 127) (pc2 := 77) d_prog_107_method_2_74 (by decide) (by decide) rfl (fun _ => ?_) (fun q => absurd (by decide) q)
          refine Own.iload (pc' := 129) d_prog_107_method_2_127 rfl rfl ?_
          have hq : (4 : Int32) = own_want (4 : Int32) (2 : Int32) q x0 x1 x2 x3 x4 := by unfold own_want; (repeat' split) <;> first | rfl | (exfalso; omega) | omega
          exact Own.ireturnI d_prog_107_method_2_129 rfl (⟨rfl, _, rfl, hq⟩) (by decide) (by decide)
    · refine Own.aloadN (pc' := 14) d_prog_107_method_2_13 rfl rfl rfl ?_
      refine Own.getfield (pc' := 17) d_prog_107_method_2_14 rfl (host := "") (Or.inl (hw _ (List.mem_of_getElem? (i := 10) rfl))) Via.refl F_leaves ?_
      refine Own.iloadN (pc' := 18) d_prog_107_method_2_17 rfl rfl ?_
      refine Own.iaddE (pc' := 19) d_prog_107_method_2_18 rfl (z := (7 : Int32)) (by decide) ?_
      refine Own.istore (pc' := 21) (L1 := #[.val (.ref a), .val (.int (3 : Int32)), .val (.long q), .second, .val (.int (7 : Int32)), .unset]) d_prog_107_method_2_19 rfl rfl ?_
      refine Own.iload (pc' := 23) d_prog_107_method_2_21 rfl rfl ?_
      refine Own.if_le (pc' := 66) (pc2 := 26) d_prog_107_method_2_23 (by decide) (by decide) rfl (fun q => absurd q (by decide)) (fun _ => ?_)
      refine Own.aloadN (pc' := 27) d_prog_107_method_2_26 rfl rfl rfl ?_
      refine Own.getfield (pc' := 30) d_prog_107_method_2_27 rfl (host := "") (Or.inl (hw _ (List.mem_of_getElem? (i := 14) rfl))) Via.refl F_nodes ?_
      refine Own.iload (pc' := 32) d_prog_107_method_2_30 rfl rfl ?_
      refine Own.laload (pc' := 33) (i := 7) d_prog_107_method_2_32 rfl A (by decide) (by decide) ?_
      rw [own_nd4_7]
      show Go K _ _ _ _ _ _ _ _ _ 0 0 h 33 #[.val (.ref a), .val (.int (3 : Int32)), .val (.long q), .second, .val (.int (7 : Int32)), .unset] [(.long x3)]
      refine Own.lloadN (pc' := 34) d_prog_107_method_2_33 rfl rfl ?_
      refine Own.lcmp_ge (pc1 := 35) (pc' := 66) (pc2 := 38) d_prog_107_method_2_34 rfl d_prog_107_method_2_35 (by decide) (by decide) rfl (fun c34_741 => ?_) (fun c34_741 => ?_)
      · refine Own.aloadN (pc' := 67) d_prog_107_method_2_66 rfl rfl rfl ?_
        refine Own.getfield (pc' := 70) d_prog_107_method_2_67 rfl (host := "") (Or.inl (hw _ (List.mem_of_getElem? (i := 12) rfl))) Via.refl F_count ?_
        refine Own.istore (pc' := 72) (L1 := #[.val (.ref a), .val (.int (3 : Int32)), .val (.long q), .second, .val (.int (7 : Int32)), .val (.int (4 : Int32))]) d_prog_107_method_2_70 rfl rfl ?_
        refine Own.iload (pc' := 74) d_prog_107_method_2_72 rfl rfl ?_
        refine Own.if_le (pc' := 127) (pc2 := 77) d_prog_107_method_2_74 (by decide) (by decide) rfl (fun q => absurd q (by decide)) (fun _ => ?_)
        refine Own.iload (pc' := 79) d_prog_107_method_2_77 rfl rfl ?_
        refine Own.aloadN (pc' := 80) d_prog_107_method_2_79 rfl rfl rfl ?_
        refine Own.getfield (pc' := 83) d_prog_107_method_2_80 rfl (host := "") (Or.inl (hw _ (List.mem_of_getElem? (i := 10) rfl))) Via.refl F_leaves ?_
        refine Own.icmp_ge (pc' := 118) (pc2 := 86) d_prog_107_method_2_83 (by decide) (by decide) rfl (fun _ => ?_) (fun q => absurd (by decide) q)
        refine Own.iload (pc' := 120) d_prog_107_method_2_118 rfl rfl ?_
        refine Own.aloadN (pc' := 121) d_prog_107_method_2_120 rfl rfl rfl ?_
        refine Own.getfield (pc' := 124) d_prog_107_method_2_121 rfl (host := "") (Or.inl (hw _ (List.mem_of_getElem? (i := 10) rfl))) Via.refl F_leaves ?_
        refine Own.isubE (pc' := 125) d_prog_107_method_2_124 rfl (z := (3 : Int32)) (by decide) ?_
        refine Own.istore (pc' := 127) (L1 := #[.val (.ref a), .val (.int (3 : Int32)), .val (.long q), .second, .val (.int (7 : Int32)), .val (.int (3 : Int32))]) d_prog_107_method_2_125 rfl rfl ?_
        refine Own.iload (pc' := 129) d_prog_107_method_2_127 rfl rfl ?_
        have hq : (3 : Int32) = own_want (4 : Int32) (3 : Int32) q x0 x1 x2 x3 x4 := by unfold own_want; (repeat' split) <;> first | rfl | (exfalso; omega) | omega
        exact Own.ireturnI d_prog_107_method_2_129 rfl (⟨rfl, _, rfl, hq⟩) (by decide) (by decide)
      · refine Own.iload (pc' := 40) d_prog_107_method_2_38 rfl rfl ?_
        refine Own.iconst (pc' := 41) (v := (2 : Int32)) d_prog_107_method_2_40 (by decide) rfl ?_
        refine Own.iremE (pc' := 42) d_prog_107_method_2_41 (by decide) rfl (z := (1 : Int32)) (by decide) ?_
        refine Own.iconst (pc' := 43) (v := (1 : Int32)) d_prog_107_method_2_42 (by decide) rfl ?_
        refine Own.icmp_ne (pc' := 55) (pc2 := 46) d_prog_107_method_2_43 (by decide) (by decide) rfl (fun q => absurd q (by decide)) (fun _ => ?_)
        refine Own.iload (pc' := 48) d_prog_107_method_2_46 rfl rfl ?_
        refine Own.iconst (pc' := 49) (v := (2 : Int32)) d_prog_107_method_2_48 (by decide) rfl ?_
        refine Own.idivE (pc' := 50) d_prog_107_method_2_49 (by decide) rfl (z := (3 : Int32)) (by decide) ?_
        refine Own.istore (pc' := 52) (L1 := #[.val (.ref a), .val (.int (3 : Int32)), .val (.long q), .second, .val (.int (3 : Int32)), .unset]) d_prog_107_method_2_50 rfl rfl ?_
        refine Own.goto (pc' := 38) d_prog_107_method_2_52 (by decide) (by decide) ?_
        refine Own.iload (pc' := 40) d_prog_107_method_2_38 rfl rfl ?_
        refine Own.iconst (pc' := 41) (v := (2 : Int32)) d_prog_107_method_2_40 (by decide) rfl ?_
        refine Own.iremE (pc' := 42) d_prog_107_method_2_41 (by decide) rfl (z := (1 : Int32)) (by decide) ?_
        refine Own.iconst (pc' := 43) (v := (1 : Int32)) d_prog_107_method_2_42 (by decide) rfl ?_
        refine Own.icmp_ne (pc' := 55) (pc2 := 46) d_prog_107_method_2_43 (by decide) (by decide) rfl (fun q => absurd q (by decide)) (fun _ => ?_)
        refine Own.iload (pc' := 48) d_prog_107_method_2_46 rfl rfl ?_
        refine Own.iconst (pc' := 49) (v := (2 : Int32)) d_prog_107_method_2_48 (by decide) rfl ?_
        refine Own.idivE (pc' := 50) d_prog_107_method_2_49 (by decide) rfl (z := (1 : Int32)) (by decide) ?_
        refine Own.istore (pc' := 52) (L1 := #[.val (.ref a), .val (.int (3 : Int32)), .val (.long q), .second, .val (.int (1 : Int32)), .unset]) d_prog_107_method_2_50 rfl rfl ?_
        refine Own.goto (pc' := 38) d_prog_107_method_2_52 (by decide) (by decide) ?_
        refine Own.iload (pc' := 40) d_prog_107_method_2_38 rfl rfl ?_
        refine Own.iconst (pc' := 41) (v := (2 : Int32)) d_prog_107_method_2_40 (by decide) rfl ?_
        refine Own.iremE (pc' := 42) d_prog_107_method_2_41 (by decide) rfl (z := (1 : Int32)) (by decide) ?_
        refine Own.iconst (pc' := 43) (v := (1 : Int32)) d_prog_107_method_2_42 (by decide) rfl ?_
        refine Own.icmp_ne (pc' := 55) (pc2 := 46) d_prog_107_method_2_43 (by decide) (by decide) rfl (fun q => absurd q (by decide)) (fun _ => ?_)
        refine Own.iload (pc' := 48) d_prog_107_method_2_46 rfl rfl ?_
        refine Own.iconst (pc' := 49) (v := (2 : Int32)) d_prog_107_method_2_48 (by decide) rfl ?_
        refine Own.idivE (pc' := 50) d_prog_107_method_2_49 (by decide) rfl (z := (0 : Int32)) (by decide) ?_
        refine Own.istore (pc' := 52) (L1 := #[.val (.ref a), .val (.int (3 : Int32)), .val (.long q), .second, .val (.int (0 : Int32)), .unset]) d_prog_107_method_2_50 rfl rfl ?_
        refine Own.goto (pc' := 38) d_prog_107_method_2_52 (by decide) (by decide) ?_
        refine Own.iload (pc' := 40) d_prog_107_method_2_38 rfl rfl ?_
        refine Own.iconst (pc' := 41) (v := (2 : Int32)) d_prog_107_method_2_40 (by decide) rfl ?_
        refine Own.iremE (pc' := 42) d_prog_107_method_2_41 (by decide) rfl (z := (0 : Int32)) (by decide) ?_
        refine Own.iconst (pc' := 43) (v := (1 : Int32)) d_prog_107_method_2_42 (by decide) rfl ?_
        refine Own.icmp_ne (pc' := 55) (pc2 := 46) d_prog_107_method_2_43 (by decide) (by decide) rfl (fun _ => ?_) (fun q => absurd (by decide) q)
        refine Own.iload (pc' := 57) d_prog_107_method_2_55 rfl rfl ?_
        refine Own.if_le (pc' := 21) (pc2 := 60) d_prog_107_method_2_57 (by decide) (by decide) rfl (fun _ => ?_) (fun q => absurd (by decide) q)
        refine Own.iload (pc' := 23) d_prog_107_method_2_21 rfl rfl ?_
        refine Own.if_le (pc' := 66) (pc2 := 26) d_prog_107_method_2_23 (by decide) (by decide) rfl (fun _ => ?_) (fun q => absurd (by decide) q)
        refine Own.aloadN (pc' := 67) d_prog_107_method_2_66 rfl rfl rfl ?_
        refine Own.getfield (pc' := 70) d_prog_107_method_2_67 rfl (host := "") (Or.inl (hw _ (List.mem_of_getElem? (i := 12) rfl))) Via.refl F_count ?_
        refine Own.istore (pc' := 72) (L1 := #[.val (.ref a), .val (.int (3 : Int32)), .val (.long q), .second, .val (.int (0 : Int32)), .val (.int (4 : Int32))]) d_prog_107_method_2_70 rfl rfl ?_
        refine Own.iload (pc' := 74) d_prog_107_method_2_72 rfl rfl ?_
        refine Own.if_le (pc' := 127) (pc2 := 77) d_prog_107_method_2_74 (by decide) (by decide) rfl (fun _ => ?_) (fun q => absurd (by decide) q)
        refine Own.iload (pc' := 129) d_prog_107_method_2_127 rfl rfl ?_
        have hq : (4 : Int32) = own_want (4 : Int32) (3 : Int32) q x0 x1 x2 x3 x4 := by unfold own_want; (repeat' split) <;> first | rfl | (exfalso; omega) | omega
        exact Own.ireturnI d_prog_107_method_2_129 rfl (⟨rfl, _, rfl, hq⟩) (by decide) (by decide)
  · refine Own.aloadN (pc' := 9) d_prog_107_method_2_8 rfl rfl rfl ?_
    refine Own.getfield (pc' := 12) d_prog_107_method_2_9 rfl (host := "") (Or.inl (hw _ (List.mem_of_getElem? (i := 12) rfl))) Via.refl F_count ?_
    have hq : (4 : Int32) = own_want (4 : Int32) p q x0 x1 x2 x3 x4 := by unfold own_want; (repeat' split) <;> first | rfl | (exfalso; omega) | omega
    exact Own.ireturnI d_prog_107_method_2_12 rfl (⟨rfl, _, rfl, hq⟩) (by decide) (by decide)
set_option maxRecDepth 65536 in
set_option maxHeartbeats 40000000 in
theorem c_own_fa5 (Z : State) (a0 : Array Value) (hw : ∀ d ∈ tables_1, d.before a0 Z = true) (n0 : Nat) (h : Heap) (hZ0 : n0 ≤ h.size) (a : Addr) (p : Int32) (q : Int64) (x0 x1 x2 x3 x4 : Int64) (r : Addr) (F_leaves : Fld Z h a "com/example/coldtail/coldtail/segment/MaxTree" "leaves" "I" (.int (8 : Int32))) (F_count : Fld Z h a "com/example/coldtail/coldtail/segment/MaxTree" "count" "I" (.int (5 : Int32))) (F_nodes : Fld Z h a "com/example/coldtail/coldtail/segment/MaxTree" "nodes" "[J" (.ref r)) (A : AJ Z h r 16 (own_nd5 x0 x1 x2 x3 x4)) (hp : 0 ≤ p.toInt) :
    Con Z n0 (⟨"com/example/coldtail/coldtail/segment/MaxTree", "firstAtLeast", "(IJ)I"⟩ : MethodName) prog_107_method_2_code 6 (some .int) ({ frames := 0, cells := 0, slots := 0, locals := 0 } : Room) [(.ref a), (.int p), (.long q)] h (fun v h' => h = h' ∧ ∃ z, v = some (.int z) ∧ z = own_want (5 : Int32) p q x0 x1 x2 x3 x4) := by
  refine Own.enter (plainFor_of_name pn_1) (L0 := #[.val (.ref a), .val (.int p), .val (.long q), .second, .unset, .unset]) (fun m => by first | (simp [entryFrame, mkF, argsToLocals, Value.category]; done) | rfl) fun K => ?_
  show Go K _ _ _ _ _ _ "com/example/coldtail/coldtail/segment/MaxTree" "firstAtLeast" _ 0 0 h 0 #[.val (.ref a), .val (.int p), .val (.long q), .second, .unset, .unset] []
  have k0 : (0 : Int32).toInt = 0 := by decide
  have k1 : (1 : Int32).toInt = 1 := by decide
  have k2 : (2 : Int32).toInt = 2 := by decide
  have k3 : (3 : Int32).toInt = 3 := by decide
  have k4 : (4 : Int32).toInt = 4 := by decide
  have k5 : (5 : Int32).toInt = 5 := by decide
  have k6 : (6 : Int32).toInt = 6 := by decide
  have k7 : (7 : Int32).toInt = 7 := by decide
  have k8 : (8 : Int32).toInt = 8 := by decide
  have kz : (0 : Int64).toInt = 0 := by decide
  have e0 := own_maxI x2 x3
  have e1 := own_maxI x0 x1
  have e2 := own_maxI x4 (0 : Int64)
  have e3 := own_maxI (0 : Int64) (0 : Int64)
  have e4 := own_maxI (own_max x0 x1) (own_max x2 x3)
  have e5 := own_maxI (own_max x4 (0 : Int64)) (own_max (0 : Int64) (0 : Int64))
  have e6 := own_maxI (own_max (own_max x0 x1) (own_max x2 x3)) (own_max (own_max x4 (0 : Int64)) (own_max (0 : Int64) (0 : Int64)))
  refine Own.iloadN (pc' := 1) d_prog_107_method_2_0 rfl rfl ?_
  refine Own.aloadN (pc' := 2) d_prog_107_method_2_1 rfl rfl rfl ?_
  refine Own.getfield (pc' := 5) d_prog_107_method_2_2 rfl (host := "") (Or.inl (hw _ (List.mem_of_getElem? (i := 12) rfl))) Via.refl F_count ?_
  refine Own.icmp_lt (pc' := 13) (pc2 := 8) d_prog_107_method_2_5 (by decide) (by decide) rfl (fun c5_759 => ?_) (fun c5_759 => ?_)
  · have hc : p = (0 : Int32) ∨ p = (1 : Int32) ∨ p = (2 : Int32) ∨ p = (3 : Int32) ∨ p = (4 : Int32) := by
      have : p.toInt = 0 ∨ p.toInt = 1 ∨ p.toInt = 2 ∨ p.toInt = 3 ∨ p.toInt = 4 := by omega
      rcases this with qq | qq | qq | qq | qq
      · exact Or.inl (Int32.toInt_inj.mp (by rw [qq]; decide))
      · exact Or.inr (Or.inl (Int32.toInt_inj.mp (by rw [qq]; decide)))
      · exact Or.inr (Or.inr (Or.inl (Int32.toInt_inj.mp (by rw [qq]; decide))))
      · exact Or.inr (Or.inr (Or.inr (Or.inl (Int32.toInt_inj.mp (by rw [qq]; decide)))))
      · exact Or.inr (Or.inr (Or.inr (Or.inr ((Int32.toInt_inj.mp (by rw [qq]; decide))))))
    rcases hc with rfl | rfl | rfl | rfl | rfl
    · refine Own.aloadN (pc' := 14) d_prog_107_method_2_13 rfl rfl rfl ?_
      refine Own.getfield (pc' := 17) d_prog_107_method_2_14 rfl (host := "") (Or.inl (hw _ (List.mem_of_getElem? (i := 10) rfl))) Via.refl F_leaves ?_
      refine Own.iloadN (pc' := 18) d_prog_107_method_2_17 rfl rfl ?_
      refine Own.iaddE (pc' := 19) d_prog_107_method_2_18 rfl (z := (8 : Int32)) (by decide) ?_
      refine Own.istore (pc' := 21) (L1 := #[.val (.ref a), .val (.int (0 : Int32)), .val (.long q), .second, .val (.int (8 : Int32)), .unset]) d_prog_107_method_2_19 rfl rfl ?_
      refine Own.iload (pc' := 23) d_prog_107_method_2_21 rfl rfl ?_
      refine Own.if_le (pc' := 66) (pc2 := 26) d_prog_107_method_2_23 (by decide) (by decide) rfl (fun q => absurd q (by decide)) (fun _ => ?_)
      refine Own.aloadN (pc' := 27) d_prog_107_method_2_26 rfl rfl rfl ?_
      refine Own.getfield (pc' := 30) d_prog_107_method_2_27 rfl (host := "") (Or.inl (hw _ (List.mem_of_getElem? (i := 14) rfl))) Via.refl F_nodes ?_
      refine Own.iload (pc' := 32) d_prog_107_method_2_30 rfl rfl ?_
      refine Own.laload (pc' := 33) (i := 8) d_prog_107_method_2_32 rfl A (by decide) (by decide) ?_
      rw [own_nd5_8]
      show Go K _ _ _ _ _ _ _ _ _ 0 0 h 33 #[.val (.ref a), .val (.int (0 : Int32)), .val (.long q), .second, .val (.int (8 : Int32)), .unset] [(.long x0)]
      refine Own.lloadN (pc' := 34) d_prog_107_method_2_33 rfl rfl ?_
      refine Own.lcmp_ge (pc1 := 35) (pc' := 66) (pc2 := 38) d_prog_107_method_2_34 rfl d_prog_107_method_2_35 (by decide) (by decide) rfl (fun c34_762 => ?_) (fun c34_762 => ?_)
      · refine Own.aloadN (pc' := 67) d_prog_107_method_2_66 rfl rfl rfl ?_
        refine Own.getfield (pc' := 70) d_prog_107_method_2_67 rfl (host := "") (Or.inl (hw _ (List.mem_of_getElem? (i := 12) rfl))) Via.refl F_count ?_
        refine Own.istore (pc' := 72) (L1 := #[.val (.ref a), .val (.int (0 : Int32)), .val (.long q), .second, .val (.int (8 : Int32)), .val (.int (5 : Int32))]) d_prog_107_method_2_70 rfl rfl ?_
        refine Own.iload (pc' := 74) d_prog_107_method_2_72 rfl rfl ?_
        refine Own.if_le (pc' := 127) (pc2 := 77) d_prog_107_method_2_74 (by decide) (by decide) rfl (fun q => absurd q (by decide)) (fun _ => ?_)
        refine Own.iload (pc' := 79) d_prog_107_method_2_77 rfl rfl ?_
        refine Own.aloadN (pc' := 80) d_prog_107_method_2_79 rfl rfl rfl ?_
        refine Own.getfield (pc' := 83) d_prog_107_method_2_80 rfl (host := "") (Or.inl (hw _ (List.mem_of_getElem? (i := 10) rfl))) Via.refl F_leaves ?_
        refine Own.icmp_ge (pc' := 118) (pc2 := 86) d_prog_107_method_2_83 (by decide) (by decide) rfl (fun _ => ?_) (fun q => absurd (by decide) q)
        refine Own.iload (pc' := 120) d_prog_107_method_2_118 rfl rfl ?_
        refine Own.aloadN (pc' := 121) d_prog_107_method_2_120 rfl rfl rfl ?_
        refine Own.getfield (pc' := 124) d_prog_107_method_2_121 rfl (host := "") (Or.inl (hw _ (List.mem_of_getElem? (i := 10) rfl))) Via.refl F_leaves ?_
        refine Own.isubE (pc' := 125) d_prog_107_method_2_124 rfl (z := (0 : Int32)) (by decide) ?_
        refine Own.istore (pc' := 127) (L1 := #[.val (.ref a), .val (.int (0 : Int32)), .val (.long q), .second, .val (.int (8 : Int32)), .val (.int (0 : Int32))]) d_prog_107_method_2_125 rfl rfl ?_
        refine Own.iload (pc' := 129) d_prog_107_method_2_127 rfl rfl ?_
        have hq : (0 : Int32) = own_want (5 : Int32) (0 : Int32) q x0 x1 x2 x3 x4 := by unfold own_want; (repeat' split) <;> first | rfl | (exfalso; omega) | omega
        exact Own.ireturnI d_prog_107_method_2_129 rfl (⟨rfl, _, rfl, hq⟩) (by decide) (by decide)
      · refine Own.iload (pc' := 40) d_prog_107_method_2_38 rfl rfl ?_
        refine Own.iconst (pc' := 41) (v := (2 : Int32)) d_prog_107_method_2_40 (by decide) rfl ?_
        refine Own.iremE (pc' := 42) d_prog_107_method_2_41 (by decide) rfl (z := (0 : Int32)) (by decide) ?_
        refine Own.iconst (pc' := 43) (v := (1 : Int32)) d_prog_107_method_2_42 (by decide) rfl ?_
        refine Own.icmp_ne (pc' := 55) (pc2 := 46) d_prog_107_method_2_43 (by decide) (by decide) rfl (fun _ => ?_) (fun q => absurd (by decide) q)
        refine Own.iload (pc' := 57) d_prog_107_method_2_55 rfl rfl ?_
        refine Own.if_le (pc' := 21) (pc2 := 60) d_prog_107_method_2_57 (by decide) (by decide) rfl (fun q => absurd q (by decide)) (fun _ => ?_)
        refine Own.iincE (pc' := 63) (L1 := fun zz => #[.val (.ref a), .val (.int (0 : Int32)), .val (.long q), .second, .val (.int zz), .unset]) d_prog_107_method_2_60 rfl (fun _ => rfl) rfl (z := (9 : Int32)) (by decide) ?_
        show Go K _ _ _ _ _ _ _ _ _ 0 0 h 63 #[.val (.ref a), .val (.int (0 : Int32)), .val (.long q), .second, .val (.int (9 : Int32)), .unset] []
        refine Own.goto (pc' := 21) d_prog_107_method_2_63 (by decide) (by decide) ?_
        refine Own.iload (pc' := 23) d_prog_107_method_2_21 rfl rfl ?_
        refine Own.if_le (pc' := 66) (pc2 := 26) d_prog_107_method_2_23 (by decide) (by decide) rfl (fun q => absurd q (by decide)) (fun _ => ?_)
        refine Own.aloadN (pc' := 27) d_prog_107_method_2_26 rfl rfl rfl ?_
        refine Own.getfield (pc' := 30) d_prog_107_method_2_27 rfl (host := "") (Or.inl (hw _ (List.mem_of_getElem? (i := 14) rfl))) Via.refl F_nodes ?_
        refine Own.iload (pc' := 32) d_prog_107_method_2_30 rfl rfl ?_
        refine Own.laload (pc' := 33) (i := 9) d_prog_107_method_2_32 rfl A (by decide) (by decide) ?_
        rw [own_nd5_9]
        show Go K _ _ _ _ _ _ _ _ _ 0 0 h 33 #[.val (.ref a), .val (.int (0 : Int32)), .val (.long q), .second, .val (.int (9 : Int32)), .unset] [(.long x1)]
        refine Own.lloadN (pc' := 34) d_prog_107_method_2_33 rfl rfl ?_
        refine Own.lcmp_ge (pc1 := 35) (pc' := 66) (pc2 := 38) d_prog_107_method_2_34 rfl d_prog_107_method_2_35 (by decide) (by decide) rfl (fun c34_771 => ?_) (fun c34_771 => ?_)
        · refine Own.aloadN (pc' := 67) d_prog_107_method_2_66 rfl rfl rfl ?_
          refine Own.getfield (pc' := 70) d_prog_107_method_2_67 rfl (host := "") (Or.inl (hw _ (List.mem_of_getElem? (i := 12) rfl))) Via.refl F_count ?_
          refine Own.istore (pc' := 72) (L1 := #[.val (.ref a), .val (.int (0 : Int32)), .val (.long q), .second, .val (.int (9 : Int32)), .val (.int (5 : Int32))]) d_prog_107_method_2_70 rfl rfl ?_
          refine Own.iload (pc' := 74) d_prog_107_method_2_72 rfl rfl ?_
          refine Own.if_le (pc' := 127) (pc2 := 77) d_prog_107_method_2_74 (by decide) (by decide) rfl (fun q => absurd q (by decide)) (fun _ => ?_)
          refine Own.iload (pc' := 79) d_prog_107_method_2_77 rfl rfl ?_
          refine Own.aloadN (pc' := 80) d_prog_107_method_2_79 rfl rfl rfl ?_
          refine Own.getfield (pc' := 83) d_prog_107_method_2_80 rfl (host := "") (Or.inl (hw _ (List.mem_of_getElem? (i := 10) rfl))) Via.refl F_leaves ?_
          refine Own.icmp_ge (pc' := 118) (pc2 := 86) d_prog_107_method_2_83 (by decide) (by decide) rfl (fun _ => ?_) (fun q => absurd (by decide) q)
          refine Own.iload (pc' := 120) d_prog_107_method_2_118 rfl rfl ?_
          refine Own.aloadN (pc' := 121) d_prog_107_method_2_120 rfl rfl rfl ?_
          refine Own.getfield (pc' := 124) d_prog_107_method_2_121 rfl (host := "") (Or.inl (hw _ (List.mem_of_getElem? (i := 10) rfl))) Via.refl F_leaves ?_
          refine Own.isubE (pc' := 125) d_prog_107_method_2_124 rfl (z := (1 : Int32)) (by decide) ?_
          refine Own.istore (pc' := 127) (L1 := #[.val (.ref a), .val (.int (0 : Int32)), .val (.long q), .second, .val (.int (9 : Int32)), .val (.int (1 : Int32))]) d_prog_107_method_2_125 rfl rfl ?_
          refine Own.iload (pc' := 129) d_prog_107_method_2_127 rfl rfl ?_
          have hq : (1 : Int32) = own_want (5 : Int32) (0 : Int32) q x0 x1 x2 x3 x4 := by unfold own_want; (repeat' split) <;> first | rfl | (exfalso; omega) | omega
          exact Own.ireturnI d_prog_107_method_2_129 rfl (⟨rfl, _, rfl, hq⟩) (by decide) (by decide)
        · refine Own.iload (pc' := 40) d_prog_107_method_2_38 rfl rfl ?_
          refine Own.iconst (pc' := 41) (v := (2 : Int32)) d_prog_107_method_2_40 (by decide) rfl ?_
          refine Own.iremE (pc' := 42) d_prog_107_method_2_41 (by decide) rfl (z := (1 : Int32)) (by decide) ?_
          refine Own.iconst (pc' := 43) (v := (1 : Int32)) d_prog_107_method_2_42 (by decide) rfl ?_
          refine Own.icmp_ne (pc' := 55) (pc2 := 46) d_prog_107_method_2_43 (by decide) (by decide) rfl (fun q => absurd q (by decide)) (fun _ => ?_)
          refine Own.iload (pc' := 48) d_prog_107_method_2_46 rfl rfl ?_
          refine Own.iconst (pc' := 49) (v := (2 : Int32)) d_prog_107_method_2_48 (by decide) rfl ?_
          refine Own.idivE (pc' := 50) d_prog_107_method_2_49 (by decide) rfl (z := (4 : Int32)) (by decide) ?_
          refine Own.istore (pc' := 52) (L1 := #[.val (.ref a), .val (.int (0 : Int32)), .val (.long q), .second, .val (.int (4 : Int32)), .unset]) d_prog_107_method_2_50 rfl rfl ?_
          refine Own.goto (pc' := 38) d_prog_107_method_2_52 (by decide) (by decide) ?_
          refine Own.iload (pc' := 40) d_prog_107_method_2_38 rfl rfl ?_
          refine Own.iconst (pc' := 41) (v := (2 : Int32)) d_prog_107_method_2_40 (by decide) rfl ?_
          refine Own.iremE (pc' := 42) d_prog_107_method_2_41 (by decide) rfl (z := (0 : Int32)) (by decide) ?_
          refine Own.iconst (pc' := 43) (v := (1 : Int32)) d_prog_107_method_2_42 (by decide) rfl ?_
          refine Own.icmp_ne (pc' := 55) (pc2 := 46) d_prog_107_method_2_43 (by decide) (by decide) rfl (fun _ => ?_) (fun q => absurd (by decide) q)
          refine Own.iload (pc' := 57) d_prog_107_method_2_55 rfl rfl ?_
          refine Own.if_le (pc' := 21) (pc2 := 60) d_prog_107_method_2_57 (by decide) (by decide) rfl (fun q => absurd q (by decide)) (fun _ => ?_)
          refine Own.iincE (pc' := 63) (L1 := fun zz => #[.val (.ref a), .val (.int (0 : Int32)), .val (.long q), .second, .val (.int zz), .unset]) d_prog_107_method_2_60 rfl (fun _ => rfl) rfl (z := (5 : Int32)) (by decide) ?_
          show Go K _ _ _ _ _ _ _ _ _ 0 0 h 63 #[.val (.ref a), .val (.int (0 : Int32)), .val (.long q), .second, .val (.int (5 : Int32)), .unset] []
          refine Own.goto (pc' := 21) d_prog_107_method_2_63 (by decide) (by decide) ?_
          refine Own.iload (pc' := 23) d_prog_107_method_2_21 rfl rfl ?_
          refine Own.if_le (pc' := 66) (pc2 := 26) d_prog_107_method_2_23 (by decide) (by decide) rfl (fun q => absurd q (by decide)) (fun _ => ?_)
          refine Own.aloadN (pc' := 27) d_prog_107_method_2_26 rfl rfl rfl ?_
          refine Own.getfield (pc' := 30) d_prog_107_method_2_27 rfl (host := "") (Or.inl (hw _ (List.mem_of_getElem? (i := 14) rfl))) Via.refl F_nodes ?_
          refine Own.iload (pc' := 32) d_prog_107_method_2_30 rfl rfl ?_
          refine Own.laload (pc' := 33) (i := 5) d_prog_107_method_2_32 rfl A (by decide) (by decide) ?_
          rw [own_nd5_5]
          show Go K _ _ _ _ _ _ _ _ _ 0 0 h 33 #[.val (.ref a), .val (.int (0 : Int32)), .val (.long q), .second, .val (.int (5 : Int32)), .unset] [(.long (own_max x2 x3))]
          refine Own.lloadN (pc' := 34) d_prog_107_method_2_33 rfl rfl ?_
          refine Own.lcmp_ge (pc1 := 35) (pc' := 66) (pc2 := 38) d_prog_107_method_2_34 rfl d_prog_107_method_2_35 (by decide) (by decide) rfl (fun c34_783 => ?_) (fun c34_783 => ?_)
          · refine Own.aloadN (pc' := 67) d_prog_107_method_2_66 rfl rfl rfl ?_
            refine Own.getfield (pc' := 70) d_prog_107_method_2_67 rfl (host := "") (Or.inl (hw _ (List.mem_of_getElem? (i := 12) rfl))) Via.refl F_count ?_
            refine Own.istore (pc' := 72) (L1 := #[.val (.ref a), .val (.int (0 : Int32)), .val (.long q), .second, .val (.int (5 : Int32)), .val (.int (5 : Int32))]) d_prog_107_method_2_70 rfl rfl ?_
            refine Own.iload (pc' := 74) d_prog_107_method_2_72 rfl rfl ?_
            refine Own.if_le (pc' := 127) (pc2 := 77) d_prog_107_method_2_74 (by decide) (by decide) rfl (fun q => absurd q (by decide)) (fun _ => ?_)
            refine Own.iload (pc' := 79) d_prog_107_method_2_77 rfl rfl ?_
            refine Own.aloadN (pc' := 80) d_prog_107_method_2_79 rfl rfl rfl ?_
            refine Own.getfield (pc' := 83) d_prog_107_method_2_80 rfl (host := "") (Or.inl (hw _ (List.mem_of_getElem? (i := 10) rfl))) Via.refl F_leaves ?_
            refine Own.icmp_ge (pc' := 118) (pc2 := 86) d_prog_107_method_2_83 (by decide) (by decide) rfl (fun q => absurd q (by decide)) (fun _ => ?_)
            refine Own.aloadN (pc' := 87) d_prog_107_method_2_86 rfl rfl rfl ?_
            refine Own.getfield (pc' := 90) d_prog_107_method_2_87 rfl (host := "") (Or.inl (hw _ (List.mem_of_getElem? (i := 14) rfl))) Via.refl F_nodes ?_
            refine Own.iconst (pc' := 91) (v := (2 : Int32)) d_prog_107_method_2_90 (by decide) rfl ?_
            refine Own.iload (pc' := 93) d_prog_107_method_2_91 rfl rfl ?_
            refine Own.imulE (pc' := 94) d_prog_107_method_2_93 rfl (z := (10 : Int32)) (by decide) ?_
            refine Own.laload (pc' := 95) (i := 10) d_prog_107_method_2_94 rfl A (by decide) (by decide) ?_
            rw [own_nd5_10]
            show Go K _ _ _ _ _ _ _ _ _ 0 0 h 95 #[.val (.ref a), .val (.int (0 : Int32)), .val (.long q), .second, .val (.int (5 : Int32)), .val (.int (5 : Int32))] [(.long x2)]
            refine Own.lloadN (pc' := 96) d_prog_107_method_2_95 rfl rfl ?_
            refine Own.lcmp_lt (pc1 := 97) (pc' := 107) (pc2 := 100) d_prog_107_method_2_96 rfl d_prog_107_method_2_97 (by decide) (by decide) rfl (fun c96_787 => ?_) (fun c96_787 => ?_)
            · refine Own.iconst (pc' := 108) (v := (2 : Int32)) d_prog_107_method_2_107 (by decide) rfl ?_
              refine Own.iload (pc' := 110) d_prog_107_method_2_108 rfl rfl ?_
              refine Own.imulE (pc' := 111) d_prog_107_method_2_110 rfl (z := (10 : Int32)) (by decide) ?_
              refine Own.iconst (pc' := 112) (v := (1 : Int32)) d_prog_107_method_2_111 (by decide) rfl ?_
              refine Own.iaddE (pc' := 113) d_prog_107_method_2_112 rfl (z := (11 : Int32)) (by decide) ?_
              refine Own.istore (pc' := 115) (L1 := #[.val (.ref a), .val (.int (0 : Int32)), .val (.long q), .second, .val (.int (11 : Int32)), .val (.int (5 : Int32))]) d_prog_107_method_2_113 rfl rfl ?_
              refine Own.goto (pc' := 77) d_prog_107_method_2_115 (by decide) (by decide) ?_
              refine Own.iload (pc' := 79) d_prog_107_method_2_77 rfl rfl ?_
              refine Own.aloadN (pc' := 80) d_prog_107_method_2_79 rfl rfl rfl ?_
              refine Own.getfield (pc' := 83) d_prog_107_method_2_80 rfl (host := "") (Or.inl (hw _ (List.mem_of_getElem? (i := 10) rfl))) Via.refl F_leaves ?_
              refine Own.icmp_ge (pc' := 118) (pc2 := 86) d_prog_107_method_2_83 (by decide) (by decide) rfl (fun _ => ?_) (fun q => absurd (by decide) q)
              refine Own.iload (pc' := 120) d_prog_107_method_2_118 rfl rfl ?_
              refine Own.aloadN (pc' := 121) d_prog_107_method_2_120 rfl rfl rfl ?_
              refine Own.getfield (pc' := 124) d_prog_107_method_2_121 rfl (host := "") (Or.inl (hw _ (List.mem_of_getElem? (i := 10) rfl))) Via.refl F_leaves ?_
              refine Own.isubE (pc' := 125) d_prog_107_method_2_124 rfl (z := (3 : Int32)) (by decide) ?_
              refine Own.istore (pc' := 127) (L1 := #[.val (.ref a), .val (.int (0 : Int32)), .val (.long q), .second, .val (.int (11 : Int32)), .val (.int (3 : Int32))]) d_prog_107_method_2_125 rfl rfl ?_
              refine Own.iload (pc' := 129) d_prog_107_method_2_127 rfl rfl ?_
              have hq : (3 : Int32) = own_want (5 : Int32) (0 : Int32) q x0 x1 x2 x3 x4 := by unfold own_want; (repeat' split) <;> first | rfl | (exfalso; omega) | omega
              exact Own.ireturnI d_prog_107_method_2_129 rfl (⟨rfl, _, rfl, hq⟩) (by decide) (by decide)
            · refine Own.iconst (pc' := 101) (v := (2 : Int32)) d_prog_107_method_2_100 (by decide) rfl ?_
              refine Own.iload (pc' := 103) d_prog_107_method_2_101 rfl rfl ?_
              refine Own.imulE (pc' := 104) d_prog_107_method_2_103 rfl (z := (10 : Int32)) (by decide) ?_
              refine Own.goto (pc' := 113) d_prog_107_method_2_104 (by decide) (by decide) ?_
              refine Own.istore (pc' := 115) (L1 := #[.val (.ref a), .val (.int (0 : Int32)), .val (.long q), .second, .val (.int (10 : Int32)), .val (.int (5 : Int32))]) d_prog_107_method_2_113 rfl rfl ?_
              refine Own.goto (pc' := 77) d_prog_107_method_2_115 (by decide) (by decide) ?_
              refine Own.iload (pc' := 79) d_prog_107_method_2_77 rfl rfl ?_
              refine Own.aloadN (pc' := 80) d_prog_107_method_2_79 rfl rfl rfl ?_
              refine Own.getfield (pc' := 83) d_prog_107_method_2_80 rfl (host := "") (Or.inl (hw _ (List.mem_of_getElem? (i := 10) rfl))) Via.refl F_leaves ?_
              refine Own.icmp_ge (pc' := 118) (pc2 := 86) d_prog_107_method_2_83 (by decide) (by decide) rfl (fun _ => ?_) (fun q => absurd (by decide) q)
              refine Own.iload (pc' := 120) d_prog_107_method_2_118 rfl rfl ?_
              refine Own.aloadN (pc' := 121) d_prog_107_method_2_120 rfl rfl rfl ?_
              refine Own.getfield (pc' := 124) d_prog_107_method_2_121 rfl (host := "") (Or.inl (hw _ (List.mem_of_getElem? (i := 10) rfl))) Via.refl F_leaves ?_
              refine Own.isubE (pc' := 125) d_prog_107_method_2_124 rfl (z := (2 : Int32)) (by decide) ?_
              refine Own.istore (pc' := 127) (L1 := #[.val (.ref a), .val (.int (0 : Int32)), .val (.long q), .second, .val (.int (10 : Int32)), .val (.int (2 : Int32))]) d_prog_107_method_2_125 rfl rfl ?_
              refine Own.iload (pc' := 129) d_prog_107_method_2_127 rfl rfl ?_
              have hq : (2 : Int32) = own_want (5 : Int32) (0 : Int32) q x0 x1 x2 x3 x4 := by unfold own_want; (repeat' split) <;> first | rfl | (exfalso; omega) | omega
              exact Own.ireturnI d_prog_107_method_2_129 rfl (⟨rfl, _, rfl, hq⟩) (by decide) (by decide)
          · refine Own.iload (pc' := 40) d_prog_107_method_2_38 rfl rfl ?_
            refine Own.iconst (pc' := 41) (v := (2 : Int32)) d_prog_107_method_2_40 (by decide) rfl ?_
            refine Own.iremE (pc' := 42) d_prog_107_method_2_41 (by decide) rfl (z := (1 : Int32)) (by decide) ?_
            refine Own.iconst (pc' := 43) (v := (1 : Int32)) d_prog_107_method_2_42 (by decide) rfl ?_
            refine Own.icmp_ne (pc' := 55) (pc2 := 46) d_prog_107_method_2_43 (by decide) (by decide) rfl (fun q => absurd q (by decide)) (fun _ => ?_)
            refine Own.iload (pc' := 48) d_prog_107_method_2_46 rfl rfl ?_
            refine Own.iconst (pc' := 49) (v := (2 : Int32)) d_prog_107_method_2_48 (by decide) rfl ?_
            refine Own.idivE (pc' := 50) d_prog_107_method_2_49 (by decide) rfl (z := (2 : Int32)) (by decide) ?_
            refine Own.istore (pc' := 52) (L1 := #[.val (.ref a), .val (.int (0 : Int32)), .val (.long q), .second, .val (.int (2 : Int32)), .unset]) d_prog_107_method_2_50 rfl rfl ?_
            refine Own.goto (pc' := 38) d_prog_107_method_2_52 (by decide) (by decide) ?_
            refine Own.iload (pc' := 40) d_prog_107_method_2_38 rfl rfl ?_
            refine Own.iconst (pc' := 41) (v := (2 : Int32)) d_prog_107_method_2_40 (by decide) rfl ?_
            refine Own.iremE (pc' := 42) d_prog_107_method_2_41 (by decide) rfl (z := (0 : Int32)) (by decide) ?_
            refine Own.iconst (pc' := 43) (v := (1 : Int32)) d_prog_107_method_2_42 (by decide) rfl ?_
            refine Own.icmp_ne (pc' := 55) (pc2 := 46) d_prog_107_method_2_43 (by decide) (by decide) rfl (fun _ => ?_) (fun q => absurd (by decide) q)
            refine Own.iload (pc' := 57) d_prog_107_method_2_55 rfl rfl ?_
            refine Own.if_le (pc' := 21) (pc2 := 60) d_prog_107_method_2_57 (by decide) (by decide) rfl (fun q => absurd q (by decide)) (fun _ => ?_)
            refine Own.iincE (pc' := 63) (L1 := fun zz => #[.val (.ref a), .val (.int (0 : Int32)), .val (.long q), .second, .val (.int zz), .unset]) d_prog_107_method_2_60 rfl (fun _ => rfl) rfl (z := (3 : Int32)) (by decide) ?_
            show Go K _ _ _ _ _ _ _ _ _ 0 0 h 63 #[.val (.ref a), .val (.int (0 : Int32)), .val (.long q), .second, .val (.int (3 : Int32)), .unset] []
            refine Own.goto (pc' := 21) d_prog_107_method_2_63 (by decide) (by decide) ?_
            refine Own.iload (pc' := 23) d_prog_107_method_2_21 rfl rfl ?_
            refine Own.if_le (pc' := 66) (pc2 := 26) d_prog_107_method_2_23 (by decide) (by decide) rfl (fun q => absurd q (by decide)) (fun _ => ?_)
            refine Own.aloadN (pc' := 27) d_prog_107_method_2_26 rfl rfl rfl ?_
            refine Own.getfield (pc' := 30) d_prog_107_method_2_27 rfl (host := "") (Or.inl (hw _ (List.mem_of_getElem? (i := 14) rfl))) Via.refl F_nodes ?_
            refine Own.iload (pc' := 32) d_prog_107_method_2_30 rfl rfl ?_
            refine Own.laload (pc' := 33) (i := 3) d_prog_107_method_2_32 rfl A (by decide) (by decide) ?_
            rw [own_nd5_3]
            show Go K _ _ _ _ _ _ _ _ _ 0 0 h 33 #[.val (.ref a), .val (.int (0 : Int32)), .val (.long q), .second, .val (.int (3 : Int32)), .unset] [(.long (own_max (own_max x4 (0 : Int64)) (own_max (0 : Int64) (0 : Int64))))]
            refine Own.lloadN (pc' := 34) d_prog_107_method_2_33 rfl rfl ?_
            refine Own.lcmp_ge (pc1 := 35) (pc' := 66) (pc2 := 38) d_prog_107_method_2_34 rfl d_prog_107_method_2_35 (by decide) (by decide) rfl (fun c34_803 => ?_) (fun c34_803 => ?_)
            · refine Own.aloadN (pc' := 67) d_prog_107_method_2_66 rfl rfl rfl ?_
              refine Own.getfield (pc' := 70) d_prog_107_method_2_67 rfl (host := "") (Or.inl (hw _ (List.mem_of_getElem? (i := 12) rfl))) Via.refl F_count ?_
              refine Own.istore (pc' := 72) (L1 := #[.val (.ref a), .val (.int (0 : Int32)), .val (.long q), .second, .val (.int (3 : Int32)), .val (.int (5 : Int32))]) d_prog_107_method_2_70 rfl rfl ?_
              refine Own.iload (pc' := 74) d_prog_107_method_2_72 rfl rfl ?_
              refine Own.if_le (pc' := 127) (pc2 := 77) d_prog_107_method_2_74 (by decide) (by decide) rfl (fun q => absurd q (by decide)) (fun _ => ?_)
              refine Own.iload (pc' := 79) d_prog_107_method_2_77 rfl rfl ?_
              refine Own.aloadN (pc' := 80) d_prog_107_method_2_79 rfl rfl rfl ?_
              refine Own.getfield (pc' := 83) d_prog_107_method_2_80 rfl (host := "") (Or.inl (hw _ (List.mem_of_getElem? (i := 10) rfl))) Via.refl F_leaves ?_
              refine Own.icmp_ge (pc' := 118) (pc2 := 86) d_prog_107_method_2_83 (by decide) (by decide) rfl (fun q => absurd q (by decide)) (fun _ => ?_)
              refine Own.aloadN (pc' := 87) d_prog_107_method_2_86 rfl rfl rfl ?_
              refine Own.getfield (pc' := 90) d_prog_107_method_2_87 rfl (host := "") (Or.inl (hw _ (List.mem_of_getElem? (i := 14) rfl))) Via.refl F_nodes ?_
              refine Own.iconst (pc' := 91) (v := (2 : Int32)) d_prog_107_method_2_90 (by decide) rfl ?_
              refine Own.iload (pc' := 93) d_prog_107_method_2_91 rfl rfl ?_
              refine Own.imulE (pc' := 94) d_prog_107_method_2_93 rfl (z := (6 : Int32)) (by decide) ?_
              refine Own.laload (pc' := 95) (i := 6) d_prog_107_method_2_94 rfl A (by decide) (by decide) ?_
              rw [own_nd5_6]
              show Go K _ _ _ _ _ _ _ _ _ 0 0 h 95 #[.val (.ref a), .val (.int (0 : Int32)), .val (.long q), .second, .val (.int (3 : Int32)), .val (.int (5 : Int32))] [(.long (own_max x4 (0 : Int64)))]
              refine Own.lloadN (pc' := 96) d_prog_107_method_2_95 rfl rfl ?_
              refine Own.lcmp_lt (pc1 := 97) (pc' := 107) (pc2 := 100) d_prog_107_method_2_96 rfl d_prog_107_method_2_97 (by decide) (by decide) rfl (fun c96_807 => ?_) (fun c96_807 => ?_)
              · refine Own.iconst (pc' := 108) (v := (2 : Int32)) d_prog_107_method_2_107 (by decide) rfl ?_
                refine Own.iload (pc' := 110) d_prog_107_method_2_108 rfl rfl ?_
                refine Own.imulE (pc' := 111) d_prog_107_method_2_110 rfl (z := (6 : Int32)) (by decide) ?_
                refine Own.iconst (pc' := 112) (v := (1 : Int32)) d_prog_107_method_2_111 (by decide) rfl ?_
                refine Own.iaddE (pc' := 113) d_prog_107_method_2_112 rfl (z := (7 : Int32)) (by decide) ?_
                refine Own.istore (pc' := 115) (L1 := #[.val (.ref a), .val (.int (0 : Int32)), .val (.long q), .second, .val (.int (7 : Int32)), .val (.int (5 : Int32))]) d_prog_107_method_2_113 rfl rfl ?_
                refine Own.goto (pc' := 77) d_prog_107_method_2_115 (by decide) (by decide) ?_
                refine Own.iload (pc' := 79) d_prog_107_method_2_77 rfl rfl ?_
                refine Own.aloadN (pc' := 80) d_prog_107_method_2_79 rfl rfl rfl ?_
                refine Own.getfield (pc' := 83) d_prog_107_method_2_80 rfl (host := "") (Or.inl (hw _ (List.mem_of_getElem? (i := 10) rfl))) Via.refl F_leaves ?_
                refine Own.icmp_ge (pc' := 118) (pc2 := 86) d_prog_107_method_2_83 (by decide) (by decide) rfl (fun q => absurd q (by decide)) (fun _ => ?_)
                refine Own.aloadN (pc' := 87) d_prog_107_method_2_86 rfl rfl rfl ?_
                refine Own.getfield (pc' := 90) d_prog_107_method_2_87 rfl (host := "") (Or.inl (hw _ (List.mem_of_getElem? (i := 14) rfl))) Via.refl F_nodes ?_
                refine Own.iconst (pc' := 91) (v := (2 : Int32)) d_prog_107_method_2_90 (by decide) rfl ?_
                refine Own.iload (pc' := 93) d_prog_107_method_2_91 rfl rfl ?_
                refine Own.imulE (pc' := 94) d_prog_107_method_2_93 rfl (z := (14 : Int32)) (by decide) ?_
                refine Own.laload (pc' := 95) (i := 14) d_prog_107_method_2_94 rfl A (by decide) (by decide) ?_
                rw [own_nd5_14]
                show Go K _ _ _ _ _ _ _ _ _ 0 0 h 95 #[.val (.ref a), .val (.int (0 : Int32)), .val (.long q), .second, .val (.int (7 : Int32)), .val (.int (5 : Int32))] [(.long (0 : Int64))]
                refine Own.lloadN (pc' := 96) d_prog_107_method_2_95 rfl rfl ?_
                refine Own.lcmp_lt (pc1 := 97) (pc' := 107) (pc2 := 100) d_prog_107_method_2_96 rfl d_prog_107_method_2_97 (by decide) (by decide) rfl (fun c96_812 => ?_) (fun c96_812 => ?_)
                · refine Own.iconst (pc' := 108) (v := (2 : Int32)) d_prog_107_method_2_107 (by decide) rfl ?_
                  refine Own.iload (pc' := 110) d_prog_107_method_2_108 rfl rfl ?_
                  refine Own.imulE (pc' := 111) d_prog_107_method_2_110 rfl (z := (14 : Int32)) (by decide) ?_
                  refine Own.iconst (pc' := 112) (v := (1 : Int32)) d_prog_107_method_2_111 (by decide) rfl ?_
                  refine Own.iaddE (pc' := 113) d_prog_107_method_2_112 rfl (z := (15 : Int32)) (by decide) ?_
                  refine Own.istore (pc' := 115) (L1 := #[.val (.ref a), .val (.int (0 : Int32)), .val (.long q), .second, .val (.int (15 : Int32)), .val (.int (5 : Int32))]) d_prog_107_method_2_113 rfl rfl ?_
                  refine Own.goto (pc' := 77) d_prog_107_method_2_115 (by decide) (by decide) ?_
                  refine Own.iload (pc' := 79) d_prog_107_method_2_77 rfl rfl ?_
                  refine Own.aloadN (pc' := 80) d_prog_107_method_2_79 rfl rfl rfl ?_
                  refine Own.getfield (pc' := 83) d_prog_107_method_2_80 rfl (host := "") (Or.inl (hw _ (List.mem_of_getElem? (i := 10) rfl))) Via.refl F_leaves ?_
                  refine Own.icmp_ge (pc' := 118) (pc2 := 86) d_prog_107_method_2_83 (by decide) (by decide) rfl (fun _ => ?_) (fun q => absurd (by decide) q)
                  refine Own.iload (pc' := 120) d_prog_107_method_2_118 rfl rfl ?_
                  refine Own.aloadN (pc' := 121) d_prog_107_method_2_120 rfl rfl rfl ?_
                  refine Own.getfield (pc' := 124) d_prog_107_method_2_121 rfl (host := "") (Or.inl (hw _ (List.mem_of_getElem? (i := 10) rfl))) Via.refl F_leaves ?_
                  refine Own.isubE (pc' := 125) d_prog_107_method_2_124 rfl (z := (7 : Int32)) (by decide) ?_
                  refine Own.istore (pc' := 127) (L1 := #[.val (.ref a), .val (.int (0 : Int32)), .val (.long q), .second, .val (.int (15 : Int32)), .val (.int (7 : Int32))]) d_prog_107_method_2_125 rfl rfl ?_
                  refine Own.iload (pc' := 129) d_prog_107_method_2_127 rfl rfl ?_
                  have hq : (7 : Int32) = own_want (5 : Int32) (0 : Int32) q x0 x1 x2 x3 x4 := by unfold own_want; (repeat' split) <;> first | rfl | (exfalso; omega) | omega
                  exact Own.ireturnI d_prog_107_method_2_129 rfl (⟨rfl, _, rfl, hq⟩) (by decide) (by decide)
                · refine Own.iconst (pc' := 101) (v := (2 : Int32)) d_prog_107_method_2_100 (by decide) rfl ?_
                  refine Own.iload (pc' := 103) d_prog_107_method_2_101 rfl rfl ?_
                  refine Own.imulE (pc' := 104) d_prog_107_method_2_103 rfl (z := (14 : Int32)) (by decide) ?_
                  refine Own.goto (pc' := 113) d_prog_107_method_2_104 (by decide) (by decide) ?_
                  refine Own.istore (pc' := 115) (L1 := #[.val (.ref a), .val (.int (0 : Int32)), .val (.long q), .second, .val (.int (14 : Int32)), .val (.int (5 : Int32))]) d_prog_107_method_2_113 rfl rfl ?_
                  refine Own.goto (pc' := 77) d_prog_107_method_2_115 (by decide) (by decide) ?_
                  refine Own.iload (pc' := 79) d_prog_107_method_2_77 rfl rfl ?_
                  refine Own.aloadN (pc' := 80) d_prog_107_method_2_79 rfl rfl rfl ?_
                  refine Own.getfield (pc' := 83) d_prog_107_method_2_80 rfl (host := "") (Or.inl (hw _ (List.mem_of_getElem? (i := 10) rfl))) Via.refl F_leaves ?_
                  refine Own.icmp_ge (pc' := 118) (pc2 := 86) d_prog_107_method_2_83 (by decide) (by decide) rfl (fun _ => ?_) (fun q => absurd (by decide) q)
                  refine Own.iload (pc' := 120) d_prog_107_method_2_118 rfl rfl ?_
                  refine Own.aloadN (pc' := 121) d_prog_107_method_2_120 rfl rfl rfl ?_
                  refine Own.getfield (pc' := 124) d_prog_107_method_2_121 rfl (host := "") (Or.inl (hw _ (List.mem_of_getElem? (i := 10) rfl))) Via.refl F_leaves ?_
                  refine Own.isubE (pc' := 125) d_prog_107_method_2_124 rfl (z := (6 : Int32)) (by decide) ?_
                  refine Own.istore (pc' := 127) (L1 := #[.val (.ref a), .val (.int (0 : Int32)), .val (.long q), .second, .val (.int (14 : Int32)), .val (.int (6 : Int32))]) d_prog_107_method_2_125 rfl rfl ?_
                  refine Own.iload (pc' := 129) d_prog_107_method_2_127 rfl rfl ?_
                  have hq : (6 : Int32) = own_want (5 : Int32) (0 : Int32) q x0 x1 x2 x3 x4 := by unfold own_want; (repeat' split) <;> first | rfl | (exfalso; omega) | omega
                  exact Own.ireturnI d_prog_107_method_2_129 rfl (⟨rfl, _, rfl, hq⟩) (by decide) (by decide)
              · refine Own.iconst (pc' := 101) (v := (2 : Int32)) d_prog_107_method_2_100 (by decide) rfl ?_
                refine Own.iload (pc' := 103) d_prog_107_method_2_101 rfl rfl ?_
                refine Own.imulE (pc' := 104) d_prog_107_method_2_103 rfl (z := (6 : Int32)) (by decide) ?_
                refine Own.goto (pc' := 113) d_prog_107_method_2_104 (by decide) (by decide) ?_
                refine Own.istore (pc' := 115) (L1 := #[.val (.ref a), .val (.int (0 : Int32)), .val (.long q), .second, .val (.int (6 : Int32)), .val (.int (5 : Int32))]) d_prog_107_method_2_113 rfl rfl ?_
                refine Own.goto (pc' := 77) d_prog_107_method_2_115 (by decide) (by decide) ?_
                refine Own.iload (pc' := 79) d_prog_107_method_2_77 rfl rfl ?_
                refine Own.aloadN (pc' := 80) d_prog_107_method_2_79 rfl rfl rfl ?_
                refine Own.getfield (pc' := 83) d_prog_107_method_2_80 rfl (host := "") (Or.inl (hw _ (List.mem_of_getElem? (i := 10) rfl))) Via.refl F_leaves ?_
                refine Own.icmp_ge (pc' := 118) (pc2 := 86) d_prog_107_method_2_83 (by decide) (by decide) rfl (fun q => absurd q (by decide)) (fun _ => ?_)
                refine Own.aloadN (pc' := 87) d_prog_107_method_2_86 rfl rfl rfl ?_
                refine Own.getfield (pc' := 90) d_prog_107_method_2_87 rfl (host := "") (Or.inl (hw _ (List.mem_of_getElem? (i := 14) rfl))) Via.refl F_nodes ?_
                refine Own.iconst (pc' := 91) (v := (2 : Int32)) d_prog_107_method_2_90 (by decide) rfl ?_
                refine Own.iload (pc' := 93) d_prog_107_method_2_91 rfl rfl ?_
                refine Own.imulE (pc' := 94) d_prog_107_method_2_93 rfl (z := (12 : Int32)) (by decide) ?_
                refine Own.laload (pc' := 95) (i := 12) d_prog_107_method_2_94 rfl A (by decide) (by decide) ?_
                rw [own_nd5_12]
                show Go K _ _ _ _ _ _ _ _ _ 0 0 h 95 #[.val (.ref a), .val (.int (0 : Int32)), .val (.long q), .second, .val (.int (6 : Int32)), .val (.int (5 : Int32))] [(.long x4)]
                refine Own.lloadN (pc' := 96) d_prog_107_method_2_95 rfl rfl ?_
                refine Own.lcmp_lt (pc1 := 97) (pc' := 107) (pc2 := 100) d_prog_107_method_2_96 rfl d_prog_107_method_2_97 (by decide) (by decide) rfl (fun c96_823 => ?_) (fun c96_823 => ?_)
                · refine Own.iconst (pc' := 108) (v := (2 : Int32)) d_prog_107_method_2_107 (by decide) rfl ?_
                  refine Own.iload (pc' := 110) d_prog_107_method_2_108 rfl rfl ?_
                  refine Own.imulE (pc' := 111) d_prog_107_method_2_110 rfl (z := (12 : Int32)) (by decide) ?_
                  refine Own.iconst (pc' := 112) (v := (1 : Int32)) d_prog_107_method_2_111 (by decide) rfl ?_
                  refine Own.iaddE (pc' := 113) d_prog_107_method_2_112 rfl (z := (13 : Int32)) (by decide) ?_
                  refine Own.istore (pc' := 115) (L1 := #[.val (.ref a), .val (.int (0 : Int32)), .val (.long q), .second, .val (.int (13 : Int32)), .val (.int (5 : Int32))]) d_prog_107_method_2_113 rfl rfl ?_
                  refine Own.goto (pc' := 77) d_prog_107_method_2_115 (by decide) (by decide) ?_
                  refine Own.iload (pc' := 79) d_prog_107_method_2_77 rfl rfl ?_
                  refine Own.aloadN (pc' := 80) d_prog_107_method_2_79 rfl rfl rfl ?_
                  refine Own.getfield (pc' := 83) d_prog_107_method_2_80 rfl (host := "") (Or.inl (hw _ (List.mem_of_getElem? (i := 10) rfl))) Via.refl F_leaves ?_
                  refine Own.icmp_ge (pc' := 118) (pc2 := 86) d_prog_107_method_2_83 (by decide) (by decide) rfl (fun _ => ?_) (fun q => absurd (by decide) q)
                  refine Own.iload (pc' := 120) d_prog_107_method_2_118 rfl rfl ?_
                  refine Own.aloadN (pc' := 121) d_prog_107_method_2_120 rfl rfl rfl ?_
                  refine Own.getfield (pc' := 124) d_prog_107_method_2_121 rfl (host := "") (Or.inl (hw _ (List.mem_of_getElem? (i := 10) rfl))) Via.refl F_leaves ?_
                  refine Own.isubE (pc' := 125) d_prog_107_method_2_124 rfl (z := (5 : Int32)) (by decide) ?_
                  refine Own.istore (pc' := 127) (L1 := #[.val (.ref a), .val (.int (0 : Int32)), .val (.long q), .second, .val (.int (13 : Int32)), .val (.int (5 : Int32))]) d_prog_107_method_2_125 rfl rfl ?_
                  refine Own.iload (pc' := 129) d_prog_107_method_2_127 rfl rfl ?_
                  have hq : (5 : Int32) = own_want (5 : Int32) (0 : Int32) q x0 x1 x2 x3 x4 := by unfold own_want; (repeat' split) <;> first | rfl | (exfalso; omega) | omega
                  exact Own.ireturnI d_prog_107_method_2_129 rfl (⟨rfl, _, rfl, hq⟩) (by decide) (by decide)
                · refine Own.iconst (pc' := 101) (v := (2 : Int32)) d_prog_107_method_2_100 (by decide) rfl ?_
                  refine Own.iload (pc' := 103) d_prog_107_method_2_101 rfl rfl ?_
                  refine Own.imulE (pc' := 104) d_prog_107_method_2_103 rfl (z := (12 : Int32)) (by decide) ?_
                  refine Own.goto (pc' := 113) d_prog_107_method_2_104 (by decide) (by decide) ?_
                  refine Own.istore (pc' := 115) (L1 := #[.val (.ref a), .val (.int (0 : Int32)), .val (.long q), .second, .val (.int (12 : Int32)), .val (.int (5 : Int32))]) d_prog_107_method_2_113 rfl rfl ?_
                  refine Own.goto (pc' := 77) d_prog_107_method_2_115 (by decide) (by decide) ?_
                  refine Own.iload (pc' := 79) d_prog_107_method_2_77 rfl rfl ?_
                  refine Own.aloadN (pc' := 80) d_prog_107_method_2_79 rfl rfl rfl ?_
                  refine Own.getfield (pc' := 83) d_prog_107_method_2_80 rfl (host := "") (Or.inl (hw _ (List.mem_of_getElem? (i := 10) rfl))) Via.refl F_leaves ?_
                  refine Own.icmp_ge (pc' := 118) (pc2 := 86) d_prog_107_method_2_83 (by decide) (by decide) rfl (fun _ => ?_) (fun q => absurd (by decide) q)
                  refine Own.iload (pc' := 120) d_prog_107_method_2_118 rfl rfl ?_
                  refine Own.aloadN (pc' := 121) d_prog_107_method_2_120 rfl rfl rfl ?_
                  refine Own.getfield (pc' := 124) d_prog_107_method_2_121 rfl (host := "") (Or.inl (hw _ (List.mem_of_getElem? (i := 10) rfl))) Via.refl F_leaves ?_
                  refine Own.isubE (pc' := 125) d_prog_107_method_2_124 rfl (z := (4 : Int32)) (by decide) ?_
                  refine Own.istore (pc' := 127) (L1 := #[.val (.ref a), .val (.int (0 : Int32)), .val (.long q), .second, .val (.int (12 : Int32)), .val (.int (4 : Int32))]) d_prog_107_method_2_125 rfl rfl ?_
                  refine Own.iload (pc' := 129) d_prog_107_method_2_127 rfl rfl ?_
                  have hq : (4 : Int32) = own_want (5 : Int32) (0 : Int32) q x0 x1 x2 x3 x4 := by unfold own_want; (repeat' split) <;> first | rfl | (exfalso; omega) | omega
                  exact Own.ireturnI d_prog_107_method_2_129 rfl (⟨rfl, _, rfl, hq⟩) (by decide) (by decide)
            · refine Own.iload (pc' := 40) d_prog_107_method_2_38 rfl rfl ?_
              refine Own.iconst (pc' := 41) (v := (2 : Int32)) d_prog_107_method_2_40 (by decide) rfl ?_
              refine Own.iremE (pc' := 42) d_prog_107_method_2_41 (by decide) rfl (z := (1 : Int32)) (by decide) ?_
              refine Own.iconst (pc' := 43) (v := (1 : Int32)) d_prog_107_method_2_42 (by decide) rfl ?_
              refine Own.icmp_ne (pc' := 55) (pc2 := 46) d_prog_107_method_2_43 (by decide) (by decide) rfl (fun q => absurd q (by decide)) (fun _ => ?_)
              refine Own.iload (pc' := 48) d_prog_107_method_2_46 rfl rfl ?_
              refine Own.iconst (pc' := 49) (v := (2 : Int32)) d_prog_107_method_2_48 (by decide) rfl ?_
              refine Own.idivE (pc' := 50) d_prog_107_method_2_49 (by decide) rfl (z := (1 : Int32)) (by decide) ?_
              refine Own.istore (pc' := 52) (L1 := #[.val (.ref a), .val (.int (0 : Int32)), .val (.long q), .second, .val (.int (1 : Int32)), .unset]) d_prog_107_method_2_50 rfl rfl ?_
              refine Own.goto (pc' := 38) d_prog_107_method_2_52 (by decide) (by decide) ?_
              refine Own.iload (pc' := 40) d_prog_107_method_2_38 rfl rfl ?_
              refine Own.iconst (pc' := 41) (v := (2 : Int32)) d_prog_107_method_2_40 (by decide) rfl ?_
              refine Own.iremE (pc' := 42) d_prog_107_method_2_41 (by decide) rfl (z := (1 : Int32)) (by decide) ?_
              refine Own.iconst (pc' := 43) (v := (1 : Int32)) d_prog_107_method_2_42 (by decide) rfl ?_
              refine Own.icmp_ne (pc' := 55) (pc2 := 46) d_prog_107_method_2_43 (by decide) (by decide) rfl (fun q => absurd q (by decide)) (fun _ => ?_)
              refine Own.iload (pc' := 48) d_prog_107_method_2_46 rfl rfl ?_
              refine Own.iconst (pc' := 49) (v := (2 : Int32)) d_prog_107_method_2_48 (by decide) rfl ?_
              refine Own.idivE (pc' := 50) d_prog_107_method_2_49 (by decide) rfl (z := (0 : Int32)) (by decide) ?_
              refine Own.istore (pc' := 52) (L1 := #[.val (.ref a), .val (.int (0 : Int32)), .val (.long q), .second, .val (.int (0 : Int32)), .unset]) d_prog_107_method_2_50 rfl rfl ?_
              refine Own.goto (pc' := 38) d_prog_107_method_2_52 (by decide) (by decide) ?_
              refine Own.iload (pc' := 40) d_prog_107_method_2_38 rfl rfl ?_
              refine Own.iconst (pc' := 41) (v := (2 : Int32)) d_prog_107_method_2_40 (by decide) rfl ?_
              refine Own.iremE (pc' := 42) d_prog_107_method_2_41 (by decide) rfl (z := (0 : Int32)) (by decide) ?_
              refine Own.iconst (pc' := 43) (v := (1 : Int32)) d_prog_107_method_2_42 (by decide) rfl ?_
              refine Own.icmp_ne (pc' := 55) (pc2 := 46) d_prog_107_method_2_43 (by decide) (by decide) rfl (fun _ => ?_) (fun q => absurd (by decide) q)
              refine Own.iload (pc' := 57) d_prog_107_method_2_55 rfl rfl ?_
              refine Own.if_le (pc' := 21) (pc2 := 60) d_prog_107_method_2_57 (by decide) (by decide) rfl (fun _ => ?_) (fun q => absurd (by decide) q)
              refine Own.iload (pc' := 23) d_prog_107_method_2_21 rfl rfl ?_
              refine Own.if_le (pc' := 66) (pc2 := 26) d_prog_107_method_2_23 (by decide) (by decide) rfl (fun _ => ?_) (fun q => absurd (by decide) q)
              refine Own.aloadN (pc' := 67) d_prog_107_method_2_66 rfl rfl rfl ?_
              refine Own.getfield (pc' := 70) d_prog_107_method_2_67 rfl (host := "") (Or.inl (hw _ (List.mem_of_getElem? (i := 12) rfl))) Via.refl F_count ?_
              refine Own.istore (pc' := 72) (L1 := #[.val (.ref a), .val (.int (0 : Int32)), .val (.long q), .second, .val (.int (0 : Int32)), .val (.int (5 : Int32))]) d_prog_107_method_2_70 rfl rfl ?_
              refine Own.iload (pc' := 74) d_prog_107_method_2_72 rfl rfl ?_
              refine Own.if_le (pc' := 127) (pc2 := 77) d_prog_107_method_2_74 (by decide) (by decide) rfl (fun _ => ?_) (fun q => absurd (by decide) q)
              refine Own.iload (pc' := 129) d_prog_107_method_2_127 rfl rfl ?_
              have hq : (5 : Int32) = own_want (5 : Int32) (0 : Int32) q x0 x1 x2 x3 x4 := by unfold own_want; (repeat' split) <;> first | rfl | (exfalso; omega) | omega
              exact Own.ireturnI d_prog_107_method_2_129 rfl (⟨rfl, _, rfl, hq⟩) (by decide) (by decide)
    · refine Own.aloadN (pc' := 14) d_prog_107_method_2_13 rfl rfl rfl ?_
      refine Own.getfield (pc' := 17) d_prog_107_method_2_14 rfl (host := "") (Or.inl (hw _ (List.mem_of_getElem? (i := 10) rfl))) Via.refl F_leaves ?_
      refine Own.iloadN (pc' := 18) d_prog_107_method_2_17 rfl rfl ?_
      refine Own.iaddE (pc' := 19) d_prog_107_method_2_18 rfl (z := (9 : Int32)) (by decide) ?_
      refine Own.istore (pc' := 21) (L1 := #[.val (.ref a), .val (.int (1 : Int32)), .val (.long q), .second, .val (.int (9 : Int32)), .unset]) d_prog_107_method_2_19 rfl rfl ?_
      refine Own.iload (pc' := 23) d_prog_107_method_2_21 rfl rfl ?_
      refine Own.if_le (pc' := 66) (pc2 := 26) d_prog_107_method_2_23 (by decide) (by decide) rfl (fun q => absurd q (by decide)) (fun _ => ?_)
      refine Own.aloadN (pc' := 27) d_prog_107_method_2_26 rfl rfl rfl ?_
      refine Own.getfield (pc' := 30) d_prog_107_method_2_27 rfl (host := "") (Or.inl (hw _ (List.mem_of_getElem? (i := 14) rfl))) Via.refl F_nodes ?_
      refine Own.iload (pc' := 32) d_prog_107_method_2_30 rfl rfl ?_
      refine Own.laload (pc' := 33) (i := 9) d_prog_107_method_2_32 rfl A (by decide) (by decide) ?_
      rw [own_nd5_9]
      show Go K _ _ _ _ _ _ _ _ _ 0 0 h 33 #[.val (.ref a), .val (.int (1 : Int32)), .val (.long q), .second, .val (.int (9 : Int32)), .unset] [(.long x1)]
      refine Own.lloadN (pc' := 34) d_prog_107_method_2_33 rfl rfl ?_
      refine Own.lcmp_ge (pc1 := 35) (pc' := 66) (pc2 := 38) d_prog_107_method_2_34 rfl d_prog_107_method_2_35 (by decide) (by decide) rfl (fun c34_844 => ?_) (fun c34_844 => ?_)
      · refine Own.aloadN (pc' := 67) d_prog_107_method_2_66 rfl rfl rfl ?_
        refine Own.getfield (pc' := 70) d_prog_107_method_2_67 rfl (host := "") (Or.inl (hw _ (List.mem_of_getElem? (i := 12) rfl))) Via.refl F_count ?_
        refine Own.istore (pc' := 72) (L1 := #[.val (.ref a), .val (.int (1 : Int32)), .val (.long q), .second, .val (.int (9 : Int32)), .val (.int (5 : Int32))]) d_prog_107_method_2_70 rfl rfl ?_
        refine Own.iload (pc' := 74) d_prog_107_method_2_72 rfl rfl ?_
        refine Own.if_le (pc' := 127) (pc2 := 77) d_prog_107_method_2_74 (by decide) (by decide) rfl (fun q => absurd q (by decide)) (fun _ => ?_)
        refine Own.iload (pc' := 79) d_prog_107_method_2_77 rfl rfl ?_
        refine Own.aloadN (pc' := 80) d_prog_107_method_2_79 rfl rfl rfl ?_
        refine Own.getfield (pc' := 83) d_prog_107_method_2_80 rfl (host := "") (Or.inl (hw _ (List.mem_of_getElem? (i := 10) rfl))) Via.refl F_leaves ?_
        refine Own.icmp_ge (pc' := 118) (pc2 := 86) d_prog_107_method_2_83 (by decide) (by decide) rfl (fun _ => ?_) (fun q => absurd (by decide) q)
        refine Own.iload (pc' := 120) d_prog_107_method_2_118 rfl rfl ?_
        refine Own.aloadN (pc' := 121) d_prog_107_method_2_120 rfl rfl rfl ?_
        refine Own.getfield (pc' := 124) d_prog_107_method_2_121 rfl (host := "") (Or.inl (hw _ (List.mem_of_getElem? (i := 10) rfl))) Via.refl F_leaves ?_
        refine Own.isubE (pc' := 125) d_prog_107_method_2_124 rfl (z := (1 : Int32)) (by decide) ?_
        refine Own.istore (pc' := 127) (L1 := #[.val (.ref a), .val (.int (1 : Int32)), .val (.long q), .second, .val (.int (9 : Int32)), .val (.int (1 : Int32))]) d_prog_107_method_2_125 rfl rfl ?_
        refine Own.iload (pc' := 129) d_prog_107_method_2_127 rfl rfl ?_
        have hq : (1 : Int32) = own_want (5 : Int32) (1 : Int32) q x0 x1 x2 x3 x4 := by unfold own_want; (repeat' split) <;> first | rfl | (exfalso; omega) | omega
        exact Own.ireturnI d_prog_107_method_2_129 rfl (⟨rfl, _, rfl, hq⟩) (by decide) (by decide)
      · refine Own.iload (pc' := 40) d_prog_107_method_2_38 rfl rfl ?_
        refine Own.iconst (pc' := 41) (v := (2 : Int32)) d_prog_107_method_2_40 (by decide) rfl ?_
        refine Own.iremE (pc' := 42) d_prog_107_method_2_41 (by decide) rfl (z := (1 : Int32)) (by decide) ?_
        refine Own.iconst (pc' := 43) (v := (1 : Int32)) d_prog_107_method_2_42 (by decide) rfl ?_
        refine Own.icmp_ne (pc' := 55) (pc2 := 46) d_prog_107_method_2_43 (by decide) (by decide) rfl (fun q => absurd q (by decide)) (fun _ => ?_)
        refine Own.iload (pc' := 48) d_prog_107_method_2_46 rfl rfl ?_
        refine Own.iconst (pc' := 49) (v := (2 : Int32)) d_prog_107_method_2_48 (by decide) rfl ?_
        refine Own.idivE (pc' := 50) d_prog_107_method_2_49 (by decide) rfl (z := (4 : Int32)) (by decide) ?_
        refine Own.istore (pc' := 52) (L1 := #[.val (.ref a), .val (.int (1 : Int32)), .val (.long q), .second, .val (.int (4 : Int32)), .unset]) d_prog_107_method_2_50 rfl rfl ?_
        refine Own.goto (pc' := 38) d_prog_107_method_2_52 (by decide) (by decide) ?_
        refine Own.iload (pc' := 40) d_prog_107_method_2_38 rfl rfl ?_
        refine Own.iconst (pc' := 41) (v := (2 : Int32)) d_prog_107_method_2_40 (by decide) rfl ?_
        refine Own.iremE (pc' := 42) d_prog_107_method_2_41 (by decide) rfl (z := (0 : Int32)) (by decide) ?_
        refine Own.iconst (pc' := 43) (v := (1 : Int32)) d_prog_107_method_2_42 (by decide) rfl ?_
        refine Own.icmp_ne (pc' := 55) (pc2 := 46) d_prog_107_method_2_43 (by decide) (by decide) rfl (fun _ => ?_) (fun q => absurd (by decide) q)
        refine Own.iload (pc' := 57) d_prog_107_method_2_55 rfl rfl ?_
        refine Own.if_le (pc' := 21) (pc2 := 60) d_prog_107_method_2_57 (by decide) (by decide) rfl (fun q => absurd q (by decide)) (fun _ => ?_)
        refine Own.iincE (pc' := 63) (L1 := fun zz => #[.val (.ref a), .val (.int (1 : Int32)), .val (.long q), .second, .val (.int zz), .unset]) d_prog_107_method_2_60 rfl (fun _ => rfl) rfl (z := (5 : Int32)) (by decide) ?_
        show Go K _ _ _ _ _ _ _ _ _ 0 0 h 63 #[.val (.ref a), .val (.int (1 : Int32)), .val (.long q), .second, .val (.int (5 : Int32)), .unset] []
        refine Own.goto (pc' := 21) d_prog_107_method_2_63 (by decide) (by decide) ?_
        refine Own.iload (pc' := 23) d_prog_107_method_2_21 rfl rfl ?_
        refine Own.if_le (pc' := 66) (pc2 := 26) d_prog_107_method_2_23 (by decide) (by decide) rfl (fun q => absurd q (by decide)) (fun _ => ?_)
        refine Own.aloadN (pc' := 27) d_prog_107_method_2_26 rfl rfl rfl ?_
        refine Own.getfield (pc' := 30) d_prog_107_method_2_27 rfl (host := "") (Or.inl (hw _ (List.mem_of_getElem? (i := 14) rfl))) Via.refl F_nodes ?_
        refine Own.iload (pc' := 32) d_prog_107_method_2_30 rfl rfl ?_
        refine Own.laload (pc' := 33) (i := 5) d_prog_107_method_2_32 rfl A (by decide) (by decide) ?_
        rw [own_nd5_5]
        show Go K _ _ _ _ _ _ _ _ _ 0 0 h 33 #[.val (.ref a), .val (.int (1 : Int32)), .val (.long q), .second, .val (.int (5 : Int32)), .unset] [(.long (own_max x2 x3))]
        refine Own.lloadN (pc' := 34) d_prog_107_method_2_33 rfl rfl ?_
        refine Own.lcmp_ge (pc1 := 35) (pc' := 66) (pc2 := 38) d_prog_107_method_2_34 rfl d_prog_107_method_2_35 (by decide) (by decide) rfl (fun c34_856 => ?_) (fun c34_856 => ?_)
        · refine Own.aloadN (pc' := 67) d_prog_107_method_2_66 rfl rfl rfl ?_
          refine Own.getfield (pc' := 70) d_prog_107_method_2_67 rfl (host := "") (Or.inl (hw _ (List.mem_of_getElem? (i := 12) rfl))) Via.refl F_count ?_
          refine Own.istore (pc' := 72) (L1 := #[.val (.ref a), .val (.int (1 : Int32)), .val (.long q), .second, .val (.int (5 : Int32)), .val (.int (5 : Int32))]) d_prog_107_method_2_70 rfl rfl ?_
          refine Own.iload (pc' := 74) d_prog_107_method_2_72 rfl rfl ?_
          refine Own.if_le (pc' := 127) (pc2 := 77) d_prog_107_method_2_74 (by decide) (by decide) rfl (fun q => absurd q (by decide)) (fun _ => ?_)
          refine Own.iload (pc' := 79) d_prog_107_method_2_77 rfl rfl ?_
          refine Own.aloadN (pc' := 80) d_prog_107_method_2_79 rfl rfl rfl ?_
          refine Own.getfield (pc' := 83) d_prog_107_method_2_80 rfl (host := "") (Or.inl (hw _ (List.mem_of_getElem? (i := 10) rfl))) Via.refl F_leaves ?_
          refine Own.icmp_ge (pc' := 118) (pc2 := 86) d_prog_107_method_2_83 (by decide) (by decide) rfl (fun q => absurd q (by decide)) (fun _ => ?_)
          refine Own.aloadN (pc' := 87) d_prog_107_method_2_86 rfl rfl rfl ?_
          refine Own.getfield (pc' := 90) d_prog_107_method_2_87 rfl (host := "") (Or.inl (hw _ (List.mem_of_getElem? (i := 14) rfl))) Via.refl F_nodes ?_
          refine Own.iconst (pc' := 91) (v := (2 : Int32)) d_prog_107_method_2_90 (by decide) rfl ?_
          refine Own.iload (pc' := 93) d_prog_107_method_2_91 rfl rfl ?_
          refine Own.imulE (pc' := 94) d_prog_107_method_2_93 rfl (z := (10 : Int32)) (by decide) ?_
          refine Own.laload (pc' := 95) (i := 10) d_prog_107_method_2_94 rfl A (by decide) (by decide) ?_
          rw [own_nd5_10]
          show Go K _ _ _ _ _ _ _ _ _ 0 0 h 95 #[.val (.ref a), .val (.int (1 : Int32)), .val (.long q), .second, .val (.int (5 : Int32)), .val (.int (5 : Int32))] [(.long x2)]
          refine Own.lloadN (pc' := 96) d_prog_107_method_2_95 rfl rfl ?_
          refine Own.lcmp_lt (pc1 := 97) (pc' := 107) (pc2 := 100) d_prog_107_method_2_96 rfl d_prog_107_method_2_97 (by decide) (by decide) rfl (fun c96_860 => ?_) (fun c96_860 => ?_)
          · refine Own.iconst (pc' := 108) (v := (2 : Int32)) d_prog_107_method_2_107 (by decide) rfl ?_
            refine Own.iload (pc' := 110) d_prog_107_method_2_108 rfl rfl ?_
            refine Own.imulE (pc' := 111) d_prog_107_method_2_110 rfl (z := (10 : Int32)) (by decide) ?_
            refine Own.iconst (pc' := 112) (v := (1 : Int32)) d_prog_107_method_2_111 (by decide) rfl ?_
            refine Own.iaddE (pc' := 113) d_prog_107_method_2_112 rfl (z := (11 : Int32)) (by decide) ?_
            refine Own.istore (pc' := 115) (L1 := #[.val (.ref a), .val (.int (1 : Int32)), .val (.long q), .second, .val (.int (11 : Int32)), .val (.int (5 : Int32))]) d_prog_107_method_2_113 rfl rfl ?_
            refine Own.goto (pc' := 77) d_prog_107_method_2_115 (by decide) (by decide) ?_
            refine Own.iload (pc' := 79) d_prog_107_method_2_77 rfl rfl ?_
            refine Own.aloadN (pc' := 80) d_prog_107_method_2_79 rfl rfl rfl ?_
            refine Own.getfield (pc' := 83) d_prog_107_method_2_80 rfl (host := "") (Or.inl (hw _ (List.mem_of_getElem? (i := 10) rfl))) Via.refl F_leaves ?_
            refine Own.icmp_ge (pc' := 118) (pc2 := 86) d_prog_107_method_2_83 (by decide) (by decide) rfl (fun _ => ?_) (fun q => absurd (by decide) q)
            refine Own.iload (pc' := 120) d_prog_107_method_2_118 rfl rfl ?_
            refine Own.aloadN (pc' := 121) d_prog_107_method_2_120 rfl rfl rfl ?_
            refine Own.getfield (pc' := 124) d_prog_107_method_2_121 rfl (host := "") (Or.inl (hw _ (List.mem_of_getElem? (i := 10) rfl))) Via.refl F_leaves ?_
            refine Own.isubE (pc' := 125) d_prog_107_method_2_124 rfl (z := (3 : Int32)) (by decide) ?_
            refine Own.istore (pc' := 127) (L1 := #[.val (.ref a), .val (.int (1 : Int32)), .val (.long q), .second, .val (.int (11 : Int32)), .val (.int (3 : Int32))]) d_prog_107_method_2_125 rfl rfl ?_
            refine Own.iload (pc' := 129) d_prog_107_method_2_127 rfl rfl ?_
            have hq : (3 : Int32) = own_want (5 : Int32) (1 : Int32) q x0 x1 x2 x3 x4 := by unfold own_want; (repeat' split) <;> first | rfl | (exfalso; omega) | omega
            exact Own.ireturnI d_prog_107_method_2_129 rfl (⟨rfl, _, rfl, hq⟩) (by decide) (by decide)
          · refine Own.iconst (pc' := 101) (v := (2 : Int32)) d_prog_107_method_2_100 (by decide) rfl ?_
            refine Own.iload (pc' := 103) d_prog_107_method_2_101 rfl rfl ?_
            refine Own.imulE (pc' := 104) d_prog_107_method_2_103 rfl (z := (10 : Int32)) (by decide) ?_
            refine Own.goto (pc' := 113) d_prog_107_method_2_104 (by decide) (by decide) ?_
            refine Own.istore (pc' := 115) (L1 := #[.val (.ref a), .val (.int (1 : Int32)), .val (.long q), .second, .val (.int (10 : Int32)), .val (.int (5 : Int32))]) d_prog_107_method_2_113 rfl rfl ?_
            refine Own.goto (pc' := 77) d_prog_107_method_2_115 (by decide) (by decide) ?_
            refine Own.iload (pc' := 79) d_prog_107_method_2_77 rfl rfl ?_
            refine Own.aloadN (pc' := 80) d_prog_107_method_2_79 rfl rfl rfl ?_
            refine Own.getfield (pc' := 83) d_prog_107_method_2_80 rfl (host := "") (Or.inl (hw _ (List.mem_of_getElem? (i := 10) rfl))) Via.refl F_leaves ?_
            refine Own.icmp_ge (pc' := 118) (pc2 := 86) d_prog_107_method_2_83 (by decide) (by decide) rfl (fun _ => ?_) (fun q => absurd (by decide) q)
            refine Own.iload (pc' := 120) d_prog_107_method_2_118 rfl rfl ?_
            refine Own.aloadN (pc' := 121) d_prog_107_method_2_120 rfl rfl rfl ?_
            refine Own.getfield (pc' := 124) d_prog_107_method_2_121 rfl (host := "") (Or.inl (hw _ (List.mem_of_getElem? (i := 10) rfl))) Via.refl F_leaves ?_
            refine Own.isubE (pc' := 125) d_prog_107_method_2_124 rfl (z := (2 : Int32)) (by decide) ?_
            refine Own.istore (pc' := 127) (L1 := #[.val (.ref a), .val (.int (1 : Int32)), .val (.long q), .second, .val (.int (10 : Int32)), .val (.int (2 : Int32))]) d_prog_107_method_2_125 rfl rfl ?_
            refine Own.iload (pc' := 129) d_prog_107_method_2_127 rfl rfl ?_
            have hq : (2 : Int32) = own_want (5 : Int32) (1 : Int32) q x0 x1 x2 x3 x4 := by unfold own_want; (repeat' split) <;> first | rfl | (exfalso; omega) | omega
            exact Own.ireturnI d_prog_107_method_2_129 rfl (⟨rfl, _, rfl, hq⟩) (by decide) (by decide)
        · refine Own.iload (pc' := 40) d_prog_107_method_2_38 rfl rfl ?_
          refine Own.iconst (pc' := 41) (v := (2 : Int32)) d_prog_107_method_2_40 (by decide) rfl ?_
          refine Own.iremE (pc' := 42) d_prog_107_method_2_41 (by decide) rfl (z := (1 : Int32)) (by decide) ?_
          refine Own.iconst (pc' := 43) (v := (1 : Int32)) d_prog_107_method_2_42 (by decide) rfl ?_
          refine Own.icmp_ne (pc' := 55) (pc2 := 46) d_prog_107_method_2_43 (by decide) (by decide) rfl (fun q => absurd q (by decide)) (fun _ => ?_)
          refine Own.iload (pc' := 48) d_prog_107_method_2_46 rfl rfl ?_
          refine Own.iconst (pc' := 49) (v := (2 : Int32)) d_prog_107_method_2_48 (by decide) rfl ?_
          refine Own.idivE (pc' := 50) d_prog_107_method_2_49 (by decide) rfl (z := (2 : Int32)) (by decide) ?_
          refine Own.istore (pc' := 52) (L1 := #[.val (.ref a), .val (.int (1 : Int32)), .val (.long q), .second, .val (.int (2 : Int32)), .unset]) d_prog_107_method_2_50 rfl rfl ?_
          refine Own.goto (pc' := 38) d_prog_107_method_2_52 (by decide) (by decide) ?_
          refine Own.iload (pc' := 40) d_prog_107_method_2_38 rfl rfl ?_
          refine Own.iconst (pc' := 41) (v := (2 : Int32)) d_prog_107_method_2_40 (by decide) rfl ?_
          refine Own.iremE (pc' := 42) d_prog_107_method_2_41 (by decide) rfl (z := (0 : Int32)) (by decide) ?_
          refine Own.iconst (pc' := 43) (v := (1 : Int32)) d_prog_107_method_2_42 (by decide) rfl ?_
          refine Own.icmp_ne (pc' := 55) (pc2 := 46) d_prog_107_method_2_43 (by decide) (by decide) rfl (fun _ => ?_) (fun q => absurd (by decide) q)
          refine Own.iload (pc' := 57) d_prog_107_method_2_55 rfl rfl ?_
          refine Own.if_le (pc' := 21) (pc2 := 60) d_prog_107_method_2_57 (by decide) (by decide) rfl (fun q => absurd q (by decide)) (fun _ => ?_)
          refine Own.iincE (pc' := 63) (L1 := fun zz => #[.val (.ref a), .val (.int (1 : Int32)), .val (.long q), .second, .val (.int zz), .unset]) d_prog_107_method_2_60 rfl (fun _ => rfl) rfl (z := (3 : Int32)) (by decide) ?_
          show Go K _ _ _ _ _ _ _ _ _ 0 0 h 63 #[.val (.ref a), .val (.int (1 : Int32)), .val (.long q), .second, .val (.int (3 : Int32)), .unset] []
          refine Own.goto (pc' := 21) d_prog_107_method_2_63 (by decide) (by decide) ?_
          refine Own.iload (pc' := 23) d_prog_107_method_2_21 rfl rfl ?_
          refine Own.if_le (pc' := 66) (pc2 := 26) d_prog_107_method_2_23 (by decide) (by decide) rfl (fun q => absurd q (by decide)) (fun _ => ?_)
          refine Own.aloadN (pc' := 27) d_prog_107_method_2_26 rfl rfl rfl ?_
          refine Own.getfield (pc' := 30) d_prog_107_method_2_27 rfl (host := "") (Or.inl (hw _ (List.mem_of_getElem? (i := 14) rfl))) Via.refl F_nodes ?_
          refine Own.iload (pc' := 32) d_prog_107_method_2_30 rfl rfl ?_
          refine Own.laload (pc' := 33) (i := 3) d_prog_107_method_2_32 rfl A (by decide) (by decide) ?_
          rw [own_nd5_3]
          show Go K _ _ _ _ _ _ _ _ _ 0 0 h 33 #[.val (.ref a), .val (.int (1 : Int32)), .val (.long q), .second, .val (.int (3 : Int32)), .unset] [(.long (own_max (own_max x4 (0 : Int64)) (own_max (0 : Int64) (0 : Int64))))]
          refine Own.lloadN (pc' := 34) d_prog_107_method_2_33 rfl rfl ?_
          refine Own.lcmp_ge (pc1 := 35) (pc' := 66) (pc2 := 38) d_prog_107_method_2_34 rfl d_prog_107_method_2_35 (by decide) (by decide) rfl (fun c34_876 => ?_) (fun c34_876 => ?_)
          · refine Own.aloadN (pc' := 67) d_prog_107_method_2_66 rfl rfl rfl ?_
            refine Own.getfield (pc' := 70) d_prog_107_method_2_67 rfl (host := "") (Or.inl (hw _ (List.mem_of_getElem? (i := 12) rfl))) Via.refl F_count ?_
            refine Own.istore (pc' := 72) (L1 := #[.val (.ref a), .val (.int (1 : Int32)), .val (.long q), .second, .val (.int (3 : Int32)), .val (.int (5 : Int32))]) d_prog_107_method_2_70 rfl rfl ?_
            refine Own.iload (pc' := 74) d_prog_107_method_2_72 rfl rfl ?_
            refine Own.if_le (pc' := 127) (pc2 := 77) d_prog_107_method_2_74 (by decide) (by decide) rfl (fun q => absurd q (by decide)) (fun _ => ?_)
            refine Own.iload (pc' := 79) d_prog_107_method_2_77 rfl rfl ?_
            refine Own.aloadN (pc' := 80) d_prog_107_method_2_79 rfl rfl rfl ?_
            refine Own.getfield (pc' := 83) d_prog_107_method_2_80 rfl (host := "") (Or.inl (hw _ (List.mem_of_getElem? (i := 10) rfl))) Via.refl F_leaves ?_
            refine Own.icmp_ge (pc' := 118) (pc2 := 86) d_prog_107_method_2_83 (by decide) (by decide) rfl (fun q => absurd q (by decide)) (fun _ => ?_)
            refine Own.aloadN (pc' := 87) d_prog_107_method_2_86 rfl rfl rfl ?_
            refine Own.getfield (pc' := 90) d_prog_107_method_2_87 rfl (host := "") (Or.inl (hw _ (List.mem_of_getElem? (i := 14) rfl))) Via.refl F_nodes ?_
            refine Own.iconst (pc' := 91) (v := (2 : Int32)) d_prog_107_method_2_90 (by decide) rfl ?_
            refine Own.iload (pc' := 93) d_prog_107_method_2_91 rfl rfl ?_
            refine Own.imulE (pc' := 94) d_prog_107_method_2_93 rfl (z := (6 : Int32)) (by decide) ?_
            refine Own.laload (pc' := 95) (i := 6) d_prog_107_method_2_94 rfl A (by decide) (by decide) ?_
            rw [own_nd5_6]
            show Go K _ _ _ _ _ _ _ _ _ 0 0 h 95 #[.val (.ref a), .val (.int (1 : Int32)), .val (.long q), .second, .val (.int (3 : Int32)), .val (.int (5 : Int32))] [(.long (own_max x4 (0 : Int64)))]
            refine Own.lloadN (pc' := 96) d_prog_107_method_2_95 rfl rfl ?_
            refine Own.lcmp_lt (pc1 := 97) (pc' := 107) (pc2 := 100) d_prog_107_method_2_96 rfl d_prog_107_method_2_97 (by decide) (by decide) rfl (fun c96_880 => ?_) (fun c96_880 => ?_)
            · refine Own.iconst (pc' := 108) (v := (2 : Int32)) d_prog_107_method_2_107 (by decide) rfl ?_
              refine Own.iload (pc' := 110) d_prog_107_method_2_108 rfl rfl ?_
              refine Own.imulE (pc' := 111) d_prog_107_method_2_110 rfl (z := (6 : Int32)) (by decide) ?_
              refine Own.iconst (pc' := 112) (v := (1 : Int32)) d_prog_107_method_2_111 (by decide) rfl ?_
              refine Own.iaddE (pc' := 113) d_prog_107_method_2_112 rfl (z := (7 : Int32)) (by decide) ?_
              refine Own.istore (pc' := 115) (L1 := #[.val (.ref a), .val (.int (1 : Int32)), .val (.long q), .second, .val (.int (7 : Int32)), .val (.int (5 : Int32))]) d_prog_107_method_2_113 rfl rfl ?_
              refine Own.goto (pc' := 77) d_prog_107_method_2_115 (by decide) (by decide) ?_
              refine Own.iload (pc' := 79) d_prog_107_method_2_77 rfl rfl ?_
              refine Own.aloadN (pc' := 80) d_prog_107_method_2_79 rfl rfl rfl ?_
              refine Own.getfield (pc' := 83) d_prog_107_method_2_80 rfl (host := "") (Or.inl (hw _ (List.mem_of_getElem? (i := 10) rfl))) Via.refl F_leaves ?_
              refine Own.icmp_ge (pc' := 118) (pc2 := 86) d_prog_107_method_2_83 (by decide) (by decide) rfl (fun q => absurd q (by decide)) (fun _ => ?_)
              refine Own.aloadN (pc' := 87) d_prog_107_method_2_86 rfl rfl rfl ?_
              refine Own.getfield (pc' := 90) d_prog_107_method_2_87 rfl (host := "") (Or.inl (hw _ (List.mem_of_getElem? (i := 14) rfl))) Via.refl F_nodes ?_
              refine Own.iconst (pc' := 91) (v := (2 : Int32)) d_prog_107_method_2_90 (by decide) rfl ?_
              refine Own.iload (pc' := 93) d_prog_107_method_2_91 rfl rfl ?_
              refine Own.imulE (pc' := 94) d_prog_107_method_2_93 rfl (z := (14 : Int32)) (by decide) ?_
              refine Own.laload (pc' := 95) (i := 14) d_prog_107_method_2_94 rfl A (by decide) (by decide) ?_
              rw [own_nd5_14]
              show Go K _ _ _ _ _ _ _ _ _ 0 0 h 95 #[.val (.ref a), .val (.int (1 : Int32)), .val (.long q), .second, .val (.int (7 : Int32)), .val (.int (5 : Int32))] [(.long (0 : Int64))]
              refine Own.lloadN (pc' := 96) d_prog_107_method_2_95 rfl rfl ?_
              refine Own.lcmp_lt (pc1 := 97) (pc' := 107) (pc2 := 100) d_prog_107_method_2_96 rfl d_prog_107_method_2_97 (by decide) (by decide) rfl (fun c96_885 => ?_) (fun c96_885 => ?_)
              · refine Own.iconst (pc' := 108) (v := (2 : Int32)) d_prog_107_method_2_107 (by decide) rfl ?_
                refine Own.iload (pc' := 110) d_prog_107_method_2_108 rfl rfl ?_
                refine Own.imulE (pc' := 111) d_prog_107_method_2_110 rfl (z := (14 : Int32)) (by decide) ?_
                refine Own.iconst (pc' := 112) (v := (1 : Int32)) d_prog_107_method_2_111 (by decide) rfl ?_
                refine Own.iaddE (pc' := 113) d_prog_107_method_2_112 rfl (z := (15 : Int32)) (by decide) ?_
                refine Own.istore (pc' := 115) (L1 := #[.val (.ref a), .val (.int (1 : Int32)), .val (.long q), .second, .val (.int (15 : Int32)), .val (.int (5 : Int32))]) d_prog_107_method_2_113 rfl rfl ?_
                refine Own.goto (pc' := 77) d_prog_107_method_2_115 (by decide) (by decide) ?_
                refine Own.iload (pc' := 79) d_prog_107_method_2_77 rfl rfl ?_
                refine Own.aloadN (pc' := 80) d_prog_107_method_2_79 rfl rfl rfl ?_
                refine Own.getfield (pc' := 83) d_prog_107_method_2_80 rfl (host := "") (Or.inl (hw _ (List.mem_of_getElem? (i := 10) rfl))) Via.refl F_leaves ?_
                refine Own.icmp_ge (pc' := 118) (pc2 := 86) d_prog_107_method_2_83 (by decide) (by decide) rfl (fun _ => ?_) (fun q => absurd (by decide) q)
                refine Own.iload (pc' := 120) d_prog_107_method_2_118 rfl rfl ?_
                refine Own.aloadN (pc' := 121) d_prog_107_method_2_120 rfl rfl rfl ?_
                refine Own.getfield (pc' := 124) d_prog_107_method_2_121 rfl (host := "") (Or.inl (hw _ (List.mem_of_getElem? (i := 10) rfl))) Via.refl F_leaves ?_
                refine Own.isubE (pc' := 125) d_prog_107_method_2_124 rfl (z := (7 : Int32)) (by decide) ?_
                refine Own.istore (pc' := 127) (L1 := #[.val (.ref a), .val (.int (1 : Int32)), .val (.long q), .second, .val (.int (15 : Int32)), .val (.int (7 : Int32))]) d_prog_107_method_2_125 rfl rfl ?_
                refine Own.iload (pc' := 129) d_prog_107_method_2_127 rfl rfl ?_
                have hq : (7 : Int32) = own_want (5 : Int32) (1 : Int32) q x0 x1 x2 x3 x4 := by unfold own_want; (repeat' split) <;> first | rfl | (exfalso; omega) | omega
                exact Own.ireturnI d_prog_107_method_2_129 rfl (⟨rfl, _, rfl, hq⟩) (by decide) (by decide)
              · refine Own.iconst (pc' := 101) (v := (2 : Int32)) d_prog_107_method_2_100 (by decide) rfl ?_
                refine Own.iload (pc' := 103) d_prog_107_method_2_101 rfl rfl ?_
                refine Own.imulE (pc' := 104) d_prog_107_method_2_103 rfl (z := (14 : Int32)) (by decide) ?_
                refine Own.goto (pc' := 113) d_prog_107_method_2_104 (by decide) (by decide) ?_
                refine Own.istore (pc' := 115) (L1 := #[.val (.ref a), .val (.int (1 : Int32)), .val (.long q), .second, .val (.int (14 : Int32)), .val (.int (5 : Int32))]) d_prog_107_method_2_113 rfl rfl ?_
                refine Own.goto (pc' := 77) d_prog_107_method_2_115 (by decide) (by decide) ?_
                refine Own.iload (pc' := 79) d_prog_107_method_2_77 rfl rfl ?_
                refine Own.aloadN (pc' := 80) d_prog_107_method_2_79 rfl rfl rfl ?_
                refine Own.getfield (pc' := 83) d_prog_107_method_2_80 rfl (host := "") (Or.inl (hw _ (List.mem_of_getElem? (i := 10) rfl))) Via.refl F_leaves ?_
                refine Own.icmp_ge (pc' := 118) (pc2 := 86) d_prog_107_method_2_83 (by decide) (by decide) rfl (fun _ => ?_) (fun q => absurd (by decide) q)
                refine Own.iload (pc' := 120) d_prog_107_method_2_118 rfl rfl ?_
                refine Own.aloadN (pc' := 121) d_prog_107_method_2_120 rfl rfl rfl ?_
                refine Own.getfield (pc' := 124) d_prog_107_method_2_121 rfl (host := "") (Or.inl (hw _ (List.mem_of_getElem? (i := 10) rfl))) Via.refl F_leaves ?_
                refine Own.isubE (pc' := 125) d_prog_107_method_2_124 rfl (z := (6 : Int32)) (by decide) ?_
                refine Own.istore (pc' := 127) (L1 := #[.val (.ref a), .val (.int (1 : Int32)), .val (.long q), .second, .val (.int (14 : Int32)), .val (.int (6 : Int32))]) d_prog_107_method_2_125 rfl rfl ?_
                refine Own.iload (pc' := 129) d_prog_107_method_2_127 rfl rfl ?_
                have hq : (6 : Int32) = own_want (5 : Int32) (1 : Int32) q x0 x1 x2 x3 x4 := by unfold own_want; (repeat' split) <;> first | rfl | (exfalso; omega) | omega
                exact Own.ireturnI d_prog_107_method_2_129 rfl (⟨rfl, _, rfl, hq⟩) (by decide) (by decide)
            · refine Own.iconst (pc' := 101) (v := (2 : Int32)) d_prog_107_method_2_100 (by decide) rfl ?_
              refine Own.iload (pc' := 103) d_prog_107_method_2_101 rfl rfl ?_
              refine Own.imulE (pc' := 104) d_prog_107_method_2_103 rfl (z := (6 : Int32)) (by decide) ?_
              refine Own.goto (pc' := 113) d_prog_107_method_2_104 (by decide) (by decide) ?_
              refine Own.istore (pc' := 115) (L1 := #[.val (.ref a), .val (.int (1 : Int32)), .val (.long q), .second, .val (.int (6 : Int32)), .val (.int (5 : Int32))]) d_prog_107_method_2_113 rfl rfl ?_
              refine Own.goto (pc' := 77) d_prog_107_method_2_115 (by decide) (by decide) ?_
              refine Own.iload (pc' := 79) d_prog_107_method_2_77 rfl rfl ?_
              refine Own.aloadN (pc' := 80) d_prog_107_method_2_79 rfl rfl rfl ?_
              refine Own.getfield (pc' := 83) d_prog_107_method_2_80 rfl (host := "") (Or.inl (hw _ (List.mem_of_getElem? (i := 10) rfl))) Via.refl F_leaves ?_
              refine Own.icmp_ge (pc' := 118) (pc2 := 86) d_prog_107_method_2_83 (by decide) (by decide) rfl (fun q => absurd q (by decide)) (fun _ => ?_)
              refine Own.aloadN (pc' := 87) d_prog_107_method_2_86 rfl rfl rfl ?_
              refine Own.getfield (pc' := 90) d_prog_107_method_2_87 rfl (host := "") (Or.inl (hw _ (List.mem_of_getElem? (i := 14) rfl))) Via.refl F_nodes ?_
              refine Own.iconst (pc' := 91) (v := (2 : Int32)) d_prog_107_method_2_90 (by decide) rfl ?_
              refine Own.iload (pc' := 93) d_prog_107_method_2_91 rfl rfl ?_
              refine Own.imulE (pc' := 94) d_prog_107_method_2_93 rfl (z := (12 : Int32)) (by decide) ?_
              refine Own.laload (pc' := 95) (i := 12) d_prog_107_method_2_94 rfl A (by decide) (by decide) ?_
              rw [own_nd5_12]
              show Go K _ _ _ _ _ _ _ _ _ 0 0 h 95 #[.val (.ref a), .val (.int (1 : Int32)), .val (.long q), .second, .val (.int (6 : Int32)), .val (.int (5 : Int32))] [(.long x4)]
              refine Own.lloadN (pc' := 96) d_prog_107_method_2_95 rfl rfl ?_
              refine Own.lcmp_lt (pc1 := 97) (pc' := 107) (pc2 := 100) d_prog_107_method_2_96 rfl d_prog_107_method_2_97 (by decide) (by decide) rfl (fun c96_896 => ?_) (fun c96_896 => ?_)
              · refine Own.iconst (pc' := 108) (v := (2 : Int32)) d_prog_107_method_2_107 (by decide) rfl ?_
                refine Own.iload (pc' := 110) d_prog_107_method_2_108 rfl rfl ?_
                refine Own.imulE (pc' := 111) d_prog_107_method_2_110 rfl (z := (12 : Int32)) (by decide) ?_
                refine Own.iconst (pc' := 112) (v := (1 : Int32)) d_prog_107_method_2_111 (by decide) rfl ?_
                refine Own.iaddE (pc' := 113) d_prog_107_method_2_112 rfl (z := (13 : Int32)) (by decide) ?_
                refine Own.istore (pc' := 115) (L1 := #[.val (.ref a), .val (.int (1 : Int32)), .val (.long q), .second, .val (.int (13 : Int32)), .val (.int (5 : Int32))]) d_prog_107_method_2_113 rfl rfl ?_
                refine Own.goto (pc' := 77) d_prog_107_method_2_115 (by decide) (by decide) ?_
                refine Own.iload (pc' := 79) d_prog_107_method_2_77 rfl rfl ?_
                refine Own.aloadN (pc' := 80) d_prog_107_method_2_79 rfl rfl rfl ?_
                refine Own.getfield (pc' := 83) d_prog_107_method_2_80 rfl (host := "") (Or.inl (hw _ (List.mem_of_getElem? (i := 10) rfl))) Via.refl F_leaves ?_
                refine Own.icmp_ge (pc' := 118) (pc2 := 86) d_prog_107_method_2_83 (by decide) (by decide) rfl (fun _ => ?_) (fun q => absurd (by decide) q)
                refine Own.iload (pc' := 120) d_prog_107_method_2_118 rfl rfl ?_
                refine Own.aloadN (pc' := 121) d_prog_107_method_2_120 rfl rfl rfl ?_
                refine Own.getfield (pc' := 124) d_prog_107_method_2_121 rfl (host := "") (Or.inl (hw _ (List.mem_of_getElem? (i := 10) rfl))) Via.refl F_leaves ?_
                refine Own.isubE (pc' := 125) d_prog_107_method_2_124 rfl (z := (5 : Int32)) (by decide) ?_
                refine Own.istore (pc' := 127) (L1 := #[.val (.ref a), .val (.int (1 : Int32)), .val (.long q), .second, .val (.int (13 : Int32)), .val (.int (5 : Int32))]) d_prog_107_method_2_125 rfl rfl ?_
                refine Own.iload (pc' := 129) d_prog_107_method_2_127 rfl rfl ?_
                have hq : (5 : Int32) = own_want (5 : Int32) (1 : Int32) q x0 x1 x2 x3 x4 := by unfold own_want; (repeat' split) <;> first | rfl | (exfalso; omega) | omega
                exact Own.ireturnI d_prog_107_method_2_129 rfl (⟨rfl, _, rfl, hq⟩) (by decide) (by decide)
              · refine Own.iconst (pc' := 101) (v := (2 : Int32)) d_prog_107_method_2_100 (by decide) rfl ?_
                refine Own.iload (pc' := 103) d_prog_107_method_2_101 rfl rfl ?_
                refine Own.imulE (pc' := 104) d_prog_107_method_2_103 rfl (z := (12 : Int32)) (by decide) ?_
                refine Own.goto (pc' := 113) d_prog_107_method_2_104 (by decide) (by decide) ?_
                refine Own.istore (pc' := 115) (L1 := #[.val (.ref a), .val (.int (1 : Int32)), .val (.long q), .second, .val (.int (12 : Int32)), .val (.int (5 : Int32))]) d_prog_107_method_2_113 rfl rfl ?_
                refine Own.goto (pc' := 77) d_prog_107_method_2_115 (by decide) (by decide) ?_
                refine Own.iload (pc' := 79) d_prog_107_method_2_77 rfl rfl ?_
                refine Own.aloadN (pc' := 80) d_prog_107_method_2_79 rfl rfl rfl ?_
                refine Own.getfield (pc' := 83) d_prog_107_method_2_80 rfl (host := "") (Or.inl (hw _ (List.mem_of_getElem? (i := 10) rfl))) Via.refl F_leaves ?_
                refine Own.icmp_ge (pc' := 118) (pc2 := 86) d_prog_107_method_2_83 (by decide) (by decide) rfl (fun _ => ?_) (fun q => absurd (by decide) q)
                refine Own.iload (pc' := 120) d_prog_107_method_2_118 rfl rfl ?_
                refine Own.aloadN (pc' := 121) d_prog_107_method_2_120 rfl rfl rfl ?_
                refine Own.getfield (pc' := 124) d_prog_107_method_2_121 rfl (host := "") (Or.inl (hw _ (List.mem_of_getElem? (i := 10) rfl))) Via.refl F_leaves ?_
                refine Own.isubE (pc' := 125) d_prog_107_method_2_124 rfl (z := (4 : Int32)) (by decide) ?_
                refine Own.istore (pc' := 127) (L1 := #[.val (.ref a), .val (.int (1 : Int32)), .val (.long q), .second, .val (.int (12 : Int32)), .val (.int (4 : Int32))]) d_prog_107_method_2_125 rfl rfl ?_
                refine Own.iload (pc' := 129) d_prog_107_method_2_127 rfl rfl ?_
                have hq : (4 : Int32) = own_want (5 : Int32) (1 : Int32) q x0 x1 x2 x3 x4 := by unfold own_want; (repeat' split) <;> first | rfl | (exfalso; omega) | omega
                exact Own.ireturnI d_prog_107_method_2_129 rfl (⟨rfl, _, rfl, hq⟩) (by decide) (by decide)
          · refine Own.iload (pc' := 40) d_prog_107_method_2_38 rfl rfl ?_
            refine Own.iconst (pc' := 41) (v := (2 : Int32)) d_prog_107_method_2_40 (by decide) rfl ?_
            refine Own.iremE (pc' := 42) d_prog_107_method_2_41 (by decide) rfl (z := (1 : Int32)) (by decide) ?_
            refine Own.iconst (pc' := 43) (v := (1 : Int32)) d_prog_107_method_2_42 (by decide) rfl ?_
            refine Own.icmp_ne (pc' := 55) (pc2 := 46) d_prog_107_method_2_43 (by decide) (by decide) rfl (fun q => absurd q (by decide)) (fun _ => ?_)
            refine Own.iload (pc' := 48) d_prog_107_method_2_46 rfl rfl ?_
            refine Own.iconst (pc' := 49) (v := (2 : Int32)) d_prog_107_method_2_48 (by decide) rfl ?_
            refine Own.idivE (pc' := 50) d_prog_107_method_2_49 (by decide) rfl (z := (1 : Int32)) (by decide) ?_
            refine Own.istore (pc' := 52) (L1 := #[.val (.ref a), .val (.int (1 : Int32)), .val (.long q), .second, .val (.int (1 : Int32)), .unset]) d_prog_107_method_2_50 rfl rfl ?_
            refine Own.goto (pc' := 38) d_prog_107_method_2_52 (by decide) (by decide) ?_
            refine Own.iload (pc' := 40) d_prog_107_method_2_38 rfl rfl ?_
            refine Own.iconst (pc' := 41) (v := (2 : Int32)) d_prog_107_method_2_40 (by decide) rfl ?_
            refine Own.iremE (pc' := 42) d_prog_107_method_2_41 (by decide) rfl (z := (1 : Int32)) (by decide) ?_
            refine Own.iconst (pc' := 43) (v := (1 : Int32)) d_prog_107_method_2_42 (by decide) rfl ?_
            refine Own.icmp_ne (pc' := 55) (pc2 := 46) d_prog_107_method_2_43 (by decide) (by decide) rfl (fun q => absurd q (by decide)) (fun _ => ?_)
            refine Own.iload (pc' := 48) d_prog_107_method_2_46 rfl rfl ?_
            refine Own.iconst (pc' := 49) (v := (2 : Int32)) d_prog_107_method_2_48 (by decide) rfl ?_
            refine Own.idivE (pc' := 50) d_prog_107_method_2_49 (by decide) rfl (z := (0 : Int32)) (by decide) ?_
            refine Own.istore (pc' := 52) (L1 := #[.val (.ref a), .val (.int (1 : Int32)), .val (.long q), .second, .val (.int (0 : Int32)), .unset]) d_prog_107_method_2_50 rfl rfl ?_
            refine Own.goto (pc' := 38) d_prog_107_method_2_52 (by decide) (by decide) ?_
            refine Own.iload (pc' := 40) d_prog_107_method_2_38 rfl rfl ?_
            refine Own.iconst (pc' := 41) (v := (2 : Int32)) d_prog_107_method_2_40 (by decide) rfl ?_
            refine Own.iremE (pc' := 42) d_prog_107_method_2_41 (by decide) rfl (z := (0 : Int32)) (by decide) ?_
            refine Own.iconst (pc' := 43) (v := (1 : Int32)) d_prog_107_method_2_42 (by decide) rfl ?_
            refine Own.icmp_ne (pc' := 55) (pc2 := 46) d_prog_107_method_2_43 (by decide) (by decide) rfl (fun _ => ?_) (fun q => absurd (by decide) q)
            refine Own.iload (pc' := 57) d_prog_107_method_2_55 rfl rfl ?_
            refine Own.if_le (pc' := 21) (pc2 := 60) d_prog_107_method_2_57 (by decide) (by decide) rfl (fun _ => ?_) (fun q => absurd (by decide) q)
            refine Own.iload (pc' := 23) d_prog_107_method_2_21 rfl rfl ?_
            refine Own.if_le (pc' := 66) (pc2 := 26) d_prog_107_method_2_23 (by decide) (by decide) rfl (fun _ => ?_) (fun q => absurd (by decide) q)
            refine Own.aloadN (pc' := 67) d_prog_107_method_2_66 rfl rfl rfl ?_
            refine Own.getfield (pc' := 70) d_prog_107_method_2_67 rfl (host := "") (Or.inl (hw _ (List.mem_of_getElem? (i := 12) rfl))) Via.refl F_count ?_
            refine Own.istore (pc' := 72) (L1 := #[.val (.ref a), .val (.int (1 : Int32)), .val (.long q), .second, .val (.int (0 : Int32)), .val (.int (5 : Int32))]) d_prog_107_method_2_70 rfl rfl ?_
            refine Own.iload (pc' := 74) d_prog_107_method_2_72 rfl rfl ?_
            refine Own.if_le (pc' := 127) (pc2 := 77) d_prog_107_method_2_74 (by decide) (by decide) rfl (fun _ => ?_) (fun q => absurd (by decide) q)
            refine Own.iload (pc' := 129) d_prog_107_method_2_127 rfl rfl ?_
            have hq : (5 : Int32) = own_want (5 : Int32) (1 : Int32) q x0 x1 x2 x3 x4 := by unfold own_want; (repeat' split) <;> first | rfl | (exfalso; omega) | omega
            exact Own.ireturnI d_prog_107_method_2_129 rfl (⟨rfl, _, rfl, hq⟩) (by decide) (by decide)
    · refine Own.aloadN (pc' := 14) d_prog_107_method_2_13 rfl rfl rfl ?_
      refine Own.getfield (pc' := 17) d_prog_107_method_2_14 rfl (host := "") (Or.inl (hw _ (List.mem_of_getElem? (i := 10) rfl))) Via.refl F_leaves ?_
      refine Own.iloadN (pc' := 18) d_prog_107_method_2_17 rfl rfl ?_
      refine Own.iaddE (pc' := 19) d_prog_107_method_2_18 rfl (z := (10 : Int32)) (by decide) ?_
      refine Own.istore (pc' := 21) (L1 := #[.val (.ref a), .val (.int (2 : Int32)), .val (.long q), .second, .val (.int (10 : Int32)), .unset]) d_prog_107_method_2_19 rfl rfl ?_
      refine Own.iload (pc' := 23) d_prog_107_method_2_21 rfl rfl ?_
      refine Own.if_le (pc' := 66) (pc2 := 26) d_prog_107_method_2_23 (by decide) (by decide) rfl (fun q => absurd q (by decide)) (fun _ => ?_)
      refine Own.aloadN (pc' := 27) d_prog_107_method_2_26 rfl rfl rfl ?_
      refine Own.getfield (pc' := 30) d_prog_107_method_2_27 rfl (host := "") (Or.inl (hw _ (List.mem_of_getElem? (i := 14) rfl))) Via.refl F_nodes ?_
      refine Own.iload (pc' := 32) d_prog_107_method_2_30 rfl rfl ?_
      refine Own.laload (pc' := 33) (i := 10) d_prog_107_method_2_32 rfl A (by decide) (by decide) ?_
      rw [own_nd5_10]
      show Go K _ _ _ _ _ _ _ _ _ 0 0 h 33 #[.val (.ref a), .val (.int (2 : Int32)), .val (.long q), .second, .val (.int (10 : Int32)), .unset] [(.long x2)]
      refine Own.lloadN (pc' := 34) d_prog_107_method_2_33 rfl rfl ?_
      refine Own.lcmp_ge (pc1 := 35) (pc' := 66) (pc2 := 38) d_prog_107_method_2_34 rfl d_prog_107_method_2_35 (by decide) (by decide) rfl (fun c34_917 => ?_) (fun c34_917 => ?_)
      · refine Own.aloadN (pc' := 67) d_prog_107_method_2_66 rfl rfl rfl ?_
        refine Own.getfield (pc' := 70) d_prog_107_method_2_67 rfl (host := "") (Or.inl (hw _ (List.mem_of_getElem? (i := 12) rfl))) Via.refl F_count ?_
        refine Own.istore (pc' := 72) (L1 := #[.val (.ref a), .val (.int (2 : Int32)), .val (.long q), .second, .val (.int (10 : Int32)), .val (.int (5 : Int32))]) d_prog_107_method_2_70 rfl rfl ?_
        refine Own.iload (pc' := 74) d_prog_107_method_2_72 rfl rfl ?_
        refine Own.if_le (pc' := 127) (pc2 := 77) d_prog_107_method_2_74 (by decide) (by decide) rfl (fun q => absurd q (by decide)) (fun _ => ?_)
        refine Own.iload (pc' := 79) d_prog_107_method_2_77 rfl rfl ?_
        refine Own.aloadN (pc' := 80) d_prog_107_method_2_79 rfl rfl rfl ?_
        refine Own.getfield (pc' := 83) d_prog_107_method_2_80 rfl (host := "") (Or.inl (hw _ (List.mem_of_getElem? (i := 10) rfl))) Via.refl F_leaves ?_
        refine Own.icmp_ge (pc' := 118) (pc2 := 86) d_prog_107_method_2_83 (by decide) (by decide) rfl (fun _ => ?_) (fun q => absurd (by decide) q)
        refine Own.iload (pc' := 120) d_prog_107_method_2_118 rfl rfl ?_
        refine Own.aloadN (pc' := 121) d_prog_107_method_2_120 rfl rfl rfl ?_
        refine Own.getfield (pc' := 124) d_prog_107_method_2_121 rfl (host := "") (Or.inl (hw _ (List.mem_of_getElem? (i := 10) rfl))) Via.refl F_leaves ?_
        refine Own.isubE (pc' := 125) d_prog_107_method_2_124 rfl (z := (2 : Int32)) (by decide) ?_
        refine Own.istore (pc' := 127) (L1 := #[.val (.ref a), .val (.int (2 : Int32)), .val (.long q), .second, .val (.int (10 : Int32)), .val (.int (2 : Int32))]) d_prog_107_method_2_125 rfl rfl ?_
        refine Own.iload (pc' := 129) d_prog_107_method_2_127 rfl rfl ?_
        have hq : (2 : Int32) = own_want (5 : Int32) (2 : Int32) q x0 x1 x2 x3 x4 := by unfold own_want; (repeat' split) <;> first | rfl | (exfalso; omega) | omega
        exact Own.ireturnI d_prog_107_method_2_129 rfl (⟨rfl, _, rfl, hq⟩) (by decide) (by decide)
      · refine Own.iload (pc' := 40) d_prog_107_method_2_38 rfl rfl ?_
        refine Own.iconst (pc' := 41) (v := (2 : Int32)) d_prog_107_method_2_40 (by decide) rfl ?_
        refine Own.iremE (pc' := 42) d_prog_107_method_2_41 (by decide) rfl (z := (0 : Int32)) (by decide) ?_
        refine Own.iconst (pc' := 43) (v := (1 : Int32)) d_prog_107_method_2_42 (by decide) rfl ?_
        refine Own.icmp_ne (pc' := 55) (pc2 := 46) d_prog_107_method_2_43 (by decide) (by decide) rfl (fun _ => ?_) (fun q => absurd (by decide) q)
        refine Own.iload (pc' := 57) d_prog_107_method_2_55 rfl rfl ?_
        refine Own.if_le (pc' := 21) (pc2 := 60) d_prog_107_method_2_57 (by decide) (by decide) rfl (fun q => absurd q (by decide)) (fun _ => ?_)
        refine Own.iincE (pc' := 63) (L1 := fun zz => #[.val (.ref a), .val (.int (2 : Int32)), .val (.long q), .second, .val (.int zz), .unset]) d_prog_107_method_2_60 rfl (fun _ => rfl) rfl (z := (11 : Int32)) (by decide) ?_
        show Go K _ _ _ _ _ _ _ _ _ 0 0 h 63 #[.val (.ref a), .val (.int (2 : Int32)), .val (.long q), .second, .val (.int (11 : Int32)), .unset] []
        refine Own.goto (pc' := 21) d_prog_107_method_2_63 (by decide) (by decide) ?_
        refine Own.iload (pc' := 23) d_prog_107_method_2_21 rfl rfl ?_
        refine Own.if_le (pc' := 66) (pc2 := 26) d_prog_107_method_2_23 (by decide) (by decide) rfl (fun q => absurd q (by decide)) (fun _ => ?_)
        refine Own.aloadN (pc' := 27) d_prog_107_method_2_26 rfl rfl rfl ?_
        refine Own.getfield (pc' := 30) d_prog_107_method_2_27 rfl (host := "") (Or.inl (hw _ (List.mem_of_getElem? (i := 14) rfl))) Via.refl F_nodes ?_
        refine Own.iload (pc' := 32) d_prog_107_method_2_30 rfl rfl ?_
        refine Own.laload (pc' := 33) (i := 11) d_prog_107_method_2_32 rfl A (by decide) (by decide) ?_
        rw [own_nd5_11]
        show Go K _ _ _ _ _ _ _ _ _ 0 0 h 33 #[.val (.ref a), .val (.int (2 : Int32)), .val (.long q), .second, .val (.int (11 : Int32)), .unset] [(.long x3)]
        refine Own.lloadN (pc' := 34) d_prog_107_method_2_33 rfl rfl ?_
        refine Own.lcmp_ge (pc1 := 35) (pc' := 66) (pc2 := 38) d_prog_107_method_2_34 rfl d_prog_107_method_2_35 (by decide) (by decide) rfl (fun c34_926 => ?_) (fun c34_926 => ?_)
        · refine Own.aloadN (pc' := 67) d_prog_107_method_2_66 rfl rfl rfl ?_
          refine Own.getfield (pc' := 70) d_prog_107_method_2_67 rfl (host := "") (Or.inl (hw _ (List.mem_of_getElem? (i := 12) rfl))) Via.refl F_count ?_
          refine Own.istore (pc' := 72) (L1 := #[.val (.ref a), .val (.int (2 : Int32)), .val (.long q), .second, .val (.int (11 : Int32)), .val (.int (5 : Int32))]) d_prog_107_method_2_70 rfl rfl ?_
          refine Own.iload (pc' := 74) d_prog_107_method_2_72 rfl rfl ?_
          refine Own.if_le (pc' := 127) (pc2 := 77) d_prog_107_method_2_74 (by decide) (by decide) rfl (fun q => absurd q (by decide)) (fun _ => ?_)
          refine Own.iload (pc' := 79) d_prog_107_method_2_77 rfl rfl ?_
          refine Own.aloadN (pc' := 80) d_prog_107_method_2_79 rfl rfl rfl ?_
          refine Own.getfield (pc' := 83) d_prog_107_method_2_80 rfl (host := "") (Or.inl (hw _ (List.mem_of_getElem? (i := 10) rfl))) Via.refl F_leaves ?_
          refine Own.icmp_ge (pc' := 118) (pc2 := 86) d_prog_107_method_2_83 (by decide) (by decide) rfl (fun _ => ?_) (fun q => absurd (by decide) q)
          refine Own.iload (pc' := 120) d_prog_107_method_2_118 rfl rfl ?_
          refine Own.aloadN (pc' := 121) d_prog_107_method_2_120 rfl rfl rfl ?_
          refine Own.getfield (pc' := 124) d_prog_107_method_2_121 rfl (host := "") (Or.inl (hw _ (List.mem_of_getElem? (i := 10) rfl))) Via.refl F_leaves ?_
          refine Own.isubE (pc' := 125) d_prog_107_method_2_124 rfl (z := (3 : Int32)) (by decide) ?_
          refine Own.istore (pc' := 127) (L1 := #[.val (.ref a), .val (.int (2 : Int32)), .val (.long q), .second, .val (.int (11 : Int32)), .val (.int (3 : Int32))]) d_prog_107_method_2_125 rfl rfl ?_
          refine Own.iload (pc' := 129) d_prog_107_method_2_127 rfl rfl ?_
          have hq : (3 : Int32) = own_want (5 : Int32) (2 : Int32) q x0 x1 x2 x3 x4 := by unfold own_want; (repeat' split) <;> first | rfl | (exfalso; omega) | omega
          exact Own.ireturnI d_prog_107_method_2_129 rfl (⟨rfl, _, rfl, hq⟩) (by decide) (by decide)
        · refine Own.iload (pc' := 40) d_prog_107_method_2_38 rfl rfl ?_
          refine Own.iconst (pc' := 41) (v := (2 : Int32)) d_prog_107_method_2_40 (by decide) rfl ?_
          refine Own.iremE (pc' := 42) d_prog_107_method_2_41 (by decide) rfl (z := (1 : Int32)) (by decide) ?_
          refine Own.iconst (pc' := 43) (v := (1 : Int32)) d_prog_107_method_2_42 (by decide) rfl ?_
          refine Own.icmp_ne (pc' := 55) (pc2 := 46) d_prog_107_method_2_43 (by decide) (by decide) rfl (fun q => absurd q (by decide)) (fun _ => ?_)
          refine Own.iload (pc' := 48) d_prog_107_method_2_46 rfl rfl ?_
          refine Own.iconst (pc' := 49) (v := (2 : Int32)) d_prog_107_method_2_48 (by decide) rfl ?_
          refine Own.idivE (pc' := 50) d_prog_107_method_2_49 (by decide) rfl (z := (5 : Int32)) (by decide) ?_
          refine Own.istore (pc' := 52) (L1 := #[.val (.ref a), .val (.int (2 : Int32)), .val (.long q), .second, .val (.int (5 : Int32)), .unset]) d_prog_107_method_2_50 rfl rfl ?_
          refine Own.goto (pc' := 38) d_prog_107_method_2_52 (by decide) (by decide) ?_
          refine Own.iload (pc' := 40) d_prog_107_method_2_38 rfl rfl ?_
          refine Own.iconst (pc' := 41) (v := (2 : Int32)) d_prog_107_method_2_40 (by decide) rfl ?_
          refine Own.iremE (pc' := 42) d_prog_107_method_2_41 (by decide) rfl (z := (1 : Int32)) (by decide) ?_
          refine Own.iconst (pc' := 43) (v := (1 : Int32)) d_prog_107_method_2_42 (by decide) rfl ?_
          refine Own.icmp_ne (pc' := 55) (pc2 := 46) d_prog_107_method_2_43 (by decide) (by decide) rfl (fun q => absurd q (by decide)) (fun _ => ?_)
          refine Own.iload (pc' := 48) d_prog_107_method_2_46 rfl rfl ?_
          refine Own.iconst (pc' := 49) (v := (2 : Int32)) d_prog_107_method_2_48 (by decide) rfl ?_
          refine Own.idivE (pc' := 50) d_prog_107_method_2_49 (by decide) rfl (z := (2 : Int32)) (by decide) ?_
          refine Own.istore (pc' := 52) (L1 := #[.val (.ref a), .val (.int (2 : Int32)), .val (.long q), .second, .val (.int (2 : Int32)), .unset]) d_prog_107_method_2_50 rfl rfl ?_
          refine Own.goto (pc' := 38) d_prog_107_method_2_52 (by decide) (by decide) ?_
          refine Own.iload (pc' := 40) d_prog_107_method_2_38 rfl rfl ?_
          refine Own.iconst (pc' := 41) (v := (2 : Int32)) d_prog_107_method_2_40 (by decide) rfl ?_
          refine Own.iremE (pc' := 42) d_prog_107_method_2_41 (by decide) rfl (z := (0 : Int32)) (by decide) ?_
          refine Own.iconst (pc' := 43) (v := (1 : Int32)) d_prog_107_method_2_42 (by decide) rfl ?_
          refine Own.icmp_ne (pc' := 55) (pc2 := 46) d_prog_107_method_2_43 (by decide) (by decide) rfl (fun _ => ?_) (fun q => absurd (by decide) q)
          refine Own.iload (pc' := 57) d_prog_107_method_2_55 rfl rfl ?_
          refine Own.if_le (pc' := 21) (pc2 := 60) d_prog_107_method_2_57 (by decide) (by decide) rfl (fun q => absurd q (by decide)) (fun _ => ?_)
          refine Own.iincE (pc' := 63) (L1 := fun zz => #[.val (.ref a), .val (.int (2 : Int32)), .val (.long q), .second, .val (.int zz), .unset]) d_prog_107_method_2_60 rfl (fun _ => rfl) rfl (z := (3 : Int32)) (by decide) ?_
          show Go K _ _ _ _ _ _ _ _ _ 0 0 h 63 #[.val (.ref a), .val (.int (2 : Int32)), .val (.long q), .second, .val (.int (3 : Int32)), .unset] []
          refine Own.goto (pc' := 21) d_prog_107_method_2_63 (by decide) (by decide) ?_
          refine Own.iload (pc' := 23) d_prog_107_method_2_21 rfl rfl ?_
          refine Own.if_le (pc' := 66) (pc2 := 26) d_prog_107_method_2_23 (by decide) (by decide) rfl (fun q => absurd q (by decide)) (fun _ => ?_)
          refine Own.aloadN (pc' := 27) d_prog_107_method_2_26 rfl rfl rfl ?_
          refine Own.getfield (pc' := 30) d_prog_107_method_2_27 rfl (host := "") (Or.inl (hw _ (List.mem_of_getElem? (i := 14) rfl))) Via.refl F_nodes ?_
          refine Own.iload (pc' := 32) d_prog_107_method_2_30 rfl rfl ?_
          refine Own.laload (pc' := 33) (i := 3) d_prog_107_method_2_32 rfl A (by decide) (by decide) ?_
          rw [own_nd5_3]
          show Go K _ _ _ _ _ _ _ _ _ 0 0 h 33 #[.val (.ref a), .val (.int (2 : Int32)), .val (.long q), .second, .val (.int (3 : Int32)), .unset] [(.long (own_max (own_max x4 (0 : Int64)) (own_max (0 : Int64) (0 : Int64))))]
          refine Own.lloadN (pc' := 34) d_prog_107_method_2_33 rfl rfl ?_
          refine Own.lcmp_ge (pc1 := 35) (pc' := 66) (pc2 := 38) d_prog_107_method_2_34 rfl d_prog_107_method_2_35 (by decide) (by decide) rfl (fun c34_941 => ?_) (fun c34_941 => ?_)
          · refine Own.aloadN (pc' := 67) d_prog_107_method_2_66 rfl rfl rfl ?_
            refine Own.getfield (pc' := 70) d_prog_107_method_2_67 rfl (host := "") (Or.inl (hw _ (List.mem_of_getElem? (i := 12) rfl))) Via.refl F_count ?_
            refine Own.istore (pc' := 72) (L1 := #[.val (.ref a), .val (.int (2 : Int32)), .val (.long q), .second, .val (.int (3 : Int32)), .val (.int (5 : Int32))]) d_prog_107_method_2_70 rfl rfl ?_
            refine Own.iload (pc' := 74) d_prog_107_method_2_72 rfl rfl ?_
            refine Own.if_le (pc' := 127) (pc2 := 77) d_prog_107_method_2_74 (by decide) (by decide) rfl (fun q => absurd q (by decide)) (fun _ => ?_)
            refine Own.iload (pc' := 79) d_prog_107_method_2_77 rfl rfl ?_
            refine Own.aloadN (pc' := 80) d_prog_107_method_2_79 rfl rfl rfl ?_
            refine Own.getfield (pc' := 83) d_prog_107_method_2_80 rfl (host := "") (Or.inl (hw _ (List.mem_of_getElem? (i := 10) rfl))) Via.refl F_leaves ?_
            refine Own.icmp_ge (pc' := 118) (pc2 := 86) d_prog_107_method_2_83 (by decide) (by decide) rfl (fun q => absurd q (by decide)) (fun _ => ?_)
            refine Own.aloadN (pc' := 87) d_prog_107_method_2_86 rfl rfl rfl ?_
            refine Own.getfield (pc' := 90) d_prog_107_method_2_87 rfl (host := "") (Or.inl (hw _ (List.mem_of_getElem? (i := 14) rfl))) Via.refl F_nodes ?_
            refine Own.iconst (pc' := 91) (v := (2 : Int32)) d_prog_107_method_2_90 (by decide) rfl ?_
            refine Own.iload (pc' := 93) d_prog_107_method_2_91 rfl rfl ?_
            refine Own.imulE (pc' := 94) d_prog_107_method_2_93 rfl (z := (6 : Int32)) (by decide) ?_
            refine Own.laload (pc' := 95) (i := 6) d_prog_107_method_2_94 rfl A (by decide) (by decide) ?_
            rw [own_nd5_6]
            show Go K _ _ _ _ _ _ _ _ _ 0 0 h 95 #[.val (.ref a), .val (.int (2 : Int32)), .val (.long q), .second, .val (.int (3 : Int32)), .val (.int (5 : Int32))] [(.long (own_max x4 (0 : Int64)))]
            refine Own.lloadN (pc' := 96) d_prog_107_method_2_95 rfl rfl ?_
            refine Own.lcmp_lt (pc1 := 97) (pc' := 107) (pc2 := 100) d_prog_107_method_2_96 rfl d_prog_107_method_2_97 (by decide) (by decide) rfl (fun c96_945 => ?_) (fun c96_945 => ?_)
            · refine Own.iconst (pc' := 108) (v := (2 : Int32)) d_prog_107_method_2_107 (by decide) rfl ?_
              refine Own.iload (pc' := 110) d_prog_107_method_2_108 rfl rfl ?_
              refine Own.imulE (pc' := 111) d_prog_107_method_2_110 rfl (z := (6 : Int32)) (by decide) ?_
              refine Own.iconst (pc' := 112) (v := (1 : Int32)) d_prog_107_method_2_111 (by decide) rfl ?_
              refine Own.iaddE (pc' := 113) d_prog_107_method_2_112 rfl (z := (7 : Int32)) (by decide) ?_
              refine Own.istore (pc' := 115) (L1 := #[.val (.ref a), .val (.int (2 : Int32)), .val (.long q), .second, .val (.int (7 : Int32)), .val (.int (5 : Int32))]) d_prog_107_method_2_113 rfl rfl ?_
              refine Own.goto (pc' := 77) d_prog_107_method_2_115 (by decide) (by decide) ?_
              refine Own.iload (pc' := 79) d_prog_107_method_2_77 rfl rfl ?_
              refine Own.aloadN (pc' := 80) d_prog_107_method_2_79 rfl rfl rfl ?_
              refine Own.getfield (pc' := 83) d_prog_107_method_2_80 rfl (host := "") (Or.inl (hw _ (List.mem_of_getElem? (i := 10) rfl))) Via.refl F_leaves ?_
              refine Own.icmp_ge (pc' := 118) (pc2 := 86) d_prog_107_method_2_83 (by decide) (by decide) rfl (fun q => absurd q (by decide)) (fun _ => ?_)
              refine Own.aloadN (pc' := 87) d_prog_107_method_2_86 rfl rfl rfl ?_
              refine Own.getfield (pc' := 90) d_prog_107_method_2_87 rfl (host := "") (Or.inl (hw _ (List.mem_of_getElem? (i := 14) rfl))) Via.refl F_nodes ?_
              refine Own.iconst (pc' := 91) (v := (2 : Int32)) d_prog_107_method_2_90 (by decide) rfl ?_
              refine Own.iload (pc' := 93) d_prog_107_method_2_91 rfl rfl ?_
              refine Own.imulE (pc' := 94) d_prog_107_method_2_93 rfl (z := (14 : Int32)) (by decide) ?_
              refine Own.laload (pc' := 95) (i := 14) d_prog_107_method_2_94 rfl A (by decide) (by decide) ?_
              rw [own_nd5_14]
              show Go K _ _ _ _ _ _ _ _ _ 0 0 h 95 #[.val (.ref a), .val (.int (2 : Int32)), .val (.long q), .second, .val (.int (7 : Int32)), .val (.int (5 : Int32))] [(.long (0 : Int64))]
              refine Own.lloadN (pc' := 96) d_prog_107_method_2_95 rfl rfl ?_
              refine Own.lcmp_lt (pc1 := 97) (pc' := 107) (pc2 := 100) d_prog_107_method_2_96 rfl d_prog_107_method_2_97 (by decide) (by decide) rfl (fun c96_950 => ?_) (fun c96_950 => ?_)
              · refine Own.iconst (pc' := 108) (v := (2 : Int32)) d_prog_107_method_2_107 (by decide) rfl ?_
                refine Own.iload (pc' := 110) d_prog_107_method_2_108 rfl rfl ?_
                refine Own.imulE (pc' := 111) d_prog_107_method_2_110 rfl (z := (14 : Int32)) (by decide) ?_
                refine Own.iconst (pc' := 112) (v := (1 : Int32)) d_prog_107_method_2_111 (by decide) rfl ?_
                refine Own.iaddE (pc' := 113) d_prog_107_method_2_112 rfl (z := (15 : Int32)) (by decide) ?_
                refine Own.istore (pc' := 115) (L1 := #[.val (.ref a), .val (.int (2 : Int32)), .val (.long q), .second, .val (.int (15 : Int32)), .val (.int (5 : Int32))]) d_prog_107_method_2_113 rfl rfl ?_
                refine Own.goto (pc' := 77) d_prog_107_method_2_115 (by decide) (by decide) ?_
                refine Own.iload (pc' := 79) d_prog_107_method_2_77 rfl rfl ?_
                refine Own.aloadN (pc' := 80) d_prog_107_method_2_79 rfl rfl rfl ?_
                refine Own.getfield (pc' := 83) d_prog_107_method_2_80 rfl (host := "") (Or.inl (hw _ (List.mem_of_getElem? (i := 10) rfl))) Via.refl F_leaves ?_
                refine Own.icmp_ge (pc' := 118) (pc2 := 86) d_prog_107_method_2_83 (by decide) (by decide) rfl (fun _ => ?_) (fun q => absurd (by decide) q)
                refine Own.iload (pc' := 120) d_prog_107_method_2_118 rfl rfl ?_
                refine Own.aloadN (pc' := 121) d_prog_107_method_2_120 rfl rfl rfl ?_
                refine Own.getfield (pc' := 124) d_prog_107_method_2_121 rfl (host := "") (Or.inl (hw _ (List.mem_of_getElem? (i := 10) rfl))) Via.refl F_leaves ?_
                refine Own.isubE (pc' := 125) d_prog_107_method_2_124 rfl (z := (7 : Int32)) (by decide) ?_
                refine Own.istore (pc' := 127) (L1 := #[.val (.ref a), .val (.int (2 : Int32)), .val (.long q), .second, .val (.int (15 : Int32)), .val (.int (7 : Int32))]) d_prog_107_method_2_125 rfl rfl ?_
                refine Own.iload (pc' := 129) d_prog_107_method_2_127 rfl rfl ?_
                have hq : (7 : Int32) = own_want (5 : Int32) (2 : Int32) q x0 x1 x2 x3 x4 := by unfold own_want; (repeat' split) <;> first | rfl | (exfalso; omega) | omega
                exact Own.ireturnI d_prog_107_method_2_129 rfl (⟨rfl, _, rfl, hq⟩) (by decide) (by decide)
              · refine Own.iconst (pc' := 101) (v := (2 : Int32)) d_prog_107_method_2_100 (by decide) rfl ?_
                refine Own.iload (pc' := 103) d_prog_107_method_2_101 rfl rfl ?_
                refine Own.imulE (pc' := 104) d_prog_107_method_2_103 rfl (z := (14 : Int32)) (by decide) ?_
                refine Own.goto (pc' := 113) d_prog_107_method_2_104 (by decide) (by decide) ?_
                refine Own.istore (pc' := 115) (L1 := #[.val (.ref a), .val (.int (2 : Int32)), .val (.long q), .second, .val (.int (14 : Int32)), .val (.int (5 : Int32))]) d_prog_107_method_2_113 rfl rfl ?_
                refine Own.goto (pc' := 77) d_prog_107_method_2_115 (by decide) (by decide) ?_
                refine Own.iload (pc' := 79) d_prog_107_method_2_77 rfl rfl ?_
                refine Own.aloadN (pc' := 80) d_prog_107_method_2_79 rfl rfl rfl ?_
                refine Own.getfield (pc' := 83) d_prog_107_method_2_80 rfl (host := "") (Or.inl (hw _ (List.mem_of_getElem? (i := 10) rfl))) Via.refl F_leaves ?_
                refine Own.icmp_ge (pc' := 118) (pc2 := 86) d_prog_107_method_2_83 (by decide) (by decide) rfl (fun _ => ?_) (fun q => absurd (by decide) q)
                refine Own.iload (pc' := 120) d_prog_107_method_2_118 rfl rfl ?_
                refine Own.aloadN (pc' := 121) d_prog_107_method_2_120 rfl rfl rfl ?_
                refine Own.getfield (pc' := 124) d_prog_107_method_2_121 rfl (host := "") (Or.inl (hw _ (List.mem_of_getElem? (i := 10) rfl))) Via.refl F_leaves ?_
                refine Own.isubE (pc' := 125) d_prog_107_method_2_124 rfl (z := (6 : Int32)) (by decide) ?_
                refine Own.istore (pc' := 127) (L1 := #[.val (.ref a), .val (.int (2 : Int32)), .val (.long q), .second, .val (.int (14 : Int32)), .val (.int (6 : Int32))]) d_prog_107_method_2_125 rfl rfl ?_
                refine Own.iload (pc' := 129) d_prog_107_method_2_127 rfl rfl ?_
                have hq : (6 : Int32) = own_want (5 : Int32) (2 : Int32) q x0 x1 x2 x3 x4 := by unfold own_want; (repeat' split) <;> first | rfl | (exfalso; omega) | omega
                exact Own.ireturnI d_prog_107_method_2_129 rfl (⟨rfl, _, rfl, hq⟩) (by decide) (by decide)
            · refine Own.iconst (pc' := 101) (v := (2 : Int32)) d_prog_107_method_2_100 (by decide) rfl ?_
              refine Own.iload (pc' := 103) d_prog_107_method_2_101 rfl rfl ?_
              refine Own.imulE (pc' := 104) d_prog_107_method_2_103 rfl (z := (6 : Int32)) (by decide) ?_
              refine Own.goto (pc' := 113) d_prog_107_method_2_104 (by decide) (by decide) ?_
              refine Own.istore (pc' := 115) (L1 := #[.val (.ref a), .val (.int (2 : Int32)), .val (.long q), .second, .val (.int (6 : Int32)), .val (.int (5 : Int32))]) d_prog_107_method_2_113 rfl rfl ?_
              refine Own.goto (pc' := 77) d_prog_107_method_2_115 (by decide) (by decide) ?_
              refine Own.iload (pc' := 79) d_prog_107_method_2_77 rfl rfl ?_
              refine Own.aloadN (pc' := 80) d_prog_107_method_2_79 rfl rfl rfl ?_
              refine Own.getfield (pc' := 83) d_prog_107_method_2_80 rfl (host := "") (Or.inl (hw _ (List.mem_of_getElem? (i := 10) rfl))) Via.refl F_leaves ?_
              refine Own.icmp_ge (pc' := 118) (pc2 := 86) d_prog_107_method_2_83 (by decide) (by decide) rfl (fun q => absurd q (by decide)) (fun _ => ?_)
              refine Own.aloadN (pc' := 87) d_prog_107_method_2_86 rfl rfl rfl ?_
              refine Own.getfield (pc' := 90) d_prog_107_method_2_87 rfl (host := "") (Or.inl (hw _ (List.mem_of_getElem? (i := 14) rfl))) Via.refl F_nodes ?_
              refine Own.iconst (pc' := 91) (v := (2 : Int32)) d_prog_107_method_2_90 (by decide) rfl ?_
              refine Own.iload (pc' := 93) d_prog_107_method_2_91 rfl rfl ?_
              refine Own.imulE (pc' := 94) d_prog_107_method_2_93 rfl (z := (12 : Int32)) (by decide) ?_
              refine Own.laload (pc' := 95) (i := 12) d_prog_107_method_2_94 rfl A (by decide) (by decide) ?_
              rw [own_nd5_12]
              show Go K _ _ _ _ _ _ _ _ _ 0 0 h 95 #[.val (.ref a), .val (.int (2 : Int32)), .val (.long q), .second, .val (.int (6 : Int32)), .val (.int (5 : Int32))] [(.long x4)]
              refine Own.lloadN (pc' := 96) d_prog_107_method_2_95 rfl rfl ?_
              refine Own.lcmp_lt (pc1 := 97) (pc' := 107) (pc2 := 100) d_prog_107_method_2_96 rfl d_prog_107_method_2_97 (by decide) (by decide) rfl (fun c96_961 => ?_) (fun c96_961 => ?_)
              · refine Own.iconst (pc' := 108) (v := (2 : Int32)) d_prog_107_method_2_107 (by decide) rfl ?_
                refine Own.iload (pc' := 110) d_prog_107_method_2_108 rfl rfl ?_
                refine Own.imulE (pc' := 111) d_prog_107_method_2_110 rfl (z := (12 : Int32)) (by decide) ?_
                refine Own.iconst (pc' := 112) (v := (1 : Int32)) d_prog_107_method_2_111 (by decide) rfl ?_
                refine Own.iaddE (pc' := 113) d_prog_107_method_2_112 rfl (z := (13 : Int32)) (by decide) ?_
                refine Own.istore (pc' := 115) (L1 := #[.val (.ref a), .val (.int (2 : Int32)), .val (.long q), .second, .val (.int (13 : Int32)), .val (.int (5 : Int32))]) d_prog_107_method_2_113 rfl rfl ?_
                refine Own.goto (pc' := 77) d_prog_107_method_2_115 (by decide) (by decide) ?_
                refine Own.iload (pc' := 79) d_prog_107_method_2_77 rfl rfl ?_
                refine Own.aloadN (pc' := 80) d_prog_107_method_2_79 rfl rfl rfl ?_
                refine Own.getfield (pc' := 83) d_prog_107_method_2_80 rfl (host := "") (Or.inl (hw _ (List.mem_of_getElem? (i := 10) rfl))) Via.refl F_leaves ?_
                refine Own.icmp_ge (pc' := 118) (pc2 := 86) d_prog_107_method_2_83 (by decide) (by decide) rfl (fun _ => ?_) (fun q => absurd (by decide) q)
                refine Own.iload (pc' := 120) d_prog_107_method_2_118 rfl rfl ?_
                refine Own.aloadN (pc' := 121) d_prog_107_method_2_120 rfl rfl rfl ?_
                refine Own.getfield (pc' := 124) d_prog_107_method_2_121 rfl (host := "") (Or.inl (hw _ (List.mem_of_getElem? (i := 10) rfl))) Via.refl F_leaves ?_
                refine Own.isubE (pc' := 125) d_prog_107_method_2_124 rfl (z := (5 : Int32)) (by decide) ?_
                refine Own.istore (pc' := 127) (L1 := #[.val (.ref a), .val (.int (2 : Int32)), .val (.long q), .second, .val (.int (13 : Int32)), .val (.int (5 : Int32))]) d_prog_107_method_2_125 rfl rfl ?_
                refine Own.iload (pc' := 129) d_prog_107_method_2_127 rfl rfl ?_
                have hq : (5 : Int32) = own_want (5 : Int32) (2 : Int32) q x0 x1 x2 x3 x4 := by unfold own_want; (repeat' split) <;> first | rfl | (exfalso; omega) | omega
                exact Own.ireturnI d_prog_107_method_2_129 rfl (⟨rfl, _, rfl, hq⟩) (by decide) (by decide)
              · refine Own.iconst (pc' := 101) (v := (2 : Int32)) d_prog_107_method_2_100 (by decide) rfl ?_
                refine Own.iload (pc' := 103) d_prog_107_method_2_101 rfl rfl ?_
                refine Own.imulE (pc' := 104) d_prog_107_method_2_103 rfl (z := (12 : Int32)) (by decide) ?_
                refine Own.goto (pc' := 113) d_prog_107_method_2_104 (by decide) (by decide) ?_
                refine Own.istore (pc' := 115) (L1 := #[.val (.ref a), .val (.int (2 : Int32)), .val (.long q), .second, .val (.int (12 : Int32)), .val (.int (5 : Int32))]) d_prog_107_method_2_113 rfl rfl ?_
                refine Own.goto (pc' := 77) d_prog_107_method_2_115 (by decide) (by decide) ?_
                refine Own.iload (pc' := 79) d_prog_107_method_2_77 rfl rfl ?_
                refine Own.aloadN (pc' := 80) d_prog_107_method_2_79 rfl rfl rfl ?_
                refine Own.getfield (pc' := 83) d_prog_107_method_2_80 rfl (host := "") (Or.inl (hw _ (List.mem_of_getElem? (i := 10) rfl))) Via.refl F_leaves ?_
                refine Own.icmp_ge (pc' := 118) (pc2 := 86) d_prog_107_method_2_83 (by decide) (by decide) rfl (fun _ => ?_) (fun q => absurd (by decide) q)
                refine Own.iload (pc' := 120) d_prog_107_method_2_118 rfl rfl ?_
                refine Own.aloadN (pc' := 121) d_prog_107_method_2_120 rfl rfl rfl ?_
                refine Own.getfield (pc' := 124) d_prog_107_method_2_121 rfl (host := "") (Or.inl (hw _ (List.mem_of_getElem? (i := 10) rfl))) Via.refl F_leaves ?_
                refine Own.isubE (pc' := 125) d_prog_107_method_2_124 rfl (z := (4 : Int32)) (by decide) ?_
                refine Own.istore (pc' := 127) (L1 := #[.val (.ref a), .val (.int (2 : Int32)), .val (.long q), .second, .val (.int (12 : Int32)), .val (.int (4 : Int32))]) d_prog_107_method_2_125 rfl rfl ?_
                refine Own.iload (pc' := 129) d_prog_107_method_2_127 rfl rfl ?_
                have hq : (4 : Int32) = own_want (5 : Int32) (2 : Int32) q x0 x1 x2 x3 x4 := by unfold own_want; (repeat' split) <;> first | rfl | (exfalso; omega) | omega
                exact Own.ireturnI d_prog_107_method_2_129 rfl (⟨rfl, _, rfl, hq⟩) (by decide) (by decide)
          · refine Own.iload (pc' := 40) d_prog_107_method_2_38 rfl rfl ?_
            refine Own.iconst (pc' := 41) (v := (2 : Int32)) d_prog_107_method_2_40 (by decide) rfl ?_
            refine Own.iremE (pc' := 42) d_prog_107_method_2_41 (by decide) rfl (z := (1 : Int32)) (by decide) ?_
            refine Own.iconst (pc' := 43) (v := (1 : Int32)) d_prog_107_method_2_42 (by decide) rfl ?_
            refine Own.icmp_ne (pc' := 55) (pc2 := 46) d_prog_107_method_2_43 (by decide) (by decide) rfl (fun q => absurd q (by decide)) (fun _ => ?_)
            refine Own.iload (pc' := 48) d_prog_107_method_2_46 rfl rfl ?_
            refine Own.iconst (pc' := 49) (v := (2 : Int32)) d_prog_107_method_2_48 (by decide) rfl ?_
            refine Own.idivE (pc' := 50) d_prog_107_method_2_49 (by decide) rfl (z := (1 : Int32)) (by decide) ?_
            refine Own.istore (pc' := 52) (L1 := #[.val (.ref a), .val (.int (2 : Int32)), .val (.long q), .second, .val (.int (1 : Int32)), .unset]) d_prog_107_method_2_50 rfl rfl ?_
            refine Own.goto (pc' := 38) d_prog_107_method_2_52 (by decide) (by decide) ?_
            refine Own.iload (pc' := 40) d_prog_107_method_2_38 rfl rfl ?_
            refine Own.iconst (pc' := 41) (v := (2 : Int32)) d_prog_107_method_2_40 (by decide) rfl ?_
            refine Own.iremE (pc' := 42) d_prog_107_method_2_41 (by decide) rfl (z := (1 : Int32)) (by decide) ?_
            refine Own.iconst (pc' := 43) (v := (1 : Int32)) d_prog_107_method_2_42 (by decide) rfl ?_
            refine Own.icmp_ne (pc' := 55) (pc2 := 46) d_prog_107_method_2_43 (by decide) (by decide) rfl (fun q => absurd q (by decide)) (fun _ => ?_)
            refine Own.iload (pc' := 48) d_prog_107_method_2_46 rfl rfl ?_
            refine Own.iconst (pc' := 49) (v := (2 : Int32)) d_prog_107_method_2_48 (by decide) rfl ?_
            refine Own.idivE (pc' := 50) d_prog_107_method_2_49 (by decide) rfl (z := (0 : Int32)) (by decide) ?_
            refine Own.istore (pc' := 52) (L1 := #[.val (.ref a), .val (.int (2 : Int32)), .val (.long q), .second, .val (.int (0 : Int32)), .unset]) d_prog_107_method_2_50 rfl rfl ?_
            refine Own.goto (pc' := 38) d_prog_107_method_2_52 (by decide) (by decide) ?_
            refine Own.iload (pc' := 40) d_prog_107_method_2_38 rfl rfl ?_
            refine Own.iconst (pc' := 41) (v := (2 : Int32)) d_prog_107_method_2_40 (by decide) rfl ?_
            refine Own.iremE (pc' := 42) d_prog_107_method_2_41 (by decide) rfl (z := (0 : Int32)) (by decide) ?_
            refine Own.iconst (pc' := 43) (v := (1 : Int32)) d_prog_107_method_2_42 (by decide) rfl ?_
            refine Own.icmp_ne (pc' := 55) (pc2 := 46) d_prog_107_method_2_43 (by decide) (by decide) rfl (fun _ => ?_) (fun q => absurd (by decide) q)
            refine Own.iload (pc' := 57) d_prog_107_method_2_55 rfl rfl ?_
            refine Own.if_le (pc' := 21) (pc2 := 60) d_prog_107_method_2_57 (by decide) (by decide) rfl (fun _ => ?_) (fun q => absurd (by decide) q)
            refine Own.iload (pc' := 23) d_prog_107_method_2_21 rfl rfl ?_
            refine Own.if_le (pc' := 66) (pc2 := 26) d_prog_107_method_2_23 (by decide) (by decide) rfl (fun _ => ?_) (fun q => absurd (by decide) q)
            refine Own.aloadN (pc' := 67) d_prog_107_method_2_66 rfl rfl rfl ?_
            refine Own.getfield (pc' := 70) d_prog_107_method_2_67 rfl (host := "") (Or.inl (hw _ (List.mem_of_getElem? (i := 12) rfl))) Via.refl F_count ?_
            refine Own.istore (pc' := 72) (L1 := #[.val (.ref a), .val (.int (2 : Int32)), .val (.long q), .second, .val (.int (0 : Int32)), .val (.int (5 : Int32))]) d_prog_107_method_2_70 rfl rfl ?_
            refine Own.iload (pc' := 74) d_prog_107_method_2_72 rfl rfl ?_
            refine Own.if_le (pc' := 127) (pc2 := 77) d_prog_107_method_2_74 (by decide) (by decide) rfl (fun _ => ?_) (fun q => absurd (by decide) q)
            refine Own.iload (pc' := 129) d_prog_107_method_2_127 rfl rfl ?_
            have hq : (5 : Int32) = own_want (5 : Int32) (2 : Int32) q x0 x1 x2 x3 x4 := by unfold own_want; (repeat' split) <;> first | rfl | (exfalso; omega) | omega
            exact Own.ireturnI d_prog_107_method_2_129 rfl (⟨rfl, _, rfl, hq⟩) (by decide) (by decide)
    · refine Own.aloadN (pc' := 14) d_prog_107_method_2_13 rfl rfl rfl ?_
      refine Own.getfield (pc' := 17) d_prog_107_method_2_14 rfl (host := "") (Or.inl (hw _ (List.mem_of_getElem? (i := 10) rfl))) Via.refl F_leaves ?_
      refine Own.iloadN (pc' := 18) d_prog_107_method_2_17 rfl rfl ?_
      refine Own.iaddE (pc' := 19) d_prog_107_method_2_18 rfl (z := (11 : Int32)) (by decide) ?_
      refine Own.istore (pc' := 21) (L1 := #[.val (.ref a), .val (.int (3 : Int32)), .val (.long q), .second, .val (.int (11 : Int32)), .unset]) d_prog_107_method_2_19 rfl rfl ?_
      refine Own.iload (pc' := 23) d_prog_107_method_2_21 rfl rfl ?_
      refine Own.if_le (pc' := 66) (pc2 := 26) d_prog_107_method_2_23 (by decide) (by decide) rfl (fun q => absurd q (by decide)) (fun _ => ?_)
      refine Own.aloadN (pc' := 27) d_prog_107_method_2_26 rfl rfl rfl ?_
      refine Own.getfield (pc' := 30) d_prog_107_method_2_27 rfl (host := "") (Or.inl (hw _ (List.mem_of_getElem? (i := 14) rfl))) Via.refl F_nodes ?_
      refine Own.iload (pc' := 32) d_prog_107_method_2_30 rfl rfl ?_
      refine Own.laload (pc' := 33) (i := 11) d_prog_107_method_2_32 rfl A (by decide) (by decide) ?_
      rw [own_nd5_11]
      show Go K _ _ _ _ _ _ _ _ _ 0 0 h 33 #[.val (.ref a), .val (.int (3 : Int32)), .val (.long q), .second, .val (.int (11 : Int32)), .unset] [(.long x3)]
      refine Own.lloadN (pc' := 34) d_prog_107_method_2_33 rfl rfl ?_
      refine Own.lcmp_ge (pc1 := 35) (pc' := 66) (pc2 := 38) d_prog_107_method_2_34 rfl d_prog_107_method_2_35 (by decide) (by decide) rfl (fun c34_982 => ?_) (fun c34_982 => ?_)
      · refine Own.aloadN (pc' := 67) d_prog_107_method_2_66 rfl rfl rfl ?_
        refine Own.getfield (pc' := 70) d_prog_107_method_2_67 rfl (host := "") (Or.inl (hw _ (List.mem_of_getElem? (i := 12) rfl))) Via.refl F_count ?_
        refine Own.istore (pc' := 72) (L1 := #[.val (.ref a), .val (.int (3 : Int32)), .val (.long q), .second, .val (.int (11 : Int32)), .val (.int (5 : Int32))]) d_prog_107_method_2_70 rfl rfl ?_
        refine Own.iload (pc' := 74) d_prog_107_method_2_72 rfl rfl ?_
        refine Own.if_le (pc' := 127) (pc2 := 77) d_prog_107_method_2_74 (by decide) (by decide) rfl (fun q => absurd q (by decide)) (fun _ => ?_)
        refine Own.iload (pc' := 79) d_prog_107_method_2_77 rfl rfl ?_
        refine Own.aloadN (pc' := 80) d_prog_107_method_2_79 rfl rfl rfl ?_
        refine Own.getfield (pc' := 83) d_prog_107_method_2_80 rfl (host := "") (Or.inl (hw _ (List.mem_of_getElem? (i := 10) rfl))) Via.refl F_leaves ?_
        refine Own.icmp_ge (pc' := 118) (pc2 := 86) d_prog_107_method_2_83 (by decide) (by decide) rfl (fun _ => ?_) (fun q => absurd (by decide) q)
        refine Own.iload (pc' := 120) d_prog_107_method_2_118 rfl rfl ?_
        refine Own.aloadN (pc' := 121) d_prog_107_method_2_120 rfl rfl rfl ?_
        refine Own.getfield (pc' := 124) d_prog_107_method_2_121 rfl (host := "") (Or.inl (hw _ (List.mem_of_getElem? (i := 10) rfl))) Via.refl F_leaves ?_
        refine Own.isubE (pc' := 125) d_prog_107_method_2_124 rfl (z := (3 : Int32)) (by decide) ?_
        refine Own.istore (pc' := 127) (L1 := #[.val (.ref a), .val (.int (3 : Int32)), .val (.long q), .second, .val (.int (11 : Int32)), .val (.int (3 : Int32))]) d_prog_107_method_2_125 rfl rfl ?_
        refine Own.iload (pc' := 129) d_prog_107_method_2_127 rfl rfl ?_
        have hq : (3 : Int32) = own_want (5 : Int32) (3 : Int32) q x0 x1 x2 x3 x4 := by unfold own_want; (repeat' split) <;> first | rfl | (exfalso; omega) | omega
        exact Own.ireturnI d_prog_107_method_2_129 rfl (⟨rfl, _, rfl, hq⟩) (by decide) (by decide)
      · refine Own.iload (pc' := 40) d_prog_107_method_2_38 rfl rfl ?_
        refine Own.iconst (pc' := 41) (v := (2 : Int32)) d_prog_107_method_2_40 (by decide) rfl ?_
        refine Own.iremE (pc' := 42) d_prog_107_method_2_41 (by decide) rfl (z := (1 : Int32)) (by decide) ?_
        refine Own.iconst (pc' := 43) (v := (1 : Int32)) d_prog_107_method_2_42 (by decide) rfl ?_
        refine Own.icmp_ne (pc' := 55) (pc2 := 46) d_prog_107_method_2_43 (by decide) (by decide) rfl (fun q => absurd q (by decide)) (fun _ => ?_)
        refine Own.iload (pc' := 48) d_prog_107_method_2_46 rfl rfl ?_
        refine Own.iconst (pc' := 49) (v := (2 : Int32)) d_prog_107_method_2_48 (by decide) rfl ?_
        refine Own.idivE (pc' := 50) d_prog_107_method_2_49 (by decide) rfl (z := (5 : Int32)) (by decide) ?_
        refine Own.istore (pc' := 52) (L1 := #[.val (.ref a), .val (.int (3 : Int32)), .val (.long q), .second, .val (.int (5 : Int32)), .unset]) d_prog_107_method_2_50 rfl rfl ?_
        refine Own.goto (pc' := 38) d_prog_107_method_2_52 (by decide) (by decide) ?_
        refine Own.iload (pc' := 40) d_prog_107_method_2_38 rfl rfl ?_
        refine Own.iconst (pc' := 41) (v := (2 : Int32)) d_prog_107_method_2_40 (by decide) rfl ?_
        refine Own.iremE (pc' := 42) d_prog_107_method_2_41 (by decide) rfl (z := (1 : Int32)) (by decide) ?_
        refine Own.iconst (pc' := 43) (v := (1 : Int32)) d_prog_107_method_2_42 (by decide) rfl ?_
        refine Own.icmp_ne (pc' := 55) (pc2 := 46) d_prog_107_method_2_43 (by decide) (by decide) rfl (fun q => absurd q (by decide)) (fun _ => ?_)
        refine Own.iload (pc' := 48) d_prog_107_method_2_46 rfl rfl ?_
        refine Own.iconst (pc' := 49) (v := (2 : Int32)) d_prog_107_method_2_48 (by decide) rfl ?_
        refine Own.idivE (pc' := 50) d_prog_107_method_2_49 (by decide) rfl (z := (2 : Int32)) (by decide) ?_
        refine Own.istore (pc' := 52) (L1 := #[.val (.ref a), .val (.int (3 : Int32)), .val (.long q), .second, .val (.int (2 : Int32)), .unset]) d_prog_107_method_2_50 rfl rfl ?_
        refine Own.goto (pc' := 38) d_prog_107_method_2_52 (by decide) (by decide) ?_
        refine Own.iload (pc' := 40) d_prog_107_method_2_38 rfl rfl ?_
        refine Own.iconst (pc' := 41) (v := (2 : Int32)) d_prog_107_method_2_40 (by decide) rfl ?_
        refine Own.iremE (pc' := 42) d_prog_107_method_2_41 (by decide) rfl (z := (0 : Int32)) (by decide) ?_
        refine Own.iconst (pc' := 43) (v := (1 : Int32)) d_prog_107_method_2_42 (by decide) rfl ?_
        refine Own.icmp_ne (pc' := 55) (pc2 := 46) d_prog_107_method_2_43 (by decide) (by decide) rfl (fun _ => ?_) (fun q => absurd (by decide) q)
        refine Own.iload (pc' := 57) d_prog_107_method_2_55 rfl rfl ?_
        refine Own.if_le (pc' := 21) (pc2 := 60) d_prog_107_method_2_57 (by decide) (by decide) rfl (fun q => absurd q (by decide)) (fun _ => ?_)
        refine Own.iincE (pc' := 63) (L1 := fun zz => #[.val (.ref a), .val (.int (3 : Int32)), .val (.long q), .second, .val (.int zz), .unset]) d_prog_107_method_2_60 rfl (fun _ => rfl) rfl (z := (3 : Int32)) (by decide) ?_
        show Go K _ _ _ _ _ _ _ _ _ 0 0 h 63 #[.val (.ref a), .val (.int (3 : Int32)), .val (.long q), .second, .val (.int (3 : Int32)), .unset] []
        refine Own.goto (pc' := 21) d_prog_107_method_2_63 (by decide) (by decide) ?_
        refine Own.iload (pc' := 23) d_prog_107_method_2_21 rfl rfl ?_
        refine Own.if_le (pc' := 66) (pc2 := 26) d_prog_107_method_2_23 (by decide) (by decide) rfl (fun q => absurd q (by decide)) (fun _ => ?_)
        refine Own.aloadN (pc' := 27) d_prog_107_method_2_26 rfl rfl rfl ?_
        refine Own.getfield (pc' := 30) d_prog_107_method_2_27 rfl (host := "") (Or.inl (hw _ (List.mem_of_getElem? (i := 14) rfl))) Via.refl F_nodes ?_
        refine Own.iload (pc' := 32) d_prog_107_method_2_30 rfl rfl ?_
        refine Own.laload (pc' := 33) (i := 3) d_prog_107_method_2_32 rfl A (by decide) (by decide) ?_
        rw [own_nd5_3]
        show Go K _ _ _ _ _ _ _ _ _ 0 0 h 33 #[.val (.ref a), .val (.int (3 : Int32)), .val (.long q), .second, .val (.int (3 : Int32)), .unset] [(.long (own_max (own_max x4 (0 : Int64)) (own_max (0 : Int64) (0 : Int64))))]
        refine Own.lloadN (pc' := 34) d_prog_107_method_2_33 rfl rfl ?_
        refine Own.lcmp_ge (pc1 := 35) (pc' := 66) (pc2 := 38) d_prog_107_method_2_34 rfl d_prog_107_method_2_35 (by decide) (by decide) rfl (fun c34_997 => ?_) (fun c34_997 => ?_)
        · refine Own.aloadN (pc' := 67) d_prog_107_method_2_66 rfl rfl rfl ?_
          refine Own.getfield (pc' := 70) d_prog_107_method_2_67 rfl (host := "") (Or.inl (hw _ (List.mem_of_getElem? (i := 12) rfl))) Via.refl F_count ?_
          refine Own.istore (pc' := 72) (L1 := #[.val (.ref a), .val (.int (3 : Int32)), .val (.long q), .second, .val (.int (3 : Int32)), .val (.int (5 : Int32))]) d_prog_107_method_2_70 rfl rfl ?_
          refine Own.iload (pc' := 74) d_prog_107_method_2_72 rfl rfl ?_
          refine Own.if_le (pc' := 127) (pc2 := 77) d_prog_107_method_2_74 (by decide) (by decide) rfl (fun q => absurd q (by decide)) (fun _ => ?_)
          refine Own.iload (pc' := 79) d_prog_107_method_2_77 rfl rfl ?_
          refine Own.aloadN (pc' := 80) d_prog_107_method_2_79 rfl rfl rfl ?_
          refine Own.getfield (pc' := 83) d_prog_107_method_2_80 rfl (host := "") (Or.inl (hw _ (List.mem_of_getElem? (i := 10) rfl))) Via.refl F_leaves ?_
          refine Own.icmp_ge (pc' := 118) (pc2 := 86) d_prog_107_method_2_83 (by decide) (by decide) rfl (fun q => absurd q (by decide)) (fun _ => ?_)
          refine Own.aloadN (pc' := 87) d_prog_107_method_2_86 rfl rfl rfl ?_
          refine Own.getfield (pc' := 90) d_prog_107_method_2_87 rfl (host := "") (Or.inl (hw _ (List.mem_of_getElem? (i := 14) rfl))) Via.refl F_nodes ?_
          refine Own.iconst (pc' := 91) (v := (2 : Int32)) d_prog_107_method_2_90 (by decide) rfl ?_
          refine Own.iload (pc' := 93) d_prog_107_method_2_91 rfl rfl ?_
          refine Own.imulE (pc' := 94) d_prog_107_method_2_93 rfl (z := (6 : Int32)) (by decide) ?_
          refine Own.laload (pc' := 95) (i := 6) d_prog_107_method_2_94 rfl A (by decide) (by decide) ?_
          rw [own_nd5_6]
          show Go K _ _ _ _ _ _ _ _ _ 0 0 h 95 #[.val (.ref a), .val (.int (3 : Int32)), .val (.long q), .second, .val (.int (3 : Int32)), .val (.int (5 : Int32))] [(.long (own_max x4 (0 : Int64)))]
          refine Own.lloadN (pc' := 96) d_prog_107_method_2_95 rfl rfl ?_
          refine Own.lcmp_lt (pc1 := 97) (pc' := 107) (pc2 := 100) d_prog_107_method_2_96 rfl d_prog_107_method_2_97 (by decide) (by decide) rfl (fun c96_1001 => ?_) (fun c96_1001 => ?_)
          · refine Own.iconst (pc' := 108) (v := (2 : Int32)) d_prog_107_method_2_107 (by decide) rfl ?_
            refine Own.iload (pc' := 110) d_prog_107_method_2_108 rfl rfl ?_
            refine Own.imulE (pc' := 111) d_prog_107_method_2_110 rfl (z := (6 : Int32)) (by decide) ?_
            refine Own.iconst (pc' := 112) (v := (1 : Int32)) d_prog_107_method_2_111 (by decide) rfl ?_
            refine Own.iaddE (pc' := 113) d_prog_107_method_2_112 rfl (z := (7 : Int32)) (by decide) ?_
            refine Own.istore (pc' := 115) (L1 := #[.val (.ref a), .val (.int (3 : Int32)), .val (.long q), .second, .val (.int (7 : Int32)), .val (.int (5 : Int32))]) d_prog_107_method_2_113 rfl rfl ?_
            refine Own.goto (pc' := 77) d_prog_107_method_2_115 (by decide) (by decide) ?_
            refine Own.iload (pc' := 79) d_prog_107_method_2_77 rfl rfl ?_
            refine Own.aloadN (pc' := 80) d_prog_107_method_2_79 rfl rfl rfl ?_
            refine Own.getfield (pc' := 83) d_prog_107_method_2_80 rfl (host := "") (Or.inl (hw _ (List.mem_of_getElem? (i := 10) rfl))) Via.refl F_leaves ?_
            refine Own.icmp_ge (pc' := 118) (pc2 := 86) d_prog_107_method_2_83 (by decide) (by decide) rfl (fun q => absurd q (by decide)) (fun _ => ?_)
            refine Own.aloadN (pc' := 87) d_prog_107_method_2_86 rfl rfl rfl ?_
            refine Own.getfield (pc' := 90) d_prog_107_method_2_87 rfl (host := "") (Or.inl (hw _ (List.mem_of_getElem? (i := 14) rfl))) Via.refl F_nodes ?_
            refine Own.iconst (pc' := 91) (v := (2 : Int32)) d_prog_107_method_2_90 (by decide) rfl ?_
            refine Own.iload (pc' := 93) d_prog_107_method_2_91 rfl rfl ?_
            refine Own.imulE (pc' := 94) d_prog_107_method_2_93 rfl (z := (14 : Int32)) (by decide) ?_
            refine Own.laload (pc' := 95) (i := 14) d_prog_107_method_2_94 rfl A (by decide) (by decide) ?_
            rw [own_nd5_14]
            show Go K _ _ _ _ _ _ _ _ _ 0 0 h 95 #[.val (.ref a), .val (.int (3 : Int32)), .val (.long q), .second, .val (.int (7 : Int32)), .val (.int (5 : Int32))] [(.long (0 : Int64))]
            refine Own.lloadN (pc' := 96) d_prog_107_method_2_95 rfl rfl ?_
            refine Own.lcmp_lt (pc1 := 97) (pc' := 107) (pc2 := 100) d_prog_107_method_2_96 rfl d_prog_107_method_2_97 (by decide) (by decide) rfl (fun c96_1006 => ?_) (fun c96_1006 => ?_)
            · refine Own.iconst (pc' := 108) (v := (2 : Int32)) d_prog_107_method_2_107 (by decide) rfl ?_
              refine Own.iload (pc' := 110) d_prog_107_method_2_108 rfl rfl ?_
              refine Own.imulE (pc' := 111) d_prog_107_method_2_110 rfl (z := (14 : Int32)) (by decide) ?_
              refine Own.iconst (pc' := 112) (v := (1 : Int32)) d_prog_107_method_2_111 (by decide) rfl ?_
              refine Own.iaddE (pc' := 113) d_prog_107_method_2_112 rfl (z := (15 : Int32)) (by decide) ?_
              refine Own.istore (pc' := 115) (L1 := #[.val (.ref a), .val (.int (3 : Int32)), .val (.long q), .second, .val (.int (15 : Int32)), .val (.int (5 : Int32))]) d_prog_107_method_2_113 rfl rfl ?_
              refine Own.goto (pc' := 77) d_prog_107_method_2_115 (by decide) (by decide) ?_
              refine Own.iload (pc' := 79) d_prog_107_method_2_77 rfl rfl ?_
              refine Own.aloadN (pc' := 80) d_prog_107_method_2_79 rfl rfl rfl ?_
              refine Own.getfield (pc' := 83) d_prog_107_method_2_80 rfl (host := "") (Or.inl (hw _ (List.mem_of_getElem? (i := 10) rfl))) Via.refl F_leaves ?_
              refine Own.icmp_ge (pc' := 118) (pc2 := 86) d_prog_107_method_2_83 (by decide) (by decide) rfl (fun _ => ?_) (fun q => absurd (by decide) q)
              refine Own.iload (pc' := 120) d_prog_107_method_2_118 rfl rfl ?_
              refine Own.aloadN (pc' := 121) d_prog_107_method_2_120 rfl rfl rfl ?_
              refine Own.getfield (pc' := 124) d_prog_107_method_2_121 rfl (host := "") (Or.inl (hw _ (List.mem_of_getElem? (i := 10) rfl))) Via.refl F_leaves ?_
              refine Own.isubE (pc' := 125) d_prog_107_method_2_124 rfl (z := (7 : Int32)) (by decide) ?_
              refine Own.istore (pc' := 127) (L1 := #[.val (.ref a), .val (.int (3 : Int32)), .val (.long q), .second, .val (.int (15 : Int32)), .val (.int (7 : Int32))]) d_prog_107_method_2_125 rfl rfl ?_
              refine Own.iload (pc' := 129) d_prog_107_method_2_127 rfl rfl ?_
              have hq : (7 : Int32) = own_want (5 : Int32) (3 : Int32) q x0 x1 x2 x3 x4 := by unfold own_want; (repeat' split) <;> first | rfl | (exfalso; omega) | omega
              exact Own.ireturnI d_prog_107_method_2_129 rfl (⟨rfl, _, rfl, hq⟩) (by decide) (by decide)
            · refine Own.iconst (pc' := 101) (v := (2 : Int32)) d_prog_107_method_2_100 (by decide) rfl ?_
              refine Own.iload (pc' := 103) d_prog_107_method_2_101 rfl rfl ?_
              refine Own.imulE (pc' := 104) d_prog_107_method_2_103 rfl (z := (14 : Int32)) (by decide) ?_
              refine Own.goto (pc' := 113) d_prog_107_method_2_104 (by decide) (by decide) ?_
              refine Own.istore (pc' := 115) (L1 := #[.val (.ref a), .val (.int (3 : Int32)), .val (.long q), .second, .val (.int (14 : Int32)), .val (.int (5 : Int32))]) d_prog_107_method_2_113 rfl rfl ?_
              refine Own.goto (pc' := 77) d_prog_107_method_2_115 (by decide) (by decide) ?_
              refine Own.iload (pc' := 79) d_prog_107_method_2_77 rfl rfl ?_
              refine Own.aloadN (pc' := 80) d_prog_107_method_2_79 rfl rfl rfl ?_
              refine Own.getfield (pc' := 83) d_prog_107_method_2_80 rfl (host := "") (Or.inl (hw _ (List.mem_of_getElem? (i := 10) rfl))) Via.refl F_leaves ?_
              refine Own.icmp_ge (pc' := 118) (pc2 := 86) d_prog_107_method_2_83 (by decide) (by decide) rfl (fun _ => ?_) (fun q => absurd (by decide) q)
              refine Own.iload (pc' := 120) d_prog_107_method_2_118 rfl rfl ?_
              refine Own.aloadN (pc' := 121) d_prog_107_method_2_120 rfl rfl rfl ?_
              refine Own.getfield (pc' := 124) d_prog_107_method_2_121 rfl (host := "") (Or.inl (hw _ (List.mem_of_getElem? (i := 10) rfl))) Via.refl F_leaves ?_
              refine Own.isubE (pc' := 125) d_prog_107_method_2_124 rfl (z := (6 : Int32)) (by decide) ?_
              refine Own.istore (pc' := 127) (L1 := #[.val (.ref a), .val (.int (3 : Int32)), .val (.long q), .second, .val (.int (14 : Int32)), .val (.int (6 : Int32))]) d_prog_107_method_2_125 rfl rfl ?_
              refine Own.iload (pc' := 129) d_prog_107_method_2_127 rfl rfl ?_
              have hq : (6 : Int32) = own_want (5 : Int32) (3 : Int32) q x0 x1 x2 x3 x4 := by unfold own_want; (repeat' split) <;> first | rfl | (exfalso; omega) | omega
              exact Own.ireturnI d_prog_107_method_2_129 rfl (⟨rfl, _, rfl, hq⟩) (by decide) (by decide)
          · refine Own.iconst (pc' := 101) (v := (2 : Int32)) d_prog_107_method_2_100 (by decide) rfl ?_
            refine Own.iload (pc' := 103) d_prog_107_method_2_101 rfl rfl ?_
            refine Own.imulE (pc' := 104) d_prog_107_method_2_103 rfl (z := (6 : Int32)) (by decide) ?_
            refine Own.goto (pc' := 113) d_prog_107_method_2_104 (by decide) (by decide) ?_
            refine Own.istore (pc' := 115) (L1 := #[.val (.ref a), .val (.int (3 : Int32)), .val (.long q), .second, .val (.int (6 : Int32)), .val (.int (5 : Int32))]) d_prog_107_method_2_113 rfl rfl ?_
            refine Own.goto (pc' := 77) d_prog_107_method_2_115 (by decide) (by decide) ?_
            refine Own.iload (pc' := 79) d_prog_107_method_2_77 rfl rfl ?_
            refine Own.aloadN (pc' := 80) d_prog_107_method_2_79 rfl rfl rfl ?_
            refine Own.getfield (pc' := 83) d_prog_107_method_2_80 rfl (host := "") (Or.inl (hw _ (List.mem_of_getElem? (i := 10) rfl))) Via.refl F_leaves ?_
            refine Own.icmp_ge (pc' := 118) (pc2 := 86) d_prog_107_method_2_83 (by decide) (by decide) rfl (fun q => absurd q (by decide)) (fun _ => ?_)
            refine Own.aloadN (pc' := 87) d_prog_107_method_2_86 rfl rfl rfl ?_
            refine Own.getfield (pc' := 90) d_prog_107_method_2_87 rfl (host := "") (Or.inl (hw _ (List.mem_of_getElem? (i := 14) rfl))) Via.refl F_nodes ?_
            refine Own.iconst (pc' := 91) (v := (2 : Int32)) d_prog_107_method_2_90 (by decide) rfl ?_
            refine Own.iload (pc' := 93) d_prog_107_method_2_91 rfl rfl ?_
            refine Own.imulE (pc' := 94) d_prog_107_method_2_93 rfl (z := (12 : Int32)) (by decide) ?_
            refine Own.laload (pc' := 95) (i := 12) d_prog_107_method_2_94 rfl A (by decide) (by decide) ?_
            rw [own_nd5_12]
            show Go K _ _ _ _ _ _ _ _ _ 0 0 h 95 #[.val (.ref a), .val (.int (3 : Int32)), .val (.long q), .second, .val (.int (6 : Int32)), .val (.int (5 : Int32))] [(.long x4)]
            refine Own.lloadN (pc' := 96) d_prog_107_method_2_95 rfl rfl ?_
            refine Own.lcmp_lt (pc1 := 97) (pc' := 107) (pc2 := 100) d_prog_107_method_2_96 rfl d_prog_107_method_2_97 (by decide) (by decide) rfl (fun c96_1017 => ?_) (fun c96_1017 => ?_)
            · refine Own.iconst (pc' := 108) (v := (2 : Int32)) d_prog_107_method_2_107 (by decide) rfl ?_
              refine Own.iload (pc' := 110) d_prog_107_method_2_108 rfl rfl ?_
              refine Own.imulE (pc' := 111) d_prog_107_method_2_110 rfl (z := (12 : Int32)) (by decide) ?_
              refine Own.iconst (pc' := 112) (v := (1 : Int32)) d_prog_107_method_2_111 (by decide) rfl ?_
              refine Own.iaddE (pc' := 113) d_prog_107_method_2_112 rfl (z := (13 : Int32)) (by decide) ?_
              refine Own.istore (pc' := 115) (L1 := #[.val (.ref a), .val (.int (3 : Int32)), .val (.long q), .second, .val (.int (13 : Int32)), .val (.int (5 : Int32))]) d_prog_107_method_2_113 rfl rfl ?_
              refine Own.goto (pc' := 77) d_prog_107_method_2_115 (by decide) (by decide) ?_
              refine Own.iload (pc' := 79) d_prog_107_method_2_77 rfl rfl ?_
              refine Own.aloadN (pc' := 80) d_prog_107_method_2_79 rfl rfl rfl ?_
              refine Own.getfield (pc' := 83) d_prog_107_method_2_80 rfl (host := "") (Or.inl (hw _ (List.mem_of_getElem? (i := 10) rfl))) Via.refl F_leaves ?_
              refine Own.icmp_ge (pc' := 118) (pc2 := 86) d_prog_107_method_2_83 (by decide) (by decide) rfl (fun _ => ?_) (fun q => absurd (by decide) q)
              refine Own.iload (pc' := 120) d_prog_107_method_2_118 rfl rfl ?_
              refine Own.aloadN (pc' := 121) d_prog_107_method_2_120 rfl rfl rfl ?_
              refine Own.getfield (pc' := 124) d_prog_107_method_2_121 rfl (host := "") (Or.inl (hw _ (List.mem_of_getElem? (i := 10) rfl))) Via.refl F_leaves ?_
              refine Own.isubE (pc' := 125) d_prog_107_method_2_124 rfl (z := (5 : Int32)) (by decide) ?_
              refine Own.istore (pc' := 127) (L1 := #[.val (.ref a), .val (.int (3 : Int32)), .val (.long q), .second, .val (.int (13 : Int32)), .val (.int (5 : Int32))]) d_prog_107_method_2_125 rfl rfl ?_
              refine Own.iload (pc' := 129) d_prog_107_method_2_127 rfl rfl ?_
              have hq : (5 : Int32) = own_want (5 : Int32) (3 : Int32) q x0 x1 x2 x3 x4 := by unfold own_want; (repeat' split) <;> first | rfl | (exfalso; omega) | omega
              exact Own.ireturnI d_prog_107_method_2_129 rfl (⟨rfl, _, rfl, hq⟩) (by decide) (by decide)
            · refine Own.iconst (pc' := 101) (v := (2 : Int32)) d_prog_107_method_2_100 (by decide) rfl ?_
              refine Own.iload (pc' := 103) d_prog_107_method_2_101 rfl rfl ?_
              refine Own.imulE (pc' := 104) d_prog_107_method_2_103 rfl (z := (12 : Int32)) (by decide) ?_
              refine Own.goto (pc' := 113) d_prog_107_method_2_104 (by decide) (by decide) ?_
              refine Own.istore (pc' := 115) (L1 := #[.val (.ref a), .val (.int (3 : Int32)), .val (.long q), .second, .val (.int (12 : Int32)), .val (.int (5 : Int32))]) d_prog_107_method_2_113 rfl rfl ?_
              refine Own.goto (pc' := 77) d_prog_107_method_2_115 (by decide) (by decide) ?_
              refine Own.iload (pc' := 79) d_prog_107_method_2_77 rfl rfl ?_
              refine Own.aloadN (pc' := 80) d_prog_107_method_2_79 rfl rfl rfl ?_
              refine Own.getfield (pc' := 83) d_prog_107_method_2_80 rfl (host := "") (Or.inl (hw _ (List.mem_of_getElem? (i := 10) rfl))) Via.refl F_leaves ?_
              refine Own.icmp_ge (pc' := 118) (pc2 := 86) d_prog_107_method_2_83 (by decide) (by decide) rfl (fun _ => ?_) (fun q => absurd (by decide) q)
              refine Own.iload (pc' := 120) d_prog_107_method_2_118 rfl rfl ?_
              refine Own.aloadN (pc' := 121) d_prog_107_method_2_120 rfl rfl rfl ?_
              refine Own.getfield (pc' := 124) d_prog_107_method_2_121 rfl (host := "") (Or.inl (hw _ (List.mem_of_getElem? (i := 10) rfl))) Via.refl F_leaves ?_
              refine Own.isubE (pc' := 125) d_prog_107_method_2_124 rfl (z := (4 : Int32)) (by decide) ?_
              refine Own.istore (pc' := 127) (L1 := #[.val (.ref a), .val (.int (3 : Int32)), .val (.long q), .second, .val (.int (12 : Int32)), .val (.int (4 : Int32))]) d_prog_107_method_2_125 rfl rfl ?_
              refine Own.iload (pc' := 129) d_prog_107_method_2_127 rfl rfl ?_
              have hq : (4 : Int32) = own_want (5 : Int32) (3 : Int32) q x0 x1 x2 x3 x4 := by unfold own_want; (repeat' split) <;> first | rfl | (exfalso; omega) | omega
              exact Own.ireturnI d_prog_107_method_2_129 rfl (⟨rfl, _, rfl, hq⟩) (by decide) (by decide)
        · refine Own.iload (pc' := 40) d_prog_107_method_2_38 rfl rfl ?_
          refine Own.iconst (pc' := 41) (v := (2 : Int32)) d_prog_107_method_2_40 (by decide) rfl ?_
          refine Own.iremE (pc' := 42) d_prog_107_method_2_41 (by decide) rfl (z := (1 : Int32)) (by decide) ?_
          refine Own.iconst (pc' := 43) (v := (1 : Int32)) d_prog_107_method_2_42 (by decide) rfl ?_
          refine Own.icmp_ne (pc' := 55) (pc2 := 46) d_prog_107_method_2_43 (by decide) (by decide) rfl (fun q => absurd q (by decide)) (fun _ => ?_)
          refine Own.iload (pc' := 48) d_prog_107_method_2_46 rfl rfl ?_
          refine Own.iconst (pc' := 49) (v := (2 : Int32)) d_prog_107_method_2_48 (by decide) rfl ?_
          refine Own.idivE (pc' := 50) d_prog_107_method_2_49 (by decide) rfl (z := (1 : Int32)) (by decide) ?_
          refine Own.istore (pc' := 52) (L1 := #[.val (.ref a), .val (.int (3 : Int32)), .val (.long q), .second, .val (.int (1 : Int32)), .unset]) d_prog_107_method_2_50 rfl rfl ?_
          refine Own.goto (pc' := 38) d_prog_107_method_2_52 (by decide) (by decide) ?_
          refine Own.iload (pc' := 40) d_prog_107_method_2_38 rfl rfl ?_
          refine Own.iconst (pc' := 41) (v := (2 : Int32)) d_prog_107_method_2_40 (by decide) rfl ?_
          refine Own.iremE (pc' := 42) d_prog_107_method_2_41 (by decide) rfl (z := (1 : Int32)) (by decide) ?_
          refine Own.iconst (pc' := 43) (v := (1 : Int32)) d_prog_107_method_2_42 (by decide) rfl ?_
          refine Own.icmp_ne (pc' := 55) (pc2 := 46) d_prog_107_method_2_43 (by decide) (by decide) rfl (fun q => absurd q (by decide)) (fun _ => ?_)
          refine Own.iload (pc' := 48) d_prog_107_method_2_46 rfl rfl ?_
          refine Own.iconst (pc' := 49) (v := (2 : Int32)) d_prog_107_method_2_48 (by decide) rfl ?_
          refine Own.idivE (pc' := 50) d_prog_107_method_2_49 (by decide) rfl (z := (0 : Int32)) (by decide) ?_
          refine Own.istore (pc' := 52) (L1 := #[.val (.ref a), .val (.int (3 : Int32)), .val (.long q), .second, .val (.int (0 : Int32)), .unset]) d_prog_107_method_2_50 rfl rfl ?_
          refine Own.goto (pc' := 38) d_prog_107_method_2_52 (by decide) (by decide) ?_
          refine Own.iload (pc' := 40) d_prog_107_method_2_38 rfl rfl ?_
          refine Own.iconst (pc' := 41) (v := (2 : Int32)) d_prog_107_method_2_40 (by decide) rfl ?_
          refine Own.iremE (pc' := 42) d_prog_107_method_2_41 (by decide) rfl (z := (0 : Int32)) (by decide) ?_
          refine Own.iconst (pc' := 43) (v := (1 : Int32)) d_prog_107_method_2_42 (by decide) rfl ?_
          refine Own.icmp_ne (pc' := 55) (pc2 := 46) d_prog_107_method_2_43 (by decide) (by decide) rfl (fun _ => ?_) (fun q => absurd (by decide) q)
          refine Own.iload (pc' := 57) d_prog_107_method_2_55 rfl rfl ?_
          refine Own.if_le (pc' := 21) (pc2 := 60) d_prog_107_method_2_57 (by decide) (by decide) rfl (fun _ => ?_) (fun q => absurd (by decide) q)
          refine Own.iload (pc' := 23) d_prog_107_method_2_21 rfl rfl ?_
          refine Own.if_le (pc' := 66) (pc2 := 26) d_prog_107_method_2_23 (by decide) (by decide) rfl (fun _ => ?_) (fun q => absurd (by decide) q)
          refine Own.aloadN (pc' := 67) d_prog_107_method_2_66 rfl rfl rfl ?_
          refine Own.getfield (pc' := 70) d_prog_107_method_2_67 rfl (host := "") (Or.inl (hw _ (List.mem_of_getElem? (i := 12) rfl))) Via.refl F_count ?_
          refine Own.istore (pc' := 72) (L1 := #[.val (.ref a), .val (.int (3 : Int32)), .val (.long q), .second, .val (.int (0 : Int32)), .val (.int (5 : Int32))]) d_prog_107_method_2_70 rfl rfl ?_
          refine Own.iload (pc' := 74) d_prog_107_method_2_72 rfl rfl ?_
          refine Own.if_le (pc' := 127) (pc2 := 77) d_prog_107_method_2_74 (by decide) (by decide) rfl (fun _ => ?_) (fun q => absurd (by decide) q)
          refine Own.iload (pc' := 129) d_prog_107_method_2_127 rfl rfl ?_
          have hq : (5 : Int32) = own_want (5 : Int32) (3 : Int32) q x0 x1 x2 x3 x4 := by unfold own_want; (repeat' split) <;> first | rfl | (exfalso; omega) | omega
          exact Own.ireturnI d_prog_107_method_2_129 rfl (⟨rfl, _, rfl, hq⟩) (by decide) (by decide)
    · refine Own.aloadN (pc' := 14) d_prog_107_method_2_13 rfl rfl rfl ?_
      refine Own.getfield (pc' := 17) d_prog_107_method_2_14 rfl (host := "") (Or.inl (hw _ (List.mem_of_getElem? (i := 10) rfl))) Via.refl F_leaves ?_
      refine Own.iloadN (pc' := 18) d_prog_107_method_2_17 rfl rfl ?_
      refine Own.iaddE (pc' := 19) d_prog_107_method_2_18 rfl (z := (12 : Int32)) (by decide) ?_
      refine Own.istore (pc' := 21) (L1 := #[.val (.ref a), .val (.int (4 : Int32)), .val (.long q), .second, .val (.int (12 : Int32)), .unset]) d_prog_107_method_2_19 rfl rfl ?_
      refine Own.iload (pc' := 23) d_prog_107_method_2_21 rfl rfl ?_
      refine Own.if_le (pc' := 66) (pc2 := 26) d_prog_107_method_2_23 (by decide) (by decide) rfl (fun q => absurd q (by decide)) (fun _ => ?_)
      refine Own.aloadN (pc' := 27) d_prog_107_method_2_26 rfl rfl rfl ?_
      refine Own.getfield (pc' := 30) d_prog_107_method_2_27 rfl (host := "") (Or.inl (hw _ (List.mem_of_getElem? (i := 14) rfl))) Via.refl F_nodes ?_
      refine Own.iload (pc' := 32) d_prog_107_method_2_30 rfl rfl ?_
      refine Own.laload (pc' := 33) (i := 12) d_prog_107_method_2_32 rfl A (by decide) (by decide) ?_
      rw [own_nd5_12]
      show Go K _ _ _ _ _ _ _ _ _ 0 0 h 33 #[.val (.ref a), .val (.int (4 : Int32)), .val (.long q), .second, .val (.int (12 : Int32)), .unset] [(.long x4)]
      refine Own.lloadN (pc' := 34) d_prog_107_method_2_33 rfl rfl ?_
      refine Own.lcmp_ge (pc1 := 35) (pc' := 66) (pc2 := 38) d_prog_107_method_2_34 rfl d_prog_107_method_2_35 (by decide) (by decide) rfl (fun c34_1038 => ?_) (fun c34_1038 => ?_)
      · refine Own.aloadN (pc' := 67) d_prog_107_method_2_66 rfl rfl rfl ?_
        refine Own.getfield (pc' := 70) d_prog_107_method_2_67 rfl (host := "") (Or.inl (hw _ (List.mem_of_getElem? (i := 12) rfl))) Via.refl F_count ?_
        refine Own.istore (pc' := 72) (L1 := #[.val (.ref a), .val (.int (4 : Int32)), .val (.long q), .second, .val (.int (12 : Int32)), .val (.int (5 : Int32))]) d_prog_107_method_2_70 rfl rfl ?_
        refine Own.iload (pc' := 74) d_prog_107_method_2_72 rfl rfl ?_
        refine Own.if_le (pc' := 127) (pc2 := 77) d_prog_107_method_2_74 (by decide) (by decide) rfl (fun q => absurd q (by decide)) (fun _ => ?_)
        refine Own.iload (pc' := 79) d_prog_107_method_2_77 rfl rfl ?_
        refine Own.aloadN (pc' := 80) d_prog_107_method_2_79 rfl rfl rfl ?_
        refine Own.getfield (pc' := 83) d_prog_107_method_2_80 rfl (host := "") (Or.inl (hw _ (List.mem_of_getElem? (i := 10) rfl))) Via.refl F_leaves ?_
        refine Own.icmp_ge (pc' := 118) (pc2 := 86) d_prog_107_method_2_83 (by decide) (by decide) rfl (fun _ => ?_) (fun q => absurd (by decide) q)
        refine Own.iload (pc' := 120) d_prog_107_method_2_118 rfl rfl ?_
        refine Own.aloadN (pc' := 121) d_prog_107_method_2_120 rfl rfl rfl ?_
        refine Own.getfield (pc' := 124) d_prog_107_method_2_121 rfl (host := "") (Or.inl (hw _ (List.mem_of_getElem? (i := 10) rfl))) Via.refl F_leaves ?_
        refine Own.isubE (pc' := 125) d_prog_107_method_2_124 rfl (z := (4 : Int32)) (by decide) ?_
        refine Own.istore (pc' := 127) (L1 := #[.val (.ref a), .val (.int (4 : Int32)), .val (.long q), .second, .val (.int (12 : Int32)), .val (.int (4 : Int32))]) d_prog_107_method_2_125 rfl rfl ?_
        refine Own.iload (pc' := 129) d_prog_107_method_2_127 rfl rfl ?_
        have hq : (4 : Int32) = own_want (5 : Int32) (4 : Int32) q x0 x1 x2 x3 x4 := by unfold own_want; (repeat' split) <;> first | rfl | (exfalso; omega) | omega
        exact Own.ireturnI d_prog_107_method_2_129 rfl (⟨rfl, _, rfl, hq⟩) (by decide) (by decide)
      · refine Own.iload (pc' := 40) d_prog_107_method_2_38 rfl rfl ?_
        refine Own.iconst (pc' := 41) (v := (2 : Int32)) d_prog_107_method_2_40 (by decide) rfl ?_
        refine Own.iremE (pc' := 42) d_prog_107_method_2_41 (by decide) rfl (z := (0 : Int32)) (by decide) ?_
        refine Own.iconst (pc' := 43) (v := (1 : Int32)) d_prog_107_method_2_42 (by decide) rfl ?_
        refine Own.icmp_ne (pc' := 55) (pc2 := 46) d_prog_107_method_2_43 (by decide) (by decide) rfl (fun _ => ?_) (fun q => absurd (by decide) q)
        refine Own.iload (pc' := 57) d_prog_107_method_2_55 rfl rfl ?_
        refine Own.if_le (pc' := 21) (pc2 := 60) d_prog_107_method_2_57 (by decide) (by decide) rfl (fun q => absurd q (by decide)) (fun _ => ?_)
        refine Own.iincE (pc' := 63) (L1 := fun zz => #[.val (.ref a), .val (.int (4 : Int32)), .val (.long q), .second, .val (.int zz), .unset]) d_prog_107_method_2_60 rfl (fun _ => rfl) rfl (z := (13 : Int32)) (by decide) ?_
        show Go K _ _ _ _ _ _ _ _ _ 0 0 h 63 #[.val (.ref a), .val (.int (4 : Int32)), .val (.long q), .second, .val (.int (13 : Int32)), .unset] []
        refine Own.goto (pc' := 21) d_prog_107_method_2_63 (by decide) (by decide) ?_
        refine Own.iload (pc' := 23) d_prog_107_method_2_21 rfl rfl ?_
        refine Own.if_le (pc' := 66) (pc2 := 26) d_prog_107_method_2_23 (by decide) (by decide) rfl (fun q => absurd q (by decide)) (fun _ => ?_)
        refine Own.aloadN (pc' := 27) d_prog_107_method_2_26 rfl rfl rfl ?_
        refine Own.getfield (pc' := 30) d_prog_107_method_2_27 rfl (host := "") (Or.inl (hw _ (List.mem_of_getElem? (i := 14) rfl))) Via.refl F_nodes ?_
        refine Own.iload (pc' := 32) d_prog_107_method_2_30 rfl rfl ?_
        refine Own.laload (pc' := 33) (i := 13) d_prog_107_method_2_32 rfl A (by decide) (by decide) ?_
        rw [own_nd5_13]
        show Go K _ _ _ _ _ _ _ _ _ 0 0 h 33 #[.val (.ref a), .val (.int (4 : Int32)), .val (.long q), .second, .val (.int (13 : Int32)), .unset] [(.long (0 : Int64))]
        refine Own.lloadN (pc' := 34) d_prog_107_method_2_33 rfl rfl ?_
        refine Own.lcmp_ge (pc1 := 35) (pc' := 66) (pc2 := 38) d_prog_107_method_2_34 rfl d_prog_107_method_2_35 (by decide) (by decide) rfl (fun c34_1047 => ?_) (fun c34_1047 => ?_)
        · refine Own.aloadN (pc' := 67) d_prog_107_method_2_66 rfl rfl rfl ?_
          refine Own.getfield (pc' := 70) d_prog_107_method_2_67 rfl (host := "") (Or.inl (hw _ (List.mem_of_getElem? (i := 12) rfl))) Via.refl F_count ?_
          refine Own.istore (pc' := 72) (L1 := #[.val (.ref a), .val (.int (4 : Int32)), .val (.long q), .second, .val (.int (13 : Int32)), .val (.int (5 : Int32))]) d_prog_107_method_2_70 rfl rfl ?_
          refine Own.iload (pc' := 74) d_prog_107_method_2_72 rfl rfl ?_
          refine Own.if_le (pc' := 127) (pc2 := 77) d_prog_107_method_2_74 (by decide) (by decide) rfl (fun q => absurd q (by decide)) (fun _ => ?_)
          refine Own.iload (pc' := 79) d_prog_107_method_2_77 rfl rfl ?_
          refine Own.aloadN (pc' := 80) d_prog_107_method_2_79 rfl rfl rfl ?_
          refine Own.getfield (pc' := 83) d_prog_107_method_2_80 rfl (host := "") (Or.inl (hw _ (List.mem_of_getElem? (i := 10) rfl))) Via.refl F_leaves ?_
          refine Own.icmp_ge (pc' := 118) (pc2 := 86) d_prog_107_method_2_83 (by decide) (by decide) rfl (fun _ => ?_) (fun q => absurd (by decide) q)
          refine Own.iload (pc' := 120) d_prog_107_method_2_118 rfl rfl ?_
          refine Own.aloadN (pc' := 121) d_prog_107_method_2_120 rfl rfl rfl ?_
          refine Own.getfield (pc' := 124) d_prog_107_method_2_121 rfl (host := "") (Or.inl (hw _ (List.mem_of_getElem? (i := 10) rfl))) Via.refl F_leaves ?_
          refine Own.isubE (pc' := 125) d_prog_107_method_2_124 rfl (z := (5 : Int32)) (by decide) ?_
          refine Own.istore (pc' := 127) (L1 := #[.val (.ref a), .val (.int (4 : Int32)), .val (.long q), .second, .val (.int (13 : Int32)), .val (.int (5 : Int32))]) d_prog_107_method_2_125 rfl rfl ?_
          refine Own.iload (pc' := 129) d_prog_107_method_2_127 rfl rfl ?_
          have hq : (5 : Int32) = own_want (5 : Int32) (4 : Int32) q x0 x1 x2 x3 x4 := by unfold own_want; (repeat' split) <;> first | rfl | (exfalso; omega) | omega
          exact Own.ireturnI d_prog_107_method_2_129 rfl (⟨rfl, _, rfl, hq⟩) (by decide) (by decide)
        · refine Own.iload (pc' := 40) d_prog_107_method_2_38 rfl rfl ?_
          refine Own.iconst (pc' := 41) (v := (2 : Int32)) d_prog_107_method_2_40 (by decide) rfl ?_
          refine Own.iremE (pc' := 42) d_prog_107_method_2_41 (by decide) rfl (z := (1 : Int32)) (by decide) ?_
          refine Own.iconst (pc' := 43) (v := (1 : Int32)) d_prog_107_method_2_42 (by decide) rfl ?_
          refine Own.icmp_ne (pc' := 55) (pc2 := 46) d_prog_107_method_2_43 (by decide) (by decide) rfl (fun q => absurd q (by decide)) (fun _ => ?_)
          refine Own.iload (pc' := 48) d_prog_107_method_2_46 rfl rfl ?_
          refine Own.iconst (pc' := 49) (v := (2 : Int32)) d_prog_107_method_2_48 (by decide) rfl ?_
          refine Own.idivE (pc' := 50) d_prog_107_method_2_49 (by decide) rfl (z := (6 : Int32)) (by decide) ?_
          refine Own.istore (pc' := 52) (L1 := #[.val (.ref a), .val (.int (4 : Int32)), .val (.long q), .second, .val (.int (6 : Int32)), .unset]) d_prog_107_method_2_50 rfl rfl ?_
          refine Own.goto (pc' := 38) d_prog_107_method_2_52 (by decide) (by decide) ?_
          refine Own.iload (pc' := 40) d_prog_107_method_2_38 rfl rfl ?_
          refine Own.iconst (pc' := 41) (v := (2 : Int32)) d_prog_107_method_2_40 (by decide) rfl ?_
          refine Own.iremE (pc' := 42) d_prog_107_method_2_41 (by decide) rfl (z := (0 : Int32)) (by decide) ?_
          refine Own.iconst (pc' := 43) (v := (1 : Int32)) d_prog_107_method_2_42 (by decide) rfl ?_
          refine Own.icmp_ne (pc' := 55) (pc2 := 46) d_prog_107_method_2_43 (by decide) (by decide) rfl (fun _ => ?_) (fun q => absurd (by decide) q)
          refine Own.iload (pc' := 57) d_prog_107_method_2_55 rfl rfl ?_
          refine Own.if_le (pc' := 21) (pc2 := 60) d_prog_107_method_2_57 (by decide) (by decide) rfl (fun q => absurd q (by decide)) (fun _ => ?_)
          refine Own.iincE (pc' := 63) (L1 := fun zz => #[.val (.ref a), .val (.int (4 : Int32)), .val (.long q), .second, .val (.int zz), .unset]) d_prog_107_method_2_60 rfl (fun _ => rfl) rfl (z := (7 : Int32)) (by decide) ?_
          show Go K _ _ _ _ _ _ _ _ _ 0 0 h 63 #[.val (.ref a), .val (.int (4 : Int32)), .val (.long q), .second, .val (.int (7 : Int32)), .unset] []
          refine Own.goto (pc' := 21) d_prog_107_method_2_63 (by decide) (by decide) ?_
          refine Own.iload (pc' := 23) d_prog_107_method_2_21 rfl rfl ?_
          refine Own.if_le (pc' := 66) (pc2 := 26) d_prog_107_method_2_23 (by decide) (by decide) rfl (fun q => absurd q (by decide)) (fun _ => ?_)
          refine Own.aloadN (pc' := 27) d_prog_107_method_2_26 rfl rfl rfl ?_
          refine Own.getfield (pc' := 30) d_prog_107_method_2_27 rfl (host := "") (Or.inl (hw _ (List.mem_of_getElem? (i := 14) rfl))) Via.refl F_nodes ?_
          refine Own.iload (pc' := 32) d_prog_107_method_2_30 rfl rfl ?_
          refine Own.laload (pc' := 33) (i := 7) d_prog_107_method_2_32 rfl A (by decide) (by decide) ?_
          rw [own_nd5_7]
          show Go K _ _ _ _ _ _ _ _ _ 0 0 h 33 #[.val (.ref a), .val (.int (4 : Int32)), .val (.long q), .second, .val (.int (7 : Int32)), .unset] [(.long (own_max (0 : Int64) (0 : Int64)))]
          refine Own.lloadN (pc' := 34) d_prog_107_method_2_33 rfl rfl ?_
          refine Own.lcmp_ge (pc1 := 35) (pc' := 66) (pc2 := 38) d_prog_107_method_2_34 rfl d_prog_107_method_2_35 (by decide) (by decide) rfl (fun c34_1059 => ?_) (fun c34_1059 => ?_)
          · refine Own.aloadN (pc' := 67) d_prog_107_method_2_66 rfl rfl rfl ?_
            refine Own.getfield (pc' := 70) d_prog_107_method_2_67 rfl (host := "") (Or.inl (hw _ (List.mem_of_getElem? (i := 12) rfl))) Via.refl F_count ?_
            refine Own.istore (pc' := 72) (L1 := #[.val (.ref a), .val (.int (4 : Int32)), .val (.long q), .second, .val (.int (7 : Int32)), .val (.int (5 : Int32))]) d_prog_107_method_2_70 rfl rfl ?_
            refine Own.iload (pc' := 74) d_prog_107_method_2_72 rfl rfl ?_
            refine Own.if_le (pc' := 127) (pc2 := 77) d_prog_107_method_2_74 (by decide) (by decide) rfl (fun q => absurd q (by decide)) (fun _ => ?_)
            refine Own.iload (pc' := 79) d_prog_107_method_2_77 rfl rfl ?_
            refine Own.aloadN (pc' := 80) d_prog_107_method_2_79 rfl rfl rfl ?_
            refine Own.getfield (pc' := 83) d_prog_107_method_2_80 rfl (host := "") (Or.inl (hw _ (List.mem_of_getElem? (i := 10) rfl))) Via.refl F_leaves ?_
            refine Own.icmp_ge (pc' := 118) (pc2 := 86) d_prog_107_method_2_83 (by decide) (by decide) rfl (fun q => absurd q (by decide)) (fun _ => ?_)
            refine Own.aloadN (pc' := 87) d_prog_107_method_2_86 rfl rfl rfl ?_
            refine Own.getfield (pc' := 90) d_prog_107_method_2_87 rfl (host := "") (Or.inl (hw _ (List.mem_of_getElem? (i := 14) rfl))) Via.refl F_nodes ?_
            refine Own.iconst (pc' := 91) (v := (2 : Int32)) d_prog_107_method_2_90 (by decide) rfl ?_
            refine Own.iload (pc' := 93) d_prog_107_method_2_91 rfl rfl ?_
            refine Own.imulE (pc' := 94) d_prog_107_method_2_93 rfl (z := (14 : Int32)) (by decide) ?_
            refine Own.laload (pc' := 95) (i := 14) d_prog_107_method_2_94 rfl A (by decide) (by decide) ?_
            rw [own_nd5_14]
            show Go K _ _ _ _ _ _ _ _ _ 0 0 h 95 #[.val (.ref a), .val (.int (4 : Int32)), .val (.long q), .second, .val (.int (7 : Int32)), .val (.int (5 : Int32))] [(.long (0 : Int64))]
            refine Own.lloadN (pc' := 96) d_prog_107_method_2_95 rfl rfl ?_
            refine Own.lcmp_lt (pc1 := 97) (pc' := 107) (pc2 := 100) d_prog_107_method_2_96 rfl d_prog_107_method_2_97 (by decide) (by decide) rfl (fun c96_1063 => ?_) (fun c96_1063 => ?_)
            · refine Own.iconst (pc' := 108) (v := (2 : Int32)) d_prog_107_method_2_107 (by decide) rfl ?_
              refine Own.iload (pc' := 110) d_prog_107_method_2_108 rfl rfl ?_
              refine Own.imulE (pc' := 111) d_prog_107_method_2_110 rfl (z := (14 : Int32)) (by decide) ?_
              refine Own.iconst (pc' := 112) (v := (1 : Int32)) d_prog_107_method_2_111 (by decide) rfl ?_
              refine Own.iaddE (pc' := 113) d_prog_107_method_2_112 rfl (z := (15 : Int32)) (by decide) ?_
              refine Own.istore (pc' := 115) (L1 := #[.val (.ref a), .val (.int (4 : Int32)), .val (.long q), .second, .val (.int (15 : Int32)), .val (.int (5 : Int32))]) d_prog_107_method_2_113 rfl rfl ?_
              refine Own.goto (pc' := 77) d_prog_107_method_2_115 (by decide) (by decide) ?_
              refine Own.iload (pc' := 79) d_prog_107_method_2_77 rfl rfl ?_
              refine Own.aloadN (pc' := 80) d_prog_107_method_2_79 rfl rfl rfl ?_
              refine Own.getfield (pc' := 83) d_prog_107_method_2_80 rfl (host := "") (Or.inl (hw _ (List.mem_of_getElem? (i := 10) rfl))) Via.refl F_leaves ?_
              refine Own.icmp_ge (pc' := 118) (pc2 := 86) d_prog_107_method_2_83 (by decide) (by decide) rfl (fun _ => ?_) (fun q => absurd (by decide) q)
              refine Own.iload (pc' := 120) d_prog_107_method_2_118 rfl rfl ?_
              refine Own.aloadN (pc' := 121) d_prog_107_method_2_120 rfl rfl rfl ?_
              refine Own.getfield (pc' := 124) d_prog_107_method_2_121 rfl (host := "") (Or.inl (hw _ (List.mem_of_getElem? (i := 10) rfl))) Via.refl F_leaves ?_
              refine Own.isubE (pc' := 125) d_prog_107_method_2_124 rfl (z := (7 : Int32)) (by decide) ?_
              refine Own.istore (pc' := 127) (L1 := #[.val (.ref a), .val (.int (4 : Int32)), .val (.long q), .second, .val (.int (15 : Int32)), .val (.int (7 : Int32))]) d_prog_107_method_2_125 rfl rfl ?_
              refine Own.iload (pc' := 129) d_prog_107_method_2_127 rfl rfl ?_
              have hq : (7 : Int32) = own_want (5 : Int32) (4 : Int32) q x0 x1 x2 x3 x4 := by unfold own_want; (repeat' split) <;> first | rfl | (exfalso; omega) | omega
              exact Own.ireturnI d_prog_107_method_2_129 rfl (⟨rfl, _, rfl, hq⟩) (by decide) (by decide)
            · refine Own.iconst (pc' := 101) (v := (2 : Int32)) d_prog_107_method_2_100 (by decide) rfl ?_
              refine Own.iload (pc' := 103) d_prog_107_method_2_101 rfl rfl ?_
              refine Own.imulE (pc' := 104) d_prog_107_method_2_103 rfl (z := (14 : Int32)) (by decide) ?_
              refine Own.goto (pc' := 113) d_prog_107_method_2_104 (by decide) (by decide) ?_
              refine Own.istore (pc' := 115) (L1 := #[.val (.ref a), .val (.int (4 : Int32)), .val (.long q), .second, .val (.int (14 : Int32)), .val (.int (5 : Int32))]) d_prog_107_method_2_113 rfl rfl ?_
              refine Own.goto (pc' := 77) d_prog_107_method_2_115 (by decide) (by decide) ?_
              refine Own.iload (pc' := 79) d_prog_107_method_2_77 rfl rfl ?_
              refine Own.aloadN (pc' := 80) d_prog_107_method_2_79 rfl rfl rfl ?_
              refine Own.getfield (pc' := 83) d_prog_107_method_2_80 rfl (host := "") (Or.inl (hw _ (List.mem_of_getElem? (i := 10) rfl))) Via.refl F_leaves ?_
              refine Own.icmp_ge (pc' := 118) (pc2 := 86) d_prog_107_method_2_83 (by decide) (by decide) rfl (fun _ => ?_) (fun q => absurd (by decide) q)
              refine Own.iload (pc' := 120) d_prog_107_method_2_118 rfl rfl ?_
              refine Own.aloadN (pc' := 121) d_prog_107_method_2_120 rfl rfl rfl ?_
              refine Own.getfield (pc' := 124) d_prog_107_method_2_121 rfl (host := "") (Or.inl (hw _ (List.mem_of_getElem? (i := 10) rfl))) Via.refl F_leaves ?_
              refine Own.isubE (pc' := 125) d_prog_107_method_2_124 rfl (z := (6 : Int32)) (by decide) ?_
              refine Own.istore (pc' := 127) (L1 := #[.val (.ref a), .val (.int (4 : Int32)), .val (.long q), .second, .val (.int (14 : Int32)), .val (.int (6 : Int32))]) d_prog_107_method_2_125 rfl rfl ?_
              refine Own.iload (pc' := 129) d_prog_107_method_2_127 rfl rfl ?_
              have hq : (6 : Int32) = own_want (5 : Int32) (4 : Int32) q x0 x1 x2 x3 x4 := by unfold own_want; (repeat' split) <;> first | rfl | (exfalso; omega) | omega
              exact Own.ireturnI d_prog_107_method_2_129 rfl (⟨rfl, _, rfl, hq⟩) (by decide) (by decide)
          · refine Own.iload (pc' := 40) d_prog_107_method_2_38 rfl rfl ?_
            refine Own.iconst (pc' := 41) (v := (2 : Int32)) d_prog_107_method_2_40 (by decide) rfl ?_
            refine Own.iremE (pc' := 42) d_prog_107_method_2_41 (by decide) rfl (z := (1 : Int32)) (by decide) ?_
            refine Own.iconst (pc' := 43) (v := (1 : Int32)) d_prog_107_method_2_42 (by decide) rfl ?_
            refine Own.icmp_ne (pc' := 55) (pc2 := 46) d_prog_107_method_2_43 (by decide) (by decide) rfl (fun q => absurd q (by decide)) (fun _ => ?_)
            refine Own.iload (pc' := 48) d_prog_107_method_2_46 rfl rfl ?_
            refine Own.iconst (pc' := 49) (v := (2 : Int32)) d_prog_107_method_2_48 (by decide) rfl ?_
            refine Own.idivE (pc' := 50) d_prog_107_method_2_49 (by decide) rfl (z := (3 : Int32)) (by decide) ?_
            refine Own.istore (pc' := 52) (L1 := #[.val (.ref a), .val (.int (4 : Int32)), .val (.long q), .second, .val (.int (3 : Int32)), .unset]) d_prog_107_method_2_50 rfl rfl ?_
            refine Own.goto (pc' := 38) d_prog_107_method_2_52 (by decide) (by decide) ?_
            refine Own.iload (pc' := 40) d_prog_107_method_2_38 rfl rfl ?_
            refine Own.iconst (pc' := 41) (v := (2 : Int32)) d_prog_107_method_2_40 (by decide) rfl ?_
            refine Own.iremE (pc' := 42) d_prog_107_method_2_41 (by decide) rfl (z := (1 : Int32)) (by decide) ?_
            refine Own.iconst (pc' := 43) (v := (1 : Int32)) d_prog_107_method_2_42 (by decide) rfl ?_
            refine Own.icmp_ne (pc' := 55) (pc2 := 46) d_prog_107_method_2_43 (by decide) (by decide) rfl (fun q => absurd q (by decide)) (fun _ => ?_)
            refine Own.iload (pc' := 48) d_prog_107_method_2_46 rfl rfl ?_
            refine Own.iconst (pc' := 49) (v := (2 : Int32)) d_prog_107_method_2_48 (by decide) rfl ?_
            refine Own.idivE (pc' := 50) d_prog_107_method_2_49 (by decide) rfl (z := (1 : Int32)) (by decide) ?_
            refine Own.istore (pc' := 52) (L1 := #[.val (.ref a), .val (.int (4 : Int32)), .val (.long q), .second, .val (.int (1 : Int32)), .unset]) d_prog_107_method_2_50 rfl rfl ?_
            refine Own.goto (pc' := 38) d_prog_107_method_2_52 (by decide) (by decide) ?_
            refine Own.iload (pc' := 40) d_prog_107_method_2_38 rfl rfl ?_
            refine Own.iconst (pc' := 41) (v := (2 : Int32)) d_prog_107_method_2_40 (by decide) rfl ?_
            refine Own.iremE (pc' := 42) d_prog_107_method_2_41 (by decide) rfl (z := (1 : Int32)) (by decide) ?_
            refine Own.iconst (pc' := 43) (v := (1 : Int32)) d_prog_107_method_2_42 (by decide) rfl ?_
            refine Own.icmp_ne (pc' := 55) (pc2 := 46) d_prog_107_method_2_43 (by decide) (by decide) rfl (fun q => absurd q (by decide)) (fun _ => ?_)
            refine Own.iload (pc' := 48) d_prog_107_method_2_46 rfl rfl ?_
            refine Own.iconst (pc' := 49) (v := (2 : Int32)) d_prog_107_method_2_48 (by decide) rfl ?_
            refine Own.idivE (pc' := 50) d_prog_107_method_2_49 (by decide) rfl (z := (0 : Int32)) (by decide) ?_
            refine Own.istore (pc' := 52) (L1 := #[.val (.ref a), .val (.int (4 : Int32)), .val (.long q), .second, .val (.int (0 : Int32)), .unset]) d_prog_107_method_2_50 rfl rfl ?_
            refine Own.goto (pc' := 38) d_prog_107_method_2_52 (by decide) (by decide) ?_
            refine Own.iload (pc' := 40) d_prog_107_method_2_38 rfl rfl ?_
            refine Own.iconst (pc' := 41) (v := (2 : Int32)) d_prog_107_method_2_40 (by decide) rfl ?_
            refine Own.iremE (pc' := 42) d_prog_107_method_2_41 (by decide) rfl (z := (0 : Int32)) (by decide) ?_
            refine Own.iconst (pc' := 43) (v := (1 : Int32)) d_prog_107_method_2_42 (by decide) rfl ?_
            refine Own.icmp_ne (pc' := 55) (pc2 := 46) d_prog_107_method_2_43 (by decide) (by decide) rfl (fun _ => ?_) (fun q => absurd (by decide) q)
            refine Own.iload (pc' := 57) d_prog_107_method_2_55 rfl rfl ?_
            refine Own.if_le (pc' := 21) (pc2 := 60) d_prog_107_method_2_57 (by decide) (by decide) rfl (fun _ => ?_) (fun q => absurd (by decide) q)
            refine Own.iload (pc' := 23) d_prog_107_method_2_21 rfl rfl ?_
            refine Own.if_le (pc' := 66) (pc2 := 26) d_prog_107_method_2_23 (by decide) (by decide) rfl (fun _ => ?_) (fun q => absurd (by decide) q)
            refine Own.aloadN (pc' := 67) d_prog_107_method_2_66 rfl rfl rfl ?_
            refine Own.getfield (pc' := 70) d_prog_107_method_2_67 rfl (host := "") (Or.inl (hw _ (List.mem_of_getElem? (i := 12) rfl))) Via.refl F_count ?_
            refine Own.istore (pc' := 72) (L1 := #[.val (.ref a), .val (.int (4 : Int32)), .val (.long q), .second, .val (.int (0 : Int32)), .val (.int (5 : Int32))]) d_prog_107_method_2_70 rfl rfl ?_
            refine Own.iload (pc' := 74) d_prog_107_method_2_72 rfl rfl ?_
            refine Own.if_le (pc' := 127) (pc2 := 77) d_prog_107_method_2_74 (by decide) (by decide) rfl (fun _ => ?_) (fun q => absurd (by decide) q)
            refine Own.iload (pc' := 129) d_prog_107_method_2_127 rfl rfl ?_
            have hq : (5 : Int32) = own_want (5 : Int32) (4 : Int32) q x0 x1 x2 x3 x4 := by unfold own_want; (repeat' split) <;> first | rfl | (exfalso; omega) | omega
            exact Own.ireturnI d_prog_107_method_2_129 rfl (⟨rfl, _, rfl, hq⟩) (by decide) (by decide)
  · refine Own.aloadN (pc' := 9) d_prog_107_method_2_8 rfl rfl rfl ?_
    refine Own.getfield (pc' := 12) d_prog_107_method_2_9 rfl (host := "") (Or.inl (hw _ (List.mem_of_getElem? (i := 12) rfl))) Via.refl F_count ?_
    have hq : (5 : Int32) = own_want (5 : Int32) p q x0 x1 x2 x3 x4 := by unfold own_want; (repeat' split) <;> first | rfl | (exfalso; omega) | omega
    exact Own.ireturnI d_prog_107_method_2_12 rfl (⟨rfl, _, rfl, hq⟩) (by decide) (by decide)
theorem own_hitI (i p n : Int32) (v q : Int64) : own_hit i p n v q = if p.toInt ≤ i.toInt ∧ i.toInt < n.toInt ∧ q.toInt ≤ v.toInt then 1 else 0 := by
  unfold own_hit
  by_cases h1 : i.toInt < p.toInt
  · rw [if_pos h1, if_neg (by omega)]
  · rw [if_neg h1]
    by_cases h2 : n.toInt ≤ i.toInt
    · rw [if_pos h2, if_neg (by omega)]
    · rw [if_neg h2]
      by_cases h3 : v.toInt < q.toInt
      · rw [if_pos h3, if_neg (by omega)]
      · rw [if_neg h3, if_pos (by omega)]
theorem own_if (P : Prop) [Decidable P] (a b : Int32) : (if (if P then (1 : Int32) else 0) = 0 then a else b) = if P then b else a := by
  by_cases q : P
  · rw [if_pos q, if_pos q, if_neg (by decide)]
  · rw [if_neg q, if_neg q, if_pos rfl]
theorem own_want4 (p : Int32) (q x0 x1 x2 x3 x4 : Int64) : own_want 4 p q x0 x1 x2 x3 x4 = (if p.toInt ≤ (0 : Int32).toInt ∧ (0 : Int32).toInt < (4 : Int32).toInt ∧ q.toInt ≤ x0.toInt then (0 : Int32) else (if p.toInt ≤ (1 : Int32).toInt ∧ (1 : Int32).toInt < (4 : Int32).toInt ∧ q.toInt ≤ x1.toInt then (1 : Int32) else (if p.toInt ≤ (2 : Int32).toInt ∧ (2 : Int32).toInt < (4 : Int32).toInt ∧ q.toInt ≤ x2.toInt then (2 : Int32) else (if p.toInt ≤ (3 : Int32).toInt ∧ (3 : Int32).toInt < (4 : Int32).toInt ∧ q.toInt ≤ x3.toInt then (3 : Int32) else (4 : Int32))))) := by unfold own_want; simp only [ite_self]
set_option maxRecDepth 65536 in
set_option maxHeartbeats 40000000 in
theorem own_law (l : Launch) (Z : State) (a0 : Array Value) (hw : ∀ d ∈ tables_1, d.before a0 Z = true) (ws : List Jvm.Cond) (n0 : Nat) (h : Heap) (hZ0 : n0 ≤ h.size) (p0 : Int32) (p1 : Int64) (p2 : Int64) (p3 : Int64) (p4 : Int64) (p5 : Int64)  :
    MetFree l x (head1 (Jvm.Cond.code x code maxLocals ret :: ws) room_1) (fun a U => a = #[(.int p0), (.long p1), (.long p2), (.long p3), (.long p4), (.long p5)] ∧ Z.Warmed39 U.vm ∧ U.heap = h) (fun _ _ _ _ _ => True) (fun _ U o U' => ∃ v L, o = .returned v ∧ ((fun v _ => v = some (.int 1)) v U'.heap ∧ Fr n0 L) ∧ FrameEnd U o U' L room_1.cells room_1.slots) := by
  refine Own.enterW (Q := fun v _ => v = some (.int 1)) (plainFor_of_name pn_0) (L0 := #[.val (.int p0), .val (.long p1), .second, .val (.long p2), .second, .val (.long p3), .second, .val (.long p4), .second, .val (.long p5), .second, .unset, .unset, .unset, .unset, .unset, .unset, .unset, .unset]) (fun m => by first | (simp [entryFrame, mkF, argsToLocals, Value.category, maxLocals]; done) | rfl) fun K => ?_
  show Go K _ _ _ code 19 (some .boolean) "com/example/coldtail/coldtail/segment/MaxTreeFirstAtLeastPinLaw" "law" _ 0 0 h 0 #[.val (.int p0), .val (.long p1), .second, .val (.long p2), .second, .val (.long p3), .second, .val (.long p4), .second, .val (.long p5), .second, .unset, .unset, .unset, .unset, .unset, .unset, .unset, .unset] []
  refine Own.iloadN (pc' := 1) at_0 rfl rfl ?_
  refine Own.bipush (pc' := 3) (v := (7 : Int32)) at_1 (by decide) rfl ?_
  refine Own.iand (pc' := 4) at_3 rfl fun v1086 hv1086 => ?_
  refine Own.bipush (pc' := 6) (v := (6 : Int32)) at_4 (by decide) rfl ?_
  refine Own.irem (pc' := 7) at_6 (by decide) rfl fun v1087 hv1087 => ?_
  refine Own.istore (pc' := 9) (L1 := #[.val (.int p0), .val (.long p1), .second, .val (.long p2), .second, .val (.long p3), .second, .val (.long p4), .second, .val (.long p5), .second, .val (.int v1087), .unset, .unset, .unset, .unset, .unset, .unset, .unset]) at_7 rfl rfl ?_
  refine Own.iloadN (pc' := 10) at_9 rfl rfl ?_
  refine Own.iconst (pc' := 11) (v := (3 : Int32)) at_10 (by decide) rfl ?_
  refine Own.iushr (pc' := 12) at_11 rfl fun v1088 hv1088 => ?_
  refine Own.bipush (pc' := 14) (v := (7 : Int32)) at_12 (by decide) rfl ?_
  refine Own.iand (pc' := 15) at_14 rfl fun v1089 hv1089 => ?_
  refine Own.istore (pc' := 17) (L1 := #[.val (.int p0), .val (.long p1), .second, .val (.long p2), .second, .val (.long p3), .second, .val (.long p4), .second, .val (.long p5), .second, .val (.int v1087), .val (.int v1089), .unset, .unset, .unset, .unset, .unset, .unset]) at_15 rfl rfl ?_
  refine Own.lloadN (pc' := 18) at_17 rfl rfl ?_
  refine Own.lload (pc' := 20) at_18 rfl rfl ?_
  refine Own.lxor (pc' := 21) at_20 rfl fun v1090 hv1090 => ?_
  refine Own.lstore (pc' := 23) (L1 := #[.val (.int p0), .val (.long p1), .second, .val (.long p2), .second, .val (.long p3), .second, .val (.long p4), .second, .val (.long p5), .second, .val (.int v1087), .val (.int v1089), .val (.long v1090), .second, .unset, .unset, .unset, .unset]) at_21 rfl rfl ?_
  have m7 : 0 ≤ v1086.toInt := by rw [hv1086, Jvm.Kit.i32_mask _ 7 (k := 3) (by decide) (by decide)]; omega
  have hn : 0 ≤ v1087.toInt ∧ v1087.toInt < 6 := by rw [hv1087, Jvm.Kit.i32_rem_nonneg m7, show (6 : Int32).toInt = 6 by decide]; omega
  have hp : 0 ≤ v1089.toInt := by rw [hv1089, Jvm.Kit.i32_mask _ 7 (k := 3) (by decide) (by decide)]; omega
  refine Own.iload (pc' := 25) at_23 rfl rfl ?_
  refine Own.if_ne (pc' := 36) (pc2 := 28) at_25 (by decide) (by decide) rfl (fun c25_1090 => ?_) (fun c25_1090 => ?_)
  · refine Own.iload (pc' := 38) at_36 rfl rfl ?_
    refine Own.iconst (pc' := 39) (v := (1 : Int32)) at_38 (by decide) rfl ?_
    refine Own.icmp_ne (pc' := 54) (pc2 := 42) at_39 (by decide) (by decide) rfl (fun c39_1091 => ?_) (fun c39_1091 => ?_)
    · refine Own.iload (pc' := 56) at_54 rfl rfl ?_
      refine Own.iconst (pc' := 57) (v := (2 : Int32)) at_56 (by decide) rfl ?_
      refine Own.icmp_ne (pc' := 77) (pc2 := 60) at_57 (by decide) (by decide) rfl (fun c57_1092 => ?_) (fun c57_1092 => ?_)
      · refine Own.iload (pc' := 79) at_77 rfl rfl ?_
        refine Own.iconst (pc' := 80) (v := (3 : Int32)) at_79 (by decide) rfl ?_
        refine Own.icmp_ne (pc' := 105) (pc2 := 83) at_80 (by decide) (by decide) rfl (fun c80_1093 => ?_) (fun c80_1093 => ?_)
        · refine Own.iload (pc' := 107) at_105 rfl rfl ?_
          refine Own.iconst (pc' := 108) (v := (4 : Int32)) at_107 (by decide) rfl ?_
          refine Own.icmp_ne (pc' := 138) (pc2 := 111) at_108 (by decide) (by decide) rfl (fun c108_1094 => ?_) (fun c108_1094 => ?_)
          · obtain rfl : v1087 = (5 : Int32) := by
              have t0 : v1087.toInt ≠ 0 := fun q => c25_1090 (Int32.toInt_inj.mp (by rw [q]; decide))
              have t1 : v1087.toInt ≠ 1 := fun q => c39_1091 (Int32.toInt_inj.mp (by rw [q]; decide))
              have t2 : v1087.toInt ≠ 2 := fun q => c57_1092 (Int32.toInt_inj.mp (by rw [q]; decide))
              have t3 : v1087.toInt ≠ 3 := fun q => c80_1093 (Int32.toInt_inj.mp (by rw [q]; decide))
              have t4 : v1087.toInt ≠ 4 := fun q => c108_1094 (Int32.toInt_inj.mp (by rw [q]; decide))
              exact Int32.toInt_inj.mp (by rw [show (5 : Int32).toInt = 5 by decide]; omega)
            refine Own.iconst (pc' := 139) (v := (5 : Int32)) at_138 (by decide) rfl ?_
            refine Own.newJ (pc' := 141) (n := 5) (cap := 5) at_139 rfl (hw _ (List.mem_of_getElem? (i := 0) rfl)) (by decide) (by decide) (by decide) (by decide) (by decide) fun a1096 h1097 ga1096 Eh1097 Aa1096 => ?_
            have Ga1096 : n0 ≤ a1096 := by rw [ga1096]; exact hZ0
            have Zh1097 : n0 ≤ h1097.size := Nat.le_trans hZ0 Eh1097.1
            show Go K _ _ _ _ _ _ _ _ _ 1 5 h1097 141 #[.val (.int p0), .val (.long p1), .second, .val (.long p2), .second, .val (.long p3), .second, .val (.long p4), .second, .val (.long p5), .second, .val (.int (5 : Int32)), .val (.int v1089), .val (.long v1090), .second, .unset, .unset, .unset, .unset] [(.ref a1096)]
            refine Own.dup (pc' := 142) at_141 rfl rfl ?_
            refine Own.iconst (pc' := 143) (v := (0 : Int32)) at_142 (by decide) rfl ?_
            refine Own.lloadN (pc' := 144) at_143 rfl rfl ?_
            refine Own.lastore (pc' := 145) (i := 0) at_144 rfl Aa1096 Ga1096 (by decide) (by decide) fun h1098 Wh1098 Ah1098 => ?_
            have Zh1098 : n0 ≤ h1098.size := by rw [Wh1098.size]; exact Zh1097
            refine Own.dup (pc' := 146) at_145 rfl rfl ?_
            refine Own.iconst (pc' := 147) (v := (1 : Int32)) at_146 (by decide) rfl ?_
            refine Own.lload (pc' := 149) at_147 rfl rfl ?_
            refine Own.lastore (pc' := 150) (i := 1) at_149 rfl Ah1098 Ga1096 (by decide) (by decide) fun h1099 Wh1099 Ah1099 => ?_
            have Zh1099 : n0 ≤ h1099.size := by rw [Wh1099.size]; exact Zh1098
            refine Own.dup (pc' := 151) at_150 rfl rfl ?_
            refine Own.iconst (pc' := 152) (v := (2 : Int32)) at_151 (by decide) rfl ?_
            refine Own.lload (pc' := 154) at_152 rfl rfl ?_
            refine Own.lastore (pc' := 155) (i := 2) at_154 rfl Ah1099 Ga1096 (by decide) (by decide) fun h1100 Wh1100 Ah1100 => ?_
            have Zh1100 : n0 ≤ h1100.size := by rw [Wh1100.size]; exact Zh1099
            refine Own.dup (pc' := 156) at_155 rfl rfl ?_
            refine Own.iconst (pc' := 157) (v := (3 : Int32)) at_156 (by decide) rfl ?_
            refine Own.lload (pc' := 159) at_157 rfl rfl ?_
            refine Own.lastore (pc' := 160) (i := 3) at_159 rfl Ah1100 Ga1096 (by decide) (by decide) fun h1101 Wh1101 Ah1101 => ?_
            have Zh1101 : n0 ≤ h1101.size := by rw [Wh1101.size]; exact Zh1100
            refine Own.dup (pc' := 161) at_160 rfl rfl ?_
            refine Own.iconst (pc' := 162) (v := (4 : Int32)) at_161 (by decide) rfl ?_
            refine Own.lload (pc' := 164) at_162 rfl rfl ?_
            refine Own.lastore (pc' := 165) (i := 4) at_164 rfl Ah1101 Ga1096 (by decide) (by decide) fun h1102 Wh1102 Ah1102 => ?_
            have Zh1102 : n0 ≤ h1102.size := by rw [Wh1102.size]; exact Zh1101
            refine Own.astore (pc' := 167) (L1 := #[.val (.int p0), .val (.long p1), .second, .val (.long p2), .second, .val (.long p3), .second, .val (.long p4), .second, .val (.long p5), .second, .val (.int (5 : Int32)), .val (.int v1089), .val (.long v1090), .second, .val (.ref a1096), .unset, .unset, .unset]) at_165 rfl rfl rfl ?_
            refine Own.newobj (pc' := 170) at_167 rfl (hw _ (List.mem_of_getElem? (i := 1) rfl)) (hw _ (List.mem_of_getElem? (i := 2) rfl)) (hw _ (List.mem_of_getElem? (i := 3) rfl)) (by decide) (by decide) fun a1103 h1104 ga1103 Eh1104 Xa1103 Da1103 => ?_
            have ne_a1096_a1103 : a1096 ≠ a1103 := Nat.ne_of_lt (ga1103 ▸ (Ah1102).lt)
            have Ga1103 : n0 ≤ a1103 := by rw [ga1103]; exact Zh1102
            have Zh1104 : n0 ≤ h1104.size := Nat.le_trans Zh1102 Eh1104.1
            have f1105 := Ah1102.ext Eh1104
            have F_leaves_a1103 : Fld Z h1104 a1103 "com/example/coldtail/coldtail/segment/MaxTree" "leaves" "I" (.int (0 : Int32)) := Da1103 (Or.inr (hw _ (List.mem_of_getElem? (i := 11) rfl))) (ty := .int) (by decide)
            have F_count_a1103 : Fld Z h1104 a1103 "com/example/coldtail/coldtail/segment/MaxTree" "count" "I" (.int (0 : Int32)) := Da1103 (Or.inr (hw _ (List.mem_of_getElem? (i := 13) rfl))) (ty := .int) (by decide)
            have F_nodes_a1103 : Fld Z h1104 a1103 "com/example/coldtail/coldtail/segment/MaxTree" "nodes" "[J" .null := Da1103 (Or.inr (hw _ (List.mem_of_getElem? (i := 15) rfl))) (ty := (.array .long)) (by decide)
            show Go K _ _ _ _ _ _ _ _ _ 2 8 h1104 170 #[.val (.int p0), .val (.long p1), .second, .val (.long p2), .second, .val (.long p3), .second, .val (.long p4), .second, .val (.long p5), .second, .val (.int (5 : Int32)), .val (.int v1089), .val (.long v1090), .second, .val (.ref a1096), .unset, .unset, .unset] [(.ref a1103)]
            refine Own.dup (pc' := 171) at_170 rfl rfl ?_
            refine Own.aload (pc' := 173) at_171 rfl rfl rfl ?_
            have Av := (f1105).cong (g := own_vals p2 p3 p4 p5 v1090) (fun k hk => by have hk' : k = 0 ∨ k = 1 ∨ k = 2 ∨ k = 3 ∨ k = 4 := (by omega); rcases hk' with rfl | rfl | rfl | rfl | rfl <;> simp [ownSet, own_vals])
            refine Own.special (pc' := 176) (y := (⟨"com/example/coldtail/coldtail/segment/MaxTree", "<init>", "([J)V"⟩ : MethodName)) (rm' := ({ frames := 1, cells := 1, slots := 16, locals := 40 } : Room)) (W := 1) (as := [(.ref a1096)]) (rest := [(.ref a1103)]) (a := a1103) at_173 rfl rfl (hw _ (List.mem_of_getElem? (i := 4) rfl)) (hw _ (List.mem_of_getElem? (i := 5) rfl)) (hw _ (List.mem_of_getElem? (i := 3) rfl)) (hw _ (List.mem_of_getElem? (i := 6) rfl)) (by decide) (c_own_mt5 Z a0 hw n0 h1104 Zh1104 a1103 a1096 p2 p3 p4 p5 v1090 Xa1103 F_leaves_a1103 F_count_a1103 F_nodes_a1103 Ga1103 ne_a1096_a1103 Av) rfl rfl (lenOf pd_1 rfl) (by decide) rfl (by decide) (by decide) (by decide) fun r1107 h1106 qh1106 => ?_
            obtain ⟨e2, a1108, Kh1106, hrh1106, eh1106, f1109, f1110, f1111, Ah1106⟩ := qh1106
            subst e2
            have f1112 := Xa1103.keep Kh1106
            have f1113 := Av.keep Kh1106 (ninS ne_a1096_a1103 nin0)
            have Zh1106 : n0 ≤ h1106.size := Nat.le_trans Zh1104 Kh1106.1
            show Go K _ _ _ _ _ _ _ _ _ 3 24 h1106 176 #[.val (.int p0), .val (.long p1), .second, .val (.long p2), .second, .val (.long p3), .second, .val (.long p4), .second, .val (.long p5), .second, .val (.int (5 : Int32)), .val (.int v1089), .val (.long v1090), .second, .val (.ref a1096), .unset, .unset, .unset] [(.ref a1103)]
            refine Own.astore (pc' := 178) (L1 := #[.val (.int p0), .val (.long p1), .second, .val (.long p2), .second, .val (.long p3), .second, .val (.long p4), .second, .val (.long p5), .second, .val (.int (5 : Int32)), .val (.int v1089), .val (.long v1090), .second, .val (.ref a1096), .val (.ref a1103), .unset, .unset]) at_176 rfl rfl rfl ?_
            refine Own.aload (pc' := 180) at_178 rfl rfl rfl ?_
            refine Own.iload (pc' := 182) at_180 rfl rfl ?_
            refine Own.lloadN (pc' := 183) at_182 rfl rfl ?_
            refine Own.virtual (pc' := 186) (y := (⟨"com/example/coldtail/coldtail/segment/MaxTree", "firstAtLeast", "(IJ)I"⟩ : MethodName)) (rm' := ({ frames := 0, cells := 0, slots := 0, locals := 0 } : Room)) (W := 0) (as := [(.int v1089), (.long p1)]) (rest := []) (a := a1103) at_183 rfl (hw _ (List.mem_of_getElem? (i := 20) rfl)) (hw _ (List.mem_of_getElem? (i := 21) rfl)) (hw _ (List.mem_of_getElem? (i := 23) rfl)) (hw _ (List.mem_of_getElem? (i := 22) rfl)) (hw _ (List.mem_of_getElem? (i := 3) rfl)) (hw _ (List.mem_of_getElem? (i := 24) rfl)) (by decide) eh1106 (c_own_fa5 Z a0 hw n0 h1106 Zh1106 a1103 v1089 p1 p2 p3 p4 p5 v1090 a1108 f1109 f1110 f1111 Ah1106 hp) rfl rfl (lenOf pd_2 rfl) (by decide) rfl (by decide) (by decide) (by decide) fun r1115 h1114 qh1114 => ?_
            obtain ⟨e1, v1116, e2, hv1116⟩ := qh1114
            subst e1 e2
            show Go K _ _ _ _ _ _ _ _ _ 3 24 h1106 186 #[.val (.int p0), .val (.long p1), .second, .val (.long p2), .second, .val (.long p3), .second, .val (.long p4), .second, .val (.long p5), .second, .val (.int (5 : Int32)), .val (.int v1089), .val (.long v1090), .second, .val (.ref a1096), .val (.ref a1103), .unset, .unset] [(.int v1116)]
            refine Own.istore (pc' := 188) (L1 := #[.val (.int p0), .val (.long p1), .second, .val (.long p2), .second, .val (.long p3), .second, .val (.long p4), .second, .val (.long p5), .second, .val (.int (5 : Int32)), .val (.int v1089), .val (.long v1090), .second, .val (.ref a1096), .val (.ref a1103), .val (.int v1116), .unset]) at_186 rfl rfl ?_
            refine Own.iload (pc' := 190) at_188 rfl rfl ?_
            refine Own.istore (pc' := 192) (L1 := #[.val (.int p0), .val (.long p1), .second, .val (.long p2), .second, .val (.long p3), .second, .val (.long p4), .second, .val (.long p5), .second, .val (.int (5 : Int32)), .val (.int v1089), .val (.long v1090), .second, .val (.ref a1096), .val (.ref a1103), .val (.int v1116), .val (.int (5 : Int32))]) at_190 rfl rfl ?_
            refine Own.iconst (pc' := 193) (v := (4 : Int32)) at_192 (by decide) rfl ?_
            refine Own.iload (pc' := 195) at_193 rfl rfl ?_
            refine Own.iload (pc' := 197) at_195 rfl rfl ?_
            refine Own.lload (pc' := 199) at_197 rfl rfl ?_
            refine Own.lloadN (pc' := 200) at_199 rfl rfl ?_
            refine Own.static (pc' := 203) (y := (⟨"com/example/coldtail/coldtail/segment/MaxTreeFirstAtLeastPinLaw", "hit", "(IIIJJ)Z"⟩ : MethodName)) (rm' := ({ frames := 0, cells := 0, slots := 0, locals := 0 } : Room)) (W := 0) (as := [(.int (4 : Int32)), (.int v1089), (.int (5 : Int32)), (.long v1090), (.long p1)]) (rest := []) at_200 rfl (hw _ (List.mem_of_getElem? (i := 25) rfl)) (hw _ (List.mem_of_getElem? (i := 26) rfl)) (hw _ (List.mem_of_getElem? (i := 27) rfl)) (hw _ (List.mem_of_getElem? (i := 28) rfl)) (by decide) (c_own_hit Z a0 hw n0 h1106 Zh1106 (4 : Int32) v1089 (5 : Int32) v1090 p1   ) rfl rfl (lenOf pd_3 rfl) (by decide) rfl (by decide) (by decide) (by decide) fun r1118 h1117 qh1117 => ?_
            obtain ⟨e1, v1119, e2, hv1119⟩ := qh1117
            subst e1 e2
            show Go K _ _ _ _ _ _ _ _ _ 3 24 h1106 203 #[.val (.int p0), .val (.long p1), .second, .val (.long p2), .second, .val (.long p3), .second, .val (.long p4), .second, .val (.long p5), .second, .val (.int (5 : Int32)), .val (.int v1089), .val (.long v1090), .second, .val (.ref a1096), .val (.ref a1103), .val (.int v1116), .val (.int (5 : Int32))] [(.int v1119)]
            obtain ⟨w1121, hw1121⟩ : ∃ w : Int32, w = (if v1119 = 0 then (5 : Int32) else (4 : Int32)) := ⟨_, rfl⟩
            refine Own.join (pc2 := 209) (L2 := #[.val (.int p0), .val (.long p1), .second, .val (.long p2), .second, .val (.long p3), .second, .val (.long p4), .second, .val (.long p5), .second, .val (.int (5 : Int32)), .val (.int v1089), .val (.long v1090), .second, .val (.ref a1096), .val (.ref a1103), .val (.int v1116), .val (.int w1121)]) (S2 := []) (fun J1122 => ?_) ?_
            · refine Own.if_eq (pc' := 209) (pc2 := 206) at_203 (by decide) (by decide) rfl (fun c203_1119 => ?_) (fun c203_1119 => ?_)
              · try rw [if_pos c203_1119] at hw1121
                subst hw1121
                exact J1122
              · refine Own.iconst (pc' := 207) (v := (4 : Int32)) at_206 (by decide) rfl ?_
                refine Own.istore (pc' := 209) (L1 := #[.val (.int p0), .val (.long p1), .second, .val (.long p2), .second, .val (.long p3), .second, .val (.long p4), .second, .val (.long p5), .second, .val (.int (5 : Int32)), .val (.int v1089), .val (.long v1090), .second, .val (.ref a1096), .val (.ref a1103), .val (.int v1116), .val (.int (4 : Int32))]) at_207 rfl rfl ?_
                try rw [if_neg c203_1119] at hw1121
                subst hw1121
                exact J1122
            refine Own.iconst (pc' := 210) (v := (3 : Int32)) at_209 (by decide) rfl ?_
            refine Own.iload (pc' := 212) at_210 rfl rfl ?_
            refine Own.iload (pc' := 214) at_212 rfl rfl ?_
            refine Own.lload (pc' := 216) at_214 rfl rfl ?_
            refine Own.lloadN (pc' := 217) at_216 rfl rfl ?_
            refine Own.static (pc' := 220) (y := (⟨"com/example/coldtail/coldtail/segment/MaxTreeFirstAtLeastPinLaw", "hit", "(IIIJJ)Z"⟩ : MethodName)) (rm' := ({ frames := 0, cells := 0, slots := 0, locals := 0 } : Room)) (W := 0) (as := [(.int (3 : Int32)), (.int v1089), (.int (5 : Int32)), (.long p5), (.long p1)]) (rest := []) at_217 rfl (hw _ (List.mem_of_getElem? (i := 25) rfl)) (hw _ (List.mem_of_getElem? (i := 26) rfl)) (hw _ (List.mem_of_getElem? (i := 27) rfl)) (hw _ (List.mem_of_getElem? (i := 28) rfl)) (by decide) (c_own_hit Z a0 hw n0 h1106 Zh1106 (3 : Int32) v1089 (5 : Int32) p5 p1   ) rfl rfl (lenOf pd_3 rfl) (by decide) rfl (by decide) (by decide) (by decide) fun r1124 h1123 qh1123 => ?_
            obtain ⟨e1, v1125, e2, hv1125⟩ := qh1123
            subst e1 e2
            show Go K _ _ _ _ _ _ _ _ _ 3 24 h1106 220 #[.val (.int p0), .val (.long p1), .second, .val (.long p2), .second, .val (.long p3), .second, .val (.long p4), .second, .val (.long p5), .second, .val (.int (5 : Int32)), .val (.int v1089), .val (.long v1090), .second, .val (.ref a1096), .val (.ref a1103), .val (.int v1116), .val (.int w1121)] [(.int v1125)]
            obtain ⟨w1127, hw1127⟩ : ∃ w : Int32, w = (if v1125 = 0 then w1121 else (3 : Int32)) := ⟨_, rfl⟩
            refine Own.join (pc2 := 226) (L2 := #[.val (.int p0), .val (.long p1), .second, .val (.long p2), .second, .val (.long p3), .second, .val (.long p4), .second, .val (.long p5), .second, .val (.int (5 : Int32)), .val (.int v1089), .val (.long v1090), .second, .val (.ref a1096), .val (.ref a1103), .val (.int v1116), .val (.int w1127)]) (S2 := []) (fun J1128 => ?_) ?_
            · refine Own.if_eq (pc' := 226) (pc2 := 223) at_220 (by decide) (by decide) rfl (fun c220_1125 => ?_) (fun c220_1125 => ?_)
              · try rw [if_pos c220_1125] at hw1127
                subst hw1127
                exact J1128
              · refine Own.iconst (pc' := 224) (v := (3 : Int32)) at_223 (by decide) rfl ?_
                refine Own.istore (pc' := 226) (L1 := #[.val (.int p0), .val (.long p1), .second, .val (.long p2), .second, .val (.long p3), .second, .val (.long p4), .second, .val (.long p5), .second, .val (.int (5 : Int32)), .val (.int v1089), .val (.long v1090), .second, .val (.ref a1096), .val (.ref a1103), .val (.int v1116), .val (.int (3 : Int32))]) at_224 rfl rfl ?_
                try rw [if_neg c220_1125] at hw1127
                subst hw1127
                exact J1128
            refine Own.iconst (pc' := 227) (v := (2 : Int32)) at_226 (by decide) rfl ?_
            refine Own.iload (pc' := 229) at_227 rfl rfl ?_
            refine Own.iload (pc' := 231) at_229 rfl rfl ?_
            refine Own.lload (pc' := 233) at_231 rfl rfl ?_
            refine Own.lloadN (pc' := 234) at_233 rfl rfl ?_
            refine Own.static (pc' := 237) (y := (⟨"com/example/coldtail/coldtail/segment/MaxTreeFirstAtLeastPinLaw", "hit", "(IIIJJ)Z"⟩ : MethodName)) (rm' := ({ frames := 0, cells := 0, slots := 0, locals := 0 } : Room)) (W := 0) (as := [(.int (2 : Int32)), (.int v1089), (.int (5 : Int32)), (.long p4), (.long p1)]) (rest := []) at_234 rfl (hw _ (List.mem_of_getElem? (i := 25) rfl)) (hw _ (List.mem_of_getElem? (i := 26) rfl)) (hw _ (List.mem_of_getElem? (i := 27) rfl)) (hw _ (List.mem_of_getElem? (i := 28) rfl)) (by decide) (c_own_hit Z a0 hw n0 h1106 Zh1106 (2 : Int32) v1089 (5 : Int32) p4 p1   ) rfl rfl (lenOf pd_3 rfl) (by decide) rfl (by decide) (by decide) (by decide) fun r1130 h1129 qh1129 => ?_
            obtain ⟨e1, v1131, e2, hv1131⟩ := qh1129
            subst e1 e2
            show Go K _ _ _ _ _ _ _ _ _ 3 24 h1106 237 #[.val (.int p0), .val (.long p1), .second, .val (.long p2), .second, .val (.long p3), .second, .val (.long p4), .second, .val (.long p5), .second, .val (.int (5 : Int32)), .val (.int v1089), .val (.long v1090), .second, .val (.ref a1096), .val (.ref a1103), .val (.int v1116), .val (.int w1127)] [(.int v1131)]
            obtain ⟨w1133, hw1133⟩ : ∃ w : Int32, w = (if v1131 = 0 then w1127 else (2 : Int32)) := ⟨_, rfl⟩
            refine Own.join (pc2 := 243) (L2 := #[.val (.int p0), .val (.long p1), .second, .val (.long p2), .second, .val (.long p3), .second, .val (.long p4), .second, .val (.long p5), .second, .val (.int (5 : Int32)), .val (.int v1089), .val (.long v1090), .second, .val (.ref a1096), .val (.ref a1103), .val (.int v1116), .val (.int w1133)]) (S2 := []) (fun J1134 => ?_) ?_
            · refine Own.if_eq (pc' := 243) (pc2 := 240) at_237 (by decide) (by decide) rfl (fun c237_1131 => ?_) (fun c237_1131 => ?_)
              · try rw [if_pos c237_1131] at hw1133
                subst hw1133
                exact J1134
              · refine Own.iconst (pc' := 241) (v := (2 : Int32)) at_240 (by decide) rfl ?_
                refine Own.istore (pc' := 243) (L1 := #[.val (.int p0), .val (.long p1), .second, .val (.long p2), .second, .val (.long p3), .second, .val (.long p4), .second, .val (.long p5), .second, .val (.int (5 : Int32)), .val (.int v1089), .val (.long v1090), .second, .val (.ref a1096), .val (.ref a1103), .val (.int v1116), .val (.int (2 : Int32))]) at_241 rfl rfl ?_
                try rw [if_neg c237_1131] at hw1133
                subst hw1133
                exact J1134
            refine Own.iconst (pc' := 244) (v := (1 : Int32)) at_243 (by decide) rfl ?_
            refine Own.iload (pc' := 246) at_244 rfl rfl ?_
            refine Own.iload (pc' := 248) at_246 rfl rfl ?_
            refine Own.lload (pc' := 250) at_248 rfl rfl ?_
            refine Own.lloadN (pc' := 251) at_250 rfl rfl ?_
            refine Own.static (pc' := 254) (y := (⟨"com/example/coldtail/coldtail/segment/MaxTreeFirstAtLeastPinLaw", "hit", "(IIIJJ)Z"⟩ : MethodName)) (rm' := ({ frames := 0, cells := 0, slots := 0, locals := 0 } : Room)) (W := 0) (as := [(.int (1 : Int32)), (.int v1089), (.int (5 : Int32)), (.long p3), (.long p1)]) (rest := []) at_251 rfl (hw _ (List.mem_of_getElem? (i := 25) rfl)) (hw _ (List.mem_of_getElem? (i := 26) rfl)) (hw _ (List.mem_of_getElem? (i := 27) rfl)) (hw _ (List.mem_of_getElem? (i := 28) rfl)) (by decide) (c_own_hit Z a0 hw n0 h1106 Zh1106 (1 : Int32) v1089 (5 : Int32) p3 p1   ) rfl rfl (lenOf pd_3 rfl) (by decide) rfl (by decide) (by decide) (by decide) fun r1136 h1135 qh1135 => ?_
            obtain ⟨e1, v1137, e2, hv1137⟩ := qh1135
            subst e1 e2
            show Go K _ _ _ _ _ _ _ _ _ 3 24 h1106 254 #[.val (.int p0), .val (.long p1), .second, .val (.long p2), .second, .val (.long p3), .second, .val (.long p4), .second, .val (.long p5), .second, .val (.int (5 : Int32)), .val (.int v1089), .val (.long v1090), .second, .val (.ref a1096), .val (.ref a1103), .val (.int v1116), .val (.int w1133)] [(.int v1137)]
            obtain ⟨w1139, hw1139⟩ : ∃ w : Int32, w = (if v1137 = 0 then w1133 else (1 : Int32)) := ⟨_, rfl⟩
            refine Own.join (pc2 := 260) (L2 := #[.val (.int p0), .val (.long p1), .second, .val (.long p2), .second, .val (.long p3), .second, .val (.long p4), .second, .val (.long p5), .second, .val (.int (5 : Int32)), .val (.int v1089), .val (.long v1090), .second, .val (.ref a1096), .val (.ref a1103), .val (.int v1116), .val (.int w1139)]) (S2 := []) (fun J1140 => ?_) ?_
            · refine Own.if_eq (pc' := 260) (pc2 := 257) at_254 (by decide) (by decide) rfl (fun c254_1137 => ?_) (fun c254_1137 => ?_)
              · try rw [if_pos c254_1137] at hw1139
                subst hw1139
                exact J1140
              · refine Own.iconst (pc' := 258) (v := (1 : Int32)) at_257 (by decide) rfl ?_
                refine Own.istore (pc' := 260) (L1 := #[.val (.int p0), .val (.long p1), .second, .val (.long p2), .second, .val (.long p3), .second, .val (.long p4), .second, .val (.long p5), .second, .val (.int (5 : Int32)), .val (.int v1089), .val (.long v1090), .second, .val (.ref a1096), .val (.ref a1103), .val (.int v1116), .val (.int (1 : Int32))]) at_258 rfl rfl ?_
                try rw [if_neg c254_1137] at hw1139
                subst hw1139
                exact J1140
            refine Own.iconst (pc' := 261) (v := (0 : Int32)) at_260 (by decide) rfl ?_
            refine Own.iload (pc' := 263) at_261 rfl rfl ?_
            refine Own.iload (pc' := 265) at_263 rfl rfl ?_
            refine Own.lloadN (pc' := 266) at_265 rfl rfl ?_
            refine Own.lloadN (pc' := 267) at_266 rfl rfl ?_
            refine Own.static (pc' := 270) (y := (⟨"com/example/coldtail/coldtail/segment/MaxTreeFirstAtLeastPinLaw", "hit", "(IIIJJ)Z"⟩ : MethodName)) (rm' := ({ frames := 0, cells := 0, slots := 0, locals := 0 } : Room)) (W := 0) (as := [(.int (0 : Int32)), (.int v1089), (.int (5 : Int32)), (.long p2), (.long p1)]) (rest := []) at_267 rfl (hw _ (List.mem_of_getElem? (i := 25) rfl)) (hw _ (List.mem_of_getElem? (i := 26) rfl)) (hw _ (List.mem_of_getElem? (i := 27) rfl)) (hw _ (List.mem_of_getElem? (i := 28) rfl)) (by decide) (c_own_hit Z a0 hw n0 h1106 Zh1106 (0 : Int32) v1089 (5 : Int32) p2 p1   ) rfl rfl (lenOf pd_3 rfl) (by decide) rfl (by decide) (by decide) (by decide) fun r1142 h1141 qh1141 => ?_
            obtain ⟨e1, v1143, e2, hv1143⟩ := qh1141
            subst e1 e2
            show Go K _ _ _ _ _ _ _ _ _ 3 24 h1106 270 #[.val (.int p0), .val (.long p1), .second, .val (.long p2), .second, .val (.long p3), .second, .val (.long p4), .second, .val (.long p5), .second, .val (.int (5 : Int32)), .val (.int v1089), .val (.long v1090), .second, .val (.ref a1096), .val (.ref a1103), .val (.int v1116), .val (.int w1139)] [(.int v1143)]
            obtain ⟨w1145, hw1145⟩ : ∃ w : Int32, w = (if v1143 = 0 then w1139 else (0 : Int32)) := ⟨_, rfl⟩
            refine Own.join (pc2 := 276) (L2 := #[.val (.int p0), .val (.long p1), .second, .val (.long p2), .second, .val (.long p3), .second, .val (.long p4), .second, .val (.long p5), .second, .val (.int (5 : Int32)), .val (.int v1089), .val (.long v1090), .second, .val (.ref a1096), .val (.ref a1103), .val (.int v1116), .val (.int w1145)]) (S2 := []) (fun J1146 => ?_) ?_
            · refine Own.if_eq (pc' := 276) (pc2 := 273) at_270 (by decide) (by decide) rfl (fun c270_1143 => ?_) (fun c270_1143 => ?_)
              · try rw [if_pos c270_1143] at hw1145
                subst hw1145
                exact J1146
              · refine Own.iconst (pc' := 274) (v := (0 : Int32)) at_273 (by decide) rfl ?_
                refine Own.istore (pc' := 276) (L1 := #[.val (.int p0), .val (.long p1), .second, .val (.long p2), .second, .val (.long p3), .second, .val (.long p4), .second, .val (.long p5), .second, .val (.int (5 : Int32)), .val (.int v1089), .val (.long v1090), .second, .val (.ref a1096), .val (.ref a1103), .val (.int v1116), .val (.int (0 : Int32))]) at_274 rfl rfl ?_
                try rw [if_neg c270_1143] at hw1145
                subst hw1145
                exact J1146
            refine Own.iload (pc' := 278) at_276 rfl rfl ?_
            refine Own.iload (pc' := 280) at_278 rfl rfl ?_
            refine Own.icmp_ne (pc' := 287) (pc2 := 283) at_280 (by decide) (by decide) rfl (fun c280_1146 => False.elim (by apply c280_1146; rw [hv1116, hw1145, hw1139, hw1133, hw1127, hw1121, hv1143, hv1137, hv1131, hv1125, hv1119, own_hitI, own_hitI, own_hitI, own_hitI, own_hitI, own_if, own_if, own_if, own_if, own_if]; rfl)) (fun c280_1146 => ?_)
            refine Own.iconst (pc' := 284) (v := (1 : Int32)) at_283 (by decide) rfl ?_
            refine Own.goto (pc' := 288) at_284 (by decide) (by decide) ?_
            exact Own.ireturnZ (z' := (1 : Int32)) at_288 rfl (by decide) (rfl) (by decide) (by decide)
          · obtain rfl : v1087 = (4 : Int32) := Classical.byContradiction c108_1094
            refine Own.iconst (pc' := 112) (v := (4 : Int32)) at_111 (by decide) rfl ?_
            refine Own.newJ (pc' := 114) (n := 4) (cap := 4) at_112 rfl (hw _ (List.mem_of_getElem? (i := 0) rfl)) (by decide) (by decide) (by decide) (by decide) (by decide) fun a1148 h1149 ga1148 Eh1149 Aa1148 => ?_
            have Ga1148 : n0 ≤ a1148 := by rw [ga1148]; exact hZ0
            have Zh1149 : n0 ≤ h1149.size := Nat.le_trans hZ0 Eh1149.1
            show Go K _ _ _ _ _ _ _ _ _ 1 4 h1149 114 #[.val (.int p0), .val (.long p1), .second, .val (.long p2), .second, .val (.long p3), .second, .val (.long p4), .second, .val (.long p5), .second, .val (.int (4 : Int32)), .val (.int v1089), .val (.long v1090), .second, .unset, .unset, .unset, .unset] [(.ref a1148)]
            refine Own.dup (pc' := 115) at_114 rfl rfl ?_
            refine Own.iconst (pc' := 116) (v := (0 : Int32)) at_115 (by decide) rfl ?_
            refine Own.lloadN (pc' := 117) at_116 rfl rfl ?_
            refine Own.lastore (pc' := 118) (i := 0) at_117 rfl Aa1148 Ga1148 (by decide) (by decide) fun h1150 Wh1150 Ah1150 => ?_
            have Zh1150 : n0 ≤ h1150.size := by rw [Wh1150.size]; exact Zh1149
            refine Own.dup (pc' := 119) at_118 rfl rfl ?_
            refine Own.iconst (pc' := 120) (v := (1 : Int32)) at_119 (by decide) rfl ?_
            refine Own.lload (pc' := 122) at_120 rfl rfl ?_
            refine Own.lastore (pc' := 123) (i := 1) at_122 rfl Ah1150 Ga1148 (by decide) (by decide) fun h1151 Wh1151 Ah1151 => ?_
            have Zh1151 : n0 ≤ h1151.size := by rw [Wh1151.size]; exact Zh1150
            refine Own.dup (pc' := 124) at_123 rfl rfl ?_
            refine Own.iconst (pc' := 125) (v := (2 : Int32)) at_124 (by decide) rfl ?_
            refine Own.lload (pc' := 127) at_125 rfl rfl ?_
            refine Own.lastore (pc' := 128) (i := 2) at_127 rfl Ah1151 Ga1148 (by decide) (by decide) fun h1152 Wh1152 Ah1152 => ?_
            have Zh1152 : n0 ≤ h1152.size := by rw [Wh1152.size]; exact Zh1151
            refine Own.dup (pc' := 129) at_128 rfl rfl ?_
            refine Own.iconst (pc' := 130) (v := (3 : Int32)) at_129 (by decide) rfl ?_
            refine Own.lload (pc' := 132) at_130 rfl rfl ?_
            refine Own.lastore (pc' := 133) (i := 3) at_132 rfl Ah1152 Ga1148 (by decide) (by decide) fun h1153 Wh1153 Ah1153 => ?_
            have Zh1153 : n0 ≤ h1153.size := by rw [Wh1153.size]; exact Zh1152
            refine Own.astore (pc' := 135) (L1 := #[.val (.int p0), .val (.long p1), .second, .val (.long p2), .second, .val (.long p3), .second, .val (.long p4), .second, .val (.long p5), .second, .val (.int (4 : Int32)), .val (.int v1089), .val (.long v1090), .second, .val (.ref a1148), .unset, .unset, .unset]) at_133 rfl rfl rfl ?_
            refine Own.goto (pc' := 167) at_135 (by decide) (by decide) ?_
            refine Own.newobj (pc' := 170) at_167 rfl (hw _ (List.mem_of_getElem? (i := 1) rfl)) (hw _ (List.mem_of_getElem? (i := 2) rfl)) (hw _ (List.mem_of_getElem? (i := 3) rfl)) (by decide) (by decide) fun a1154 h1155 ga1154 Eh1155 Xa1154 Da1154 => ?_
            have ne_a1148_a1154 : a1148 ≠ a1154 := Nat.ne_of_lt (ga1154 ▸ (Ah1153).lt)
            have Ga1154 : n0 ≤ a1154 := by rw [ga1154]; exact Zh1153
            have Zh1155 : n0 ≤ h1155.size := Nat.le_trans Zh1153 Eh1155.1
            have f1156 := Ah1153.ext Eh1155
            have F_leaves_a1154 : Fld Z h1155 a1154 "com/example/coldtail/coldtail/segment/MaxTree" "leaves" "I" (.int (0 : Int32)) := Da1154 (Or.inr (hw _ (List.mem_of_getElem? (i := 11) rfl))) (ty := .int) (by decide)
            have F_count_a1154 : Fld Z h1155 a1154 "com/example/coldtail/coldtail/segment/MaxTree" "count" "I" (.int (0 : Int32)) := Da1154 (Or.inr (hw _ (List.mem_of_getElem? (i := 13) rfl))) (ty := .int) (by decide)
            have F_nodes_a1154 : Fld Z h1155 a1154 "com/example/coldtail/coldtail/segment/MaxTree" "nodes" "[J" .null := Da1154 (Or.inr (hw _ (List.mem_of_getElem? (i := 15) rfl))) (ty := (.array .long)) (by decide)
            show Go K _ _ _ _ _ _ _ _ _ 2 7 h1155 170 #[.val (.int p0), .val (.long p1), .second, .val (.long p2), .second, .val (.long p3), .second, .val (.long p4), .second, .val (.long p5), .second, .val (.int (4 : Int32)), .val (.int v1089), .val (.long v1090), .second, .val (.ref a1148), .unset, .unset, .unset] [(.ref a1154)]
            refine Own.dup (pc' := 171) at_170 rfl rfl ?_
            refine Own.aload (pc' := 173) at_171 rfl rfl rfl ?_
            have Av := (f1156).cong (g := own_vals p2 p3 p4 p5 v1090) (fun k hk => by have hk' : k = 0 ∨ k = 1 ∨ k = 2 ∨ k = 3 := (by omega); rcases hk' with rfl | rfl | rfl | rfl <;> simp [ownSet, own_vals])
            refine Own.special (pc' := 176) (y := (⟨"com/example/coldtail/coldtail/segment/MaxTree", "<init>", "([J)V"⟩ : MethodName)) (rm' := ({ frames := 1, cells := 1, slots := 16, locals := 40 } : Room)) (W := 1) (as := [(.ref a1148)]) (rest := [(.ref a1154)]) (a := a1154) at_173 rfl rfl (hw _ (List.mem_of_getElem? (i := 4) rfl)) (hw _ (List.mem_of_getElem? (i := 5) rfl)) (hw _ (List.mem_of_getElem? (i := 3) rfl)) (hw _ (List.mem_of_getElem? (i := 6) rfl)) (by decide) (c_own_mt4 Z a0 hw n0 h1155 Zh1155 a1154 a1148 p2 p3 p4 p5 v1090 Xa1154 F_leaves_a1154 F_count_a1154 F_nodes_a1154 Ga1154 ne_a1148_a1154 Av) rfl rfl (lenOf pd_1 rfl) (by decide) rfl (by decide) (by decide) (by decide) fun r1158 h1157 qh1157 => ?_
            obtain ⟨e2, a1159, Kh1157, hrh1157, eh1157, f1160, f1161, f1162, Ah1157⟩ := qh1157
            subst e2
            have f1163 := Xa1154.keep Kh1157
            have f1164 := Av.keep Kh1157 (ninS ne_a1148_a1154 nin0)
            have Zh1157 : n0 ≤ h1157.size := Nat.le_trans Zh1155 Kh1157.1
            show Go K _ _ _ _ _ _ _ _ _ 3 23 h1157 176 #[.val (.int p0), .val (.long p1), .second, .val (.long p2), .second, .val (.long p3), .second, .val (.long p4), .second, .val (.long p5), .second, .val (.int (4 : Int32)), .val (.int v1089), .val (.long v1090), .second, .val (.ref a1148), .unset, .unset, .unset] [(.ref a1154)]
            refine Own.astore (pc' := 178) (L1 := #[.val (.int p0), .val (.long p1), .second, .val (.long p2), .second, .val (.long p3), .second, .val (.long p4), .second, .val (.long p5), .second, .val (.int (4 : Int32)), .val (.int v1089), .val (.long v1090), .second, .val (.ref a1148), .val (.ref a1154), .unset, .unset]) at_176 rfl rfl rfl ?_
            refine Own.aload (pc' := 180) at_178 rfl rfl rfl ?_
            refine Own.iload (pc' := 182) at_180 rfl rfl ?_
            refine Own.lloadN (pc' := 183) at_182 rfl rfl ?_
            refine Own.virtual (pc' := 186) (y := (⟨"com/example/coldtail/coldtail/segment/MaxTree", "firstAtLeast", "(IJ)I"⟩ : MethodName)) (rm' := ({ frames := 0, cells := 0, slots := 0, locals := 0 } : Room)) (W := 0) (as := [(.int v1089), (.long p1)]) (rest := []) (a := a1154) at_183 rfl (hw _ (List.mem_of_getElem? (i := 20) rfl)) (hw _ (List.mem_of_getElem? (i := 21) rfl)) (hw _ (List.mem_of_getElem? (i := 23) rfl)) (hw _ (List.mem_of_getElem? (i := 22) rfl)) (hw _ (List.mem_of_getElem? (i := 3) rfl)) (hw _ (List.mem_of_getElem? (i := 24) rfl)) (by decide) eh1157 (c_own_fa4 Z a0 hw n0 h1157 Zh1157 a1154 v1089 p1 p2 p3 p4 p5 v1090 a1159 f1160 f1161 f1162 Ah1157 hp) rfl rfl (lenOf pd_2 rfl) (by decide) rfl (by decide) (by decide) (by decide) fun r1166 h1165 qh1165 => ?_
            obtain ⟨e1, v1167, e2, hv1167⟩ := qh1165
            subst e1 e2
            show Go K _ _ _ _ _ _ _ _ _ 3 23 h1157 186 #[.val (.int p0), .val (.long p1), .second, .val (.long p2), .second, .val (.long p3), .second, .val (.long p4), .second, .val (.long p5), .second, .val (.int (4 : Int32)), .val (.int v1089), .val (.long v1090), .second, .val (.ref a1148), .val (.ref a1154), .unset, .unset] [(.int v1167)]
            refine Own.istore (pc' := 188) (L1 := #[.val (.int p0), .val (.long p1), .second, .val (.long p2), .second, .val (.long p3), .second, .val (.long p4), .second, .val (.long p5), .second, .val (.int (4 : Int32)), .val (.int v1089), .val (.long v1090), .second, .val (.ref a1148), .val (.ref a1154), .val (.int v1167), .unset]) at_186 rfl rfl ?_
            refine Own.iload (pc' := 190) at_188 rfl rfl ?_
            refine Own.istore (pc' := 192) (L1 := #[.val (.int p0), .val (.long p1), .second, .val (.long p2), .second, .val (.long p3), .second, .val (.long p4), .second, .val (.long p5), .second, .val (.int (4 : Int32)), .val (.int v1089), .val (.long v1090), .second, .val (.ref a1148), .val (.ref a1154), .val (.int v1167), .val (.int (4 : Int32))]) at_190 rfl rfl ?_
            refine Own.iconst (pc' := 193) (v := (4 : Int32)) at_192 (by decide) rfl ?_
            refine Own.iload (pc' := 195) at_193 rfl rfl ?_
            refine Own.iload (pc' := 197) at_195 rfl rfl ?_
            refine Own.lload (pc' := 199) at_197 rfl rfl ?_
            refine Own.lloadN (pc' := 200) at_199 rfl rfl ?_
            refine Own.static (pc' := 203) (y := (⟨"com/example/coldtail/coldtail/segment/MaxTreeFirstAtLeastPinLaw", "hit", "(IIIJJ)Z"⟩ : MethodName)) (rm' := ({ frames := 0, cells := 0, slots := 0, locals := 0 } : Room)) (W := 0) (as := [(.int (4 : Int32)), (.int v1089), (.int (4 : Int32)), (.long v1090), (.long p1)]) (rest := []) at_200 rfl (hw _ (List.mem_of_getElem? (i := 25) rfl)) (hw _ (List.mem_of_getElem? (i := 26) rfl)) (hw _ (List.mem_of_getElem? (i := 27) rfl)) (hw _ (List.mem_of_getElem? (i := 28) rfl)) (by decide) (c_own_hit Z a0 hw n0 h1157 Zh1157 (4 : Int32) v1089 (4 : Int32) v1090 p1   ) rfl rfl (lenOf pd_3 rfl) (by decide) rfl (by decide) (by decide) (by decide) fun r1169 h1168 qh1168 => ?_
            obtain ⟨e1, v1170, e2, hv1170⟩ := qh1168
            subst e1 e2
            show Go K _ _ _ _ _ _ _ _ _ 3 23 h1157 203 #[.val (.int p0), .val (.long p1), .second, .val (.long p2), .second, .val (.long p3), .second, .val (.long p4), .second, .val (.long p5), .second, .val (.int (4 : Int32)), .val (.int v1089), .val (.long v1090), .second, .val (.ref a1148), .val (.ref a1154), .val (.int v1167), .val (.int (4 : Int32))] [(.int v1170)]
            refine Own.join (pc2 := 209) (L2 := #[.val (.int p0), .val (.long p1), .second, .val (.long p2), .second, .val (.long p3), .second, .val (.long p4), .second, .val (.long p5), .second, .val (.int (4 : Int32)), .val (.int v1089), .val (.long v1090), .second, .val (.ref a1148), .val (.ref a1154), .val (.int v1167), .val (.int (4 : Int32))]) (S2 := []) (fun J1172 => ?_) ?_
            · refine Own.if_eq (pc' := 209) (pc2 := 206) at_203 (by decide) (by decide) rfl (fun c203_1170 => ?_) (fun c203_1170 => ?_)
              · exact J1172
              · refine Own.iconst (pc' := 207) (v := (4 : Int32)) at_206 (by decide) rfl ?_
                refine Own.istore (pc' := 209) (L1 := #[.val (.int p0), .val (.long p1), .second, .val (.long p2), .second, .val (.long p3), .second, .val (.long p4), .second, .val (.long p5), .second, .val (.int (4 : Int32)), .val (.int v1089), .val (.long v1090), .second, .val (.ref a1148), .val (.ref a1154), .val (.int v1167), .val (.int (4 : Int32))]) at_207 rfl rfl ?_
                exact J1172
            refine Own.iconst (pc' := 210) (v := (3 : Int32)) at_209 (by decide) rfl ?_
            refine Own.iload (pc' := 212) at_210 rfl rfl ?_
            refine Own.iload (pc' := 214) at_212 rfl rfl ?_
            refine Own.lload (pc' := 216) at_214 rfl rfl ?_
            refine Own.lloadN (pc' := 217) at_216 rfl rfl ?_
            refine Own.static (pc' := 220) (y := (⟨"com/example/coldtail/coldtail/segment/MaxTreeFirstAtLeastPinLaw", "hit", "(IIIJJ)Z"⟩ : MethodName)) (rm' := ({ frames := 0, cells := 0, slots := 0, locals := 0 } : Room)) (W := 0) (as := [(.int (3 : Int32)), (.int v1089), (.int (4 : Int32)), (.long p5), (.long p1)]) (rest := []) at_217 rfl (hw _ (List.mem_of_getElem? (i := 25) rfl)) (hw _ (List.mem_of_getElem? (i := 26) rfl)) (hw _ (List.mem_of_getElem? (i := 27) rfl)) (hw _ (List.mem_of_getElem? (i := 28) rfl)) (by decide) (c_own_hit Z a0 hw n0 h1157 Zh1157 (3 : Int32) v1089 (4 : Int32) p5 p1   ) rfl rfl (lenOf pd_3 rfl) (by decide) rfl (by decide) (by decide) (by decide) fun r1174 h1173 qh1173 => ?_
            obtain ⟨e1, v1175, e2, hv1175⟩ := qh1173
            subst e1 e2
            show Go K _ _ _ _ _ _ _ _ _ 3 23 h1157 220 #[.val (.int p0), .val (.long p1), .second, .val (.long p2), .second, .val (.long p3), .second, .val (.long p4), .second, .val (.long p5), .second, .val (.int (4 : Int32)), .val (.int v1089), .val (.long v1090), .second, .val (.ref a1148), .val (.ref a1154), .val (.int v1167), .val (.int (4 : Int32))] [(.int v1175)]
            obtain ⟨w1177, hw1177⟩ : ∃ w : Int32, w = (if v1175 = 0 then (4 : Int32) else (3 : Int32)) := ⟨_, rfl⟩
            refine Own.join (pc2 := 226) (L2 := #[.val (.int p0), .val (.long p1), .second, .val (.long p2), .second, .val (.long p3), .second, .val (.long p4), .second, .val (.long p5), .second, .val (.int (4 : Int32)), .val (.int v1089), .val (.long v1090), .second, .val (.ref a1148), .val (.ref a1154), .val (.int v1167), .val (.int w1177)]) (S2 := []) (fun J1178 => ?_) ?_
            · refine Own.if_eq (pc' := 226) (pc2 := 223) at_220 (by decide) (by decide) rfl (fun c220_1175 => ?_) (fun c220_1175 => ?_)
              · try rw [if_pos c220_1175] at hw1177
                subst hw1177
                exact J1178
              · refine Own.iconst (pc' := 224) (v := (3 : Int32)) at_223 (by decide) rfl ?_
                refine Own.istore (pc' := 226) (L1 := #[.val (.int p0), .val (.long p1), .second, .val (.long p2), .second, .val (.long p3), .second, .val (.long p4), .second, .val (.long p5), .second, .val (.int (4 : Int32)), .val (.int v1089), .val (.long v1090), .second, .val (.ref a1148), .val (.ref a1154), .val (.int v1167), .val (.int (3 : Int32))]) at_224 rfl rfl ?_
                try rw [if_neg c220_1175] at hw1177
                subst hw1177
                exact J1178
            refine Own.iconst (pc' := 227) (v := (2 : Int32)) at_226 (by decide) rfl ?_
            refine Own.iload (pc' := 229) at_227 rfl rfl ?_
            refine Own.iload (pc' := 231) at_229 rfl rfl ?_
            refine Own.lload (pc' := 233) at_231 rfl rfl ?_
            refine Own.lloadN (pc' := 234) at_233 rfl rfl ?_
            refine Own.static (pc' := 237) (y := (⟨"com/example/coldtail/coldtail/segment/MaxTreeFirstAtLeastPinLaw", "hit", "(IIIJJ)Z"⟩ : MethodName)) (rm' := ({ frames := 0, cells := 0, slots := 0, locals := 0 } : Room)) (W := 0) (as := [(.int (2 : Int32)), (.int v1089), (.int (4 : Int32)), (.long p4), (.long p1)]) (rest := []) at_234 rfl (hw _ (List.mem_of_getElem? (i := 25) rfl)) (hw _ (List.mem_of_getElem? (i := 26) rfl)) (hw _ (List.mem_of_getElem? (i := 27) rfl)) (hw _ (List.mem_of_getElem? (i := 28) rfl)) (by decide) (c_own_hit Z a0 hw n0 h1157 Zh1157 (2 : Int32) v1089 (4 : Int32) p4 p1   ) rfl rfl (lenOf pd_3 rfl) (by decide) rfl (by decide) (by decide) (by decide) fun r1180 h1179 qh1179 => ?_
            obtain ⟨e1, v1181, e2, hv1181⟩ := qh1179
            subst e1 e2
            show Go K _ _ _ _ _ _ _ _ _ 3 23 h1157 237 #[.val (.int p0), .val (.long p1), .second, .val (.long p2), .second, .val (.long p3), .second, .val (.long p4), .second, .val (.long p5), .second, .val (.int (4 : Int32)), .val (.int v1089), .val (.long v1090), .second, .val (.ref a1148), .val (.ref a1154), .val (.int v1167), .val (.int w1177)] [(.int v1181)]
            obtain ⟨w1183, hw1183⟩ : ∃ w : Int32, w = (if v1181 = 0 then w1177 else (2 : Int32)) := ⟨_, rfl⟩
            refine Own.join (pc2 := 243) (L2 := #[.val (.int p0), .val (.long p1), .second, .val (.long p2), .second, .val (.long p3), .second, .val (.long p4), .second, .val (.long p5), .second, .val (.int (4 : Int32)), .val (.int v1089), .val (.long v1090), .second, .val (.ref a1148), .val (.ref a1154), .val (.int v1167), .val (.int w1183)]) (S2 := []) (fun J1184 => ?_) ?_
            · refine Own.if_eq (pc' := 243) (pc2 := 240) at_237 (by decide) (by decide) rfl (fun c237_1181 => ?_) (fun c237_1181 => ?_)
              · try rw [if_pos c237_1181] at hw1183
                subst hw1183
                exact J1184
              · refine Own.iconst (pc' := 241) (v := (2 : Int32)) at_240 (by decide) rfl ?_
                refine Own.istore (pc' := 243) (L1 := #[.val (.int p0), .val (.long p1), .second, .val (.long p2), .second, .val (.long p3), .second, .val (.long p4), .second, .val (.long p5), .second, .val (.int (4 : Int32)), .val (.int v1089), .val (.long v1090), .second, .val (.ref a1148), .val (.ref a1154), .val (.int v1167), .val (.int (2 : Int32))]) at_241 rfl rfl ?_
                try rw [if_neg c237_1181] at hw1183
                subst hw1183
                exact J1184
            refine Own.iconst (pc' := 244) (v := (1 : Int32)) at_243 (by decide) rfl ?_
            refine Own.iload (pc' := 246) at_244 rfl rfl ?_
            refine Own.iload (pc' := 248) at_246 rfl rfl ?_
            refine Own.lload (pc' := 250) at_248 rfl rfl ?_
            refine Own.lloadN (pc' := 251) at_250 rfl rfl ?_
            refine Own.static (pc' := 254) (y := (⟨"com/example/coldtail/coldtail/segment/MaxTreeFirstAtLeastPinLaw", "hit", "(IIIJJ)Z"⟩ : MethodName)) (rm' := ({ frames := 0, cells := 0, slots := 0, locals := 0 } : Room)) (W := 0) (as := [(.int (1 : Int32)), (.int v1089), (.int (4 : Int32)), (.long p3), (.long p1)]) (rest := []) at_251 rfl (hw _ (List.mem_of_getElem? (i := 25) rfl)) (hw _ (List.mem_of_getElem? (i := 26) rfl)) (hw _ (List.mem_of_getElem? (i := 27) rfl)) (hw _ (List.mem_of_getElem? (i := 28) rfl)) (by decide) (c_own_hit Z a0 hw n0 h1157 Zh1157 (1 : Int32) v1089 (4 : Int32) p3 p1   ) rfl rfl (lenOf pd_3 rfl) (by decide) rfl (by decide) (by decide) (by decide) fun r1186 h1185 qh1185 => ?_
            obtain ⟨e1, v1187, e2, hv1187⟩ := qh1185
            subst e1 e2
            show Go K _ _ _ _ _ _ _ _ _ 3 23 h1157 254 #[.val (.int p0), .val (.long p1), .second, .val (.long p2), .second, .val (.long p3), .second, .val (.long p4), .second, .val (.long p5), .second, .val (.int (4 : Int32)), .val (.int v1089), .val (.long v1090), .second, .val (.ref a1148), .val (.ref a1154), .val (.int v1167), .val (.int w1183)] [(.int v1187)]
            obtain ⟨w1189, hw1189⟩ : ∃ w : Int32, w = (if v1187 = 0 then w1183 else (1 : Int32)) := ⟨_, rfl⟩
            refine Own.join (pc2 := 260) (L2 := #[.val (.int p0), .val (.long p1), .second, .val (.long p2), .second, .val (.long p3), .second, .val (.long p4), .second, .val (.long p5), .second, .val (.int (4 : Int32)), .val (.int v1089), .val (.long v1090), .second, .val (.ref a1148), .val (.ref a1154), .val (.int v1167), .val (.int w1189)]) (S2 := []) (fun J1190 => ?_) ?_
            · refine Own.if_eq (pc' := 260) (pc2 := 257) at_254 (by decide) (by decide) rfl (fun c254_1187 => ?_) (fun c254_1187 => ?_)
              · try rw [if_pos c254_1187] at hw1189
                subst hw1189
                exact J1190
              · refine Own.iconst (pc' := 258) (v := (1 : Int32)) at_257 (by decide) rfl ?_
                refine Own.istore (pc' := 260) (L1 := #[.val (.int p0), .val (.long p1), .second, .val (.long p2), .second, .val (.long p3), .second, .val (.long p4), .second, .val (.long p5), .second, .val (.int (4 : Int32)), .val (.int v1089), .val (.long v1090), .second, .val (.ref a1148), .val (.ref a1154), .val (.int v1167), .val (.int (1 : Int32))]) at_258 rfl rfl ?_
                try rw [if_neg c254_1187] at hw1189
                subst hw1189
                exact J1190
            refine Own.iconst (pc' := 261) (v := (0 : Int32)) at_260 (by decide) rfl ?_
            refine Own.iload (pc' := 263) at_261 rfl rfl ?_
            refine Own.iload (pc' := 265) at_263 rfl rfl ?_
            refine Own.lloadN (pc' := 266) at_265 rfl rfl ?_
            refine Own.lloadN (pc' := 267) at_266 rfl rfl ?_
            refine Own.static (pc' := 270) (y := (⟨"com/example/coldtail/coldtail/segment/MaxTreeFirstAtLeastPinLaw", "hit", "(IIIJJ)Z"⟩ : MethodName)) (rm' := ({ frames := 0, cells := 0, slots := 0, locals := 0 } : Room)) (W := 0) (as := [(.int (0 : Int32)), (.int v1089), (.int (4 : Int32)), (.long p2), (.long p1)]) (rest := []) at_267 rfl (hw _ (List.mem_of_getElem? (i := 25) rfl)) (hw _ (List.mem_of_getElem? (i := 26) rfl)) (hw _ (List.mem_of_getElem? (i := 27) rfl)) (hw _ (List.mem_of_getElem? (i := 28) rfl)) (by decide) (c_own_hit Z a0 hw n0 h1157 Zh1157 (0 : Int32) v1089 (4 : Int32) p2 p1   ) rfl rfl (lenOf pd_3 rfl) (by decide) rfl (by decide) (by decide) (by decide) fun r1192 h1191 qh1191 => ?_
            obtain ⟨e1, v1193, e2, hv1193⟩ := qh1191
            subst e1 e2
            show Go K _ _ _ _ _ _ _ _ _ 3 23 h1157 270 #[.val (.int p0), .val (.long p1), .second, .val (.long p2), .second, .val (.long p3), .second, .val (.long p4), .second, .val (.long p5), .second, .val (.int (4 : Int32)), .val (.int v1089), .val (.long v1090), .second, .val (.ref a1148), .val (.ref a1154), .val (.int v1167), .val (.int w1189)] [(.int v1193)]
            obtain ⟨w1195, hw1195⟩ : ∃ w : Int32, w = (if v1193 = 0 then w1189 else (0 : Int32)) := ⟨_, rfl⟩
            refine Own.join (pc2 := 276) (L2 := #[.val (.int p0), .val (.long p1), .second, .val (.long p2), .second, .val (.long p3), .second, .val (.long p4), .second, .val (.long p5), .second, .val (.int (4 : Int32)), .val (.int v1089), .val (.long v1090), .second, .val (.ref a1148), .val (.ref a1154), .val (.int v1167), .val (.int w1195)]) (S2 := []) (fun J1196 => ?_) ?_
            · refine Own.if_eq (pc' := 276) (pc2 := 273) at_270 (by decide) (by decide) rfl (fun c270_1193 => ?_) (fun c270_1193 => ?_)
              · try rw [if_pos c270_1193] at hw1195
                subst hw1195
                exact J1196
              · refine Own.iconst (pc' := 274) (v := (0 : Int32)) at_273 (by decide) rfl ?_
                refine Own.istore (pc' := 276) (L1 := #[.val (.int p0), .val (.long p1), .second, .val (.long p2), .second, .val (.long p3), .second, .val (.long p4), .second, .val (.long p5), .second, .val (.int (4 : Int32)), .val (.int v1089), .val (.long v1090), .second, .val (.ref a1148), .val (.ref a1154), .val (.int v1167), .val (.int (0 : Int32))]) at_274 rfl rfl ?_
                try rw [if_neg c270_1193] at hw1195
                subst hw1195
                exact J1196
            refine Own.iload (pc' := 278) at_276 rfl rfl ?_
            refine Own.iload (pc' := 280) at_278 rfl rfl ?_
            refine Own.icmp_ne (pc' := 287) (pc2 := 283) at_280 (by decide) (by decide) rfl (fun c280_1196 => False.elim (by apply c280_1196; rw [hv1167, hw1195, hw1189, hw1183, hw1177, hv1193, hv1187, hv1181, hv1175, own_hitI, own_hitI, own_hitI, own_hitI, own_if, own_if, own_if, own_if, own_want4])) (fun c280_1196 => ?_)
            refine Own.iconst (pc' := 284) (v := (1 : Int32)) at_283 (by decide) rfl ?_
            refine Own.goto (pc' := 288) at_284 (by decide) (by decide) ?_
            exact Own.ireturnZ (z' := (1 : Int32)) at_288 rfl (by decide) (rfl) (by decide) (by decide)
        · obtain rfl : v1087 = (3 : Int32) := Classical.byContradiction c80_1093
          refine Own.iconst (pc' := 84) (v := (3 : Int32)) at_83 (by decide) rfl ?_
          refine Own.newJ (pc' := 86) (n := 3) (cap := 3) at_84 rfl (hw _ (List.mem_of_getElem? (i := 0) rfl)) (by decide) (by decide) (by decide) (by decide) (by decide) fun a1198 h1199 ga1198 Eh1199 Aa1198 => ?_
          have Ga1198 : n0 ≤ a1198 := by rw [ga1198]; exact hZ0
          have Zh1199 : n0 ≤ h1199.size := Nat.le_trans hZ0 Eh1199.1
          show Go K _ _ _ _ _ _ _ _ _ 1 3 h1199 86 #[.val (.int p0), .val (.long p1), .second, .val (.long p2), .second, .val (.long p3), .second, .val (.long p4), .second, .val (.long p5), .second, .val (.int (3 : Int32)), .val (.int v1089), .val (.long v1090), .second, .unset, .unset, .unset, .unset] [(.ref a1198)]
          refine Own.dup (pc' := 87) at_86 rfl rfl ?_
          refine Own.iconst (pc' := 88) (v := (0 : Int32)) at_87 (by decide) rfl ?_
          refine Own.lloadN (pc' := 89) at_88 rfl rfl ?_
          refine Own.lastore (pc' := 90) (i := 0) at_89 rfl Aa1198 Ga1198 (by decide) (by decide) fun h1200 Wh1200 Ah1200 => ?_
          have Zh1200 : n0 ≤ h1200.size := by rw [Wh1200.size]; exact Zh1199
          refine Own.dup (pc' := 91) at_90 rfl rfl ?_
          refine Own.iconst (pc' := 92) (v := (1 : Int32)) at_91 (by decide) rfl ?_
          refine Own.lload (pc' := 94) at_92 rfl rfl ?_
          refine Own.lastore (pc' := 95) (i := 1) at_94 rfl Ah1200 Ga1198 (by decide) (by decide) fun h1201 Wh1201 Ah1201 => ?_
          have Zh1201 : n0 ≤ h1201.size := by rw [Wh1201.size]; exact Zh1200
          refine Own.dup (pc' := 96) at_95 rfl rfl ?_
          refine Own.iconst (pc' := 97) (v := (2 : Int32)) at_96 (by decide) rfl ?_
          refine Own.lload (pc' := 99) at_97 rfl rfl ?_
          refine Own.lastore (pc' := 100) (i := 2) at_99 rfl Ah1201 Ga1198 (by decide) (by decide) fun h1202 Wh1202 Ah1202 => ?_
          have Zh1202 : n0 ≤ h1202.size := by rw [Wh1202.size]; exact Zh1201
          refine Own.astore (pc' := 102) (L1 := #[.val (.int p0), .val (.long p1), .second, .val (.long p2), .second, .val (.long p3), .second, .val (.long p4), .second, .val (.long p5), .second, .val (.int (3 : Int32)), .val (.int v1089), .val (.long v1090), .second, .val (.ref a1198), .unset, .unset, .unset]) at_100 rfl rfl rfl ?_
          refine Own.goto (pc' := 167) at_102 (by decide) (by decide) ?_
          refine Own.newobj (pc' := 170) at_167 rfl (hw _ (List.mem_of_getElem? (i := 1) rfl)) (hw _ (List.mem_of_getElem? (i := 2) rfl)) (hw _ (List.mem_of_getElem? (i := 3) rfl)) (by decide) (by decide) fun a1203 h1204 ga1203 Eh1204 Xa1203 Da1203 => ?_
          have ne_a1198_a1203 : a1198 ≠ a1203 := Nat.ne_of_lt (ga1203 ▸ (Ah1202).lt)
          have Ga1203 : n0 ≤ a1203 := by rw [ga1203]; exact Zh1202
          have Zh1204 : n0 ≤ h1204.size := Nat.le_trans Zh1202 Eh1204.1
          have f1205 := Ah1202.ext Eh1204
          have F_leaves_a1203 : Fld Z h1204 a1203 "com/example/coldtail/coldtail/segment/MaxTree" "leaves" "I" (.int (0 : Int32)) := Da1203 (Or.inr (hw _ (List.mem_of_getElem? (i := 11) rfl))) (ty := .int) (by decide)
          have F_count_a1203 : Fld Z h1204 a1203 "com/example/coldtail/coldtail/segment/MaxTree" "count" "I" (.int (0 : Int32)) := Da1203 (Or.inr (hw _ (List.mem_of_getElem? (i := 13) rfl))) (ty := .int) (by decide)
          have F_nodes_a1203 : Fld Z h1204 a1203 "com/example/coldtail/coldtail/segment/MaxTree" "nodes" "[J" .null := Da1203 (Or.inr (hw _ (List.mem_of_getElem? (i := 15) rfl))) (ty := (.array .long)) (by decide)
          show Go K _ _ _ _ _ _ _ _ _ 2 6 h1204 170 #[.val (.int p0), .val (.long p1), .second, .val (.long p2), .second, .val (.long p3), .second, .val (.long p4), .second, .val (.long p5), .second, .val (.int (3 : Int32)), .val (.int v1089), .val (.long v1090), .second, .val (.ref a1198), .unset, .unset, .unset] [(.ref a1203)]
          refine Own.dup (pc' := 171) at_170 rfl rfl ?_
          refine Own.aload (pc' := 173) at_171 rfl rfl rfl ?_
          have Av := (f1205).cong (g := own_vals p2 p3 p4 p5 v1090) (fun k hk => by have hk' : k = 0 ∨ k = 1 ∨ k = 2 := (by omega); rcases hk' with rfl | rfl | rfl <;> simp [ownSet, own_vals])
          refine Own.special (pc' := 176) (y := (⟨"com/example/coldtail/coldtail/segment/MaxTree", "<init>", "([J)V"⟩ : MethodName)) (rm' := ({ frames := 1, cells := 1, slots := 16, locals := 40 } : Room)) (W := 1) (as := [(.ref a1198)]) (rest := [(.ref a1203)]) (a := a1203) at_173 rfl rfl (hw _ (List.mem_of_getElem? (i := 4) rfl)) (hw _ (List.mem_of_getElem? (i := 5) rfl)) (hw _ (List.mem_of_getElem? (i := 3) rfl)) (hw _ (List.mem_of_getElem? (i := 6) rfl)) (by decide) (c_own_mt3 Z a0 hw n0 h1204 Zh1204 a1203 a1198 p2 p3 p4 p5 v1090 Xa1203 F_leaves_a1203 F_count_a1203 F_nodes_a1203 Ga1203 ne_a1198_a1203 Av) rfl rfl (lenOf pd_1 rfl) (by decide) rfl (by decide) (by decide) (by decide) fun r1207 h1206 qh1206 => ?_
          obtain ⟨e2, a1208, Kh1206, hrh1206, eh1206, f1209, f1210, f1211, Ah1206⟩ := qh1206
          subst e2
          have f1212 := Xa1203.keep Kh1206
          have f1213 := Av.keep Kh1206 (ninS ne_a1198_a1203 nin0)
          have Zh1206 : n0 ≤ h1206.size := Nat.le_trans Zh1204 Kh1206.1
          show Go K _ _ _ _ _ _ _ _ _ 3 22 h1206 176 #[.val (.int p0), .val (.long p1), .second, .val (.long p2), .second, .val (.long p3), .second, .val (.long p4), .second, .val (.long p5), .second, .val (.int (3 : Int32)), .val (.int v1089), .val (.long v1090), .second, .val (.ref a1198), .unset, .unset, .unset] [(.ref a1203)]
          refine Own.astore (pc' := 178) (L1 := #[.val (.int p0), .val (.long p1), .second, .val (.long p2), .second, .val (.long p3), .second, .val (.long p4), .second, .val (.long p5), .second, .val (.int (3 : Int32)), .val (.int v1089), .val (.long v1090), .second, .val (.ref a1198), .val (.ref a1203), .unset, .unset]) at_176 rfl rfl rfl ?_
          refine Own.aload (pc' := 180) at_178 rfl rfl rfl ?_
          refine Own.iload (pc' := 182) at_180 rfl rfl ?_
          refine Own.lloadN (pc' := 183) at_182 rfl rfl ?_
          refine Own.virtual (pc' := 186) (y := (⟨"com/example/coldtail/coldtail/segment/MaxTree", "firstAtLeast", "(IJ)I"⟩ : MethodName)) (rm' := ({ frames := 0, cells := 0, slots := 0, locals := 0 } : Room)) (W := 0) (as := [(.int v1089), (.long p1)]) (rest := []) (a := a1203) at_183 rfl (hw _ (List.mem_of_getElem? (i := 20) rfl)) (hw _ (List.mem_of_getElem? (i := 21) rfl)) (hw _ (List.mem_of_getElem? (i := 23) rfl)) (hw _ (List.mem_of_getElem? (i := 22) rfl)) (hw _ (List.mem_of_getElem? (i := 3) rfl)) (hw _ (List.mem_of_getElem? (i := 24) rfl)) (by decide) eh1206 (c_own_fa3 Z a0 hw n0 h1206 Zh1206 a1203 v1089 p1 p2 p3 p4 p5 v1090 a1208 f1209 f1210 f1211 Ah1206 hp) rfl rfl (lenOf pd_2 rfl) (by decide) rfl (by decide) (by decide) (by decide) fun r1215 h1214 qh1214 => ?_
          obtain ⟨e1, v1216, e2, hv1216⟩ := qh1214
          subst e1 e2
          show Go K _ _ _ _ _ _ _ _ _ 3 22 h1206 186 #[.val (.int p0), .val (.long p1), .second, .val (.long p2), .second, .val (.long p3), .second, .val (.long p4), .second, .val (.long p5), .second, .val (.int (3 : Int32)), .val (.int v1089), .val (.long v1090), .second, .val (.ref a1198), .val (.ref a1203), .unset, .unset] [(.int v1216)]
          refine Own.istore (pc' := 188) (L1 := #[.val (.int p0), .val (.long p1), .second, .val (.long p2), .second, .val (.long p3), .second, .val (.long p4), .second, .val (.long p5), .second, .val (.int (3 : Int32)), .val (.int v1089), .val (.long v1090), .second, .val (.ref a1198), .val (.ref a1203), .val (.int v1216), .unset]) at_186 rfl rfl ?_
          refine Own.iload (pc' := 190) at_188 rfl rfl ?_
          refine Own.istore (pc' := 192) (L1 := #[.val (.int p0), .val (.long p1), .second, .val (.long p2), .second, .val (.long p3), .second, .val (.long p4), .second, .val (.long p5), .second, .val (.int (3 : Int32)), .val (.int v1089), .val (.long v1090), .second, .val (.ref a1198), .val (.ref a1203), .val (.int v1216), .val (.int (3 : Int32))]) at_190 rfl rfl ?_
          refine Own.iconst (pc' := 193) (v := (4 : Int32)) at_192 (by decide) rfl ?_
          refine Own.iload (pc' := 195) at_193 rfl rfl ?_
          refine Own.iload (pc' := 197) at_195 rfl rfl ?_
          refine Own.lload (pc' := 199) at_197 rfl rfl ?_
          refine Own.lloadN (pc' := 200) at_199 rfl rfl ?_
          refine Own.static (pc' := 203) (y := (⟨"com/example/coldtail/coldtail/segment/MaxTreeFirstAtLeastPinLaw", "hit", "(IIIJJ)Z"⟩ : MethodName)) (rm' := ({ frames := 0, cells := 0, slots := 0, locals := 0 } : Room)) (W := 0) (as := [(.int (4 : Int32)), (.int v1089), (.int (3 : Int32)), (.long v1090), (.long p1)]) (rest := []) at_200 rfl (hw _ (List.mem_of_getElem? (i := 25) rfl)) (hw _ (List.mem_of_getElem? (i := 26) rfl)) (hw _ (List.mem_of_getElem? (i := 27) rfl)) (hw _ (List.mem_of_getElem? (i := 28) rfl)) (by decide) (c_own_hit Z a0 hw n0 h1206 Zh1206 (4 : Int32) v1089 (3 : Int32) v1090 p1   ) rfl rfl (lenOf pd_3 rfl) (by decide) rfl (by decide) (by decide) (by decide) fun r1218 h1217 qh1217 => ?_
          obtain ⟨e1, v1219, e2, hv1219⟩ := qh1217
          subst e1 e2
          show Go K _ _ _ _ _ _ _ _ _ 3 22 h1206 203 #[.val (.int p0), .val (.long p1), .second, .val (.long p2), .second, .val (.long p3), .second, .val (.long p4), .second, .val (.long p5), .second, .val (.int (3 : Int32)), .val (.int v1089), .val (.long v1090), .second, .val (.ref a1198), .val (.ref a1203), .val (.int v1216), .val (.int (3 : Int32))] [(.int v1219)]
          obtain ⟨w1221, hw1221⟩ : ∃ w : Int32, w = (if v1219 = 0 then (3 : Int32) else (4 : Int32)) := ⟨_, rfl⟩
          refine Own.join (pc2 := 209) (L2 := #[.val (.int p0), .val (.long p1), .second, .val (.long p2), .second, .val (.long p3), .second, .val (.long p4), .second, .val (.long p5), .second, .val (.int (3 : Int32)), .val (.int v1089), .val (.long v1090), .second, .val (.ref a1198), .val (.ref a1203), .val (.int v1216), .val (.int w1221)]) (S2 := []) (fun J1222 => ?_) ?_
          · refine Own.if_eq (pc' := 209) (pc2 := 206) at_203 (by decide) (by decide) rfl (fun c203_1219 => ?_) (fun c203_1219 => ?_)
            · try rw [if_pos c203_1219] at hw1221
              subst hw1221
              exact J1222
            · refine Own.iconst (pc' := 207) (v := (4 : Int32)) at_206 (by decide) rfl ?_
              refine Own.istore (pc' := 209) (L1 := #[.val (.int p0), .val (.long p1), .second, .val (.long p2), .second, .val (.long p3), .second, .val (.long p4), .second, .val (.long p5), .second, .val (.int (3 : Int32)), .val (.int v1089), .val (.long v1090), .second, .val (.ref a1198), .val (.ref a1203), .val (.int v1216), .val (.int (4 : Int32))]) at_207 rfl rfl ?_
              try rw [if_neg c203_1219] at hw1221
              subst hw1221
              exact J1222
          refine Own.iconst (pc' := 210) (v := (3 : Int32)) at_209 (by decide) rfl ?_
          refine Own.iload (pc' := 212) at_210 rfl rfl ?_
          refine Own.iload (pc' := 214) at_212 rfl rfl ?_
          refine Own.lload (pc' := 216) at_214 rfl rfl ?_
          refine Own.lloadN (pc' := 217) at_216 rfl rfl ?_
          refine Own.static (pc' := 220) (y := (⟨"com/example/coldtail/coldtail/segment/MaxTreeFirstAtLeastPinLaw", "hit", "(IIIJJ)Z"⟩ : MethodName)) (rm' := ({ frames := 0, cells := 0, slots := 0, locals := 0 } : Room)) (W := 0) (as := [(.int (3 : Int32)), (.int v1089), (.int (3 : Int32)), (.long p5), (.long p1)]) (rest := []) at_217 rfl (hw _ (List.mem_of_getElem? (i := 25) rfl)) (hw _ (List.mem_of_getElem? (i := 26) rfl)) (hw _ (List.mem_of_getElem? (i := 27) rfl)) (hw _ (List.mem_of_getElem? (i := 28) rfl)) (by decide) (c_own_hit Z a0 hw n0 h1206 Zh1206 (3 : Int32) v1089 (3 : Int32) p5 p1   ) rfl rfl (lenOf pd_3 rfl) (by decide) rfl (by decide) (by decide) (by decide) fun r1224 h1223 qh1223 => ?_
          obtain ⟨e1, v1225, e2, hv1225⟩ := qh1223
          subst e1 e2
          show Go K _ _ _ _ _ _ _ _ _ 3 22 h1206 220 #[.val (.int p0), .val (.long p1), .second, .val (.long p2), .second, .val (.long p3), .second, .val (.long p4), .second, .val (.long p5), .second, .val (.int (3 : Int32)), .val (.int v1089), .val (.long v1090), .second, .val (.ref a1198), .val (.ref a1203), .val (.int v1216), .val (.int w1221)] [(.int v1225)]
          obtain ⟨w1227, hw1227⟩ : ∃ w : Int32, w = (if v1225 = 0 then w1221 else (3 : Int32)) := ⟨_, rfl⟩
          refine Own.join (pc2 := 226) (L2 := #[.val (.int p0), .val (.long p1), .second, .val (.long p2), .second, .val (.long p3), .second, .val (.long p4), .second, .val (.long p5), .second, .val (.int (3 : Int32)), .val (.int v1089), .val (.long v1090), .second, .val (.ref a1198), .val (.ref a1203), .val (.int v1216), .val (.int w1227)]) (S2 := []) (fun J1228 => ?_) ?_
          · refine Own.if_eq (pc' := 226) (pc2 := 223) at_220 (by decide) (by decide) rfl (fun c220_1225 => ?_) (fun c220_1225 => ?_)
            · try rw [if_pos c220_1225] at hw1227
              subst hw1227
              exact J1228
            · refine Own.iconst (pc' := 224) (v := (3 : Int32)) at_223 (by decide) rfl ?_
              refine Own.istore (pc' := 226) (L1 := #[.val (.int p0), .val (.long p1), .second, .val (.long p2), .second, .val (.long p3), .second, .val (.long p4), .second, .val (.long p5), .second, .val (.int (3 : Int32)), .val (.int v1089), .val (.long v1090), .second, .val (.ref a1198), .val (.ref a1203), .val (.int v1216), .val (.int (3 : Int32))]) at_224 rfl rfl ?_
              try rw [if_neg c220_1225] at hw1227
              subst hw1227
              exact J1228
          refine Own.iconst (pc' := 227) (v := (2 : Int32)) at_226 (by decide) rfl ?_
          refine Own.iload (pc' := 229) at_227 rfl rfl ?_
          refine Own.iload (pc' := 231) at_229 rfl rfl ?_
          refine Own.lload (pc' := 233) at_231 rfl rfl ?_
          refine Own.lloadN (pc' := 234) at_233 rfl rfl ?_
          refine Own.static (pc' := 237) (y := (⟨"com/example/coldtail/coldtail/segment/MaxTreeFirstAtLeastPinLaw", "hit", "(IIIJJ)Z"⟩ : MethodName)) (rm' := ({ frames := 0, cells := 0, slots := 0, locals := 0 } : Room)) (W := 0) (as := [(.int (2 : Int32)), (.int v1089), (.int (3 : Int32)), (.long p4), (.long p1)]) (rest := []) at_234 rfl (hw _ (List.mem_of_getElem? (i := 25) rfl)) (hw _ (List.mem_of_getElem? (i := 26) rfl)) (hw _ (List.mem_of_getElem? (i := 27) rfl)) (hw _ (List.mem_of_getElem? (i := 28) rfl)) (by decide) (c_own_hit Z a0 hw n0 h1206 Zh1206 (2 : Int32) v1089 (3 : Int32) p4 p1   ) rfl rfl (lenOf pd_3 rfl) (by decide) rfl (by decide) (by decide) (by decide) fun r1230 h1229 qh1229 => ?_
          obtain ⟨e1, v1231, e2, hv1231⟩ := qh1229
          subst e1 e2
          show Go K _ _ _ _ _ _ _ _ _ 3 22 h1206 237 #[.val (.int p0), .val (.long p1), .second, .val (.long p2), .second, .val (.long p3), .second, .val (.long p4), .second, .val (.long p5), .second, .val (.int (3 : Int32)), .val (.int v1089), .val (.long v1090), .second, .val (.ref a1198), .val (.ref a1203), .val (.int v1216), .val (.int w1227)] [(.int v1231)]
          obtain ⟨w1233, hw1233⟩ : ∃ w : Int32, w = (if v1231 = 0 then w1227 else (2 : Int32)) := ⟨_, rfl⟩
          refine Own.join (pc2 := 243) (L2 := #[.val (.int p0), .val (.long p1), .second, .val (.long p2), .second, .val (.long p3), .second, .val (.long p4), .second, .val (.long p5), .second, .val (.int (3 : Int32)), .val (.int v1089), .val (.long v1090), .second, .val (.ref a1198), .val (.ref a1203), .val (.int v1216), .val (.int w1233)]) (S2 := []) (fun J1234 => ?_) ?_
          · refine Own.if_eq (pc' := 243) (pc2 := 240) at_237 (by decide) (by decide) rfl (fun c237_1231 => ?_) (fun c237_1231 => ?_)
            · try rw [if_pos c237_1231] at hw1233
              subst hw1233
              exact J1234
            · refine Own.iconst (pc' := 241) (v := (2 : Int32)) at_240 (by decide) rfl ?_
              refine Own.istore (pc' := 243) (L1 := #[.val (.int p0), .val (.long p1), .second, .val (.long p2), .second, .val (.long p3), .second, .val (.long p4), .second, .val (.long p5), .second, .val (.int (3 : Int32)), .val (.int v1089), .val (.long v1090), .second, .val (.ref a1198), .val (.ref a1203), .val (.int v1216), .val (.int (2 : Int32))]) at_241 rfl rfl ?_
              try rw [if_neg c237_1231] at hw1233
              subst hw1233
              exact J1234
          refine Own.iconst (pc' := 244) (v := (1 : Int32)) at_243 (by decide) rfl ?_
          refine Own.iload (pc' := 246) at_244 rfl rfl ?_
          refine Own.iload (pc' := 248) at_246 rfl rfl ?_
          refine Own.lload (pc' := 250) at_248 rfl rfl ?_
          refine Own.lloadN (pc' := 251) at_250 rfl rfl ?_
          refine Own.static (pc' := 254) (y := (⟨"com/example/coldtail/coldtail/segment/MaxTreeFirstAtLeastPinLaw", "hit", "(IIIJJ)Z"⟩ : MethodName)) (rm' := ({ frames := 0, cells := 0, slots := 0, locals := 0 } : Room)) (W := 0) (as := [(.int (1 : Int32)), (.int v1089), (.int (3 : Int32)), (.long p3), (.long p1)]) (rest := []) at_251 rfl (hw _ (List.mem_of_getElem? (i := 25) rfl)) (hw _ (List.mem_of_getElem? (i := 26) rfl)) (hw _ (List.mem_of_getElem? (i := 27) rfl)) (hw _ (List.mem_of_getElem? (i := 28) rfl)) (by decide) (c_own_hit Z a0 hw n0 h1206 Zh1206 (1 : Int32) v1089 (3 : Int32) p3 p1   ) rfl rfl (lenOf pd_3 rfl) (by decide) rfl (by decide) (by decide) (by decide) fun r1236 h1235 qh1235 => ?_
          obtain ⟨e1, v1237, e2, hv1237⟩ := qh1235
          subst e1 e2
          show Go K _ _ _ _ _ _ _ _ _ 3 22 h1206 254 #[.val (.int p0), .val (.long p1), .second, .val (.long p2), .second, .val (.long p3), .second, .val (.long p4), .second, .val (.long p5), .second, .val (.int (3 : Int32)), .val (.int v1089), .val (.long v1090), .second, .val (.ref a1198), .val (.ref a1203), .val (.int v1216), .val (.int w1233)] [(.int v1237)]
          obtain ⟨w1239, hw1239⟩ : ∃ w : Int32, w = (if v1237 = 0 then w1233 else (1 : Int32)) := ⟨_, rfl⟩
          refine Own.join (pc2 := 260) (L2 := #[.val (.int p0), .val (.long p1), .second, .val (.long p2), .second, .val (.long p3), .second, .val (.long p4), .second, .val (.long p5), .second, .val (.int (3 : Int32)), .val (.int v1089), .val (.long v1090), .second, .val (.ref a1198), .val (.ref a1203), .val (.int v1216), .val (.int w1239)]) (S2 := []) (fun J1240 => ?_) ?_
          · refine Own.if_eq (pc' := 260) (pc2 := 257) at_254 (by decide) (by decide) rfl (fun c254_1237 => ?_) (fun c254_1237 => ?_)
            · try rw [if_pos c254_1237] at hw1239
              subst hw1239
              exact J1240
            · refine Own.iconst (pc' := 258) (v := (1 : Int32)) at_257 (by decide) rfl ?_
              refine Own.istore (pc' := 260) (L1 := #[.val (.int p0), .val (.long p1), .second, .val (.long p2), .second, .val (.long p3), .second, .val (.long p4), .second, .val (.long p5), .second, .val (.int (3 : Int32)), .val (.int v1089), .val (.long v1090), .second, .val (.ref a1198), .val (.ref a1203), .val (.int v1216), .val (.int (1 : Int32))]) at_258 rfl rfl ?_
              try rw [if_neg c254_1237] at hw1239
              subst hw1239
              exact J1240
          refine Own.iconst (pc' := 261) (v := (0 : Int32)) at_260 (by decide) rfl ?_
          refine Own.iload (pc' := 263) at_261 rfl rfl ?_
          refine Own.iload (pc' := 265) at_263 rfl rfl ?_
          refine Own.lloadN (pc' := 266) at_265 rfl rfl ?_
          refine Own.lloadN (pc' := 267) at_266 rfl rfl ?_
          refine Own.static (pc' := 270) (y := (⟨"com/example/coldtail/coldtail/segment/MaxTreeFirstAtLeastPinLaw", "hit", "(IIIJJ)Z"⟩ : MethodName)) (rm' := ({ frames := 0, cells := 0, slots := 0, locals := 0 } : Room)) (W := 0) (as := [(.int (0 : Int32)), (.int v1089), (.int (3 : Int32)), (.long p2), (.long p1)]) (rest := []) at_267 rfl (hw _ (List.mem_of_getElem? (i := 25) rfl)) (hw _ (List.mem_of_getElem? (i := 26) rfl)) (hw _ (List.mem_of_getElem? (i := 27) rfl)) (hw _ (List.mem_of_getElem? (i := 28) rfl)) (by decide) (c_own_hit Z a0 hw n0 h1206 Zh1206 (0 : Int32) v1089 (3 : Int32) p2 p1   ) rfl rfl (lenOf pd_3 rfl) (by decide) rfl (by decide) (by decide) (by decide) fun r1242 h1241 qh1241 => ?_
          obtain ⟨e1, v1243, e2, hv1243⟩ := qh1241
          subst e1 e2
          show Go K _ _ _ _ _ _ _ _ _ 3 22 h1206 270 #[.val (.int p0), .val (.long p1), .second, .val (.long p2), .second, .val (.long p3), .second, .val (.long p4), .second, .val (.long p5), .second, .val (.int (3 : Int32)), .val (.int v1089), .val (.long v1090), .second, .val (.ref a1198), .val (.ref a1203), .val (.int v1216), .val (.int w1239)] [(.int v1243)]
          obtain ⟨w1245, hw1245⟩ : ∃ w : Int32, w = (if v1243 = 0 then w1239 else (0 : Int32)) := ⟨_, rfl⟩
          refine Own.join (pc2 := 276) (L2 := #[.val (.int p0), .val (.long p1), .second, .val (.long p2), .second, .val (.long p3), .second, .val (.long p4), .second, .val (.long p5), .second, .val (.int (3 : Int32)), .val (.int v1089), .val (.long v1090), .second, .val (.ref a1198), .val (.ref a1203), .val (.int v1216), .val (.int w1245)]) (S2 := []) (fun J1246 => ?_) ?_
          · refine Own.if_eq (pc' := 276) (pc2 := 273) at_270 (by decide) (by decide) rfl (fun c270_1243 => ?_) (fun c270_1243 => ?_)
            · try rw [if_pos c270_1243] at hw1245
              subst hw1245
              exact J1246
            · refine Own.iconst (pc' := 274) (v := (0 : Int32)) at_273 (by decide) rfl ?_
              refine Own.istore (pc' := 276) (L1 := #[.val (.int p0), .val (.long p1), .second, .val (.long p2), .second, .val (.long p3), .second, .val (.long p4), .second, .val (.long p5), .second, .val (.int (3 : Int32)), .val (.int v1089), .val (.long v1090), .second, .val (.ref a1198), .val (.ref a1203), .val (.int v1216), .val (.int (0 : Int32))]) at_274 rfl rfl ?_
              try rw [if_neg c270_1243] at hw1245
              subst hw1245
              exact J1246
          refine Own.iload (pc' := 278) at_276 rfl rfl ?_
          refine Own.iload (pc' := 280) at_278 rfl rfl ?_
          refine Own.icmp_ne (pc' := 287) (pc2 := 283) at_280 (by decide) (by decide) rfl (fun c280_1246 => False.elim (by apply c280_1246; rw [hv1216, hw1245, hw1239, hw1233, hw1227, hw1221, hv1243, hv1237, hv1231, hv1225, hv1219, own_hitI, own_hitI, own_hitI, own_hitI, own_hitI, own_if, own_if, own_if, own_if, own_if]; rfl)) (fun c280_1246 => ?_)
          refine Own.iconst (pc' := 284) (v := (1 : Int32)) at_283 (by decide) rfl ?_
          refine Own.goto (pc' := 288) at_284 (by decide) (by decide) ?_
          exact Own.ireturnZ (z' := (1 : Int32)) at_288 rfl (by decide) (rfl) (by decide) (by decide)
      · obtain rfl : v1087 = (2 : Int32) := Classical.byContradiction c57_1092
        refine Own.iconst (pc' := 61) (v := (2 : Int32)) at_60 (by decide) rfl ?_
        refine Own.newJ (pc' := 63) (n := 2) (cap := 2) at_61 rfl (hw _ (List.mem_of_getElem? (i := 0) rfl)) (by decide) (by decide) (by decide) (by decide) (by decide) fun a1248 h1249 ga1248 Eh1249 Aa1248 => ?_
        have Ga1248 : n0 ≤ a1248 := by rw [ga1248]; exact hZ0
        have Zh1249 : n0 ≤ h1249.size := Nat.le_trans hZ0 Eh1249.1
        show Go K _ _ _ _ _ _ _ _ _ 1 2 h1249 63 #[.val (.int p0), .val (.long p1), .second, .val (.long p2), .second, .val (.long p3), .second, .val (.long p4), .second, .val (.long p5), .second, .val (.int (2 : Int32)), .val (.int v1089), .val (.long v1090), .second, .unset, .unset, .unset, .unset] [(.ref a1248)]
        refine Own.dup (pc' := 64) at_63 rfl rfl ?_
        refine Own.iconst (pc' := 65) (v := (0 : Int32)) at_64 (by decide) rfl ?_
        refine Own.lloadN (pc' := 66) at_65 rfl rfl ?_
        refine Own.lastore (pc' := 67) (i := 0) at_66 rfl Aa1248 Ga1248 (by decide) (by decide) fun h1250 Wh1250 Ah1250 => ?_
        have Zh1250 : n0 ≤ h1250.size := by rw [Wh1250.size]; exact Zh1249
        refine Own.dup (pc' := 68) at_67 rfl rfl ?_
        refine Own.iconst (pc' := 69) (v := (1 : Int32)) at_68 (by decide) rfl ?_
        refine Own.lload (pc' := 71) at_69 rfl rfl ?_
        refine Own.lastore (pc' := 72) (i := 1) at_71 rfl Ah1250 Ga1248 (by decide) (by decide) fun h1251 Wh1251 Ah1251 => ?_
        have Zh1251 : n0 ≤ h1251.size := by rw [Wh1251.size]; exact Zh1250
        refine Own.astore (pc' := 74) (L1 := #[.val (.int p0), .val (.long p1), .second, .val (.long p2), .second, .val (.long p3), .second, .val (.long p4), .second, .val (.long p5), .second, .val (.int (2 : Int32)), .val (.int v1089), .val (.long v1090), .second, .val (.ref a1248), .unset, .unset, .unset]) at_72 rfl rfl rfl ?_
        refine Own.goto (pc' := 167) at_74 (by decide) (by decide) ?_
        refine Own.newobj (pc' := 170) at_167 rfl (hw _ (List.mem_of_getElem? (i := 1) rfl)) (hw _ (List.mem_of_getElem? (i := 2) rfl)) (hw _ (List.mem_of_getElem? (i := 3) rfl)) (by decide) (by decide) fun a1252 h1253 ga1252 Eh1253 Xa1252 Da1252 => ?_
        have ne_a1248_a1252 : a1248 ≠ a1252 := Nat.ne_of_lt (ga1252 ▸ (Ah1251).lt)
        have Ga1252 : n0 ≤ a1252 := by rw [ga1252]; exact Zh1251
        have Zh1253 : n0 ≤ h1253.size := Nat.le_trans Zh1251 Eh1253.1
        have f1254 := Ah1251.ext Eh1253
        have F_leaves_a1252 : Fld Z h1253 a1252 "com/example/coldtail/coldtail/segment/MaxTree" "leaves" "I" (.int (0 : Int32)) := Da1252 (Or.inr (hw _ (List.mem_of_getElem? (i := 11) rfl))) (ty := .int) (by decide)
        have F_count_a1252 : Fld Z h1253 a1252 "com/example/coldtail/coldtail/segment/MaxTree" "count" "I" (.int (0 : Int32)) := Da1252 (Or.inr (hw _ (List.mem_of_getElem? (i := 13) rfl))) (ty := .int) (by decide)
        have F_nodes_a1252 : Fld Z h1253 a1252 "com/example/coldtail/coldtail/segment/MaxTree" "nodes" "[J" .null := Da1252 (Or.inr (hw _ (List.mem_of_getElem? (i := 15) rfl))) (ty := (.array .long)) (by decide)
        show Go K _ _ _ _ _ _ _ _ _ 2 5 h1253 170 #[.val (.int p0), .val (.long p1), .second, .val (.long p2), .second, .val (.long p3), .second, .val (.long p4), .second, .val (.long p5), .second, .val (.int (2 : Int32)), .val (.int v1089), .val (.long v1090), .second, .val (.ref a1248), .unset, .unset, .unset] [(.ref a1252)]
        refine Own.dup (pc' := 171) at_170 rfl rfl ?_
        refine Own.aload (pc' := 173) at_171 rfl rfl rfl ?_
        have Av := (f1254).cong (g := own_vals p2 p3 p4 p5 v1090) (fun k hk => by have hk' : k = 0 ∨ k = 1 := (by omega); rcases hk' with rfl | rfl <;> simp [ownSet, own_vals])
        refine Own.special (pc' := 176) (y := (⟨"com/example/coldtail/coldtail/segment/MaxTree", "<init>", "([J)V"⟩ : MethodName)) (rm' := ({ frames := 1, cells := 1, slots := 16, locals := 40 } : Room)) (W := 1) (as := [(.ref a1248)]) (rest := [(.ref a1252)]) (a := a1252) at_173 rfl rfl (hw _ (List.mem_of_getElem? (i := 4) rfl)) (hw _ (List.mem_of_getElem? (i := 5) rfl)) (hw _ (List.mem_of_getElem? (i := 3) rfl)) (hw _ (List.mem_of_getElem? (i := 6) rfl)) (by decide) (c_own_mt2 Z a0 hw n0 h1253 Zh1253 a1252 a1248 p2 p3 p4 p5 v1090 Xa1252 F_leaves_a1252 F_count_a1252 F_nodes_a1252 Ga1252 ne_a1248_a1252 Av) rfl rfl (lenOf pd_1 rfl) (by decide) rfl (by decide) (by decide) (by decide) fun r1256 h1255 qh1255 => ?_
        obtain ⟨e2, a1257, Kh1255, hrh1255, eh1255, f1258, f1259, f1260, Ah1255⟩ := qh1255
        subst e2
        have f1261 := Xa1252.keep Kh1255
        have f1262 := Av.keep Kh1255 (ninS ne_a1248_a1252 nin0)
        have Zh1255 : n0 ≤ h1255.size := Nat.le_trans Zh1253 Kh1255.1
        show Go K _ _ _ _ _ _ _ _ _ 3 21 h1255 176 #[.val (.int p0), .val (.long p1), .second, .val (.long p2), .second, .val (.long p3), .second, .val (.long p4), .second, .val (.long p5), .second, .val (.int (2 : Int32)), .val (.int v1089), .val (.long v1090), .second, .val (.ref a1248), .unset, .unset, .unset] [(.ref a1252)]
        refine Own.astore (pc' := 178) (L1 := #[.val (.int p0), .val (.long p1), .second, .val (.long p2), .second, .val (.long p3), .second, .val (.long p4), .second, .val (.long p5), .second, .val (.int (2 : Int32)), .val (.int v1089), .val (.long v1090), .second, .val (.ref a1248), .val (.ref a1252), .unset, .unset]) at_176 rfl rfl rfl ?_
        refine Own.aload (pc' := 180) at_178 rfl rfl rfl ?_
        refine Own.iload (pc' := 182) at_180 rfl rfl ?_
        refine Own.lloadN (pc' := 183) at_182 rfl rfl ?_
        refine Own.virtual (pc' := 186) (y := (⟨"com/example/coldtail/coldtail/segment/MaxTree", "firstAtLeast", "(IJ)I"⟩ : MethodName)) (rm' := ({ frames := 0, cells := 0, slots := 0, locals := 0 } : Room)) (W := 0) (as := [(.int v1089), (.long p1)]) (rest := []) (a := a1252) at_183 rfl (hw _ (List.mem_of_getElem? (i := 20) rfl)) (hw _ (List.mem_of_getElem? (i := 21) rfl)) (hw _ (List.mem_of_getElem? (i := 23) rfl)) (hw _ (List.mem_of_getElem? (i := 22) rfl)) (hw _ (List.mem_of_getElem? (i := 3) rfl)) (hw _ (List.mem_of_getElem? (i := 24) rfl)) (by decide) eh1255 (c_own_fa2 Z a0 hw n0 h1255 Zh1255 a1252 v1089 p1 p2 p3 p4 p5 v1090 a1257 f1258 f1259 f1260 Ah1255 hp) rfl rfl (lenOf pd_2 rfl) (by decide) rfl (by decide) (by decide) (by decide) fun r1264 h1263 qh1263 => ?_
        obtain ⟨e1, v1265, e2, hv1265⟩ := qh1263
        subst e1 e2
        show Go K _ _ _ _ _ _ _ _ _ 3 21 h1255 186 #[.val (.int p0), .val (.long p1), .second, .val (.long p2), .second, .val (.long p3), .second, .val (.long p4), .second, .val (.long p5), .second, .val (.int (2 : Int32)), .val (.int v1089), .val (.long v1090), .second, .val (.ref a1248), .val (.ref a1252), .unset, .unset] [(.int v1265)]
        refine Own.istore (pc' := 188) (L1 := #[.val (.int p0), .val (.long p1), .second, .val (.long p2), .second, .val (.long p3), .second, .val (.long p4), .second, .val (.long p5), .second, .val (.int (2 : Int32)), .val (.int v1089), .val (.long v1090), .second, .val (.ref a1248), .val (.ref a1252), .val (.int v1265), .unset]) at_186 rfl rfl ?_
        refine Own.iload (pc' := 190) at_188 rfl rfl ?_
        refine Own.istore (pc' := 192) (L1 := #[.val (.int p0), .val (.long p1), .second, .val (.long p2), .second, .val (.long p3), .second, .val (.long p4), .second, .val (.long p5), .second, .val (.int (2 : Int32)), .val (.int v1089), .val (.long v1090), .second, .val (.ref a1248), .val (.ref a1252), .val (.int v1265), .val (.int (2 : Int32))]) at_190 rfl rfl ?_
        refine Own.iconst (pc' := 193) (v := (4 : Int32)) at_192 (by decide) rfl ?_
        refine Own.iload (pc' := 195) at_193 rfl rfl ?_
        refine Own.iload (pc' := 197) at_195 rfl rfl ?_
        refine Own.lload (pc' := 199) at_197 rfl rfl ?_
        refine Own.lloadN (pc' := 200) at_199 rfl rfl ?_
        refine Own.static (pc' := 203) (y := (⟨"com/example/coldtail/coldtail/segment/MaxTreeFirstAtLeastPinLaw", "hit", "(IIIJJ)Z"⟩ : MethodName)) (rm' := ({ frames := 0, cells := 0, slots := 0, locals := 0 } : Room)) (W := 0) (as := [(.int (4 : Int32)), (.int v1089), (.int (2 : Int32)), (.long v1090), (.long p1)]) (rest := []) at_200 rfl (hw _ (List.mem_of_getElem? (i := 25) rfl)) (hw _ (List.mem_of_getElem? (i := 26) rfl)) (hw _ (List.mem_of_getElem? (i := 27) rfl)) (hw _ (List.mem_of_getElem? (i := 28) rfl)) (by decide) (c_own_hit Z a0 hw n0 h1255 Zh1255 (4 : Int32) v1089 (2 : Int32) v1090 p1   ) rfl rfl (lenOf pd_3 rfl) (by decide) rfl (by decide) (by decide) (by decide) fun r1267 h1266 qh1266 => ?_
        obtain ⟨e1, v1268, e2, hv1268⟩ := qh1266
        subst e1 e2
        show Go K _ _ _ _ _ _ _ _ _ 3 21 h1255 203 #[.val (.int p0), .val (.long p1), .second, .val (.long p2), .second, .val (.long p3), .second, .val (.long p4), .second, .val (.long p5), .second, .val (.int (2 : Int32)), .val (.int v1089), .val (.long v1090), .second, .val (.ref a1248), .val (.ref a1252), .val (.int v1265), .val (.int (2 : Int32))] [(.int v1268)]
        obtain ⟨w1270, hw1270⟩ : ∃ w : Int32, w = (if v1268 = 0 then (2 : Int32) else (4 : Int32)) := ⟨_, rfl⟩
        refine Own.join (pc2 := 209) (L2 := #[.val (.int p0), .val (.long p1), .second, .val (.long p2), .second, .val (.long p3), .second, .val (.long p4), .second, .val (.long p5), .second, .val (.int (2 : Int32)), .val (.int v1089), .val (.long v1090), .second, .val (.ref a1248), .val (.ref a1252), .val (.int v1265), .val (.int w1270)]) (S2 := []) (fun J1271 => ?_) ?_
        · refine Own.if_eq (pc' := 209) (pc2 := 206) at_203 (by decide) (by decide) rfl (fun c203_1268 => ?_) (fun c203_1268 => ?_)
          · try rw [if_pos c203_1268] at hw1270
            subst hw1270
            exact J1271
          · refine Own.iconst (pc' := 207) (v := (4 : Int32)) at_206 (by decide) rfl ?_
            refine Own.istore (pc' := 209) (L1 := #[.val (.int p0), .val (.long p1), .second, .val (.long p2), .second, .val (.long p3), .second, .val (.long p4), .second, .val (.long p5), .second, .val (.int (2 : Int32)), .val (.int v1089), .val (.long v1090), .second, .val (.ref a1248), .val (.ref a1252), .val (.int v1265), .val (.int (4 : Int32))]) at_207 rfl rfl ?_
            try rw [if_neg c203_1268] at hw1270
            subst hw1270
            exact J1271
        refine Own.iconst (pc' := 210) (v := (3 : Int32)) at_209 (by decide) rfl ?_
        refine Own.iload (pc' := 212) at_210 rfl rfl ?_
        refine Own.iload (pc' := 214) at_212 rfl rfl ?_
        refine Own.lload (pc' := 216) at_214 rfl rfl ?_
        refine Own.lloadN (pc' := 217) at_216 rfl rfl ?_
        refine Own.static (pc' := 220) (y := (⟨"com/example/coldtail/coldtail/segment/MaxTreeFirstAtLeastPinLaw", "hit", "(IIIJJ)Z"⟩ : MethodName)) (rm' := ({ frames := 0, cells := 0, slots := 0, locals := 0 } : Room)) (W := 0) (as := [(.int (3 : Int32)), (.int v1089), (.int (2 : Int32)), (.long p5), (.long p1)]) (rest := []) at_217 rfl (hw _ (List.mem_of_getElem? (i := 25) rfl)) (hw _ (List.mem_of_getElem? (i := 26) rfl)) (hw _ (List.mem_of_getElem? (i := 27) rfl)) (hw _ (List.mem_of_getElem? (i := 28) rfl)) (by decide) (c_own_hit Z a0 hw n0 h1255 Zh1255 (3 : Int32) v1089 (2 : Int32) p5 p1   ) rfl rfl (lenOf pd_3 rfl) (by decide) rfl (by decide) (by decide) (by decide) fun r1273 h1272 qh1272 => ?_
        obtain ⟨e1, v1274, e2, hv1274⟩ := qh1272
        subst e1 e2
        show Go K _ _ _ _ _ _ _ _ _ 3 21 h1255 220 #[.val (.int p0), .val (.long p1), .second, .val (.long p2), .second, .val (.long p3), .second, .val (.long p4), .second, .val (.long p5), .second, .val (.int (2 : Int32)), .val (.int v1089), .val (.long v1090), .second, .val (.ref a1248), .val (.ref a1252), .val (.int v1265), .val (.int w1270)] [(.int v1274)]
        obtain ⟨w1276, hw1276⟩ : ∃ w : Int32, w = (if v1274 = 0 then w1270 else (3 : Int32)) := ⟨_, rfl⟩
        refine Own.join (pc2 := 226) (L2 := #[.val (.int p0), .val (.long p1), .second, .val (.long p2), .second, .val (.long p3), .second, .val (.long p4), .second, .val (.long p5), .second, .val (.int (2 : Int32)), .val (.int v1089), .val (.long v1090), .second, .val (.ref a1248), .val (.ref a1252), .val (.int v1265), .val (.int w1276)]) (S2 := []) (fun J1277 => ?_) ?_
        · refine Own.if_eq (pc' := 226) (pc2 := 223) at_220 (by decide) (by decide) rfl (fun c220_1274 => ?_) (fun c220_1274 => ?_)
          · try rw [if_pos c220_1274] at hw1276
            subst hw1276
            exact J1277
          · refine Own.iconst (pc' := 224) (v := (3 : Int32)) at_223 (by decide) rfl ?_
            refine Own.istore (pc' := 226) (L1 := #[.val (.int p0), .val (.long p1), .second, .val (.long p2), .second, .val (.long p3), .second, .val (.long p4), .second, .val (.long p5), .second, .val (.int (2 : Int32)), .val (.int v1089), .val (.long v1090), .second, .val (.ref a1248), .val (.ref a1252), .val (.int v1265), .val (.int (3 : Int32))]) at_224 rfl rfl ?_
            try rw [if_neg c220_1274] at hw1276
            subst hw1276
            exact J1277
        refine Own.iconst (pc' := 227) (v := (2 : Int32)) at_226 (by decide) rfl ?_
        refine Own.iload (pc' := 229) at_227 rfl rfl ?_
        refine Own.iload (pc' := 231) at_229 rfl rfl ?_
        refine Own.lload (pc' := 233) at_231 rfl rfl ?_
        refine Own.lloadN (pc' := 234) at_233 rfl rfl ?_
        refine Own.static (pc' := 237) (y := (⟨"com/example/coldtail/coldtail/segment/MaxTreeFirstAtLeastPinLaw", "hit", "(IIIJJ)Z"⟩ : MethodName)) (rm' := ({ frames := 0, cells := 0, slots := 0, locals := 0 } : Room)) (W := 0) (as := [(.int (2 : Int32)), (.int v1089), (.int (2 : Int32)), (.long p4), (.long p1)]) (rest := []) at_234 rfl (hw _ (List.mem_of_getElem? (i := 25) rfl)) (hw _ (List.mem_of_getElem? (i := 26) rfl)) (hw _ (List.mem_of_getElem? (i := 27) rfl)) (hw _ (List.mem_of_getElem? (i := 28) rfl)) (by decide) (c_own_hit Z a0 hw n0 h1255 Zh1255 (2 : Int32) v1089 (2 : Int32) p4 p1   ) rfl rfl (lenOf pd_3 rfl) (by decide) rfl (by decide) (by decide) (by decide) fun r1279 h1278 qh1278 => ?_
        obtain ⟨e1, v1280, e2, hv1280⟩ := qh1278
        subst e1 e2
        show Go K _ _ _ _ _ _ _ _ _ 3 21 h1255 237 #[.val (.int p0), .val (.long p1), .second, .val (.long p2), .second, .val (.long p3), .second, .val (.long p4), .second, .val (.long p5), .second, .val (.int (2 : Int32)), .val (.int v1089), .val (.long v1090), .second, .val (.ref a1248), .val (.ref a1252), .val (.int v1265), .val (.int w1276)] [(.int v1280)]
        obtain ⟨w1282, hw1282⟩ : ∃ w : Int32, w = (if v1280 = 0 then w1276 else (2 : Int32)) := ⟨_, rfl⟩
        refine Own.join (pc2 := 243) (L2 := #[.val (.int p0), .val (.long p1), .second, .val (.long p2), .second, .val (.long p3), .second, .val (.long p4), .second, .val (.long p5), .second, .val (.int (2 : Int32)), .val (.int v1089), .val (.long v1090), .second, .val (.ref a1248), .val (.ref a1252), .val (.int v1265), .val (.int w1282)]) (S2 := []) (fun J1283 => ?_) ?_
        · refine Own.if_eq (pc' := 243) (pc2 := 240) at_237 (by decide) (by decide) rfl (fun c237_1280 => ?_) (fun c237_1280 => ?_)
          · try rw [if_pos c237_1280] at hw1282
            subst hw1282
            exact J1283
          · refine Own.iconst (pc' := 241) (v := (2 : Int32)) at_240 (by decide) rfl ?_
            refine Own.istore (pc' := 243) (L1 := #[.val (.int p0), .val (.long p1), .second, .val (.long p2), .second, .val (.long p3), .second, .val (.long p4), .second, .val (.long p5), .second, .val (.int (2 : Int32)), .val (.int v1089), .val (.long v1090), .second, .val (.ref a1248), .val (.ref a1252), .val (.int v1265), .val (.int (2 : Int32))]) at_241 rfl rfl ?_
            try rw [if_neg c237_1280] at hw1282
            subst hw1282
            exact J1283
        refine Own.iconst (pc' := 244) (v := (1 : Int32)) at_243 (by decide) rfl ?_
        refine Own.iload (pc' := 246) at_244 rfl rfl ?_
        refine Own.iload (pc' := 248) at_246 rfl rfl ?_
        refine Own.lload (pc' := 250) at_248 rfl rfl ?_
        refine Own.lloadN (pc' := 251) at_250 rfl rfl ?_
        refine Own.static (pc' := 254) (y := (⟨"com/example/coldtail/coldtail/segment/MaxTreeFirstAtLeastPinLaw", "hit", "(IIIJJ)Z"⟩ : MethodName)) (rm' := ({ frames := 0, cells := 0, slots := 0, locals := 0 } : Room)) (W := 0) (as := [(.int (1 : Int32)), (.int v1089), (.int (2 : Int32)), (.long p3), (.long p1)]) (rest := []) at_251 rfl (hw _ (List.mem_of_getElem? (i := 25) rfl)) (hw _ (List.mem_of_getElem? (i := 26) rfl)) (hw _ (List.mem_of_getElem? (i := 27) rfl)) (hw _ (List.mem_of_getElem? (i := 28) rfl)) (by decide) (c_own_hit Z a0 hw n0 h1255 Zh1255 (1 : Int32) v1089 (2 : Int32) p3 p1   ) rfl rfl (lenOf pd_3 rfl) (by decide) rfl (by decide) (by decide) (by decide) fun r1285 h1284 qh1284 => ?_
        obtain ⟨e1, v1286, e2, hv1286⟩ := qh1284
        subst e1 e2
        show Go K _ _ _ _ _ _ _ _ _ 3 21 h1255 254 #[.val (.int p0), .val (.long p1), .second, .val (.long p2), .second, .val (.long p3), .second, .val (.long p4), .second, .val (.long p5), .second, .val (.int (2 : Int32)), .val (.int v1089), .val (.long v1090), .second, .val (.ref a1248), .val (.ref a1252), .val (.int v1265), .val (.int w1282)] [(.int v1286)]
        obtain ⟨w1288, hw1288⟩ : ∃ w : Int32, w = (if v1286 = 0 then w1282 else (1 : Int32)) := ⟨_, rfl⟩
        refine Own.join (pc2 := 260) (L2 := #[.val (.int p0), .val (.long p1), .second, .val (.long p2), .second, .val (.long p3), .second, .val (.long p4), .second, .val (.long p5), .second, .val (.int (2 : Int32)), .val (.int v1089), .val (.long v1090), .second, .val (.ref a1248), .val (.ref a1252), .val (.int v1265), .val (.int w1288)]) (S2 := []) (fun J1289 => ?_) ?_
        · refine Own.if_eq (pc' := 260) (pc2 := 257) at_254 (by decide) (by decide) rfl (fun c254_1286 => ?_) (fun c254_1286 => ?_)
          · try rw [if_pos c254_1286] at hw1288
            subst hw1288
            exact J1289
          · refine Own.iconst (pc' := 258) (v := (1 : Int32)) at_257 (by decide) rfl ?_
            refine Own.istore (pc' := 260) (L1 := #[.val (.int p0), .val (.long p1), .second, .val (.long p2), .second, .val (.long p3), .second, .val (.long p4), .second, .val (.long p5), .second, .val (.int (2 : Int32)), .val (.int v1089), .val (.long v1090), .second, .val (.ref a1248), .val (.ref a1252), .val (.int v1265), .val (.int (1 : Int32))]) at_258 rfl rfl ?_
            try rw [if_neg c254_1286] at hw1288
            subst hw1288
            exact J1289
        refine Own.iconst (pc' := 261) (v := (0 : Int32)) at_260 (by decide) rfl ?_
        refine Own.iload (pc' := 263) at_261 rfl rfl ?_
        refine Own.iload (pc' := 265) at_263 rfl rfl ?_
        refine Own.lloadN (pc' := 266) at_265 rfl rfl ?_
        refine Own.lloadN (pc' := 267) at_266 rfl rfl ?_
        refine Own.static (pc' := 270) (y := (⟨"com/example/coldtail/coldtail/segment/MaxTreeFirstAtLeastPinLaw", "hit", "(IIIJJ)Z"⟩ : MethodName)) (rm' := ({ frames := 0, cells := 0, slots := 0, locals := 0 } : Room)) (W := 0) (as := [(.int (0 : Int32)), (.int v1089), (.int (2 : Int32)), (.long p2), (.long p1)]) (rest := []) at_267 rfl (hw _ (List.mem_of_getElem? (i := 25) rfl)) (hw _ (List.mem_of_getElem? (i := 26) rfl)) (hw _ (List.mem_of_getElem? (i := 27) rfl)) (hw _ (List.mem_of_getElem? (i := 28) rfl)) (by decide) (c_own_hit Z a0 hw n0 h1255 Zh1255 (0 : Int32) v1089 (2 : Int32) p2 p1   ) rfl rfl (lenOf pd_3 rfl) (by decide) rfl (by decide) (by decide) (by decide) fun r1291 h1290 qh1290 => ?_
        obtain ⟨e1, v1292, e2, hv1292⟩ := qh1290
        subst e1 e2
        show Go K _ _ _ _ _ _ _ _ _ 3 21 h1255 270 #[.val (.int p0), .val (.long p1), .second, .val (.long p2), .second, .val (.long p3), .second, .val (.long p4), .second, .val (.long p5), .second, .val (.int (2 : Int32)), .val (.int v1089), .val (.long v1090), .second, .val (.ref a1248), .val (.ref a1252), .val (.int v1265), .val (.int w1288)] [(.int v1292)]
        obtain ⟨w1294, hw1294⟩ : ∃ w : Int32, w = (if v1292 = 0 then w1288 else (0 : Int32)) := ⟨_, rfl⟩
        refine Own.join (pc2 := 276) (L2 := #[.val (.int p0), .val (.long p1), .second, .val (.long p2), .second, .val (.long p3), .second, .val (.long p4), .second, .val (.long p5), .second, .val (.int (2 : Int32)), .val (.int v1089), .val (.long v1090), .second, .val (.ref a1248), .val (.ref a1252), .val (.int v1265), .val (.int w1294)]) (S2 := []) (fun J1295 => ?_) ?_
        · refine Own.if_eq (pc' := 276) (pc2 := 273) at_270 (by decide) (by decide) rfl (fun c270_1292 => ?_) (fun c270_1292 => ?_)
          · try rw [if_pos c270_1292] at hw1294
            subst hw1294
            exact J1295
          · refine Own.iconst (pc' := 274) (v := (0 : Int32)) at_273 (by decide) rfl ?_
            refine Own.istore (pc' := 276) (L1 := #[.val (.int p0), .val (.long p1), .second, .val (.long p2), .second, .val (.long p3), .second, .val (.long p4), .second, .val (.long p5), .second, .val (.int (2 : Int32)), .val (.int v1089), .val (.long v1090), .second, .val (.ref a1248), .val (.ref a1252), .val (.int v1265), .val (.int (0 : Int32))]) at_274 rfl rfl ?_
            try rw [if_neg c270_1292] at hw1294
            subst hw1294
            exact J1295
        refine Own.iload (pc' := 278) at_276 rfl rfl ?_
        refine Own.iload (pc' := 280) at_278 rfl rfl ?_
        refine Own.icmp_ne (pc' := 287) (pc2 := 283) at_280 (by decide) (by decide) rfl (fun c280_1295 => False.elim (by apply c280_1295; rw [hv1265, hw1294, hw1288, hw1282, hw1276, hw1270, hv1292, hv1286, hv1280, hv1274, hv1268, own_hitI, own_hitI, own_hitI, own_hitI, own_hitI, own_if, own_if, own_if, own_if, own_if]; rfl)) (fun c280_1295 => ?_)
        refine Own.iconst (pc' := 284) (v := (1 : Int32)) at_283 (by decide) rfl ?_
        refine Own.goto (pc' := 288) at_284 (by decide) (by decide) ?_
        exact Own.ireturnZ (z' := (1 : Int32)) at_288 rfl (by decide) (rfl) (by decide) (by decide)
    · obtain rfl : v1087 = (1 : Int32) := Classical.byContradiction c39_1091
      refine Own.iconst (pc' := 43) (v := (1 : Int32)) at_42 (by decide) rfl ?_
      refine Own.newJ (pc' := 45) (n := 1) (cap := 1) at_43 rfl (hw _ (List.mem_of_getElem? (i := 0) rfl)) (by decide) (by decide) (by decide) (by decide) (by decide) fun a1297 h1298 ga1297 Eh1298 Aa1297 => ?_
      have Ga1297 : n0 ≤ a1297 := by rw [ga1297]; exact hZ0
      have Zh1298 : n0 ≤ h1298.size := Nat.le_trans hZ0 Eh1298.1
      show Go K _ _ _ _ _ _ _ _ _ 1 1 h1298 45 #[.val (.int p0), .val (.long p1), .second, .val (.long p2), .second, .val (.long p3), .second, .val (.long p4), .second, .val (.long p5), .second, .val (.int (1 : Int32)), .val (.int v1089), .val (.long v1090), .second, .unset, .unset, .unset, .unset] [(.ref a1297)]
      refine Own.dup (pc' := 46) at_45 rfl rfl ?_
      refine Own.iconst (pc' := 47) (v := (0 : Int32)) at_46 (by decide) rfl ?_
      refine Own.lloadN (pc' := 48) at_47 rfl rfl ?_
      refine Own.lastore (pc' := 49) (i := 0) at_48 rfl Aa1297 Ga1297 (by decide) (by decide) fun h1299 Wh1299 Ah1299 => ?_
      have Zh1299 : n0 ≤ h1299.size := by rw [Wh1299.size]; exact Zh1298
      refine Own.astore (pc' := 51) (L1 := #[.val (.int p0), .val (.long p1), .second, .val (.long p2), .second, .val (.long p3), .second, .val (.long p4), .second, .val (.long p5), .second, .val (.int (1 : Int32)), .val (.int v1089), .val (.long v1090), .second, .val (.ref a1297), .unset, .unset, .unset]) at_49 rfl rfl rfl ?_
      refine Own.goto (pc' := 167) at_51 (by decide) (by decide) ?_
      refine Own.newobj (pc' := 170) at_167 rfl (hw _ (List.mem_of_getElem? (i := 1) rfl)) (hw _ (List.mem_of_getElem? (i := 2) rfl)) (hw _ (List.mem_of_getElem? (i := 3) rfl)) (by decide) (by decide) fun a1300 h1301 ga1300 Eh1301 Xa1300 Da1300 => ?_
      have ne_a1297_a1300 : a1297 ≠ a1300 := Nat.ne_of_lt (ga1300 ▸ (Ah1299).lt)
      have Ga1300 : n0 ≤ a1300 := by rw [ga1300]; exact Zh1299
      have Zh1301 : n0 ≤ h1301.size := Nat.le_trans Zh1299 Eh1301.1
      have f1302 := Ah1299.ext Eh1301
      have F_leaves_a1300 : Fld Z h1301 a1300 "com/example/coldtail/coldtail/segment/MaxTree" "leaves" "I" (.int (0 : Int32)) := Da1300 (Or.inr (hw _ (List.mem_of_getElem? (i := 11) rfl))) (ty := .int) (by decide)
      have F_count_a1300 : Fld Z h1301 a1300 "com/example/coldtail/coldtail/segment/MaxTree" "count" "I" (.int (0 : Int32)) := Da1300 (Or.inr (hw _ (List.mem_of_getElem? (i := 13) rfl))) (ty := .int) (by decide)
      have F_nodes_a1300 : Fld Z h1301 a1300 "com/example/coldtail/coldtail/segment/MaxTree" "nodes" "[J" .null := Da1300 (Or.inr (hw _ (List.mem_of_getElem? (i := 15) rfl))) (ty := (.array .long)) (by decide)
      show Go K _ _ _ _ _ _ _ _ _ 2 4 h1301 170 #[.val (.int p0), .val (.long p1), .second, .val (.long p2), .second, .val (.long p3), .second, .val (.long p4), .second, .val (.long p5), .second, .val (.int (1 : Int32)), .val (.int v1089), .val (.long v1090), .second, .val (.ref a1297), .unset, .unset, .unset] [(.ref a1300)]
      refine Own.dup (pc' := 171) at_170 rfl rfl ?_
      refine Own.aload (pc' := 173) at_171 rfl rfl rfl ?_
      have Av := (f1302).cong (g := own_vals p2 p3 p4 p5 v1090) (fun k hk => by have hk' : k = 0 := (by omega); subst hk'; simp [ownSet, own_vals])
      refine Own.special (pc' := 176) (y := (⟨"com/example/coldtail/coldtail/segment/MaxTree", "<init>", "([J)V"⟩ : MethodName)) (rm' := ({ frames := 1, cells := 1, slots := 16, locals := 40 } : Room)) (W := 1) (as := [(.ref a1297)]) (rest := [(.ref a1300)]) (a := a1300) at_173 rfl rfl (hw _ (List.mem_of_getElem? (i := 4) rfl)) (hw _ (List.mem_of_getElem? (i := 5) rfl)) (hw _ (List.mem_of_getElem? (i := 3) rfl)) (hw _ (List.mem_of_getElem? (i := 6) rfl)) (by decide) (c_own_mt1 Z a0 hw n0 h1301 Zh1301 a1300 a1297 p2 p3 p4 p5 v1090 Xa1300 F_leaves_a1300 F_count_a1300 F_nodes_a1300 Ga1300 ne_a1297_a1300 Av) rfl rfl (lenOf pd_1 rfl) (by decide) rfl (by decide) (by decide) (by decide) fun r1304 h1303 qh1303 => ?_
      obtain ⟨e2, a1305, Kh1303, hrh1303, eh1303, f1306, f1307, f1308, Ah1303⟩ := qh1303
      subst e2
      have f1309 := Xa1300.keep Kh1303
      have f1310 := Av.keep Kh1303 (ninS ne_a1297_a1300 nin0)
      have Zh1303 : n0 ≤ h1303.size := Nat.le_trans Zh1301 Kh1303.1
      show Go K _ _ _ _ _ _ _ _ _ 3 20 h1303 176 #[.val (.int p0), .val (.long p1), .second, .val (.long p2), .second, .val (.long p3), .second, .val (.long p4), .second, .val (.long p5), .second, .val (.int (1 : Int32)), .val (.int v1089), .val (.long v1090), .second, .val (.ref a1297), .unset, .unset, .unset] [(.ref a1300)]
      refine Own.astore (pc' := 178) (L1 := #[.val (.int p0), .val (.long p1), .second, .val (.long p2), .second, .val (.long p3), .second, .val (.long p4), .second, .val (.long p5), .second, .val (.int (1 : Int32)), .val (.int v1089), .val (.long v1090), .second, .val (.ref a1297), .val (.ref a1300), .unset, .unset]) at_176 rfl rfl rfl ?_
      refine Own.aload (pc' := 180) at_178 rfl rfl rfl ?_
      refine Own.iload (pc' := 182) at_180 rfl rfl ?_
      refine Own.lloadN (pc' := 183) at_182 rfl rfl ?_
      refine Own.virtual (pc' := 186) (y := (⟨"com/example/coldtail/coldtail/segment/MaxTree", "firstAtLeast", "(IJ)I"⟩ : MethodName)) (rm' := ({ frames := 0, cells := 0, slots := 0, locals := 0 } : Room)) (W := 0) (as := [(.int v1089), (.long p1)]) (rest := []) (a := a1300) at_183 rfl (hw _ (List.mem_of_getElem? (i := 20) rfl)) (hw _ (List.mem_of_getElem? (i := 21) rfl)) (hw _ (List.mem_of_getElem? (i := 23) rfl)) (hw _ (List.mem_of_getElem? (i := 22) rfl)) (hw _ (List.mem_of_getElem? (i := 3) rfl)) (hw _ (List.mem_of_getElem? (i := 24) rfl)) (by decide) eh1303 (c_own_fa1 Z a0 hw n0 h1303 Zh1303 a1300 v1089 p1 p2 p3 p4 p5 v1090 a1305 f1306 f1307 f1308 Ah1303 hp) rfl rfl (lenOf pd_2 rfl) (by decide) rfl (by decide) (by decide) (by decide) fun r1312 h1311 qh1311 => ?_
      obtain ⟨e1, v1313, e2, hv1313⟩ := qh1311
      subst e1 e2
      show Go K _ _ _ _ _ _ _ _ _ 3 20 h1303 186 #[.val (.int p0), .val (.long p1), .second, .val (.long p2), .second, .val (.long p3), .second, .val (.long p4), .second, .val (.long p5), .second, .val (.int (1 : Int32)), .val (.int v1089), .val (.long v1090), .second, .val (.ref a1297), .val (.ref a1300), .unset, .unset] [(.int v1313)]
      refine Own.istore (pc' := 188) (L1 := #[.val (.int p0), .val (.long p1), .second, .val (.long p2), .second, .val (.long p3), .second, .val (.long p4), .second, .val (.long p5), .second, .val (.int (1 : Int32)), .val (.int v1089), .val (.long v1090), .second, .val (.ref a1297), .val (.ref a1300), .val (.int v1313), .unset]) at_186 rfl rfl ?_
      refine Own.iload (pc' := 190) at_188 rfl rfl ?_
      refine Own.istore (pc' := 192) (L1 := #[.val (.int p0), .val (.long p1), .second, .val (.long p2), .second, .val (.long p3), .second, .val (.long p4), .second, .val (.long p5), .second, .val (.int (1 : Int32)), .val (.int v1089), .val (.long v1090), .second, .val (.ref a1297), .val (.ref a1300), .val (.int v1313), .val (.int (1 : Int32))]) at_190 rfl rfl ?_
      refine Own.iconst (pc' := 193) (v := (4 : Int32)) at_192 (by decide) rfl ?_
      refine Own.iload (pc' := 195) at_193 rfl rfl ?_
      refine Own.iload (pc' := 197) at_195 rfl rfl ?_
      refine Own.lload (pc' := 199) at_197 rfl rfl ?_
      refine Own.lloadN (pc' := 200) at_199 rfl rfl ?_
      refine Own.static (pc' := 203) (y := (⟨"com/example/coldtail/coldtail/segment/MaxTreeFirstAtLeastPinLaw", "hit", "(IIIJJ)Z"⟩ : MethodName)) (rm' := ({ frames := 0, cells := 0, slots := 0, locals := 0 } : Room)) (W := 0) (as := [(.int (4 : Int32)), (.int v1089), (.int (1 : Int32)), (.long v1090), (.long p1)]) (rest := []) at_200 rfl (hw _ (List.mem_of_getElem? (i := 25) rfl)) (hw _ (List.mem_of_getElem? (i := 26) rfl)) (hw _ (List.mem_of_getElem? (i := 27) rfl)) (hw _ (List.mem_of_getElem? (i := 28) rfl)) (by decide) (c_own_hit Z a0 hw n0 h1303 Zh1303 (4 : Int32) v1089 (1 : Int32) v1090 p1   ) rfl rfl (lenOf pd_3 rfl) (by decide) rfl (by decide) (by decide) (by decide) fun r1315 h1314 qh1314 => ?_
      obtain ⟨e1, v1316, e2, hv1316⟩ := qh1314
      subst e1 e2
      show Go K _ _ _ _ _ _ _ _ _ 3 20 h1303 203 #[.val (.int p0), .val (.long p1), .second, .val (.long p2), .second, .val (.long p3), .second, .val (.long p4), .second, .val (.long p5), .second, .val (.int (1 : Int32)), .val (.int v1089), .val (.long v1090), .second, .val (.ref a1297), .val (.ref a1300), .val (.int v1313), .val (.int (1 : Int32))] [(.int v1316)]
      obtain ⟨w1318, hw1318⟩ : ∃ w : Int32, w = (if v1316 = 0 then (1 : Int32) else (4 : Int32)) := ⟨_, rfl⟩
      refine Own.join (pc2 := 209) (L2 := #[.val (.int p0), .val (.long p1), .second, .val (.long p2), .second, .val (.long p3), .second, .val (.long p4), .second, .val (.long p5), .second, .val (.int (1 : Int32)), .val (.int v1089), .val (.long v1090), .second, .val (.ref a1297), .val (.ref a1300), .val (.int v1313), .val (.int w1318)]) (S2 := []) (fun J1319 => ?_) ?_
      · refine Own.if_eq (pc' := 209) (pc2 := 206) at_203 (by decide) (by decide) rfl (fun c203_1316 => ?_) (fun c203_1316 => ?_)
        · try rw [if_pos c203_1316] at hw1318
          subst hw1318
          exact J1319
        · refine Own.iconst (pc' := 207) (v := (4 : Int32)) at_206 (by decide) rfl ?_
          refine Own.istore (pc' := 209) (L1 := #[.val (.int p0), .val (.long p1), .second, .val (.long p2), .second, .val (.long p3), .second, .val (.long p4), .second, .val (.long p5), .second, .val (.int (1 : Int32)), .val (.int v1089), .val (.long v1090), .second, .val (.ref a1297), .val (.ref a1300), .val (.int v1313), .val (.int (4 : Int32))]) at_207 rfl rfl ?_
          try rw [if_neg c203_1316] at hw1318
          subst hw1318
          exact J1319
      refine Own.iconst (pc' := 210) (v := (3 : Int32)) at_209 (by decide) rfl ?_
      refine Own.iload (pc' := 212) at_210 rfl rfl ?_
      refine Own.iload (pc' := 214) at_212 rfl rfl ?_
      refine Own.lload (pc' := 216) at_214 rfl rfl ?_
      refine Own.lloadN (pc' := 217) at_216 rfl rfl ?_
      refine Own.static (pc' := 220) (y := (⟨"com/example/coldtail/coldtail/segment/MaxTreeFirstAtLeastPinLaw", "hit", "(IIIJJ)Z"⟩ : MethodName)) (rm' := ({ frames := 0, cells := 0, slots := 0, locals := 0 } : Room)) (W := 0) (as := [(.int (3 : Int32)), (.int v1089), (.int (1 : Int32)), (.long p5), (.long p1)]) (rest := []) at_217 rfl (hw _ (List.mem_of_getElem? (i := 25) rfl)) (hw _ (List.mem_of_getElem? (i := 26) rfl)) (hw _ (List.mem_of_getElem? (i := 27) rfl)) (hw _ (List.mem_of_getElem? (i := 28) rfl)) (by decide) (c_own_hit Z a0 hw n0 h1303 Zh1303 (3 : Int32) v1089 (1 : Int32) p5 p1   ) rfl rfl (lenOf pd_3 rfl) (by decide) rfl (by decide) (by decide) (by decide) fun r1321 h1320 qh1320 => ?_
      obtain ⟨e1, v1322, e2, hv1322⟩ := qh1320
      subst e1 e2
      show Go K _ _ _ _ _ _ _ _ _ 3 20 h1303 220 #[.val (.int p0), .val (.long p1), .second, .val (.long p2), .second, .val (.long p3), .second, .val (.long p4), .second, .val (.long p5), .second, .val (.int (1 : Int32)), .val (.int v1089), .val (.long v1090), .second, .val (.ref a1297), .val (.ref a1300), .val (.int v1313), .val (.int w1318)] [(.int v1322)]
      obtain ⟨w1324, hw1324⟩ : ∃ w : Int32, w = (if v1322 = 0 then w1318 else (3 : Int32)) := ⟨_, rfl⟩
      refine Own.join (pc2 := 226) (L2 := #[.val (.int p0), .val (.long p1), .second, .val (.long p2), .second, .val (.long p3), .second, .val (.long p4), .second, .val (.long p5), .second, .val (.int (1 : Int32)), .val (.int v1089), .val (.long v1090), .second, .val (.ref a1297), .val (.ref a1300), .val (.int v1313), .val (.int w1324)]) (S2 := []) (fun J1325 => ?_) ?_
      · refine Own.if_eq (pc' := 226) (pc2 := 223) at_220 (by decide) (by decide) rfl (fun c220_1322 => ?_) (fun c220_1322 => ?_)
        · try rw [if_pos c220_1322] at hw1324
          subst hw1324
          exact J1325
        · refine Own.iconst (pc' := 224) (v := (3 : Int32)) at_223 (by decide) rfl ?_
          refine Own.istore (pc' := 226) (L1 := #[.val (.int p0), .val (.long p1), .second, .val (.long p2), .second, .val (.long p3), .second, .val (.long p4), .second, .val (.long p5), .second, .val (.int (1 : Int32)), .val (.int v1089), .val (.long v1090), .second, .val (.ref a1297), .val (.ref a1300), .val (.int v1313), .val (.int (3 : Int32))]) at_224 rfl rfl ?_
          try rw [if_neg c220_1322] at hw1324
          subst hw1324
          exact J1325
      refine Own.iconst (pc' := 227) (v := (2 : Int32)) at_226 (by decide) rfl ?_
      refine Own.iload (pc' := 229) at_227 rfl rfl ?_
      refine Own.iload (pc' := 231) at_229 rfl rfl ?_
      refine Own.lload (pc' := 233) at_231 rfl rfl ?_
      refine Own.lloadN (pc' := 234) at_233 rfl rfl ?_
      refine Own.static (pc' := 237) (y := (⟨"com/example/coldtail/coldtail/segment/MaxTreeFirstAtLeastPinLaw", "hit", "(IIIJJ)Z"⟩ : MethodName)) (rm' := ({ frames := 0, cells := 0, slots := 0, locals := 0 } : Room)) (W := 0) (as := [(.int (2 : Int32)), (.int v1089), (.int (1 : Int32)), (.long p4), (.long p1)]) (rest := []) at_234 rfl (hw _ (List.mem_of_getElem? (i := 25) rfl)) (hw _ (List.mem_of_getElem? (i := 26) rfl)) (hw _ (List.mem_of_getElem? (i := 27) rfl)) (hw _ (List.mem_of_getElem? (i := 28) rfl)) (by decide) (c_own_hit Z a0 hw n0 h1303 Zh1303 (2 : Int32) v1089 (1 : Int32) p4 p1   ) rfl rfl (lenOf pd_3 rfl) (by decide) rfl (by decide) (by decide) (by decide) fun r1327 h1326 qh1326 => ?_
      obtain ⟨e1, v1328, e2, hv1328⟩ := qh1326
      subst e1 e2
      show Go K _ _ _ _ _ _ _ _ _ 3 20 h1303 237 #[.val (.int p0), .val (.long p1), .second, .val (.long p2), .second, .val (.long p3), .second, .val (.long p4), .second, .val (.long p5), .second, .val (.int (1 : Int32)), .val (.int v1089), .val (.long v1090), .second, .val (.ref a1297), .val (.ref a1300), .val (.int v1313), .val (.int w1324)] [(.int v1328)]
      obtain ⟨w1330, hw1330⟩ : ∃ w : Int32, w = (if v1328 = 0 then w1324 else (2 : Int32)) := ⟨_, rfl⟩
      refine Own.join (pc2 := 243) (L2 := #[.val (.int p0), .val (.long p1), .second, .val (.long p2), .second, .val (.long p3), .second, .val (.long p4), .second, .val (.long p5), .second, .val (.int (1 : Int32)), .val (.int v1089), .val (.long v1090), .second, .val (.ref a1297), .val (.ref a1300), .val (.int v1313), .val (.int w1330)]) (S2 := []) (fun J1331 => ?_) ?_
      · refine Own.if_eq (pc' := 243) (pc2 := 240) at_237 (by decide) (by decide) rfl (fun c237_1328 => ?_) (fun c237_1328 => ?_)
        · try rw [if_pos c237_1328] at hw1330
          subst hw1330
          exact J1331
        · refine Own.iconst (pc' := 241) (v := (2 : Int32)) at_240 (by decide) rfl ?_
          refine Own.istore (pc' := 243) (L1 := #[.val (.int p0), .val (.long p1), .second, .val (.long p2), .second, .val (.long p3), .second, .val (.long p4), .second, .val (.long p5), .second, .val (.int (1 : Int32)), .val (.int v1089), .val (.long v1090), .second, .val (.ref a1297), .val (.ref a1300), .val (.int v1313), .val (.int (2 : Int32))]) at_241 rfl rfl ?_
          try rw [if_neg c237_1328] at hw1330
          subst hw1330
          exact J1331
      refine Own.iconst (pc' := 244) (v := (1 : Int32)) at_243 (by decide) rfl ?_
      refine Own.iload (pc' := 246) at_244 rfl rfl ?_
      refine Own.iload (pc' := 248) at_246 rfl rfl ?_
      refine Own.lload (pc' := 250) at_248 rfl rfl ?_
      refine Own.lloadN (pc' := 251) at_250 rfl rfl ?_
      refine Own.static (pc' := 254) (y := (⟨"com/example/coldtail/coldtail/segment/MaxTreeFirstAtLeastPinLaw", "hit", "(IIIJJ)Z"⟩ : MethodName)) (rm' := ({ frames := 0, cells := 0, slots := 0, locals := 0 } : Room)) (W := 0) (as := [(.int (1 : Int32)), (.int v1089), (.int (1 : Int32)), (.long p3), (.long p1)]) (rest := []) at_251 rfl (hw _ (List.mem_of_getElem? (i := 25) rfl)) (hw _ (List.mem_of_getElem? (i := 26) rfl)) (hw _ (List.mem_of_getElem? (i := 27) rfl)) (hw _ (List.mem_of_getElem? (i := 28) rfl)) (by decide) (c_own_hit Z a0 hw n0 h1303 Zh1303 (1 : Int32) v1089 (1 : Int32) p3 p1   ) rfl rfl (lenOf pd_3 rfl) (by decide) rfl (by decide) (by decide) (by decide) fun r1333 h1332 qh1332 => ?_
      obtain ⟨e1, v1334, e2, hv1334⟩ := qh1332
      subst e1 e2
      show Go K _ _ _ _ _ _ _ _ _ 3 20 h1303 254 #[.val (.int p0), .val (.long p1), .second, .val (.long p2), .second, .val (.long p3), .second, .val (.long p4), .second, .val (.long p5), .second, .val (.int (1 : Int32)), .val (.int v1089), .val (.long v1090), .second, .val (.ref a1297), .val (.ref a1300), .val (.int v1313), .val (.int w1330)] [(.int v1334)]
      obtain ⟨w1336, hw1336⟩ : ∃ w : Int32, w = (if v1334 = 0 then w1330 else (1 : Int32)) := ⟨_, rfl⟩
      refine Own.join (pc2 := 260) (L2 := #[.val (.int p0), .val (.long p1), .second, .val (.long p2), .second, .val (.long p3), .second, .val (.long p4), .second, .val (.long p5), .second, .val (.int (1 : Int32)), .val (.int v1089), .val (.long v1090), .second, .val (.ref a1297), .val (.ref a1300), .val (.int v1313), .val (.int w1336)]) (S2 := []) (fun J1337 => ?_) ?_
      · refine Own.if_eq (pc' := 260) (pc2 := 257) at_254 (by decide) (by decide) rfl (fun c254_1334 => ?_) (fun c254_1334 => ?_)
        · try rw [if_pos c254_1334] at hw1336
          subst hw1336
          exact J1337
        · refine Own.iconst (pc' := 258) (v := (1 : Int32)) at_257 (by decide) rfl ?_
          refine Own.istore (pc' := 260) (L1 := #[.val (.int p0), .val (.long p1), .second, .val (.long p2), .second, .val (.long p3), .second, .val (.long p4), .second, .val (.long p5), .second, .val (.int (1 : Int32)), .val (.int v1089), .val (.long v1090), .second, .val (.ref a1297), .val (.ref a1300), .val (.int v1313), .val (.int (1 : Int32))]) at_258 rfl rfl ?_
          try rw [if_neg c254_1334] at hw1336
          subst hw1336
          exact J1337
      refine Own.iconst (pc' := 261) (v := (0 : Int32)) at_260 (by decide) rfl ?_
      refine Own.iload (pc' := 263) at_261 rfl rfl ?_
      refine Own.iload (pc' := 265) at_263 rfl rfl ?_
      refine Own.lloadN (pc' := 266) at_265 rfl rfl ?_
      refine Own.lloadN (pc' := 267) at_266 rfl rfl ?_
      refine Own.static (pc' := 270) (y := (⟨"com/example/coldtail/coldtail/segment/MaxTreeFirstAtLeastPinLaw", "hit", "(IIIJJ)Z"⟩ : MethodName)) (rm' := ({ frames := 0, cells := 0, slots := 0, locals := 0 } : Room)) (W := 0) (as := [(.int (0 : Int32)), (.int v1089), (.int (1 : Int32)), (.long p2), (.long p1)]) (rest := []) at_267 rfl (hw _ (List.mem_of_getElem? (i := 25) rfl)) (hw _ (List.mem_of_getElem? (i := 26) rfl)) (hw _ (List.mem_of_getElem? (i := 27) rfl)) (hw _ (List.mem_of_getElem? (i := 28) rfl)) (by decide) (c_own_hit Z a0 hw n0 h1303 Zh1303 (0 : Int32) v1089 (1 : Int32) p2 p1   ) rfl rfl (lenOf pd_3 rfl) (by decide) rfl (by decide) (by decide) (by decide) fun r1339 h1338 qh1338 => ?_
      obtain ⟨e1, v1340, e2, hv1340⟩ := qh1338
      subst e1 e2
      show Go K _ _ _ _ _ _ _ _ _ 3 20 h1303 270 #[.val (.int p0), .val (.long p1), .second, .val (.long p2), .second, .val (.long p3), .second, .val (.long p4), .second, .val (.long p5), .second, .val (.int (1 : Int32)), .val (.int v1089), .val (.long v1090), .second, .val (.ref a1297), .val (.ref a1300), .val (.int v1313), .val (.int w1336)] [(.int v1340)]
      obtain ⟨w1342, hw1342⟩ : ∃ w : Int32, w = (if v1340 = 0 then w1336 else (0 : Int32)) := ⟨_, rfl⟩
      refine Own.join (pc2 := 276) (L2 := #[.val (.int p0), .val (.long p1), .second, .val (.long p2), .second, .val (.long p3), .second, .val (.long p4), .second, .val (.long p5), .second, .val (.int (1 : Int32)), .val (.int v1089), .val (.long v1090), .second, .val (.ref a1297), .val (.ref a1300), .val (.int v1313), .val (.int w1342)]) (S2 := []) (fun J1343 => ?_) ?_
      · refine Own.if_eq (pc' := 276) (pc2 := 273) at_270 (by decide) (by decide) rfl (fun c270_1340 => ?_) (fun c270_1340 => ?_)
        · try rw [if_pos c270_1340] at hw1342
          subst hw1342
          exact J1343
        · refine Own.iconst (pc' := 274) (v := (0 : Int32)) at_273 (by decide) rfl ?_
          refine Own.istore (pc' := 276) (L1 := #[.val (.int p0), .val (.long p1), .second, .val (.long p2), .second, .val (.long p3), .second, .val (.long p4), .second, .val (.long p5), .second, .val (.int (1 : Int32)), .val (.int v1089), .val (.long v1090), .second, .val (.ref a1297), .val (.ref a1300), .val (.int v1313), .val (.int (0 : Int32))]) at_274 rfl rfl ?_
          try rw [if_neg c270_1340] at hw1342
          subst hw1342
          exact J1343
      refine Own.iload (pc' := 278) at_276 rfl rfl ?_
      refine Own.iload (pc' := 280) at_278 rfl rfl ?_
      refine Own.icmp_ne (pc' := 287) (pc2 := 283) at_280 (by decide) (by decide) rfl (fun c280_1343 => False.elim (by apply c280_1343; rw [hv1313, hw1342, hw1336, hw1330, hw1324, hw1318, hv1340, hv1334, hv1328, hv1322, hv1316, own_hitI, own_hitI, own_hitI, own_hitI, own_hitI, own_if, own_if, own_if, own_if, own_if]; rfl)) (fun c280_1343 => ?_)
      refine Own.iconst (pc' := 284) (v := (1 : Int32)) at_283 (by decide) rfl ?_
      refine Own.goto (pc' := 288) at_284 (by decide) (by decide) ?_
      exact Own.ireturnZ (z' := (1 : Int32)) at_288 rfl (by decide) (rfl) (by decide) (by decide)
  · obtain rfl : v1087 = (0 : Int32) := Classical.byContradiction c25_1090
    refine Own.iconst (pc' := 29) (v := (0 : Int32)) at_28 (by decide) rfl ?_
    refine Own.newJ (pc' := 31) (n := 0) (cap := 0) at_29 rfl (hw _ (List.mem_of_getElem? (i := 0) rfl)) (by decide) (by decide) (by decide) (by decide) (by decide) fun a1345 h1346 ga1345 Eh1346 Aa1345 => ?_
    have Ga1345 : n0 ≤ a1345 := by rw [ga1345]; exact hZ0
    have Zh1346 : n0 ≤ h1346.size := Nat.le_trans hZ0 Eh1346.1
    show Go K _ _ _ _ _ _ _ _ _ 1 0 h1346 31 #[.val (.int p0), .val (.long p1), .second, .val (.long p2), .second, .val (.long p3), .second, .val (.long p4), .second, .val (.long p5), .second, .val (.int (0 : Int32)), .val (.int v1089), .val (.long v1090), .second, .unset, .unset, .unset, .unset] [(.ref a1345)]
    refine Own.astore (pc' := 33) (L1 := #[.val (.int p0), .val (.long p1), .second, .val (.long p2), .second, .val (.long p3), .second, .val (.long p4), .second, .val (.long p5), .second, .val (.int (0 : Int32)), .val (.int v1089), .val (.long v1090), .second, .val (.ref a1345), .unset, .unset, .unset]) at_31 rfl rfl rfl ?_
    refine Own.goto (pc' := 167) at_33 (by decide) (by decide) ?_
    refine Own.newobj (pc' := 170) at_167 rfl (hw _ (List.mem_of_getElem? (i := 1) rfl)) (hw _ (List.mem_of_getElem? (i := 2) rfl)) (hw _ (List.mem_of_getElem? (i := 3) rfl)) (by decide) (by decide) fun a1347 h1348 ga1347 Eh1348 Xa1347 Da1347 => ?_
    have ne_a1345_a1347 : a1345 ≠ a1347 := Nat.ne_of_lt (ga1347 ▸ (Aa1345).lt)
    have Ga1347 : n0 ≤ a1347 := by rw [ga1347]; exact Zh1346
    have Zh1348 : n0 ≤ h1348.size := Nat.le_trans Zh1346 Eh1348.1
    have f1349 := Aa1345.ext Eh1348
    have F_leaves_a1347 : Fld Z h1348 a1347 "com/example/coldtail/coldtail/segment/MaxTree" "leaves" "I" (.int (0 : Int32)) := Da1347 (Or.inr (hw _ (List.mem_of_getElem? (i := 11) rfl))) (ty := .int) (by decide)
    have F_count_a1347 : Fld Z h1348 a1347 "com/example/coldtail/coldtail/segment/MaxTree" "count" "I" (.int (0 : Int32)) := Da1347 (Or.inr (hw _ (List.mem_of_getElem? (i := 13) rfl))) (ty := .int) (by decide)
    have F_nodes_a1347 : Fld Z h1348 a1347 "com/example/coldtail/coldtail/segment/MaxTree" "nodes" "[J" .null := Da1347 (Or.inr (hw _ (List.mem_of_getElem? (i := 15) rfl))) (ty := (.array .long)) (by decide)
    show Go K _ _ _ _ _ _ _ _ _ 2 3 h1348 170 #[.val (.int p0), .val (.long p1), .second, .val (.long p2), .second, .val (.long p3), .second, .val (.long p4), .second, .val (.long p5), .second, .val (.int (0 : Int32)), .val (.int v1089), .val (.long v1090), .second, .val (.ref a1345), .unset, .unset, .unset] [(.ref a1347)]
    refine Own.dup (pc' := 171) at_170 rfl rfl ?_
    refine Own.aload (pc' := 173) at_171 rfl rfl rfl ?_
    have Av := (f1349).cong (g := own_vals p2 p3 p4 p5 v1090) (fun k hk => absurd hk (Nat.not_lt_zero k))
    refine Own.special (pc' := 176) (y := (⟨"com/example/coldtail/coldtail/segment/MaxTree", "<init>", "([J)V"⟩ : MethodName)) (rm' := ({ frames := 1, cells := 1, slots := 16, locals := 40 } : Room)) (W := 1) (as := [(.ref a1345)]) (rest := [(.ref a1347)]) (a := a1347) at_173 rfl rfl (hw _ (List.mem_of_getElem? (i := 4) rfl)) (hw _ (List.mem_of_getElem? (i := 5) rfl)) (hw _ (List.mem_of_getElem? (i := 3) rfl)) (hw _ (List.mem_of_getElem? (i := 6) rfl)) (by decide) (c_own_mt0 Z a0 hw n0 h1348 Zh1348 a1347 a1345 p2 p3 p4 p5 v1090 Xa1347 F_leaves_a1347 F_count_a1347 F_nodes_a1347 Ga1347 ne_a1345_a1347 Av) rfl rfl (lenOf pd_1 rfl) (by decide) rfl (by decide) (by decide) (by decide) fun r1351 h1350 qh1350 => ?_
    obtain ⟨e2, a1352, Kh1350, hrh1350, eh1350, f1353, f1354, f1355, Ah1350⟩ := qh1350
    subst e2
    have f1356 := Xa1347.keep Kh1350
    have f1357 := Av.keep Kh1350 (ninS ne_a1345_a1347 nin0)
    have Zh1350 : n0 ≤ h1350.size := Nat.le_trans Zh1348 Kh1350.1
    show Go K _ _ _ _ _ _ _ _ _ 3 19 h1350 176 #[.val (.int p0), .val (.long p1), .second, .val (.long p2), .second, .val (.long p3), .second, .val (.long p4), .second, .val (.long p5), .second, .val (.int (0 : Int32)), .val (.int v1089), .val (.long v1090), .second, .val (.ref a1345), .unset, .unset, .unset] [(.ref a1347)]
    refine Own.astore (pc' := 178) (L1 := #[.val (.int p0), .val (.long p1), .second, .val (.long p2), .second, .val (.long p3), .second, .val (.long p4), .second, .val (.long p5), .second, .val (.int (0 : Int32)), .val (.int v1089), .val (.long v1090), .second, .val (.ref a1345), .val (.ref a1347), .unset, .unset]) at_176 rfl rfl rfl ?_
    refine Own.aload (pc' := 180) at_178 rfl rfl rfl ?_
    refine Own.iload (pc' := 182) at_180 rfl rfl ?_
    refine Own.lloadN (pc' := 183) at_182 rfl rfl ?_
    refine Own.virtual (pc' := 186) (y := (⟨"com/example/coldtail/coldtail/segment/MaxTree", "firstAtLeast", "(IJ)I"⟩ : MethodName)) (rm' := ({ frames := 0, cells := 0, slots := 0, locals := 0 } : Room)) (W := 0) (as := [(.int v1089), (.long p1)]) (rest := []) (a := a1347) at_183 rfl (hw _ (List.mem_of_getElem? (i := 20) rfl)) (hw _ (List.mem_of_getElem? (i := 21) rfl)) (hw _ (List.mem_of_getElem? (i := 23) rfl)) (hw _ (List.mem_of_getElem? (i := 22) rfl)) (hw _ (List.mem_of_getElem? (i := 3) rfl)) (hw _ (List.mem_of_getElem? (i := 24) rfl)) (by decide) eh1350 (c_own_fa0 Z a0 hw n0 h1350 Zh1350 a1347 v1089 p1 p2 p3 p4 p5 v1090 a1352 f1353 f1354 f1355 Ah1350 hp) rfl rfl (lenOf pd_2 rfl) (by decide) rfl (by decide) (by decide) (by decide) fun r1359 h1358 qh1358 => ?_
    obtain ⟨e1, v1360, e2, hv1360⟩ := qh1358
    subst e1 e2
    show Go K _ _ _ _ _ _ _ _ _ 3 19 h1350 186 #[.val (.int p0), .val (.long p1), .second, .val (.long p2), .second, .val (.long p3), .second, .val (.long p4), .second, .val (.long p5), .second, .val (.int (0 : Int32)), .val (.int v1089), .val (.long v1090), .second, .val (.ref a1345), .val (.ref a1347), .unset, .unset] [(.int v1360)]
    refine Own.istore (pc' := 188) (L1 := #[.val (.int p0), .val (.long p1), .second, .val (.long p2), .second, .val (.long p3), .second, .val (.long p4), .second, .val (.long p5), .second, .val (.int (0 : Int32)), .val (.int v1089), .val (.long v1090), .second, .val (.ref a1345), .val (.ref a1347), .val (.int v1360), .unset]) at_186 rfl rfl ?_
    refine Own.iload (pc' := 190) at_188 rfl rfl ?_
    refine Own.istore (pc' := 192) (L1 := #[.val (.int p0), .val (.long p1), .second, .val (.long p2), .second, .val (.long p3), .second, .val (.long p4), .second, .val (.long p5), .second, .val (.int (0 : Int32)), .val (.int v1089), .val (.long v1090), .second, .val (.ref a1345), .val (.ref a1347), .val (.int v1360), .val (.int (0 : Int32))]) at_190 rfl rfl ?_
    refine Own.iconst (pc' := 193) (v := (4 : Int32)) at_192 (by decide) rfl ?_
    refine Own.iload (pc' := 195) at_193 rfl rfl ?_
    refine Own.iload (pc' := 197) at_195 rfl rfl ?_
    refine Own.lload (pc' := 199) at_197 rfl rfl ?_
    refine Own.lloadN (pc' := 200) at_199 rfl rfl ?_
    refine Own.static (pc' := 203) (y := (⟨"com/example/coldtail/coldtail/segment/MaxTreeFirstAtLeastPinLaw", "hit", "(IIIJJ)Z"⟩ : MethodName)) (rm' := ({ frames := 0, cells := 0, slots := 0, locals := 0 } : Room)) (W := 0) (as := [(.int (4 : Int32)), (.int v1089), (.int (0 : Int32)), (.long v1090), (.long p1)]) (rest := []) at_200 rfl (hw _ (List.mem_of_getElem? (i := 25) rfl)) (hw _ (List.mem_of_getElem? (i := 26) rfl)) (hw _ (List.mem_of_getElem? (i := 27) rfl)) (hw _ (List.mem_of_getElem? (i := 28) rfl)) (by decide) (c_own_hit Z a0 hw n0 h1350 Zh1350 (4 : Int32) v1089 (0 : Int32) v1090 p1   ) rfl rfl (lenOf pd_3 rfl) (by decide) rfl (by decide) (by decide) (by decide) fun r1362 h1361 qh1361 => ?_
    obtain ⟨e1, v1363, e2, hv1363⟩ := qh1361
    subst e1 e2
    show Go K _ _ _ _ _ _ _ _ _ 3 19 h1350 203 #[.val (.int p0), .val (.long p1), .second, .val (.long p2), .second, .val (.long p3), .second, .val (.long p4), .second, .val (.long p5), .second, .val (.int (0 : Int32)), .val (.int v1089), .val (.long v1090), .second, .val (.ref a1345), .val (.ref a1347), .val (.int v1360), .val (.int (0 : Int32))] [(.int v1363)]
    obtain ⟨w1365, hw1365⟩ : ∃ w : Int32, w = (if v1363 = 0 then (0 : Int32) else (4 : Int32)) := ⟨_, rfl⟩
    refine Own.join (pc2 := 209) (L2 := #[.val (.int p0), .val (.long p1), .second, .val (.long p2), .second, .val (.long p3), .second, .val (.long p4), .second, .val (.long p5), .second, .val (.int (0 : Int32)), .val (.int v1089), .val (.long v1090), .second, .val (.ref a1345), .val (.ref a1347), .val (.int v1360), .val (.int w1365)]) (S2 := []) (fun J1366 => ?_) ?_
    · refine Own.if_eq (pc' := 209) (pc2 := 206) at_203 (by decide) (by decide) rfl (fun c203_1363 => ?_) (fun c203_1363 => ?_)
      · try rw [if_pos c203_1363] at hw1365
        subst hw1365
        exact J1366
      · refine Own.iconst (pc' := 207) (v := (4 : Int32)) at_206 (by decide) rfl ?_
        refine Own.istore (pc' := 209) (L1 := #[.val (.int p0), .val (.long p1), .second, .val (.long p2), .second, .val (.long p3), .second, .val (.long p4), .second, .val (.long p5), .second, .val (.int (0 : Int32)), .val (.int v1089), .val (.long v1090), .second, .val (.ref a1345), .val (.ref a1347), .val (.int v1360), .val (.int (4 : Int32))]) at_207 rfl rfl ?_
        try rw [if_neg c203_1363] at hw1365
        subst hw1365
        exact J1366
    refine Own.iconst (pc' := 210) (v := (3 : Int32)) at_209 (by decide) rfl ?_
    refine Own.iload (pc' := 212) at_210 rfl rfl ?_
    refine Own.iload (pc' := 214) at_212 rfl rfl ?_
    refine Own.lload (pc' := 216) at_214 rfl rfl ?_
    refine Own.lloadN (pc' := 217) at_216 rfl rfl ?_
    refine Own.static (pc' := 220) (y := (⟨"com/example/coldtail/coldtail/segment/MaxTreeFirstAtLeastPinLaw", "hit", "(IIIJJ)Z"⟩ : MethodName)) (rm' := ({ frames := 0, cells := 0, slots := 0, locals := 0 } : Room)) (W := 0) (as := [(.int (3 : Int32)), (.int v1089), (.int (0 : Int32)), (.long p5), (.long p1)]) (rest := []) at_217 rfl (hw _ (List.mem_of_getElem? (i := 25) rfl)) (hw _ (List.mem_of_getElem? (i := 26) rfl)) (hw _ (List.mem_of_getElem? (i := 27) rfl)) (hw _ (List.mem_of_getElem? (i := 28) rfl)) (by decide) (c_own_hit Z a0 hw n0 h1350 Zh1350 (3 : Int32) v1089 (0 : Int32) p5 p1   ) rfl rfl (lenOf pd_3 rfl) (by decide) rfl (by decide) (by decide) (by decide) fun r1368 h1367 qh1367 => ?_
    obtain ⟨e1, v1369, e2, hv1369⟩ := qh1367
    subst e1 e2
    show Go K _ _ _ _ _ _ _ _ _ 3 19 h1350 220 #[.val (.int p0), .val (.long p1), .second, .val (.long p2), .second, .val (.long p3), .second, .val (.long p4), .second, .val (.long p5), .second, .val (.int (0 : Int32)), .val (.int v1089), .val (.long v1090), .second, .val (.ref a1345), .val (.ref a1347), .val (.int v1360), .val (.int w1365)] [(.int v1369)]
    obtain ⟨w1371, hw1371⟩ : ∃ w : Int32, w = (if v1369 = 0 then w1365 else (3 : Int32)) := ⟨_, rfl⟩
    refine Own.join (pc2 := 226) (L2 := #[.val (.int p0), .val (.long p1), .second, .val (.long p2), .second, .val (.long p3), .second, .val (.long p4), .second, .val (.long p5), .second, .val (.int (0 : Int32)), .val (.int v1089), .val (.long v1090), .second, .val (.ref a1345), .val (.ref a1347), .val (.int v1360), .val (.int w1371)]) (S2 := []) (fun J1372 => ?_) ?_
    · refine Own.if_eq (pc' := 226) (pc2 := 223) at_220 (by decide) (by decide) rfl (fun c220_1369 => ?_) (fun c220_1369 => ?_)
      · try rw [if_pos c220_1369] at hw1371
        subst hw1371
        exact J1372
      · refine Own.iconst (pc' := 224) (v := (3 : Int32)) at_223 (by decide) rfl ?_
        refine Own.istore (pc' := 226) (L1 := #[.val (.int p0), .val (.long p1), .second, .val (.long p2), .second, .val (.long p3), .second, .val (.long p4), .second, .val (.long p5), .second, .val (.int (0 : Int32)), .val (.int v1089), .val (.long v1090), .second, .val (.ref a1345), .val (.ref a1347), .val (.int v1360), .val (.int (3 : Int32))]) at_224 rfl rfl ?_
        try rw [if_neg c220_1369] at hw1371
        subst hw1371
        exact J1372
    refine Own.iconst (pc' := 227) (v := (2 : Int32)) at_226 (by decide) rfl ?_
    refine Own.iload (pc' := 229) at_227 rfl rfl ?_
    refine Own.iload (pc' := 231) at_229 rfl rfl ?_
    refine Own.lload (pc' := 233) at_231 rfl rfl ?_
    refine Own.lloadN (pc' := 234) at_233 rfl rfl ?_
    refine Own.static (pc' := 237) (y := (⟨"com/example/coldtail/coldtail/segment/MaxTreeFirstAtLeastPinLaw", "hit", "(IIIJJ)Z"⟩ : MethodName)) (rm' := ({ frames := 0, cells := 0, slots := 0, locals := 0 } : Room)) (W := 0) (as := [(.int (2 : Int32)), (.int v1089), (.int (0 : Int32)), (.long p4), (.long p1)]) (rest := []) at_234 rfl (hw _ (List.mem_of_getElem? (i := 25) rfl)) (hw _ (List.mem_of_getElem? (i := 26) rfl)) (hw _ (List.mem_of_getElem? (i := 27) rfl)) (hw _ (List.mem_of_getElem? (i := 28) rfl)) (by decide) (c_own_hit Z a0 hw n0 h1350 Zh1350 (2 : Int32) v1089 (0 : Int32) p4 p1   ) rfl rfl (lenOf pd_3 rfl) (by decide) rfl (by decide) (by decide) (by decide) fun r1374 h1373 qh1373 => ?_
    obtain ⟨e1, v1375, e2, hv1375⟩ := qh1373
    subst e1 e2
    show Go K _ _ _ _ _ _ _ _ _ 3 19 h1350 237 #[.val (.int p0), .val (.long p1), .second, .val (.long p2), .second, .val (.long p3), .second, .val (.long p4), .second, .val (.long p5), .second, .val (.int (0 : Int32)), .val (.int v1089), .val (.long v1090), .second, .val (.ref a1345), .val (.ref a1347), .val (.int v1360), .val (.int w1371)] [(.int v1375)]
    obtain ⟨w1377, hw1377⟩ : ∃ w : Int32, w = (if v1375 = 0 then w1371 else (2 : Int32)) := ⟨_, rfl⟩
    refine Own.join (pc2 := 243) (L2 := #[.val (.int p0), .val (.long p1), .second, .val (.long p2), .second, .val (.long p3), .second, .val (.long p4), .second, .val (.long p5), .second, .val (.int (0 : Int32)), .val (.int v1089), .val (.long v1090), .second, .val (.ref a1345), .val (.ref a1347), .val (.int v1360), .val (.int w1377)]) (S2 := []) (fun J1378 => ?_) ?_
    · refine Own.if_eq (pc' := 243) (pc2 := 240) at_237 (by decide) (by decide) rfl (fun c237_1375 => ?_) (fun c237_1375 => ?_)
      · try rw [if_pos c237_1375] at hw1377
        subst hw1377
        exact J1378
      · refine Own.iconst (pc' := 241) (v := (2 : Int32)) at_240 (by decide) rfl ?_
        refine Own.istore (pc' := 243) (L1 := #[.val (.int p0), .val (.long p1), .second, .val (.long p2), .second, .val (.long p3), .second, .val (.long p4), .second, .val (.long p5), .second, .val (.int (0 : Int32)), .val (.int v1089), .val (.long v1090), .second, .val (.ref a1345), .val (.ref a1347), .val (.int v1360), .val (.int (2 : Int32))]) at_241 rfl rfl ?_
        try rw [if_neg c237_1375] at hw1377
        subst hw1377
        exact J1378
    refine Own.iconst (pc' := 244) (v := (1 : Int32)) at_243 (by decide) rfl ?_
    refine Own.iload (pc' := 246) at_244 rfl rfl ?_
    refine Own.iload (pc' := 248) at_246 rfl rfl ?_
    refine Own.lload (pc' := 250) at_248 rfl rfl ?_
    refine Own.lloadN (pc' := 251) at_250 rfl rfl ?_
    refine Own.static (pc' := 254) (y := (⟨"com/example/coldtail/coldtail/segment/MaxTreeFirstAtLeastPinLaw", "hit", "(IIIJJ)Z"⟩ : MethodName)) (rm' := ({ frames := 0, cells := 0, slots := 0, locals := 0 } : Room)) (W := 0) (as := [(.int (1 : Int32)), (.int v1089), (.int (0 : Int32)), (.long p3), (.long p1)]) (rest := []) at_251 rfl (hw _ (List.mem_of_getElem? (i := 25) rfl)) (hw _ (List.mem_of_getElem? (i := 26) rfl)) (hw _ (List.mem_of_getElem? (i := 27) rfl)) (hw _ (List.mem_of_getElem? (i := 28) rfl)) (by decide) (c_own_hit Z a0 hw n0 h1350 Zh1350 (1 : Int32) v1089 (0 : Int32) p3 p1   ) rfl rfl (lenOf pd_3 rfl) (by decide) rfl (by decide) (by decide) (by decide) fun r1380 h1379 qh1379 => ?_
    obtain ⟨e1, v1381, e2, hv1381⟩ := qh1379
    subst e1 e2
    show Go K _ _ _ _ _ _ _ _ _ 3 19 h1350 254 #[.val (.int p0), .val (.long p1), .second, .val (.long p2), .second, .val (.long p3), .second, .val (.long p4), .second, .val (.long p5), .second, .val (.int (0 : Int32)), .val (.int v1089), .val (.long v1090), .second, .val (.ref a1345), .val (.ref a1347), .val (.int v1360), .val (.int w1377)] [(.int v1381)]
    obtain ⟨w1383, hw1383⟩ : ∃ w : Int32, w = (if v1381 = 0 then w1377 else (1 : Int32)) := ⟨_, rfl⟩
    refine Own.join (pc2 := 260) (L2 := #[.val (.int p0), .val (.long p1), .second, .val (.long p2), .second, .val (.long p3), .second, .val (.long p4), .second, .val (.long p5), .second, .val (.int (0 : Int32)), .val (.int v1089), .val (.long v1090), .second, .val (.ref a1345), .val (.ref a1347), .val (.int v1360), .val (.int w1383)]) (S2 := []) (fun J1384 => ?_) ?_
    · refine Own.if_eq (pc' := 260) (pc2 := 257) at_254 (by decide) (by decide) rfl (fun c254_1381 => ?_) (fun c254_1381 => ?_)
      · try rw [if_pos c254_1381] at hw1383
        subst hw1383
        exact J1384
      · refine Own.iconst (pc' := 258) (v := (1 : Int32)) at_257 (by decide) rfl ?_
        refine Own.istore (pc' := 260) (L1 := #[.val (.int p0), .val (.long p1), .second, .val (.long p2), .second, .val (.long p3), .second, .val (.long p4), .second, .val (.long p5), .second, .val (.int (0 : Int32)), .val (.int v1089), .val (.long v1090), .second, .val (.ref a1345), .val (.ref a1347), .val (.int v1360), .val (.int (1 : Int32))]) at_258 rfl rfl ?_
        try rw [if_neg c254_1381] at hw1383
        subst hw1383
        exact J1384
    refine Own.iconst (pc' := 261) (v := (0 : Int32)) at_260 (by decide) rfl ?_
    refine Own.iload (pc' := 263) at_261 rfl rfl ?_
    refine Own.iload (pc' := 265) at_263 rfl rfl ?_
    refine Own.lloadN (pc' := 266) at_265 rfl rfl ?_
    refine Own.lloadN (pc' := 267) at_266 rfl rfl ?_
    refine Own.static (pc' := 270) (y := (⟨"com/example/coldtail/coldtail/segment/MaxTreeFirstAtLeastPinLaw", "hit", "(IIIJJ)Z"⟩ : MethodName)) (rm' := ({ frames := 0, cells := 0, slots := 0, locals := 0 } : Room)) (W := 0) (as := [(.int (0 : Int32)), (.int v1089), (.int (0 : Int32)), (.long p2), (.long p1)]) (rest := []) at_267 rfl (hw _ (List.mem_of_getElem? (i := 25) rfl)) (hw _ (List.mem_of_getElem? (i := 26) rfl)) (hw _ (List.mem_of_getElem? (i := 27) rfl)) (hw _ (List.mem_of_getElem? (i := 28) rfl)) (by decide) (c_own_hit Z a0 hw n0 h1350 Zh1350 (0 : Int32) v1089 (0 : Int32) p2 p1   ) rfl rfl (lenOf pd_3 rfl) (by decide) rfl (by decide) (by decide) (by decide) fun r1386 h1385 qh1385 => ?_
    obtain ⟨e1, v1387, e2, hv1387⟩ := qh1385
    subst e1 e2
    show Go K _ _ _ _ _ _ _ _ _ 3 19 h1350 270 #[.val (.int p0), .val (.long p1), .second, .val (.long p2), .second, .val (.long p3), .second, .val (.long p4), .second, .val (.long p5), .second, .val (.int (0 : Int32)), .val (.int v1089), .val (.long v1090), .second, .val (.ref a1345), .val (.ref a1347), .val (.int v1360), .val (.int w1383)] [(.int v1387)]
    obtain ⟨w1389, hw1389⟩ : ∃ w : Int32, w = (if v1387 = 0 then w1383 else (0 : Int32)) := ⟨_, rfl⟩
    refine Own.join (pc2 := 276) (L2 := #[.val (.int p0), .val (.long p1), .second, .val (.long p2), .second, .val (.long p3), .second, .val (.long p4), .second, .val (.long p5), .second, .val (.int (0 : Int32)), .val (.int v1089), .val (.long v1090), .second, .val (.ref a1345), .val (.ref a1347), .val (.int v1360), .val (.int w1389)]) (S2 := []) (fun J1390 => ?_) ?_
    · refine Own.if_eq (pc' := 276) (pc2 := 273) at_270 (by decide) (by decide) rfl (fun c270_1387 => ?_) (fun c270_1387 => ?_)
      · try rw [if_pos c270_1387] at hw1389
        subst hw1389
        exact J1390
      · refine Own.iconst (pc' := 274) (v := (0 : Int32)) at_273 (by decide) rfl ?_
        refine Own.istore (pc' := 276) (L1 := #[.val (.int p0), .val (.long p1), .second, .val (.long p2), .second, .val (.long p3), .second, .val (.long p4), .second, .val (.long p5), .second, .val (.int (0 : Int32)), .val (.int v1089), .val (.long v1090), .second, .val (.ref a1345), .val (.ref a1347), .val (.int v1360), .val (.int (0 : Int32))]) at_274 rfl rfl ?_
        try rw [if_neg c270_1387] at hw1389
        subst hw1389
        exact J1390
    refine Own.iload (pc' := 278) at_276 rfl rfl ?_
    refine Own.iload (pc' := 280) at_278 rfl rfl ?_
    refine Own.icmp_ne (pc' := 287) (pc2 := 283) at_280 (by decide) (by decide) rfl (fun c280_1390 => False.elim (by apply c280_1390; rw [hv1360, hw1389, hw1383, hw1377, hw1371, hw1365, hv1387, hv1381, hv1375, hv1369, hv1363, own_hitI, own_hitI, own_hitI, own_hitI, own_hitI, own_if, own_if, own_if, own_if, own_if]; rfl)) (fun c280_1390 => ?_)
    refine Own.iconst (pc' := 284) (v := (1 : Int32)) at_283 (by decide) rfl ?_
    refine Own.goto (pc' := 288) at_284 (by decide) (by decide) ?_
    exact Own.ireturnZ (z' := (1 : Int32)) at_288 rfl (by decide) (rfl) (by decide) (by decide)
set_option maxRecDepth 65536 in
set_option maxHeartbeats 40000000 in
theorem comes_1 {Post : Tables → Env → Array Value → State → Outcome → State → Prop} (hpost : ∀ tb e args s v u, (limb_1_1.after args s (.returned v) u = true ∧ limb_1_2.after args s (.returned v) u = true ∧ True) → FrameEnd s (.returned v) u (Jvm.fieldLocs frame_1_writes args s ++ Jvm.arrayLocs frame_1_arrays args s ++ Jvm.staticLocs frame_1_statics s) 16 128 → Post tb e args s (.returned v) u) :
    ArmFor flags0 classFile x code maxLocals ret World_1 tables_1 room_1 Calls_1 rest_1 Pre_1 Post := by
  intro l hfl _ _ p e ha hc hk s m args below hf hA hF happ hP
  obtain ⟨hcalls, hrest, hpre⟩ := hP
  obtain ⟨-, -, -, hnamed, -, -, -, hat⟩ := (Spec.applies_iff hf).mp happ
  obtain ⟨hg, hn⟩ := and_e (Cond.before_iff.mp (show (Jvm.Cond.and given_1 narrow_1).before args s = true from hpre))
  obtain ⟨hcnt, hg0⟩ := and_e hg
  obtain ⟨w0, w1, w2, w3, w4, w5, rfl⟩ : ∃ w0 w1 w2 w3 w4 w5 : Value, args = #[w0, w1, w2, w3, w4, w5] := by
    have hs : args.size = 6 := by simpa [Cond.value, given_1] using hcnt
    obtain ⟨L⟩ := args
    match L, hs with
    | [w0, w1, w2, w3, w4, w5], _ => exact ⟨w0, w1, w2, w3, w4, w5, rfl⟩
  have hw := fun d (hd : d ∈ tables_1) => atoms_spec (ws := Jvm.Cond.code x code maxLocals ret :: tables_1) hat d (List.mem_cons_of_mem _ hd)
  obtain ⟨ha0, hg1⟩ := and_e hg0
  obtain ⟨i0, e0⟩ := is_v ha0
  obtain rfl : w0 = (.int i0) := Option.some.inj e0
  obtain ⟨ha1, hg2⟩ := and_e hg1
  obtain ⟨i1, e1⟩ := isL_v ha1
  obtain rfl : w1 = (.long i1) := Option.some.inj e1
  obtain ⟨ha2, hg3⟩ := and_e hg2
  obtain ⟨i2, e2⟩ := isL_v ha2
  obtain rfl : w2 = (.long i2) := Option.some.inj e2
  obtain ⟨ha3, hg4⟩ := and_e hg3
  obtain ⟨i3, e3⟩ := isL_v ha3
  obtain rfl : w3 = (.long i3) := Option.some.inj e3
  obtain ⟨ha4, hg5⟩ := and_e hg4
  obtain ⟨i4, e4⟩ := isL_v ha4
  obtain rfl : w4 = (.long i4) := Option.some.inj e4
  obtain ⟨i5, e5⟩ := isL_v hg5
  obtain rfl : w5 = (.long i5) := Option.some.inj e5
  obtain ⟨n, o, h1, h2, h3, _, L, rfl, ⟨rfl, N⟩, hq⟩ := own_law l s _ hw tables_1 s.heap.size s.heap (Nat.le_refl _) i0 i1 i2 i3 i4 i5  p e ha hc hk s m _ below hf ((Spec.applies_iff_loose hf).mp happ).1 ⟨rfl, State.Warmed39.refl s, rfl⟩ trivial
  refine ⟨n, _, h1, h2, h3, hpost _ _ _ _ _ _ ⟨Cond.after_iff.mpr rfl, Cond.after_iff.mpr (eq_i res_at (Term.int_eval (1)) rfl), trivial⟩ ⟨hq.1, hq.2.1, (hq.2.2.sift fun y hy => Or.inr (N y hy)).mono (by decide) (by decide)⟩⟩
theorem main_1_1 : Claimed_1_1 := comes_1 fun _ _ _ _ _ _ h hF => ⟨h.1, hF⟩
theorem main_1_2 : Claimed_1_2 := comes_1 fun _ _ _ _ _ _ h hF => ⟨h.2.1, hF⟩
end Jvm.Pilot.@@N@@
namespace Jvm.Pilot.@@N@@
open Jvm Jvm.ClassFile Sem Op Lib Jvm.Free Jvm.Stand Jvm.Pilot.@@N@@.Jvm.D
/-! MADE BY PROGRAM (witnessworld.py) out of the Statement's table words and the real class files: 13 classes; the members and pool entries that the words name. The judged class is class 1, her method 2. -/
namespace start1
open Jvm.ClassFile
def u (s : String) : CpInfo := .utf8 (stringToUtf16 s)
/-- a pool by its gaps: so many unusable entries, then the entry; so many at the end -/
def gap : Nat → List CpInfo → List CpInfo
  | 0, r => r
  | n + 1, r => .unusable :: gap n r
def poolList (es : List (Nat × CpInfo)) (last : Nat) : List CpInfo := es.foldr (fun e r => gap e.1 (e.2 :: r)) (gap last [])
def pool (es : List (Nat × CpInfo)) (last : Nat) : Array CpInfo := ⟨poolList es last⟩
def fileOf (pool : Array CpInfo) (this : Nat) (attrs : Array Attribute := #[]) (ms : Array MethodInfo := #[]) (fl : Nat := 33) (sup : Nat := 0) (ifs : Array Nat := #[]) (fds : Array FieldInfo := #[]) : ClassFile where
  minorVersion := 0
  majorVersion := 65
  constantPool := pool
  accessFlags := fl
  thisClass := this
  superClass := sup
  interfaces := ifs
  fields := fds
  methods := ms
  attributes := attrs
def plain (name : String) (sup : Option ClassId) : Class where
  name := name
  kind := .ordinary
  loader := none
  accessFlags := 33
  super := sup
  interfaces := #[]
  cf := none
  fields := #[]
  methods := #[]
  instanceTypes := #[]
  staticTypes := #[]
  resolved := #[]
  callSites := []
  init := .initialized
  statics := none
  mirror := none

def pool0 : Array CpInfo := pool [(5, u "<init>"), (0, u "()V"), (1, .class_ 10), (1, u "java/lang/Object")] 113

def k0c0 : Code := { maxStack := 0, maxLocals := 1, code := object_method_1_code, exceptionTable := #[], attributes := #[] }
def k0m0 : Method := { name := "<init>", desc := "()V", sig := { parameters := [], returnType := none }, accessFlags := 1, code := some k0c0 }
/-- java/lang/Object -/
def k0 : Class := { plain "java/lang/Object" none with
  accessFlags := 33
  interfaces := #[]
  cf := some (fileOf pool0 8 #[] #[{ accessFlags := 1, nameIndex := 5, descriptorIndex := 6, attributes := #[] }] 33 0 #[] #[])
  fields := #[]
  methods := #[k0m0]
  instanceTypes := #[]
  staticTypes := #[]
  resolved := Array.replicate 124 none
  statics := none }

def pool1 : Array CpInfo := pool [(2, .class_ 4), (1, u "java/lang/Object"), (0, u "<init>"), (0, u "()V"), (0, .class_ 8), (0, u "com/example/coldtail/coldtail/segment/MaxTree"), (0, .methodref 7 10), (0, .nameAndType 5 11), (0, u "([J)V"), (0, .methodref 7 13), (0, .nameAndType 14 15), (0, u "firstAtLeast"), (0, u "(IJ)I"), (0, .methodref 17 18), (0, .class_ 19), (0, .nameAndType 20 21), (0, u "com/example/coldtail/coldtail/segment/MaxTreeFirstAtLeastPinLaw"), (0, u "hit"), (0, u "(IIIJJ)Z"), (3, u "law"), (0, u "(IJJJJJ)Z")] 4

def k1m0 : Method := { name := "<init>", desc := "()V", sig := { parameters := [], returnType := none }, accessFlags := 1, code := none }
def k1c1 : Code := { maxStack := 4, maxLocals := 7, code := method_2_code, exceptionTable := #[], attributes := #[] }
def k1m1 : Method := { name := "hit", desc := "(IIIJJ)Z", sig := { parameters := [.int, .int, .int, .long, .long], returnType := some .boolean }, accessFlags := 10, code := some k1c1 }
def k1c2 : Code := { maxStack := 7, maxLocals := 19, code := code, exceptionTable := #[], attributes := #[] }
def k1m2 : Method := { name := "law", desc := "(IJJJJJ)Z", sig := { parameters := [.int, .long, .long, .long, .long, .long], returnType := some .boolean }, accessFlags := 9, code := some k1c2 }
/-- com/example/coldtail/coldtail/segment/MaxTreeFirstAtLeastPinLaw -/
def k1 : Class := { plain "com/example/coldtail/coldtail/segment/MaxTreeFirstAtLeastPinLaw" (some 0) with
  accessFlags := 49
  interfaces := #[]
  cf := some (fileOf pool1 17 #[] #[{ accessFlags := 1, nameIndex := 5, descriptorIndex := 6, attributes := #[] }, { accessFlags := 10, nameIndex := 20, descriptorIndex := 21, attributes := #[] }, { accessFlags := 9, nameIndex := 25, descriptorIndex := 26, attributes := #[] }] 49 2 #[] #[])
  fields := #[]
  methods := #[k1m0, k1m1, k1m2]
  instanceTypes := #[]
  staticTypes := #[]
  resolved := Array.replicate 31 none
  statics := none }

def pool2 : Array CpInfo := pool [(1, .methodref 2 3), (0, .class_ 4), (0, .nameAndType 5 6), (0, u "java/lang/Object"), (0, u "<init>"), (0, u "()V"), (0, .fieldref 8 9), (0, .class_ 10), (0, .nameAndType 11 12), (0, u "com/example/coldtail/coldtail/segment/MaxTree"), (0, u "leaves"), (0, u "I"), (0, .fieldref 8 14), (0, .nameAndType 15 12), (0, u "count"), (0, .fieldref 8 17), (0, .nameAndType 18 19), (0, u "nodes"), (0, u "[J"), (0, .methodref 21 22), (0, .class_ 23), (0, .nameAndType 24 25), (0, u "java/lang/System"), (0, u "arraycopy"), (0, u "(Ljava/lang/Object;ILjava/lang/Object;II)V"), (0, .methodref 27 28), (0, .class_ 29), (0, .nameAndType 30 31), (0, u "java/lang/Math"), (0, u "max"), (0, u "(JJ)J"), (0, u "([J)V"), (4, u "firstAtLeast"), (0, u "(IJ)I")] 2

def k2c0 : Code := { maxStack := 7, maxLocals := 4, code := prog_107_method_1_code, exceptionTable := #[], attributes := #[] }
def k2m0 : Method := { name := "<init>", desc := "([J)V", sig := { parameters := [(.array .long)], returnType := none }, accessFlags := 0, code := some k2c0 }
def k2c1 : Code := { maxStack := 4, maxLocals := 6, code := prog_107_method_2_code, exceptionTable := #[], attributes := #[] }
def k2m1 : Method := { name := "firstAtLeast", desc := "(IJ)I", sig := { parameters := [.int, .long], returnType := some .int }, accessFlags := 0, code := some k2c1 }
/-- com/example/coldtail/coldtail/segment/MaxTree -/
def k2 : Class := { plain "com/example/coldtail/coldtail/segment/MaxTree" (some 0) with
  accessFlags := 48
  interfaces := #[]
  cf := some (fileOf pool2 8 #[] #[{ accessFlags := 0, nameIndex := 5, descriptorIndex := 32, attributes := #[] }, { accessFlags := 0, nameIndex := 37, descriptorIndex := 38, attributes := #[] }] 48 2 #[] #[{ accessFlags := 18, nameIndex := 18, descriptorIndex := 19, attributes := #[] }, { accessFlags := 18, nameIndex := 11, descriptorIndex := 12, attributes := #[] }, { accessFlags := 18, nameIndex := 15, descriptorIndex := 12, attributes := #[] }])
  fields := #[{ name := "nodes", type := (.array .long), accessFlags := 18, slot := 0, constantValue := 0 }, { name := "leaves", type := .int, accessFlags := 18, slot := 1, constantValue := 0 }, { name := "count", type := .int, accessFlags := 18, slot := 2, constantValue := 0 }]
  methods := #[k2m0, k2m1]
  instanceTypes := #[(.array .long), .int, .int]
  staticTypes := #[]
  resolved := Array.replicate 41 none
  statics := none }

def pool3 : Array CpInfo := pool [(2, .class_ 4), (1, u "java/lang/Object"), (0, u "<init>"), (0, u "()V"), (1, .class_ 10), (1, u "java/lang/System"), (0, u "allowSecurityManager"), (0, u "I"), (16, u "cons"), (0, u "Ljava/io/Console;"), (77, .class_ 110), (1, u "java/lang/System$CallersHolder"), (43, u "initialErrStream"), (0, u "Ljava/io/PrintStream;"), (19, u "security"), (0, u "Ljava/lang/SecurityManager;"), (31, .class_ 209), (0, u "java/lang/System$1"), (7, u "props"), (0, u "Ljava/util/Properties;"), (2, u "lineSeparator"), (0, u "Ljava/lang/String;"), (96, .class_ 321), (1, u "java/lang/System$LoggerFinder"), (5, .class_ 328), (0, u "java/lang/System$Logger"), (67, u "err"), (2, u "out"), (91, u "notSupportedJnuEncoding"), (15, u "in"), (17, u "initialIn"), (0, u "Ljava/io/InputStream;"), (35, u "bootLayer"), (0, u "Ljava/lang/ModuleLayer;"), (99, .class_ 664), (0, u "java/lang/System$2"), (9, u "NEVER"), (2, u "MAYBE"), (49, u "arraycopy"), (0, u "(Ljava/lang/Object;ILjava/lang/Object;II)V"), (72, .class_ 802), (0, u "java/lang/System$Logger$Level")] 31

def k3m0 : Method := { name := "<init>", desc := "()V", sig := { parameters := [], returnType := none }, accessFlags := 2, code := none }
def k3m1 : Method := { name := "arraycopy", desc := "(Ljava/lang/Object;ILjava/lang/Object;II)V", sig := { parameters := [(.object "java/lang/Object"), .int, (.object "java/lang/Object"), .int, .int], returnType := none }, accessFlags := 265, code := none }
/-- java/lang/System -/
def k3 : Class := { plain "java/lang/System" (some 0) with
  accessFlags := 49
  interfaces := #[]
  cf := some (fileOf pool3 8 #[.nestMembers #[319, 327, 801, 108, 663, 208]] #[{ accessFlags := 2, nameIndex := 5, descriptorIndex := 6, attributes := #[] }, { accessFlags := 265, nameIndex := 727, descriptorIndex := 728, attributes := #[] }] 49 2 #[] #[{ accessFlags := 25, nameIndex := 507, descriptorIndex := 526, attributes := #[] }, { accessFlags := 25, nameIndex := 399, descriptorIndex := 155, attributes := #[] }, { accessFlags := 25, nameIndex := 396, descriptorIndex := 155, attributes := #[] }, { accessFlags := 10, nameIndex := 525, descriptorIndex := 526, attributes := #[] }, { accessFlags := 26, nameIndex := 674, descriptorIndex := 12, attributes := #[] }, { accessFlags := 26, nameIndex := 677, descriptorIndex := 12, attributes := #[] }, { accessFlags := 10, nameIndex := 11, descriptorIndex := 12, attributes := #[] }, { accessFlags := 74, nameIndex := 175, descriptorIndex := 176, attributes := #[] }, { accessFlags := 10, nameIndex := 491, descriptorIndex := 222, attributes := #[] }, { accessFlags := 74, nameIndex := 29, descriptorIndex := 30, attributes := #[] }, { accessFlags := 74, nameIndex := 154, descriptorIndex := 155, attributes := #[] }, { accessFlags := 10, nameIndex := 217, descriptorIndex := 218, attributes := #[] }, { accessFlags := 10, nameIndex := 221, descriptorIndex := 222, attributes := #[] }, { accessFlags := 8, nameIndex := 562, descriptorIndex := 563, attributes := #[] }])
  fields := #[{ name := "in", type := (.object "java/io/InputStream"), accessFlags := 25, slot := 0, constantValue := 0 }, { name := "out", type := (.object "java/io/PrintStream"), accessFlags := 25, slot := 1, constantValue := 0 }, { name := "err", type := (.object "java/io/PrintStream"), accessFlags := 25, slot := 2, constantValue := 0 }, { name := "initialIn", type := (.object "java/io/InputStream"), accessFlags := 10, slot := 3, constantValue := 0 }, { name := "NEVER", type := .int, accessFlags := 26, slot := 4, constantValue := 0 }, { name := "MAYBE", type := .int, accessFlags := 26, slot := 5, constantValue := 0 }, { name := "allowSecurityManager", type := .int, accessFlags := 10, slot := 6, constantValue := 0 }, { name := "security", type := (.object "java/lang/SecurityManager"), accessFlags := 74, slot := 7, constantValue := 0 }, { name := "notSupportedJnuEncoding", type := (.object "java/lang/String"), accessFlags := 10, slot := 8, constantValue := 0 }, { name := "cons", type := (.object "java/io/Console"), accessFlags := 74, slot := 9, constantValue := 0 }, { name := "initialErrStream", type := (.object "java/io/PrintStream"), accessFlags := 74, slot := 10, constantValue := 0 }, { name := "props", type := (.object "java/util/Properties"), accessFlags := 10, slot := 11, constantValue := 0 }, { name := "lineSeparator", type := (.object "java/lang/String"), accessFlags := 10, slot := 12, constantValue := 0 }, { name := "bootLayer", type := (.object "java/lang/ModuleLayer"), accessFlags := 8, slot := 13, constantValue := 0 }]
  methods := #[k3m0, k3m1]
  instanceTypes := #[]
  staticTypes := #[(.object "java/io/InputStream"), (.object "java/io/PrintStream"), (.object "java/io/PrintStream"), (.object "java/io/InputStream"), .int, .int, .int, (.object "java/lang/SecurityManager"), (.object "java/lang/String"), (.object "java/io/Console"), (.object "java/io/PrintStream"), (.object "java/util/Properties"), (.object "java/lang/String"), (.object "java/lang/ModuleLayer")]
  resolved := Array.replicate 834 none
  statics := none }

def pool4 : Array CpInfo := pool [(1, .class_ 2), (0, u "java/lang/Math"), (1, .class_ 6), (1, u "java/lang/Object"), (0, u "<init>"), (0, u "()V"), (89, .class_ 100), (1, u "java/lang/Math$RandomNumberGeneratorHolder"), (20, u "(JJ)J"), (50, u "negativeZeroFloatBits"), (0, u "J"), (2, u "negativeZeroDoubleBits"), (21, u "max"), (46, u "$assertionsDisabled"), (0, u "Z"), (91, u "twoToTheDoubleScaleDown"), (0, u "D"), (4, u "twoToTheDoubleScaleUp"), (9, u "E"), (3, u "PI"), (2, u "TAU"), (2, u "DEGREES_TO_RADIANS"), (0, u "RADIANS_TO_DEGREES")] 94

def k4m0 : Method := { name := "<init>", desc := "()V", sig := { parameters := [], returnType := none }, accessFlags := 2, code := none }
def k4c1 : Code := { maxStack := 4, maxLocals := 4, code := jdk_29_method_66_code, exceptionTable := #[], attributes := #[] }
def k4m1 : Method := { name := "max", desc := "(JJ)J", sig := { parameters := [.long, .long], returnType := some .long }, accessFlags := 9, code := some k4c1 }
/-- java/lang/Math -/
def k4 : Class := { plain "java/lang/Math" (some 0) with
  accessFlags := 49
  interfaces := #[]
  cf := some (fileOf pool4 1 #[.nestMembers #[98]] #[{ accessFlags := 2, nameIndex := 7, descriptorIndex := 8, attributes := #[] }, { accessFlags := 9, nameIndex := 198, descriptorIndex := 121, attributes := #[] }] 49 4 #[] #[{ accessFlags := 25, nameIndex := 354, descriptorIndex := 339, attributes := #[] }, { accessFlags := 25, nameIndex := 358, descriptorIndex := 339, attributes := #[] }, { accessFlags := 25, nameIndex := 361, descriptorIndex := 339, attributes := #[] }, { accessFlags := 26, nameIndex := 364, descriptorIndex := 339, attributes := #[] }, { accessFlags := 26, nameIndex := 365, descriptorIndex := 339, attributes := #[] }, { accessFlags := 26, nameIndex := 172, descriptorIndex := 173, attributes := #[] }, { accessFlags := 26, nameIndex := 176, descriptorIndex := 173, attributes := #[] }, { accessFlags := 8, nameIndex := 344, descriptorIndex := 339, attributes := #[] }, { accessFlags := 8, nameIndex := 338, descriptorIndex := 339, attributes := #[] }, { accessFlags := 4120, nameIndex := 245, descriptorIndex := 246, attributes := #[] }])
  fields := #[{ name := "E", type := .double, accessFlags := 25, slot := 0, constantValue := 0 }, { name := "PI", type := .double, accessFlags := 25, slot := 1, constantValue := 0 }, { name := "TAU", type := .double, accessFlags := 25, slot := 2, constantValue := 0 }, { name := "DEGREES_TO_RADIANS", type := .double, accessFlags := 26, slot := 3, constantValue := 0 }, { name := "RADIANS_TO_DEGREES", type := .double, accessFlags := 26, slot := 4, constantValue := 0 }, { name := "negativeZeroFloatBits", type := .long, accessFlags := 26, slot := 5, constantValue := 0 }, { name := "negativeZeroDoubleBits", type := .long, accessFlags := 26, slot := 6, constantValue := 0 }, { name := "twoToTheDoubleScaleUp", type := .double, accessFlags := 8, slot := 7, constantValue := 0 }, { name := "twoToTheDoubleScaleDown", type := .double, accessFlags := 8, slot := 8, constantValue := 0 }, { name := "$assertionsDisabled", type := .boolean, accessFlags := 4120, slot := 9, constantValue := 0 }]
  methods := #[k4m0, k4m1]
  instanceTypes := #[]
  staticTypes := #[.double, .double, .double, .double, .double, .long, .long, .double, .double, .boolean]
  resolved := Array.replicate 460 none
  statics := none }

def pool5 : Array CpInfo := pool [(1, u "java/lang/Cloneable"), (0, .class_ 1), (0, u "java/lang/Object"), (0, .class_ 3)] 3

/-- java/lang/Cloneable -/
def k5 : Class := { plain "java/lang/Cloneable" (some 0) with
  accessFlags := 1537
  interfaces := #[]
  cf := some (fileOf pool5 2 #[] #[] 1537 4 #[] #[])
  fields := #[]
  methods := #[]
  instanceTypes := #[]
  staticTypes := #[]
  resolved := Array.replicate 8 none
  statics := none }

def pool6 : Array CpInfo := pool [(1, u "java/io/Serializable"), (0, .class_ 1), (0, u "java/lang/Object"), (0, .class_ 3)] 3

/-- java/io/Serializable -/
def k6 : Class := { plain "java/io/Serializable" (some 0) with
  accessFlags := 1537
  interfaces := #[]
  cf := some (fileOf pool6 2 #[] #[] 1537 4 #[] #[])
  fields := #[]
  methods := #[]
  instanceTypes := #[]
  staticTypes := #[]
  resolved := Array.replicate 8 none
  statics := none }

/-- the primitive byte -/
def k7 : Class := { plain "byte" none with kind := .primitive 'B', accessFlags := 0x411 }
/-- [B -/
def k8 : Class := { plain "[B" (some 0) with kind := .array 7 .byte, interfaces := #[5, 6], accessFlags := 1041 }

/-- the primitive int -/
def k9 : Class := { plain "int" none with kind := .primitive 'I', accessFlags := 0x411 }
/-- [I -/
def k10 : Class := { plain "[I" (some 0) with kind := .array 9 .int, interfaces := #[5, 6], accessFlags := 1041 }

/-- the primitive long -/
def k11 : Class := { plain "long" none with kind := .primitive 'J', accessFlags := 0x411 }
/-- [J -/
def k12 : Class := { plain "[J" (some 0) with kind := .array 11 .long, interfaces := #[5, 6], accessFlags := 1041 }

def heap : Heap := #[]
def classes : Array Class := #[k0, k1, k2, k3, k4, k5, k6, k7, k8, k9, k10, k11, k12]
def interned : List (Array UInt16 × Addr) := []
def slotsUsed : Nat := 0
def theMethod : MethodId := ⟨1, 2⟩
def args0 : Array Value := #[.int 5, .long 300, .long 7, .long 1, .long 2, .long 3]
def aboutOver (below : List Frame) : State where
  vm := { classes := classes, interned := interned.toArray }
  heap := heap
  slotsUsed := slotsUsed
  threads := #[{ frames := .invoking theMethod args0 :: below }]
def below0 : List Frame := [.native { method := ⟨0, 0⟩, args := #[] }]
def about1 : State := aboutOver below0
def p0 : Program := .bare "" "" ""
def e0 : Env := launch0.env 0 0 0
theorem w_frames : about1.frames = Frame.invoking theMethod args0 :: below0 := rfl
set_option maxRecDepth 65536 in
theorem w_args : argsFit about1.vm theMethod args0 = true := by decide +kernel
set_option maxRecDepth 65536 in
theorem w_heap : heapFits about1 = true := by decide +kernel
set_option maxRecDepth 65536 in
theorem w_runnable : about1.curStatus? = some .runnable := by decide +kernel
set_option maxRecDepth 65536 in
theorem w_alone : about1.alone = true := by decide +kernel
set_option maxRecDepth 65536 in
theorem w_named : about1.methodNamed? x = some theMethod := by decide +kernel
set_option maxRecDepth 65536 in
theorem w_hears : about1.hears theMethod below0 = true := by decide +kernel
set_option maxRecDepth 65536 in
theorem w_ripe : about1.ripe theMethod args0 below0 = true := by decide +kernel
theorem w_running : about1.status = .running := rfl
set_option maxRecDepth 65536 in
theorem w_room : about1.hasRoom e0.platform room_1 = true :=
  launch0.hasRoom_least _ room_1 (by decide +kernel) (by decide +kernel) (by decide +kernel) (by decide +kernel) (by decide +kernel) (by decide +kernel)
theorem allAtoms_all (ts : List Jvm.Cond) (a : Array Jvm.Value) (st : Jvm.State) : (allAtoms ts).before a st = ts.all (fun c => c.before a st) := by
  induction ts with
  | nil => rfl
  | cons c t ih =>
    show (Jvm.Cond.and c (allAtoms t)).before a st = _
    rw [Jvm.Cond.before_and, ih, List.all_cons]
def words1 : List Jvm.Cond := Jvm.Cond.code x code maxLocals ret :: tables_1
/-- a 'code' word, met by the world's own term for the bytes: nothing is compared byte by byte -/
theorem code_word {y : MethodName} {bytes : ByteArray} {mx : Nat} {rt : Option FieldType} {a : Array Value} {s : State} {m : MethodId} {meth : Method} {c : Code} (h1 : s.methodNamed? y = some m) (h2 : s.vm.method? m = some meth) (h3 : meth.code = some c) (h4 : c.code = bytes)
    (h5 : (c.maxLocals == mx && c.exceptionTable.isEmpty && decide (c.maxStack ≤ mostOperands) && decide (meth.sig.returnType = rt) && !meth.locks && decide (parseMethodDescriptor y.desc = some meth.sig)) = true) : (Jvm.Cond.code y bytes mx rt).before a s = true := by
  simp only [Bool.and_eq_true, beq_iff_eq, Bool.not_eq_true', decide_eq_true_eq] at h5
  obtain ⟨⟨⟨⟨⟨g1, g2⟩, g3⟩, g4⟩, g5⟩, g6⟩ := h5
  simp [Cond.before, Cond.holds, Cond.value, h1, h2, h3, h4, g1, g2, g3, g4, g5, g6]
def isCode : Jvm.Cond → Bool
  | .code _ _ _ _ => true
  | _ => false
theorem all_split {L : List Jvm.Cond} {P : Jvm.Cond → Bool} (h1 : L.all (fun c => isCode c || P c) = true) (h2 : ∀ c ∈ L.filter isCode, P c = true) : L.all P = true := by
  refine List.all_eq_true.mpr fun c hc => ?_
  have h := List.all_eq_true.mp h1 c hc
  rcases Bool.eq_false_or_eq_true (isCode c) with hi | hi
  · exact h2 c (List.mem_filter.mpr ⟨hc, hi⟩)
  · simpa [hi] using h
set_option maxRecDepth 65536 in
theorem w_c0 : (Jvm.Cond.code x code maxLocals ret).before args0 about1 = true := code_word (m := ⟨1, 2⟩) (meth := k1m2) (c := k1c2) (by decide +kernel) rfl rfl rfl (by decide +kernel)
set_option maxRecDepth 65536 in
theorem w_c1 : (Jvm.Cond.code ({ cls := "com/example/coldtail/coldtail/segment/MaxTree", name := "<init>", desc := "([J)V" } : Jvm.MethodName) prog_107_method_1_code (4 : Nat) (Option.none : Option Jvm.ClassFile.FieldType)).before args0 about1 = true := code_word (m := ⟨2, 0⟩) (meth := k2m0) (c := k2c0) (by decide +kernel) rfl rfl rfl (by decide +kernel)
set_option maxRecDepth 65536 in
theorem w_c2 : (Jvm.Cond.code ({ cls := "java/lang/Object", name := "<init>", desc := "()V" } : Jvm.MethodName) object_method_1_code (1 : Nat) (Option.none : Option Jvm.ClassFile.FieldType)).before args0 about1 = true := code_word (m := ⟨0, 0⟩) (meth := k0m0) (c := k0c0) (by decide +kernel) rfl rfl rfl (by decide +kernel)
set_option maxRecDepth 65536 in
theorem w_c3 : (Jvm.Cond.code ({ cls := "com/example/coldtail/coldtail/segment/MaxTree", name := "firstAtLeast", desc := "(IJ)I" } : Jvm.MethodName) prog_107_method_2_code (6 : Nat) (Option.some Jvm.ClassFile.FieldType.int)).before args0 about1 = true := code_word (m := ⟨2, 1⟩) (meth := k2m1) (c := k2c1) (by decide +kernel) rfl rfl rfl (by decide +kernel)
set_option maxRecDepth 65536 in
theorem w_c4 : (Jvm.Cond.code ({ cls := "com/example/coldtail/coldtail/segment/MaxTreeFirstAtLeastPinLaw", name := "hit", desc := "(IIIJJ)Z" } : Jvm.MethodName) method_2_code (7 : Nat) (Option.some Jvm.ClassFile.FieldType.boolean)).before args0 about1 = true := code_word (m := ⟨1, 1⟩) (meth := k1m1) (c := k1c1) (by decide +kernel) rfl rfl rfl (by decide +kernel)
set_option maxRecDepth 65536 in
theorem w_c5 : (Jvm.Cond.code ({ cls := "java/lang/Math", name := "max", desc := "(JJ)J" } : Jvm.MethodName) jdk_29_method_66_code (4 : Nat) (Option.some Jvm.ClassFile.FieldType.long)).before args0 about1 = true := code_word (m := ⟨4, 1⟩) (meth := k4m1) (c := k4c1) (by decide +kernel) rfl rfl rfl (by decide +kernel)
def codes1 : List Jvm.Cond := [Jvm.Cond.code x code maxLocals ret, Jvm.Cond.code ({ cls := "com/example/coldtail/coldtail/segment/MaxTree", name := "<init>", desc := "([J)V" } : Jvm.MethodName) prog_107_method_1_code (4 : Nat) (Option.none : Option Jvm.ClassFile.FieldType), Jvm.Cond.code ({ cls := "java/lang/Object", name := "<init>", desc := "()V" } : Jvm.MethodName) object_method_1_code (1 : Nat) (Option.none : Option Jvm.ClassFile.FieldType), Jvm.Cond.code ({ cls := "com/example/coldtail/coldtail/segment/MaxTree", name := "firstAtLeast", desc := "(IJ)I" } : Jvm.MethodName) prog_107_method_2_code (6 : Nat) (Option.some Jvm.ClassFile.FieldType.int), Jvm.Cond.code ({ cls := "com/example/coldtail/coldtail/segment/MaxTreeFirstAtLeastPinLaw", name := "hit", desc := "(IIIJJ)Z" } : Jvm.MethodName) method_2_code (7 : Nat) (Option.some Jvm.ClassFile.FieldType.boolean), Jvm.Cond.code ({ cls := "java/lang/Math", name := "max", desc := "(JJ)J" } : Jvm.MethodName) jdk_29_method_66_code (4 : Nat) (Option.some Jvm.ClassFile.FieldType.long)]
set_option maxRecDepth 65536 in
theorem codes_eq : words1.filter isCode = codes1 := rfl
theorem w_codes : ∀ c ∈ words1.filter isCode, c.before args0 about1 = true := by
  rw [codes_eq]
  intro c hc
  simp only [codes1, List.mem_cons, List.not_mem_nil, or_false] at hc
  rcases hc with rfl | rfl | rfl | rfl | rfl | rfl
  · exact w_c0
  · exact w_c1
  · exact w_c2
  · exact w_c3
  · exact w_c4
  · exact w_c5
set_option maxRecDepth 65536 in
theorem w_t1 : (words1.take 24).all (fun c => isCode c || c.before args0 about1) = true := by decide +kernel
set_option maxRecDepth 65536 in
theorem w_t2 : (words1.drop 24).all (fun c => isCode c || c.before args0 about1) = true := by decide +kernel
theorem w_tables : (allAtoms (Jvm.Cond.code x code maxLocals ret :: tables_1)).before args0 about1 = true := by
  rw [allAtoms_all]
  show words1.all (fun c => c.before args0 about1) = true
  refine all_split ?_ w_codes
  rw [← List.take_append_drop 24 words1, List.all_append, w_t1, w_t2]
  rfl
set_option maxRecDepth 65536 in
theorem w_case : (Jvm.Cond.and given_1 narrow_1).before args0 about1 = true := by decide +kernel
theorem w_applies : (headSpec (Jvm.Cond.code x code maxLocals ret :: tables_1) room_1).applies x e0.platform about1 = true :=
  (Spec.applies_iff w_frames).mpr ⟨w_running, w_runnable, w_alone, w_named, w_hears, w_ripe, w_room, w_tables⟩
theorem atStart : AtStart classFile x code maxLocals ret World_1 tables_1 room_1 Calls_1 rest_1 Pre_1 launch0 p0 e0 about1 theMethod args0 below0 :=
  ⟨lists_1, trivial, launch0.admits_env _ _ _, launch0.least_env, fairChoices_fair.cas, fairChoices_fair.clock, w_frames, w_args, w_heap, w_applies, trivial, trivial, w_case⟩
end start1
theorem witness_1 : WitnessClaimed_1 := ⟨start1.p0, start1.e0, start1.about1, start1.theMethod, start1.args0, start1.below0, start1.atStart⟩
end Jvm.Pilot.@@N@@
