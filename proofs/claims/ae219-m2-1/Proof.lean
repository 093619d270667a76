import JvmDerived
import JvmDerived.Pilot.@@N@@Statement
import JvmDerived.Pilot.@@N@@Code
set_option linter.unusedVariables false
set_option linter.unusedSimpArgs false
namespace Jvm.WK
open Jvm Sem ClassFile Op Lib Jvm.Free Jvm.Stand Jvm.LawKit Jvm.RoadKit
/-- the fixed surroundings of a walk: program, launch, environment, first state, method, arguments, frames below, method record, code record -/
abbrev Cx := Program × Launch × Env × State × MethodId × Array Value × List Frame × Method × Code
/-- FROM HERE THE BODY RUNS TO ITS RETURN, AND WHAT IT LEAVES MEETS Q: h the heap here, pc, Ls, st the top frame; cl, sl: what was made so far; only cells from n0 on are written. -/
def WPG (C : Cx) (Z : State) (code : ByteArray) (ml : Nat) (own : String) (rt : Option FieldType) (nm : String) (R : Room) (n0 : Nat) (G : State → Option Value → List Loc → Prop) (cl sl : Nat) (h : Heap) (pc : Nat) (Ls : Array Slot) (st : List Value) : Prop :=
  C.1.tables.exec = Jvm.exec → C.2.2.2.2.2.2.2.2.code = code → C.2.2.2.2.2.2.2.2.maxLocals = ml → C.2.2.2.1.vm.findClass own = some C.2.2.2.2.1.cls → Z.Warmed39 C.2.2.2.1.vm → C.2.2.2.2.2.2.2.1.sig.returnType = rt → C.2.2.2.2.2.2.2.1.locks = false → C.2.2.2.2.2.2.2.1.name = nm →
  ∀ (T : State) (locs : List Loc), Stand C.1 C.2.1 C.2.2.1 R C.2.2.2.1 C.2.2.2.2.1 C.2.2.2.2.2.1 C.2.2.2.2.2.2.1 C.2.2.2.2.2.2.2.1 C.2.2.2.2.2.2.2.2 T locs cl sl → T.heap = h → Fr n0 locs →
    ∃ (s₂ : State) (v : Option Value) (L : List Loc), Steps C.1.tables C.2.2.1 C.2.2.2.2.2.2.1 (T.setTop (mkF C.2.2.2.2.1 pc Ls st)) s₂ ∧ s₂.status = .running ∧ Ended s₂ C.2.2.2.2.2.2.1 (.returned v) ∧ G s₂ v L
/-- the plain end: Q of what it leaves; the tables warmer, the frame kept -/
abbrev EndF (C : Cx) (R : Room) (n0 : Nat) (Q : Option Value → Heap → Prop) : State → Option Value → List Loc → Prop := fun s₂ v L => Q v s₂.heap ∧ Fr n0 L ∧ FrameEnd C.2.2.2.1 (.returned v) s₂ L R.cells R.slots
abbrev WP (C : Cx) (Z : State) (code : ByteArray) (ml : Nat) (own : String) (rt : Option FieldType) (nm : String) (R : Room) (n0 : Nat) (Q : Option Value → Heap → Prop) (cl sl : Nat) (h : Heap) (pc : Nat) (Ls : Array Slot) (st : List Value) : Prop :=
  WPG C Z code ml own rt nm R n0 (EndF C R n0 Q) cl sl h pc Ls st
/-- WHAT A METHOD DOES FROM THE HEAP h0 WITH THE ARGUMENTS a -/
def Does (l : Launch) (Z : State) (y : MethodName) (code : ByteArray) (ml : Nat) (rt : Option FieldType) (R : Room) (n0 : Nat) (as' : Array Value) (h0 : Heap) (Q : Option Value → Heap → Prop) : Prop :=
  ∀ ws : List Jvm.Cond, MetFree l y (head1 (Jvm.Cond.code y code ml rt :: ws) R) (fun a U => a = as' ∧ Z.Warmed39 U.vm ∧ U.heap = h0) (fun _ _ _ _ _ => True)
    (fun _ U o U' => ∃ v L, o = .returned v ∧ (Q v U'.heap ∧ Fr n0 L) ∧ FrameEnd U o U' L R.cells R.slots)
theorem Does.of_wp {l : Launch} {Z : State} {y : MethodName} {code : ByteArray} {ml : Nat} {rt : Option FieldType} {R : Room} {n0 : Nat} {as' : Array Value} {h0 : Heap} {Q : Option Value → Heap → Prop} (hpl : plainFor y = true) {Ls : Array Slot} (hef : ∀ m, entryFrame m as' ml = mkF m 0 Ls [])
    (hW : ∀ C : Cx, WP C Z code ml y.cls rt y.name R n0 Q 0 0 h0 0 Ls []) : Does l Z y code ml rt R n0 as' h0 Q := by
  intro ws
  refine MetFree.of_bodySF hpl hisR ?_
  intro p e s m args below meth c s₁ Bd hml0 hP hK
  obtain ⟨rfl, hZ, hh⟩ := hP
  have X0 : Stand p l e R s m args below meth c s₁ [] 0 0 := Stand.of_body Bd
  have e0 : s₁.heap = h0 := by rw [← hh, Bd.state]; rfl
  obtain ⟨s₂, v, L, h1, h2, h3, h4, h5, h6⟩ := hW (p, l, e, s, m, args, below, meth, c) Bd.exec Bd.bytes hml0 (findClass_of_methodNamed Bd.named) hZ Bd.returns Bd.notSynchronized (name_of_methodNamed Bd.named Bd.method).1 s₁ [] X0 e0 (Fr.nil n0)
  exact ⟨s₂, _, castTop (hef m) h1, h2, h3, v, L, rfl, ⟨h4, h5⟩, h6⟩
section Rules
variable {C : Cx} {Z : State} {code : ByteArray} {ml : Nat} {own : String} {rt : Option FieldType} {nm : String} {R : Room} {n0 : Nat} {Q : Option Value → Heap → Prop} {G : State → Option Value → List Loc → Prop} {cl sl : Nat} {h : Heap} {pc pc' : Nat} {Ls Ls' : Array Slot} {st st' : List Value} {a0 : Array Value}
theorem WPG.step {cl' sl' : Nat} {h' : Heap} (f : ∀ {p : Program} {l : Launch} {e : Env} {s : State} {m : MethodId} {args : Array Value} {below : List Frame} {meth : Method} {c : Code} {T : State} {locs : List Loc}, Stand p l e R s m args below meth c T locs cl sl → p.tables.exec = Jvm.exec → c.code = code → c.maxLocals = ml → s.vm.findClass own = some m.cls → Z.Warmed39 s.vm → meth.name = nm → T.heap = h → Fr n0 locs →
      ∃ T' locs', Stand p l e R s m args below meth c T' locs' cl' sl' ∧ T'.heap = h' ∧ Fr n0 locs' ∧ ∀ t, Steps p.tables e below (T'.setTop (mkF m pc' Ls' st')) t → Steps p.tables e below (T.setTop (mkF m pc Ls st)) t)
    (hr : WPG C Z code ml own rt nm R n0 G cl' sl' h' pc' Ls' st') : WPG C Z code ml own rt nm R n0 G cl sl h pc Ls st := by
  intro k1 k2 k3 k4 k5 k6 k7 k8 T locs X e N
  obtain ⟨T', locs', X', e', N', k⟩ := f X k1 k2 k3 k4 k5 k8 e N
  obtain ⟨s₂, v, L, h1, h2⟩ := hr k1 k2 k3 k4 k5 k6 k7 k8 T' locs' X' e' N'
  exact ⟨s₂, v, L, k _ h1, h2⟩
theorem WPG.pure (f : ∀ {p : Program} {l : Launch} {e : Env} {s : State} {m : MethodId} {args : Array Value} {below : List Frame} {meth : Method} {c : Code} {T : State} {locs : List Loc}, Stand p l e R s m args below meth c T locs cl sl → p.tables.exec = Jvm.exec → c.code = code → s.vm.findClass own = some m.cls → Z.Warmed39 s.vm → T.heap = h →
      ∀ t, Steps p.tables e below (T.setTop (mkF m pc' Ls' st')) t → Steps p.tables e below (T.setTop (mkF m pc Ls st)) t)
    (hr : WPG C Z code ml own rt nm R n0 G cl sl h pc' Ls' st') : WPG C Z code ml own rt nm R n0 G cl sl h pc Ls st :=
  WPG.step (fun X hx hc _ ho hZ _ e N => ⟨_, _, X, e, N, f X hx hc ho hZ e⟩) hr
/-- the heap's name may be turned -/
theorem WP.cast {h' : Heap} (e : h = h') (hr : WPG C Z code ml own rt nm R n0 G cl sl h' pc Ls st) : WPG C Z code ml own rt nm R n0 G cl sl h pc Ls st := e ▸ hr
theorem WP.castS (e : st = st') (hr : WPG C Z code ml own rt nm R n0 G cl sl h pc Ls st') : WPG C Z code ml own rt nm R n0 G cl sl h pc Ls st := e ▸ hr
theorem WP.castL (e : Ls = Ls') (hr : WPG C Z code ml own rt nm R n0 G cl sl h pc Ls' st) : WPG C Z code ml own rt nm R n0 G cl sl h pc Ls st := e ▸ hr
theorem WP.more {cl' sl' : Nat} (h1 : cl ≤ cl') (h2 : sl ≤ sl') (hr : WPG C Z code ml own rt nm R n0 G cl' sl' h pc Ls st) : WPG C Z code ml own rt nm R n0 G cl sl h pc Ls st := by
  intro k1 k2 k3 k4 k5 k6 k7 k8 T locs X e N
  exact hr k1 k2 k3 k4 k5 k6 k7 k8 T locs ⟨X.admits, X.cas, X.clock, X.frames, X.room, X.hears, X.method, X.code, X.here, X.tail, X.warmed, X.limits, X.bytes, X.same.mono h1 h2⟩ e N
theorem WP.iloadN {k : Fin 4} {v : Int32} (hd : decode code pc = .ok (.iload_n k, 1)) (hp : pc + 1 = pc') (hl : Ls[k.val]? = some (.val (.int v))) (hr : WPG C Z code ml own rt nm R n0 G cl sl h pc' Ls (.int v :: st)) : WPG C Z code ml own rt nm R n0 G cl sl h pc Ls st := by
  subst hp
  exact hr.pure fun X hx hby hown hZ eT t q => XS.iloadN X.here hx rfl (hb hby hd) hl q
theorem WP.iload {k : Nat} {v : Int32} (hd : decode code pc = .ok (.iload k, 2)) (hp : pc + 2 = pc') (hl : Ls[k]? = some (.val (.int v))) (hr : WPG C Z code ml own rt nm R n0 G cl sl h pc' Ls (.int v :: st)) : WPG C Z code ml own rt nm R n0 G cl sl h pc Ls st := by
  subst hp
  exact hr.pure fun X hx hby hown hZ eT t q => XS.iload X.here hx rfl (hb hby hd) hl q
theorem WP.lloadN {k : Fin 4} {v : Int64} (hd : decode code pc = .ok (.lload_n k, 1)) (hp : pc + 1 = pc') (hl : Ls[k.val]? = some (.val (.long v))) (hr : WPG C Z code ml own rt nm R n0 G cl sl h pc' Ls (.long v :: st)) : WPG C Z code ml own rt nm R n0 G cl sl h pc Ls st := by
  subst hp
  exact hr.pure fun X hx hby hown hZ eT t q => XS.lloadN X.here hx rfl (hb hby hd) hl q
theorem WP.lload {k : Nat} {v : Int64} (hd : decode code pc = .ok (.lload k, 2)) (hp : pc + 2 = pc') (hl : Ls[k]? = some (.val (.long v))) (hr : WPG C Z code ml own rt nm R n0 G cl sl h pc' Ls (.long v :: st)) : WPG C Z code ml own rt nm R n0 G cl sl h pc Ls st := by
  subst hp
  exact hr.pure fun X hx hby hown hZ eT t q => XS.lload X.here hx rfl (hb hby hd) hl q
theorem WP.dloadN {k : Fin 4} {v : UInt64} (hd : decode code pc = .ok (.dload_n k, 1)) (hp : pc + 1 = pc') (hl : Ls[k.val]? = some (.val (.double v))) (hr : WPG C Z code ml own rt nm R n0 G cl sl h pc' Ls (.double v :: st)) : WPG C Z code ml own rt nm R n0 G cl sl h pc Ls st := by
  subst hp
  exact hr.pure fun X hx hby hown hZ eT t q => XS.dloadN X.here hx rfl (hb hby hd) hl q
theorem WP.dload {k : Nat} {v : UInt64} (hd : decode code pc = .ok (.dload k, 2)) (hp : pc + 2 = pc') (hl : Ls[k]? = some (.val (.double v))) (hr : WPG C Z code ml own rt nm R n0 G cl sl h pc' Ls (.double v :: st)) : WPG C Z code ml own rt nm R n0 G cl sl h pc Ls st := by
  subst hp
  exact hr.pure fun X hx hby hown hZ eT t q => XS.dload X.here hx rfl (hb hby hd) hl q
theorem WP.aloadN {k : Fin 4} {v : Value} (hd : decode code pc = .ok (.aload_n k, 1)) (hp : pc + 1 = pc') (hl : Ls[k.val]? = some (.val v)) (hv : v.isRef = true) (hr : WPG C Z code ml own rt nm R n0 G cl sl h pc' Ls (v :: st)) : WPG C Z code ml own rt nm R n0 G cl sl h pc Ls st := by
  subst hp
  exact hr.pure fun X hx hby hown hZ eT t q => XS.aloadN X.here hx rfl (hb hby hd) hl hv q
theorem WP.aload {k : Nat} {v : Value} (hd : decode code pc = .ok (.aload k, 2)) (hp : pc + 2 = pc') (hl : Ls[k]? = some (.val v)) (hv : v.isRef = true) (hr : WPG C Z code ml own rt nm R n0 G cl sl h pc' Ls (v :: st)) : WPG C Z code ml own rt nm R n0 G cl sl h pc Ls st := by
  subst hp
  exact hr.pure fun X hx hby hown hZ eT t q => XS.aload X.here hx rfl (hb hby hd) hl hv q
theorem WP.istoreN {k : Fin 4} {v : Int32} (hd : decode code pc = .ok (.istore_n k, 1)) (hp : pc + 1 = pc') (hl : storeLocals Ls k.val (.int v) = some Ls') (hr : WPG C Z code ml own rt nm R n0 G cl sl h pc' Ls' st) : WPG C Z code ml own rt nm R n0 G cl sl h pc Ls (.int v :: st) := by
  subst hp
  exact hr.pure fun X hx hby hown hZ eT t q => XS.istoreN X.here hx rfl (hb hby hd) rfl hl q
theorem WP.istore {k : Nat} {v : Int32} (hd : decode code pc = .ok (.istore k, 2)) (hp : pc + 2 = pc') (hl : storeLocals Ls k (.int v) = some Ls') (hr : WPG C Z code ml own rt nm R n0 G cl sl h pc' Ls' st) : WPG C Z code ml own rt nm R n0 G cl sl h pc Ls (.int v :: st) := by
  subst hp
  exact hr.pure fun X hx hby hown hZ eT t q => XS.istore X.here hx rfl (hb hby hd) rfl hl q
theorem WP.lstoreN {k : Fin 4} {v : Int64} (hd : decode code pc = .ok (.lstore_n k, 1)) (hp : pc + 1 = pc') (hl : storeLocals Ls k.val (.long v) = some Ls') (hr : WPG C Z code ml own rt nm R n0 G cl sl h pc' Ls' st) : WPG C Z code ml own rt nm R n0 G cl sl h pc Ls (.long v :: st) := by
  subst hp
  exact hr.pure fun X hx hby hown hZ eT t q => XS.lstoreN X.here hx rfl (hb hby hd) rfl hl q
theorem WP.lstore {k : Nat} {v : Int64} (hd : decode code pc = .ok (.lstore k, 2)) (hp : pc + 2 = pc') (hl : storeLocals Ls k (.long v) = some Ls') (hr : WPG C Z code ml own rt nm R n0 G cl sl h pc' Ls' st) : WPG C Z code ml own rt nm R n0 G cl sl h pc Ls (.long v :: st) := by
  subst hp
  exact hr.pure fun X hx hby hown hZ eT t q => XS.lstore X.here hx rfl (hb hby hd) rfl hl q
theorem WP.dstoreN {k : Fin 4} {v : UInt64} (hd : decode code pc = .ok (.dstore_n k, 1)) (hp : pc + 1 = pc') (hl : storeLocals Ls k.val (.double v) = some Ls') (hr : WPG C Z code ml own rt nm R n0 G cl sl h pc' Ls' st) : WPG C Z code ml own rt nm R n0 G cl sl h pc Ls (.double v :: st) := by
  subst hp
  exact hr.pure fun X hx hby hown hZ eT t q => XS.dstoreN X.here hx rfl (hb hby hd) rfl hl q
theorem WP.dstore {k : Nat} {v : UInt64} (hd : decode code pc = .ok (.dstore k, 2)) (hp : pc + 2 = pc') (hl : storeLocals Ls k (.double v) = some Ls') (hr : WPG C Z code ml own rt nm R n0 G cl sl h pc' Ls' st) : WPG C Z code ml own rt nm R n0 G cl sl h pc Ls (.double v :: st) := by
  subst hp
  exact hr.pure fun X hx hby hown hZ eT t q => XS.dstore X.here hx rfl (hb hby hd) rfl hl q
theorem WP.astoreN {k : Fin 4} {v : Value} (hd : decode code pc = .ok (.astore_n k, 1)) (hp : pc + 1 = pc') (hv : v.isRef = true) (hl : storeLocals Ls k.val v = some Ls') (hr : WPG C Z code ml own rt nm R n0 G cl sl h pc' Ls' st) : WPG C Z code ml own rt nm R n0 G cl sl h pc Ls (v :: st) := by
  subst hp
  exact hr.pure fun X hx hby hown hZ eT t q => XS.astoreN X.here hx rfl (hb hby hd) rfl hv hl q
theorem WP.astore {k : Nat} {v : Value} (hd : decode code pc = .ok (.astore k, 2)) (hp : pc + 2 = pc') (hv : v.isRef = true) (hl : storeLocals Ls k v = some Ls') (hr : WPG C Z code ml own rt nm R n0 G cl sl h pc' Ls' st) : WPG C Z code ml own rt nm R n0 G cl sl h pc Ls (v :: st) := by
  subst hp
  exact hr.pure fun X hx hby hown hZ eT t q => XS.astore X.here hx rfl (hb hby hd) rfl hv hl q
theorem WP.iconst {i : Int} {z : Int32} (hd : decode code pc = .ok (.iconst i, 1)) (hp : pc + 1 = pc') (hz : Int32.ofInt i = z) (hr : WPG C Z code ml own rt nm R n0 G cl sl h pc' Ls (.int z :: st)) : WPG C Z code ml own rt nm R n0 G cl sl h pc Ls st := by
  subst hp
  subst hz
  exact hr.pure fun X hx hby hown hZ eT t q => XS.iconst X.here hx rfl (hb hby hd) q
theorem WP.bipush {i : Int} {z : Int32} (hd : decode code pc = .ok (.bipush i, 2)) (hp : pc + 2 = pc') (hz : (Int8.ofInt i).toInt32 = z) (hr : WPG C Z code ml own rt nm R n0 G cl sl h pc' Ls (.int z :: st)) : WPG C Z code ml own rt nm R n0 G cl sl h pc Ls st := by
  subst hp
  subst hz
  exact hr.pure fun X hx hby hown hZ eT t q => XS.bipush X.here hx rfl (hb hby hd) q
theorem WP.sipush {i : Int} {z : Int32} (hd : decode code pc = .ok (.sipush i, 3)) (hp : pc + 3 = pc') (hz : (Int16.ofInt i).toInt32 = z) (hr : WPG C Z code ml own rt nm R n0 G cl sl h pc' Ls (.int z :: st)) : WPG C Z code ml own rt nm R n0 G cl sl h pc Ls st := by
  subst hp
  subst hz
  exact hr.pure fun X hx hby hown hZ eT t q => XS.sipush X.here hx rfl (hb hby hd) q
theorem WP.lconst {k : Fin 2} {z : Int64} (hd : decode code pc = .ok (.lconst k, 1)) (hp : pc + 1 = pc') (hz : Int64.ofNat k = z) (hr : WPG C Z code ml own rt nm R n0 G cl sl h pc' Ls (.long z :: st)) : WPG C Z code ml own rt nm R n0 G cl sl h pc Ls st := by
  subst hp
  subst hz
  exact hr.pure fun X hx hby hown hZ eT t q => XS.lconst X.here hx rfl (hb hby hd) q
theorem WP.aconstNull  (hd : decode code pc = .ok (.aconst_null, 1)) (hp : pc + 1 = pc') (hr : WPG C Z code ml own rt nm R n0 G cl sl h pc' Ls (.null :: st)) : WPG C Z code ml own rt nm R n0 G cl sl h pc Ls st := by
  subst hp
  exact hr.pure fun X hx hby hown hZ eT t q => XS.aconstNull X.here hx rfl (hb hby hd) q
theorem WP.ldcI {i : Nat} {v : Int32} (hd : decode code pc = .ok (.ldc i, 2)) (hp : pc + 2 = pc') (w : (Jvm.Cond.constant own i v).before a0 Z = true) (hr : WPG C Z code ml own rt nm R n0 G cl sl h pc' Ls (.int v :: st)) : WPG C Z code ml own rt nm R n0 G cl sl h pc Ls st := by
  subst hp
  exact hr.pure fun X hx hby hown hZ eT t q => X.ldcInt hx hown (mvT hZ w) (g := mkF _ pc Ls st) rfl (hb hby hd) t q
theorem WP.ldcWI {i : Nat} {v : Int32} (hd : decode code pc = .ok (.ldc_w i, 3)) (hp : pc + 3 = pc') (w : (Jvm.Cond.constant own i v).before a0 Z = true) (hr : WPG C Z code ml own rt nm R n0 G cl sl h pc' Ls (.int v :: st)) : WPG C Z code ml own rt nm R n0 G cl sl h pc Ls st := by
  subst hp
  exact hr.pure fun X hx hby hown hZ eT t q => X.ldcWInt hx hown (mvT hZ w) (g := mkF _ pc Ls st) rfl (hb hby hd) t q
theorem WP.ldc2J {i : Nat} {v : Int64} (hd : decode code pc = .ok (.ldc2_w i, 3)) (hp : pc + 3 = pc') (w : (Jvm.Cond.constantLong own i v).before a0 Z = true) (hr : WPG C Z code ml own rt nm R n0 G cl sl h pc' Ls (.long v :: st)) : WPG C Z code ml own rt nm R n0 G cl sl h pc Ls st := by
  subst hp
  exact hr.pure fun X hx hby hown hZ eT t q => X.ldc2Long hx hown (mvT hZ w) (g := mkF _ pc Ls st) rfl (hb hby hd) t q
theorem WP.iadd {x y : Int32} (hd : decode code pc = .ok (.iadd, 1)) (hp : pc + 1 = pc') (hr : WPG C Z code ml own rt nm R n0 G cl sl h pc' Ls (.int (x + y) :: st)) : WPG C Z code ml own rt nm R n0 G cl sl h pc Ls (.int y :: .int x :: st) := by
  subst hp
  exact hr.pure fun X hx hby hown hZ eT t q => XS.iadd X.here hx rfl (hb hby hd) rfl q
theorem WP.isub {x y : Int32} (hd : decode code pc = .ok (.isub, 1)) (hp : pc + 1 = pc') (hr : WPG C Z code ml own rt nm R n0 G cl sl h pc' Ls (.int (x - y) :: st)) : WPG C Z code ml own rt nm R n0 G cl sl h pc Ls (.int y :: .int x :: st) := by
  subst hp
  exact hr.pure fun X hx hby hown hZ eT t q => XS.isub X.here hx rfl (hb hby hd) rfl q
theorem WP.imul {x y : Int32} (hd : decode code pc = .ok (.imul, 1)) (hp : pc + 1 = pc') (hr : WPG C Z code ml own rt nm R n0 G cl sl h pc' Ls (.int (x * y) :: st)) : WPG C Z code ml own rt nm R n0 G cl sl h pc Ls (.int y :: .int x :: st) := by
  subst hp
  exact hr.pure fun X hx hby hown hZ eT t q => XS.imul X.here hx rfl (hb hby hd) rfl q
theorem WP.iand {x y : Int32} (hd : decode code pc = .ok (.iand, 1)) (hp : pc + 1 = pc') (hr : WPG C Z code ml own rt nm R n0 G cl sl h pc' Ls (.int (x &&& y) :: st)) : WPG C Z code ml own rt nm R n0 G cl sl h pc Ls (.int y :: .int x :: st) := by
  subst hp
  exact hr.pure fun X hx hby hown hZ eT t q => XS.iand X.here hx rfl (hb hby hd) rfl q
theorem WP.ior {x y : Int32} (hd : decode code pc = .ok (.ior, 1)) (hp : pc + 1 = pc') (hr : WPG C Z code ml own rt nm R n0 G cl sl h pc' Ls (.int (x ||| y) :: st)) : WPG C Z code ml own rt nm R n0 G cl sl h pc Ls (.int y :: .int x :: st) := by
  subst hp
  exact hr.pure fun X hx hby hown hZ eT t q => XS.ior X.here hx rfl (hb hby hd) rfl q
theorem WP.ixor {x y : Int32} (hd : decode code pc = .ok (.ixor, 1)) (hp : pc + 1 = pc') (hr : WPG C Z code ml own rt nm R n0 G cl sl h pc' Ls (.int (x ^^^ y) :: st)) : WPG C Z code ml own rt nm R n0 G cl sl h pc Ls (.int y :: .int x :: st) := by
  subst hp
  exact hr.pure fun X hx hby hown hZ eT t q => XS.ixor X.here hx rfl (hb hby hd) rfl q
theorem WP.ishl {x y : Int32} (hd : decode code pc = .ok (.ishl, 1)) (hp : pc + 1 = pc') (hr : WPG C Z code ml own rt nm R n0 G cl sl h pc' Ls (.int (x <<< (y &&& 31)) :: st)) : WPG C Z code ml own rt nm R n0 G cl sl h pc Ls (.int y :: .int x :: st) := by
  subst hp
  exact hr.pure fun X hx hby hown hZ eT t q => XS.ishl X.here hx rfl (hb hby hd) rfl q
theorem WP.ishr {x y : Int32} (hd : decode code pc = .ok (.ishr, 1)) (hp : pc + 1 = pc') (hr : WPG C Z code ml own rt nm R n0 G cl sl h pc' Ls (.int (x >>> (y &&& 31)) :: st)) : WPG C Z code ml own rt nm R n0 G cl sl h pc Ls (.int y :: .int x :: st) := by
  subst hp
  exact hr.pure fun X hx hby hown hZ eT t q => XS.ishr X.here hx rfl (hb hby hd) rfl q
theorem WP.iushr {x y : Int32} (hd : decode code pc = .ok (.iushr, 1)) (hp : pc + 1 = pc') (hr : WPG C Z code ml own rt nm R n0 G cl sl h pc' Ls (.int ((x.toUInt32 >>> (y &&& 31).toUInt32).toInt32) :: st)) : WPG C Z code ml own rt nm R n0 G cl sl h pc Ls (.int y :: .int x :: st) := by
  subst hp
  exact hr.pure fun X hx hby hown hZ eT t q => XS.iushr X.here hx rfl (hb hby hd) rfl q
theorem WP.ladd {x y : Int64} (hd : decode code pc = .ok (.ladd, 1)) (hp : pc + 1 = pc') (hr : WPG C Z code ml own rt nm R n0 G cl sl h pc' Ls (.long (x + y) :: st)) : WPG C Z code ml own rt nm R n0 G cl sl h pc Ls (.long y :: .long x :: st) := by
  subst hp
  exact hr.pure fun X hx hby hown hZ eT t q => XS.ladd X.here hx rfl (hb hby hd) rfl q
theorem WP.lsub {x y : Int64} (hd : decode code pc = .ok (.lsub, 1)) (hp : pc + 1 = pc') (hr : WPG C Z code ml own rt nm R n0 G cl sl h pc' Ls (.long (x - y) :: st)) : WPG C Z code ml own rt nm R n0 G cl sl h pc Ls (.long y :: .long x :: st) := by
  subst hp
  exact hr.pure fun X hx hby hown hZ eT t q => XS.lsub X.here hx rfl (hb hby hd) rfl q
theorem WP.lmul {x y : Int64} (hd : decode code pc = .ok (.lmul, 1)) (hp : pc + 1 = pc') (hr : WPG C Z code ml own rt nm R n0 G cl sl h pc' Ls (.long (x * y) :: st)) : WPG C Z code ml own rt nm R n0 G cl sl h pc Ls (.long y :: .long x :: st) := by
  subst hp
  exact hr.pure fun X hx hby hown hZ eT t q => XS.lmul X.here hx rfl (hb hby hd) rfl q
theorem WP.land {x y : Int64} (hd : decode code pc = .ok (.land, 1)) (hp : pc + 1 = pc') (hr : WPG C Z code ml own rt nm R n0 G cl sl h pc' Ls (.long (x &&& y) :: st)) : WPG C Z code ml own rt nm R n0 G cl sl h pc Ls (.long y :: .long x :: st) := by
  subst hp
  exact hr.pure fun X hx hby hown hZ eT t q => XS.land X.here hx rfl (hb hby hd) rfl q
theorem WP.lor {x y : Int64} (hd : decode code pc = .ok (.lor, 1)) (hp : pc + 1 = pc') (hr : WPG C Z code ml own rt nm R n0 G cl sl h pc' Ls (.long (x ||| y) :: st)) : WPG C Z code ml own rt nm R n0 G cl sl h pc Ls (.long y :: .long x :: st) := by
  subst hp
  exact hr.pure fun X hx hby hown hZ eT t q => XS.lor X.here hx rfl (hb hby hd) rfl q
theorem WP.lxor {x y : Int64} (hd : decode code pc = .ok (.lxor, 1)) (hp : pc + 1 = pc') (hr : WPG C Z code ml own rt nm R n0 G cl sl h pc' Ls (.long (x ^^^ y) :: st)) : WPG C Z code ml own rt nm R n0 G cl sl h pc Ls (.long y :: .long x :: st) := by
  subst hp
  exact hr.pure fun X hx hby hown hZ eT t q => XS.lxor X.here hx rfl (hb hby hd) rfl q
theorem WP.lshl {x : Int64} {y : Int32} (hd : decode code pc = .ok (.lshl, 1)) (hp : pc + 1 = pc') (hr : WPG C Z code ml own rt nm R n0 G cl sl h pc' Ls (.long (x <<< (y &&& 0x3f).toInt64) :: st)) : WPG C Z code ml own rt nm R n0 G cl sl h pc Ls (.int y :: .long x :: st) := by
  subst hp
  exact hr.pure fun X hx hby hown hZ eT t q => XS.lshl X.here hx rfl (hb hby hd) rfl q
theorem WP.lshr {x : Int64} {y : Int32} (hd : decode code pc = .ok (.lshr, 1)) (hp : pc + 1 = pc') (hr : WPG C Z code ml own rt nm R n0 G cl sl h pc' Ls (.long (x >>> (y &&& 0x3f).toInt64) :: st)) : WPG C Z code ml own rt nm R n0 G cl sl h pc Ls (.int y :: .long x :: st) := by
  subst hp
  exact hr.pure fun X hx hby hown hZ eT t q => XS.lshr X.here hx rfl (hb hby hd) rfl q
theorem WP.lushr {x : Int64} {y : Int32} (hd : decode code pc = .ok (.lushr, 1)) (hp : pc + 1 = pc') (hr : WPG C Z code ml own rt nm R n0 G cl sl h pc' Ls (.long ((x.toUInt64 >>> (y &&& 0x3f).toInt64.toUInt64).toInt64) :: st)) : WPG C Z code ml own rt nm R n0 G cl sl h pc Ls (.int y :: .long x :: st) := by
  subst hp
  exact hr.pure fun X hx hby hown hZ eT t q => XS.lushr X.here hx rfl (hb hby hd) rfl q
theorem WP.idiv {x y : Int32} (hd : decode code pc = .ok (.idiv, 1)) (hp : pc + 1 = pc') (hy : y ≠ 0) (hr : WPG C Z code ml own rt nm R n0 G cl sl h pc' Ls (.int (x / y) :: st)) : WPG C Z code ml own rt nm R n0 G cl sl h pc Ls (.int y :: .int x :: st) := by
  subst hp
  exact hr.pure fun X hx hby hown hZ eT t q => XS.idiv X.here hx rfl (hb hby hd) rfl hy q
theorem WP.irem {x y : Int32} (hd : decode code pc = .ok (.irem, 1)) (hp : pc + 1 = pc') (hy : y ≠ 0) (hr : WPG C Z code ml own rt nm R n0 G cl sl h pc' Ls (.int (x % y) :: st)) : WPG C Z code ml own rt nm R n0 G cl sl h pc Ls (.int y :: .int x :: st) := by
  subst hp
  exact hr.pure fun X hx hby hown hZ eT t q => iremM X hx rfl (hb hby hd) rfl hy q
theorem WP.ldiv {x y : Int64} (hd : decode code pc = .ok (.ldiv, 1)) (hp : pc + 1 = pc') (hy : y ≠ 0) (hr : WPG C Z code ml own rt nm R n0 G cl sl h pc' Ls (.long (x / y) :: st)) : WPG C Z code ml own rt nm R n0 G cl sl h pc Ls (.long y :: .long x :: st) := by
  subst hp
  exact hr.pure fun X hx hby hown hZ eT t q => XS.ldiv X.here hx rfl (hb hby hd) rfl hy q
theorem WP.lrem {x y : Int64} (hd : decode code pc = .ok (.lrem, 1)) (hp : pc + 1 = pc') (hy : y ≠ 0) (hr : WPG C Z code ml own rt nm R n0 G cl sl h pc' Ls (.long (x % y) :: st)) : WPG C Z code ml own rt nm R n0 G cl sl h pc Ls (.long y :: .long x :: st) := by
  subst hp
  exact hr.pure fun X hx hby hown hZ eT t q => XS.lrem X.here hx rfl (hb hby hd) rfl hy (by rw [lrem_mod]; exact q)
theorem WP.ineg {x : Int32} (hd : decode code pc = .ok (.ineg, 1)) (hp : pc + 1 = pc') (hr : WPG C Z code ml own rt nm R n0 G cl sl h pc' Ls (.int (-x) :: st)) : WPG C Z code ml own rt nm R n0 G cl sl h pc Ls (.int x :: st) := by
  subst hp
  exact hr.pure fun X hx hby hown hZ eT t q => XS.ineg X.here hx rfl (hb hby hd) rfl q
theorem WP.lneg {x : Int64} (hd : decode code pc = .ok (.lneg, 1)) (hp : pc + 1 = pc') (hr : WPG C Z code ml own rt nm R n0 G cl sl h pc' Ls (.long (-x) :: st)) : WPG C Z code ml own rt nm R n0 G cl sl h pc Ls (.long x :: st) := by
  subst hp
  exact hr.pure fun X hx hby hown hZ eT t q => XS.lneg X.here hx rfl (hb hby hd) rfl q
theorem WP.i2l {x : Int32} (hd : decode code pc = .ok (.i2l, 1)) (hp : pc + 1 = pc') (hr : WPG C Z code ml own rt nm R n0 G cl sl h pc' Ls (.long (x.toInt64) :: st)) : WPG C Z code ml own rt nm R n0 G cl sl h pc Ls (.int x :: st) := by
  subst hp
  exact hr.pure fun X hx hby hown hZ eT t q => XS.i2l X.here hx rfl (hb hby hd) rfl q
theorem WP.l2i {x : Int64} (hd : decode code pc = .ok (.l2i, 1)) (hp : pc + 1 = pc') (hr : WPG C Z code ml own rt nm R n0 G cl sl h pc' Ls (.int (x.toInt32) :: st)) : WPG C Z code ml own rt nm R n0 G cl sl h pc Ls (.long x :: st) := by
  subst hp
  exact hr.pure fun X hx hby hown hZ eT t q => XS.l2i X.here hx rfl (hb hby hd) rfl q
theorem WP.i2b {x : Int32} (hd : decode code pc = .ok (.i2b, 1)) (hp : pc + 1 = pc') (hr : WPG C Z code ml own rt nm R n0 G cl sl h pc' Ls (.int (x.toInt8.toInt32) :: st)) : WPG C Z code ml own rt nm R n0 G cl sl h pc Ls (.int x :: st) := by
  subst hp
  exact hr.pure fun X hx hby hown hZ eT t q => XS.i2b X.here hx rfl (hb hby hd) rfl q
theorem WP.i2c {x : Int32} (hd : decode code pc = .ok (.i2c, 1)) (hp : pc + 1 = pc') (hr : WPG C Z code ml own rt nm R n0 G cl sl h pc' Ls (.int (x.toUInt32.toUInt16.toUInt32.toInt32) :: st)) : WPG C Z code ml own rt nm R n0 G cl sl h pc Ls (.int x :: st) := by
  subst hp
  exact hr.pure fun X hx hby hown hZ eT t q => XS.i2c X.here hx rfl (hb hby hd) rfl q
theorem WP.i2s {x : Int32} (hd : decode code pc = .ok (.i2s, 1)) (hp : pc + 1 = pc') (hr : WPG C Z code ml own rt nm R n0 G cl sl h pc' Ls (.int (x.toInt16.toInt32) :: st)) : WPG C Z code ml own rt nm R n0 G cl sl h pc Ls (.int x :: st) := by
  subst hp
  exact hr.pure fun X hx hby hown hZ eT t q => XS.i2s X.here hx rfl (hb hby hd) rfl q
theorem WP.dup {x : Value} (hd : decode code pc = .ok (.dup, 1)) (hp : pc + 1 = pc') (hc : x.category = 1) (hr : WPG C Z code ml own rt nm R n0 G cl sl h pc' Ls (x :: x :: st)) : WPG C Z code ml own rt nm R n0 G cl sl h pc Ls (x :: st) := by
  subst hp
  exact hr.pure fun X hx hby hown hZ eT t q => XS.dup X.here hx rfl (hb hby hd) rfl hc q
theorem WP.pop {x : Value} (hd : decode code pc = .ok (.pop, 1)) (hp : pc + 1 = pc') (hc : x.category = 1) (hr : WPG C Z code ml own rt nm R n0 G cl sl h pc' Ls st) : WPG C Z code ml own rt nm R n0 G cl sl h pc Ls (x :: st) := by
  subst hp
  exact hr.pure fun X hx hby hown hZ eT t q => XS.pop X.here hx rfl (hb hby hd) rfl hc q
theorem WP.dupX1 {x y : Value} (hd : decode code pc = .ok (.dup_x1, 1)) (hp : pc + 1 = pc') (hc : x.category = 1) (hc' : y.category = 1) (hr : WPG C Z code ml own rt nm R n0 G cl sl h pc' Ls (x :: y :: x :: st)) : WPG C Z code ml own rt nm R n0 G cl sl h pc Ls (x :: y :: st) := by
  subst hp
  exact hr.pure fun X hx hby hown hZ eT t q => XS.dupX1 X.here hx rfl (hb hby hd) rfl hc hc' q
theorem WP.dup2 {x y : Value} (hd : decode code pc = .ok (.dup2, 1)) (hp : pc + 1 = pc') (hc : x.category = 1) (hc' : y.category = 1) (hr : WPG C Z code ml own rt nm R n0 G cl sl h pc' Ls (x :: y :: x :: y :: st)) : WPG C Z code ml own rt nm R n0 G cl sl h pc Ls (x :: y :: st) := by
  subst hp
  exact hr.pure fun X hx hby hown hZ eT t q => Jvm.Free.XT.dup2 X.here hx rfl (hb hby hd) rfl hc hc' q
theorem WP.dup2L {x : Int64} (hd : decode code pc = .ok (.dup2, 1)) (hp : pc + 1 = pc') (hr : WPG C Z code ml own rt nm R n0 G cl sl h pc' Ls (.long x :: .long x :: st)) : WPG C Z code ml own rt nm R n0 G cl sl h pc Ls (.long x :: st) := by
  subst hp
  exact hr.pure fun X hx hby hown hZ eT t q => Jvm.Free.XT.dup2L X.here hx rfl (hb hby hd) rfl q
theorem WP.iinc {k : Nat} {i : Int} {x z : Int32} (hd : decode code pc = .ok (.iinc k i, 3)) (hp : pc + 3 = pc') (hl : Ls[k]? = some (.val (.int x))) (hz : x + Int32.ofInt i = z) (hl' : storeLocals Ls k (.int z) = some Ls') (hr : WPG C Z code ml own rt nm R n0 G cl sl h pc' Ls' st) : WPG C Z code ml own rt nm R n0 G cl sl h pc Ls st := by
  subst hp
  subst hz
  exact hr.pure fun X hx hby hown hZ eT t q => XS.iinc X.here hx rfl (hb hby hd) hl hl' q
theorem WP.ldc2D {i : Nat} {v : UInt64} (hd : decode code pc = .ok (.ldc2_w i, 3)) (hp : pc + 3 = pc') (w : (Jvm.Cond.constantDouble own i v).before a0 Z = true) (hr : WPG C Z code ml own rt nm R n0 G cl sl h pc' Ls (.double v :: st)) : WPG C Z code ml own rt nm R n0 G cl sl h pc Ls st := by
  subst hp
  exact hr.pure fun X hx hby hown hZ eT t q => X.ldc2DoubleC hx hown (mvT hZ w) (g := mkF _ pc Ls st) rfl (hb hby hd) t q
theorem WP.dconst0 {v : UInt64} (hd : decode code pc = .ok (.dconst 0, 1)) (hp : pc + 1 = pc') (hv : FP.dconst0 = v) (hr : WPG C Z code ml own rt nm R n0 G cl sl h pc' Ls (.double v :: st)) : WPG C Z code ml own rt nm R n0 G cl sl h pc Ls st := by
  subst hp
  exact hr.pure fun X hx hby hown hZ eT t q => XS.dconst0 X.here hx rfl (hb hby hd) hv q
theorem WP.dconst1 {v : UInt64} (hd : decode code pc = .ok (.dconst 1, 1)) (hp : pc + 1 = pc') (hv : FP.dconst1 = v) (hr : WPG C Z code ml own rt nm R n0 G cl sl h pc' Ls (.double v :: st)) : WPG C Z code ml own rt nm R n0 G cl sl h pc Ls st := by
  subst hp
  exact hr.pure fun X hx hby hown hZ eT t q => XS.dconst1 X.here hx rfl (hb hby hd) hv q
theorem WP.i2d {x : Int32} {v : UInt64} (hd : decode code pc = .ok (.i2d, 1)) (hp : pc + 1 = pc') (hv : FP.i2d x = v) (hr : WPG C Z code ml own rt nm R n0 G cl sl h pc' Ls (.double v :: st)) : WPG C Z code ml own rt nm R n0 G cl sl h pc Ls (.int x :: st) := by
  subst hp
  exact hr.pure fun X hx hby hown hZ eT t q => XS.i2dS X.here hx rfl (hb hby hd) rfl hv q
theorem WP.l2d {x : Int64} {v : UInt64} (hd : decode code pc = .ok (.l2d, 1)) (hp : pc + 1 = pc') (hv : FP.l2d x = v) (hr : WPG C Z code ml own rt nm R n0 G cl sl h pc' Ls (.double v :: st)) : WPG C Z code ml own rt nm R n0 G cl sl h pc Ls (.long x :: st) := by
  subst hp
  exact hr.pure fun X hx hby hown hZ eT t q => XS.l2dS X.here hx rfl (hb hby hd) rfl hv q
theorem WP.dcmp {o : CmpOp} {x y : UInt64} {v : Int32} (hd : decode code pc = .ok (.dcmp o, 1)) (hp : pc + 1 = pc') (hv : cmpValue (FP.dcmp x y) o = v) (hr : WPG C Z code ml own rt nm R n0 G cl sl h pc' Ls (.int v :: st)) : WPG C Z code ml own rt nm R n0 G cl sl h pc Ls (.double y :: .double x :: st) := by
  subst hp
  exact hr.pure fun X hx hby hown hZ eT t q => XS.dcmpS X.here hx rfl (hb hby hd) rfl hv q
theorem WP.dadd {x y v : UInt64} (hd : decode code pc = .ok (.dadd, 1)) (hp : pc + 1 = pc') (hn : Jvm.Free.Fl.NoNaN64 (FP.dadd x y)) (hv : FP.dadd x y = v) (hr : WPG C Z code ml own rt nm R n0 G cl sl h pc' Ls (.double v :: st)) : WPG C Z code ml own rt nm R n0 G cl sl h pc Ls (.double y :: .double x :: st) := by
  subst hp
  exact hr.pure fun X hx hby hown hZ eT t q => XS.daddS X.here hx rfl (hb hby hd) rfl hn hv q
theorem WP.dsub {x y v : UInt64} (hd : decode code pc = .ok (.dsub, 1)) (hp : pc + 1 = pc') (hn : Jvm.Free.Fl.NoNaN64 (FP.dsub x y)) (hv : FP.dsub x y = v) (hr : WPG C Z code ml own rt nm R n0 G cl sl h pc' Ls (.double v :: st)) : WPG C Z code ml own rt nm R n0 G cl sl h pc Ls (.double y :: .double x :: st) := by
  subst hp
  exact hr.pure fun X hx hby hown hZ eT t q => XS.dsubS X.here hx rfl (hb hby hd) rfl hn hv q
theorem WP.dmul {x y v : UInt64} (hd : decode code pc = .ok (.dmul, 1)) (hp : pc + 1 = pc') (hn : Jvm.Free.Fl.NoNaN64 (FP.dmul x y)) (hv : FP.dmul x y = v) (hr : WPG C Z code ml own rt nm R n0 G cl sl h pc' Ls (.double v :: st)) : WPG C Z code ml own rt nm R n0 G cl sl h pc Ls (.double y :: .double x :: st) := by
  subst hp
  exact hr.pure fun X hx hby hown hZ eT t q => XS.dmulS X.here hx rfl (hb hby hd) rfl hn hv q
theorem WP.ddiv {x y v : UInt64} (hd : decode code pc = .ok (.ddiv, 1)) (hp : pc + 1 = pc') (hn : Jvm.Free.Fl.NoNaN64 (FP.ddiv x y)) (hv : FP.ddiv x y = v) (hr : WPG C Z code ml own rt nm R n0 G cl sl h pc' Ls (.double v :: st)) : WPG C Z code ml own rt nm R n0 G cl sl h pc Ls (.double y :: .double x :: st) := by
  subst hp
  exact hr.pure fun X hx hby hown hZ eT t q => XS.ddivS X.here hx rfl (hb hby hd) rfl hn hv q
theorem WP.lcmp {x y : Int64} (hd : decode code pc = .ok (.lcmp, 1)) (hp : pc + 1 = pc') (hr : WPG C Z code ml own rt nm R n0 G cl sl h pc' Ls (.int (lcmpW x y) :: st)) : WPG C Z code ml own rt nm R n0 G cl sl h pc Ls (.long y :: .long x :: st) := by
  subst hp
  exact hr.pure fun X hx hby hown hZ eT t q => XS.lcmp X.here hx rfl (hb hby hd) rfl q
theorem WP.goto {o : Int} (hd : decode code pc = .ok (.goto o, 3)) (ho : 0 ≤ (pc : Int) + o) (hp : ((pc : Int) + o).toNat = pc') (hr : WPG C Z code ml own rt nm R n0 G cl sl h pc' Ls st) : WPG C Z code ml own rt nm R n0 G cl sl h pc Ls st :=
  hr.pure fun X hx hby hown hZ eT t q => XS.goto X.here hx rfl (pc0 := pc) rfl (hb hby hd) ho hp q
theorem WP.icmp {pc1 pc2 : Nat} {x y : Int32} {cd : ClassFile.Cond} {o : Int} (hd : decode code pc = .ok (.if_icmp cd o, 3)) (ho : 0 ≤ (pc : Int) + o) (hp : ((pc : Int) + o).toNat = pc1) (hp2 : pc + 3 = pc2) (hy : if_icmp.holds cd x y = true → WPG C Z code ml own rt nm R n0 G cl sl h pc1 Ls st) (hn : if_icmp.holds cd x y = false → WPG C Z code ml own rt nm R n0 G cl sl h pc2 Ls st) : WPG C Z code ml own rt nm R n0 G cl sl h pc Ls (.int y :: .int x :: st) := by
  subst hp2
  cases hq : if_icmp.holds cd x y with
  | true => exact (hy hq).pure fun X hx hby hown hZ eT t q => XS.icmpYes X.here hx rfl (pc0 := pc) rfl (hb hby hd) rfl hq ho hp q
  | false => exact (hn hq).pure fun X hx hby hown hZ eT t q => XS.icmpNo X.here hx rfl (hb hby hd) rfl hq q
theorem WP.icmp_lt {pc1 pc2 : Nat} {x y : Int32} {o : Int} (hd : decode code pc = .ok (.if_icmp .lt o, 3)) (ho : 0 ≤ (pc : Int) + o) (hp : ((pc : Int) + o).toNat = pc1) (hp2 : pc + 3 = pc2) (hy : x < y → WPG C Z code ml own rt nm R n0 G cl sl h pc1 Ls st) (hn : ¬ x < y → WPG C Z code ml own rt nm R n0 G cl sl h pc2 Ls st) : WPG C Z code ml own rt nm R n0 G cl sl h pc Ls (.int y :: .int x :: st) :=
  WP.icmp hd ho hp hp2 (fun hq => hy (Decidable.byContradiction fun k => by rw [(flt k).1] at hq; cases hq)) (fun hq => hn (fun k => by rw [(tlt k).1] at hq; cases hq))
theorem WP.icmp_ge {pc1 pc2 : Nat} {x y : Int32} {o : Int} (hd : decode code pc = .ok (.if_icmp .ge o, 3)) (ho : 0 ≤ (pc : Int) + o) (hp : ((pc : Int) + o).toNat = pc1) (hp2 : pc + 3 = pc2) (hy : ¬ x < y → WPG C Z code ml own rt nm R n0 G cl sl h pc1 Ls st) (hn : x < y → WPG C Z code ml own rt nm R n0 G cl sl h pc2 Ls st) : WPG C Z code ml own rt nm R n0 G cl sl h pc Ls (.int y :: .int x :: st) :=
  WP.icmp hd ho hp hp2 (fun hq => hy (fun k => by rw [(tlt k).2.1] at hq; cases hq)) (fun hq => hn (Decidable.byContradiction fun k => by rw [(flt k).2.1] at hq; cases hq))
theorem WP.icmp_gt {pc1 pc2 : Nat} {x y : Int32} {o : Int} (hd : decode code pc = .ok (.if_icmp .gt o, 3)) (ho : 0 ≤ (pc : Int) + o) (hp : ((pc : Int) + o).toNat = pc1) (hp2 : pc + 3 = pc2) (hy : y < x → WPG C Z code ml own rt nm R n0 G cl sl h pc1 Ls st) (hn : ¬ y < x → WPG C Z code ml own rt nm R n0 G cl sl h pc2 Ls st) : WPG C Z code ml own rt nm R n0 G cl sl h pc Ls (.int y :: .int x :: st) :=
  WP.icmp hd ho hp hp2 (fun hq => hy (Decidable.byContradiction fun k => by rw [(flt k).2.2.1] at hq; cases hq)) (fun hq => hn (fun k => by rw [(tlt k).2.2.1] at hq; cases hq))
theorem WP.icmp_le {pc1 pc2 : Nat} {x y : Int32} {o : Int} (hd : decode code pc = .ok (.if_icmp .le o, 3)) (ho : 0 ≤ (pc : Int) + o) (hp : ((pc : Int) + o).toNat = pc1) (hp2 : pc + 3 = pc2) (hy : ¬ y < x → WPG C Z code ml own rt nm R n0 G cl sl h pc1 Ls st) (hn : y < x → WPG C Z code ml own rt nm R n0 G cl sl h pc2 Ls st) : WPG C Z code ml own rt nm R n0 G cl sl h pc Ls (.int y :: .int x :: st) :=
  WP.icmp hd ho hp hp2 (fun hq => hy (fun k => by rw [(tlt k).2.2.2] at hq; cases hq)) (fun hq => hn (Decidable.byContradiction fun k => by rw [(flt k).2.2.2] at hq; cases hq))
theorem WP.icmp_eq {pc1 pc2 : Nat} {x y : Int32} {o : Int} (hd : decode code pc = .ok (.if_icmp .eq o, 3)) (ho : 0 ≤ (pc : Int) + o) (hp : ((pc : Int) + o).toNat = pc1) (hp2 : pc + 3 = pc2) (hy : x = y → WPG C Z code ml own rt nm R n0 G cl sl h pc1 Ls st) (hn : ¬ x = y → WPG C Z code ml own rt nm R n0 G cl sl h pc2 Ls st) : WPG C Z code ml own rt nm R n0 G cl sl h pc Ls (.int y :: .int x :: st) :=
  WP.icmp hd ho hp hp2 (fun hq => hy (Decidable.byContradiction fun k => by rw [(feq k).1] at hq; cases hq)) (fun hq => hn (fun k => by rw [(teq k).1] at hq; cases hq))
theorem WP.icmp_ne {pc1 pc2 : Nat} {x y : Int32} {o : Int} (hd : decode code pc = .ok (.if_icmp .ne o, 3)) (ho : 0 ≤ (pc : Int) + o) (hp : ((pc : Int) + o).toNat = pc1) (hp2 : pc + 3 = pc2) (hy : ¬ x = y → WPG C Z code ml own rt nm R n0 G cl sl h pc1 Ls st) (hn : x = y → WPG C Z code ml own rt nm R n0 G cl sl h pc2 Ls st) : WPG C Z code ml own rt nm R n0 G cl sl h pc Ls (.int y :: .int x :: st) :=
  WP.icmp hd ho hp hp2 (fun hq => hy (fun k => by rw [(teq k).2] at hq; cases hq)) (fun hq => hn (Decidable.byContradiction fun k => by rw [(feq k).2] at hq; cases hq))
theorem WP.ifc {pc1 pc2 : Nat} {x : Int32} {cd : ClassFile.Cond} {o : Int} (hd : decode code pc = .ok (.ifCond cd o, 3)) (ho : 0 ≤ (pc : Int) + o) (hp : ((pc : Int) + o).toNat = pc1) (hp2 : pc + 3 = pc2) (hy : ifCond.holds cd x = true → WPG C Z code ml own rt nm R n0 G cl sl h pc1 Ls st) (hn : ifCond.holds cd x = false → WPG C Z code ml own rt nm R n0 G cl sl h pc2 Ls st) : WPG C Z code ml own rt nm R n0 G cl sl h pc Ls (.int x :: st) := by
  subst hp2
  cases hq : ifCond.holds cd x with
  | true => exact (hy hq).pure fun X hx hby hown hZ eT t q => XS.ifYes X.here hx rfl (pc0 := pc) rfl (hb hby hd) rfl hq ho hp q
  | false => exact (hn hq).pure fun X hx hby hown hZ eT t q => XS.ifNo X.here hx rfl (hb hby hd) rfl hq q
theorem WP.ifc_lt {pc1 pc2 : Nat} {x : Int32} {o : Int} (hd : decode code pc = .ok (.ifCond .lt o, 3)) (ho : 0 ≤ (pc : Int) + o) (hp : ((pc : Int) + o).toNat = pc1) (hp2 : pc + 3 = pc2) (hy : x < (0 : Int32) → WPG C Z code ml own rt nm R n0 G cl sl h pc1 Ls st) (hn : ¬ x < (0 : Int32) → WPG C Z code ml own rt nm R n0 G cl sl h pc2 Ls st) : WPG C Z code ml own rt nm R n0 G cl sl h pc Ls (.int x :: st) :=
  WP.ifc hd ho hp hp2 (fun hq => hy (Decidable.byContradiction fun k => by rw [(if0 _ _).trans (flt k).1] at hq; cases hq)) (fun hq => hn (fun k => by rw [(if0 _ _).trans (tlt k).1] at hq; cases hq))
theorem WP.ifc_ge {pc1 pc2 : Nat} {x : Int32} {o : Int} (hd : decode code pc = .ok (.ifCond .ge o, 3)) (ho : 0 ≤ (pc : Int) + o) (hp : ((pc : Int) + o).toNat = pc1) (hp2 : pc + 3 = pc2) (hy : ¬ x < (0 : Int32) → WPG C Z code ml own rt nm R n0 G cl sl h pc1 Ls st) (hn : x < (0 : Int32) → WPG C Z code ml own rt nm R n0 G cl sl h pc2 Ls st) : WPG C Z code ml own rt nm R n0 G cl sl h pc Ls (.int x :: st) :=
  WP.ifc hd ho hp hp2 (fun hq => hy (fun k => by rw [(if0 _ _).trans (tlt k).2.1] at hq; cases hq)) (fun hq => hn (Decidable.byContradiction fun k => by rw [(if0 _ _).trans (flt k).2.1] at hq; cases hq))
theorem WP.ifc_gt {pc1 pc2 : Nat} {x : Int32} {o : Int} (hd : decode code pc = .ok (.ifCond .gt o, 3)) (ho : 0 ≤ (pc : Int) + o) (hp : ((pc : Int) + o).toNat = pc1) (hp2 : pc + 3 = pc2) (hy : (0 : Int32) < x → WPG C Z code ml own rt nm R n0 G cl sl h pc1 Ls st) (hn : ¬ (0 : Int32) < x → WPG C Z code ml own rt nm R n0 G cl sl h pc2 Ls st) : WPG C Z code ml own rt nm R n0 G cl sl h pc Ls (.int x :: st) :=
  WP.ifc hd ho hp hp2 (fun hq => hy (Decidable.byContradiction fun k => by rw [(if0 _ _).trans (flt k).2.2.1] at hq; cases hq)) (fun hq => hn (fun k => by rw [(if0 _ _).trans (tlt k).2.2.1] at hq; cases hq))
theorem WP.ifc_le {pc1 pc2 : Nat} {x : Int32} {o : Int} (hd : decode code pc = .ok (.ifCond .le o, 3)) (ho : 0 ≤ (pc : Int) + o) (hp : ((pc : Int) + o).toNat = pc1) (hp2 : pc + 3 = pc2) (hy : ¬ (0 : Int32) < x → WPG C Z code ml own rt nm R n0 G cl sl h pc1 Ls st) (hn : (0 : Int32) < x → WPG C Z code ml own rt nm R n0 G cl sl h pc2 Ls st) : WPG C Z code ml own rt nm R n0 G cl sl h pc Ls (.int x :: st) :=
  WP.ifc hd ho hp hp2 (fun hq => hy (fun k => by rw [(if0 _ _).trans (tlt k).2.2.2] at hq; cases hq)) (fun hq => hn (Decidable.byContradiction fun k => by rw [(if0 _ _).trans (flt k).2.2.2] at hq; cases hq))
theorem WP.ifc_eq {pc1 pc2 : Nat} {x : Int32} {o : Int} (hd : decode code pc = .ok (.ifCond .eq o, 3)) (ho : 0 ≤ (pc : Int) + o) (hp : ((pc : Int) + o).toNat = pc1) (hp2 : pc + 3 = pc2) (hy : x = (0 : Int32) → WPG C Z code ml own rt nm R n0 G cl sl h pc1 Ls st) (hn : ¬ x = (0 : Int32) → WPG C Z code ml own rt nm R n0 G cl sl h pc2 Ls st) : WPG C Z code ml own rt nm R n0 G cl sl h pc Ls (.int x :: st) :=
  WP.ifc hd ho hp hp2 (fun hq => hy (Decidable.byContradiction fun k => by rw [(if0 _ _).trans (feq k).1] at hq; cases hq)) (fun hq => hn (fun k => by rw [(if0 _ _).trans (teq k).1] at hq; cases hq))
theorem WP.ifc_ne {pc1 pc2 : Nat} {x : Int32} {o : Int} (hd : decode code pc = .ok (.ifCond .ne o, 3)) (ho : 0 ≤ (pc : Int) + o) (hp : ((pc : Int) + o).toNat = pc1) (hp2 : pc + 3 = pc2) (hy : ¬ x = (0 : Int32) → WPG C Z code ml own rt nm R n0 G cl sl h pc1 Ls st) (hn : x = (0 : Int32) → WPG C Z code ml own rt nm R n0 G cl sl h pc2 Ls st) : WPG C Z code ml own rt nm R n0 G cl sl h pc Ls (.int x :: st) :=
  WP.ifc hd ho hp hp2 (fun hq => hy (fun k => by rw [(if0 _ _).trans (teq k).2] at hq; cases hq)) (fun hq => hn (Decidable.byContradiction fun k => by rw [(if0 _ _).trans (feq k).2] at hq; cases hq))
theorem WP.lcmp_lt {pc1 pc2 : Nat} {x y : Int64} {o : Int} (hd1 : decode code pc = .ok (.lcmp, 1)) (hp0 : pc + 1 = pc') (hd : decode code pc' = .ok (.ifCond .lt o, 3)) (ho : 0 ≤ (pc' : Int) + o) (hp : ((pc' : Int) + o).toNat = pc1) (hp2 : pc' + 3 = pc2) (hy : x < y → WPG C Z code ml own rt nm R n0 G cl sl h pc1 Ls st) (hn : ¬ x < y → WPG C Z code ml own rt nm R n0 G cl sl h pc2 Ls st) : WPG C Z code ml own rt nm R n0 G cl sl h pc Ls (.long y :: .long x :: st) :=
  WP.lcmp hd1 hp0 (WP.ifc_lt hd ho hp hp2 (fun k => hy ((lw_lt x y).mp k)) (fun k => hn (fun z => k ((lw_lt x y).mpr z))))
theorem WP.lcmp_ge {pc1 pc2 : Nat} {x y : Int64} {o : Int} (hd1 : decode code pc = .ok (.lcmp, 1)) (hp0 : pc + 1 = pc') (hd : decode code pc' = .ok (.ifCond .ge o, 3)) (ho : 0 ≤ (pc' : Int) + o) (hp : ((pc' : Int) + o).toNat = pc1) (hp2 : pc' + 3 = pc2) (hy : ¬ x < y → WPG C Z code ml own rt nm R n0 G cl sl h pc1 Ls st) (hn : x < y → WPG C Z code ml own rt nm R n0 G cl sl h pc2 Ls st) : WPG C Z code ml own rt nm R n0 G cl sl h pc Ls (.long y :: .long x :: st) :=
  WP.lcmp hd1 hp0 (WP.ifc_ge hd ho hp hp2 (fun k => hy (fun z => k ((lw_lt x y).mpr z))) (fun k => hn ((lw_lt x y).mp k)))
theorem WP.lcmp_gt {pc1 pc2 : Nat} {x y : Int64} {o : Int} (hd1 : decode code pc = .ok (.lcmp, 1)) (hp0 : pc + 1 = pc') (hd : decode code pc' = .ok (.ifCond .gt o, 3)) (ho : 0 ≤ (pc' : Int) + o) (hp : ((pc' : Int) + o).toNat = pc1) (hp2 : pc' + 3 = pc2) (hy : y < x → WPG C Z code ml own rt nm R n0 G cl sl h pc1 Ls st) (hn : ¬ y < x → WPG C Z code ml own rt nm R n0 G cl sl h pc2 Ls st) : WPG C Z code ml own rt nm R n0 G cl sl h pc Ls (.long y :: .long x :: st) :=
  WP.lcmp hd1 hp0 (WP.ifc_gt hd ho hp hp2 (fun k => hy ((lw_gt x y).mp k)) (fun k => hn (fun z => k ((lw_gt x y).mpr z))))
theorem WP.lcmp_le {pc1 pc2 : Nat} {x y : Int64} {o : Int} (hd1 : decode code pc = .ok (.lcmp, 1)) (hp0 : pc + 1 = pc') (hd : decode code pc' = .ok (.ifCond .le o, 3)) (ho : 0 ≤ (pc' : Int) + o) (hp : ((pc' : Int) + o).toNat = pc1) (hp2 : pc' + 3 = pc2) (hy : ¬ y < x → WPG C Z code ml own rt nm R n0 G cl sl h pc1 Ls st) (hn : y < x → WPG C Z code ml own rt nm R n0 G cl sl h pc2 Ls st) : WPG C Z code ml own rt nm R n0 G cl sl h pc Ls (.long y :: .long x :: st) :=
  WP.lcmp hd1 hp0 (WP.ifc_le hd ho hp hp2 (fun k => hy (fun z => k ((lw_gt x y).mpr z))) (fun k => hn ((lw_gt x y).mp k)))
theorem WP.lcmp_eq {pc1 pc2 : Nat} {x y : Int64} {o : Int} (hd1 : decode code pc = .ok (.lcmp, 1)) (hp0 : pc + 1 = pc') (hd : decode code pc' = .ok (.ifCond .eq o, 3)) (ho : 0 ≤ (pc' : Int) + o) (hp : ((pc' : Int) + o).toNat = pc1) (hp2 : pc' + 3 = pc2) (hy : x = y → WPG C Z code ml own rt nm R n0 G cl sl h pc1 Ls st) (hn : ¬ x = y → WPG C Z code ml own rt nm R n0 G cl sl h pc2 Ls st) : WPG C Z code ml own rt nm R n0 G cl sl h pc Ls (.long y :: .long x :: st) :=
  WP.lcmp hd1 hp0 (WP.ifc_eq hd ho hp hp2 (fun k => hy ((lw_eq x y).mp k)) (fun k => hn (fun z => k ((lw_eq x y).mpr z))))
theorem WP.lcmp_ne {pc1 pc2 : Nat} {x y : Int64} {o : Int} (hd1 : decode code pc = .ok (.lcmp, 1)) (hp0 : pc + 1 = pc') (hd : decode code pc' = .ok (.ifCond .ne o, 3)) (ho : 0 ≤ (pc' : Int) + o) (hp : ((pc' : Int) + o).toNat = pc1) (hp2 : pc' + 3 = pc2) (hy : ¬ x = y → WPG C Z code ml own rt nm R n0 G cl sl h pc1 Ls st) (hn : x = y → WPG C Z code ml own rt nm R n0 G cl sl h pc2 Ls st) : WPG C Z code ml own rt nm R n0 G cl sl h pc Ls (.long y :: .long x :: st) :=
  WP.lcmp hd1 hp0 (WP.ifc_ne hd ho hp hp2 (fun k => hy (fun z => k ((lw_eq x y).mpr z))) (fun k => hn ((lw_eq x y).mp k)))
theorem WP.ifnullY {b : Addr} {o : Int} (hd : decode code pc = .ok (.ifnull o, 3)) (ho : 0 ≤ (pc : Int) + o) (hp : ((pc : Int) + o).toNat = pc') (hr : WPG C Z code ml own rt nm R n0 G cl sl h pc' Ls st) : WPG C Z code ml own rt nm R n0 G cl sl h pc Ls (.null :: st) :=
  hr.pure fun X hx hby hown hZ eT t q => XS.ifnullYes X.here hx rfl (pc0 := pc) rfl (hb hby hd) rfl ho hp q
theorem WP.ifnullN {b : Addr} {o : Int} (hd : decode code pc = .ok (.ifnull o, 3)) (hp : pc + 3 = pc') (hr : WPG C Z code ml own rt nm R n0 G cl sl h pc' Ls st) : WPG C Z code ml own rt nm R n0 G cl sl h pc Ls (.ref b :: st) := by
  subst hp
  exact hr.pure fun X hx hby hown hZ eT t q => XS.ifnullNo X.here hx rfl (hb hby hd) rfl q
theorem WP.ifnonnullY {b : Addr} {o : Int} (hd : decode code pc = .ok (.ifnonnull o, 3)) (ho : 0 ≤ (pc : Int) + o) (hp : ((pc : Int) + o).toNat = pc') (hr : WPG C Z code ml own rt nm R n0 G cl sl h pc' Ls st) : WPG C Z code ml own rt nm R n0 G cl sl h pc Ls (.ref b :: st) :=
  hr.pure fun X hx hby hown hZ eT t q => XS.ifnonnullYes X.here hx rfl (pc0 := pc) rfl (hb hby hd) rfl ho hp q
theorem WP.ifnonnullN {b : Addr} {o : Int} (hd : decode code pc = .ok (.ifnonnull o, 3)) (hp : pc + 3 = pc') (hr : WPG C Z code ml own rt nm R n0 G cl sl h pc' Ls st) : WPG C Z code ml own rt nm R n0 G cl sl h pc Ls (.null :: st) := by
  subst hp
  exact hr.pure fun X hx hby hown hZ eT t q => XS.ifnonnullNo X.here hx rfl (hb hby hd) rfl q
theorem WP.acmp_eq {pc1 pc2 : Nat} {x y : Value} {o : Int} (hd : decode code pc = .ok (.if_acmp .eq o, 3)) (h1 : x.isRef = true) (h2 : y.isRef = true) (ho : 0 ≤ (pc : Int) + o) (hp : ((pc : Int) + o).toNat = pc1) (hp2 : pc + 3 = pc2) (hy : x = y → WPG C Z code ml own rt nm R n0 G cl sl h pc1 Ls st) (hn : ¬ x = y → WPG C Z code ml own rt nm R n0 G cl sl h pc2 Ls st) : WPG C Z code ml own rt nm R n0 G cl sl h pc Ls (y :: x :: st) := by
  by_cases k : x = y
  · exact (hy k).pure fun X hx hby hown hZ eT t q => Jvm.RoadKit.acmp X hx rfl h1 h2 (pc0 := pc) (same := true) rfl (hb hby hd) rfl (decide_eq_true k) ho (by simp [acV, hp, hp2]) q
  · exact (hn k).pure fun X hx hby hown hZ eT t q => Jvm.RoadKit.acmp X hx rfl h1 h2 (pc0 := pc) (same := false) rfl (hb hby hd) rfl (decide_eq_false k) ho (by simp [acV, hp, hp2]) q
theorem WP.acmp_ne {pc1 pc2 : Nat} {x y : Value} {o : Int} (hd : decode code pc = .ok (.if_acmp .ne o, 3)) (h1 : x.isRef = true) (h2 : y.isRef = true) (ho : 0 ≤ (pc : Int) + o) (hp : ((pc : Int) + o).toNat = pc1) (hp2 : pc + 3 = pc2) (hy : ¬ x = y → WPG C Z code ml own rt nm R n0 G cl sl h pc1 Ls st) (hn : x = y → WPG C Z code ml own rt nm R n0 G cl sl h pc2 Ls st) : WPG C Z code ml own rt nm R n0 G cl sl h pc Ls (y :: x :: st) := by
  by_cases k : x = y
  · exact (hn k).pure fun X hx hby hown hZ eT t q => Jvm.RoadKit.acmp X hx rfl h1 h2 (pc0 := pc) (same := true) rfl (hb hby hd) rfl (decide_eq_true k) ho (by simp [acV, hp, hp2]) q
  · exact (hy k).pure fun X hx hby hown hZ eT t q => Jvm.RoadKit.acmp X hx rfl h1 h2 (pc0 := pc) (same := false) rfl (hb hby hd) rfl (decide_eq_false k) ho (by simp [acV, hp, hp2]) q
theorem WP.getF {i : Nat} {R0 O n d host : String} {a : Addr} {v : Value} (hd : decode code pc = .ok (.getfield i, 3)) (hp : pc + 3 = pc') (w : (Jvm.Cond.fieldLink own i R0 n d).before a0 Z = true ∨ (Jvm.Cond.fieldLinkNest own i R0 n d host).before a0 Z = true) (via : Via Z R0 O n d) (F : Fld Z h a O n d v) (hr : WPG C Z code ml own rt nm R n0 G cl sl h pc' Ls (v :: st)) : WPG C Z code ml own rt nm R n0 G cl sl h pc Ls (.ref a :: st) := by
  subst hp
  refine hr.step fun X hx hby hml hown hZ hnm eT N => ?_
  obtain ⟨T', X', e', k⟩ := RoadKit.getF X hx hZ hown w via eT F (g := mkF _ pc Ls (.ref a :: st)) rfl rfl (hb hby hd)
  exact ⟨T', _, X', e', N, fun t q => k t q⟩
theorem WP.getS {i : Nat} {R0 O n d host : String} {v : Value} (hd : decode code pc = .ok (.getstatic i, 3)) (hp : pc + 3 = pc') (w : (Jvm.Cond.fieldLink own i R0 n d).before a0 Z = true ∨ (Jvm.Cond.fieldLinkNest own i R0 n d host).before a0 Z = true) (via : Via Z R0 O n d) (F : Sta Z h O n d v) (hr : WPG C Z code ml own rt nm R n0 G cl sl h pc' Ls (v :: st)) : WPG C Z code ml own rt nm R n0 G cl sl h pc Ls st := by
  subst hp
  refine hr.step fun X hx hby hml hown hZ hnm eT N => ?_
  obtain ⟨T', X', e', k⟩ := getS2 X hx hZ hown w via eT F (g := mkF _ pc Ls st) rfl (hb hby hd)
  exact ⟨T', _, X', e', N, fun t q => k t q⟩
theorem WP.putF {i kk : Nat} {R0 O n d host K : String} {ty : FieldType} {a : Addr} {v old : Value} (hd : decode code pc = .ok (.putfield i, 3)) (hp : pc + 3 = pc') (w : (Jvm.Cond.fieldLink own i R0 n d).before a0 Z = true ∨ (Jvm.Cond.fieldLinkNest own i R0 n d host).before a0 Z = true) (via : Via Z R0 O n d) (F : Fld Z h a O n d old) (E : Exa Z h a K) (L : (Jvm.Cond.lays K O n d).before a0 Z = true ∨ ((Jvm.Cond.laysFinal K O n d).before a0 Z = true ∧ own = O ∧ nm = "<init>")) (wi : (Jvm.Cond.instantiable K kk).before a0 Z = true)
    (hty : parseFieldDescriptor d = some ty) (hn : narrow ty v = v) (hf : fits ty v = true) (ge : n0 ≤ a) (hr : ∀ h', Wr h h' a (Jvm.RoadKit.slotOf Z O n d) v → WPG C Z code ml own rt nm R n0 G cl sl h' pc' Ls st) : WPG C Z code ml own rt nm R n0 G cl sl h pc Ls (v :: .ref a :: st) := by
  subst hp
  intro k1 k2 k3 k4 k5 k6 k7 k8 T locs X e N
  obtain ⟨T', h', X', e', W', k⟩ := RoadKit.putF X k1 k5 k4 w via e F E (L.imp id fun z => ⟨z.1, z.2.1, k8.trans z.2.2⟩) wi hty hn hf (g := mkF _ pc Ls (v :: .ref a :: st)) rfl rfl (hb k2 hd)
  obtain ⟨s₂, v', L', h1, h2⟩ := hr h' W' k1 k2 k3 k4 k5 k6 k7 k8 T' _ X' e' (Fr.snoc X' N ge)
  exact ⟨s₂, v', L', k _ h1, h2⟩
theorem WP.putFN {i kk : Nat} {R0 O n d K : String} {ty : FieldType} {a : Addr} {v v' old : Value} (hd : decode code pc = .ok (.putfield i, 3)) (hp : pc + 3 = pc') (w : (Jvm.Cond.fieldLink own i R0 n d).before a0 Z = true) (via : Via Z R0 O n d) (F : Fld Z h a O n d old) (E : Exa Z h a K) (L : (Jvm.Cond.lays K O n d).before a0 Z = true ∨ ((Jvm.Cond.laysFinal K O n d).before a0 Z = true ∧ own = O ∧ nm = "<init>")) (wi : (Jvm.Cond.instantiable K kk).before a0 Z = true)
    (hty : parseFieldDescriptor d = some ty) (hn : narrow ty v = v') (hf : fits ty v' = true) (ge : n0 ≤ a) (hr : ∀ h', Wr h h' a (Jvm.RoadKit.slotOf Z O n d) v' → WPG C Z code ml own rt nm R n0 G cl sl h' pc' Ls st) : WPG C Z code ml own rt nm R n0 G cl sl h pc Ls (v :: .ref a :: st) := by
  subst hp
  intro k1 k2 k3 k4 k5 k6 k7 k8 T locs X e N
  obtain ⟨T', h', X', e', W', k⟩ := RoadKit.putFN X k1 k5 k4 w via e F E (L.imp id fun z => ⟨z.1, z.2.1, k8.trans z.2.2⟩) wi hty hn hf (g := mkF _ pc Ls (v :: .ref a :: st)) rfl rfl (hb k2 hd)
  obtain ⟨s₂, v'', L', h1, h2⟩ := hr h' W' k1 k2 k3 k4 k5 k6 k7 k8 T' _ X' e' (Fr.snoc X' N ge)
  exact ⟨s₂, v'', L', k _ h1, h2⟩
theorem WP.newO {i n : Nat} {K : String} {cl' sl' : Nat} (hd : decode code pc = .ok (.new i, 3)) (hp : pc + 3 = pc') (w : (Jvm.Cond.classLink own i K).before a0 Z = true) (wi : (Jvm.Cond.instantiable K n).before a0 Z = true) (wz : (Jvm.Cond.initialized K).before a0 Z = true) (hc : cl + 1 = cl') (hs : sl + n = sl') (hc' : cl' ≤ R.cells) (hs' : sl' ≤ R.slots)
    (hr : ∀ h' a, a = h.size → Ext h h' → Exa Z h' a K → (∀ {O nf d : String} {ty : FieldType}, Laid Z a0 K O nf d → parseFieldDescriptor d = some ty → Fld Z h' a O nf d (defaultValue ty)) → WPG C Z code ml own rt nm R n0 G cl' sl' h' pc' Ls (.ref a :: st)) : WPG C Z code ml own rt nm R n0 G cl sl h pc Ls st := by
  subst hp hc hs
  intro k1 k2 k3 k4 k5 k6 k7 k8 T locs X e N
  obtain ⟨T', h', X', e', E', A', D', -, k⟩ := RoadKit.newO X k1 k5 k4 w wi wz e (g := mkF _ pc Ls st) rfl (hb k2 hd) hc' hs'
  obtain ⟨s₂, v', L', h1, h2⟩ := hr h' _ rfl E' A' D' k1 k2 k3 k4 k5 k6 k7 k8 T' _ X' e' N
  exact ⟨s₂, v', L', k _ h1, h2⟩
theorem WP.checkcast {i : Nat} {K : String} {a : Addr} (hd : decode code pc = .ok (.checkcast i, 3)) (hp : pc + 3 = pc') (w : (Jvm.Cond.classLink own i K).before a0 Z = true) (F : Ins Z h a K true) (hr : WPG C Z code ml own rt nm R n0 G cl sl h pc' Ls (.ref a :: st)) : WPG C Z code ml own rt nm R n0 G cl sl h pc Ls (.ref a :: st) := by
  subst hp
  refine hr.step fun X hx hby hml hown hZ hnm eT N => ?_
  obtain ⟨T', X', e', k⟩ := castY X hx hZ hown w eT F (g := mkF _ pc Ls (.ref a :: st)) rfl rfl (hb hby hd)
  exact ⟨T', _, X', e', N, fun t q => k t q⟩
theorem WP.instanceof {i : Nat} {K : String} {a : Addr} (hd : decode code pc = .ok (.instanceof i, 3)) (hp : pc + 3 = pc') (w : (Jvm.Cond.classLink own i K).before a0 Z = true) (F : Ins Z h a K true) (hr : WPG C Z code ml own rt nm R n0 G cl sl h pc' Ls (.int 1 :: st)) : WPG C Z code ml own rt nm R n0 G cl sl h pc Ls (.ref a :: st) := by
  subst hp
  refine hr.step fun X hx hby hml hown hZ hnm eT N => ?_
  obtain ⟨T', X', e', k⟩ := instY X hx hZ hown w eT F (g := mkF _ pc Ls (.ref a :: st)) rfl rfl (hb hby hd)
  exact ⟨T', _, X', e', N, fun t q => k t q⟩
/-- an array of n elements, the i-th is f i -/
def Arf (Z : State) (h : Heap) (a : Addr) (ty : FieldType) (n : Nat) (f : Nat → Value) : Prop := ∃ c : Cell, Arr Z h a c ty ∧ c.slots.size = n ∧ n < 2147483648 ∧ (∀ i, i < n → c.slots[i]? = some (f i)) ∧ ∀ i, i < n → fits ty (f i) = true
theorem Arf.lt {a : Addr} {ty : FieldType} {n : Nat} {f : Nat → Value} (A : Arf Z h a ty n f) : a < h.size := by obtain ⟨c, A, -⟩ := A; exact A.lt
theorem Arf.small {a : Addr} {ty : FieldType} {n : Nat} {f : Nat → Value} (A : Arf Z h a ty n f) : n < 2147483648 := by obtain ⟨c, -, -, h, -⟩ := A; exact h
theorem Arf.keep {h' : Heap} {ws : List Addr} {a : Addr} {ty : FieldType} {n : Nat} {f : Nat → Value} (A : Arf Z h a ty n f) (K : Keep h h' ws) (q : a ∉ ws) : Arf Z h' a ty n f := by obtain ⟨c, A, r⟩ := A; exact ⟨c, ⟨K.2.1 a c A.1 q, A.2⟩, r⟩
theorem Arf.ext {h' : Heap} {a : Addr} {ty : FieldType} {n : Nat} {f : Nat → Value} (A : Arf Z h a ty n f) (E : Ext h h') : Arf Z h' a ty n f := by obtain ⟨c, A, r⟩ := A; exact ⟨c, A.ext E, r⟩
theorem Arf.fit {a : Addr} {ty : FieldType} {n : Nat} {f : Nat → Value} (A : Arf Z h a ty n f) {i : Nat} (hi : i < n) : fits ty (f i) = true := by obtain ⟨c, -, -, -, -, r⟩ := A; exact r i hi
theorem Arf.congr {a : Addr} {ty : FieldType} {n : Nat} {f g : Nat → Value} (A : Arf Z h a ty n f) (q : ∀ i, i < n → f i = g i) : Arf Z h a ty n g := by
  obtain ⟨c, A, r1, r2, r3, r4⟩ := A; exact ⟨c, A, r1, r2, fun i hi => by rw [← q i hi]; exact r3 i hi, fun i hi => by rw [← q i hi]; exact r4 i hi⟩
theorem idxN {j : Int32} {i n : Nat} (hi : j.toInt = (i : Int)) (hl : i < n) : ¬ (j < 0 ∨ n ≤ j.toNatClampNeg) ∧ j.toNatClampNeg = i := by
  have e0 : (0 : Int32).toInt = 0 := rfl
  simp only [Int32.lt_iff_toInt_lt, Int32.toNatClampNeg, hi, e0]; omega
theorem WP.baload {a : Addr} {j : Int32} {n : Nat} {f : Nat → Value} {v : Value} (i : Nat) (hd : decode code pc = .ok (.baload, 1)) (hp : pc + 1 = pc') (A : Arf Z h a .byte n f) (hi : j.toInt = (i : Int)) (hl : i < n) (hv : f i = v) (hr : WPG C Z code ml own rt nm R n0 G cl sl h pc' Ls (v :: st)) : WPG C Z code ml own rt nm R n0 G cl sl h pc Ls (.int j :: .ref a :: st) := by
  subst hp hv
  obtain ⟨c, A, r1, r2, r3, r4⟩ := A
  obtain ⟨q1, q2⟩ := idxN hi hl
  exact hr.pure fun X hx hby hown hZ eT t q => X.baloadBytes hx (j := j) (by rw [eT]; exact A.1) (State.isArrayOf_alike hZ.alike A.2.1) A.2.2 (by rw [r1]; exact q1) (by rw [q2]; exact r3 i hl) (g := mkF _ pc Ls (.int j :: .ref a :: st)) rfl rfl (hb hby hd) t q
theorem WP.baloadZ {a : Addr} {j : Int32} {n : Nat} {f : Nat → Value} {v : Value} (i : Nat) (hd : decode code pc = .ok (.baload, 1)) (hp : pc + 1 = pc') (A : Arf Z h a .boolean n f) (hi : j.toInt = (i : Int)) (hl : i < n) (hv : f i = v) (hr : WPG C Z code ml own rt nm R n0 G cl sl h pc' Ls (v :: st)) : WPG C Z code ml own rt nm R n0 G cl sl h pc Ls (.int j :: .ref a :: st) := by
  subst hp hv
  obtain ⟨c, A, r1, r2, r3, r4⟩ := A
  obtain ⟨q1, q2⟩ := idxN hi hl
  exact hr.pure fun X hx hby hown hZ eT t q => X.baloadBooleans hx (j := j) (by rw [eT]; exact A.1) (State.isArrayOf_alike hZ.alike A.2.1) A.2.2 (by rw [r1]; exact q1) (by rw [q2]; exact r3 i hl) (g := mkF _ pc Ls (.int j :: .ref a :: st)) rfl rfl (hb hby hd) t q
theorem WP.caload {a : Addr} {j : Int32} {n : Nat} {f : Nat → Value} {v : Value} (i : Nat) (hd : decode code pc = .ok (.caload, 1)) (hp : pc + 1 = pc') (A : Arf Z h a .char n f) (hi : j.toInt = (i : Int)) (hl : i < n) (hv : f i = v) (hr : WPG C Z code ml own rt nm R n0 G cl sl h pc' Ls (v :: st)) : WPG C Z code ml own rt nm R n0 G cl sl h pc Ls (.int j :: .ref a :: st) := by
  subst hp hv
  obtain ⟨c, A, r1, r2, r3, r4⟩ := A
  obtain ⟨q1, q2⟩ := idxN hi hl
  exact hr.pure fun X hx hby hown hZ eT t q => X.caload hx (j := j) (by rw [eT]; exact A.1) (State.isArrayOf_alike hZ.alike A.2.1) A.2.2 (by rw [r1]; exact q1) (by rw [q2]; exact r3 i hl) (g := mkF _ pc Ls (.int j :: .ref a :: st)) rfl rfl (hb hby hd) t q
theorem WP.iaload {a : Addr} {j : Int32} {n : Nat} {f : Nat → Value} {v : Value} (i : Nat) (hd : decode code pc = .ok (.iaload, 1)) (hp : pc + 1 = pc') (A : Arf Z h a .int n f) (hi : j.toInt = (i : Int)) (hl : i < n) (hv : f i = v) (hr : WPG C Z code ml own rt nm R n0 G cl sl h pc' Ls (v :: st)) : WPG C Z code ml own rt nm R n0 G cl sl h pc Ls (.int j :: .ref a :: st) := by
  subst hp hv
  obtain ⟨c, A, r1, r2, r3, r4⟩ := A
  obtain ⟨q1, q2⟩ := idxN hi hl
  exact hr.pure fun X hx hby hown hZ eT t q => X.iaload hx (j := j) (by rw [eT]; exact A.1) (State.isArrayOf_alike hZ.alike A.2.1) A.2.2 (by rw [r1]; exact q1) (by rw [q2]; exact r3 i hl) (g := mkF _ pc Ls (.int j :: .ref a :: st)) rfl rfl (hb hby hd) t q
theorem WP.laload {a : Addr} {j : Int32} {n : Nat} {f : Nat → Value} {v : Value} (i : Nat) (hd : decode code pc = .ok (.laload, 1)) (hp : pc + 1 = pc') (A : Arf Z h a .long n f) (hi : j.toInt = (i : Int)) (hl : i < n) (hv : f i = v) (hr : WPG C Z code ml own rt nm R n0 G cl sl h pc' Ls (v :: st)) : WPG C Z code ml own rt nm R n0 G cl sl h pc Ls (.int j :: .ref a :: st) := by
  subst hp hv
  obtain ⟨c, A, r1, r2, r3, r4⟩ := A
  obtain ⟨q1, q2⟩ := idxN hi hl
  exact hr.pure fun X hx hby hown hZ eT t q => X.laload hx (j := j) (by rw [eT]; exact A.1) (State.isArrayOf_alike hZ.alike A.2.1) A.2.2 (by rw [r1]; exact q1) (by rw [q2]; exact r3 i hl) (g := mkF _ pc Ls (.int j :: .ref a :: st)) rfl rfl (hb hby hd) t q
theorem WP.saload {a : Addr} {j : Int32} {n : Nat} {f : Nat → Value} {v : Value} (i : Nat) (hd : decode code pc = .ok (.saload, 1)) (hp : pc + 1 = pc') (A : Arf Z h a .short n f) (hi : j.toInt = (i : Int)) (hl : i < n) (hv : f i = v) (hr : WPG C Z code ml own rt nm R n0 G cl sl h pc' Ls (v :: st)) : WPG C Z code ml own rt nm R n0 G cl sl h pc Ls (.int j :: .ref a :: st) := by
  subst hp hv
  obtain ⟨c, A, r1, r2, r3, r4⟩ := A
  obtain ⟨q1, q2⟩ := idxN hi hl
  exact hr.pure fun X hx hby hown hZ eT t q => X.saload hx (j := j) (by rw [eT]; exact A.1) (State.isArrayOf_alike hZ.alike A.2.1) A.2.2 (by rw [r1]; exact q1) (by rw [q2]; exact r3 i hl) (g := mkF _ pc Ls (.int j :: .ref a :: st)) rfl rfl (hb hby hd) t q
theorem WP.aaload {a : Addr} {j : Int32} {n : Nat} {f : Nat → Value} {v : Value} {ty : FieldType} (i : Nat) (hd : decode code pc = .ok (.aaload, 1)) (hp : pc + 1 = pc') (A : Arf Z h a ty n f) (hty : ty.isReference = true) (hi : j.toInt = (i : Int)) (hl : i < n) (hv : f i = v) (hr : WPG C Z code ml own rt nm R n0 G cl sl h pc' Ls (v :: st)) : WPG C Z code ml own rt nm R n0 G cl sl h pc Ls (.int j :: .ref a :: st) := by
  subst hp hv
  obtain ⟨c, A, r1, r2, r3, r4⟩ := A
  obtain ⟨q1, q2⟩ := idxN hi hl
  exact hr.pure fun X hx hby hown hZ eT t q => X.aaload hx (j := j) (by rw [eT]; exact A.1) (State.isArrayOf_alike hZ.alike A.2.1) hty A.2.2 (by rw [r1]; exact q1) (by rw [q2]; exact r3 i hl) (g := mkF _ pc Ls (.int j :: .ref a :: st)) rfl rfl (hb hby hd) t q
theorem WP.arraylength {a : Addr} {n : Nat} {f : Nat → Value} {ty : FieldType} {z : Int32} (hd : decode code pc = .ok (.arraylength, 1)) (hp : pc + 1 = pc') (A : Arf Z h a ty n f) (hz : n.toInt32 = z) (hr : WPG C Z code ml own rt nm R n0 G cl sl h pc' Ls (.int z :: st)) : WPG C Z code ml own rt nm R n0 G cl sl h pc Ls (.ref a :: st) := by
  subst hp hz
  obtain ⟨c, A, r1, r2, r3, r4⟩ := A
  exact hr.pure fun X hx hby hown hZ eT t q => X.arraylength hx (by rw [eT]; exact A.1) (State.isArrayOf_alike hZ.alike A.2.1) (g := mkF _ pc Ls (.ref a :: st)) rfl rfl (hb hby hd) t (by rw [r1]; exact q)
theorem Arf.set {h' : Heap} {a : Addr} {ty : FieldType} {n : Nat} {f : Nat → Value} {c : Cell} {v : Value} {j : Int32} {i : Nat} (A : Arr Z h a c ty) (r1 : c.slots.size = n) (r2 : n < 2147483648) (r3 : ∀ i, i < n → c.slots[i]? = some (f i)) (r4 : ∀ i, i < n → fits ty (f i) = true) (hv : fits ty v = true) (W : Wr h h' a j.toNatClampNeg v) (hj : j.toNatClampNeg = i) (hl : i < n) : Arf Z h' a ty n (fun k => if k = i then v else f k) := by
  subst hj
  refine ⟨_, A.same W, by rw [sz_set]; exact r1, r2, fun k hk => ?_, fun k hk => ?_⟩
  · by_cases e : k = j.toNatClampNeg
    · show _ = some (if k = j.toNatClampNeg then v else f k)
      rw [if_pos e, e]; simp [Cell.setSlot, r1, hl]
    · show _ = some (if k = j.toNatClampNeg then v else f k)
      rw [if_neg e, ← r3 k hk]; exact Array.getElem?_setIfInBounds_ne (Ne.symm e)
  · by_cases e : k = j.toNatClampNeg
    · simp only [if_pos e]; exact hv
    · simp only [if_neg e]; exact r4 k hk
theorem WP.bastore {a : Addr} {j : Int32} {x : Int32} {n : Nat} {f : Nat → Value} (i : Nat) (hd : decode code pc = .ok (.bastore, 1)) (hp : pc + 1 = pc') (A : Arf Z h a .byte n f) (hi : j.toInt = (i : Int)) (hl : i < n) (ge : n0 ≤ a) (hr : ∀ h', Keep h h' [a] → Arf Z h' a .byte n (fun k => if k = i then .int (nar .byte x) else f k) → WPG C Z code ml own rt nm R n0 G cl sl h' pc' Ls st) : WPG C Z code ml own rt nm R n0 G cl sl h pc Ls (.int x :: .int j :: .ref a :: st) := by
  subst hp
  obtain ⟨c, A, r1, r2, r3, r4⟩ := A
  obtain ⟨q1, q2⟩ := idxN hi hl
  intro k1 k2 k3 k4 k5 k6 k7 k8 T locs X e N
  obtain ⟨T', h', X', e', W', k⟩ := stB X k1 k5 e A (j := j) (x := x) (by rw [r1]; exact q1) (g := mkF _ pc Ls (.int x :: .int j :: .ref a :: st)) rfl rfl (hb k2 hd)
  obtain ⟨s₂, v', L', h1, h2⟩ := hr h' (Keep.of_wr W') (Arf.set A r1 r2 r3 r4 (fits_nar_byte x) W' q2 hl) k1 k2 k3 k4 k5 k6 k7 k8 T' _ X' e' (Fr.snoc X' N ge)
  exact ⟨s₂, v', L', k _ h1, h2⟩
theorem WP.castore {a : Addr} {j : Int32} {x : Int32} {n : Nat} {f : Nat → Value} (i : Nat) (hd : decode code pc = .ok (.castore, 1)) (hp : pc + 1 = pc') (A : Arf Z h a .char n f) (hi : j.toInt = (i : Int)) (hl : i < n) (ge : n0 ≤ a) (hr : ∀ h', Keep h h' [a] → Arf Z h' a .char n (fun k => if k = i then .int (nar .char x) else f k) → WPG C Z code ml own rt nm R n0 G cl sl h' pc' Ls st) : WPG C Z code ml own rt nm R n0 G cl sl h pc Ls (.int x :: .int j :: .ref a :: st) := by
  subst hp
  obtain ⟨c, A, r1, r2, r3, r4⟩ := A
  obtain ⟨q1, q2⟩ := idxN hi hl
  intro k1 k2 k3 k4 k5 k6 k7 k8 T locs X e N
  obtain ⟨T', h', X', e', W', k⟩ := stC X k1 k5 e A (j := j) (x := x) (by rw [r1]; exact q1) (g := mkF _ pc Ls (.int x :: .int j :: .ref a :: st)) rfl rfl (hb k2 hd)
  obtain ⟨s₂, v', L', h1, h2⟩ := hr h' (Keep.of_wr W') (Arf.set A r1 r2 r3 r4 (fits_nar_char x) W' q2 hl) k1 k2 k3 k4 k5 k6 k7 k8 T' _ X' e' (Fr.snoc X' N ge)
  exact ⟨s₂, v', L', k _ h1, h2⟩
theorem WP.iastore {a : Addr} {j : Int32} {x : Int32} {n : Nat} {f : Nat → Value} (i : Nat) (hd : decode code pc = .ok (.iastore, 1)) (hp : pc + 1 = pc') (A : Arf Z h a .int n f) (hi : j.toInt = (i : Int)) (hl : i < n) (ge : n0 ≤ a) (hr : ∀ h', Keep h h' [a] → Arf Z h' a .int n (fun k => if k = i then .int x else f k) → WPG C Z code ml own rt nm R n0 G cl sl h' pc' Ls st) : WPG C Z code ml own rt nm R n0 G cl sl h pc Ls (.int x :: .int j :: .ref a :: st) := by
  subst hp
  obtain ⟨c, A, r1, r2, r3, r4⟩ := A
  obtain ⟨q1, q2⟩ := idxN hi hl
  intro k1 k2 k3 k4 k5 k6 k7 k8 T locs X e N
  obtain ⟨T', h', X', e', W', k⟩ := stI X k1 k5 e A (j := j) (x := x) (by rw [r1]; exact q1) (g := mkF _ pc Ls (.int x :: .int j :: .ref a :: st)) rfl rfl (hb k2 hd)
  obtain ⟨s₂, v', L', h1, h2⟩ := hr h' (Keep.of_wr W') (Arf.set A r1 r2 r3 r4 rfl W' q2 hl) k1 k2 k3 k4 k5 k6 k7 k8 T' _ X' e' (Fr.snoc X' N ge)
  exact ⟨s₂, v', L', k _ h1, h2⟩
theorem WP.lastore {a : Addr} {j : Int32} {x : Int64} {n : Nat} {f : Nat → Value} (i : Nat) (hd : decode code pc = .ok (.lastore, 1)) (hp : pc + 1 = pc') (A : Arf Z h a .long n f) (hi : j.toInt = (i : Int)) (hl : i < n) (ge : n0 ≤ a) (hr : ∀ h', Keep h h' [a] → Arf Z h' a .long n (fun k => if k = i then .long x else f k) → WPG C Z code ml own rt nm R n0 G cl sl h' pc' Ls st) : WPG C Z code ml own rt nm R n0 G cl sl h pc Ls (.long x :: .int j :: .ref a :: st) := by
  subst hp
  obtain ⟨c, A, r1, r2, r3, r4⟩ := A
  obtain ⟨q1, q2⟩ := idxN hi hl
  intro k1 k2 k3 k4 k5 k6 k7 k8 T locs X e N
  obtain ⟨T', h', X', e', W', k⟩ := stJ X k1 k5 e A (j := j) (x := x) (by rw [r1]; exact q1) (g := mkF _ pc Ls (.long x :: .int j :: .ref a :: st)) rfl rfl (hb k2 hd)
  obtain ⟨s₂, v', L', h1, h2⟩ := hr h' (Keep.of_wr W') (Arf.set A r1 r2 r3 r4 rfl W' q2 hl) k1 k2 k3 k4 k5 k6 k7 k8 T' _ X' e' (Fr.snoc X' N ge)
  exact ⟨s₂, v', L', k _ h1, h2⟩
theorem WP.newP {aty : ArrayType} {z : Int32} {n cap : Nat} {cl' sl' : Nat} (hd : decode code pc = .ok (.newarray aty, 2)) (hp : pc + 2 = pc') (w : (Jvm.Cond.arrayClass (newarray.typeOf aty)).before a0 Z = true) (hz : z.toInt = (n : Int)) (hcap : n ≤ cap) (hbig : cap * 8 ≤ 536870912) (hc : cl + 1 = cl') (hs : sl + cap = sl') (hc' : cl' ≤ R.cells) (hs' : sl' ≤ R.slots)
    (hr : ∀ h' a, a = h.size → Ext h h' → Arf Z h' a (newarray.typeOf aty) n (fun _ => defaultValue (newarray.typeOf aty)) → WPG C Z code ml own rt nm R n0 G cl' sl' h' pc' Ls (.ref a :: st)) : WPG C Z code ml own rt nm R n0 G cl sl h pc Ls (.int z :: st) := by
  subst hp hc hs
  have e0 : (0 : Int32).toInt = 0 := rfl
  have hzn : z.toNatClampNeg = n := by simp only [Int32.toNatClampNeg, hz]; omega
  have hzl : n < 2147483648 := by have := z.toInt_lt; omega
  intro k1 k2 k3 k4 k5 k6 k7 k8 T locs X e N
  obtain ⟨T', h', cA, X', e', E', A', k⟩ := RoadKit.newP X k1 k5 w e (g := mkF _ pc Ls (.int z :: st)) rfl (hb k2 hd) rfl (by rw [Int32.lt_iff_toInt_lt, hz, e0]; omega) (cap := cap) (by rw [hzn]; exact hcap) hbig hc' hs'
  obtain ⟨s₂, v', L', h1, h2⟩ := hr h' _ rfl E' ⟨_, A', by rw [sz_new, hzn], hzl, fun i hi => by simp [newA, hzn, hi], fun i _ => by cases aty <;> rfl⟩ k1 k2 k3 k4 k5 k6 k7 k8 T' _ X' e' N
  exact ⟨s₂, v', L', k _ h1, h2⟩
def updI (g : Nat → Int32) (i : Nat) (x : Int32) : Nat → Int32 := fun k => if k = i then x else g k
def Ari (Z : State) (h : Heap) (a : Addr) (ty : FieldType) (n : Nat) (g : Nat → Int32) : Prop := Arf Z h a ty n (fun i => .int (g i))
theorem Ari.lt {a : Addr} {ty : FieldType} {n : Nat} {g : Nat → Int32} (A : Ari Z h a ty n g) : a < h.size := Arf.lt A
theorem Ari.small {a : Addr} {ty : FieldType} {n : Nat} {g : Nat → Int32} (A : Ari Z h a ty n g) : n < 2147483648 := Arf.small A
theorem Ari.keep {h' : Heap} {ws : List Addr} {a : Addr} {ty : FieldType} {n : Nat} {g : Nat → Int32} (A : Ari Z h a ty n g) (K : Keep h h' ws) (q : a ∉ ws) : Ari Z h' a ty n g := Arf.keep A K q
theorem Ari.ext {h' : Heap} {a : Addr} {ty : FieldType} {n : Nat} {g : Nat → Int32} (A : Ari Z h a ty n g) (E : Ext h h') : Ari Z h' a ty n g := Arf.ext A E
theorem Ari.congr {a : Addr} {ty : FieldType} {n : Nat} {f g : Nat → Int32} (A : Ari Z h a ty n f) (q : ∀ i, i < n → f i = g i) : Ari Z h a ty n g := Arf.congr A fun i hi => congrArg Value.int (q i hi)
theorem upd_at (g : Nat → Int32) (i : Nat) (x : Int32) : updI g i x i = x := if_pos rfl
theorem upd_ne {g : Nat → Int32} {i k : Nat} {x : Int32} (q : k ≠ i) : updI g i x k = g k := if_neg q
theorem upd_if (g : Nat → Int32) (i : Nat) (x : Int32) : (fun k => if k = i then Value.int x else Value.int (g k)) = fun k => Value.int (updI g i x k) := by funext k; unfold updI; split <;> rfl
theorem litN (z : Int32) (n : Nat) (h : z.toInt = (n : Int)) : z.toInt = (n : Int) := h
theorem WP.baloadI {a : Addr} {j : Int32} {n : Nat} {g : Nat → Int32} {v : Int32} (i : Nat) (hd : decode code pc = .ok (.baload, 1)) (hp : pc + 1 = pc') (A : Ari Z h a .byte n g) (hi : j.toInt = (i : Int)) (hl : i < n) (hv : g i = v) (hr : WPG C Z code ml own rt nm R n0 G cl sl h pc' Ls (.int v :: st)) : WPG C Z code ml own rt nm R n0 G cl sl h pc Ls (.int j :: .ref a :: st) := WP.baload i hd hp A hi hl (congrArg Value.int hv) hr
theorem WP.baloadZI {a : Addr} {j : Int32} {n : Nat} {g : Nat → Int32} {v : Int32} (i : Nat) (hd : decode code pc = .ok (.baload, 1)) (hp : pc + 1 = pc') (A : Ari Z h a .boolean n g) (hi : j.toInt = (i : Int)) (hl : i < n) (hv : g i = v) (hr : WPG C Z code ml own rt nm R n0 G cl sl h pc' Ls (.int v :: st)) : WPG C Z code ml own rt nm R n0 G cl sl h pc Ls (.int j :: .ref a :: st) := WP.baloadZ i hd hp A hi hl (congrArg Value.int hv) hr
theorem WP.caloadI {a : Addr} {j : Int32} {n : Nat} {g : Nat → Int32} {v : Int32} (i : Nat) (hd : decode code pc = .ok (.caload, 1)) (hp : pc + 1 = pc') (A : Ari Z h a .char n g) (hi : j.toInt = (i : Int)) (hl : i < n) (hv : g i = v) (hr : WPG C Z code ml own rt nm R n0 G cl sl h pc' Ls (.int v :: st)) : WPG C Z code ml own rt nm R n0 G cl sl h pc Ls (.int j :: .ref a :: st) := WP.caload i hd hp A hi hl (congrArg Value.int hv) hr
theorem WP.ialoadI {a : Addr} {j : Int32} {n : Nat} {g : Nat → Int32} {v : Int32} (i : Nat) (hd : decode code pc = .ok (.iaload, 1)) (hp : pc + 1 = pc') (A : Ari Z h a .int n g) (hi : j.toInt = (i : Int)) (hl : i < n) (hv : g i = v) (hr : WPG C Z code ml own rt nm R n0 G cl sl h pc' Ls (.int v :: st)) : WPG C Z code ml own rt nm R n0 G cl sl h pc Ls (.int j :: .ref a :: st) := WP.iaload i hd hp A hi hl (congrArg Value.int hv) hr
theorem WP.saloadI {a : Addr} {j : Int32} {n : Nat} {g : Nat → Int32} {v : Int32} (i : Nat) (hd : decode code pc = .ok (.saload, 1)) (hp : pc + 1 = pc') (A : Ari Z h a .short n g) (hi : j.toInt = (i : Int)) (hl : i < n) (hv : g i = v) (hr : WPG C Z code ml own rt nm R n0 G cl sl h pc' Ls (.int v :: st)) : WPG C Z code ml own rt nm R n0 G cl sl h pc Ls (.int j :: .ref a :: st) := WP.saload i hd hp A hi hl (congrArg Value.int hv) hr
theorem WP.bastoreI {a : Addr} {j x x' : Int32} {n : Nat} {g : Nat → Int32} (i : Nat) (hd : decode code pc = .ok (.bastore, 1)) (hp : pc + 1 = pc') (A : Ari Z h a .byte n g) (hi : j.toInt = (i : Int)) (hl : i < n) (ge : n0 ≤ a) (hx : nar .byte x = x') (hr : ∀ h', Keep h h' [a] → Ari Z h' a .byte n (updI g i x') → WPG C Z code ml own rt nm R n0 G cl sl h' pc' Ls st) : WPG C Z code ml own rt nm R n0 G cl sl h pc Ls (.int x :: .int j :: .ref a :: st) := by
  subst hx
  exact WP.bastore i hd hp A hi hl ge fun h' K A' => hr h' K (by unfold Ari; rw [← upd_if]; exact A')
theorem WP.castoreI {a : Addr} {j x x' : Int32} {n : Nat} {g : Nat → Int32} (i : Nat) (hd : decode code pc = .ok (.castore, 1)) (hp : pc + 1 = pc') (A : Ari Z h a .char n g) (hi : j.toInt = (i : Int)) (hl : i < n) (ge : n0 ≤ a) (hx : nar .char x = x') (hr : ∀ h', Keep h h' [a] → Ari Z h' a .char n (updI g i x') → WPG C Z code ml own rt nm R n0 G cl sl h' pc' Ls st) : WPG C Z code ml own rt nm R n0 G cl sl h pc Ls (.int x :: .int j :: .ref a :: st) := by
  subst hx
  exact WP.castore i hd hp A hi hl ge fun h' K A' => hr h' K (by unfold Ari; rw [← upd_if]; exact A')
theorem WP.iastoreI {a : Addr} {j x x' : Int32} {n : Nat} {g : Nat → Int32} (i : Nat) (hd : decode code pc = .ok (.iastore, 1)) (hp : pc + 1 = pc') (A : Ari Z h a .int n g) (hi : j.toInt = (i : Int)) (hl : i < n) (ge : n0 ≤ a) (hx : x = x') (hr : ∀ h', Keep h h' [a] → Ari Z h' a .int n (updI g i x') → WPG C Z code ml own rt nm R n0 G cl sl h' pc' Ls st) : WPG C Z code ml own rt nm R n0 G cl sl h pc Ls (.int x :: .int j :: .ref a :: st) := by
  subst hx
  exact WP.iastore i hd hp A hi hl ge fun h' K A' => hr h' K (by unfold Ari; rw [← upd_if]; exact A')
theorem WP.newPI {aty : ArrayType} {ty : FieldType} {z : Int32} {n cap : Nat} {cl' sl' : Nat} (hd : decode code pc = .ok (.newarray aty, 2)) (hp : pc + 2 = pc') (hty : newarray.typeOf aty = ty) (hdv : defaultValue ty = .int 0) (w : (Jvm.Cond.arrayClass ty).before a0 Z = true) (hz : z.toInt = (n : Int)) (hcap : n ≤ cap) (hbig : cap * 8 ≤ 536870912) (hc : cl + 1 = cl') (hs : sl + cap = sl') (hc' : cl' ≤ R.cells) (hs' : sl' ≤ R.slots)
    (hr : ∀ h' a, a = h.size → Ext h h' → Ari Z h' a ty n (fun _ => 0) → WPG C Z code ml own rt nm R n0 G cl' sl' h' pc' Ls (.ref a :: st)) : WPG C Z code ml own rt nm R n0 G cl sl h pc Ls (.int z :: st) := by
  subst hty
  exact WP.newP hd hp w hz hcap hbig hc hs hc' hs' fun h' a e E A => hr h' a e E (by rw [hdv] at A; exact A)
theorem WP.arraylengthI {a : Addr} {n : Nat} {g : Nat → Int32} {ty : FieldType} {z : Int32} (hd : decode code pc = .ok (.arraylength, 1)) (hp : pc + 1 = pc') (A : Ari Z h a ty n g) (hz : n.toInt32 = z) (hr : WPG C Z code ml own rt nm R n0 G cl sl h pc' Ls (.int z :: st)) : WPG C Z code ml own rt nm R n0 G cl sl h pc Ls (.ref a :: st) := WP.arraylength hd hp A hz hr
/-- the array's class is that of arrays of C -/
def Ocl (Z : State) (h : Heap) (a : Addr) (K : String) : Prop := ∃ c : Cell, h[a]? = some c ∧ Ovr Z c.cls K
theorem Ocl.ext {h' : Heap} {a : Addr} {K : String} (O : Ocl Z h a K) (E : Ext h h') : Ocl Z h' a K := by obtain ⟨c, h1, h2⟩ := O; exact ⟨c, E.2 _ _ h1, h2⟩
theorem Ocl.keep {h' : Heap} {ws : List Addr} {a : Addr} {K : String} (O : Ocl Z h a K) (E : Keep h h' ws) : Ocl Z h' a K := by
  obtain ⟨c, h1, h2⟩ := O
  obtain ⟨c', q1, q2, -⟩ := E.2.2 _ _ h1
  exact ⟨c', q1, by rw [q2]; exact h2⟩
theorem Ocl.sto {a y : Addr} {K : String} {ty : FieldType} {n : Nat} {f : Nat → Value} (O : Ocl Z h a K) (A : Arf Z h a ty n f) (I : Ins Z h y K true) : Sto Z h a (.ref y) := by
  obtain ⟨c, h1, h2⟩ := O
  obtain ⟨c', A, -⟩ := A
  cases h1.symm.trans A.1
  exact Sto.of A h2 I
def updV (g : Nat → Value) (i : Nat) (x : Value) : Nat → Value := fun k => if k = i then x else g k
theorem WP.newR {i n cap : Nat} {K : String} {z : Int32} {cl' sl' : Nat} (hd : decode code pc = .ok (.anewarray i, 3)) (hp : pc + 3 = pc') (w1 : (Jvm.Cond.classLink own i K).before a0 Z = true) (w2 : (Jvm.Cond.arrayOver (.object K)).before a0 Z = true) (hz : z.toInt = (n : Int)) (hcap : n ≤ cap) (hbig : cap * 8 ≤ 536870912) (hc : cl + 1 = cl') (hs : sl + cap = sl') (hc' : cl' ≤ R.cells) (hs' : sl' ≤ R.slots)
    (hr : ∀ h' a, a = h.size → Ext h h' → Arf Z h' a (.object K) n (fun _ => .null) → Ocl Z h' a K → WPG C Z code ml own rt nm R n0 G cl' sl' h' pc' Ls (.ref a :: st)) : WPG C Z code ml own rt nm R n0 G cl sl h pc Ls (.int z :: st) := by
  subst hp hc hs
  have e0 : (0 : Int32).toInt = 0 := rfl
  have hzn : z.toNatClampNeg = n := by simp only [Int32.toNatClampNeg, hz]; omega
  have hzl : n < 2147483648 := by have := z.toInt_lt; omega
  intro k1 k2 k3 k4 k5 k6 k7 k8 T locs X e N
  obtain ⟨T', h', cA, X', e', E', A', O', k⟩ := RoadKit.newR X k1 k5 k4 w1 w2 e (g := mkF _ pc Ls (.int z :: st)) rfl (hb k2 hd) rfl (by rw [Int32.lt_iff_toInt_lt, hz, e0]; omega) (cap := cap) (by rw [hzn]; exact hcap) hbig hc' hs'
  obtain ⟨s₂, v', L', h1, h2⟩ := hr h' _ rfl E' ⟨_, A', by rw [sz_new, hzn], hzl, fun i hi => by simp [newA, hzn, hi, defaultValue], fun i _ => rfl⟩ ⟨_, A'.1, O'⟩ k1 k2 k3 k4 k5 k6 k7 k8 T' _ X' e' N
  exact ⟨s₂, v', L', k _ h1, h2⟩
theorem WP.aastore {a : Addr} {j : Int32} {x : Value} {n : Nat} {f : Nat → Value} {ty : FieldType} (i : Nat) (hd : decode code pc = .ok (.aastore, 1)) (hp : pc + 1 = pc') (A : Arf Z h a ty n f) (hty : ty.isReference = true) (F : Sto Z h a x) (hf : fits ty x = true) (hi : j.toInt = (i : Int)) (hl : i < n) (ge : n0 ≤ a) (hr : ∀ h', Keep h h' [a] → Arf Z h' a ty n (updV f i x) → WPG C Z code ml own rt nm R n0 G cl sl h' pc' Ls st) : WPG C Z code ml own rt nm R n0 G cl sl h pc Ls (x :: .int j :: .ref a :: st) := by
  subst hp
  obtain ⟨c, A, r1, r2, r3, r4⟩ := A
  obtain ⟨q1, q2⟩ := idxN hi hl
  intro k1 k2 k3 k4 k5 k6 k7 k8 T locs X e N
  obtain ⟨T', h', X', e', W', k⟩ := stR X k1 k5 e A (j := j) (by rw [r1]; exact q1) hty F (g := mkF _ pc Ls (x :: .int j :: .ref a :: st)) rfl rfl (hb k2 hd)
  obtain ⟨s₂, v', L', h1, h2⟩ := hr h' (Keep.of_wr W') (Arf.set A r1 r2 r3 r4 hf W' q2 hl) k1 k2 k3 k4 k5 k6 k7 k8 T' _ X' e' (Fr.snoc X' N ge)
  exact ⟨s₂, v', L', k _ h1, h2⟩
theorem getD_range {f : Nat → Int32} {m n : Nat} (h : m < n) : ((List.range n).map fun i => Value.int (f i)).getD m (.int 0) = .int (f m) := by
  simp [List.getD_eq_getElem?_getD, h]
theorem Ari.arv {a : Addr} {ty : FieldType} {n : Nat} {g : Nat → Int32} (A : Ari Z h a ty n g) : ∃ (k : ClassId) (z : Int32), z.toNatClampNeg = n ∧ Arv Z h a k ty z ((List.range n).map fun i => Value.int (g i)) (.int 0) := by
  obtain ⟨c, A, r1, r2, r3, r4⟩ := A
  have e1 : n.toInt32.toInt = (n : Int) := len_toInt r2
  have e0 : (0 : Int32).toInt = 0 := rfl
  have e2 : n.toInt32.toNatClampNeg = n := by simp only [Int32.toNatClampNeg, e1]; omega
  refine ⟨c.cls, n.toInt32, e2, c, A, rfl, by rw [e2]; exact r1, by rw [Int32.lt_iff_toInt_lt, e1, e0]; omega, fun i hi => ?_, fun i hi => ?_⟩
  · rw [r1] at hi; rw [getD_range hi]; exact r3 i hi
  · rw [r1] at hi; rw [getD_range hi]; exact r4 i hi
/-- n elements of f from sp on, laid into g from dp on -/
def blit (f g : Nat → Int32) (sp dp n : Nat) : Nat → Int32 := fun k => if dp ≤ k ∧ k < dp + n then f (sp + (k - dp)) else g k
theorem WP.arraycopy {i : Nat} {a b : Addr} {ty : FieldType} {na nb sp dp nn wd : Nat} {zs zd zn : Int32} {f g : Nat → Int32} (hd : decode code pc = .ok (.invokestatic i, 3)) (hp : pc + 3 = pc') (w1 : (Jvm.Cond.methodLink own i Jvm.Stand.acN).before a0 Z = true) (w2 : (Jvm.Cond.native Jvm.Stand.acN).before a0 Z = true) (w3 : (Jvm.Cond.static Jvm.Stand.acN).before a0 Z = true) (w4 : (Jvm.Cond.initialized "java/lang/System").before a0 Z = true) (A : Ari Z h a ty na f) (B : Ari Z h b ty nb g) (hty : refKind ty = false) (hs1 : zs.toInt = (sp : Int)) (hd1 : zd.toInt = (dp : Int)) (hn1 : zn.toInt = (nn : Int)) (h4 : sp + nn ≤ na) (h5 : dp + nn ≤ nb) (ge : n0 ≤ b) (hml : Ls.size = ml) (hf : 1 ≤ R.frames) (hw : (st.map fun v => v.category).sum ≤ wd) (hlo : wd + (nativeFrameWords "java/lang/System" "arraycopy" 5 + 11) ≤ R.locals)
    (hr : ∀ h', Keep h h' [b] → Ari Z h' b ty nb (blit f g sp dp nn) → WPG C Z code ml own rt nm R n0 G cl sl h' pc' Ls st) : WPG C Z code ml own rt nm R n0 G cl sl h pc Ls (.int zn :: .int zd :: .ref b :: .int zs :: .ref a :: st) := by
  subst hp
  obtain ⟨ka, za, ea, A'⟩ := A.arv
  obtain ⟨kb, zb, eb, B'⟩ := B.arv
  have hsm := B.small
  have e0 : (0 : Int32).toInt = 0 := rfl
  have q1 : zs.toNatClampNeg = sp := by simp only [Int32.toNatClampNeg, hs1]; omega
  have q2 : zd.toNatClampNeg = dp := by simp only [Int32.toNatClampNeg, hd1]; omega
  have q3 : zn.toNatClampNeg = nn := by simp only [Int32.toNatClampNeg, hn1]; omega
  intro k1 k2 k3 k4 k5 k6 k7 k8 T locs X e N
  obtain ⟨T', h', L', X', e', N', K', V', k⟩ := cpA X k1 k5 k4 w1 w2 w3 w4 e (sp := zs) (dp := zd) (nn := zn) A' B' (Or.inl ⟨rfl, hty⟩) (by rw [Int32.lt_iff_toInt_lt, hs1, e0]; omega) (by rw [Int32.lt_iff_toInt_lt, hd1, e0]; omega) (by rw [Int32.lt_iff_toInt_lt, hn1, e0]; omega) (by rw [q1, q3, ea]; exact h4) (by rw [q2, q3, eb]; exact h5) rfl (by rw [q2, q3, List.length_map, List.length_range]; exact h5) N ge (g := mkF _ pc Ls (.int zn :: .int zd :: .ref b :: .int zs :: .ref a :: st)) rfl (by rw [k3]; exact hml) rfl (hb k2 hd) hf (W := wd) (by show 2 * 0 + _ ≤ _; omega) hlo
  rw [q1, q2, q3] at V'
  have VV : Ari Z h' b ty nb (blit f g sp dp nn) := by
    obtain ⟨c, A, r1, r2, r3, H, G⟩ := V'
    rw [eb] at r2
    have key : ∀ i, i < nb → (((List.range nb).map fun i => Value.int (g i)).take dp ++ (List.range nn).map (fun i => ((List.range na).map fun i => Value.int (f i)).getD (sp + i) (.int 0)) ++ ((List.range nb).map fun i => Value.int (g i)).drop (dp + nn)).getD i (.int 0) = .int (blit f g sp dp nn i) := by
      intro i hi
      simp only [List.getD_eq_getElem?_getD, blit]
      by_cases c1 : i < dp
      · rw [List.append_assoc, List.getElem?_append_left (by simp; omega), if_neg (by omega)]; simp [List.getElem?_take, c1, hi]
      · by_cases c2 : i < dp + nn
        · rw [List.getElem?_append_left (by simp; omega), List.getElem?_append_right (by simp; omega), if_pos (by omega)]
          have z1 : min dp nb = dp := by omega
          have z2 : i - dp < nn := by omega
          have z3 : sp + (i - dp) < na := by omega
          simp [z1, z2, z3]
        · rw [List.getElem?_append_right (by simp; omega), if_neg (by omega)]
          have z1 : min dp nb = dp := by omega
          have z2 : dp + nn + (i - (dp + nn)) = i := by omega
          simp [z1, z2, hi]
    exact ⟨c, A, r2, hsm, fun i hi => by rw [H i (by rw [r2]; exact hi), key i hi], fun i hi => by have := G i (by rw [r2]; exact hi); rw [key i hi] at this; exact this⟩
  obtain ⟨s₂, v', L2, h1, h2⟩ := hr h' K' VV k1 k2 k3 k4 k5 k6 k7 k8 T' _ X' e' N'
  exact ⟨s₂, v', L2, k _ h1, h2⟩
theorem WP.initO {i : Nat} {a : Addr} {wd : Nat} (hd : decode code pc = .ok (.invokespecial i, 3)) (hp : pc + 3 = pc') (w1 : (Jvm.Cond.methodLink own i Lib.objectInit).before a0 Z = true) (w2 : (Jvm.Cond.instanceMethod Lib.objectInit).before a0 Z = true) (w3 : (Jvm.Cond.code Lib.objectInit ⟨#[0xb1]⟩ 1 none).before a0 Z = true) (hml : Ls.size = ml) (hf : 1 ≤ R.frames) (hw : (st.map fun v => v.category).sum ≤ wd) (hl : wd + 12 ≤ R.locals) (hr : WPG C Z code ml own rt nm R n0 G cl sl h pc' Ls st) : WPG C Z code ml own rt nm R n0 G cl sl h pc Ls (.ref a :: st) := by
  subst hp
  refine hr.step fun X hx hby hml' hown hZ hnm eT N => ?_
  obtain ⟨T', X', e', k⟩ := RoadKit.initO X hx hZ hown w1 w2 w3 eT (g := mkF _ pc Ls (.ref a :: st)) rfl (by rw [hml']; exact hml) rfl (hb hby hd) hf (W := wd) (by show 2 * 0 + _ ≤ _; omega) hl
  exact ⟨T', _, X', e', N, fun t q => k t q⟩
theorem WP.callS {i : Nat} {y : MethodName} {code' : ByteArray} {ml' wd cl' sl' : Nat} {rt' : Option FieldType} {R' : Room} {Q' : Option Value → Heap → Prop} {argsL rest : List Value} {ps : List FieldType} {rr : Option FieldType} (hd : decode code pc = .ok (.invokestatic i, 3)) (hp : pc + 3 = pc') (w1 : (Jvm.Cond.methodLink own i y).before a0 Z = true) (w2 : (Jvm.Cond.static y).before a0 Z = true) (w3 : (Jvm.Cond.initialized y.cls).before a0 Z = true) (w4 : (Jvm.Cond.code y code' ml' rt').before a0 Z = true) (hy : y.cls ≠ "java/lang/invoke/MethodHandle" ∧ y.cls ≠ "java/lang/invoke/VarHandle") (hM : ∀ l, Does l Z y code' ml' rt' R' n0 argsL.toArray h Q') (hpd : parseMethodDescriptor y.desc = some ⟨ps, rr⟩) (hlen : argsL.length = ps.length) (hst : st = argsL.reverse ++ rest) (hml : Ls.size = ml) (hw : (rest.map fun v => v.category).sum ≤ wd) (hrm : R'.frames + 1 ≤ R.frames) (hlo : wd + (ml' + 11) + R'.locals ≤ R.locals) (hc : cl + R'.cells = cl') (hs : sl + R'.slots = sl') (hc' : cl' ≤ R.cells) (hs' : sl' ≤ R.slots)
    (hr : ∀ v h', Q' v h' → WPG C Z code ml own rt nm R n0 G cl' sl' h' pc' Ls (v.toList ++ rest)) : WPG C Z code ml own rt nm R n0 G cl sl h pc Ls st := by
  subst hp hc hs
  intro k1 k2 k3 k4 k5 k6 k7 k8 T locs X e N
  obtain ⟨v, _, ⟨T', L', c', n'⟩, -, X', ⟨Lc, hQ, l1, y1, z1⟩, k⟩ := Jvm.LawKit.callS X k1 (y := y) k4 (mvT k5 w1) (mvT k5 w2) (mvT k5 w3) (mvT k5 w4) hy (backOf (W := wd) (Q := fun v h L => Q' v h ∧ Fr n0 L) (hM _ []) k5 w4 w3 hrm hlo) (g := mkF _ pc Ls st) rfl (by rw [k3]; exact hml) (argsL := argsL) (rest := rest) (lenOf hpd hlen) hst (by show 2 * 0 + _ ≤ _; omega) (hb k2 hd) (fun _ _ => ⟨rfl, e, hc', hs'⟩)
  dsimp only [Pt.U, Pt.locs, Pt.cells, Pt.slots] at X' l1 y1 z1 k hQ
  subst l1 y1 z1
  obtain ⟨s₂, v', L2, h1, h2⟩ := hr v _ hQ.1 k1 k2 k3 k4 k5 k6 k7 k8 T' _ X' rfl (Fr.app N hQ.2)
  exact ⟨s₂, v', L2, k _ h1, h2⟩
theorem WP.callI {a : Addr} {i : Nat} {y : MethodName} {code' : ByteArray} {ml' wd cl' sl' : Nat} {R' : Room} {Q' : Option Value → Heap → Prop} {argsL rest : List Value} {ps : List FieldType} {rr : Option FieldType} (hd : decode code pc = .ok (.invokespecial i, 3)) (hp : pc + 3 = pc') (hy1 : y.name = "<init>") (w1 : (Jvm.Cond.methodLink own i y).before a0 Z = true) (w2 : (Jvm.Cond.instanceMethod y).before a0 Z = true) (w3 : (Jvm.Cond.initialized y.cls).before a0 Z = true) (w4 : (Jvm.Cond.code y code' ml' none).before a0 Z = true) (hy : y.cls ≠ "java/lang/invoke/MethodHandle" ∧ y.cls ≠ "java/lang/invoke/VarHandle") (hM : ∀ l, Does l Z y code' ml' none R' n0 (.ref a :: argsL).toArray h Q') (hpd : parseMethodDescriptor y.desc = some ⟨ps, rr⟩) (hlen : argsL.length = ps.length) (hst : st = argsL.reverse ++ .ref a :: rest) (hml : Ls.size = ml) (hw : (rest.map fun v => v.category).sum ≤ wd) (hrm : R'.frames + 1 ≤ R.frames) (hlo : wd + (ml' + 11) + R'.locals ≤ R.locals) (hc : cl + R'.cells = cl') (hs : sl + R'.slots = sl') (hc' : cl' ≤ R.cells) (hs' : sl' ≤ R.slots)
    (hr : ∀ v h', Q' v h' → WPG C Z code ml own rt nm R n0 G cl' sl' h' pc' Ls (v.toList ++ rest)) : WPG C Z code ml own rt nm R n0 G cl sl h pc Ls st := by
  subst hp hc hs
  intro k1 k2 k3 k4 k5 k6 k7 k8 T locs X e N
  obtain ⟨v, _, ⟨T', L', c', n'⟩, -, X', ⟨Lc, hQ, l1, y1, z1⟩, k⟩ := X.specialBack k1 (y := y) hy1 k4 (mvT k5 w1) (mvT k5 w2) (mvT k5 w4) hy (backOf (W := wd) (Q := fun v h L => Q' v h ∧ Fr n0 L) (hM _ []) k5 w4 w3 hrm hlo) (g := mkF _ pc Ls st) rfl (by rw [k3]; exact hml) (Steps.refl _) (a := a) (argsL := argsL) (rest := rest) (lenOf hpd hlen) hst (by show 2 * 0 + _ ≤ _; omega) (hb k2 hd) (fun _ _ => ⟨rfl, e, hc', hs'⟩)
  dsimp only [Pt.U, Pt.locs, Pt.cells, Pt.slots] at X' l1 y1 z1 k hQ
  subst l1 y1 z1
  obtain ⟨s₂, v', L2, h1, h2⟩ := hr v _ hQ.1 k1 k2 k3 k4 k5 k6 k7 k8 T' _ X' rfl (Fr.app N hQ.2)
  exact ⟨s₂, v', L2, k.trans h1, h2⟩
theorem WP.callV {a : Addr} {z : MethodName} {K : String} {i : Nat} {y : MethodName} {code' : ByteArray} {ml' wd cl' sl' : Nat} {rt' : Option FieldType} {R' : Room} {Q' : Option Value → Heap → Prop} {argsL rest : List Value} {ps : List FieldType} {rr : Option FieldType} (hd : decode code pc = .ok (.invokevirtual i, 3)) (hp : pc + 3 = pc') (w1 : (Jvm.Cond.methodLink own i y).before a0 Z = true) (wd1 : (Jvm.Cond.declares y).before a0 Z = true) (hnf : ∀ s : State, Z.Warmed39 s.vm → NotFace s y) (ws : (Jvm.Cond.selects K y z).before a0 Z = true) (w2 : (Jvm.Cond.instanceMethod z).before a0 Z = true) (w3 : (Jvm.Cond.initialized z.cls).before a0 Z = true) (w4 : (Jvm.Cond.code z code' ml' rt').before a0 Z = true) (hy : y.cls ≠ "java/lang/invoke/MethodHandle" ∧ y.cls ≠ "java/lang/invoke/VarHandle") (E : Exa Z h a K) (hM : ∀ l, Does l Z z code' ml' rt' R' n0 (.ref a :: argsL).toArray h Q') (hpd : parseMethodDescriptor y.desc = some ⟨ps, rr⟩) (hlen : argsL.length = ps.length) (hst : st = argsL.reverse ++ .ref a :: rest) (hml : Ls.size = ml) (hw : (rest.map fun v => v.category).sum ≤ wd) (hrm : R'.frames + 1 ≤ R.frames) (hlo : wd + (ml' + 11) + R'.locals ≤ R.locals) (hc : cl + R'.cells = cl') (hs : sl + R'.slots = sl') (hc' : cl' ≤ R.cells) (hs' : sl' ≤ R.slots)
    (hr : ∀ v h', Q' v h' → WPG C Z code ml own rt nm R n0 G cl' sl' h' pc' Ls (v.toList ++ rest)) : WPG C Z code ml own rt nm R n0 G cl sl h pc Ls st := by
  subst hp hc hs
  intro k1 k2 k3 k4 k5 k6 k7 k8 T locs X e N
  obtain ⟨cq, kq, q1, q2, q3⟩ := isOf k5 e E
  obtain ⟨v, _, ⟨T', L', c', n'⟩, -, X', ⟨Lc, hQ, l1, y1, z1⟩, k⟩ := X.virtualBack k1 (y := y) (z := z) k4 (mvT k5 w1) (mvT k5 wd1) (hnf _ k5) (mvT k5 ws) (mvT k5 w2) hy (backOf (W := wd) (Q := fun v h L => Q' v h ∧ Fr n0 L) (hM _ []) k5 w4 w3 hrm hlo) q1 q3 (g := mkF _ pc Ls st) rfl (by rw [k3]; exact hml) (Steps.refl _) (argsL := argsL) (rest := rest) (lenOf hpd hlen) hst (by show 2 * 0 + _ ≤ _; omega) (hb k2 hd) (fun _ _ => ⟨rfl, e, hc', hs'⟩)
  dsimp only [Pt.U, Pt.locs, Pt.cells, Pt.slots] at X' l1 y1 z1 k hQ
  subst l1 y1 z1
  obtain ⟨s₂, v', L2, h1, h2⟩ := hr v _ hQ.1 k1 k2 k3 k4 k5 k6 k7 k8 T' _ X' rfl (Fr.app N hQ.2)
  exact ⟨s₂, v', L2, k.trans h1, h2⟩
theorem nfS {y z : MethodName} {K : String} (ws : (Jvm.Cond.selects K y z).before a0 Z = true) (e : y = z) : ∀ s : State, Z.Warmed39 s.vm → NotFace s y := by subst e; exact fun s k => notFace_of_selects (args := #[]) (mvT k ws)
theorem WP.callP {a : Addr} {K : String} {i : Nat} {y : MethodName} {code' : ByteArray} {ml' wd cl' sl' : Nat} {rt' : Option FieldType} {R' : Room} {Q' : Option Value → Heap → Prop} {argsL rest : List Value} {ps : List FieldType} {rr : Option FieldType} (hd : decode code pc = .ok (.invokevirtual i, 3)) (hp : pc + 3 = pc') (w1 : (Jvm.Cond.methodLink own i y).before a0 Z = true) (w2 : (Jvm.Cond.instanceMethod y).before a0 Z = true) (ws : (Jvm.Cond.selects y.cls y y).before a0 Z = true) (wp : (Jvm.Cond.privateMethod y).before a0 Z = true) (w3 : (Jvm.Cond.initialized y.cls).before a0 Z = true) (w4 : (Jvm.Cond.code y code' ml' rt').before a0 Z = true) (hy : y.cls ≠ "java/lang/invoke/MethodHandle" ∧ y.cls ≠ "java/lang/invoke/VarHandle") (E : Exa Z h a K) (hM : ∀ l, Does l Z y code' ml' rt' R' n0 (.ref a :: argsL).toArray h Q') (hpd : parseMethodDescriptor y.desc = some ⟨ps, rr⟩) (hlen : argsL.length = ps.length) (hst : st = argsL.reverse ++ .ref a :: rest) (hml : Ls.size = ml) (hw : (rest.map fun v => v.category).sum ≤ wd) (hrm : R'.frames + 1 ≤ R.frames) (hlo : wd + (ml' + 11) + R'.locals ≤ R.locals) (hc : cl + R'.cells = cl') (hs : sl + R'.slots = sl') (hc' : cl' ≤ R.cells) (hs' : sl' ≤ R.slots)
    (hr : ∀ v h', Q' v h' → WPG C Z code ml own rt nm R n0 G cl' sl' h' pc' Ls (v.toList ++ rest)) : WPG C Z code ml own rt nm R n0 G cl sl h pc Ls st := by
  subst hp hc hs
  intro k1 k2 k3 k4 k5 k6 k7 k8 T locs X e N
  obtain ⟨cq, q1, q2⟩ := E.cell
  obtain ⟨v, _, ⟨T', L', c', n'⟩, -, X', ⟨Lc, hQ, l1, y1, z1⟩, k⟩ := X.privateBack k1 (y := y) k4 (mvT k5 w1) (mvT k5 w2) (mvT k5 ws) (Cond.privateMethod_at (mvP k5 wp (args := #[]))) (mvT k5 w4) hy (backOf (W := wd) (Q := fun v h L => Q' v h ∧ Fr n0 L) (hM _ []) k5 w4 w3 hrm hlo) (g := mkF _ pc Ls st) rfl (by rw [k3]; exact hml) (Steps.refl _) (a := a) (by rw [e]; exact q1) q2 (argsL := argsL) (rest := rest) (lenOf hpd hlen) hst (by show 2 * 0 + _ ≤ _; omega) (hb k2 hd) (fun _ _ => ⟨rfl, e, hc', hs'⟩)
  dsimp only [Pt.U, Pt.locs, Pt.cells, Pt.slots] at X' l1 y1 z1 k hQ
  subst l1 y1 z1
  obtain ⟨s₂, v', L2, h1, h2⟩ := hr v _ hQ.1 k1 k2 k3 k4 k5 k6 k7 k8 T' _ X' rfl (Fr.app N hQ.2)
  exact ⟨s₂, v', L2, k.trans h1, h2⟩
theorem WP.iret {z : Int32} (hd : decode code pc = .ok (.ireturn, 1)) (hrt : rt = some .int) (hc : cl ≤ R.cells) (hs : sl ≤ R.slots) (hq : Q (some (.int z)) h) : WP C Z code ml own rt nm R n0 Q cl sl h pc Ls (.int z :: st) := by
  intro k1 k2 k3 k4 k5 k6 k7 k8 T locs X e N
  obtain ⟨fs, hr', hrun, hended, hW, hsame⟩ := X.leave (v := some (.int z)) (fun q => by rw [k6, hrt] at q; cases q) k7
  exact ⟨_, _, _, retOut X k1 (t := .int) (k6.trans hrt) rfl (Or.inl ⟨rfl, Or.inl rfl, _, rfl⟩) (hb k2 hd) hr', hrun, hended, by show Q _ T.heap; rw [e]; exact hq, N, ⟨_, rfl⟩, hW, hsame.mono hc hs⟩
theorem WP.lret {z : Int64} (hd : decode code pc = .ok (.lreturn, 1)) (hrt : rt = some .long) (hc : cl ≤ R.cells) (hs : sl ≤ R.slots) (hq : Q (some (.long z)) h) : WP C Z code ml own rt nm R n0 Q cl sl h pc Ls (.long z :: st) := by
  intro k1 k2 k3 k4 k5 k6 k7 k8 T locs X e N
  obtain ⟨fs, hr', hrun, hended, hW, hsame⟩ := X.leave (v := some (.long z)) (fun q => by rw [k6, hrt] at q; cases q) k7
  exact ⟨_, _, _, retOut X k1 (t := .long) (k6.trans hrt) rfl (Or.inr (Or.inl ⟨rfl, rfl, _, rfl⟩)) (hb k2 hd) hr', hrun, hended, by show Q _ T.heap; rw [e]; exact hq, N, ⟨_, rfl⟩, hW, hsame.mono hc hs⟩
theorem WP.dret {z : UInt64} (hd : decode code pc = .ok (.dreturn, 1)) (hrt : rt = some .double) (hc : cl ≤ R.cells) (hs : sl ≤ R.slots) (hq : Q (some (.double z)) h) : WP C Z code ml own rt nm R n0 Q cl sl h pc Ls (.double z :: st) := by
  intro k1 k2 k3 k4 k5 k6 k7 k8 T locs X e N
  obtain ⟨fs, hr', hrun, hended, hW, hsame⟩ := X.leave (v := some (.double z)) (fun q => by rw [k6, hrt] at q; cases q) k7
  exact ⟨_, _, _, retOut X k1 (t := .double) (k6.trans hrt) rfl (Or.inr (Or.inr (Or.inl ⟨rfl, rfl, _, rfl⟩))) (hb k2 hd) hr', hrun, hended, by show Q _ T.heap; rw [e]; exact hq, N, ⟨_, rfl⟩, hW, hsame.mono hc hs⟩
theorem WP.aret {z : Value} (hd : decode code pc = .ok (.areturn, 1)) {t : FieldType} (hrt : rt = some t) (ht : t.isReference = true) (hv : z.isRef = true) (hc : cl ≤ R.cells) (hs : sl ≤ R.slots) (hq : Q (some z) h) : WP C Z code ml own rt nm R n0 Q cl sl h pc Ls (z :: st) := by
  intro k1 k2 k3 k4 k5 k6 k7 k8 T locs X e N
  obtain ⟨fs, hr', hrun, hended, hW, hsame⟩ := X.leave (v := some z) (fun q => by rw [k6, hrt] at q; cases q) k7
  exact ⟨_, _, _, retOut X k1 (t := t) (k6.trans hrt) (by cases t <;> first | (cases ht; done) | rfl) (Or.inr (Or.inr (Or.inr (Or.inr ⟨rfl, ht, hv⟩)))) (hb k2 hd) hr', hrun, hended, by show Q _ T.heap; rw [e]; exact hq, N, ⟨_, rfl⟩, hW, hsame.mono hc hs⟩
theorem WP.nret {z : Int32} (hd : decode code pc = .ok (.ireturn, 1)) {t : FieldType} {z' : Int32} (hrt : rt = some t) (ht : t = .boolean ∨ t = .byte ∨ t = .char ∨ t = .short) (hz : nar t z = z') (hc : cl ≤ R.cells) (hs : sl ≤ R.slots) (hq : Q (some (.int z')) h) : WP C Z code ml own rt nm R n0 Q cl sl h pc Ls (.int z :: st) := by
  intro k1 k2 k3 k4 k5 k6 k7 k8 T locs X e N
  obtain ⟨fs, hr', hrun, hended, hW, hsame⟩ := X.leave (v := some (.int z')) (fun q => by rw [k6, hrt] at q; cases q) k7
  exact ⟨_, _, _, retN X k1 (t := t) (k6.trans hrt) ht (hb k2 hd) (by rw [hz]; exact hr'), hrun, hended, by show Q _ T.heap; rw [e]; exact hq, N, ⟨_, rfl⟩, hW, hsame.mono hc hs⟩
theorem WP.vret (hd : decode code pc = .ok (.return_, 1)) (hrt : rt = none) (hc : cl ≤ R.cells) (hs : sl ≤ R.slots) (hq : Q none h) : WP C Z code ml own rt nm R n0 Q cl sl h pc Ls [] := by
  intro k1 k2 k3 k4 k5 k6 k7 k8 T locs X e N
  obtain ⟨fs, hr', hrun, hended, hW, hsame⟩ := X.leave (v := none) (fun _ => rfl) k7
  exact ⟨_, _, _, X.returnOut k1 (k6.trans hrt) (hb k2 hd) hr', hrun, hended, by show Q _ T.heap; rw [e]; exact hq, N, ⟨_, rfl⟩, hW, hsame.mono hc hs⟩
end Rules
end Jvm.WK
namespace Jvm.WK
open Jvm Sem ClassFile Op Lib Jvm.Free Jvm.Stand Jvm.LawKit Jvm.RoadKit
def b2i (b : Bool) : Int32 := if b then 1 else 0
theorem selPriv {Z : State} {a0 : Array Value} {K : String} {y y' : MethodName} (w : (Jvm.Cond.selects K y' y').before a0 Z = true) (e : y'.cls = y.cls) (wp : (Jvm.Cond.privateMethod y).before a0 Z = true) (wi : (Jvm.Cond.instanceMethod y).before a0 Z = true) (hy : y.cls ≠ "java/lang/invoke/MethodHandle" ∧ y.cls ≠ "java/lang/invoke/VarHandle") : (Jvm.Cond.selects y.cls y y).before a0 Z = true := by
  obtain ⟨c2, r2, m2, -, -, q3, -, kP, hkP, hkPi⟩ := Cond.selects_spec w
  exact selects_self_of_private (by rw [← e]; exact findClass_of_methodNamed q3) hkP hkPi (Cond.privateMethod_at wp) wi hy
theorem b2i_t {P : Prop} [Decidable P] (h : P) : some (Value.int 1) = some (Value.int (b2i (decide P))) := by rw [decide_eq_true h]; rfl
theorem b2i_f {P : Prop} [Decidable P] (h : ¬ P) : some (Value.int 0) = some (Value.int (b2i (decide P))) := by rw [decide_eq_false h]; rfl
theorem b2i_congr {P P' : Prop} [Decidable P] [Decidable P'] (h : P ↔ P') : b2i (decide P) = b2i (decide P') := by rw [decide_eq_decide.mpr h]
theorem b2i_1 {b : Bool} : b2i b = 1 ↔ b = true := by cases b <;> simp [b2i]
theorem b2i_0 {b : Bool} : b2i b = 0 ↔ b = false := by cases b <;> simp [b2i]
theorem b2i_one (b : Bool) : b2i b &&& 1 = b2i b := by cases b <;> rfl
theorem eqInt_v {args : Array Value} {first s : State} {o : Option Outcome} {idx : List Nat} {t : Term} {k : Int32} (h : (Jvm.Cond.eq t (.int k)).value args first o s idx = some true) : t.eval args first o idx s = some (.int k) := by
  obtain ⟨x, y, e1, e2, k1, k2⟩ := cmp_v (Or.inl h)
  have e3 : y = .int k := by simpa [Term.eval] using e2.symm
  subst e3
  obtain ⟨z, rfl⟩ := k2
  simp [Cond.value, e1, Term.eval] at h
  rw [e1, h]
theorem Sta.of_exa {args : Array Value} {s : State} {C n d K : String} (h : (Jvm.Cond.exactly (.static C n d) K).value args s none s [] = some true) (hi : (Jvm.Cond.initializedFor C n d).before args s = true ∨ ((Jvm.Cond.initialized C).before args s = true ∧ (Jvm.Cond.laysStatic C n d).before args s = true)) :
    ∃ a, (Term.static C n d).eval args s none [] s = some (.ref a) ∧ Sta s s.heap C n d (.ref a) ∧ Exa s s.heap a K := by
  obtain ⟨a, e⟩ := exa_v h
  exact ⟨a, e, Sta.start e hi, Exa.start e h⟩
theorem Fld.of_eq {args : Array Value} {s : State} {t : Term} {a : Addr} {C n d : String} {k : Int32} (e : t.eval args s none [] s = some (.ref a)) (h : (Jvm.Cond.eq (.field t C n d) (.int k)).value args s none s [] = some true) : Fld s s.heap a C n d (.int k) := by
  have q := eqInt_v h
  rw [fld_at e] at q
  exact Fld.start q
theorem Ari.of_start {s : State} {a : Addr} {c : Cell} {ty : FieldType} (hf : Fit s) (A : Arr s s.heap a c ty) (ht : ty = .int ∨ ty = .boolean ∨ ty = .byte ∨ ty = .char ∨ ty = .short) (hsz : c.slots.size < 2147483648) :
    ∃ g : Nat → Int32, Ari s s.heap a ty c.slots.size g ∧ ∀ i x, c.slots[i]? = some (.int x) → g i = x := by
  have key : ∀ i, i < c.slots.size → ∃ x, c.slots[i]? = some (.int x) ∧ fits ty (.int x) = true := by
    intro i hi
    have e1 : i.toInt32.toInt = (i : Int) := len_toInt (show i < 2 ^ 31 by omega)
    have e : i.toInt32.toNatClampNeg = i := by simp only [Int32.toNatClampNeg, e1]; omega
    obtain ⟨v, h1, h2⟩ := elem_fit (j := i.toInt32) hf A (idx_in hi (show c.slots.size < 2 ^ 31 by omega))
    obtain ⟨x, rfl⟩ := fit_I h2 ht
    rw [e] at h1
    exact ⟨x, h1, h2⟩
  refine ⟨fun i => match c.slots[i]? with | some (.int x) => x | _ => 0, ⟨c, A, rfl, hsz, fun i hi => ?_, fun i hi => ?_⟩, fun i x h => by simp only [h]⟩
  · obtain ⟨x, h1, -⟩ := key i hi; simp only [h1]
  · obtain ⟨x, h1, h2⟩ := key i hi; simp only [h1]; exact h2
theorem len_small {args : Array Value} {first s : State} {o : Option Outcome} {idx : List Nat} {t : Term} {v : Value} {a : Addr} {c : Cell} (h : (Term.length t).eval args first o idx s = some v) (ht : t.eval args first o idx s = some (.ref a)) (ha : s.arrayAt? a = some c) : c.slots.size < 2 ^ 31 := by
  simp only [Term.eval, ht, ha, Option.bind_eq_bind, Option.bind_some] at h
  split at h
  · assumption
  · cases h
/-- an array that a static holds, pinned by a case's words -/
theorem Ari.of_static {s : State} {args : Array Value} {C n d : String} {ty : FieldType} {N : Int32} {k : Nat} (hf : Fit s) (hA : (Jvm.Cond.arrayOf (.static C n d) ty).value args s none s [] = some true) (hL : (Jvm.Cond.eq (.length (.static C n d)) (.int N)).value args s none s [] = some true)
    (ht : ty = .int ∨ ty = .boolean ∨ ty = .byte ∨ ty = .char ∨ ty = .short) (hi : (Jvm.Cond.initializedFor C n d).before args s = true ∨ ((Jvm.Cond.initialized C).before args s = true ∧ (Jvm.Cond.laysStatic C n d).before args s = true)) (hN : N.toInt = (k : Int)) :
    ∃ (a : Addr) (g : Nat → Int32), Sta s s.heap C n d (.ref a) ∧ Ari s s.heap a ty k g ∧
      (∀ (j x : Int32) (i : Nat), (Jvm.Cond.eq (.elem (.static C n d) (.int j)) (.int x)).value args s none s [] = some true → j.toInt = (i : Int) → g i = x) ∧
      (∀ c : Jvm.Cond, (Jvm.Cond.all (.static C n d) c).value args s none s [] = some true → ∀ i, i < k → c.value args s none s [i] = some true) ∧
      (∀ (i : Nat) (x : Int32), i < k → (Jvm.Cond.eq (.elem (.static C n d) (.index 0)) (.int x)).value args s none s [i] = some true → g i = x) := by
  obtain ⟨a, e⟩ := arr_v hA
  obtain ⟨c, A⟩ := Arr.start e hA
  have eL := eqInt_v hL
  have hat : s.arrayAt? a = some c := A.fin (Vm.Alike.refl _)
  have hsz : c.slots.size < 2 ^ 31 := len_small eL e hat
  obtain ⟨a', c', q1, q2, q3⟩ := Term.length_spec eL
  cases e.symm.trans q1
  cases hat.symm.trans q2
  have hk : c.slots.size = k := by
    have z := congrArg Int32.toInt (Value.int.inj q3)
    rw [len_toInt hsz] at z
    omega
  obtain ⟨g, G, hg⟩ := Ari.of_start hf A ht hsz
  rw [hk] at G
  refine ⟨a, g, Sta.start e hi, G, fun j x i h hj => ?_, fun c0 h i hi => Cond.all_elim e hat h i (by omega), fun i x hi h => ?_⟩
  · obtain ⟨h1, h2⟩ := elem_in (eqInt_v h) e (show (Term.int j).eval args s none [] s = some (.int j) from rfl) A.1
    have ej : j.toNatClampNeg = i := by simp only [Int32.toNatClampNeg, hj]; omega
    rw [ej] at h2
    exact hg i x h2
  · have e2 : (Term.static C n d).eval args s none [i] s = some (.ref a) := e
    obtain ⟨h1, h2⟩ := elem_in (eqInt_v h) e2 (show (Term.index 0).eval args s none [i] s = some (.int i.toInt32) from rfl) A.1
    have e1 : i.toInt32.toInt = (i : Int) := len_toInt (show i < 2 ^ 31 by omega)
    have ej : i.toInt32.toNatClampNeg = i := by simp only [Int32.toNatClampNeg, e1]; omega
    rw [ej] at h2
    exact hg i x h2
theorem Arf.of_static {s : State} {args : Array Value} {C n d K K' : String} {N : Int32} {k : Nat} {X : Jvm.Cond} (hA : (Jvm.Cond.arrayOf (.static C n d) (.object K)).value args s none s [] = some true) (hL : (Jvm.Cond.eq (.length (.static C n d)) (.int N)).value args s none s [] = some true)
    (hi : (Jvm.Cond.initializedFor C n d).before args s = true ∨ ((Jvm.Cond.initialized C).before args s = true ∧ (Jvm.Cond.laysStatic C n d).before args s = true)) (hN : N.toInt = (k : Int)) (hall : (Jvm.Cond.all (.static C n d) (.and (.exactly (.elem (.static C n d) (.index 0)) K') X)).value args s none s [] = some true) :
    ∃ (a : Addr) (f : Nat → Value), Sta s s.heap C n d (.ref a) ∧ Arf s s.heap a (.object K) k f ∧ ∀ i, i < k → ∃ y, f i = .ref y := by
  obtain ⟨a, e⟩ := arr_v hA
  obtain ⟨c, A⟩ := Arr.start e hA
  have eL := eqInt_v hL
  have hat : s.arrayAt? a = some c := A.fin (Vm.Alike.refl _)
  have hsz : c.slots.size < 2 ^ 31 := len_small eL e hat
  obtain ⟨a', c', q1, q2, q3⟩ := Term.length_spec eL
  cases e.symm.trans q1
  cases hat.symm.trans q2
  have hk : c.slots.size = k := by
    have z := congrArg Int32.toInt (Value.int.inj q3)
    rw [len_toInt hsz] at z
    omega
  have key : ∀ i, i < k → ∃ y, c.slots[i]? = some (.ref y) := fun i hi => by
    have h1 := (and_e (Cond.all_elim e hat hall i (by omega))).1
    obtain ⟨y, hy⟩ := exa_v h1
    have e2 : (Term.static C n d).eval args s none [i] s = some (.ref a) := e
    obtain ⟨-, h2⟩ := elem_in hy e2 (show (Term.index 0).eval args s none [i] s = some (.int i.toInt32) from rfl) A.1
    have e1 : i.toInt32.toInt = (i : Int) := len_toInt (show i < 2 ^ 31 by omega)
    have ej : i.toInt32.toNatClampNeg = i := by simp only [Int32.toNatClampNeg, e1]; omega
    rw [ej] at h2
    exact ⟨y, h2⟩
  refine ⟨a, fun i => (c.slots[i]?).getD .null, Sta.start e hi, ⟨c, A, hk, by omega, fun i hi => ?_, fun i hi => ?_⟩, fun i hi => ?_⟩
  · obtain ⟨y, hy⟩ := key i hi; simp [hy]
  · obtain ⟨y, hy⟩ := key i hi; simp [hy, fits]
  · obtain ⟨y, hy⟩ := key i hi; exact ⟨y, by simp [hy]⟩
theorem nar_char (x : Int32) : nar .char (nar .char x) = nar .char x := by
  have h1 := c_i2c x
  have h2 := c_i2c (nar .char x)
  apply Int32.toInt_inj.mp
  show (nar .char x).toUInt32.toUInt16.toUInt32.toInt32.toInt = x.toUInt32.toUInt16.toUInt32.toInt32.toInt
  have e : (nar .char x).toInt = x.toUInt32.toUInt16.toUInt32.toInt32.toInt := rfl
  omega
theorem idx_lt {args : Array Value} {s : State} {i : Nat} {lo : Int32} (hi : i < 2147483648) : (Jvm.Cond.lt (.index 0) (.int lo)).value args s none s [i] = some (decide ((i : Int) < lo.toInt)) := by
  have e1 : i.toInt32.toInt = (i : Int) := len_toInt (show i < 2 ^ 31 by omega)
  rw [Cond.lt_ints (x := i.toInt32) (y := lo) rfl rfl, Option.some.injEq, decide_eq_decide, Int32.lt_iff_toInt_lt, e1]
theorem idx_le {args : Array Value} {s : State} {i : Nat} {hi : Int32} (h : i < 2147483648) : (Jvm.Cond.le (.int hi) (.index 0)).value args s none s [i] = some (decide (hi.toInt ≤ (i : Int))) := by
  have e1 : i.toInt32.toInt = (i : Int) := len_toInt (show i < 2 ^ 31 by omega)
  rw [Cond.le_ints (x := hi) (y := i.toInt32) rfl rfl, Option.some.injEq, decide_eq_decide, Int32.le_iff_toInt_le, e1]
theorem or_v {args : Array Value} {first s : State} {o : Option Outcome} {idx : List Nat} {G X : Jvm.Cond} {P : Prop} [Decidable P] (h : (Jvm.Cond.or G X).value args first o s idx = some true) (h1 : G.value args first o s idx = some (decide P)) : P ∨ X.value args first o s idx = some true := by
  by_cases p : P
  · exact Or.inl p
  · rw [Cond.or_of_right (nay h1 p)] at h; exact Or.inr h
end Jvm.WK
namespace Jvm.WK
open Jvm Sem ClassFile Op Lib Jvm.Free Jvm.Stand Jvm.LawKit Jvm.RoadKit
/-- the surroundings, the first state's tables turned to vm0 -/
abbrev Cx.at (C : Cx) (vm0 : Vm) : Cx := (C.1, C.2.1, C.2.2.1, C.2.2.2.1.setVm vm0, C.2.2.2.2)
/-- the tables have come from the start to vm0, and every String constant of EL that is booked says its text -/
def Hd (C : Cx) (Z : State) (EL : List (String × Nat)) (vm0 : Vm) (h : Heap) : Prop := (∃ k0, C.2.2.2.1.Since vm0 k0 ∧ k0 ≤ h.size) ∧ CHr Z EL C.2.2.2.1.vm C.2.2.2.1.heap vm0 h ∧ Z.Warmed39 vm0
def Sn (C : Cx) (vm0 : Vm) (h : Heap) : Prop := ∃ k0, C.2.2.2.1.Since vm0 k0 ∧ k0 ≤ h.size
abbrev EndW (C : Cx) (R : Room) (n0 : Nat) (Q : Option Value → Heap → Prop) : State → Option Value → List Loc → Prop := fun s₂ v L => Q v s₂.heap ∧ Fr n0 L ∧ ReturnedEndW C.2.2.2.1 (.returned v) s₂ L R.cells R.slots
abbrev EndH (C : Cx) (Z : State) (EL : List (String × Nat)) (R : Room) (n0 : Nat) (Q : Option Value → Heap → Prop) : State → Option Value → List Loc → Prop := fun s₂ v L => EndW C R n0 Q s₂ v L ∧ CHr Z EL C.2.2.2.1.vm C.2.2.2.1.heap s₂.vm s₂.heap
section
variable {C : Cx} {Z : State} {EL : List (String × Nat)} {vm0 : Vm} {h h' : Heap}
theorem Hd.sn (H : Hd C Z EL vm0 h) : Sn C vm0 h := H.1
theorem Hd.size (H : Hd C Z EL vm0 h) : C.2.2.2.1.heap.size ≤ h.size := H.2.1.2.1
theorem Hd.ch (H : Hd C Z EL vm0 h) : CHv Z EL vm0 h := H.2.1.1
theorem Hd.warm (H : Hd C Z EL vm0 h) : Z.Warmed39 vm0 := H.2.2
theorem Hd.ext (H : Hd C Z EL vm0 h) (E : Ext h h') : Hd C Z EL vm0 h' := by
  obtain ⟨⟨k0, h1, h2⟩, h3, h4⟩ := H
  exact ⟨⟨k0, h1, Nat.le_trans h2 E.1⟩, h3.trans (CHr.ext E h3.1), h4⟩
theorem Hd.keep {ws : List Addr} (H : Hd C Z EL vm0 h) (K : Keep h h' ws) (hs : ∀ x ∈ ws, Safe Z EL vm0 h x) : Hd C Z EL vm0 h' := by
  obtain ⟨⟨k0, h1, h2⟩, h3, h4⟩ := H
  exact ⟨⟨k0, h1, Nat.le_trans h2 K.1⟩, h3.trans (CHr.keep K hs h3.1), h4⟩
theorem Wr.size {a : Addr} {sl : Nat} {v : Value} (W : Wr h h' a sl v) : h'.size = h.size := by obtain ⟨c0, -, -, -, rfl⟩ := W; simp
theorem Hd.wr {a : Addr} {sl : Nat} {v : Value} (H : Hd C Z EL vm0 h) (W : Wr h h' a sl v) (S : Safe Z EL vm0 h a) : Hd C Z EL vm0 h' := by
  obtain ⟨⟨k0, h1, h2⟩, h3, h4⟩ := H
  exact ⟨⟨k0, h1, by rw [Wr.size W]; exact h2⟩, h3.trans (CHr.wr W S h3.1), h4⟩
theorem Sn.grow (H : Sn C vm0 h) (e : h.size ≤ h'.size) : Sn C vm0 h' := by obtain ⟨k0, h1, h2⟩ := H; exact ⟨k0, h1, Nat.le_trans h2 e⟩
end
/-- WHAT A METHOD DOES THAT MAY INTERN -/
def DoesH (l : Launch) (Z : State) (EL : List (String × Nat)) (y : MethodName) (code : ByteArray) (ml : Nat) (rt : Option FieldType) (R : Room) (n0 : Nat) (as' : Array Value) (h0 : Heap) (Q : Option Value → Heap → Prop) : Prop :=
  ∀ ws : List Jvm.Cond, MetFree l y (head1 (Jvm.Cond.code y code ml rt :: ws) R) (fun a U => a = as' ∧ Z.Warmed39 U.vm ∧ U.heap = h0 ∧ CHv Z EL U.vm h0) (fun _ _ _ _ _ => True)
    (fun _ U o U' => ∃ v L, o = .returned v ∧ (Q v U'.heap ∧ Fr n0 L) ∧ CHr Z EL U.vm U.heap U'.vm U'.heap ∧ ReturnedEndW U o U' L R.cells R.slots)
theorem DoesH.of_wp {l : Launch} {Z : State} {EL : List (String × Nat)} {y : MethodName} {code : ByteArray} {ml : Nat} {rt : Option FieldType} {R : Room} {n0 : Nat} {as' : Array Value} {h0 : Heap} {Q : Option Value → Heap → Prop} (hpl : plainFor y = true) {Ls : Array Slot} (hef : ∀ m, entryFrame m as' ml = mkF m 0 Ls [])
    (hW : ∀ (C : Cx) (vm0 : Vm), Hd C Z EL vm0 h0 → WPG (C.at vm0) Z code ml y.cls rt y.name R n0 (EndH C Z EL R n0 Q) 0 0 h0 0 Ls []) : DoesH l Z EL y code ml rt R n0 as' h0 Q := by
  intro ws
  refine MetFree.of_bodySF hpl hisR ?_
  intro p e s m args below meth c s₁ Bd hml0 hP hK
  obtain ⟨rfl, hZ, hh, hC⟩ := hP
  have X0 : Stand p l e R s m args below meth c s₁ [] 0 0 := Stand.of_body Bd
  have e0 : s₁.heap = h0 := by rw [← hh, Bd.state]; rfl
  obtain ⟨s₂, v, L, h1, h2, h3, h4⟩ := hW (p, l, e, s, m, args, below, meth, c) s.vm ⟨⟨0, (State.WarmedH.refl s).since 0, Nat.zero_le _⟩, by show CHr Z EL s.vm s.heap s.vm h0; rw [hh]; exact CHr.refl hC, hZ⟩ Bd.exec Bd.bytes hml0 (findClass_of_methodNamed Bd.named) hZ Bd.returns Bd.notSynchronized (name_of_methodNamed Bd.named Bd.method).1 s₁ [] X0 e0 (Fr.nil n0)
  exact ⟨s₂, _, castTop (hef m) h1, h2, h3, v, L, rfl, ⟨h4.1.1, h4.1.2.1⟩, h4.2, h4.1.2.2⟩
/-- .. and keeps no more than its frame -/
def DoesW (l : Launch) (Z : State) (EL : List (String × Nat)) (y : MethodName) (code : ByteArray) (ml : Nat) (rt : Option FieldType) (R : Room) (n0 : Nat) (as' : Array Value) (h0 : Heap) (Q : Option Value → Heap → Prop) : Prop :=
  ∀ ws : List Jvm.Cond, MetFree l y (head1 (Jvm.Cond.code y code ml rt :: ws) R) (fun a U => a = as' ∧ Z.Warmed39 U.vm ∧ U.heap = h0 ∧ CHv Z EL U.vm h0) (fun _ _ _ _ _ => True)
    (fun _ U o U' => ∃ v L, o = .returned v ∧ (Q v U'.heap ∧ Fr n0 L) ∧ ReturnedEndW U o U' L R.cells R.slots)
theorem DoesW.of_wp {l : Launch} {Z : State} {EL : List (String × Nat)} {y : MethodName} {code : ByteArray} {ml : Nat} {rt : Option FieldType} {R : Room} {n0 : Nat} {as' : Array Value} {h0 : Heap} {Q : Option Value → Heap → Prop} (hpl : plainFor y = true) {Ls : Array Slot} (hef : ∀ m, entryFrame m as' ml = mkF m 0 Ls [])
    (hW : ∀ (C : Cx) (vm0 : Vm), Hd C Z EL vm0 h0 → WPG (C.at vm0) Z code ml y.cls rt y.name R n0 (EndW C R n0 Q) 0 0 h0 0 Ls []) : DoesW l Z EL y code ml rt R n0 as' h0 Q := by
  intro ws
  refine MetFree.of_bodySF hpl hisR ?_
  intro p e s m args below meth c s₁ Bd hml0 hP hK
  obtain ⟨rfl, hZ, hh, hC⟩ := hP
  have X0 : Stand p l e R s m args below meth c s₁ [] 0 0 := Stand.of_body Bd
  have e0 : s₁.heap = h0 := by rw [← hh, Bd.state]; rfl
  obtain ⟨s₂, v, L, h1, h2, h3, h4⟩ := hW (p, l, e, s, m, args, below, meth, c) s.vm ⟨⟨0, (State.WarmedH.refl s).since 0, Nat.zero_le _⟩, by show CHr Z EL s.vm s.heap s.vm h0; rw [hh]; exact CHr.refl hC, hZ⟩ Bd.exec Bd.bytes hml0 (findClass_of_methodNamed Bd.named) hZ Bd.returns Bd.notSynchronized (name_of_methodNamed Bd.named Bd.method).1 s₁ [] X0 e0 (Fr.nil n0)
  exact ⟨s₂, _, castTop (hef m) h1, h2, h3, v, L, rfl, ⟨h4.1, h4.2.1⟩, h4.2.2⟩
/-- a text's bytes -/
def litG (L : List Int32) : Nat → Int32 := fun i => L.getD i 0
theorem Ari.of_arv {Z : State} {h : Heap} {b : Addr} {k : ClassId} {z : Int32} {vs : List Value} {L : List Int32} (A : Arv Z h b k .byte z vs (.int 0)) (hL : vs = L.map Value.int) (hz : z.toNatClampNeg = L.length) (hl : L.length < 2147483648) : Ari Z h b .byte L.length (litG L) := by
  obtain ⟨c, A, -, r1, r2, r3, r4⟩ := A
  have e : ∀ i, vs.getD i (.int 0) = Value.int (litG L i) := fun i => by
    rw [hL]; unfold litG
    simp only [List.getD_eq_getElem?_getD, List.getElem?_map]
    cases L[i]? <;> rfl
  have n1 : c.slots.size = L.length := r1.trans hz
  exact ⟨c, A, n1, hl, fun i hi => by rw [r3 i (by omega), e], fun i hi => by have := r4 i (by omega); rw [e] at this; exact this⟩
/-- a String whose bytes are not set yet is no booked one -/
theorem Safe.ofNull {Z : State} {EL : List (String × Nat)} {vm : Vm} {h : Heap} {x : Addr} (hZ : Z.Warmed39 vm) (E : Exa Z h x "java/lang/String") (F : Fld Z h x "java/lang/String" "value" "[B" .null) : Safe Z EL vm h x := fun B => by
  have hal := hZ.alike
  obtain ⟨cell, k, e1, e2, e3, -, -⟩ := E
  obtain ⟨p, -, u, a, -, q, -, F', rfl | rfl⟩ := B
  · obtain ⟨c', cv', kv, iv, f, f1, f2, -, -, -, -, f7⟩ := F
    cases (show h[q.sa]? = some q.sC from F'.ha).symm.trans f1
    obtain ⟨cS, ⟨⟨-, -, -, ⟨c1, k1, i1, g1, -⟩, -, -, -, v1, -⟩, -⟩, -⟩ := F'
    obtain ⟨k3, e3, -⟩ := State.fieldFound?_setVm (s := ({ Z with heap := h } : State)) hal f2
    have e4 := (show (Wst Z vm h).fieldFound? _ _ _ = _ from e3).symm.trans g1
    simp only [Option.some.injEq, Prod.mk.injEq] at e4
    rw [← e4.2.2.2, f7] at v1
    cases v1
  · cases (show h[q.sd]? = some q.SA from F'.hd).symm.trans e1
    obtain ⟨cS, -, -, f, -⟩ := F'
    have f' : vm.findClass "[B" = some q.SA.cls := f
    rw [hal.findClass] at f'
    obtain ⟨k1, q1, q2⟩ := Vm.findClass_spec f'
    obtain ⟨k2, q3, q4⟩ := Vm.findClass_spec e2
    cases q1.symm.trans q3
    exact absurd (q2.symm.trans q4) (by decide)
theorem Ari.nil {Z : State} {h : Heap} {b : Addr} {ty : FieldType} {g g' : Nat → Int32} {n : Nat} (A : Ari Z h b ty 0 g) (e : n = 0) : Ari Z h b ty n g' := by subst e; exact A.congr fun j hj => absurd hj (Nat.not_lt_zero _)
section RulesH
variable {C : Cx} {Z : State} {EL : List (String × Nat)} {vm0 : Vm} {code : ByteArray} {ml : Nat} {own : String} {rt : Option FieldType} {nm : String} {R : Room} {n0 : Nat} {Q : Option Value → Heap → Prop} {G : State → Option Value → List Loc → Prop} {cl sl : Nat} {h : Heap} {pc pc' : Nat} {Ls Ls' : Array Slot} {st st' : List Value} {a0 : Array Value}
theorem retW {U : State} {v : Option Value} {locs : List Loc} (H : Sn C vm0 h) (e : U.heap = h) (hW : (C.2.2.2.1.setVm vm0).WarmedH U.vm) (hs : (C.2.2.2.1.setVm vm0).sameButNew ({ U with vm := vm0 } : State) locs cl sl) (hc : cl ≤ R.cells) (hs' : sl ≤ R.slots) : ReturnedEndW C.2.2.2.1 (.returned v) U locs R.cells R.slots := by
  obtain ⟨k0, h1, h2⟩ := H
  obtain ⟨q1, q2, q3⟩ := h1.ended hW (by rw [e]; exact h2) hs
  exact ⟨⟨_, rfl⟩, q1, q2, q3.mono hc hs'⟩
theorem Hd.at (hZ : Z.Warmed39 vm0) (w : EW Z a0 EL) (H : Hd C Z EL vm0 h) {vm1 : Vm} (hW : (C.2.2.2.1.setVm vm0).WarmedH vm1) : CHr Z EL C.2.2.2.1.vm C.2.2.2.1.heap vm1 h := by
  have q := CHv.later (h' := h) hZ (hW := (show (Wst Z vm0 h).Warmed39 vm1 from State.WarmedH.wide hW)) w ⟨Nat.le_refl _, fun _ _ q => q⟩ (Or.inl (State.WarmedH.interned_eq hW)) H.ch
  exact H.2.1.trans ⟨q.1, Nat.le_refl _, q.2⟩
theorem WP.iretW {z : Int32} (hd : decode code pc = .ok (.ireturn, 1)) (hrt : rt = some .int) (H : Sn C vm0 h) (hc : cl ≤ R.cells) (hs : sl ≤ R.slots) (hq : Q (some (.int z)) h) : WPG (C.at vm0) Z code ml own rt nm R n0 (EndW C R n0 Q) cl sl h pc Ls (.int z :: st) := by
  intro k1 k2 k3 k4 k5 k6 k7 k8 T locs X e N
  obtain ⟨fs, hr', hrun, hended, hW, hsame⟩ := X.leave (v := (some (.int z))) (fun q => by rw [k6, hrt] at q; cases q) k7
  exact ⟨_, _, _, retOut X k1 (t := .int) (k6.trans hrt) rfl (Or.inl ⟨rfl, Or.inl rfl, _, rfl⟩) (hb k2 hd) hr', hrun, hended, ⟨by show Q _ T.heap; rw [e]; exact hq, N, retW H e hW hsame hc hs⟩⟩
theorem WP.iretH {z : Int32} (hd : decode code pc = .ok (.ireturn, 1)) (hrt : rt = some .int) (hEL : EW Z a0 EL) (H : Hd C Z EL vm0 h) (hc : cl ≤ R.cells) (hs : sl ≤ R.slots) (hq : Q (some (.int z)) h) : WPG (C.at vm0) Z code ml own rt nm R n0 (EndH C Z EL R n0 Q) cl sl h pc Ls (.int z :: st) := by
  intro k1 k2 k3 k4 k5 k6 k7 k8 T locs X e N
  obtain ⟨fs, hr', hrun, hended, hW, hsame⟩ := X.leave (v := (some (.int z))) (fun q => by rw [k6, hrt] at q; cases q) k7
  exact ⟨_, _, _, retOut X k1 (t := .int) (k6.trans hrt) rfl (Or.inl ⟨rfl, Or.inl rfl, _, rfl⟩) (hb k2 hd) hr', hrun, hended, ⟨⟨by show Q _ T.heap; rw [e]; exact hq, N, retW H.sn e hW hsame hc hs⟩, by show CHr Z EL _ _ T.vm T.heap; rw [e]; exact H.at k5 hEL hW⟩⟩
theorem WP.aretW {z : Value} (hd : decode code pc = .ok (.areturn, 1)) {t : FieldType} (hrt : rt = some t) (ht : t.isReference = true) (hv : z.isRef = true) (H : Sn C vm0 h) (hc : cl ≤ R.cells) (hs : sl ≤ R.slots) (hq : Q (some z) h) : WPG (C.at vm0) Z code ml own rt nm R n0 (EndW C R n0 Q) cl sl h pc Ls (z :: st) := by
  intro k1 k2 k3 k4 k5 k6 k7 k8 T locs X e N
  obtain ⟨fs, hr', hrun, hended, hW, hsame⟩ := X.leave (v := (some z)) (fun q => by rw [k6, hrt] at q; cases q) k7
  exact ⟨_, _, _, retOut X k1 (t := t) (k6.trans hrt) (by cases t <;> first | (cases ht; done) | rfl) (Or.inr (Or.inr (Or.inr (Or.inr ⟨rfl, ht, hv⟩)))) (hb k2 hd) hr', hrun, hended, ⟨by show Q _ T.heap; rw [e]; exact hq, N, retW H e hW hsame hc hs⟩⟩
theorem WP.aretH {z : Value} (hd : decode code pc = .ok (.areturn, 1)) {t : FieldType} (hrt : rt = some t) (ht : t.isReference = true) (hv : z.isRef = true) (hEL : EW Z a0 EL) (H : Hd C Z EL vm0 h) (hc : cl ≤ R.cells) (hs : sl ≤ R.slots) (hq : Q (some z) h) : WPG (C.at vm0) Z code ml own rt nm R n0 (EndH C Z EL R n0 Q) cl sl h pc Ls (z :: st) := by
  intro k1 k2 k3 k4 k5 k6 k7 k8 T locs X e N
  obtain ⟨fs, hr', hrun, hended, hW, hsame⟩ := X.leave (v := (some z)) (fun q => by rw [k6, hrt] at q; cases q) k7
  exact ⟨_, _, _, retOut X k1 (t := t) (k6.trans hrt) (by cases t <;> first | (cases ht; done) | rfl) (Or.inr (Or.inr (Or.inr (Or.inr ⟨rfl, ht, hv⟩)))) (hb k2 hd) hr', hrun, hended, ⟨⟨by show Q _ T.heap; rw [e]; exact hq, N, retW H.sn e hW hsame hc hs⟩, by show CHr Z EL _ _ T.vm T.heap; rw [e]; exact H.at k5 hEL hW⟩⟩
theorem WP.nretW {z : Int32} (hd : decode code pc = .ok (.ireturn, 1)) {t : FieldType} {z' : Int32} (hrt : rt = some t) (ht : t = .boolean ∨ t = .byte ∨ t = .char ∨ t = .short) (hz : nar t z = z') (H : Sn C vm0 h) (hc : cl ≤ R.cells) (hs : sl ≤ R.slots) (hq : Q (some (.int z')) h) : WPG (C.at vm0) Z code ml own rt nm R n0 (EndW C R n0 Q) cl sl h pc Ls (.int z :: st) := by
  intro k1 k2 k3 k4 k5 k6 k7 k8 T locs X e N
  obtain ⟨fs, hr', hrun, hended, hW, hsame⟩ := X.leave (v := (some (.int z'))) (fun q => by rw [k6, hrt] at q; cases q) k7
  exact ⟨_, _, _, retN X k1 (t := t) (k6.trans hrt) ht (hb k2 hd) (by rw [hz]; exact hr'), hrun, hended, ⟨by show Q _ T.heap; rw [e]; exact hq, N, retW H e hW hsame hc hs⟩⟩
theorem WP.nretH {z : Int32} (hd : decode code pc = .ok (.ireturn, 1)) {t : FieldType} {z' : Int32} (hrt : rt = some t) (ht : t = .boolean ∨ t = .byte ∨ t = .char ∨ t = .short) (hz : nar t z = z') (hEL : EW Z a0 EL) (H : Hd C Z EL vm0 h) (hc : cl ≤ R.cells) (hs : sl ≤ R.slots) (hq : Q (some (.int z')) h) : WPG (C.at vm0) Z code ml own rt nm R n0 (EndH C Z EL R n0 Q) cl sl h pc Ls (.int z :: st) := by
  intro k1 k2 k3 k4 k5 k6 k7 k8 T locs X e N
  obtain ⟨fs, hr', hrun, hended, hW, hsame⟩ := X.leave (v := (some (.int z'))) (fun q => by rw [k6, hrt] at q; cases q) k7
  exact ⟨_, _, _, retN X k1 (t := t) (k6.trans hrt) ht (hb k2 hd) (by rw [hz]; exact hr'), hrun, hended, ⟨⟨by show Q _ T.heap; rw [e]; exact hq, N, retW H.sn e hW hsame hc hs⟩, by show CHr Z EL _ _ T.vm T.heap; rw [e]; exact H.at k5 hEL hW⟩⟩
theorem WP.vretW  (hd : decode code pc = .ok (.return_, 1)) (hrt : rt = none) (H : Sn C vm0 h) (hc : cl ≤ R.cells) (hs : sl ≤ R.slots) (hq : Q none h) : WPG (C.at vm0) Z code ml own rt nm R n0 (EndW C R n0 Q) cl sl h pc Ls [] := by
  intro k1 k2 k3 k4 k5 k6 k7 k8 T locs X e N
  obtain ⟨fs, hr', hrun, hended, hW, hsame⟩ := X.leave (v := none) (fun _ => rfl) k7
  exact ⟨_, _, _, X.returnOut k1 (k6.trans hrt) (hb k2 hd) hr', hrun, hended, ⟨by show Q _ T.heap; rw [e]; exact hq, N, retW H e hW hsame hc hs⟩⟩
theorem WP.vretH  (hd : decode code pc = .ok (.return_, 1)) (hrt : rt = none) (hEL : EW Z a0 EL) (H : Hd C Z EL vm0 h) (hc : cl ≤ R.cells) (hs : sl ≤ R.slots) (hq : Q none h) : WPG (C.at vm0) Z code ml own rt nm R n0 (EndH C Z EL R n0 Q) cl sl h pc Ls [] := by
  intro k1 k2 k3 k4 k5 k6 k7 k8 T locs X e N
  obtain ⟨fs, hr', hrun, hended, hW, hsame⟩ := X.leave (v := none) (fun _ => rfl) k7
  exact ⟨_, _, _, X.returnOut k1 (k6.trans hrt) (hb k2 hd) hr', hrun, hended, ⟨⟨by show Q _ T.heap; rw [e]; exact hq, N, retW H.sn e hW hsame hc hs⟩, by show CHr Z EL _ _ T.vm T.heap; rw [e]; exact H.at k5 hEL hW⟩⟩
theorem WP.ldcH {i n : Nat} {text : String} {vs : List Value} {z : Int32} {cl' sl' : Nat} (hd : decode code pc = .ok (.ldc i, 2)) (hp : pc + 2 = pc') (w : (Jvm.Cond.stringLink own i text).before a0 Z = true) (wS : ∀ a ∈ Bundle.stringAtoms, a.before a0 Z = true) (hEL : EW Z a0 EL) (hmem : (own, i) ∈ EL) (H : Hd C Z EL vm0 h)
    (ht : (∀ c ∈ text.toList, c.toNat < 256) ∧ text.toList.map (fun c => Value.int (Jvm.Lit.byteI c.toNat.toUInt16)) = vs) (hz : ¬ z < 0) (hl : z.toNatClampNeg = vs.length) (hn : 4 * text.toList.length ≤ n) (hbig : n ≤ 536870912) (hc : cl + 2 = cl') (hs : sl + (n + 4) = sl') (hc' : cl' ≤ R.cells) (hs' : sl' ≤ R.slots)
    (hr : ∀ vm1 h' a b k, Ext h h' → Exa Z h' a "java/lang/String" → Fld Z h' a "java/lang/String" "coder" "B" (.int 0) → Fld Z h' a "java/lang/String" "value" "[B" (.ref b) → Arv Z h' b k .byte z vs (.int 0) → Hd C Z EL vm1 h' → CHr Z EL vm0 h vm1 h' → (∀ x, Safe Z EL vm1 h' x → x ≠ a ∧ x ≠ b) → WPG (C.at vm1) Z code ml own rt nm R n0 G cl' sl' h' pc' Ls (.ref a :: st)) : WPG (C.at vm0) Z code ml own rt nm R n0 G cl sl h pc Ls st := by
  subst hp hc hs
  intro k1 k2 k3 k4 k5 k6 k7 k8 T locs X e N
  obtain ⟨⟨k0, q1, q2⟩, q3, -⟩ := H
  obtain ⟨a, T', h', k9, b, k, X', e', E', S', L', Z', f', A1, A2, A3, A4, -, -, R', -, ne, come⟩ := ldcCH X k1 k5 k4 w wS e q1 q2 hEL hmem q3.1 ht hz hl (g := mkF _ pc Ls st) rfl (hb k2 hd) hn hbig hc' hs'
  obtain ⟨s₂, v', L2, h1, h2⟩ := hr T'.vm h' a b k E' A1 A2 A3 A4 ⟨⟨k9, S', L'⟩, q3.trans R', Z'⟩ R' ne k1 k2 k3 f' Z' k6 k7 k8 T' _ X' e' N
  exact ⟨s₂, v', L2, come _ h1, h2⟩
theorem WP.callSH {i : Nat} {y : MethodName} {code' : ByteArray} {ml' wd cl' sl' : Nat} {rt' : Option FieldType} {R' : Room} {Q' : Option Value → Heap → Prop} {argsL rest : List Value} {ps : List FieldType} {rr : Option FieldType} (hd : decode code pc = .ok (.invokestatic i, 3)) (hp : pc + 3 = pc') (w1 : (Jvm.Cond.methodLink own i y).before a0 Z = true) (w2 : (Jvm.Cond.static y).before a0 Z = true) (w3 : (Jvm.Cond.initialized y.cls).before a0 Z = true) (w4 : (Jvm.Cond.code y code' ml' rt').before a0 Z = true) (hy : y.cls ≠ "java/lang/invoke/MethodHandle" ∧ y.cls ≠ "java/lang/invoke/VarHandle") (hEL : EW Z a0 EL) (H : Hd C Z EL vm0 h) (hM : ∀ l, DoesH l Z EL y code' ml' rt' R' n0 argsL.toArray h Q') (hpd : parseMethodDescriptor y.desc = some ⟨ps, rr⟩) (hlen : argsL.length = ps.length) (hst : st = argsL.reverse ++ rest) (hml : Ls.size = ml) (hw : (rest.map fun v => v.category).sum ≤ wd) (hrm : R'.frames + 1 ≤ R.frames) (hlo : wd + (ml' + 11) + R'.locals ≤ R.locals) (hc : cl + R'.cells = cl') (hs : sl + R'.slots = sl') (hc' : cl' ≤ R.cells) (hs' : sl' ≤ R.slots)
    (hr : ∀ v vm1 h', Q' v h' → Hd C Z EL vm1 h' → CHr Z EL vm0 h vm1 h' → WPG (C.at vm1) Z code ml own rt nm R n0 G cl' sl' h' pc' Ls (v.toList ++ rest)) : WPG (C.at vm0) Z code ml own rt nm R n0 G cl sl h pc Ls st := by
  subst hp hc hs
  intro k1 k2 k3 k4 k5 k6 k7 k8 T locs X e N
  obtain ⟨v, _, ⟨T', L', c', n'⟩, -, X', S', g', ⟨Lc, hQ, l1, y1, z1, r1⟩, k⟩ := callSS X k1 (y := y) k4 (mvT k5 w1) (mvT k5 w2) (mvT k5 w3) (mvT k5 w4) hy (backOfSH (s := C.2.2.2.1) (W := wd) (Q := fun v h L => Q' v h ∧ Fr n0 L) (hM _ []) k5 w4 w3 hrm hlo hEL H.ch) (g := mkF _ pc Ls st) rfl (by rw [k3]; exact hml) (argsL := argsL) (rest := rest) (lenOf hpd hlen) hst (by show 2 * 0 + _ ≤ _; omega) (hb k2 hd) (fun _ _ => ⟨rfl, e, hc', hs'⟩)
  dsimp only [Pt.U, Pt.locs, Pt.cells, Pt.slots] at X' l1 y1 z1 k hQ r1 S' g'
  subst l1 y1 z1
  obtain ⟨⟨k0, q1, q2⟩, q3, -⟩ := H
  rw [e] at g'
  obtain ⟨s₂, v', L2, h1, h2⟩ := hr v T'.vm _ hQ.1 ⟨⟨_, q1.trans S' (Nat.le_trans q2 g'), Nat.le_refl _⟩, q3.trans r1, State.Warmed39.trans (t := C.2.2.2.1.setVm vm0) k5 S'.1⟩ r1 k1 k2 k3 (by rw [show ((C.at T'.vm).2.2.2.1).vm = T'.vm from rfl, S'.1.alike.findClass]; exact k4) (State.Warmed39.trans (t := C.2.2.2.1.setVm vm0) k5 S'.1) k6 k7 k8 T' _ X' rfl (Fr.app N hQ.2)
  exact ⟨s₂, v', L2, k.trans h1, h2⟩
theorem WP.callIH {a : Addr} {i : Nat} {y : MethodName} {code' : ByteArray} {ml' wd cl' sl' : Nat} {R' : Room} {Q' : Option Value → Heap → Prop} {argsL rest : List Value} {ps : List FieldType} {rr : Option FieldType} (hd : decode code pc = .ok (.invokespecial i, 3)) (hp : pc + 3 = pc') (hy1 : y.name = "<init>") (w1 : (Jvm.Cond.methodLink own i y).before a0 Z = true) (w2 : (Jvm.Cond.instanceMethod y).before a0 Z = true) (w3 : (Jvm.Cond.initialized y.cls).before a0 Z = true) (w4 : (Jvm.Cond.code y code' ml' none).before a0 Z = true) (hy : y.cls ≠ "java/lang/invoke/MethodHandle" ∧ y.cls ≠ "java/lang/invoke/VarHandle") (hEL : EW Z a0 EL) (H : Hd C Z EL vm0 h) (hM : ∀ l, DoesH l Z EL y code' ml' none R' n0 (.ref a :: argsL).toArray h Q') (hpd : parseMethodDescriptor y.desc = some ⟨ps, rr⟩) (hlen : argsL.length = ps.length) (hst : st = argsL.reverse ++ .ref a :: rest) (hml : Ls.size = ml) (hw : (rest.map fun v => v.category).sum ≤ wd) (hrm : R'.frames + 1 ≤ R.frames) (hlo : wd + (ml' + 11) + R'.locals ≤ R.locals) (hc : cl + R'.cells = cl') (hs : sl + R'.slots = sl') (hc' : cl' ≤ R.cells) (hs' : sl' ≤ R.slots)
    (hr : ∀ v vm1 h', Q' v h' → Hd C Z EL vm1 h' → CHr Z EL vm0 h vm1 h' → WPG (C.at vm1) Z code ml own rt nm R n0 G cl' sl' h' pc' Ls (v.toList ++ rest)) : WPG (C.at vm0) Z code ml own rt nm R n0 G cl sl h pc Ls st := by
  subst hp hc hs
  intro k1 k2 k3 k4 k5 k6 k7 k8 T locs X e N
  obtain ⟨v, _, ⟨T', L', c', n'⟩, -, X', S', g', ⟨Lc, hQ, l1, y1, z1, r1⟩, k⟩ := X.specialBackS k1 (y := y) hy1 k4 (mvT k5 w1) (mvT k5 w2) (mvT k5 w4) hy (backOfSH (s := C.2.2.2.1) (W := wd) (Q := fun v h L => Q' v h ∧ Fr n0 L) (hM _ []) k5 w4 w3 hrm hlo hEL H.ch) (g := mkF _ pc Ls st) rfl (by rw [k3]; exact hml) (Steps.refl _) (a := a) (argsL := argsL) (rest := rest) (lenOf hpd hlen) hst (by show 2 * 0 + _ ≤ _; omega) (hb k2 hd) (fun _ _ => ⟨rfl, e, hc', hs'⟩)
  dsimp only [Pt.U, Pt.locs, Pt.cells, Pt.slots] at X' l1 y1 z1 k hQ r1 S' g'
  subst l1 y1 z1
  obtain ⟨⟨k0, q1, q2⟩, q3, -⟩ := H
  rw [e] at g'
  obtain ⟨s₂, v', L2, h1, h2⟩ := hr v T'.vm _ hQ.1 ⟨⟨_, q1.trans S' (Nat.le_trans q2 g'), Nat.le_refl _⟩, q3.trans r1, State.Warmed39.trans (t := C.2.2.2.1.setVm vm0) k5 S'.1⟩ r1 k1 k2 k3 (by rw [show ((C.at T'.vm).2.2.2.1).vm = T'.vm from rfl, S'.1.alike.findClass]; exact k4) (State.Warmed39.trans (t := C.2.2.2.1.setVm vm0) k5 S'.1) k6 k7 k8 T' _ X' rfl (Fr.app N hQ.2)
  exact ⟨s₂, v', L2, k.trans h1, h2⟩
end RulesH
/-- WHAT A METHOD WITH HANDLERS DOES, where it throws nothing -/
def DoesX (l : Launch) (Z : State) (hs : List (Nat × Nat × Nat × Nat)) (y : MethodName) (code : ByteArray) (ml : Nat) (rt : Option FieldType) (R : Room) (n0 : Nat) (as' : Array Value) (h0 : Heap) (Q : Option Value → Heap → Prop) : Prop :=
  ∀ ws : List Jvm.Cond, MetFree l y (head1 (Jvm.Cond.codeWith y code ml rt hs :: ws) R) (fun a U => a = as' ∧ Z.Warmed39 U.vm ∧ U.heap = h0) (fun _ _ _ _ _ => True)
    (fun _ U o U' => ∃ v L, o = .returned v ∧ (Q v U'.heap ∧ Fr n0 L) ∧ FrameEnd U o U' L R.cells R.slots)
theorem DoesX.of_wp {l : Launch} {Z : State} {hs : List (Nat × Nat × Nat × Nat)} {y : MethodName} {code : ByteArray} {ml : Nat} {rt : Option FieldType} {R : Room} {n0 : Nat} {as' : Array Value} {h0 : Heap} {Q : Option Value → Heap → Prop} (hpl : plainFor y = true) {Ls : Array Slot} (hef : ∀ m, entryFrame m as' ml = mkF m 0 Ls [])
    (hW : ∀ C : Cx, WP C Z code ml y.cls rt y.name R n0 Q 0 0 h0 0 Ls []) : DoesX l Z hs y code ml rt R n0 as' h0 Q := by
  intro ws
  refine MetFree.of_bodySF hpl hisWith ?_
  intro p e s m args below meth c s₁ Bd hml0 hP hK
  obtain ⟨rfl, hZ, hh⟩ := hP
  have X0 : Stand p l e R s m args below meth c s₁ [] 0 0 := Stand.of_body Bd
  have e0 : s₁.heap = h0 := by rw [← hh, Bd.state]; rfl
  obtain ⟨s₂, v, L, h1, h2, h3, h4, h5, h6⟩ := hW (p, l, e, s, m, args, below, meth, c) Bd.exec Bd.bytes hml0 (findClass_of_methodNamed Bd.named) hZ Bd.returns Bd.notSynchronized (name_of_methodNamed Bd.named Bd.method).1 s₁ [] X0 e0 (Fr.nil n0)
  exact ⟨s₂, _, castTop (hef m) h1, h2, h3, v, L, rfl, ⟨h4, h5⟩, h6⟩
theorem WP.callIX {C : Cx} {Z : State} {code : ByteArray} {ml : Nat} {own : String} {rt : Option FieldType} {nm : String} {R : Room} {n0 : Nat} {G : State → Option Value → List Loc → Prop} {cl sl : Nat} {h : Heap} {pc pc' : Nat} {Ls : Array Slot} {st : List Value} {a0 : Array Value} {hs : List (Nat × Nat × Nat × Nat)} {a : Addr} {i : Nat} {y : MethodName} {code' : ByteArray} {ml' wd cl' sl' : Nat} {R' : Room} {Q' : Option Value → Heap → Prop} {argsL rest : List Value} {ps : List FieldType} {rr : Option FieldType} (hd : decode code pc = .ok (.invokespecial i, 3)) (hp : pc + 3 = pc') (hy1 : y.name = "<init>") (w1 : (Jvm.Cond.methodLink own i y).before a0 Z = true) (w2 : (Jvm.Cond.instanceMethod y).before a0 Z = true) (w3 : (Jvm.Cond.initialized y.cls).before a0 Z = true) (w4 : (Jvm.Cond.codeWith y code' ml' none hs).before a0 Z = true) (hy : y.cls ≠ "java/lang/invoke/MethodHandle" ∧ y.cls ≠ "java/lang/invoke/VarHandle") (hM : ∀ l, DoesX l Z hs y code' ml' none R' n0 (.ref a :: argsL).toArray h Q') (hpd : parseMethodDescriptor y.desc = some ⟨ps, rr⟩) (hlen : argsL.length = ps.length) (hst : st = argsL.reverse ++ .ref a :: rest) (hml : Ls.size = ml) (hw : (rest.map fun v => v.category).sum ≤ wd) (hrm : R'.frames + 1 ≤ R.frames) (hlo : wd + (ml' + 11) + R'.locals ≤ R.locals) (hc : cl + R'.cells = cl') (hs1 : sl + R'.slots = sl') (hc' : cl' ≤ R.cells) (hs' : sl' ≤ R.slots)
    (hr : ∀ v h', Q' v h' → WPG C Z code ml own rt nm R n0 G cl' sl' h' pc' Ls (v.toList ++ rest)) : WPG C Z code ml own rt nm R n0 G cl sl h pc Ls st := by
  subst hp hc hs1
  intro k1 k2 k3 k4 k5 k6 k7 k8 T locs X e N
  obtain ⟨v, _, ⟨T', L', c', n'⟩, -, X', ⟨Lc, hQ, l1, y1, z1⟩, k⟩ := X.specialBackH k1 (y := y) hy1 k4 (mvT k5 w1) (mvT k5 w2) (mvT k5 w4) hy (backOfWith (W := wd) (Q := fun v h L => Q' v h ∧ Fr n0 L) (hM _ []) k5 w4 w3 hrm hlo) (g := mkF _ pc Ls st) rfl (by rw [k3]; exact hml) (Steps.refl _) (a := a) (argsL := argsL) (rest := rest) (lenOf hpd hlen) hst (by show 2 * 0 + _ ≤ _; omega) (hb k2 hd) (fun _ _ => ⟨rfl, e, hc', hs'⟩)
  dsimp only [Pt.U, Pt.locs, Pt.cells, Pt.slots] at X' l1 y1 z1 k hQ
  subst l1 y1 z1
  obtain ⟨s₂, v', L2, h1, h2⟩ := hr v _ hQ.1 k1 k2 k3 k4 k5 k6 k7 k8 T' _ X' rfl (Fr.app N hQ.2)
  exact ⟨s₂, v', L2, k.trans h1, h2⟩
theorem Safe.ari {Z : State} {EL : List (String × Nat)} {vm : Vm} {h : Heap} {x : Addr} {ty : FieldType} {n : Nat} {g : Nat → Int32} (hZ : Z.Warmed39 vm) (A : Ari Z h x ty n g) (ht : ty ≠ .byte) : Safe Z EL vm h x := by obtain ⟨c, A, -⟩ := A; exact Safe.arr hZ.alike A ht
theorem Safe.obj {Z : State} {EL : List (String × Nat)} {vm : Vm} {h : Heap} {x : Addr} {K : String} (hZ : Z.Warmed39 vm) (E : Exa Z h x K) (h1 : K ≠ "java/lang/String") (h2 : K ≠ "[B") : Safe Z EL vm h x := Safe.exa hZ.alike E h1 h2
end Jvm.WK
namespace Jvm.Pilot.@@N@@
open Jvm Jvm.ClassFile Sem Op Lib Jvm.Free Jvm.Stand Jvm.LawKit Jvm.RoadKit Bundle Jvm.WK Jvm.Pilot.@@N@@.Jvm.D
theorem wd2 {Z : State} {a0 : Array Value} (hw : ∀ d ∈ tables_1, d.before a0 Z = true) : (Jvm.Cond.initialized "java/lang/String").before a0 Z = true := hw _ (List.mem_of_getElem? (i := 2) rfl)
theorem wd10 {Z : State} {a0 : Array Value} (hw : ∀ d ∈ tables_1, d.before a0 Z = true) : (Jvm.Cond.instantiable "java/lang/String" (4 : Nat)).before a0 Z = true := hw _ (List.mem_of_getElem? (i := 10) rfl)
theorem wd14 {Z : State} {a0 : Array Value} (hw : ∀ d ∈ tables_1, d.before a0 Z = true) : (Jvm.Cond.arrayClass Jvm.ClassFile.FieldType.byte).before a0 Z = true := hw _ (List.mem_of_getElem? (i := 14) rfl)
theorem wd23 {Z : State} {a0 : Array Value} (hw : ∀ d ∈ tables_1, d.before a0 Z = true) : (Jvm.Cond.laysFinal "java/lang/String" "java/lang/String" "value" "[B").before a0 Z = true := hw _ (List.mem_of_getElem? (i := 23) rfl)
theorem wd25 {Z : State} {a0 : Array Value} (hw : ∀ d ∈ tables_1, d.before a0 Z = true) : (Jvm.Cond.laysFinal "java/lang/String" "java/lang/String" "coder" "B").before a0 Z = true := hw _ (List.mem_of_getElem? (i := 25) rfl)
theorem wd218 {Z : State} {a0 : Array Value} (hw : ∀ d ∈ tables_1, d.before a0 Z = true) : (Jvm.Cond.soleField "java/lang/String" "value").before a0 Z = true := hw _ (List.mem_of_getElem? (i := 218) rfl)
theorem wd219 {Z : State} {a0 : Array Value} (hw : ∀ d ∈ tables_1, d.before a0 Z = true) : (Jvm.Cond.soleField "java/lang/String" "coder").before a0 Z = true := hw _ (List.mem_of_getElem? (i := 219) rfl)
theorem wSw {Z : State} {a0 : Array Value} (hw : ∀ d ∈ tables_1, d.before a0 Z = true) : ∀ a ∈ Bundle.stringAtoms, a.before a0 Z = true := fun a ha => by
  simp only [Bundle.stringAtoms, List.mem_cons, List.not_mem_nil, or_false] at ha
  rcases ha with rfl | rfl | rfl | rfl | rfl | rfl | rfl
  · exact (wd2 hw)
  · exact (wd10 hw)
  · exact (wd14 hw)
  · exact (wd23 hw)
  · exact (wd25 hw)
  · exact (wd218 hw)
  · exact (wd219 hw)
theorem wd217 {Z : State} {a0 : Array Value} (hw : ∀ d ∈ tables_1, d.before a0 Z = true) : (Jvm.Cond.stringLink "com/example/vipool/vipool/http/HttpHeadClearPinLaw" (23 : Nat) "").before a0 Z = true := hw _ (List.mem_of_getElem? (i := 217) rfl)
theorem hELw {Z : State} {a0 : Array Value} (hw : ∀ d ∈ tables_1, d.before a0 Z = true) : EW Z a0 consts_1 := (EW.cons (wd217 hw) (by decide) EW.nil)
/-- a char as a byte -/
def cv (c : Int32) : Int32 := c.toInt8.toInt32
theorem cv_cv (c : Int32) : nar .byte (cv c) = cv c := by
  have h1 := c_i2b c
  have h2 := c_i2b (cv c)
  apply Int32.toInt_inj.mp
  show (cv c).toInt8.toInt32.toInt = (cv c).toInt
  have e : (cv c).toInt = c.toInt8.toInt32.toInt := rfl
  omega
theorem cv_inj {c d : Int32} (hc : 0 ≤ c.toInt ∧ c.toInt ≤ 255) (hd : 0 ≤ d.toInt ∧ d.toInt ≤ 255) (h : cv c = cv d) : c = d := by
  have h1 := c_i2b c
  have h2 := c_i2b d
  have h3 : c.toInt8.toInt32.toInt = d.toInt8.toInt32.toInt := congrArg Int32.toInt h
  apply Int32.toInt_inj.mp
  omega
theorem natI {n : Nat} (h : n < 100000) : (n : Nat).toInt32.toInt = (n : Int) := len_toInt (show n < 2 ^ 31 by omega)
theorem adds {a b : Int32} {m n : Nat} (ha : a.toInt = m) (hb : b.toInt = n) (h : m + n < 100000) : (a + b).toInt = ((m + n : Nat) : Int) := by
  have h1 := c_iadd a b
  have h2 := rng32 (a + b)
  omega
theorem subS (x : Int32) : x - x = 0 := by apply Int32.toBitVec_inj.mp; simp
def Lat (n : Nat) (g : Nat → Int32) : Prop := ∀ i, i < n → 0 ≤ (g i).toInt ∧ (g i).toInt ≤ 255
/-- the two arrays of bytes are alike -/
def Same (n m : Nat) (g g' : Nat → Int32) : Prop := n = m ∧ ∀ i, i < n → g i = g' i
theorem d_jdk_52_method_21_0 : decode jdk_52_method_21_code 0 = .ok (.iconst 0, 1) := by decide +kernel
theorem d_jdk_52_method_21_1 : decode jdk_52_method_21_code 1 = .ok (.istore 5, 2) := by decide +kernel
theorem d_jdk_52_method_21_3 : decode jdk_52_method_21_code 3 = .ok (.iload 5, 2) := by decide +kernel
theorem d_jdk_52_method_21_5 : decode jdk_52_method_21_code 5 = .ok (.iload 4, 2) := by decide +kernel
theorem d_jdk_52_method_21_7 : decode jdk_52_method_21_code 7 = .ok (.if_icmp .ge 37, 3) := by decide +kernel
theorem d_jdk_52_method_21_44 : decode jdk_52_method_21_code 44 = .ok (.iload 4, 2) := by decide +kernel
theorem d_jdk_52_method_21_46 : decode jdk_52_method_21_code 46 = .ok (.ireturn, 1) := by decide +kernel
theorem d_jdk_52_method_21_10 : decode jdk_52_method_21_code 10 = .ok (.aload_n 0, 1) := by decide +kernel
theorem d_jdk_52_method_21_11 : decode jdk_52_method_21_code 11 = .ok (.iload_n 1, 1) := by decide +kernel
theorem d_jdk_52_method_21_12 : decode jdk_52_method_21_code 12 = .ok (.caload, 1) := by decide +kernel
theorem d_jdk_52_method_21_13 : decode jdk_52_method_21_code 13 = .ok (.istore 6, 2) := by decide +kernel
theorem d_jdk_52_method_21_15 : decode jdk_52_method_21_code 15 = .ok (.iload 6, 2) := by decide +kernel
theorem d_jdk_52_method_21_17 : decode jdk_52_method_21_code 17 = .ok (.sipush 255, 3) := by decide +kernel
theorem d_jdk_52_method_21_20 : decode jdk_52_method_21_code 20 = .ok (.if_icmp .le 6, 3) := by decide +kernel
theorem d_jdk_52_method_21_26 : decode jdk_52_method_21_code 26 = .ok (.aload_n 2, 1) := by decide +kernel
theorem d_jdk_52_method_21_27 : decode jdk_52_method_21_code 27 = .ok (.iload_n 3, 1) := by decide +kernel
theorem d_jdk_52_method_21_28 : decode jdk_52_method_21_code 28 = .ok (.iload 6, 2) := by decide +kernel
theorem d_jdk_52_method_21_30 : decode jdk_52_method_21_code 30 = .ok (.i2b, 1) := by decide +kernel
theorem d_jdk_52_method_21_31 : decode jdk_52_method_21_code 31 = .ok (.bastore, 1) := by decide +kernel
theorem d_jdk_52_method_21_32 : decode jdk_52_method_21_code 32 = .ok (.iinc 1 1, 3) := by decide +kernel
theorem d_jdk_52_method_21_35 : decode jdk_52_method_21_code 35 = .ok (.iinc 3 1, 3) := by decide +kernel
theorem d_jdk_52_method_21_38 : decode jdk_52_method_21_code 38 = .ok (.iinc 5 1, 3) := by decide +kernel
theorem d_jdk_52_method_21_41 : decode jdk_52_method_21_code 41 = .ok (.goto (-38), 3) := by decide +kernel
theorem pn_0 : plainName "java/lang/StringUTF16" = true := by first | (simp [plainName, overriddenIn]; done) | decide +kernel
set_option maxRecDepth 65536 in
set_option maxHeartbeats 40000000 in
theorem s_c1 {Z : State} {a0 : Array Value} (hw : ∀ d ∈ tables_1, d.before a0 Z = true) (a : Addr) (b : Addr) (p : Int32) (h0 : Heap) (n0 : Nat) (n : Nat) (gc gb : Nat → Int32) (A0 : Ari Z h0 a .char n gc) (B0 : Ari Z h0 b .byte n gb) (hp : p.toInt = (n : Int)) (hn : n ≤ 10000) (hlat : Lat n gc) (hab : a ≠ b) (g_b : n0 ≤ b) : ∀ l, Does l Z (⟨"java/lang/StringUTF16", "compress", "([CI[BII)I"⟩ : MethodName) jdk_52_method_21_code 7 (some .int) ({ frames := 0, cells := 0, slots := 0, locals := 0 } : Room) n0 #[(.ref a), (.int (0 : Int32)), (.ref b), (.int (0 : Int32)), (.int p)] h0 (fun v h => v = some (.int p) ∧ Keep h0 h [b] ∧ Ari Z h b .byte n (fun i => cv (gc i))) := by
  intro l
  refine Does.of_wp (plainFor_of_name pn_0) (Ls := #[.val (.ref a), .val (.int (0 : Int32)), .val (.ref b), .val (.int (0 : Int32)), .val (.int p), .unset, .unset]) (fun m => by first | (simp [entryFrame, mkF, argsToLocals, Value.category]; done) | rfl | (rcases ref_cases hfv with rfl | ⟨_, rfl⟩ <;> rfl)) ?_
  intro C
  refine WP.iconst (pc' := 1) d_jdk_52_method_21_0 rfl (z := 0) rfl ?_
  refine WP.istore (pc' := 3) d_jdk_52_method_21_1 rfl (Ls' := #[.val (.ref a), .val (.int (0 : Int32)), .val (.ref b), .val (.int (0 : Int32)), .val (.int p), .val (.int (0 : Int32)), .unset]) rfl ?_
  have loop : ∀ (k I : Nat) (o d i : Int32) (s6 : Slot) (hh : Heap) (g : Nat → Int32), (s6 = .unset ∨ ∃ u, s6 = .val u ∧ u.category = 1) → o.toInt = (I : Int) → d.toInt = (I : Int) → i.toInt = (I : Int) → I ≤ n → n - I < k → Keep h0 hh [b] → Ari Z hh b .byte n g → (∀ j, j < I → g j = cv (gc j)) → WP C Z jdk_52_method_21_code 7 "java/lang/StringUTF16" (some .int) "compress" ({ frames := 0, cells := 0, slots := 0, locals := 0 } : Room) n0 (fun v h => v = some (.int p) ∧ Keep h0 h [b] ∧ Ari Z h b .byte n (fun i => cv (gc i))) 0 0 hh 3 #[.val (.ref a), .val (.int o), .val (.ref b), .val (.int d), .val (.int p), .val (.int i), s6] [] := by
    intro k
    induction k with
    | zero => intro I o d i s6 hh g h1 h2 h3 h4 h5 h6; omega
    | succ k IH =>
      intro I o d i s6 hh g hs6 ho hd hi hI hk K1 B1 hg
      have A1 := A0.keep K1 (ninS hab nin0)
      refine WP.iload (pc' := 5) d_jdk_52_method_21_3 rfl rfl ?_
      refine WP.iload (pc' := 7) d_jdk_52_method_21_5 rfl rfl ?_
      refine WP.icmp_ge (pc1 := 44) (pc2 := 10) d_jdk_52_method_21_7 (by decide) (by decide) rfl ?_ ?_
      · intro hc7
        refine WP.iload (pc' := 46) d_jdk_52_method_21_44 rfl rfl ?_
        refine WP.iret d_jdk_52_method_21_46 rfl (by decide) (by decide) ⟨rfl, K1, B1.congr fun j hj => hg j (by rw [Int32.lt_iff_toInt_lt] at hc7; omega)⟩
      · intro hc7
        have lt1 : I < n := by rw [Int32.lt_iff_toInt_lt] at hc7; omega
        refine WP.aloadN (pc' := 11) d_jdk_52_method_21_10 rfl rfl rfl ?_
        refine WP.iloadN (pc' := 12) d_jdk_52_method_21_11 rfl rfl ?_
        refine WP.caloadI (I) (pc' := 13) d_jdk_52_method_21_12 rfl A1 ho lt1 rfl ?_
        refine WP.istore (pc' := 15) d_jdk_52_method_21_13 rfl (Ls' := #[.val (.ref a), .val (.int o), .val (.ref b), .val (.int d), .val (.int p), .val (.int i), .val (.int (gc I))]) (XS.store1 rfl hs6 rfl) ?_
        refine WP.iload (pc' := 17) d_jdk_52_method_21_15 rfl rfl ?_
        refine WP.sipush (pc' := 20) d_jdk_52_method_21_17 rfl (z := 255) rfl ?_
        have hc20 : ¬ (255 : Int32) < (gc I) := by rw [Int32.lt_iff_toInt_lt]; have := (hlat I lt1).2; have e : (255 : Int32).toInt = 255 := rfl; omega
        refine WP.icmp_le (pc1 := 26) (pc2 := 23) d_jdk_52_method_21_20 (by decide) (by decide) rfl (fun _ => ?_) (fun k => absurd k hc20)
        refine WP.aloadN (pc' := 27) d_jdk_52_method_21_26 rfl rfl rfl ?_
        refine WP.iloadN (pc' := 28) d_jdk_52_method_21_27 rfl rfl ?_
        refine WP.iload (pc' := 30) d_jdk_52_method_21_28 rfl rfl ?_
        refine WP.i2b (pc' := 31) d_jdk_52_method_21_30 rfl ?_
        refine WP.bastoreI (x' := (nar .byte ((gc I).toInt8.toInt32))) (I) (pc' := 32) d_jdk_52_method_21_31 rfl B1 hd lt1 g_b rfl ?_
        intro h1 K2 A3
        have V4 := A1.keep K2 (ninS hab nin0)
        have K5 := K1.trans K2 (allS (Or.inl (by simp)) all0)
        refine WP.iinc (pc' := 35) d_jdk_52_method_21_32 rfl rfl (z := (o + (1 : Int32))) rfl (Ls' := #[.val (.ref a), .val (.int (o + (1 : Int32))), .val (.ref b), .val (.int d), .val (.int p), .val (.int i), .val (.int (gc I))]) rfl ?_
        refine WP.iinc (pc' := 38) d_jdk_52_method_21_35 rfl rfl (z := (d + (1 : Int32))) rfl (Ls' := #[.val (.ref a), .val (.int (o + (1 : Int32))), .val (.ref b), .val (.int (d + (1 : Int32))), .val (.int p), .val (.int i), .val (.int (gc I))]) rfl ?_
        refine WP.iinc (pc' := 41) d_jdk_52_method_21_38 rfl rfl (z := (i + (1 : Int32))) rfl (Ls' := #[.val (.ref a), .val (.int (o + (1 : Int32))), .val (.ref b), .val (.int (d + (1 : Int32))), .val (.int p), .val (.int (i + (1 : Int32))), .val (.int (gc I))]) rfl ?_
        refine WP.goto (pc' := 3) d_jdk_52_method_21_41 (by decide) (by decide) ?_
        refine IH (I + 1) _ _ _ _ _ _ (Or.inr ⟨_, rfl, rfl⟩) (adds ho rfl (by omega)) (adds hd rfl (by omega)) (adds hi rfl (by omega)) (by omega) (by omega) K5 A3 fun j hj => ?_
        by_cases q : j = I
        · rw [q, upd_at]; exact cv_cv _
        · rw [upd_ne q]; exact hg j (by omega)
  exact loop (n + 1) 0 0 0 0 _ h0 gb (Or.inl rfl) rfl rfl rfl (by omega) (by omega) (Keep.refl _ _) B0 fun j hj => absurd hj (by omega)
theorem d_jdk_52_method_16_0 : decode jdk_52_method_16_code 0 = .ok (.iload_n 2, 1) := by decide +kernel
theorem d_jdk_52_method_16_1 : decode jdk_52_method_16_code 1 = .ok (.newarray .byte, 2) := by decide +kernel
theorem d_jdk_52_method_16_3 : decode jdk_52_method_16_code 3 = .ok (.astore_n 3, 1) := by decide +kernel
theorem d_jdk_52_method_16_4 : decode jdk_52_method_16_code 4 = .ok (.aload_n 0, 1) := by decide +kernel
theorem d_jdk_52_method_16_5 : decode jdk_52_method_16_code 5 = .ok (.iload_n 1, 1) := by decide +kernel
theorem d_jdk_52_method_16_6 : decode jdk_52_method_16_code 6 = .ok (.aload_n 3, 1) := by decide +kernel
theorem d_jdk_52_method_16_7 : decode jdk_52_method_16_code 7 = .ok (.iconst 0, 1) := by decide +kernel
theorem d_jdk_52_method_16_8 : decode jdk_52_method_16_code 8 = .ok (.iload_n 2, 1) := by decide +kernel
theorem d_jdk_52_method_16_9 : decode jdk_52_method_16_code 9 = .ok (.invokestatic 115, 3) := by decide +kernel
theorem wd38 {Z : State} {a0 : Array Value} (hw : ∀ d ∈ tables_1, d.before a0 Z = true) : (Jvm.Cond.methodLink "java/lang/StringUTF16" (115 : Nat) ({ cls := "java/lang/StringUTF16", name := "compress", desc := "([CI[BII)I" } : Jvm.MethodName)).before a0 Z = true := hw _ (List.mem_of_getElem? (i := 38) rfl)
theorem wd40 {Z : State} {a0 : Array Value} (hw : ∀ d ∈ tables_1, d.before a0 Z = true) : (Jvm.Cond.code ({ cls := "java/lang/StringUTF16", name := "compress", desc := "([CI[BII)I" } : Jvm.MethodName) jdk_52_method_21_code (7 : Nat) (Option.some Jvm.ClassFile.FieldType.int)).before a0 Z = true := hw _ (List.mem_of_getElem? (i := 40) rfl)
theorem wd36 {Z : State} {a0 : Array Value} (hw : ∀ d ∈ tables_1, d.before a0 Z = true) : (Jvm.Cond.initialized "java/lang/StringUTF16").before a0 Z = true := hw _ (List.mem_of_getElem? (i := 36) rfl)
theorem pd_0 : parseMethodDescriptor "([CI[BII)I" = some ⟨[(.array .char), .int, (.array .byte), .int, .int], some .int⟩ := by decide +kernel
theorem wd39 {Z : State} {a0 : Array Value} (hw : ∀ d ∈ tables_1, d.before a0 Z = true) : (Jvm.Cond.static ({ cls := "java/lang/StringUTF16", name := "compress", desc := "([CI[BII)I" } : Jvm.MethodName)).before a0 Z = true := hw _ (List.mem_of_getElem? (i := 39) rfl)
theorem d_jdk_52_method_16_12 : decode jdk_52_method_16_code 12 = .ok (.istore 4, 2) := by decide +kernel
theorem d_jdk_52_method_16_14 : decode jdk_52_method_16_code 14 = .ok (.iload 4, 2) := by decide +kernel
theorem d_jdk_52_method_16_16 : decode jdk_52_method_16_code 16 = .ok (.iload_n 2, 1) := by decide +kernel
theorem d_jdk_52_method_16_17 : decode jdk_52_method_16_code 17 = .ok (.if_icmp .eq 40, 3) := by decide +kernel
theorem d_jdk_52_method_16_57 : decode jdk_52_method_16_code 57 = .ok (.aload_n 3, 1) := by decide +kernel
theorem d_jdk_52_method_16_58 : decode jdk_52_method_16_code 58 = .ok (.areturn, 1) := by decide +kernel
set_option maxRecDepth 65536 in
set_option maxHeartbeats 40000000 in
theorem s_c2 {Z : State} {a0 : Array Value} (hw : ∀ d ∈ tables_1, d.before a0 Z = true) (a : Addr) (p : Int32) (h0 : Heap) (n0 : Nat) (Z0 : n0 ≤ h0.size) (n : Nat) (gc : Nat → Int32) (A0 : Ari Z h0 a .char n gc) (hp : p.toInt = (n : Int)) (hn : n ≤ 10000) (hcap : n ≤ 8191) (hlat : Lat n gc) : ∀ l, Does l Z (⟨"java/lang/StringUTF16", "compress", "([CII)[B"⟩ : MethodName) jdk_52_method_16_code 6 (some (.array .byte)) ({ frames := 1, cells := 1, slots := 8191, locals := 18 } : Room) n0 #[(.ref a), (.int (0 : Int32)), (.int p)] h0 (fun v h => ∃ b : Addr, v = some (.ref b) ∧ Keep h0 h [] ∧ n0 ≤ b ∧ h0.size ≤ b ∧ Ari Z h b .byte n (fun i => cv (gc i))) := by
  intro l
  refine Does.of_wp (plainFor_of_name pn_0) (Ls := #[.val (.ref a), .val (.int (0 : Int32)), .val (.int p), .unset, .unset, .unset]) (fun m => by first | (simp [entryFrame, mkF, argsToLocals, Value.category]; done) | rfl | (rcases ref_cases hfv with rfl | ⟨_, rfl⟩ <;> rfl)) ?_
  intro C
  have K0 := Keep.refl h0 []
  refine WP.iloadN (pc' := 1) d_jdk_52_method_16_0 rfl rfl ?_
  refine WP.newPI (ty := .byte) (n := n) (cap := 8191) (cl' := 1) (sl' := 8191) (pc' := 3) d_jdk_52_method_16_1 rfl rfl rfl (wd14 hw) hp hcap (by decide) rfl rfl (by decide) (by decide) ?_
  intro h1 b1 g1 E1 A1
  have ge2 : n0 ≤ b1 := by rw [g1]; exact Z0
  have sz3 : h0.size ≤ b1 := by rw [g1]; exact K0.1
  have ne4 : a ≠ b1 := by rw [g1]; exact Nat.ne_of_lt A0.lt
  have V5 := A0.ext E1
  have K6 := K0.ext E1
  have Z7 : n0 ≤ h1.size := Nat.le_trans Z0 E1.1
  refine WP.astoreN (pc' := 4) d_jdk_52_method_16_3 rfl rfl (Ls' := #[.val (.ref a), .val (.int (0 : Int32)), .val (.int p), .val (.ref b1), .unset, .unset]) rfl ?_
  refine WP.aloadN (pc' := 5) d_jdk_52_method_16_4 rfl rfl rfl ?_
  refine WP.iloadN (pc' := 6) d_jdk_52_method_16_5 rfl rfl ?_
  refine WP.aloadN (pc' := 7) d_jdk_52_method_16_6 rfl rfl rfl ?_
  refine WP.iconst (pc' := 8) d_jdk_52_method_16_7 rfl (z := 0) rfl ?_
  refine WP.iloadN (pc' := 9) d_jdk_52_method_16_8 rfl rfl ?_
  refine WP.callS (argsL := [(.ref a), (.int (0 : Int32)), (.ref b1), (.int (0 : Int32)), (.int p)]) (rest := []) (wd := 0) (cl' := 1) (sl' := 8191) (pc' := 12) d_jdk_52_method_16_9 rfl (wd38 hw) (wd39 hw) (wd36 hw) (wd40 hw) (by decide) (s_c1 hw a b1 p h1 n0 n gc (fun _ => 0) V5 A1 hp hn hlat ne4 ge2) pd_0 rfl rfl rfl (Nat.le_of_eq rfl) (by decide) (by decide) rfl rfl (by decide) (by decide) ?_
  rintro v h8 ⟨rfl, K8, B8⟩
  have V9 := V5.keep K8 (ninS ne4 nin0)
  have K10 := K6.trans K8 (allS (Or.inr sz3) all0)
  have Z11 : n0 ≤ h8.size := Nat.le_trans Z7 K8.1
  refine WP.castS (st' := [(.int p)]) rfl ?_
  refine WP.istore (pc' := 14) d_jdk_52_method_16_12 rfl (Ls' := #[.val (.ref a), .val (.int (0 : Int32)), .val (.int p), .val (.ref b1), .val (.int p), .unset]) rfl ?_
  refine WP.iload (pc' := 16) d_jdk_52_method_16_14 rfl rfl ?_
  refine WP.iloadN (pc' := 17) d_jdk_52_method_16_16 rfl rfl ?_
  have hc17 : p = p := rfl
  refine WP.icmp_eq (pc1 := 57) (pc2 := 20) d_jdk_52_method_16_17 (by decide) (by decide) rfl (fun _ => ?_) (fun k => absurd hc17 k)
  refine WP.aloadN (pc' := 58) d_jdk_52_method_16_57 rfl rfl rfl ?_
  refine WP.aret d_jdk_52_method_16_58 rfl rfl rfl (by decide) (by decide) ⟨_, rfl, K10, ge2, sz3, B8⟩
theorem d_jdk_52_method_15_0 : decode jdk_52_method_15_code 0 = .ok (.iload_n 1, 1) := by decide +kernel
theorem d_jdk_52_method_15_1 : decode jdk_52_method_15_code 1 = .ok (.aload_n 0, 1) := by decide +kernel
theorem d_jdk_52_method_15_2 : decode jdk_52_method_15_code 2 = .ok (.arraylength, 1) := by decide +kernel
theorem d_jdk_52_method_15_3 : decode jdk_52_method_15_code 3 = .ok (.isub, 1) := by decide +kernel
theorem d_jdk_52_method_15_4 : decode jdk_52_method_15_code 4 = .ok (.bipush 31, 2) := by decide +kernel
theorem d_jdk_52_method_15_6 : decode jdk_52_method_15_code 6 = .ok (.iushr, 1) := by decide +kernel
theorem d_jdk_52_method_15_7 : decode jdk_52_method_15_code 7 = .ok (.i2b, 1) := by decide +kernel
theorem d_jdk_52_method_15_8 : decode jdk_52_method_15_code 8 = .ok (.ireturn, 1) := by decide +kernel
set_option maxRecDepth 65536 in
set_option maxHeartbeats 40000000 in
theorem s_cfl {Z : State} {a0 : Array Value} (hw : ∀ d ∈ tables_1, d.before a0 Z = true) (a : Addr) (p : Int32) (h0 : Heap) (n0 : Nat) (n : Nat) (g : Nat → Int32) (A0 : Ari Z h0 a .byte n g) (hp : p.toInt = (n : Int)) (hn : n ≤ 10000) : ∀ l, Does l Z (⟨"java/lang/StringUTF16", "coderFromArrayLen", "([BI)B"⟩ : MethodName) jdk_52_method_15_code 2 (some .byte) ({ frames := 0, cells := 0, slots := 0, locals := 0 } : Room) n0 #[(.ref a), (.int p)] h0 (fun v h => v = some (.int 0) ∧ h = h0) := by
  intro l
  refine Does.of_wp (plainFor_of_name pn_0) (Ls := #[.val (.ref a), .val (.int p)]) (fun m => by first | (simp [entryFrame, mkF, argsToLocals, Value.category]; done) | rfl | (rcases ref_cases hfv with rfl | ⟨_, rfl⟩ <;> rfl)) ?_
  intro C
  refine WP.iloadN (pc' := 1) d_jdk_52_method_15_0 rfl rfl ?_
  refine WP.aloadN (pc' := 2) d_jdk_52_method_15_1 rfl rfl rfl ?_
  refine WP.arraylengthI (z := (n : Nat).toInt32) (pc' := 3) d_jdk_52_method_15_2 rfl A0 rfl ?_
  refine WP.isub (pc' := 4) d_jdk_52_method_15_3 rfl ?_
  rw [show p - (n : Nat).toInt32 = 0 from by rw [show p = (n : Nat).toInt32 from Int32.toInt_inj.mp (by rw [hp, natI (by omega)])]; exact subS _]
  refine WP.bipush (pc' := 6) d_jdk_52_method_15_4 rfl (z := 31) rfl ?_
  refine WP.iushr (pc' := 7) d_jdk_52_method_15_6 rfl ?_
  refine WP.i2b (pc' := 8) d_jdk_52_method_15_7 rfl ?_
  refine WP.nret (t := .byte) d_jdk_52_method_15_8 rfl (by simp) rfl (by decide) (by decide) ⟨rfl, rfl⟩
theorem d_jdk_42_method_149_0 : decode jdk_42_method_149_code 0 = .ok (.aload_n 0, 1) := by decide +kernel
theorem d_jdk_42_method_149_1 : decode jdk_42_method_149_code 1 = .ok (.invokespecial 1, 3) := by decide +kernel
theorem wd19 {Z : State} {a0 : Array Value} (hw : ∀ d ∈ tables_1, d.before a0 Z = true) : (Jvm.Cond.methodLink "java/lang/String" (1 : Nat) ({ cls := "java/lang/Object", name := "<init>", desc := "()V" } : Jvm.MethodName)).before a0 Z = true := hw _ (List.mem_of_getElem? (i := 19) rfl)
theorem wd20 {Z : State} {a0 : Array Value} (hw : ∀ d ∈ tables_1, d.before a0 Z = true) : (Jvm.Cond.instanceMethod ({ cls := "java/lang/Object", name := "<init>", desc := "()V" } : Jvm.MethodName)).before a0 Z = true := hw _ (List.mem_of_getElem? (i := 20) rfl)
theorem wd21 {Z : State} {a0 : Array Value} (hw : ∀ d ∈ tables_1, d.before a0 Z = true) : (Jvm.Cond.code ({ cls := "java/lang/Object", name := "<init>", desc := "()V" } : Jvm.MethodName) object_method_1_code (1 : Nat) (Option.none : Option Jvm.ClassFile.FieldType)).before a0 Z = true := hw _ (List.mem_of_getElem? (i := 21) rfl)
theorem d_jdk_42_method_149_4 : decode jdk_42_method_149_code 4 = .ok (.iload_n 3, 1) := by decide +kernel
theorem d_jdk_42_method_149_5 : decode jdk_42_method_149_code 5 = .ok (.ifCond .ne 22, 3) := by decide +kernel
theorem d_jdk_42_method_149_27 : decode jdk_42_method_149_code 27 = .ok (.getstatic 38, 3) := by decide +kernel
theorem wd4 {Z : State} {a0 : Array Value} (hw : ∀ d ∈ tables_1, d.before a0 Z = true) : (Jvm.Cond.fieldLink "java/lang/String" (38 : Nat) "java/lang/String" "COMPACT_STRINGS" "Z").before a0 Z = true := hw _ (List.mem_of_getElem? (i := 4) rfl)
theorem d_jdk_42_method_149_30 : decode jdk_42_method_149_code 30 = .ok (.ifCond .eq 28, 3) := by decide +kernel
theorem d_jdk_42_method_149_33 : decode jdk_42_method_149_code 33 = .ok (.aload_n 1, 1) := by decide +kernel
theorem d_jdk_42_method_149_34 : decode jdk_42_method_149_code 34 = .ok (.iload_n 2, 1) := by decide +kernel
theorem d_jdk_42_method_149_35 : decode jdk_42_method_149_code 35 = .ok (.iload_n 3, 1) := by decide +kernel
theorem d_jdk_42_method_149_36 : decode jdk_42_method_149_code 36 = .ok (.invokestatic 177, 3) := by decide +kernel
theorem wd34 {Z : State} {a0 : Array Value} (hw : ∀ d ∈ tables_1, d.before a0 Z = true) : (Jvm.Cond.methodLink "java/lang/String" (177 : Nat) ({ cls := "java/lang/StringUTF16", name := "compress", desc := "([CII)[B" } : Jvm.MethodName)).before a0 Z = true := hw _ (List.mem_of_getElem? (i := 34) rfl)
theorem wd37 {Z : State} {a0 : Array Value} (hw : ∀ d ∈ tables_1, d.before a0 Z = true) : (Jvm.Cond.code ({ cls := "java/lang/StringUTF16", name := "compress", desc := "([CII)[B" } : Jvm.MethodName) jdk_52_method_16_code (6 : Nat) (Option.some (Jvm.ClassFile.FieldType.array Jvm.ClassFile.FieldType.byte))).before a0 Z = true := hw _ (List.mem_of_getElem? (i := 37) rfl)
theorem pd_1 : parseMethodDescriptor "([CII)[B" = some ⟨[(.array .char), .int, .int], some (.array .byte)⟩ := by decide +kernel
theorem wd35 {Z : State} {a0 : Array Value} (hw : ∀ d ∈ tables_1, d.before a0 Z = true) : (Jvm.Cond.static ({ cls := "java/lang/StringUTF16", name := "compress", desc := "([CII)[B" } : Jvm.MethodName)).before a0 Z = true := hw _ (List.mem_of_getElem? (i := 35) rfl)
theorem d_jdk_42_method_149_39 : decode jdk_42_method_149_code 39 = .ok (.astore 5, 2) := by decide +kernel
theorem d_jdk_42_method_149_41 : decode jdk_42_method_149_code 41 = .ok (.aload_n 0, 1) := by decide +kernel
theorem d_jdk_42_method_149_42 : decode jdk_42_method_149_code 42 = .ok (.aload 5, 2) := by decide +kernel
theorem d_jdk_42_method_149_44 : decode jdk_42_method_149_code 44 = .ok (.iload_n 3, 1) := by decide +kernel
theorem d_jdk_42_method_149_45 : decode jdk_42_method_149_code 45 = .ok (.invokestatic 47, 3) := by decide +kernel
theorem wd41 {Z : State} {a0 : Array Value} (hw : ∀ d ∈ tables_1, d.before a0 Z = true) : (Jvm.Cond.methodLink "java/lang/String" (47 : Nat) ({ cls := "java/lang/StringUTF16", name := "coderFromArrayLen", desc := "([BI)B" } : Jvm.MethodName)).before a0 Z = true := hw _ (List.mem_of_getElem? (i := 41) rfl)
theorem wd43 {Z : State} {a0 : Array Value} (hw : ∀ d ∈ tables_1, d.before a0 Z = true) : (Jvm.Cond.code ({ cls := "java/lang/StringUTF16", name := "coderFromArrayLen", desc := "([BI)B" } : Jvm.MethodName) jdk_52_method_15_code (2 : Nat) (Option.some Jvm.ClassFile.FieldType.byte)).before a0 Z = true := hw _ (List.mem_of_getElem? (i := 43) rfl)
theorem pd_2 : parseMethodDescriptor "([BI)B" = some ⟨[(.array .byte), .int], some .byte⟩ := by decide +kernel
theorem wd42 {Z : State} {a0 : Array Value} (hw : ∀ d ∈ tables_1, d.before a0 Z = true) : (Jvm.Cond.static ({ cls := "java/lang/StringUTF16", name := "coderFromArrayLen", desc := "([BI)B" } : Jvm.MethodName)).before a0 Z = true := hw _ (List.mem_of_getElem? (i := 42) rfl)
theorem d_jdk_42_method_149_48 : decode jdk_42_method_149_code 48 = .ok (.putfield 15, 3) := by decide +kernel
theorem wd24 {Z : State} {a0 : Array Value} (hw : ∀ d ∈ tables_1, d.before a0 Z = true) : (Jvm.Cond.fieldLink "java/lang/String" (15 : Nat) "java/lang/String" "coder" "B").before a0 Z = true := hw _ (List.mem_of_getElem? (i := 24) rfl)
theorem d_jdk_42_method_149_51 : decode jdk_42_method_149_code 51 = .ok (.aload_n 0, 1) := by decide +kernel
theorem d_jdk_42_method_149_52 : decode jdk_42_method_149_code 52 = .ok (.aload 5, 2) := by decide +kernel
theorem d_jdk_42_method_149_54 : decode jdk_42_method_149_code 54 = .ok (.putfield 9, 3) := by decide +kernel
theorem wd22 {Z : State} {a0 : Array Value} (hw : ∀ d ∈ tables_1, d.before a0 Z = true) : (Jvm.Cond.fieldLink "java/lang/String" (9 : Nat) "java/lang/String" "value" "[B").before a0 Z = true := hw _ (List.mem_of_getElem? (i := 22) rfl)
theorem d_jdk_42_method_149_57 : decode jdk_42_method_149_code 57 = .ok (.return_, 1) := by decide +kernel
theorem pn_1 : plainName "java/lang/String" = true := by first | (simp [plainName, overriddenIn]; done) | decide +kernel
set_option maxRecDepth 65536 in
set_option maxHeartbeats 40000000 in
theorem s_si4 {Z : State} {a0 : Array Value} (hw : ∀ d ∈ tables_1, d.before a0 Z = true) (a : Addr) (c : Addr) (p : Int32) (h0 : Heap) (n0 : Nat) (Z0 : n0 ≤ h0.size) (g_a : n0 ≤ a) (E0 : Exa Z h0 a "java/lang/String") (F_v : Fld Z h0 a "java/lang/String" "value" "[B" .null) (F_c : Fld Z h0 a "java/lang/String" "coder" "B" (.int 0)) (cs : Int32) (S_CS : Sta Z h0 "java/lang/String" "COMPACT_STRINGS" "Z" (.int cs)) (hcs : ¬ cs = 0) (n : Nat) (gc : Nat → Int32) (A0 : Ari Z h0 c .char n gc) (h1 : 1 ≤ n) (hn : n ≤ 10000) (hcap : n ≤ 8191) (hlat : Lat n gc) (n_ca : c ≠ a) (hp : p.toInt = (n : Int)) : ∀ l, Does l Z (⟨"java/lang/String", "<init>", "([CIILjava/lang/Void;)V"⟩ : MethodName) jdk_42_method_149_code 6 none ({ frames := 2, cells := 1, slots := 8191, locals := 35 } : Room) n0 #[(.ref a), (.ref c), (.int (0 : Int32)), (.int p), .null] h0 (fun v h => v = none ∧ ∃ b : Addr, Keep h0 h [a] ∧ n0 ≤ b ∧ h0.size ≤ b ∧ Exa Z h a "java/lang/String" ∧ Fld Z h a "java/lang/String" "value" "[B" (.ref b) ∧ Fld Z h a "java/lang/String" "coder" "B" (.int 0) ∧ Ari Z h b .byte n (fun i => cv (gc i))) := by
  intro l
  refine Does.of_wp (plainFor_of_name pn_1) (Ls := #[.val (.ref a), .val (.ref c), .val (.int (0 : Int32)), .val (.int p), .val .null, .unset]) (fun m => by first | (simp [entryFrame, mkF, argsToLocals, Value.category]; done) | rfl | (rcases ref_cases hfv with rfl | ⟨_, rfl⟩ <;> rfl)) ?_
  intro C
  have K0 := Keep.refl h0 [a]
  refine WP.aloadN (pc' := 1) d_jdk_42_method_149_0 rfl rfl rfl ?_
  refine WP.initO (wd := 0) (pc' := 4) d_jdk_42_method_149_1 rfl (wd19 hw) (wd20 hw) (wd21 hw) rfl (by decide) (Nat.le_of_eq rfl) (by decide) ?_
  refine WP.iloadN (pc' := 5) d_jdk_42_method_149_4 rfl rfl ?_
  have hc5 : ¬ p = (0 : Int32) := fun q => by rw [q] at hp; have e : (0 : Int32).toInt = 0 := rfl; omega
  refine WP.ifc_ne (pc1 := 27) (pc2 := 8) d_jdk_42_method_149_5 (by decide) (by decide) rfl (fun _ => ?_) (fun k => absurd k hc5)
  refine WP.getS (pc' := 30) d_jdk_42_method_149_27 rfl (host := "") (Or.inl (wd4 hw)) Via.refl (S_CS) ?_
  have hc30 : ¬ cs = (0 : Int32) := hcs
  refine WP.ifc_eq (pc1 := 58) (pc2 := 33) d_jdk_42_method_149_30 (by decide) (by decide) rfl (fun k => absurd k hc30) (fun _ => ?_)
  refine WP.aloadN (pc' := 34) d_jdk_42_method_149_33 rfl rfl rfl ?_
  refine WP.iloadN (pc' := 35) d_jdk_42_method_149_34 rfl rfl ?_
  refine WP.iloadN (pc' := 36) d_jdk_42_method_149_35 rfl rfl ?_
  refine WP.callS (argsL := [(.ref c), (.int (0 : Int32)), (.int p)]) (rest := []) (wd := 0) (cl' := 1) (sl' := 8191) (pc' := 39) d_jdk_42_method_149_36 rfl (wd34 hw) (wd35 hw) (wd36 hw) (wd37 hw) (by decide) (s_c2 hw c p h0 n0 Z0 n gc A0 hp hn hcap hlat) pd_1 rfl rfl rfl (Nat.le_of_eq rfl) (by decide) (by decide) rfl rfl (by decide) (by decide) ?_
  rintro v h1 ⟨c1, rfl, K1, ge1, sz1, B1⟩
  have ne2 : a ≠ c1 := Nat.ne_of_lt (Nat.lt_of_lt_of_le E0.lt sz1)
  have ne3 : c ≠ c1 := Nat.ne_of_lt (Nat.lt_of_lt_of_le A0.lt sz1)
  have sy4 : h0.size ≤ c1 := Nat.le_trans K0.1 sz1
  have E5 := E0.keep K1
  have F6 := F_v.keep K1 nin0
  have F7 := F_c.keep K1 nin0
  have V8 := A0.keep K1 nin0
  have K9 := K0.trans K1 all0
  have Z10 : n0 ≤ h1.size := Nat.le_trans Z0 K1.1
  refine WP.castS (st' := [(.ref c1)]) rfl ?_
  refine WP.astore (pc' := 41) d_jdk_42_method_149_39 rfl rfl (Ls' := #[.val (.ref a), .val (.ref c), .val (.int (0 : Int32)), .val (.int p), .val .null, .val (.ref c1)]) rfl ?_
  refine WP.aloadN (pc' := 42) d_jdk_42_method_149_41 rfl rfl rfl ?_
  refine WP.aload (pc' := 44) d_jdk_42_method_149_42 rfl rfl rfl ?_
  refine WP.iloadN (pc' := 45) d_jdk_42_method_149_44 rfl rfl ?_
  refine WP.callS (argsL := [(.ref c1), (.int p)]) (rest := [(.ref a)]) (wd := 1) (cl' := 1) (sl' := 8191) (pc' := 48) d_jdk_42_method_149_45 rfl (wd41 hw) (wd42 hw) (wd36 hw) (wd43 hw) (by decide) (s_cfl hw c1 p h1 n0 n (fun i => cv (gc i)) B1 hp hn) pd_2 rfl rfl rfl (Nat.le_of_eq rfl) (by decide) (by decide) rfl rfl (by decide) (by decide) ?_
  rintro v hh11 ⟨rfl, he11⟩
  rw [he11]
  refine WP.castS (st' := [(.int (0 : Int32)), (.ref a)]) rfl ?_
  refine WP.putFN (pc' := 51) d_jdk_42_method_149_48 rfl (wd24 hw) Via.refl F7 E5 (Or.inr ⟨(wd25 hw), rfl, rfl⟩) (wd10 hw) (ty := .byte) (v' := (.int (0 : Int32))) (by decide) rfl (by decide) g_a ?_
  intro h12 W13
  have Kw14 := Keep.of_wr W13
  have E15 := E5.keep Kw14
  have V16 := V8.keep Kw14 (ninS n_ca nin0)
  have V17 := B1.keep Kw14 (ninS (Ne.symm ne2) nin0)
  have K18 := K9.trans Kw14 (allS (Or.inl (by simp)) all0)
  have Z19 : n0 ≤ h12.size := Nat.le_trans Z10 Kw14.1
  have F20 := F6.other W13 (Or.inr (slot_ne (Or.inr (wd23 hw)) (Or.inr (wd25 hw)) (by decide) (t := (.array .byte)) (t' := .byte) (by decide) (by decide)))
  have F21 := F7.same W13
  refine WP.aloadN (pc' := 52) d_jdk_42_method_149_51 rfl rfl rfl ?_
  refine WP.aload (pc' := 54) d_jdk_42_method_149_52 rfl rfl rfl ?_
  refine WP.putF (pc' := 57) d_jdk_42_method_149_54 rfl (host := "") (Or.inl (wd22 hw)) Via.refl F20 E15 (Or.inr ⟨(wd23 hw), rfl, rfl⟩) (wd10 hw) (ty := (.array .byte)) (by decide) rfl rfl g_a ?_
  intro h22 W23
  have Kw24 := Keep.of_wr W23
  have E25 := E15.keep Kw24
  have V26 := V16.keep Kw24 (ninS n_ca nin0)
  have V27 := V17.keep Kw24 (ninS (Ne.symm ne2) nin0)
  have K28 := K18.trans Kw24 (allS (Or.inl (by simp)) all0)
  have Z29 : n0 ≤ h22.size := Nat.le_trans Z19 Kw24.1
  have F30 := F20.same W23
  have F31 := F21.other W23 (Or.inr (slot_ne (Or.inr (wd25 hw)) (Or.inr (wd23 hw)) (by decide) (t := .byte) (t' := (.array .byte)) (by decide) (by decide)))
  exact WP.vret d_jdk_42_method_149_57 rfl (by decide) (by decide) ⟨rfl, _, K28, ge1, sy4, E25, F30, F31, V27⟩
theorem d_jdk_42_method_3_0 : decode jdk_42_method_3_code 0 = .ok (.aload_n 0, 1) := by decide +kernel
theorem d_jdk_42_method_3_1 : decode jdk_42_method_3_code 1 = .ok (.aload_n 1, 1) := by decide +kernel
theorem d_jdk_42_method_3_2 : decode jdk_42_method_3_code 2 = .ok (.iconst 0, 1) := by decide +kernel
theorem d_jdk_42_method_3_3 : decode jdk_42_method_3_code 3 = .ok (.aload_n 1, 1) := by decide +kernel
theorem d_jdk_42_method_3_4 : decode jdk_42_method_3_code 4 = .ok (.arraylength, 1) := by decide +kernel
theorem d_jdk_42_method_3_5 : decode jdk_42_method_3_code 5 = .ok (.aconst_null, 1) := by decide +kernel
theorem d_jdk_42_method_3_6 : decode jdk_42_method_3_code 6 = .ok (.invokespecial 27, 3) := by decide +kernel
theorem wd31 {Z : State} {a0 : Array Value} (hw : ∀ d ∈ tables_1, d.before a0 Z = true) : (Jvm.Cond.methodLink "java/lang/String" (27 : Nat) ({ cls := "java/lang/String", name := "<init>", desc := "([CIILjava/lang/Void;)V" } : Jvm.MethodName)).before a0 Z = true := hw _ (List.mem_of_getElem? (i := 31) rfl)
theorem wd33 {Z : State} {a0 : Array Value} (hw : ∀ d ∈ tables_1, d.before a0 Z = true) : (Jvm.Cond.code ({ cls := "java/lang/String", name := "<init>", desc := "([CIILjava/lang/Void;)V" } : Jvm.MethodName) jdk_42_method_149_code (6 : Nat) (Option.none : Option Jvm.ClassFile.FieldType)).before a0 Z = true := hw _ (List.mem_of_getElem? (i := 33) rfl)
theorem pd_3 : parseMethodDescriptor "([CIILjava/lang/Void;)V" = some ⟨[(.array .char), .int, .int, (.object "java/lang/Void")], none⟩ := by decide +kernel
theorem wd32 {Z : State} {a0 : Array Value} (hw : ∀ d ∈ tables_1, d.before a0 Z = true) : (Jvm.Cond.instanceMethod ({ cls := "java/lang/String", name := "<init>", desc := "([CIILjava/lang/Void;)V" } : Jvm.MethodName)).before a0 Z = true := hw _ (List.mem_of_getElem? (i := 32) rfl)
theorem d_jdk_42_method_3_9 : decode jdk_42_method_3_code 9 = .ok (.return_, 1) := by decide +kernel
set_option maxRecDepth 65536 in
set_option maxHeartbeats 40000000 in
theorem s_si {Z : State} {a0 : Array Value} (hw : ∀ d ∈ tables_1, d.before a0 Z = true) (a : Addr) (c : Addr) (h0 : Heap) (n0 : Nat) (Z0 : n0 ≤ h0.size) (g_a : n0 ≤ a) (E0 : Exa Z h0 a "java/lang/String") (F_v : Fld Z h0 a "java/lang/String" "value" "[B" .null) (F_c : Fld Z h0 a "java/lang/String" "coder" "B" (.int 0)) (cs : Int32) (S_CS : Sta Z h0 "java/lang/String" "COMPACT_STRINGS" "Z" (.int cs)) (hcs : ¬ cs = 0) (n : Nat) (gc : Nat → Int32) (A0 : Ari Z h0 c .char n gc) (h1 : 1 ≤ n) (hn : n ≤ 10000) (hcap : n ≤ 8191) (hlat : Lat n gc) (n_ca : c ≠ a) : ∀ l, Does l Z (⟨"java/lang/String", "<init>", "([C)V"⟩ : MethodName) jdk_42_method_3_code 2 none ({ frames := 3, cells := 1, slots := 8191, locals := 52 } : Room) n0 #[(.ref a), (.ref c)] h0 (fun v h => v = none ∧ ∃ b : Addr, Keep h0 h [a] ∧ n0 ≤ b ∧ h0.size ≤ b ∧ Exa Z h a "java/lang/String" ∧ Fld Z h a "java/lang/String" "value" "[B" (.ref b) ∧ Fld Z h a "java/lang/String" "coder" "B" (.int 0) ∧ Ari Z h b .byte n (fun i => cv (gc i))) := by
  intro l
  refine Does.of_wp (plainFor_of_name pn_1) (Ls := #[.val (.ref a), .val (.ref c)]) (fun m => by first | (simp [entryFrame, mkF, argsToLocals, Value.category]; done) | rfl | (rcases ref_cases hfv with rfl | ⟨_, rfl⟩ <;> rfl)) ?_
  intro C
  have K0 := Keep.refl h0 [a]
  refine WP.aloadN (pc' := 1) d_jdk_42_method_3_0 rfl rfl rfl ?_
  refine WP.aloadN (pc' := 2) d_jdk_42_method_3_1 rfl rfl rfl ?_
  refine WP.iconst (pc' := 3) d_jdk_42_method_3_2 rfl (z := 0) rfl ?_
  refine WP.aloadN (pc' := 4) d_jdk_42_method_3_3 rfl rfl rfl ?_
  refine WP.arraylengthI (z := (n : Nat).toInt32) (pc' := 5) d_jdk_42_method_3_4 rfl A0 rfl ?_
  refine WP.aconstNull (pc' := 6) d_jdk_42_method_3_5 rfl ?_
  refine WP.callI (a := a) (argsL := [(.ref c), (.int (0 : Int32)), (.int (n : Nat).toInt32), .null]) (rest := []) (wd := 0) (cl' := 1) (sl' := 8191) (pc' := 9) d_jdk_42_method_3_6 rfl rfl (wd31 hw) (wd32 hw) (wd2 hw) (wd33 hw) (by decide) (s_si4 hw a c (n : Nat).toInt32 h0 n0 Z0 g_a E0 F_v F_c cs S_CS hcs n gc A0 h1 hn hcap hlat n_ca (natI (by omega))) pd_3 rfl rfl rfl (Nat.le_of_eq rfl) (by decide) (by decide) rfl rfl (by decide) (by decide) ?_
  rintro v h1 ⟨rfl, c1, K1, ge1, sz1, E1, Fv1, Fc1, B1⟩
  have ne2 : a ≠ c1 := Nat.ne_of_lt (Nat.lt_of_lt_of_le E0.lt sz1)
  have ne3 : c ≠ c1 := Nat.ne_of_lt (Nat.lt_of_lt_of_le A0.lt sz1)
  have sy4 : h0.size ≤ c1 := Nat.le_trans K0.1 sz1
  have E5 := E0.keep K1
  have V6 := A0.keep K1 (ninS n_ca nin0)
  have K7 := K0.trans K1 (allS (Or.inl (by simp)) all0)
  have Z8 : n0 ≤ h1.size := Nat.le_trans Z0 K1.1
  refine WP.castS (st' := []) rfl ?_
  exact WP.vret d_jdk_42_method_3_9 rfl (by decide) (by decide) ⟨rfl, _, K7, ge1, sy4, E1, Fv1, Fc1, B1⟩
theorem d_jdk_43_method_3_0 : decode jdk_43_method_3_code 0 = .ok (.iload_n 0, 1) := by decide +kernel
theorem d_jdk_43_method_3_1 : decode jdk_43_method_3_code 1 = .ok (.sipush 255, 3) := by decide +kernel
theorem d_jdk_43_method_3_4 : decode jdk_43_method_3_code 4 = .ok (.if_icmp .gt 7, 3) := by decide +kernel
theorem d_jdk_43_method_3_7 : decode jdk_43_method_3_code 7 = .ok (.iconst 1, 1) := by decide +kernel
theorem d_jdk_43_method_3_8 : decode jdk_43_method_3_code 8 = .ok (.goto 4, 3) := by decide +kernel
theorem d_jdk_43_method_3_12 : decode jdk_43_method_3_code 12 = .ok (.ireturn, 1) := by decide +kernel
theorem pn_2 : plainName "java/lang/StringLatin1" = true := by first | (simp [plainName, overriddenIn]; done) | decide +kernel
set_option maxRecDepth 65536 in
set_option maxHeartbeats 40000000 in
theorem s_ce {Z : State} {a0 : Array Value} (hw : ∀ d ∈ tables_1, d.before a0 Z = true) (c : Int32) (h0 : Heap) (n0 : Nat) (hc : 0 ≤ c.toInt ∧ c.toInt ≤ 255) : ∀ l, Does l Z (⟨"java/lang/StringLatin1", "canEncode", "(C)Z"⟩ : MethodName) jdk_43_method_3_code 1 (some .boolean) ({ frames := 0, cells := 0, slots := 0, locals := 0 } : Room) n0 #[(.int c)] h0 (fun v h => v = some (.int 1) ∧ h = h0) := by
  intro l
  refine Does.of_wp (plainFor_of_name pn_2) (Ls := #[.val (.int c)]) (fun m => by first | (simp [entryFrame, mkF, argsToLocals, Value.category]; done) | rfl | (rcases ref_cases hfv with rfl | ⟨_, rfl⟩ <;> rfl)) ?_
  intro C
  refine WP.iloadN (pc' := 1) d_jdk_43_method_3_0 rfl rfl ?_
  refine WP.sipush (pc' := 4) d_jdk_43_method_3_1 rfl (z := 255) rfl ?_
  have hc4 : ¬ (255 : Int32) < c := by rw [Int32.lt_iff_toInt_lt]; have e : (255 : Int32).toInt = 255 := rfl; omega
  refine WP.icmp_gt (pc1 := 11) (pc2 := 7) d_jdk_43_method_3_4 (by decide) (by decide) rfl (fun k => absurd k hc4) (fun _ => ?_)
  refine WP.iconst (pc' := 8) d_jdk_43_method_3_7 rfl (z := 1) rfl ?_
  refine WP.goto (pc' := 12) d_jdk_43_method_3_8 (by decide) (by decide) ?_
  refine WP.nret (t := .boolean) d_jdk_43_method_3_12 rfl (by simp) rfl (by decide) (by decide) ⟨rfl, rfl⟩
theorem d_jdk_43_method_46_0 : decode jdk_43_method_46_code 0 = .ok (.iconst 1, 1) := by decide +kernel
theorem d_jdk_43_method_46_1 : decode jdk_43_method_46_code 1 = .ok (.newarray .byte, 2) := by decide +kernel
theorem d_jdk_43_method_46_3 : decode jdk_43_method_46_code 3 = .ok (.dup, 1) := by decide +kernel
theorem d_jdk_43_method_46_4 : decode jdk_43_method_46_code 4 = .ok (.iconst 0, 1) := by decide +kernel
theorem d_jdk_43_method_46_5 : decode jdk_43_method_46_code 5 = .ok (.iload_n 0, 1) := by decide +kernel
theorem d_jdk_43_method_46_6 : decode jdk_43_method_46_code 6 = .ok (.i2b, 1) := by decide +kernel
theorem d_jdk_43_method_46_7 : decode jdk_43_method_46_code 7 = .ok (.bastore, 1) := by decide +kernel
theorem d_jdk_43_method_46_8 : decode jdk_43_method_46_code 8 = .ok (.areturn, 1) := by decide +kernel
set_option maxRecDepth 65536 in
set_option maxHeartbeats 40000000 in
theorem s_tb {Z : State} {a0 : Array Value} (hw : ∀ d ∈ tables_1, d.before a0 Z = true) (c : Int32) (h0 : Heap) (n0 : Nat) (Z0 : n0 ≤ h0.size) : ∀ l, Does l Z (⟨"java/lang/StringLatin1", "toBytes", "(C)[B"⟩ : MethodName) jdk_43_method_46_code 1 (some (.array .byte)) ({ frames := 0, cells := 1, slots := 1, locals := 0 } : Room) n0 #[(.int c)] h0 (fun v h => ∃ b : Addr, v = some (.ref b) ∧ Keep h0 h [] ∧ n0 ≤ b ∧ h0.size ≤ b ∧ Ari Z h b .byte 1 (fun _ => cv c)) := by
  intro l
  refine Does.of_wp (plainFor_of_name pn_2) (Ls := #[.val (.int c)]) (fun m => by first | (simp [entryFrame, mkF, argsToLocals, Value.category]; done) | rfl | (rcases ref_cases hfv with rfl | ⟨_, rfl⟩ <;> rfl)) ?_
  intro C
  have K0 := Keep.refl h0 []
  refine WP.iconst (pc' := 1) d_jdk_43_method_46_0 rfl (z := 1) rfl ?_
  refine WP.newPI (ty := .byte) (n := 1) (cap := 1) (cl' := 1) (sl' := 1) (pc' := 3) d_jdk_43_method_46_1 rfl rfl rfl (wd14 hw) (by decide) (by decide) (by decide) rfl rfl (by decide) (by decide) ?_
  intro h1 b1 g1 E1 A1
  have ge2 : n0 ≤ b1 := by rw [g1]; exact Z0
  have sz3 : h0.size ≤ b1 := by rw [g1]; exact K0.1
  have K4 := K0.ext E1
  have Z5 : n0 ≤ h1.size := Nat.le_trans Z0 E1.1
  refine WP.dup (pc' := 4) d_jdk_43_method_46_3 rfl rfl ?_
  refine WP.iconst (pc' := 5) d_jdk_43_method_46_4 rfl (z := 0) rfl ?_
  refine WP.iloadN (pc' := 6) d_jdk_43_method_46_5 rfl rfl ?_
  refine WP.i2b (pc' := 7) d_jdk_43_method_46_6 rfl ?_
  refine WP.bastoreI (x' := (nar .byte (c.toInt8.toInt32))) (0) (pc' := 8) d_jdk_43_method_46_7 rfl A1 (by decide) (by decide) ge2 rfl ?_
  intro h6 K7 A8
  have K9 := K4.trans K7 (allS (Or.inr sz3) all0)
  have Z10 : n0 ≤ h6.size := Nat.le_trans Z5 K7.1
  refine WP.aret d_jdk_43_method_46_8 rfl rfl rfl (by decide) (by decide) ⟨_, rfl, K9, ge2, sz3, A8.congr fun j hj => by rw [show j = 0 by omega, upd_at]; exact cv_cv c⟩
theorem d_jdk_42_method_151_0 : decode jdk_42_method_151_code 0 = .ok (.aload_n 0, 1) := by decide +kernel
theorem d_jdk_42_method_151_1 : decode jdk_42_method_151_code 1 = .ok (.invokespecial 1, 3) := by decide +kernel
theorem d_jdk_42_method_151_4 : decode jdk_42_method_151_code 4 = .ok (.aload_n 0, 1) := by decide +kernel
theorem d_jdk_42_method_151_5 : decode jdk_42_method_151_code 5 = .ok (.aload_n 1, 1) := by decide +kernel
theorem d_jdk_42_method_151_6 : decode jdk_42_method_151_code 6 = .ok (.putfield 9, 3) := by decide +kernel
theorem d_jdk_42_method_151_9 : decode jdk_42_method_151_code 9 = .ok (.aload_n 0, 1) := by decide +kernel
theorem d_jdk_42_method_151_10 : decode jdk_42_method_151_code 10 = .ok (.iload_n 2, 1) := by decide +kernel
theorem d_jdk_42_method_151_11 : decode jdk_42_method_151_code 11 = .ok (.putfield 15, 3) := by decide +kernel
theorem d_jdk_42_method_151_14 : decode jdk_42_method_151_code 14 = .ok (.return_, 1) := by decide +kernel
set_option maxRecDepth 65536 in
set_option maxHeartbeats 40000000 in
theorem s_sib {Z : State} {a0 : Array Value} (hw : ∀ d ∈ tables_1, d.before a0 Z = true) (a : Addr) (b : Addr) (h0 : Heap) (n0 : Nat) (g_a : n0 ≤ a) (E0 : Exa Z h0 a "java/lang/String") (F_v : Fld Z h0 a "java/lang/String" "value" "[B" .null) (F_c : Fld Z h0 a "java/lang/String" "coder" "B" (.int 0)) : ∀ l, Does l Z (⟨"java/lang/String", "<init>", "([BB)V"⟩ : MethodName) jdk_42_method_151_code 3 none ({ frames := 1, cells := 0, slots := 0, locals := 12 } : Room) n0 #[(.ref a), (.ref b), (.int (0 : Int32))] h0 (fun v h => v = none ∧ Keep h0 h [a] ∧ Exa Z h a "java/lang/String" ∧ Fld Z h a "java/lang/String" "value" "[B" (.ref b) ∧ Fld Z h a "java/lang/String" "coder" "B" (.int 0)) := by
  intro l
  refine Does.of_wp (plainFor_of_name pn_1) (Ls := #[.val (.ref a), .val (.ref b), .val (.int (0 : Int32))]) (fun m => by first | (simp [entryFrame, mkF, argsToLocals, Value.category]; done) | rfl | (rcases ref_cases hfv with rfl | ⟨_, rfl⟩ <;> rfl)) ?_
  intro C
  have K0 := Keep.refl h0 [a]
  refine WP.aloadN (pc' := 1) d_jdk_42_method_151_0 rfl rfl rfl ?_
  refine WP.initO (wd := 0) (pc' := 4) d_jdk_42_method_151_1 rfl (wd19 hw) (wd20 hw) (wd21 hw) rfl (by decide) (Nat.le_of_eq rfl) (by decide) ?_
  refine WP.aloadN (pc' := 5) d_jdk_42_method_151_4 rfl rfl rfl ?_
  refine WP.aloadN (pc' := 6) d_jdk_42_method_151_5 rfl rfl rfl ?_
  refine WP.putF (pc' := 9) d_jdk_42_method_151_6 rfl (host := "") (Or.inl (wd22 hw)) Via.refl F_v E0 (Or.inr ⟨(wd23 hw), rfl, rfl⟩) (wd10 hw) (ty := (.array .byte)) (by decide) rfl rfl g_a ?_
  intro h1 W2
  have Kw3 := Keep.of_wr W2
  have E4 := E0.keep Kw3
  have K5 := K0.trans Kw3 (allS (Or.inl (by simp)) all0)
  have F7 := F_v.same W2
  have F8 := F_c.other W2 (Or.inr (slot_ne (Or.inr (wd25 hw)) (Or.inr (wd23 hw)) (by decide) (t := .byte) (t' := (.array .byte)) (by decide) (by decide)))
  refine WP.aloadN (pc' := 10) d_jdk_42_method_151_9 rfl rfl rfl ?_
  refine WP.iloadN (pc' := 11) d_jdk_42_method_151_10 rfl rfl ?_
  refine WP.putFN (pc' := 14) d_jdk_42_method_151_11 rfl (wd24 hw) Via.refl F8 E4 (Or.inr ⟨(wd25 hw), rfl, rfl⟩) (wd10 hw) (ty := .byte) (v' := (.int (0 : Int32))) (by decide) rfl (by decide) g_a ?_
  intro h9 W10
  have Kw11 := Keep.of_wr W10
  have E12 := E4.keep Kw11
  have K13 := K5.trans Kw11 (allS (Or.inl (by simp)) all0)
  have F15 := F7.other W10 (Or.inr (slot_ne (Or.inr (wd23 hw)) (Or.inr (wd25 hw)) (by decide) (t := (.array .byte)) (t' := .byte) (by decide) (by decide)))
  have F16 := F8.same W10
  exact WP.vret d_jdk_42_method_151_14 rfl (by decide) (by decide) ⟨rfl, K13, E12, F15, F16⟩
theorem d_jdk_42_method_139_0 : decode jdk_42_method_139_code 0 = .ok (.getstatic 38, 3) := by decide +kernel
theorem d_jdk_42_method_139_3 : decode jdk_42_method_139_code 3 = .ok (.ifCond .eq 23, 3) := by decide +kernel
theorem d_jdk_42_method_139_6 : decode jdk_42_method_139_code 6 = .ok (.iload_n 0, 1) := by decide +kernel
theorem d_jdk_42_method_139_7 : decode jdk_42_method_139_code 7 = .ok (.invokestatic 1015, 3) := by decide +kernel
theorem wd5 {Z : State} {a0 : Array Value} (hw : ∀ d ∈ tables_1, d.before a0 Z = true) : (Jvm.Cond.methodLink "java/lang/String" (1015 : Nat) ({ cls := "java/lang/StringLatin1", name := "canEncode", desc := "(C)Z" } : Jvm.MethodName)).before a0 Z = true := hw _ (List.mem_of_getElem? (i := 5) rfl)
theorem wd8 {Z : State} {a0 : Array Value} (hw : ∀ d ∈ tables_1, d.before a0 Z = true) : (Jvm.Cond.code ({ cls := "java/lang/StringLatin1", name := "canEncode", desc := "(C)Z" } : Jvm.MethodName) jdk_43_method_3_code (1 : Nat) (Option.some Jvm.ClassFile.FieldType.boolean)).before a0 Z = true := hw _ (List.mem_of_getElem? (i := 8) rfl)
theorem wd7 {Z : State} {a0 : Array Value} (hw : ∀ d ∈ tables_1, d.before a0 Z = true) : (Jvm.Cond.initialized "java/lang/StringLatin1").before a0 Z = true := hw _ (List.mem_of_getElem? (i := 7) rfl)
theorem pd_4 : parseMethodDescriptor "(C)Z" = some ⟨[.char], some .boolean⟩ := by decide +kernel
theorem wd6 {Z : State} {a0 : Array Value} (hw : ∀ d ∈ tables_1, d.before a0 Z = true) : (Jvm.Cond.static ({ cls := "java/lang/StringLatin1", name := "canEncode", desc := "(C)Z" } : Jvm.MethodName)).before a0 Z = true := hw _ (List.mem_of_getElem? (i := 6) rfl)
theorem d_jdk_42_method_139_10 : decode jdk_42_method_139_code 10 = .ok (.ifCond .eq 16, 3) := by decide +kernel
theorem d_jdk_42_method_139_13 : decode jdk_42_method_139_code 13 = .ok (.new 10, 3) := by decide +kernel
theorem wd9 {Z : State} {a0 : Array Value} (hw : ∀ d ∈ tables_1, d.before a0 Z = true) : (Jvm.Cond.classLink "java/lang/String" (10 : Nat) "java/lang/String").before a0 Z = true := hw _ (List.mem_of_getElem? (i := 9) rfl)
theorem d_jdk_42_method_139_16 : decode jdk_42_method_139_code 16 = .ok (.dup, 1) := by decide +kernel
theorem d_jdk_42_method_139_17 : decode jdk_42_method_139_code 17 = .ok (.iload_n 0, 1) := by decide +kernel
theorem d_jdk_42_method_139_18 : decode jdk_42_method_139_code 18 = .ok (.invokestatic 1018, 3) := by decide +kernel
theorem wd11 {Z : State} {a0 : Array Value} (hw : ∀ d ∈ tables_1, d.before a0 Z = true) : (Jvm.Cond.methodLink "java/lang/String" (1018 : Nat) ({ cls := "java/lang/StringLatin1", name := "toBytes", desc := "(C)[B" } : Jvm.MethodName)).before a0 Z = true := hw _ (List.mem_of_getElem? (i := 11) rfl)
theorem wd13 {Z : State} {a0 : Array Value} (hw : ∀ d ∈ tables_1, d.before a0 Z = true) : (Jvm.Cond.code ({ cls := "java/lang/StringLatin1", name := "toBytes", desc := "(C)[B" } : Jvm.MethodName) jdk_43_method_46_code (1 : Nat) (Option.some (Jvm.ClassFile.FieldType.array Jvm.ClassFile.FieldType.byte))).before a0 Z = true := hw _ (List.mem_of_getElem? (i := 13) rfl)
theorem pd_5 : parseMethodDescriptor "(C)[B" = some ⟨[.char], some (.array .byte)⟩ := by decide +kernel
theorem wd12 {Z : State} {a0 : Array Value} (hw : ∀ d ∈ tables_1, d.before a0 Z = true) : (Jvm.Cond.static ({ cls := "java/lang/StringLatin1", name := "toBytes", desc := "(C)[B" } : Jvm.MethodName)).before a0 Z = true := hw _ (List.mem_of_getElem? (i := 12) rfl)
theorem d_jdk_42_method_139_21 : decode jdk_42_method_139_code 21 = .ok (.iconst 0, 1) := by decide +kernel
theorem d_jdk_42_method_139_22 : decode jdk_42_method_139_code 22 = .ok (.invokespecial 209, 3) := by decide +kernel
theorem wd15 {Z : State} {a0 : Array Value} (hw : ∀ d ∈ tables_1, d.before a0 Z = true) : (Jvm.Cond.methodLink "java/lang/String" (209 : Nat) ({ cls := "java/lang/String", name := "<init>", desc := "([BB)V" } : Jvm.MethodName)).before a0 Z = true := hw _ (List.mem_of_getElem? (i := 15) rfl)
theorem wd18 {Z : State} {a0 : Array Value} (hw : ∀ d ∈ tables_1, d.before a0 Z = true) : (Jvm.Cond.code ({ cls := "java/lang/String", name := "<init>", desc := "([BB)V" } : Jvm.MethodName) jdk_42_method_151_code (3 : Nat) (Option.none : Option Jvm.ClassFile.FieldType)).before a0 Z = true := hw _ (List.mem_of_getElem? (i := 18) rfl)
theorem pd_6 : parseMethodDescriptor "([BB)V" = some ⟨[(.array .byte), .byte], none⟩ := by decide +kernel
theorem wd16 {Z : State} {a0 : Array Value} (hw : ∀ d ∈ tables_1, d.before a0 Z = true) : (Jvm.Cond.instanceMethod ({ cls := "java/lang/String", name := "<init>", desc := "([BB)V" } : Jvm.MethodName)).before a0 Z = true := hw _ (List.mem_of_getElem? (i := 16) rfl)
theorem d_jdk_42_method_139_25 : decode jdk_42_method_139_code 25 = .ok (.areturn, 1) := by decide +kernel
set_option maxRecDepth 65536 in
set_option maxHeartbeats 40000000 in
theorem s_vo {Z : State} {a0 : Array Value} (hw : ∀ d ∈ tables_1, d.before a0 Z = true) (c : Int32) (h0 : Heap) (n0 : Nat) (Z0 : n0 ≤ h0.size) (hc : 0 ≤ c.toInt ∧ c.toInt ≤ 255) (cs : Int32) (S_CS : Sta Z h0 "java/lang/String" "COMPACT_STRINGS" "Z" (.int cs)) (hcs : ¬ cs = 0) : ∀ l, Does l Z (⟨"java/lang/String", "valueOf", "(C)Ljava/lang/String;"⟩ : MethodName) jdk_42_method_139_code 1 (some (.object "java/lang/String")) ({ frames := 2, cells := 2, slots := 5, locals := 27 } : Room) n0 #[(.int c)] h0 (fun v h => ∃ s b : Addr, v = some (.ref s) ∧ Keep h0 h [] ∧ Exa Z h s "java/lang/String" ∧ Fld Z h s "java/lang/String" "value" "[B" (.ref b) ∧ Fld Z h s "java/lang/String" "coder" "B" (.int 0) ∧ Ari Z h b .byte 1 (fun _ => cv c)) := by
  intro l
  refine Does.of_wp (plainFor_of_name pn_1) (Ls := #[.val (.int c)]) (fun m => by first | (simp [entryFrame, mkF, argsToLocals, Value.category]; done) | rfl | (rcases ref_cases hfv with rfl | ⟨_, rfl⟩ <;> rfl)) ?_
  intro C
  have K0 := Keep.refl h0 []
  refine WP.getS (pc' := 3) d_jdk_42_method_139_0 rfl (host := "") (Or.inl (wd4 hw)) Via.refl (S_CS) ?_
  have hc3 : ¬ cs = (0 : Int32) := hcs
  refine WP.ifc_eq (pc1 := 26) (pc2 := 6) d_jdk_42_method_139_3 (by decide) (by decide) rfl (fun k => absurd k hc3) (fun _ => ?_)
  refine WP.iloadN (pc' := 7) d_jdk_42_method_139_6 rfl rfl ?_
  refine WP.callS (argsL := [(.int c)]) (rest := []) (wd := 0) (cl' := 0) (sl' := 0) (pc' := 10) d_jdk_42_method_139_7 rfl (wd5 hw) (wd6 hw) (wd7 hw) (wd8 hw) (by decide) (s_ce hw c h0 n0 hc) pd_4 rfl rfl rfl (Nat.le_of_eq rfl) (by decide) (by decide) rfl rfl (by decide) (by decide) ?_
  rintro v hh1 ⟨rfl, he1⟩
  rw [he1]
  refine WP.castS (st' := [(.int (1 : Int32))]) rfl ?_
  have hc10 : ¬ (1 : Int32) = (0 : Int32) := by decide
  refine WP.ifc_eq (pc1 := 26) (pc2 := 13) d_jdk_42_method_139_10 (by decide) (by decide) rfl (fun k => absurd k hc10) (fun _ => ?_)
  refine WP.newO (cl' := 1) (sl' := 4) (pc' := 16) d_jdk_42_method_139_13 rfl (wd9 hw) (wd10 hw) (wd2 hw) rfl rfl (by decide) (by decide) ?_
  intro h2 b2 g2 E2 A2 D2
  have ge3 : n0 ≤ b2 := by rw [g2]; exact Z0
  have sz4 : h0.size ≤ b2 := by rw [g2]; exact K0.1
  have K5 := K0.ext E2
  have Z6 : n0 ≤ h2.size := Nat.le_trans Z0 E2.1
  have F7 : Fld Z h2 b2 "java/lang/String" "value" "[B" .null := D2 (Or.inr (wd23 hw)) (ty := (.array .byte)) (by decide)
  have F8 : Fld Z h2 b2 "java/lang/String" "coder" "B" (.int (0 : Int32)) := D2 (Or.inr (wd25 hw)) (ty := .byte) (by decide)
  refine WP.dup (pc' := 17) d_jdk_42_method_139_16 rfl rfl ?_
  refine WP.iloadN (pc' := 18) d_jdk_42_method_139_17 rfl rfl ?_
  refine WP.callS (argsL := [(.int c)]) (rest := [(.ref b2), (.ref b2)]) (wd := 2) (cl' := 2) (sl' := 5) (pc' := 21) d_jdk_42_method_139_18 rfl (wd11 hw) (wd12 hw) (wd7 hw) (wd13 hw) (by decide) (s_tb hw c h2 n0 Z6) pd_5 rfl rfl rfl (Nat.le_of_eq rfl) (by decide) (by decide) rfl rfl (by decide) (by decide) ?_
  rintro v h9 ⟨c9, rfl, K9, ge9, sz9, B9⟩
  have ne10 : b2 ≠ c9 := Nat.ne_of_lt (Nat.lt_of_lt_of_le A2.lt sz9)
  have sy11 : h0.size ≤ c9 := Nat.le_trans K5.1 sz9
  have E12 := A2.keep K9
  have F13 := F7.keep K9 nin0
  have F14 := F8.keep K9 nin0
  have K15 := K5.trans K9 all0
  have Z16 : n0 ≤ h9.size := Nat.le_trans Z6 K9.1
  refine WP.castS (st' := [(.ref c9), (.ref b2), (.ref b2)]) rfl ?_
  refine WP.iconst (pc' := 22) d_jdk_42_method_139_21 rfl (z := 0) rfl ?_
  refine WP.callI (a := b2) (argsL := [(.ref c9), (.int (0 : Int32))]) (rest := [(.ref b2)]) (wd := 1) (cl' := 2) (sl' := 5) (pc' := 25) d_jdk_42_method_139_22 rfl rfl (wd15 hw) (wd16 hw) (wd2 hw) (wd18 hw) (by decide) (s_sib hw b2 c9 h9 n0 ge3 E12 F13 F14) pd_6 rfl rfl rfl (Nat.le_of_eq rfl) (by decide) (by decide) rfl rfl (by decide) (by decide) ?_
  rintro v h17 ⟨rfl, K17, E17, Fv17, Fc17⟩
  have E18 := E12.keep K17
  have V19 := B9.keep K17 (ninS (Ne.symm ne10) nin0)
  have K20 := K15.trans K17 (allS (Or.inr sz4) all0)
  have Z21 : n0 ≤ h17.size := Nat.le_trans Z16 K17.1
  refine WP.castS (st' := [(.ref b2)]) rfl ?_
  refine WP.aret d_jdk_42_method_139_25 rfl rfl rfl (by decide) (by decide) ⟨_, _, rfl, K20, E17, Fv17, Fc17, V19⟩
/-- a byte as a char -/
def chv (b : Int32) : Int32 := b &&& 255
theorem chv_i2c (b : Int32) : (b &&& 255).toUInt32.toUInt16.toUInt32.toInt32 = chv b := by
  have h1 := c_mask b 255 8 (by decide) (by decide)
  have h2 := c_i2c (b &&& 255)
  apply Int32.toInt_inj.mp
  show _ = (b &&& 255).toInt
  omega
theorem nar_chv (b : Int32) : nar .char (chv b) = chv b := by rw [← chv_i2c b]; exact nar_char _
theorem shr0 (x : Int32) : x >>> ((0 : Int32) &&& 31) = x := by
  rw [show ((0 : Int32) &&& 31) = 0 from by decide]; apply Int32.toBitVec_inj.mp; simp
theorem d_jdk_41_method_11_0 : decode jdk_41_method_11_code 0 = .ok (.iload_n 0, 1) := by decide +kernel
theorem d_jdk_41_method_11_1 : decode jdk_41_method_11_code 1 = .ok (.ifCond .lt 8, 3) := by decide +kernel
theorem d_jdk_41_method_11_4 : decode jdk_41_method_11_code 4 = .ok (.iload_n 0, 1) := by decide +kernel
theorem d_jdk_41_method_11_5 : decode jdk_41_method_11_code 5 = .ok (.iload_n 1, 1) := by decide +kernel
theorem d_jdk_41_method_11_6 : decode jdk_41_method_11_code 6 = .ok (.if_icmp .lt 10, 3) := by decide +kernel
theorem d_jdk_41_method_11_16 : decode jdk_41_method_11_code 16 = .ok (.iload_n 0, 1) := by decide +kernel
theorem d_jdk_41_method_11_17 : decode jdk_41_method_11_code 17 = .ok (.ireturn, 1) := by decide +kernel
theorem pn_3 : plainName "jdk/internal/util/Preconditions" = true := by first | (simp [plainName, overriddenIn]; done) | decide +kernel
set_option maxRecDepth 65536 in
set_option maxHeartbeats 40000000 in
theorem s_pck {Z : State} {a0 : Array Value} (hw : ∀ d ∈ tables_1, d.before a0 Z = true) (i : Int32) (n : Int32) (h0 : Heap) (n0 : Nat) (fv : Value) (hfv : fv.isRef = true) (h1 : 0 ≤ i.toInt) (h2 : i.toInt < n.toInt) : ∀ l, Does l Z (⟨"jdk/internal/util/Preconditions", "checkIndex", "(IILjava/util/function/BiFunction;)I"⟩ : MethodName) jdk_41_method_11_code 3 (some .int) ({ frames := 0, cells := 0, slots := 0, locals := 0 } : Room) n0 #[(.int i), (.int n), fv] h0 (fun v h => v = some (.int i) ∧ h = h0) := by
  intro l
  refine Does.of_wp (plainFor_of_name pn_3) (Ls := #[.val (.int i), .val (.int n), .val fv]) (fun m => by first | (simp [entryFrame, mkF, argsToLocals, Value.category]; done) | rfl | (rcases ref_cases hfv with rfl | ⟨_, rfl⟩ <;> rfl)) ?_
  intro C
  refine WP.iloadN (pc' := 1) d_jdk_41_method_11_0 rfl rfl ?_
  have hc1 : ¬ i < (0 : Int32) := by rw [Int32.lt_iff_toInt_lt]; have e : (0 : Int32).toInt = 0 := rfl; omega
  refine WP.ifc_lt (pc1 := 9) (pc2 := 4) d_jdk_41_method_11_1 (by decide) (by decide) rfl (fun k => absurd k hc1) (fun _ => ?_)
  refine WP.iloadN (pc' := 5) d_jdk_41_method_11_4 rfl rfl ?_
  refine WP.iloadN (pc' := 6) d_jdk_41_method_11_5 rfl rfl ?_
  have hc6 : i < n := by rw [Int32.lt_iff_toInt_lt]; omega
  refine WP.icmp_lt (pc1 := 16) (pc2 := 9) d_jdk_41_method_11_6 (by decide) (by decide) rfl (fun _ => ?_) (fun k => absurd hc6 k)
  refine WP.iloadN (pc' := 17) d_jdk_41_method_11_16 rfl rfl ?_
  refine WP.iret d_jdk_41_method_11_17 rfl (by decide) (by decide) ⟨rfl, rfl⟩
theorem d_jdk_42_method_155_0 : decode jdk_42_method_155_code 0 = .ok (.iload_n 0, 1) := by decide +kernel
theorem d_jdk_42_method_155_1 : decode jdk_42_method_155_code 1 = .ok (.iload_n 1, 1) := by decide +kernel
theorem d_jdk_42_method_155_2 : decode jdk_42_method_155_code 2 = .ok (.getstatic 1053, 3) := by decide +kernel
theorem wd97 {Z : State} {a0 : Array Value} (hw : ∀ d ∈ tables_1, d.before a0 Z = true) : (Jvm.Cond.fieldLink "java/lang/String" (1053 : Nat) "jdk/internal/util/Preconditions" "SIOOBE_FORMATTER" "Ljava/util/function/BiFunction;").before a0 Z = true := hw _ (List.mem_of_getElem? (i := 97) rfl)
theorem d_jdk_42_method_155_5 : decode jdk_42_method_155_code 5 = .ok (.invokestatic 1059, 3) := by decide +kernel
theorem wd99 {Z : State} {a0 : Array Value} (hw : ∀ d ∈ tables_1, d.before a0 Z = true) : (Jvm.Cond.methodLink "java/lang/String" (1059 : Nat) ({ cls := "jdk/internal/util/Preconditions", name := "checkIndex", desc := "(IILjava/util/function/BiFunction;)I" } : Jvm.MethodName)).before a0 Z = true := hw _ (List.mem_of_getElem? (i := 99) rfl)
theorem wd101 {Z : State} {a0 : Array Value} (hw : ∀ d ∈ tables_1, d.before a0 Z = true) : (Jvm.Cond.code ({ cls := "jdk/internal/util/Preconditions", name := "checkIndex", desc := "(IILjava/util/function/BiFunction;)I" } : Jvm.MethodName) jdk_41_method_11_code (3 : Nat) (Option.some Jvm.ClassFile.FieldType.int)).before a0 Z = true := hw _ (List.mem_of_getElem? (i := 101) rfl)
theorem wd98 {Z : State} {a0 : Array Value} (hw : ∀ d ∈ tables_1, d.before a0 Z = true) : (Jvm.Cond.initialized "jdk/internal/util/Preconditions").before a0 Z = true := hw _ (List.mem_of_getElem? (i := 98) rfl)
theorem pd_7 : parseMethodDescriptor "(IILjava/util/function/BiFunction;)I" = some ⟨[.int, .int, (.object "java/util/function/BiFunction")], some .int⟩ := by decide +kernel
theorem wd100 {Z : State} {a0 : Array Value} (hw : ∀ d ∈ tables_1, d.before a0 Z = true) : (Jvm.Cond.static ({ cls := "jdk/internal/util/Preconditions", name := "checkIndex", desc := "(IILjava/util/function/BiFunction;)I" } : Jvm.MethodName)).before a0 Z = true := hw _ (List.mem_of_getElem? (i := 100) rfl)
theorem d_jdk_42_method_155_8 : decode jdk_42_method_155_code 8 = .ok (.pop, 1) := by decide +kernel
theorem d_jdk_42_method_155_9 : decode jdk_42_method_155_code 9 = .ok (.return_, 1) := by decide +kernel
set_option maxRecDepth 65536 in
set_option maxHeartbeats 40000000 in
theorem s_cki {Z : State} {a0 : Array Value} (hw : ∀ d ∈ tables_1, d.before a0 Z = true) (i : Int32) (n : Int32) (h0 : Heap) (n0 : Nat) (fv : Value) (hfv : fv.isRef = true) (S_FM : Sta Z h0 "jdk/internal/util/Preconditions" "SIOOBE_FORMATTER" "Ljava/util/function/BiFunction;" fv) (h1 : 0 ≤ i.toInt) (h2 : i.toInt < n.toInt) : ∀ l, Does l Z (⟨"java/lang/String", "checkIndex", "(II)V"⟩ : MethodName) jdk_42_method_155_code 2 none ({ frames := 1, cells := 0, slots := 0, locals := 14 } : Room) n0 #[(.int i), (.int n)] h0 (fun v h => v = none ∧ h = h0) := by
  intro l
  refine Does.of_wp (plainFor_of_name pn_1) (Ls := #[.val (.int i), .val (.int n)]) (fun m => by first | (simp [entryFrame, mkF, argsToLocals, Value.category]; done) | rfl | (rcases ref_cases hfv with rfl | ⟨_, rfl⟩ <;> rfl)) ?_
  intro C
  refine WP.iloadN (pc' := 1) d_jdk_42_method_155_0 rfl rfl ?_
  refine WP.iloadN (pc' := 2) d_jdk_42_method_155_1 rfl rfl ?_
  refine WP.getS (pc' := 5) d_jdk_42_method_155_2 rfl (host := "") (Or.inl (wd97 hw)) Via.refl (S_FM) ?_
  refine WP.callS (argsL := [(.int i), (.int n), fv]) (rest := []) (wd := 0) (cl' := 0) (sl' := 0) (pc' := 8) d_jdk_42_method_155_5 rfl (wd99 hw) (wd100 hw) (wd98 hw) (wd101 hw) (by decide) (s_pck hw i n h0 n0 fv hfv h1 h2) pd_7 rfl rfl rfl (Nat.le_of_eq rfl) (by decide) (by decide) rfl rfl (by decide) (by decide) ?_
  rintro v hh1 ⟨rfl, he1⟩
  rw [he1]
  refine WP.castS (st' := [(.int i)]) rfl ?_
  refine WP.pop (pc' := 9) d_jdk_42_method_155_8 rfl rfl ?_
  exact WP.vret d_jdk_42_method_155_9 rfl (by decide) (by decide) ⟨rfl, rfl⟩
theorem d_jdk_43_method_2_0 : decode jdk_43_method_2_code 0 = .ok (.iload_n 1, 1) := by decide +kernel
theorem d_jdk_43_method_2_1 : decode jdk_43_method_2_code 1 = .ok (.aload_n 0, 1) := by decide +kernel
theorem d_jdk_43_method_2_2 : decode jdk_43_method_2_code 2 = .ok (.arraylength, 1) := by decide +kernel
theorem d_jdk_43_method_2_3 : decode jdk_43_method_2_code 3 = .ok (.invokestatic 9, 3) := by decide +kernel
theorem wd94 {Z : State} {a0 : Array Value} (hw : ∀ d ∈ tables_1, d.before a0 Z = true) : (Jvm.Cond.methodLink "java/lang/StringLatin1" (9 : Nat) ({ cls := "java/lang/String", name := "checkIndex", desc := "(II)V" } : Jvm.MethodName)).before a0 Z = true := hw _ (List.mem_of_getElem? (i := 94) rfl)
theorem wd96 {Z : State} {a0 : Array Value} (hw : ∀ d ∈ tables_1, d.before a0 Z = true) : (Jvm.Cond.code ({ cls := "java/lang/String", name := "checkIndex", desc := "(II)V" } : Jvm.MethodName) jdk_42_method_155_code (2 : Nat) (Option.none : Option Jvm.ClassFile.FieldType)).before a0 Z = true := hw _ (List.mem_of_getElem? (i := 96) rfl)
theorem pd_8 : parseMethodDescriptor "(II)V" = some ⟨[.int, .int], none⟩ := by decide +kernel
theorem wd95 {Z : State} {a0 : Array Value} (hw : ∀ d ∈ tables_1, d.before a0 Z = true) : (Jvm.Cond.static ({ cls := "java/lang/String", name := "checkIndex", desc := "(II)V" } : Jvm.MethodName)).before a0 Z = true := hw _ (List.mem_of_getElem? (i := 95) rfl)
theorem d_jdk_43_method_2_6 : decode jdk_43_method_2_code 6 = .ok (.aload_n 0, 1) := by decide +kernel
theorem d_jdk_43_method_2_7 : decode jdk_43_method_2_code 7 = .ok (.iload_n 1, 1) := by decide +kernel
theorem d_jdk_43_method_2_8 : decode jdk_43_method_2_code 8 = .ok (.baload, 1) := by decide +kernel
theorem d_jdk_43_method_2_9 : decode jdk_43_method_2_code 9 = .ok (.sipush 255, 3) := by decide +kernel
theorem d_jdk_43_method_2_12 : decode jdk_43_method_2_code 12 = .ok (.iand, 1) := by decide +kernel
theorem d_jdk_43_method_2_13 : decode jdk_43_method_2_code 13 = .ok (.i2c, 1) := by decide +kernel
theorem d_jdk_43_method_2_14 : decode jdk_43_method_2_code 14 = .ok (.ireturn, 1) := by decide +kernel
set_option maxRecDepth 65536 in
set_option maxHeartbeats 40000000 in
theorem s_lch {Z : State} {a0 : Array Value} (hw : ∀ d ∈ tables_1, d.before a0 Z = true) (b : Addr) (i : Int32) (h0 : Heap) (n0 : Nat) (fv : Value) (hfv : fv.isRef = true) (S_FM : Sta Z h0 "jdk/internal/util/Preconditions" "SIOOBE_FORMATTER" "Ljava/util/function/BiFunction;" fv) (n I : Nat) (g : Nat → Int32) (A0 : Ari Z h0 b .byte n g) (hi : i.toInt = (I : Int)) (hl : I < n) (hn : n ≤ 10000) : ∀ l, Does l Z (⟨"java/lang/StringLatin1", "charAt", "([BI)C"⟩ : MethodName) jdk_43_method_2_code 2 (some .char) ({ frames := 2, cells := 0, slots := 0, locals := 27 } : Room) n0 #[(.ref b), (.int i)] h0 (fun v h => v = some (.int (chv (g I))) ∧ h = h0) := by
  intro l
  refine Does.of_wp (plainFor_of_name pn_2) (Ls := #[.val (.ref b), .val (.int i)]) (fun m => by first | (simp [entryFrame, mkF, argsToLocals, Value.category]; done) | rfl | (rcases ref_cases hfv with rfl | ⟨_, rfl⟩ <;> rfl)) ?_
  intro C
  refine WP.iloadN (pc' := 1) d_jdk_43_method_2_0 rfl rfl ?_
  refine WP.aloadN (pc' := 2) d_jdk_43_method_2_1 rfl rfl rfl ?_
  refine WP.arraylengthI (z := (n : Nat).toInt32) (pc' := 3) d_jdk_43_method_2_2 rfl A0 rfl ?_
  refine WP.callS (argsL := [(.int i), (.int (n : Nat).toInt32)]) (rest := []) (wd := 0) (cl' := 0) (sl' := 0) (pc' := 6) d_jdk_43_method_2_3 rfl (wd94 hw) (wd95 hw) (wd2 hw) (wd96 hw) (by decide) (s_cki hw i (n : Nat).toInt32 h0 n0 fv hfv S_FM (by omega) (by rw [natI (by omega)]; omega)) pd_8 rfl rfl rfl (Nat.le_of_eq rfl) (by decide) (by decide) rfl rfl (by decide) (by decide) ?_
  rintro v hh1 ⟨rfl, he1⟩
  rw [he1]
  refine WP.castS (st' := []) rfl ?_
  refine WP.aloadN (pc' := 7) d_jdk_43_method_2_6 rfl rfl rfl ?_
  refine WP.iloadN (pc' := 8) d_jdk_43_method_2_7 rfl rfl ?_
  refine WP.baloadI (I) (pc' := 9) d_jdk_43_method_2_8 rfl A0 hi hl rfl ?_
  refine WP.sipush (pc' := 12) d_jdk_43_method_2_9 rfl (z := 255) rfl ?_
  refine WP.iand (pc' := 13) d_jdk_43_method_2_12 rfl ?_
  refine WP.i2c (pc' := 14) d_jdk_43_method_2_13 rfl ?_
  refine WP.nret (t := .char) d_jdk_43_method_2_14 rfl (by simp) (by rw [chv_i2c]; exact nar_chv _) (by decide) (by decide) ⟨rfl, rfl⟩
theorem d_jdk_42_method_154_0 : decode jdk_42_method_154_code 0 = .ok (.getstatic 38, 3) := by decide +kernel
theorem d_jdk_42_method_154_3 : decode jdk_42_method_154_code 3 = .ok (.ifCond .eq 14, 3) := by decide +kernel
theorem d_jdk_42_method_154_6 : decode jdk_42_method_154_code 6 = .ok (.aload_n 0, 1) := by decide +kernel
theorem d_jdk_42_method_154_7 : decode jdk_42_method_154_code 7 = .ok (.getfield 15, 3) := by decide +kernel
theorem d_jdk_42_method_154_10 : decode jdk_42_method_154_code 10 = .ok (.ifCond .ne 7, 3) := by decide +kernel
theorem d_jdk_42_method_154_13 : decode jdk_42_method_154_code 13 = .ok (.iconst 1, 1) := by decide +kernel
theorem d_jdk_42_method_154_14 : decode jdk_42_method_154_code 14 = .ok (.goto 4, 3) := by decide +kernel
theorem d_jdk_42_method_154_18 : decode jdk_42_method_154_code 18 = .ok (.ireturn, 1) := by decide +kernel
set_option maxRecDepth 65536 in
set_option maxHeartbeats 40000000 in
theorem s_isl {Z : State} {a0 : Array Value} (hw : ∀ d ∈ tables_1, d.before a0 Z = true) (a : Addr) (h0 : Heap) (n0 : Nat) (E0 : Exa Z h0 a "java/lang/String") (F_c : Fld Z h0 a "java/lang/String" "coder" "B" (.int 0)) (cs : Int32) (S_CS : Sta Z h0 "java/lang/String" "COMPACT_STRINGS" "Z" (.int cs)) (hcs : ¬ cs = 0) : ∀ l, Does l Z (⟨"java/lang/String", "isLatin1", "()Z"⟩ : MethodName) jdk_42_method_154_code 1 (some .boolean) ({ frames := 0, cells := 0, slots := 0, locals := 0 } : Room) n0 #[(.ref a)] h0 (fun v h => v = some (.int 1) ∧ h = h0) := by
  intro l
  refine Does.of_wp (plainFor_of_name pn_1) (Ls := #[.val (.ref a)]) (fun m => by first | (simp [entryFrame, mkF, argsToLocals, Value.category]; done) | rfl | (rcases ref_cases hfv with rfl | ⟨_, rfl⟩ <;> rfl)) ?_
  intro C
  refine WP.getS (pc' := 3) d_jdk_42_method_154_0 rfl (host := "") (Or.inl (wd4 hw)) Via.refl (S_CS) ?_
  have hc3 : ¬ cs = (0 : Int32) := hcs
  refine WP.ifc_eq (pc1 := 17) (pc2 := 6) d_jdk_42_method_154_3 (by decide) (by decide) rfl (fun k => absurd k hc3) (fun _ => ?_)
  refine WP.aloadN (pc' := 7) d_jdk_42_method_154_6 rfl rfl rfl ?_
  refine WP.getF (pc' := 10) d_jdk_42_method_154_7 rfl (host := "") (Or.inl (wd24 hw)) Via.refl F_c ?_
  have hc10 : (0 : Int32) = (0 : Int32) := by decide
  refine WP.ifc_ne (pc1 := 17) (pc2 := 13) d_jdk_42_method_154_10 (by decide) (by decide) rfl (fun k => absurd hc10 k) (fun _ => ?_)
  refine WP.iconst (pc' := 14) d_jdk_42_method_154_13 rfl (z := 1) rfl ?_
  refine WP.goto (pc' := 18) d_jdk_42_method_154_14 (by decide) (by decide) ?_
  refine WP.nret (t := .boolean) d_jdk_42_method_154_18 rfl (by simp) rfl (by decide) (by decide) ⟨rfl, rfl⟩
theorem d_jdk_42_method_152_0 : decode jdk_42_method_152_code 0 = .ok (.getstatic 38, 3) := by decide +kernel
theorem d_jdk_42_method_152_3 : decode jdk_42_method_152_code 3 = .ok (.ifCond .eq 10, 3) := by decide +kernel
theorem d_jdk_42_method_152_6 : decode jdk_42_method_152_code 6 = .ok (.aload_n 0, 1) := by decide +kernel
theorem d_jdk_42_method_152_7 : decode jdk_42_method_152_code 7 = .ok (.getfield 15, 3) := by decide +kernel
theorem d_jdk_42_method_152_10 : decode jdk_42_method_152_code 10 = .ok (.goto 4, 3) := by decide +kernel
theorem d_jdk_42_method_152_14 : decode jdk_42_method_152_code 14 = .ok (.ireturn, 1) := by decide +kernel
set_option maxRecDepth 65536 in
set_option maxHeartbeats 40000000 in
theorem s_cod {Z : State} {a0 : Array Value} (hw : ∀ d ∈ tables_1, d.before a0 Z = true) (a : Addr) (h0 : Heap) (n0 : Nat) (E0 : Exa Z h0 a "java/lang/String") (F_c : Fld Z h0 a "java/lang/String" "coder" "B" (.int 0)) (cs : Int32) (S_CS : Sta Z h0 "java/lang/String" "COMPACT_STRINGS" "Z" (.int cs)) (hcs : ¬ cs = 0) : ∀ l, Does l Z (⟨"java/lang/String", "coder", "()B"⟩ : MethodName) jdk_42_method_152_code 1 (some .byte) ({ frames := 0, cells := 0, slots := 0, locals := 0 } : Room) n0 #[(.ref a)] h0 (fun v h => v = some (.int 0) ∧ h = h0) := by
  intro l
  refine Does.of_wp (plainFor_of_name pn_1) (Ls := #[.val (.ref a)]) (fun m => by first | (simp [entryFrame, mkF, argsToLocals, Value.category]; done) | rfl | (rcases ref_cases hfv with rfl | ⟨_, rfl⟩ <;> rfl)) ?_
  intro C
  refine WP.getS (pc' := 3) d_jdk_42_method_152_0 rfl (host := "") (Or.inl (wd4 hw)) Via.refl (S_CS) ?_
  have hc3 : ¬ cs = (0 : Int32) := hcs
  refine WP.ifc_eq (pc1 := 13) (pc2 := 6) d_jdk_42_method_152_3 (by decide) (by decide) rfl (fun k => absurd k hc3) (fun _ => ?_)
  refine WP.aloadN (pc' := 7) d_jdk_42_method_152_6 rfl rfl rfl ?_
  refine WP.getF (pc' := 10) d_jdk_42_method_152_7 rfl (host := "") (Or.inl (wd24 hw)) Via.refl F_c ?_
  refine WP.goto (pc' := 14) d_jdk_42_method_152_10 (by decide) (by decide) ?_
  refine WP.nret (t := .byte) d_jdk_42_method_152_14 rfl (by simp) rfl (by decide) (by decide) ⟨rfl, rfl⟩
theorem d_jdk_42_method_54_0 : decode jdk_42_method_54_code 0 = .ok (.aload_n 0, 1) := by decide +kernel
theorem d_jdk_42_method_54_1 : decode jdk_42_method_54_code 1 = .ok (.getfield 9, 3) := by decide +kernel
theorem d_jdk_42_method_54_4 : decode jdk_42_method_54_code 4 = .ok (.arraylength, 1) := by decide +kernel
theorem d_jdk_42_method_54_5 : decode jdk_42_method_54_code 5 = .ok (.aload_n 0, 1) := by decide +kernel
theorem d_jdk_42_method_54_6 : decode jdk_42_method_54_code 6 = .ok (.invokevirtual 335, 3) := by decide +kernel
theorem wd72 {Z : State} {a0 : Array Value} (hw : ∀ d ∈ tables_1, d.before a0 Z = true) : (Jvm.Cond.methodLink "java/lang/String" (335 : Nat) ({ cls := "java/lang/String", name := "coder", desc := "()B" } : Jvm.MethodName)).before a0 Z = true := hw _ (List.mem_of_getElem? (i := 72) rfl)
theorem wd76 {Z : State} {a0 : Array Value} (hw : ∀ d ∈ tables_1, d.before a0 Z = true) : (Jvm.Cond.code ({ cls := "java/lang/String", name := "coder", desc := "()B" } : Jvm.MethodName) jdk_42_method_152_code (1 : Nat) (Option.some Jvm.ClassFile.FieldType.byte)).before a0 Z = true := hw _ (List.mem_of_getElem? (i := 76) rfl)
theorem pd_9 : parseMethodDescriptor "()B" = some ⟨[], some .byte⟩ := by decide +kernel
theorem wd75 {Z : State} {a0 : Array Value} (hw : ∀ d ∈ tables_1, d.before a0 Z = true) : (Jvm.Cond.selects "java/lang/String" ({ cls := "java/lang/String", name := "coder", desc := "()B" } : Jvm.MethodName) ({ cls := "java/lang/String", name := "coder", desc := "()B" } : Jvm.MethodName)).before a0 Z = true := hw _ (List.mem_of_getElem? (i := 75) rfl)
theorem wd73 {Z : State} {a0 : Array Value} (hw : ∀ d ∈ tables_1, d.before a0 Z = true) : (Jvm.Cond.declares ({ cls := "java/lang/String", name := "coder", desc := "()B" } : Jvm.MethodName)).before a0 Z = true := hw _ (List.mem_of_getElem? (i := 73) rfl)
theorem wd74 {Z : State} {a0 : Array Value} (hw : ∀ d ∈ tables_1, d.before a0 Z = true) : (Jvm.Cond.instanceMethod ({ cls := "java/lang/String", name := "coder", desc := "()B" } : Jvm.MethodName)).before a0 Z = true := hw _ (List.mem_of_getElem? (i := 74) rfl)
theorem d_jdk_42_method_54_9 : decode jdk_42_method_54_code 9 = .ok (.ishr, 1) := by decide +kernel
theorem d_jdk_42_method_54_10 : decode jdk_42_method_54_code 10 = .ok (.ireturn, 1) := by decide +kernel
set_option maxRecDepth 65536 in
set_option maxHeartbeats 40000000 in
theorem s_len {Z : State} {a0 : Array Value} (hw : ∀ d ∈ tables_1, d.before a0 Z = true) (a : Addr) (h0 : Heap) (n0 : Nat) (E0 : Exa Z h0 a "java/lang/String") (F_c : Fld Z h0 a "java/lang/String" "coder" "B" (.int 0)) (cs : Int32) (S_CS : Sta Z h0 "java/lang/String" "COMPACT_STRINGS" "Z" (.int cs)) (hcs : ¬ cs = 0) (b : Addr) (F_v : Fld Z h0 a "java/lang/String" "value" "[B" (.ref b)) (n : Nat) (g : Nat → Int32) (A0 : Ari Z h0 b .byte n g) (hn : n ≤ 10000) : ∀ l, Does l Z (⟨"java/lang/String", "length", "()I"⟩ : MethodName) jdk_42_method_54_code 1 (some .int) ({ frames := 1, cells := 0, slots := 0, locals := 13 } : Room) n0 #[(.ref a)] h0 (fun v h => v = some (.int (n : Nat).toInt32) ∧ h = h0) := by
  intro l
  refine Does.of_wp (plainFor_of_name pn_1) (Ls := #[.val (.ref a)]) (fun m => by first | (simp [entryFrame, mkF, argsToLocals, Value.category]; done) | rfl | (rcases ref_cases hfv with rfl | ⟨_, rfl⟩ <;> rfl)) ?_
  intro C
  refine WP.aloadN (pc' := 1) d_jdk_42_method_54_0 rfl rfl rfl ?_
  refine WP.getF (pc' := 4) d_jdk_42_method_54_1 rfl (host := "") (Or.inl (wd22 hw)) Via.refl F_v ?_
  refine WP.arraylengthI (z := (n : Nat).toInt32) (pc' := 5) d_jdk_42_method_54_4 rfl A0 rfl ?_
  refine WP.aloadN (pc' := 6) d_jdk_42_method_54_5 rfl rfl rfl ?_
  refine WP.callV (a := a) (K := "java/lang/String") (argsL := []) (rest := [(.int (n : Nat).toInt32)]) (wd := 1) (cl' := 0) (sl' := 0) (pc' := 9) d_jdk_42_method_54_6 rfl (wd72 hw) (wd73 hw) (nfS (wd75 hw) rfl) (wd75 hw) (wd74 hw) (wd2 hw) (wd76 hw) (by decide) E0 (s_cod hw a h0 n0 E0 F_c cs S_CS hcs) pd_9 rfl rfl rfl (Nat.le_of_eq rfl) (by decide) (by decide) rfl rfl (by decide) (by decide) ?_
  rintro v hh1 ⟨rfl, he1⟩
  rw [he1]
  refine WP.castS (st' := [(.int (0 : Int32)), (.int (n : Nat).toInt32)]) rfl ?_
  refine WP.ishr (pc' := 10) d_jdk_42_method_54_9 rfl ?_
  refine WP.iret d_jdk_42_method_54_10 rfl (by decide) (by decide) ⟨by rw [shr0], rfl⟩
theorem d_jdk_42_method_56_0 : decode jdk_42_method_56_code 0 = .ok (.aload_n 0, 1) := by decide +kernel
theorem d_jdk_42_method_56_1 : decode jdk_42_method_56_code 1 = .ok (.invokevirtual 492, 3) := by decide +kernel
theorem wd86 {Z : State} {a0 : Array Value} (hw : ∀ d ∈ tables_1, d.before a0 Z = true) : (Jvm.Cond.methodLink "java/lang/String" (492 : Nat) ({ cls := "java/lang/String", name := "isLatin1", desc := "()Z" } : Jvm.MethodName)).before a0 Z = true := hw _ (List.mem_of_getElem? (i := 86) rfl)
theorem wd90 {Z : State} {a0 : Array Value} (hw : ∀ d ∈ tables_1, d.before a0 Z = true) : (Jvm.Cond.code ({ cls := "java/lang/String", name := "isLatin1", desc := "()Z" } : Jvm.MethodName) jdk_42_method_154_code (1 : Nat) (Option.some Jvm.ClassFile.FieldType.boolean)).before a0 Z = true := hw _ (List.mem_of_getElem? (i := 90) rfl)
theorem pd_10 : parseMethodDescriptor "()Z" = some ⟨[], some .boolean⟩ := by decide +kernel
theorem wd89 {Z : State} {a0 : Array Value} (hw : ∀ d ∈ tables_1, d.before a0 Z = true) : (Jvm.Cond.selects "java/lang/String" ({ cls := "java/lang/String", name := "isLatin1", desc := "()Z" } : Jvm.MethodName) ({ cls := "java/lang/String", name := "isLatin1", desc := "()Z" } : Jvm.MethodName)).before a0 Z = true := hw _ (List.mem_of_getElem? (i := 89) rfl)
theorem wd87 {Z : State} {a0 : Array Value} (hw : ∀ d ∈ tables_1, d.before a0 Z = true) : (Jvm.Cond.declares ({ cls := "java/lang/String", name := "isLatin1", desc := "()Z" } : Jvm.MethodName)).before a0 Z = true := hw _ (List.mem_of_getElem? (i := 87) rfl)
theorem wd88 {Z : State} {a0 : Array Value} (hw : ∀ d ∈ tables_1, d.before a0 Z = true) : (Jvm.Cond.instanceMethod ({ cls := "java/lang/String", name := "isLatin1", desc := "()Z" } : Jvm.MethodName)).before a0 Z = true := hw _ (List.mem_of_getElem? (i := 88) rfl)
theorem d_jdk_42_method_56_4 : decode jdk_42_method_56_code 4 = .ok (.ifCond .eq 12, 3) := by decide +kernel
theorem d_jdk_42_method_56_7 : decode jdk_42_method_56_code 7 = .ok (.aload_n 0, 1) := by decide +kernel
theorem d_jdk_42_method_56_8 : decode jdk_42_method_56_code 8 = .ok (.getfield 9, 3) := by decide +kernel
theorem d_jdk_42_method_56_11 : decode jdk_42_method_56_code 11 = .ok (.iload_n 1, 1) := by decide +kernel
theorem d_jdk_42_method_56_12 : decode jdk_42_method_56_code 12 = .ok (.invokestatic 495, 3) := by decide +kernel
theorem wd91 {Z : State} {a0 : Array Value} (hw : ∀ d ∈ tables_1, d.before a0 Z = true) : (Jvm.Cond.methodLink "java/lang/String" (495 : Nat) ({ cls := "java/lang/StringLatin1", name := "charAt", desc := "([BI)C" } : Jvm.MethodName)).before a0 Z = true := hw _ (List.mem_of_getElem? (i := 91) rfl)
theorem wd93 {Z : State} {a0 : Array Value} (hw : ∀ d ∈ tables_1, d.before a0 Z = true) : (Jvm.Cond.code ({ cls := "java/lang/StringLatin1", name := "charAt", desc := "([BI)C" } : Jvm.MethodName) jdk_43_method_2_code (2 : Nat) (Option.some Jvm.ClassFile.FieldType.char)).before a0 Z = true := hw _ (List.mem_of_getElem? (i := 93) rfl)
theorem pd_11 : parseMethodDescriptor "([BI)C" = some ⟨[(.array .byte), .int], some .char⟩ := by decide +kernel
theorem wd92 {Z : State} {a0 : Array Value} (hw : ∀ d ∈ tables_1, d.before a0 Z = true) : (Jvm.Cond.static ({ cls := "java/lang/StringLatin1", name := "charAt", desc := "([BI)C" } : Jvm.MethodName)).before a0 Z = true := hw _ (List.mem_of_getElem? (i := 92) rfl)
theorem d_jdk_42_method_56_15 : decode jdk_42_method_56_code 15 = .ok (.ireturn, 1) := by decide +kernel
set_option maxRecDepth 65536 in
set_option maxHeartbeats 40000000 in
theorem s_cha {Z : State} {a0 : Array Value} (hw : ∀ d ∈ tables_1, d.before a0 Z = true) (a : Addr) (i : Int32) (h0 : Heap) (n0 : Nat) (E0 : Exa Z h0 a "java/lang/String") (F_c : Fld Z h0 a "java/lang/String" "coder" "B" (.int 0)) (cs : Int32) (S_CS : Sta Z h0 "java/lang/String" "COMPACT_STRINGS" "Z" (.int cs)) (hcs : ¬ cs = 0) (b : Addr) (F_v : Fld Z h0 a "java/lang/String" "value" "[B" (.ref b)) (n : Nat) (g : Nat → Int32) (A0 : Ari Z h0 b .byte n g) (hn : n ≤ 10000) (fv : Value) (hfv : fv.isRef = true) (S_FM : Sta Z h0 "jdk/internal/util/Preconditions" "SIOOBE_FORMATTER" "Ljava/util/function/BiFunction;" fv) (I : Nat) (hi : i.toInt = (I : Int)) (hl : I < n) : ∀ l, Does l Z (⟨"java/lang/String", "charAt", "(I)C"⟩ : MethodName) jdk_42_method_56_code 2 (some .char) ({ frames := 3, cells := 0, slots := 0, locals := 40 } : Room) n0 #[(.ref a), (.int i)] h0 (fun v h => v = some (.int (chv (g I))) ∧ h = h0) := by
  intro l
  refine Does.of_wp (plainFor_of_name pn_1) (Ls := #[.val (.ref a), .val (.int i)]) (fun m => by first | (simp [entryFrame, mkF, argsToLocals, Value.category]; done) | rfl | (rcases ref_cases hfv with rfl | ⟨_, rfl⟩ <;> rfl)) ?_
  intro C
  refine WP.aloadN (pc' := 1) d_jdk_42_method_56_0 rfl rfl rfl ?_
  refine WP.callV (a := a) (K := "java/lang/String") (argsL := []) (rest := []) (wd := 0) (cl' := 0) (sl' := 0) (pc' := 4) d_jdk_42_method_56_1 rfl (wd86 hw) (wd87 hw) (nfS (wd89 hw) rfl) (wd89 hw) (wd88 hw) (wd2 hw) (wd90 hw) (by decide) E0 (s_isl hw a h0 n0 E0 F_c cs S_CS hcs) pd_10 rfl rfl rfl (Nat.le_of_eq rfl) (by decide) (by decide) rfl rfl (by decide) (by decide) ?_
  rintro v hh1 ⟨rfl, he1⟩
  rw [he1]
  refine WP.castS (st' := [(.int (1 : Int32))]) rfl ?_
  have hc4 : ¬ (1 : Int32) = (0 : Int32) := by decide
  refine WP.ifc_eq (pc1 := 16) (pc2 := 7) d_jdk_42_method_56_4 (by decide) (by decide) rfl (fun k => absurd k hc4) (fun _ => ?_)
  refine WP.aloadN (pc' := 8) d_jdk_42_method_56_7 rfl rfl rfl ?_
  refine WP.getF (pc' := 11) d_jdk_42_method_56_8 rfl (host := "") (Or.inl (wd22 hw)) Via.refl F_v ?_
  refine WP.iloadN (pc' := 12) d_jdk_42_method_56_11 rfl rfl ?_
  refine WP.callS (argsL := [(.ref b), (.int i)]) (rest := []) (wd := 0) (cl' := 0) (sl' := 0) (pc' := 15) d_jdk_42_method_56_12 rfl (wd91 hw) (wd92 hw) (wd7 hw) (wd93 hw) (by decide) (s_lch hw b i h0 n0 fv hfv S_FM n I g A0 hi hl hn) pd_11 rfl rfl rfl (Nat.le_of_eq rfl) (by decide) (by decide) rfl rfl (by decide) (by decide) ?_
  rintro v hh2 ⟨rfl, he2⟩
  rw [he2]
  refine WP.castS (st' := [(.int (chv (g I)))]) rfl ?_
  refine WP.nret (t := .char) d_jdk_42_method_56_15 rfl (by simp) (nar_chv _) (by decide) (by decide) ⟨rfl, rfl⟩
theorem d_jdk_43_method_13_0 : decode jdk_43_method_13_code 0 = .ok (.aload_n 0, 1) := by decide +kernel
theorem d_jdk_43_method_13_1 : decode jdk_43_method_13_code 1 = .ok (.arraylength, 1) := by decide +kernel
theorem d_jdk_43_method_13_2 : decode jdk_43_method_13_code 2 = .ok (.aload_n 1, 1) := by decide +kernel
theorem d_jdk_43_method_13_3 : decode jdk_43_method_13_code 3 = .ok (.arraylength, 1) := by decide +kernel
theorem d_jdk_43_method_13_4 : decode jdk_43_method_13_code 4 = .ok (.if_icmp .ne 30, 3) := by decide +kernel
theorem d_jdk_43_method_13_34 : decode jdk_43_method_13_code 34 = .ok (.iconst 0, 1) := by decide +kernel
theorem d_jdk_43_method_13_35 : decode jdk_43_method_13_code 35 = .ok (.ireturn, 1) := by decide +kernel
theorem d_jdk_43_method_13_7 : decode jdk_43_method_13_code 7 = .ok (.iconst 0, 1) := by decide +kernel
theorem d_jdk_43_method_13_8 : decode jdk_43_method_13_code 8 = .ok (.istore_n 2, 1) := by decide +kernel
theorem d_jdk_43_method_13_9 : decode jdk_43_method_13_code 9 = .ok (.iload_n 2, 1) := by decide +kernel
theorem d_jdk_43_method_13_10 : decode jdk_43_method_13_code 10 = .ok (.aload_n 0, 1) := by decide +kernel
theorem d_jdk_43_method_13_11 : decode jdk_43_method_13_code 11 = .ok (.arraylength, 1) := by decide +kernel
theorem d_jdk_43_method_13_12 : decode jdk_43_method_13_code 12 = .ok (.if_icmp .ge 20, 3) := by decide +kernel
theorem d_jdk_43_method_13_32 : decode jdk_43_method_13_code 32 = .ok (.iconst 1, 1) := by decide +kernel
theorem d_jdk_43_method_13_33 : decode jdk_43_method_13_code 33 = .ok (.ireturn, 1) := by decide +kernel
theorem d_jdk_43_method_13_15 : decode jdk_43_method_13_code 15 = .ok (.aload_n 0, 1) := by decide +kernel
theorem d_jdk_43_method_13_16 : decode jdk_43_method_13_code 16 = .ok (.iload_n 2, 1) := by decide +kernel
theorem d_jdk_43_method_13_17 : decode jdk_43_method_13_code 17 = .ok (.baload, 1) := by decide +kernel
theorem d_jdk_43_method_13_18 : decode jdk_43_method_13_code 18 = .ok (.aload_n 1, 1) := by decide +kernel
theorem d_jdk_43_method_13_19 : decode jdk_43_method_13_code 19 = .ok (.iload_n 2, 1) := by decide +kernel
theorem d_jdk_43_method_13_20 : decode jdk_43_method_13_code 20 = .ok (.baload, 1) := by decide +kernel
theorem d_jdk_43_method_13_21 : decode jdk_43_method_13_code 21 = .ok (.if_icmp .eq 5, 3) := by decide +kernel
theorem d_jdk_43_method_13_26 : decode jdk_43_method_13_code 26 = .ok (.iinc 2 1, 3) := by decide +kernel
theorem d_jdk_43_method_13_29 : decode jdk_43_method_13_code 29 = .ok (.goto (-20), 3) := by decide +kernel
theorem d_jdk_43_method_13_24 : decode jdk_43_method_13_code 24 = .ok (.iconst 0, 1) := by decide +kernel
theorem d_jdk_43_method_13_25 : decode jdk_43_method_13_code 25 = .ok (.ireturn, 1) := by decide +kernel
set_option maxRecDepth 65536 in
set_option maxHeartbeats 40000000 in
theorem s_leq {Z : State} {a0 : Array Value} (hw : ∀ d ∈ tables_1, d.before a0 Z = true) (a : Addr) (b : Addr) (h0 : Heap) (n0 : Nat) (n m : Nat) (g g' : Nat → Int32) (A0 : Ari Z h0 a .byte n g) (B0 : Ari Z h0 b .byte m g') (hn : n ≤ 10000) (hm : m ≤ 10000) : ∀ l, Does l Z (⟨"java/lang/StringLatin1", "equals", "([B[B)Z"⟩ : MethodName) jdk_43_method_13_code 3 (some .boolean) ({ frames := 0, cells := 0, slots := 0, locals := 0 } : Room) n0 #[(.ref a), (.ref b)] h0 (fun v h => ((v = some (.int 1) ∧ Same n m g g') ∨ (v = some (.int 0) ∧ ¬ Same n m g g')) ∧ h = h0) := by
  intro l
  refine Does.of_wp (plainFor_of_name pn_2) (Ls := #[.val (.ref a), .val (.ref b), .unset]) (fun m => by first | (simp [entryFrame, mkF, argsToLocals, Value.category]; done) | rfl | (rcases ref_cases hfv with rfl | ⟨_, rfl⟩ <;> rfl)) ?_
  intro C
  refine WP.aloadN (pc' := 1) d_jdk_43_method_13_0 rfl rfl rfl ?_
  refine WP.arraylengthI (z := (n : Nat).toInt32) (pc' := 2) d_jdk_43_method_13_1 rfl A0 rfl ?_
  refine WP.aloadN (pc' := 3) d_jdk_43_method_13_2 rfl rfl rfl ?_
  refine WP.arraylengthI (z := (m : Nat).toInt32) (pc' := 4) d_jdk_43_method_13_3 rfl B0 rfl ?_
  refine WP.icmp_ne (pc1 := 34) (pc2 := 7) d_jdk_43_method_13_4 (by decide) (by decide) rfl ?_ ?_
  · intro hc4
    refine WP.iconst (pc' := 35) d_jdk_43_method_13_34 rfl (z := 0) rfl ?_
    refine WP.nret (t := .boolean) d_jdk_43_method_13_35 rfl (by simp) rfl (by decide) (by decide) ⟨Or.inr ⟨rfl, fun z => hc4 (by rw [z.1])⟩, rfl⟩
  · intro hc4
    refine WP.iconst (pc' := 8) d_jdk_43_method_13_7 rfl (z := 0) rfl ?_
    refine WP.istoreN (pc' := 9) d_jdk_43_method_13_8 rfl (Ls' := #[.val (.ref a), .val (.ref b), .val (.int (0 : Int32))]) rfl ?_
    have hnm : n = m := by have := congrArg Int32.toInt hc4; rw [natI (by omega), natI (by omega)] at this; omega
    have loop : ∀ (k I : Nat) (i : Int32), i.toInt = (I : Int) → I ≤ n → n - I < k → (∀ j, j < I → g j = g' j) → WP C Z jdk_43_method_13_code 3 "java/lang/StringLatin1" (some .boolean) "equals" ({ frames := 0, cells := 0, slots := 0, locals := 0 } : Room) n0 (fun v h => ((v = some (.int 1) ∧ Same n m g g') ∨ (v = some (.int 0) ∧ ¬ Same n m g g')) ∧ h = h0) 0 0 h0 9 #[.val (.ref a), .val (.ref b), .val (.int i)] [] := by
      intro k
      induction k with
      | zero => intro I i h1 h2 h3; omega
      | succ k IH =>
        intro I i hi hI hk hg
        refine WP.iloadN (pc' := 10) d_jdk_43_method_13_9 rfl rfl ?_
        refine WP.aloadN (pc' := 11) d_jdk_43_method_13_10 rfl rfl rfl ?_
        refine WP.arraylengthI (z := (n : Nat).toInt32) (pc' := 12) d_jdk_43_method_13_11 rfl A0 rfl ?_
        refine WP.icmp_ge (pc1 := 32) (pc2 := 15) d_jdk_43_method_13_12 (by decide) (by decide) rfl ?_ ?_
        · intro hc12
          refine WP.iconst (pc' := 33) d_jdk_43_method_13_32 rfl (z := 1) rfl ?_
          refine WP.nret (t := .boolean) d_jdk_43_method_13_33 rfl (by simp) rfl (by decide) (by decide) ⟨Or.inl ⟨rfl, hnm, fun j hj => hg j (by rw [Int32.lt_iff_toInt_lt, natI (by omega)] at hc12; omega)⟩, rfl⟩
        · intro hc12
          have lt1 : I < n := by rw [Int32.lt_iff_toInt_lt, natI (by omega)] at hc12; omega
          refine WP.aloadN (pc' := 16) d_jdk_43_method_13_15 rfl rfl rfl ?_
          refine WP.iloadN (pc' := 17) d_jdk_43_method_13_16 rfl rfl ?_
          refine WP.baloadI (I) (pc' := 18) d_jdk_43_method_13_17 rfl A0 hi lt1 rfl ?_
          refine WP.aloadN (pc' := 19) d_jdk_43_method_13_18 rfl rfl rfl ?_
          refine WP.iloadN (pc' := 20) d_jdk_43_method_13_19 rfl rfl ?_
          refine WP.baloadI (I) (pc' := 21) d_jdk_43_method_13_20 rfl B0 hi (by omega) rfl ?_
          refine WP.icmp_eq (pc1 := 26) (pc2 := 24) d_jdk_43_method_13_21 (by decide) (by decide) rfl ?_ ?_
          · intro hc21
            refine WP.iinc (pc' := 29) d_jdk_43_method_13_26 rfl rfl (z := (i + (1 : Int32))) rfl (Ls' := #[.val (.ref a), .val (.ref b), .val (.int (i + (1 : Int32)))]) rfl ?_
            refine WP.goto (pc' := 9) d_jdk_43_method_13_29 (by decide) (by decide) ?_
            refine IH (I + 1) _ (adds hi rfl (by omega)) (by omega) (by omega) fun j hj => ?_
            by_cases q : j = I
            · rw [q]; exact hc21
            · exact hg j (by omega)
          · intro hc21
            refine WP.iconst (pc' := 25) d_jdk_43_method_13_24 rfl (z := 0) rfl ?_
            refine WP.nret (t := .boolean) d_jdk_43_method_13_25 rfl (by simp) rfl (by decide) (by decide) ⟨Or.inr ⟨rfl, fun z => hc21 (z.2 I lt1)⟩, rfl⟩
    exact loop (n + 1) 0 0 rfl (by omega) (by omega) fun j hj => absurd hj (by omega)
theorem d_jdk_42_method_66_0 : decode jdk_42_method_66_code 0 = .ok (.aload_n 0, 1) := by decide +kernel
theorem d_jdk_42_method_66_1 : decode jdk_42_method_66_code 1 = .ok (.aload_n 1, 1) := by decide +kernel
theorem d_jdk_42_method_66_2 : decode jdk_42_method_66_code 2 = .ok (.if_acmp .ne 5, 3) := by decide +kernel
theorem d_jdk_42_method_66_7 : decode jdk_42_method_66_code 7 = .ok (.aload_n 1, 1) := by decide +kernel
theorem d_jdk_42_method_66_8 : decode jdk_42_method_66_code 8 = .ok (.instanceof 10, 3) := by decide +kernel
theorem d_jdk_42_method_66_11 : decode jdk_42_method_66_code 11 = .ok (.ifCond .eq 43, 3) := by decide +kernel
theorem d_jdk_42_method_66_14 : decode jdk_42_method_66_code 14 = .ok (.aload_n 1, 1) := by decide +kernel
theorem d_jdk_42_method_66_15 : decode jdk_42_method_66_code 15 = .ok (.checkcast 10, 3) := by decide +kernel
theorem d_jdk_42_method_66_18 : decode jdk_42_method_66_code 18 = .ok (.astore_n 2, 1) := by decide +kernel
theorem d_jdk_42_method_66_19 : decode jdk_42_method_66_code 19 = .ok (.getstatic 38, 3) := by decide +kernel
theorem d_jdk_42_method_66_22 : decode jdk_42_method_66_code 22 = .ok (.ifCond .eq 14, 3) := by decide +kernel
theorem d_jdk_42_method_66_25 : decode jdk_42_method_66_code 25 = .ok (.aload_n 0, 1) := by decide +kernel
theorem d_jdk_42_method_66_26 : decode jdk_42_method_66_code 26 = .ok (.getfield 15, 3) := by decide +kernel
theorem d_jdk_42_method_66_29 : decode jdk_42_method_66_code 29 = .ok (.aload_n 2, 1) := by decide +kernel
theorem d_jdk_42_method_66_30 : decode jdk_42_method_66_code 30 = .ok (.getfield 15, 3) := by decide +kernel
theorem d_jdk_42_method_66_33 : decode jdk_42_method_66_code 33 = .ok (.if_icmp .ne 21, 3) := by decide +kernel
theorem d_jdk_42_method_66_36 : decode jdk_42_method_66_code 36 = .ok (.aload_n 0, 1) := by decide +kernel
theorem d_jdk_42_method_66_37 : decode jdk_42_method_66_code 37 = .ok (.getfield 9, 3) := by decide +kernel
theorem d_jdk_42_method_66_40 : decode jdk_42_method_66_code 40 = .ok (.aload_n 2, 1) := by decide +kernel
theorem d_jdk_42_method_66_41 : decode jdk_42_method_66_code 41 = .ok (.getfield 9, 3) := by decide +kernel
theorem d_jdk_42_method_66_44 : decode jdk_42_method_66_code 44 = .ok (.invokestatic 541, 3) := by decide +kernel
theorem wd196 {Z : State} {a0 : Array Value} (hw : ∀ d ∈ tables_1, d.before a0 Z = true) : (Jvm.Cond.methodLink "java/lang/String" (541 : Nat) ({ cls := "java/lang/StringLatin1", name := "equals", desc := "([B[B)Z" } : Jvm.MethodName)).before a0 Z = true := hw _ (List.mem_of_getElem? (i := 196) rfl)
theorem wd198 {Z : State} {a0 : Array Value} (hw : ∀ d ∈ tables_1, d.before a0 Z = true) : (Jvm.Cond.code ({ cls := "java/lang/StringLatin1", name := "equals", desc := "([B[B)Z" } : Jvm.MethodName) jdk_43_method_13_code (3 : Nat) (Option.some Jvm.ClassFile.FieldType.boolean)).before a0 Z = true := hw _ (List.mem_of_getElem? (i := 198) rfl)
theorem pd_12 : parseMethodDescriptor "([B[B)Z" = some ⟨[(.array .byte), (.array .byte)], some .boolean⟩ := by decide +kernel
theorem wd197 {Z : State} {a0 : Array Value} (hw : ∀ d ∈ tables_1, d.before a0 Z = true) : (Jvm.Cond.static ({ cls := "java/lang/StringLatin1", name := "equals", desc := "([B[B)Z" } : Jvm.MethodName)).before a0 Z = true := hw _ (List.mem_of_getElem? (i := 197) rfl)
theorem d_jdk_42_method_66_47 : decode jdk_42_method_66_code 47 = .ok (.ifCond .eq 7, 3) := by decide +kernel
theorem d_jdk_42_method_66_50 : decode jdk_42_method_66_code 50 = .ok (.iconst 1, 1) := by decide +kernel
theorem d_jdk_42_method_66_51 : decode jdk_42_method_66_code 51 = .ok (.goto 4, 3) := by decide +kernel
theorem d_jdk_42_method_66_55 : decode jdk_42_method_66_code 55 = .ok (.ireturn, 1) := by decide +kernel
theorem d_jdk_42_method_66_54 : decode jdk_42_method_66_code 54 = .ok (.iconst 0, 1) := by decide +kernel
set_option maxRecDepth 65536 in
set_option maxHeartbeats 40000000 in
theorem s_eq {Z : State} {a0 : Array Value} (hw : ∀ d ∈ tables_1, d.before a0 Z = true) (a : Addr) (o : Addr) (h0 : Heap) (n0 : Nat) (b1 b2 : Addr) (n m : Nat) (g g' : Nat → Int32) (E_a : Exa Z h0 a "java/lang/String") (V_a : Fld Z h0 a "java/lang/String" "value" "[B" (.ref b1)) (C_a : Fld Z h0 a "java/lang/String" "coder" "B" (.int 0)) (E_o : Exa Z h0 o "java/lang/String") (V_o : Fld Z h0 o "java/lang/String" "value" "[B" (.ref b2)) (C_o : Fld Z h0 o "java/lang/String" "coder" "B" (.int 0)) (A0 : Ari Z h0 b1 .byte n g) (B0 : Ari Z h0 b2 .byte m g') (hn : n ≤ 10000) (hm : m ≤ 10000) (hao : a ≠ o) (cs : Int32) (S_CS : Sta Z h0 "java/lang/String" "COMPACT_STRINGS" "Z" (.int cs)) (hcs : ¬ cs = 0) : ∀ l, Does l Z (⟨"java/lang/String", "equals", "(Ljava/lang/Object;)Z"⟩ : MethodName) jdk_42_method_66_code 3 (some .boolean) ({ frames := 1, cells := 0, slots := 0, locals := 14 } : Room) n0 #[(.ref a), (.ref o)] h0 (fun v h => ((v = some (.int 1) ∧ Same n m g g') ∨ (v = some (.int 0) ∧ ¬ Same n m g g')) ∧ h = h0) := by
  intro l
  refine Does.of_wp (plainFor_of_name pn_1) (Ls := #[.val (.ref a), .val (.ref o), .unset]) (fun m => by first | (simp [entryFrame, mkF, argsToLocals, Value.category]; done) | rfl | (rcases ref_cases hfv with rfl | ⟨_, rfl⟩ <;> rfl)) ?_
  intro C
  refine WP.aloadN (pc' := 1) d_jdk_42_method_66_0 rfl rfl rfl ?_
  refine WP.aloadN (pc' := 2) d_jdk_42_method_66_1 rfl rfl rfl ?_
  have hc2 : ¬ ((.ref a) : Value) = (.ref o) := fun q => hao (Value.ref.inj q)
  refine WP.acmp_ne (pc1 := 7) (pc2 := 5) d_jdk_42_method_66_2 rfl rfl (by decide) (by decide) rfl (fun _ => ?_) (fun k => absurd k hc2)
  refine WP.aloadN (pc' := 8) d_jdk_42_method_66_7 rfl rfl rfl ?_
  refine WP.instanceof (pc' := 11) d_jdk_42_method_66_8 rfl (wd9 hw) (Ins.self E_o) ?_
  have hc11 : ¬ (1 : Int32) = (0 : Int32) := by decide
  refine WP.ifc_eq (pc1 := 54) (pc2 := 14) d_jdk_42_method_66_11 (by decide) (by decide) rfl (fun k => absurd k hc11) (fun _ => ?_)
  refine WP.aloadN (pc' := 15) d_jdk_42_method_66_14 rfl rfl rfl ?_
  refine WP.checkcast (pc' := 18) d_jdk_42_method_66_15 rfl (wd9 hw) (Ins.self E_o) ?_
  refine WP.astoreN (pc' := 19) d_jdk_42_method_66_18 rfl rfl (Ls' := #[.val (.ref a), .val (.ref o), .val (.ref o)]) rfl ?_
  refine WP.getS (pc' := 22) d_jdk_42_method_66_19 rfl (host := "") (Or.inl (wd4 hw)) Via.refl (S_CS) ?_
  have hc22 : ¬ cs = (0 : Int32) := hcs
  refine WP.ifc_eq (pc1 := 36) (pc2 := 25) d_jdk_42_method_66_22 (by decide) (by decide) rfl (fun k => absurd k hc22) (fun _ => ?_)
  refine WP.aloadN (pc' := 26) d_jdk_42_method_66_25 rfl rfl rfl ?_
  refine WP.getF (pc' := 29) d_jdk_42_method_66_26 rfl (host := "") (Or.inl (wd24 hw)) Via.refl C_a ?_
  refine WP.aloadN (pc' := 30) d_jdk_42_method_66_29 rfl rfl rfl ?_
  refine WP.getF (pc' := 33) d_jdk_42_method_66_30 rfl (host := "") (Or.inl (wd24 hw)) Via.refl C_o ?_
  have hc33 : (0 : Int32) = (0 : Int32) := by decide
  refine WP.icmp_ne (pc1 := 54) (pc2 := 36) d_jdk_42_method_66_33 (by decide) (by decide) rfl (fun k => absurd hc33 k) (fun _ => ?_)
  refine WP.aloadN (pc' := 37) d_jdk_42_method_66_36 rfl rfl rfl ?_
  refine WP.getF (pc' := 40) d_jdk_42_method_66_37 rfl (host := "") (Or.inl (wd22 hw)) Via.refl V_a ?_
  refine WP.aloadN (pc' := 41) d_jdk_42_method_66_40 rfl rfl rfl ?_
  refine WP.getF (pc' := 44) d_jdk_42_method_66_41 rfl (host := "") (Or.inl (wd22 hw)) Via.refl V_o ?_
  refine WP.callS (argsL := [(.ref b1), (.ref b2)]) (rest := []) (wd := 0) (cl' := 0) (sl' := 0) (pc' := 47) d_jdk_42_method_66_44 rfl (wd196 hw) (wd197 hw) (wd7 hw) (wd198 hw) (by decide) (s_leq hw b1 b2 h0 n0 n m g g' A0 B0 hn hm) pd_12 rfl rfl rfl (Nat.le_of_eq rfl) (by decide) (by decide) rfl rfl (by decide) (by decide) ?_
  rintro v hh1 ⟨⟨rfl, q⟩ | ⟨rfl, q⟩, he1⟩ <;> rw [he1]
  · skip
    refine WP.castS (st' := [(.int (1 : Int32))]) rfl ?_
    have hc47 : ¬ (1 : Int32) = (0 : Int32) := by decide
    refine WP.ifc_eq (pc1 := 54) (pc2 := 50) d_jdk_42_method_66_47 (by decide) (by decide) rfl (fun k => absurd k hc47) (fun _ => ?_)
    refine WP.iconst (pc' := 51) d_jdk_42_method_66_50 rfl (z := 1) rfl ?_
    refine WP.goto (pc' := 55) d_jdk_42_method_66_51 (by decide) (by decide) ?_
    refine WP.nret (t := .boolean) d_jdk_42_method_66_55 rfl (by simp) rfl (by decide) (by decide) ⟨Or.inl ⟨rfl, q⟩, rfl⟩
  · skip
    refine WP.castS (st' := [(.int (0 : Int32))]) rfl ?_
    have hc47 : (0 : Int32) = (0 : Int32) := by decide
    refine WP.ifc_eq (pc1 := 54) (pc2 := 50) d_jdk_42_method_66_47 (by decide) (by decide) rfl (fun _ => ?_) (fun k => absurd hc47 k)
    refine WP.iconst (pc' := 55) d_jdk_42_method_66_54 rfl (z := 0) rfl ?_
    refine WP.nret (t := .boolean) d_jdk_42_method_66_55 rfl (by simp) rfl (by decide) (by decide) ⟨Or.inr ⟨rfl, q⟩, rfl⟩
/-- a head with its two arrays: us bytes used, fd fields, g the bytes, e the spans -/
def Hh (Z : State) (n0 : Nat) (h : Heap) (nr : Nat) (a rw sp : Addr) (us fd : Int32) (g e : Nat → Int32) : Prop :=
  (n0 ≤ a ∧ n0 ≤ rw ∧ n0 ≤ sp ∧ rw ≠ sp ∧ rw ≠ a ∧ sp ≠ a) ∧ Exa Z h a "com/example/vipool/vipool/http/HttpHead" ∧ (Fld Z h a "com/example/vipool/vipool/http/HttpHead" "raw" "[B" (.ref rw) ∧ Fld Z h a "com/example/vipool/vipool/http/HttpHead" "spans" "[I" (.ref sp) ∧ Fld Z h a "com/example/vipool/vipool/http/HttpHead" "used" "I" (.int us) ∧ Fld Z h a "com/example/vipool/vipool/http/HttpHead" "fields" "I" (.int fd) ∧ Fld Z h a "com/example/vipool/vipool/http/HttpHead" "secondEnd" "I" (.int 0) ∧ Fld Z h a "com/example/vipool/vipool/http/HttpHead" "secondStart" "I" (.int 0) ∧ Fld Z h a "com/example/vipool/vipool/http/HttpHead" "request" "Z" (.int 0) ∧ Fld Z h a "com/example/vipool/vipool/http/HttpHead" "method" "Ljava/lang/String;" .null ∧ Fld Z h a "com/example/vipool/vipool/http/HttpHead" "status" "I" (.int 0)) ∧ Ari Z h rw .byte nr g ∧ Ari Z h sp .int 32 e
def lay (g : Nat → Int32) (U n : Nat) (q : Nat → Int32) : Nat → Int32 := fun k => if U ≤ k ∧ k < U + n then q (k - U) else g k
theorem lay0 (g : Nat → Int32) (U : Nat) (q : Nat → Int32) (k : Nat) : lay g U 0 q k = g k := by unfold lay; rw [if_neg (by omega)]
theorem lay_step {nr : Nat} {g q : Nat → Int32} {U I : Nat} {x : Int32} {G : Nat → Int32} (hx : x = q I) (hG : ∀ k, k < nr → G k = lay g U I q k) (k : Nat) (hk : k < nr) : updI G (U + I) x k = lay g U (I + 1) q k := by
  by_cases c : k = U + I
  · rw [c, upd_at]; unfold lay; rw [if_pos (by omega), hx, show U + I - U = I by omega]
  · rw [upd_ne c, hG k hk]; unfold lay
    by_cases d : U ≤ k ∧ k < U + I
    · rw [if_pos d, if_pos (by omega)]
    · rw [if_neg d, if_neg (by omega)]
theorem back8 {x : Int32} (h : nar .byte x = x) : nar .byte ((chv x).toInt8.toInt32) = x := by
  have h0 : x.toInt8.toInt32.toInt = x.toInt := congrArg Int32.toInt (show x.toInt8.toInt32 = x from h)
  have h1 := c_mask x 255 8 (by decide) (by decide)
  have h2 := c_i2b (chv x)
  have h3 := c_i2b x
  have h4 := c_i2b ((chv x).toInt8.toInt32)
  have h5 : (chv x).toInt = (x &&& 255).toInt := rfl
  apply Int32.toInt_inj.mp
  show ((chv x).toInt8.toInt32).toInt8.toInt32.toInt = x.toInt
  omega
theorem chv_le (x : Int32) : 0 ≤ (chv x).toInt ∧ (chv x).toInt ≤ 255 := by
  have h1 := c_mask x 255 8 (by decide) (by decide)
  have h5 : (chv x).toInt = (x &&& 255).toInt := rfl
  omega
theorem mul4 {f : Int32} {F : Nat} (h : f.toInt = (F : Int)) (hF : F < 1000) : (f * 4).toInt = ((4 * F : Nat) : Int) := by
  have h1 := c_imul f 4
  have h2 := rng32 (f * 4)
  rw [h, show (4 : Int32).toInt = 4 from rfl] at h1
  omega
theorem mul4_32 {f : Int32} {F : Nat} (h : f.toInt = (F : Int)) (hF : F < 8) : ¬ f * 4 = 32 := fun q => by
  have h1 := mul4 h (by omega)
  rw [q, show (32 : Int32).toInt = 32 from rfl] at h1
  omega
def sz (e : Nat → Int32) : Nat → Int32
  | 0 => 17
  | k + 1 => if e (4 * k) = -1 then sz e k else sz e k + (e (4 * k + 1) - e (4 * k) + 2 + e (4 * k + 3) - e (4 * k + 2) + 2)
theorem sz_y {e : Nat → Int32} {k : Nat} (h : e (4 * k) = -1) : sz e k = sz e (k + 1) := by rw [sz, if_pos h]
theorem sz_n {e : Nat → Int32} {k : Nat} (h : ¬ e (4 * k) = -1) : sz e k + (e (4 * k + 1) - e (4 * k) + 2 + e (4 * k + 3) - e (4 * k + 2) + 2) = sz e (k + 1) := by rw [sz, if_neg h]
def Lt' (c : Int32) : Prop := (¬ c < 65 ∧ ¬ 90 < c) ∨ (¬ c < 97 ∧ ¬ 122 < c)
def SA (x c : Int32) : Prop := x = c ∨ (Lt' c ∧ x ||| 32 = c ||| 32)
def NM (g : Nat → Int32) (A B n : Nat) (q : Nat → Int32) : Prop := B - A = n ∧ ∀ i, i < n → SA (g (A + i)) (chv (q i))
theorem d_prog_7_method_1_0 : decode prog_7_method_1_code 0 = .ok (.aload_n 0, 1) := by decide +kernel
theorem d_prog_7_method_1_1 : decode prog_7_method_1_code 1 = .ok (.invokespecial 5, 3) := by decide +kernel
theorem wd50 {Z : State} {a0 : Array Value} (hw : ∀ d ∈ tables_1, d.before a0 Z = true) : (Jvm.Cond.methodLink "com/example/vipool/vipool/http/HttpHead" (5 : Nat) ({ cls := "java/lang/Object", name := "<init>", desc := "()V" } : Jvm.MethodName)).before a0 Z = true := hw _ (List.mem_of_getElem? (i := 50) rfl)
theorem d_prog_7_method_1_4 : decode prog_7_method_1_code 4 = .ok (.aload_n 0, 1) := by decide +kernel
theorem d_prog_7_method_1_5 : decode prog_7_method_1_code 5 = .ok (.sipush 512, 3) := by decide +kernel
theorem d_prog_7_method_1_8 : decode prog_7_method_1_code 8 = .ok (.newarray .byte, 2) := by decide +kernel
theorem d_prog_7_method_1_10 : decode prog_7_method_1_code 10 = .ok (.putfield 11, 3) := by decide +kernel
theorem wd51 {Z : State} {a0 : Array Value} (hw : ∀ d ∈ tables_1, d.before a0 Z = true) : (Jvm.Cond.fieldLink "com/example/vipool/vipool/http/HttpHead" (11 : Nat) "com/example/vipool/vipool/http/HttpHead" "raw" "[B").before a0 Z = true := hw _ (List.mem_of_getElem? (i := 51) rfl)
theorem wd52 {Z : State} {a0 : Array Value} (hw : ∀ d ∈ tables_1, d.before a0 Z = true) : (Jvm.Cond.lays "com/example/vipool/vipool/http/HttpHead" "com/example/vipool/vipool/http/HttpHead" "raw" "[B").before a0 Z = true := hw _ (List.mem_of_getElem? (i := 52) rfl)
theorem wd45 {Z : State} {a0 : Array Value} (hw : ∀ d ∈ tables_1, d.before a0 Z = true) : (Jvm.Cond.instantiable "com/example/vipool/vipool/http/HttpHead" (18 : Nat)).before a0 Z = true := hw _ (List.mem_of_getElem? (i := 45) rfl)
theorem wd55 {Z : State} {a0 : Array Value} (hw : ∀ d ∈ tables_1, d.before a0 Z = true) : (Jvm.Cond.lays "com/example/vipool/vipool/http/HttpHead" "com/example/vipool/vipool/http/HttpHead" "spans" "[I").before a0 Z = true := hw _ (List.mem_of_getElem? (i := 55) rfl)
theorem wd62 {Z : State} {a0 : Array Value} (hw : ∀ d ∈ tables_1, d.before a0 Z = true) : (Jvm.Cond.lays "com/example/vipool/vipool/http/HttpHead" "com/example/vipool/vipool/http/HttpHead" "used" "I").before a0 Z = true := hw _ (List.mem_of_getElem? (i := 62) rfl)
theorem wd107 {Z : State} {a0 : Array Value} (hw : ∀ d ∈ tables_1, d.before a0 Z = true) : (Jvm.Cond.lays "com/example/vipool/vipool/http/HttpHead" "com/example/vipool/vipool/http/HttpHead" "fields" "I").before a0 Z = true := hw _ (List.mem_of_getElem? (i := 107) rfl)
theorem wd123 {Z : State} {a0 : Array Value} (hw : ∀ d ∈ tables_1, d.before a0 Z = true) : (Jvm.Cond.lays "com/example/vipool/vipool/http/HttpHead" "com/example/vipool/vipool/http/HttpHead" "secondEnd" "I").before a0 Z = true := hw _ (List.mem_of_getElem? (i := 123) rfl)
theorem wd125 {Z : State} {a0 : Array Value} (hw : ∀ d ∈ tables_1, d.before a0 Z = true) : (Jvm.Cond.lays "com/example/vipool/vipool/http/HttpHead" "com/example/vipool/vipool/http/HttpHead" "secondStart" "I").before a0 Z = true := hw _ (List.mem_of_getElem? (i := 125) rfl)
theorem wd127 {Z : State} {a0 : Array Value} (hw : ∀ d ∈ tables_1, d.before a0 Z = true) : (Jvm.Cond.lays "com/example/vipool/vipool/http/HttpHead" "com/example/vipool/vipool/http/HttpHead" "request" "Z").before a0 Z = true := hw _ (List.mem_of_getElem? (i := 127) rfl)
theorem wd114 {Z : State} {a0 : Array Value} (hw : ∀ d ∈ tables_1, d.before a0 Z = true) : (Jvm.Cond.lays "com/example/vipool/vipool/http/HttpHead" "com/example/vipool/vipool/http/HttpHead" "method" "Ljava/lang/String;").before a0 Z = true := hw _ (List.mem_of_getElem? (i := 114) rfl)
theorem wd116 {Z : State} {a0 : Array Value} (hw : ∀ d ∈ tables_1, d.before a0 Z = true) : (Jvm.Cond.lays "com/example/vipool/vipool/http/HttpHead" "com/example/vipool/vipool/http/HttpHead" "status" "I").before a0 Z = true := hw _ (List.mem_of_getElem? (i := 116) rfl)
theorem d_prog_7_method_1_13 : decode prog_7_method_1_code 13 = .ok (.aload_n 0, 1) := by decide +kernel
theorem d_prog_7_method_1_14 : decode prog_7_method_1_code 14 = .ok (.bipush 32, 2) := by decide +kernel
theorem d_prog_7_method_1_16 : decode prog_7_method_1_code 16 = .ok (.newarray .int, 2) := by decide +kernel
theorem wd53 {Z : State} {a0 : Array Value} (hw : ∀ d ∈ tables_1, d.before a0 Z = true) : (Jvm.Cond.arrayClass Jvm.ClassFile.FieldType.int).before a0 Z = true := hw _ (List.mem_of_getElem? (i := 53) rfl)
theorem d_prog_7_method_1_18 : decode prog_7_method_1_code 18 = .ok (.putfield 15, 3) := by decide +kernel
theorem wd54 {Z : State} {a0 : Array Value} (hw : ∀ d ∈ tables_1, d.before a0 Z = true) : (Jvm.Cond.fieldLink "com/example/vipool/vipool/http/HttpHead" (15 : Nat) "com/example/vipool/vipool/http/HttpHead" "spans" "[I").before a0 Z = true := hw _ (List.mem_of_getElem? (i := 54) rfl)
theorem d_prog_7_method_1_21 : decode prog_7_method_1_code 21 = .ok (.return_, 1) := by decide +kernel
theorem pn_4 : plainName "com/example/vipool/vipool/http/HttpHead" = true := by first | (simp [plainName, overriddenIn]; done) | decide +kernel
set_option maxRecDepth 65536 in
set_option maxHeartbeats 40000000 in
theorem m_ini {Z : State} {a0 : Array Value} (hw : ∀ d ∈ tables_1, d.before a0 Z = true) (a : Addr) (h0 : Heap) (n0 : Nat) (Z0 : n0 ≤ h0.size) (O0 : Old Z n0 h0) (g_a : n0 ≤ a) (E0 : Exa Z h0 a "com/example/vipool/vipool/http/HttpHead") (F_raw : Fld Z h0 a "com/example/vipool/vipool/http/HttpHead" "raw" "[B" .null) (F_spans : Fld Z h0 a "com/example/vipool/vipool/http/HttpHead" "spans" "[I" .null) (F_used : Fld Z h0 a "com/example/vipool/vipool/http/HttpHead" "used" "I" (.int 0)) (F_fields : Fld Z h0 a "com/example/vipool/vipool/http/HttpHead" "fields" "I" (.int 0)) (F_secondEnd : Fld Z h0 a "com/example/vipool/vipool/http/HttpHead" "secondEnd" "I" (.int 0)) (F_secondStart : Fld Z h0 a "com/example/vipool/vipool/http/HttpHead" "secondStart" "I" (.int 0)) (F_request : Fld Z h0 a "com/example/vipool/vipool/http/HttpHead" "request" "Z" (.int 0)) (F_method : Fld Z h0 a "com/example/vipool/vipool/http/HttpHead" "method" "Ljava/lang/String;" .null) (F_status : Fld Z h0 a "com/example/vipool/vipool/http/HttpHead" "status" "I" (.int 0)) : ∀ l, Does l Z (⟨"com/example/vipool/vipool/http/HttpHead", "<init>", "()V"⟩ : MethodName) prog_7_method_1_code 1 none ({ frames := 1, cells := 2, slots := 544, locals := 12 } : Room) n0 #[(.ref a)] h0 (fun v h => v = none ∧ ∃ rw sp : Addr, Keep h0 h [a] ∧ h0.size ≤ rw ∧ h0.size ≤ sp ∧ Hh Z n0 h 512 a rw sp 0 0 (fun _ => 0) (fun _ => 0)) := by
  intro l
  refine Does.of_wp (plainFor_of_name pn_4) (Ls := #[.val (.ref a)]) (fun m => by first | (simp [entryFrame, mkF, argsToLocals, Value.category]; done) | rfl | (rcases ref_cases hfv with rfl | ⟨_, rfl⟩ <;> rfl)) ?_
  intro C
  have K0 := Keep.refl h0 [a]
  refine WP.aloadN (pc' := 1) d_prog_7_method_1_0 rfl rfl rfl ?_
  refine WP.initO (wd := 0) (pc' := 4) d_prog_7_method_1_1 rfl (wd50 hw) (wd20 hw) (wd21 hw) rfl (by decide) (Nat.le_of_eq rfl) (by decide) ?_
  refine WP.aloadN (pc' := 5) d_prog_7_method_1_4 rfl rfl rfl ?_
  refine WP.sipush (pc' := 8) d_prog_7_method_1_5 rfl (z := 512) rfl ?_
  refine WP.newPI (ty := .byte) (n := 512) (cap := 512) (cl' := 1) (sl' := 512) (pc' := 10) d_prog_7_method_1_8 rfl rfl rfl (wd14 hw) (by decide) (by decide) (by decide) rfl rfl (by decide) (by decide) ?_
  intro h1 b1 g1 E1 A1
  have ge2 : n0 ≤ b1 := by rw [g1]; exact Z0
  have sz3 : h0.size ≤ b1 := by rw [g1]; exact K0.1
  have ne4 : a ≠ b1 := by rw [g1]; exact Nat.ne_of_lt E0.lt
  have E5 := E0.ext E1
  have F6 := F_raw.ext E1
  have F7 := F_spans.ext E1
  have F8 := F_used.ext E1
  have F9 := F_fields.ext E1
  have F10 := F_secondEnd.ext E1
  have F11 := F_secondStart.ext E1
  have F12 := F_request.ext E1
  have F13 := F_method.ext E1
  have F14 := F_status.ext E1
  have O15 := O0.ext E1
  have K16 := K0.ext E1
  have Z17 : n0 ≤ h1.size := Nat.le_trans Z0 E1.1
  refine WP.putF (pc' := 13) d_prog_7_method_1_10 rfl (host := "") (Or.inl (wd51 hw)) Via.refl F6 E5 (Or.inl (wd52 hw)) (wd45 hw) (ty := (.array .byte)) (by decide) rfl rfl g_a ?_
  intro h18 W19
  have Kw20 := Keep.of_wr W19
  have E21 := E5.keep Kw20
  have V22 := A1.keep Kw20 (ninS (Ne.symm ne4) nin0)
  have O23 := O15.keep Kw20 (allS g_a all0)
  have K24 := K16.trans Kw20 (allS (Or.inl (by simp)) all0)
  have Z25 : n0 ≤ h18.size := Nat.le_trans Z17 Kw20.1
  have F26 := F6.same W19
  have F27 := F7.other W19 (Or.inr (slot_ne (Or.inl (wd55 hw)) (Or.inl (wd52 hw)) (by decide) (t := (.array .int)) (t' := (.array .byte)) (by decide) (by decide)))
  have F28 := F8.other W19 (Or.inr (slot_ne (Or.inl (wd62 hw)) (Or.inl (wd52 hw)) (by decide) (t := .int) (t' := (.array .byte)) (by decide) (by decide)))
  have F29 := F9.other W19 (Or.inr (slot_ne (Or.inl (wd107 hw)) (Or.inl (wd52 hw)) (by decide) (t := .int) (t' := (.array .byte)) (by decide) (by decide)))
  have F30 := F10.other W19 (Or.inr (slot_ne (Or.inl (wd123 hw)) (Or.inl (wd52 hw)) (by decide) (t := .int) (t' := (.array .byte)) (by decide) (by decide)))
  have F31 := F11.other W19 (Or.inr (slot_ne (Or.inl (wd125 hw)) (Or.inl (wd52 hw)) (by decide) (t := .int) (t' := (.array .byte)) (by decide) (by decide)))
  have F32 := F12.other W19 (Or.inr (slot_ne (Or.inl (wd127 hw)) (Or.inl (wd52 hw)) (by decide) (t := .boolean) (t' := (.array .byte)) (by decide) (by decide)))
  have F33 := F13.other W19 (Or.inr (slot_ne (Or.inl (wd114 hw)) (Or.inl (wd52 hw)) (by decide) (t := (.object "java/lang/String")) (t' := (.array .byte)) (by decide) (by decide)))
  have F34 := F14.other W19 (Or.inr (slot_ne (Or.inl (wd116 hw)) (Or.inl (wd52 hw)) (by decide) (t := .int) (t' := (.array .byte)) (by decide) (by decide)))
  refine WP.aloadN (pc' := 14) d_prog_7_method_1_13 rfl rfl rfl ?_
  refine WP.bipush (pc' := 16) d_prog_7_method_1_14 rfl (z := 32) rfl ?_
  refine WP.newPI (ty := .int) (n := 32) (cap := 32) (cl' := 2) (sl' := 544) (pc' := 18) d_prog_7_method_1_16 rfl rfl rfl (wd53 hw) (by decide) (by decide) (by decide) rfl rfl (by decide) (by decide) ?_
  intro h35 b35 g35 E35 A35
  have ge36 : n0 ≤ b35 := by rw [g35]; exact Z25
  have sz37 : h0.size ≤ b35 := by rw [g35]; exact K24.1
  have ne38 : a ≠ b35 := by rw [g35]; exact Nat.ne_of_lt E21.lt
  have ne39 : b1 ≠ b35 := by rw [g35]; exact Nat.ne_of_lt V22.lt
  have E40 := E21.ext E35
  have V41 := V22.ext E35
  have F42 := F26.ext E35
  have F43 := F27.ext E35
  have F44 := F28.ext E35
  have F45 := F29.ext E35
  have F46 := F30.ext E35
  have F47 := F31.ext E35
  have F48 := F32.ext E35
  have F49 := F33.ext E35
  have F50 := F34.ext E35
  have O51 := O23.ext E35
  have K52 := K24.ext E35
  have Z53 : n0 ≤ h35.size := Nat.le_trans Z25 E35.1
  refine WP.putF (pc' := 21) d_prog_7_method_1_18 rfl (host := "") (Or.inl (wd54 hw)) Via.refl F43 E40 (Or.inl (wd55 hw)) (wd45 hw) (ty := (.array .int)) (by decide) rfl rfl g_a ?_
  intro h54 W55
  have Kw56 := Keep.of_wr W55
  have E57 := E40.keep Kw56
  have V58 := V41.keep Kw56 (ninS (Ne.symm ne4) nin0)
  have V59 := A35.keep Kw56 (ninS (Ne.symm ne38) nin0)
  have O60 := O51.keep Kw56 (allS g_a all0)
  have K61 := K52.trans Kw56 (allS (Or.inl (by simp)) all0)
  have Z62 : n0 ≤ h54.size := Nat.le_trans Z53 Kw56.1
  have F63 := F42.other W55 (Or.inr (slot_ne (Or.inl (wd52 hw)) (Or.inl (wd55 hw)) (by decide) (t := (.array .byte)) (t' := (.array .int)) (by decide) (by decide)))
  have F64 := F43.same W55
  have F65 := F44.other W55 (Or.inr (slot_ne (Or.inl (wd62 hw)) (Or.inl (wd55 hw)) (by decide) (t := .int) (t' := (.array .int)) (by decide) (by decide)))
  have F66 := F45.other W55 (Or.inr (slot_ne (Or.inl (wd107 hw)) (Or.inl (wd55 hw)) (by decide) (t := .int) (t' := (.array .int)) (by decide) (by decide)))
  have F67 := F46.other W55 (Or.inr (slot_ne (Or.inl (wd123 hw)) (Or.inl (wd55 hw)) (by decide) (t := .int) (t' := (.array .int)) (by decide) (by decide)))
  have F68 := F47.other W55 (Or.inr (slot_ne (Or.inl (wd125 hw)) (Or.inl (wd55 hw)) (by decide) (t := .int) (t' := (.array .int)) (by decide) (by decide)))
  have F69 := F48.other W55 (Or.inr (slot_ne (Or.inl (wd127 hw)) (Or.inl (wd55 hw)) (by decide) (t := .boolean) (t' := (.array .int)) (by decide) (by decide)))
  have F70 := F49.other W55 (Or.inr (slot_ne (Or.inl (wd114 hw)) (Or.inl (wd55 hw)) (by decide) (t := (.object "java/lang/String")) (t' := (.array .int)) (by decide) (by decide)))
  have F71 := F50.other W55 (Or.inr (slot_ne (Or.inl (wd116 hw)) (Or.inl (wd55 hw)) (by decide) (t := .int) (t' := (.array .int)) (by decide) (by decide)))
  exact WP.vret d_prog_7_method_1_21 rfl (by decide) (by decide) ⟨rfl, _, _, K61, sz3, sz37, ⟨⟨g_a, ge2, ge36, ne39, (Ne.symm ne4), (Ne.symm ne38)⟩, E57, ⟨F63, F64, F65, F66, F67, F68, F69, F70, F71⟩, V58, V59⟩⟩
theorem d_prog_7_method_26_0 : decode prog_7_method_26_code 0 = .ok (.aload_n 0, 1) := by decide +kernel
theorem d_prog_7_method_26_1 : decode prog_7_method_26_code 1 = .ok (.getfield 132, 3) := by decide +kernel
theorem wd122 {Z : State} {a0 : Array Value} (hw : ∀ d ∈ tables_1, d.before a0 Z = true) : (Jvm.Cond.fieldLink "com/example/vipool/vipool/http/HttpHead" (132 : Nat) "com/example/vipool/vipool/http/HttpHead" "secondEnd" "I").before a0 Z = true := hw _ (List.mem_of_getElem? (i := 122) rfl)
theorem d_prog_7_method_26_4 : decode prog_7_method_26_code 4 = .ok (.aload_n 0, 1) := by decide +kernel
theorem d_prog_7_method_26_5 : decode prog_7_method_26_code 5 = .ok (.getfield 238, 3) := by decide +kernel
theorem wd124 {Z : State} {a0 : Array Value} (hw : ∀ d ∈ tables_1, d.before a0 Z = true) : (Jvm.Cond.fieldLink "com/example/vipool/vipool/http/HttpHead" (238 : Nat) "com/example/vipool/vipool/http/HttpHead" "secondStart" "I").before a0 Z = true := hw _ (List.mem_of_getElem? (i := 124) rfl)
theorem d_prog_7_method_26_8 : decode prog_7_method_26_code 8 = .ok (.isub, 1) := by decide +kernel
theorem d_prog_7_method_26_9 : decode prog_7_method_26_code 9 = .ok (.bipush 8, 2) := by decide +kernel
theorem d_prog_7_method_26_11 : decode prog_7_method_26_code 11 = .ok (.iadd, 1) := by decide +kernel
theorem d_prog_7_method_26_12 : decode prog_7_method_26_code 12 = .ok (.bipush 6, 2) := by decide +kernel
theorem d_prog_7_method_26_14 : decode prog_7_method_26_code 14 = .ok (.iadd, 1) := by decide +kernel
theorem d_prog_7_method_26_15 : decode prog_7_method_26_code 15 = .ok (.istore_n 1, 1) := by decide +kernel
theorem d_prog_7_method_26_16 : decode prog_7_method_26_code 16 = .ok (.iload_n 1, 1) := by decide +kernel
theorem d_prog_7_method_26_17 : decode prog_7_method_26_code 17 = .ok (.aload_n 0, 1) := by decide +kernel
theorem d_prog_7_method_26_18 : decode prog_7_method_26_code 18 = .ok (.getfield 241, 3) := by decide +kernel
theorem wd126 {Z : State} {a0 : Array Value} (hw : ∀ d ∈ tables_1, d.before a0 Z = true) : (Jvm.Cond.fieldLink "com/example/vipool/vipool/http/HttpHead" (241 : Nat) "com/example/vipool/vipool/http/HttpHead" "request" "Z").before a0 Z = true := hw _ (List.mem_of_getElem? (i := 126) rfl)
theorem d_prog_7_method_26_21 : decode prog_7_method_26_code 21 = .ok (.ifCond .eq 10, 3) := by decide +kernel
theorem d_prog_7_method_26_31 : decode prog_7_method_26_code 31 = .ok (.iconst 3, 1) := by decide +kernel
theorem d_prog_7_method_26_32 : decode prog_7_method_26_code 32 = .ok (.iadd, 1) := by decide +kernel
theorem d_prog_7_method_26_33 : decode prog_7_method_26_code 33 = .ok (.istore_n 1, 1) := by decide +kernel
theorem d_prog_7_method_26_34 : decode prog_7_method_26_code 34 = .ok (.iconst 0, 1) := by decide +kernel
theorem d_prog_7_method_26_35 : decode prog_7_method_26_code 35 = .ok (.istore_n 2, 1) := by decide +kernel
theorem d_prog_7_method_26_36 : decode prog_7_method_26_code 36 = .ok (.iload_n 2, 1) := by decide +kernel
theorem d_prog_7_method_26_37 : decode prog_7_method_26_code 37 = .ok (.aload_n 0, 1) := by decide +kernel
theorem d_prog_7_method_26_38 : decode prog_7_method_26_code 38 = .ok (.getfield 117, 3) := by decide +kernel
theorem wd106 {Z : State} {a0 : Array Value} (hw : ∀ d ∈ tables_1, d.before a0 Z = true) : (Jvm.Cond.fieldLink "com/example/vipool/vipool/http/HttpHead" (117 : Nat) "com/example/vipool/vipool/http/HttpHead" "fields" "I").before a0 Z = true := hw _ (List.mem_of_getElem? (i := 106) rfl)
theorem d_prog_7_method_26_41 : decode prog_7_method_26_code 41 = .ok (.if_icmp .ge 63, 3) := by decide +kernel
theorem d_prog_7_method_26_104 : decode prog_7_method_26_code 104 = .ok (.iload_n 1, 1) := by decide +kernel
theorem d_prog_7_method_26_105 : decode prog_7_method_26_code 105 = .ok (.ireturn, 1) := by decide +kernel
theorem d_prog_7_method_26_44 : decode prog_7_method_26_code 44 = .ok (.iload_n 2, 1) := by decide +kernel
theorem d_prog_7_method_26_45 : decode prog_7_method_26_code 45 = .ok (.iconst 4, 1) := by decide +kernel
theorem d_prog_7_method_26_46 : decode prog_7_method_26_code 46 = .ok (.imul, 1) := by decide +kernel
theorem d_prog_7_method_26_47 : decode prog_7_method_26_code 47 = .ok (.istore_n 3, 1) := by decide +kernel
theorem d_prog_7_method_26_48 : decode prog_7_method_26_code 48 = .ok (.aload_n 0, 1) := by decide +kernel
theorem d_prog_7_method_26_49 : decode prog_7_method_26_code 49 = .ok (.getfield 15, 3) := by decide +kernel
theorem d_prog_7_method_26_52 : decode prog_7_method_26_code 52 = .ok (.iload_n 3, 1) := by decide +kernel
theorem d_prog_7_method_26_53 : decode prog_7_method_26_code 53 = .ok (.iaload, 1) := by decide +kernel
theorem d_prog_7_method_26_54 : decode prog_7_method_26_code 54 = .ok (.iconst (-1), 1) := by decide +kernel
theorem d_prog_7_method_26_55 : decode prog_7_method_26_code 55 = .ok (.if_icmp .eq 43, 3) := by decide +kernel
theorem d_prog_7_method_26_98 : decode prog_7_method_26_code 98 = .ok (.iinc 2 1, 3) := by decide +kernel
theorem d_prog_7_method_26_101 : decode prog_7_method_26_code 101 = .ok (.goto (-65), 3) := by decide +kernel
theorem d_prog_7_method_26_58 : decode prog_7_method_26_code 58 = .ok (.iload_n 1, 1) := by decide +kernel
theorem d_prog_7_method_26_59 : decode prog_7_method_26_code 59 = .ok (.aload_n 0, 1) := by decide +kernel
theorem d_prog_7_method_26_60 : decode prog_7_method_26_code 60 = .ok (.getfield 15, 3) := by decide +kernel
theorem d_prog_7_method_26_63 : decode prog_7_method_26_code 63 = .ok (.iload_n 3, 1) := by decide +kernel
theorem d_prog_7_method_26_64 : decode prog_7_method_26_code 64 = .ok (.iconst 1, 1) := by decide +kernel
theorem d_prog_7_method_26_65 : decode prog_7_method_26_code 65 = .ok (.iadd, 1) := by decide +kernel
theorem d_prog_7_method_26_66 : decode prog_7_method_26_code 66 = .ok (.iaload, 1) := by decide +kernel
theorem d_prog_7_method_26_67 : decode prog_7_method_26_code 67 = .ok (.aload_n 0, 1) := by decide +kernel
theorem d_prog_7_method_26_68 : decode prog_7_method_26_code 68 = .ok (.getfield 15, 3) := by decide +kernel
theorem d_prog_7_method_26_71 : decode prog_7_method_26_code 71 = .ok (.iload_n 3, 1) := by decide +kernel
theorem d_prog_7_method_26_72 : decode prog_7_method_26_code 72 = .ok (.iaload, 1) := by decide +kernel
theorem d_prog_7_method_26_73 : decode prog_7_method_26_code 73 = .ok (.isub, 1) := by decide +kernel
theorem d_prog_7_method_26_74 : decode prog_7_method_26_code 74 = .ok (.iconst 2, 1) := by decide +kernel
theorem d_prog_7_method_26_75 : decode prog_7_method_26_code 75 = .ok (.iadd, 1) := by decide +kernel
theorem d_prog_7_method_26_76 : decode prog_7_method_26_code 76 = .ok (.aload_n 0, 1) := by decide +kernel
theorem d_prog_7_method_26_77 : decode prog_7_method_26_code 77 = .ok (.getfield 15, 3) := by decide +kernel
theorem d_prog_7_method_26_80 : decode prog_7_method_26_code 80 = .ok (.iload_n 3, 1) := by decide +kernel
theorem d_prog_7_method_26_81 : decode prog_7_method_26_code 81 = .ok (.iconst 3, 1) := by decide +kernel
theorem d_prog_7_method_26_82 : decode prog_7_method_26_code 82 = .ok (.iadd, 1) := by decide +kernel
theorem d_prog_7_method_26_83 : decode prog_7_method_26_code 83 = .ok (.iaload, 1) := by decide +kernel
theorem d_prog_7_method_26_84 : decode prog_7_method_26_code 84 = .ok (.iadd, 1) := by decide +kernel
theorem d_prog_7_method_26_85 : decode prog_7_method_26_code 85 = .ok (.aload_n 0, 1) := by decide +kernel
theorem d_prog_7_method_26_86 : decode prog_7_method_26_code 86 = .ok (.getfield 15, 3) := by decide +kernel
theorem d_prog_7_method_26_89 : decode prog_7_method_26_code 89 = .ok (.iload_n 3, 1) := by decide +kernel
theorem d_prog_7_method_26_90 : decode prog_7_method_26_code 90 = .ok (.iconst 2, 1) := by decide +kernel
theorem d_prog_7_method_26_91 : decode prog_7_method_26_code 91 = .ok (.iadd, 1) := by decide +kernel
theorem d_prog_7_method_26_92 : decode prog_7_method_26_code 92 = .ok (.iaload, 1) := by decide +kernel
theorem d_prog_7_method_26_93 : decode prog_7_method_26_code 93 = .ok (.isub, 1) := by decide +kernel
theorem d_prog_7_method_26_94 : decode prog_7_method_26_code 94 = .ok (.iconst 2, 1) := by decide +kernel
theorem d_prog_7_method_26_95 : decode prog_7_method_26_code 95 = .ok (.iadd, 1) := by decide +kernel
theorem d_prog_7_method_26_96 : decode prog_7_method_26_code 96 = .ok (.iadd, 1) := by decide +kernel
theorem d_prog_7_method_26_97 : decode prog_7_method_26_code 97 = .ok (.istore_n 1, 1) := by decide +kernel
set_option maxRecDepth 65536 in
set_option maxHeartbeats 40000000 in
theorem m_size {Z : State} {a0 : Array Value} (hw : ∀ d ∈ tables_1, d.before a0 Z = true) (a : Addr) (h0 : Heap) (n0 : Nat) (nr : Nat) (rw sp : Addr) (us fd : Int32) (g e : Nat → Int32) (R0 : Hh Z n0 h0 nr a rw sp us fd g e) (F : Nat) (hF : fd.toInt = (F : Int)) (hF8 : F ≤ 7) : ∀ l, Does l Z (⟨"com/example/vipool/vipool/http/HttpHead", "size", "()I"⟩ : MethodName) prog_7_method_26_code 4 (some .int) ({ frames := 0, cells := 0, slots := 0, locals := 0 } : Room) n0 #[(.ref a)] h0 (fun v h => v = some (.int (sz e F)) ∧ h = h0) := by
  intro l
  refine Does.of_wp (plainFor_of_name pn_4) (Ls := #[.val (.ref a), .unset, .unset, .unset]) (fun m => by first | (simp [entryFrame, mkF, argsToLocals, Value.category]; done) | rfl | (rcases ref_cases hfv with rfl | ⟨_, rfl⟩ <;> rfl)) ?_
  intro C
  obtain ⟨⟨ga1, gr1, gs1, nrs1, nra1, nsa1⟩, X1, ⟨Fraw_1, Fspans_1, Fused_1, Ffields_1, FsecondEnd_1, FsecondStart_1, Frequest_1, Fmethod_1, Fstatus_1⟩, AR1, AS1⟩ := id R0
  refine WP.aloadN (pc' := 1) d_prog_7_method_26_0 rfl rfl rfl ?_
  refine WP.getF (pc' := 4) d_prog_7_method_26_1 rfl (host := "") (Or.inl (wd122 hw)) Via.refl FsecondEnd_1 ?_
  refine WP.aloadN (pc' := 5) d_prog_7_method_26_4 rfl rfl rfl ?_
  refine WP.getF (pc' := 8) d_prog_7_method_26_5 rfl (host := "") (Or.inl (wd124 hw)) Via.refl FsecondStart_1 ?_
  refine WP.isub (pc' := 9) d_prog_7_method_26_8 rfl ?_
  refine WP.bipush (pc' := 11) d_prog_7_method_26_9 rfl (z := 8) rfl ?_
  refine WP.iadd (pc' := 12) d_prog_7_method_26_11 rfl ?_
  refine WP.bipush (pc' := 14) d_prog_7_method_26_12 rfl (z := 6) rfl ?_
  refine WP.iadd (pc' := 15) d_prog_7_method_26_14 rfl ?_
  refine WP.istoreN (pc' := 16) d_prog_7_method_26_15 rfl (Ls' := #[.val (.ref a), .val (.int ((((0 : Int32) - (0 : Int32)) + (8 : Int32)) + (6 : Int32))), .unset, .unset]) rfl ?_
  refine WP.iloadN (pc' := 17) d_prog_7_method_26_16 rfl rfl ?_
  refine WP.aloadN (pc' := 18) d_prog_7_method_26_17 rfl rfl rfl ?_
  refine WP.getF (pc' := 21) d_prog_7_method_26_18 rfl (host := "") (Or.inl (wd126 hw)) Via.refl Frequest_1 ?_
  have hc21 : (0 : Int32) = (0 : Int32) := by decide
  refine WP.ifc_eq (pc1 := 31) (pc2 := 24) d_prog_7_method_26_21 (by decide) (by decide) rfl (fun _ => ?_) (fun k => absurd hc21 k)
  refine WP.iconst (pc' := 32) d_prog_7_method_26_31 rfl (z := 3) rfl ?_
  refine WP.iadd (pc' := 33) d_prog_7_method_26_32 rfl ?_
  refine WP.istoreN (pc' := 34) d_prog_7_method_26_33 rfl (Ls' := #[.val (.ref a), .val (.int (((((0 : Int32) - (0 : Int32)) + (8 : Int32)) + (6 : Int32)) + (3 : Int32))), .unset, .unset]) rfl ?_
  refine WP.iconst (pc' := 35) d_prog_7_method_26_34 rfl (z := 0) rfl ?_
  refine WP.istoreN (pc' := 36) d_prog_7_method_26_35 rfl (Ls' := #[.val (.ref a), .val (.int (((((0 : Int32) - (0 : Int32)) + (8 : Int32)) + (6 : Int32)) + (3 : Int32))), .val (.int (0 : Int32)), .unset]) rfl ?_
  have loop : ∀ (k I : Nat) (i : Int32) (s3 : Slot), (s3 = .unset ∨ ∃ u, s3 = .val u ∧ u.category = 1) → i.toInt = (I : Int) → I ≤ F → F - I < k → WP C Z prog_7_method_26_code 4 "com/example/vipool/vipool/http/HttpHead" (some .int) "size" ({ frames := 0, cells := 0, slots := 0, locals := 0 } : Room) n0 (fun v h => v = some (.int (sz e F)) ∧ h = h0) 0 0 h0 36 #[.val (.ref a), .val (.int (sz e I)), .val (.int i), s3] [] := by
    intro k
    induction k with
    | zero => intro I i s3 h1 h2 h3; omega
    | succ k IH =>
      intro I i s3 hs3 hi hI hk
      refine WP.iloadN (pc' := 37) d_prog_7_method_26_36 rfl rfl ?_
      refine WP.aloadN (pc' := 38) d_prog_7_method_26_37 rfl rfl rfl ?_
      refine WP.getF (pc' := 41) d_prog_7_method_26_38 rfl (host := "") (Or.inl (wd106 hw)) Via.refl Ffields_1 ?_
      refine WP.icmp_ge (pc1 := 104) (pc2 := 44) d_prog_7_method_26_41 (by decide) (by decide) rfl ?_ ?_
      · intro hc41
        refine WP.iloadN (pc' := 105) d_prog_7_method_26_104 rfl rfl ?_
        refine WP.iret d_prog_7_method_26_105 rfl (by decide) (by decide) ⟨by rw [show F = I by rw [Int32.lt_iff_toInt_lt] at hc41; omega], rfl⟩
      · intro hc41
        have lt1 : I < F := by rw [Int32.lt_iff_toInt_lt] at hc41; omega
        have m4 := mul4 hi (by omega)
        refine WP.iloadN (pc' := 45) d_prog_7_method_26_44 rfl rfl ?_
        refine WP.iconst (pc' := 46) d_prog_7_method_26_45 rfl (z := 4) rfl ?_
        refine WP.imul (pc' := 47) d_prog_7_method_26_46 rfl ?_
        refine WP.istoreN (pc' := 48) d_prog_7_method_26_47 rfl (Ls' := #[.val (.ref a), .val (.int (sz e I)), .val (.int i), .val (.int (i * (4 : Int32)))]) (XS.store1 rfl hs3 rfl) ?_
        refine WP.aloadN (pc' := 49) d_prog_7_method_26_48 rfl rfl rfl ?_
        refine WP.getF (pc' := 52) d_prog_7_method_26_49 rfl (host := "") (Or.inl (wd54 hw)) Via.refl Fspans_1 ?_
        refine WP.iloadN (pc' := 53) d_prog_7_method_26_52 rfl rfl ?_
        refine WP.ialoadI (4 * I) (pc' := 54) d_prog_7_method_26_53 rfl AS1 m4 (by omega) rfl ?_
        refine WP.iconst (pc' := 55) d_prog_7_method_26_54 rfl (z := -1) rfl ?_
        refine WP.icmp_eq (pc1 := 98) (pc2 := 58) d_prog_7_method_26_55 (by decide) (by decide) rfl ?_ ?_
        · intro hc55
          refine WP.iinc (pc' := 101) d_prog_7_method_26_98 rfl rfl (z := (i + (1 : Int32))) rfl (Ls' := #[.val (.ref a), .val (.int (sz e I)), .val (.int (i + (1 : Int32))), .val (.int (i * (4 : Int32)))]) rfl ?_
          refine WP.goto (pc' := 36) d_prog_7_method_26_101 (by decide) (by decide) ?_
          rw [sz_y hc55]
          exact IH (I + 1) _ _ (Or.inr ⟨_, rfl, rfl⟩) (adds hi rfl (by omega)) (by omega) (by omega)
        · intro hc55
          refine WP.iloadN (pc' := 59) d_prog_7_method_26_58 rfl rfl ?_
          refine WP.aloadN (pc' := 60) d_prog_7_method_26_59 rfl rfl rfl ?_
          refine WP.getF (pc' := 63) d_prog_7_method_26_60 rfl (host := "") (Or.inl (wd54 hw)) Via.refl Fspans_1 ?_
          refine WP.iloadN (pc' := 64) d_prog_7_method_26_63 rfl rfl ?_
          refine WP.iconst (pc' := 65) d_prog_7_method_26_64 rfl (z := 1) rfl ?_
          refine WP.iadd (pc' := 66) d_prog_7_method_26_65 rfl ?_
          refine WP.ialoadI (4 * I + 1) (pc' := 67) d_prog_7_method_26_66 rfl AS1 (adds m4 rfl (by omega)) (by omega) rfl ?_
          refine WP.aloadN (pc' := 68) d_prog_7_method_26_67 rfl rfl rfl ?_
          refine WP.getF (pc' := 71) d_prog_7_method_26_68 rfl (host := "") (Or.inl (wd54 hw)) Via.refl Fspans_1 ?_
          refine WP.iloadN (pc' := 72) d_prog_7_method_26_71 rfl rfl ?_
          refine WP.ialoadI (4 * I) (pc' := 73) d_prog_7_method_26_72 rfl AS1 m4 (by omega) rfl ?_
          refine WP.isub (pc' := 74) d_prog_7_method_26_73 rfl ?_
          refine WP.iconst (pc' := 75) d_prog_7_method_26_74 rfl (z := 2) rfl ?_
          refine WP.iadd (pc' := 76) d_prog_7_method_26_75 rfl ?_
          refine WP.aloadN (pc' := 77) d_prog_7_method_26_76 rfl rfl rfl ?_
          refine WP.getF (pc' := 80) d_prog_7_method_26_77 rfl (host := "") (Or.inl (wd54 hw)) Via.refl Fspans_1 ?_
          refine WP.iloadN (pc' := 81) d_prog_7_method_26_80 rfl rfl ?_
          refine WP.iconst (pc' := 82) d_prog_7_method_26_81 rfl (z := 3) rfl ?_
          refine WP.iadd (pc' := 83) d_prog_7_method_26_82 rfl ?_
          refine WP.ialoadI (4 * I + 3) (pc' := 84) d_prog_7_method_26_83 rfl AS1 (adds m4 rfl (by omega)) (by omega) rfl ?_
          refine WP.iadd (pc' := 85) d_prog_7_method_26_84 rfl ?_
          refine WP.aloadN (pc' := 86) d_prog_7_method_26_85 rfl rfl rfl ?_
          refine WP.getF (pc' := 89) d_prog_7_method_26_86 rfl (host := "") (Or.inl (wd54 hw)) Via.refl Fspans_1 ?_
          refine WP.iloadN (pc' := 90) d_prog_7_method_26_89 rfl rfl ?_
          refine WP.iconst (pc' := 91) d_prog_7_method_26_90 rfl (z := 2) rfl ?_
          refine WP.iadd (pc' := 92) d_prog_7_method_26_91 rfl ?_
          refine WP.ialoadI (4 * I + 2) (pc' := 93) d_prog_7_method_26_92 rfl AS1 (adds m4 rfl (by omega)) (by omega) rfl ?_
          refine WP.isub (pc' := 94) d_prog_7_method_26_93 rfl ?_
          refine WP.iconst (pc' := 95) d_prog_7_method_26_94 rfl (z := 2) rfl ?_
          refine WP.iadd (pc' := 96) d_prog_7_method_26_95 rfl ?_
          refine WP.iadd (pc' := 97) d_prog_7_method_26_96 rfl ?_
          refine WP.istoreN (pc' := 98) d_prog_7_method_26_97 rfl (Ls' := #[.val (.ref a), .val (.int ((sz e I) + ((((((e (4 * I + 1)) - (e (4 * I))) + (2 : Int32)) + (e (4 * I + 3))) - (e (4 * I + 2))) + (2 : Int32)))), .val (.int i), .val (.int (i * (4 : Int32)))]) rfl ?_
          refine WP.iinc (pc' := 101) d_prog_7_method_26_98 rfl rfl (z := (i + (1 : Int32))) rfl (Ls' := #[.val (.ref a), .val (.int ((sz e I) + ((((((e (4 * I + 1)) - (e (4 * I))) + (2 : Int32)) + (e (4 * I + 3))) - (e (4 * I + 2))) + (2 : Int32)))), .val (.int (i + (1 : Int32))), .val (.int (i * (4 : Int32)))]) rfl ?_
          refine WP.goto (pc' := 36) d_prog_7_method_26_101 (by decide) (by decide) ?_
          rw [sz_n hc55]
          exact IH (I + 1) _ _ (Or.inr ⟨_, rfl, rfl⟩) (adds hi rfl (by omega)) (by omega) (by omega)
  rw [show (0 - 0 + 8 + 6 + 3 : Int32) = sz e 0 from by show _ = (17 : Int32); decide]
  exact loop (F + 1) 0 0 _ (Or.inl rfl) rfl (by omega) (by omega)
theorem d_prog_7_method_47_0 : decode prog_7_method_47_code 0 = .ok (.aload_n 0, 1) := by decide +kernel
theorem d_prog_7_method_47_1 : decode prog_7_method_47_code 1 = .ok (.getfield 114, 3) := by decide +kernel
theorem wd61 {Z : State} {a0 : Array Value} (hw : ∀ d ∈ tables_1, d.before a0 Z = true) : (Jvm.Cond.fieldLink "com/example/vipool/vipool/http/HttpHead" (114 : Nat) "com/example/vipool/vipool/http/HttpHead" "used" "I").before a0 Z = true := hw _ (List.mem_of_getElem? (i := 61) rfl)
theorem d_prog_7_method_47_4 : decode prog_7_method_47_code 4 = .ok (.iload_n 1, 1) := by decide +kernel
theorem d_prog_7_method_47_5 : decode prog_7_method_47_code 5 = .ok (.iadd, 1) := by decide +kernel
theorem d_prog_7_method_47_6 : decode prog_7_method_47_code 6 = .ok (.aload_n 0, 1) := by decide +kernel
theorem d_prog_7_method_47_7 : decode prog_7_method_47_code 7 = .ok (.getfield 11, 3) := by decide +kernel
theorem d_prog_7_method_47_10 : decode prog_7_method_47_code 10 = .ok (.arraylength, 1) := by decide +kernel
theorem d_prog_7_method_47_11 : decode prog_7_method_47_code 11 = .ok (.if_icmp .le 28, 3) := by decide +kernel
theorem d_prog_7_method_47_39 : decode prog_7_method_47_code 39 = .ok (.return_, 1) := by decide +kernel
set_option maxRecDepth 65536 in
set_option maxHeartbeats 40000000 in
theorem m_room {Z : State} {a0 : Array Value} (hw : ∀ d ∈ tables_1, d.before a0 Z = true) (a : Addr) (q : Int32) (h0 : Heap) (n0 : Nat) (nr : Nat) (rw sp : Addr) (us fd : Int32) (g e : Nat → Int32) (R0 : Hh Z n0 h0 nr a rw sp us fd g e) (U n : Nat) (hU : us.toInt = (U : Int)) (hq : q.toInt = (n : Int)) (hs : U + n ≤ nr) (hnr : nr ≤ 16384) : ∀ l, Does l Z (⟨"com/example/vipool/vipool/http/HttpHead", "room", "(I)V"⟩ : MethodName) prog_7_method_47_code 2 none ({ frames := 0, cells := 0, slots := 0, locals := 0 } : Room) n0 #[(.ref a), (.int q)] h0 (fun v h => v = none ∧ h = h0) := by
  intro l
  refine Does.of_wp (plainFor_of_name pn_4) (Ls := #[.val (.ref a), .val (.int q)]) (fun m => by first | (simp [entryFrame, mkF, argsToLocals, Value.category]; done) | rfl | (rcases ref_cases hfv with rfl | ⟨_, rfl⟩ <;> rfl)) ?_
  intro C
  obtain ⟨⟨ga1, gr1, gs1, nrs1, nra1, nsa1⟩, X1, ⟨Fraw_1, Fspans_1, Fused_1, Ffields_1, FsecondEnd_1, FsecondStart_1, Frequest_1, Fmethod_1, Fstatus_1⟩, AR1, AS1⟩ := id R0
  refine WP.aloadN (pc' := 1) d_prog_7_method_47_0 rfl rfl rfl ?_
  refine WP.getF (pc' := 4) d_prog_7_method_47_1 rfl (host := "") (Or.inl (wd61 hw)) Via.refl Fused_1 ?_
  refine WP.iloadN (pc' := 5) d_prog_7_method_47_4 rfl rfl ?_
  refine WP.iadd (pc' := 6) d_prog_7_method_47_5 rfl ?_
  refine WP.aloadN (pc' := 7) d_prog_7_method_47_6 rfl rfl rfl ?_
  refine WP.getF (pc' := 10) d_prog_7_method_47_7 rfl (host := "") (Or.inl (wd51 hw)) Via.refl Fraw_1 ?_
  refine WP.arraylengthI (z := (nr : Nat).toInt32) (pc' := 11) d_prog_7_method_47_10 rfl AR1 rfl ?_
  have hc11 : ¬ (nr : Nat).toInt32 < (us + q) := by rw [Int32.lt_iff_toInt_lt]; have := adds hU hq (by omega); have e := natI (n := nr) (by omega); omega
  refine WP.icmp_le (pc1 := 39) (pc2 := 14) d_prog_7_method_47_11 (by decide) (by decide) rfl (fun _ => ?_) (fun k => absurd k hc11)
  exact WP.vret d_prog_7_method_47_39 rfl (by decide) (by decide) ⟨rfl, rfl⟩
theorem d_prog_7_method_48_0 : decode prog_7_method_48_code 0 = .ok (.aload_n 0, 1) := by decide +kernel
theorem d_prog_7_method_48_1 : decode prog_7_method_48_code 1 = .ok (.aload_n 1, 1) := by decide +kernel
theorem d_prog_7_method_48_2 : decode prog_7_method_48_code 2 = .ok (.invokevirtual 276, 3) := by decide +kernel
theorem wd67 {Z : State} {a0 : Array Value} (hw : ∀ d ∈ tables_1, d.before a0 Z = true) : (Jvm.Cond.methodLink "com/example/vipool/vipool/http/HttpHead" (276 : Nat) ({ cls := "java/lang/String", name := "length", desc := "()I" } : Jvm.MethodName)).before a0 Z = true := hw _ (List.mem_of_getElem? (i := 67) rfl)
theorem wd71 {Z : State} {a0 : Array Value} (hw : ∀ d ∈ tables_1, d.before a0 Z = true) : (Jvm.Cond.code ({ cls := "java/lang/String", name := "length", desc := "()I" } : Jvm.MethodName) jdk_42_method_54_code (1 : Nat) (Option.some Jvm.ClassFile.FieldType.int)).before a0 Z = true := hw _ (List.mem_of_getElem? (i := 71) rfl)
theorem pd_13 : parseMethodDescriptor "()I" = some ⟨[], some .int⟩ := by decide +kernel
theorem wd70 {Z : State} {a0 : Array Value} (hw : ∀ d ∈ tables_1, d.before a0 Z = true) : (Jvm.Cond.selects "java/lang/String" ({ cls := "java/lang/String", name := "length", desc := "()I" } : Jvm.MethodName) ({ cls := "java/lang/String", name := "length", desc := "()I" } : Jvm.MethodName)).before a0 Z = true := hw _ (List.mem_of_getElem? (i := 70) rfl)
theorem wd68 {Z : State} {a0 : Array Value} (hw : ∀ d ∈ tables_1, d.before a0 Z = true) : (Jvm.Cond.declares ({ cls := "java/lang/String", name := "length", desc := "()I" } : Jvm.MethodName)).before a0 Z = true := hw _ (List.mem_of_getElem? (i := 68) rfl)
theorem wd69 {Z : State} {a0 : Array Value} (hw : ∀ d ∈ tables_1, d.before a0 Z = true) : (Jvm.Cond.instanceMethod ({ cls := "java/lang/String", name := "length", desc := "()I" } : Jvm.MethodName)).before a0 Z = true := hw _ (List.mem_of_getElem? (i := 69) rfl)
theorem d_prog_7_method_48_5 : decode prog_7_method_48_code 5 = .ok (.invokevirtual 228, 3) := by decide +kernel
theorem wd77 {Z : State} {a0 : Array Value} (hw : ∀ d ∈ tables_1, d.before a0 Z = true) : (Jvm.Cond.methodLink "com/example/vipool/vipool/http/HttpHead" (228 : Nat) ({ cls := "com/example/vipool/vipool/http/HttpHead", name := "room", desc := "(I)V" } : Jvm.MethodName)).before a0 Z = true := hw _ (List.mem_of_getElem? (i := 77) rfl)
theorem wd80 {Z : State} {a0 : Array Value} (hw : ∀ d ∈ tables_1, d.before a0 Z = true) : (Jvm.Cond.code ({ cls := "com/example/vipool/vipool/http/HttpHead", name := "room", desc := "(I)V" } : Jvm.MethodName) prog_7_method_47_code (2 : Nat) (Option.none : Option Jvm.ClassFile.FieldType)).before a0 Z = true := hw _ (List.mem_of_getElem? (i := 80) rfl)
theorem wd46 {Z : State} {a0 : Array Value} (hw : ∀ d ∈ tables_1, d.before a0 Z = true) : (Jvm.Cond.initialized "com/example/vipool/vipool/http/HttpHead").before a0 Z = true := hw _ (List.mem_of_getElem? (i := 46) rfl)
theorem pd_14 : parseMethodDescriptor "(I)V" = some ⟨[.int], none⟩ := by decide +kernel
theorem wd78 {Z : State} {a0 : Array Value} (hw : ∀ d ∈ tables_1, d.before a0 Z = true) : (Jvm.Cond.instanceMethod ({ cls := "com/example/vipool/vipool/http/HttpHead", name := "room", desc := "(I)V" } : Jvm.MethodName)).before a0 Z = true := hw _ (List.mem_of_getElem? (i := 78) rfl)
theorem wd59 {Z : State} {a0 : Array Value} (hw : ∀ d ∈ tables_1, d.before a0 Z = true) : (Jvm.Cond.selects "com/example/vipool/vipool/http/HttpHead" ({ cls := "com/example/vipool/vipool/http/HttpHead", name := "add", desc := "(Ljava/lang/String;Ljava/lang/String;)V" } : Jvm.MethodName) ({ cls := "com/example/vipool/vipool/http/HttpHead", name := "add", desc := "(Ljava/lang/String;Ljava/lang/String;)V" } : Jvm.MethodName)).before a0 Z = true := hw _ (List.mem_of_getElem? (i := 59) rfl)
theorem wd79 {Z : State} {a0 : Array Value} (hw : ∀ d ∈ tables_1, d.before a0 Z = true) : (Jvm.Cond.privateMethod ({ cls := "com/example/vipool/vipool/http/HttpHead", name := "room", desc := "(I)V" } : Jvm.MethodName)).before a0 Z = true := hw _ (List.mem_of_getElem? (i := 79) rfl)
theorem d_prog_7_method_48_8 : decode prog_7_method_48_code 8 = .ok (.iconst 0, 1) := by decide +kernel
theorem d_prog_7_method_48_9 : decode prog_7_method_48_code 9 = .ok (.istore_n 2, 1) := by decide +kernel
theorem d_prog_7_method_48_10 : decode prog_7_method_48_code 10 = .ok (.iload_n 2, 1) := by decide +kernel
theorem d_prog_7_method_48_11 : decode prog_7_method_48_code 11 = .ok (.aload_n 1, 1) := by decide +kernel
theorem d_prog_7_method_48_12 : decode prog_7_method_48_code 12 = .ok (.invokevirtual 276, 3) := by decide +kernel
theorem d_prog_7_method_48_15 : decode prog_7_method_48_code 15 = .ok (.if_icmp .ge 40, 3) := by decide +kernel
theorem d_prog_7_method_48_55 : decode prog_7_method_48_code 55 = .ok (.aload_n 0, 1) := by decide +kernel
theorem d_prog_7_method_48_56 : decode prog_7_method_48_code 56 = .ok (.dup, 1) := by decide +kernel
theorem d_prog_7_method_48_57 : decode prog_7_method_48_code 57 = .ok (.getfield 114, 3) := by decide +kernel
theorem d_prog_7_method_48_60 : decode prog_7_method_48_code 60 = .ok (.aload_n 1, 1) := by decide +kernel
theorem d_prog_7_method_48_61 : decode prog_7_method_48_code 61 = .ok (.invokevirtual 276, 3) := by decide +kernel
theorem d_prog_7_method_48_64 : decode prog_7_method_48_code 64 = .ok (.iadd, 1) := by decide +kernel
theorem d_prog_7_method_48_65 : decode prog_7_method_48_code 65 = .ok (.putfield 114, 3) := by decide +kernel
theorem d_prog_7_method_48_68 : decode prog_7_method_48_code 68 = .ok (.return_, 1) := by decide +kernel
theorem d_prog_7_method_48_18 : decode prog_7_method_48_code 18 = .ok (.aload_n 1, 1) := by decide +kernel
theorem d_prog_7_method_48_19 : decode prog_7_method_48_code 19 = .ok (.iload_n 2, 1) := by decide +kernel
theorem d_prog_7_method_48_20 : decode prog_7_method_48_code 20 = .ok (.invokevirtual 279, 3) := by decide +kernel
theorem wd81 {Z : State} {a0 : Array Value} (hw : ∀ d ∈ tables_1, d.before a0 Z = true) : (Jvm.Cond.methodLink "com/example/vipool/vipool/http/HttpHead" (279 : Nat) ({ cls := "java/lang/String", name := "charAt", desc := "(I)C" } : Jvm.MethodName)).before a0 Z = true := hw _ (List.mem_of_getElem? (i := 81) rfl)
theorem wd85 {Z : State} {a0 : Array Value} (hw : ∀ d ∈ tables_1, d.before a0 Z = true) : (Jvm.Cond.code ({ cls := "java/lang/String", name := "charAt", desc := "(I)C" } : Jvm.MethodName) jdk_42_method_56_code (2 : Nat) (Option.some Jvm.ClassFile.FieldType.char)).before a0 Z = true := hw _ (List.mem_of_getElem? (i := 85) rfl)
theorem pd_15 : parseMethodDescriptor "(I)C" = some ⟨[.int], some .char⟩ := by decide +kernel
theorem wd84 {Z : State} {a0 : Array Value} (hw : ∀ d ∈ tables_1, d.before a0 Z = true) : (Jvm.Cond.selects "java/lang/String" ({ cls := "java/lang/String", name := "charAt", desc := "(I)C" } : Jvm.MethodName) ({ cls := "java/lang/String", name := "charAt", desc := "(I)C" } : Jvm.MethodName)).before a0 Z = true := hw _ (List.mem_of_getElem? (i := 84) rfl)
theorem wd82 {Z : State} {a0 : Array Value} (hw : ∀ d ∈ tables_1, d.before a0 Z = true) : (Jvm.Cond.declares ({ cls := "java/lang/String", name := "charAt", desc := "(I)C" } : Jvm.MethodName)).before a0 Z = true := hw _ (List.mem_of_getElem? (i := 82) rfl)
theorem wd83 {Z : State} {a0 : Array Value} (hw : ∀ d ∈ tables_1, d.before a0 Z = true) : (Jvm.Cond.instanceMethod ({ cls := "java/lang/String", name := "charAt", desc := "(I)C" } : Jvm.MethodName)).before a0 Z = true := hw _ (List.mem_of_getElem? (i := 83) rfl)
theorem d_prog_7_method_48_23 : decode prog_7_method_48_code 23 = .ok (.istore_n 3, 1) := by decide +kernel
theorem d_prog_7_method_48_24 : decode prog_7_method_48_code 24 = .ok (.aload_n 0, 1) := by decide +kernel
theorem d_prog_7_method_48_25 : decode prog_7_method_48_code 25 = .ok (.getfield 11, 3) := by decide +kernel
theorem d_prog_7_method_48_28 : decode prog_7_method_48_code 28 = .ok (.aload_n 0, 1) := by decide +kernel
theorem d_prog_7_method_48_29 : decode prog_7_method_48_code 29 = .ok (.getfield 114, 3) := by decide +kernel
theorem d_prog_7_method_48_32 : decode prog_7_method_48_code 32 = .ok (.iload_n 2, 1) := by decide +kernel
theorem d_prog_7_method_48_33 : decode prog_7_method_48_code 33 = .ok (.iadd, 1) := by decide +kernel
theorem d_prog_7_method_48_34 : decode prog_7_method_48_code 34 = .ok (.iload_n 3, 1) := by decide +kernel
theorem d_prog_7_method_48_35 : decode prog_7_method_48_code 35 = .ok (.sipush 255, 3) := by decide +kernel
theorem d_prog_7_method_48_38 : decode prog_7_method_48_code 38 = .ok (.if_icmp .gt 7, 3) := by decide +kernel
theorem d_prog_7_method_48_41 : decode prog_7_method_48_code 41 = .ok (.iload_n 3, 1) := by decide +kernel
theorem d_prog_7_method_48_42 : decode prog_7_method_48_code 42 = .ok (.goto 5, 3) := by decide +kernel
theorem d_prog_7_method_48_47 : decode prog_7_method_48_code 47 = .ok (.i2b, 1) := by decide +kernel
theorem d_prog_7_method_48_48 : decode prog_7_method_48_code 48 = .ok (.bastore, 1) := by decide +kernel
theorem d_prog_7_method_48_49 : decode prog_7_method_48_code 49 = .ok (.iinc 2 1, 3) := by decide +kernel
theorem d_prog_7_method_48_52 : decode prog_7_method_48_code 52 = .ok (.goto (-42), 3) := by decide +kernel
set_option maxRecDepth 65536 in
set_option maxHeartbeats 40000000 in
theorem m_put {Z : State} {a0 : Array Value} (hw : ∀ d ∈ tables_1, d.before a0 Z = true) (a : Addr) (s : Addr) (h0 : Heap) (n0 : Nat) (Z0 : n0 ≤ h0.size) (O0 : Old Z n0 h0) (cs : Int32) (S_CS : Sta Z Z.heap "java/lang/String" "COMPACT_STRINGS" "Z" (.int cs)) (hcs : ¬ cs = 0) (fv : Value) (hfv : fv.isRef = true) (S_FM : Sta Z Z.heap "jdk/internal/util/Preconditions" "SIOOBE_FORMATTER" "Ljava/util/function/BiFunction;" fv) (nr : Nat) (rw sp : Addr) (us fd : Int32) (g e : Nat → Int32) (R0 : Hh Z n0 h0 nr a rw sp us fd g e) (b : Addr) (n : Nat) (q : Nat → Int32) (sE : Exa Z h0 s "java/lang/String") (sV : Fld Z h0 s "java/lang/String" "value" "[B" (.ref b)) (sC : Fld Z h0 s "java/lang/String" "coder" "B" (.int 0)) (sA : Ari Z h0 b .byte n q) (n_sa : s ≠ a) (n_srw : s ≠ rw) (n_ssp : s ≠ sp) (n_ba : b ≠ a) (n_brw : b ≠ rw) (n_bsp : b ≠ sp) (U : Nat) (hU : us.toInt = (U : Int)) (hs : U + n ≤ nr) (hnr : nr ≤ 16384) (hn8 : n ≤ 8192) (hq : ∀ i, i < n → nar .byte (q i) = q i) : ∀ l, Does l Z (⟨"com/example/vipool/vipool/http/HttpHead", "put", "(Ljava/lang/String;)V"⟩ : MethodName) prog_7_method_48_code 4 none ({ frames := 4, cells := 0, slots := 0, locals := 53 } : Room) n0 #[(.ref a), (.ref s)] h0 (fun v h => v = none ∧ Keep h0 h [a, rw] ∧ Hh Z n0 h nr a rw sp (us + (n : Nat).toInt32) fd (lay g U n q) e) := by
  intro l
  refine Does.of_wp (plainFor_of_name pn_4) (Ls := #[.val (.ref a), .val (.ref s), .unset, .unset]) (fun m => by first | (simp [entryFrame, mkF, argsToLocals, Value.category]; done) | rfl | (rcases ref_cases hfv with rfl | ⟨_, rfl⟩ <;> rfl)) ?_
  intro C
  obtain ⟨⟨ga1, gr1, gs1, nrs1, nra1, nsa1⟩, X1, ⟨Fraw_1, Fspans_1, Fused_1, Ffields_1, FsecondEnd_1, FsecondStart_1, Frequest_1, Fmethod_1, Fstatus_1⟩, AR1, AS1⟩ := id R0
  have K0 := Keep.refl h0 [a, rw]
  refine WP.aloadN (pc' := 1) d_prog_7_method_48_0 rfl rfl rfl ?_
  refine WP.aloadN (pc' := 2) d_prog_7_method_48_1 rfl rfl rfl ?_
  refine WP.callV (a := s) (K := "java/lang/String") (argsL := []) (rest := [(.ref a)]) (wd := 1) (cl' := 0) (sl' := 0) (pc' := 5) d_prog_7_method_48_2 rfl (wd67 hw) (wd68 hw) (nfS (wd70 hw) rfl) (wd70 hw) (wd69 hw) (wd2 hw) (wd71 hw) (by decide) sE (s_len hw s h0 n0 sE sC cs (S_CS.ext O0.2) hcs b sV n q sA (by omega)) pd_13 rfl rfl rfl (Nat.le_of_eq rfl) (by decide) (by decide) rfl rfl (by decide) (by decide) ?_
  rintro v hh2 ⟨rfl, he2⟩
  rw [he2]
  refine WP.castS (st' := [(.int (n : Nat).toInt32), (.ref a)]) rfl ?_
  refine WP.callP (a := a) (argsL := [(.int (n : Nat).toInt32)]) (rest := []) (wd := 0) (cl' := 0) (sl' := 0) (pc' := 8) d_prog_7_method_48_5 rfl (wd77 hw) (wd78 hw) (selPriv (wd59 hw) rfl (wd79 hw) (wd78 hw) (by decide)) (wd79 hw) (wd46 hw) (wd80 hw) (by decide) R0.2.1 (m_room hw a (n : Nat).toInt32 h0 n0 nr rw sp us fd g e R0 U n hU (natI (by omega)) hs hnr) pd_14 rfl rfl rfl (Nat.le_of_eq rfl) (by decide) (by decide) rfl rfl (by decide) (by decide) ?_
  rintro v hh3 ⟨rfl, he3⟩
  rw [he3]
  refine WP.castS (st' := []) rfl ?_
  refine WP.iconst (pc' := 9) d_prog_7_method_48_8 rfl (z := 0) rfl ?_
  refine WP.istoreN (pc' := 10) d_prog_7_method_48_9 rfl (Ls' := #[.val (.ref a), .val (.ref s), .val (.int (0 : Int32)), .unset]) rfl ?_
  have loop : ∀ (k I : Nat) (i : Int32) (s3 : Slot) (hh : Heap) (G : Nat → Int32), (s3 = .unset ∨ ∃ u, s3 = .val u ∧ u.category = 1) → i.toInt = (I : Int) → I ≤ n → n - I < k → Keep h0 hh [rw] → Ari Z hh rw .byte nr G → (∀ j, j < nr → G j = lay g U I q j) → WP C Z prog_7_method_48_code 4 "com/example/vipool/vipool/http/HttpHead" none "put" ({ frames := 4, cells := 0, slots := 0, locals := 53 } : Room) n0 (fun v h => v = none ∧ Keep h0 h [a, rw] ∧ Hh Z n0 h nr a rw sp (us + (n : Nat).toInt32) fd (lay g U n q) e) 0 0 hh 10 #[.val (.ref a), .val (.ref s), .val (.int i), s3] [] := by
    intro k
    induction k with
    | zero => intro I i s3 hh G h1 h2 h3; omega
    | succ k IH =>
      intro I i s3 hh G hs3 hi hI hk K1 AG hG
      have E4 := X1.keep K1
      have F5 := Fraw_1.keep K1 (ninS (Ne.symm nra1) nin0)
      have F6 := Fspans_1.keep K1 (ninS (Ne.symm nra1) nin0)
      have F7 := Fused_1.keep K1 (ninS (Ne.symm nra1) nin0)
      have F8 := Ffields_1.keep K1 (ninS (Ne.symm nra1) nin0)
      have F9 := FsecondEnd_1.keep K1 (ninS (Ne.symm nra1) nin0)
      have F10 := FsecondStart_1.keep K1 (ninS (Ne.symm nra1) nin0)
      have F11 := Frequest_1.keep K1 (ninS (Ne.symm nra1) nin0)
      have F12 := Fmethod_1.keep K1 (ninS (Ne.symm nra1) nin0)
      have F13 := Fstatus_1.keep K1 (ninS (Ne.symm nra1) nin0)
      have V14 := AS1.keep K1 (ninS (Ne.symm nrs1) nin0)
      have E15 := sE.keep K1
      have F16 := sV.keep K1 (ninS n_srw nin0)
      have F17 := sC.keep K1 (ninS n_srw nin0)
      have V18 := sA.keep K1 (ninS n_brw nin0)
      have O19 := O0.keep K1 (allS gr1 all0)
      have Z20 : n0 ≤ hh.size := Nat.le_trans Z0 K1.1
      have K2 : Keep h0 hh [a, rw] := (Keep.refl h0 [a, rw]).trans K1 (allS (Or.inl (by simp)) all0)
      refine WP.iloadN (pc' := 11) d_prog_7_method_48_10 rfl rfl ?_
      refine WP.aloadN (pc' := 12) d_prog_7_method_48_11 rfl rfl rfl ?_
      refine WP.callV (a := s) (K := "java/lang/String") (argsL := []) (rest := [(.int i)]) (wd := 1) (cl' := 0) (sl' := 0) (pc' := 15) d_prog_7_method_48_12 rfl (wd67 hw) (wd68 hw) (nfS (wd70 hw) rfl) (wd70 hw) (wd69 hw) (wd2 hw) (wd71 hw) (by decide) E15 (s_len hw s hh n0 E15 F17 cs (S_CS.ext O19.2) hcs b F16 n q V18 (by omega)) pd_13 rfl rfl rfl (Nat.le_of_eq rfl) (by decide) (by decide) rfl rfl (by decide) (by decide) ?_
      rintro v hh21 ⟨rfl, he21⟩
      rw [he21]
      refine WP.castS (st' := [(.int (n : Nat).toInt32), (.int i)]) rfl ?_
      refine WP.icmp_ge (pc1 := 55) (pc2 := 18) d_prog_7_method_48_15 (by decide) (by decide) rfl ?_ ?_
      · intro hc15
        refine WP.aloadN (pc' := 56) d_prog_7_method_48_55 rfl rfl rfl ?_
        refine WP.dup (pc' := 57) d_prog_7_method_48_56 rfl rfl ?_
        refine WP.getF (pc' := 60) d_prog_7_method_48_57 rfl (host := "") (Or.inl (wd61 hw)) Via.refl F7 ?_
        refine WP.aloadN (pc' := 61) d_prog_7_method_48_60 rfl rfl rfl ?_
        refine WP.callV (a := s) (K := "java/lang/String") (argsL := []) (rest := [(.int us), (.ref a)]) (wd := 2) (cl' := 0) (sl' := 0) (pc' := 64) d_prog_7_method_48_61 rfl (wd67 hw) (wd68 hw) (nfS (wd70 hw) rfl) (wd70 hw) (wd69 hw) (wd2 hw) (wd71 hw) (by decide) E15 (s_len hw s hh n0 E15 F17 cs (S_CS.ext O19.2) hcs b F16 n q V18 (by omega)) pd_13 rfl rfl rfl (Nat.le_of_eq rfl) (by decide) (by decide) rfl rfl (by decide) (by decide) ?_
        rintro v hh22 ⟨rfl, he22⟩
        rw [he22]
        refine WP.castS (st' := [(.int (n : Nat).toInt32), (.int us), (.ref a)]) rfl ?_
        refine WP.iadd (pc' := 65) d_prog_7_method_48_64 rfl ?_
        refine WP.putF (pc' := 68) d_prog_7_method_48_65 rfl (host := "") (Or.inl (wd61 hw)) Via.refl F7 E4 (Or.inl (wd62 hw)) (wd45 hw) (ty := .int) (by decide) rfl rfl ga1 ?_
        intro h23 W24
        have Kw25 := Keep.of_wr W24
        have E26 := E4.keep Kw25
        have V27 := V14.keep Kw25 (ninS nsa1 nin0)
        have E28 := E15.keep Kw25
        have F29 := F16.keep Kw25 (ninS n_sa nin0)
        have F30 := F17.keep Kw25 (ninS n_sa nin0)
        have V31 := V18.keep Kw25 (ninS n_ba nin0)
        have V32 := AG.keep Kw25 (ninS nra1 nin0)
        have O33 := O19.keep Kw25 (allS ga1 all0)
        have K34 := K2.trans Kw25 (allS (Or.inl (by simp)) all0)
        have Z35 : n0 ≤ h23.size := Nat.le_trans Z20 Kw25.1
        have F36 := F5.other W24 (Or.inr (slot_ne (Or.inl (wd52 hw)) (Or.inl (wd62 hw)) (by decide) (t := (.array .byte)) (t' := .int) (by decide) (by decide)))
        have F37 := F6.other W24 (Or.inr (slot_ne (Or.inl (wd55 hw)) (Or.inl (wd62 hw)) (by decide) (t := (.array .int)) (t' := .int) (by decide) (by decide)))
        have F38 := F7.same W24
        have F39 := F8.other W24 (Or.inr (slot_ne (Or.inl (wd107 hw)) (Or.inl (wd62 hw)) (by decide) (t := .int) (t' := .int) (by decide) (by decide)))
        have F40 := F9.other W24 (Or.inr (slot_ne (Or.inl (wd123 hw)) (Or.inl (wd62 hw)) (by decide) (t := .int) (t' := .int) (by decide) (by decide)))
        have F41 := F10.other W24 (Or.inr (slot_ne (Or.inl (wd125 hw)) (Or.inl (wd62 hw)) (by decide) (t := .int) (t' := .int) (by decide) (by decide)))
        have F42 := F11.other W24 (Or.inr (slot_ne (Or.inl (wd127 hw)) (Or.inl (wd62 hw)) (by decide) (t := .boolean) (t' := .int) (by decide) (by decide)))
        have F43 := F12.other W24 (Or.inr (slot_ne (Or.inl (wd114 hw)) (Or.inl (wd62 hw)) (by decide) (t := (.object "java/lang/String")) (t' := .int) (by decide) (by decide)))
        have F44 := F13.other W24 (Or.inr (slot_ne (Or.inl (wd116 hw)) (Or.inl (wd62 hw)) (by decide) (t := .int) (t' := .int) (by decide) (by decide)))
        exact WP.vret d_prog_7_method_48_68 rfl (by decide) (by decide) ⟨rfl, K34, ⟨⟨ga1, gr1, gs1, nrs1, nra1, nsa1⟩, E26, ⟨F36, F37, F38, F39, F40, F41, F42, F43, F44⟩, (V32.congr fun j hj => by rw [hG j hj, show I = n by rw [Int32.lt_iff_toInt_lt, natI (by omega)] at hc15; omega]), V27⟩⟩
      · intro hc15
        have lt1 : I < n := by rw [Int32.lt_iff_toInt_lt, natI (by omega)] at hc15; omega
        refine WP.aloadN (pc' := 19) d_prog_7_method_48_18 rfl rfl rfl ?_
        refine WP.iloadN (pc' := 20) d_prog_7_method_48_19 rfl rfl ?_
        refine WP.callV (a := s) (K := "java/lang/String") (argsL := [(.int i)]) (rest := []) (wd := 0) (cl' := 0) (sl' := 0) (pc' := 23) d_prog_7_method_48_20 rfl (wd81 hw) (wd82 hw) (nfS (wd84 hw) rfl) (wd84 hw) (wd83 hw) (wd2 hw) (wd85 hw) (by decide) E15 (s_cha hw s i hh n0 E15 F17 cs (S_CS.ext O19.2) hcs b F16 n q V18 (by omega) fv hfv (S_FM.ext O19.2) I hi lt1) pd_15 rfl rfl rfl (Nat.le_of_eq rfl) (by decide) (by decide) rfl rfl (by decide) (by decide) ?_
        rintro v hh45 ⟨rfl, he45⟩
        rw [he45]
        refine WP.castS (st' := [(.int (chv (q I)))]) rfl ?_
        refine WP.istoreN (pc' := 24) d_prog_7_method_48_23 rfl (Ls' := #[.val (.ref a), .val (.ref s), .val (.int i), .val (.int (chv (q I)))]) (XS.store1 rfl hs3 rfl) ?_
        refine WP.aloadN (pc' := 25) d_prog_7_method_48_24 rfl rfl rfl ?_
        refine WP.getF (pc' := 28) d_prog_7_method_48_25 rfl (host := "") (Or.inl (wd51 hw)) Via.refl F5 ?_
        refine WP.aloadN (pc' := 29) d_prog_7_method_48_28 rfl rfl rfl ?_
        refine WP.getF (pc' := 32) d_prog_7_method_48_29 rfl (host := "") (Or.inl (wd61 hw)) Via.refl F7 ?_
        refine WP.iloadN (pc' := 33) d_prog_7_method_48_32 rfl rfl ?_
        refine WP.iadd (pc' := 34) d_prog_7_method_48_33 rfl ?_
        refine WP.iloadN (pc' := 35) d_prog_7_method_48_34 rfl rfl ?_
        refine WP.sipush (pc' := 38) d_prog_7_method_48_35 rfl (z := 255) rfl ?_
        have hc38 : ¬ (255 : Int32) < (chv (q I)) := by rw [Int32.lt_iff_toInt_lt]; have := (chv_le (q I)).2; have e : (255 : Int32).toInt = 255 := rfl; omega
        refine WP.icmp_gt (pc1 := 45) (pc2 := 41) d_prog_7_method_48_38 (by decide) (by decide) rfl (fun k => absurd k hc38) (fun _ => ?_)
        refine WP.iloadN (pc' := 42) d_prog_7_method_48_41 rfl rfl ?_
        refine WP.goto (pc' := 47) d_prog_7_method_48_42 (by decide) (by decide) ?_
        refine WP.i2b (pc' := 48) d_prog_7_method_48_47 rfl ?_
        refine WP.bastoreI (x' := (q I)) (U + I) (pc' := 49) d_prog_7_method_48_48 rfl AG (adds hU hi (by omega)) (by omega) gr1 (back8 (hq I lt1)) ?_
        intro h46 K47 A48
        have E49 := E4.keep K47
        have F50 := F5.keep K47 (ninS (Ne.symm nra1) nin0)
        have F51 := F6.keep K47 (ninS (Ne.symm nra1) nin0)
        have F52 := F7.keep K47 (ninS (Ne.symm nra1) nin0)
        have F53 := F8.keep K47 (ninS (Ne.symm nra1) nin0)
        have F54 := F9.keep K47 (ninS (Ne.symm nra1) nin0)
        have F55 := F10.keep K47 (ninS (Ne.symm nra1) nin0)
        have F56 := F11.keep K47 (ninS (Ne.symm nra1) nin0)
        have F57 := F12.keep K47 (ninS (Ne.symm nra1) nin0)
        have F58 := F13.keep K47 (ninS (Ne.symm nra1) nin0)
        have V59 := V14.keep K47 (ninS (Ne.symm nrs1) nin0)
        have E60 := E15.keep K47
        have F61 := F16.keep K47 (ninS n_srw nin0)
        have F62 := F17.keep K47 (ninS n_srw nin0)
        have V63 := V18.keep K47 (ninS n_brw nin0)
        have O64 := O19.keep K47 (allS gr1 all0)
        have K65 := K2.trans K47 (allS (Or.inl (by simp)) all0)
        have Z66 : n0 ≤ h46.size := Nat.le_trans Z20 K47.1
        refine WP.iinc (pc' := 52) d_prog_7_method_48_49 rfl rfl (z := (i + (1 : Int32))) rfl (Ls' := #[.val (.ref a), .val (.ref s), .val (.int (i + (1 : Int32))), .val (.int (chv (q I)))]) rfl ?_
        refine WP.goto (pc' := 10) d_prog_7_method_48_52 (by decide) (by decide) ?_
        exact IH (I + 1) _ _ _ _ (Or.inr ⟨_, rfl, rfl⟩) (adds hi rfl (by omega)) (by omega) (by omega) (K1.trans K47 (allS (Or.inl (by simp)) all0)) A48 (lay_step rfl hG)
  exact loop (n + 1) 0 0 _ h0 g (Or.inl rfl) rfl (by omega) (by omega) (Keep.refl _ _) AR1 fun j _ => (lay0 g U q j).symm
def sp4 (e : Nat → Int32) (F : Nat) (p1 p2 p3 p4 : Int32) : Nat → Int32 := updI (updI (updI (updI e (4 * F) p1) (4 * F + 1) p2) (4 * F + 2) p3) (4 * F + 3) p4
theorem sp4_0 (e : Nat → Int32) (F : Nat) (p1 p2 p3 p4 : Int32) : sp4 e F p1 p2 p3 p4 (4 * F) = p1 := by unfold sp4; rw [upd_ne (by omega), upd_ne (by omega), upd_ne (by omega), upd_at]
theorem sp4_1 (e : Nat → Int32) (F : Nat) (p1 p2 p3 p4 : Int32) : sp4 e F p1 p2 p3 p4 (4 * F + 1) = p2 := by unfold sp4; rw [upd_ne (by omega), upd_ne (by omega), upd_at]
theorem sp4_2 (e : Nat → Int32) (F : Nat) (p1 p2 p3 p4 : Int32) : sp4 e F p1 p2 p3 p4 (4 * F + 2) = p3 := by unfold sp4; rw [upd_ne (by omega), upd_at]
theorem sp4_3 (e : Nat → Int32) (F : Nat) (p1 p2 p3 p4 : Int32) : sp4 e F p1 p2 p3 p4 (4 * F + 3) = p4 := by unfold sp4; rw [upd_at]
theorem sp4_n (e : Nat → Int32) (F : Nat) (p1 p2 p3 p4 : Int32) {k : Nat} (h : k < 4 * F) : sp4 e F p1 p2 p3 p4 k = e k := by unfold sp4; rw [upd_ne (by omega), upd_ne (by omega), upd_ne (by omega), upd_ne (by omega)]
theorem d_prog_7_method_35_0 : decode prog_7_method_35_code 0 = .ok (.aload_n 0, 1) := by decide +kernel
theorem d_prog_7_method_35_1 : decode prog_7_method_35_code 1 = .ok (.getfield 117, 3) := by decide +kernel
theorem d_prog_7_method_35_4 : decode prog_7_method_35_code 4 = .ok (.iconst 4, 1) := by decide +kernel
theorem d_prog_7_method_35_5 : decode prog_7_method_35_code 5 = .ok (.imul, 1) := by decide +kernel
theorem d_prog_7_method_35_6 : decode prog_7_method_35_code 6 = .ok (.aload_n 0, 1) := by decide +kernel
theorem d_prog_7_method_35_7 : decode prog_7_method_35_code 7 = .ok (.getfield 15, 3) := by decide +kernel
theorem d_prog_7_method_35_10 : decode prog_7_method_35_code 10 = .ok (.arraylength, 1) := by decide +kernel
theorem d_prog_7_method_35_11 : decode prog_7_method_35_code 11 = .ok (.if_icmp .ne 21, 3) := by decide +kernel
theorem d_prog_7_method_35_32 : decode prog_7_method_35_code 32 = .ok (.aload_n 0, 1) := by decide +kernel
theorem d_prog_7_method_35_33 : decode prog_7_method_35_code 33 = .ok (.getfield 117, 3) := by decide +kernel
theorem d_prog_7_method_35_36 : decode prog_7_method_35_code 36 = .ok (.iconst 4, 1) := by decide +kernel
theorem d_prog_7_method_35_37 : decode prog_7_method_35_code 37 = .ok (.imul, 1) := by decide +kernel
theorem d_prog_7_method_35_38 : decode prog_7_method_35_code 38 = .ok (.istore 5, 2) := by decide +kernel
theorem d_prog_7_method_35_40 : decode prog_7_method_35_code 40 = .ok (.aload_n 0, 1) := by decide +kernel
theorem d_prog_7_method_35_41 : decode prog_7_method_35_code 41 = .ok (.getfield 15, 3) := by decide +kernel
theorem d_prog_7_method_35_44 : decode prog_7_method_35_code 44 = .ok (.iload 5, 2) := by decide +kernel
theorem d_prog_7_method_35_46 : decode prog_7_method_35_code 46 = .ok (.iload_n 1, 1) := by decide +kernel
theorem d_prog_7_method_35_47 : decode prog_7_method_35_code 47 = .ok (.iastore, 1) := by decide +kernel
theorem d_prog_7_method_35_48 : decode prog_7_method_35_code 48 = .ok (.aload_n 0, 1) := by decide +kernel
theorem d_prog_7_method_35_49 : decode prog_7_method_35_code 49 = .ok (.getfield 15, 3) := by decide +kernel
theorem d_prog_7_method_35_52 : decode prog_7_method_35_code 52 = .ok (.iload 5, 2) := by decide +kernel
theorem d_prog_7_method_35_54 : decode prog_7_method_35_code 54 = .ok (.iconst 1, 1) := by decide +kernel
theorem d_prog_7_method_35_55 : decode prog_7_method_35_code 55 = .ok (.iadd, 1) := by decide +kernel
theorem d_prog_7_method_35_56 : decode prog_7_method_35_code 56 = .ok (.iload_n 2, 1) := by decide +kernel
theorem d_prog_7_method_35_57 : decode prog_7_method_35_code 57 = .ok (.iastore, 1) := by decide +kernel
theorem d_prog_7_method_35_58 : decode prog_7_method_35_code 58 = .ok (.aload_n 0, 1) := by decide +kernel
theorem d_prog_7_method_35_59 : decode prog_7_method_35_code 59 = .ok (.getfield 15, 3) := by decide +kernel
theorem d_prog_7_method_35_62 : decode prog_7_method_35_code 62 = .ok (.iload 5, 2) := by decide +kernel
theorem d_prog_7_method_35_64 : decode prog_7_method_35_code 64 = .ok (.iconst 2, 1) := by decide +kernel
theorem d_prog_7_method_35_65 : decode prog_7_method_35_code 65 = .ok (.iadd, 1) := by decide +kernel
theorem d_prog_7_method_35_66 : decode prog_7_method_35_code 66 = .ok (.iload_n 3, 1) := by decide +kernel
theorem d_prog_7_method_35_67 : decode prog_7_method_35_code 67 = .ok (.iastore, 1) := by decide +kernel
theorem d_prog_7_method_35_68 : decode prog_7_method_35_code 68 = .ok (.aload_n 0, 1) := by decide +kernel
theorem d_prog_7_method_35_69 : decode prog_7_method_35_code 69 = .ok (.getfield 15, 3) := by decide +kernel
theorem d_prog_7_method_35_72 : decode prog_7_method_35_code 72 = .ok (.iload 5, 2) := by decide +kernel
theorem d_prog_7_method_35_74 : decode prog_7_method_35_code 74 = .ok (.iconst 3, 1) := by decide +kernel
theorem d_prog_7_method_35_75 : decode prog_7_method_35_code 75 = .ok (.iadd, 1) := by decide +kernel
theorem d_prog_7_method_35_76 : decode prog_7_method_35_code 76 = .ok (.iload 4, 2) := by decide +kernel
theorem d_prog_7_method_35_78 : decode prog_7_method_35_code 78 = .ok (.iastore, 1) := by decide +kernel
theorem d_prog_7_method_35_79 : decode prog_7_method_35_code 79 = .ok (.aload_n 0, 1) := by decide +kernel
theorem d_prog_7_method_35_80 : decode prog_7_method_35_code 80 = .ok (.dup, 1) := by decide +kernel
theorem d_prog_7_method_35_81 : decode prog_7_method_35_code 81 = .ok (.getfield 117, 3) := by decide +kernel
theorem d_prog_7_method_35_84 : decode prog_7_method_35_code 84 = .ok (.iconst 1, 1) := by decide +kernel
theorem d_prog_7_method_35_85 : decode prog_7_method_35_code 85 = .ok (.iadd, 1) := by decide +kernel
theorem d_prog_7_method_35_86 : decode prog_7_method_35_code 86 = .ok (.putfield 117, 3) := by decide +kernel
theorem d_prog_7_method_35_89 : decode prog_7_method_35_code 89 = .ok (.return_, 1) := by decide +kernel
set_option maxRecDepth 65536 in
set_option maxHeartbeats 40000000 in
theorem m_span {Z : State} {a0 : Array Value} (hw : ∀ d ∈ tables_1, d.before a0 Z = true) (a : Addr) (p1 : Int32) (p2 : Int32) (p3 : Int32) (p4 : Int32) (h0 : Heap) (n0 : Nat) (Z0 : n0 ≤ h0.size) (O0 : Old Z n0 h0) (nr : Nat) (rw sp : Addr) (us fd : Int32) (g e : Nat → Int32) (R0 : Hh Z n0 h0 nr a rw sp us fd g e) (F : Nat) (hF : fd.toInt = (F : Int)) (hF7 : F ≤ 6) : ∀ l, Does l Z (⟨"com/example/vipool/vipool/http/HttpHead", "span", "(IIII)V"⟩ : MethodName) prog_7_method_35_code 6 none ({ frames := 0, cells := 0, slots := 0, locals := 0 } : Room) n0 #[(.ref a), (.int p1), (.int p2), (.int p3), (.int p4)] h0 (fun v h => v = none ∧ Keep h0 h [a, sp] ∧ Hh Z n0 h nr a rw sp us (fd + 1) g (sp4 e F p1 p2 p3 p4)) := by
  intro l
  refine Does.of_wp (plainFor_of_name pn_4) (Ls := #[.val (.ref a), .val (.int p1), .val (.int p2), .val (.int p3), .val (.int p4), .unset]) (fun m => by first | (simp [entryFrame, mkF, argsToLocals, Value.category]; done) | rfl | (rcases ref_cases hfv with rfl | ⟨_, rfl⟩ <;> rfl)) ?_
  intro C
  obtain ⟨⟨ga1, gr1, gs1, nrs1, nra1, nsa1⟩, X1, ⟨Fraw_1, Fspans_1, Fused_1, Ffields_1, FsecondEnd_1, FsecondStart_1, Frequest_1, Fmethod_1, Fstatus_1⟩, AR1, AS1⟩ := id R0
  have K0 := Keep.refl h0 [a, sp]
  have m4 := mul4 hF (by omega)
  refine WP.aloadN (pc' := 1) d_prog_7_method_35_0 rfl rfl rfl ?_
  refine WP.getF (pc' := 4) d_prog_7_method_35_1 rfl (host := "") (Or.inl (wd106 hw)) Via.refl Ffields_1 ?_
  refine WP.iconst (pc' := 5) d_prog_7_method_35_4 rfl (z := 4) rfl ?_
  refine WP.imul (pc' := 6) d_prog_7_method_35_5 rfl ?_
  refine WP.aloadN (pc' := 7) d_prog_7_method_35_6 rfl rfl rfl ?_
  refine WP.getF (pc' := 10) d_prog_7_method_35_7 rfl (host := "") (Or.inl (wd54 hw)) Via.refl Fspans_1 ?_
  refine WP.arraylengthI (z := (32 : Int32)) (pc' := 11) d_prog_7_method_35_10 rfl AS1 rfl ?_
  have hc11 : ¬ (fd * (4 : Int32)) = (32 : Int32) := mul4_32 hF (by omega)
  refine WP.icmp_ne (pc1 := 32) (pc2 := 14) d_prog_7_method_35_11 (by decide) (by decide) rfl (fun _ => ?_) (fun k => absurd k hc11)
  refine WP.aloadN (pc' := 33) d_prog_7_method_35_32 rfl rfl rfl ?_
  refine WP.getF (pc' := 36) d_prog_7_method_35_33 rfl (host := "") (Or.inl (wd106 hw)) Via.refl Ffields_1 ?_
  refine WP.iconst (pc' := 37) d_prog_7_method_35_36 rfl (z := 4) rfl ?_
  refine WP.imul (pc' := 38) d_prog_7_method_35_37 rfl ?_
  refine WP.istore (pc' := 40) d_prog_7_method_35_38 rfl (Ls' := #[.val (.ref a), .val (.int p1), .val (.int p2), .val (.int p3), .val (.int p4), .val (.int (fd * (4 : Int32)))]) rfl ?_
  refine WP.aloadN (pc' := 41) d_prog_7_method_35_40 rfl rfl rfl ?_
  refine WP.getF (pc' := 44) d_prog_7_method_35_41 rfl (host := "") (Or.inl (wd54 hw)) Via.refl Fspans_1 ?_
  refine WP.iload (pc' := 46) d_prog_7_method_35_44 rfl rfl ?_
  refine WP.iloadN (pc' := 47) d_prog_7_method_35_46 rfl rfl ?_
  refine WP.iastoreI (x' := p1) (4 * F) (pc' := 48) d_prog_7_method_35_47 rfl AS1 m4 (by omega) gs1 rfl ?_
  intro h2 K3 A4
  have E5 := X1.keep K3
  have F6 := Fraw_1.keep K3 (ninS (Ne.symm nsa1) nin0)
  have F7 := Fspans_1.keep K3 (ninS (Ne.symm nsa1) nin0)
  have F8 := Fused_1.keep K3 (ninS (Ne.symm nsa1) nin0)
  have F9 := Ffields_1.keep K3 (ninS (Ne.symm nsa1) nin0)
  have F10 := FsecondEnd_1.keep K3 (ninS (Ne.symm nsa1) nin0)
  have F11 := FsecondStart_1.keep K3 (ninS (Ne.symm nsa1) nin0)
  have F12 := Frequest_1.keep K3 (ninS (Ne.symm nsa1) nin0)
  have F13 := Fmethod_1.keep K3 (ninS (Ne.symm nsa1) nin0)
  have F14 := Fstatus_1.keep K3 (ninS (Ne.symm nsa1) nin0)
  have V15 := AR1.keep K3 (ninS nrs1 nin0)
  have O16 := O0.keep K3 (allS gs1 all0)
  have K17 := K0.trans K3 (allS (Or.inl (by simp)) all0)
  have Z18 : n0 ≤ h2.size := Nat.le_trans Z0 K3.1
  refine WP.aloadN (pc' := 49) d_prog_7_method_35_48 rfl rfl rfl ?_
  refine WP.getF (pc' := 52) d_prog_7_method_35_49 rfl (host := "") (Or.inl (wd54 hw)) Via.refl F7 ?_
  refine WP.iload (pc' := 54) d_prog_7_method_35_52 rfl rfl ?_
  refine WP.iconst (pc' := 55) d_prog_7_method_35_54 rfl (z := 1) rfl ?_
  refine WP.iadd (pc' := 56) d_prog_7_method_35_55 rfl ?_
  refine WP.iloadN (pc' := 57) d_prog_7_method_35_56 rfl rfl ?_
  refine WP.iastoreI (x' := p2) (4 * F + 1) (pc' := 58) d_prog_7_method_35_57 rfl A4 (adds m4 rfl (by omega)) (by omega) gs1 rfl ?_
  intro h19 K20 A21
  have E22 := E5.keep K20
  have F23 := F6.keep K20 (ninS (Ne.symm nsa1) nin0)
  have F24 := F7.keep K20 (ninS (Ne.symm nsa1) nin0)
  have F25 := F8.keep K20 (ninS (Ne.symm nsa1) nin0)
  have F26 := F9.keep K20 (ninS (Ne.symm nsa1) nin0)
  have F27 := F10.keep K20 (ninS (Ne.symm nsa1) nin0)
  have F28 := F11.keep K20 (ninS (Ne.symm nsa1) nin0)
  have F29 := F12.keep K20 (ninS (Ne.symm nsa1) nin0)
  have F30 := F13.keep K20 (ninS (Ne.symm nsa1) nin0)
  have F31 := F14.keep K20 (ninS (Ne.symm nsa1) nin0)
  have V32 := V15.keep K20 (ninS nrs1 nin0)
  have O33 := O16.keep K20 (allS gs1 all0)
  have K34 := K17.trans K20 (allS (Or.inl (by simp)) all0)
  have Z35 : n0 ≤ h19.size := Nat.le_trans Z18 K20.1
  refine WP.aloadN (pc' := 59) d_prog_7_method_35_58 rfl rfl rfl ?_
  refine WP.getF (pc' := 62) d_prog_7_method_35_59 rfl (host := "") (Or.inl (wd54 hw)) Via.refl F24 ?_
  refine WP.iload (pc' := 64) d_prog_7_method_35_62 rfl rfl ?_
  refine WP.iconst (pc' := 65) d_prog_7_method_35_64 rfl (z := 2) rfl ?_
  refine WP.iadd (pc' := 66) d_prog_7_method_35_65 rfl ?_
  refine WP.iloadN (pc' := 67) d_prog_7_method_35_66 rfl rfl ?_
  refine WP.iastoreI (x' := p3) (4 * F + 2) (pc' := 68) d_prog_7_method_35_67 rfl A21 (adds m4 rfl (by omega)) (by omega) gs1 rfl ?_
  intro h36 K37 A38
  have E39 := E22.keep K37
  have F40 := F23.keep K37 (ninS (Ne.symm nsa1) nin0)
  have F41 := F24.keep K37 (ninS (Ne.symm nsa1) nin0)
  have F42 := F25.keep K37 (ninS (Ne.symm nsa1) nin0)
  have F43 := F26.keep K37 (ninS (Ne.symm nsa1) nin0)
  have F44 := F27.keep K37 (ninS (Ne.symm nsa1) nin0)
  have F45 := F28.keep K37 (ninS (Ne.symm nsa1) nin0)
  have F46 := F29.keep K37 (ninS (Ne.symm nsa1) nin0)
  have F47 := F30.keep K37 (ninS (Ne.symm nsa1) nin0)
  have F48 := F31.keep K37 (ninS (Ne.symm nsa1) nin0)
  have V49 := V32.keep K37 (ninS nrs1 nin0)
  have O50 := O33.keep K37 (allS gs1 all0)
  have K51 := K34.trans K37 (allS (Or.inl (by simp)) all0)
  have Z52 : n0 ≤ h36.size := Nat.le_trans Z35 K37.1
  refine WP.aloadN (pc' := 69) d_prog_7_method_35_68 rfl rfl rfl ?_
  refine WP.getF (pc' := 72) d_prog_7_method_35_69 rfl (host := "") (Or.inl (wd54 hw)) Via.refl F41 ?_
  refine WP.iload (pc' := 74) d_prog_7_method_35_72 rfl rfl ?_
  refine WP.iconst (pc' := 75) d_prog_7_method_35_74 rfl (z := 3) rfl ?_
  refine WP.iadd (pc' := 76) d_prog_7_method_35_75 rfl ?_
  refine WP.iload (pc' := 78) d_prog_7_method_35_76 rfl rfl ?_
  refine WP.iastoreI (x' := p4) (4 * F + 3) (pc' := 79) d_prog_7_method_35_78 rfl A38 (adds m4 rfl (by omega)) (by omega) gs1 rfl ?_
  intro h53 K54 A55
  have E56 := E39.keep K54
  have F57 := F40.keep K54 (ninS (Ne.symm nsa1) nin0)
  have F58 := F41.keep K54 (ninS (Ne.symm nsa1) nin0)
  have F59 := F42.keep K54 (ninS (Ne.symm nsa1) nin0)
  have F60 := F43.keep K54 (ninS (Ne.symm nsa1) nin0)
  have F61 := F44.keep K54 (ninS (Ne.symm nsa1) nin0)
  have F62 := F45.keep K54 (ninS (Ne.symm nsa1) nin0)
  have F63 := F46.keep K54 (ninS (Ne.symm nsa1) nin0)
  have F64 := F47.keep K54 (ninS (Ne.symm nsa1) nin0)
  have F65 := F48.keep K54 (ninS (Ne.symm nsa1) nin0)
  have V66 := V49.keep K54 (ninS nrs1 nin0)
  have O67 := O50.keep K54 (allS gs1 all0)
  have K68 := K51.trans K54 (allS (Or.inl (by simp)) all0)
  have Z69 : n0 ≤ h53.size := Nat.le_trans Z52 K54.1
  refine WP.aloadN (pc' := 80) d_prog_7_method_35_79 rfl rfl rfl ?_
  refine WP.dup (pc' := 81) d_prog_7_method_35_80 rfl rfl ?_
  refine WP.getF (pc' := 84) d_prog_7_method_35_81 rfl (host := "") (Or.inl (wd106 hw)) Via.refl F60 ?_
  refine WP.iconst (pc' := 85) d_prog_7_method_35_84 rfl (z := 1) rfl ?_
  refine WP.iadd (pc' := 86) d_prog_7_method_35_85 rfl ?_
  refine WP.putF (pc' := 89) d_prog_7_method_35_86 rfl (host := "") (Or.inl (wd106 hw)) Via.refl F60 E56 (Or.inl (wd107 hw)) (wd45 hw) (ty := .int) (by decide) rfl rfl ga1 ?_
  intro h70 W71
  have Kw72 := Keep.of_wr W71
  have E73 := E56.keep Kw72
  have V74 := V66.keep Kw72 (ninS nra1 nin0)
  have V75 := A55.keep Kw72 (ninS nsa1 nin0)
  have O76 := O67.keep Kw72 (allS ga1 all0)
  have K77 := K68.trans Kw72 (allS (Or.inl (by simp)) all0)
  have Z78 : n0 ≤ h70.size := Nat.le_trans Z69 Kw72.1
  have F79 := F57.other W71 (Or.inr (slot_ne (Or.inl (wd52 hw)) (Or.inl (wd107 hw)) (by decide) (t := (.array .byte)) (t' := .int) (by decide) (by decide)))
  have F80 := F58.other W71 (Or.inr (slot_ne (Or.inl (wd55 hw)) (Or.inl (wd107 hw)) (by decide) (t := (.array .int)) (t' := .int) (by decide) (by decide)))
  have F81 := F59.other W71 (Or.inr (slot_ne (Or.inl (wd62 hw)) (Or.inl (wd107 hw)) (by decide) (t := .int) (t' := .int) (by decide) (by decide)))
  have F82 := F60.same W71
  have F83 := F61.other W71 (Or.inr (slot_ne (Or.inl (wd123 hw)) (Or.inl (wd107 hw)) (by decide) (t := .int) (t' := .int) (by decide) (by decide)))
  have F84 := F62.other W71 (Or.inr (slot_ne (Or.inl (wd125 hw)) (Or.inl (wd107 hw)) (by decide) (t := .int) (t' := .int) (by decide) (by decide)))
  have F85 := F63.other W71 (Or.inr (slot_ne (Or.inl (wd127 hw)) (Or.inl (wd107 hw)) (by decide) (t := .boolean) (t' := .int) (by decide) (by decide)))
  have F86 := F64.other W71 (Or.inr (slot_ne (Or.inl (wd114 hw)) (Or.inl (wd107 hw)) (by decide) (t := (.object "java/lang/String")) (t' := .int) (by decide) (by decide)))
  have F87 := F65.other W71 (Or.inr (slot_ne (Or.inl (wd116 hw)) (Or.inl (wd107 hw)) (by decide) (t := .int) (t' := .int) (by decide) (by decide)))
  exact WP.vret d_prog_7_method_35_89 rfl (by decide) (by decide) ⟨rfl, K77, ⟨⟨ga1, gr1, gs1, nrs1, nra1, nsa1⟩, E73, ⟨F79, F80, F81, F82, F83, F84, F85, F86, F87⟩, V74, V75⟩⟩
theorem d_prog_7_method_24_0 : decode prog_7_method_24_code 0 = .ok (.aload_n 0, 1) := by decide +kernel
theorem d_prog_7_method_24_1 : decode prog_7_method_24_code 1 = .ok (.getfield 114, 3) := by decide +kernel
theorem d_prog_7_method_24_4 : decode prog_7_method_24_code 4 = .ok (.istore_n 3, 1) := by decide +kernel
theorem d_prog_7_method_24_5 : decode prog_7_method_24_code 5 = .ok (.aload_n 0, 1) := by decide +kernel
theorem d_prog_7_method_24_6 : decode prog_7_method_24_code 6 = .ok (.aload_n 1, 1) := by decide +kernel
theorem d_prog_7_method_24_7 : decode prog_7_method_24_code 7 = .ok (.invokevirtual 219, 3) := by decide +kernel
theorem wd63 {Z : State} {a0 : Array Value} (hw : ∀ d ∈ tables_1, d.before a0 Z = true) : (Jvm.Cond.methodLink "com/example/vipool/vipool/http/HttpHead" (219 : Nat) ({ cls := "com/example/vipool/vipool/http/HttpHead", name := "put", desc := "(Ljava/lang/String;)V" } : Jvm.MethodName)).before a0 Z = true := hw _ (List.mem_of_getElem? (i := 63) rfl)
theorem wd66 {Z : State} {a0 : Array Value} (hw : ∀ d ∈ tables_1, d.before a0 Z = true) : (Jvm.Cond.code ({ cls := "com/example/vipool/vipool/http/HttpHead", name := "put", desc := "(Ljava/lang/String;)V" } : Jvm.MethodName) prog_7_method_48_code (4 : Nat) (Option.none : Option Jvm.ClassFile.FieldType)).before a0 Z = true := hw _ (List.mem_of_getElem? (i := 66) rfl)
theorem pd_16 : parseMethodDescriptor "(Ljava/lang/String;)V" = some ⟨[(.object "java/lang/String")], none⟩ := by decide +kernel
theorem wd64 {Z : State} {a0 : Array Value} (hw : ∀ d ∈ tables_1, d.before a0 Z = true) : (Jvm.Cond.instanceMethod ({ cls := "com/example/vipool/vipool/http/HttpHead", name := "put", desc := "(Ljava/lang/String;)V" } : Jvm.MethodName)).before a0 Z = true := hw _ (List.mem_of_getElem? (i := 64) rfl)
theorem wd65 {Z : State} {a0 : Array Value} (hw : ∀ d ∈ tables_1, d.before a0 Z = true) : (Jvm.Cond.privateMethod ({ cls := "com/example/vipool/vipool/http/HttpHead", name := "put", desc := "(Ljava/lang/String;)V" } : Jvm.MethodName)).before a0 Z = true := hw _ (List.mem_of_getElem? (i := 65) rfl)
theorem d_prog_7_method_24_10 : decode prog_7_method_24_code 10 = .ok (.aload_n 0, 1) := by decide +kernel
theorem d_prog_7_method_24_11 : decode prog_7_method_24_code 11 = .ok (.getfield 114, 3) := by decide +kernel
theorem d_prog_7_method_24_14 : decode prog_7_method_24_code 14 = .ok (.istore 4, 2) := by decide +kernel
theorem d_prog_7_method_24_16 : decode prog_7_method_24_code 16 = .ok (.aload_n 0, 1) := by decide +kernel
theorem d_prog_7_method_24_17 : decode prog_7_method_24_code 17 = .ok (.aload_n 2, 1) := by decide +kernel
theorem d_prog_7_method_24_18 : decode prog_7_method_24_code 18 = .ok (.invokevirtual 219, 3) := by decide +kernel
theorem d_prog_7_method_24_21 : decode prog_7_method_24_code 21 = .ok (.aload_n 0, 1) := by decide +kernel
theorem d_prog_7_method_24_22 : decode prog_7_method_24_code 22 = .ok (.iload_n 3, 1) := by decide +kernel
theorem d_prog_7_method_24_23 : decode prog_7_method_24_code 23 = .ok (.iload 4, 2) := by decide +kernel
theorem d_prog_7_method_24_25 : decode prog_7_method_24_code 25 = .ok (.iload 4, 2) := by decide +kernel
theorem d_prog_7_method_24_27 : decode prog_7_method_24_code 27 = .ok (.aload_n 0, 1) := by decide +kernel
theorem d_prog_7_method_24_28 : decode prog_7_method_24_code 28 = .ok (.getfield 114, 3) := by decide +kernel
theorem d_prog_7_method_24_31 : decode prog_7_method_24_code 31 = .ok (.invokevirtual 222, 3) := by decide +kernel
theorem wd102 {Z : State} {a0 : Array Value} (hw : ∀ d ∈ tables_1, d.before a0 Z = true) : (Jvm.Cond.methodLink "com/example/vipool/vipool/http/HttpHead" (222 : Nat) ({ cls := "com/example/vipool/vipool/http/HttpHead", name := "span", desc := "(IIII)V" } : Jvm.MethodName)).before a0 Z = true := hw _ (List.mem_of_getElem? (i := 102) rfl)
theorem wd105 {Z : State} {a0 : Array Value} (hw : ∀ d ∈ tables_1, d.before a0 Z = true) : (Jvm.Cond.code ({ cls := "com/example/vipool/vipool/http/HttpHead", name := "span", desc := "(IIII)V" } : Jvm.MethodName) prog_7_method_35_code (6 : Nat) (Option.none : Option Jvm.ClassFile.FieldType)).before a0 Z = true := hw _ (List.mem_of_getElem? (i := 105) rfl)
theorem pd_17 : parseMethodDescriptor "(IIII)V" = some ⟨[.int, .int, .int, .int], none⟩ := by decide +kernel
theorem wd103 {Z : State} {a0 : Array Value} (hw : ∀ d ∈ tables_1, d.before a0 Z = true) : (Jvm.Cond.instanceMethod ({ cls := "com/example/vipool/vipool/http/HttpHead", name := "span", desc := "(IIII)V" } : Jvm.MethodName)).before a0 Z = true := hw _ (List.mem_of_getElem? (i := 103) rfl)
theorem wd104 {Z : State} {a0 : Array Value} (hw : ∀ d ∈ tables_1, d.before a0 Z = true) : (Jvm.Cond.privateMethod ({ cls := "com/example/vipool/vipool/http/HttpHead", name := "span", desc := "(IIII)V" } : Jvm.MethodName)).before a0 Z = true := hw _ (List.mem_of_getElem? (i := 104) rfl)
theorem d_prog_7_method_24_34 : decode prog_7_method_24_code 34 = .ok (.return_, 1) := by decide +kernel
set_option maxRecDepth 65536 in
set_option maxHeartbeats 40000000 in
theorem m_add {Z : State} {a0 : Array Value} (hw : ∀ d ∈ tables_1, d.before a0 Z = true) (a : Addr) (s1 : Addr) (s2 : Addr) (h0 : Heap) (n0 : Nat) (Z0 : n0 ≤ h0.size) (O0 : Old Z n0 h0) (cs : Int32) (S_CS : Sta Z Z.heap "java/lang/String" "COMPACT_STRINGS" "Z" (.int cs)) (hcs : ¬ cs = 0) (fv : Value) (hfv : fv.isRef = true) (S_FM : Sta Z Z.heap "jdk/internal/util/Preconditions" "SIOOBE_FORMATTER" "Ljava/util/function/BiFunction;" fv) (nr : Nat) (rw sp : Addr) (us fd : Int32) (g e : Nat → Int32) (R0 : Hh Z n0 h0 nr a rw sp us fd g e) (b1 : Addr) (n1 : Nat) (q1 : Nat → Int32) (s1E : Exa Z h0 s1 "java/lang/String") (s1V : Fld Z h0 s1 "java/lang/String" "value" "[B" (.ref b1)) (s1C : Fld Z h0 s1 "java/lang/String" "coder" "B" (.int 0)) (s1A : Ari Z h0 b1 .byte n1 q1) (b2 : Addr) (n2 : Nat) (q2 : Nat → Int32) (s2E : Exa Z h0 s2 "java/lang/String") (s2V : Fld Z h0 s2 "java/lang/String" "value" "[B" (.ref b2)) (s2C : Fld Z h0 s2 "java/lang/String" "coder" "B" (.int 0)) (s2A : Ari Z h0 b2 .byte n2 q2) (n_s1a : s1 ≠ a) (n_s1rw : s1 ≠ rw) (n_s1sp : s1 ≠ sp) (n_b1a : b1 ≠ a) (n_b1rw : b1 ≠ rw) (n_b1sp : b1 ≠ sp) (n_s2a : s2 ≠ a) (n_s2rw : s2 ≠ rw) (n_s2sp : s2 ≠ sp) (n_b2a : b2 ≠ a) (n_b2rw : b2 ≠ rw) (n_b2sp : b2 ≠ sp) (U F : Nat) (hU : us.toInt = (U : Int)) (hs : U + n1 + n2 ≤ nr) (hnr : nr ≤ 16384) (h81 : n1 ≤ 8192) (h82 : n2 ≤ 8192) (hq1 : ∀ i, i < n1 → nar .byte (q1 i) = q1 i) (hq2 : ∀ i, i < n2 → nar .byte (q2 i) = q2 i) (hF : fd.toInt = (F : Int)) (hF7 : F ≤ 6) : ∀ l, Does l Z (⟨"com/example/vipool/vipool/http/HttpHead", "add", "(Ljava/lang/String;Ljava/lang/String;)V"⟩ : MethodName) prog_7_method_24_code 5 none ({ frames := 5, cells := 0, slots := 0, locals := 68 } : Room) n0 #[(.ref a), (.ref s1), (.ref s2)] h0 (fun v h => v = none ∧ Keep h0 h [a, rw, sp] ∧ Hh Z n0 h nr a rw sp (us + (n1 : Nat).toInt32 + (n2 : Nat).toInt32) (fd + 1) (lay (lay g U n1 q1) (U + n1) n2 q2) (sp4 e F us (us + (n1 : Nat).toInt32) (us + (n1 : Nat).toInt32) (us + (n1 : Nat).toInt32 + (n2 : Nat).toInt32))) := by
  intro l
  refine Does.of_wp (plainFor_of_name pn_4) (Ls := #[.val (.ref a), .val (.ref s1), .val (.ref s2), .unset, .unset]) (fun m => by first | (simp [entryFrame, mkF, argsToLocals, Value.category]; done) | rfl | (rcases ref_cases hfv with rfl | ⟨_, rfl⟩ <;> rfl)) ?_
  intro C
  obtain ⟨⟨ga1, gr1, gs1, nrs1, nra1, nsa1⟩, X1, ⟨Fraw_1, Fspans_1, Fused_1, Ffields_1, FsecondEnd_1, FsecondStart_1, Frequest_1, Fmethod_1, Fstatus_1⟩, AR1, AS1⟩ := id R0
  have K0 := Keep.refl h0 [a, rw, sp]
  refine WP.aloadN (pc' := 1) d_prog_7_method_24_0 rfl rfl rfl ?_
  refine WP.getF (pc' := 4) d_prog_7_method_24_1 rfl (host := "") (Or.inl (wd61 hw)) Via.refl Fused_1 ?_
  refine WP.istoreN (pc' := 5) d_prog_7_method_24_4 rfl (Ls' := #[.val (.ref a), .val (.ref s1), .val (.ref s2), .val (.int us), .unset]) rfl ?_
  refine WP.aloadN (pc' := 6) d_prog_7_method_24_5 rfl rfl rfl ?_
  refine WP.aloadN (pc' := 7) d_prog_7_method_24_6 rfl rfl rfl ?_
  refine WP.callP (a := a) (argsL := [(.ref s1)]) (rest := []) (wd := 0) (cl' := 0) (sl' := 0) (pc' := 10) d_prog_7_method_24_7 rfl (wd63 hw) (wd64 hw) (selPriv (wd59 hw) rfl (wd65 hw) (wd64 hw) (by decide)) (wd65 hw) (wd46 hw) (wd66 hw) (by decide) R0.2.1 (m_put hw a s1 h0 n0 Z0 O0 cs S_CS hcs fv hfv S_FM nr rw sp us fd g e R0 b1 n1 q1 s1E s1V s1C s1A n_s1a n_s1rw n_s1sp n_b1a n_b1rw n_b1sp (U) hU (by omega) hnr (by omega) hq1) pd_16 rfl rfl rfl (Nat.le_of_eq rfl) (by decide) (by decide) rfl rfl (by decide) (by decide) ?_
  rintro v h2 ⟨rfl, K2, R2⟩
  have E3 := X1.keep K2
  have V4 := AS1.keep K2 (ninS nsa1 (ninS (Ne.symm nrs1) nin0))
  have E5 := s1E.keep K2
  have F6 := s1V.keep K2 (ninS n_s1a (ninS n_s1rw nin0))
  have F7 := s1C.keep K2 (ninS n_s1a (ninS n_s1rw nin0))
  have V8 := s1A.keep K2 (ninS n_b1a (ninS n_b1rw nin0))
  have E9 := s2E.keep K2
  have F10 := s2V.keep K2 (ninS n_s2a (ninS n_s2rw nin0))
  have F11 := s2C.keep K2 (ninS n_s2a (ninS n_s2rw nin0))
  have V12 := s2A.keep K2 (ninS n_b2a (ninS n_b2rw nin0))
  have O13 := O0.keep K2 (allS ga1 (allS gr1 all0))
  have K14 := K0.trans K2 (allS (Or.inl (by simp)) (allS (Or.inl (by simp)) all0))
  have Z15 : n0 ≤ h2.size := Nat.le_trans Z0 K2.1
  obtain ⟨⟨ga16, gr16, gs16, nrs16, nra16, nsa16⟩, X16, ⟨Fraw_16, Fspans_16, Fused_16, Ffields_16, FsecondEnd_16, FsecondStart_16, Frequest_16, Fmethod_16, Fstatus_16⟩, AR16, AS16⟩ := id R2
  refine WP.castS (st' := []) rfl ?_
  refine WP.aloadN (pc' := 11) d_prog_7_method_24_10 rfl rfl rfl ?_
  refine WP.getF (pc' := 14) d_prog_7_method_24_11 rfl (host := "") (Or.inl (wd61 hw)) Via.refl Fused_16 ?_
  refine WP.istore (pc' := 16) d_prog_7_method_24_14 rfl (Ls' := #[.val (.ref a), .val (.ref s1), .val (.ref s2), .val (.int us), .val (.int (us + (n1 : Nat).toInt32))]) rfl ?_
  refine WP.aloadN (pc' := 17) d_prog_7_method_24_16 rfl rfl rfl ?_
  refine WP.aloadN (pc' := 18) d_prog_7_method_24_17 rfl rfl rfl ?_
  refine WP.callP (a := a) (argsL := [(.ref s2)]) (rest := []) (wd := 0) (cl' := 0) (sl' := 0) (pc' := 21) d_prog_7_method_24_18 rfl (wd63 hw) (wd64 hw) (selPriv (wd59 hw) rfl (wd65 hw) (wd64 hw) (by decide)) (wd65 hw) (wd46 hw) (wd66 hw) (by decide) R2.2.1 (m_put hw a s2 h2 n0 Z15 O13 cs S_CS hcs fv hfv S_FM nr rw sp (us + (n1 : Nat).toInt32) fd (lay g (U) n1 q1) e R2 b2 n2 q2 E9 F10 F11 V12 n_s2a n_s2rw n_s2sp n_b2a n_b2rw n_b2sp (U + n1) (adds hU (natI (by omega)) (by omega)) (by omega) hnr (by omega) hq2) pd_16 rfl rfl rfl (Nat.le_of_eq rfl) (by decide) (by decide) rfl rfl (by decide) (by decide) ?_
  rintro v h17 ⟨rfl, K17, R17⟩
  have E18 := X16.keep K17
  have V19 := AS16.keep K17 (ninS nsa16 (ninS (Ne.symm nrs16) nin0))
  have E20 := E5.keep K17
  have F21 := F6.keep K17 (ninS n_s1a (ninS n_s1rw nin0))
  have F22 := F7.keep K17 (ninS n_s1a (ninS n_s1rw nin0))
  have V23 := V8.keep K17 (ninS n_b1a (ninS n_b1rw nin0))
  have E24 := E9.keep K17
  have F25 := F10.keep K17 (ninS n_s2a (ninS n_s2rw nin0))
  have F26 := F11.keep K17 (ninS n_s2a (ninS n_s2rw nin0))
  have V27 := V12.keep K17 (ninS n_b2a (ninS n_b2rw nin0))
  have O28 := O13.keep K17 (allS ga16 (allS gr16 all0))
  have K29 := K14.trans K17 (allS (Or.inl (by simp)) (allS (Or.inl (by simp)) all0))
  have Z30 : n0 ≤ h17.size := Nat.le_trans Z15 K17.1
  obtain ⟨⟨ga31, gr31, gs31, nrs31, nra31, nsa31⟩, X31, ⟨Fraw_31, Fspans_31, Fused_31, Ffields_31, FsecondEnd_31, FsecondStart_31, Frequest_31, Fmethod_31, Fstatus_31⟩, AR31, AS31⟩ := id R17
  refine WP.castS (st' := []) rfl ?_
  refine WP.aloadN (pc' := 22) d_prog_7_method_24_21 rfl rfl rfl ?_
  refine WP.iloadN (pc' := 23) d_prog_7_method_24_22 rfl rfl ?_
  refine WP.iload (pc' := 25) d_prog_7_method_24_23 rfl rfl ?_
  refine WP.iload (pc' := 27) d_prog_7_method_24_25 rfl rfl ?_
  refine WP.aloadN (pc' := 28) d_prog_7_method_24_27 rfl rfl rfl ?_
  refine WP.getF (pc' := 31) d_prog_7_method_24_28 rfl (host := "") (Or.inl (wd61 hw)) Via.refl Fused_31 ?_
  refine WP.callP (a := a) (argsL := [(.int us), (.int (us + (n1 : Nat).toInt32)), (.int (us + (n1 : Nat).toInt32)), (.int ((us + (n1 : Nat).toInt32) + (n2 : Nat).toInt32))]) (rest := []) (wd := 0) (cl' := 0) (sl' := 0) (pc' := 34) d_prog_7_method_24_31 rfl (wd102 hw) (wd103 hw) (selPriv (wd59 hw) rfl (wd104 hw) (wd103 hw) (by decide)) (wd104 hw) (wd46 hw) (wd105 hw) (by decide) R17.2.1 (m_span hw a us (us + (n1 : Nat).toInt32) (us + (n1 : Nat).toInt32) ((us + (n1 : Nat).toInt32) + (n2 : Nat).toInt32) h17 n0 Z30 O28 nr rw sp ((us + (n1 : Nat).toInt32) + (n2 : Nat).toInt32) fd (lay (lay g (U) n1 q1) (U + n1) n2 q2) e R17 F hF hF7) pd_17 rfl rfl rfl (Nat.le_of_eq rfl) (by decide) (by decide) rfl rfl (by decide) (by decide) ?_
  rintro v h32 ⟨rfl, K32, R32⟩
  have E33 := X31.keep K32
  have E34 := E20.keep K32
  have F35 := F21.keep K32 (ninS n_s1a (ninS n_s1sp nin0))
  have F36 := F22.keep K32 (ninS n_s1a (ninS n_s1sp nin0))
  have V37 := V23.keep K32 (ninS n_b1a (ninS n_b1sp nin0))
  have E38 := E24.keep K32
  have F39 := F25.keep K32 (ninS n_s2a (ninS n_s2sp nin0))
  have F40 := F26.keep K32 (ninS n_s2a (ninS n_s2sp nin0))
  have V41 := V27.keep K32 (ninS n_b2a (ninS n_b2sp nin0))
  have V42 := AR31.keep K32 (ninS nra31 (ninS nrs31 nin0))
  have O43 := O28.keep K32 (allS ga31 (allS gs31 all0))
  have K44 := K29.trans K32 (allS (Or.inl (by simp)) (allS (Or.inl (by simp)) all0))
  have Z45 : n0 ≤ h32.size := Nat.le_trans Z30 K32.1
  refine WP.castS (st' := []) rfl ?_
  exact WP.vret d_prog_7_method_24_34 rfl (by decide) (by decide) ⟨rfl, K44, R32⟩
theorem d_prog_7_method_44_0 : decode prog_7_method_44_code 0 = .ok (.iload_n 1, 1) := by decide +kernel
theorem d_prog_7_method_44_1 : decode prog_7_method_44_code 1 = .ok (.bipush 65, 2) := by decide +kernel
theorem d_prog_7_method_44_3 : decode prog_7_method_44_code 3 = .ok (.if_icmp .lt 9, 3) := by decide +kernel
theorem d_prog_7_method_44_12 : decode prog_7_method_44_code 12 = .ok (.iload_n 1, 1) := by decide +kernel
theorem d_prog_7_method_44_13 : decode prog_7_method_44_code 13 = .ok (.bipush 97, 2) := by decide +kernel
theorem d_prog_7_method_44_15 : decode prog_7_method_44_code 15 = .ok (.if_icmp .lt 13, 3) := by decide +kernel
theorem d_prog_7_method_44_28 : decode prog_7_method_44_code 28 = .ok (.iconst 0, 1) := by decide +kernel
theorem d_prog_7_method_44_29 : decode prog_7_method_44_code 29 = .ok (.istore_n 2, 1) := by decide +kernel
theorem d_prog_7_method_44_30 : decode prog_7_method_44_code 30 = .ok (.iload_n 0, 1) := by decide +kernel
theorem d_prog_7_method_44_31 : decode prog_7_method_44_code 31 = .ok (.iload_n 1, 1) := by decide +kernel
theorem d_prog_7_method_44_32 : decode prog_7_method_44_code 32 = .ok (.if_icmp .eq 18, 3) := by decide +kernel
theorem d_prog_7_method_44_50 : decode prog_7_method_44_code 50 = .ok (.iconst 1, 1) := by decide +kernel
theorem d_prog_7_method_44_51 : decode prog_7_method_44_code 51 = .ok (.goto 4, 3) := by decide +kernel
theorem d_prog_7_method_44_55 : decode prog_7_method_44_code 55 = .ok (.ireturn, 1) := by decide +kernel
theorem d_prog_7_method_44_35 : decode prog_7_method_44_code 35 = .ok (.iload_n 2, 1) := by decide +kernel
theorem d_prog_7_method_44_36 : decode prog_7_method_44_code 36 = .ok (.ifCond .eq 18, 3) := by decide +kernel
theorem d_prog_7_method_44_54 : decode prog_7_method_44_code 54 = .ok (.iconst 0, 1) := by decide +kernel
theorem d_prog_7_method_44_18 : decode prog_7_method_44_code 18 = .ok (.iload_n 1, 1) := by decide +kernel
theorem d_prog_7_method_44_19 : decode prog_7_method_44_code 19 = .ok (.bipush 122, 2) := by decide +kernel
theorem d_prog_7_method_44_21 : decode prog_7_method_44_code 21 = .ok (.if_icmp .gt 7, 3) := by decide +kernel
theorem d_prog_7_method_44_24 : decode prog_7_method_44_code 24 = .ok (.iconst 1, 1) := by decide +kernel
theorem d_prog_7_method_44_25 : decode prog_7_method_44_code 25 = .ok (.goto 4, 3) := by decide +kernel
theorem d_prog_7_method_44_39 : decode prog_7_method_44_code 39 = .ok (.iload_n 0, 1) := by decide +kernel
theorem d_prog_7_method_44_40 : decode prog_7_method_44_code 40 = .ok (.bipush 32, 2) := by decide +kernel
theorem d_prog_7_method_44_42 : decode prog_7_method_44_code 42 = .ok (.ior, 1) := by decide +kernel
theorem d_prog_7_method_44_43 : decode prog_7_method_44_code 43 = .ok (.iload_n 1, 1) := by decide +kernel
theorem d_prog_7_method_44_44 : decode prog_7_method_44_code 44 = .ok (.bipush 32, 2) := by decide +kernel
theorem d_prog_7_method_44_46 : decode prog_7_method_44_code 46 = .ok (.ior, 1) := by decide +kernel
theorem d_prog_7_method_44_47 : decode prog_7_method_44_code 47 = .ok (.if_icmp .ne 7, 3) := by decide +kernel
theorem d_prog_7_method_44_6 : decode prog_7_method_44_code 6 = .ok (.iload_n 1, 1) := by decide +kernel
theorem d_prog_7_method_44_7 : decode prog_7_method_44_code 7 = .ok (.bipush 90, 2) := by decide +kernel
theorem d_prog_7_method_44_9 : decode prog_7_method_44_code 9 = .ok (.if_icmp .le 15, 3) := by decide +kernel
set_option maxRecDepth 65536 in
set_option maxHeartbeats 40000000 in
theorem m_sma {Z : State} {a0 : Array Value} (hw : ∀ d ∈ tables_1, d.before a0 Z = true) (x : Int32) (c : Int32) (h0 : Heap) (n0 : Nat)  : ∀ l, Does l Z (⟨"com/example/vipool/vipool/http/HttpHead", "sameInAnyCase", "(II)Z"⟩ : MethodName) prog_7_method_44_code 3 (some .boolean) ({ frames := 0, cells := 0, slots := 0, locals := 0 } : Room) n0 #[(.int x), (.int c)] h0 (fun v h => ((v = some (.int 1) ∧ SA x c) ∨ (v = some (.int 0) ∧ ¬ SA x c)) ∧ h = h0) := by
  intro l
  refine Does.of_wp (plainFor_of_name pn_4) (Ls := #[.val (.int x), .val (.int c), .unset]) (fun m => by first | (simp [entryFrame, mkF, argsToLocals, Value.category]; done) | rfl | (rcases ref_cases hfv with rfl | ⟨_, rfl⟩ <;> rfl)) ?_
  intro C
  refine WP.iloadN (pc' := 1) d_prog_7_method_44_0 rfl rfl ?_
  refine WP.bipush (pc' := 3) d_prog_7_method_44_1 rfl (z := 65) rfl ?_
  refine WP.icmp_lt (pc1 := 12) (pc2 := 6) d_prog_7_method_44_3 (by decide) (by decide) rfl ?_ ?_
  · intro hc3
    refine WP.iloadN (pc' := 13) d_prog_7_method_44_12 rfl rfl ?_
    refine WP.bipush (pc' := 15) d_prog_7_method_44_13 rfl (z := 97) rfl ?_
    refine WP.icmp_lt (pc1 := 28) (pc2 := 18) d_prog_7_method_44_15 (by decide) (by decide) rfl ?_ ?_
    · intro hc15
      refine WP.iconst (pc' := 29) d_prog_7_method_44_28 rfl (z := 0) rfl ?_
      refine WP.istoreN (pc' := 30) d_prog_7_method_44_29 rfl (Ls' := #[.val (.int x), .val (.int c), .val (.int (0 : Int32))]) rfl ?_
      refine WP.iloadN (pc' := 31) d_prog_7_method_44_30 rfl rfl ?_
      refine WP.iloadN (pc' := 32) d_prog_7_method_44_31 rfl rfl ?_
      refine WP.icmp_eq (pc1 := 50) (pc2 := 35) d_prog_7_method_44_32 (by decide) (by decide) rfl ?_ ?_
      · intro hc32
        refine WP.iconst (pc' := 51) d_prog_7_method_44_50 rfl (z := 1) rfl ?_
        refine WP.goto (pc' := 55) d_prog_7_method_44_51 (by decide) (by decide) ?_
        refine WP.nret (t := .boolean) d_prog_7_method_44_55 rfl (by simp) rfl (by decide) (by decide) ⟨Or.inl ⟨rfl, by unfold SA Lt'; simp only [Int32.lt_iff_toInt_lt, Int32.le_iff_toInt_le, ← Int32.toInt_inj, Int32.reduceToInt] at hc3 hc15 hc32 ⊢; omega⟩, rfl⟩
      · intro hc32
        refine WP.iloadN (pc' := 36) d_prog_7_method_44_35 rfl rfl ?_
        have hc36 : (0 : Int32) = (0 : Int32) := by decide
        refine WP.ifc_eq (pc1 := 54) (pc2 := 39) d_prog_7_method_44_36 (by decide) (by decide) rfl (fun _ => ?_) (fun k => absurd hc36 k)
        refine WP.iconst (pc' := 55) d_prog_7_method_44_54 rfl (z := 0) rfl ?_
        refine WP.nret (t := .boolean) d_prog_7_method_44_55 rfl (by simp) rfl (by decide) (by decide) ⟨Or.inr ⟨rfl, by unfold SA Lt'; simp only [Int32.lt_iff_toInt_lt, Int32.le_iff_toInt_le, ← Int32.toInt_inj, Int32.reduceToInt] at hc3 hc15 hc32 hc36 ⊢; omega⟩, rfl⟩
    · intro hc15
      refine WP.iloadN (pc' := 19) d_prog_7_method_44_18 rfl rfl ?_
      refine WP.bipush (pc' := 21) d_prog_7_method_44_19 rfl (z := 122) rfl ?_
      refine WP.icmp_gt (pc1 := 28) (pc2 := 24) d_prog_7_method_44_21 (by decide) (by decide) rfl ?_ ?_
      · intro hc21
        refine WP.iconst (pc' := 29) d_prog_7_method_44_28 rfl (z := 0) rfl ?_
        refine WP.istoreN (pc' := 30) d_prog_7_method_44_29 rfl (Ls' := #[.val (.int x), .val (.int c), .val (.int (0 : Int32))]) rfl ?_
        refine WP.iloadN (pc' := 31) d_prog_7_method_44_30 rfl rfl ?_
        refine WP.iloadN (pc' := 32) d_prog_7_method_44_31 rfl rfl ?_
        refine WP.icmp_eq (pc1 := 50) (pc2 := 35) d_prog_7_method_44_32 (by decide) (by decide) rfl ?_ ?_
        · intro hc32
          refine WP.iconst (pc' := 51) d_prog_7_method_44_50 rfl (z := 1) rfl ?_
          refine WP.goto (pc' := 55) d_prog_7_method_44_51 (by decide) (by decide) ?_
          refine WP.nret (t := .boolean) d_prog_7_method_44_55 rfl (by simp) rfl (by decide) (by decide) ⟨Or.inl ⟨rfl, by unfold SA Lt'; simp only [Int32.lt_iff_toInt_lt, Int32.le_iff_toInt_le, ← Int32.toInt_inj, Int32.reduceToInt] at hc3 hc15 hc21 hc32 ⊢; omega⟩, rfl⟩
        · intro hc32
          refine WP.iloadN (pc' := 36) d_prog_7_method_44_35 rfl rfl ?_
          have hc36 : (0 : Int32) = (0 : Int32) := by decide
          refine WP.ifc_eq (pc1 := 54) (pc2 := 39) d_prog_7_method_44_36 (by decide) (by decide) rfl (fun _ => ?_) (fun k => absurd hc36 k)
          refine WP.iconst (pc' := 55) d_prog_7_method_44_54 rfl (z := 0) rfl ?_
          refine WP.nret (t := .boolean) d_prog_7_method_44_55 rfl (by simp) rfl (by decide) (by decide) ⟨Or.inr ⟨rfl, by unfold SA Lt'; simp only [Int32.lt_iff_toInt_lt, Int32.le_iff_toInt_le, ← Int32.toInt_inj, Int32.reduceToInt] at hc3 hc15 hc21 hc32 hc36 ⊢; omega⟩, rfl⟩
      · intro hc21
        refine WP.iconst (pc' := 25) d_prog_7_method_44_24 rfl (z := 1) rfl ?_
        refine WP.goto (pc' := 29) d_prog_7_method_44_25 (by decide) (by decide) ?_
        refine WP.istoreN (pc' := 30) d_prog_7_method_44_29 rfl (Ls' := #[.val (.int x), .val (.int c), .val (.int (1 : Int32))]) rfl ?_
        refine WP.iloadN (pc' := 31) d_prog_7_method_44_30 rfl rfl ?_
        refine WP.iloadN (pc' := 32) d_prog_7_method_44_31 rfl rfl ?_
        refine WP.icmp_eq (pc1 := 50) (pc2 := 35) d_prog_7_method_44_32 (by decide) (by decide) rfl ?_ ?_
        · intro hc32
          refine WP.iconst (pc' := 51) d_prog_7_method_44_50 rfl (z := 1) rfl ?_
          refine WP.goto (pc' := 55) d_prog_7_method_44_51 (by decide) (by decide) ?_
          refine WP.nret (t := .boolean) d_prog_7_method_44_55 rfl (by simp) rfl (by decide) (by decide) ⟨Or.inl ⟨rfl, by unfold SA Lt'; simp only [Int32.lt_iff_toInt_lt, Int32.le_iff_toInt_le, ← Int32.toInt_inj, Int32.reduceToInt] at hc3 hc15 hc21 hc32 ⊢; omega⟩, rfl⟩
        · intro hc32
          refine WP.iloadN (pc' := 36) d_prog_7_method_44_35 rfl rfl ?_
          have hc36 : ¬ (1 : Int32) = (0 : Int32) := by decide
          refine WP.ifc_eq (pc1 := 54) (pc2 := 39) d_prog_7_method_44_36 (by decide) (by decide) rfl (fun k => absurd k hc36) (fun _ => ?_)
          refine WP.iloadN (pc' := 40) d_prog_7_method_44_39 rfl rfl ?_
          refine WP.bipush (pc' := 42) d_prog_7_method_44_40 rfl (z := 32) rfl ?_
          refine WP.ior (pc' := 43) d_prog_7_method_44_42 rfl ?_
          refine WP.iloadN (pc' := 44) d_prog_7_method_44_43 rfl rfl ?_
          refine WP.bipush (pc' := 46) d_prog_7_method_44_44 rfl (z := 32) rfl ?_
          refine WP.ior (pc' := 47) d_prog_7_method_44_46 rfl ?_
          refine WP.icmp_ne (pc1 := 54) (pc2 := 50) d_prog_7_method_44_47 (by decide) (by decide) rfl ?_ ?_
          · intro hc47
            refine WP.iconst (pc' := 55) d_prog_7_method_44_54 rfl (z := 0) rfl ?_
            refine WP.nret (t := .boolean) d_prog_7_method_44_55 rfl (by simp) rfl (by decide) (by decide) ⟨Or.inr ⟨rfl, by unfold SA Lt'; simp only [Int32.lt_iff_toInt_lt, Int32.le_iff_toInt_le, ← Int32.toInt_inj, Int32.reduceToInt] at hc3 hc15 hc21 hc32 hc36 hc47 ⊢; omega⟩, rfl⟩
          · intro hc47
            refine WP.iconst (pc' := 51) d_prog_7_method_44_50 rfl (z := 1) rfl ?_
            refine WP.goto (pc' := 55) d_prog_7_method_44_51 (by decide) (by decide) ?_
            refine WP.nret (t := .boolean) d_prog_7_method_44_55 rfl (by simp) rfl (by decide) (by decide) ⟨Or.inl ⟨rfl, by unfold SA Lt'; simp only [Int32.lt_iff_toInt_lt, Int32.le_iff_toInt_le, ← Int32.toInt_inj, Int32.reduceToInt] at hc3 hc15 hc21 hc32 hc36 hc47 ⊢; omega⟩, rfl⟩
  · intro hc3
    refine WP.iloadN (pc' := 7) d_prog_7_method_44_6 rfl rfl ?_
    refine WP.bipush (pc' := 9) d_prog_7_method_44_7 rfl (z := 90) rfl ?_
    refine WP.icmp_le (pc1 := 24) (pc2 := 12) d_prog_7_method_44_9 (by decide) (by decide) rfl ?_ ?_
    · intro hc9
      refine WP.iconst (pc' := 25) d_prog_7_method_44_24 rfl (z := 1) rfl ?_
      refine WP.goto (pc' := 29) d_prog_7_method_44_25 (by decide) (by decide) ?_
      refine WP.istoreN (pc' := 30) d_prog_7_method_44_29 rfl (Ls' := #[.val (.int x), .val (.int c), .val (.int (1 : Int32))]) rfl ?_
      refine WP.iloadN (pc' := 31) d_prog_7_method_44_30 rfl rfl ?_
      refine WP.iloadN (pc' := 32) d_prog_7_method_44_31 rfl rfl ?_
      refine WP.icmp_eq (pc1 := 50) (pc2 := 35) d_prog_7_method_44_32 (by decide) (by decide) rfl ?_ ?_
      · intro hc32
        refine WP.iconst (pc' := 51) d_prog_7_method_44_50 rfl (z := 1) rfl ?_
        refine WP.goto (pc' := 55) d_prog_7_method_44_51 (by decide) (by decide) ?_
        refine WP.nret (t := .boolean) d_prog_7_method_44_55 rfl (by simp) rfl (by decide) (by decide) ⟨Or.inl ⟨rfl, by unfold SA Lt'; simp only [Int32.lt_iff_toInt_lt, Int32.le_iff_toInt_le, ← Int32.toInt_inj, Int32.reduceToInt] at hc3 hc9 hc32 ⊢; omega⟩, rfl⟩
      · intro hc32
        refine WP.iloadN (pc' := 36) d_prog_7_method_44_35 rfl rfl ?_
        have hc36 : ¬ (1 : Int32) = (0 : Int32) := by decide
        refine WP.ifc_eq (pc1 := 54) (pc2 := 39) d_prog_7_method_44_36 (by decide) (by decide) rfl (fun k => absurd k hc36) (fun _ => ?_)
        refine WP.iloadN (pc' := 40) d_prog_7_method_44_39 rfl rfl ?_
        refine WP.bipush (pc' := 42) d_prog_7_method_44_40 rfl (z := 32) rfl ?_
        refine WP.ior (pc' := 43) d_prog_7_method_44_42 rfl ?_
        refine WP.iloadN (pc' := 44) d_prog_7_method_44_43 rfl rfl ?_
        refine WP.bipush (pc' := 46) d_prog_7_method_44_44 rfl (z := 32) rfl ?_
        refine WP.ior (pc' := 47) d_prog_7_method_44_46 rfl ?_
        refine WP.icmp_ne (pc1 := 54) (pc2 := 50) d_prog_7_method_44_47 (by decide) (by decide) rfl ?_ ?_
        · intro hc47
          refine WP.iconst (pc' := 55) d_prog_7_method_44_54 rfl (z := 0) rfl ?_
          refine WP.nret (t := .boolean) d_prog_7_method_44_55 rfl (by simp) rfl (by decide) (by decide) ⟨Or.inr ⟨rfl, by unfold SA Lt'; simp only [Int32.lt_iff_toInt_lt, Int32.le_iff_toInt_le, ← Int32.toInt_inj, Int32.reduceToInt] at hc3 hc9 hc32 hc36 hc47 ⊢; omega⟩, rfl⟩
        · intro hc47
          refine WP.iconst (pc' := 51) d_prog_7_method_44_50 rfl (z := 1) rfl ?_
          refine WP.goto (pc' := 55) d_prog_7_method_44_51 (by decide) (by decide) ?_
          refine WP.nret (t := .boolean) d_prog_7_method_44_55 rfl (by simp) rfl (by decide) (by decide) ⟨Or.inl ⟨rfl, by unfold SA Lt'; simp only [Int32.lt_iff_toInt_lt, Int32.le_iff_toInt_le, ← Int32.toInt_inj, Int32.reduceToInt] at hc3 hc9 hc32 hc36 hc47 ⊢; omega⟩, rfl⟩
    · intro hc9
      refine WP.iloadN (pc' := 13) d_prog_7_method_44_12 rfl rfl ?_
      refine WP.bipush (pc' := 15) d_prog_7_method_44_13 rfl (z := 97) rfl ?_
      refine WP.icmp_lt (pc1 := 28) (pc2 := 18) d_prog_7_method_44_15 (by decide) (by decide) rfl ?_ ?_
      · intro hc15
        refine WP.iconst (pc' := 29) d_prog_7_method_44_28 rfl (z := 0) rfl ?_
        refine WP.istoreN (pc' := 30) d_prog_7_method_44_29 rfl (Ls' := #[.val (.int x), .val (.int c), .val (.int (0 : Int32))]) rfl ?_
        refine WP.iloadN (pc' := 31) d_prog_7_method_44_30 rfl rfl ?_
        refine WP.iloadN (pc' := 32) d_prog_7_method_44_31 rfl rfl ?_
        refine WP.icmp_eq (pc1 := 50) (pc2 := 35) d_prog_7_method_44_32 (by decide) (by decide) rfl ?_ ?_
        · intro hc32
          refine WP.iconst (pc' := 51) d_prog_7_method_44_50 rfl (z := 1) rfl ?_
          refine WP.goto (pc' := 55) d_prog_7_method_44_51 (by decide) (by decide) ?_
          refine WP.nret (t := .boolean) d_prog_7_method_44_55 rfl (by simp) rfl (by decide) (by decide) ⟨Or.inl ⟨rfl, by unfold SA Lt'; simp only [Int32.lt_iff_toInt_lt, Int32.le_iff_toInt_le, ← Int32.toInt_inj, Int32.reduceToInt] at hc3 hc9 hc15 hc32 ⊢; omega⟩, rfl⟩
        · intro hc32
          refine WP.iloadN (pc' := 36) d_prog_7_method_44_35 rfl rfl ?_
          have hc36 : (0 : Int32) = (0 : Int32) := by decide
          refine WP.ifc_eq (pc1 := 54) (pc2 := 39) d_prog_7_method_44_36 (by decide) (by decide) rfl (fun _ => ?_) (fun k => absurd hc36 k)
          refine WP.iconst (pc' := 55) d_prog_7_method_44_54 rfl (z := 0) rfl ?_
          refine WP.nret (t := .boolean) d_prog_7_method_44_55 rfl (by simp) rfl (by decide) (by decide) ⟨Or.inr ⟨rfl, by unfold SA Lt'; simp only [Int32.lt_iff_toInt_lt, Int32.le_iff_toInt_le, ← Int32.toInt_inj, Int32.reduceToInt] at hc3 hc9 hc15 hc32 hc36 ⊢; omega⟩, rfl⟩
      · intro hc15
        refine WP.iloadN (pc' := 19) d_prog_7_method_44_18 rfl rfl ?_
        refine WP.bipush (pc' := 21) d_prog_7_method_44_19 rfl (z := 122) rfl ?_
        refine WP.icmp_gt (pc1 := 28) (pc2 := 24) d_prog_7_method_44_21 (by decide) (by decide) rfl ?_ ?_
        · intro hc21
          refine WP.iconst (pc' := 29) d_prog_7_method_44_28 rfl (z := 0) rfl ?_
          refine WP.istoreN (pc' := 30) d_prog_7_method_44_29 rfl (Ls' := #[.val (.int x), .val (.int c), .val (.int (0 : Int32))]) rfl ?_
          refine WP.iloadN (pc' := 31) d_prog_7_method_44_30 rfl rfl ?_
          refine WP.iloadN (pc' := 32) d_prog_7_method_44_31 rfl rfl ?_
          refine WP.icmp_eq (pc1 := 50) (pc2 := 35) d_prog_7_method_44_32 (by decide) (by decide) rfl ?_ ?_
          · intro hc32
            refine WP.iconst (pc' := 51) d_prog_7_method_44_50 rfl (z := 1) rfl ?_
            refine WP.goto (pc' := 55) d_prog_7_method_44_51 (by decide) (by decide) ?_
            refine WP.nret (t := .boolean) d_prog_7_method_44_55 rfl (by simp) rfl (by decide) (by decide) ⟨Or.inl ⟨rfl, by unfold SA Lt'; simp only [Int32.lt_iff_toInt_lt, Int32.le_iff_toInt_le, ← Int32.toInt_inj, Int32.reduceToInt] at hc3 hc9 hc15 hc21 hc32 ⊢; omega⟩, rfl⟩
          · intro hc32
            refine WP.iloadN (pc' := 36) d_prog_7_method_44_35 rfl rfl ?_
            have hc36 : (0 : Int32) = (0 : Int32) := by decide
            refine WP.ifc_eq (pc1 := 54) (pc2 := 39) d_prog_7_method_44_36 (by decide) (by decide) rfl (fun _ => ?_) (fun k => absurd hc36 k)
            refine WP.iconst (pc' := 55) d_prog_7_method_44_54 rfl (z := 0) rfl ?_
            refine WP.nret (t := .boolean) d_prog_7_method_44_55 rfl (by simp) rfl (by decide) (by decide) ⟨Or.inr ⟨rfl, by unfold SA Lt'; simp only [Int32.lt_iff_toInt_lt, Int32.le_iff_toInt_le, ← Int32.toInt_inj, Int32.reduceToInt] at hc3 hc9 hc15 hc21 hc32 hc36 ⊢; omega⟩, rfl⟩
        · intro hc21
          refine WP.iconst (pc' := 25) d_prog_7_method_44_24 rfl (z := 1) rfl ?_
          refine WP.goto (pc' := 29) d_prog_7_method_44_25 (by decide) (by decide) ?_
          refine WP.istoreN (pc' := 30) d_prog_7_method_44_29 rfl (Ls' := #[.val (.int x), .val (.int c), .val (.int (1 : Int32))]) rfl ?_
          refine WP.iloadN (pc' := 31) d_prog_7_method_44_30 rfl rfl ?_
          refine WP.iloadN (pc' := 32) d_prog_7_method_44_31 rfl rfl ?_
          refine WP.icmp_eq (pc1 := 50) (pc2 := 35) d_prog_7_method_44_32 (by decide) (by decide) rfl ?_ ?_
          · intro hc32
            refine WP.iconst (pc' := 51) d_prog_7_method_44_50 rfl (z := 1) rfl ?_
            refine WP.goto (pc' := 55) d_prog_7_method_44_51 (by decide) (by decide) ?_
            refine WP.nret (t := .boolean) d_prog_7_method_44_55 rfl (by simp) rfl (by decide) (by decide) ⟨Or.inl ⟨rfl, by unfold SA Lt'; simp only [Int32.lt_iff_toInt_lt, Int32.le_iff_toInt_le, ← Int32.toInt_inj, Int32.reduceToInt] at hc3 hc9 hc15 hc21 hc32 ⊢; omega⟩, rfl⟩
          · intro hc32
            refine WP.iloadN (pc' := 36) d_prog_7_method_44_35 rfl rfl ?_
            have hc36 : ¬ (1 : Int32) = (0 : Int32) := by decide
            refine WP.ifc_eq (pc1 := 54) (pc2 := 39) d_prog_7_method_44_36 (by decide) (by decide) rfl (fun k => absurd k hc36) (fun _ => ?_)
            refine WP.iloadN (pc' := 40) d_prog_7_method_44_39 rfl rfl ?_
            refine WP.bipush (pc' := 42) d_prog_7_method_44_40 rfl (z := 32) rfl ?_
            refine WP.ior (pc' := 43) d_prog_7_method_44_42 rfl ?_
            refine WP.iloadN (pc' := 44) d_prog_7_method_44_43 rfl rfl ?_
            refine WP.bipush (pc' := 46) d_prog_7_method_44_44 rfl (z := 32) rfl ?_
            refine WP.ior (pc' := 47) d_prog_7_method_44_46 rfl ?_
            refine WP.icmp_ne (pc1 := 54) (pc2 := 50) d_prog_7_method_44_47 (by decide) (by decide) rfl ?_ ?_
            · intro hc47
              refine WP.iconst (pc' := 55) d_prog_7_method_44_54 rfl (z := 0) rfl ?_
              refine WP.nret (t := .boolean) d_prog_7_method_44_55 rfl (by simp) rfl (by decide) (by decide) ⟨Or.inr ⟨rfl, by unfold SA Lt'; simp only [Int32.lt_iff_toInt_lt, Int32.le_iff_toInt_le, ← Int32.toInt_inj, Int32.reduceToInt] at hc3 hc9 hc15 hc21 hc32 hc36 hc47 ⊢; omega⟩, rfl⟩
            · intro hc47
              refine WP.iconst (pc' := 51) d_prog_7_method_44_50 rfl (z := 1) rfl ?_
              refine WP.goto (pc' := 55) d_prog_7_method_44_51 (by decide) (by decide) ?_
              refine WP.nret (t := .boolean) d_prog_7_method_44_55 rfl (by simp) rfl (by decide) (by decide) ⟨Or.inl ⟨rfl, by unfold SA Lt'; simp only [Int32.lt_iff_toInt_lt, Int32.le_iff_toInt_le, ← Int32.toInt_inj, Int32.reduceToInt] at hc3 hc9 hc15 hc21 hc32 hc36 hc47 ⊢; omega⟩, rfl⟩
theorem subs {p2 p1 : Int32} {A B : Nat} (hA : p1.toInt = (A : Int)) (hB : p2.toInt = (B : Int)) (h : A ≤ B) (hb : B ≤ 16384) : (p2 - p1).toInt = ((B - A : Nat) : Int) := by
  have h1 := c_isub p2 p1
  have h2 := rng32 (p2 - p1)
  omega
theorem d_prog_7_method_43_0 : decode prog_7_method_43_code 0 = .ok (.iload_n 2, 1) := by decide +kernel
theorem d_prog_7_method_43_1 : decode prog_7_method_43_code 1 = .ok (.iload_n 1, 1) := by decide +kernel
theorem d_prog_7_method_43_2 : decode prog_7_method_43_code 2 = .ok (.isub, 1) := by decide +kernel
theorem d_prog_7_method_43_3 : decode prog_7_method_43_code 3 = .ok (.aload_n 3, 1) := by decide +kernel
theorem d_prog_7_method_43_4 : decode prog_7_method_43_code 4 = .ok (.invokevirtual 276, 3) := by decide +kernel
theorem d_prog_7_method_43_7 : decode prog_7_method_43_code 7 = .ok (.if_icmp .eq 5, 3) := by decide +kernel
theorem d_prog_7_method_43_12 : decode prog_7_method_43_code 12 = .ok (.iconst 0, 1) := by decide +kernel
theorem d_prog_7_method_43_13 : decode prog_7_method_43_code 13 = .ok (.istore 4, 2) := by decide +kernel
theorem d_prog_7_method_43_15 : decode prog_7_method_43_code 15 = .ok (.iload 4, 2) := by decide +kernel
theorem d_prog_7_method_43_17 : decode prog_7_method_43_code 17 = .ok (.aload_n 3, 1) := by decide +kernel
theorem d_prog_7_method_43_18 : decode prog_7_method_43_code 18 = .ok (.invokevirtual 276, 3) := by decide +kernel
theorem d_prog_7_method_43_21 : decode prog_7_method_43_code 21 = .ok (.if_icmp .ge 32, 3) := by decide +kernel
theorem d_prog_7_method_43_53 : decode prog_7_method_43_code 53 = .ok (.iconst 1, 1) := by decide +kernel
theorem d_prog_7_method_43_54 : decode prog_7_method_43_code 54 = .ok (.ireturn, 1) := by decide +kernel
theorem d_prog_7_method_43_24 : decode prog_7_method_43_code 24 = .ok (.aload_n 0, 1) := by decide +kernel
theorem d_prog_7_method_43_25 : decode prog_7_method_43_code 25 = .ok (.getfield 11, 3) := by decide +kernel
theorem d_prog_7_method_43_28 : decode prog_7_method_43_code 28 = .ok (.iload_n 1, 1) := by decide +kernel
theorem d_prog_7_method_43_29 : decode prog_7_method_43_code 29 = .ok (.iload 4, 2) := by decide +kernel
theorem d_prog_7_method_43_31 : decode prog_7_method_43_code 31 = .ok (.iadd, 1) := by decide +kernel
theorem d_prog_7_method_43_32 : decode prog_7_method_43_code 32 = .ok (.baload, 1) := by decide +kernel
theorem d_prog_7_method_43_33 : decode prog_7_method_43_code 33 = .ok (.aload_n 3, 1) := by decide +kernel
theorem d_prog_7_method_43_34 : decode prog_7_method_43_code 34 = .ok (.iload 4, 2) := by decide +kernel
theorem d_prog_7_method_43_36 : decode prog_7_method_43_code 36 = .ok (.invokevirtual 279, 3) := by decide +kernel
theorem d_prog_7_method_43_39 : decode prog_7_method_43_code 39 = .ok (.invokestatic 339, 3) := by decide +kernel
theorem wd141 {Z : State} {a0 : Array Value} (hw : ∀ d ∈ tables_1, d.before a0 Z = true) : (Jvm.Cond.methodLink "com/example/vipool/vipool/http/HttpHead" (339 : Nat) ({ cls := "com/example/vipool/vipool/http/HttpHead", name := "sameInAnyCase", desc := "(II)Z" } : Jvm.MethodName)).before a0 Z = true := hw _ (List.mem_of_getElem? (i := 141) rfl)
theorem wd143 {Z : State} {a0 : Array Value} (hw : ∀ d ∈ tables_1, d.before a0 Z = true) : (Jvm.Cond.code ({ cls := "com/example/vipool/vipool/http/HttpHead", name := "sameInAnyCase", desc := "(II)Z" } : Jvm.MethodName) prog_7_method_44_code (3 : Nat) (Option.some Jvm.ClassFile.FieldType.boolean)).before a0 Z = true := hw _ (List.mem_of_getElem? (i := 143) rfl)
theorem pd_18 : parseMethodDescriptor "(II)Z" = some ⟨[.int, .int], some .boolean⟩ := by decide +kernel
theorem wd142 {Z : State} {a0 : Array Value} (hw : ∀ d ∈ tables_1, d.before a0 Z = true) : (Jvm.Cond.static ({ cls := "com/example/vipool/vipool/http/HttpHead", name := "sameInAnyCase", desc := "(II)Z" } : Jvm.MethodName)).before a0 Z = true := hw _ (List.mem_of_getElem? (i := 142) rfl)
theorem d_prog_7_method_43_42 : decode prog_7_method_43_code 42 = .ok (.ifCond .ne 5, 3) := by decide +kernel
theorem d_prog_7_method_43_47 : decode prog_7_method_43_code 47 = .ok (.iinc 4 1, 3) := by decide +kernel
theorem d_prog_7_method_43_50 : decode prog_7_method_43_code 50 = .ok (.goto (-35), 3) := by decide +kernel
theorem d_prog_7_method_43_45 : decode prog_7_method_43_code 45 = .ok (.iconst 0, 1) := by decide +kernel
theorem d_prog_7_method_43_46 : decode prog_7_method_43_code 46 = .ok (.ireturn, 1) := by decide +kernel
theorem d_prog_7_method_43_10 : decode prog_7_method_43_code 10 = .ok (.iconst 0, 1) := by decide +kernel
theorem d_prog_7_method_43_11 : decode prog_7_method_43_code 11 = .ok (.ireturn, 1) := by decide +kernel
set_option maxRecDepth 65536 in
set_option maxHeartbeats 40000000 in
theorem m_eqa {Z : State} {a0 : Array Value} (hw : ∀ d ∈ tables_1, d.before a0 Z = true) (a : Addr) (p1 : Int32) (p2 : Int32) (s : Addr) (h0 : Heap) (n0 : Nat) (O0 : Old Z n0 h0) (cs : Int32) (S_CS : Sta Z Z.heap "java/lang/String" "COMPACT_STRINGS" "Z" (.int cs)) (hcs : ¬ cs = 0) (fv : Value) (hfv : fv.isRef = true) (S_FM : Sta Z Z.heap "jdk/internal/util/Preconditions" "SIOOBE_FORMATTER" "Ljava/util/function/BiFunction;" fv) (nr : Nat) (rw sp : Addr) (us fd : Int32) (g e : Nat → Int32) (R0 : Hh Z n0 h0 nr a rw sp us fd g e) (b : Addr) (n : Nat) (q : Nat → Int32) (sE : Exa Z h0 s "java/lang/String") (sV : Fld Z h0 s "java/lang/String" "value" "[B" (.ref b)) (sC : Fld Z h0 s "java/lang/String" "coder" "B" (.int 0)) (sA : Ari Z h0 b .byte n q) (hn : n ≤ 8192) (hnr : nr ≤ 16384) (A B : Nat) (hA : p1.toInt = (A : Int)) (hB : p2.toInt = (B : Int)) (hAB : A ≤ B) (hB5 : B ≤ nr) : ∀ l, Does l Z (⟨"com/example/vipool/vipool/http/HttpHead", "equalsInAnyCase", "(IILjava/lang/String;)Z"⟩ : MethodName) prog_7_method_43_code 5 (some .boolean) ({ frames := 4, cells := 0, slots := 0, locals := 54 } : Room) n0 #[(.ref a), (.int p1), (.int p2), (.ref s)] h0 (fun v h => ((v = some (.int 1) ∧ NM g A B n q) ∨ (v = some (.int 0) ∧ ¬ NM g A B n q)) ∧ h = h0) := by
  intro l
  refine Does.of_wp (plainFor_of_name pn_4) (Ls := #[.val (.ref a), .val (.int p1), .val (.int p2), .val (.ref s), .unset]) (fun m => by first | (simp [entryFrame, mkF, argsToLocals, Value.category]; done) | rfl | (rcases ref_cases hfv with rfl | ⟨_, rfl⟩ <;> rfl)) ?_
  intro C
  obtain ⟨⟨ga1, gr1, gs1, nrs1, nra1, nsa1⟩, X1, ⟨Fraw_1, Fspans_1, Fused_1, Ffields_1, FsecondEnd_1, FsecondStart_1, Frequest_1, Fmethod_1, Fstatus_1⟩, AR1, AS1⟩ := id R0
  refine WP.iloadN (pc' := 1) d_prog_7_method_43_0 rfl rfl ?_
  refine WP.iloadN (pc' := 2) d_prog_7_method_43_1 rfl rfl ?_
  refine WP.isub (pc' := 3) d_prog_7_method_43_2 rfl ?_
  refine WP.aloadN (pc' := 4) d_prog_7_method_43_3 rfl rfl rfl ?_
  refine WP.callV (a := s) (K := "java/lang/String") (argsL := []) (rest := [(.int (p2 - p1))]) (wd := 1) (cl' := 0) (sl' := 0) (pc' := 7) d_prog_7_method_43_4 rfl (wd67 hw) (wd68 hw) (nfS (wd70 hw) rfl) (wd70 hw) (wd69 hw) (wd2 hw) (wd71 hw) (by decide) sE (s_len hw s h0 n0 sE sC cs (S_CS.ext O0.2) hcs b sV n q sA (by omega)) pd_13 rfl rfl rfl (Nat.le_of_eq rfl) (by decide) (by decide) rfl rfl (by decide) (by decide) ?_
  rintro v hh2 ⟨rfl, he2⟩
  rw [he2]
  refine WP.castS (st' := [(.int (n : Nat).toInt32), (.int (p2 - p1))]) rfl ?_
  refine WP.icmp_eq (pc1 := 12) (pc2 := 10) d_prog_7_method_43_7 (by decide) (by decide) rfl ?_ ?_
  · intro hc7
    refine WP.iconst (pc' := 13) d_prog_7_method_43_12 rfl (z := 0) rfl ?_
    refine WP.istore (pc' := 15) d_prog_7_method_43_13 rfl (Ls' := #[.val (.ref a), .val (.int p1), .val (.int p2), .val (.ref s), .val (.int (0 : Int32))]) rfl ?_
    have hBA : B - A = n := by have := congrArg Int32.toInt hc7; rw [subs hA hB hAB (Nat.le_trans hB5 hnr), natI (by omega)] at this; omega
    have loop : ∀ (k I : Nat) (i : Int32), i.toInt = (I : Int) → I ≤ n → n - I < k → (∀ j, j < I → SA (g (A + j)) (chv (q j))) → WP C Z prog_7_method_43_code 5 "com/example/vipool/vipool/http/HttpHead" (some .boolean) "equalsInAnyCase" ({ frames := 4, cells := 0, slots := 0, locals := 54 } : Room) n0 (fun v h => ((v = some (.int 1) ∧ NM g A B n q) ∨ (v = some (.int 0) ∧ ¬ NM g A B n q)) ∧ h = h0) 0 0 h0 15 #[.val (.ref a), .val (.int p1), .val (.int p2), .val (.ref s), .val (.int i)] [] := by
      intro k
      induction k with
      | zero => intro I i h1 h2 h3; omega
      | succ k IH =>
        intro I i hi hI hk hg
        refine WP.iload (pc' := 17) d_prog_7_method_43_15 rfl rfl ?_
        refine WP.aloadN (pc' := 18) d_prog_7_method_43_17 rfl rfl rfl ?_
        refine WP.callV (a := s) (K := "java/lang/String") (argsL := []) (rest := [(.int i)]) (wd := 1) (cl' := 0) (sl' := 0) (pc' := 21) d_prog_7_method_43_18 rfl (wd67 hw) (wd68 hw) (nfS (wd70 hw) rfl) (wd70 hw) (wd69 hw) (wd2 hw) (wd71 hw) (by decide) sE (s_len hw s h0 n0 sE sC cs (S_CS.ext O0.2) hcs b sV n q sA (by omega)) pd_13 rfl rfl rfl (Nat.le_of_eq rfl) (by decide) (by decide) rfl rfl (by decide) (by decide) ?_
        rintro v hh3 ⟨rfl, he3⟩
        rw [he3]
        refine WP.castS (st' := [(.int (n : Nat).toInt32), (.int i)]) rfl ?_
        refine WP.icmp_ge (pc1 := 53) (pc2 := 24) d_prog_7_method_43_21 (by decide) (by decide) rfl ?_ ?_
        · intro hc21
          refine WP.iconst (pc' := 54) d_prog_7_method_43_53 rfl (z := 1) rfl ?_
          refine WP.nret (t := .boolean) d_prog_7_method_43_54 rfl (by simp) rfl (by decide) (by decide) ⟨Or.inl ⟨rfl, hBA, fun j hj => hg j (by rw [Int32.lt_iff_toInt_lt, natI (by omega)] at hc21; omega)⟩, rfl⟩
        · intro hc21
          have lt1 : I < n := by rw [Int32.lt_iff_toInt_lt, natI (by omega)] at hc21; omega
          refine WP.aloadN (pc' := 25) d_prog_7_method_43_24 rfl rfl rfl ?_
          refine WP.getF (pc' := 28) d_prog_7_method_43_25 rfl (host := "") (Or.inl (wd51 hw)) Via.refl Fraw_1 ?_
          refine WP.iloadN (pc' := 29) d_prog_7_method_43_28 rfl rfl ?_
          refine WP.iload (pc' := 31) d_prog_7_method_43_29 rfl rfl ?_
          refine WP.iadd (pc' := 32) d_prog_7_method_43_31 rfl ?_
          refine WP.baloadI (A + I) (pc' := 33) d_prog_7_method_43_32 rfl AR1 (adds hA hi (by omega)) (by omega) rfl ?_
          refine WP.aloadN (pc' := 34) d_prog_7_method_43_33 rfl rfl rfl ?_
          refine WP.iload (pc' := 36) d_prog_7_method_43_34 rfl rfl ?_
          refine WP.callV (a := s) (K := "java/lang/String") (argsL := [(.int i)]) (rest := [(.int (g (A + I)))]) (wd := 1) (cl' := 0) (sl' := 0) (pc' := 39) d_prog_7_method_43_36 rfl (wd81 hw) (wd82 hw) (nfS (wd84 hw) rfl) (wd84 hw) (wd83 hw) (wd2 hw) (wd85 hw) (by decide) sE (s_cha hw s i h0 n0 sE sC cs (S_CS.ext O0.2) hcs b sV n q sA (by omega) fv hfv (S_FM.ext O0.2) I hi lt1) pd_15 rfl rfl rfl (Nat.le_of_eq rfl) (by decide) (by decide) rfl rfl (by decide) (by decide) ?_
          rintro v hh4 ⟨rfl, he4⟩
          rw [he4]
          refine WP.castS (st' := [(.int (chv (q I))), (.int (g (A + I)))]) rfl ?_
          refine WP.callS (argsL := [(.int (g (A + I))), (.int (chv (q I)))]) (rest := []) (wd := 0) (cl' := 0) (sl' := 0) (pc' := 42) d_prog_7_method_43_39 rfl (wd141 hw) (wd142 hw) (wd46 hw) (wd143 hw) (by decide) (m_sma hw (g (A + I)) (chv (q I)) h0 n0) pd_18 rfl rfl rfl (Nat.le_of_eq rfl) (by decide) (by decide) rfl rfl (by decide) (by decide) ?_
          rintro v hh5 ⟨⟨rfl, qa5⟩ | ⟨rfl, qa5⟩, he5⟩ <;> rw [he5]
          · skip
            refine WP.castS (st' := [(.int (1 : Int32))]) rfl ?_
            have hc42 : ¬ (1 : Int32) = (0 : Int32) := by decide
            refine WP.ifc_ne (pc1 := 47) (pc2 := 45) d_prog_7_method_43_42 (by decide) (by decide) rfl (fun _ => ?_) (fun k => absurd k hc42)
            refine WP.iinc (pc' := 50) d_prog_7_method_43_47 rfl rfl (z := (i + (1 : Int32))) rfl (Ls' := #[.val (.ref a), .val (.int p1), .val (.int p2), .val (.ref s), .val (.int (i + (1 : Int32)))]) rfl ?_
            refine WP.goto (pc' := 15) d_prog_7_method_43_50 (by decide) (by decide) ?_
            refine IH (I + 1) _ (adds hi rfl (by omega)) (by omega) (by omega) fun j hj => ?_
            by_cases z : j = I
            · rw [z]; exact qa5
            · exact hg j (by omega)
          · skip
            refine WP.castS (st' := [(.int (0 : Int32))]) rfl ?_
            have hc42 : (0 : Int32) = (0 : Int32) := by decide
            refine WP.ifc_ne (pc1 := 47) (pc2 := 45) d_prog_7_method_43_42 (by decide) (by decide) rfl (fun k => absurd hc42 k) (fun _ => ?_)
            refine WP.iconst (pc' := 46) d_prog_7_method_43_45 rfl (z := 0) rfl ?_
            refine WP.nret (t := .boolean) d_prog_7_method_43_46 rfl (by simp) rfl (by decide) (by decide) ⟨Or.inr ⟨rfl, fun z => qa5 (z.2 I lt1)⟩, rfl⟩
    exact loop (n + 1) 0 0 rfl (by omega) (by omega) fun j hj => absurd hj (by omega)
  · intro hc7
    refine WP.iconst (pc' := 11) d_prog_7_method_43_10 rfl (z := 0) rfl ?_
    refine WP.nret (t := .boolean) d_prog_7_method_43_11 rfl (by simp) rfl (by decide) (by decide) ⟨Or.inr ⟨rfl, fun z => hc7 (Int32.toInt_inj.mp (by rw [subs hA hB hAB (Nat.le_trans hB5 hnr), z.1, natI (by omega)]))⟩, rfl⟩
theorem d_prog_7_method_42_0 : decode prog_7_method_42_code 0 = .ok (.aload_n 0, 1) := by decide +kernel
theorem d_prog_7_method_42_1 : decode prog_7_method_42_code 1 = .ok (.getfield 15, 3) := by decide +kernel
theorem d_prog_7_method_42_4 : decode prog_7_method_42_code 4 = .ok (.iload_n 1, 1) := by decide +kernel
theorem d_prog_7_method_42_5 : decode prog_7_method_42_code 5 = .ok (.iconst 4, 1) := by decide +kernel
theorem d_prog_7_method_42_6 : decode prog_7_method_42_code 6 = .ok (.imul, 1) := by decide +kernel
theorem d_prog_7_method_42_7 : decode prog_7_method_42_code 7 = .ok (.iaload, 1) := by decide +kernel
theorem d_prog_7_method_42_8 : decode prog_7_method_42_code 8 = .ok (.istore_n 3, 1) := by decide +kernel
theorem d_prog_7_method_42_9 : decode prog_7_method_42_code 9 = .ok (.iload_n 3, 1) := by decide +kernel
theorem d_prog_7_method_42_10 : decode prog_7_method_42_code 10 = .ok (.iconst (-1), 1) := by decide +kernel
theorem d_prog_7_method_42_11 : decode prog_7_method_42_code 11 = .ok (.if_icmp .eq 26, 3) := by decide +kernel
theorem d_prog_7_method_42_14 : decode prog_7_method_42_code 14 = .ok (.aload_n 0, 1) := by decide +kernel
theorem d_prog_7_method_42_15 : decode prog_7_method_42_code 15 = .ok (.iload_n 3, 1) := by decide +kernel
theorem d_prog_7_method_42_16 : decode prog_7_method_42_code 16 = .ok (.aload_n 0, 1) := by decide +kernel
theorem d_prog_7_method_42_17 : decode prog_7_method_42_code 17 = .ok (.getfield 15, 3) := by decide +kernel
theorem d_prog_7_method_42_20 : decode prog_7_method_42_code 20 = .ok (.iload_n 1, 1) := by decide +kernel
theorem d_prog_7_method_42_21 : decode prog_7_method_42_code 21 = .ok (.iconst 4, 1) := by decide +kernel
theorem d_prog_7_method_42_22 : decode prog_7_method_42_code 22 = .ok (.imul, 1) := by decide +kernel
theorem d_prog_7_method_42_23 : decode prog_7_method_42_code 23 = .ok (.iconst 1, 1) := by decide +kernel
theorem d_prog_7_method_42_24 : decode prog_7_method_42_code 24 = .ok (.iadd, 1) := by decide +kernel
theorem d_prog_7_method_42_25 : decode prog_7_method_42_code 25 = .ok (.iaload, 1) := by decide +kernel
theorem d_prog_7_method_42_26 : decode prog_7_method_42_code 26 = .ok (.aload_n 2, 1) := by decide +kernel
theorem d_prog_7_method_42_27 : decode prog_7_method_42_code 27 = .ok (.invokevirtual 196, 3) := by decide +kernel
theorem wd137 {Z : State} {a0 : Array Value} (hw : ∀ d ∈ tables_1, d.before a0 Z = true) : (Jvm.Cond.methodLink "com/example/vipool/vipool/http/HttpHead" (196 : Nat) ({ cls := "com/example/vipool/vipool/http/HttpHead", name := "equalsInAnyCase", desc := "(IILjava/lang/String;)Z" } : Jvm.MethodName)).before a0 Z = true := hw _ (List.mem_of_getElem? (i := 137) rfl)
theorem wd140 {Z : State} {a0 : Array Value} (hw : ∀ d ∈ tables_1, d.before a0 Z = true) : (Jvm.Cond.code ({ cls := "com/example/vipool/vipool/http/HttpHead", name := "equalsInAnyCase", desc := "(IILjava/lang/String;)Z" } : Jvm.MethodName) prog_7_method_43_code (5 : Nat) (Option.some Jvm.ClassFile.FieldType.boolean)).before a0 Z = true := hw _ (List.mem_of_getElem? (i := 140) rfl)
theorem pd_19 : parseMethodDescriptor "(IILjava/lang/String;)Z" = some ⟨[.int, .int, (.object "java/lang/String")], some .boolean⟩ := by decide +kernel
theorem wd138 {Z : State} {a0 : Array Value} (hw : ∀ d ∈ tables_1, d.before a0 Z = true) : (Jvm.Cond.instanceMethod ({ cls := "com/example/vipool/vipool/http/HttpHead", name := "equalsInAnyCase", desc := "(IILjava/lang/String;)Z" } : Jvm.MethodName)).before a0 Z = true := hw _ (List.mem_of_getElem? (i := 138) rfl)
theorem wd139 {Z : State} {a0 : Array Value} (hw : ∀ d ∈ tables_1, d.before a0 Z = true) : (Jvm.Cond.privateMethod ({ cls := "com/example/vipool/vipool/http/HttpHead", name := "equalsInAnyCase", desc := "(IILjava/lang/String;)Z" } : Jvm.MethodName)).before a0 Z = true := hw _ (List.mem_of_getElem? (i := 139) rfl)
theorem d_prog_7_method_42_30 : decode prog_7_method_42_code 30 = .ok (.ifCond .eq 7, 3) := by decide +kernel
theorem d_prog_7_method_42_33 : decode prog_7_method_42_code 33 = .ok (.iconst 1, 1) := by decide +kernel
theorem d_prog_7_method_42_34 : decode prog_7_method_42_code 34 = .ok (.goto 4, 3) := by decide +kernel
theorem d_prog_7_method_42_38 : decode prog_7_method_42_code 38 = .ok (.ireturn, 1) := by decide +kernel
theorem d_prog_7_method_42_37 : decode prog_7_method_42_code 37 = .ok (.iconst 0, 1) := by decide +kernel
set_option maxRecDepth 65536 in
set_option maxHeartbeats 40000000 in
theorem m_nmd {Z : State} {a0 : Array Value} (hw : ∀ d ∈ tables_1, d.before a0 Z = true) (a : Addr) (i : Int32) (s : Addr) (h0 : Heap) (n0 : Nat) (O0 : Old Z n0 h0) (cs : Int32) (S_CS : Sta Z Z.heap "java/lang/String" "COMPACT_STRINGS" "Z" (.int cs)) (hcs : ¬ cs = 0) (fv : Value) (hfv : fv.isRef = true) (S_FM : Sta Z Z.heap "jdk/internal/util/Preconditions" "SIOOBE_FORMATTER" "Ljava/util/function/BiFunction;" fv) (nr : Nat) (rw sp : Addr) (us fd : Int32) (g e : Nat → Int32) (R0 : Hh Z n0 h0 nr a rw sp us fd g e) (b : Addr) (n : Nat) (q : Nat → Int32) (sE : Exa Z h0 s "java/lang/String") (sV : Fld Z h0 s "java/lang/String" "value" "[B" (.ref b)) (sC : Fld Z h0 s "java/lang/String" "coder" "B" (.int 0)) (sA : Ari Z h0 b .byte n q) (hn : n ≤ 8192) (hnr : nr ≤ 16384) (I A B : Nat) (hi : i.toInt = (I : Int)) (hI : I ≤ 6) (hA : (e (4 * I)).toInt = (A : Int)) (hB : (e (4 * I + 1)).toInt = (B : Int)) (hAB : A ≤ B) (hB5 : B ≤ nr) : ∀ l, Does l Z (⟨"com/example/vipool/vipool/http/HttpHead", "named", "(ILjava/lang/String;)Z"⟩ : MethodName) prog_7_method_42_code 4 (some .boolean) ({ frames := 5, cells := 0, slots := 0, locals := 70 } : Room) n0 #[(.ref a), (.int i), (.ref s)] h0 (fun v h => ((v = some (.int 1) ∧ NM g A B n q) ∨ (v = some (.int 0) ∧ ¬ NM g A B n q)) ∧ h = h0) := by
  intro l
  refine Does.of_wp (plainFor_of_name pn_4) (Ls := #[.val (.ref a), .val (.int i), .val (.ref s), .unset]) (fun m => by first | (simp [entryFrame, mkF, argsToLocals, Value.category]; done) | rfl | (rcases ref_cases hfv with rfl | ⟨_, rfl⟩ <;> rfl)) ?_
  intro C
  obtain ⟨⟨ga1, gr1, gs1, nrs1, nra1, nsa1⟩, X1, ⟨Fraw_1, Fspans_1, Fused_1, Ffields_1, FsecondEnd_1, FsecondStart_1, Frequest_1, Fmethod_1, Fstatus_1⟩, AR1, AS1⟩ := id R0
  have m4 := mul4 hi (by omega)
  refine WP.aloadN (pc' := 1) d_prog_7_method_42_0 rfl rfl rfl ?_
  refine WP.getF (pc' := 4) d_prog_7_method_42_1 rfl (host := "") (Or.inl (wd54 hw)) Via.refl Fspans_1 ?_
  refine WP.iloadN (pc' := 5) d_prog_7_method_42_4 rfl rfl ?_
  refine WP.iconst (pc' := 6) d_prog_7_method_42_5 rfl (z := 4) rfl ?_
  refine WP.imul (pc' := 7) d_prog_7_method_42_6 rfl ?_
  refine WP.ialoadI (4 * I) (pc' := 8) d_prog_7_method_42_7 rfl AS1 m4 (by omega) rfl ?_
  refine WP.istoreN (pc' := 9) d_prog_7_method_42_8 rfl (Ls' := #[.val (.ref a), .val (.int i), .val (.ref s), .val (.int (e (4 * I)))]) rfl ?_
  refine WP.iloadN (pc' := 10) d_prog_7_method_42_9 rfl rfl ?_
  refine WP.iconst (pc' := 11) d_prog_7_method_42_10 rfl (z := -1) rfl ?_
  have hc11 : ¬ (e (4 * I)) = (-1 : Int32) := fun z => by rw [z] at hA; have e1 : (-1 : Int32).toInt = -1 := rfl; omega
  refine WP.icmp_eq (pc1 := 37) (pc2 := 14) d_prog_7_method_42_11 (by decide) (by decide) rfl (fun k => absurd k hc11) (fun _ => ?_)
  refine WP.aloadN (pc' := 15) d_prog_7_method_42_14 rfl rfl rfl ?_
  refine WP.iloadN (pc' := 16) d_prog_7_method_42_15 rfl rfl ?_
  refine WP.aloadN (pc' := 17) d_prog_7_method_42_16 rfl rfl rfl ?_
  refine WP.getF (pc' := 20) d_prog_7_method_42_17 rfl (host := "") (Or.inl (wd54 hw)) Via.refl Fspans_1 ?_
  refine WP.iloadN (pc' := 21) d_prog_7_method_42_20 rfl rfl ?_
  refine WP.iconst (pc' := 22) d_prog_7_method_42_21 rfl (z := 4) rfl ?_
  refine WP.imul (pc' := 23) d_prog_7_method_42_22 rfl ?_
  refine WP.iconst (pc' := 24) d_prog_7_method_42_23 rfl (z := 1) rfl ?_
  refine WP.iadd (pc' := 25) d_prog_7_method_42_24 rfl ?_
  refine WP.ialoadI (4 * I + 1) (pc' := 26) d_prog_7_method_42_25 rfl AS1 (adds m4 rfl (by omega)) (by omega) rfl ?_
  refine WP.aloadN (pc' := 27) d_prog_7_method_42_26 rfl rfl rfl ?_
  refine WP.callP (a := a) (argsL := [(.int (e (4 * I))), (.int (e (4 * I + 1))), (.ref s)]) (rest := []) (wd := 0) (cl' := 0) (sl' := 0) (pc' := 30) d_prog_7_method_42_27 rfl (wd137 hw) (wd138 hw) (selPriv (wd59 hw) rfl (wd139 hw) (wd138 hw) (by decide)) (wd139 hw) (wd46 hw) (wd140 hw) (by decide) R0.2.1 (m_eqa hw a (e (4 * I)) (e (4 * I + 1)) s h0 n0 O0 cs S_CS hcs fv hfv S_FM nr rw sp us fd g e R0 b n q sE sV sC sA hn hnr A B hA hB hAB hB5) pd_19 rfl rfl rfl (Nat.le_of_eq rfl) (by decide) (by decide) rfl rfl (by decide) (by decide) ?_
  rintro v hh2 ⟨⟨rfl, qn2⟩ | ⟨rfl, qn2⟩, he2⟩ <;> rw [he2]
  · skip
    refine WP.castS (st' := [(.int (1 : Int32))]) rfl ?_
    have hc30 : ¬ (1 : Int32) = (0 : Int32) := by decide
    refine WP.ifc_eq (pc1 := 37) (pc2 := 33) d_prog_7_method_42_30 (by decide) (by decide) rfl (fun k => absurd k hc30) (fun _ => ?_)
    refine WP.iconst (pc' := 34) d_prog_7_method_42_33 rfl (z := 1) rfl ?_
    refine WP.goto (pc' := 38) d_prog_7_method_42_34 (by decide) (by decide) ?_
    refine WP.nret (t := .boolean) d_prog_7_method_42_38 rfl (by simp) rfl (by decide) (by decide) ⟨Or.inl ⟨rfl, qn2⟩, rfl⟩
  · skip
    refine WP.castS (st' := [(.int (0 : Int32))]) rfl ?_
    have hc30 : (0 : Int32) = (0 : Int32) := by decide
    refine WP.ifc_eq (pc1 := 37) (pc2 := 33) d_prog_7_method_42_30 (by decide) (by decide) rfl (fun _ => ?_) (fun k => absurd hc30 k)
    refine WP.iconst (pc' := 38) d_prog_7_method_42_37 rfl (z := 0) rfl ?_
    refine WP.nret (t := .boolean) d_prog_7_method_42_38 rfl (by simp) rfl (by decide) (by decide) ⟨Or.inr ⟨rfl, qn2⟩, rfl⟩
def maxI (x y : Int32) : Int32 := if x < y then y else x
def minI (x y : Int32) : Int32 := if y < x then y else x
theorem minI_v (x y : Int32) : (minI x y).toInt = min x.toInt y.toInt := by
  unfold minI
  split <;> rename_i h <;> rw [Int32.lt_iff_toInt_lt] at h <;> omega
theorem d_jdk_29_method_65_0 : decode jdk_29_method_65_code 0 = .ok (.iload_n 0, 1) := by decide +kernel
theorem d_jdk_29_method_65_1 : decode jdk_29_method_65_code 1 = .ok (.iload_n 1, 1) := by decide +kernel
theorem d_jdk_29_method_65_2 : decode jdk_29_method_65_code 2 = .ok (.if_icmp .lt 7, 3) := by decide +kernel
theorem d_jdk_29_method_65_9 : decode jdk_29_method_65_code 9 = .ok (.iload_n 1, 1) := by decide +kernel
theorem d_jdk_29_method_65_10 : decode jdk_29_method_65_code 10 = .ok (.ireturn, 1) := by decide +kernel
theorem d_jdk_29_method_65_5 : decode jdk_29_method_65_code 5 = .ok (.iload_n 0, 1) := by decide +kernel
theorem d_jdk_29_method_65_6 : decode jdk_29_method_65_code 6 = .ok (.goto 4, 3) := by decide +kernel
set_option maxRecDepth 65536 in
set_option maxHeartbeats 40000000 in
theorem m_maxI {Z : State} {a0 : Array Value} (hw : ∀ d ∈ tables_1, d.before a0 Z = true) (x : Int32) (y : Int32) (h0 : Heap) (n0 : Nat)  : ∀ l, Does l Z (⟨"java/lang/Math", "max", "(II)I"⟩ : MethodName) jdk_29_method_65_code 2 (some .int) ({ frames := 0, cells := 0, slots := 0, locals := 0 } : Room) n0 #[(.int x), (.int y)] h0 (fun v h => v = some (.int (maxI x y)) ∧ h = h0) := by
  intro l
  refine Does.of_wp (Jvm.Free.JP.mathPlain rfl (by decide +kernel)) (Ls := #[.val (.int x), .val (.int y)]) (fun m => by first | (simp [entryFrame, mkF, argsToLocals, Value.category]; done) | rfl | (rcases ref_cases hfv with rfl | ⟨_, rfl⟩ <;> rfl)) ?_
  intro C
  refine WP.iloadN (pc' := 1) d_jdk_29_method_65_0 rfl rfl ?_
  refine WP.iloadN (pc' := 2) d_jdk_29_method_65_1 rfl rfl ?_
  refine WP.icmp_lt (pc1 := 9) (pc2 := 5) d_jdk_29_method_65_2 (by decide) (by decide) rfl ?_ ?_
  · intro hc2
    refine WP.iloadN (pc' := 10) d_jdk_29_method_65_9 rfl rfl ?_
    refine WP.iret d_jdk_29_method_65_10 rfl (by decide) (by decide) ⟨by unfold maxI; rw [if_pos hc2], rfl⟩
  · intro hc2
    refine WP.iloadN (pc' := 6) d_jdk_29_method_65_5 rfl rfl ?_
    refine WP.goto (pc' := 10) d_jdk_29_method_65_6 (by decide) (by decide) ?_
    refine WP.iret d_jdk_29_method_65_10 rfl (by decide) (by decide) ⟨by unfold maxI; rw [if_neg hc2], rfl⟩
theorem d_jdk_29_method_69_0 : decode jdk_29_method_69_code 0 = .ok (.iload_n 0, 1) := by decide +kernel
theorem d_jdk_29_method_69_1 : decode jdk_29_method_69_code 1 = .ok (.iload_n 1, 1) := by decide +kernel
theorem d_jdk_29_method_69_2 : decode jdk_29_method_69_code 2 = .ok (.if_icmp .gt 7, 3) := by decide +kernel
theorem d_jdk_29_method_69_9 : decode jdk_29_method_69_code 9 = .ok (.iload_n 1, 1) := by decide +kernel
theorem d_jdk_29_method_69_10 : decode jdk_29_method_69_code 10 = .ok (.ireturn, 1) := by decide +kernel
theorem d_jdk_29_method_69_5 : decode jdk_29_method_69_code 5 = .ok (.iload_n 0, 1) := by decide +kernel
theorem d_jdk_29_method_69_6 : decode jdk_29_method_69_code 6 = .ok (.goto 4, 3) := by decide +kernel
set_option maxRecDepth 65536 in
set_option maxHeartbeats 40000000 in
theorem m_minI {Z : State} {a0 : Array Value} (hw : ∀ d ∈ tables_1, d.before a0 Z = true) (x : Int32) (y : Int32) (h0 : Heap) (n0 : Nat)  : ∀ l, Does l Z (⟨"java/lang/Math", "min", "(II)I"⟩ : MethodName) jdk_29_method_69_code 2 (some .int) ({ frames := 0, cells := 0, slots := 0, locals := 0 } : Room) n0 #[(.int x), (.int y)] h0 (fun v h => v = some (.int (minI x y)) ∧ h = h0) := by
  intro l
  refine Does.of_wp (Jvm.Free.JP.mathPlain rfl (by decide +kernel)) (Ls := #[.val (.int x), .val (.int y)]) (fun m => by first | (simp [entryFrame, mkF, argsToLocals, Value.category]; done) | rfl | (rcases ref_cases hfv with rfl | ⟨_, rfl⟩ <;> rfl)) ?_
  intro C
  refine WP.iloadN (pc' := 1) d_jdk_29_method_69_0 rfl rfl ?_
  refine WP.iloadN (pc' := 2) d_jdk_29_method_69_1 rfl rfl ?_
  refine WP.icmp_gt (pc1 := 9) (pc2 := 5) d_jdk_29_method_69_2 (by decide) (by decide) rfl ?_ ?_
  · intro hc2
    refine WP.iloadN (pc' := 10) d_jdk_29_method_69_9 rfl rfl ?_
    refine WP.iret d_jdk_29_method_69_10 rfl (by decide) (by decide) ⟨by unfold minI; rw [if_pos hc2], rfl⟩
  · intro hc2
    refine WP.iloadN (pc' := 6) d_jdk_29_method_69_5 rfl rfl ?_
    refine WP.goto (pc' := 10) d_jdk_29_method_69_6 (by decide) (by decide) ?_
    refine WP.iret d_jdk_29_method_69_10 rfl (by decide) (by decide) ⟨by unfold minI; rw [if_neg hc2], rfl⟩
theorem d_jdk_33_method_47_0 : decode jdk_33_method_47_code 0 = .ok (.iload_n 0, 1) := by decide +kernel
theorem d_jdk_33_method_47_1 : decode jdk_33_method_47_code 1 = .ok (.ifCond .gt 14, 3) := by decide +kernel
theorem d_jdk_33_method_47_15 : decode jdk_33_method_47_code 15 = .ok (.bipush 31, 2) := by decide +kernel
theorem d_jdk_33_method_47_17 : decode jdk_33_method_47_code 17 = .ok (.istore_n 1, 1) := by decide +kernel
theorem d_jdk_33_method_47_18 : decode jdk_33_method_47_code 18 = .ok (.iload_n 0, 1) := by decide +kernel
theorem d_jdk_33_method_47_19 : decode jdk_33_method_47_code 19 = .ok (.ldc_w 264, 3) := by decide +kernel
theorem wd210 {Z : State} {a0 : Array Value} (hw : ∀ d ∈ tables_1, d.before a0 Z = true) : (Jvm.Cond.constant "java/lang/Integer" (264 : Nat) (65536 : Int32)).before a0 Z = true := hw _ (List.mem_of_getElem? (i := 210) rfl)
theorem d_jdk_33_method_47_22 : decode jdk_33_method_47_code 22 = .ok (.if_icmp .lt 11, 3) := by decide +kernel
theorem d_jdk_33_method_47_33 : decode jdk_33_method_47_code 33 = .ok (.iload_n 0, 1) := by decide +kernel
theorem d_jdk_33_method_47_34 : decode jdk_33_method_47_code 34 = .ok (.sipush 256, 3) := by decide +kernel
theorem d_jdk_33_method_47_37 : decode jdk_33_method_47_code 37 = .ok (.if_icmp .lt 11, 3) := by decide +kernel
theorem d_jdk_33_method_47_40 : decode jdk_33_method_47_code 40 = .ok (.iinc 1 (-8), 3) := by decide +kernel
theorem d_jdk_33_method_47_43 : decode jdk_33_method_47_code 43 = .ok (.iload_n 0, 1) := by decide +kernel
theorem d_jdk_33_method_47_44 : decode jdk_33_method_47_code 44 = .ok (.bipush 8, 2) := by decide +kernel
theorem d_jdk_33_method_47_46 : decode jdk_33_method_47_code 46 = .ok (.iushr, 1) := by decide +kernel
theorem d_jdk_33_method_47_47 : decode jdk_33_method_47_code 47 = .ok (.istore_n 0, 1) := by decide +kernel
theorem d_jdk_33_method_47_48 : decode jdk_33_method_47_code 48 = .ok (.iload_n 0, 1) := by decide +kernel
theorem d_jdk_33_method_47_49 : decode jdk_33_method_47_code 49 = .ok (.bipush 16, 2) := by decide +kernel
theorem d_jdk_33_method_47_51 : decode jdk_33_method_47_code 51 = .ok (.if_icmp .lt 10, 3) := by decide +kernel
theorem d_jdk_33_method_47_54 : decode jdk_33_method_47_code 54 = .ok (.iinc 1 (-4), 3) := by decide +kernel
theorem d_jdk_33_method_47_57 : decode jdk_33_method_47_code 57 = .ok (.iload_n 0, 1) := by decide +kernel
theorem d_jdk_33_method_47_58 : decode jdk_33_method_47_code 58 = .ok (.iconst 4, 1) := by decide +kernel
theorem d_jdk_33_method_47_59 : decode jdk_33_method_47_code 59 = .ok (.iushr, 1) := by decide +kernel
theorem d_jdk_33_method_47_60 : decode jdk_33_method_47_code 60 = .ok (.istore_n 0, 1) := by decide +kernel
theorem d_jdk_33_method_47_61 : decode jdk_33_method_47_code 61 = .ok (.iload_n 0, 1) := by decide +kernel
theorem d_jdk_33_method_47_62 : decode jdk_33_method_47_code 62 = .ok (.iconst 4, 1) := by decide +kernel
theorem d_jdk_33_method_47_63 : decode jdk_33_method_47_code 63 = .ok (.if_icmp .lt 10, 3) := by decide +kernel
theorem d_jdk_33_method_47_73 : decode jdk_33_method_47_code 73 = .ok (.iload_n 1, 1) := by decide +kernel
theorem d_jdk_33_method_47_74 : decode jdk_33_method_47_code 74 = .ok (.iload_n 0, 1) := by decide +kernel
theorem d_jdk_33_method_47_75 : decode jdk_33_method_47_code 75 = .ok (.iconst 1, 1) := by decide +kernel
theorem d_jdk_33_method_47_76 : decode jdk_33_method_47_code 76 = .ok (.iushr, 1) := by decide +kernel
theorem d_jdk_33_method_47_77 : decode jdk_33_method_47_code 77 = .ok (.isub, 1) := by decide +kernel
theorem d_jdk_33_method_47_78 : decode jdk_33_method_47_code 78 = .ok (.ireturn, 1) := by decide +kernel
theorem pn_5 : plainName "java/lang/Integer" = true := by first | (simp [plainName, overriddenIn]; done) | decide +kernel
set_option maxRecDepth 65536 in
set_option maxHeartbeats 40000000 in
theorem m_nlzA {Z : State} {a0 : Array Value} (hw : ∀ d ∈ tables_1, d.before a0 Z = true)  (h0 : Heap) (n0 : Nat)  : ∀ l, Does l Z (⟨"java/lang/Integer", "numberOfLeadingZeros", "(I)I"⟩ : MethodName) jdk_33_method_47_code 2 (some .int) ({ frames := 0, cells := 0, slots := 0, locals := 0 } : Room) n0 #[(.int (8191 : Int32))] h0 (fun v h => v = some (.int 19) ∧ h = h0) := by
  intro l
  refine Does.of_wp (plainFor_of_name pn_5) (Ls := #[.val (.int (8191 : Int32)), .unset]) (fun m => by first | (simp [entryFrame, mkF, argsToLocals, Value.category]; done) | rfl | (rcases ref_cases hfv with rfl | ⟨_, rfl⟩ <;> rfl)) ?_
  intro C
  refine WP.iloadN (pc' := 1) d_jdk_33_method_47_0 rfl rfl ?_
  have hc1 : (0 : Int32) < (8191 : Int32) := by decide
  refine WP.ifc_gt (pc1 := 15) (pc2 := 4) d_jdk_33_method_47_1 (by decide) (by decide) rfl (fun _ => ?_) (fun k => absurd hc1 k)
  refine WP.bipush (pc' := 17) d_jdk_33_method_47_15 rfl (z := 31) rfl ?_
  refine WP.istoreN (pc' := 18) d_jdk_33_method_47_17 rfl (Ls' := #[.val (.int (8191 : Int32)), .val (.int (31 : Int32))]) rfl ?_
  refine WP.iloadN (pc' := 19) d_jdk_33_method_47_18 rfl rfl ?_
  refine WP.ldcWI (pc' := 22) d_jdk_33_method_47_19 rfl (wd210 hw) ?_
  have hc22 : (8191 : Int32) < (65536 : Int32) := by decide
  refine WP.icmp_lt (pc1 := 33) (pc2 := 25) d_jdk_33_method_47_22 (by decide) (by decide) rfl (fun _ => ?_) (fun k => absurd hc22 k)
  refine WP.iloadN (pc' := 34) d_jdk_33_method_47_33 rfl rfl ?_
  refine WP.sipush (pc' := 37) d_jdk_33_method_47_34 rfl (z := 256) rfl ?_
  have hc37 : ¬ (8191 : Int32) < (256 : Int32) := by decide
  refine WP.icmp_lt (pc1 := 48) (pc2 := 40) d_jdk_33_method_47_37 (by decide) (by decide) rfl (fun k => absurd k hc37) (fun _ => ?_)
  refine WP.iinc (pc' := 43) d_jdk_33_method_47_40 rfl rfl (z := (23 : Int32)) rfl (Ls' := #[.val (.int (8191 : Int32)), .val (.int (23 : Int32))]) rfl ?_
  refine WP.iloadN (pc' := 44) d_jdk_33_method_47_43 rfl rfl ?_
  refine WP.bipush (pc' := 46) d_jdk_33_method_47_44 rfl (z := 8) rfl ?_
  refine WP.iushr (pc' := 47) d_jdk_33_method_47_46 rfl ?_
  rw [show (((8191 : Int32).toUInt32 >>> ((8 : Int32) &&& 31).toUInt32).toInt32) = (31 : Int32) from by decide]
  refine WP.istoreN (pc' := 48) d_jdk_33_method_47_47 rfl (Ls' := #[.val (.int (31 : Int32)), .val (.int (23 : Int32))]) rfl ?_
  refine WP.iloadN (pc' := 49) d_jdk_33_method_47_48 rfl rfl ?_
  refine WP.bipush (pc' := 51) d_jdk_33_method_47_49 rfl (z := 16) rfl ?_
  have hc51 : ¬ (31 : Int32) < (16 : Int32) := by decide
  refine WP.icmp_lt (pc1 := 61) (pc2 := 54) d_jdk_33_method_47_51 (by decide) (by decide) rfl (fun k => absurd k hc51) (fun _ => ?_)
  refine WP.iinc (pc' := 57) d_jdk_33_method_47_54 rfl rfl (z := (19 : Int32)) rfl (Ls' := #[.val (.int (31 : Int32)), .val (.int (19 : Int32))]) rfl ?_
  refine WP.iloadN (pc' := 58) d_jdk_33_method_47_57 rfl rfl ?_
  refine WP.iconst (pc' := 59) d_jdk_33_method_47_58 rfl (z := 4) rfl ?_
  refine WP.iushr (pc' := 60) d_jdk_33_method_47_59 rfl ?_
  rw [show (((31 : Int32).toUInt32 >>> ((4 : Int32) &&& 31).toUInt32).toInt32) = (1 : Int32) from by decide]
  refine WP.istoreN (pc' := 61) d_jdk_33_method_47_60 rfl (Ls' := #[.val (.int (1 : Int32)), .val (.int (19 : Int32))]) rfl ?_
  refine WP.iloadN (pc' := 62) d_jdk_33_method_47_61 rfl rfl ?_
  refine WP.iconst (pc' := 63) d_jdk_33_method_47_62 rfl (z := 4) rfl ?_
  have hc63 : (1 : Int32) < (4 : Int32) := by decide
  refine WP.icmp_lt (pc1 := 73) (pc2 := 66) d_jdk_33_method_47_63 (by decide) (by decide) rfl (fun _ => ?_) (fun k => absurd hc63 k)
  refine WP.iloadN (pc' := 74) d_jdk_33_method_47_73 rfl rfl ?_
  refine WP.iloadN (pc' := 75) d_jdk_33_method_47_74 rfl rfl ?_
  refine WP.iconst (pc' := 76) d_jdk_33_method_47_75 rfl (z := 1) rfl ?_
  refine WP.iushr (pc' := 77) d_jdk_33_method_47_76 rfl ?_
  rw [show (((1 : Int32).toUInt32 >>> ((1 : Int32) &&& 31).toUInt32).toInt32) = (0 : Int32) from by decide]
  refine WP.isub (pc' := 78) d_jdk_33_method_47_77 rfl ?_
  rw [show ((19 : Int32) - (0 : Int32)) = (19 : Int32) from by decide]
  refine WP.iret d_jdk_33_method_47_78 rfl (by decide) (by decide) ⟨by decide, rfl⟩
theorem d_jdk_33_method_45_0 : decode jdk_33_method_45_code 0 = .ok (.iload_n 0, 1) := by decide +kernel
theorem d_jdk_33_method_45_1 : decode jdk_33_method_45_code 1 = .ok (.ldc 127, 2) := by decide +kernel
theorem wd206 {Z : State} {a0 : Array Value} (hw : ∀ d ∈ tables_1, d.before a0 Z = true) : (Jvm.Cond.constant "java/lang/Integer" (127 : Nat) (-2147483648 : Int32)).before a0 Z = true := hw _ (List.mem_of_getElem? (i := 206) rfl)
theorem d_jdk_33_method_45_3 : decode jdk_33_method_45_code 3 = .ok (.iload_n 0, 1) := by decide +kernel
theorem d_jdk_33_method_45_4 : decode jdk_33_method_45_code 4 = .ok (.invokestatic 51, 3) := by decide +kernel
theorem wd207 {Z : State} {a0 : Array Value} (hw : ∀ d ∈ tables_1, d.before a0 Z = true) : (Jvm.Cond.methodLink "java/lang/Integer" (51 : Nat) ({ cls := "java/lang/Integer", name := "numberOfLeadingZeros", desc := "(I)I" } : Jvm.MethodName)).before a0 Z = true := hw _ (List.mem_of_getElem? (i := 207) rfl)
theorem wd209 {Z : State} {a0 : Array Value} (hw : ∀ d ∈ tables_1, d.before a0 Z = true) : (Jvm.Cond.code ({ cls := "java/lang/Integer", name := "numberOfLeadingZeros", desc := "(I)I" } : Jvm.MethodName) jdk_33_method_47_code (2 : Nat) (Option.some Jvm.ClassFile.FieldType.int)).before a0 Z = true := hw _ (List.mem_of_getElem? (i := 209) rfl)
theorem wd204 {Z : State} {a0 : Array Value} (hw : ∀ d ∈ tables_1, d.before a0 Z = true) : (Jvm.Cond.initialized "java/lang/Integer").before a0 Z = true := hw _ (List.mem_of_getElem? (i := 204) rfl)
theorem pd_20 : parseMethodDescriptor "(I)I" = some ⟨[.int], some .int⟩ := by decide +kernel
theorem wd208 {Z : State} {a0 : Array Value} (hw : ∀ d ∈ tables_1, d.before a0 Z = true) : (Jvm.Cond.static ({ cls := "java/lang/Integer", name := "numberOfLeadingZeros", desc := "(I)I" } : Jvm.MethodName)).before a0 Z = true := hw _ (List.mem_of_getElem? (i := 208) rfl)
theorem d_jdk_33_method_45_7 : decode jdk_33_method_45_code 7 = .ok (.iushr, 1) := by decide +kernel
theorem d_jdk_33_method_45_8 : decode jdk_33_method_45_code 8 = .ok (.iand, 1) := by decide +kernel
theorem d_jdk_33_method_45_9 : decode jdk_33_method_45_code 9 = .ok (.ireturn, 1) := by decide +kernel
set_option maxRecDepth 65536 in
set_option maxHeartbeats 40000000 in
theorem m_hobA {Z : State} {a0 : Array Value} (hw : ∀ d ∈ tables_1, d.before a0 Z = true)  (h0 : Heap) (n0 : Nat)  : ∀ l, Does l Z (⟨"java/lang/Integer", "highestOneBit", "(I)I"⟩ : MethodName) jdk_33_method_45_code 1 (some .int) ({ frames := 1, cells := 0, slots := 0, locals := 15 } : Room) n0 #[(.int (8191 : Int32))] h0 (fun v h => v = some (.int 4096) ∧ h = h0) := by
  intro l
  refine Does.of_wp (plainFor_of_name pn_5) (Ls := #[.val (.int (8191 : Int32))]) (fun m => by first | (simp [entryFrame, mkF, argsToLocals, Value.category]; done) | rfl | (rcases ref_cases hfv with rfl | ⟨_, rfl⟩ <;> rfl)) ?_
  intro C
  refine WP.iloadN (pc' := 1) d_jdk_33_method_45_0 rfl rfl ?_
  refine WP.ldcI (pc' := 3) d_jdk_33_method_45_1 rfl (wd206 hw) ?_
  refine WP.iloadN (pc' := 4) d_jdk_33_method_45_3 rfl rfl ?_
  refine WP.callS (argsL := [(.int (8191 : Int32))]) (rest := [(.int (-2147483648 : Int32)), (.int (8191 : Int32))]) (wd := 2) (cl' := 0) (sl' := 0) (pc' := 7) d_jdk_33_method_45_4 rfl (wd207 hw) (wd208 hw) (wd204 hw) (wd209 hw) (by decide) (m_nlzA hw h0 n0) pd_20 rfl rfl rfl (Nat.le_of_eq rfl) (by decide) (by decide) rfl rfl (by decide) (by decide) ?_
  rintro v hh1 ⟨rfl, he1⟩
  rw [he1]
  refine WP.castS (st' := [(.int (19 : Int32)), (.int (-2147483648 : Int32)), (.int (8191 : Int32))]) rfl ?_
  refine WP.iushr (pc' := 8) d_jdk_33_method_45_7 rfl ?_
  rw [show (((-2147483648 : Int32).toUInt32 >>> ((19 : Int32) &&& 31).toUInt32).toInt32) = (4096 : Int32) from by decide]
  refine WP.iand (pc' := 9) d_jdk_33_method_45_8 rfl ?_
  rw [show ((8191 : Int32) &&& (4096 : Int32)) = (4096 : Int32) from by decide]
  refine WP.iret d_jdk_33_method_45_9 rfl (by decide) (by decide) ⟨by decide, rfl⟩
theorem d_prog_7_method_28_0 : decode prog_7_method_28_code 0 = .ok (.iload_n 0, 1) := by decide +kernel
theorem d_prog_7_method_28_1 : decode prog_7_method_28_code 1 = .ok (.iconst 2, 1) := by decide +kernel
theorem d_prog_7_method_28_2 : decode prog_7_method_28_code 2 = .ok (.imul, 1) := by decide +kernel
theorem d_prog_7_method_28_3 : decode prog_7_method_28_code 3 = .ok (.iload_n 1, 1) := by decide +kernel
theorem d_prog_7_method_28_4 : decode prog_7_method_28_code 4 = .ok (.iconst 1, 1) := by decide +kernel
theorem d_prog_7_method_28_5 : decode prog_7_method_28_code 5 = .ok (.isub, 1) := by decide +kernel
theorem d_prog_7_method_28_6 : decode prog_7_method_28_code 6 = .ok (.invokestatic 261, 3) := by decide +kernel
theorem wd202 {Z : State} {a0 : Array Value} (hw : ∀ d ∈ tables_1, d.before a0 Z = true) : (Jvm.Cond.methodLink "com/example/vipool/vipool/http/HttpHead" (261 : Nat) ({ cls := "java/lang/Integer", name := "highestOneBit", desc := "(I)I" } : Jvm.MethodName)).before a0 Z = true := hw _ (List.mem_of_getElem? (i := 202) rfl)
theorem wd205 {Z : State} {a0 : Array Value} (hw : ∀ d ∈ tables_1, d.before a0 Z = true) : (Jvm.Cond.code ({ cls := "java/lang/Integer", name := "highestOneBit", desc := "(I)I" } : Jvm.MethodName) jdk_33_method_45_code (1 : Nat) (Option.some Jvm.ClassFile.FieldType.int)).before a0 Z = true := hw _ (List.mem_of_getElem? (i := 205) rfl)
theorem wd203 {Z : State} {a0 : Array Value} (hw : ∀ d ∈ tables_1, d.before a0 Z = true) : (Jvm.Cond.static ({ cls := "java/lang/Integer", name := "highestOneBit", desc := "(I)I" } : Jvm.MethodName)).before a0 Z = true := hw _ (List.mem_of_getElem? (i := 203) rfl)
theorem d_prog_7_method_28_9 : decode prog_7_method_28_code 9 = .ok (.iconst 1, 1) := by decide +kernel
theorem d_prog_7_method_28_10 : decode prog_7_method_28_code 10 = .ok (.ishl, 1) := by decide +kernel
theorem d_prog_7_method_28_11 : decode prog_7_method_28_code 11 = .ok (.invokestatic 25, 3) := by decide +kernel
theorem wd211 {Z : State} {a0 : Array Value} (hw : ∀ d ∈ tables_1, d.before a0 Z = true) : (Jvm.Cond.methodLink "com/example/vipool/vipool/http/HttpHead" (25 : Nat) ({ cls := "java/lang/Math", name := "max", desc := "(II)I" } : Jvm.MethodName)).before a0 Z = true := hw _ (List.mem_of_getElem? (i := 211) rfl)
theorem wd213 {Z : State} {a0 : Array Value} (hw : ∀ d ∈ tables_1, d.before a0 Z = true) : (Jvm.Cond.code ({ cls := "java/lang/Math", name := "max", desc := "(II)I" } : Jvm.MethodName) jdk_29_method_65_code (2 : Nat) (Option.some Jvm.ClassFile.FieldType.int)).before a0 Z = true := hw _ (List.mem_of_getElem? (i := 213) rfl)
theorem wd185 {Z : State} {a0 : Array Value} (hw : ∀ d ∈ tables_1, d.before a0 Z = true) : (Jvm.Cond.initialized "java/lang/Math").before a0 Z = true := hw _ (List.mem_of_getElem? (i := 185) rfl)
theorem pd_21 : parseMethodDescriptor "(II)I" = some ⟨[.int, .int], some .int⟩ := by decide +kernel
theorem wd212 {Z : State} {a0 : Array Value} (hw : ∀ d ∈ tables_1, d.before a0 Z = true) : (Jvm.Cond.static ({ cls := "java/lang/Math", name := "max", desc := "(II)I" } : Jvm.MethodName)).before a0 Z = true := hw _ (List.mem_of_getElem? (i := 212) rfl)
theorem d_prog_7_method_28_14 : decode prog_7_method_28_code 14 = .ok (.ireturn, 1) := by decide +kernel
set_option maxRecDepth 65536 in
set_option maxHeartbeats 40000000 in
theorem m_grwA {Z : State} {a0 : Array Value} (hw : ∀ d ∈ tables_1, d.before a0 Z = true)  (h0 : Heap) (n0 : Nat)  : ∀ l, Does l Z (⟨"com/example/vipool/vipool/http/HttpHead", "grownRoom", "(II)I"⟩ : MethodName) prog_7_method_28_code 2 (some .int) ({ frames := 2, cells := 0, slots := 0, locals := 28 } : Room) n0 #[(.int (512 : Int32)), (.int (8192 : Int32))] h0 (fun v h => v = some (.int 8192) ∧ h = h0) := by
  intro l
  refine Does.of_wp (plainFor_of_name pn_4) (Ls := #[.val (.int (512 : Int32)), .val (.int (8192 : Int32))]) (fun m => by first | (simp [entryFrame, mkF, argsToLocals, Value.category]; done) | rfl | (rcases ref_cases hfv with rfl | ⟨_, rfl⟩ <;> rfl)) ?_
  intro C
  refine WP.iloadN (pc' := 1) d_prog_7_method_28_0 rfl rfl ?_
  refine WP.iconst (pc' := 2) d_prog_7_method_28_1 rfl (z := 2) rfl ?_
  refine WP.imul (pc' := 3) d_prog_7_method_28_2 rfl ?_
  rw [show ((512 : Int32) * (2 : Int32)) = (1024 : Int32) from by decide]
  refine WP.iloadN (pc' := 4) d_prog_7_method_28_3 rfl rfl ?_
  refine WP.iconst (pc' := 5) d_prog_7_method_28_4 rfl (z := 1) rfl ?_
  refine WP.isub (pc' := 6) d_prog_7_method_28_5 rfl ?_
  rw [show ((8192 : Int32) - (1 : Int32)) = (8191 : Int32) from by decide]
  refine WP.callS (argsL := [(.int (8191 : Int32))]) (rest := [(.int (1024 : Int32))]) (wd := 1) (cl' := 0) (sl' := 0) (pc' := 9) d_prog_7_method_28_6 rfl (wd202 hw) (wd203 hw) (wd204 hw) (wd205 hw) (by decide) (m_hobA hw h0 n0) pd_20 rfl rfl rfl (Nat.le_of_eq rfl) (by decide) (by decide) rfl rfl (by decide) (by decide) ?_
  rintro v hh1 ⟨rfl, he1⟩
  rw [he1]
  refine WP.castS (st' := [(.int (4096 : Int32)), (.int (1024 : Int32))]) rfl ?_
  refine WP.iconst (pc' := 10) d_prog_7_method_28_9 rfl (z := 1) rfl ?_
  refine WP.ishl (pc' := 11) d_prog_7_method_28_10 rfl ?_
  rw [show ((4096 : Int32) <<< ((1 : Int32) &&& 31)) = (8192 : Int32) from by decide]
  refine WP.callS (argsL := [(.int (1024 : Int32)), (.int (8192 : Int32))]) (rest := []) (wd := 0) (cl' := 0) (sl' := 0) (pc' := 14) d_prog_7_method_28_11 rfl (wd211 hw) (wd212 hw) (wd185 hw) (wd213 hw) (by decide) (m_maxI hw (1024 : Int32) (8192 : Int32) h0 n0) pd_21 rfl rfl rfl (Nat.le_of_eq rfl) (by decide) (by decide) rfl rfl (by decide) (by decide) ?_
  rintro v hh2 ⟨rfl, he2⟩
  rw [he2]
  refine WP.castS (st' := [(.int (maxI (1024 : Int32) (8192 : Int32)))]) rfl ?_
  refine WP.iret d_prog_7_method_28_14 rfl (by decide) (by decide) ⟨by decide, rfl⟩
set_option maxRecDepth 65536 in
set_option maxHeartbeats 40000000 in
theorem m_nlzB {Z : State} {a0 : Array Value} (hw : ∀ d ∈ tables_1, d.before a0 Z = true)  (h0 : Heap) (n0 : Nat)  : ∀ l, Does l Z (⟨"java/lang/Integer", "numberOfLeadingZeros", "(I)I"⟩ : MethodName) jdk_33_method_47_code 2 (some .int) ({ frames := 0, cells := 0, slots := 0, locals := 0 } : Room) n0 #[(.int (8192 : Int32))] h0 (fun v h => v = some (.int 18) ∧ h = h0) := by
  intro l
  refine Does.of_wp (plainFor_of_name pn_5) (Ls := #[.val (.int (8192 : Int32)), .unset]) (fun m => by first | (simp [entryFrame, mkF, argsToLocals, Value.category]; done) | rfl | (rcases ref_cases hfv with rfl | ⟨_, rfl⟩ <;> rfl)) ?_
  intro C
  refine WP.iloadN (pc' := 1) d_jdk_33_method_47_0 rfl rfl ?_
  have hc1 : (0 : Int32) < (8192 : Int32) := by decide
  refine WP.ifc_gt (pc1 := 15) (pc2 := 4) d_jdk_33_method_47_1 (by decide) (by decide) rfl (fun _ => ?_) (fun k => absurd hc1 k)
  refine WP.bipush (pc' := 17) d_jdk_33_method_47_15 rfl (z := 31) rfl ?_
  refine WP.istoreN (pc' := 18) d_jdk_33_method_47_17 rfl (Ls' := #[.val (.int (8192 : Int32)), .val (.int (31 : Int32))]) rfl ?_
  refine WP.iloadN (pc' := 19) d_jdk_33_method_47_18 rfl rfl ?_
  refine WP.ldcWI (pc' := 22) d_jdk_33_method_47_19 rfl (wd210 hw) ?_
  have hc22 : (8192 : Int32) < (65536 : Int32) := by decide
  refine WP.icmp_lt (pc1 := 33) (pc2 := 25) d_jdk_33_method_47_22 (by decide) (by decide) rfl (fun _ => ?_) (fun k => absurd hc22 k)
  refine WP.iloadN (pc' := 34) d_jdk_33_method_47_33 rfl rfl ?_
  refine WP.sipush (pc' := 37) d_jdk_33_method_47_34 rfl (z := 256) rfl ?_
  have hc37 : ¬ (8192 : Int32) < (256 : Int32) := by decide
  refine WP.icmp_lt (pc1 := 48) (pc2 := 40) d_jdk_33_method_47_37 (by decide) (by decide) rfl (fun k => absurd k hc37) (fun _ => ?_)
  refine WP.iinc (pc' := 43) d_jdk_33_method_47_40 rfl rfl (z := (23 : Int32)) rfl (Ls' := #[.val (.int (8192 : Int32)), .val (.int (23 : Int32))]) rfl ?_
  refine WP.iloadN (pc' := 44) d_jdk_33_method_47_43 rfl rfl ?_
  refine WP.bipush (pc' := 46) d_jdk_33_method_47_44 rfl (z := 8) rfl ?_
  refine WP.iushr (pc' := 47) d_jdk_33_method_47_46 rfl ?_
  rw [show (((8192 : Int32).toUInt32 >>> ((8 : Int32) &&& 31).toUInt32).toInt32) = (32 : Int32) from by decide]
  refine WP.istoreN (pc' := 48) d_jdk_33_method_47_47 rfl (Ls' := #[.val (.int (32 : Int32)), .val (.int (23 : Int32))]) rfl ?_
  refine WP.iloadN (pc' := 49) d_jdk_33_method_47_48 rfl rfl ?_
  refine WP.bipush (pc' := 51) d_jdk_33_method_47_49 rfl (z := 16) rfl ?_
  have hc51 : ¬ (32 : Int32) < (16 : Int32) := by decide
  refine WP.icmp_lt (pc1 := 61) (pc2 := 54) d_jdk_33_method_47_51 (by decide) (by decide) rfl (fun k => absurd k hc51) (fun _ => ?_)
  refine WP.iinc (pc' := 57) d_jdk_33_method_47_54 rfl rfl (z := (19 : Int32)) rfl (Ls' := #[.val (.int (32 : Int32)), .val (.int (19 : Int32))]) rfl ?_
  refine WP.iloadN (pc' := 58) d_jdk_33_method_47_57 rfl rfl ?_
  refine WP.iconst (pc' := 59) d_jdk_33_method_47_58 rfl (z := 4) rfl ?_
  refine WP.iushr (pc' := 60) d_jdk_33_method_47_59 rfl ?_
  rw [show (((32 : Int32).toUInt32 >>> ((4 : Int32) &&& 31).toUInt32).toInt32) = (2 : Int32) from by decide]
  refine WP.istoreN (pc' := 61) d_jdk_33_method_47_60 rfl (Ls' := #[.val (.int (2 : Int32)), .val (.int (19 : Int32))]) rfl ?_
  refine WP.iloadN (pc' := 62) d_jdk_33_method_47_61 rfl rfl ?_
  refine WP.iconst (pc' := 63) d_jdk_33_method_47_62 rfl (z := 4) rfl ?_
  have hc63 : (2 : Int32) < (4 : Int32) := by decide
  refine WP.icmp_lt (pc1 := 73) (pc2 := 66) d_jdk_33_method_47_63 (by decide) (by decide) rfl (fun _ => ?_) (fun k => absurd hc63 k)
  refine WP.iloadN (pc' := 74) d_jdk_33_method_47_73 rfl rfl ?_
  refine WP.iloadN (pc' := 75) d_jdk_33_method_47_74 rfl rfl ?_
  refine WP.iconst (pc' := 76) d_jdk_33_method_47_75 rfl (z := 1) rfl ?_
  refine WP.iushr (pc' := 77) d_jdk_33_method_47_76 rfl ?_
  rw [show (((2 : Int32).toUInt32 >>> ((1 : Int32) &&& 31).toUInt32).toInt32) = (1 : Int32) from by decide]
  refine WP.isub (pc' := 78) d_jdk_33_method_47_77 rfl ?_
  rw [show ((19 : Int32) - (1 : Int32)) = (18 : Int32) from by decide]
  refine WP.iret d_jdk_33_method_47_78 rfl (by decide) (by decide) ⟨by decide, rfl⟩
set_option maxRecDepth 65536 in
set_option maxHeartbeats 40000000 in
theorem m_hobB {Z : State} {a0 : Array Value} (hw : ∀ d ∈ tables_1, d.before a0 Z = true)  (h0 : Heap) (n0 : Nat)  : ∀ l, Does l Z (⟨"java/lang/Integer", "highestOneBit", "(I)I"⟩ : MethodName) jdk_33_method_45_code 1 (some .int) ({ frames := 1, cells := 0, slots := 0, locals := 15 } : Room) n0 #[(.int (8192 : Int32))] h0 (fun v h => v = some (.int 8192) ∧ h = h0) := by
  intro l
  refine Does.of_wp (plainFor_of_name pn_5) (Ls := #[.val (.int (8192 : Int32))]) (fun m => by first | (simp [entryFrame, mkF, argsToLocals, Value.category]; done) | rfl | (rcases ref_cases hfv with rfl | ⟨_, rfl⟩ <;> rfl)) ?_
  intro C
  refine WP.iloadN (pc' := 1) d_jdk_33_method_45_0 rfl rfl ?_
  refine WP.ldcI (pc' := 3) d_jdk_33_method_45_1 rfl (wd206 hw) ?_
  refine WP.iloadN (pc' := 4) d_jdk_33_method_45_3 rfl rfl ?_
  refine WP.callS (argsL := [(.int (8192 : Int32))]) (rest := [(.int (-2147483648 : Int32)), (.int (8192 : Int32))]) (wd := 2) (cl' := 0) (sl' := 0) (pc' := 7) d_jdk_33_method_45_4 rfl (wd207 hw) (wd208 hw) (wd204 hw) (wd209 hw) (by decide) (m_nlzB hw h0 n0) pd_20 rfl rfl rfl (Nat.le_of_eq rfl) (by decide) (by decide) rfl rfl (by decide) (by decide) ?_
  rintro v hh1 ⟨rfl, he1⟩
  rw [he1]
  refine WP.castS (st' := [(.int (18 : Int32)), (.int (-2147483648 : Int32)), (.int (8192 : Int32))]) rfl ?_
  refine WP.iushr (pc' := 8) d_jdk_33_method_45_7 rfl ?_
  rw [show (((-2147483648 : Int32).toUInt32 >>> ((18 : Int32) &&& 31).toUInt32).toInt32) = (8192 : Int32) from by decide]
  refine WP.iand (pc' := 9) d_jdk_33_method_45_8 rfl ?_
  rw [show ((8192 : Int32) &&& (8192 : Int32)) = (8192 : Int32) from by decide]
  refine WP.iret d_jdk_33_method_45_9 rfl (by decide) (by decide) ⟨by decide, rfl⟩
set_option maxRecDepth 65536 in
set_option maxHeartbeats 40000000 in
theorem m_grwB {Z : State} {a0 : Array Value} (hw : ∀ d ∈ tables_1, d.before a0 Z = true)  (h0 : Heap) (n0 : Nat)  : ∀ l, Does l Z (⟨"com/example/vipool/vipool/http/HttpHead", "grownRoom", "(II)I"⟩ : MethodName) prog_7_method_28_code 2 (some .int) ({ frames := 2, cells := 0, slots := 0, locals := 28 } : Room) n0 #[(.int (8192 : Int32)), (.int (8193 : Int32))] h0 (fun v h => v = some (.int 16384) ∧ h = h0) := by
  intro l
  refine Does.of_wp (plainFor_of_name pn_4) (Ls := #[.val (.int (8192 : Int32)), .val (.int (8193 : Int32))]) (fun m => by first | (simp [entryFrame, mkF, argsToLocals, Value.category]; done) | rfl | (rcases ref_cases hfv with rfl | ⟨_, rfl⟩ <;> rfl)) ?_
  intro C
  refine WP.iloadN (pc' := 1) d_prog_7_method_28_0 rfl rfl ?_
  refine WP.iconst (pc' := 2) d_prog_7_method_28_1 rfl (z := 2) rfl ?_
  refine WP.imul (pc' := 3) d_prog_7_method_28_2 rfl ?_
  rw [show ((8192 : Int32) * (2 : Int32)) = (16384 : Int32) from by decide]
  refine WP.iloadN (pc' := 4) d_prog_7_method_28_3 rfl rfl ?_
  refine WP.iconst (pc' := 5) d_prog_7_method_28_4 rfl (z := 1) rfl ?_
  refine WP.isub (pc' := 6) d_prog_7_method_28_5 rfl ?_
  rw [show ((8193 : Int32) - (1 : Int32)) = (8192 : Int32) from by decide]
  refine WP.callS (argsL := [(.int (8192 : Int32))]) (rest := [(.int (16384 : Int32))]) (wd := 1) (cl' := 0) (sl' := 0) (pc' := 9) d_prog_7_method_28_6 rfl (wd202 hw) (wd203 hw) (wd204 hw) (wd205 hw) (by decide) (m_hobB hw h0 n0) pd_20 rfl rfl rfl (Nat.le_of_eq rfl) (by decide) (by decide) rfl rfl (by decide) (by decide) ?_
  rintro v hh1 ⟨rfl, he1⟩
  rw [he1]
  refine WP.castS (st' := [(.int (8192 : Int32)), (.int (16384 : Int32))]) rfl ?_
  refine WP.iconst (pc' := 10) d_prog_7_method_28_9 rfl (z := 1) rfl ?_
  refine WP.ishl (pc' := 11) d_prog_7_method_28_10 rfl ?_
  rw [show ((8192 : Int32) <<< ((1 : Int32) &&& 31)) = (16384 : Int32) from by decide]
  refine WP.callS (argsL := [(.int (16384 : Int32)), (.int (16384 : Int32))]) (rest := []) (wd := 0) (cl' := 0) (sl' := 0) (pc' := 14) d_prog_7_method_28_11 rfl (wd211 hw) (wd212 hw) (wd185 hw) (wd213 hw) (by decide) (m_maxI hw (16384 : Int32) (16384 : Int32) h0 n0) pd_21 rfl rfl rfl (Nat.le_of_eq rfl) (by decide) (by decide) rfl rfl (by decide) (by decide) ?_
  rintro v hh2 ⟨rfl, he2⟩
  rw [he2]
  refine WP.castS (st' := [(.int (maxI (16384 : Int32) (16384 : Int32)))]) rfl ?_
  refine WP.iret d_prog_7_method_28_14 rfl (by decide) (by decide) ⟨by decide, rfl⟩
theorem d_jdk_65_method_121_0 : decode jdk_65_method_121_code 0 = .ok (.iload_n 1, 1) := by decide +kernel
theorem d_jdk_65_method_121_1 : decode jdk_65_method_121_code 1 = .ok (.aload_n 0, 1) := by decide +kernel
theorem d_jdk_65_method_121_2 : decode jdk_65_method_121_code 2 = .ok (.arraylength, 1) := by decide +kernel
theorem d_jdk_65_method_121_3 : decode jdk_65_method_121_code 3 = .ok (.if_icmp .ne 11, 3) := by decide +kernel
theorem d_jdk_65_method_121_14 : decode jdk_65_method_121_code 14 = .ok (.iload_n 1, 1) := by decide +kernel
theorem d_jdk_65_method_121_15 : decode jdk_65_method_121_code 15 = .ok (.newarray .byte, 2) := by decide +kernel
theorem d_jdk_65_method_121_17 : decode jdk_65_method_121_code 17 = .ok (.astore_n 2, 1) := by decide +kernel
theorem d_jdk_65_method_121_18 : decode jdk_65_method_121_code 18 = .ok (.aload_n 0, 1) := by decide +kernel
theorem d_jdk_65_method_121_19 : decode jdk_65_method_121_code 19 = .ok (.iconst 0, 1) := by decide +kernel
theorem d_jdk_65_method_121_20 : decode jdk_65_method_121_code 20 = .ok (.aload_n 2, 1) := by decide +kernel
theorem d_jdk_65_method_121_21 : decode jdk_65_method_121_code 21 = .ok (.iconst 0, 1) := by decide +kernel
theorem d_jdk_65_method_121_22 : decode jdk_65_method_121_code 22 = .ok (.aload_n 0, 1) := by decide +kernel
theorem d_jdk_65_method_121_23 : decode jdk_65_method_121_code 23 = .ok (.arraylength, 1) := by decide +kernel
theorem d_jdk_65_method_121_24 : decode jdk_65_method_121_code 24 = .ok (.iload_n 1, 1) := by decide +kernel
theorem d_jdk_65_method_121_25 : decode jdk_65_method_121_code 25 = .ok (.invokestatic 304, 3) := by decide +kernel
theorem wd183 {Z : State} {a0 : Array Value} (hw : ∀ d ∈ tables_1, d.before a0 Z = true) : (Jvm.Cond.methodLink "java/util/Arrays" (304 : Nat) ({ cls := "java/lang/Math", name := "min", desc := "(II)I" } : Jvm.MethodName)).before a0 Z = true := hw _ (List.mem_of_getElem? (i := 183) rfl)
theorem wd186 {Z : State} {a0 : Array Value} (hw : ∀ d ∈ tables_1, d.before a0 Z = true) : (Jvm.Cond.code ({ cls := "java/lang/Math", name := "min", desc := "(II)I" } : Jvm.MethodName) jdk_29_method_69_code (2 : Nat) (Option.some Jvm.ClassFile.FieldType.int)).before a0 Z = true := hw _ (List.mem_of_getElem? (i := 186) rfl)
theorem wd184 {Z : State} {a0 : Array Value} (hw : ∀ d ∈ tables_1, d.before a0 Z = true) : (Jvm.Cond.static ({ cls := "java/lang/Math", name := "min", desc := "(II)I" } : Jvm.MethodName)).before a0 Z = true := hw _ (List.mem_of_getElem? (i := 184) rfl)
theorem d_jdk_65_method_121_28 : decode jdk_65_method_121_code 28 = .ok (.invokestatic 150, 3) := by decide +kernel
theorem wd187 {Z : State} {a0 : Array Value} (hw : ∀ d ∈ tables_1, d.before a0 Z = true) : (Jvm.Cond.methodLink "java/util/Arrays" (150 : Nat) ({ cls := "java/lang/System", name := "arraycopy", desc := "(Ljava/lang/Object;ILjava/lang/Object;II)V" } : Jvm.MethodName)).before a0 Z = true := hw _ (List.mem_of_getElem? (i := 187) rfl)
theorem wd190 {Z : State} {a0 : Array Value} (hw : ∀ d ∈ tables_1, d.before a0 Z = true) : (Jvm.Cond.native ({ cls := "java/lang/System", name := "arraycopy", desc := "(Ljava/lang/Object;ILjava/lang/Object;II)V" } : Jvm.MethodName)).before a0 Z = true := hw _ (List.mem_of_getElem? (i := 190) rfl)
theorem wd188 {Z : State} {a0 : Array Value} (hw : ∀ d ∈ tables_1, d.before a0 Z = true) : (Jvm.Cond.static ({ cls := "java/lang/System", name := "arraycopy", desc := "(Ljava/lang/Object;ILjava/lang/Object;II)V" } : Jvm.MethodName)).before a0 Z = true := hw _ (List.mem_of_getElem? (i := 188) rfl)
theorem wd189 {Z : State} {a0 : Array Value} (hw : ∀ d ∈ tables_1, d.before a0 Z = true) : (Jvm.Cond.initialized "java/lang/System").before a0 Z = true := hw _ (List.mem_of_getElem? (i := 189) rfl)
theorem d_jdk_65_method_121_31 : decode jdk_65_method_121_code 31 = .ok (.aload_n 2, 1) := by decide +kernel
theorem d_jdk_65_method_121_32 : decode jdk_65_method_121_code 32 = .ok (.areturn, 1) := by decide +kernel
theorem pn_6 : plainName "java/util/Arrays" = true := by first | (simp [plainName, overriddenIn]; done) | decide +kernel
set_option maxRecDepth 65536 in
set_option maxHeartbeats 40000000 in
theorem m_cpB {Z : State} {a0 : Array Value} (hw : ∀ d ∈ tables_1, d.before a0 Z = true) (a : Addr) (p : Int32) (h0 : Heap) (n0 : Nat) (Z0 : n0 ≤ h0.size) (g : Nat → Int32) (n m : Nat) (A0 : Ari Z h0 a .byte n g) (hp : p.toInt = (m : Int)) (hnm : n < m) (hm : m ≤ 16384) : ∀ l, Does l Z (⟨"java/util/Arrays", "copyOf", "([BI)[B"⟩ : MethodName) jdk_65_method_121_code 3 (some (.array .byte)) ({ frames := 1, cells := 1, slots := 16384, locals := 18 } : Room) n0 #[(.ref a), (.int p)] h0 (fun v h => ∃ b : Addr, v = some (.ref b) ∧ Keep h0 h [] ∧ n0 ≤ b ∧ h0.size ≤ b ∧ Ari Z h b .byte m (fun i => if i < n then g i else 0)) := by
  intro l
  refine Does.of_wp (plainFor_of_name pn_6) (Ls := #[.val (.ref a), .val (.int p), .unset]) (fun m => by first | (simp [entryFrame, mkF, argsToLocals, Value.category]; done) | rfl | (rcases ref_cases hfv with rfl | ⟨_, rfl⟩ <;> rfl)) ?_
  intro C
  have K0 := Keep.refl h0 []
  refine WP.iloadN (pc' := 1) d_jdk_65_method_121_0 rfl rfl ?_
  refine WP.aloadN (pc' := 2) d_jdk_65_method_121_1 rfl rfl rfl ?_
  refine WP.arraylengthI (z := (n : Nat).toInt32) (pc' := 3) d_jdk_65_method_121_2 rfl A0 rfl ?_
  have hc3 : ¬ p = (n : Nat).toInt32 := fun q => by rw [q, natI (by omega)] at hp; omega
  refine WP.icmp_ne (pc1 := 14) (pc2 := 6) d_jdk_65_method_121_3 (by decide) (by decide) rfl (fun _ => ?_) (fun k => absurd k hc3)
  refine WP.iloadN (pc' := 15) d_jdk_65_method_121_14 rfl rfl ?_
  refine WP.newPI (ty := .byte) (n := m) (cap := 16384) (cl' := 1) (sl' := 16384) (pc' := 17) d_jdk_65_method_121_15 rfl rfl rfl (wd14 hw) hp hm (by decide) rfl rfl (by decide) (by decide) ?_
  intro h1 b1 g1 E1 A1
  have ge2 : n0 ≤ b1 := by rw [g1]; exact Z0
  have sz3 : h0.size ≤ b1 := by rw [g1]; exact K0.1
  have ne4 : a ≠ b1 := by rw [g1]; exact Nat.ne_of_lt A0.lt
  have V5 := A0.ext E1
  have K6 := K0.ext E1
  have Z7 : n0 ≤ h1.size := Nat.le_trans Z0 E1.1
  refine WP.astoreN (pc' := 18) d_jdk_65_method_121_17 rfl rfl (Ls' := #[.val (.ref a), .val (.int p), .val (.ref b1)]) rfl ?_
  refine WP.aloadN (pc' := 19) d_jdk_65_method_121_18 rfl rfl rfl ?_
  refine WP.iconst (pc' := 20) d_jdk_65_method_121_19 rfl (z := 0) rfl ?_
  refine WP.aloadN (pc' := 21) d_jdk_65_method_121_20 rfl rfl rfl ?_
  refine WP.iconst (pc' := 22) d_jdk_65_method_121_21 rfl (z := 0) rfl ?_
  refine WP.aloadN (pc' := 23) d_jdk_65_method_121_22 rfl rfl rfl ?_
  refine WP.arraylengthI (z := (n : Nat).toInt32) (pc' := 24) d_jdk_65_method_121_23 rfl V5 rfl ?_
  refine WP.iloadN (pc' := 25) d_jdk_65_method_121_24 rfl rfl ?_
  refine WP.callS (argsL := [(.int (n : Nat).toInt32), (.int p)]) (rest := [(.int (0 : Int32)), (.ref b1), (.int (0 : Int32)), (.ref a)]) (wd := 4) (cl' := 1) (sl' := 16384) (pc' := 28) d_jdk_65_method_121_25 rfl (wd183 hw) (wd184 hw) (wd185 hw) (wd186 hw) (by decide) (m_minI hw (n : Nat).toInt32 p h1 n0) pd_21 rfl rfl rfl (Nat.le_of_eq rfl) (by decide) (by decide) rfl rfl (by decide) (by decide) ?_
  rintro v hh8 ⟨rfl, he8⟩
  rw [he8]
  refine WP.castS (st' := [(.int (minI (n : Nat).toInt32 p)), (.int (0 : Int32)), (.ref b1), (.int (0 : Int32)), (.ref a)]) rfl ?_
  refine WP.arraycopy (wd := 0) (sp := 0) (dp := 0) (nn := n) (pc' := 31) d_jdk_65_method_121_28 rfl (wd187 hw) (wd190 hw) (wd188 hw) (wd189 hw) V5 A1 rfl rfl rfl (by rw [minI_v, natI (by omega), hp]; omega) (by omega) (by omega) ge2 rfl (by decide) (Nat.le_of_eq rfl) (by decide) ?_
  intro h9 K9 A9
  have V10 := V5.keep K9 (ninS ne4 nin0)
  have K11 := K6.trans K9 (allS (Or.inr sz3) all0)
  have Z12 : n0 ≤ h9.size := Nat.le_trans Z7 K9.1
  refine WP.aloadN (pc' := 32) d_jdk_65_method_121_31 rfl rfl rfl ?_
  refine WP.aret d_jdk_65_method_121_32 rfl rfl rfl (by decide) (by decide) ⟨_, rfl, K11, ge2, sz3, (A9).congr fun i hi => if q : i < n then (by unfold blit; rw [if_pos ⟨by omega, by omega⟩, if_pos q]; congr 1; omega) else (by unfold blit; rw [if_neg (by omega), if_neg q])⟩
theorem d_prog_7_method_47_14 : decode prog_7_method_47_code 14 = .ok (.aload_n 0, 1) := by decide +kernel
theorem d_prog_7_method_47_15 : decode prog_7_method_47_code 15 = .ok (.aload_n 0, 1) := by decide +kernel
theorem d_prog_7_method_47_16 : decode prog_7_method_47_code 16 = .ok (.getfield 11, 3) := by decide +kernel
theorem d_prog_7_method_47_19 : decode prog_7_method_47_code 19 = .ok (.aload_n 0, 1) := by decide +kernel
theorem d_prog_7_method_47_20 : decode prog_7_method_47_code 20 = .ok (.getfield 11, 3) := by decide +kernel
theorem d_prog_7_method_47_23 : decode prog_7_method_47_code 23 = .ok (.arraylength, 1) := by decide +kernel
theorem d_prog_7_method_47_24 : decode prog_7_method_47_code 24 = .ok (.aload_n 0, 1) := by decide +kernel
theorem d_prog_7_method_47_25 : decode prog_7_method_47_code 25 = .ok (.getfield 114, 3) := by decide +kernel
theorem d_prog_7_method_47_28 : decode prog_7_method_47_code 28 = .ok (.iload_n 1, 1) := by decide +kernel
theorem d_prog_7_method_47_29 : decode prog_7_method_47_code 29 = .ok (.iadd, 1) := by decide +kernel
theorem d_prog_7_method_47_30 : decode prog_7_method_47_code 30 = .ok (.invokestatic 356, 3) := by decide +kernel
theorem wd199 {Z : State} {a0 : Array Value} (hw : ∀ d ∈ tables_1, d.before a0 Z = true) : (Jvm.Cond.methodLink "com/example/vipool/vipool/http/HttpHead" (356 : Nat) ({ cls := "com/example/vipool/vipool/http/HttpHead", name := "grownRoom", desc := "(II)I" } : Jvm.MethodName)).before a0 Z = true := hw _ (List.mem_of_getElem? (i := 199) rfl)
theorem wd201 {Z : State} {a0 : Array Value} (hw : ∀ d ∈ tables_1, d.before a0 Z = true) : (Jvm.Cond.code ({ cls := "com/example/vipool/vipool/http/HttpHead", name := "grownRoom", desc := "(II)I" } : Jvm.MethodName) prog_7_method_28_code (2 : Nat) (Option.some Jvm.ClassFile.FieldType.int)).before a0 Z = true := hw _ (List.mem_of_getElem? (i := 201) rfl)
theorem wd200 {Z : State} {a0 : Array Value} (hw : ∀ d ∈ tables_1, d.before a0 Z = true) : (Jvm.Cond.static ({ cls := "com/example/vipool/vipool/http/HttpHead", name := "grownRoom", desc := "(II)I" } : Jvm.MethodName)).before a0 Z = true := hw _ (List.mem_of_getElem? (i := 200) rfl)
theorem d_prog_7_method_47_33 : decode prog_7_method_47_code 33 = .ok (.invokestatic 359, 3) := by decide +kernel
theorem wd214 {Z : State} {a0 : Array Value} (hw : ∀ d ∈ tables_1, d.before a0 Z = true) : (Jvm.Cond.methodLink "com/example/vipool/vipool/http/HttpHead" (359 : Nat) ({ cls := "java/util/Arrays", name := "copyOf", desc := "([BI)[B" } : Jvm.MethodName)).before a0 Z = true := hw _ (List.mem_of_getElem? (i := 214) rfl)
theorem wd216 {Z : State} {a0 : Array Value} (hw : ∀ d ∈ tables_1, d.before a0 Z = true) : (Jvm.Cond.code ({ cls := "java/util/Arrays", name := "copyOf", desc := "([BI)[B" } : Jvm.MethodName) jdk_65_method_121_code (3 : Nat) (Option.some (Jvm.ClassFile.FieldType.array Jvm.ClassFile.FieldType.byte))).before a0 Z = true := hw _ (List.mem_of_getElem? (i := 216) rfl)
theorem wd175 {Z : State} {a0 : Array Value} (hw : ∀ d ∈ tables_1, d.before a0 Z = true) : (Jvm.Cond.initialized "java/util/Arrays").before a0 Z = true := hw _ (List.mem_of_getElem? (i := 175) rfl)
theorem pd_22 : parseMethodDescriptor "([BI)[B" = some ⟨[(.array .byte), .int], some (.array .byte)⟩ := by decide +kernel
theorem wd215 {Z : State} {a0 : Array Value} (hw : ∀ d ∈ tables_1, d.before a0 Z = true) : (Jvm.Cond.static ({ cls := "java/util/Arrays", name := "copyOf", desc := "([BI)[B" } : Jvm.MethodName)).before a0 Z = true := hw _ (List.mem_of_getElem? (i := 215) rfl)
theorem d_prog_7_method_47_36 : decode prog_7_method_47_code 36 = .ok (.putfield 11, 3) := by decide +kernel
set_option maxRecDepth 65536 in
set_option maxHeartbeats 40000000 in
theorem m_roomA {Z : State} {a0 : Array Value} (hw : ∀ d ∈ tables_1, d.before a0 Z = true) (a : Addr) (q : Int32) (h0 : Heap) (n0 : Nat) (Z0 : n0 ≤ h0.size) (O0 : Old Z n0 h0) (rw sp : Addr) (us fd : Int32) (g e : Nat → Int32) (R0 : Hh Z n0 h0 512 a rw sp us fd g e) (hUq : us + q = 8192) : ∀ l, Does l Z (⟨"com/example/vipool/vipool/http/HttpHead", "room", "(I)V"⟩ : MethodName) prog_7_method_47_code 2 none ({ frames := 3, cells := 1, slots := 16384, locals := 43 } : Room) n0 #[(.ref a), (.int q)] h0 (fun v h => v = none ∧ ∃ (rx : Addr) (gx : Nat → Int32), Keep h0 h [a] ∧ h0.size ≤ rx ∧ Hh Z n0 h 8192 a rx sp us fd gx e) := by
  intro l
  refine Does.of_wp (plainFor_of_name pn_4) (Ls := #[.val (.ref a), .val (.int q)]) (fun m => by first | (simp [entryFrame, mkF, argsToLocals, Value.category]; done) | rfl | (rcases ref_cases hfv with rfl | ⟨_, rfl⟩ <;> rfl)) ?_
  intro C
  obtain ⟨⟨ga1, gr1, gs1, nrs1, nra1, nsa1⟩, X1, ⟨Fraw_1, Fspans_1, Fused_1, Ffields_1, FsecondEnd_1, FsecondStart_1, Frequest_1, Fmethod_1, Fstatus_1⟩, AR1, AS1⟩ := id R0
  have K0 := Keep.refl h0 [a]
  refine WP.aloadN (pc' := 1) d_prog_7_method_47_0 rfl rfl rfl ?_
  refine WP.getF (pc' := 4) d_prog_7_method_47_1 rfl (host := "") (Or.inl (wd61 hw)) Via.refl Fused_1 ?_
  refine WP.iloadN (pc' := 5) d_prog_7_method_47_4 rfl rfl ?_
  refine WP.iadd (pc' := 6) d_prog_7_method_47_5 rfl ?_
  refine WP.aloadN (pc' := 7) d_prog_7_method_47_6 rfl rfl rfl ?_
  refine WP.getF (pc' := 10) d_prog_7_method_47_7 rfl (host := "") (Or.inl (wd51 hw)) Via.refl Fraw_1 ?_
  refine WP.arraylengthI (z := (512 : Int32)) (pc' := 11) d_prog_7_method_47_10 rfl AR1 rfl ?_
  have hc11 : (512 : Int32) < (us + q) := by rw [hUq]; decide
  refine WP.icmp_le (pc1 := 39) (pc2 := 14) d_prog_7_method_47_11 (by decide) (by decide) rfl (fun k => absurd hc11 k) (fun _ => ?_)
  refine WP.aloadN (pc' := 15) d_prog_7_method_47_14 rfl rfl rfl ?_
  refine WP.aloadN (pc' := 16) d_prog_7_method_47_15 rfl rfl rfl ?_
  refine WP.getF (pc' := 19) d_prog_7_method_47_16 rfl (host := "") (Or.inl (wd51 hw)) Via.refl Fraw_1 ?_
  refine WP.aloadN (pc' := 20) d_prog_7_method_47_19 rfl rfl rfl ?_
  refine WP.getF (pc' := 23) d_prog_7_method_47_20 rfl (host := "") (Or.inl (wd51 hw)) Via.refl Fraw_1 ?_
  refine WP.arraylengthI (z := (512 : Int32)) (pc' := 24) d_prog_7_method_47_23 rfl AR1 rfl ?_
  refine WP.aloadN (pc' := 25) d_prog_7_method_47_24 rfl rfl rfl ?_
  refine WP.getF (pc' := 28) d_prog_7_method_47_25 rfl (host := "") (Or.inl (wd61 hw)) Via.refl Fused_1 ?_
  refine WP.iloadN (pc' := 29) d_prog_7_method_47_28 rfl rfl ?_
  refine WP.iadd (pc' := 30) d_prog_7_method_47_29 rfl ?_
  rw [hUq]
  refine WP.callS (argsL := [(.int (512 : Int32)), (.int (8192 : Int32))]) (rest := [(.ref rw), (.ref a)]) (wd := 2) (cl' := 0) (sl' := 0) (pc' := 33) d_prog_7_method_47_30 rfl (wd199 hw) (wd200 hw) (wd46 hw) (wd201 hw) (by decide) (m_grwA hw h0 n0) pd_21 rfl rfl rfl (Nat.le_of_eq rfl) (by decide) (by decide) rfl rfl (by decide) (by decide) ?_
  rintro v hh2 ⟨rfl, he2⟩
  rw [he2]
  refine WP.castS (st' := [(.int (8192 : Int32)), (.ref rw), (.ref a)]) rfl ?_
  refine WP.callS (argsL := [(.ref rw), (.int (8192 : Int32))]) (rest := [(.ref a)]) (wd := 1) (cl' := 1) (sl' := 16384) (pc' := 36) d_prog_7_method_47_33 rfl (wd214 hw) (wd215 hw) (wd175 hw) (wd216 hw) (by decide) (m_cpB hw rw (8192 : Int32) h0 n0 Z0 g (512) (8192) AR1 (by decide) (by omega) (by omega)) pd_22 rfl rfl rfl (Nat.le_of_eq rfl) (by decide) (by decide) rfl rfl (by decide) (by decide) ?_
  rintro v h3 ⟨c3, rfl, K3, ge3, sz3, A3⟩
  have sy3 : h0.size ≤ c3 := Nat.le_trans K0.1 sz3
  have ne4 : a ≠ c3 := Nat.ne_of_lt (Nat.lt_of_lt_of_le X1.lt sz3)
  have ne5 : rw ≠ c3 := Nat.ne_of_lt (Nat.lt_of_lt_of_le AR1.lt sz3)
  have ne6 : sp ≠ c3 := Nat.ne_of_lt (Nat.lt_of_lt_of_le AS1.lt sz3)
  have E7 := X1.keep K3
  have F8 := Fraw_1.keep K3 nin0
  have F9 := Fspans_1.keep K3 nin0
  have F10 := Fused_1.keep K3 nin0
  have F11 := Ffields_1.keep K3 nin0
  have F12 := FsecondEnd_1.keep K3 nin0
  have F13 := FsecondStart_1.keep K3 nin0
  have F14 := Frequest_1.keep K3 nin0
  have F15 := Fmethod_1.keep K3 nin0
  have F16 := Fstatus_1.keep K3 nin0
  have V17 := AR1.keep K3 nin0
  have V18 := AS1.keep K3 nin0
  have O19 := O0.keep K3 all0
  have K20 := K0.trans K3 all0
  have Z21 : n0 ≤ h3.size := Nat.le_trans Z0 K3.1
  refine WP.castS (st' := [(.ref c3), (.ref a)]) rfl ?_
  refine WP.putF (pc' := 39) d_prog_7_method_47_36 rfl (host := "") (Or.inl (wd51 hw)) Via.refl F8 E7 (Or.inl (wd52 hw)) (wd45 hw) (ty := (.array .byte)) (by decide) rfl rfl ga1 ?_
  intro h22 W23
  have Kw24 := Keep.of_wr W23
  have E25 := E7.keep Kw24
  have V26 := V17.keep Kw24 (ninS nra1 nin0)
  have V27 := V18.keep Kw24 (ninS nsa1 nin0)
  have V28 := A3.keep Kw24 (ninS (Ne.symm ne4) nin0)
  have O29 := O19.keep Kw24 (allS ga1 all0)
  have K30 := K20.trans Kw24 (allS (Or.inl (by simp)) all0)
  have Z31 : n0 ≤ h22.size := Nat.le_trans Z21 Kw24.1
  have F32 := F8.same W23
  have F33 := F9.other W23 (Or.inr (slot_ne (Or.inl (wd55 hw)) (Or.inl (wd52 hw)) (by decide) (t := (.array .int)) (t' := (.array .byte)) (by decide) (by decide)))
  have F34 := F10.other W23 (Or.inr (slot_ne (Or.inl (wd62 hw)) (Or.inl (wd52 hw)) (by decide) (t := .int) (t' := (.array .byte)) (by decide) (by decide)))
  have F35 := F11.other W23 (Or.inr (slot_ne (Or.inl (wd107 hw)) (Or.inl (wd52 hw)) (by decide) (t := .int) (t' := (.array .byte)) (by decide) (by decide)))
  have F36 := F12.other W23 (Or.inr (slot_ne (Or.inl (wd123 hw)) (Or.inl (wd52 hw)) (by decide) (t := .int) (t' := (.array .byte)) (by decide) (by decide)))
  have F37 := F13.other W23 (Or.inr (slot_ne (Or.inl (wd125 hw)) (Or.inl (wd52 hw)) (by decide) (t := .int) (t' := (.array .byte)) (by decide) (by decide)))
  have F38 := F14.other W23 (Or.inr (slot_ne (Or.inl (wd127 hw)) (Or.inl (wd52 hw)) (by decide) (t := .boolean) (t' := (.array .byte)) (by decide) (by decide)))
  have F39 := F15.other W23 (Or.inr (slot_ne (Or.inl (wd114 hw)) (Or.inl (wd52 hw)) (by decide) (t := (.object "java/lang/String")) (t' := (.array .byte)) (by decide) (by decide)))
  have F40 := F16.other W23 (Or.inr (slot_ne (Or.inl (wd116 hw)) (Or.inl (wd52 hw)) (by decide) (t := .int) (t' := (.array .byte)) (by decide) (by decide)))
  exact WP.vret d_prog_7_method_47_39 rfl (by decide) (by decide) ⟨rfl, _, _, K30, sy3, ⟨⟨ga1, ge3, gs1, (Ne.symm ne6), (Ne.symm ne4), nsa1⟩, E25, ⟨F32, F33, F34, F35, F36, F37, F38, F39, F40⟩, V28, V27⟩⟩
set_option maxRecDepth 65536 in
set_option maxHeartbeats 40000000 in
theorem m_putA {Z : State} {a0 : Array Value} (hw : ∀ d ∈ tables_1, d.before a0 Z = true) (a : Addr) (s : Addr) (h0 : Heap) (n0 : Nat) (Z0 : n0 ≤ h0.size) (O0 : Old Z n0 h0) (cs : Int32) (S_CS : Sta Z Z.heap "java/lang/String" "COMPACT_STRINGS" "Z" (.int cs)) (hcs : ¬ cs = 0) (fv : Value) (hfv : fv.isRef = true) (S_FM : Sta Z Z.heap "jdk/internal/util/Preconditions" "SIOOBE_FORMATTER" "Ljava/util/function/BiFunction;" fv) (rw sp : Addr) (us fd : Int32) (g e : Nat → Int32) (R0 : Hh Z n0 h0 512 a rw sp us fd g e) (b : Addr) (n : Nat) (q : Nat → Int32) (sE : Exa Z h0 s "java/lang/String") (sV : Fld Z h0 s "java/lang/String" "value" "[B" (.ref b)) (sC : Fld Z h0 s "java/lang/String" "coder" "B" (.int 0)) (sA : Ari Z h0 b .byte n q) (n_sa : s ≠ a) (n_srw : s ≠ rw) (n_ssp : s ≠ sp) (n_ba : b ≠ a) (n_brw : b ≠ rw) (n_bsp : b ≠ sp) (U : Nat) (hU : us.toInt = (U : Int)) (hs : U + n ≤ 8192) (hn8 : n ≤ 8192) (hUq : us + (n : Nat).toInt32 = 8192) (hq : ∀ i, i < n → nar .byte (q i) = q i) : ∀ l, Does l Z (⟨"com/example/vipool/vipool/http/HttpHead", "put", "(Ljava/lang/String;)V"⟩ : MethodName) prog_7_method_48_code 4 none ({ frames := 4, cells := 1, slots := 16384, locals := 56 } : Room) n0 #[(.ref a), (.ref s)] h0 (fun v h => v = none ∧ ∃ (rx : Addr) (gx : Nat → Int32), Keep h0 h [a] ∧ h0.size ≤ rx ∧ Hh Z n0 h 8192 a rx sp (us + (n : Nat).toInt32) fd gx e) := by
  intro l
  refine Does.of_wp (plainFor_of_name pn_4) (Ls := #[.val (.ref a), .val (.ref s), .unset, .unset]) (fun m => by first | (simp [entryFrame, mkF, argsToLocals, Value.category]; done) | rfl | (rcases ref_cases hfv with rfl | ⟨_, rfl⟩ <;> rfl)) ?_
  intro C
  obtain ⟨⟨ga1, gr1, gs1, nrs1, nra1, nsa1⟩, X1, ⟨Fraw_1, Fspans_1, Fused_1, Ffields_1, FsecondEnd_1, FsecondStart_1, Frequest_1, Fmethod_1, Fstatus_1⟩, AR1, AS1⟩ := id R0
  have K0 := Keep.refl h0 [a]
  refine WP.aloadN (pc' := 1) d_prog_7_method_48_0 rfl rfl rfl ?_
  refine WP.aloadN (pc' := 2) d_prog_7_method_48_1 rfl rfl rfl ?_
  refine WP.callV (a := s) (K := "java/lang/String") (argsL := []) (rest := [(.ref a)]) (wd := 1) (cl' := 0) (sl' := 0) (pc' := 5) d_prog_7_method_48_2 rfl (wd67 hw) (wd68 hw) (nfS (wd70 hw) rfl) (wd70 hw) (wd69 hw) (wd2 hw) (wd71 hw) (by decide) sE (s_len hw s h0 n0 sE sC cs (S_CS.ext O0.2) hcs b sV n q sA (by omega)) pd_13 rfl rfl rfl (Nat.le_of_eq rfl) (by decide) (by decide) rfl rfl (by decide) (by decide) ?_
  rintro v hh2 ⟨rfl, he2⟩
  rw [he2]
  refine WP.castS (st' := [(.int (n : Nat).toInt32), (.ref a)]) rfl ?_
  refine WP.callP (a := a) (argsL := [(.int (n : Nat).toInt32)]) (rest := []) (wd := 0) (cl' := 1) (sl' := 16384) (pc' := 8) d_prog_7_method_48_5 rfl (wd77 hw) (wd78 hw) (selPriv (wd59 hw) rfl (wd79 hw) (wd78 hw) (by decide)) (wd79 hw) (wd46 hw) (wd80 hw) (by decide) R0.2.1 (m_roomA hw a (n : Nat).toInt32 h0 n0 Z0 O0 rw sp us fd g e R0 hUq) pd_14 rfl rfl rfl (Nat.le_of_eq rfl) (by decide) (by decide) rfl rfl (by decide) (by decide) ?_
  rintro v hx ⟨rfl, rx, gx, Kx, zx, Rx⟩
  have ne3 : a ≠ rx := Nat.ne_of_lt (Nat.lt_of_lt_of_le X1.lt zx)
  have ne4 : rw ≠ rx := Nat.ne_of_lt (Nat.lt_of_lt_of_le AR1.lt zx)
  have ne5 : sp ≠ rx := Nat.ne_of_lt (Nat.lt_of_lt_of_le AS1.lt zx)
  have ne6 : s ≠ rx := Nat.ne_of_lt (Nat.lt_of_lt_of_le sE.lt zx)
  have ne7 : b ≠ rx := Nat.ne_of_lt (Nat.lt_of_lt_of_le sA.lt zx)
  have sy8 : h0.size ≤ rx := Nat.le_trans K0.1 zx
  have E9 := X1.keep Kx
  have V10 := AR1.keep Kx (ninS nra1 nin0)
  have V11 := AS1.keep Kx (ninS nsa1 nin0)
  have E12 := sE.keep Kx
  have F13 := sV.keep Kx (ninS n_sa nin0)
  have F14 := sC.keep Kx (ninS n_sa nin0)
  have V15 := sA.keep Kx (ninS n_ba nin0)
  have O16 := O0.keep Kx (allS ga1 all0)
  have K17 := K0.trans Kx (allS (Or.inl (by simp)) all0)
  have Z18 : n0 ≤ hx.size := Nat.le_trans Z0 Kx.1
  obtain ⟨⟨ga19, gr19, gs19, nrs19, nra19, nsa19⟩, X19, ⟨Fraw_19, Fspans_19, Fused_19, Ffields_19, FsecondEnd_19, FsecondStart_19, Frequest_19, Fmethod_19, Fstatus_19⟩, AR19, AS19⟩ := id Rx
  refine WP.castS (st' := []) rfl ?_
  refine WP.iconst (pc' := 9) d_prog_7_method_48_8 rfl (z := 0) rfl ?_
  refine WP.istoreN (pc' := 10) d_prog_7_method_48_9 rfl (Ls' := #[.val (.ref a), .val (.ref s), .val (.int (0 : Int32)), .unset]) rfl ?_
  have loop : ∀ (k I : Nat) (i : Int32) (s3 : Slot) (hh : Heap) (G : Nat → Int32), (s3 = .unset ∨ ∃ u, s3 = .val u ∧ u.category = 1) → i.toInt = (I : Int) → I ≤ n → n - I < k → Keep hx hh [rx] → Ari Z hh rx .byte 8192 G → (∀ j, j < 8192 → G j = lay gx U I q j) → WP C Z prog_7_method_48_code 4 "com/example/vipool/vipool/http/HttpHead" none "put" ({ frames := 4, cells := 1, slots := 16384, locals := 56 } : Room) n0 (fun v h => v = none ∧ ∃ (rx : Addr) (gx : Nat → Int32), Keep h0 h [a] ∧ h0.size ≤ rx ∧ Hh Z n0 h 8192 a rx sp (us + (n : Nat).toInt32) fd gx e) 1 16384 hh 10 #[.val (.ref a), .val (.ref s), .val (.int i), s3] [] := by
    intro k
    induction k with
    | zero => intro I i s3 hh G h1 h2 h3; omega
    | succ k IH =>
      intro I i s3 hh G hs3 hi hI hk K1 AG hG
      have E20 := X19.keep K1
      have V21 := AS19.keep K1 (ninS (Ne.symm nrs19) nin0)
      have E22 := E12.keep K1
      have F23 := F13.keep K1 (ninS ne6 nin0)
      have F24 := F14.keep K1 (ninS ne6 nin0)
      have V25 := V15.keep K1 (ninS ne7 nin0)
      have F26 := Fraw_19.keep K1 (ninS (Ne.symm nra19) nin0)
      have F27 := Fspans_19.keep K1 (ninS (Ne.symm nra19) nin0)
      have F28 := Fused_19.keep K1 (ninS (Ne.symm nra19) nin0)
      have F29 := Ffields_19.keep K1 (ninS (Ne.symm nra19) nin0)
      have F30 := FsecondEnd_19.keep K1 (ninS (Ne.symm nra19) nin0)
      have F31 := FsecondStart_19.keep K1 (ninS (Ne.symm nra19) nin0)
      have F32 := Frequest_19.keep K1 (ninS (Ne.symm nra19) nin0)
      have F33 := Fmethod_19.keep K1 (ninS (Ne.symm nra19) nin0)
      have F34 := Fstatus_19.keep K1 (ninS (Ne.symm nra19) nin0)
      have O35 := O16.keep K1 (allS gr19 all0)
      have Z36 : n0 ≤ hh.size := Nat.le_trans Z18 K1.1
      have K2 : Keep h0 hh [a] := K17.trans K1 (allS (Or.inr sy8) all0)
      refine WP.iloadN (pc' := 11) d_prog_7_method_48_10 rfl rfl ?_
      refine WP.aloadN (pc' := 12) d_prog_7_method_48_11 rfl rfl rfl ?_
      refine WP.callV (a := s) (K := "java/lang/String") (argsL := []) (rest := [(.int i)]) (wd := 1) (cl' := 1) (sl' := 16384) (pc' := 15) d_prog_7_method_48_12 rfl (wd67 hw) (wd68 hw) (nfS (wd70 hw) rfl) (wd70 hw) (wd69 hw) (wd2 hw) (wd71 hw) (by decide) E22 (s_len hw s hh n0 E22 F24 cs (S_CS.ext O35.2) hcs b F23 n q V25 (by omega)) pd_13 rfl rfl rfl (Nat.le_of_eq rfl) (by decide) (by decide) rfl rfl (by decide) (by decide) ?_
      rintro v hh37 ⟨rfl, he37⟩
      rw [he37]
      refine WP.castS (st' := [(.int (n : Nat).toInt32), (.int i)]) rfl ?_
      refine WP.icmp_ge (pc1 := 55) (pc2 := 18) d_prog_7_method_48_15 (by decide) (by decide) rfl ?_ ?_
      · intro hc15
        refine WP.aloadN (pc' := 56) d_prog_7_method_48_55 rfl rfl rfl ?_
        refine WP.dup (pc' := 57) d_prog_7_method_48_56 rfl rfl ?_
        refine WP.getF (pc' := 60) d_prog_7_method_48_57 rfl (host := "") (Or.inl (wd61 hw)) Via.refl F28 ?_
        refine WP.aloadN (pc' := 61) d_prog_7_method_48_60 rfl rfl rfl ?_
        refine WP.callV (a := s) (K := "java/lang/String") (argsL := []) (rest := [(.int us), (.ref a)]) (wd := 2) (cl' := 1) (sl' := 16384) (pc' := 64) d_prog_7_method_48_61 rfl (wd67 hw) (wd68 hw) (nfS (wd70 hw) rfl) (wd70 hw) (wd69 hw) (wd2 hw) (wd71 hw) (by decide) E22 (s_len hw s hh n0 E22 F24 cs (S_CS.ext O35.2) hcs b F23 n q V25 (by omega)) pd_13 rfl rfl rfl (Nat.le_of_eq rfl) (by decide) (by decide) rfl rfl (by decide) (by decide) ?_
        rintro v hh38 ⟨rfl, he38⟩
        rw [he38]
        refine WP.castS (st' := [(.int (n : Nat).toInt32), (.int us), (.ref a)]) rfl ?_
        refine WP.iadd (pc' := 65) d_prog_7_method_48_64 rfl ?_
        refine WP.putF (pc' := 68) d_prog_7_method_48_65 rfl (host := "") (Or.inl (wd61 hw)) Via.refl F28 E20 (Or.inl (wd62 hw)) (wd45 hw) (ty := .int) (by decide) rfl rfl ga19 ?_
        intro h39 W40
        have Kw41 := Keep.of_wr W40
        have E42 := E20.keep Kw41
        have V43 := V21.keep Kw41 (ninS nsa19 nin0)
        have E44 := E22.keep Kw41
        have F45 := F23.keep Kw41 (ninS n_sa nin0)
        have F46 := F24.keep Kw41 (ninS n_sa nin0)
        have V47 := V25.keep Kw41 (ninS n_ba nin0)
        have V48 := AG.keep Kw41 (ninS nra19 nin0)
        have O49 := O35.keep Kw41 (allS ga19 all0)
        have K50 := K2.trans Kw41 (allS (Or.inl (by simp)) all0)
        have Z51 : n0 ≤ h39.size := Nat.le_trans Z36 Kw41.1
        have F52 := F26.other W40 (Or.inr (slot_ne (Or.inl (wd52 hw)) (Or.inl (wd62 hw)) (by decide) (t := (.array .byte)) (t' := .int) (by decide) (by decide)))
        have F53 := F27.other W40 (Or.inr (slot_ne (Or.inl (wd55 hw)) (Or.inl (wd62 hw)) (by decide) (t := (.array .int)) (t' := .int) (by decide) (by decide)))
        have F54 := F28.same W40
        have F55 := F29.other W40 (Or.inr (slot_ne (Or.inl (wd107 hw)) (Or.inl (wd62 hw)) (by decide) (t := .int) (t' := .int) (by decide) (by decide)))
        have F56 := F30.other W40 (Or.inr (slot_ne (Or.inl (wd123 hw)) (Or.inl (wd62 hw)) (by decide) (t := .int) (t' := .int) (by decide) (by decide)))
        have F57 := F31.other W40 (Or.inr (slot_ne (Or.inl (wd125 hw)) (Or.inl (wd62 hw)) (by decide) (t := .int) (t' := .int) (by decide) (by decide)))
        have F58 := F32.other W40 (Or.inr (slot_ne (Or.inl (wd127 hw)) (Or.inl (wd62 hw)) (by decide) (t := .boolean) (t' := .int) (by decide) (by decide)))
        have F59 := F33.other W40 (Or.inr (slot_ne (Or.inl (wd114 hw)) (Or.inl (wd62 hw)) (by decide) (t := (.object "java/lang/String")) (t' := .int) (by decide) (by decide)))
        have F60 := F34.other W40 (Or.inr (slot_ne (Or.inl (wd116 hw)) (Or.inl (wd62 hw)) (by decide) (t := .int) (t' := .int) (by decide) (by decide)))
        exact WP.vret d_prog_7_method_48_68 rfl (by decide) (by decide) ⟨rfl, _, _, K50, zx, ⟨⟨ga19, gr19, gs19, nrs19, nra19, nsa19⟩, E42, ⟨F52, F53, F54, F55, F56, F57, F58, F59, F60⟩, V48, V43⟩⟩
      · intro hc15
        have lt1 : I < n := by rw [Int32.lt_iff_toInt_lt, natI (by omega)] at hc15; omega
        refine WP.aloadN (pc' := 19) d_prog_7_method_48_18 rfl rfl rfl ?_
        refine WP.iloadN (pc' := 20) d_prog_7_method_48_19 rfl rfl ?_
        refine WP.callV (a := s) (K := "java/lang/String") (argsL := [(.int i)]) (rest := []) (wd := 0) (cl' := 1) (sl' := 16384) (pc' := 23) d_prog_7_method_48_20 rfl (wd81 hw) (wd82 hw) (nfS (wd84 hw) rfl) (wd84 hw) (wd83 hw) (wd2 hw) (wd85 hw) (by decide) E22 (s_cha hw s i hh n0 E22 F24 cs (S_CS.ext O35.2) hcs b F23 n q V25 (by omega) fv hfv (S_FM.ext O35.2) I hi lt1) pd_15 rfl rfl rfl (Nat.le_of_eq rfl) (by decide) (by decide) rfl rfl (by decide) (by decide) ?_
        rintro v hh61 ⟨rfl, he61⟩
        rw [he61]
        refine WP.castS (st' := [(.int (chv (q I)))]) rfl ?_
        refine WP.istoreN (pc' := 24) d_prog_7_method_48_23 rfl (Ls' := #[.val (.ref a), .val (.ref s), .val (.int i), .val (.int (chv (q I)))]) (XS.store1 rfl hs3 rfl) ?_
        refine WP.aloadN (pc' := 25) d_prog_7_method_48_24 rfl rfl rfl ?_
        refine WP.getF (pc' := 28) d_prog_7_method_48_25 rfl (host := "") (Or.inl (wd51 hw)) Via.refl F26 ?_
        refine WP.aloadN (pc' := 29) d_prog_7_method_48_28 rfl rfl rfl ?_
        refine WP.getF (pc' := 32) d_prog_7_method_48_29 rfl (host := "") (Or.inl (wd61 hw)) Via.refl F28 ?_
        refine WP.iloadN (pc' := 33) d_prog_7_method_48_32 rfl rfl ?_
        refine WP.iadd (pc' := 34) d_prog_7_method_48_33 rfl ?_
        refine WP.iloadN (pc' := 35) d_prog_7_method_48_34 rfl rfl ?_
        refine WP.sipush (pc' := 38) d_prog_7_method_48_35 rfl (z := 255) rfl ?_
        have hc38 : ¬ (255 : Int32) < (chv (q I)) := by rw [Int32.lt_iff_toInt_lt]; have := (chv_le (q I)).2; have e : (255 : Int32).toInt = 255 := rfl; omega
        refine WP.icmp_gt (pc1 := 45) (pc2 := 41) d_prog_7_method_48_38 (by decide) (by decide) rfl (fun k => absurd k hc38) (fun _ => ?_)
        refine WP.iloadN (pc' := 42) d_prog_7_method_48_41 rfl rfl ?_
        refine WP.goto (pc' := 47) d_prog_7_method_48_42 (by decide) (by decide) ?_
        refine WP.i2b (pc' := 48) d_prog_7_method_48_47 rfl ?_
        refine WP.bastoreI (x' := (q I)) (U + I) (pc' := 49) d_prog_7_method_48_48 rfl AG (adds hU hi (by omega)) (by omega) gr19 (back8 (hq I lt1)) ?_
        intro h62 K63 A64
        have E65 := E20.keep K63
        have V66 := V21.keep K63 (ninS (Ne.symm nrs19) nin0)
        have E67 := E22.keep K63
        have F68 := F23.keep K63 (ninS ne6 nin0)
        have F69 := F24.keep K63 (ninS ne6 nin0)
        have V70 := V25.keep K63 (ninS ne7 nin0)
        have F71 := F26.keep K63 (ninS (Ne.symm nra19) nin0)
        have F72 := F27.keep K63 (ninS (Ne.symm nra19) nin0)
        have F73 := F28.keep K63 (ninS (Ne.symm nra19) nin0)
        have F74 := F29.keep K63 (ninS (Ne.symm nra19) nin0)
        have F75 := F30.keep K63 (ninS (Ne.symm nra19) nin0)
        have F76 := F31.keep K63 (ninS (Ne.symm nra19) nin0)
        have F77 := F32.keep K63 (ninS (Ne.symm nra19) nin0)
        have F78 := F33.keep K63 (ninS (Ne.symm nra19) nin0)
        have F79 := F34.keep K63 (ninS (Ne.symm nra19) nin0)
        have O80 := O35.keep K63 (allS gr19 all0)
        have K81 := K2.trans K63 (allS (Or.inr sy8) all0)
        have Z82 : n0 ≤ h62.size := Nat.le_trans Z36 K63.1
        refine WP.iinc (pc' := 52) d_prog_7_method_48_49 rfl rfl (z := (i + (1 : Int32))) rfl (Ls' := #[.val (.ref a), .val (.ref s), .val (.int (i + (1 : Int32))), .val (.int (chv (q I)))]) rfl ?_
        refine WP.goto (pc' := 10) d_prog_7_method_48_52 (by decide) (by decide) ?_
        exact IH (I + 1) _ _ _ _ (Or.inr ⟨_, rfl, rfl⟩) (adds hi rfl (by omega)) (by omega) (by omega) (K1.trans K63 (allS (Or.inl (by simp)) all0)) A64 (lay_step rfl hG)
  exact loop (n + 1) 0 0 _ hx gx (Or.inl rfl) rfl (by omega) (by omega) (Keep.refl _ _) AR19 fun j _ => (lay0 gx U q j).symm
set_option maxRecDepth 65536 in
set_option maxHeartbeats 40000000 in
theorem m_roomB {Z : State} {a0 : Array Value} (hw : ∀ d ∈ tables_1, d.before a0 Z = true) (a : Addr) (q : Int32) (h0 : Heap) (n0 : Nat) (Z0 : n0 ≤ h0.size) (O0 : Old Z n0 h0) (rw sp : Addr) (us fd : Int32) (g e : Nat → Int32) (R0 : Hh Z n0 h0 8192 a rw sp us fd g e) (hUq : us + q = 8193) : ∀ l, Does l Z (⟨"com/example/vipool/vipool/http/HttpHead", "room", "(I)V"⟩ : MethodName) prog_7_method_47_code 2 none ({ frames := 3, cells := 1, slots := 16384, locals := 43 } : Room) n0 #[(.ref a), (.int q)] h0 (fun v h => v = none ∧ ∃ (rx : Addr) (gx : Nat → Int32), Keep h0 h [a] ∧ h0.size ≤ rx ∧ Hh Z n0 h 16384 a rx sp us fd gx e) := by
  intro l
  refine Does.of_wp (plainFor_of_name pn_4) (Ls := #[.val (.ref a), .val (.int q)]) (fun m => by first | (simp [entryFrame, mkF, argsToLocals, Value.category]; done) | rfl | (rcases ref_cases hfv with rfl | ⟨_, rfl⟩ <;> rfl)) ?_
  intro C
  obtain ⟨⟨ga1, gr1, gs1, nrs1, nra1, nsa1⟩, X1, ⟨Fraw_1, Fspans_1, Fused_1, Ffields_1, FsecondEnd_1, FsecondStart_1, Frequest_1, Fmethod_1, Fstatus_1⟩, AR1, AS1⟩ := id R0
  have K0 := Keep.refl h0 [a]
  refine WP.aloadN (pc' := 1) d_prog_7_method_47_0 rfl rfl rfl ?_
  refine WP.getF (pc' := 4) d_prog_7_method_47_1 rfl (host := "") (Or.inl (wd61 hw)) Via.refl Fused_1 ?_
  refine WP.iloadN (pc' := 5) d_prog_7_method_47_4 rfl rfl ?_
  refine WP.iadd (pc' := 6) d_prog_7_method_47_5 rfl ?_
  refine WP.aloadN (pc' := 7) d_prog_7_method_47_6 rfl rfl rfl ?_
  refine WP.getF (pc' := 10) d_prog_7_method_47_7 rfl (host := "") (Or.inl (wd51 hw)) Via.refl Fraw_1 ?_
  refine WP.arraylengthI (z := (8192 : Int32)) (pc' := 11) d_prog_7_method_47_10 rfl AR1 rfl ?_
  have hc11 : (8192 : Int32) < (us + q) := by rw [hUq]; decide
  refine WP.icmp_le (pc1 := 39) (pc2 := 14) d_prog_7_method_47_11 (by decide) (by decide) rfl (fun k => absurd hc11 k) (fun _ => ?_)
  refine WP.aloadN (pc' := 15) d_prog_7_method_47_14 rfl rfl rfl ?_
  refine WP.aloadN (pc' := 16) d_prog_7_method_47_15 rfl rfl rfl ?_
  refine WP.getF (pc' := 19) d_prog_7_method_47_16 rfl (host := "") (Or.inl (wd51 hw)) Via.refl Fraw_1 ?_
  refine WP.aloadN (pc' := 20) d_prog_7_method_47_19 rfl rfl rfl ?_
  refine WP.getF (pc' := 23) d_prog_7_method_47_20 rfl (host := "") (Or.inl (wd51 hw)) Via.refl Fraw_1 ?_
  refine WP.arraylengthI (z := (8192 : Int32)) (pc' := 24) d_prog_7_method_47_23 rfl AR1 rfl ?_
  refine WP.aloadN (pc' := 25) d_prog_7_method_47_24 rfl rfl rfl ?_
  refine WP.getF (pc' := 28) d_prog_7_method_47_25 rfl (host := "") (Or.inl (wd61 hw)) Via.refl Fused_1 ?_
  refine WP.iloadN (pc' := 29) d_prog_7_method_47_28 rfl rfl ?_
  refine WP.iadd (pc' := 30) d_prog_7_method_47_29 rfl ?_
  rw [hUq]
  refine WP.callS (argsL := [(.int (8192 : Int32)), (.int (8193 : Int32))]) (rest := [(.ref rw), (.ref a)]) (wd := 2) (cl' := 0) (sl' := 0) (pc' := 33) d_prog_7_method_47_30 rfl (wd199 hw) (wd200 hw) (wd46 hw) (wd201 hw) (by decide) (m_grwB hw h0 n0) pd_21 rfl rfl rfl (Nat.le_of_eq rfl) (by decide) (by decide) rfl rfl (by decide) (by decide) ?_
  rintro v hh2 ⟨rfl, he2⟩
  rw [he2]
  refine WP.castS (st' := [(.int (16384 : Int32)), (.ref rw), (.ref a)]) rfl ?_
  refine WP.callS (argsL := [(.ref rw), (.int (16384 : Int32))]) (rest := [(.ref a)]) (wd := 1) (cl' := 1) (sl' := 16384) (pc' := 36) d_prog_7_method_47_33 rfl (wd214 hw) (wd215 hw) (wd175 hw) (wd216 hw) (by decide) (m_cpB hw rw (16384 : Int32) h0 n0 Z0 g (8192) (16384) AR1 (by decide) (by omega) (by omega)) pd_22 rfl rfl rfl (Nat.le_of_eq rfl) (by decide) (by decide) rfl rfl (by decide) (by decide) ?_
  rintro v h3 ⟨c3, rfl, K3, ge3, sz3, A3⟩
  have sy3 : h0.size ≤ c3 := Nat.le_trans K0.1 sz3
  have ne4 : a ≠ c3 := Nat.ne_of_lt (Nat.lt_of_lt_of_le X1.lt sz3)
  have ne5 : rw ≠ c3 := Nat.ne_of_lt (Nat.lt_of_lt_of_le AR1.lt sz3)
  have ne6 : sp ≠ c3 := Nat.ne_of_lt (Nat.lt_of_lt_of_le AS1.lt sz3)
  have E7 := X1.keep K3
  have F8 := Fraw_1.keep K3 nin0
  have F9 := Fspans_1.keep K3 nin0
  have F10 := Fused_1.keep K3 nin0
  have F11 := Ffields_1.keep K3 nin0
  have F12 := FsecondEnd_1.keep K3 nin0
  have F13 := FsecondStart_1.keep K3 nin0
  have F14 := Frequest_1.keep K3 nin0
  have F15 := Fmethod_1.keep K3 nin0
  have F16 := Fstatus_1.keep K3 nin0
  have V17 := AR1.keep K3 nin0
  have V18 := AS1.keep K3 nin0
  have O19 := O0.keep K3 all0
  have K20 := K0.trans K3 all0
  have Z21 : n0 ≤ h3.size := Nat.le_trans Z0 K3.1
  refine WP.castS (st' := [(.ref c3), (.ref a)]) rfl ?_
  refine WP.putF (pc' := 39) d_prog_7_method_47_36 rfl (host := "") (Or.inl (wd51 hw)) Via.refl F8 E7 (Or.inl (wd52 hw)) (wd45 hw) (ty := (.array .byte)) (by decide) rfl rfl ga1 ?_
  intro h22 W23
  have Kw24 := Keep.of_wr W23
  have E25 := E7.keep Kw24
  have V26 := V17.keep Kw24 (ninS nra1 nin0)
  have V27 := V18.keep Kw24 (ninS nsa1 nin0)
  have V28 := A3.keep Kw24 (ninS (Ne.symm ne4) nin0)
  have O29 := O19.keep Kw24 (allS ga1 all0)
  have K30 := K20.trans Kw24 (allS (Or.inl (by simp)) all0)
  have Z31 : n0 ≤ h22.size := Nat.le_trans Z21 Kw24.1
  have F32 := F8.same W23
  have F33 := F9.other W23 (Or.inr (slot_ne (Or.inl (wd55 hw)) (Or.inl (wd52 hw)) (by decide) (t := (.array .int)) (t' := (.array .byte)) (by decide) (by decide)))
  have F34 := F10.other W23 (Or.inr (slot_ne (Or.inl (wd62 hw)) (Or.inl (wd52 hw)) (by decide) (t := .int) (t' := (.array .byte)) (by decide) (by decide)))
  have F35 := F11.other W23 (Or.inr (slot_ne (Or.inl (wd107 hw)) (Or.inl (wd52 hw)) (by decide) (t := .int) (t' := (.array .byte)) (by decide) (by decide)))
  have F36 := F12.other W23 (Or.inr (slot_ne (Or.inl (wd123 hw)) (Or.inl (wd52 hw)) (by decide) (t := .int) (t' := (.array .byte)) (by decide) (by decide)))
  have F37 := F13.other W23 (Or.inr (slot_ne (Or.inl (wd125 hw)) (Or.inl (wd52 hw)) (by decide) (t := .int) (t' := (.array .byte)) (by decide) (by decide)))
  have F38 := F14.other W23 (Or.inr (slot_ne (Or.inl (wd127 hw)) (Or.inl (wd52 hw)) (by decide) (t := .boolean) (t' := (.array .byte)) (by decide) (by decide)))
  have F39 := F15.other W23 (Or.inr (slot_ne (Or.inl (wd114 hw)) (Or.inl (wd52 hw)) (by decide) (t := (.object "java/lang/String")) (t' := (.array .byte)) (by decide) (by decide)))
  have F40 := F16.other W23 (Or.inr (slot_ne (Or.inl (wd116 hw)) (Or.inl (wd52 hw)) (by decide) (t := .int) (t' := (.array .byte)) (by decide) (by decide)))
  exact WP.vret d_prog_7_method_47_39 rfl (by decide) (by decide) ⟨rfl, _, _, K30, sy3, ⟨⟨ga1, ge3, gs1, (Ne.symm ne6), (Ne.symm ne4), nsa1⟩, E25, ⟨F32, F33, F34, F35, F36, F37, F38, F39, F40⟩, V28, V27⟩⟩
set_option maxRecDepth 65536 in
set_option maxHeartbeats 40000000 in
theorem m_putB {Z : State} {a0 : Array Value} (hw : ∀ d ∈ tables_1, d.before a0 Z = true) (a : Addr) (s : Addr) (h0 : Heap) (n0 : Nat) (Z0 : n0 ≤ h0.size) (O0 : Old Z n0 h0) (cs : Int32) (S_CS : Sta Z Z.heap "java/lang/String" "COMPACT_STRINGS" "Z" (.int cs)) (hcs : ¬ cs = 0) (fv : Value) (hfv : fv.isRef = true) (S_FM : Sta Z Z.heap "jdk/internal/util/Preconditions" "SIOOBE_FORMATTER" "Ljava/util/function/BiFunction;" fv) (rw sp : Addr) (us fd : Int32) (g e : Nat → Int32) (R0 : Hh Z n0 h0 8192 a rw sp us fd g e) (b : Addr) (n : Nat) (q : Nat → Int32) (sE : Exa Z h0 s "java/lang/String") (sV : Fld Z h0 s "java/lang/String" "value" "[B" (.ref b)) (sC : Fld Z h0 s "java/lang/String" "coder" "B" (.int 0)) (sA : Ari Z h0 b .byte n q) (n_sa : s ≠ a) (n_srw : s ≠ rw) (n_ssp : s ≠ sp) (n_ba : b ≠ a) (n_brw : b ≠ rw) (n_bsp : b ≠ sp) (U : Nat) (hU : us.toInt = (U : Int)) (hs : U + n ≤ 16384) (hn8 : n ≤ 8192) (hUq : us + (n : Nat).toInt32 = 8193) (hq : ∀ i, i < n → nar .byte (q i) = q i) : ∀ l, Does l Z (⟨"com/example/vipool/vipool/http/HttpHead", "put", "(Ljava/lang/String;)V"⟩ : MethodName) prog_7_method_48_code 4 none ({ frames := 4, cells := 1, slots := 16384, locals := 56 } : Room) n0 #[(.ref a), (.ref s)] h0 (fun v h => v = none ∧ ∃ (rx : Addr) (gx : Nat → Int32), Keep h0 h [a] ∧ h0.size ≤ rx ∧ Hh Z n0 h 16384 a rx sp (us + (n : Nat).toInt32) fd gx e) := by
  intro l
  refine Does.of_wp (plainFor_of_name pn_4) (Ls := #[.val (.ref a), .val (.ref s), .unset, .unset]) (fun m => by first | (simp [entryFrame, mkF, argsToLocals, Value.category]; done) | rfl | (rcases ref_cases hfv with rfl | ⟨_, rfl⟩ <;> rfl)) ?_
  intro C
  obtain ⟨⟨ga1, gr1, gs1, nrs1, nra1, nsa1⟩, X1, ⟨Fraw_1, Fspans_1, Fused_1, Ffields_1, FsecondEnd_1, FsecondStart_1, Frequest_1, Fmethod_1, Fstatus_1⟩, AR1, AS1⟩ := id R0
  have K0 := Keep.refl h0 [a]
  refine WP.aloadN (pc' := 1) d_prog_7_method_48_0 rfl rfl rfl ?_
  refine WP.aloadN (pc' := 2) d_prog_7_method_48_1 rfl rfl rfl ?_
  refine WP.callV (a := s) (K := "java/lang/String") (argsL := []) (rest := [(.ref a)]) (wd := 1) (cl' := 0) (sl' := 0) (pc' := 5) d_prog_7_method_48_2 rfl (wd67 hw) (wd68 hw) (nfS (wd70 hw) rfl) (wd70 hw) (wd69 hw) (wd2 hw) (wd71 hw) (by decide) sE (s_len hw s h0 n0 sE sC cs (S_CS.ext O0.2) hcs b sV n q sA (by omega)) pd_13 rfl rfl rfl (Nat.le_of_eq rfl) (by decide) (by decide) rfl rfl (by decide) (by decide) ?_
  rintro v hh2 ⟨rfl, he2⟩
  rw [he2]
  refine WP.castS (st' := [(.int (n : Nat).toInt32), (.ref a)]) rfl ?_
  refine WP.callP (a := a) (argsL := [(.int (n : Nat).toInt32)]) (rest := []) (wd := 0) (cl' := 1) (sl' := 16384) (pc' := 8) d_prog_7_method_48_5 rfl (wd77 hw) (wd78 hw) (selPriv (wd59 hw) rfl (wd79 hw) (wd78 hw) (by decide)) (wd79 hw) (wd46 hw) (wd80 hw) (by decide) R0.2.1 (m_roomB hw a (n : Nat).toInt32 h0 n0 Z0 O0 rw sp us fd g e R0 hUq) pd_14 rfl rfl rfl (Nat.le_of_eq rfl) (by decide) (by decide) rfl rfl (by decide) (by decide) ?_
  rintro v hx ⟨rfl, rx, gx, Kx, zx, Rx⟩
  have ne3 : a ≠ rx := Nat.ne_of_lt (Nat.lt_of_lt_of_le X1.lt zx)
  have ne4 : rw ≠ rx := Nat.ne_of_lt (Nat.lt_of_lt_of_le AR1.lt zx)
  have ne5 : sp ≠ rx := Nat.ne_of_lt (Nat.lt_of_lt_of_le AS1.lt zx)
  have ne6 : s ≠ rx := Nat.ne_of_lt (Nat.lt_of_lt_of_le sE.lt zx)
  have ne7 : b ≠ rx := Nat.ne_of_lt (Nat.lt_of_lt_of_le sA.lt zx)
  have sy8 : h0.size ≤ rx := Nat.le_trans K0.1 zx
  have E9 := X1.keep Kx
  have V10 := AR1.keep Kx (ninS nra1 nin0)
  have V11 := AS1.keep Kx (ninS nsa1 nin0)
  have E12 := sE.keep Kx
  have F13 := sV.keep Kx (ninS n_sa nin0)
  have F14 := sC.keep Kx (ninS n_sa nin0)
  have V15 := sA.keep Kx (ninS n_ba nin0)
  have O16 := O0.keep Kx (allS ga1 all0)
  have K17 := K0.trans Kx (allS (Or.inl (by simp)) all0)
  have Z18 : n0 ≤ hx.size := Nat.le_trans Z0 Kx.1
  obtain ⟨⟨ga19, gr19, gs19, nrs19, nra19, nsa19⟩, X19, ⟨Fraw_19, Fspans_19, Fused_19, Ffields_19, FsecondEnd_19, FsecondStart_19, Frequest_19, Fmethod_19, Fstatus_19⟩, AR19, AS19⟩ := id Rx
  refine WP.castS (st' := []) rfl ?_
  refine WP.iconst (pc' := 9) d_prog_7_method_48_8 rfl (z := 0) rfl ?_
  refine WP.istoreN (pc' := 10) d_prog_7_method_48_9 rfl (Ls' := #[.val (.ref a), .val (.ref s), .val (.int (0 : Int32)), .unset]) rfl ?_
  have loop : ∀ (k I : Nat) (i : Int32) (s3 : Slot) (hh : Heap) (G : Nat → Int32), (s3 = .unset ∨ ∃ u, s3 = .val u ∧ u.category = 1) → i.toInt = (I : Int) → I ≤ n → n - I < k → Keep hx hh [rx] → Ari Z hh rx .byte 16384 G → (∀ j, j < 16384 → G j = lay gx U I q j) → WP C Z prog_7_method_48_code 4 "com/example/vipool/vipool/http/HttpHead" none "put" ({ frames := 4, cells := 1, slots := 16384, locals := 56 } : Room) n0 (fun v h => v = none ∧ ∃ (rx : Addr) (gx : Nat → Int32), Keep h0 h [a] ∧ h0.size ≤ rx ∧ Hh Z n0 h 16384 a rx sp (us + (n : Nat).toInt32) fd gx e) 1 16384 hh 10 #[.val (.ref a), .val (.ref s), .val (.int i), s3] [] := by
    intro k
    induction k with
    | zero => intro I i s3 hh G h1 h2 h3; omega
    | succ k IH =>
      intro I i s3 hh G hs3 hi hI hk K1 AG hG
      have E20 := X19.keep K1
      have V21 := AS19.keep K1 (ninS (Ne.symm nrs19) nin0)
      have E22 := E12.keep K1
      have F23 := F13.keep K1 (ninS ne6 nin0)
      have F24 := F14.keep K1 (ninS ne6 nin0)
      have V25 := V15.keep K1 (ninS ne7 nin0)
      have F26 := Fraw_19.keep K1 (ninS (Ne.symm nra19) nin0)
      have F27 := Fspans_19.keep K1 (ninS (Ne.symm nra19) nin0)
      have F28 := Fused_19.keep K1 (ninS (Ne.symm nra19) nin0)
      have F29 := Ffields_19.keep K1 (ninS (Ne.symm nra19) nin0)
      have F30 := FsecondEnd_19.keep K1 (ninS (Ne.symm nra19) nin0)
      have F31 := FsecondStart_19.keep K1 (ninS (Ne.symm nra19) nin0)
      have F32 := Frequest_19.keep K1 (ninS (Ne.symm nra19) nin0)
      have F33 := Fmethod_19.keep K1 (ninS (Ne.symm nra19) nin0)
      have F34 := Fstatus_19.keep K1 (ninS (Ne.symm nra19) nin0)
      have O35 := O16.keep K1 (allS gr19 all0)
      have Z36 : n0 ≤ hh.size := Nat.le_trans Z18 K1.1
      have K2 : Keep h0 hh [a] := K17.trans K1 (allS (Or.inr sy8) all0)
      refine WP.iloadN (pc' := 11) d_prog_7_method_48_10 rfl rfl ?_
      refine WP.aloadN (pc' := 12) d_prog_7_method_48_11 rfl rfl rfl ?_
      refine WP.callV (a := s) (K := "java/lang/String") (argsL := []) (rest := [(.int i)]) (wd := 1) (cl' := 1) (sl' := 16384) (pc' := 15) d_prog_7_method_48_12 rfl (wd67 hw) (wd68 hw) (nfS (wd70 hw) rfl) (wd70 hw) (wd69 hw) (wd2 hw) (wd71 hw) (by decide) E22 (s_len hw s hh n0 E22 F24 cs (S_CS.ext O35.2) hcs b F23 n q V25 (by omega)) pd_13 rfl rfl rfl (Nat.le_of_eq rfl) (by decide) (by decide) rfl rfl (by decide) (by decide) ?_
      rintro v hh37 ⟨rfl, he37⟩
      rw [he37]
      refine WP.castS (st' := [(.int (n : Nat).toInt32), (.int i)]) rfl ?_
      refine WP.icmp_ge (pc1 := 55) (pc2 := 18) d_prog_7_method_48_15 (by decide) (by decide) rfl ?_ ?_
      · intro hc15
        refine WP.aloadN (pc' := 56) d_prog_7_method_48_55 rfl rfl rfl ?_
        refine WP.dup (pc' := 57) d_prog_7_method_48_56 rfl rfl ?_
        refine WP.getF (pc' := 60) d_prog_7_method_48_57 rfl (host := "") (Or.inl (wd61 hw)) Via.refl F28 ?_
        refine WP.aloadN (pc' := 61) d_prog_7_method_48_60 rfl rfl rfl ?_
        refine WP.callV (a := s) (K := "java/lang/String") (argsL := []) (rest := [(.int us), (.ref a)]) (wd := 2) (cl' := 1) (sl' := 16384) (pc' := 64) d_prog_7_method_48_61 rfl (wd67 hw) (wd68 hw) (nfS (wd70 hw) rfl) (wd70 hw) (wd69 hw) (wd2 hw) (wd71 hw) (by decide) E22 (s_len hw s hh n0 E22 F24 cs (S_CS.ext O35.2) hcs b F23 n q V25 (by omega)) pd_13 rfl rfl rfl (Nat.le_of_eq rfl) (by decide) (by decide) rfl rfl (by decide) (by decide) ?_
        rintro v hh38 ⟨rfl, he38⟩
        rw [he38]
        refine WP.castS (st' := [(.int (n : Nat).toInt32), (.int us), (.ref a)]) rfl ?_
        refine WP.iadd (pc' := 65) d_prog_7_method_48_64 rfl ?_
        refine WP.putF (pc' := 68) d_prog_7_method_48_65 rfl (host := "") (Or.inl (wd61 hw)) Via.refl F28 E20 (Or.inl (wd62 hw)) (wd45 hw) (ty := .int) (by decide) rfl rfl ga19 ?_
        intro h39 W40
        have Kw41 := Keep.of_wr W40
        have E42 := E20.keep Kw41
        have V43 := V21.keep Kw41 (ninS nsa19 nin0)
        have E44 := E22.keep Kw41
        have F45 := F23.keep Kw41 (ninS n_sa nin0)
        have F46 := F24.keep Kw41 (ninS n_sa nin0)
        have V47 := V25.keep Kw41 (ninS n_ba nin0)
        have V48 := AG.keep Kw41 (ninS nra19 nin0)
        have O49 := O35.keep Kw41 (allS ga19 all0)
        have K50 := K2.trans Kw41 (allS (Or.inl (by simp)) all0)
        have Z51 : n0 ≤ h39.size := Nat.le_trans Z36 Kw41.1
        have F52 := F26.other W40 (Or.inr (slot_ne (Or.inl (wd52 hw)) (Or.inl (wd62 hw)) (by decide) (t := (.array .byte)) (t' := .int) (by decide) (by decide)))
        have F53 := F27.other W40 (Or.inr (slot_ne (Or.inl (wd55 hw)) (Or.inl (wd62 hw)) (by decide) (t := (.array .int)) (t' := .int) (by decide) (by decide)))
        have F54 := F28.same W40
        have F55 := F29.other W40 (Or.inr (slot_ne (Or.inl (wd107 hw)) (Or.inl (wd62 hw)) (by decide) (t := .int) (t' := .int) (by decide) (by decide)))
        have F56 := F30.other W40 (Or.inr (slot_ne (Or.inl (wd123 hw)) (Or.inl (wd62 hw)) (by decide) (t := .int) (t' := .int) (by decide) (by decide)))
        have F57 := F31.other W40 (Or.inr (slot_ne (Or.inl (wd125 hw)) (Or.inl (wd62 hw)) (by decide) (t := .int) (t' := .int) (by decide) (by decide)))
        have F58 := F32.other W40 (Or.inr (slot_ne (Or.inl (wd127 hw)) (Or.inl (wd62 hw)) (by decide) (t := .boolean) (t' := .int) (by decide) (by decide)))
        have F59 := F33.other W40 (Or.inr (slot_ne (Or.inl (wd114 hw)) (Or.inl (wd62 hw)) (by decide) (t := (.object "java/lang/String")) (t' := .int) (by decide) (by decide)))
        have F60 := F34.other W40 (Or.inr (slot_ne (Or.inl (wd116 hw)) (Or.inl (wd62 hw)) (by decide) (t := .int) (t' := .int) (by decide) (by decide)))
        exact WP.vret d_prog_7_method_48_68 rfl (by decide) (by decide) ⟨rfl, _, _, K50, zx, ⟨⟨ga19, gr19, gs19, nrs19, nra19, nsa19⟩, E42, ⟨F52, F53, F54, F55, F56, F57, F58, F59, F60⟩, V48, V43⟩⟩
      · intro hc15
        have lt1 : I < n := by rw [Int32.lt_iff_toInt_lt, natI (by omega)] at hc15; omega
        refine WP.aloadN (pc' := 19) d_prog_7_method_48_18 rfl rfl rfl ?_
        refine WP.iloadN (pc' := 20) d_prog_7_method_48_19 rfl rfl ?_
        refine WP.callV (a := s) (K := "java/lang/String") (argsL := [(.int i)]) (rest := []) (wd := 0) (cl' := 1) (sl' := 16384) (pc' := 23) d_prog_7_method_48_20 rfl (wd81 hw) (wd82 hw) (nfS (wd84 hw) rfl) (wd84 hw) (wd83 hw) (wd2 hw) (wd85 hw) (by decide) E22 (s_cha hw s i hh n0 E22 F24 cs (S_CS.ext O35.2) hcs b F23 n q V25 (by omega) fv hfv (S_FM.ext O35.2) I hi lt1) pd_15 rfl rfl rfl (Nat.le_of_eq rfl) (by decide) (by decide) rfl rfl (by decide) (by decide) ?_
        rintro v hh61 ⟨rfl, he61⟩
        rw [he61]
        refine WP.castS (st' := [(.int (chv (q I)))]) rfl ?_
        refine WP.istoreN (pc' := 24) d_prog_7_method_48_23 rfl (Ls' := #[.val (.ref a), .val (.ref s), .val (.int i), .val (.int (chv (q I)))]) (XS.store1 rfl hs3 rfl) ?_
        refine WP.aloadN (pc' := 25) d_prog_7_method_48_24 rfl rfl rfl ?_
        refine WP.getF (pc' := 28) d_prog_7_method_48_25 rfl (host := "") (Or.inl (wd51 hw)) Via.refl F26 ?_
        refine WP.aloadN (pc' := 29) d_prog_7_method_48_28 rfl rfl rfl ?_
        refine WP.getF (pc' := 32) d_prog_7_method_48_29 rfl (host := "") (Or.inl (wd61 hw)) Via.refl F28 ?_
        refine WP.iloadN (pc' := 33) d_prog_7_method_48_32 rfl rfl ?_
        refine WP.iadd (pc' := 34) d_prog_7_method_48_33 rfl ?_
        refine WP.iloadN (pc' := 35) d_prog_7_method_48_34 rfl rfl ?_
        refine WP.sipush (pc' := 38) d_prog_7_method_48_35 rfl (z := 255) rfl ?_
        have hc38 : ¬ (255 : Int32) < (chv (q I)) := by rw [Int32.lt_iff_toInt_lt]; have := (chv_le (q I)).2; have e : (255 : Int32).toInt = 255 := rfl; omega
        refine WP.icmp_gt (pc1 := 45) (pc2 := 41) d_prog_7_method_48_38 (by decide) (by decide) rfl (fun k => absurd k hc38) (fun _ => ?_)
        refine WP.iloadN (pc' := 42) d_prog_7_method_48_41 rfl rfl ?_
        refine WP.goto (pc' := 47) d_prog_7_method_48_42 (by decide) (by decide) ?_
        refine WP.i2b (pc' := 48) d_prog_7_method_48_47 rfl ?_
        refine WP.bastoreI (x' := (q I)) (U + I) (pc' := 49) d_prog_7_method_48_48 rfl AG (adds hU hi (by omega)) (by omega) gr19 (back8 (hq I lt1)) ?_
        intro h62 K63 A64
        have E65 := E20.keep K63
        have V66 := V21.keep K63 (ninS (Ne.symm nrs19) nin0)
        have E67 := E22.keep K63
        have F68 := F23.keep K63 (ninS ne6 nin0)
        have F69 := F24.keep K63 (ninS ne6 nin0)
        have V70 := V25.keep K63 (ninS ne7 nin0)
        have F71 := F26.keep K63 (ninS (Ne.symm nra19) nin0)
        have F72 := F27.keep K63 (ninS (Ne.symm nra19) nin0)
        have F73 := F28.keep K63 (ninS (Ne.symm nra19) nin0)
        have F74 := F29.keep K63 (ninS (Ne.symm nra19) nin0)
        have F75 := F30.keep K63 (ninS (Ne.symm nra19) nin0)
        have F76 := F31.keep K63 (ninS (Ne.symm nra19) nin0)
        have F77 := F32.keep K63 (ninS (Ne.symm nra19) nin0)
        have F78 := F33.keep K63 (ninS (Ne.symm nra19) nin0)
        have F79 := F34.keep K63 (ninS (Ne.symm nra19) nin0)
        have O80 := O35.keep K63 (allS gr19 all0)
        have K81 := K2.trans K63 (allS (Or.inr sy8) all0)
        have Z82 : n0 ≤ h62.size := Nat.le_trans Z36 K63.1
        refine WP.iinc (pc' := 52) d_prog_7_method_48_49 rfl rfl (z := (i + (1 : Int32))) rfl (Ls' := #[.val (.ref a), .val (.ref s), .val (.int (i + (1 : Int32))), .val (.int (chv (q I)))]) rfl ?_
        refine WP.goto (pc' := 10) d_prog_7_method_48_52 (by decide) (by decide) ?_
        exact IH (I + 1) _ _ _ _ (Or.inr ⟨_, rfl, rfl⟩) (adds hi rfl (by omega)) (by omega) (by omega) (K1.trans K63 (allS (Or.inl (by simp)) all0)) A64 (lay_step rfl hG)
  exact loop (n + 1) 0 0 _ hx gx (Or.inl rfl) rfl (by omega) (by omega) (Keep.refl _ _) AR19 fun j _ => (lay0 gx U q j).symm
set_option maxRecDepth 65536 in
set_option maxHeartbeats 40000000 in
theorem m_addA {Z : State} {a0 : Array Value} (hw : ∀ d ∈ tables_1, d.before a0 Z = true) (a : Addr) (s1 : Addr) (s2 : Addr) (h0 : Heap) (n0 : Nat) (Z0 : n0 ≤ h0.size) (O0 : Old Z n0 h0) (cs : Int32) (S_CS : Sta Z Z.heap "java/lang/String" "COMPACT_STRINGS" "Z" (.int cs)) (hcs : ¬ cs = 0) (fv : Value) (hfv : fv.isRef = true) (S_FM : Sta Z Z.heap "jdk/internal/util/Preconditions" "SIOOBE_FORMATTER" "Ljava/util/function/BiFunction;" fv) (rw sp : Addr) (us fd : Int32) (g e : Nat → Int32) (R0 : Hh Z n0 h0 512 a rw sp us fd g e) (b1 : Addr) (n1 : Nat) (q1 : Nat → Int32) (s1E : Exa Z h0 s1 "java/lang/String") (s1V : Fld Z h0 s1 "java/lang/String" "value" "[B" (.ref b1)) (s1C : Fld Z h0 s1 "java/lang/String" "coder" "B" (.int 0)) (s1A : Ari Z h0 b1 .byte n1 q1) (b2 : Addr) (n2 : Nat) (q2 : Nat → Int32) (s2E : Exa Z h0 s2 "java/lang/String") (s2V : Fld Z h0 s2 "java/lang/String" "value" "[B" (.ref b2)) (s2C : Fld Z h0 s2 "java/lang/String" "coder" "B" (.int 0)) (s2A : Ari Z h0 b2 .byte n2 q2) (n_s1a : s1 ≠ a) (n_s1rw : s1 ≠ rw) (n_s1sp : s1 ≠ sp) (n_b1a : b1 ≠ a) (n_b1rw : b1 ≠ rw) (n_b1sp : b1 ≠ sp) (n_s2a : s2 ≠ a) (n_s2rw : s2 ≠ rw) (n_s2sp : s2 ≠ sp) (n_b2a : b2 ≠ a) (n_b2rw : b2 ≠ rw) (n_b2sp : b2 ≠ sp) (U F : Nat) (hU : us.toInt = (U : Int)) (hs : U + n1 + n2 ≤ 8192) (hs1 : U + n1 ≤ 512) (h81 : n1 ≤ 8192) (h82 : n2 ≤ 8192) (hUq : us + (n1 : Nat).toInt32 + (n2 : Nat).toInt32 = 8192) (hq1 : ∀ i, i < n1 → nar .byte (q1 i) = q1 i) (hq2 : ∀ i, i < n2 → nar .byte (q2 i) = q2 i) (hF : fd.toInt = (F : Int)) (hF7 : F ≤ 6) : ∀ l, Does l Z (⟨"com/example/vipool/vipool/http/HttpHead", "add", "(Ljava/lang/String;Ljava/lang/String;)V"⟩ : MethodName) prog_7_method_24_code 5 none ({ frames := 5, cells := 1, slots := 16384, locals := 71 } : Room) n0 #[(.ref a), (.ref s1), (.ref s2)] h0 (fun v h => v = none ∧ ∃ (rx : Addr) (gx ex : Nat → Int32), Keep h0 h [a, rw, sp] ∧ h0.size ≤ rx ∧ Hh Z n0 h 8192 a rx sp (us + (n1 : Nat).toInt32 + (n2 : Nat).toInt32) (fd + 1) gx ex) := by
  intro l
  refine Does.of_wp (plainFor_of_name pn_4) (Ls := #[.val (.ref a), .val (.ref s1), .val (.ref s2), .unset, .unset]) (fun m => by first | (simp [entryFrame, mkF, argsToLocals, Value.category]; done) | rfl | (rcases ref_cases hfv with rfl | ⟨_, rfl⟩ <;> rfl)) ?_
  intro C
  obtain ⟨⟨ga1, gr1, gs1, nrs1, nra1, nsa1⟩, X1, ⟨Fraw_1, Fspans_1, Fused_1, Ffields_1, FsecondEnd_1, FsecondStart_1, Frequest_1, Fmethod_1, Fstatus_1⟩, AR1, AS1⟩ := id R0
  have K0 := Keep.refl h0 [a, rw, sp]
  refine WP.aloadN (pc' := 1) d_prog_7_method_24_0 rfl rfl rfl ?_
  refine WP.getF (pc' := 4) d_prog_7_method_24_1 rfl (host := "") (Or.inl (wd61 hw)) Via.refl Fused_1 ?_
  refine WP.istoreN (pc' := 5) d_prog_7_method_24_4 rfl (Ls' := #[.val (.ref a), .val (.ref s1), .val (.ref s2), .val (.int us), .unset]) rfl ?_
  refine WP.aloadN (pc' := 6) d_prog_7_method_24_5 rfl rfl rfl ?_
  refine WP.aloadN (pc' := 7) d_prog_7_method_24_6 rfl rfl rfl ?_
  refine WP.callP (a := a) (argsL := [(.ref s1)]) (rest := []) (wd := 0) (cl' := 0) (sl' := 0) (pc' := 10) d_prog_7_method_24_7 rfl (wd63 hw) (wd64 hw) (selPriv (wd59 hw) rfl (wd65 hw) (wd64 hw) (by decide)) (wd65 hw) (wd46 hw) (wd66 hw) (by decide) R0.2.1 (m_put hw a s1 h0 n0 Z0 O0 cs S_CS hcs fv hfv S_FM 512 rw sp us fd g e R0 b1 n1 q1 s1E s1V s1C s1A n_s1a n_s1rw n_s1sp n_b1a n_b1rw n_b1sp (U) hU (by omega) (by omega) (by omega) hq1) pd_16 rfl rfl rfl (Nat.le_of_eq rfl) (by decide) (by decide) rfl rfl (by decide) (by decide) ?_
  rintro v h2 ⟨rfl, K2, R2⟩
  have E3 := X1.keep K2
  have V4 := AS1.keep K2 (ninS nsa1 (ninS (Ne.symm nrs1) nin0))
  have E5 := s1E.keep K2
  have F6 := s1V.keep K2 (ninS n_s1a (ninS n_s1rw nin0))
  have F7 := s1C.keep K2 (ninS n_s1a (ninS n_s1rw nin0))
  have V8 := s1A.keep K2 (ninS n_b1a (ninS n_b1rw nin0))
  have E9 := s2E.keep K2
  have F10 := s2V.keep K2 (ninS n_s2a (ninS n_s2rw nin0))
  have F11 := s2C.keep K2 (ninS n_s2a (ninS n_s2rw nin0))
  have V12 := s2A.keep K2 (ninS n_b2a (ninS n_b2rw nin0))
  have O13 := O0.keep K2 (allS ga1 (allS gr1 all0))
  have K14 := K0.trans K2 (allS (Or.inl (by simp)) (allS (Or.inl (by simp)) all0))
  have Z15 : n0 ≤ h2.size := Nat.le_trans Z0 K2.1
  obtain ⟨⟨ga16, gr16, gs16, nrs16, nra16, nsa16⟩, X16, ⟨Fraw_16, Fspans_16, Fused_16, Ffields_16, FsecondEnd_16, FsecondStart_16, Frequest_16, Fmethod_16, Fstatus_16⟩, AR16, AS16⟩ := id R2
  refine WP.castS (st' := []) rfl ?_
  refine WP.aloadN (pc' := 11) d_prog_7_method_24_10 rfl rfl rfl ?_
  refine WP.getF (pc' := 14) d_prog_7_method_24_11 rfl (host := "") (Or.inl (wd61 hw)) Via.refl Fused_16 ?_
  refine WP.istore (pc' := 16) d_prog_7_method_24_14 rfl (Ls' := #[.val (.ref a), .val (.ref s1), .val (.ref s2), .val (.int us), .val (.int (us + (n1 : Nat).toInt32))]) rfl ?_
  refine WP.aloadN (pc' := 17) d_prog_7_method_24_16 rfl rfl rfl ?_
  refine WP.aloadN (pc' := 18) d_prog_7_method_24_17 rfl rfl rfl ?_
  refine WP.callP (a := a) (argsL := [(.ref s2)]) (rest := []) (wd := 0) (cl' := 1) (sl' := 16384) (pc' := 21) d_prog_7_method_24_18 rfl (wd63 hw) (wd64 hw) (selPriv (wd59 hw) rfl (wd65 hw) (wd64 hw) (by decide)) (wd65 hw) (wd46 hw) (wd66 hw) (by decide) R2.2.1 (m_putA hw a s2 h2 n0 Z15 O13 cs S_CS hcs fv hfv S_FM rw sp (us + (n1 : Nat).toInt32) fd (lay g (U) n1 q1) e R2 b2 n2 q2 E9 F10 F11 V12 n_s2a n_s2rw n_s2sp n_b2a n_b2rw n_b2sp (U + n1) (adds hU (natI (by omega)) (by omega)) (by omega) (by omega) hUq hq2) pd_16 rfl rfl rfl (Nat.le_of_eq rfl) (by decide) (by decide) rfl rfl (by decide) (by decide) ?_
  rintro v h17 ⟨rfl, rx17, gx17, K17, zx17, R17⟩
  have ne18 : a ≠ rx17 := Nat.ne_of_lt (Nat.lt_of_lt_of_le X16.lt zx17)
  have ne19 : sp ≠ rx17 := Nat.ne_of_lt (Nat.lt_of_lt_of_le AS16.lt zx17)
  have ne20 : s1 ≠ rx17 := Nat.ne_of_lt (Nat.lt_of_lt_of_le E5.lt zx17)
  have ne21 : b1 ≠ rx17 := Nat.ne_of_lt (Nat.lt_of_lt_of_le V8.lt zx17)
  have ne22 : s2 ≠ rx17 := Nat.ne_of_lt (Nat.lt_of_lt_of_le E9.lt zx17)
  have ne23 : b2 ≠ rx17 := Nat.ne_of_lt (Nat.lt_of_lt_of_le V12.lt zx17)
  have ne24 : rw ≠ rx17 := Nat.ne_of_lt (Nat.lt_of_lt_of_le AR16.lt zx17)
  have sy25 : h0.size ≤ rx17 := Nat.le_trans K14.1 zx17
  have E26 := X16.keep K17
  have V27 := AS16.keep K17 (ninS nsa16 nin0)
  have E28 := E5.keep K17
  have F29 := F6.keep K17 (ninS n_s1a nin0)
  have F30 := F7.keep K17 (ninS n_s1a nin0)
  have V31 := V8.keep K17 (ninS n_b1a nin0)
  have E32 := E9.keep K17
  have F33 := F10.keep K17 (ninS n_s2a nin0)
  have F34 := F11.keep K17 (ninS n_s2a nin0)
  have V35 := V12.keep K17 (ninS n_b2a nin0)
  have V36 := AR16.keep K17 (ninS nra16 nin0)
  have O37 := O13.keep K17 (allS ga16 all0)
  have K38 := K14.trans K17 (allS (Or.inl (by simp)) all0)
  have Z39 : n0 ≤ h17.size := Nat.le_trans Z15 K17.1
  obtain ⟨⟨ga40, gr40, gs40, nrs40, nra40, nsa40⟩, X40, ⟨Fraw_40, Fspans_40, Fused_40, Ffields_40, FsecondEnd_40, FsecondStart_40, Frequest_40, Fmethod_40, Fstatus_40⟩, AR40, AS40⟩ := id R17
  refine WP.castS (st' := []) rfl ?_
  refine WP.aloadN (pc' := 22) d_prog_7_method_24_21 rfl rfl rfl ?_
  refine WP.iloadN (pc' := 23) d_prog_7_method_24_22 rfl rfl ?_
  refine WP.iload (pc' := 25) d_prog_7_method_24_23 rfl rfl ?_
  refine WP.iload (pc' := 27) d_prog_7_method_24_25 rfl rfl ?_
  refine WP.aloadN (pc' := 28) d_prog_7_method_24_27 rfl rfl rfl ?_
  refine WP.getF (pc' := 31) d_prog_7_method_24_28 rfl (host := "") (Or.inl (wd61 hw)) Via.refl Fused_40 ?_
  refine WP.callP (a := a) (argsL := [(.int us), (.int (us + (n1 : Nat).toInt32)), (.int (us + (n1 : Nat).toInt32)), (.int ((us + (n1 : Nat).toInt32) + (n2 : Nat).toInt32))]) (rest := []) (wd := 0) (cl' := 1) (sl' := 16384) (pc' := 34) d_prog_7_method_24_31 rfl (wd102 hw) (wd103 hw) (selPriv (wd59 hw) rfl (wd104 hw) (wd103 hw) (by decide)) (wd104 hw) (wd46 hw) (wd105 hw) (by decide) R17.2.1 (m_span hw a us (us + (n1 : Nat).toInt32) (us + (n1 : Nat).toInt32) ((us + (n1 : Nat).toInt32) + (n2 : Nat).toInt32) h17 n0 Z39 O37 8192 rx17 sp ((us + (n1 : Nat).toInt32) + (n2 : Nat).toInt32) fd gx17 e R17 F hF hF7) pd_17 rfl rfl rfl (Nat.le_of_eq rfl) (by decide) (by decide) rfl rfl (by decide) (by decide) ?_
  rintro v h41 ⟨rfl, K41, R41⟩
  have E42 := X40.keep K41
  have E43 := E28.keep K41
  have F44 := F29.keep K41 (ninS n_s1a (ninS n_s1sp nin0))
  have F45 := F30.keep K41 (ninS n_s1a (ninS n_s1sp nin0))
  have V46 := V31.keep K41 (ninS n_b1a (ninS n_b1sp nin0))
  have E47 := E32.keep K41
  have F48 := F33.keep K41 (ninS n_s2a (ninS n_s2sp nin0))
  have F49 := F34.keep K41 (ninS n_s2a (ninS n_s2sp nin0))
  have V50 := V35.keep K41 (ninS n_b2a (ninS n_b2sp nin0))
  have V51 := AR40.keep K41 (ninS nra40 (ninS nrs40 nin0))
  have O52 := O37.keep K41 (allS ga40 (allS gs40 all0))
  have K53 := K38.trans K41 (allS (Or.inl (by simp)) (allS (Or.inl (by simp)) all0))
  have Z54 : n0 ≤ h41.size := Nat.le_trans Z39 K41.1
  refine WP.castS (st' := []) rfl ?_
  exact WP.vret d_prog_7_method_24_34 rfl (by decide) (by decide) ⟨rfl, _, _, _, K53, sy25, R41⟩
set_option maxRecDepth 65536 in
set_option maxHeartbeats 40000000 in
theorem m_addB {Z : State} {a0 : Array Value} (hw : ∀ d ∈ tables_1, d.before a0 Z = true) (a : Addr) (s1 : Addr) (s2 : Addr) (h0 : Heap) (n0 : Nat) (Z0 : n0 ≤ h0.size) (O0 : Old Z n0 h0) (cs : Int32) (S_CS : Sta Z Z.heap "java/lang/String" "COMPACT_STRINGS" "Z" (.int cs)) (hcs : ¬ cs = 0) (fv : Value) (hfv : fv.isRef = true) (S_FM : Sta Z Z.heap "jdk/internal/util/Preconditions" "SIOOBE_FORMATTER" "Ljava/util/function/BiFunction;" fv) (rw sp : Addr) (us fd : Int32) (g e : Nat → Int32) (R0 : Hh Z n0 h0 8192 a rw sp us fd g e) (b1 : Addr) (n1 : Nat) (q1 : Nat → Int32) (s1E : Exa Z h0 s1 "java/lang/String") (s1V : Fld Z h0 s1 "java/lang/String" "value" "[B" (.ref b1)) (s1C : Fld Z h0 s1 "java/lang/String" "coder" "B" (.int 0)) (s1A : Ari Z h0 b1 .byte n1 q1) (b2 : Addr) (n2 : Nat) (q2 : Nat → Int32) (s2E : Exa Z h0 s2 "java/lang/String") (s2V : Fld Z h0 s2 "java/lang/String" "value" "[B" (.ref b2)) (s2C : Fld Z h0 s2 "java/lang/String" "coder" "B" (.int 0)) (s2A : Ari Z h0 b2 .byte n2 q2) (n_s1a : s1 ≠ a) (n_s1rw : s1 ≠ rw) (n_s1sp : s1 ≠ sp) (n_b1a : b1 ≠ a) (n_b1rw : b1 ≠ rw) (n_b1sp : b1 ≠ sp) (n_s2a : s2 ≠ a) (n_s2rw : s2 ≠ rw) (n_s2sp : s2 ≠ sp) (n_b2a : b2 ≠ a) (n_b2rw : b2 ≠ rw) (n_b2sp : b2 ≠ sp) (U F : Nat) (hU : us.toInt = (U : Int)) (hs : U + n1 + n2 ≤ 16384)  (h81 : n1 ≤ 8192) (h82 : n2 ≤ 8192) (hUq : us + (n1 : Nat).toInt32 = 8193) (hq1 : ∀ i, i < n1 → nar .byte (q1 i) = q1 i) (hq2 : ∀ i, i < n2 → nar .byte (q2 i) = q2 i) (hF : fd.toInt = (F : Int)) (hF7 : F ≤ 6) : ∀ l, Does l Z (⟨"com/example/vipool/vipool/http/HttpHead", "add", "(Ljava/lang/String;Ljava/lang/String;)V"⟩ : MethodName) prog_7_method_24_code 5 none ({ frames := 5, cells := 1, slots := 16384, locals := 71 } : Room) n0 #[(.ref a), (.ref s1), (.ref s2)] h0 (fun v h => v = none ∧ ∃ (rx : Addr) (gx ex : Nat → Int32), Keep h0 h [a, rw, sp] ∧ h0.size ≤ rx ∧ Hh Z n0 h 16384 a rx sp (us + (n1 : Nat).toInt32 + (n2 : Nat).toInt32) (fd + 1) gx ex) := by
  intro l
  refine Does.of_wp (plainFor_of_name pn_4) (Ls := #[.val (.ref a), .val (.ref s1), .val (.ref s2), .unset, .unset]) (fun m => by first | (simp [entryFrame, mkF, argsToLocals, Value.category]; done) | rfl | (rcases ref_cases hfv with rfl | ⟨_, rfl⟩ <;> rfl)) ?_
  intro C
  obtain ⟨⟨ga1, gr1, gs1, nrs1, nra1, nsa1⟩, X1, ⟨Fraw_1, Fspans_1, Fused_1, Ffields_1, FsecondEnd_1, FsecondStart_1, Frequest_1, Fmethod_1, Fstatus_1⟩, AR1, AS1⟩ := id R0
  have K0 := Keep.refl h0 [a, rw, sp]
  refine WP.aloadN (pc' := 1) d_prog_7_method_24_0 rfl rfl rfl ?_
  refine WP.getF (pc' := 4) d_prog_7_method_24_1 rfl (host := "") (Or.inl (wd61 hw)) Via.refl Fused_1 ?_
  refine WP.istoreN (pc' := 5) d_prog_7_method_24_4 rfl (Ls' := #[.val (.ref a), .val (.ref s1), .val (.ref s2), .val (.int us), .unset]) rfl ?_
  refine WP.aloadN (pc' := 6) d_prog_7_method_24_5 rfl rfl rfl ?_
  refine WP.aloadN (pc' := 7) d_prog_7_method_24_6 rfl rfl rfl ?_
  refine WP.callP (a := a) (argsL := [(.ref s1)]) (rest := []) (wd := 0) (cl' := 1) (sl' := 16384) (pc' := 10) d_prog_7_method_24_7 rfl (wd63 hw) (wd64 hw) (selPriv (wd59 hw) rfl (wd65 hw) (wd64 hw) (by decide)) (wd65 hw) (wd46 hw) (wd66 hw) (by decide) R0.2.1 (m_putB hw a s1 h0 n0 Z0 O0 cs S_CS hcs fv hfv S_FM rw sp us fd g e R0 b1 n1 q1 s1E s1V s1C s1A n_s1a n_s1rw n_s1sp n_b1a n_b1rw n_b1sp (U) hU (by omega) (by omega) hUq hq1) pd_16 rfl rfl rfl (Nat.le_of_eq rfl) (by decide) (by decide) rfl rfl (by decide) (by decide) ?_
  rintro v h2 ⟨rfl, rx2, gx2, K2, zx2, R2⟩
  have ne3 : a ≠ rx2 := Nat.ne_of_lt (Nat.lt_of_lt_of_le X1.lt zx2)
  have ne4 : rw ≠ rx2 := Nat.ne_of_lt (Nat.lt_of_lt_of_le AR1.lt zx2)
  have ne5 : sp ≠ rx2 := Nat.ne_of_lt (Nat.lt_of_lt_of_le AS1.lt zx2)
  have ne6 : s1 ≠ rx2 := Nat.ne_of_lt (Nat.lt_of_lt_of_le s1E.lt zx2)
  have ne7 : b1 ≠ rx2 := Nat.ne_of_lt (Nat.lt_of_lt_of_le s1A.lt zx2)
  have ne8 : s2 ≠ rx2 := Nat.ne_of_lt (Nat.lt_of_lt_of_le s2E.lt zx2)
  have ne9 : b2 ≠ rx2 := Nat.ne_of_lt (Nat.lt_of_lt_of_le s2A.lt zx2)
  have sy10 : h0.size ≤ rx2 := Nat.le_trans K0.1 zx2
  have E11 := X1.keep K2
  have V12 := AR1.keep K2 (ninS nra1 nin0)
  have V13 := AS1.keep K2 (ninS nsa1 nin0)
  have E14 := s1E.keep K2
  have F15 := s1V.keep K2 (ninS n_s1a nin0)
  have F16 := s1C.keep K2 (ninS n_s1a nin0)
  have V17 := s1A.keep K2 (ninS n_b1a nin0)
  have E18 := s2E.keep K2
  have F19 := s2V.keep K2 (ninS n_s2a nin0)
  have F20 := s2C.keep K2 (ninS n_s2a nin0)
  have V21 := s2A.keep K2 (ninS n_b2a nin0)
  have O22 := O0.keep K2 (allS ga1 all0)
  have K23 := K0.trans K2 (allS (Or.inl (by simp)) all0)
  have Z24 : n0 ≤ h2.size := Nat.le_trans Z0 K2.1
  obtain ⟨⟨ga25, gr25, gs25, nrs25, nra25, nsa25⟩, X25, ⟨Fraw_25, Fspans_25, Fused_25, Ffields_25, FsecondEnd_25, FsecondStart_25, Frequest_25, Fmethod_25, Fstatus_25⟩, AR25, AS25⟩ := id R2
  refine WP.castS (st' := []) rfl ?_
  refine WP.aloadN (pc' := 11) d_prog_7_method_24_10 rfl rfl rfl ?_
  refine WP.getF (pc' := 14) d_prog_7_method_24_11 rfl (host := "") (Or.inl (wd61 hw)) Via.refl Fused_25 ?_
  refine WP.istore (pc' := 16) d_prog_7_method_24_14 rfl (Ls' := #[.val (.ref a), .val (.ref s1), .val (.ref s2), .val (.int us), .val (.int (us + (n1 : Nat).toInt32))]) rfl ?_
  refine WP.aloadN (pc' := 17) d_prog_7_method_24_16 rfl rfl rfl ?_
  refine WP.aloadN (pc' := 18) d_prog_7_method_24_17 rfl rfl rfl ?_
  refine WP.callP (a := a) (argsL := [(.ref s2)]) (rest := []) (wd := 0) (cl' := 1) (sl' := 16384) (pc' := 21) d_prog_7_method_24_18 rfl (wd63 hw) (wd64 hw) (selPriv (wd59 hw) rfl (wd65 hw) (wd64 hw) (by decide)) (wd65 hw) (wd46 hw) (wd66 hw) (by decide) R2.2.1 (m_put hw a s2 h2 n0 Z24 O22 cs S_CS hcs fv hfv S_FM 16384 rx2 sp (us + (n1 : Nat).toInt32) fd gx2 e R2 b2 n2 q2 E18 F19 F20 V21 n_s2a ne8 n_s2sp n_b2a ne9 n_b2sp (U + n1) (adds hU (natI (by omega)) (by omega)) (by omega) (by omega) (by omega) hq2) pd_16 rfl rfl rfl (Nat.le_of_eq rfl) (by decide) (by decide) rfl rfl (by decide) (by decide) ?_
  rintro v h26 ⟨rfl, K26, R26⟩
  have E27 := X25.keep K26
  have V28 := AS25.keep K26 (ninS nsa25 (ninS (Ne.symm nrs25) nin0))
  have E29 := E14.keep K26
  have F30 := F15.keep K26 (ninS n_s1a (ninS ne6 nin0))
  have F31 := F16.keep K26 (ninS n_s1a (ninS ne6 nin0))
  have V32 := V17.keep K26 (ninS n_b1a (ninS ne7 nin0))
  have E33 := E18.keep K26
  have F34 := F19.keep K26 (ninS n_s2a (ninS ne8 nin0))
  have F35 := F20.keep K26 (ninS n_s2a (ninS ne8 nin0))
  have V36 := V21.keep K26 (ninS n_b2a (ninS ne9 nin0))
  have O37 := O22.keep K26 (allS ga25 (allS gr25 all0))
  have K38 := K23.trans K26 (allS (Or.inl (by simp)) (allS (Or.inr sy10) all0))
  have Z39 : n0 ≤ h26.size := Nat.le_trans Z24 K26.1
  obtain ⟨⟨ga40, gr40, gs40, nrs40, nra40, nsa40⟩, X40, ⟨Fraw_40, Fspans_40, Fused_40, Ffields_40, FsecondEnd_40, FsecondStart_40, Frequest_40, Fmethod_40, Fstatus_40⟩, AR40, AS40⟩ := id R26
  refine WP.castS (st' := []) rfl ?_
  refine WP.aloadN (pc' := 22) d_prog_7_method_24_21 rfl rfl rfl ?_
  refine WP.iloadN (pc' := 23) d_prog_7_method_24_22 rfl rfl ?_
  refine WP.iload (pc' := 25) d_prog_7_method_24_23 rfl rfl ?_
  refine WP.iload (pc' := 27) d_prog_7_method_24_25 rfl rfl ?_
  refine WP.aloadN (pc' := 28) d_prog_7_method_24_27 rfl rfl rfl ?_
  refine WP.getF (pc' := 31) d_prog_7_method_24_28 rfl (host := "") (Or.inl (wd61 hw)) Via.refl Fused_40 ?_
  refine WP.callP (a := a) (argsL := [(.int us), (.int (us + (n1 : Nat).toInt32)), (.int (us + (n1 : Nat).toInt32)), (.int ((us + (n1 : Nat).toInt32) + (n2 : Nat).toInt32))]) (rest := []) (wd := 0) (cl' := 1) (sl' := 16384) (pc' := 34) d_prog_7_method_24_31 rfl (wd102 hw) (wd103 hw) (selPriv (wd59 hw) rfl (wd104 hw) (wd103 hw) (by decide)) (wd104 hw) (wd46 hw) (wd105 hw) (by decide) R26.2.1 (m_span hw a us (us + (n1 : Nat).toInt32) (us + (n1 : Nat).toInt32) ((us + (n1 : Nat).toInt32) + (n2 : Nat).toInt32) h26 n0 Z39 O37 16384 rx2 sp ((us + (n1 : Nat).toInt32) + (n2 : Nat).toInt32) fd (lay gx2 (U + n1) n2 q2) e R26 F hF hF7) pd_17 rfl rfl rfl (Nat.le_of_eq rfl) (by decide) (by decide) rfl rfl (by decide) (by decide) ?_
  rintro v h41 ⟨rfl, K41, R41⟩
  have E42 := X40.keep K41
  have E43 := E29.keep K41
  have F44 := F30.keep K41 (ninS n_s1a (ninS n_s1sp nin0))
  have F45 := F31.keep K41 (ninS n_s1a (ninS n_s1sp nin0))
  have V46 := V32.keep K41 (ninS n_b1a (ninS n_b1sp nin0))
  have E47 := E33.keep K41
  have F48 := F34.keep K41 (ninS n_s2a (ninS n_s2sp nin0))
  have F49 := F35.keep K41 (ninS n_s2a (ninS n_s2sp nin0))
  have V50 := V36.keep K41 (ninS n_b2a (ninS n_b2sp nin0))
  have V51 := AR40.keep K41 (ninS nra40 (ninS nrs40 nin0))
  have O52 := O37.keep K41 (allS ga40 (allS gs40 all0))
  have K53 := K38.trans K41 (allS (Or.inl (by simp)) (allS (Or.inl (by simp)) all0))
  have Z54 : n0 ≤ h41.size := Nat.le_trans Z39 K41.1
  refine WP.castS (st' := []) rfl ?_
  exact WP.vret d_prog_7_method_24_34 rfl (by decide) (by decide) ⟨rfl, _, _, _, K53, sy10, R41⟩
theorem d_prog_7_method_6_0 : decode prog_7_method_6_code 0 = .ok (.aload_n 0, 1) := by decide +kernel
theorem d_prog_7_method_6_1 : decode prog_7_method_6_code 1 = .ok (.iconst 0, 1) := by decide +kernel
theorem d_prog_7_method_6_2 : decode prog_7_method_6_code 2 = .ok (.putfield 114, 3) := by decide +kernel
theorem d_prog_7_method_6_5 : decode prog_7_method_6_code 5 = .ok (.aload_n 0, 1) := by decide +kernel
theorem d_prog_7_method_6_6 : decode prog_7_method_6_code 6 = .ok (.iconst 0, 1) := by decide +kernel
theorem d_prog_7_method_6_7 : decode prog_7_method_6_code 7 = .ok (.putfield 117, 3) := by decide +kernel
theorem d_prog_7_method_6_10 : decode prog_7_method_6_code 10 = .ok (.aload_n 0, 1) := by decide +kernel
theorem d_prog_7_method_6_11 : decode prog_7_method_6_code 11 = .ok (.aconst_null, 1) := by decide +kernel
theorem d_prog_7_method_6_12 : decode prog_7_method_6_code 12 = .ok (.putfield 86, 3) := by decide +kernel
theorem wd113 {Z : State} {a0 : Array Value} (hw : ∀ d ∈ tables_1, d.before a0 Z = true) : (Jvm.Cond.fieldLink "com/example/vipool/vipool/http/HttpHead" (86 : Nat) "com/example/vipool/vipool/http/HttpHead" "method" "Ljava/lang/String;").before a0 Z = true := hw _ (List.mem_of_getElem? (i := 113) rfl)
theorem d_prog_7_method_6_15 : decode prog_7_method_6_code 15 = .ok (.aload_n 0, 1) := by decide +kernel
theorem d_prog_7_method_6_16 : decode prog_7_method_6_code 16 = .ok (.iconst 0, 1) := by decide +kernel
theorem d_prog_7_method_6_17 : decode prog_7_method_6_code 17 = .ok (.putfield 89, 3) := by decide +kernel
theorem wd115 {Z : State} {a0 : Array Value} (hw : ∀ d ∈ tables_1, d.before a0 Z = true) : (Jvm.Cond.fieldLink "com/example/vipool/vipool/http/HttpHead" (89 : Nat) "com/example/vipool/vipool/http/HttpHead" "status" "I").before a0 Z = true := hw _ (List.mem_of_getElem? (i := 115) rfl)
theorem d_prog_7_method_6_20 : decode prog_7_method_6_code 20 = .ok (.aload_n 0, 1) := by decide +kernel
theorem d_prog_7_method_6_21 : decode prog_7_method_6_code 21 = .ok (.getfield 15, 3) := by decide +kernel
theorem d_prog_7_method_6_24 : decode prog_7_method_6_code 24 = .ok (.arraylength, 1) := by decide +kernel
theorem d_prog_7_method_6_25 : decode prog_7_method_6_code 25 = .ok (.sipush 2048, 3) := by decide +kernel
theorem d_prog_7_method_6_28 : decode prog_7_method_6_code 28 = .ok (.if_icmp .le 11, 3) := by decide +kernel
theorem d_prog_7_method_6_39 : decode prog_7_method_6_code 39 = .ok (.aload_n 0, 1) := by decide +kernel
theorem d_prog_7_method_6_40 : decode prog_7_method_6_code 40 = .ok (.getfield 11, 3) := by decide +kernel
theorem d_prog_7_method_6_43 : decode prog_7_method_6_code 43 = .ok (.arraylength, 1) := by decide +kernel
theorem d_prog_7_method_6_44 : decode prog_7_method_6_code 44 = .ok (.sipush 8192, 3) := by decide +kernel
theorem d_prog_7_method_6_47 : decode prog_7_method_6_code 47 = .ok (.if_icmp .gt 5, 3) := by decide +kernel
theorem d_prog_7_method_6_50 : decode prog_7_method_6_code 50 = .ok (.iconst 0, 1) := by decide +kernel
theorem d_prog_7_method_6_51 : decode prog_7_method_6_code 51 = .ok (.ireturn, 1) := by decide +kernel
set_option maxRecDepth 65536 in
set_option maxHeartbeats 40000000 in
theorem m_clr0 {Z : State} {a0 : Array Value} (hw : ∀ d ∈ tables_1, d.before a0 Z = true) (a : Addr) (h0 : Heap) (n0 : Nat) (Z0 : n0 ≤ h0.size) (O0 : Old Z n0 h0) (nr : Nat) (rw sp : Addr) (us fd : Int32) (g e : Nat → Int32) (R0 : Hh Z n0 h0 nr a rw sp us fd g e) (hnr : nr ≤ 8192) : ∀ l, Does l Z (⟨"com/example/vipool/vipool/http/HttpHead", "clear", "()Z"⟩ : MethodName) prog_7_method_6_code 1 (some .boolean) ({ frames := 0, cells := 0, slots := 0, locals := 0 } : Room) n0 #[(.ref a)] h0 (fun v h => v = some (.int 0) ∧ Keep h0 h [a] ∧ Hh Z n0 h nr a rw sp 0 0 g e) := by
  intro l
  refine Does.of_wp (plainFor_of_name pn_4) (Ls := #[.val (.ref a)]) (fun m => by first | (simp [entryFrame, mkF, argsToLocals, Value.category]; done) | rfl | (rcases ref_cases hfv with rfl | ⟨_, rfl⟩ <;> rfl)) ?_
  intro C
  obtain ⟨⟨ga1, gr1, gs1, nrs1, nra1, nsa1⟩, X1, ⟨Fraw_1, Fspans_1, Fused_1, Ffields_1, FsecondEnd_1, FsecondStart_1, Frequest_1, Fmethod_1, Fstatus_1⟩, AR1, AS1⟩ := id R0
  have K0 := Keep.refl h0 [a]
  refine WP.aloadN (pc' := 1) d_prog_7_method_6_0 rfl rfl rfl ?_
  refine WP.iconst (pc' := 2) d_prog_7_method_6_1 rfl (z := 0) rfl ?_
  refine WP.putF (pc' := 5) d_prog_7_method_6_2 rfl (host := "") (Or.inl (wd61 hw)) Via.refl Fused_1 X1 (Or.inl (wd62 hw)) (wd45 hw) (ty := .int) (by decide) rfl rfl ga1 ?_
  intro h2 W3
  have Kw4 := Keep.of_wr W3
  have E5 := X1.keep Kw4
  have V6 := AR1.keep Kw4 (ninS nra1 nin0)
  have V7 := AS1.keep Kw4 (ninS nsa1 nin0)
  have O8 := O0.keep Kw4 (allS ga1 all0)
  have K9 := K0.trans Kw4 (allS (Or.inl (by simp)) all0)
  have Z10 : n0 ≤ h2.size := Nat.le_trans Z0 Kw4.1
  have F11 := Fraw_1.other W3 (Or.inr (slot_ne (Or.inl (wd52 hw)) (Or.inl (wd62 hw)) (by decide) (t := (.array .byte)) (t' := .int) (by decide) (by decide)))
  have F12 := Fspans_1.other W3 (Or.inr (slot_ne (Or.inl (wd55 hw)) (Or.inl (wd62 hw)) (by decide) (t := (.array .int)) (t' := .int) (by decide) (by decide)))
  have F13 := Fused_1.same W3
  have F14 := Ffields_1.other W3 (Or.inr (slot_ne (Or.inl (wd107 hw)) (Or.inl (wd62 hw)) (by decide) (t := .int) (t' := .int) (by decide) (by decide)))
  have F15 := FsecondEnd_1.other W3 (Or.inr (slot_ne (Or.inl (wd123 hw)) (Or.inl (wd62 hw)) (by decide) (t := .int) (t' := .int) (by decide) (by decide)))
  have F16 := FsecondStart_1.other W3 (Or.inr (slot_ne (Or.inl (wd125 hw)) (Or.inl (wd62 hw)) (by decide) (t := .int) (t' := .int) (by decide) (by decide)))
  have F17 := Frequest_1.other W3 (Or.inr (slot_ne (Or.inl (wd127 hw)) (Or.inl (wd62 hw)) (by decide) (t := .boolean) (t' := .int) (by decide) (by decide)))
  have F18 := Fmethod_1.other W3 (Or.inr (slot_ne (Or.inl (wd114 hw)) (Or.inl (wd62 hw)) (by decide) (t := (.object "java/lang/String")) (t' := .int) (by decide) (by decide)))
  have F19 := Fstatus_1.other W3 (Or.inr (slot_ne (Or.inl (wd116 hw)) (Or.inl (wd62 hw)) (by decide) (t := .int) (t' := .int) (by decide) (by decide)))
  refine WP.aloadN (pc' := 6) d_prog_7_method_6_5 rfl rfl rfl ?_
  refine WP.iconst (pc' := 7) d_prog_7_method_6_6 rfl (z := 0) rfl ?_
  refine WP.putF (pc' := 10) d_prog_7_method_6_7 rfl (host := "") (Or.inl (wd106 hw)) Via.refl F14 E5 (Or.inl (wd107 hw)) (wd45 hw) (ty := .int) (by decide) rfl rfl ga1 ?_
  intro h20 W21
  have Kw22 := Keep.of_wr W21
  have E23 := E5.keep Kw22
  have V24 := V6.keep Kw22 (ninS nra1 nin0)
  have V25 := V7.keep Kw22 (ninS nsa1 nin0)
  have O26 := O8.keep Kw22 (allS ga1 all0)
  have K27 := K9.trans Kw22 (allS (Or.inl (by simp)) all0)
  have Z28 : n0 ≤ h20.size := Nat.le_trans Z10 Kw22.1
  have F29 := F11.other W21 (Or.inr (slot_ne (Or.inl (wd52 hw)) (Or.inl (wd107 hw)) (by decide) (t := (.array .byte)) (t' := .int) (by decide) (by decide)))
  have F30 := F12.other W21 (Or.inr (slot_ne (Or.inl (wd55 hw)) (Or.inl (wd107 hw)) (by decide) (t := (.array .int)) (t' := .int) (by decide) (by decide)))
  have F31 := F13.other W21 (Or.inr (slot_ne (Or.inl (wd62 hw)) (Or.inl (wd107 hw)) (by decide) (t := .int) (t' := .int) (by decide) (by decide)))
  have F32 := F14.same W21
  have F33 := F15.other W21 (Or.inr (slot_ne (Or.inl (wd123 hw)) (Or.inl (wd107 hw)) (by decide) (t := .int) (t' := .int) (by decide) (by decide)))
  have F34 := F16.other W21 (Or.inr (slot_ne (Or.inl (wd125 hw)) (Or.inl (wd107 hw)) (by decide) (t := .int) (t' := .int) (by decide) (by decide)))
  have F35 := F17.other W21 (Or.inr (slot_ne (Or.inl (wd127 hw)) (Or.inl (wd107 hw)) (by decide) (t := .boolean) (t' := .int) (by decide) (by decide)))
  have F36 := F18.other W21 (Or.inr (slot_ne (Or.inl (wd114 hw)) (Or.inl (wd107 hw)) (by decide) (t := (.object "java/lang/String")) (t' := .int) (by decide) (by decide)))
  have F37 := F19.other W21 (Or.inr (slot_ne (Or.inl (wd116 hw)) (Or.inl (wd107 hw)) (by decide) (t := .int) (t' := .int) (by decide) (by decide)))
  refine WP.aloadN (pc' := 11) d_prog_7_method_6_10 rfl rfl rfl ?_
  refine WP.aconstNull (pc' := 12) d_prog_7_method_6_11 rfl ?_
  refine WP.putF (pc' := 15) d_prog_7_method_6_12 rfl (host := "") (Or.inl (wd113 hw)) Via.refl F36 E23 (Or.inl (wd114 hw)) (wd45 hw) (ty := (.object "java/lang/String")) (by decide) rfl rfl ga1 ?_
  intro h38 W39
  have Kw40 := Keep.of_wr W39
  have E41 := E23.keep Kw40
  have V42 := V24.keep Kw40 (ninS nra1 nin0)
  have V43 := V25.keep Kw40 (ninS nsa1 nin0)
  have O44 := O26.keep Kw40 (allS ga1 all0)
  have K45 := K27.trans Kw40 (allS (Or.inl (by simp)) all0)
  have Z46 : n0 ≤ h38.size := Nat.le_trans Z28 Kw40.1
  have F47 := F29.other W39 (Or.inr (slot_ne (Or.inl (wd52 hw)) (Or.inl (wd114 hw)) (by decide) (t := (.array .byte)) (t' := (.object "java/lang/String")) (by decide) (by decide)))
  have F48 := F30.other W39 (Or.inr (slot_ne (Or.inl (wd55 hw)) (Or.inl (wd114 hw)) (by decide) (t := (.array .int)) (t' := (.object "java/lang/String")) (by decide) (by decide)))
  have F49 := F31.other W39 (Or.inr (slot_ne (Or.inl (wd62 hw)) (Or.inl (wd114 hw)) (by decide) (t := .int) (t' := (.object "java/lang/String")) (by decide) (by decide)))
  have F50 := F32.other W39 (Or.inr (slot_ne (Or.inl (wd107 hw)) (Or.inl (wd114 hw)) (by decide) (t := .int) (t' := (.object "java/lang/String")) (by decide) (by decide)))
  have F51 := F33.other W39 (Or.inr (slot_ne (Or.inl (wd123 hw)) (Or.inl (wd114 hw)) (by decide) (t := .int) (t' := (.object "java/lang/String")) (by decide) (by decide)))
  have F52 := F34.other W39 (Or.inr (slot_ne (Or.inl (wd125 hw)) (Or.inl (wd114 hw)) (by decide) (t := .int) (t' := (.object "java/lang/String")) (by decide) (by decide)))
  have F53 := F35.other W39 (Or.inr (slot_ne (Or.inl (wd127 hw)) (Or.inl (wd114 hw)) (by decide) (t := .boolean) (t' := (.object "java/lang/String")) (by decide) (by decide)))
  have F54 := F36.same W39
  have F55 := F37.other W39 (Or.inr (slot_ne (Or.inl (wd116 hw)) (Or.inl (wd114 hw)) (by decide) (t := .int) (t' := (.object "java/lang/String")) (by decide) (by decide)))
  refine WP.aloadN (pc' := 16) d_prog_7_method_6_15 rfl rfl rfl ?_
  refine WP.iconst (pc' := 17) d_prog_7_method_6_16 rfl (z := 0) rfl ?_
  refine WP.putF (pc' := 20) d_prog_7_method_6_17 rfl (host := "") (Or.inl (wd115 hw)) Via.refl F55 E41 (Or.inl (wd116 hw)) (wd45 hw) (ty := .int) (by decide) rfl rfl ga1 ?_
  intro h56 W57
  have Kw58 := Keep.of_wr W57
  have E59 := E41.keep Kw58
  have V60 := V42.keep Kw58 (ninS nra1 nin0)
  have V61 := V43.keep Kw58 (ninS nsa1 nin0)
  have O62 := O44.keep Kw58 (allS ga1 all0)
  have K63 := K45.trans Kw58 (allS (Or.inl (by simp)) all0)
  have Z64 : n0 ≤ h56.size := Nat.le_trans Z46 Kw58.1
  have F65 := F47.other W57 (Or.inr (slot_ne (Or.inl (wd52 hw)) (Or.inl (wd116 hw)) (by decide) (t := (.array .byte)) (t' := .int) (by decide) (by decide)))
  have F66 := F48.other W57 (Or.inr (slot_ne (Or.inl (wd55 hw)) (Or.inl (wd116 hw)) (by decide) (t := (.array .int)) (t' := .int) (by decide) (by decide)))
  have F67 := F49.other W57 (Or.inr (slot_ne (Or.inl (wd62 hw)) (Or.inl (wd116 hw)) (by decide) (t := .int) (t' := .int) (by decide) (by decide)))
  have F68 := F50.other W57 (Or.inr (slot_ne (Or.inl (wd107 hw)) (Or.inl (wd116 hw)) (by decide) (t := .int) (t' := .int) (by decide) (by decide)))
  have F69 := F51.other W57 (Or.inr (slot_ne (Or.inl (wd123 hw)) (Or.inl (wd116 hw)) (by decide) (t := .int) (t' := .int) (by decide) (by decide)))
  have F70 := F52.other W57 (Or.inr (slot_ne (Or.inl (wd125 hw)) (Or.inl (wd116 hw)) (by decide) (t := .int) (t' := .int) (by decide) (by decide)))
  have F71 := F53.other W57 (Or.inr (slot_ne (Or.inl (wd127 hw)) (Or.inl (wd116 hw)) (by decide) (t := .boolean) (t' := .int) (by decide) (by decide)))
  have F72 := F54.other W57 (Or.inr (slot_ne (Or.inl (wd114 hw)) (Or.inl (wd116 hw)) (by decide) (t := (.object "java/lang/String")) (t' := .int) (by decide) (by decide)))
  have F73 := F55.same W57
  refine WP.aloadN (pc' := 21) d_prog_7_method_6_20 rfl rfl rfl ?_
  refine WP.getF (pc' := 24) d_prog_7_method_6_21 rfl (host := "") (Or.inl (wd54 hw)) Via.refl F66 ?_
  refine WP.arraylengthI (z := (32 : Int32)) (pc' := 25) d_prog_7_method_6_24 rfl V61 rfl ?_
  refine WP.sipush (pc' := 28) d_prog_7_method_6_25 rfl (z := 2048) rfl ?_
  have hc28 : ¬ (2048 : Int32) < (32 : Int32) := by decide
  refine WP.icmp_le (pc1 := 39) (pc2 := 31) d_prog_7_method_6_28 (by decide) (by decide) rfl (fun _ => ?_) (fun k => absurd k hc28)
  refine WP.aloadN (pc' := 40) d_prog_7_method_6_39 rfl rfl rfl ?_
  refine WP.getF (pc' := 43) d_prog_7_method_6_40 rfl (host := "") (Or.inl (wd51 hw)) Via.refl F65 ?_
  refine WP.arraylengthI (z := (nr : Nat).toInt32) (pc' := 44) d_prog_7_method_6_43 rfl V60 rfl ?_
  refine WP.sipush (pc' := 47) d_prog_7_method_6_44 rfl (z := 8192) rfl ?_
  have hc47 : ¬ (8192 : Int32) < (nr : Nat).toInt32 := by rw [Int32.lt_iff_toInt_lt, natI (by omega)]; have e : (8192 : Int32).toInt = 8192 := rfl; omega
  refine WP.icmp_gt (pc1 := 52) (pc2 := 50) d_prog_7_method_6_47 (by decide) (by decide) rfl (fun k => absurd k hc47) (fun _ => ?_)
  refine WP.iconst (pc' := 51) d_prog_7_method_6_50 rfl (z := 0) rfl ?_
  refine WP.nret (t := .boolean) d_prog_7_method_6_51 rfl (by simp) rfl (by decide) (by decide) ⟨rfl, K63, ⟨⟨ga1, gr1, gs1, nrs1, nra1, nsa1⟩, E59, ⟨F65, F66, F67, F68, F69, F70, F71, F72, F73⟩, V60, V61⟩⟩
theorem d_prog_7_method_6_52 : decode prog_7_method_6_code 52 = .ok (.aload_n 0, 1) := by decide +kernel
theorem d_prog_7_method_6_53 : decode prog_7_method_6_code 53 = .ok (.sipush 512, 3) := by decide +kernel
theorem d_prog_7_method_6_56 : decode prog_7_method_6_code 56 = .ok (.newarray .byte, 2) := by decide +kernel
theorem d_prog_7_method_6_58 : decode prog_7_method_6_code 58 = .ok (.putfield 11, 3) := by decide +kernel
theorem d_prog_7_method_6_61 : decode prog_7_method_6_code 61 = .ok (.iconst 1, 1) := by decide +kernel
theorem d_prog_7_method_6_62 : decode prog_7_method_6_code 62 = .ok (.ireturn, 1) := by decide +kernel
set_option maxRecDepth 65536 in
set_option maxHeartbeats 40000000 in
theorem m_clr1 {Z : State} {a0 : Array Value} (hw : ∀ d ∈ tables_1, d.before a0 Z = true) (a : Addr) (h0 : Heap) (n0 : Nat) (Z0 : n0 ≤ h0.size) (O0 : Old Z n0 h0) (rw sp : Addr) (us fd : Int32) (g e : Nat → Int32) (R0 : Hh Z n0 h0 16384 a rw sp us fd g e) : ∀ l, Does l Z (⟨"com/example/vipool/vipool/http/HttpHead", "clear", "()Z"⟩ : MethodName) prog_7_method_6_code 1 (some .boolean) ({ frames := 0, cells := 1, slots := 512, locals := 0 } : Room) n0 #[(.ref a)] h0 (fun v h => v = some (.int 1) ∧ ∃ rx : Addr, Keep h0 h [a] ∧ h0.size ≤ rx ∧ Hh Z n0 h 512 a rx sp 0 0 (fun _ => 0) e) := by
  intro l
  refine Does.of_wp (plainFor_of_name pn_4) (Ls := #[.val (.ref a)]) (fun m => by first | (simp [entryFrame, mkF, argsToLocals, Value.category]; done) | rfl | (rcases ref_cases hfv with rfl | ⟨_, rfl⟩ <;> rfl)) ?_
  intro C
  obtain ⟨⟨ga1, gr1, gs1, nrs1, nra1, nsa1⟩, X1, ⟨Fraw_1, Fspans_1, Fused_1, Ffields_1, FsecondEnd_1, FsecondStart_1, Frequest_1, Fmethod_1, Fstatus_1⟩, AR1, AS1⟩ := id R0
  have K0 := Keep.refl h0 [a]
  refine WP.aloadN (pc' := 1) d_prog_7_method_6_0 rfl rfl rfl ?_
  refine WP.iconst (pc' := 2) d_prog_7_method_6_1 rfl (z := 0) rfl ?_
  refine WP.putF (pc' := 5) d_prog_7_method_6_2 rfl (host := "") (Or.inl (wd61 hw)) Via.refl Fused_1 X1 (Or.inl (wd62 hw)) (wd45 hw) (ty := .int) (by decide) rfl rfl ga1 ?_
  intro h2 W3
  have Kw4 := Keep.of_wr W3
  have E5 := X1.keep Kw4
  have V6 := AR1.keep Kw4 (ninS nra1 nin0)
  have V7 := AS1.keep Kw4 (ninS nsa1 nin0)
  have O8 := O0.keep Kw4 (allS ga1 all0)
  have K9 := K0.trans Kw4 (allS (Or.inl (by simp)) all0)
  have Z10 : n0 ≤ h2.size := Nat.le_trans Z0 Kw4.1
  have F11 := Fraw_1.other W3 (Or.inr (slot_ne (Or.inl (wd52 hw)) (Or.inl (wd62 hw)) (by decide) (t := (.array .byte)) (t' := .int) (by decide) (by decide)))
  have F12 := Fspans_1.other W3 (Or.inr (slot_ne (Or.inl (wd55 hw)) (Or.inl (wd62 hw)) (by decide) (t := (.array .int)) (t' := .int) (by decide) (by decide)))
  have F13 := Fused_1.same W3
  have F14 := Ffields_1.other W3 (Or.inr (slot_ne (Or.inl (wd107 hw)) (Or.inl (wd62 hw)) (by decide) (t := .int) (t' := .int) (by decide) (by decide)))
  have F15 := FsecondEnd_1.other W3 (Or.inr (slot_ne (Or.inl (wd123 hw)) (Or.inl (wd62 hw)) (by decide) (t := .int) (t' := .int) (by decide) (by decide)))
  have F16 := FsecondStart_1.other W3 (Or.inr (slot_ne (Or.inl (wd125 hw)) (Or.inl (wd62 hw)) (by decide) (t := .int) (t' := .int) (by decide) (by decide)))
  have F17 := Frequest_1.other W3 (Or.inr (slot_ne (Or.inl (wd127 hw)) (Or.inl (wd62 hw)) (by decide) (t := .boolean) (t' := .int) (by decide) (by decide)))
  have F18 := Fmethod_1.other W3 (Or.inr (slot_ne (Or.inl (wd114 hw)) (Or.inl (wd62 hw)) (by decide) (t := (.object "java/lang/String")) (t' := .int) (by decide) (by decide)))
  have F19 := Fstatus_1.other W3 (Or.inr (slot_ne (Or.inl (wd116 hw)) (Or.inl (wd62 hw)) (by decide) (t := .int) (t' := .int) (by decide) (by decide)))
  refine WP.aloadN (pc' := 6) d_prog_7_method_6_5 rfl rfl rfl ?_
  refine WP.iconst (pc' := 7) d_prog_7_method_6_6 rfl (z := 0) rfl ?_
  refine WP.putF (pc' := 10) d_prog_7_method_6_7 rfl (host := "") (Or.inl (wd106 hw)) Via.refl F14 E5 (Or.inl (wd107 hw)) (wd45 hw) (ty := .int) (by decide) rfl rfl ga1 ?_
  intro h20 W21
  have Kw22 := Keep.of_wr W21
  have E23 := E5.keep Kw22
  have V24 := V6.keep Kw22 (ninS nra1 nin0)
  have V25 := V7.keep Kw22 (ninS nsa1 nin0)
  have O26 := O8.keep Kw22 (allS ga1 all0)
  have K27 := K9.trans Kw22 (allS (Or.inl (by simp)) all0)
  have Z28 : n0 ≤ h20.size := Nat.le_trans Z10 Kw22.1
  have F29 := F11.other W21 (Or.inr (slot_ne (Or.inl (wd52 hw)) (Or.inl (wd107 hw)) (by decide) (t := (.array .byte)) (t' := .int) (by decide) (by decide)))
  have F30 := F12.other W21 (Or.inr (slot_ne (Or.inl (wd55 hw)) (Or.inl (wd107 hw)) (by decide) (t := (.array .int)) (t' := .int) (by decide) (by decide)))
  have F31 := F13.other W21 (Or.inr (slot_ne (Or.inl (wd62 hw)) (Or.inl (wd107 hw)) (by decide) (t := .int) (t' := .int) (by decide) (by decide)))
  have F32 := F14.same W21
  have F33 := F15.other W21 (Or.inr (slot_ne (Or.inl (wd123 hw)) (Or.inl (wd107 hw)) (by decide) (t := .int) (t' := .int) (by decide) (by decide)))
  have F34 := F16.other W21 (Or.inr (slot_ne (Or.inl (wd125 hw)) (Or.inl (wd107 hw)) (by decide) (t := .int) (t' := .int) (by decide) (by decide)))
  have F35 := F17.other W21 (Or.inr (slot_ne (Or.inl (wd127 hw)) (Or.inl (wd107 hw)) (by decide) (t := .boolean) (t' := .int) (by decide) (by decide)))
  have F36 := F18.other W21 (Or.inr (slot_ne (Or.inl (wd114 hw)) (Or.inl (wd107 hw)) (by decide) (t := (.object "java/lang/String")) (t' := .int) (by decide) (by decide)))
  have F37 := F19.other W21 (Or.inr (slot_ne (Or.inl (wd116 hw)) (Or.inl (wd107 hw)) (by decide) (t := .int) (t' := .int) (by decide) (by decide)))
  refine WP.aloadN (pc' := 11) d_prog_7_method_6_10 rfl rfl rfl ?_
  refine WP.aconstNull (pc' := 12) d_prog_7_method_6_11 rfl ?_
  refine WP.putF (pc' := 15) d_prog_7_method_6_12 rfl (host := "") (Or.inl (wd113 hw)) Via.refl F36 E23 (Or.inl (wd114 hw)) (wd45 hw) (ty := (.object "java/lang/String")) (by decide) rfl rfl ga1 ?_
  intro h38 W39
  have Kw40 := Keep.of_wr W39
  have E41 := E23.keep Kw40
  have V42 := V24.keep Kw40 (ninS nra1 nin0)
  have V43 := V25.keep Kw40 (ninS nsa1 nin0)
  have O44 := O26.keep Kw40 (allS ga1 all0)
  have K45 := K27.trans Kw40 (allS (Or.inl (by simp)) all0)
  have Z46 : n0 ≤ h38.size := Nat.le_trans Z28 Kw40.1
  have F47 := F29.other W39 (Or.inr (slot_ne (Or.inl (wd52 hw)) (Or.inl (wd114 hw)) (by decide) (t := (.array .byte)) (t' := (.object "java/lang/String")) (by decide) (by decide)))
  have F48 := F30.other W39 (Or.inr (slot_ne (Or.inl (wd55 hw)) (Or.inl (wd114 hw)) (by decide) (t := (.array .int)) (t' := (.object "java/lang/String")) (by decide) (by decide)))
  have F49 := F31.other W39 (Or.inr (slot_ne (Or.inl (wd62 hw)) (Or.inl (wd114 hw)) (by decide) (t := .int) (t' := (.object "java/lang/String")) (by decide) (by decide)))
  have F50 := F32.other W39 (Or.inr (slot_ne (Or.inl (wd107 hw)) (Or.inl (wd114 hw)) (by decide) (t := .int) (t' := (.object "java/lang/String")) (by decide) (by decide)))
  have F51 := F33.other W39 (Or.inr (slot_ne (Or.inl (wd123 hw)) (Or.inl (wd114 hw)) (by decide) (t := .int) (t' := (.object "java/lang/String")) (by decide) (by decide)))
  have F52 := F34.other W39 (Or.inr (slot_ne (Or.inl (wd125 hw)) (Or.inl (wd114 hw)) (by decide) (t := .int) (t' := (.object "java/lang/String")) (by decide) (by decide)))
  have F53 := F35.other W39 (Or.inr (slot_ne (Or.inl (wd127 hw)) (Or.inl (wd114 hw)) (by decide) (t := .boolean) (t' := (.object "java/lang/String")) (by decide) (by decide)))
  have F54 := F36.same W39
  have F55 := F37.other W39 (Or.inr (slot_ne (Or.inl (wd116 hw)) (Or.inl (wd114 hw)) (by decide) (t := .int) (t' := (.object "java/lang/String")) (by decide) (by decide)))
  refine WP.aloadN (pc' := 16) d_prog_7_method_6_15 rfl rfl rfl ?_
  refine WP.iconst (pc' := 17) d_prog_7_method_6_16 rfl (z := 0) rfl ?_
  refine WP.putF (pc' := 20) d_prog_7_method_6_17 rfl (host := "") (Or.inl (wd115 hw)) Via.refl F55 E41 (Or.inl (wd116 hw)) (wd45 hw) (ty := .int) (by decide) rfl rfl ga1 ?_
  intro h56 W57
  have Kw58 := Keep.of_wr W57
  have E59 := E41.keep Kw58
  have V60 := V42.keep Kw58 (ninS nra1 nin0)
  have V61 := V43.keep Kw58 (ninS nsa1 nin0)
  have O62 := O44.keep Kw58 (allS ga1 all0)
  have K63 := K45.trans Kw58 (allS (Or.inl (by simp)) all0)
  have Z64 : n0 ≤ h56.size := Nat.le_trans Z46 Kw58.1
  have F65 := F47.other W57 (Or.inr (slot_ne (Or.inl (wd52 hw)) (Or.inl (wd116 hw)) (by decide) (t := (.array .byte)) (t' := .int) (by decide) (by decide)))
  have F66 := F48.other W57 (Or.inr (slot_ne (Or.inl (wd55 hw)) (Or.inl (wd116 hw)) (by decide) (t := (.array .int)) (t' := .int) (by decide) (by decide)))
  have F67 := F49.other W57 (Or.inr (slot_ne (Or.inl (wd62 hw)) (Or.inl (wd116 hw)) (by decide) (t := .int) (t' := .int) (by decide) (by decide)))
  have F68 := F50.other W57 (Or.inr (slot_ne (Or.inl (wd107 hw)) (Or.inl (wd116 hw)) (by decide) (t := .int) (t' := .int) (by decide) (by decide)))
  have F69 := F51.other W57 (Or.inr (slot_ne (Or.inl (wd123 hw)) (Or.inl (wd116 hw)) (by decide) (t := .int) (t' := .int) (by decide) (by decide)))
  have F70 := F52.other W57 (Or.inr (slot_ne (Or.inl (wd125 hw)) (Or.inl (wd116 hw)) (by decide) (t := .int) (t' := .int) (by decide) (by decide)))
  have F71 := F53.other W57 (Or.inr (slot_ne (Or.inl (wd127 hw)) (Or.inl (wd116 hw)) (by decide) (t := .boolean) (t' := .int) (by decide) (by decide)))
  have F72 := F54.other W57 (Or.inr (slot_ne (Or.inl (wd114 hw)) (Or.inl (wd116 hw)) (by decide) (t := (.object "java/lang/String")) (t' := .int) (by decide) (by decide)))
  have F73 := F55.same W57
  refine WP.aloadN (pc' := 21) d_prog_7_method_6_20 rfl rfl rfl ?_
  refine WP.getF (pc' := 24) d_prog_7_method_6_21 rfl (host := "") (Or.inl (wd54 hw)) Via.refl F66 ?_
  refine WP.arraylengthI (z := (32 : Int32)) (pc' := 25) d_prog_7_method_6_24 rfl V61 rfl ?_
  refine WP.sipush (pc' := 28) d_prog_7_method_6_25 rfl (z := 2048) rfl ?_
  have hc28 : ¬ (2048 : Int32) < (32 : Int32) := by decide
  refine WP.icmp_le (pc1 := 39) (pc2 := 31) d_prog_7_method_6_28 (by decide) (by decide) rfl (fun _ => ?_) (fun k => absurd k hc28)
  refine WP.aloadN (pc' := 40) d_prog_7_method_6_39 rfl rfl rfl ?_
  refine WP.getF (pc' := 43) d_prog_7_method_6_40 rfl (host := "") (Or.inl (wd51 hw)) Via.refl F65 ?_
  refine WP.arraylengthI (z := (16384 : Int32)) (pc' := 44) d_prog_7_method_6_43 rfl V60 rfl ?_
  refine WP.sipush (pc' := 47) d_prog_7_method_6_44 rfl (z := 8192) rfl ?_
  have hc47 : (8192 : Int32) < (16384 : Int32) := by decide
  refine WP.icmp_gt (pc1 := 52) (pc2 := 50) d_prog_7_method_6_47 (by decide) (by decide) rfl (fun _ => ?_) (fun k => absurd hc47 k)
  refine WP.aloadN (pc' := 53) d_prog_7_method_6_52 rfl rfl rfl ?_
  refine WP.sipush (pc' := 56) d_prog_7_method_6_53 rfl (z := 512) rfl ?_
  refine WP.newPI (ty := .byte) (n := 512) (cap := 512) (cl' := 1) (sl' := 512) (pc' := 58) d_prog_7_method_6_56 rfl rfl rfl (wd14 hw) (by decide) (by decide) (by decide) rfl rfl (by decide) (by decide) ?_
  intro h74 b74 g74 E74 A74
  have ge75 : n0 ≤ b74 := by rw [g74]; exact Z64
  have sz76 : h0.size ≤ b74 := by rw [g74]; exact K63.1
  have ne77 : a ≠ b74 := by rw [g74]; exact Nat.ne_of_lt E59.lt
  have ne78 : rw ≠ b74 := by rw [g74]; exact Nat.ne_of_lt V60.lt
  have ne79 : sp ≠ b74 := by rw [g74]; exact Nat.ne_of_lt V61.lt
  have E80 := E59.ext E74
  have V81 := V60.ext E74
  have V82 := V61.ext E74
  have F83 := F65.ext E74
  have F84 := F66.ext E74
  have F85 := F67.ext E74
  have F86 := F68.ext E74
  have F87 := F69.ext E74
  have F88 := F70.ext E74
  have F89 := F71.ext E74
  have F90 := F72.ext E74
  have F91 := F73.ext E74
  have O92 := O62.ext E74
  have K93 := K63.ext E74
  have Z94 : n0 ≤ h74.size := Nat.le_trans Z64 E74.1
  refine WP.putF (pc' := 61) d_prog_7_method_6_58 rfl (host := "") (Or.inl (wd51 hw)) Via.refl F83 E80 (Or.inl (wd52 hw)) (wd45 hw) (ty := (.array .byte)) (by decide) rfl rfl ga1 ?_
  intro h95 W96
  have Kw97 := Keep.of_wr W96
  have E98 := E80.keep Kw97
  have V99 := V81.keep Kw97 (ninS nra1 nin0)
  have V100 := V82.keep Kw97 (ninS nsa1 nin0)
  have V101 := A74.keep Kw97 (ninS (Ne.symm ne77) nin0)
  have O102 := O92.keep Kw97 (allS ga1 all0)
  have K103 := K93.trans Kw97 (allS (Or.inl (by simp)) all0)
  have Z104 : n0 ≤ h95.size := Nat.le_trans Z94 Kw97.1
  have F105 := F83.same W96
  have F106 := F84.other W96 (Or.inr (slot_ne (Or.inl (wd55 hw)) (Or.inl (wd52 hw)) (by decide) (t := (.array .int)) (t' := (.array .byte)) (by decide) (by decide)))
  have F107 := F85.other W96 (Or.inr (slot_ne (Or.inl (wd62 hw)) (Or.inl (wd52 hw)) (by decide) (t := .int) (t' := (.array .byte)) (by decide) (by decide)))
  have F108 := F86.other W96 (Or.inr (slot_ne (Or.inl (wd107 hw)) (Or.inl (wd52 hw)) (by decide) (t := .int) (t' := (.array .byte)) (by decide) (by decide)))
  have F109 := F87.other W96 (Or.inr (slot_ne (Or.inl (wd123 hw)) (Or.inl (wd52 hw)) (by decide) (t := .int) (t' := (.array .byte)) (by decide) (by decide)))
  have F110 := F88.other W96 (Or.inr (slot_ne (Or.inl (wd125 hw)) (Or.inl (wd52 hw)) (by decide) (t := .int) (t' := (.array .byte)) (by decide) (by decide)))
  have F111 := F89.other W96 (Or.inr (slot_ne (Or.inl (wd127 hw)) (Or.inl (wd52 hw)) (by decide) (t := .boolean) (t' := (.array .byte)) (by decide) (by decide)))
  have F112 := F90.other W96 (Or.inr (slot_ne (Or.inl (wd114 hw)) (Or.inl (wd52 hw)) (by decide) (t := (.object "java/lang/String")) (t' := (.array .byte)) (by decide) (by decide)))
  have F113 := F91.other W96 (Or.inr (slot_ne (Or.inl (wd116 hw)) (Or.inl (wd52 hw)) (by decide) (t := .int) (t' := (.array .byte)) (by decide) (by decide)))
  refine WP.iconst (pc' := 62) d_prog_7_method_6_61 rfl (z := 1) rfl ?_
  refine WP.nret (t := .boolean) d_prog_7_method_6_62 rfl (by simp) rfl (by decide) (by decide) ⟨rfl, _, K103, sz76, ⟨⟨ga1, ge75, gs1, (Ne.symm ne79), (Ne.symm ne77), nsa1⟩, E98, ⟨F105, F106, F107, F108, F109, F110, F111, F112, F113⟩, V101, V100⟩⟩
theorem or1 {x : Int32} (h : 0 ≤ x.toInt) : ¬ (x ||| 1 ||| 1) < 0 := by
  rw [Int32.lt_iff_toInt_lt, show (0 : Int32).toInt = 0 from rfl]
  have e : (x ||| 1 ||| 1).toBitVec.msb = x.toBitVec.msb := by simp [BitVec.msb_or]
  rw [BitVec.msb_eq_toInt, BitVec.msb_eq_toInt] at e
  have e2 : decide ((x ||| 1 ||| 1).toInt < 0) = decide (x.toInt < 0) := e
  intro q
  rw [decide_eq_true q] at e2
  have := of_decide_eq_true e2.symm
  omega
theorem sub1 {n : Nat} (h : n ≤ 16384) : ((n : Nat).toInt32 - 1).toInt = (n : Int) - 1 := by
  have h1 := c_isub (n : Nat).toInt32 1
  have h2 := rng32 ((n : Nat).toInt32 - 1)
  rw [natI (by omega), show (1 : Int32).toInt = 1 from rfl] at h1
  omega
theorem d_jdk_41_method_13_0 : decode jdk_41_method_13_code 0 = .ok (.iload_n 2, 1) := by decide +kernel
theorem d_jdk_41_method_13_1 : decode jdk_41_method_13_code 1 = .ok (.iload_n 0, 1) := by decide +kernel
theorem d_jdk_41_method_13_2 : decode jdk_41_method_13_code 2 = .ok (.ior, 1) := by decide +kernel
theorem d_jdk_41_method_13_3 : decode jdk_41_method_13_code 3 = .ok (.iload_n 1, 1) := by decide +kernel
theorem d_jdk_41_method_13_4 : decode jdk_41_method_13_code 4 = .ok (.ior, 1) := by decide +kernel
theorem d_jdk_41_method_13_5 : decode jdk_41_method_13_code 5 = .ok (.ifCond .lt 10, 3) := by decide +kernel
theorem d_jdk_41_method_13_8 : decode jdk_41_method_13_code 8 = .ok (.iload_n 1, 1) := by decide +kernel
theorem d_jdk_41_method_13_9 : decode jdk_41_method_13_code 9 = .ok (.iload_n 2, 1) := by decide +kernel
theorem d_jdk_41_method_13_10 : decode jdk_41_method_13_code 10 = .ok (.iload_n 0, 1) := by decide +kernel
theorem d_jdk_41_method_13_11 : decode jdk_41_method_13_code 11 = .ok (.isub, 1) := by decide +kernel
theorem d_jdk_41_method_13_12 : decode jdk_41_method_13_code 12 = .ok (.if_icmp .le 11, 3) := by decide +kernel
theorem d_jdk_41_method_13_23 : decode jdk_41_method_13_code 23 = .ok (.iload_n 0, 1) := by decide +kernel
theorem d_jdk_41_method_13_24 : decode jdk_41_method_13_code 24 = .ok (.ireturn, 1) := by decide +kernel
set_option maxRecDepth 65536 in
set_option maxHeartbeats 40000000 in
theorem m_cfs {Z : State} {a0 : Array Value} (hw : ∀ d ∈ tables_1, d.before a0 Z = true)  (h0 : Heap) (n0 : Nat) (fv : Value) (hfv : fv.isRef = true) (nr : Nat) (hn2 : 2 ≤ nr) (hnr : nr ≤ 16384) : ∀ l, Does l Z (⟨"jdk/internal/util/Preconditions", "checkFromIndexSize", "(IIILjava/util/function/BiFunction;)I"⟩ : MethodName) jdk_41_method_13_code 4 (some .int) ({ frames := 0, cells := 0, slots := 0, locals := 0 } : Room) n0 #[(.int (1 : Int32)), (.int (1 : Int32)), (.int (nr : Nat).toInt32), fv] h0 (fun v h => v = some (.int 1) ∧ h = h0) := by
  intro l
  refine Does.of_wp (plainFor_of_name pn_3) (Ls := #[.val (.int (1 : Int32)), .val (.int (1 : Int32)), .val (.int (nr : Nat).toInt32), .val fv]) (fun m => by first | (simp [entryFrame, mkF, argsToLocals, Value.category]; done) | rfl | (rcases ref_cases hfv with rfl | ⟨_, rfl⟩ <;> rfl)) ?_
  intro C
  refine WP.iloadN (pc' := 1) d_jdk_41_method_13_0 rfl rfl ?_
  refine WP.iloadN (pc' := 2) d_jdk_41_method_13_1 rfl rfl ?_
  refine WP.ior (pc' := 3) d_jdk_41_method_13_2 rfl ?_
  refine WP.iloadN (pc' := 4) d_jdk_41_method_13_3 rfl rfl ?_
  refine WP.ior (pc' := 5) d_jdk_41_method_13_4 rfl ?_
  have hc5 : ¬ (((nr : Nat).toInt32 ||| (1 : Int32)) ||| (1 : Int32)) < (0 : Int32) := or1 (by rw [natI (by omega)]; omega)
  refine WP.ifc_lt (pc1 := 15) (pc2 := 8) d_jdk_41_method_13_5 (by decide) (by decide) rfl (fun k => absurd k hc5) (fun _ => ?_)
  refine WP.iloadN (pc' := 9) d_jdk_41_method_13_8 rfl rfl ?_
  refine WP.iloadN (pc' := 10) d_jdk_41_method_13_9 rfl rfl ?_
  refine WP.iloadN (pc' := 11) d_jdk_41_method_13_10 rfl rfl ?_
  refine WP.isub (pc' := 12) d_jdk_41_method_13_11 rfl ?_
  have hc12 : ¬ ((nr : Nat).toInt32 - (1 : Int32)) < (1 : Int32) := by rw [Int32.lt_iff_toInt_lt, sub1 hnr]; have e : (1 : Int32).toInt = 1 := rfl; omega
  refine WP.icmp_le (pc1 := 23) (pc2 := 15) d_jdk_41_method_13_12 (by decide) (by decide) rfl (fun _ => ?_) (fun k => absurd k hc12)
  refine WP.iloadN (pc' := 24) d_jdk_41_method_13_23 rfl rfl ?_
  refine WP.iret d_jdk_41_method_13_24 rfl (by decide) (by decide) ⟨rfl, rfl⟩
theorem d_jdk_42_method_157_0 : decode jdk_42_method_157_code 0 = .ok (.iload_n 0, 1) := by decide +kernel
theorem d_jdk_42_method_157_1 : decode jdk_42_method_157_code 1 = .ok (.iload_n 1, 1) := by decide +kernel
theorem d_jdk_42_method_157_2 : decode jdk_42_method_157_code 2 = .ok (.iload_n 2, 1) := by decide +kernel
theorem d_jdk_42_method_157_3 : decode jdk_42_method_157_code 3 = .ok (.getstatic 1053, 3) := by decide +kernel
theorem d_jdk_42_method_157_6 : decode jdk_42_method_157_code 6 = .ok (.invokestatic 1065, 3) := by decide +kernel
theorem wd163 {Z : State} {a0 : Array Value} (hw : ∀ d ∈ tables_1, d.before a0 Z = true) : (Jvm.Cond.methodLink "java/lang/String" (1065 : Nat) ({ cls := "jdk/internal/util/Preconditions", name := "checkFromIndexSize", desc := "(IIILjava/util/function/BiFunction;)I" } : Jvm.MethodName)).before a0 Z = true := hw _ (List.mem_of_getElem? (i := 163) rfl)
theorem wd165 {Z : State} {a0 : Array Value} (hw : ∀ d ∈ tables_1, d.before a0 Z = true) : (Jvm.Cond.code ({ cls := "jdk/internal/util/Preconditions", name := "checkFromIndexSize", desc := "(IIILjava/util/function/BiFunction;)I" } : Jvm.MethodName) jdk_41_method_13_code (4 : Nat) (Option.some Jvm.ClassFile.FieldType.int)).before a0 Z = true := hw _ (List.mem_of_getElem? (i := 165) rfl)
theorem pd_23 : parseMethodDescriptor "(IIILjava/util/function/BiFunction;)I" = some ⟨[.int, .int, .int, (.object "java/util/function/BiFunction")], some .int⟩ := by decide +kernel
theorem wd164 {Z : State} {a0 : Array Value} (hw : ∀ d ∈ tables_1, d.before a0 Z = true) : (Jvm.Cond.static ({ cls := "jdk/internal/util/Preconditions", name := "checkFromIndexSize", desc := "(IIILjava/util/function/BiFunction;)I" } : Jvm.MethodName)).before a0 Z = true := hw _ (List.mem_of_getElem? (i := 164) rfl)
theorem d_jdk_42_method_157_9 : decode jdk_42_method_157_code 9 = .ok (.ireturn, 1) := by decide +kernel
set_option maxRecDepth 65536 in
set_option maxHeartbeats 40000000 in
theorem m_cbo {Z : State} {a0 : Array Value} (hw : ∀ d ∈ tables_1, d.before a0 Z = true)  (h0 : Heap) (n0 : Nat) (fv : Value) (hfv : fv.isRef = true) (S_FM : Sta Z h0 "jdk/internal/util/Preconditions" "SIOOBE_FORMATTER" "Ljava/util/function/BiFunction;" fv) (nr : Nat) (hn2 : 2 ≤ nr) (hnr : nr ≤ 16384) : ∀ l, Does l Z (⟨"java/lang/String", "checkBoundsOffCount", "(III)I"⟩ : MethodName) jdk_42_method_157_code 3 (some .int) ({ frames := 1, cells := 0, slots := 0, locals := 15 } : Room) n0 #[(.int (1 : Int32)), (.int (1 : Int32)), (.int (nr : Nat).toInt32)] h0 (fun v h => v = some (.int 1) ∧ h = h0) := by
  intro l
  refine Does.of_wp (plainFor_of_name pn_1) (Ls := #[.val (.int (1 : Int32)), .val (.int (1 : Int32)), .val (.int (nr : Nat).toInt32)]) (fun m => by first | (simp [entryFrame, mkF, argsToLocals, Value.category]; done) | rfl | (rcases ref_cases hfv with rfl | ⟨_, rfl⟩ <;> rfl)) ?_
  intro C
  refine WP.iloadN (pc' := 1) d_jdk_42_method_157_0 rfl rfl ?_
  refine WP.iloadN (pc' := 2) d_jdk_42_method_157_1 rfl rfl ?_
  refine WP.iloadN (pc' := 3) d_jdk_42_method_157_2 rfl rfl ?_
  refine WP.getS (pc' := 6) d_jdk_42_method_157_3 rfl (host := "") (Or.inl (wd97 hw)) Via.refl (S_FM) ?_
  refine WP.callS (argsL := [(.int (1 : Int32)), (.int (1 : Int32)), (.int (nr : Nat).toInt32), fv]) (rest := []) (wd := 0) (cl' := 0) (sl' := 0) (pc' := 9) d_jdk_42_method_157_6 rfl (wd163 hw) (wd164 hw) (wd98 hw) (wd165 hw) (by decide) (m_cfs hw h0 n0 fv hfv nr hn2 hnr) pd_23 rfl rfl rfl (Nat.le_of_eq rfl) (by decide) (by decide) rfl rfl (by decide) (by decide) ?_
  rintro v hh1 ⟨rfl, he1⟩
  rw [he1]
  refine WP.castS (st' := [(.int (1 : Int32))]) rfl ?_
  refine WP.iret d_jdk_42_method_157_9 rfl (by decide) (by decide) ⟨rfl, rfl⟩
theorem d_jdk_31_method_10_0 : decode jdk_31_method_10_code 0 = .ok (.aload_n 0, 1) := by decide +kernel
theorem d_jdk_31_method_10_1 : decode jdk_31_method_10_code 1 = .ok (.ifnonnull 11, 3) := by decide +kernel
theorem d_jdk_31_method_10_12 : decode jdk_31_method_10_code 12 = .ok (.aload_n 0, 1) := by decide +kernel
theorem d_jdk_31_method_10_13 : decode jdk_31_method_10_code 13 = .ok (.areturn, 1) := by decide +kernel
theorem pn_7 : plainName "java/util/Objects" = true := by first | (simp [plainName, overriddenIn]; done) | decide +kernel
set_option maxRecDepth 65536 in
set_option maxHeartbeats 40000000 in
theorem m_rnn {Z : State} {a0 : Array Value} (hw : ∀ d ∈ tables_1, d.before a0 Z = true) (o : Addr) (h0 : Heap) (n0 : Nat)  : ∀ l, Does l Z (⟨"java/util/Objects", "requireNonNull", "(Ljava/lang/Object;)Ljava/lang/Object;"⟩ : MethodName) jdk_31_method_10_code 1 (some (.object "java/lang/Object")) ({ frames := 0, cells := 0, slots := 0, locals := 0 } : Room) n0 #[(.ref o)] h0 (fun v h => v = some (.ref o) ∧ h = h0) := by
  intro l
  refine Does.of_wp (plainFor_of_name pn_7) (Ls := #[.val (.ref o)]) (fun m => by first | (simp [entryFrame, mkF, argsToLocals, Value.category]; done) | rfl | (rcases ref_cases hfv with rfl | ⟨_, rfl⟩ <;> rfl)) ?_
  intro C
  refine WP.aloadN (pc' := 1) d_jdk_31_method_10_0 rfl rfl rfl ?_
  refine WP.ifnonnullY (pc' := 12) d_jdk_31_method_10_1 (by decide) (by decide) ?_
  refine WP.aloadN (pc' := 13) d_jdk_31_method_10_12 rfl rfl rfl ?_
  refine WP.aret d_jdk_31_method_10_13 rfl rfl rfl (by decide) (by decide) ⟨rfl, rfl⟩
theorem d_jdk_65_method_131_0 : decode jdk_65_method_131_code 0 = .ok (.iload_n 1, 1) := by decide +kernel
theorem d_jdk_65_method_131_1 : decode jdk_65_method_131_code 1 = .ok (.iload_n 0, 1) := by decide +kernel
theorem d_jdk_65_method_131_2 : decode jdk_65_method_131_code 2 = .ok (.if_icmp .ge 35, 3) := by decide +kernel
theorem d_jdk_65_method_131_37 : decode jdk_65_method_131_code 37 = .ok (.return_, 1) := by decide +kernel
set_option maxRecDepth 65536 in
set_option maxHeartbeats 40000000 in
theorem m_ckl {Z : State} {a0 : Array Value} (hw : ∀ d ∈ tables_1, d.before a0 Z = true)  (h0 : Heap) (n0 : Nat)  : ∀ l, Does l Z (⟨"java/util/Arrays", "checkLength", "(II)V"⟩ : MethodName) jdk_65_method_131_code 2 none ({ frames := 0, cells := 0, slots := 0, locals := 0 } : Room) n0 #[(.int (1 : Int32)), (.int (2 : Int32))] h0 (fun v h => v = none ∧ h = h0) := by
  intro l
  refine Does.of_wp (plainFor_of_name pn_6) (Ls := #[.val (.int (1 : Int32)), .val (.int (2 : Int32))]) (fun m => by first | (simp [entryFrame, mkF, argsToLocals, Value.category]; done) | rfl | (rcases ref_cases hfv with rfl | ⟨_, rfl⟩ <;> rfl)) ?_
  intro C
  refine WP.iloadN (pc' := 1) d_jdk_65_method_131_0 rfl rfl ?_
  refine WP.iloadN (pc' := 2) d_jdk_65_method_131_1 rfl rfl ?_
  have hc2 : ¬ (2 : Int32) < (1 : Int32) := by decide
  refine WP.icmp_ge (pc1 := 37) (pc2 := 5) d_jdk_65_method_131_2 (by decide) (by decide) rfl (fun _ => ?_) (fun k => absurd k hc2)
  exact WP.vret d_jdk_65_method_131_37 rfl (by decide) (by decide) ⟨rfl, rfl⟩
theorem d_jdk_65_method_133_0 : decode jdk_65_method_133_code 0 = .ok (.iload_n 1, 1) := by decide +kernel
theorem d_jdk_65_method_133_1 : decode jdk_65_method_133_code 1 = .ok (.iload_n 2, 1) := by decide +kernel
theorem d_jdk_65_method_133_2 : decode jdk_65_method_133_code 2 = .ok (.invokestatic 343, 3) := by decide +kernel
theorem wd180 {Z : State} {a0 : Array Value} (hw : ∀ d ∈ tables_1, d.before a0 Z = true) : (Jvm.Cond.methodLink "java/util/Arrays" (343 : Nat) ({ cls := "java/util/Arrays", name := "checkLength", desc := "(II)V" } : Jvm.MethodName)).before a0 Z = true := hw _ (List.mem_of_getElem? (i := 180) rfl)
theorem wd182 {Z : State} {a0 : Array Value} (hw : ∀ d ∈ tables_1, d.before a0 Z = true) : (Jvm.Cond.code ({ cls := "java/util/Arrays", name := "checkLength", desc := "(II)V" } : Jvm.MethodName) jdk_65_method_131_code (2 : Nat) (Option.none : Option Jvm.ClassFile.FieldType)).before a0 Z = true := hw _ (List.mem_of_getElem? (i := 182) rfl)
theorem wd181 {Z : State} {a0 : Array Value} (hw : ∀ d ∈ tables_1, d.before a0 Z = true) : (Jvm.Cond.static ({ cls := "java/util/Arrays", name := "checkLength", desc := "(II)V" } : Jvm.MethodName)).before a0 Z = true := hw _ (List.mem_of_getElem? (i := 181) rfl)
theorem d_jdk_65_method_133_5 : decode jdk_65_method_133_code 5 = .ok (.iload_n 2, 1) := by decide +kernel
theorem d_jdk_65_method_133_6 : decode jdk_65_method_133_code 6 = .ok (.iload_n 1, 1) := by decide +kernel
theorem d_jdk_65_method_133_7 : decode jdk_65_method_133_code 7 = .ok (.isub, 1) := by decide +kernel
theorem d_jdk_65_method_133_8 : decode jdk_65_method_133_code 8 = .ok (.istore_n 3, 1) := by decide +kernel
theorem d_jdk_65_method_133_9 : decode jdk_65_method_133_code 9 = .ok (.iload_n 3, 1) := by decide +kernel
theorem d_jdk_65_method_133_10 : decode jdk_65_method_133_code 10 = .ok (.newarray .byte, 2) := by decide +kernel
theorem d_jdk_65_method_133_12 : decode jdk_65_method_133_code 12 = .ok (.astore 4, 2) := by decide +kernel
theorem d_jdk_65_method_133_14 : decode jdk_65_method_133_code 14 = .ok (.aload_n 0, 1) := by decide +kernel
theorem d_jdk_65_method_133_15 : decode jdk_65_method_133_code 15 = .ok (.iload_n 1, 1) := by decide +kernel
theorem d_jdk_65_method_133_16 : decode jdk_65_method_133_code 16 = .ok (.aload 4, 2) := by decide +kernel
theorem d_jdk_65_method_133_18 : decode jdk_65_method_133_code 18 = .ok (.iconst 0, 1) := by decide +kernel
theorem d_jdk_65_method_133_19 : decode jdk_65_method_133_code 19 = .ok (.aload_n 0, 1) := by decide +kernel
theorem d_jdk_65_method_133_20 : decode jdk_65_method_133_code 20 = .ok (.arraylength, 1) := by decide +kernel
theorem d_jdk_65_method_133_21 : decode jdk_65_method_133_code 21 = .ok (.iload_n 1, 1) := by decide +kernel
theorem d_jdk_65_method_133_22 : decode jdk_65_method_133_code 22 = .ok (.isub, 1) := by decide +kernel
theorem d_jdk_65_method_133_23 : decode jdk_65_method_133_code 23 = .ok (.iload_n 3, 1) := by decide +kernel
theorem d_jdk_65_method_133_24 : decode jdk_65_method_133_code 24 = .ok (.invokestatic 304, 3) := by decide +kernel
theorem d_jdk_65_method_133_27 : decode jdk_65_method_133_code 27 = .ok (.invokestatic 150, 3) := by decide +kernel
theorem d_jdk_65_method_133_30 : decode jdk_65_method_133_code 30 = .ok (.aload 4, 2) := by decide +kernel
theorem d_jdk_65_method_133_32 : decode jdk_65_method_133_code 32 = .ok (.areturn, 1) := by decide +kernel
set_option maxRecDepth 65536 in
set_option maxHeartbeats 40000000 in
theorem m_crb {Z : State} {a0 : Array Value} (hw : ∀ d ∈ tables_1, d.before a0 Z = true) (b : Addr) (h0 : Heap) (n0 : Nat) (nr : Nat) (hn2 : 2 ≤ nr) (hnr : nr ≤ 16384) (Z0 : n0 ≤ h0.size) (g : Nat → Int32) (A0 : Ari Z h0 b .byte nr g) : ∀ l, Does l Z (⟨"java/util/Arrays", "copyOfRangeByte", "([BII)[B"⟩ : MethodName) jdk_65_method_133_code 5 (some (.array .byte)) ({ frames := 1, cells := 1, slots := 1, locals := 18 } : Room) n0 #[(.ref b), (.int (1 : Int32)), (.int (2 : Int32))] h0 (fun v h => ∃ c : Addr, v = some (.ref c) ∧ Keep h0 h [] ∧ n0 ≤ c ∧ h0.size ≤ c ∧ Ari Z h c .byte 1 (fun _ => g 1)) := by
  intro l
  refine Does.of_wp (plainFor_of_name pn_6) (Ls := #[.val (.ref b), .val (.int (1 : Int32)), .val (.int (2 : Int32)), .unset, .unset]) (fun m => by first | (simp [entryFrame, mkF, argsToLocals, Value.category]; done) | rfl | (rcases ref_cases hfv with rfl | ⟨_, rfl⟩ <;> rfl)) ?_
  intro C
  have K0 := Keep.refl h0 []
  refine WP.iloadN (pc' := 1) d_jdk_65_method_133_0 rfl rfl ?_
  refine WP.iloadN (pc' := 2) d_jdk_65_method_133_1 rfl rfl ?_
  refine WP.callS (argsL := [(.int (1 : Int32)), (.int (2 : Int32))]) (rest := []) (wd := 0) (cl' := 0) (sl' := 0) (pc' := 5) d_jdk_65_method_133_2 rfl (wd180 hw) (wd181 hw) (wd175 hw) (wd182 hw) (by decide) (m_ckl hw h0 n0) pd_8 rfl rfl rfl (Nat.le_of_eq rfl) (by decide) (by decide) rfl rfl (by decide) (by decide) ?_
  rintro v hh1 ⟨rfl, he1⟩
  rw [he1]
  refine WP.castS (st' := []) rfl ?_
  refine WP.iloadN (pc' := 6) d_jdk_65_method_133_5 rfl rfl ?_
  refine WP.iloadN (pc' := 7) d_jdk_65_method_133_6 rfl rfl ?_
  refine WP.isub (pc' := 8) d_jdk_65_method_133_7 rfl ?_
  rw [show ((2 : Int32) - (1 : Int32)) = (1 : Int32) from by decide]
  refine WP.istoreN (pc' := 9) d_jdk_65_method_133_8 rfl (Ls' := #[.val (.ref b), .val (.int (1 : Int32)), .val (.int (2 : Int32)), .val (.int (1 : Int32)), .unset]) rfl ?_
  refine WP.iloadN (pc' := 10) d_jdk_65_method_133_9 rfl rfl ?_
  refine WP.newPI (ty := .byte) (n := 1) (cap := 1) (cl' := 1) (sl' := 1) (pc' := 12) d_jdk_65_method_133_10 rfl rfl rfl (wd14 hw) (by decide) (by decide) (by decide) rfl rfl (by decide) (by decide) ?_
  intro h2 b2 g2 E2 A2
  have ge3 : n0 ≤ b2 := by rw [g2]; exact Z0
  have sz4 : h0.size ≤ b2 := by rw [g2]; exact K0.1
  have ne5 : b ≠ b2 := by rw [g2]; exact Nat.ne_of_lt A0.lt
  have V6 := A0.ext E2
  have K7 := K0.ext E2
  have Z8 : n0 ≤ h2.size := Nat.le_trans Z0 E2.1
  refine WP.astore (pc' := 14) d_jdk_65_method_133_12 rfl rfl (Ls' := #[.val (.ref b), .val (.int (1 : Int32)), .val (.int (2 : Int32)), .val (.int (1 : Int32)), .val (.ref b2)]) rfl ?_
  refine WP.aloadN (pc' := 15) d_jdk_65_method_133_14 rfl rfl rfl ?_
  refine WP.iloadN (pc' := 16) d_jdk_65_method_133_15 rfl rfl ?_
  refine WP.aload (pc' := 18) d_jdk_65_method_133_16 rfl rfl rfl ?_
  refine WP.iconst (pc' := 19) d_jdk_65_method_133_18 rfl (z := 0) rfl ?_
  refine WP.aloadN (pc' := 20) d_jdk_65_method_133_19 rfl rfl rfl ?_
  refine WP.arraylengthI (z := (nr : Nat).toInt32) (pc' := 21) d_jdk_65_method_133_20 rfl V6 rfl ?_
  refine WP.iloadN (pc' := 22) d_jdk_65_method_133_21 rfl rfl ?_
  refine WP.isub (pc' := 23) d_jdk_65_method_133_22 rfl ?_
  refine WP.iloadN (pc' := 24) d_jdk_65_method_133_23 rfl rfl ?_
  refine WP.callS (argsL := [(.int ((nr : Nat).toInt32 - (1 : Int32))), (.int (1 : Int32))]) (rest := [(.int (0 : Int32)), (.ref b2), (.int (1 : Int32)), (.ref b)]) (wd := 4) (cl' := 1) (sl' := 1) (pc' := 27) d_jdk_65_method_133_24 rfl (wd183 hw) (wd184 hw) (wd185 hw) (wd186 hw) (by decide) (m_minI hw ((nr : Nat).toInt32 - (1 : Int32)) (1 : Int32) h2 n0) pd_21 rfl rfl rfl (Nat.le_of_eq rfl) (by decide) (by decide) rfl rfl (by decide) (by decide) ?_
  rintro v hh9 ⟨rfl, he9⟩
  rw [he9]
  refine WP.castS (st' := [(.int (minI ((nr : Nat).toInt32 - (1 : Int32)) (1 : Int32))), (.int (0 : Int32)), (.ref b2), (.int (1 : Int32)), (.ref b)]) rfl ?_
  refine WP.arraycopy (wd := 0) (sp := 1) (dp := 0) (nn := 1) (pc' := 30) d_jdk_65_method_133_27 rfl (wd187 hw) (wd190 hw) (wd188 hw) (wd189 hw) V6 A2 rfl rfl rfl (by rw [minI_v, sub1 hnr]; have e : (1 : Int32).toInt = 1 := rfl; omega) (by omega) (by omega) ge3 rfl (by decide) (Nat.le_of_eq rfl) (by decide) ?_
  intro h10 K10 A10
  have V11 := V6.keep K10 (ninS ne5 nin0)
  have K12 := K7.trans K10 (allS (Or.inr sz4) all0)
  have Z13 : n0 ≤ h10.size := Nat.le_trans Z8 K10.1
  refine WP.aload (pc' := 32) d_jdk_65_method_133_30 rfl rfl rfl ?_
  refine WP.aret d_jdk_65_method_133_32 rfl rfl rfl (by decide) (by decide) ⟨_, rfl, K12, ge3, sz4, (A10).congr fun i hi => by unfold blit; rw [if_pos ⟨by omega, by omega⟩, show 1 + (i - 0) = 1 by omega]⟩
theorem d_jdk_65_method_132_0 : decode jdk_65_method_132_code 0 = .ok (.iload_n 1, 1) := by decide +kernel
theorem d_jdk_65_method_132_1 : decode jdk_65_method_132_code 1 = .ok (.ifCond .ne 9, 3) := by decide +kernel
theorem d_jdk_65_method_132_10 : decode jdk_65_method_132_code 10 = .ok (.aload_n 0, 1) := by decide +kernel
theorem d_jdk_65_method_132_11 : decode jdk_65_method_132_code 11 = .ok (.iload_n 1, 1) := by decide +kernel
theorem d_jdk_65_method_132_12 : decode jdk_65_method_132_code 12 = .ok (.iload_n 2, 1) := by decide +kernel
theorem d_jdk_65_method_132_13 : decode jdk_65_method_132_code 13 = .ok (.invokestatic 339, 3) := by decide +kernel
theorem wd177 {Z : State} {a0 : Array Value} (hw : ∀ d ∈ tables_1, d.before a0 Z = true) : (Jvm.Cond.methodLink "java/util/Arrays" (339 : Nat) ({ cls := "java/util/Arrays", name := "copyOfRangeByte", desc := "([BII)[B" } : Jvm.MethodName)).before a0 Z = true := hw _ (List.mem_of_getElem? (i := 177) rfl)
theorem wd179 {Z : State} {a0 : Array Value} (hw : ∀ d ∈ tables_1, d.before a0 Z = true) : (Jvm.Cond.code ({ cls := "java/util/Arrays", name := "copyOfRangeByte", desc := "([BII)[B" } : Jvm.MethodName) jdk_65_method_133_code (5 : Nat) (Option.some (Jvm.ClassFile.FieldType.array Jvm.ClassFile.FieldType.byte))).before a0 Z = true := hw _ (List.mem_of_getElem? (i := 179) rfl)
theorem pd_24 : parseMethodDescriptor "([BII)[B" = some ⟨[(.array .byte), .int, .int], some (.array .byte)⟩ := by decide +kernel
theorem wd178 {Z : State} {a0 : Array Value} (hw : ∀ d ∈ tables_1, d.before a0 Z = true) : (Jvm.Cond.static ({ cls := "java/util/Arrays", name := "copyOfRangeByte", desc := "([BII)[B" } : Jvm.MethodName)).before a0 Z = true := hw _ (List.mem_of_getElem? (i := 178) rfl)
theorem d_jdk_65_method_132_16 : decode jdk_65_method_132_code 16 = .ok (.areturn, 1) := by decide +kernel
set_option maxRecDepth 65536 in
set_option maxHeartbeats 40000000 in
theorem m_cpr {Z : State} {a0 : Array Value} (hw : ∀ d ∈ tables_1, d.before a0 Z = true) (b : Addr) (h0 : Heap) (n0 : Nat) (nr : Nat) (hn2 : 2 ≤ nr) (hnr : nr ≤ 16384) (Z0 : n0 ≤ h0.size) (g : Nat → Int32) (A0 : Ari Z h0 b .byte nr g) : ∀ l, Does l Z (⟨"java/util/Arrays", "copyOfRange", "([BII)[B"⟩ : MethodName) jdk_65_method_132_code 3 (some (.array .byte)) ({ frames := 2, cells := 1, slots := 1, locals := 34 } : Room) n0 #[(.ref b), (.int (1 : Int32)), (.int (2 : Int32))] h0 (fun v h => ∃ c : Addr, v = some (.ref c) ∧ Keep h0 h [] ∧ n0 ≤ c ∧ h0.size ≤ c ∧ Ari Z h c .byte 1 (fun _ => g 1)) := by
  intro l
  refine Does.of_wp (plainFor_of_name pn_6) (Ls := #[.val (.ref b), .val (.int (1 : Int32)), .val (.int (2 : Int32))]) (fun m => by first | (simp [entryFrame, mkF, argsToLocals, Value.category]; done) | rfl | (rcases ref_cases hfv with rfl | ⟨_, rfl⟩ <;> rfl)) ?_
  intro C
  have K0 := Keep.refl h0 []
  refine WP.iloadN (pc' := 1) d_jdk_65_method_132_0 rfl rfl ?_
  have hc1 : ¬ (1 : Int32) = (0 : Int32) := by decide
  refine WP.ifc_ne (pc1 := 10) (pc2 := 4) d_jdk_65_method_132_1 (by decide) (by decide) rfl (fun _ => ?_) (fun k => absurd k hc1)
  refine WP.aloadN (pc' := 11) d_jdk_65_method_132_10 rfl rfl rfl ?_
  refine WP.iloadN (pc' := 12) d_jdk_65_method_132_11 rfl rfl ?_
  refine WP.iloadN (pc' := 13) d_jdk_65_method_132_12 rfl rfl ?_
  refine WP.callS (argsL := [(.ref b), (.int (1 : Int32)), (.int (2 : Int32))]) (rest := []) (wd := 0) (cl' := 1) (sl' := 1) (pc' := 16) d_jdk_65_method_132_13 rfl (wd177 hw) (wd178 hw) (wd175 hw) (wd179 hw) (by decide) (m_crb hw b h0 n0 nr hn2 hnr Z0 g A0) pd_24 rfl rfl rfl (Nat.le_of_eq rfl) (by decide) (by decide) rfl rfl (by decide) (by decide) ?_
  rintro v h1 ⟨c1, rfl, K1, ge1, sz1, B1⟩
  have ne2 : b ≠ c1 := Nat.ne_of_lt (Nat.lt_of_lt_of_le A0.lt sz1)
  have sy3 : h0.size ≤ c1 := Nat.le_trans K0.1 sz1
  have V4 := A0.keep K1 nin0
  have K5 := K0.trans K1 all0
  have Z6 : n0 ≤ h1.size := Nat.le_trans Z0 K1.1
  refine WP.castS (st' := [(.ref c1)]) rfl ?_
  refine WP.aret d_jdk_65_method_132_16 rfl rfl rfl (by decide) (by decide) ⟨_, rfl, K5, ge1, sy3, B1⟩
theorem d_jdk_42_method_11_0 : decode jdk_42_method_11_code 0 = .ok (.aload_n 0, 1) := by decide +kernel
theorem d_jdk_42_method_11_1 : decode jdk_42_method_11_code 1 = .ok (.invokespecial 1, 3) := by decide +kernel
theorem d_jdk_42_method_11_4 : decode jdk_42_method_11_code 4 = .ok (.iload 4, 2) := by decide +kernel
theorem d_jdk_42_method_11_6 : decode jdk_42_method_11_code 6 = .ok (.ifCond .ne 24, 3) := by decide +kernel
theorem d_jdk_42_method_11_30 : decode jdk_42_method_11_code 30 = .ok (.aload_n 1, 1) := by decide +kernel
theorem d_jdk_42_method_11_31 : decode jdk_42_method_11_code 31 = .ok (.getstatic 86, 3) := by decide +kernel
theorem wd169 {Z : State} {a0 : Array Value} (hw : ∀ d ∈ tables_1, d.before a0 Z = true) : (Jvm.Cond.fieldLink "java/lang/String" (86 : Nat) "sun/nio/cs/UTF_8" "INSTANCE" "Lsun/nio/cs/UTF_8;").before a0 Z = true := hw _ (List.mem_of_getElem? (i := 169) rfl)
theorem d_jdk_42_method_11_34 : decode jdk_42_method_11_code 34 = .ok (.if_acmp .ne 312, 3) := by decide +kernel
theorem d_jdk_42_method_11_346 : decode jdk_42_method_11_code 346 = .ok (.aload_n 1, 1) := by decide +kernel
theorem d_jdk_42_method_11_347 : decode jdk_42_method_11_code 347 = .ok (.getstatic 116, 3) := by decide +kernel
theorem wd171 {Z : State} {a0 : Array Value} (hw : ∀ d ∈ tables_1, d.before a0 Z = true) : (Jvm.Cond.fieldLink "java/lang/String" (116 : Nat) "sun/nio/cs/ISO_8859_1" "INSTANCE" "Lsun/nio/cs/ISO_8859_1;").before a0 Z = true := hw _ (List.mem_of_getElem? (i := 171) rfl)
theorem d_jdk_42_method_11_350 : decode jdk_42_method_11_code 350 = .ok (.if_acmp .ne 49, 3) := by decide +kernel
theorem d_jdk_42_method_11_353 : decode jdk_42_method_11_code 353 = .ok (.getstatic 38, 3) := by decide +kernel
theorem d_jdk_42_method_11_356 : decode jdk_42_method_11_code 356 = .ok (.ifCond .eq 24, 3) := by decide +kernel
theorem d_jdk_42_method_11_359 : decode jdk_42_method_11_code 359 = .ok (.aload_n 0, 1) := by decide +kernel
theorem d_jdk_42_method_11_360 : decode jdk_42_method_11_code 360 = .ok (.aload_n 2, 1) := by decide +kernel
theorem d_jdk_42_method_11_361 : decode jdk_42_method_11_code 361 = .ok (.iload_n 3, 1) := by decide +kernel
theorem d_jdk_42_method_11_362 : decode jdk_42_method_11_code 362 = .ok (.iload_n 3, 1) := by decide +kernel
theorem d_jdk_42_method_11_363 : decode jdk_42_method_11_code 363 = .ok (.iload 4, 2) := by decide +kernel
theorem d_jdk_42_method_11_365 : decode jdk_42_method_11_code 365 = .ok (.iadd, 1) := by decide +kernel
theorem d_jdk_42_method_11_366 : decode jdk_42_method_11_code 366 = .ok (.invokestatic 54, 3) := by decide +kernel
theorem wd173 {Z : State} {a0 : Array Value} (hw : ∀ d ∈ tables_1, d.before a0 Z = true) : (Jvm.Cond.methodLink "java/lang/String" (54 : Nat) ({ cls := "java/util/Arrays", name := "copyOfRange", desc := "([BII)[B" } : Jvm.MethodName)).before a0 Z = true := hw _ (List.mem_of_getElem? (i := 173) rfl)
theorem wd176 {Z : State} {a0 : Array Value} (hw : ∀ d ∈ tables_1, d.before a0 Z = true) : (Jvm.Cond.code ({ cls := "java/util/Arrays", name := "copyOfRange", desc := "([BII)[B" } : Jvm.MethodName) jdk_65_method_132_code (3 : Nat) (Option.some (Jvm.ClassFile.FieldType.array Jvm.ClassFile.FieldType.byte))).before a0 Z = true := hw _ (List.mem_of_getElem? (i := 176) rfl)
theorem wd174 {Z : State} {a0 : Array Value} (hw : ∀ d ∈ tables_1, d.before a0 Z = true) : (Jvm.Cond.static ({ cls := "java/util/Arrays", name := "copyOfRange", desc := "([BII)[B" } : Jvm.MethodName)).before a0 Z = true := hw _ (List.mem_of_getElem? (i := 174) rfl)
theorem d_jdk_42_method_11_369 : decode jdk_42_method_11_code 369 = .ok (.putfield 9, 3) := by decide +kernel
theorem d_jdk_42_method_11_372 : decode jdk_42_method_11_code 372 = .ok (.aload_n 0, 1) := by decide +kernel
theorem d_jdk_42_method_11_373 : decode jdk_42_method_11_code 373 = .ok (.iconst 0, 1) := by decide +kernel
theorem d_jdk_42_method_11_374 : decode jdk_42_method_11_code 374 = .ok (.putfield 15, 3) := by decide +kernel
theorem d_jdk_42_method_11_377 : decode jdk_42_method_11_code 377 = .ok (.goto 502, 3) := by decide +kernel
theorem d_jdk_42_method_11_879 : decode jdk_42_method_11_code 879 = .ok (.return_, 1) := by decide +kernel
set_option maxRecDepth 65536 in
set_option maxHeartbeats 40000000 in
theorem m_scb {Z : State} {a0 : Array Value} (hw : ∀ d ∈ tables_1, d.before a0 Z = true) (a : Addr) (b : Addr) (h0 : Heap) (n0 : Nat) (Z0 : n0 ≤ h0.size) (O0 : Old Z n0 h0) (g_a : n0 ≤ a) (E0 : Exa Z h0 a "java/lang/String") (F_v : Fld Z h0 a "java/lang/String" "value" "[B" .null) (F_c : Fld Z h0 a "java/lang/String" "coder" "B" (.int 0)) (cs : Int32) (S_CS : Sta Z Z.heap "java/lang/String" "COMPACT_STRINGS" "Z" (.int cs)) (hcs : ¬ cs = 0) (iso utf : Addr) (hiu : iso ≠ utf) (S_II : Sta Z Z.heap "sun/nio/cs/ISO_8859_1" "INSTANCE" "Lsun/nio/cs/ISO_8859_1;" (.ref iso)) (S_UI : Sta Z Z.heap "sun/nio/cs/UTF_8" "INSTANCE" "Lsun/nio/cs/UTF_8;" (.ref utf)) (nr : Nat) (hn2 : 2 ≤ nr) (hnr : nr ≤ 16384) (g : Nat → Int32) (A0 : Ari Z h0 b .byte nr g) (n_ba : b ≠ a) : ∀ l, DoesX l Z [((800 : Nat), (813 : Nat), (816 : Nat), (202 : Nat))] (⟨"java/lang/String", "<init>", "(Ljava/nio/charset/Charset;[BII)V"⟩ : MethodName) jdk_42_method_11_code 11 none ({ frames := 3, cells := 1, slots := 1, locals := 49 } : Room) n0 #[(.ref a), (.ref iso), (.ref b), (.int (1 : Int32)), (.int (1 : Int32))] h0 (fun v h => v = none ∧ ∃ c : Addr, Keep h0 h [a] ∧ h0.size ≤ c ∧ Exa Z h a "java/lang/String" ∧ Fld Z h a "java/lang/String" "value" "[B" (.ref c) ∧ Fld Z h a "java/lang/String" "coder" "B" (.int 0) ∧ Ari Z h c .byte 1 (fun _ => g 1)) := by
  intro l
  refine DoesX.of_wp (plainFor_of_name pn_1) (Ls := #[.val (.ref a), .val (.ref iso), .val (.ref b), .val (.int (1 : Int32)), .val (.int (1 : Int32)), .unset, .unset, .unset, .unset, .unset, .unset]) (fun m => by first | (simp [entryFrame, mkF, argsToLocals, Value.category]; done) | rfl | (rcases ref_cases hfv with rfl | ⟨_, rfl⟩ <;> rfl)) ?_
  intro C
  have K0 := Keep.refl h0 [a]
  refine WP.aloadN (pc' := 1) d_jdk_42_method_11_0 rfl rfl rfl ?_
  refine WP.initO (wd := 0) (pc' := 4) d_jdk_42_method_11_1 rfl (wd19 hw) (wd20 hw) (wd21 hw) rfl (by decide) (Nat.le_of_eq rfl) (by decide) ?_
  refine WP.iload (pc' := 6) d_jdk_42_method_11_4 rfl rfl ?_
  have hc6 : ¬ (1 : Int32) = (0 : Int32) := by decide
  refine WP.ifc_ne (pc1 := 30) (pc2 := 9) d_jdk_42_method_11_6 (by decide) (by decide) rfl (fun _ => ?_) (fun k => absurd k hc6)
  refine WP.aloadN (pc' := 31) d_jdk_42_method_11_30 rfl rfl rfl ?_
  refine WP.getS (pc' := 34) d_jdk_42_method_11_31 rfl (host := "") (Or.inl (wd169 hw)) Via.refl (S_UI.ext O0.2) ?_
  have hc34 : ¬ ((.ref iso) : Value) = (.ref utf) := fun q => hiu (Value.ref.inj q)
  refine WP.acmp_ne (pc1 := 346) (pc2 := 37) d_jdk_42_method_11_34 rfl rfl (by decide) (by decide) rfl (fun _ => ?_) (fun k => absurd k hc34)
  refine WP.aloadN (pc' := 347) d_jdk_42_method_11_346 rfl rfl rfl ?_
  refine WP.getS (pc' := 350) d_jdk_42_method_11_347 rfl (host := "") (Or.inl (wd171 hw)) Via.refl (S_II.ext O0.2) ?_
  have hc350 : ((.ref iso) : Value) = (.ref iso) := rfl
  refine WP.acmp_ne (pc1 := 399) (pc2 := 353) d_jdk_42_method_11_350 rfl rfl (by decide) (by decide) rfl (fun k => absurd hc350 k) (fun _ => ?_)
  refine WP.getS (pc' := 356) d_jdk_42_method_11_353 rfl (host := "") (Or.inl (wd4 hw)) Via.refl (S_CS.ext O0.2) ?_
  have hc356 : ¬ cs = (0 : Int32) := hcs
  refine WP.ifc_eq (pc1 := 380) (pc2 := 359) d_jdk_42_method_11_356 (by decide) (by decide) rfl (fun k => absurd k hc356) (fun _ => ?_)
  refine WP.aloadN (pc' := 360) d_jdk_42_method_11_359 rfl rfl rfl ?_
  refine WP.aloadN (pc' := 361) d_jdk_42_method_11_360 rfl rfl rfl ?_
  refine WP.iloadN (pc' := 362) d_jdk_42_method_11_361 rfl rfl ?_
  refine WP.iloadN (pc' := 363) d_jdk_42_method_11_362 rfl rfl ?_
  refine WP.iload (pc' := 365) d_jdk_42_method_11_363 rfl rfl ?_
  refine WP.iadd (pc' := 366) d_jdk_42_method_11_365 rfl ?_
  rw [show ((1 : Int32) + (1 : Int32)) = (2 : Int32) from by decide]
  refine WP.callS (argsL := [(.ref b), (.int (1 : Int32)), (.int (2 : Int32))]) (rest := [(.ref a)]) (wd := 1) (cl' := 1) (sl' := 1) (pc' := 369) d_jdk_42_method_11_366 rfl (wd173 hw) (wd174 hw) (wd175 hw) (wd176 hw) (by decide) (m_cpr hw b h0 n0 nr hn2 hnr Z0 g A0) pd_24 rfl rfl rfl (Nat.le_of_eq rfl) (by decide) (by decide) rfl rfl (by decide) (by decide) ?_
  rintro v h1 ⟨c1, rfl, K1, ge1, sz1, B1⟩
  have ne2 : a ≠ c1 := Nat.ne_of_lt (Nat.lt_of_lt_of_le E0.lt sz1)
  have ne3 : b ≠ c1 := Nat.ne_of_lt (Nat.lt_of_lt_of_le A0.lt sz1)
  have sy4 : h0.size ≤ c1 := Nat.le_trans K0.1 sz1
  have E5 := E0.keep K1
  have F6 := F_v.keep K1 nin0
  have F7 := F_c.keep K1 nin0
  have V8 := A0.keep K1 nin0
  have O9 := O0.keep K1 all0
  have K10 := K0.trans K1 all0
  have Z11 : n0 ≤ h1.size := Nat.le_trans Z0 K1.1
  refine WP.castS (st' := [(.ref c1), (.ref a)]) rfl ?_
  refine WP.putF (pc' := 372) d_jdk_42_method_11_369 rfl (host := "") (Or.inl (wd22 hw)) Via.refl F6 E5 (Or.inr ⟨(wd23 hw), rfl, rfl⟩) (wd10 hw) (ty := (.array .byte)) (by decide) rfl rfl g_a ?_
  intro h12 W13
  have Kw14 := Keep.of_wr W13
  have E15 := E5.keep Kw14
  have V16 := V8.keep Kw14 (ninS n_ba nin0)
  have V17 := B1.keep Kw14 (ninS (Ne.symm ne2) nin0)
  have O18 := O9.keep Kw14 (allS g_a all0)
  have K19 := K10.trans Kw14 (allS (Or.inl (by simp)) all0)
  have Z20 : n0 ≤ h12.size := Nat.le_trans Z11 Kw14.1
  have F21 := F6.same W13
  have F22 := F7.other W13 (Or.inr (slot_ne (Or.inr (wd25 hw)) (Or.inr (wd23 hw)) (by decide) (t := .byte) (t' := (.array .byte)) (by decide) (by decide)))
  refine WP.aloadN (pc' := 373) d_jdk_42_method_11_372 rfl rfl rfl ?_
  refine WP.iconst (pc' := 374) d_jdk_42_method_11_373 rfl (z := 0) rfl ?_
  refine WP.putFN (pc' := 377) d_jdk_42_method_11_374 rfl (wd24 hw) Via.refl F22 E15 (Or.inr ⟨(wd25 hw), rfl, rfl⟩) (wd10 hw) (ty := .byte) (v' := (.int (0 : Int32))) (by decide) rfl (by decide) g_a ?_
  intro h23 W24
  have Kw25 := Keep.of_wr W24
  have E26 := E15.keep Kw25
  have V27 := V16.keep Kw25 (ninS n_ba nin0)
  have V28 := V17.keep Kw25 (ninS (Ne.symm ne2) nin0)
  have O29 := O18.keep Kw25 (allS g_a all0)
  have K30 := K19.trans Kw25 (allS (Or.inl (by simp)) all0)
  have Z31 : n0 ≤ h23.size := Nat.le_trans Z20 Kw25.1
  have F32 := F21.other W24 (Or.inr (slot_ne (Or.inr (wd23 hw)) (Or.inr (wd25 hw)) (by decide) (t := (.array .byte)) (t' := .byte) (by decide) (by decide)))
  have F33 := F22.same W24
  refine WP.goto (pc' := 879) d_jdk_42_method_11_377 (by decide) (by decide) ?_
  exact WP.vret d_jdk_42_method_11_879 rfl (by decide) (by decide) ⟨rfl, _, K30, sy4, E26, F32, F33, V28⟩
theorem d_jdk_42_method_10_0 : decode jdk_42_method_10_code 0 = .ok (.aload_n 0, 1) := by decide +kernel
theorem d_jdk_42_method_10_1 : decode jdk_42_method_10_code 1 = .ok (.aload 4, 2) := by decide +kernel
theorem d_jdk_42_method_10_3 : decode jdk_42_method_10_code 3 = .ok (.invokestatic 78, 3) := by decide +kernel
theorem wd154 {Z : State} {a0 : Array Value} (hw : ∀ d ∈ tables_1, d.before a0 Z = true) : (Jvm.Cond.methodLink "java/lang/String" (78 : Nat) ({ cls := "java/util/Objects", name := "requireNonNull", desc := "(Ljava/lang/Object;)Ljava/lang/Object;" } : Jvm.MethodName)).before a0 Z = true := hw _ (List.mem_of_getElem? (i := 154) rfl)
theorem wd157 {Z : State} {a0 : Array Value} (hw : ∀ d ∈ tables_1, d.before a0 Z = true) : (Jvm.Cond.code ({ cls := "java/util/Objects", name := "requireNonNull", desc := "(Ljava/lang/Object;)Ljava/lang/Object;" } : Jvm.MethodName) jdk_31_method_10_code (1 : Nat) (Option.some (Jvm.ClassFile.FieldType.object "java/lang/Object"))).before a0 Z = true := hw _ (List.mem_of_getElem? (i := 157) rfl)
theorem wd156 {Z : State} {a0 : Array Value} (hw : ∀ d ∈ tables_1, d.before a0 Z = true) : (Jvm.Cond.initialized "java/util/Objects").before a0 Z = true := hw _ (List.mem_of_getElem? (i := 156) rfl)
theorem pd_25 : parseMethodDescriptor "(Ljava/lang/Object;)Ljava/lang/Object;" = some ⟨[(.object "java/lang/Object")], some (.object "java/lang/Object")⟩ := by decide +kernel
theorem wd155 {Z : State} {a0 : Array Value} (hw : ∀ d ∈ tables_1, d.before a0 Z = true) : (Jvm.Cond.static ({ cls := "java/util/Objects", name := "requireNonNull", desc := "(Ljava/lang/Object;)Ljava/lang/Object;" } : Jvm.MethodName)).before a0 Z = true := hw _ (List.mem_of_getElem? (i := 155) rfl)
theorem d_jdk_42_method_10_6 : decode jdk_42_method_10_code 6 = .ok (.checkcast 84, 3) := by decide +kernel
theorem wd158 {Z : State} {a0 : Array Value} (hw : ∀ d ∈ tables_1, d.before a0 Z = true) : (Jvm.Cond.classLink "java/lang/String" (84 : Nat) "java/nio/charset/Charset").before a0 Z = true := hw _ (List.mem_of_getElem? (i := 158) rfl)
theorem wd159 {Z : State} {a0 : Array Value} (hw : ∀ d ∈ tables_1, d.before a0 Z = true) : (Jvm.Cond.castable "sun/nio/cs/ISO_8859_1" "java/nio/charset/Charset").before a0 Z = true := hw _ (List.mem_of_getElem? (i := 159) rfl)
theorem d_jdk_42_method_10_9 : decode jdk_42_method_10_code 9 = .ok (.aload_n 1, 1) := by decide +kernel
theorem d_jdk_42_method_10_10 : decode jdk_42_method_10_code 10 = .ok (.iload_n 2, 1) := by decide +kernel
theorem d_jdk_42_method_10_11 : decode jdk_42_method_10_code 11 = .ok (.iload_n 3, 1) := by decide +kernel
theorem d_jdk_42_method_10_12 : decode jdk_42_method_10_code 12 = .ok (.aload_n 1, 1) := by decide +kernel
theorem d_jdk_42_method_10_13 : decode jdk_42_method_10_code 13 = .ok (.arraylength, 1) := by decide +kernel
theorem d_jdk_42_method_10_14 : decode jdk_42_method_10_code 14 = .ok (.invokestatic 34, 3) := by decide +kernel
theorem wd160 {Z : State} {a0 : Array Value} (hw : ∀ d ∈ tables_1, d.before a0 Z = true) : (Jvm.Cond.methodLink "java/lang/String" (34 : Nat) ({ cls := "java/lang/String", name := "checkBoundsOffCount", desc := "(III)I" } : Jvm.MethodName)).before a0 Z = true := hw _ (List.mem_of_getElem? (i := 160) rfl)
theorem wd162 {Z : State} {a0 : Array Value} (hw : ∀ d ∈ tables_1, d.before a0 Z = true) : (Jvm.Cond.code ({ cls := "java/lang/String", name := "checkBoundsOffCount", desc := "(III)I" } : Jvm.MethodName) jdk_42_method_157_code (3 : Nat) (Option.some Jvm.ClassFile.FieldType.int)).before a0 Z = true := hw _ (List.mem_of_getElem? (i := 162) rfl)
theorem pd_26 : parseMethodDescriptor "(III)I" = some ⟨[.int, .int, .int], some .int⟩ := by decide +kernel
theorem wd161 {Z : State} {a0 : Array Value} (hw : ∀ d ∈ tables_1, d.before a0 Z = true) : (Jvm.Cond.static ({ cls := "java/lang/String", name := "checkBoundsOffCount", desc := "(III)I" } : Jvm.MethodName)).before a0 Z = true := hw _ (List.mem_of_getElem? (i := 161) rfl)
theorem d_jdk_42_method_10_17 : decode jdk_42_method_10_code 17 = .ok (.iload_n 3, 1) := by decide +kernel
theorem d_jdk_42_method_10_18 : decode jdk_42_method_10_code 18 = .ok (.invokespecial 75, 3) := by decide +kernel
theorem wd166 {Z : State} {a0 : Array Value} (hw : ∀ d ∈ tables_1, d.before a0 Z = true) : (Jvm.Cond.methodLink "java/lang/String" (75 : Nat) ({ cls := "java/lang/String", name := "<init>", desc := "(Ljava/nio/charset/Charset;[BII)V" } : Jvm.MethodName)).before a0 Z = true := hw _ (List.mem_of_getElem? (i := 166) rfl)
theorem wd168 {Z : State} {a0 : Array Value} (hw : ∀ d ∈ tables_1, d.before a0 Z = true) : (Jvm.Cond.codeWith ({ cls := "java/lang/String", name := "<init>", desc := "(Ljava/nio/charset/Charset;[BII)V" } : Jvm.MethodName) jdk_42_method_11_code (11 : Nat) (Option.none : Option Jvm.ClassFile.FieldType) [((800 : Nat), (813 : Nat), (816 : Nat), (202 : Nat))]).before a0 Z = true := hw _ (List.mem_of_getElem? (i := 168) rfl)
theorem pd_27 : parseMethodDescriptor "(Ljava/nio/charset/Charset;[BII)V" = some ⟨[(.object "java/nio/charset/Charset"), (.array .byte), .int, .int], none⟩ := by decide +kernel
theorem wd167 {Z : State} {a0 : Array Value} (hw : ∀ d ∈ tables_1, d.before a0 Z = true) : (Jvm.Cond.instanceMethod ({ cls := "java/lang/String", name := "<init>", desc := "(Ljava/nio/charset/Charset;[BII)V" } : Jvm.MethodName)).before a0 Z = true := hw _ (List.mem_of_getElem? (i := 167) rfl)
theorem d_jdk_42_method_10_21 : decode jdk_42_method_10_code 21 = .ok (.return_, 1) := by decide +kernel
set_option maxRecDepth 65536 in
set_option maxHeartbeats 40000000 in
theorem m_sic {Z : State} {a0 : Array Value} (hw : ∀ d ∈ tables_1, d.before a0 Z = true) (a : Addr) (b : Addr) (h0 : Heap) (n0 : Nat) (Z0 : n0 ≤ h0.size) (O0 : Old Z n0 h0) (g_a : n0 ≤ a) (E0 : Exa Z h0 a "java/lang/String") (F_v : Fld Z h0 a "java/lang/String" "value" "[B" .null) (F_c : Fld Z h0 a "java/lang/String" "coder" "B" (.int 0)) (cs : Int32) (S_CS : Sta Z Z.heap "java/lang/String" "COMPACT_STRINGS" "Z" (.int cs)) (hcs : ¬ cs = 0) (iso utf : Addr) (hiu : iso ≠ utf) (S_II : Sta Z Z.heap "sun/nio/cs/ISO_8859_1" "INSTANCE" "Lsun/nio/cs/ISO_8859_1;" (.ref iso)) (S_UI : Sta Z Z.heap "sun/nio/cs/UTF_8" "INSTANCE" "Lsun/nio/cs/UTF_8;" (.ref utf)) (nr : Nat) (hn2 : 2 ≤ nr) (hnr : nr ≤ 16384) (g : Nat → Int32) (A0 : Ari Z h0 b .byte nr g) (n_ba : b ≠ a) (fv : Value) (hfv : fv.isRef = true) (S_FM : Sta Z Z.heap "jdk/internal/util/Preconditions" "SIOOBE_FORMATTER" "Ljava/util/function/BiFunction;" fv) (X_IS : Exa Z Z.heap iso "sun/nio/cs/ISO_8859_1") : ∀ l, Does l Z (⟨"java/lang/String", "<init>", "([BIILjava/nio/charset/Charset;)V"⟩ : MethodName) jdk_42_method_10_code 5 none ({ frames := 4, cells := 1, slots := 1, locals := 71 } : Room) n0 #[(.ref a), (.ref b), (.int (1 : Int32)), (.int (1 : Int32)), (.ref iso)] h0 (fun v h => v = none ∧ ∃ c : Addr, Keep h0 h [a] ∧ h0.size ≤ c ∧ Exa Z h a "java/lang/String" ∧ Fld Z h a "java/lang/String" "value" "[B" (.ref c) ∧ Fld Z h a "java/lang/String" "coder" "B" (.int 0) ∧ Ari Z h c .byte 1 (fun _ => g 1)) := by
  intro l
  refine Does.of_wp (plainFor_of_name pn_1) (Ls := #[.val (.ref a), .val (.ref b), .val (.int (1 : Int32)), .val (.int (1 : Int32)), .val (.ref iso)]) (fun m => by first | (simp [entryFrame, mkF, argsToLocals, Value.category]; done) | rfl | (rcases ref_cases hfv with rfl | ⟨_, rfl⟩ <;> rfl)) ?_
  intro C
  have K0 := Keep.refl h0 [a]
  refine WP.aloadN (pc' := 1) d_jdk_42_method_10_0 rfl rfl rfl ?_
  refine WP.aload (pc' := 3) d_jdk_42_method_10_1 rfl rfl rfl ?_
  refine WP.callS (argsL := [(.ref iso)]) (rest := [(.ref a)]) (wd := 1) (cl' := 0) (sl' := 0) (pc' := 6) d_jdk_42_method_10_3 rfl (wd154 hw) (wd155 hw) (wd156 hw) (wd157 hw) (by decide) (m_rnn hw iso h0 n0) pd_25 rfl rfl rfl (Nat.le_of_eq rfl) (by decide) (by decide) rfl rfl (by decide) (by decide) ?_
  rintro v hh1 ⟨rfl, he1⟩
  rw [he1]
  refine WP.castS (st' := [(.ref iso), (.ref a)]) rfl ?_
  refine WP.checkcast (pc' := 9) d_jdk_42_method_10_6 rfl (wd158 hw) (Ins.of_exa (X_IS.ext O0.2) (wd159 hw)) ?_
  refine WP.aloadN (pc' := 10) d_jdk_42_method_10_9 rfl rfl rfl ?_
  refine WP.iloadN (pc' := 11) d_jdk_42_method_10_10 rfl rfl ?_
  refine WP.iloadN (pc' := 12) d_jdk_42_method_10_11 rfl rfl ?_
  refine WP.aloadN (pc' := 13) d_jdk_42_method_10_12 rfl rfl rfl ?_
  refine WP.arraylengthI (z := (nr : Nat).toInt32) (pc' := 14) d_jdk_42_method_10_13 rfl A0 rfl ?_
  refine WP.callS (argsL := [(.int (1 : Int32)), (.int (1 : Int32)), (.int (nr : Nat).toInt32)]) (rest := [(.ref b), (.ref iso), (.ref a)]) (wd := 3) (cl' := 0) (sl' := 0) (pc' := 17) d_jdk_42_method_10_14 rfl (wd160 hw) (wd161 hw) (wd2 hw) (wd162 hw) (by decide) (m_cbo hw h0 n0 fv hfv (S_FM.ext O0.2) nr hn2 hnr) pd_26 rfl rfl rfl (Nat.le_of_eq rfl) (by decide) (by decide) rfl rfl (by decide) (by decide) ?_
  rintro v hh2 ⟨rfl, he2⟩
  rw [he2]
  refine WP.castS (st' := [(.int (1 : Int32)), (.ref b), (.ref iso), (.ref a)]) rfl ?_
  refine WP.iloadN (pc' := 18) d_jdk_42_method_10_17 rfl rfl ?_
  refine WP.callIX (a := a) (argsL := [(.ref iso), (.ref b), (.int (1 : Int32)), (.int (1 : Int32))]) (rest := []) (wd := 0) (cl' := 1) (sl' := 1) (pc' := 21) d_jdk_42_method_10_18 rfl rfl (wd166 hw) (wd167 hw) (wd2 hw) (wd168 hw) (by decide) (m_scb hw a b h0 n0 Z0 O0 g_a E0 F_v F_c cs S_CS hcs iso utf hiu S_II S_UI nr hn2 hnr g A0 n_ba) pd_27 rfl rfl rfl (Nat.le_of_eq rfl) (by decide) (by decide) rfl rfl (by decide) (by decide) ?_
  rintro v h3 ⟨rfl, c3, K3, sz3, E3, Fv3, Fc3, B3⟩
  have ne4 : a ≠ c3 := Nat.ne_of_lt (Nat.lt_of_lt_of_le E0.lt sz3)
  have ne5 : b ≠ c3 := Nat.ne_of_lt (Nat.lt_of_lt_of_le A0.lt sz3)
  have ne6 : iso ≠ c3 := Nat.ne_of_lt (Nat.lt_of_lt_of_le (X_IS.ext O0.2).lt sz3)
  have sy7 : h0.size ≤ c3 := Nat.le_trans K0.1 sz3
  have E8 := E0.keep K3
  have V9 := A0.keep K3 (ninS n_ba nin0)
  have E10 := (X_IS.ext O0.2).keep K3
  have O11 := O0.keep K3 (allS g_a all0)
  have K12 := K0.trans K3 (allS (Or.inl (by simp)) all0)
  have Z13 : n0 ≤ h3.size := Nat.le_trans Z0 K3.1
  refine WP.castS (st' := []) rfl ?_
  exact WP.vret d_jdk_42_method_10_21 rfl (by decide) (by decide) ⟨rfl, _, K12, sy7, E3, Fv3, Fc3, B3⟩
theorem d_prog_7_method_46_0 : decode prog_7_method_46_code 0 = .ok (.new 184, 3) := by decide +kernel
theorem wd148 {Z : State} {a0 : Array Value} (hw : ∀ d ∈ tables_1, d.before a0 Z = true) : (Jvm.Cond.classLink "com/example/vipool/vipool/http/HttpHead" (184 : Nat) "java/lang/String").before a0 Z = true := hw _ (List.mem_of_getElem? (i := 148) rfl)
theorem d_prog_7_method_46_3 : decode prog_7_method_46_code 3 = .ok (.dup, 1) := by decide +kernel
theorem d_prog_7_method_46_4 : decode prog_7_method_46_code 4 = .ok (.aload_n 0, 1) := by decide +kernel
theorem d_prog_7_method_46_5 : decode prog_7_method_46_code 5 = .ok (.getfield 11, 3) := by decide +kernel
theorem d_prog_7_method_46_8 : decode prog_7_method_46_code 8 = .ok (.iload_n 1, 1) := by decide +kernel
theorem d_prog_7_method_46_9 : decode prog_7_method_46_code 9 = .ok (.iload_n 2, 1) := by decide +kernel
theorem d_prog_7_method_46_10 : decode prog_7_method_46_code 10 = .ok (.iload_n 1, 1) := by decide +kernel
theorem d_prog_7_method_46_11 : decode prog_7_method_46_code 11 = .ok (.isub, 1) := by decide +kernel
theorem d_prog_7_method_46_12 : decode prog_7_method_46_code 12 = .ok (.getstatic 347, 3) := by decide +kernel
theorem wd149 {Z : State} {a0 : Array Value} (hw : ∀ d ∈ tables_1, d.before a0 Z = true) : (Jvm.Cond.fieldLink "com/example/vipool/vipool/http/HttpHead" (347 : Nat) "java/nio/charset/StandardCharsets" "ISO_8859_1" "Ljava/nio/charset/Charset;").before a0 Z = true := hw _ (List.mem_of_getElem? (i := 149) rfl)
theorem d_prog_7_method_46_15 : decode prog_7_method_46_code 15 = .ok (.invokespecial 353, 3) := by decide +kernel
theorem wd151 {Z : State} {a0 : Array Value} (hw : ∀ d ∈ tables_1, d.before a0 Z = true) : (Jvm.Cond.methodLink "com/example/vipool/vipool/http/HttpHead" (353 : Nat) ({ cls := "java/lang/String", name := "<init>", desc := "([BIILjava/nio/charset/Charset;)V" } : Jvm.MethodName)).before a0 Z = true := hw _ (List.mem_of_getElem? (i := 151) rfl)
theorem wd153 {Z : State} {a0 : Array Value} (hw : ∀ d ∈ tables_1, d.before a0 Z = true) : (Jvm.Cond.code ({ cls := "java/lang/String", name := "<init>", desc := "([BIILjava/nio/charset/Charset;)V" } : Jvm.MethodName) jdk_42_method_10_code (5 : Nat) (Option.none : Option Jvm.ClassFile.FieldType)).before a0 Z = true := hw _ (List.mem_of_getElem? (i := 153) rfl)
theorem pd_28 : parseMethodDescriptor "([BIILjava/nio/charset/Charset;)V" = some ⟨[(.array .byte), .int, .int, (.object "java/nio/charset/Charset")], none⟩ := by decide +kernel
theorem wd152 {Z : State} {a0 : Array Value} (hw : ∀ d ∈ tables_1, d.before a0 Z = true) : (Jvm.Cond.instanceMethod ({ cls := "java/lang/String", name := "<init>", desc := "([BIILjava/nio/charset/Charset;)V" } : Jvm.MethodName)).before a0 Z = true := hw _ (List.mem_of_getElem? (i := 152) rfl)
theorem d_prog_7_method_46_18 : decode prog_7_method_46_code 18 = .ok (.areturn, 1) := by decide +kernel
set_option maxRecDepth 65536 in
set_option maxHeartbeats 40000000 in
theorem m_text {Z : State} {a0 : Array Value} (hw : ∀ d ∈ tables_1, d.before a0 Z = true) (a : Addr) (h0 : Heap) (n0 : Nat) (Z0 : n0 ≤ h0.size) (O0 : Old Z n0 h0) (cs : Int32) (S_CS : Sta Z Z.heap "java/lang/String" "COMPACT_STRINGS" "Z" (.int cs)) (hcs : ¬ cs = 0) (fv : Value) (hfv : fv.isRef = true) (S_FM : Sta Z Z.heap "jdk/internal/util/Preconditions" "SIOOBE_FORMATTER" "Ljava/util/function/BiFunction;" fv) (iso utf : Addr) (hiu : iso ≠ utf) (S_II : Sta Z Z.heap "sun/nio/cs/ISO_8859_1" "INSTANCE" "Lsun/nio/cs/ISO_8859_1;" (.ref iso)) (S_UI : Sta Z Z.heap "sun/nio/cs/UTF_8" "INSTANCE" "Lsun/nio/cs/UTF_8;" (.ref utf)) (S_IS : Sta Z Z.heap "java/nio/charset/StandardCharsets" "ISO_8859_1" "Ljava/nio/charset/Charset;" (.ref iso)) (X_IS : Exa Z Z.heap iso "sun/nio/cs/ISO_8859_1") (nr : Nat) (rw sp : Addr) (us fd : Int32) (g e : Nat → Int32) (R0 : Hh Z n0 h0 nr a rw sp us fd g e) (hn2 : 2 ≤ nr) (hnr : nr ≤ 16384) : ∀ l, Does l Z (⟨"com/example/vipool/vipool/http/HttpHead", "text", "(II)Ljava/lang/String;"⟩ : MethodName) prog_7_method_46_code 3 (some (.object "java/lang/String")) ({ frames := 5, cells := 2, slots := 5, locals := 88 } : Room) n0 #[(.ref a), (.int (1 : Int32)), (.int (2 : Int32))] h0 (fun v h => ∃ s c : Addr, v = some (.ref s) ∧ h0.size ≤ s ∧ Keep h0 h [] ∧ Exa Z h s "java/lang/String" ∧ Fld Z h s "java/lang/String" "value" "[B" (.ref c) ∧ Fld Z h s "java/lang/String" "coder" "B" (.int 0) ∧ Ari Z h c .byte 1 (fun _ => g 1)) := by
  intro l
  refine Does.of_wp (plainFor_of_name pn_4) (Ls := #[.val (.ref a), .val (.int (1 : Int32)), .val (.int (2 : Int32))]) (fun m => by first | (simp [entryFrame, mkF, argsToLocals, Value.category]; done) | rfl | (rcases ref_cases hfv with rfl | ⟨_, rfl⟩ <;> rfl)) ?_
  intro C
  obtain ⟨⟨ga1, gr1, gs1, nrs1, nra1, nsa1⟩, X1, ⟨Fraw_1, Fspans_1, Fused_1, Ffields_1, FsecondEnd_1, FsecondStart_1, Frequest_1, Fmethod_1, Fstatus_1⟩, AR1, AS1⟩ := id R0
  have K0 := Keep.refl h0 []
  refine WP.newO (cl' := 1) (sl' := 4) (pc' := 3) d_prog_7_method_46_0 rfl (wd148 hw) (wd10 hw) (wd2 hw) rfl rfl (by decide) (by decide) ?_
  intro h2 b2 g2 E2 A2 D2
  have ge3 : n0 ≤ b2 := by rw [g2]; exact Z0
  have sz4 : h0.size ≤ b2 := by rw [g2]; exact K0.1
  have ne5 : a ≠ b2 := by rw [g2]; exact Nat.ne_of_lt X1.lt
  have ne6 : rw ≠ b2 := by rw [g2]; exact Nat.ne_of_lt AR1.lt
  have ne7 : sp ≠ b2 := by rw [g2]; exact Nat.ne_of_lt AS1.lt
  have E8 := X1.ext E2
  have F9 := Fraw_1.ext E2
  have F10 := Fspans_1.ext E2
  have F11 := Fused_1.ext E2
  have F12 := Ffields_1.ext E2
  have F13 := FsecondEnd_1.ext E2
  have F14 := FsecondStart_1.ext E2
  have F15 := Frequest_1.ext E2
  have F16 := Fmethod_1.ext E2
  have F17 := Fstatus_1.ext E2
  have V18 := AR1.ext E2
  have V19 := AS1.ext E2
  have O20 := O0.ext E2
  have K21 := K0.ext E2
  have Z22 : n0 ≤ h2.size := Nat.le_trans Z0 E2.1
  have F23 : Fld Z h2 b2 "java/lang/String" "value" "[B" .null := D2 (Or.inr (wd23 hw)) (ty := (.array .byte)) (by decide)
  have F24 : Fld Z h2 b2 "java/lang/String" "coder" "B" (.int (0 : Int32)) := D2 (Or.inr (wd25 hw)) (ty := .byte) (by decide)
  refine WP.dup (pc' := 4) d_prog_7_method_46_3 rfl rfl ?_
  refine WP.aloadN (pc' := 5) d_prog_7_method_46_4 rfl rfl rfl ?_
  refine WP.getF (pc' := 8) d_prog_7_method_46_5 rfl (host := "") (Or.inl (wd51 hw)) Via.refl F9 ?_
  refine WP.iloadN (pc' := 9) d_prog_7_method_46_8 rfl rfl ?_
  refine WP.iloadN (pc' := 10) d_prog_7_method_46_9 rfl rfl ?_
  refine WP.iloadN (pc' := 11) d_prog_7_method_46_10 rfl rfl ?_
  refine WP.isub (pc' := 12) d_prog_7_method_46_11 rfl ?_
  rw [show ((2 : Int32) - (1 : Int32)) = (1 : Int32) from by decide]
  refine WP.getS (pc' := 15) d_prog_7_method_46_12 rfl (host := "") (Or.inl (wd149 hw)) Via.refl (S_IS.ext O20.2) ?_
  refine WP.callI (a := b2) (argsL := [(.ref rw), (.int (1 : Int32)), (.int (1 : Int32)), (.ref iso)]) (rest := [(.ref b2)]) (wd := 1) (cl' := 2) (sl' := 5) (pc' := 18) d_prog_7_method_46_15 rfl rfl (wd151 hw) (wd152 hw) (wd2 hw) (wd153 hw) (by decide) (m_sic hw b2 rw h2 n0 Z22 O20 ge3 A2 F23 F24 cs S_CS hcs iso utf hiu S_II S_UI nr hn2 hnr g V18 ne6 fv hfv S_FM X_IS) pd_28 rfl rfl rfl (Nat.le_of_eq rfl) (by decide) (by decide) rfl rfl (by decide) (by decide) ?_
  rintro v h25 ⟨rfl, c25, K25, sz25, E25, Fv25, Fc25, B25⟩
  have ne26 : a ≠ c25 := Nat.ne_of_lt (Nat.lt_of_lt_of_le E8.lt sz25)
  have ne27 : rw ≠ c25 := Nat.ne_of_lt (Nat.lt_of_lt_of_le V18.lt sz25)
  have ne28 : sp ≠ c25 := Nat.ne_of_lt (Nat.lt_of_lt_of_le V19.lt sz25)
  have ne29 : b2 ≠ c25 := Nat.ne_of_lt (Nat.lt_of_lt_of_le A2.lt sz25)
  have sy30 : h0.size ≤ c25 := Nat.le_trans K21.1 sz25
  have E31 := E8.keep K25
  have F32 := F9.keep K25 (ninS ne5 nin0)
  have F33 := F10.keep K25 (ninS ne5 nin0)
  have F34 := F11.keep K25 (ninS ne5 nin0)
  have F35 := F12.keep K25 (ninS ne5 nin0)
  have F36 := F13.keep K25 (ninS ne5 nin0)
  have F37 := F14.keep K25 (ninS ne5 nin0)
  have F38 := F15.keep K25 (ninS ne5 nin0)
  have F39 := F16.keep K25 (ninS ne5 nin0)
  have F40 := F17.keep K25 (ninS ne5 nin0)
  have V41 := V18.keep K25 (ninS ne6 nin0)
  have V42 := V19.keep K25 (ninS ne7 nin0)
  have E43 := A2.keep K25
  have O44 := O20.keep K25 (allS ge3 all0)
  have K45 := K21.trans K25 (allS (Or.inr sz4) all0)
  have Z46 : n0 ≤ h25.size := Nat.le_trans Z22 K25.1
  refine WP.castS (st' := [(.ref b2)]) rfl ?_
  refine WP.aret d_prog_7_method_46_18 rfl rfl rfl (by decide) (by decide) ⟨_, _, rfl, sz4, K45, E25, Fv25, Fc25, B25⟩
theorem d_prog_7_method_16_0 : decode prog_7_method_16_code 0 = .ok (.iconst 0, 1) := by decide +kernel
theorem d_prog_7_method_16_1 : decode prog_7_method_16_code 1 = .ok (.istore_n 2, 1) := by decide +kernel
theorem d_prog_7_method_16_2 : decode prog_7_method_16_code 2 = .ok (.iload_n 2, 1) := by decide +kernel
theorem d_prog_7_method_16_3 : decode prog_7_method_16_code 3 = .ok (.aload_n 0, 1) := by decide +kernel
theorem d_prog_7_method_16_4 : decode prog_7_method_16_code 4 = .ok (.getfield 117, 3) := by decide +kernel
theorem d_prog_7_method_16_7 : decode prog_7_method_16_code 7 = .ok (.if_icmp .ge 43, 3) := by decide +kernel
theorem d_prog_7_method_16_10 : decode prog_7_method_16_code 10 = .ok (.aload_n 0, 1) := by decide +kernel
theorem d_prog_7_method_16_11 : decode prog_7_method_16_code 11 = .ok (.iload_n 2, 1) := by decide +kernel
theorem d_prog_7_method_16_12 : decode prog_7_method_16_code 12 = .ok (.aload_n 1, 1) := by decide +kernel
theorem d_prog_7_method_16_13 : decode prog_7_method_16_code 13 = .ok (.invokevirtual 151, 3) := by decide +kernel
theorem wd133 {Z : State} {a0 : Array Value} (hw : ∀ d ∈ tables_1, d.before a0 Z = true) : (Jvm.Cond.methodLink "com/example/vipool/vipool/http/HttpHead" (151 : Nat) ({ cls := "com/example/vipool/vipool/http/HttpHead", name := "named", desc := "(ILjava/lang/String;)Z" } : Jvm.MethodName)).before a0 Z = true := hw _ (List.mem_of_getElem? (i := 133) rfl)
theorem wd136 {Z : State} {a0 : Array Value} (hw : ∀ d ∈ tables_1, d.before a0 Z = true) : (Jvm.Cond.code ({ cls := "com/example/vipool/vipool/http/HttpHead", name := "named", desc := "(ILjava/lang/String;)Z" } : Jvm.MethodName) prog_7_method_42_code (4 : Nat) (Option.some Jvm.ClassFile.FieldType.boolean)).before a0 Z = true := hw _ (List.mem_of_getElem? (i := 136) rfl)
theorem pd_29 : parseMethodDescriptor "(ILjava/lang/String;)Z" = some ⟨[.int, (.object "java/lang/String")], some .boolean⟩ := by decide +kernel
theorem wd134 {Z : State} {a0 : Array Value} (hw : ∀ d ∈ tables_1, d.before a0 Z = true) : (Jvm.Cond.instanceMethod ({ cls := "com/example/vipool/vipool/http/HttpHead", name := "named", desc := "(ILjava/lang/String;)Z" } : Jvm.MethodName)).before a0 Z = true := hw _ (List.mem_of_getElem? (i := 134) rfl)
theorem wd135 {Z : State} {a0 : Array Value} (hw : ∀ d ∈ tables_1, d.before a0 Z = true) : (Jvm.Cond.privateMethod ({ cls := "com/example/vipool/vipool/http/HttpHead", name := "named", desc := "(ILjava/lang/String;)Z" } : Jvm.MethodName)).before a0 Z = true := hw _ (List.mem_of_getElem? (i := 135) rfl)
theorem d_prog_7_method_16_16 : decode prog_7_method_16_code 16 = .ok (.ifCond .eq 28, 3) := by decide +kernel
theorem d_prog_7_method_16_19 : decode prog_7_method_16_code 19 = .ok (.aload_n 0, 1) := by decide +kernel
theorem d_prog_7_method_16_20 : decode prog_7_method_16_code 20 = .ok (.aload_n 0, 1) := by decide +kernel
theorem d_prog_7_method_16_21 : decode prog_7_method_16_code 21 = .ok (.getfield 15, 3) := by decide +kernel
theorem d_prog_7_method_16_24 : decode prog_7_method_16_code 24 = .ok (.iload_n 2, 1) := by decide +kernel
theorem d_prog_7_method_16_25 : decode prog_7_method_16_code 25 = .ok (.iconst 4, 1) := by decide +kernel
theorem d_prog_7_method_16_26 : decode prog_7_method_16_code 26 = .ok (.imul, 1) := by decide +kernel
theorem d_prog_7_method_16_27 : decode prog_7_method_16_code 27 = .ok (.iconst 2, 1) := by decide +kernel
theorem d_prog_7_method_16_28 : decode prog_7_method_16_code 28 = .ok (.iadd, 1) := by decide +kernel
theorem d_prog_7_method_16_29 : decode prog_7_method_16_code 29 = .ok (.iaload, 1) := by decide +kernel
theorem d_prog_7_method_16_30 : decode prog_7_method_16_code 30 = .ok (.aload_n 0, 1) := by decide +kernel
theorem d_prog_7_method_16_31 : decode prog_7_method_16_code 31 = .ok (.getfield 15, 3) := by decide +kernel
theorem d_prog_7_method_16_34 : decode prog_7_method_16_code 34 = .ok (.iload_n 2, 1) := by decide +kernel
theorem d_prog_7_method_16_35 : decode prog_7_method_16_code 35 = .ok (.iconst 4, 1) := by decide +kernel
theorem d_prog_7_method_16_36 : decode prog_7_method_16_code 36 = .ok (.imul, 1) := by decide +kernel
theorem d_prog_7_method_16_37 : decode prog_7_method_16_code 37 = .ok (.iconst 3, 1) := by decide +kernel
theorem d_prog_7_method_16_38 : decode prog_7_method_16_code 38 = .ok (.iadd, 1) := by decide +kernel
theorem d_prog_7_method_16_39 : decode prog_7_method_16_code 39 = .ok (.iaload, 1) := by decide +kernel
theorem d_prog_7_method_16_40 : decode prog_7_method_16_code 40 = .ok (.invokevirtual 125, 3) := by decide +kernel
theorem wd144 {Z : State} {a0 : Array Value} (hw : ∀ d ∈ tables_1, d.before a0 Z = true) : (Jvm.Cond.methodLink "com/example/vipool/vipool/http/HttpHead" (125 : Nat) ({ cls := "com/example/vipool/vipool/http/HttpHead", name := "text", desc := "(II)Ljava/lang/String;" } : Jvm.MethodName)).before a0 Z = true := hw _ (List.mem_of_getElem? (i := 144) rfl)
theorem wd147 {Z : State} {a0 : Array Value} (hw : ∀ d ∈ tables_1, d.before a0 Z = true) : (Jvm.Cond.code ({ cls := "com/example/vipool/vipool/http/HttpHead", name := "text", desc := "(II)Ljava/lang/String;" } : Jvm.MethodName) prog_7_method_46_code (3 : Nat) (Option.some (Jvm.ClassFile.FieldType.object "java/lang/String"))).before a0 Z = true := hw _ (List.mem_of_getElem? (i := 147) rfl)
theorem pd_30 : parseMethodDescriptor "(II)Ljava/lang/String;" = some ⟨[.int, .int], some (.object "java/lang/String")⟩ := by decide +kernel
theorem wd145 {Z : State} {a0 : Array Value} (hw : ∀ d ∈ tables_1, d.before a0 Z = true) : (Jvm.Cond.instanceMethod ({ cls := "com/example/vipool/vipool/http/HttpHead", name := "text", desc := "(II)Ljava/lang/String;" } : Jvm.MethodName)).before a0 Z = true := hw _ (List.mem_of_getElem? (i := 145) rfl)
theorem wd146 {Z : State} {a0 : Array Value} (hw : ∀ d ∈ tables_1, d.before a0 Z = true) : (Jvm.Cond.privateMethod ({ cls := "com/example/vipool/vipool/http/HttpHead", name := "text", desc := "(II)Ljava/lang/String;" } : Jvm.MethodName)).before a0 Z = true := hw _ (List.mem_of_getElem? (i := 146) rfl)
theorem d_prog_7_method_16_43 : decode prog_7_method_16_code 43 = .ok (.areturn, 1) := by decide +kernel
set_option maxRecDepth 65536 in
set_option maxHeartbeats 40000000 in
theorem m_val {Z : State} {a0 : Array Value} (hw : ∀ d ∈ tables_1, d.before a0 Z = true) (a : Addr) (s : Addr) (h0 : Heap) (n0 : Nat) (Z0 : n0 ≤ h0.size) (O0 : Old Z n0 h0) (cs : Int32) (S_CS : Sta Z Z.heap "java/lang/String" "COMPACT_STRINGS" "Z" (.int cs)) (hcs : ¬ cs = 0) (fv : Value) (hfv : fv.isRef = true) (S_FM : Sta Z Z.heap "jdk/internal/util/Preconditions" "SIOOBE_FORMATTER" "Ljava/util/function/BiFunction;" fv) (iso utf : Addr) (hiu : iso ≠ utf) (S_II : Sta Z Z.heap "sun/nio/cs/ISO_8859_1" "INSTANCE" "Lsun/nio/cs/ISO_8859_1;" (.ref iso)) (S_UI : Sta Z Z.heap "sun/nio/cs/UTF_8" "INSTANCE" "Lsun/nio/cs/UTF_8;" (.ref utf)) (S_IS : Sta Z Z.heap "java/nio/charset/StandardCharsets" "ISO_8859_1" "Ljava/nio/charset/Charset;" (.ref iso)) (X_IS : Exa Z Z.heap iso "sun/nio/cs/ISO_8859_1") (nr : Nat) (rw sp : Addr) (us fd : Int32) (g e : Nat → Int32) (R0 : Hh Z n0 h0 nr a rw sp us fd g e) (hn2 : 2 ≤ nr) (hnr : nr ≤ 16384) (b : Addr) (n : Nat) (q : Nat → Int32) (sE : Exa Z h0 s "java/lang/String") (sV : Fld Z h0 s "java/lang/String" "value" "[B" (.ref b)) (sC : Fld Z h0 s "java/lang/String" "coder" "B" (.int 0)) (sA : Ari Z h0 b .byte n q) (hn : n ≤ 8192) (A B : Nat) (hA : (e (4 * 0)).toInt = (A : Int)) (hB : (e (4 * 0 + 1)).toInt = (B : Int)) (hAB : A ≤ B) (hB5 : B ≤ nr) (hNM : NM g A B n q) (hfd : fd = 1) (hspA : e 2 = 1) (hspB : e 3 = 2) : ∀ l, Does l Z (⟨"com/example/vipool/vipool/http/HttpHead", "value", "(Ljava/lang/String;)Ljava/lang/String;"⟩ : MethodName) prog_7_method_16_code 3 (some (.object "java/lang/String")) ({ frames := 6, cells := 2, slots := 5, locals := 102 } : Room) n0 #[(.ref a), (.ref s)] h0 (fun v h => ∃ s' c : Addr, v = some (.ref s') ∧ h0.size ≤ s' ∧ Keep h0 h [] ∧ Exa Z h s' "java/lang/String" ∧ Fld Z h s' "java/lang/String" "value" "[B" (.ref c) ∧ Fld Z h s' "java/lang/String" "coder" "B" (.int 0) ∧ Ari Z h c .byte 1 (fun _ => g 1)) := by
  intro l
  refine Does.of_wp (plainFor_of_name pn_4) (Ls := #[.val (.ref a), .val (.ref s), .unset]) (fun m => by first | (simp [entryFrame, mkF, argsToLocals, Value.category]; done) | rfl | (rcases ref_cases hfv with rfl | ⟨_, rfl⟩ <;> rfl)) ?_
  intro C
  obtain ⟨⟨ga1, gr1, gs1, nrs1, nra1, nsa1⟩, X1, ⟨Fraw_1, Fspans_1, Fused_1, Ffields_1, FsecondEnd_1, FsecondStart_1, Frequest_1, Fmethod_1, Fstatus_1⟩, AR1, AS1⟩ := id R0
  have K0 := Keep.refl h0 []
  refine WP.iconst (pc' := 1) d_prog_7_method_16_0 rfl (z := 0) rfl ?_
  refine WP.istoreN (pc' := 2) d_prog_7_method_16_1 rfl (Ls' := #[.val (.ref a), .val (.ref s), .val (.int (0 : Int32))]) rfl ?_
  refine WP.iloadN (pc' := 3) d_prog_7_method_16_2 rfl rfl ?_
  refine WP.aloadN (pc' := 4) d_prog_7_method_16_3 rfl rfl rfl ?_
  refine WP.getF (pc' := 7) d_prog_7_method_16_4 rfl (host := "") (Or.inl (wd106 hw)) Via.refl Ffields_1 ?_
  have hc7 : (0 : Int32) < fd := by rw [hfd]; decide
  refine WP.icmp_ge (pc1 := 50) (pc2 := 10) d_prog_7_method_16_7 (by decide) (by decide) rfl (fun k => absurd hc7 k) (fun _ => ?_)
  refine WP.aloadN (pc' := 11) d_prog_7_method_16_10 rfl rfl rfl ?_
  refine WP.iloadN (pc' := 12) d_prog_7_method_16_11 rfl rfl ?_
  refine WP.aloadN (pc' := 13) d_prog_7_method_16_12 rfl rfl rfl ?_
  refine WP.callP (a := a) (argsL := [(.int (0 : Int32)), (.ref s)]) (rest := []) (wd := 0) (cl' := 0) (sl' := 0) (pc' := 16) d_prog_7_method_16_13 rfl (wd133 hw) (wd134 hw) (selPriv (wd59 hw) rfl (wd135 hw) (wd134 hw) (by decide)) (wd135 hw) (wd46 hw) (wd136 hw) (by decide) R0.2.1 (m_nmd hw a (0 : Int32) s h0 n0 O0 cs S_CS hcs fv hfv S_FM nr rw sp us fd g e R0 b n q sE sV sC sA hn hnr 0 A B rfl (by omega) hA hB hAB hB5) pd_29 rfl rfl rfl (Nat.le_of_eq rfl) (by decide) (by decide) rfl rfl (by decide) (by decide) ?_
  rintro v hh2 ⟨⟨rfl, qv2⟩ | ⟨rfl, qv2⟩, he2⟩ <;> rw [he2]
  · skip
    refine WP.castS (st' := [(.int (1 : Int32))]) rfl ?_
    have hc16 : ¬ (1 : Int32) = (0 : Int32) := by decide
    refine WP.ifc_eq (pc1 := 44) (pc2 := 19) d_prog_7_method_16_16 (by decide) (by decide) rfl (fun k => absurd k hc16) (fun _ => ?_)
    refine WP.aloadN (pc' := 20) d_prog_7_method_16_19 rfl rfl rfl ?_
    refine WP.aloadN (pc' := 21) d_prog_7_method_16_20 rfl rfl rfl ?_
    refine WP.getF (pc' := 24) d_prog_7_method_16_21 rfl (host := "") (Or.inl (wd54 hw)) Via.refl Fspans_1 ?_
    refine WP.iloadN (pc' := 25) d_prog_7_method_16_24 rfl rfl ?_
    refine WP.iconst (pc' := 26) d_prog_7_method_16_25 rfl (z := 4) rfl ?_
    refine WP.imul (pc' := 27) d_prog_7_method_16_26 rfl ?_
    rw [show ((0 : Int32) * (4 : Int32)) = (0 : Int32) from by decide]
    refine WP.iconst (pc' := 28) d_prog_7_method_16_27 rfl (z := 2) rfl ?_
    refine WP.iadd (pc' := 29) d_prog_7_method_16_28 rfl ?_
    rw [show ((0 : Int32) + (2 : Int32)) = (2 : Int32) from by decide]
    refine WP.ialoadI (2) (pc' := 30) d_prog_7_method_16_29 rfl AS1 (by decide) (by decide) rfl ?_
    refine WP.aloadN (pc' := 31) d_prog_7_method_16_30 rfl rfl rfl ?_
    refine WP.getF (pc' := 34) d_prog_7_method_16_31 rfl (host := "") (Or.inl (wd54 hw)) Via.refl Fspans_1 ?_
    refine WP.iloadN (pc' := 35) d_prog_7_method_16_34 rfl rfl ?_
    refine WP.iconst (pc' := 36) d_prog_7_method_16_35 rfl (z := 4) rfl ?_
    refine WP.imul (pc' := 37) d_prog_7_method_16_36 rfl ?_
    rw [show ((0 : Int32) * (4 : Int32)) = (0 : Int32) from by decide]
    refine WP.iconst (pc' := 38) d_prog_7_method_16_37 rfl (z := 3) rfl ?_
    refine WP.iadd (pc' := 39) d_prog_7_method_16_38 rfl ?_
    rw [show ((0 : Int32) + (3 : Int32)) = (3 : Int32) from by decide]
    refine WP.ialoadI (3) (pc' := 40) d_prog_7_method_16_39 rfl AS1 (by decide) (by decide) rfl ?_
    rw [hspA, hspB]
    refine WP.callP (a := a) (argsL := [(.int (1 : Int32)), (.int (2 : Int32))]) (rest := []) (wd := 0) (cl' := 2) (sl' := 5) (pc' := 43) d_prog_7_method_16_40 rfl (wd144 hw) (wd145 hw) (selPriv (wd59 hw) rfl (wd146 hw) (wd145 hw) (by decide)) (wd146 hw) (wd46 hw) (wd147 hw) (by decide) R0.2.1 (m_text hw a h0 n0 Z0 O0 cs S_CS hcs fv hfv S_FM iso utf hiu S_II S_UI S_IS X_IS nr rw sp us fd g e R0 hn2 hnr) pd_30 rfl rfl rfl (Nat.le_of_eq rfl) (by decide) (by decide) rfl rfl (by decide) (by decide) ?_
    rintro v h3 ⟨s3, c3, rfl, sz3, K3, E3, Fv3, Fc3, B3⟩
    have E4 := X1.keep K3
    have F5 := Fraw_1.keep K3 nin0
    have F6 := Fspans_1.keep K3 nin0
    have F7 := Fused_1.keep K3 nin0
    have F8 := Ffields_1.keep K3 nin0
    have F9 := FsecondEnd_1.keep K3 nin0
    have F10 := FsecondStart_1.keep K3 nin0
    have F11 := Frequest_1.keep K3 nin0
    have F12 := Fmethod_1.keep K3 nin0
    have F13 := Fstatus_1.keep K3 nin0
    have V14 := AR1.keep K3 nin0
    have V15 := AS1.keep K3 nin0
    have E16 := sE.keep K3
    have F17 := sV.keep K3 nin0
    have F18 := sC.keep K3 nin0
    have V19 := sA.keep K3 nin0
    have O20 := O0.keep K3 all0
    have K21 := K0.trans K3 all0
    have Z22 : n0 ≤ h3.size := Nat.le_trans Z0 K3.1
    refine WP.castS (st' := [(.ref s3)]) rfl ?_
    refine WP.aret d_prog_7_method_16_43 rfl rfl rfl (by decide) (by decide) ⟨_, _, rfl, sz3, K21, E3, Fv3, Fc3, B3⟩
  · exact absurd hNM qv2
theorem Hh.keep0 {Z : State} {n0 : Nat} {h h' : Heap} {nr : Nat} {a rw sp : Addr} {us fd : Int32} {g e : Nat → Int32} (R : Hh Z n0 h nr a rw sp us fd g e) (K : Keep h h' []) : Hh Z n0 h' nr a rw sp us fd g e := by
  obtain ⟨q, X, ⟨f0, f1, f2, f3, f4, f5, f6, f7, f8⟩, A, B⟩ := R
  exact ⟨q, X.keep K, ⟨f0.keep K nin0, f1.keep K nin0, f2.keep K nin0, f3.keep K nin0, f4.keep K nin0, f5.keep K nin0, f6.keep K nin0, f7.keep K nin0, f8.keep K nin0⟩, A.keep K nin0, B.keep K nin0⟩
theorem m7 (x : Int32) : 0 ≤ ((x &&& 127).toUInt32.toUInt16.toUInt32.toInt32).toInt ∧ ((x &&& 127).toUInt32.toUInt16.toUInt32.toInt32).toInt ≤ 127 := by
  have h1 := c_mask x 127 7 (by decide) (by decide)
  have h2 := c_i2c (x &&& 127)
  omega
theorem m8 (x : Int32) : 0 ≤ ((x &&& 255).toUInt32.toUInt16.toUInt32.toInt32).toInt ∧ ((x &&& 255).toUInt32.toUInt16.toUInt32.toInt32).toInt ≤ 255 := by
  have h1 := c_mask x 255 8 (by decide) (by decide)
  have h2 := c_i2c (x &&& 255)
  omega
theorem chv_cv7 {c : Int32} (h : 0 ≤ c.toInt ∧ c.toInt ≤ 127) : cv c = chv (cv c) := by
  have h1 := c_i2b c
  have h2 := c_mask (cv c) 255 8 (by decide) (by decide)
  apply Int32.toInt_inj.mp
  show c.toInt8.toInt32.toInt = (cv c &&& 255).toInt
  have e : (cv c).toInt = c.toInt8.toInt32.toInt := rfl
  omega
theorem lay_in {g q : Nat → Int32} {U n k : Nat} (h : U ≤ k ∧ k < U + n) : lay g U n q k = q (k - U) := by unfold lay; rw [if_pos h]
theorem lay_out {g q : Nat → Int32} {U n k : Nat} (h : k < U) : lay g U n q k = g k := by unfold lay; rw [if_neg (by omega)]
theorem eqRef_v {args : Array Value} {first s : State} {o : Option Outcome} {idx : List Nat} {t1 t2 : Term} {a b : Addr} (h : (Jvm.Cond.eq t1 t2).value args first o s idx = some true) (e1 : t1.eval args first o idx s = some (.ref a)) (e2 : t2.eval args first o idx s = some (.ref b)) : a = b := by
  simp [Cond.value, e1, e2] at h
  exact h
theorem wd0 {Z : State} {a0 : Array Value} (hw : ∀ d ∈ tables_1, d.before a0 Z = true) : (Jvm.Cond.methodLink "com/example/vipool/vipool/http/HttpHeadClearPinLaw" (7 : Nat) ({ cls := "java/lang/String", name := "valueOf", desc := "(C)Ljava/lang/String;" } : Jvm.MethodName)).before a0 Z = true := hw _ (List.mem_of_getElem? (i := 0) rfl)
theorem wd3 {Z : State} {a0 : Array Value} (hw : ∀ d ∈ tables_1, d.before a0 Z = true) : (Jvm.Cond.code ({ cls := "java/lang/String", name := "valueOf", desc := "(C)Ljava/lang/String;" } : Jvm.MethodName) jdk_42_method_139_code (1 : Nat) (Option.some (Jvm.ClassFile.FieldType.object "java/lang/String"))).before a0 Z = true := hw _ (List.mem_of_getElem? (i := 3) rfl)
theorem pd_31 : parseMethodDescriptor "(C)Ljava/lang/String;" = some ⟨[.char], some (.object "java/lang/String")⟩ := by decide +kernel
theorem wd1 {Z : State} {a0 : Array Value} (hw : ∀ d ∈ tables_1, d.before a0 Z = true) : (Jvm.Cond.static ({ cls := "java/lang/String", name := "valueOf", desc := "(C)Ljava/lang/String;" } : Jvm.MethodName)).before a0 Z = true := hw _ (List.mem_of_getElem? (i := 1) rfl)
theorem wd26 {Z : State} {a0 : Array Value} (hw : ∀ d ∈ tables_1, d.before a0 Z = true) : (Jvm.Cond.classLink "com/example/vipool/vipool/http/HttpHeadClearPinLaw" (8 : Nat) "java/lang/String").before a0 Z = true := hw _ (List.mem_of_getElem? (i := 26) rfl)
theorem wd27 {Z : State} {a0 : Array Value} (hw : ∀ d ∈ tables_1, d.before a0 Z = true) : (Jvm.Cond.arrayClass Jvm.ClassFile.FieldType.char).before a0 Z = true := hw _ (List.mem_of_getElem? (i := 27) rfl)
theorem wd28 {Z : State} {a0 : Array Value} (hw : ∀ d ∈ tables_1, d.before a0 Z = true) : (Jvm.Cond.methodLink "com/example/vipool/vipool/http/HttpHeadClearPinLaw" (13 : Nat) ({ cls := "java/lang/String", name := "<init>", desc := "([C)V" } : Jvm.MethodName)).before a0 Z = true := hw _ (List.mem_of_getElem? (i := 28) rfl)
theorem wd30 {Z : State} {a0 : Array Value} (hw : ∀ d ∈ tables_1, d.before a0 Z = true) : (Jvm.Cond.code ({ cls := "java/lang/String", name := "<init>", desc := "([C)V" } : Jvm.MethodName) jdk_42_method_3_code (2 : Nat) (Option.none : Option Jvm.ClassFile.FieldType)).before a0 Z = true := hw _ (List.mem_of_getElem? (i := 30) rfl)
theorem pd_32 : parseMethodDescriptor "([C)V" = some ⟨[(.array .char)], none⟩ := by decide +kernel
theorem wd29 {Z : State} {a0 : Array Value} (hw : ∀ d ∈ tables_1, d.before a0 Z = true) : (Jvm.Cond.instanceMethod ({ cls := "java/lang/String", name := "<init>", desc := "([C)V" } : Jvm.MethodName)).before a0 Z = true := hw _ (List.mem_of_getElem? (i := 29) rfl)
theorem wd44 {Z : State} {a0 : Array Value} (hw : ∀ d ∈ tables_1, d.before a0 Z = true) : (Jvm.Cond.classLink "com/example/vipool/vipool/http/HttpHeadClearPinLaw" (16 : Nat) "com/example/vipool/vipool/http/HttpHead").before a0 Z = true := hw _ (List.mem_of_getElem? (i := 44) rfl)
theorem wd221 {Z : State} {a0 : Array Value} (hw : ∀ d ∈ tables_1, d.before a0 Z = true) : (Jvm.Cond.lays "com/example/vipool/vipool/http/HttpHead" "com/example/vipool/vipool/http/HttpHead" "firstEnd" "I").before a0 Z = true := hw _ (List.mem_of_getElem? (i := 221) rfl)
theorem wd47 {Z : State} {a0 : Array Value} (hw : ∀ d ∈ tables_1, d.before a0 Z = true) : (Jvm.Cond.methodLink "com/example/vipool/vipool/http/HttpHeadClearPinLaw" (18 : Nat) ({ cls := "com/example/vipool/vipool/http/HttpHead", name := "<init>", desc := "()V" } : Jvm.MethodName)).before a0 Z = true := hw _ (List.mem_of_getElem? (i := 47) rfl)
theorem wd49 {Z : State} {a0 : Array Value} (hw : ∀ d ∈ tables_1, d.before a0 Z = true) : (Jvm.Cond.code ({ cls := "com/example/vipool/vipool/http/HttpHead", name := "<init>", desc := "()V" } : Jvm.MethodName) prog_7_method_1_code (1 : Nat) (Option.none : Option Jvm.ClassFile.FieldType)).before a0 Z = true := hw _ (List.mem_of_getElem? (i := 49) rfl)
theorem pd_33 : parseMethodDescriptor "()V" = some ⟨[], none⟩ := by decide +kernel
theorem wd48 {Z : State} {a0 : Array Value} (hw : ∀ d ∈ tables_1, d.before a0 Z = true) : (Jvm.Cond.instanceMethod ({ cls := "com/example/vipool/vipool/http/HttpHead", name := "<init>", desc := "()V" } : Jvm.MethodName)).before a0 Z = true := hw _ (List.mem_of_getElem? (i := 48) rfl)
theorem wd56 {Z : State} {a0 : Array Value} (hw : ∀ d ∈ tables_1, d.before a0 Z = true) : (Jvm.Cond.methodLink "com/example/vipool/vipool/http/HttpHeadClearPinLaw" (19 : Nat) ({ cls := "com/example/vipool/vipool/http/HttpHead", name := "add", desc := "(Ljava/lang/String;Ljava/lang/String;)V" } : Jvm.MethodName)).before a0 Z = true := hw _ (List.mem_of_getElem? (i := 56) rfl)
theorem wd60 {Z : State} {a0 : Array Value} (hw : ∀ d ∈ tables_1, d.before a0 Z = true) : (Jvm.Cond.code ({ cls := "com/example/vipool/vipool/http/HttpHead", name := "add", desc := "(Ljava/lang/String;Ljava/lang/String;)V" } : Jvm.MethodName) prog_7_method_24_code (5 : Nat) (Option.none : Option Jvm.ClassFile.FieldType)).before a0 Z = true := hw _ (List.mem_of_getElem? (i := 60) rfl)
theorem pd_34 : parseMethodDescriptor "(Ljava/lang/String;Ljava/lang/String;)V" = some ⟨[(.object "java/lang/String"), (.object "java/lang/String")], none⟩ := by decide +kernel
theorem wd57 {Z : State} {a0 : Array Value} (hw : ∀ d ∈ tables_1, d.before a0 Z = true) : (Jvm.Cond.declares ({ cls := "com/example/vipool/vipool/http/HttpHead", name := "add", desc := "(Ljava/lang/String;Ljava/lang/String;)V" } : Jvm.MethodName)).before a0 Z = true := hw _ (List.mem_of_getElem? (i := 57) rfl)
theorem wd58 {Z : State} {a0 : Array Value} (hw : ∀ d ∈ tables_1, d.before a0 Z = true) : (Jvm.Cond.instanceMethod ({ cls := "com/example/vipool/vipool/http/HttpHead", name := "add", desc := "(Ljava/lang/String;Ljava/lang/String;)V" } : Jvm.MethodName)).before a0 Z = true := hw _ (List.mem_of_getElem? (i := 58) rfl)
theorem wd108 {Z : State} {a0 : Array Value} (hw : ∀ d ∈ tables_1, d.before a0 Z = true) : (Jvm.Cond.methodLink "com/example/vipool/vipool/http/HttpHeadClearPinLaw" (25 : Nat) ({ cls := "com/example/vipool/vipool/http/HttpHead", name := "clear", desc := "()Z" } : Jvm.MethodName)).before a0 Z = true := hw _ (List.mem_of_getElem? (i := 108) rfl)
theorem wd112 {Z : State} {a0 : Array Value} (hw : ∀ d ∈ tables_1, d.before a0 Z = true) : (Jvm.Cond.code ({ cls := "com/example/vipool/vipool/http/HttpHead", name := "clear", desc := "()Z" } : Jvm.MethodName) prog_7_method_6_code (1 : Nat) (Option.some Jvm.ClassFile.FieldType.boolean)).before a0 Z = true := hw _ (List.mem_of_getElem? (i := 112) rfl)
theorem wd111 {Z : State} {a0 : Array Value} (hw : ∀ d ∈ tables_1, d.before a0 Z = true) : (Jvm.Cond.selects "com/example/vipool/vipool/http/HttpHead" ({ cls := "com/example/vipool/vipool/http/HttpHead", name := "clear", desc := "()Z" } : Jvm.MethodName) ({ cls := "com/example/vipool/vipool/http/HttpHead", name := "clear", desc := "()Z" } : Jvm.MethodName)).before a0 Z = true := hw _ (List.mem_of_getElem? (i := 111) rfl)
theorem wd109 {Z : State} {a0 : Array Value} (hw : ∀ d ∈ tables_1, d.before a0 Z = true) : (Jvm.Cond.declares ({ cls := "com/example/vipool/vipool/http/HttpHead", name := "clear", desc := "()Z" } : Jvm.MethodName)).before a0 Z = true := hw _ (List.mem_of_getElem? (i := 109) rfl)
theorem wd110 {Z : State} {a0 : Array Value} (hw : ∀ d ∈ tables_1, d.before a0 Z = true) : (Jvm.Cond.instanceMethod ({ cls := "com/example/vipool/vipool/http/HttpHead", name := "clear", desc := "()Z" } : Jvm.MethodName)).before a0 Z = true := hw _ (List.mem_of_getElem? (i := 110) rfl)
theorem wd117 {Z : State} {a0 : Array Value} (hw : ∀ d ∈ tables_1, d.before a0 Z = true) : (Jvm.Cond.methodLink "com/example/vipool/vipool/http/HttpHeadClearPinLaw" (29 : Nat) ({ cls := "com/example/vipool/vipool/http/HttpHead", name := "size", desc := "()I" } : Jvm.MethodName)).before a0 Z = true := hw _ (List.mem_of_getElem? (i := 117) rfl)
theorem wd121 {Z : State} {a0 : Array Value} (hw : ∀ d ∈ tables_1, d.before a0 Z = true) : (Jvm.Cond.code ({ cls := "com/example/vipool/vipool/http/HttpHead", name := "size", desc := "()I" } : Jvm.MethodName) prog_7_method_26_code (4 : Nat) (Option.some Jvm.ClassFile.FieldType.int)).before a0 Z = true := hw _ (List.mem_of_getElem? (i := 121) rfl)
theorem wd120 {Z : State} {a0 : Array Value} (hw : ∀ d ∈ tables_1, d.before a0 Z = true) : (Jvm.Cond.selects "com/example/vipool/vipool/http/HttpHead" ({ cls := "com/example/vipool/vipool/http/HttpHead", name := "size", desc := "()I" } : Jvm.MethodName) ({ cls := "com/example/vipool/vipool/http/HttpHead", name := "size", desc := "()I" } : Jvm.MethodName)).before a0 Z = true := hw _ (List.mem_of_getElem? (i := 120) rfl)
theorem wd118 {Z : State} {a0 : Array Value} (hw : ∀ d ∈ tables_1, d.before a0 Z = true) : (Jvm.Cond.declares ({ cls := "com/example/vipool/vipool/http/HttpHead", name := "size", desc := "()I" } : Jvm.MethodName)).before a0 Z = true := hw _ (List.mem_of_getElem? (i := 118) rfl)
theorem wd119 {Z : State} {a0 : Array Value} (hw : ∀ d ∈ tables_1, d.before a0 Z = true) : (Jvm.Cond.instanceMethod ({ cls := "com/example/vipool/vipool/http/HttpHead", name := "size", desc := "()I" } : Jvm.MethodName)).before a0 Z = true := hw _ (List.mem_of_getElem? (i := 119) rfl)
theorem wd128 {Z : State} {a0 : Array Value} (hw : ∀ d ∈ tables_1, d.before a0 Z = true) : (Jvm.Cond.methodLink "com/example/vipool/vipool/http/HttpHeadClearPinLaw" (33 : Nat) ({ cls := "com/example/vipool/vipool/http/HttpHead", name := "value", desc := "(Ljava/lang/String;)Ljava/lang/String;" } : Jvm.MethodName)).before a0 Z = true := hw _ (List.mem_of_getElem? (i := 128) rfl)
theorem wd132 {Z : State} {a0 : Array Value} (hw : ∀ d ∈ tables_1, d.before a0 Z = true) : (Jvm.Cond.code ({ cls := "com/example/vipool/vipool/http/HttpHead", name := "value", desc := "(Ljava/lang/String;)Ljava/lang/String;" } : Jvm.MethodName) prog_7_method_16_code (3 : Nat) (Option.some (Jvm.ClassFile.FieldType.object "java/lang/String"))).before a0 Z = true := hw _ (List.mem_of_getElem? (i := 132) rfl)
theorem pd_35 : parseMethodDescriptor "(Ljava/lang/String;)Ljava/lang/String;" = some ⟨[(.object "java/lang/String")], some (.object "java/lang/String")⟩ := by decide +kernel
theorem wd131 {Z : State} {a0 : Array Value} (hw : ∀ d ∈ tables_1, d.before a0 Z = true) : (Jvm.Cond.selects "com/example/vipool/vipool/http/HttpHead" ({ cls := "com/example/vipool/vipool/http/HttpHead", name := "value", desc := "(Ljava/lang/String;)Ljava/lang/String;" } : Jvm.MethodName) ({ cls := "com/example/vipool/vipool/http/HttpHead", name := "value", desc := "(Ljava/lang/String;)Ljava/lang/String;" } : Jvm.MethodName)).before a0 Z = true := hw _ (List.mem_of_getElem? (i := 131) rfl)
theorem wd129 {Z : State} {a0 : Array Value} (hw : ∀ d ∈ tables_1, d.before a0 Z = true) : (Jvm.Cond.declares ({ cls := "com/example/vipool/vipool/http/HttpHead", name := "value", desc := "(Ljava/lang/String;)Ljava/lang/String;" } : Jvm.MethodName)).before a0 Z = true := hw _ (List.mem_of_getElem? (i := 129) rfl)
theorem wd130 {Z : State} {a0 : Array Value} (hw : ∀ d ∈ tables_1, d.before a0 Z = true) : (Jvm.Cond.instanceMethod ({ cls := "com/example/vipool/vipool/http/HttpHead", name := "value", desc := "(Ljava/lang/String;)Ljava/lang/String;" } : Jvm.MethodName)).before a0 Z = true := hw _ (List.mem_of_getElem? (i := 130) rfl)
theorem wd191 {Z : State} {a0 : Array Value} (hw : ∀ d ∈ tables_1, d.before a0 Z = true) : (Jvm.Cond.methodLink "com/example/vipool/vipool/http/HttpHeadClearPinLaw" (37 : Nat) ({ cls := "java/lang/String", name := "equals", desc := "(Ljava/lang/Object;)Z" } : Jvm.MethodName)).before a0 Z = true := hw _ (List.mem_of_getElem? (i := 191) rfl)
theorem wd195 {Z : State} {a0 : Array Value} (hw : ∀ d ∈ tables_1, d.before a0 Z = true) : (Jvm.Cond.code ({ cls := "java/lang/String", name := "equals", desc := "(Ljava/lang/Object;)Z" } : Jvm.MethodName) jdk_42_method_66_code (3 : Nat) (Option.some Jvm.ClassFile.FieldType.boolean)).before a0 Z = true := hw _ (List.mem_of_getElem? (i := 195) rfl)
theorem pd_36 : parseMethodDescriptor "(Ljava/lang/Object;)Z" = some ⟨[(.object "java/lang/Object")], some .boolean⟩ := by decide +kernel
theorem wd194 {Z : State} {a0 : Array Value} (hw : ∀ d ∈ tables_1, d.before a0 Z = true) : (Jvm.Cond.selects "java/lang/String" ({ cls := "java/lang/String", name := "equals", desc := "(Ljava/lang/Object;)Z" } : Jvm.MethodName) ({ cls := "java/lang/String", name := "equals", desc := "(Ljava/lang/Object;)Z" } : Jvm.MethodName)).before a0 Z = true := hw _ (List.mem_of_getElem? (i := 194) rfl)
theorem wd192 {Z : State} {a0 : Array Value} (hw : ∀ d ∈ tables_1, d.before a0 Z = true) : (Jvm.Cond.declares ({ cls := "java/lang/String", name := "equals", desc := "(Ljava/lang/Object;)Z" } : Jvm.MethodName)).before a0 Z = true := hw _ (List.mem_of_getElem? (i := 192) rfl)
theorem wd193 {Z : State} {a0 : Array Value} (hw : ∀ d ∈ tables_1, d.before a0 Z = true) : (Jvm.Cond.instanceMethod ({ cls := "java/lang/String", name := "equals", desc := "(Ljava/lang/Object;)Z" } : Jvm.MethodName)).before a0 Z = true := hw _ (List.mem_of_getElem? (i := 193) rfl)
theorem pn_8 : plainName "com/example/vipool/vipool/http/HttpHeadClearPinLaw" = true := by first | (simp [plainName, overriddenIn]; done) | decide +kernel
set_option maxRecDepth 65536 in
set_option maxHeartbeats 40000000 in
theorem rm0 {Z : State} {a0 : Array Value} (hw : ∀ d ∈ tables_1, d.before a0 Z = true) (x0 : Int32) (x1 : Int32) (x2 : Int32) (x3 : Int32) (x4 : Int32) (x5 : Int32) (h0 : Heap) (n0 : Nat) (Z0 : n0 ≤ h0.size) (O0 : Old Z n0 h0) (cs : Int32) (S_CS : Sta Z Z.heap "java/lang/String" "COMPACT_STRINGS" "Z" (.int cs)) (hcs : ¬ cs = 0) (fv : Value) (hfv : fv.isRef = true) (S_FM : Sta Z Z.heap "jdk/internal/util/Preconditions" "SIOOBE_FORMATTER" "Ljava/util/function/BiFunction;" fv) (iso utf : Addr) (hiu : iso ≠ utf) (S_II : Sta Z Z.heap "sun/nio/cs/ISO_8859_1" "INSTANCE" "Lsun/nio/cs/ISO_8859_1;" (.ref iso)) (S_UI : Sta Z Z.heap "sun/nio/cs/UTF_8" "INSTANCE" "Lsun/nio/cs/UTF_8;" (.ref utf)) (S_IS : Sta Z Z.heap "java/nio/charset/StandardCharsets" "ISO_8859_1" "Ljava/nio/charset/Charset;" (.ref iso)) (X_IS : Exa Z Z.heap iso "sun/nio/cs/ISO_8859_1") : ∀ l, DoesW l Z consts_1 x code maxLocals ret room_1 n0 #[(.int x0), (.int x1), (.int x2), (.int x3), (.int x4), (.int x5)] h0 (fun v _ => v = some (.int 1)) := by
  intro l
  refine DoesW.of_wp (plainFor_of_name pn_8) (Ls := #[.val (.int x0), .val (.int x1), .val (.int x2), .val (.int x3), .val (.int x4), .val (.int x5), .unset, .unset, .unset, .unset, .unset, .unset, .unset, .unset, .unset, .unset, .unset, .unset]) (fun m => by first | (simp [entryFrame, mkF, argsToLocals, Value.category, maxLocals]; done) | rfl | (rcases ref_cases hfv with rfl | ⟨_, rfl⟩ <;> rfl)) ?_
  intro C vm0 Hd0
  refine WP.iloadN (pc' := 1) at_0 rfl rfl ?_
  refine WP.iconst (pc' := 2) at_1 rfl (z := 1) rfl ?_
  refine WP.iand (pc' := 3) at_2 rfl ?_
  refine WP.ifc_eq (pc1 := 10) (pc2 := 6) at_3 (by decide) (by decide) rfl ?_ ?_
  · intro hc3
    refine WP.iconst (pc' := 11) at_10 rfl (z := 0) rfl ?_
    refine WP.istore (pc' := 13) at_11 rfl (Ls' := #[.val (.int x0), .val (.int x1), .val (.int x2), .val (.int x3), .val (.int x4), .val (.int x5), .val (.int (0 : Int32)), .unset, .unset, .unset, .unset, .unset, .unset, .unset, .unset, .unset, .unset, .unset]) rfl ?_
    refine WP.iloadN (pc' := 14) at_13 rfl rfl ?_
    refine WP.iconst (pc' := 15) at_14 rfl (z := 2) rfl ?_
    refine WP.iand (pc' := 16) at_15 rfl ?_
    refine WP.ifc_eq (pc1 := 23) (pc2 := 19) at_16 (by decide) (by decide) rfl ?_ ?_
    · intro hc16
      refine WP.iconst (pc' := 24) at_23 rfl (z := 0) rfl ?_
      refine WP.istore (pc' := 26) at_24 rfl (Ls' := #[.val (.int x0), .val (.int x1), .val (.int x2), .val (.int x3), .val (.int x4), .val (.int x5), .val (.int (0 : Int32)), .val (.int (0 : Int32)), .unset, .unset, .unset, .unset, .unset, .unset, .unset, .unset, .unset, .unset]) rfl ?_
      refine WP.iloadN (pc' := 27) at_26 rfl rfl ?_
      refine WP.bipush (pc' := 29) at_27 rfl (z := 127) rfl ?_
      refine WP.iand (pc' := 30) at_29 rfl ?_
      refine WP.i2c (pc' := 31) at_30 rfl ?_
      have hb1 := m7 x1
      generalize ((x1 &&& (127 : Int32)).toUInt32.toUInt16.toUInt32.toInt32) = ch1 at hb1 ⊢
      refine WP.callS (argsL := [(.int ch1)]) (rest := []) (wd := 0) (cl' := 2) (sl' := 5) (pc' := 34) at_31 rfl (wd0 hw) (wd1 hw) (wd2 hw) (wd3 hw) (by decide) (s_vo hw ch1 h0 n0 Z0 ⟨by omega, by omega⟩ cs (S_CS.ext O0.2) hcs) pd_31 rfl rfl rfl (Nat.le_of_eq rfl) (by decide) (by decide) rfl rfl (by decide) (by decide) ?_
      rintro v h1 ⟨s1, c1, rfl, K1, E1, Fv1, Fc1, B1⟩
      have O2 := O0.keep K1 all0
      have Hd3 := Hd0.keep K1 all0
      have Z4 : n0 ≤ h1.size := Nat.le_trans Z0 K1.1
      refine WP.castS (st' := [(.ref s1)]) rfl ?_
      refine WP.astore (pc' := 36) at_34 rfl rfl (Ls' := #[.val (.int x0), .val (.int x1), .val (.int x2), .val (.int x3), .val (.int x4), .val (.int x5), .val (.int (0 : Int32)), .val (.int (0 : Int32)), .val (.ref s1), .unset, .unset, .unset, .unset, .unset, .unset, .unset, .unset, .unset]) rfl ?_
      refine WP.iloadN (pc' := 37) at_36 rfl rfl ?_
      refine WP.bipush (pc' := 39) at_37 rfl (z := 127) rfl ?_
      refine WP.iand (pc' := 40) at_39 rfl ?_
      refine WP.i2c (pc' := 41) at_40 rfl ?_
      have hb2 := m7 x2
      generalize ((x2 &&& (127 : Int32)).toUInt32.toUInt16.toUInt32.toInt32) = ch2 at hb2 ⊢
      refine WP.callS (argsL := [(.int ch2)]) (rest := []) (wd := 0) (cl' := 4) (sl' := 10) (pc' := 44) at_41 rfl (wd0 hw) (wd1 hw) (wd2 hw) (wd3 hw) (by decide) (s_vo hw ch2 h1 n0 Z4 ⟨by omega, by omega⟩ cs (S_CS.ext O2.2) hcs) pd_31 rfl rfl rfl (Nat.le_of_eq rfl) (by decide) (by decide) rfl rfl (by decide) (by decide) ?_
      rintro v h5 ⟨s5, c5, rfl, K5, E5, Fv5, Fc5, B5⟩
      have E6 := E1.keep K5
      have F7 := Fv1.keep K5 nin0
      have F8 := Fc1.keep K5 nin0
      have V9 := B1.keep K5 nin0
      have O10 := O2.keep K5 all0
      have Hd11 := Hd3.keep K5 all0
      have Z12 : n0 ≤ h5.size := Nat.le_trans Z4 K5.1
      refine WP.castS (st' := [(.ref s5)]) rfl ?_
      refine WP.astore (pc' := 46) at_44 rfl rfl (Ls' := #[.val (.int x0), .val (.int x1), .val (.int x2), .val (.int x3), .val (.int x4), .val (.int x5), .val (.int (0 : Int32)), .val (.int (0 : Int32)), .val (.ref s1), .val (.ref s5), .unset, .unset, .unset, .unset, .unset, .unset, .unset, .unset]) rfl ?_
      refine WP.iloadN (pc' := 47) at_46 rfl rfl ?_
      refine WP.sipush (pc' := 50) at_47 rfl (z := 255) rfl ?_
      refine WP.iand (pc' := 51) at_50 rfl ?_
      refine WP.i2c (pc' := 52) at_51 rfl ?_
      have hb3 := m8 x3
      generalize ((x3 &&& (255 : Int32)).toUInt32.toUInt16.toUInt32.toInt32) = ch3 at hb3 ⊢
      refine WP.callS (argsL := [(.int ch3)]) (rest := []) (wd := 0) (cl' := 6) (sl' := 15) (pc' := 55) at_52 rfl (wd0 hw) (wd1 hw) (wd2 hw) (wd3 hw) (by decide) (s_vo hw ch3 h5 n0 Z12 ⟨by omega, by omega⟩ cs (S_CS.ext O10.2) hcs) pd_31 rfl rfl rfl (Nat.le_of_eq rfl) (by decide) (by decide) rfl rfl (by decide) (by decide) ?_
      rintro v h13 ⟨s13, c13, rfl, K13, E13, Fv13, Fc13, B13⟩
      have E14 := E6.keep K13
      have F15 := F7.keep K13 nin0
      have F16 := F8.keep K13 nin0
      have V17 := V9.keep K13 nin0
      have E18 := E5.keep K13
      have F19 := Fv5.keep K13 nin0
      have F20 := Fc5.keep K13 nin0
      have V21 := B5.keep K13 nin0
      have O22 := O10.keep K13 all0
      have Hd23 := Hd11.keep K13 all0
      have Z24 : n0 ≤ h13.size := Nat.le_trans Z12 K13.1
      refine WP.castS (st' := [(.ref s13)]) rfl ?_
      refine WP.astore (pc' := 57) at_55 rfl rfl (Ls' := #[.val (.int x0), .val (.int x1), .val (.int x2), .val (.int x3), .val (.int x4), .val (.int x5), .val (.int (0 : Int32)), .val (.int (0 : Int32)), .val (.ref s1), .val (.ref s5), .val (.ref s13), .unset, .unset, .unset, .unset, .unset, .unset, .unset]) rfl ?_
      refine WP.iload (pc' := 59) at_57 rfl rfl ?_
      refine WP.bipush (pc' := 61) at_59 rfl (z := 127) rfl ?_
      refine WP.iand (pc' := 62) at_61 rfl ?_
      refine WP.i2c (pc' := 63) at_62 rfl ?_
      have hb4 := m7 x4
      generalize ((x4 &&& (127 : Int32)).toUInt32.toUInt16.toUInt32.toInt32) = ch4 at hb4 ⊢
      refine WP.callS (argsL := [(.int ch4)]) (rest := []) (wd := 0) (cl' := 8) (sl' := 20) (pc' := 66) at_63 rfl (wd0 hw) (wd1 hw) (wd2 hw) (wd3 hw) (by decide) (s_vo hw ch4 h13 n0 Z24 ⟨by omega, by omega⟩ cs (S_CS.ext O22.2) hcs) pd_31 rfl rfl rfl (Nat.le_of_eq rfl) (by decide) (by decide) rfl rfl (by decide) (by decide) ?_
      rintro v h25 ⟨s25, c25, rfl, K25, E25, Fv25, Fc25, B25⟩
      have E26 := E14.keep K25
      have F27 := F15.keep K25 nin0
      have F28 := F16.keep K25 nin0
      have V29 := V17.keep K25 nin0
      have E30 := E18.keep K25
      have F31 := F19.keep K25 nin0
      have F32 := F20.keep K25 nin0
      have V33 := V21.keep K25 nin0
      have E34 := E13.keep K25
      have F35 := Fv13.keep K25 nin0
      have F36 := Fc13.keep K25 nin0
      have V37 := B13.keep K25 nin0
      have O38 := O22.keep K25 all0
      have Hd39 := Hd23.keep K25 all0
      have Z40 : n0 ≤ h25.size := Nat.le_trans Z24 K25.1
      refine WP.castS (st' := [(.ref s25)]) rfl ?_
      refine WP.astore (pc' := 68) at_66 rfl rfl (Ls' := #[.val (.int x0), .val (.int x1), .val (.int x2), .val (.int x3), .val (.int x4), .val (.int x5), .val (.int (0 : Int32)), .val (.int (0 : Int32)), .val (.ref s1), .val (.ref s5), .val (.ref s13), .val (.ref s25), .unset, .unset, .unset, .unset, .unset, .unset]) rfl ?_
      refine WP.iload (pc' := 70) at_68 rfl rfl ?_
      refine WP.sipush (pc' := 73) at_70 rfl (z := 255) rfl ?_
      refine WP.iand (pc' := 74) at_73 rfl ?_
      refine WP.i2c (pc' := 75) at_74 rfl ?_
      have hb5 := m8 x5
      generalize ((x5 &&& (255 : Int32)).toUInt32.toUInt16.toUInt32.toInt32) = ch5 at hb5 ⊢
      refine WP.callS (argsL := [(.int ch5)]) (rest := []) (wd := 0) (cl' := 10) (sl' := 25) (pc' := 78) at_75 rfl (wd0 hw) (wd1 hw) (wd2 hw) (wd3 hw) (by decide) (s_vo hw ch5 h25 n0 Z40 ⟨by omega, by omega⟩ cs (S_CS.ext O38.2) hcs) pd_31 rfl rfl rfl (Nat.le_of_eq rfl) (by decide) (by decide) rfl rfl (by decide) (by decide) ?_
      rintro v h41 ⟨s41, c41, rfl, K41, E41, Fv41, Fc41, B41⟩
      have E42 := E26.keep K41
      have F43 := F27.keep K41 nin0
      have F44 := F28.keep K41 nin0
      have V45 := V29.keep K41 nin0
      have E46 := E30.keep K41
      have F47 := F31.keep K41 nin0
      have F48 := F32.keep K41 nin0
      have V49 := V33.keep K41 nin0
      have E50 := E34.keep K41
      have F51 := F35.keep K41 nin0
      have F52 := F36.keep K41 nin0
      have V53 := V37.keep K41 nin0
      have E54 := E25.keep K41
      have F55 := Fv25.keep K41 nin0
      have F56 := Fc25.keep K41 nin0
      have V57 := B25.keep K41 nin0
      have O58 := O38.keep K41 all0
      have Hd59 := Hd39.keep K41 all0
      have Z60 : n0 ≤ h41.size := Nat.le_trans Z40 K41.1
      refine WP.castS (st' := [(.ref s41)]) rfl ?_
      refine WP.astore (pc' := 80) at_78 rfl rfl (Ls' := #[.val (.int x0), .val (.int x1), .val (.int x2), .val (.int x3), .val (.int x4), .val (.int x5), .val (.int (0 : Int32)), .val (.int (0 : Int32)), .val (.ref s1), .val (.ref s5), .val (.ref s13), .val (.ref s25), .val (.ref s41), .unset, .unset, .unset, .unset, .unset]) rfl ?_
      refine WP.newO (cl' := 11) (sl' := 29) (pc' := 83) at_80 rfl (wd26 hw) (wd10 hw) (wd2 hw) rfl rfl (by decide) (by decide) ?_
      intro h61 b61 g61 E61 A61 D61
      have Sf62 : Safe Z consts_1 vm0 h41 b61 := Safe.new (by rw [g61]; exact Nat.le_refl _)
      have ge63 : n0 ≤ b61 := by rw [g61]; exact Z60
      have ne64 : s1 ≠ b61 := by rw [g61]; exact Nat.ne_of_lt E42.lt
      have ne65 : c1 ≠ b61 := by rw [g61]; exact Nat.ne_of_lt V45.lt
      have ne66 : s5 ≠ b61 := by rw [g61]; exact Nat.ne_of_lt E46.lt
      have ne67 : c5 ≠ b61 := by rw [g61]; exact Nat.ne_of_lt V49.lt
      have ne68 : s13 ≠ b61 := by rw [g61]; exact Nat.ne_of_lt E50.lt
      have ne69 : c13 ≠ b61 := by rw [g61]; exact Nat.ne_of_lt V53.lt
      have ne70 : s25 ≠ b61 := by rw [g61]; exact Nat.ne_of_lt E54.lt
      have ne71 : c25 ≠ b61 := by rw [g61]; exact Nat.ne_of_lt V57.lt
      have ne72 : s41 ≠ b61 := by rw [g61]; exact Nat.ne_of_lt E41.lt
      have ne73 : c41 ≠ b61 := by rw [g61]; exact Nat.ne_of_lt B41.lt
      have E74 := E42.ext E61
      have F75 := F43.ext E61
      have F76 := F44.ext E61
      have V77 := V45.ext E61
      have E78 := E46.ext E61
      have F79 := F47.ext E61
      have F80 := F48.ext E61
      have V81 := V49.ext E61
      have E82 := E50.ext E61
      have F83 := F51.ext E61
      have F84 := F52.ext E61
      have V85 := V53.ext E61
      have E86 := E54.ext E61
      have F87 := F55.ext E61
      have F88 := F56.ext E61
      have V89 := V57.ext E61
      have E90 := E41.ext E61
      have F91 := Fv41.ext E61
      have F92 := Fc41.ext E61
      have V93 := B41.ext E61
      have O94 := O58.ext E61
      have Sf95 := Safe.ext E61 Hd59.ch Sf62
      have Hd96 := Hd59.ext E61
      have Z97 : n0 ≤ h61.size := Nat.le_trans Z60 E61.1
      have F98 : Fld Z h61 b61 "java/lang/String" "value" "[B" .null := D61 (Or.inr (wd23 hw)) (ty := (.array .byte)) (by decide)
      have F99 : Fld Z h61 b61 "java/lang/String" "coder" "B" (.int (0 : Int32)) := D61 (Or.inr (wd25 hw)) (ty := .byte) (by decide)
      refine WP.dup (pc' := 84) at_83 rfl rfl ?_
      refine WP.sipush (pc' := 87) at_84 rfl (z := 8191) rfl ?_
      refine WP.newPI (ty := .char) (n := 8191) (cap := 8191) (cl' := 12) (sl' := 8220) (pc' := 89) at_87 rfl rfl rfl (wd27 hw) (by decide) (by decide) (by decide) rfl rfl (by decide) (by decide) ?_
      intro h100 b100 g100 E100 A100
      have Sf101 : Safe Z consts_1 vm0 h61 b100 := Safe.new (by rw [g100]; exact Nat.le_refl _)
      have ge102 : n0 ≤ b100 := by rw [g100]; exact Z97
      have ne103 : s1 ≠ b100 := by rw [g100]; exact Nat.ne_of_lt E74.lt
      have ne104 : c1 ≠ b100 := by rw [g100]; exact Nat.ne_of_lt V77.lt
      have ne105 : s5 ≠ b100 := by rw [g100]; exact Nat.ne_of_lt E78.lt
      have ne106 : c5 ≠ b100 := by rw [g100]; exact Nat.ne_of_lt V81.lt
      have ne107 : s13 ≠ b100 := by rw [g100]; exact Nat.ne_of_lt E82.lt
      have ne108 : c13 ≠ b100 := by rw [g100]; exact Nat.ne_of_lt V85.lt
      have ne109 : s25 ≠ b100 := by rw [g100]; exact Nat.ne_of_lt E86.lt
      have ne110 : c25 ≠ b100 := by rw [g100]; exact Nat.ne_of_lt V89.lt
      have ne111 : s41 ≠ b100 := by rw [g100]; exact Nat.ne_of_lt E90.lt
      have ne112 : c41 ≠ b100 := by rw [g100]; exact Nat.ne_of_lt V93.lt
      have ne113 : b61 ≠ b100 := by rw [g100]; exact Nat.ne_of_lt A61.lt
      have E114 := E74.ext E100
      have F115 := F75.ext E100
      have F116 := F76.ext E100
      have V117 := V77.ext E100
      have E118 := E78.ext E100
      have F119 := F79.ext E100
      have F120 := F80.ext E100
      have V121 := V81.ext E100
      have E122 := E82.ext E100
      have F123 := F83.ext E100
      have F124 := F84.ext E100
      have V125 := V85.ext E100
      have E126 := E86.ext E100
      have F127 := F87.ext E100
      have F128 := F88.ext E100
      have V129 := V89.ext E100
      have E130 := E90.ext E100
      have F131 := F91.ext E100
      have F132 := F92.ext E100
      have V133 := V93.ext E100
      have E134 := A61.ext E100
      have F135 := F98.ext E100
      have F136 := F99.ext E100
      have O137 := O94.ext E100
      have Sf138 := Safe.ext E100 Hd96.ch Sf95
      have Sf139 := Safe.ext E100 Hd96.ch Sf101
      have Hd140 := Hd96.ext E100
      have Z141 : n0 ≤ h100.size := Nat.le_trans Z97 E100.1
      refine WP.callI (a := b61) (argsL := [(.ref b100)]) (rest := [(.ref b61)]) (wd := 1) (cl' := 13) (sl' := 16411) (pc' := 92) at_89 rfl rfl (wd28 hw) (wd29 hw) (wd2 hw) (wd30 hw) (by decide) (s_si hw b61 b100 h100 n0 Z141 ge63 E134 F135 F136 cs (S_CS.ext O137.2) hcs 8191 (fun _ => 0) A100 (by omega) (by omega) (by omega) (fun i hi => show 0 ≤ (0 : Int32).toInt ∧ (0 : Int32).toInt ≤ 255 from by decide) (Ne.symm ne113)) pd_32 rfl rfl rfl (Nat.le_of_eq rfl) (by decide) (by decide) rfl rfl (by decide) (by decide) ?_
      rintro v h142 ⟨rfl, c142, K142, ge142, sz142, E142, Fv142, Fc142, B142⟩
      have ne143 : s1 ≠ c142 := Nat.ne_of_lt (Nat.lt_of_lt_of_le E114.lt sz142)
      have ne144 : c1 ≠ c142 := Nat.ne_of_lt (Nat.lt_of_lt_of_le V117.lt sz142)
      have ne145 : s5 ≠ c142 := Nat.ne_of_lt (Nat.lt_of_lt_of_le E118.lt sz142)
      have ne146 : c5 ≠ c142 := Nat.ne_of_lt (Nat.lt_of_lt_of_le V121.lt sz142)
      have ne147 : s13 ≠ c142 := Nat.ne_of_lt (Nat.lt_of_lt_of_le E122.lt sz142)
      have ne148 : c13 ≠ c142 := Nat.ne_of_lt (Nat.lt_of_lt_of_le V125.lt sz142)
      have ne149 : s25 ≠ c142 := Nat.ne_of_lt (Nat.lt_of_lt_of_le E126.lt sz142)
      have ne150 : c25 ≠ c142 := Nat.ne_of_lt (Nat.lt_of_lt_of_le V129.lt sz142)
      have ne151 : s41 ≠ c142 := Nat.ne_of_lt (Nat.lt_of_lt_of_le E130.lt sz142)
      have ne152 : c41 ≠ c142 := Nat.ne_of_lt (Nat.lt_of_lt_of_le V133.lt sz142)
      have ne153 : b61 ≠ c142 := Nat.ne_of_lt (Nat.lt_of_lt_of_le E134.lt sz142)
      have ne154 : b100 ≠ c142 := Nat.ne_of_lt (Nat.lt_of_lt_of_le A100.lt sz142)
      have E155 := E114.keep K142
      have F156 := F115.keep K142 (ninS ne64 nin0)
      have F157 := F116.keep K142 (ninS ne64 nin0)
      have V158 := V117.keep K142 (ninS ne65 nin0)
      have E159 := E118.keep K142
      have F160 := F119.keep K142 (ninS ne66 nin0)
      have F161 := F120.keep K142 (ninS ne66 nin0)
      have V162 := V121.keep K142 (ninS ne67 nin0)
      have E163 := E122.keep K142
      have F164 := F123.keep K142 (ninS ne68 nin0)
      have F165 := F124.keep K142 (ninS ne68 nin0)
      have V166 := V125.keep K142 (ninS ne69 nin0)
      have E167 := E126.keep K142
      have F168 := F127.keep K142 (ninS ne70 nin0)
      have F169 := F128.keep K142 (ninS ne70 nin0)
      have V170 := V129.keep K142 (ninS ne71 nin0)
      have E171 := E130.keep K142
      have F172 := F131.keep K142 (ninS ne72 nin0)
      have F173 := F132.keep K142 (ninS ne72 nin0)
      have V174 := V133.keep K142 (ninS ne73 nin0)
      have E175 := E134.keep K142
      have V176 := A100.keep K142 (ninS (Ne.symm ne113) nin0)
      have O177 := O137.keep K142 (allS ge63 all0)
      have Sf178 := Safe.keep K142 (allS Sf138 all0) Hd140.ch Sf138
      have Sf179 := Safe.keep K142 (allS Sf138 all0) Hd140.ch Sf139
      have Hd180 := Hd140.keep K142 (allS Sf138 all0)
      have Z181 : n0 ≤ h142.size := Nat.le_trans Z141 K142.1
      refine WP.castS (st' := [(.ref b61)]) rfl ?_
      refine WP.astore (pc' := 94) at_92 rfl rfl (Ls' := #[.val (.int x0), .val (.int x1), .val (.int x2), .val (.int x3), .val (.int x4), .val (.int x5), .val (.int (0 : Int32)), .val (.int (0 : Int32)), .val (.ref s1), .val (.ref s5), .val (.ref s13), .val (.ref s25), .val (.ref s41), .val (.ref b61), .unset, .unset, .unset, .unset]) rfl ?_
      refine WP.newO (cl' := 14) (sl' := 16429) (pc' := 97) at_94 rfl (wd44 hw) (wd45 hw) (wd46 hw) rfl rfl (by decide) (by decide) ?_
      intro h182 b182 g182 E182 A182 D182
      have Sf183 : Safe Z consts_1 vm0 h142 b182 := Safe.new (by rw [g182]; exact Nat.le_refl _)
      have ge184 : n0 ≤ b182 := by rw [g182]; exact Z181
      have ne185 : s1 ≠ b182 := by rw [g182]; exact Nat.ne_of_lt E155.lt
      have ne186 : c1 ≠ b182 := by rw [g182]; exact Nat.ne_of_lt V158.lt
      have ne187 : s5 ≠ b182 := by rw [g182]; exact Nat.ne_of_lt E159.lt
      have ne188 : c5 ≠ b182 := by rw [g182]; exact Nat.ne_of_lt V162.lt
      have ne189 : s13 ≠ b182 := by rw [g182]; exact Nat.ne_of_lt E163.lt
      have ne190 : c13 ≠ b182 := by rw [g182]; exact Nat.ne_of_lt V166.lt
      have ne191 : s25 ≠ b182 := by rw [g182]; exact Nat.ne_of_lt E167.lt
      have ne192 : c25 ≠ b182 := by rw [g182]; exact Nat.ne_of_lt V170.lt
      have ne193 : s41 ≠ b182 := by rw [g182]; exact Nat.ne_of_lt E171.lt
      have ne194 : c41 ≠ b182 := by rw [g182]; exact Nat.ne_of_lt V174.lt
      have ne195 : b61 ≠ b182 := by rw [g182]; exact Nat.ne_of_lt E142.lt
      have ne196 : b100 ≠ b182 := by rw [g182]; exact Nat.ne_of_lt V176.lt
      have ne197 : c142 ≠ b182 := by rw [g182]; exact Nat.ne_of_lt B142.lt
      have E198 := E155.ext E182
      have F199 := F156.ext E182
      have F200 := F157.ext E182
      have V201 := V158.ext E182
      have E202 := E159.ext E182
      have F203 := F160.ext E182
      have F204 := F161.ext E182
      have V205 := V162.ext E182
      have E206 := E163.ext E182
      have F207 := F164.ext E182
      have F208 := F165.ext E182
      have V209 := V166.ext E182
      have E210 := E167.ext E182
      have F211 := F168.ext E182
      have F212 := F169.ext E182
      have V213 := V170.ext E182
      have E214 := E171.ext E182
      have F215 := F172.ext E182
      have F216 := F173.ext E182
      have V217 := V174.ext E182
      have E218 := E142.ext E182
      have V219 := V176.ext E182
      have F220 := Fv142.ext E182
      have F221 := Fc142.ext E182
      have V222 := B142.ext E182
      have O223 := O177.ext E182
      have Sf224 := Safe.ext E182 Hd180.ch Sf178
      have Sf225 := Safe.ext E182 Hd180.ch Sf179
      have Sf226 := Safe.ext E182 Hd180.ch Sf183
      have Hd227 := Hd180.ext E182
      have Z228 : n0 ≤ h182.size := Nat.le_trans Z181 E182.1
      have F229 : Fld Z h182 b182 "com/example/vipool/vipool/http/HttpHead" "raw" "[B" .null := D182 (Or.inl (wd52 hw)) (ty := (.array .byte)) (by decide)
      have F230 : Fld Z h182 b182 "com/example/vipool/vipool/http/HttpHead" "spans" "[I" .null := D182 (Or.inl (wd55 hw)) (ty := (.array .int)) (by decide)
      have F231 : Fld Z h182 b182 "com/example/vipool/vipool/http/HttpHead" "used" "I" (.int (0 : Int32)) := D182 (Or.inl (wd62 hw)) (ty := .int) (by decide)
      have F232 : Fld Z h182 b182 "com/example/vipool/vipool/http/HttpHead" "fields" "I" (.int (0 : Int32)) := D182 (Or.inl (wd107 hw)) (ty := .int) (by decide)
      have F233 : Fld Z h182 b182 "com/example/vipool/vipool/http/HttpHead" "method" "Ljava/lang/String;" .null := D182 (Or.inl (wd114 hw)) (ty := (.object "java/lang/String")) (by decide)
      have F234 : Fld Z h182 b182 "com/example/vipool/vipool/http/HttpHead" "status" "I" (.int (0 : Int32)) := D182 (Or.inl (wd116 hw)) (ty := .int) (by decide)
      have F235 : Fld Z h182 b182 "com/example/vipool/vipool/http/HttpHead" "secondEnd" "I" (.int (0 : Int32)) := D182 (Or.inl (wd123 hw)) (ty := .int) (by decide)
      have F236 : Fld Z h182 b182 "com/example/vipool/vipool/http/HttpHead" "secondStart" "I" (.int (0 : Int32)) := D182 (Or.inl (wd125 hw)) (ty := .int) (by decide)
      have F237 : Fld Z h182 b182 "com/example/vipool/vipool/http/HttpHead" "request" "Z" (.int (0 : Int32)) := D182 (Or.inl (wd127 hw)) (ty := .boolean) (by decide)
      have F238 : Fld Z h182 b182 "com/example/vipool/vipool/http/HttpHead" "firstEnd" "I" (.int (0 : Int32)) := D182 (Or.inl (wd221 hw)) (ty := .int) (by decide)
      refine WP.dup (pc' := 98) at_97 rfl rfl ?_
      refine WP.callI (a := b182) (argsL := []) (rest := [(.ref b182)]) (wd := 1) (cl' := 16) (sl' := 16973) (pc' := 101) at_98 rfl rfl (wd47 hw) (wd48 hw) (wd46 hw) (wd49 hw) (by decide) (m_ini hw b182 h182 n0 Z228 O223 ge184 A182 F229 F230 F231 F232 F235 F236 F237 F233 F234) pd_33 rfl rfl rfl (Nat.le_of_eq rfl) (by decide) (by decide) rfl rfl (by decide) (by decide) ?_
      rintro v h239 ⟨rfl, rw239, sp239, K239, zr239, zs239, R239⟩
      have Sf240 : Safe Z consts_1 vm0 h182 rw239 := Safe.new zr239
      have Sf241 : Safe Z consts_1 vm0 h182 sp239 := Safe.new zs239
      have ne242 : s1 ≠ rw239 := Nat.ne_of_lt (Nat.lt_of_lt_of_le E198.lt zr239)
      have ne243 : c1 ≠ rw239 := Nat.ne_of_lt (Nat.lt_of_lt_of_le V201.lt zr239)
      have ne244 : s5 ≠ rw239 := Nat.ne_of_lt (Nat.lt_of_lt_of_le E202.lt zr239)
      have ne245 : c5 ≠ rw239 := Nat.ne_of_lt (Nat.lt_of_lt_of_le V205.lt zr239)
      have ne246 : s13 ≠ rw239 := Nat.ne_of_lt (Nat.lt_of_lt_of_le E206.lt zr239)
      have ne247 : c13 ≠ rw239 := Nat.ne_of_lt (Nat.lt_of_lt_of_le V209.lt zr239)
      have ne248 : s25 ≠ rw239 := Nat.ne_of_lt (Nat.lt_of_lt_of_le E210.lt zr239)
      have ne249 : c25 ≠ rw239 := Nat.ne_of_lt (Nat.lt_of_lt_of_le V213.lt zr239)
      have ne250 : s41 ≠ rw239 := Nat.ne_of_lt (Nat.lt_of_lt_of_le E214.lt zr239)
      have ne251 : c41 ≠ rw239 := Nat.ne_of_lt (Nat.lt_of_lt_of_le V217.lt zr239)
      have ne252 : b61 ≠ rw239 := Nat.ne_of_lt (Nat.lt_of_lt_of_le E218.lt zr239)
      have ne253 : b100 ≠ rw239 := Nat.ne_of_lt (Nat.lt_of_lt_of_le V219.lt zr239)
      have ne254 : c142 ≠ rw239 := Nat.ne_of_lt (Nat.lt_of_lt_of_le V222.lt zr239)
      have ne255 : b182 ≠ rw239 := Nat.ne_of_lt (Nat.lt_of_lt_of_le A182.lt zr239)
      have ne256 : s1 ≠ sp239 := Nat.ne_of_lt (Nat.lt_of_lt_of_le E198.lt zs239)
      have ne257 : c1 ≠ sp239 := Nat.ne_of_lt (Nat.lt_of_lt_of_le V201.lt zs239)
      have ne258 : s5 ≠ sp239 := Nat.ne_of_lt (Nat.lt_of_lt_of_le E202.lt zs239)
      have ne259 : c5 ≠ sp239 := Nat.ne_of_lt (Nat.lt_of_lt_of_le V205.lt zs239)
      have ne260 : s13 ≠ sp239 := Nat.ne_of_lt (Nat.lt_of_lt_of_le E206.lt zs239)
      have ne261 : c13 ≠ sp239 := Nat.ne_of_lt (Nat.lt_of_lt_of_le V209.lt zs239)
      have ne262 : s25 ≠ sp239 := Nat.ne_of_lt (Nat.lt_of_lt_of_le E210.lt zs239)
      have ne263 : c25 ≠ sp239 := Nat.ne_of_lt (Nat.lt_of_lt_of_le V213.lt zs239)
      have ne264 : s41 ≠ sp239 := Nat.ne_of_lt (Nat.lt_of_lt_of_le E214.lt zs239)
      have ne265 : c41 ≠ sp239 := Nat.ne_of_lt (Nat.lt_of_lt_of_le V217.lt zs239)
      have ne266 : b61 ≠ sp239 := Nat.ne_of_lt (Nat.lt_of_lt_of_le E218.lt zs239)
      have ne267 : b100 ≠ sp239 := Nat.ne_of_lt (Nat.lt_of_lt_of_le V219.lt zs239)
      have ne268 : c142 ≠ sp239 := Nat.ne_of_lt (Nat.lt_of_lt_of_le V222.lt zs239)
      have ne269 : b182 ≠ sp239 := Nat.ne_of_lt (Nat.lt_of_lt_of_le A182.lt zs239)
      have E270 := E198.keep K239
      have F271 := F199.keep K239 (ninS ne185 nin0)
      have F272 := F200.keep K239 (ninS ne185 nin0)
      have V273 := V201.keep K239 (ninS ne186 nin0)
      have E274 := E202.keep K239
      have F275 := F203.keep K239 (ninS ne187 nin0)
      have F276 := F204.keep K239 (ninS ne187 nin0)
      have V277 := V205.keep K239 (ninS ne188 nin0)
      have E278 := E206.keep K239
      have F279 := F207.keep K239 (ninS ne189 nin0)
      have F280 := F208.keep K239 (ninS ne189 nin0)
      have V281 := V209.keep K239 (ninS ne190 nin0)
      have E282 := E210.keep K239
      have F283 := F211.keep K239 (ninS ne191 nin0)
      have F284 := F212.keep K239 (ninS ne191 nin0)
      have V285 := V213.keep K239 (ninS ne192 nin0)
      have E286 := E214.keep K239
      have F287 := F215.keep K239 (ninS ne193 nin0)
      have F288 := F216.keep K239 (ninS ne193 nin0)
      have V289 := V217.keep K239 (ninS ne194 nin0)
      have E290 := E218.keep K239
      have V291 := V219.keep K239 (ninS ne196 nin0)
      have F292 := F220.keep K239 (ninS ne195 nin0)
      have F293 := F221.keep K239 (ninS ne195 nin0)
      have V294 := V222.keep K239 (ninS ne197 nin0)
      have E295 := A182.keep K239
      have O296 := O223.keep K239 (allS ge184 all0)
      have Sf297 := Safe.keep K239 (allS Sf226 all0) Hd227.ch Sf224
      have Sf298 := Safe.keep K239 (allS Sf226 all0) Hd227.ch Sf225
      have Sf299 := Safe.keep K239 (allS Sf226 all0) Hd227.ch Sf226
      have Sf300 := Safe.keep K239 (allS Sf226 all0) Hd227.ch Sf240
      have Sf301 := Safe.keep K239 (allS Sf226 all0) Hd227.ch Sf241
      have Hd302 := Hd227.keep K239 (allS Sf226 all0)
      have Z303 : n0 ≤ h239.size := Nat.le_trans Z228 K239.1
      refine WP.castS (st' := [(.ref b182)]) rfl ?_
      refine WP.astore (pc' := 103) at_101 rfl rfl (Ls' := #[.val (.int x0), .val (.int x1), .val (.int x2), .val (.int x3), .val (.int x4), .val (.int x5), .val (.int (0 : Int32)), .val (.int (0 : Int32)), .val (.ref s1), .val (.ref s5), .val (.ref s13), .val (.ref s25), .val (.ref s41), .val (.ref b61), .val (.ref b182), .unset, .unset, .unset]) rfl ?_
      refine WP.aload (pc' := 105) at_103 rfl rfl rfl ?_
      refine WP.aload (pc' := 107) at_105 rfl rfl rfl ?_
      refine WP.iload (pc' := 109) at_107 rfl rfl ?_
      have hc109 : (0 : Int32) = (0 : Int32) := by decide
      refine WP.ifc_eq (pc1 := 117) (pc2 := 112) at_109 (by decide) (by decide) rfl (fun _ => ?_) (fun k => absurd hc109 k)
      refine WP.aload (pc' := 119) at_117 rfl rfl rfl ?_
      refine WP.callV (a := b182) (K := "com/example/vipool/vipool/http/HttpHead") (argsL := [(.ref s1), (.ref s13)]) (rest := []) (wd := 0) (cl' := 16) (sl' := 16973) (pc' := 122) at_119 rfl (wd56 hw) (wd57 hw) (nfS (wd59 hw) rfl) (wd59 hw) (wd58 hw) (wd46 hw) (wd60 hw) (by decide) R239.2.1 (m_add hw b182 s1 s13 h239 n0 Z303 O296 cs S_CS hcs fv hfv S_FM 512 rw239 sp239 (0 : Int32) (0 : Int32) (fun _ => 0) (fun _ => 0) R239 c1 1 (fun _ => cv ch1) E270 F271 F272 V273 c13 1 (fun _ => cv ch3) E278 F279 F280 V281 ne185 ne242 ne256 ne186 ne243 ne257 ne189 ne246 ne260 ne190 ne247 ne261 0 0 (by decide) (by decide) (by decide) (by decide) (by decide) (fun _ _ => cv_cv _) (fun _ _ => cv_cv _) (by decide) (by decide)) pd_34 rfl rfl rfl (Nat.le_of_eq rfl) (by decide) (by decide) rfl rfl (by decide) (by decide) ?_
      rintro v h304 ⟨rfl, K304, R304⟩
      have E305 := E270.keep K304
      have F306 := F271.keep K304 (ninS ne185 (ninS ne242 (ninS ne256 nin0)))
      have F307 := F272.keep K304 (ninS ne185 (ninS ne242 (ninS ne256 nin0)))
      have V308 := V273.keep K304 (ninS ne186 (ninS ne243 (ninS ne257 nin0)))
      have E309 := E274.keep K304
      have F310 := F275.keep K304 (ninS ne187 (ninS ne244 (ninS ne258 nin0)))
      have F311 := F276.keep K304 (ninS ne187 (ninS ne244 (ninS ne258 nin0)))
      have V312 := V277.keep K304 (ninS ne188 (ninS ne245 (ninS ne259 nin0)))
      have E313 := E278.keep K304
      have F314 := F279.keep K304 (ninS ne189 (ninS ne246 (ninS ne260 nin0)))
      have F315 := F280.keep K304 (ninS ne189 (ninS ne246 (ninS ne260 nin0)))
      have V316 := V281.keep K304 (ninS ne190 (ninS ne247 (ninS ne261 nin0)))
      have E317 := E282.keep K304
      have F318 := F283.keep K304 (ninS ne191 (ninS ne248 (ninS ne262 nin0)))
      have F319 := F284.keep K304 (ninS ne191 (ninS ne248 (ninS ne262 nin0)))
      have V320 := V285.keep K304 (ninS ne192 (ninS ne249 (ninS ne263 nin0)))
      have E321 := E286.keep K304
      have F322 := F287.keep K304 (ninS ne193 (ninS ne250 (ninS ne264 nin0)))
      have F323 := F288.keep K304 (ninS ne193 (ninS ne250 (ninS ne264 nin0)))
      have V324 := V289.keep K304 (ninS ne194 (ninS ne251 (ninS ne265 nin0)))
      have E325 := E290.keep K304
      have V326 := V291.keep K304 (ninS ne196 (ninS ne253 (ninS ne267 nin0)))
      have F327 := F292.keep K304 (ninS ne195 (ninS ne252 (ninS ne266 nin0)))
      have F328 := F293.keep K304 (ninS ne195 (ninS ne252 (ninS ne266 nin0)))
      have V329 := V294.keep K304 (ninS ne197 (ninS ne254 (ninS ne268 nin0)))
      have E330 := E295.keep K304
      have O331 := O296.keep K304 (allS ge184 (allS R239.1.2.1 (allS R239.1.2.2.1 all0)))
      have Sf332 := Safe.keep K304 (allS Sf299 (allS Sf300 (allS Sf301 all0))) Hd302.ch Sf297
      have Sf333 := Safe.keep K304 (allS Sf299 (allS Sf300 (allS Sf301 all0))) Hd302.ch Sf298
      have Sf334 := Safe.keep K304 (allS Sf299 (allS Sf300 (allS Sf301 all0))) Hd302.ch Sf299
      have Sf335 := Safe.keep K304 (allS Sf299 (allS Sf300 (allS Sf301 all0))) Hd302.ch Sf300
      have Sf336 := Safe.keep K304 (allS Sf299 (allS Sf300 (allS Sf301 all0))) Hd302.ch Sf301
      have Hd337 := Hd302.keep K304 (allS Sf299 (allS Sf300 (allS Sf301 all0)))
      have Z338 : n0 ≤ h304.size := Nat.le_trans Z303 K304.1
      refine WP.castS (st' := []) rfl ?_
      refine WP.iload (pc' := 124) at_122 rfl rfl ?_
      have hc124 : (0 : Int32) = (0 : Int32) := by decide
      refine WP.ifc_eq (pc1 := 136) (pc2 := 127) at_124 (by decide) (by decide) rfl (fun _ => ?_) (fun k => absurd hc124 k)
      have sn339 := Hd337.sn
      refine WP.aload (pc' := 138) at_136 rfl rfl rfl ?_
      refine WP.callV (a := b182) (K := "com/example/vipool/vipool/http/HttpHead") (argsL := []) (rest := []) (wd := 0) (cl' := 16) (sl' := 16973) (pc' := 141) at_138 rfl (wd108 hw) (wd109 hw) (nfS (wd111 hw) rfl) (wd111 hw) (wd110 hw) (wd46 hw) (wd112 hw) (by decide) R304.2.1 (m_clr0 hw b182 h304 n0 Z338 O331 512 rw239 sp239 (((0 : Int32) + (1 : Nat).toInt32) + (1 : Nat).toInt32) ((0 : Int32) + 1) (lay (lay (fun _ => 0) 0 1 (fun _ => cv ch1)) (0 + 1) 1 (fun _ => cv ch3)) (sp4 (fun _ => 0) 0 (0 : Int32) ((0 : Int32) + (1 : Nat).toInt32) ((0 : Int32) + (1 : Nat).toInt32) (((0 : Int32) + (1 : Nat).toInt32) + (1 : Nat).toInt32)) R304 (by decide)) pd_10 rfl rfl rfl (Nat.le_of_eq rfl) (by decide) (by decide) rfl rfl (by decide) (by decide) ?_
      rintro v h340 ⟨rfl, K340, R340⟩
      have E341 := E305.keep K340
      have F342 := F306.keep K340 (ninS ne185 nin0)
      have F343 := F307.keep K340 (ninS ne185 nin0)
      have V344 := V308.keep K340 (ninS ne186 nin0)
      have E345 := E309.keep K340
      have F346 := F310.keep K340 (ninS ne187 nin0)
      have F347 := F311.keep K340 (ninS ne187 nin0)
      have V348 := V312.keep K340 (ninS ne188 nin0)
      have E349 := E313.keep K340
      have F350 := F314.keep K340 (ninS ne189 nin0)
      have F351 := F315.keep K340 (ninS ne189 nin0)
      have V352 := V316.keep K340 (ninS ne190 nin0)
      have E353 := E317.keep K340
      have F354 := F318.keep K340 (ninS ne191 nin0)
      have F355 := F319.keep K340 (ninS ne191 nin0)
      have V356 := V320.keep K340 (ninS ne192 nin0)
      have E357 := E321.keep K340
      have F358 := F322.keep K340 (ninS ne193 nin0)
      have F359 := F323.keep K340 (ninS ne193 nin0)
      have V360 := V324.keep K340 (ninS ne194 nin0)
      have E361 := E325.keep K340
      have V362 := V326.keep K340 (ninS ne196 nin0)
      have F363 := F327.keep K340 (ninS ne195 nin0)
      have F364 := F328.keep K340 (ninS ne195 nin0)
      have V365 := V329.keep K340 (ninS ne197 nin0)
      have E366 := E330.keep K340
      have O367 := O331.keep K340 (allS ge184 all0)
      have sn368 := sn339.grow K340.1
      have Z369 : n0 ≤ h340.size := Nat.le_trans Z338 K340.1
      refine WP.castS (st' := [(.int (0 : Int32))]) rfl ?_
      refine WP.istore (pc' := 143) at_141 rfl (Ls' := #[.val (.int x0), .val (.int x1), .val (.int x2), .val (.int x3), .val (.int x4), .val (.int x5), .val (.int (0 : Int32)), .val (.int (0 : Int32)), .val (.ref s1), .val (.ref s5), .val (.ref s13), .val (.ref s25), .val (.ref s41), .val (.ref b61), .val (.ref b182), .val (.int (0 : Int32)), .unset, .unset]) rfl ?_
      refine WP.iload (pc' := 145) at_143 rfl rfl ?_
      have hc145 : (0 : Int32) = (0 : Int32) := by decide
      refine WP.ifc_eq (pc1 := 157) (pc2 := 148) at_145 (by decide) (by decide) rfl (fun _ => ?_) (fun k => absurd hc145 k)
      refine WP.iconst (pc' := 158) at_157 rfl (z := 0) rfl ?_
      refine WP.istore (pc' := 160) at_158 rfl (Ls' := #[.val (.int x0), .val (.int x1), .val (.int x2), .val (.int x3), .val (.int x4), .val (.int x5), .val (.int (0 : Int32)), .val (.int (0 : Int32)), .val (.ref s1), .val (.ref s5), .val (.ref s13), .val (.ref s25), .val (.ref s41), .val (.ref b61), .val (.ref b182), .val (.int (0 : Int32)), .val (.int (0 : Int32)), .unset]) rfl ?_
      refine WP.iload (pc' := 162) at_160 rfl rfl ?_
      refine WP.iload (pc' := 164) at_162 rfl rfl ?_
      have hc164 : (0 : Int32) = (0 : Int32) := by decide
      refine WP.icmp_eq (pc1 := 169) (pc2 := 167) at_164 (by decide) (by decide) rfl (fun _ => ?_) (fun k => absurd hc164 k)
      refine WP.aload (pc' := 171) at_169 rfl rfl rfl ?_
      refine WP.callV (a := b182) (K := "com/example/vipool/vipool/http/HttpHead") (argsL := []) (rest := []) (wd := 0) (cl' := 16) (sl' := 16973) (pc' := 174) at_171 rfl (wd117 hw) (wd118 hw) (nfS (wd120 hw) rfl) (wd120 hw) (wd119 hw) (wd46 hw) (wd121 hw) (by decide) R340.2.1 (m_size hw b182 h340 n0 512 rw239 sp239 (0 : Int32) (0 : Int32) (lay (lay (fun _ => 0) 0 1 (fun _ => cv ch1)) (0 + 1) 1 (fun _ => cv ch3)) (sp4 (fun _ => 0) 0 (0 : Int32) ((0 : Int32) + (1 : Nat).toInt32) ((0 : Int32) + (1 : Nat).toInt32) (((0 : Int32) + (1 : Nat).toInt32) + (1 : Nat).toInt32)) R340 0 (by decide) (by decide)) pd_13 rfl rfl rfl (Nat.le_of_eq rfl) (by decide) (by decide) rfl rfl (by decide) (by decide) ?_
      rintro v hh370 ⟨rfl, he370⟩
      rw [he370]
      refine WP.castS (st' := [(.int (sz (sp4 (fun _ => 0) 0 (0 : Int32) ((0 : Int32) + (1 : Nat).toInt32) ((0 : Int32) + (1 : Nat).toInt32) (((0 : Int32) + (1 : Nat).toInt32) + (1 : Nat).toInt32)) 0))]) rfl ?_
      refine WP.bipush (pc' := 176) at_174 rfl (z := 17) rfl ?_
      have hc176 : (sz (sp4 (fun _ => 0) 0 (0 : Int32) ((0 : Int32) + (1 : Nat).toInt32) ((0 : Int32) + (1 : Nat).toInt32) (((0 : Int32) + (1 : Nat).toInt32) + (1 : Nat).toInt32)) 0) = (17 : Int32) := rfl
      refine WP.icmp_eq (pc1 := 181) (pc2 := 179) at_176 (by decide) (by decide) rfl (fun _ => ?_) (fun k => absurd hc176 k)
      refine WP.aload (pc' := 183) at_181 rfl rfl rfl ?_
      refine WP.aload (pc' := 185) at_183 rfl rfl rfl ?_
      refine WP.aload (pc' := 187) at_185 rfl rfl rfl ?_
      refine WP.callV (a := b182) (K := "com/example/vipool/vipool/http/HttpHead") (argsL := [(.ref s25), (.ref s41)]) (rest := []) (wd := 0) (cl' := 16) (sl' := 16973) (pc' := 190) at_187 rfl (wd56 hw) (wd57 hw) (nfS (wd59 hw) rfl) (wd59 hw) (wd58 hw) (wd46 hw) (wd60 hw) (by decide) R340.2.1 (m_add hw b182 s25 s41 h340 n0 Z369 O367 cs S_CS hcs fv hfv S_FM 512 rw239 sp239 (0 : Int32) (0 : Int32) (lay (lay (fun _ => 0) 0 1 (fun _ => cv ch1)) (0 + 1) 1 (fun _ => cv ch3)) (sp4 (fun _ => 0) 0 (0 : Int32) ((0 : Int32) + (1 : Nat).toInt32) ((0 : Int32) + (1 : Nat).toInt32) (((0 : Int32) + (1 : Nat).toInt32) + (1 : Nat).toInt32)) R340 c25 1 (fun _ => cv ch4) E353 F354 F355 V356 c41 1 (fun _ => cv ch5) E357 F358 F359 V360 ne191 ne248 ne262 ne192 ne249 ne263 ne193 ne250 ne264 ne194 ne251 ne265 0 0 (by decide) (by decide) (by decide) (by decide) (by decide) (fun _ _ => cv_cv _) (fun _ _ => cv_cv _) (by decide) (by decide)) pd_34 rfl rfl rfl (Nat.le_of_eq rfl) (by decide) (by decide) rfl rfl (by decide) (by decide) ?_
      rintro v h371 ⟨rfl, K371, R371⟩
      have E372 := E341.keep K371
      have F373 := F342.keep K371 (ninS ne185 (ninS ne242 (ninS ne256 nin0)))
      have F374 := F343.keep K371 (ninS ne185 (ninS ne242 (ninS ne256 nin0)))
      have V375 := V344.keep K371 (ninS ne186 (ninS ne243 (ninS ne257 nin0)))
      have E376 := E345.keep K371
      have F377 := F346.keep K371 (ninS ne187 (ninS ne244 (ninS ne258 nin0)))
      have F378 := F347.keep K371 (ninS ne187 (ninS ne244 (ninS ne258 nin0)))
      have V379 := V348.keep K371 (ninS ne188 (ninS ne245 (ninS ne259 nin0)))
      have E380 := E349.keep K371
      have F381 := F350.keep K371 (ninS ne189 (ninS ne246 (ninS ne260 nin0)))
      have F382 := F351.keep K371 (ninS ne189 (ninS ne246 (ninS ne260 nin0)))
      have V383 := V352.keep K371 (ninS ne190 (ninS ne247 (ninS ne261 nin0)))
      have E384 := E353.keep K371
      have F385 := F354.keep K371 (ninS ne191 (ninS ne248 (ninS ne262 nin0)))
      have F386 := F355.keep K371 (ninS ne191 (ninS ne248 (ninS ne262 nin0)))
      have V387 := V356.keep K371 (ninS ne192 (ninS ne249 (ninS ne263 nin0)))
      have E388 := E357.keep K371
      have F389 := F358.keep K371 (ninS ne193 (ninS ne250 (ninS ne264 nin0)))
      have F390 := F359.keep K371 (ninS ne193 (ninS ne250 (ninS ne264 nin0)))
      have V391 := V360.keep K371 (ninS ne194 (ninS ne251 (ninS ne265 nin0)))
      have E392 := E361.keep K371
      have V393 := V362.keep K371 (ninS ne196 (ninS ne253 (ninS ne267 nin0)))
      have F394 := F363.keep K371 (ninS ne195 (ninS ne252 (ninS ne266 nin0)))
      have F395 := F364.keep K371 (ninS ne195 (ninS ne252 (ninS ne266 nin0)))
      have V396 := V365.keep K371 (ninS ne197 (ninS ne254 (ninS ne268 nin0)))
      have E397 := E366.keep K371
      have O398 := O367.keep K371 (allS ge184 (allS R239.1.2.1 (allS R239.1.2.2.1 all0)))
      have sn399 := sn368.grow K371.1
      have Z400 : n0 ≤ h371.size := Nat.le_trans Z369 K371.1
      refine WP.castS (st' := []) rfl ?_
      refine WP.aload (pc' := 192) at_190 rfl rfl rfl ?_
      refine WP.aload (pc' := 194) at_192 rfl rfl rfl ?_
      have nm401 : NM (lay (lay (lay (lay (fun _ => 0) 0 1 (fun _ => cv ch1)) (0 + 1) 1 (fun _ => cv ch3)) 0 1 (fun _ => cv ch4)) (0 + 1) 1 (fun _ => cv ch5)) 0 1 1 (fun _ => cv ch4) := ⟨rfl, fun i hi => by rw [show i = 0 by omega, lay_out (by omega), lay_in (by omega)]; exact Or.inl (chv_cv7 hb4)⟩
      refine WP.callV (a := b182) (K := "com/example/vipool/vipool/http/HttpHead") (argsL := [(.ref s25)]) (rest := []) (wd := 0) (cl' := 18) (sl' := 16978) (pc' := 197) at_194 rfl (wd128 hw) (wd129 hw) (nfS (wd131 hw) rfl) (wd131 hw) (wd130 hw) (wd46 hw) (wd132 hw) (by decide) R371.2.1 (m_val hw b182 s25 h371 n0 Z400 O398 cs S_CS hcs fv hfv S_FM iso utf hiu S_II S_UI S_IS X_IS 512 rw239 sp239 (((0 : Int32) + (1 : Nat).toInt32) + (1 : Nat).toInt32) ((0 : Int32) + 1) (lay (lay (lay (lay (fun _ => 0) 0 1 (fun _ => cv ch1)) (0 + 1) 1 (fun _ => cv ch3)) 0 1 (fun _ => cv ch4)) (0 + 1) 1 (fun _ => cv ch5)) (sp4 (sp4 (fun _ => 0) 0 (0 : Int32) ((0 : Int32) + (1 : Nat).toInt32) ((0 : Int32) + (1 : Nat).toInt32) (((0 : Int32) + (1 : Nat).toInt32) + (1 : Nat).toInt32)) 0 (0 : Int32) ((0 : Int32) + (1 : Nat).toInt32) ((0 : Int32) + (1 : Nat).toInt32) (((0 : Int32) + (1 : Nat).toInt32) + (1 : Nat).toInt32)) R371 (by decide) (by decide) c25 1 (fun _ => cv ch4) E384 F385 F386 V387 (by decide) 0 1 rfl (show (0 + (1 : Nat).toInt32 : Int32).toInt = ((1 : Nat) : Int) from by decide) (by decide) (by decide) nm401 (by decide) (show (0 + (1 : Nat).toInt32 : Int32) = 1 from by decide) (show (0 + (1 : Nat).toInt32 + (1 : Nat).toInt32 : Int32) = 2 from by decide)) pd_35 rfl rfl rfl (Nat.le_of_eq rfl) (by decide) (by decide) rfl rfl (by decide) (by decide) ?_
      rintro v h401 ⟨s401, c401, rfl, sz401, K401, E401, Fv401, Fc401, B401⟩
      have ne402 : s1 ≠ s401 := Nat.ne_of_lt (Nat.lt_of_lt_of_le E372.lt sz401)
      have ne403 : c1 ≠ s401 := Nat.ne_of_lt (Nat.lt_of_lt_of_le V375.lt sz401)
      have ne404 : s5 ≠ s401 := Nat.ne_of_lt (Nat.lt_of_lt_of_le E376.lt sz401)
      have ne405 : c5 ≠ s401 := Nat.ne_of_lt (Nat.lt_of_lt_of_le V379.lt sz401)
      have ne406 : s13 ≠ s401 := Nat.ne_of_lt (Nat.lt_of_lt_of_le E380.lt sz401)
      have ne407 : c13 ≠ s401 := Nat.ne_of_lt (Nat.lt_of_lt_of_le V383.lt sz401)
      have ne408 : s25 ≠ s401 := Nat.ne_of_lt (Nat.lt_of_lt_of_le E384.lt sz401)
      have ne409 : c25 ≠ s401 := Nat.ne_of_lt (Nat.lt_of_lt_of_le V387.lt sz401)
      have ne410 : s41 ≠ s401 := Nat.ne_of_lt (Nat.lt_of_lt_of_le E388.lt sz401)
      have ne411 : c41 ≠ s401 := Nat.ne_of_lt (Nat.lt_of_lt_of_le V391.lt sz401)
      have ne412 : b61 ≠ s401 := Nat.ne_of_lt (Nat.lt_of_lt_of_le E392.lt sz401)
      have ne413 : b100 ≠ s401 := Nat.ne_of_lt (Nat.lt_of_lt_of_le V393.lt sz401)
      have ne414 : c142 ≠ s401 := Nat.ne_of_lt (Nat.lt_of_lt_of_le V396.lt sz401)
      have ne415 : b182 ≠ s401 := Nat.ne_of_lt (Nat.lt_of_lt_of_le E397.lt sz401)
      have E416 := E372.keep K401
      have F417 := F373.keep K401 nin0
      have F418 := F374.keep K401 nin0
      have V419 := V375.keep K401 nin0
      have E420 := E376.keep K401
      have F421 := F377.keep K401 nin0
      have F422 := F378.keep K401 nin0
      have V423 := V379.keep K401 nin0
      have E424 := E380.keep K401
      have F425 := F381.keep K401 nin0
      have F426 := F382.keep K401 nin0
      have V427 := V383.keep K401 nin0
      have E428 := E384.keep K401
      have F429 := F385.keep K401 nin0
      have F430 := F386.keep K401 nin0
      have V431 := V387.keep K401 nin0
      have E432 := E388.keep K401
      have F433 := F389.keep K401 nin0
      have F434 := F390.keep K401 nin0
      have V435 := V391.keep K401 nin0
      have E436 := E392.keep K401
      have V437 := V393.keep K401 nin0
      have F438 := F394.keep K401 nin0
      have F439 := F395.keep K401 nin0
      have V440 := V396.keep K401 nin0
      have E441 := E397.keep K401
      have O442 := O398.keep K401 all0
      have sn443 := sn399.grow K401.1
      have Z444 : n0 ≤ h401.size := Nat.le_trans Z400 K401.1
      have R401 := R371.keep0 K401
      refine WP.castS (st' := [(.ref s401)]) rfl ?_
      refine WP.astore (pc' := 199) at_197 rfl rfl (Ls' := #[.val (.int x0), .val (.int x1), .val (.int x2), .val (.int x3), .val (.int x4), .val (.int x5), .val (.int (0 : Int32)), .val (.int (0 : Int32)), .val (.ref s1), .val (.ref s5), .val (.ref s13), .val (.ref s25), .val (.ref s41), .val (.ref b61), .val (.ref b182), .val (.int (0 : Int32)), .val (.int (0 : Int32)), .val (.ref s401)]) rfl ?_
      refine WP.aload (pc' := 201) at_199 rfl rfl rfl ?_
      refine WP.ifnullN (pc' := 204) at_201 rfl ?_
      refine WP.aload (pc' := 206) at_204 rfl rfl rfl ?_
      refine WP.aload (pc' := 208) at_206 rfl rfl rfl ?_
      refine WP.callV (a := s401) (K := "java/lang/String") (argsL := [(.ref s41)]) (rest := []) (wd := 0) (cl' := 18) (sl' := 16978) (pc' := 211) at_208 rfl (wd191 hw) (wd192 hw) (nfS (wd194 hw) rfl) (wd194 hw) (wd193 hw) (wd2 hw) (wd195 hw) (by decide) E401 (s_eq hw s401 s41 h401 n0 c401 c41 1 1 (fun _ => (lay (lay (lay (lay (fun _ => 0) 0 1 (fun _ => cv ch1)) (0 + 1) 1 (fun _ => cv ch3)) 0 1 (fun _ => cv ch4)) (0 + 1) 1 (fun _ => cv ch5)) 1) (fun _ => cv ch5) E401 Fv401 Fc401 E432 F433 F434 B401 V435 (by omega) (by omega) (Ne.symm ne410) cs (S_CS.ext O442.2) hcs) pd_36 rfl rfl rfl (Nat.le_of_eq rfl) (by decide) (by decide) rfl rfl (by decide) (by decide) ?_
      rintro v hh445 ⟨⟨rfl, qe445⟩ | ⟨rfl, qe445⟩, he445⟩ <;> rw [he445]
      · skip
        refine WP.castS (st' := [(.int (1 : Int32))]) rfl ?_
        have hc211 : ¬ (1 : Int32) = (0 : Int32) := by decide
        refine WP.ifc_ne (pc1 := 216) (pc2 := 214) at_211 (by decide) (by decide) rfl (fun _ => ?_) (fun k => absurd k hc211)
        refine WP.aload (pc' := 218) at_216 rfl rfl rfl ?_
        refine WP.callV (a := b182) (K := "com/example/vipool/vipool/http/HttpHead") (argsL := []) (rest := []) (wd := 0) (cl' := 18) (sl' := 16978) (pc' := 221) at_218 rfl (wd117 hw) (wd118 hw) (nfS (wd120 hw) rfl) (wd120 hw) (wd119 hw) (wd46 hw) (wd121 hw) (by decide) R401.2.1 (m_size hw b182 h401 n0 512 rw239 sp239 (((0 : Int32) + (1 : Nat).toInt32) + (1 : Nat).toInt32) ((0 : Int32) + 1) (lay (lay (lay (lay (fun _ => 0) 0 1 (fun _ => cv ch1)) (0 + 1) 1 (fun _ => cv ch3)) 0 1 (fun _ => cv ch4)) (0 + 1) 1 (fun _ => cv ch5)) (sp4 (sp4 (fun _ => 0) 0 (0 : Int32) ((0 : Int32) + (1 : Nat).toInt32) ((0 : Int32) + (1 : Nat).toInt32) (((0 : Int32) + (1 : Nat).toInt32) + (1 : Nat).toInt32)) 0 (0 : Int32) ((0 : Int32) + (1 : Nat).toInt32) ((0 : Int32) + (1 : Nat).toInt32) (((0 : Int32) + (1 : Nat).toInt32) + (1 : Nat).toInt32)) R401 1 (by decide) (by decide)) pd_13 rfl rfl rfl (Nat.le_of_eq rfl) (by decide) (by decide) rfl rfl (by decide) (by decide) ?_
        rintro v hh446 ⟨rfl, he446⟩
        rw [he446]
        refine WP.castS (st' := [(.int (sz (sp4 (sp4 (fun _ => 0) 0 (0 : Int32) ((0 : Int32) + (1 : Nat).toInt32) ((0 : Int32) + (1 : Nat).toInt32) (((0 : Int32) + (1 : Nat).toInt32) + (1 : Nat).toInt32)) 0 (0 : Int32) ((0 : Int32) + (1 : Nat).toInt32) ((0 : Int32) + (1 : Nat).toInt32) (((0 : Int32) + (1 : Nat).toInt32) + (1 : Nat).toInt32)) 1))]) rfl ?_
        refine WP.bipush (pc' := 223) at_221 rfl (z := 23) rfl ?_
        have hc223 : (sz (sp4 (sp4 (fun _ => 0) 0 (0 : Int32) ((0 : Int32) + (1 : Nat).toInt32) ((0 : Int32) + (1 : Nat).toInt32) (((0 : Int32) + (1 : Nat).toInt32) + (1 : Nat).toInt32)) 0 (0 : Int32) ((0 : Int32) + (1 : Nat).toInt32) ((0 : Int32) + (1 : Nat).toInt32) (((0 : Int32) + (1 : Nat).toInt32) + (1 : Nat).toInt32)) 1) = (23 : Int32) := (sz_n (k := 0) (show ¬ (0 : Int32) = -1 from by decide)).symm.trans (show (17 : Int32) + ((0 + (1 : Nat).toInt32) - 0 + 2 + ((0 + (1 : Nat).toInt32) + (1 : Nat).toInt32) - (0 + (1 : Nat).toInt32) + 2) = 23 from by decide)
        refine WP.icmp_eq (pc1 := 228) (pc2 := 226) at_223 (by decide) (by decide) rfl (fun _ => ?_) (fun k => absurd hc223 k)
        refine WP.aload (pc' := 230) at_228 rfl rfl rfl ?_
        refine WP.callV (a := b182) (K := "com/example/vipool/vipool/http/HttpHead") (argsL := []) (rest := []) (wd := 0) (cl' := 18) (sl' := 16978) (pc' := 233) at_230 rfl (wd108 hw) (wd109 hw) (nfS (wd111 hw) rfl) (wd111 hw) (wd110 hw) (wd46 hw) (wd112 hw) (by decide) R401.2.1 (m_clr0 hw b182 h401 n0 Z444 O442 512 rw239 sp239 (((0 : Int32) + (1 : Nat).toInt32) + (1 : Nat).toInt32) ((0 : Int32) + 1) (lay (lay (lay (lay (fun _ => 0) 0 1 (fun _ => cv ch1)) (0 + 1) 1 (fun _ => cv ch3)) 0 1 (fun _ => cv ch4)) (0 + 1) 1 (fun _ => cv ch5)) (sp4 (sp4 (fun _ => 0) 0 (0 : Int32) ((0 : Int32) + (1 : Nat).toInt32) ((0 : Int32) + (1 : Nat).toInt32) (((0 : Int32) + (1 : Nat).toInt32) + (1 : Nat).toInt32)) 0 (0 : Int32) ((0 : Int32) + (1 : Nat).toInt32) ((0 : Int32) + (1 : Nat).toInt32) (((0 : Int32) + (1 : Nat).toInt32) + (1 : Nat).toInt32)) R401 (by decide)) pd_10 rfl rfl rfl (Nat.le_of_eq rfl) (by decide) (by decide) rfl rfl (by decide) (by decide) ?_
        rintro v h447 ⟨rfl, K447, R447⟩
        have O448 := O442.keep K447 (allS ge184 all0)
        have sn449 := sn443.grow K447.1
        have Z450 : n0 ≤ h447.size := Nat.le_trans Z444 K447.1
        refine WP.castS (st' := [(.int (0 : Int32))]) rfl ?_
        have hc233 : (0 : Int32) = (0 : Int32) := by decide
        refine WP.ifc_ne (pc1 := 240) (pc2 := 236) at_233 (by decide) (by decide) rfl (fun k => absurd hc233 k) (fun _ => ?_)
        refine WP.iconst (pc' := 237) at_236 rfl (z := 1) rfl ?_
        refine WP.goto (pc' := 241) at_237 (by decide) (by decide) ?_
        refine WP.nretW (t := .boolean) at_241 rfl (by simp) rfl sn449 (by decide) (by decide) rfl
      · exact absurd (show Same 1 1 (fun _ => (lay (lay (lay (lay (fun _ => 0) 0 1 (fun _ => cv ch1)) (0 + 1) 1 (fun _ => cv ch3)) 0 1 (fun _ => cv ch4)) (0 + 1) 1 (fun _ => cv ch5)) 1) (fun _ => cv ch5) from ⟨rfl, fun i hi => (lay_in (by omega)).trans rfl⟩) qe445
    · intro hc16
      refine WP.iconst (pc' := 20) at_19 rfl (z := 1) rfl ?_
      refine WP.goto (pc' := 24) at_20 (by decide) (by decide) ?_
      refine WP.istore (pc' := 26) at_24 rfl (Ls' := #[.val (.int x0), .val (.int x1), .val (.int x2), .val (.int x3), .val (.int x4), .val (.int x5), .val (.int (0 : Int32)), .val (.int (1 : Int32)), .unset, .unset, .unset, .unset, .unset, .unset, .unset, .unset, .unset, .unset]) rfl ?_
      refine WP.iloadN (pc' := 27) at_26 rfl rfl ?_
      refine WP.bipush (pc' := 29) at_27 rfl (z := 127) rfl ?_
      refine WP.iand (pc' := 30) at_29 rfl ?_
      refine WP.i2c (pc' := 31) at_30 rfl ?_
      have hb1 := m7 x1
      generalize ((x1 &&& (127 : Int32)).toUInt32.toUInt16.toUInt32.toInt32) = ch1 at hb1 ⊢
      refine WP.callS (argsL := [(.int ch1)]) (rest := []) (wd := 0) (cl' := 2) (sl' := 5) (pc' := 34) at_31 rfl (wd0 hw) (wd1 hw) (wd2 hw) (wd3 hw) (by decide) (s_vo hw ch1 h0 n0 Z0 ⟨by omega, by omega⟩ cs (S_CS.ext O0.2) hcs) pd_31 rfl rfl rfl (Nat.le_of_eq rfl) (by decide) (by decide) rfl rfl (by decide) (by decide) ?_
      rintro v h451 ⟨s451, c451, rfl, K451, E451, Fv451, Fc451, B451⟩
      have O452 := O0.keep K451 all0
      have Hd453 := Hd0.keep K451 all0
      have Z454 : n0 ≤ h451.size := Nat.le_trans Z0 K451.1
      refine WP.castS (st' := [(.ref s451)]) rfl ?_
      refine WP.astore (pc' := 36) at_34 rfl rfl (Ls' := #[.val (.int x0), .val (.int x1), .val (.int x2), .val (.int x3), .val (.int x4), .val (.int x5), .val (.int (0 : Int32)), .val (.int (1 : Int32)), .val (.ref s451), .unset, .unset, .unset, .unset, .unset, .unset, .unset, .unset, .unset]) rfl ?_
      refine WP.iloadN (pc' := 37) at_36 rfl rfl ?_
      refine WP.bipush (pc' := 39) at_37 rfl (z := 127) rfl ?_
      refine WP.iand (pc' := 40) at_39 rfl ?_
      refine WP.i2c (pc' := 41) at_40 rfl ?_
      have hb2 := m7 x2
      generalize ((x2 &&& (127 : Int32)).toUInt32.toUInt16.toUInt32.toInt32) = ch2 at hb2 ⊢
      refine WP.callS (argsL := [(.int ch2)]) (rest := []) (wd := 0) (cl' := 4) (sl' := 10) (pc' := 44) at_41 rfl (wd0 hw) (wd1 hw) (wd2 hw) (wd3 hw) (by decide) (s_vo hw ch2 h451 n0 Z454 ⟨by omega, by omega⟩ cs (S_CS.ext O452.2) hcs) pd_31 rfl rfl rfl (Nat.le_of_eq rfl) (by decide) (by decide) rfl rfl (by decide) (by decide) ?_
      rintro v h455 ⟨s455, c455, rfl, K455, E455, Fv455, Fc455, B455⟩
      have E456 := E451.keep K455
      have F457 := Fv451.keep K455 nin0
      have F458 := Fc451.keep K455 nin0
      have V459 := B451.keep K455 nin0
      have O460 := O452.keep K455 all0
      have Hd461 := Hd453.keep K455 all0
      have Z462 : n0 ≤ h455.size := Nat.le_trans Z454 K455.1
      refine WP.castS (st' := [(.ref s455)]) rfl ?_
      refine WP.astore (pc' := 46) at_44 rfl rfl (Ls' := #[.val (.int x0), .val (.int x1), .val (.int x2), .val (.int x3), .val (.int x4), .val (.int x5), .val (.int (0 : Int32)), .val (.int (1 : Int32)), .val (.ref s451), .val (.ref s455), .unset, .unset, .unset, .unset, .unset, .unset, .unset, .unset]) rfl ?_
      refine WP.iloadN (pc' := 47) at_46 rfl rfl ?_
      refine WP.sipush (pc' := 50) at_47 rfl (z := 255) rfl ?_
      refine WP.iand (pc' := 51) at_50 rfl ?_
      refine WP.i2c (pc' := 52) at_51 rfl ?_
      have hb3 := m8 x3
      generalize ((x3 &&& (255 : Int32)).toUInt32.toUInt16.toUInt32.toInt32) = ch3 at hb3 ⊢
      refine WP.callS (argsL := [(.int ch3)]) (rest := []) (wd := 0) (cl' := 6) (sl' := 15) (pc' := 55) at_52 rfl (wd0 hw) (wd1 hw) (wd2 hw) (wd3 hw) (by decide) (s_vo hw ch3 h455 n0 Z462 ⟨by omega, by omega⟩ cs (S_CS.ext O460.2) hcs) pd_31 rfl rfl rfl (Nat.le_of_eq rfl) (by decide) (by decide) rfl rfl (by decide) (by decide) ?_
      rintro v h463 ⟨s463, c463, rfl, K463, E463, Fv463, Fc463, B463⟩
      have E464 := E456.keep K463
      have F465 := F457.keep K463 nin0
      have F466 := F458.keep K463 nin0
      have V467 := V459.keep K463 nin0
      have E468 := E455.keep K463
      have F469 := Fv455.keep K463 nin0
      have F470 := Fc455.keep K463 nin0
      have V471 := B455.keep K463 nin0
      have O472 := O460.keep K463 all0
      have Hd473 := Hd461.keep K463 all0
      have Z474 : n0 ≤ h463.size := Nat.le_trans Z462 K463.1
      refine WP.castS (st' := [(.ref s463)]) rfl ?_
      refine WP.astore (pc' := 57) at_55 rfl rfl (Ls' := #[.val (.int x0), .val (.int x1), .val (.int x2), .val (.int x3), .val (.int x4), .val (.int x5), .val (.int (0 : Int32)), .val (.int (1 : Int32)), .val (.ref s451), .val (.ref s455), .val (.ref s463), .unset, .unset, .unset, .unset, .unset, .unset, .unset]) rfl ?_
      refine WP.iload (pc' := 59) at_57 rfl rfl ?_
      refine WP.bipush (pc' := 61) at_59 rfl (z := 127) rfl ?_
      refine WP.iand (pc' := 62) at_61 rfl ?_
      refine WP.i2c (pc' := 63) at_62 rfl ?_
      have hb4 := m7 x4
      generalize ((x4 &&& (127 : Int32)).toUInt32.toUInt16.toUInt32.toInt32) = ch4 at hb4 ⊢
      refine WP.callS (argsL := [(.int ch4)]) (rest := []) (wd := 0) (cl' := 8) (sl' := 20) (pc' := 66) at_63 rfl (wd0 hw) (wd1 hw) (wd2 hw) (wd3 hw) (by decide) (s_vo hw ch4 h463 n0 Z474 ⟨by omega, by omega⟩ cs (S_CS.ext O472.2) hcs) pd_31 rfl rfl rfl (Nat.le_of_eq rfl) (by decide) (by decide) rfl rfl (by decide) (by decide) ?_
      rintro v h475 ⟨s475, c475, rfl, K475, E475, Fv475, Fc475, B475⟩
      have E476 := E464.keep K475
      have F477 := F465.keep K475 nin0
      have F478 := F466.keep K475 nin0
      have V479 := V467.keep K475 nin0
      have E480 := E468.keep K475
      have F481 := F469.keep K475 nin0
      have F482 := F470.keep K475 nin0
      have V483 := V471.keep K475 nin0
      have E484 := E463.keep K475
      have F485 := Fv463.keep K475 nin0
      have F486 := Fc463.keep K475 nin0
      have V487 := B463.keep K475 nin0
      have O488 := O472.keep K475 all0
      have Hd489 := Hd473.keep K475 all0
      have Z490 : n0 ≤ h475.size := Nat.le_trans Z474 K475.1
      refine WP.castS (st' := [(.ref s475)]) rfl ?_
      refine WP.astore (pc' := 68) at_66 rfl rfl (Ls' := #[.val (.int x0), .val (.int x1), .val (.int x2), .val (.int x3), .val (.int x4), .val (.int x5), .val (.int (0 : Int32)), .val (.int (1 : Int32)), .val (.ref s451), .val (.ref s455), .val (.ref s463), .val (.ref s475), .unset, .unset, .unset, .unset, .unset, .unset]) rfl ?_
      refine WP.iload (pc' := 70) at_68 rfl rfl ?_
      refine WP.sipush (pc' := 73) at_70 rfl (z := 255) rfl ?_
      refine WP.iand (pc' := 74) at_73 rfl ?_
      refine WP.i2c (pc' := 75) at_74 rfl ?_
      have hb5 := m8 x5
      generalize ((x5 &&& (255 : Int32)).toUInt32.toUInt16.toUInt32.toInt32) = ch5 at hb5 ⊢
      refine WP.callS (argsL := [(.int ch5)]) (rest := []) (wd := 0) (cl' := 10) (sl' := 25) (pc' := 78) at_75 rfl (wd0 hw) (wd1 hw) (wd2 hw) (wd3 hw) (by decide) (s_vo hw ch5 h475 n0 Z490 ⟨by omega, by omega⟩ cs (S_CS.ext O488.2) hcs) pd_31 rfl rfl rfl (Nat.le_of_eq rfl) (by decide) (by decide) rfl rfl (by decide) (by decide) ?_
      rintro v h491 ⟨s491, c491, rfl, K491, E491, Fv491, Fc491, B491⟩
      have E492 := E476.keep K491
      have F493 := F477.keep K491 nin0
      have F494 := F478.keep K491 nin0
      have V495 := V479.keep K491 nin0
      have E496 := E480.keep K491
      have F497 := F481.keep K491 nin0
      have F498 := F482.keep K491 nin0
      have V499 := V483.keep K491 nin0
      have E500 := E484.keep K491
      have F501 := F485.keep K491 nin0
      have F502 := F486.keep K491 nin0
      have V503 := V487.keep K491 nin0
      have E504 := E475.keep K491
      have F505 := Fv475.keep K491 nin0
      have F506 := Fc475.keep K491 nin0
      have V507 := B475.keep K491 nin0
      have O508 := O488.keep K491 all0
      have Hd509 := Hd489.keep K491 all0
      have Z510 : n0 ≤ h491.size := Nat.le_trans Z490 K491.1
      refine WP.castS (st' := [(.ref s491)]) rfl ?_
      refine WP.astore (pc' := 80) at_78 rfl rfl (Ls' := #[.val (.int x0), .val (.int x1), .val (.int x2), .val (.int x3), .val (.int x4), .val (.int x5), .val (.int (0 : Int32)), .val (.int (1 : Int32)), .val (.ref s451), .val (.ref s455), .val (.ref s463), .val (.ref s475), .val (.ref s491), .unset, .unset, .unset, .unset, .unset]) rfl ?_
      refine WP.newO (cl' := 11) (sl' := 29) (pc' := 83) at_80 rfl (wd26 hw) (wd10 hw) (wd2 hw) rfl rfl (by decide) (by decide) ?_
      intro h511 b511 g511 E511 A511 D511
      have Sf512 : Safe Z consts_1 vm0 h491 b511 := Safe.new (by rw [g511]; exact Nat.le_refl _)
      have ge513 : n0 ≤ b511 := by rw [g511]; exact Z510
      have ne514 : s451 ≠ b511 := by rw [g511]; exact Nat.ne_of_lt E492.lt
      have ne515 : c451 ≠ b511 := by rw [g511]; exact Nat.ne_of_lt V495.lt
      have ne516 : s455 ≠ b511 := by rw [g511]; exact Nat.ne_of_lt E496.lt
      have ne517 : c455 ≠ b511 := by rw [g511]; exact Nat.ne_of_lt V499.lt
      have ne518 : s463 ≠ b511 := by rw [g511]; exact Nat.ne_of_lt E500.lt
      have ne519 : c463 ≠ b511 := by rw [g511]; exact Nat.ne_of_lt V503.lt
      have ne520 : s475 ≠ b511 := by rw [g511]; exact Nat.ne_of_lt E504.lt
      have ne521 : c475 ≠ b511 := by rw [g511]; exact Nat.ne_of_lt V507.lt
      have ne522 : s491 ≠ b511 := by rw [g511]; exact Nat.ne_of_lt E491.lt
      have ne523 : c491 ≠ b511 := by rw [g511]; exact Nat.ne_of_lt B491.lt
      have E524 := E492.ext E511
      have F525 := F493.ext E511
      have F526 := F494.ext E511
      have V527 := V495.ext E511
      have E528 := E496.ext E511
      have F529 := F497.ext E511
      have F530 := F498.ext E511
      have V531 := V499.ext E511
      have E532 := E500.ext E511
      have F533 := F501.ext E511
      have F534 := F502.ext E511
      have V535 := V503.ext E511
      have E536 := E504.ext E511
      have F537 := F505.ext E511
      have F538 := F506.ext E511
      have V539 := V507.ext E511
      have E540 := E491.ext E511
      have F541 := Fv491.ext E511
      have F542 := Fc491.ext E511
      have V543 := B491.ext E511
      have O544 := O508.ext E511
      have Sf545 := Safe.ext E511 Hd509.ch Sf512
      have Hd546 := Hd509.ext E511
      have Z547 : n0 ≤ h511.size := Nat.le_trans Z510 E511.1
      have F548 : Fld Z h511 b511 "java/lang/String" "value" "[B" .null := D511 (Or.inr (wd23 hw)) (ty := (.array .byte)) (by decide)
      have F549 : Fld Z h511 b511 "java/lang/String" "coder" "B" (.int (0 : Int32)) := D511 (Or.inr (wd25 hw)) (ty := .byte) (by decide)
      refine WP.dup (pc' := 84) at_83 rfl rfl ?_
      refine WP.sipush (pc' := 87) at_84 rfl (z := 8191) rfl ?_
      refine WP.newPI (ty := .char) (n := 8191) (cap := 8191) (cl' := 12) (sl' := 8220) (pc' := 89) at_87 rfl rfl rfl (wd27 hw) (by decide) (by decide) (by decide) rfl rfl (by decide) (by decide) ?_
      intro h550 b550 g550 E550 A550
      have Sf551 : Safe Z consts_1 vm0 h511 b550 := Safe.new (by rw [g550]; exact Nat.le_refl _)
      have ge552 : n0 ≤ b550 := by rw [g550]; exact Z547
      have ne553 : s451 ≠ b550 := by rw [g550]; exact Nat.ne_of_lt E524.lt
      have ne554 : c451 ≠ b550 := by rw [g550]; exact Nat.ne_of_lt V527.lt
      have ne555 : s455 ≠ b550 := by rw [g550]; exact Nat.ne_of_lt E528.lt
      have ne556 : c455 ≠ b550 := by rw [g550]; exact Nat.ne_of_lt V531.lt
      have ne557 : s463 ≠ b550 := by rw [g550]; exact Nat.ne_of_lt E532.lt
      have ne558 : c463 ≠ b550 := by rw [g550]; exact Nat.ne_of_lt V535.lt
      have ne559 : s475 ≠ b550 := by rw [g550]; exact Nat.ne_of_lt E536.lt
      have ne560 : c475 ≠ b550 := by rw [g550]; exact Nat.ne_of_lt V539.lt
      have ne561 : s491 ≠ b550 := by rw [g550]; exact Nat.ne_of_lt E540.lt
      have ne562 : c491 ≠ b550 := by rw [g550]; exact Nat.ne_of_lt V543.lt
      have ne563 : b511 ≠ b550 := by rw [g550]; exact Nat.ne_of_lt A511.lt
      have E564 := E524.ext E550
      have F565 := F525.ext E550
      have F566 := F526.ext E550
      have V567 := V527.ext E550
      have E568 := E528.ext E550
      have F569 := F529.ext E550
      have F570 := F530.ext E550
      have V571 := V531.ext E550
      have E572 := E532.ext E550
      have F573 := F533.ext E550
      have F574 := F534.ext E550
      have V575 := V535.ext E550
      have E576 := E536.ext E550
      have F577 := F537.ext E550
      have F578 := F538.ext E550
      have V579 := V539.ext E550
      have E580 := E540.ext E550
      have F581 := F541.ext E550
      have F582 := F542.ext E550
      have V583 := V543.ext E550
      have E584 := A511.ext E550
      have F585 := F548.ext E550
      have F586 := F549.ext E550
      have O587 := O544.ext E550
      have Sf588 := Safe.ext E550 Hd546.ch Sf545
      have Sf589 := Safe.ext E550 Hd546.ch Sf551
      have Hd590 := Hd546.ext E550
      have Z591 : n0 ≤ h550.size := Nat.le_trans Z547 E550.1
      refine WP.callI (a := b511) (argsL := [(.ref b550)]) (rest := [(.ref b511)]) (wd := 1) (cl' := 13) (sl' := 16411) (pc' := 92) at_89 rfl rfl (wd28 hw) (wd29 hw) (wd2 hw) (wd30 hw) (by decide) (s_si hw b511 b550 h550 n0 Z591 ge513 E584 F585 F586 cs (S_CS.ext O587.2) hcs 8191 (fun _ => 0) A550 (by omega) (by omega) (by omega) (fun i hi => show 0 ≤ (0 : Int32).toInt ∧ (0 : Int32).toInt ≤ 255 from by decide) (Ne.symm ne563)) pd_32 rfl rfl rfl (Nat.le_of_eq rfl) (by decide) (by decide) rfl rfl (by decide) (by decide) ?_
      rintro v h592 ⟨rfl, c592, K592, ge592, sz592, E592, Fv592, Fc592, B592⟩
      have ne593 : s451 ≠ c592 := Nat.ne_of_lt (Nat.lt_of_lt_of_le E564.lt sz592)
      have ne594 : c451 ≠ c592 := Nat.ne_of_lt (Nat.lt_of_lt_of_le V567.lt sz592)
      have ne595 : s455 ≠ c592 := Nat.ne_of_lt (Nat.lt_of_lt_of_le E568.lt sz592)
      have ne596 : c455 ≠ c592 := Nat.ne_of_lt (Nat.lt_of_lt_of_le V571.lt sz592)
      have ne597 : s463 ≠ c592 := Nat.ne_of_lt (Nat.lt_of_lt_of_le E572.lt sz592)
      have ne598 : c463 ≠ c592 := Nat.ne_of_lt (Nat.lt_of_lt_of_le V575.lt sz592)
      have ne599 : s475 ≠ c592 := Nat.ne_of_lt (Nat.lt_of_lt_of_le E576.lt sz592)
      have ne600 : c475 ≠ c592 := Nat.ne_of_lt (Nat.lt_of_lt_of_le V579.lt sz592)
      have ne601 : s491 ≠ c592 := Nat.ne_of_lt (Nat.lt_of_lt_of_le E580.lt sz592)
      have ne602 : c491 ≠ c592 := Nat.ne_of_lt (Nat.lt_of_lt_of_le V583.lt sz592)
      have ne603 : b511 ≠ c592 := Nat.ne_of_lt (Nat.lt_of_lt_of_le E584.lt sz592)
      have ne604 : b550 ≠ c592 := Nat.ne_of_lt (Nat.lt_of_lt_of_le A550.lt sz592)
      have E605 := E564.keep K592
      have F606 := F565.keep K592 (ninS ne514 nin0)
      have F607 := F566.keep K592 (ninS ne514 nin0)
      have V608 := V567.keep K592 (ninS ne515 nin0)
      have E609 := E568.keep K592
      have F610 := F569.keep K592 (ninS ne516 nin0)
      have F611 := F570.keep K592 (ninS ne516 nin0)
      have V612 := V571.keep K592 (ninS ne517 nin0)
      have E613 := E572.keep K592
      have F614 := F573.keep K592 (ninS ne518 nin0)
      have F615 := F574.keep K592 (ninS ne518 nin0)
      have V616 := V575.keep K592 (ninS ne519 nin0)
      have E617 := E576.keep K592
      have F618 := F577.keep K592 (ninS ne520 nin0)
      have F619 := F578.keep K592 (ninS ne520 nin0)
      have V620 := V579.keep K592 (ninS ne521 nin0)
      have E621 := E580.keep K592
      have F622 := F581.keep K592 (ninS ne522 nin0)
      have F623 := F582.keep K592 (ninS ne522 nin0)
      have V624 := V583.keep K592 (ninS ne523 nin0)
      have E625 := E584.keep K592
      have V626 := A550.keep K592 (ninS (Ne.symm ne563) nin0)
      have O627 := O587.keep K592 (allS ge513 all0)
      have Sf628 := Safe.keep K592 (allS Sf588 all0) Hd590.ch Sf588
      have Sf629 := Safe.keep K592 (allS Sf588 all0) Hd590.ch Sf589
      have Hd630 := Hd590.keep K592 (allS Sf588 all0)
      have Z631 : n0 ≤ h592.size := Nat.le_trans Z591 K592.1
      refine WP.castS (st' := [(.ref b511)]) rfl ?_
      refine WP.astore (pc' := 94) at_92 rfl rfl (Ls' := #[.val (.int x0), .val (.int x1), .val (.int x2), .val (.int x3), .val (.int x4), .val (.int x5), .val (.int (0 : Int32)), .val (.int (1 : Int32)), .val (.ref s451), .val (.ref s455), .val (.ref s463), .val (.ref s475), .val (.ref s491), .val (.ref b511), .unset, .unset, .unset, .unset]) rfl ?_
      refine WP.newO (cl' := 14) (sl' := 16429) (pc' := 97) at_94 rfl (wd44 hw) (wd45 hw) (wd46 hw) rfl rfl (by decide) (by decide) ?_
      intro h632 b632 g632 E632 A632 D632
      have Sf633 : Safe Z consts_1 vm0 h592 b632 := Safe.new (by rw [g632]; exact Nat.le_refl _)
      have ge634 : n0 ≤ b632 := by rw [g632]; exact Z631
      have ne635 : s451 ≠ b632 := by rw [g632]; exact Nat.ne_of_lt E605.lt
      have ne636 : c451 ≠ b632 := by rw [g632]; exact Nat.ne_of_lt V608.lt
      have ne637 : s455 ≠ b632 := by rw [g632]; exact Nat.ne_of_lt E609.lt
      have ne638 : c455 ≠ b632 := by rw [g632]; exact Nat.ne_of_lt V612.lt
      have ne639 : s463 ≠ b632 := by rw [g632]; exact Nat.ne_of_lt E613.lt
      have ne640 : c463 ≠ b632 := by rw [g632]; exact Nat.ne_of_lt V616.lt
      have ne641 : s475 ≠ b632 := by rw [g632]; exact Nat.ne_of_lt E617.lt
      have ne642 : c475 ≠ b632 := by rw [g632]; exact Nat.ne_of_lt V620.lt
      have ne643 : s491 ≠ b632 := by rw [g632]; exact Nat.ne_of_lt E621.lt
      have ne644 : c491 ≠ b632 := by rw [g632]; exact Nat.ne_of_lt V624.lt
      have ne645 : b511 ≠ b632 := by rw [g632]; exact Nat.ne_of_lt E592.lt
      have ne646 : b550 ≠ b632 := by rw [g632]; exact Nat.ne_of_lt V626.lt
      have ne647 : c592 ≠ b632 := by rw [g632]; exact Nat.ne_of_lt B592.lt
      have E648 := E605.ext E632
      have F649 := F606.ext E632
      have F650 := F607.ext E632
      have V651 := V608.ext E632
      have E652 := E609.ext E632
      have F653 := F610.ext E632
      have F654 := F611.ext E632
      have V655 := V612.ext E632
      have E656 := E613.ext E632
      have F657 := F614.ext E632
      have F658 := F615.ext E632
      have V659 := V616.ext E632
      have E660 := E617.ext E632
      have F661 := F618.ext E632
      have F662 := F619.ext E632
      have V663 := V620.ext E632
      have E664 := E621.ext E632
      have F665 := F622.ext E632
      have F666 := F623.ext E632
      have V667 := V624.ext E632
      have E668 := E592.ext E632
      have V669 := V626.ext E632
      have F670 := Fv592.ext E632
      have F671 := Fc592.ext E632
      have V672 := B592.ext E632
      have O673 := O627.ext E632
      have Sf674 := Safe.ext E632 Hd630.ch Sf628
      have Sf675 := Safe.ext E632 Hd630.ch Sf629
      have Sf676 := Safe.ext E632 Hd630.ch Sf633
      have Hd677 := Hd630.ext E632
      have Z678 : n0 ≤ h632.size := Nat.le_trans Z631 E632.1
      have F679 : Fld Z h632 b632 "com/example/vipool/vipool/http/HttpHead" "raw" "[B" .null := D632 (Or.inl (wd52 hw)) (ty := (.array .byte)) (by decide)
      have F680 : Fld Z h632 b632 "com/example/vipool/vipool/http/HttpHead" "spans" "[I" .null := D632 (Or.inl (wd55 hw)) (ty := (.array .int)) (by decide)
      have F681 : Fld Z h632 b632 "com/example/vipool/vipool/http/HttpHead" "used" "I" (.int (0 : Int32)) := D632 (Or.inl (wd62 hw)) (ty := .int) (by decide)
      have F682 : Fld Z h632 b632 "com/example/vipool/vipool/http/HttpHead" "fields" "I" (.int (0 : Int32)) := D632 (Or.inl (wd107 hw)) (ty := .int) (by decide)
      have F683 : Fld Z h632 b632 "com/example/vipool/vipool/http/HttpHead" "method" "Ljava/lang/String;" .null := D632 (Or.inl (wd114 hw)) (ty := (.object "java/lang/String")) (by decide)
      have F684 : Fld Z h632 b632 "com/example/vipool/vipool/http/HttpHead" "status" "I" (.int (0 : Int32)) := D632 (Or.inl (wd116 hw)) (ty := .int) (by decide)
      have F685 : Fld Z h632 b632 "com/example/vipool/vipool/http/HttpHead" "secondEnd" "I" (.int (0 : Int32)) := D632 (Or.inl (wd123 hw)) (ty := .int) (by decide)
      have F686 : Fld Z h632 b632 "com/example/vipool/vipool/http/HttpHead" "secondStart" "I" (.int (0 : Int32)) := D632 (Or.inl (wd125 hw)) (ty := .int) (by decide)
      have F687 : Fld Z h632 b632 "com/example/vipool/vipool/http/HttpHead" "request" "Z" (.int (0 : Int32)) := D632 (Or.inl (wd127 hw)) (ty := .boolean) (by decide)
      have F688 : Fld Z h632 b632 "com/example/vipool/vipool/http/HttpHead" "firstEnd" "I" (.int (0 : Int32)) := D632 (Or.inl (wd221 hw)) (ty := .int) (by decide)
      refine WP.dup (pc' := 98) at_97 rfl rfl ?_
      refine WP.callI (a := b632) (argsL := []) (rest := [(.ref b632)]) (wd := 1) (cl' := 16) (sl' := 16973) (pc' := 101) at_98 rfl rfl (wd47 hw) (wd48 hw) (wd46 hw) (wd49 hw) (by decide) (m_ini hw b632 h632 n0 Z678 O673 ge634 A632 F679 F680 F681 F682 F685 F686 F687 F683 F684) pd_33 rfl rfl rfl (Nat.le_of_eq rfl) (by decide) (by decide) rfl rfl (by decide) (by decide) ?_
      rintro v h689 ⟨rfl, rw689, sp689, K689, zr689, zs689, R689⟩
      have Sf690 : Safe Z consts_1 vm0 h632 rw689 := Safe.new zr689
      have Sf691 : Safe Z consts_1 vm0 h632 sp689 := Safe.new zs689
      have ne692 : s451 ≠ rw689 := Nat.ne_of_lt (Nat.lt_of_lt_of_le E648.lt zr689)
      have ne693 : c451 ≠ rw689 := Nat.ne_of_lt (Nat.lt_of_lt_of_le V651.lt zr689)
      have ne694 : s455 ≠ rw689 := Nat.ne_of_lt (Nat.lt_of_lt_of_le E652.lt zr689)
      have ne695 : c455 ≠ rw689 := Nat.ne_of_lt (Nat.lt_of_lt_of_le V655.lt zr689)
      have ne696 : s463 ≠ rw689 := Nat.ne_of_lt (Nat.lt_of_lt_of_le E656.lt zr689)
      have ne697 : c463 ≠ rw689 := Nat.ne_of_lt (Nat.lt_of_lt_of_le V659.lt zr689)
      have ne698 : s475 ≠ rw689 := Nat.ne_of_lt (Nat.lt_of_lt_of_le E660.lt zr689)
      have ne699 : c475 ≠ rw689 := Nat.ne_of_lt (Nat.lt_of_lt_of_le V663.lt zr689)
      have ne700 : s491 ≠ rw689 := Nat.ne_of_lt (Nat.lt_of_lt_of_le E664.lt zr689)
      have ne701 : c491 ≠ rw689 := Nat.ne_of_lt (Nat.lt_of_lt_of_le V667.lt zr689)
      have ne702 : b511 ≠ rw689 := Nat.ne_of_lt (Nat.lt_of_lt_of_le E668.lt zr689)
      have ne703 : b550 ≠ rw689 := Nat.ne_of_lt (Nat.lt_of_lt_of_le V669.lt zr689)
      have ne704 : c592 ≠ rw689 := Nat.ne_of_lt (Nat.lt_of_lt_of_le V672.lt zr689)
      have ne705 : b632 ≠ rw689 := Nat.ne_of_lt (Nat.lt_of_lt_of_le A632.lt zr689)
      have ne706 : s451 ≠ sp689 := Nat.ne_of_lt (Nat.lt_of_lt_of_le E648.lt zs689)
      have ne707 : c451 ≠ sp689 := Nat.ne_of_lt (Nat.lt_of_lt_of_le V651.lt zs689)
      have ne708 : s455 ≠ sp689 := Nat.ne_of_lt (Nat.lt_of_lt_of_le E652.lt zs689)
      have ne709 : c455 ≠ sp689 := Nat.ne_of_lt (Nat.lt_of_lt_of_le V655.lt zs689)
      have ne710 : s463 ≠ sp689 := Nat.ne_of_lt (Nat.lt_of_lt_of_le E656.lt zs689)
      have ne711 : c463 ≠ sp689 := Nat.ne_of_lt (Nat.lt_of_lt_of_le V659.lt zs689)
      have ne712 : s475 ≠ sp689 := Nat.ne_of_lt (Nat.lt_of_lt_of_le E660.lt zs689)
      have ne713 : c475 ≠ sp689 := Nat.ne_of_lt (Nat.lt_of_lt_of_le V663.lt zs689)
      have ne714 : s491 ≠ sp689 := Nat.ne_of_lt (Nat.lt_of_lt_of_le E664.lt zs689)
      have ne715 : c491 ≠ sp689 := Nat.ne_of_lt (Nat.lt_of_lt_of_le V667.lt zs689)
      have ne716 : b511 ≠ sp689 := Nat.ne_of_lt (Nat.lt_of_lt_of_le E668.lt zs689)
      have ne717 : b550 ≠ sp689 := Nat.ne_of_lt (Nat.lt_of_lt_of_le V669.lt zs689)
      have ne718 : c592 ≠ sp689 := Nat.ne_of_lt (Nat.lt_of_lt_of_le V672.lt zs689)
      have ne719 : b632 ≠ sp689 := Nat.ne_of_lt (Nat.lt_of_lt_of_le A632.lt zs689)
      have E720 := E648.keep K689
      have F721 := F649.keep K689 (ninS ne635 nin0)
      have F722 := F650.keep K689 (ninS ne635 nin0)
      have V723 := V651.keep K689 (ninS ne636 nin0)
      have E724 := E652.keep K689
      have F725 := F653.keep K689 (ninS ne637 nin0)
      have F726 := F654.keep K689 (ninS ne637 nin0)
      have V727 := V655.keep K689 (ninS ne638 nin0)
      have E728 := E656.keep K689
      have F729 := F657.keep K689 (ninS ne639 nin0)
      have F730 := F658.keep K689 (ninS ne639 nin0)
      have V731 := V659.keep K689 (ninS ne640 nin0)
      have E732 := E660.keep K689
      have F733 := F661.keep K689 (ninS ne641 nin0)
      have F734 := F662.keep K689 (ninS ne641 nin0)
      have V735 := V663.keep K689 (ninS ne642 nin0)
      have E736 := E664.keep K689
      have F737 := F665.keep K689 (ninS ne643 nin0)
      have F738 := F666.keep K689 (ninS ne643 nin0)
      have V739 := V667.keep K689 (ninS ne644 nin0)
      have E740 := E668.keep K689
      have V741 := V669.keep K689 (ninS ne646 nin0)
      have F742 := F670.keep K689 (ninS ne645 nin0)
      have F743 := F671.keep K689 (ninS ne645 nin0)
      have V744 := V672.keep K689 (ninS ne647 nin0)
      have E745 := A632.keep K689
      have O746 := O673.keep K689 (allS ge634 all0)
      have Sf747 := Safe.keep K689 (allS Sf676 all0) Hd677.ch Sf674
      have Sf748 := Safe.keep K689 (allS Sf676 all0) Hd677.ch Sf675
      have Sf749 := Safe.keep K689 (allS Sf676 all0) Hd677.ch Sf676
      have Sf750 := Safe.keep K689 (allS Sf676 all0) Hd677.ch Sf690
      have Sf751 := Safe.keep K689 (allS Sf676 all0) Hd677.ch Sf691
      have Hd752 := Hd677.keep K689 (allS Sf676 all0)
      have Z753 : n0 ≤ h689.size := Nat.le_trans Z678 K689.1
      refine WP.castS (st' := [(.ref b632)]) rfl ?_
      refine WP.astore (pc' := 103) at_101 rfl rfl (Ls' := #[.val (.int x0), .val (.int x1), .val (.int x2), .val (.int x3), .val (.int x4), .val (.int x5), .val (.int (0 : Int32)), .val (.int (1 : Int32)), .val (.ref s451), .val (.ref s455), .val (.ref s463), .val (.ref s475), .val (.ref s491), .val (.ref b511), .val (.ref b632), .unset, .unset, .unset]) rfl ?_
      refine WP.aload (pc' := 105) at_103 rfl rfl rfl ?_
      refine WP.aload (pc' := 107) at_105 rfl rfl rfl ?_
      refine WP.iload (pc' := 109) at_107 rfl rfl ?_
      have hc109 : (0 : Int32) = (0 : Int32) := by decide
      refine WP.ifc_eq (pc1 := 117) (pc2 := 112) at_109 (by decide) (by decide) rfl (fun _ => ?_) (fun k => absurd hc109 k)
      refine WP.aload (pc' := 119) at_117 rfl rfl rfl ?_
      refine WP.callV (a := b632) (K := "com/example/vipool/vipool/http/HttpHead") (argsL := [(.ref s451), (.ref s463)]) (rest := []) (wd := 0) (cl' := 16) (sl' := 16973) (pc' := 122) at_119 rfl (wd56 hw) (wd57 hw) (nfS (wd59 hw) rfl) (wd59 hw) (wd58 hw) (wd46 hw) (wd60 hw) (by decide) R689.2.1 (m_add hw b632 s451 s463 h689 n0 Z753 O746 cs S_CS hcs fv hfv S_FM 512 rw689 sp689 (0 : Int32) (0 : Int32) (fun _ => 0) (fun _ => 0) R689 c451 1 (fun _ => cv ch1) E720 F721 F722 V723 c463 1 (fun _ => cv ch3) E728 F729 F730 V731 ne635 ne692 ne706 ne636 ne693 ne707 ne639 ne696 ne710 ne640 ne697 ne711 0 0 (by decide) (by decide) (by decide) (by decide) (by decide) (fun _ _ => cv_cv _) (fun _ _ => cv_cv _) (by decide) (by decide)) pd_34 rfl rfl rfl (Nat.le_of_eq rfl) (by decide) (by decide) rfl rfl (by decide) (by decide) ?_
      rintro v h754 ⟨rfl, K754, R754⟩
      have E755 := E720.keep K754
      have F756 := F721.keep K754 (ninS ne635 (ninS ne692 (ninS ne706 nin0)))
      have F757 := F722.keep K754 (ninS ne635 (ninS ne692 (ninS ne706 nin0)))
      have V758 := V723.keep K754 (ninS ne636 (ninS ne693 (ninS ne707 nin0)))
      have E759 := E724.keep K754
      have F760 := F725.keep K754 (ninS ne637 (ninS ne694 (ninS ne708 nin0)))
      have F761 := F726.keep K754 (ninS ne637 (ninS ne694 (ninS ne708 nin0)))
      have V762 := V727.keep K754 (ninS ne638 (ninS ne695 (ninS ne709 nin0)))
      have E763 := E728.keep K754
      have F764 := F729.keep K754 (ninS ne639 (ninS ne696 (ninS ne710 nin0)))
      have F765 := F730.keep K754 (ninS ne639 (ninS ne696 (ninS ne710 nin0)))
      have V766 := V731.keep K754 (ninS ne640 (ninS ne697 (ninS ne711 nin0)))
      have E767 := E732.keep K754
      have F768 := F733.keep K754 (ninS ne641 (ninS ne698 (ninS ne712 nin0)))
      have F769 := F734.keep K754 (ninS ne641 (ninS ne698 (ninS ne712 nin0)))
      have V770 := V735.keep K754 (ninS ne642 (ninS ne699 (ninS ne713 nin0)))
      have E771 := E736.keep K754
      have F772 := F737.keep K754 (ninS ne643 (ninS ne700 (ninS ne714 nin0)))
      have F773 := F738.keep K754 (ninS ne643 (ninS ne700 (ninS ne714 nin0)))
      have V774 := V739.keep K754 (ninS ne644 (ninS ne701 (ninS ne715 nin0)))
      have E775 := E740.keep K754
      have V776 := V741.keep K754 (ninS ne646 (ninS ne703 (ninS ne717 nin0)))
      have F777 := F742.keep K754 (ninS ne645 (ninS ne702 (ninS ne716 nin0)))
      have F778 := F743.keep K754 (ninS ne645 (ninS ne702 (ninS ne716 nin0)))
      have V779 := V744.keep K754 (ninS ne647 (ninS ne704 (ninS ne718 nin0)))
      have E780 := E745.keep K754
      have O781 := O746.keep K754 (allS ge634 (allS R689.1.2.1 (allS R689.1.2.2.1 all0)))
      have Sf782 := Safe.keep K754 (allS Sf749 (allS Sf750 (allS Sf751 all0))) Hd752.ch Sf747
      have Sf783 := Safe.keep K754 (allS Sf749 (allS Sf750 (allS Sf751 all0))) Hd752.ch Sf748
      have Sf784 := Safe.keep K754 (allS Sf749 (allS Sf750 (allS Sf751 all0))) Hd752.ch Sf749
      have Sf785 := Safe.keep K754 (allS Sf749 (allS Sf750 (allS Sf751 all0))) Hd752.ch Sf750
      have Sf786 := Safe.keep K754 (allS Sf749 (allS Sf750 (allS Sf751 all0))) Hd752.ch Sf751
      have Hd787 := Hd752.keep K754 (allS Sf749 (allS Sf750 (allS Sf751 all0)))
      have Z788 : n0 ≤ h754.size := Nat.le_trans Z753 K754.1
      refine WP.castS (st' := []) rfl ?_
      refine WP.iload (pc' := 124) at_122 rfl rfl ?_
      have hc124 : ¬ (1 : Int32) = (0 : Int32) := by decide
      refine WP.ifc_eq (pc1 := 136) (pc2 := 127) at_124 (by decide) (by decide) rfl (fun k => absurd k hc124) (fun _ => ?_)
      refine WP.aload (pc' := 129) at_127 rfl rfl rfl ?_
      refine WP.aload (pc' := 131) at_129 rfl rfl rfl ?_
      refine WP.ldcH (n := 0) (vs := []) (z := 0) (cl' := 18) (sl' := 16977) (pc' := 133) at_131 rfl (wd217 hw) (wSw hw) (hELw hw) (List.mem_of_getElem? (i := 0) rfl) Hd787 ⟨by decide, by decide⟩ (by decide) rfl (by decide) (by decide) rfl rfl (by decide) (by decide) ?_
      intro vm789 h789 la789 lb789 lk789 E789 X789 Fc789 Fv789 A789 Hd789 Cr789 Ne789
      have Sf790 := Cr789.safe R754.2.1.lt Sf784
      have Sf791 := Cr789.safe R754.2.2.2.1.lt Sf785
      have Sf792 := Cr789.safe R754.2.2.2.2.lt Sf786
      have E793 := E755.ext E789
      have F794 := F756.ext E789
      have F795 := F757.ext E789
      have V796 := V758.ext E789
      have E797 := E759.ext E789
      have F798 := F760.ext E789
      have F799 := F761.ext E789
      have V800 := V762.ext E789
      have E801 := E763.ext E789
      have F802 := F764.ext E789
      have F803 := F765.ext E789
      have V804 := V766.ext E789
      have E805 := E767.ext E789
      have F806 := F768.ext E789
      have F807 := F769.ext E789
      have V808 := V770.ext E789
      have E809 := E771.ext E789
      have F810 := F772.ext E789
      have F811 := F773.ext E789
      have V812 := V774.ext E789
      have E813 := E775.ext E789
      have V814 := V776.ext E789
      have F815 := F777.ext E789
      have F816 := F778.ext E789
      have V817 := V779.ext E789
      have E818 := E780.ext E789
      have O819 := O781.ext E789
      have Z820 : n0 ≤ h789.size := Nat.le_trans Z788 E789.1
      have ne821 : b632 ≠ la789 := (Ne789 _ Sf790).1
      have ne822 : b632 ≠ lb789 := (Ne789 _ Sf790).2
      have ne823 : rw689 ≠ la789 := (Ne789 _ Sf791).1
      have ne824 : rw689 ≠ lb789 := (Ne789 _ Sf791).2
      have ne825 : sp689 ≠ la789 := (Ne789 _ Sf792).1
      have ne826 : sp689 ≠ lb789 := (Ne789 _ Sf792).2
      have AL789 := Ari.of_arv (L := []) A789 rfl rfl (by decide)
      have Rl789 := R754.keep0 ((Keep.refl _ []).ext E789)
      refine WP.callV (a := b632) (K := "com/example/vipool/vipool/http/HttpHead") (argsL := [(.ref s455), (.ref la789)]) (rest := []) (wd := 0) (cl' := 18) (sl' := 16977) (pc' := 136) at_133 rfl (wd56 hw) (wd57 hw) (nfS (wd59 hw) rfl) (wd59 hw) (wd58 hw) (wd46 hw) (wd60 hw) (by decide) Rl789.2.1 (m_add hw b632 s455 la789 h789 n0 Z820 O819 cs S_CS hcs fv hfv S_FM 512 rw689 sp689 (((0 : Int32) + (1 : Nat).toInt32) + (1 : Nat).toInt32) ((0 : Int32) + 1) (lay (lay (fun _ => 0) 0 1 (fun _ => cv ch1)) (0 + 1) 1 (fun _ => cv ch3)) (sp4 (fun _ => 0) 0 (0 : Int32) ((0 : Int32) + (1 : Nat).toInt32) ((0 : Int32) + (1 : Nat).toInt32) (((0 : Int32) + (1 : Nat).toInt32) + (1 : Nat).toInt32)) Rl789 c455 1 (fun _ => cv ch2) E797 F798 F799 V800 lb789 0 (litG []) X789 Fv789 Fc789 AL789 ne637 ne694 ne708 ne638 ne695 ne709 (Ne.symm ne821) (Ne.symm ne823) (Ne.symm ne825) (Ne.symm ne822) (Ne.symm ne824) (Ne.symm ne826) 2 1 (by decide) (by decide) (by decide) (by decide) (by decide) (fun _ _ => cv_cv _) (fun i hi => absurd hi (Nat.not_lt_zero _)) (by decide) (by decide)) pd_34 rfl rfl rfl (Nat.le_of_eq rfl) (by decide) (by decide) rfl rfl (by decide) (by decide) ?_
      rintro v h827 ⟨rfl, K827, R827⟩
      have E828 := E793.keep K827
      have F829 := F794.keep K827 (ninS ne635 (ninS ne692 (ninS ne706 nin0)))
      have F830 := F795.keep K827 (ninS ne635 (ninS ne692 (ninS ne706 nin0)))
      have V831 := V796.keep K827 (ninS ne636 (ninS ne693 (ninS ne707 nin0)))
      have E832 := E797.keep K827
      have F833 := F798.keep K827 (ninS ne637 (ninS ne694 (ninS ne708 nin0)))
      have F834 := F799.keep K827 (ninS ne637 (ninS ne694 (ninS ne708 nin0)))
      have V835 := V800.keep K827 (ninS ne638 (ninS ne695 (ninS ne709 nin0)))
      have E836 := E801.keep K827
      have F837 := F802.keep K827 (ninS ne639 (ninS ne696 (ninS ne710 nin0)))
      have F838 := F803.keep K827 (ninS ne639 (ninS ne696 (ninS ne710 nin0)))
      have V839 := V804.keep K827 (ninS ne640 (ninS ne697 (ninS ne711 nin0)))
      have E840 := E805.keep K827
      have F841 := F806.keep K827 (ninS ne641 (ninS ne698 (ninS ne712 nin0)))
      have F842 := F807.keep K827 (ninS ne641 (ninS ne698 (ninS ne712 nin0)))
      have V843 := V808.keep K827 (ninS ne642 (ninS ne699 (ninS ne713 nin0)))
      have E844 := E809.keep K827
      have F845 := F810.keep K827 (ninS ne643 (ninS ne700 (ninS ne714 nin0)))
      have F846 := F811.keep K827 (ninS ne643 (ninS ne700 (ninS ne714 nin0)))
      have V847 := V812.keep K827 (ninS ne644 (ninS ne701 (ninS ne715 nin0)))
      have E848 := E813.keep K827
      have V849 := V814.keep K827 (ninS ne646 (ninS ne703 (ninS ne717 nin0)))
      have F850 := F815.keep K827 (ninS ne645 (ninS ne702 (ninS ne716 nin0)))
      have F851 := F816.keep K827 (ninS ne645 (ninS ne702 (ninS ne716 nin0)))
      have V852 := V817.keep K827 (ninS ne647 (ninS ne704 (ninS ne718 nin0)))
      have E853 := E818.keep K827
      have E854 := X789.keep K827
      have F855 := Fc789.keep K827 (ninS (Ne.symm ne821) (ninS (Ne.symm ne823) (ninS (Ne.symm ne825) nin0)))
      have F856 := Fv789.keep K827 (ninS (Ne.symm ne821) (ninS (Ne.symm ne823) (ninS (Ne.symm ne825) nin0)))
      have V857 := AL789.keep K827 (ninS (Ne.symm ne822) (ninS (Ne.symm ne824) (ninS (Ne.symm ne826) nin0)))
      have O858 := O819.keep K827 (allS ge634 (allS R689.1.2.1 (allS R689.1.2.2.1 all0)))
      have Sf859 := Safe.keep K827 (allS Sf790 (allS Sf791 (allS Sf792 all0))) Hd789.ch Sf790
      have Sf860 := Safe.keep K827 (allS Sf790 (allS Sf791 (allS Sf792 all0))) Hd789.ch Sf791
      have Sf861 := Safe.keep K827 (allS Sf790 (allS Sf791 (allS Sf792 all0))) Hd789.ch Sf792
      have Hd862 := Hd789.keep K827 (allS Sf790 (allS Sf791 (allS Sf792 all0)))
      have Z863 : n0 ≤ h827.size := Nat.le_trans Z820 K827.1
      refine WP.castS (st' := []) rfl ?_
      have sn864 := Hd862.sn
      refine WP.aload (pc' := 138) at_136 rfl rfl rfl ?_
      refine WP.callV (a := b632) (K := "com/example/vipool/vipool/http/HttpHead") (argsL := []) (rest := []) (wd := 0) (cl' := 18) (sl' := 16977) (pc' := 141) at_138 rfl (wd108 hw) (wd109 hw) (nfS (wd111 hw) rfl) (wd111 hw) (wd110 hw) (wd46 hw) (wd112 hw) (by decide) R827.2.1 (m_clr0 hw b632 h827 n0 Z863 O858 512 rw689 sp689 (((((0 : Int32) + (1 : Nat).toInt32) + (1 : Nat).toInt32) + (1 : Nat).toInt32) + (0 : Nat).toInt32) (((0 : Int32) + 1) + 1) (lay (lay (lay (lay (fun _ => 0) 0 1 (fun _ => cv ch1)) (0 + 1) 1 (fun _ => cv ch3)) 2 1 (fun _ => cv ch2)) (2 + 1) 0 (litG [])) (sp4 (sp4 (fun _ => 0) 0 (0 : Int32) ((0 : Int32) + (1 : Nat).toInt32) ((0 : Int32) + (1 : Nat).toInt32) (((0 : Int32) + (1 : Nat).toInt32) + (1 : Nat).toInt32)) 1 (((0 : Int32) + (1 : Nat).toInt32) + (1 : Nat).toInt32) ((((0 : Int32) + (1 : Nat).toInt32) + (1 : Nat).toInt32) + (1 : Nat).toInt32) ((((0 : Int32) + (1 : Nat).toInt32) + (1 : Nat).toInt32) + (1 : Nat).toInt32) (((((0 : Int32) + (1 : Nat).toInt32) + (1 : Nat).toInt32) + (1 : Nat).toInt32) + (0 : Nat).toInt32)) R827 (by decide)) pd_10 rfl rfl rfl (Nat.le_of_eq rfl) (by decide) (by decide) rfl rfl (by decide) (by decide) ?_
      rintro v h865 ⟨rfl, K865, R865⟩
      have E866 := E828.keep K865
      have F867 := F829.keep K865 (ninS ne635 nin0)
      have F868 := F830.keep K865 (ninS ne635 nin0)
      have V869 := V831.keep K865 (ninS ne636 nin0)
      have E870 := E832.keep K865
      have F871 := F833.keep K865 (ninS ne637 nin0)
      have F872 := F834.keep K865 (ninS ne637 nin0)
      have V873 := V835.keep K865 (ninS ne638 nin0)
      have E874 := E836.keep K865
      have F875 := F837.keep K865 (ninS ne639 nin0)
      have F876 := F838.keep K865 (ninS ne639 nin0)
      have V877 := V839.keep K865 (ninS ne640 nin0)
      have E878 := E840.keep K865
      have F879 := F841.keep K865 (ninS ne641 nin0)
      have F880 := F842.keep K865 (ninS ne641 nin0)
      have V881 := V843.keep K865 (ninS ne642 nin0)
      have E882 := E844.keep K865
      have F883 := F845.keep K865 (ninS ne643 nin0)
      have F884 := F846.keep K865 (ninS ne643 nin0)
      have V885 := V847.keep K865 (ninS ne644 nin0)
      have E886 := E848.keep K865
      have V887 := V849.keep K865 (ninS ne646 nin0)
      have F888 := F850.keep K865 (ninS ne645 nin0)
      have F889 := F851.keep K865 (ninS ne645 nin0)
      have V890 := V852.keep K865 (ninS ne647 nin0)
      have E891 := E853.keep K865
      have E892 := E854.keep K865
      have F893 := F855.keep K865 (ninS (Ne.symm ne821) nin0)
      have F894 := F856.keep K865 (ninS (Ne.symm ne821) nin0)
      have V895 := V857.keep K865 (ninS (Ne.symm ne822) nin0)
      have O896 := O858.keep K865 (allS ge634 all0)
      have sn897 := sn864.grow K865.1
      have Z898 : n0 ≤ h865.size := Nat.le_trans Z863 K865.1
      refine WP.castS (st' := [(.int (0 : Int32))]) rfl ?_
      refine WP.istore (pc' := 143) at_141 rfl (Ls' := #[.val (.int x0), .val (.int x1), .val (.int x2), .val (.int x3), .val (.int x4), .val (.int x5), .val (.int (0 : Int32)), .val (.int (1 : Int32)), .val (.ref s451), .val (.ref s455), .val (.ref s463), .val (.ref s475), .val (.ref s491), .val (.ref b511), .val (.ref b632), .val (.int (0 : Int32)), .unset, .unset]) rfl ?_
      refine WP.iload (pc' := 145) at_143 rfl rfl ?_
      have hc145 : (0 : Int32) = (0 : Int32) := by decide
      refine WP.ifc_eq (pc1 := 157) (pc2 := 148) at_145 (by decide) (by decide) rfl (fun _ => ?_) (fun k => absurd hc145 k)
      refine WP.iconst (pc' := 158) at_157 rfl (z := 0) rfl ?_
      refine WP.istore (pc' := 160) at_158 rfl (Ls' := #[.val (.int x0), .val (.int x1), .val (.int x2), .val (.int x3), .val (.int x4), .val (.int x5), .val (.int (0 : Int32)), .val (.int (1 : Int32)), .val (.ref s451), .val (.ref s455), .val (.ref s463), .val (.ref s475), .val (.ref s491), .val (.ref b511), .val (.ref b632), .val (.int (0 : Int32)), .val (.int (0 : Int32)), .unset]) rfl ?_
      refine WP.iload (pc' := 162) at_160 rfl rfl ?_
      refine WP.iload (pc' := 164) at_162 rfl rfl ?_
      have hc164 : (0 : Int32) = (0 : Int32) := by decide
      refine WP.icmp_eq (pc1 := 169) (pc2 := 167) at_164 (by decide) (by decide) rfl (fun _ => ?_) (fun k => absurd hc164 k)
      refine WP.aload (pc' := 171) at_169 rfl rfl rfl ?_
      refine WP.callV (a := b632) (K := "com/example/vipool/vipool/http/HttpHead") (argsL := []) (rest := []) (wd := 0) (cl' := 18) (sl' := 16977) (pc' := 174) at_171 rfl (wd117 hw) (wd118 hw) (nfS (wd120 hw) rfl) (wd120 hw) (wd119 hw) (wd46 hw) (wd121 hw) (by decide) R865.2.1 (m_size hw b632 h865 n0 512 rw689 sp689 (0 : Int32) (0 : Int32) (lay (lay (lay (lay (fun _ => 0) 0 1 (fun _ => cv ch1)) (0 + 1) 1 (fun _ => cv ch3)) 2 1 (fun _ => cv ch2)) (2 + 1) 0 (litG [])) (sp4 (sp4 (fun _ => 0) 0 (0 : Int32) ((0 : Int32) + (1 : Nat).toInt32) ((0 : Int32) + (1 : Nat).toInt32) (((0 : Int32) + (1 : Nat).toInt32) + (1 : Nat).toInt32)) 1 (((0 : Int32) + (1 : Nat).toInt32) + (1 : Nat).toInt32) ((((0 : Int32) + (1 : Nat).toInt32) + (1 : Nat).toInt32) + (1 : Nat).toInt32) ((((0 : Int32) + (1 : Nat).toInt32) + (1 : Nat).toInt32) + (1 : Nat).toInt32) (((((0 : Int32) + (1 : Nat).toInt32) + (1 : Nat).toInt32) + (1 : Nat).toInt32) + (0 : Nat).toInt32)) R865 0 (by decide) (by decide)) pd_13 rfl rfl rfl (Nat.le_of_eq rfl) (by decide) (by decide) rfl rfl (by decide) (by decide) ?_
      rintro v hh899 ⟨rfl, he899⟩
      rw [he899]
      refine WP.castS (st' := [(.int (sz (sp4 (sp4 (fun _ => 0) 0 (0 : Int32) ((0 : Int32) + (1 : Nat).toInt32) ((0 : Int32) + (1 : Nat).toInt32) (((0 : Int32) + (1 : Nat).toInt32) + (1 : Nat).toInt32)) 1 (((0 : Int32) + (1 : Nat).toInt32) + (1 : Nat).toInt32) ((((0 : Int32) + (1 : Nat).toInt32) + (1 : Nat).toInt32) + (1 : Nat).toInt32) ((((0 : Int32) + (1 : Nat).toInt32) + (1 : Nat).toInt32) + (1 : Nat).toInt32) (((((0 : Int32) + (1 : Nat).toInt32) + (1 : Nat).toInt32) + (1 : Nat).toInt32) + (0 : Nat).toInt32)) 0))]) rfl ?_
      refine WP.bipush (pc' := 176) at_174 rfl (z := 17) rfl ?_
      have hc176 : (sz (sp4 (sp4 (fun _ => 0) 0 (0 : Int32) ((0 : Int32) + (1 : Nat).toInt32) ((0 : Int32) + (1 : Nat).toInt32) (((0 : Int32) + (1 : Nat).toInt32) + (1 : Nat).toInt32)) 1 (((0 : Int32) + (1 : Nat).toInt32) + (1 : Nat).toInt32) ((((0 : Int32) + (1 : Nat).toInt32) + (1 : Nat).toInt32) + (1 : Nat).toInt32) ((((0 : Int32) + (1 : Nat).toInt32) + (1 : Nat).toInt32) + (1 : Nat).toInt32) (((((0 : Int32) + (1 : Nat).toInt32) + (1 : Nat).toInt32) + (1 : Nat).toInt32) + (0 : Nat).toInt32)) 0) = (17 : Int32) := rfl
      refine WP.icmp_eq (pc1 := 181) (pc2 := 179) at_176 (by decide) (by decide) rfl (fun _ => ?_) (fun k => absurd hc176 k)
      refine WP.aload (pc' := 183) at_181 rfl rfl rfl ?_
      refine WP.aload (pc' := 185) at_183 rfl rfl rfl ?_
      refine WP.aload (pc' := 187) at_185 rfl rfl rfl ?_
      refine WP.callV (a := b632) (K := "com/example/vipool/vipool/http/HttpHead") (argsL := [(.ref s475), (.ref s491)]) (rest := []) (wd := 0) (cl' := 18) (sl' := 16977) (pc' := 190) at_187 rfl (wd56 hw) (wd57 hw) (nfS (wd59 hw) rfl) (wd59 hw) (wd58 hw) (wd46 hw) (wd60 hw) (by decide) R865.2.1 (m_add hw b632 s475 s491 h865 n0 Z898 O896 cs S_CS hcs fv hfv S_FM 512 rw689 sp689 (0 : Int32) (0 : Int32) (lay (lay (lay (lay (fun _ => 0) 0 1 (fun _ => cv ch1)) (0 + 1) 1 (fun _ => cv ch3)) 2 1 (fun _ => cv ch2)) (2 + 1) 0 (litG [])) (sp4 (sp4 (fun _ => 0) 0 (0 : Int32) ((0 : Int32) + (1 : Nat).toInt32) ((0 : Int32) + (1 : Nat).toInt32) (((0 : Int32) + (1 : Nat).toInt32) + (1 : Nat).toInt32)) 1 (((0 : Int32) + (1 : Nat).toInt32) + (1 : Nat).toInt32) ((((0 : Int32) + (1 : Nat).toInt32) + (1 : Nat).toInt32) + (1 : Nat).toInt32) ((((0 : Int32) + (1 : Nat).toInt32) + (1 : Nat).toInt32) + (1 : Nat).toInt32) (((((0 : Int32) + (1 : Nat).toInt32) + (1 : Nat).toInt32) + (1 : Nat).toInt32) + (0 : Nat).toInt32)) R865 c475 1 (fun _ => cv ch4) E878 F879 F880 V881 c491 1 (fun _ => cv ch5) E882 F883 F884 V885 ne641 ne698 ne712 ne642 ne699 ne713 ne643 ne700 ne714 ne644 ne701 ne715 0 0 (by decide) (by decide) (by decide) (by decide) (by decide) (fun _ _ => cv_cv _) (fun _ _ => cv_cv _) (by decide) (by decide)) pd_34 rfl rfl rfl (Nat.le_of_eq rfl) (by decide) (by decide) rfl rfl (by decide) (by decide) ?_
      rintro v h900 ⟨rfl, K900, R900⟩
      have E901 := E866.keep K900
      have F902 := F867.keep K900 (ninS ne635 (ninS ne692 (ninS ne706 nin0)))
      have F903 := F868.keep K900 (ninS ne635 (ninS ne692 (ninS ne706 nin0)))
      have V904 := V869.keep K900 (ninS ne636 (ninS ne693 (ninS ne707 nin0)))
      have E905 := E870.keep K900
      have F906 := F871.keep K900 (ninS ne637 (ninS ne694 (ninS ne708 nin0)))
      have F907 := F872.keep K900 (ninS ne637 (ninS ne694 (ninS ne708 nin0)))
      have V908 := V873.keep K900 (ninS ne638 (ninS ne695 (ninS ne709 nin0)))
      have E909 := E874.keep K900
      have F910 := F875.keep K900 (ninS ne639 (ninS ne696 (ninS ne710 nin0)))
      have F911 := F876.keep K900 (ninS ne639 (ninS ne696 (ninS ne710 nin0)))
      have V912 := V877.keep K900 (ninS ne640 (ninS ne697 (ninS ne711 nin0)))
      have E913 := E878.keep K900
      have F914 := F879.keep K900 (ninS ne641 (ninS ne698 (ninS ne712 nin0)))
      have F915 := F880.keep K900 (ninS ne641 (ninS ne698 (ninS ne712 nin0)))
      have V916 := V881.keep K900 (ninS ne642 (ninS ne699 (ninS ne713 nin0)))
      have E917 := E882.keep K900
      have F918 := F883.keep K900 (ninS ne643 (ninS ne700 (ninS ne714 nin0)))
      have F919 := F884.keep K900 (ninS ne643 (ninS ne700 (ninS ne714 nin0)))
      have V920 := V885.keep K900 (ninS ne644 (ninS ne701 (ninS ne715 nin0)))
      have E921 := E886.keep K900
      have V922 := V887.keep K900 (ninS ne646 (ninS ne703 (ninS ne717 nin0)))
      have F923 := F888.keep K900 (ninS ne645 (ninS ne702 (ninS ne716 nin0)))
      have F924 := F889.keep K900 (ninS ne645 (ninS ne702 (ninS ne716 nin0)))
      have V925 := V890.keep K900 (ninS ne647 (ninS ne704 (ninS ne718 nin0)))
      have E926 := E891.keep K900
      have E927 := E892.keep K900
      have F928 := F893.keep K900 (ninS (Ne.symm ne821) (ninS (Ne.symm ne823) (ninS (Ne.symm ne825) nin0)))
      have F929 := F894.keep K900 (ninS (Ne.symm ne821) (ninS (Ne.symm ne823) (ninS (Ne.symm ne825) nin0)))
      have V930 := V895.keep K900 (ninS (Ne.symm ne822) (ninS (Ne.symm ne824) (ninS (Ne.symm ne826) nin0)))
      have O931 := O896.keep K900 (allS ge634 (allS R689.1.2.1 (allS R689.1.2.2.1 all0)))
      have sn932 := sn897.grow K900.1
      have Z933 : n0 ≤ h900.size := Nat.le_trans Z898 K900.1
      refine WP.castS (st' := []) rfl ?_
      refine WP.aload (pc' := 192) at_190 rfl rfl rfl ?_
      refine WP.aload (pc' := 194) at_192 rfl rfl rfl ?_
      have nm934 : NM (lay (lay (lay (lay (lay (lay (fun _ => 0) 0 1 (fun _ => cv ch1)) (0 + 1) 1 (fun _ => cv ch3)) 2 1 (fun _ => cv ch2)) (2 + 1) 0 (litG [])) 0 1 (fun _ => cv ch4)) (0 + 1) 1 (fun _ => cv ch5)) 0 1 1 (fun _ => cv ch4) := ⟨rfl, fun i hi => by rw [show i = 0 by omega, lay_out (by omega), lay_in (by omega)]; exact Or.inl (chv_cv7 hb4)⟩
      refine WP.callV (a := b632) (K := "com/example/vipool/vipool/http/HttpHead") (argsL := [(.ref s475)]) (rest := []) (wd := 0) (cl' := 20) (sl' := 16982) (pc' := 197) at_194 rfl (wd128 hw) (wd129 hw) (nfS (wd131 hw) rfl) (wd131 hw) (wd130 hw) (wd46 hw) (wd132 hw) (by decide) R900.2.1 (m_val hw b632 s475 h900 n0 Z933 O931 cs S_CS hcs fv hfv S_FM iso utf hiu S_II S_UI S_IS X_IS 512 rw689 sp689 (((0 : Int32) + (1 : Nat).toInt32) + (1 : Nat).toInt32) ((0 : Int32) + 1) (lay (lay (lay (lay (lay (lay (fun _ => 0) 0 1 (fun _ => cv ch1)) (0 + 1) 1 (fun _ => cv ch3)) 2 1 (fun _ => cv ch2)) (2 + 1) 0 (litG [])) 0 1 (fun _ => cv ch4)) (0 + 1) 1 (fun _ => cv ch5)) (sp4 (sp4 (sp4 (fun _ => 0) 0 (0 : Int32) ((0 : Int32) + (1 : Nat).toInt32) ((0 : Int32) + (1 : Nat).toInt32) (((0 : Int32) + (1 : Nat).toInt32) + (1 : Nat).toInt32)) 1 (((0 : Int32) + (1 : Nat).toInt32) + (1 : Nat).toInt32) ((((0 : Int32) + (1 : Nat).toInt32) + (1 : Nat).toInt32) + (1 : Nat).toInt32) ((((0 : Int32) + (1 : Nat).toInt32) + (1 : Nat).toInt32) + (1 : Nat).toInt32) (((((0 : Int32) + (1 : Nat).toInt32) + (1 : Nat).toInt32) + (1 : Nat).toInt32) + (0 : Nat).toInt32)) 0 (0 : Int32) ((0 : Int32) + (1 : Nat).toInt32) ((0 : Int32) + (1 : Nat).toInt32) (((0 : Int32) + (1 : Nat).toInt32) + (1 : Nat).toInt32)) R900 (by decide) (by decide) c475 1 (fun _ => cv ch4) E913 F914 F915 V916 (by decide) 0 1 rfl (show (0 + (1 : Nat).toInt32 : Int32).toInt = ((1 : Nat) : Int) from by decide) (by decide) (by decide) nm934 (by decide) (show (0 + (1 : Nat).toInt32 : Int32) = 1 from by decide) (show (0 + (1 : Nat).toInt32 + (1 : Nat).toInt32 : Int32) = 2 from by decide)) pd_35 rfl rfl rfl (Nat.le_of_eq rfl) (by decide) (by decide) rfl rfl (by decide) (by decide) ?_
      rintro v h934 ⟨s934, c934, rfl, sz934, K934, E934, Fv934, Fc934, B934⟩
      have ne935 : s451 ≠ s934 := Nat.ne_of_lt (Nat.lt_of_lt_of_le E901.lt sz934)
      have ne936 : c451 ≠ s934 := Nat.ne_of_lt (Nat.lt_of_lt_of_le V904.lt sz934)
      have ne937 : s455 ≠ s934 := Nat.ne_of_lt (Nat.lt_of_lt_of_le E905.lt sz934)
      have ne938 : c455 ≠ s934 := Nat.ne_of_lt (Nat.lt_of_lt_of_le V908.lt sz934)
      have ne939 : s463 ≠ s934 := Nat.ne_of_lt (Nat.lt_of_lt_of_le E909.lt sz934)
      have ne940 : c463 ≠ s934 := Nat.ne_of_lt (Nat.lt_of_lt_of_le V912.lt sz934)
      have ne941 : s475 ≠ s934 := Nat.ne_of_lt (Nat.lt_of_lt_of_le E913.lt sz934)
      have ne942 : c475 ≠ s934 := Nat.ne_of_lt (Nat.lt_of_lt_of_le V916.lt sz934)
      have ne943 : s491 ≠ s934 := Nat.ne_of_lt (Nat.lt_of_lt_of_le E917.lt sz934)
      have ne944 : c491 ≠ s934 := Nat.ne_of_lt (Nat.lt_of_lt_of_le V920.lt sz934)
      have ne945 : b511 ≠ s934 := Nat.ne_of_lt (Nat.lt_of_lt_of_le E921.lt sz934)
      have ne946 : b550 ≠ s934 := Nat.ne_of_lt (Nat.lt_of_lt_of_le V922.lt sz934)
      have ne947 : c592 ≠ s934 := Nat.ne_of_lt (Nat.lt_of_lt_of_le V925.lt sz934)
      have ne948 : b632 ≠ s934 := Nat.ne_of_lt (Nat.lt_of_lt_of_le E926.lt sz934)
      have ne949 : la789 ≠ s934 := Nat.ne_of_lt (Nat.lt_of_lt_of_le E927.lt sz934)
      have ne950 : lb789 ≠ s934 := Nat.ne_of_lt (Nat.lt_of_lt_of_le V930.lt sz934)
      have E951 := E901.keep K934
      have F952 := F902.keep K934 nin0
      have F953 := F903.keep K934 nin0
      have V954 := V904.keep K934 nin0
      have E955 := E905.keep K934
      have F956 := F906.keep K934 nin0
      have F957 := F907.keep K934 nin0
      have V958 := V908.keep K934 nin0
      have E959 := E909.keep K934
      have F960 := F910.keep K934 nin0
      have F961 := F911.keep K934 nin0
      have V962 := V912.keep K934 nin0
      have E963 := E913.keep K934
      have F964 := F914.keep K934 nin0
      have F965 := F915.keep K934 nin0
      have V966 := V916.keep K934 nin0
      have E967 := E917.keep K934
      have F968 := F918.keep K934 nin0
      have F969 := F919.keep K934 nin0
      have V970 := V920.keep K934 nin0
      have E971 := E921.keep K934
      have V972 := V922.keep K934 nin0
      have F973 := F923.keep K934 nin0
      have F974 := F924.keep K934 nin0
      have V975 := V925.keep K934 nin0
      have E976 := E926.keep K934
      have E977 := E927.keep K934
      have F978 := F928.keep K934 nin0
      have F979 := F929.keep K934 nin0
      have V980 := V930.keep K934 nin0
      have O981 := O931.keep K934 all0
      have sn982 := sn932.grow K934.1
      have Z983 : n0 ≤ h934.size := Nat.le_trans Z933 K934.1
      have R934 := R900.keep0 K934
      refine WP.castS (st' := [(.ref s934)]) rfl ?_
      refine WP.astore (pc' := 199) at_197 rfl rfl (Ls' := #[.val (.int x0), .val (.int x1), .val (.int x2), .val (.int x3), .val (.int x4), .val (.int x5), .val (.int (0 : Int32)), .val (.int (1 : Int32)), .val (.ref s451), .val (.ref s455), .val (.ref s463), .val (.ref s475), .val (.ref s491), .val (.ref b511), .val (.ref b632), .val (.int (0 : Int32)), .val (.int (0 : Int32)), .val (.ref s934)]) rfl ?_
      refine WP.aload (pc' := 201) at_199 rfl rfl rfl ?_
      refine WP.ifnullN (pc' := 204) at_201 rfl ?_
      refine WP.aload (pc' := 206) at_204 rfl rfl rfl ?_
      refine WP.aload (pc' := 208) at_206 rfl rfl rfl ?_
      refine WP.callV (a := s934) (K := "java/lang/String") (argsL := [(.ref s491)]) (rest := []) (wd := 0) (cl' := 20) (sl' := 16982) (pc' := 211) at_208 rfl (wd191 hw) (wd192 hw) (nfS (wd194 hw) rfl) (wd194 hw) (wd193 hw) (wd2 hw) (wd195 hw) (by decide) E934 (s_eq hw s934 s491 h934 n0 c934 c491 1 1 (fun _ => (lay (lay (lay (lay (lay (lay (fun _ => 0) 0 1 (fun _ => cv ch1)) (0 + 1) 1 (fun _ => cv ch3)) 2 1 (fun _ => cv ch2)) (2 + 1) 0 (litG [])) 0 1 (fun _ => cv ch4)) (0 + 1) 1 (fun _ => cv ch5)) 1) (fun _ => cv ch5) E934 Fv934 Fc934 E967 F968 F969 B934 V970 (by omega) (by omega) (Ne.symm ne943) cs (S_CS.ext O981.2) hcs) pd_36 rfl rfl rfl (Nat.le_of_eq rfl) (by decide) (by decide) rfl rfl (by decide) (by decide) ?_
      rintro v hh984 ⟨⟨rfl, qe984⟩ | ⟨rfl, qe984⟩, he984⟩ <;> rw [he984]
      · skip
        refine WP.castS (st' := [(.int (1 : Int32))]) rfl ?_
        have hc211 : ¬ (1 : Int32) = (0 : Int32) := by decide
        refine WP.ifc_ne (pc1 := 216) (pc2 := 214) at_211 (by decide) (by decide) rfl (fun _ => ?_) (fun k => absurd k hc211)
        refine WP.aload (pc' := 218) at_216 rfl rfl rfl ?_
        refine WP.callV (a := b632) (K := "com/example/vipool/vipool/http/HttpHead") (argsL := []) (rest := []) (wd := 0) (cl' := 20) (sl' := 16982) (pc' := 221) at_218 rfl (wd117 hw) (wd118 hw) (nfS (wd120 hw) rfl) (wd120 hw) (wd119 hw) (wd46 hw) (wd121 hw) (by decide) R934.2.1 (m_size hw b632 h934 n0 512 rw689 sp689 (((0 : Int32) + (1 : Nat).toInt32) + (1 : Nat).toInt32) ((0 : Int32) + 1) (lay (lay (lay (lay (lay (lay (fun _ => 0) 0 1 (fun _ => cv ch1)) (0 + 1) 1 (fun _ => cv ch3)) 2 1 (fun _ => cv ch2)) (2 + 1) 0 (litG [])) 0 1 (fun _ => cv ch4)) (0 + 1) 1 (fun _ => cv ch5)) (sp4 (sp4 (sp4 (fun _ => 0) 0 (0 : Int32) ((0 : Int32) + (1 : Nat).toInt32) ((0 : Int32) + (1 : Nat).toInt32) (((0 : Int32) + (1 : Nat).toInt32) + (1 : Nat).toInt32)) 1 (((0 : Int32) + (1 : Nat).toInt32) + (1 : Nat).toInt32) ((((0 : Int32) + (1 : Nat).toInt32) + (1 : Nat).toInt32) + (1 : Nat).toInt32) ((((0 : Int32) + (1 : Nat).toInt32) + (1 : Nat).toInt32) + (1 : Nat).toInt32) (((((0 : Int32) + (1 : Nat).toInt32) + (1 : Nat).toInt32) + (1 : Nat).toInt32) + (0 : Nat).toInt32)) 0 (0 : Int32) ((0 : Int32) + (1 : Nat).toInt32) ((0 : Int32) + (1 : Nat).toInt32) (((0 : Int32) + (1 : Nat).toInt32) + (1 : Nat).toInt32)) R934 1 (by decide) (by decide)) pd_13 rfl rfl rfl (Nat.le_of_eq rfl) (by decide) (by decide) rfl rfl (by decide) (by decide) ?_
        rintro v hh985 ⟨rfl, he985⟩
        rw [he985]
        refine WP.castS (st' := [(.int (sz (sp4 (sp4 (sp4 (fun _ => 0) 0 (0 : Int32) ((0 : Int32) + (1 : Nat).toInt32) ((0 : Int32) + (1 : Nat).toInt32) (((0 : Int32) + (1 : Nat).toInt32) + (1 : Nat).toInt32)) 1 (((0 : Int32) + (1 : Nat).toInt32) + (1 : Nat).toInt32) ((((0 : Int32) + (1 : Nat).toInt32) + (1 : Nat).toInt32) + (1 : Nat).toInt32) ((((0 : Int32) + (1 : Nat).toInt32) + (1 : Nat).toInt32) + (1 : Nat).toInt32) (((((0 : Int32) + (1 : Nat).toInt32) + (1 : Nat).toInt32) + (1 : Nat).toInt32) + (0 : Nat).toInt32)) 0 (0 : Int32) ((0 : Int32) + (1 : Nat).toInt32) ((0 : Int32) + (1 : Nat).toInt32) (((0 : Int32) + (1 : Nat).toInt32) + (1 : Nat).toInt32)) 1))]) rfl ?_
        refine WP.bipush (pc' := 223) at_221 rfl (z := 23) rfl ?_
        have hc223 : (sz (sp4 (sp4 (sp4 (fun _ => 0) 0 (0 : Int32) ((0 : Int32) + (1 : Nat).toInt32) ((0 : Int32) + (1 : Nat).toInt32) (((0 : Int32) + (1 : Nat).toInt32) + (1 : Nat).toInt32)) 1 (((0 : Int32) + (1 : Nat).toInt32) + (1 : Nat).toInt32) ((((0 : Int32) + (1 : Nat).toInt32) + (1 : Nat).toInt32) + (1 : Nat).toInt32) ((((0 : Int32) + (1 : Nat).toInt32) + (1 : Nat).toInt32) + (1 : Nat).toInt32) (((((0 : Int32) + (1 : Nat).toInt32) + (1 : Nat).toInt32) + (1 : Nat).toInt32) + (0 : Nat).toInt32)) 0 (0 : Int32) ((0 : Int32) + (1 : Nat).toInt32) ((0 : Int32) + (1 : Nat).toInt32) (((0 : Int32) + (1 : Nat).toInt32) + (1 : Nat).toInt32)) 1) = (23 : Int32) := (sz_n (k := 0) (show ¬ (0 : Int32) = -1 from by decide)).symm.trans (show (17 : Int32) + ((0 + (1 : Nat).toInt32) - 0 + 2 + ((0 + (1 : Nat).toInt32) + (1 : Nat).toInt32) - (0 + (1 : Nat).toInt32) + 2) = 23 from by decide)
        refine WP.icmp_eq (pc1 := 228) (pc2 := 226) at_223 (by decide) (by decide) rfl (fun _ => ?_) (fun k => absurd hc223 k)
        refine WP.aload (pc' := 230) at_228 rfl rfl rfl ?_
        refine WP.callV (a := b632) (K := "com/example/vipool/vipool/http/HttpHead") (argsL := []) (rest := []) (wd := 0) (cl' := 20) (sl' := 16982) (pc' := 233) at_230 rfl (wd108 hw) (wd109 hw) (nfS (wd111 hw) rfl) (wd111 hw) (wd110 hw) (wd46 hw) (wd112 hw) (by decide) R934.2.1 (m_clr0 hw b632 h934 n0 Z983 O981 512 rw689 sp689 (((0 : Int32) + (1 : Nat).toInt32) + (1 : Nat).toInt32) ((0 : Int32) + 1) (lay (lay (lay (lay (lay (lay (fun _ => 0) 0 1 (fun _ => cv ch1)) (0 + 1) 1 (fun _ => cv ch3)) 2 1 (fun _ => cv ch2)) (2 + 1) 0 (litG [])) 0 1 (fun _ => cv ch4)) (0 + 1) 1 (fun _ => cv ch5)) (sp4 (sp4 (sp4 (fun _ => 0) 0 (0 : Int32) ((0 : Int32) + (1 : Nat).toInt32) ((0 : Int32) + (1 : Nat).toInt32) (((0 : Int32) + (1 : Nat).toInt32) + (1 : Nat).toInt32)) 1 (((0 : Int32) + (1 : Nat).toInt32) + (1 : Nat).toInt32) ((((0 : Int32) + (1 : Nat).toInt32) + (1 : Nat).toInt32) + (1 : Nat).toInt32) ((((0 : Int32) + (1 : Nat).toInt32) + (1 : Nat).toInt32) + (1 : Nat).toInt32) (((((0 : Int32) + (1 : Nat).toInt32) + (1 : Nat).toInt32) + (1 : Nat).toInt32) + (0 : Nat).toInt32)) 0 (0 : Int32) ((0 : Int32) + (1 : Nat).toInt32) ((0 : Int32) + (1 : Nat).toInt32) (((0 : Int32) + (1 : Nat).toInt32) + (1 : Nat).toInt32)) R934 (by decide)) pd_10 rfl rfl rfl (Nat.le_of_eq rfl) (by decide) (by decide) rfl rfl (by decide) (by decide) ?_
        rintro v h986 ⟨rfl, K986, R986⟩
        have O987 := O981.keep K986 (allS ge634 all0)
        have sn988 := sn982.grow K986.1
        have Z989 : n0 ≤ h986.size := Nat.le_trans Z983 K986.1
        refine WP.castS (st' := [(.int (0 : Int32))]) rfl ?_
        have hc233 : (0 : Int32) = (0 : Int32) := by decide
        refine WP.ifc_ne (pc1 := 240) (pc2 := 236) at_233 (by decide) (by decide) rfl (fun k => absurd hc233 k) (fun _ => ?_)
        refine WP.iconst (pc' := 237) at_236 rfl (z := 1) rfl ?_
        refine WP.goto (pc' := 241) at_237 (by decide) (by decide) ?_
        refine WP.nretW (t := .boolean) at_241 rfl (by simp) rfl sn988 (by decide) (by decide) rfl
      · exact absurd (show Same 1 1 (fun _ => (lay (lay (lay (lay (lay (lay (fun _ => 0) 0 1 (fun _ => cv ch1)) (0 + 1) 1 (fun _ => cv ch3)) 2 1 (fun _ => cv ch2)) (2 + 1) 0 (litG [])) 0 1 (fun _ => cv ch4)) (0 + 1) 1 (fun _ => cv ch5)) 1) (fun _ => cv ch5) from ⟨rfl, fun i hi => (lay_in (by omega)).trans rfl⟩) qe984
  · intro hc3
    refine WP.iconst (pc' := 7) at_6 rfl (z := 1) rfl ?_
    refine WP.goto (pc' := 11) at_7 (by decide) (by decide) ?_
    refine WP.istore (pc' := 13) at_11 rfl (Ls' := #[.val (.int x0), .val (.int x1), .val (.int x2), .val (.int x3), .val (.int x4), .val (.int x5), .val (.int (1 : Int32)), .unset, .unset, .unset, .unset, .unset, .unset, .unset, .unset, .unset, .unset, .unset]) rfl ?_
    refine WP.iloadN (pc' := 14) at_13 rfl rfl ?_
    refine WP.iconst (pc' := 15) at_14 rfl (z := 2) rfl ?_
    refine WP.iand (pc' := 16) at_15 rfl ?_
    refine WP.ifc_eq (pc1 := 23) (pc2 := 19) at_16 (by decide) (by decide) rfl ?_ ?_
    · intro hc16
      refine WP.iconst (pc' := 24) at_23 rfl (z := 0) rfl ?_
      refine WP.istore (pc' := 26) at_24 rfl (Ls' := #[.val (.int x0), .val (.int x1), .val (.int x2), .val (.int x3), .val (.int x4), .val (.int x5), .val (.int (1 : Int32)), .val (.int (0 : Int32)), .unset, .unset, .unset, .unset, .unset, .unset, .unset, .unset, .unset, .unset]) rfl ?_
      refine WP.iloadN (pc' := 27) at_26 rfl rfl ?_
      refine WP.bipush (pc' := 29) at_27 rfl (z := 127) rfl ?_
      refine WP.iand (pc' := 30) at_29 rfl ?_
      refine WP.i2c (pc' := 31) at_30 rfl ?_
      have hb1 := m7 x1
      generalize ((x1 &&& (127 : Int32)).toUInt32.toUInt16.toUInt32.toInt32) = ch1 at hb1 ⊢
      refine WP.callS (argsL := [(.int ch1)]) (rest := []) (wd := 0) (cl' := 2) (sl' := 5) (pc' := 34) at_31 rfl (wd0 hw) (wd1 hw) (wd2 hw) (wd3 hw) (by decide) (s_vo hw ch1 h0 n0 Z0 ⟨by omega, by omega⟩ cs (S_CS.ext O0.2) hcs) pd_31 rfl rfl rfl (Nat.le_of_eq rfl) (by decide) (by decide) rfl rfl (by decide) (by decide) ?_
      rintro v h990 ⟨s990, c990, rfl, K990, E990, Fv990, Fc990, B990⟩
      have O991 := O0.keep K990 all0
      have Hd992 := Hd0.keep K990 all0
      have Z993 : n0 ≤ h990.size := Nat.le_trans Z0 K990.1
      refine WP.castS (st' := [(.ref s990)]) rfl ?_
      refine WP.astore (pc' := 36) at_34 rfl rfl (Ls' := #[.val (.int x0), .val (.int x1), .val (.int x2), .val (.int x3), .val (.int x4), .val (.int x5), .val (.int (1 : Int32)), .val (.int (0 : Int32)), .val (.ref s990), .unset, .unset, .unset, .unset, .unset, .unset, .unset, .unset, .unset]) rfl ?_
      refine WP.iloadN (pc' := 37) at_36 rfl rfl ?_
      refine WP.bipush (pc' := 39) at_37 rfl (z := 127) rfl ?_
      refine WP.iand (pc' := 40) at_39 rfl ?_
      refine WP.i2c (pc' := 41) at_40 rfl ?_
      have hb2 := m7 x2
      generalize ((x2 &&& (127 : Int32)).toUInt32.toUInt16.toUInt32.toInt32) = ch2 at hb2 ⊢
      refine WP.callS (argsL := [(.int ch2)]) (rest := []) (wd := 0) (cl' := 4) (sl' := 10) (pc' := 44) at_41 rfl (wd0 hw) (wd1 hw) (wd2 hw) (wd3 hw) (by decide) (s_vo hw ch2 h990 n0 Z993 ⟨by omega, by omega⟩ cs (S_CS.ext O991.2) hcs) pd_31 rfl rfl rfl (Nat.le_of_eq rfl) (by decide) (by decide) rfl rfl (by decide) (by decide) ?_
      rintro v h994 ⟨s994, c994, rfl, K994, E994, Fv994, Fc994, B994⟩
      have E995 := E990.keep K994
      have F996 := Fv990.keep K994 nin0
      have F997 := Fc990.keep K994 nin0
      have V998 := B990.keep K994 nin0
      have O999 := O991.keep K994 all0
      have Hd1000 := Hd992.keep K994 all0
      have Z1001 : n0 ≤ h994.size := Nat.le_trans Z993 K994.1
      refine WP.castS (st' := [(.ref s994)]) rfl ?_
      refine WP.astore (pc' := 46) at_44 rfl rfl (Ls' := #[.val (.int x0), .val (.int x1), .val (.int x2), .val (.int x3), .val (.int x4), .val (.int x5), .val (.int (1 : Int32)), .val (.int (0 : Int32)), .val (.ref s990), .val (.ref s994), .unset, .unset, .unset, .unset, .unset, .unset, .unset, .unset]) rfl ?_
      refine WP.iloadN (pc' := 47) at_46 rfl rfl ?_
      refine WP.sipush (pc' := 50) at_47 rfl (z := 255) rfl ?_
      refine WP.iand (pc' := 51) at_50 rfl ?_
      refine WP.i2c (pc' := 52) at_51 rfl ?_
      have hb3 := m8 x3
      generalize ((x3 &&& (255 : Int32)).toUInt32.toUInt16.toUInt32.toInt32) = ch3 at hb3 ⊢
      refine WP.callS (argsL := [(.int ch3)]) (rest := []) (wd := 0) (cl' := 6) (sl' := 15) (pc' := 55) at_52 rfl (wd0 hw) (wd1 hw) (wd2 hw) (wd3 hw) (by decide) (s_vo hw ch3 h994 n0 Z1001 ⟨by omega, by omega⟩ cs (S_CS.ext O999.2) hcs) pd_31 rfl rfl rfl (Nat.le_of_eq rfl) (by decide) (by decide) rfl rfl (by decide) (by decide) ?_
      rintro v h1002 ⟨s1002, c1002, rfl, K1002, E1002, Fv1002, Fc1002, B1002⟩
      have E1003 := E995.keep K1002
      have F1004 := F996.keep K1002 nin0
      have F1005 := F997.keep K1002 nin0
      have V1006 := V998.keep K1002 nin0
      have E1007 := E994.keep K1002
      have F1008 := Fv994.keep K1002 nin0
      have F1009 := Fc994.keep K1002 nin0
      have V1010 := B994.keep K1002 nin0
      have O1011 := O999.keep K1002 all0
      have Hd1012 := Hd1000.keep K1002 all0
      have Z1013 : n0 ≤ h1002.size := Nat.le_trans Z1001 K1002.1
      refine WP.castS (st' := [(.ref s1002)]) rfl ?_
      refine WP.astore (pc' := 57) at_55 rfl rfl (Ls' := #[.val (.int x0), .val (.int x1), .val (.int x2), .val (.int x3), .val (.int x4), .val (.int x5), .val (.int (1 : Int32)), .val (.int (0 : Int32)), .val (.ref s990), .val (.ref s994), .val (.ref s1002), .unset, .unset, .unset, .unset, .unset, .unset, .unset]) rfl ?_
      refine WP.iload (pc' := 59) at_57 rfl rfl ?_
      refine WP.bipush (pc' := 61) at_59 rfl (z := 127) rfl ?_
      refine WP.iand (pc' := 62) at_61 rfl ?_
      refine WP.i2c (pc' := 63) at_62 rfl ?_
      have hb4 := m7 x4
      generalize ((x4 &&& (127 : Int32)).toUInt32.toUInt16.toUInt32.toInt32) = ch4 at hb4 ⊢
      refine WP.callS (argsL := [(.int ch4)]) (rest := []) (wd := 0) (cl' := 8) (sl' := 20) (pc' := 66) at_63 rfl (wd0 hw) (wd1 hw) (wd2 hw) (wd3 hw) (by decide) (s_vo hw ch4 h1002 n0 Z1013 ⟨by omega, by omega⟩ cs (S_CS.ext O1011.2) hcs) pd_31 rfl rfl rfl (Nat.le_of_eq rfl) (by decide) (by decide) rfl rfl (by decide) (by decide) ?_
      rintro v h1014 ⟨s1014, c1014, rfl, K1014, E1014, Fv1014, Fc1014, B1014⟩
      have E1015 := E1003.keep K1014
      have F1016 := F1004.keep K1014 nin0
      have F1017 := F1005.keep K1014 nin0
      have V1018 := V1006.keep K1014 nin0
      have E1019 := E1007.keep K1014
      have F1020 := F1008.keep K1014 nin0
      have F1021 := F1009.keep K1014 nin0
      have V1022 := V1010.keep K1014 nin0
      have E1023 := E1002.keep K1014
      have F1024 := Fv1002.keep K1014 nin0
      have F1025 := Fc1002.keep K1014 nin0
      have V1026 := B1002.keep K1014 nin0
      have O1027 := O1011.keep K1014 all0
      have Hd1028 := Hd1012.keep K1014 all0
      have Z1029 : n0 ≤ h1014.size := Nat.le_trans Z1013 K1014.1
      refine WP.castS (st' := [(.ref s1014)]) rfl ?_
      refine WP.astore (pc' := 68) at_66 rfl rfl (Ls' := #[.val (.int x0), .val (.int x1), .val (.int x2), .val (.int x3), .val (.int x4), .val (.int x5), .val (.int (1 : Int32)), .val (.int (0 : Int32)), .val (.ref s990), .val (.ref s994), .val (.ref s1002), .val (.ref s1014), .unset, .unset, .unset, .unset, .unset, .unset]) rfl ?_
      refine WP.iload (pc' := 70) at_68 rfl rfl ?_
      refine WP.sipush (pc' := 73) at_70 rfl (z := 255) rfl ?_
      refine WP.iand (pc' := 74) at_73 rfl ?_
      refine WP.i2c (pc' := 75) at_74 rfl ?_
      have hb5 := m8 x5
      generalize ((x5 &&& (255 : Int32)).toUInt32.toUInt16.toUInt32.toInt32) = ch5 at hb5 ⊢
      refine WP.callS (argsL := [(.int ch5)]) (rest := []) (wd := 0) (cl' := 10) (sl' := 25) (pc' := 78) at_75 rfl (wd0 hw) (wd1 hw) (wd2 hw) (wd3 hw) (by decide) (s_vo hw ch5 h1014 n0 Z1029 ⟨by omega, by omega⟩ cs (S_CS.ext O1027.2) hcs) pd_31 rfl rfl rfl (Nat.le_of_eq rfl) (by decide) (by decide) rfl rfl (by decide) (by decide) ?_
      rintro v h1030 ⟨s1030, c1030, rfl, K1030, E1030, Fv1030, Fc1030, B1030⟩
      have E1031 := E1015.keep K1030
      have F1032 := F1016.keep K1030 nin0
      have F1033 := F1017.keep K1030 nin0
      have V1034 := V1018.keep K1030 nin0
      have E1035 := E1019.keep K1030
      have F1036 := F1020.keep K1030 nin0
      have F1037 := F1021.keep K1030 nin0
      have V1038 := V1022.keep K1030 nin0
      have E1039 := E1023.keep K1030
      have F1040 := F1024.keep K1030 nin0
      have F1041 := F1025.keep K1030 nin0
      have V1042 := V1026.keep K1030 nin0
      have E1043 := E1014.keep K1030
      have F1044 := Fv1014.keep K1030 nin0
      have F1045 := Fc1014.keep K1030 nin0
      have V1046 := B1014.keep K1030 nin0
      have O1047 := O1027.keep K1030 all0
      have Hd1048 := Hd1028.keep K1030 all0
      have Z1049 : n0 ≤ h1030.size := Nat.le_trans Z1029 K1030.1
      refine WP.castS (st' := [(.ref s1030)]) rfl ?_
      refine WP.astore (pc' := 80) at_78 rfl rfl (Ls' := #[.val (.int x0), .val (.int x1), .val (.int x2), .val (.int x3), .val (.int x4), .val (.int x5), .val (.int (1 : Int32)), .val (.int (0 : Int32)), .val (.ref s990), .val (.ref s994), .val (.ref s1002), .val (.ref s1014), .val (.ref s1030), .unset, .unset, .unset, .unset, .unset]) rfl ?_
      refine WP.newO (cl' := 11) (sl' := 29) (pc' := 83) at_80 rfl (wd26 hw) (wd10 hw) (wd2 hw) rfl rfl (by decide) (by decide) ?_
      intro h1050 b1050 g1050 E1050 A1050 D1050
      have Sf1051 : Safe Z consts_1 vm0 h1030 b1050 := Safe.new (by rw [g1050]; exact Nat.le_refl _)
      have ge1052 : n0 ≤ b1050 := by rw [g1050]; exact Z1049
      have ne1053 : s990 ≠ b1050 := by rw [g1050]; exact Nat.ne_of_lt E1031.lt
      have ne1054 : c990 ≠ b1050 := by rw [g1050]; exact Nat.ne_of_lt V1034.lt
      have ne1055 : s994 ≠ b1050 := by rw [g1050]; exact Nat.ne_of_lt E1035.lt
      have ne1056 : c994 ≠ b1050 := by rw [g1050]; exact Nat.ne_of_lt V1038.lt
      have ne1057 : s1002 ≠ b1050 := by rw [g1050]; exact Nat.ne_of_lt E1039.lt
      have ne1058 : c1002 ≠ b1050 := by rw [g1050]; exact Nat.ne_of_lt V1042.lt
      have ne1059 : s1014 ≠ b1050 := by rw [g1050]; exact Nat.ne_of_lt E1043.lt
      have ne1060 : c1014 ≠ b1050 := by rw [g1050]; exact Nat.ne_of_lt V1046.lt
      have ne1061 : s1030 ≠ b1050 := by rw [g1050]; exact Nat.ne_of_lt E1030.lt
      have ne1062 : c1030 ≠ b1050 := by rw [g1050]; exact Nat.ne_of_lt B1030.lt
      have E1063 := E1031.ext E1050
      have F1064 := F1032.ext E1050
      have F1065 := F1033.ext E1050
      have V1066 := V1034.ext E1050
      have E1067 := E1035.ext E1050
      have F1068 := F1036.ext E1050
      have F1069 := F1037.ext E1050
      have V1070 := V1038.ext E1050
      have E1071 := E1039.ext E1050
      have F1072 := F1040.ext E1050
      have F1073 := F1041.ext E1050
      have V1074 := V1042.ext E1050
      have E1075 := E1043.ext E1050
      have F1076 := F1044.ext E1050
      have F1077 := F1045.ext E1050
      have V1078 := V1046.ext E1050
      have E1079 := E1030.ext E1050
      have F1080 := Fv1030.ext E1050
      have F1081 := Fc1030.ext E1050
      have V1082 := B1030.ext E1050
      have O1083 := O1047.ext E1050
      have Sf1084 := Safe.ext E1050 Hd1048.ch Sf1051
      have Hd1085 := Hd1048.ext E1050
      have Z1086 : n0 ≤ h1050.size := Nat.le_trans Z1049 E1050.1
      have F1087 : Fld Z h1050 b1050 "java/lang/String" "value" "[B" .null := D1050 (Or.inr (wd23 hw)) (ty := (.array .byte)) (by decide)
      have F1088 : Fld Z h1050 b1050 "java/lang/String" "coder" "B" (.int (0 : Int32)) := D1050 (Or.inr (wd25 hw)) (ty := .byte) (by decide)
      refine WP.dup (pc' := 84) at_83 rfl rfl ?_
      refine WP.sipush (pc' := 87) at_84 rfl (z := 8191) rfl ?_
      refine WP.newPI (ty := .char) (n := 8191) (cap := 8191) (cl' := 12) (sl' := 8220) (pc' := 89) at_87 rfl rfl rfl (wd27 hw) (by decide) (by decide) (by decide) rfl rfl (by decide) (by decide) ?_
      intro h1089 b1089 g1089 E1089 A1089
      have Sf1090 : Safe Z consts_1 vm0 h1050 b1089 := Safe.new (by rw [g1089]; exact Nat.le_refl _)
      have ge1091 : n0 ≤ b1089 := by rw [g1089]; exact Z1086
      have ne1092 : s990 ≠ b1089 := by rw [g1089]; exact Nat.ne_of_lt E1063.lt
      have ne1093 : c990 ≠ b1089 := by rw [g1089]; exact Nat.ne_of_lt V1066.lt
      have ne1094 : s994 ≠ b1089 := by rw [g1089]; exact Nat.ne_of_lt E1067.lt
      have ne1095 : c994 ≠ b1089 := by rw [g1089]; exact Nat.ne_of_lt V1070.lt
      have ne1096 : s1002 ≠ b1089 := by rw [g1089]; exact Nat.ne_of_lt E1071.lt
      have ne1097 : c1002 ≠ b1089 := by rw [g1089]; exact Nat.ne_of_lt V1074.lt
      have ne1098 : s1014 ≠ b1089 := by rw [g1089]; exact Nat.ne_of_lt E1075.lt
      have ne1099 : c1014 ≠ b1089 := by rw [g1089]; exact Nat.ne_of_lt V1078.lt
      have ne1100 : s1030 ≠ b1089 := by rw [g1089]; exact Nat.ne_of_lt E1079.lt
      have ne1101 : c1030 ≠ b1089 := by rw [g1089]; exact Nat.ne_of_lt V1082.lt
      have ne1102 : b1050 ≠ b1089 := by rw [g1089]; exact Nat.ne_of_lt A1050.lt
      have E1103 := E1063.ext E1089
      have F1104 := F1064.ext E1089
      have F1105 := F1065.ext E1089
      have V1106 := V1066.ext E1089
      have E1107 := E1067.ext E1089
      have F1108 := F1068.ext E1089
      have F1109 := F1069.ext E1089
      have V1110 := V1070.ext E1089
      have E1111 := E1071.ext E1089
      have F1112 := F1072.ext E1089
      have F1113 := F1073.ext E1089
      have V1114 := V1074.ext E1089
      have E1115 := E1075.ext E1089
      have F1116 := F1076.ext E1089
      have F1117 := F1077.ext E1089
      have V1118 := V1078.ext E1089
      have E1119 := E1079.ext E1089
      have F1120 := F1080.ext E1089
      have F1121 := F1081.ext E1089
      have V1122 := V1082.ext E1089
      have E1123 := A1050.ext E1089
      have F1124 := F1087.ext E1089
      have F1125 := F1088.ext E1089
      have O1126 := O1083.ext E1089
      have Sf1127 := Safe.ext E1089 Hd1085.ch Sf1084
      have Sf1128 := Safe.ext E1089 Hd1085.ch Sf1090
      have Hd1129 := Hd1085.ext E1089
      have Z1130 : n0 ≤ h1089.size := Nat.le_trans Z1086 E1089.1
      refine WP.callI (a := b1050) (argsL := [(.ref b1089)]) (rest := [(.ref b1050)]) (wd := 1) (cl' := 13) (sl' := 16411) (pc' := 92) at_89 rfl rfl (wd28 hw) (wd29 hw) (wd2 hw) (wd30 hw) (by decide) (s_si hw b1050 b1089 h1089 n0 Z1130 ge1052 E1123 F1124 F1125 cs (S_CS.ext O1126.2) hcs 8191 (fun _ => 0) A1089 (by omega) (by omega) (by omega) (fun i hi => show 0 ≤ (0 : Int32).toInt ∧ (0 : Int32).toInt ≤ 255 from by decide) (Ne.symm ne1102)) pd_32 rfl rfl rfl (Nat.le_of_eq rfl) (by decide) (by decide) rfl rfl (by decide) (by decide) ?_
      rintro v h1131 ⟨rfl, c1131, K1131, ge1131, sz1131, E1131, Fv1131, Fc1131, B1131⟩
      have ne1132 : s990 ≠ c1131 := Nat.ne_of_lt (Nat.lt_of_lt_of_le E1103.lt sz1131)
      have ne1133 : c990 ≠ c1131 := Nat.ne_of_lt (Nat.lt_of_lt_of_le V1106.lt sz1131)
      have ne1134 : s994 ≠ c1131 := Nat.ne_of_lt (Nat.lt_of_lt_of_le E1107.lt sz1131)
      have ne1135 : c994 ≠ c1131 := Nat.ne_of_lt (Nat.lt_of_lt_of_le V1110.lt sz1131)
      have ne1136 : s1002 ≠ c1131 := Nat.ne_of_lt (Nat.lt_of_lt_of_le E1111.lt sz1131)
      have ne1137 : c1002 ≠ c1131 := Nat.ne_of_lt (Nat.lt_of_lt_of_le V1114.lt sz1131)
      have ne1138 : s1014 ≠ c1131 := Nat.ne_of_lt (Nat.lt_of_lt_of_le E1115.lt sz1131)
      have ne1139 : c1014 ≠ c1131 := Nat.ne_of_lt (Nat.lt_of_lt_of_le V1118.lt sz1131)
      have ne1140 : s1030 ≠ c1131 := Nat.ne_of_lt (Nat.lt_of_lt_of_le E1119.lt sz1131)
      have ne1141 : c1030 ≠ c1131 := Nat.ne_of_lt (Nat.lt_of_lt_of_le V1122.lt sz1131)
      have ne1142 : b1050 ≠ c1131 := Nat.ne_of_lt (Nat.lt_of_lt_of_le E1123.lt sz1131)
      have ne1143 : b1089 ≠ c1131 := Nat.ne_of_lt (Nat.lt_of_lt_of_le A1089.lt sz1131)
      have E1144 := E1103.keep K1131
      have F1145 := F1104.keep K1131 (ninS ne1053 nin0)
      have F1146 := F1105.keep K1131 (ninS ne1053 nin0)
      have V1147 := V1106.keep K1131 (ninS ne1054 nin0)
      have E1148 := E1107.keep K1131
      have F1149 := F1108.keep K1131 (ninS ne1055 nin0)
      have F1150 := F1109.keep K1131 (ninS ne1055 nin0)
      have V1151 := V1110.keep K1131 (ninS ne1056 nin0)
      have E1152 := E1111.keep K1131
      have F1153 := F1112.keep K1131 (ninS ne1057 nin0)
      have F1154 := F1113.keep K1131 (ninS ne1057 nin0)
      have V1155 := V1114.keep K1131 (ninS ne1058 nin0)
      have E1156 := E1115.keep K1131
      have F1157 := F1116.keep K1131 (ninS ne1059 nin0)
      have F1158 := F1117.keep K1131 (ninS ne1059 nin0)
      have V1159 := V1118.keep K1131 (ninS ne1060 nin0)
      have E1160 := E1119.keep K1131
      have F1161 := F1120.keep K1131 (ninS ne1061 nin0)
      have F1162 := F1121.keep K1131 (ninS ne1061 nin0)
      have V1163 := V1122.keep K1131 (ninS ne1062 nin0)
      have E1164 := E1123.keep K1131
      have V1165 := A1089.keep K1131 (ninS (Ne.symm ne1102) nin0)
      have O1166 := O1126.keep K1131 (allS ge1052 all0)
      have Sf1167 := Safe.keep K1131 (allS Sf1127 all0) Hd1129.ch Sf1127
      have Sf1168 := Safe.keep K1131 (allS Sf1127 all0) Hd1129.ch Sf1128
      have Hd1169 := Hd1129.keep K1131 (allS Sf1127 all0)
      have Z1170 : n0 ≤ h1131.size := Nat.le_trans Z1130 K1131.1
      refine WP.castS (st' := [(.ref b1050)]) rfl ?_
      refine WP.astore (pc' := 94) at_92 rfl rfl (Ls' := #[.val (.int x0), .val (.int x1), .val (.int x2), .val (.int x3), .val (.int x4), .val (.int x5), .val (.int (1 : Int32)), .val (.int (0 : Int32)), .val (.ref s990), .val (.ref s994), .val (.ref s1002), .val (.ref s1014), .val (.ref s1030), .val (.ref b1050), .unset, .unset, .unset, .unset]) rfl ?_
      refine WP.newO (cl' := 14) (sl' := 16429) (pc' := 97) at_94 rfl (wd44 hw) (wd45 hw) (wd46 hw) rfl rfl (by decide) (by decide) ?_
      intro h1171 b1171 g1171 E1171 A1171 D1171
      have Sf1172 : Safe Z consts_1 vm0 h1131 b1171 := Safe.new (by rw [g1171]; exact Nat.le_refl _)
      have ge1173 : n0 ≤ b1171 := by rw [g1171]; exact Z1170
      have ne1174 : s990 ≠ b1171 := by rw [g1171]; exact Nat.ne_of_lt E1144.lt
      have ne1175 : c990 ≠ b1171 := by rw [g1171]; exact Nat.ne_of_lt V1147.lt
      have ne1176 : s994 ≠ b1171 := by rw [g1171]; exact Nat.ne_of_lt E1148.lt
      have ne1177 : c994 ≠ b1171 := by rw [g1171]; exact Nat.ne_of_lt V1151.lt
      have ne1178 : s1002 ≠ b1171 := by rw [g1171]; exact Nat.ne_of_lt E1152.lt
      have ne1179 : c1002 ≠ b1171 := by rw [g1171]; exact Nat.ne_of_lt V1155.lt
      have ne1180 : s1014 ≠ b1171 := by rw [g1171]; exact Nat.ne_of_lt E1156.lt
      have ne1181 : c1014 ≠ b1171 := by rw [g1171]; exact Nat.ne_of_lt V1159.lt
      have ne1182 : s1030 ≠ b1171 := by rw [g1171]; exact Nat.ne_of_lt E1160.lt
      have ne1183 : c1030 ≠ b1171 := by rw [g1171]; exact Nat.ne_of_lt V1163.lt
      have ne1184 : b1050 ≠ b1171 := by rw [g1171]; exact Nat.ne_of_lt E1131.lt
      have ne1185 : b1089 ≠ b1171 := by rw [g1171]; exact Nat.ne_of_lt V1165.lt
      have ne1186 : c1131 ≠ b1171 := by rw [g1171]; exact Nat.ne_of_lt B1131.lt
      have E1187 := E1144.ext E1171
      have F1188 := F1145.ext E1171
      have F1189 := F1146.ext E1171
      have V1190 := V1147.ext E1171
      have E1191 := E1148.ext E1171
      have F1192 := F1149.ext E1171
      have F1193 := F1150.ext E1171
      have V1194 := V1151.ext E1171
      have E1195 := E1152.ext E1171
      have F1196 := F1153.ext E1171
      have F1197 := F1154.ext E1171
      have V1198 := V1155.ext E1171
      have E1199 := E1156.ext E1171
      have F1200 := F1157.ext E1171
      have F1201 := F1158.ext E1171
      have V1202 := V1159.ext E1171
      have E1203 := E1160.ext E1171
      have F1204 := F1161.ext E1171
      have F1205 := F1162.ext E1171
      have V1206 := V1163.ext E1171
      have E1207 := E1131.ext E1171
      have V1208 := V1165.ext E1171
      have F1209 := Fv1131.ext E1171
      have F1210 := Fc1131.ext E1171
      have V1211 := B1131.ext E1171
      have O1212 := O1166.ext E1171
      have Sf1213 := Safe.ext E1171 Hd1169.ch Sf1167
      have Sf1214 := Safe.ext E1171 Hd1169.ch Sf1168
      have Sf1215 := Safe.ext E1171 Hd1169.ch Sf1172
      have Hd1216 := Hd1169.ext E1171
      have Z1217 : n0 ≤ h1171.size := Nat.le_trans Z1170 E1171.1
      have F1218 : Fld Z h1171 b1171 "com/example/vipool/vipool/http/HttpHead" "raw" "[B" .null := D1171 (Or.inl (wd52 hw)) (ty := (.array .byte)) (by decide)
      have F1219 : Fld Z h1171 b1171 "com/example/vipool/vipool/http/HttpHead" "spans" "[I" .null := D1171 (Or.inl (wd55 hw)) (ty := (.array .int)) (by decide)
      have F1220 : Fld Z h1171 b1171 "com/example/vipool/vipool/http/HttpHead" "used" "I" (.int (0 : Int32)) := D1171 (Or.inl (wd62 hw)) (ty := .int) (by decide)
      have F1221 : Fld Z h1171 b1171 "com/example/vipool/vipool/http/HttpHead" "fields" "I" (.int (0 : Int32)) := D1171 (Or.inl (wd107 hw)) (ty := .int) (by decide)
      have F1222 : Fld Z h1171 b1171 "com/example/vipool/vipool/http/HttpHead" "method" "Ljava/lang/String;" .null := D1171 (Or.inl (wd114 hw)) (ty := (.object "java/lang/String")) (by decide)
      have F1223 : Fld Z h1171 b1171 "com/example/vipool/vipool/http/HttpHead" "status" "I" (.int (0 : Int32)) := D1171 (Or.inl (wd116 hw)) (ty := .int) (by decide)
      have F1224 : Fld Z h1171 b1171 "com/example/vipool/vipool/http/HttpHead" "secondEnd" "I" (.int (0 : Int32)) := D1171 (Or.inl (wd123 hw)) (ty := .int) (by decide)
      have F1225 : Fld Z h1171 b1171 "com/example/vipool/vipool/http/HttpHead" "secondStart" "I" (.int (0 : Int32)) := D1171 (Or.inl (wd125 hw)) (ty := .int) (by decide)
      have F1226 : Fld Z h1171 b1171 "com/example/vipool/vipool/http/HttpHead" "request" "Z" (.int (0 : Int32)) := D1171 (Or.inl (wd127 hw)) (ty := .boolean) (by decide)
      have F1227 : Fld Z h1171 b1171 "com/example/vipool/vipool/http/HttpHead" "firstEnd" "I" (.int (0 : Int32)) := D1171 (Or.inl (wd221 hw)) (ty := .int) (by decide)
      refine WP.dup (pc' := 98) at_97 rfl rfl ?_
      refine WP.callI (a := b1171) (argsL := []) (rest := [(.ref b1171)]) (wd := 1) (cl' := 16) (sl' := 16973) (pc' := 101) at_98 rfl rfl (wd47 hw) (wd48 hw) (wd46 hw) (wd49 hw) (by decide) (m_ini hw b1171 h1171 n0 Z1217 O1212 ge1173 A1171 F1218 F1219 F1220 F1221 F1224 F1225 F1226 F1222 F1223) pd_33 rfl rfl rfl (Nat.le_of_eq rfl) (by decide) (by decide) rfl rfl (by decide) (by decide) ?_
      rintro v h1228 ⟨rfl, rw1228, sp1228, K1228, zr1228, zs1228, R1228⟩
      have Sf1229 : Safe Z consts_1 vm0 h1171 rw1228 := Safe.new zr1228
      have Sf1230 : Safe Z consts_1 vm0 h1171 sp1228 := Safe.new zs1228
      have ne1231 : s990 ≠ rw1228 := Nat.ne_of_lt (Nat.lt_of_lt_of_le E1187.lt zr1228)
      have ne1232 : c990 ≠ rw1228 := Nat.ne_of_lt (Nat.lt_of_lt_of_le V1190.lt zr1228)
      have ne1233 : s994 ≠ rw1228 := Nat.ne_of_lt (Nat.lt_of_lt_of_le E1191.lt zr1228)
      have ne1234 : c994 ≠ rw1228 := Nat.ne_of_lt (Nat.lt_of_lt_of_le V1194.lt zr1228)
      have ne1235 : s1002 ≠ rw1228 := Nat.ne_of_lt (Nat.lt_of_lt_of_le E1195.lt zr1228)
      have ne1236 : c1002 ≠ rw1228 := Nat.ne_of_lt (Nat.lt_of_lt_of_le V1198.lt zr1228)
      have ne1237 : s1014 ≠ rw1228 := Nat.ne_of_lt (Nat.lt_of_lt_of_le E1199.lt zr1228)
      have ne1238 : c1014 ≠ rw1228 := Nat.ne_of_lt (Nat.lt_of_lt_of_le V1202.lt zr1228)
      have ne1239 : s1030 ≠ rw1228 := Nat.ne_of_lt (Nat.lt_of_lt_of_le E1203.lt zr1228)
      have ne1240 : c1030 ≠ rw1228 := Nat.ne_of_lt (Nat.lt_of_lt_of_le V1206.lt zr1228)
      have ne1241 : b1050 ≠ rw1228 := Nat.ne_of_lt (Nat.lt_of_lt_of_le E1207.lt zr1228)
      have ne1242 : b1089 ≠ rw1228 := Nat.ne_of_lt (Nat.lt_of_lt_of_le V1208.lt zr1228)
      have ne1243 : c1131 ≠ rw1228 := Nat.ne_of_lt (Nat.lt_of_lt_of_le V1211.lt zr1228)
      have ne1244 : b1171 ≠ rw1228 := Nat.ne_of_lt (Nat.lt_of_lt_of_le A1171.lt zr1228)
      have ne1245 : s990 ≠ sp1228 := Nat.ne_of_lt (Nat.lt_of_lt_of_le E1187.lt zs1228)
      have ne1246 : c990 ≠ sp1228 := Nat.ne_of_lt (Nat.lt_of_lt_of_le V1190.lt zs1228)
      have ne1247 : s994 ≠ sp1228 := Nat.ne_of_lt (Nat.lt_of_lt_of_le E1191.lt zs1228)
      have ne1248 : c994 ≠ sp1228 := Nat.ne_of_lt (Nat.lt_of_lt_of_le V1194.lt zs1228)
      have ne1249 : s1002 ≠ sp1228 := Nat.ne_of_lt (Nat.lt_of_lt_of_le E1195.lt zs1228)
      have ne1250 : c1002 ≠ sp1228 := Nat.ne_of_lt (Nat.lt_of_lt_of_le V1198.lt zs1228)
      have ne1251 : s1014 ≠ sp1228 := Nat.ne_of_lt (Nat.lt_of_lt_of_le E1199.lt zs1228)
      have ne1252 : c1014 ≠ sp1228 := Nat.ne_of_lt (Nat.lt_of_lt_of_le V1202.lt zs1228)
      have ne1253 : s1030 ≠ sp1228 := Nat.ne_of_lt (Nat.lt_of_lt_of_le E1203.lt zs1228)
      have ne1254 : c1030 ≠ sp1228 := Nat.ne_of_lt (Nat.lt_of_lt_of_le V1206.lt zs1228)
      have ne1255 : b1050 ≠ sp1228 := Nat.ne_of_lt (Nat.lt_of_lt_of_le E1207.lt zs1228)
      have ne1256 : b1089 ≠ sp1228 := Nat.ne_of_lt (Nat.lt_of_lt_of_le V1208.lt zs1228)
      have ne1257 : c1131 ≠ sp1228 := Nat.ne_of_lt (Nat.lt_of_lt_of_le V1211.lt zs1228)
      have ne1258 : b1171 ≠ sp1228 := Nat.ne_of_lt (Nat.lt_of_lt_of_le A1171.lt zs1228)
      have E1259 := E1187.keep K1228
      have F1260 := F1188.keep K1228 (ninS ne1174 nin0)
      have F1261 := F1189.keep K1228 (ninS ne1174 nin0)
      have V1262 := V1190.keep K1228 (ninS ne1175 nin0)
      have E1263 := E1191.keep K1228
      have F1264 := F1192.keep K1228 (ninS ne1176 nin0)
      have F1265 := F1193.keep K1228 (ninS ne1176 nin0)
      have V1266 := V1194.keep K1228 (ninS ne1177 nin0)
      have E1267 := E1195.keep K1228
      have F1268 := F1196.keep K1228 (ninS ne1178 nin0)
      have F1269 := F1197.keep K1228 (ninS ne1178 nin0)
      have V1270 := V1198.keep K1228 (ninS ne1179 nin0)
      have E1271 := E1199.keep K1228
      have F1272 := F1200.keep K1228 (ninS ne1180 nin0)
      have F1273 := F1201.keep K1228 (ninS ne1180 nin0)
      have V1274 := V1202.keep K1228 (ninS ne1181 nin0)
      have E1275 := E1203.keep K1228
      have F1276 := F1204.keep K1228 (ninS ne1182 nin0)
      have F1277 := F1205.keep K1228 (ninS ne1182 nin0)
      have V1278 := V1206.keep K1228 (ninS ne1183 nin0)
      have E1279 := E1207.keep K1228
      have V1280 := V1208.keep K1228 (ninS ne1185 nin0)
      have F1281 := F1209.keep K1228 (ninS ne1184 nin0)
      have F1282 := F1210.keep K1228 (ninS ne1184 nin0)
      have V1283 := V1211.keep K1228 (ninS ne1186 nin0)
      have E1284 := A1171.keep K1228
      have O1285 := O1212.keep K1228 (allS ge1173 all0)
      have Sf1286 := Safe.keep K1228 (allS Sf1215 all0) Hd1216.ch Sf1213
      have Sf1287 := Safe.keep K1228 (allS Sf1215 all0) Hd1216.ch Sf1214
      have Sf1288 := Safe.keep K1228 (allS Sf1215 all0) Hd1216.ch Sf1215
      have Sf1289 := Safe.keep K1228 (allS Sf1215 all0) Hd1216.ch Sf1229
      have Sf1290 := Safe.keep K1228 (allS Sf1215 all0) Hd1216.ch Sf1230
      have Hd1291 := Hd1216.keep K1228 (allS Sf1215 all0)
      have Z1292 : n0 ≤ h1228.size := Nat.le_trans Z1217 K1228.1
      refine WP.castS (st' := [(.ref b1171)]) rfl ?_
      refine WP.astore (pc' := 103) at_101 rfl rfl (Ls' := #[.val (.int x0), .val (.int x1), .val (.int x2), .val (.int x3), .val (.int x4), .val (.int x5), .val (.int (1 : Int32)), .val (.int (0 : Int32)), .val (.ref s990), .val (.ref s994), .val (.ref s1002), .val (.ref s1014), .val (.ref s1030), .val (.ref b1050), .val (.ref b1171), .unset, .unset, .unset]) rfl ?_
      refine WP.aload (pc' := 105) at_103 rfl rfl rfl ?_
      refine WP.aload (pc' := 107) at_105 rfl rfl rfl ?_
      refine WP.iload (pc' := 109) at_107 rfl rfl ?_
      have hc109 : ¬ (1 : Int32) = (0 : Int32) := by decide
      refine WP.ifc_eq (pc1 := 117) (pc2 := 112) at_109 (by decide) (by decide) rfl (fun k => absurd k hc109) (fun _ => ?_)
      refine WP.aload (pc' := 114) at_112 rfl rfl rfl ?_
      refine WP.goto (pc' := 119) at_114 (by decide) (by decide) ?_
      refine WP.callV (a := b1171) (K := "com/example/vipool/vipool/http/HttpHead") (argsL := [(.ref s990), (.ref b1050)]) (rest := []) (wd := 0) (cl' := 17) (sl' := 33357) (pc' := 122) at_119 rfl (wd56 hw) (wd57 hw) (nfS (wd59 hw) rfl) (wd59 hw) (wd58 hw) (wd46 hw) (wd60 hw) (by decide) R1228.2.1 (m_addA hw b1171 s990 b1050 h1228 n0 Z1292 O1285 cs S_CS hcs fv hfv S_FM rw1228 sp1228 (0 : Int32) (0 : Int32) (fun _ => 0) (fun _ => 0) R1228 c990 1 (fun _ => cv ch1) E1259 F1260 F1261 V1262 c1131 8191 (fun i => cv ((fun _ => 0) i)) E1279 F1281 F1282 V1283 ne1174 ne1231 ne1245 ne1175 ne1232 ne1246 ne1184 ne1241 ne1255 ne1186 ne1243 ne1257 0 0 (by decide) (by decide) (by decide) (by decide) (by decide) (by decide) (fun _ _ => cv_cv _) (fun _ _ => cv_cv _) (by decide) (by decide)) pd_34 rfl rfl rfl (Nat.le_of_eq rfl) (by decide) (by decide) rfl rfl (by decide) (by decide) ?_
      rintro v h1293 ⟨rfl, rx1293, gx1293, ex1293, K1293, zx1293, R1293⟩
      have Sf1294 : Safe Z consts_1 vm0 h1228 rx1293 := Safe.new zx1293
      have ne1295 : s990 ≠ rx1293 := Nat.ne_of_lt (Nat.lt_of_lt_of_le E1259.lt zx1293)
      have ne1296 : c990 ≠ rx1293 := Nat.ne_of_lt (Nat.lt_of_lt_of_le V1262.lt zx1293)
      have ne1297 : s994 ≠ rx1293 := Nat.ne_of_lt (Nat.lt_of_lt_of_le E1263.lt zx1293)
      have ne1298 : c994 ≠ rx1293 := Nat.ne_of_lt (Nat.lt_of_lt_of_le V1266.lt zx1293)
      have ne1299 : s1002 ≠ rx1293 := Nat.ne_of_lt (Nat.lt_of_lt_of_le E1267.lt zx1293)
      have ne1300 : c1002 ≠ rx1293 := Nat.ne_of_lt (Nat.lt_of_lt_of_le V1270.lt zx1293)
      have ne1301 : s1014 ≠ rx1293 := Nat.ne_of_lt (Nat.lt_of_lt_of_le E1271.lt zx1293)
      have ne1302 : c1014 ≠ rx1293 := Nat.ne_of_lt (Nat.lt_of_lt_of_le V1274.lt zx1293)
      have ne1303 : s1030 ≠ rx1293 := Nat.ne_of_lt (Nat.lt_of_lt_of_le E1275.lt zx1293)
      have ne1304 : c1030 ≠ rx1293 := Nat.ne_of_lt (Nat.lt_of_lt_of_le V1278.lt zx1293)
      have ne1305 : b1050 ≠ rx1293 := Nat.ne_of_lt (Nat.lt_of_lt_of_le E1279.lt zx1293)
      have ne1306 : b1089 ≠ rx1293 := Nat.ne_of_lt (Nat.lt_of_lt_of_le V1280.lt zx1293)
      have ne1307 : c1131 ≠ rx1293 := Nat.ne_of_lt (Nat.lt_of_lt_of_le V1283.lt zx1293)
      have ne1308 : b1171 ≠ rx1293 := Nat.ne_of_lt (Nat.lt_of_lt_of_le E1284.lt zx1293)
      have E1309 := E1259.keep K1293
      have F1310 := F1260.keep K1293 (ninS ne1174 (ninS ne1231 (ninS ne1245 nin0)))
      have F1311 := F1261.keep K1293 (ninS ne1174 (ninS ne1231 (ninS ne1245 nin0)))
      have V1312 := V1262.keep K1293 (ninS ne1175 (ninS ne1232 (ninS ne1246 nin0)))
      have E1313 := E1263.keep K1293
      have F1314 := F1264.keep K1293 (ninS ne1176 (ninS ne1233 (ninS ne1247 nin0)))
      have F1315 := F1265.keep K1293 (ninS ne1176 (ninS ne1233 (ninS ne1247 nin0)))
      have V1316 := V1266.keep K1293 (ninS ne1177 (ninS ne1234 (ninS ne1248 nin0)))
      have E1317 := E1267.keep K1293
      have F1318 := F1268.keep K1293 (ninS ne1178 (ninS ne1235 (ninS ne1249 nin0)))
      have F1319 := F1269.keep K1293 (ninS ne1178 (ninS ne1235 (ninS ne1249 nin0)))
      have V1320 := V1270.keep K1293 (ninS ne1179 (ninS ne1236 (ninS ne1250 nin0)))
      have E1321 := E1271.keep K1293
      have F1322 := F1272.keep K1293 (ninS ne1180 (ninS ne1237 (ninS ne1251 nin0)))
      have F1323 := F1273.keep K1293 (ninS ne1180 (ninS ne1237 (ninS ne1251 nin0)))
      have V1324 := V1274.keep K1293 (ninS ne1181 (ninS ne1238 (ninS ne1252 nin0)))
      have E1325 := E1275.keep K1293
      have F1326 := F1276.keep K1293 (ninS ne1182 (ninS ne1239 (ninS ne1253 nin0)))
      have F1327 := F1277.keep K1293 (ninS ne1182 (ninS ne1239 (ninS ne1253 nin0)))
      have V1328 := V1278.keep K1293 (ninS ne1183 (ninS ne1240 (ninS ne1254 nin0)))
      have E1329 := E1279.keep K1293
      have V1330 := V1280.keep K1293 (ninS ne1185 (ninS ne1242 (ninS ne1256 nin0)))
      have F1331 := F1281.keep K1293 (ninS ne1184 (ninS ne1241 (ninS ne1255 nin0)))
      have F1332 := F1282.keep K1293 (ninS ne1184 (ninS ne1241 (ninS ne1255 nin0)))
      have V1333 := V1283.keep K1293 (ninS ne1186 (ninS ne1243 (ninS ne1257 nin0)))
      have E1334 := E1284.keep K1293
      have O1335 := O1285.keep K1293 (allS ge1173 (allS R1228.1.2.1 (allS R1228.1.2.2.1 all0)))
      have Sf1336 := Safe.keep K1293 (allS Sf1288 (allS Sf1289 (allS Sf1290 all0))) Hd1291.ch Sf1286
      have Sf1337 := Safe.keep K1293 (allS Sf1288 (allS Sf1289 (allS Sf1290 all0))) Hd1291.ch Sf1287
      have Sf1338 := Safe.keep K1293 (allS Sf1288 (allS Sf1289 (allS Sf1290 all0))) Hd1291.ch Sf1288
      have Sf1339 := Safe.keep K1293 (allS Sf1288 (allS Sf1289 (allS Sf1290 all0))) Hd1291.ch Sf1289
      have Sf1340 := Safe.keep K1293 (allS Sf1288 (allS Sf1289 (allS Sf1290 all0))) Hd1291.ch Sf1290
      have Sf1341 := Safe.keep K1293 (allS Sf1288 (allS Sf1289 (allS Sf1290 all0))) Hd1291.ch Sf1294
      have Hd1342 := Hd1291.keep K1293 (allS Sf1288 (allS Sf1289 (allS Sf1290 all0)))
      have Z1343 : n0 ≤ h1293.size := Nat.le_trans Z1292 K1293.1
      refine WP.castS (st' := []) rfl ?_
      refine WP.iload (pc' := 124) at_122 rfl rfl ?_
      have hc124 : (0 : Int32) = (0 : Int32) := by decide
      refine WP.ifc_eq (pc1 := 136) (pc2 := 127) at_124 (by decide) (by decide) rfl (fun _ => ?_) (fun k => absurd hc124 k)
      have sn1344 := Hd1342.sn
      refine WP.aload (pc' := 138) at_136 rfl rfl rfl ?_
      refine WP.callV (a := b1171) (K := "com/example/vipool/vipool/http/HttpHead") (argsL := []) (rest := []) (wd := 0) (cl' := 17) (sl' := 33357) (pc' := 141) at_138 rfl (wd108 hw) (wd109 hw) (nfS (wd111 hw) rfl) (wd111 hw) (wd110 hw) (wd46 hw) (wd112 hw) (by decide) R1293.2.1 (m_clr0 hw b1171 h1293 n0 Z1343 O1335 8192 rx1293 sp1228 (((0 : Int32) + (1 : Nat).toInt32) + (8191 : Nat).toInt32) ((0 : Int32) + 1) gx1293 ex1293 R1293 (by decide)) pd_10 rfl rfl rfl (Nat.le_of_eq rfl) (by decide) (by decide) rfl rfl (by decide) (by decide) ?_
      rintro v h1345 ⟨rfl, K1345, R1345⟩
      have E1346 := E1309.keep K1345
      have F1347 := F1310.keep K1345 (ninS ne1174 nin0)
      have F1348 := F1311.keep K1345 (ninS ne1174 nin0)
      have V1349 := V1312.keep K1345 (ninS ne1175 nin0)
      have E1350 := E1313.keep K1345
      have F1351 := F1314.keep K1345 (ninS ne1176 nin0)
      have F1352 := F1315.keep K1345 (ninS ne1176 nin0)
      have V1353 := V1316.keep K1345 (ninS ne1177 nin0)
      have E1354 := E1317.keep K1345
      have F1355 := F1318.keep K1345 (ninS ne1178 nin0)
      have F1356 := F1319.keep K1345 (ninS ne1178 nin0)
      have V1357 := V1320.keep K1345 (ninS ne1179 nin0)
      have E1358 := E1321.keep K1345
      have F1359 := F1322.keep K1345 (ninS ne1180 nin0)
      have F1360 := F1323.keep K1345 (ninS ne1180 nin0)
      have V1361 := V1324.keep K1345 (ninS ne1181 nin0)
      have E1362 := E1325.keep K1345
      have F1363 := F1326.keep K1345 (ninS ne1182 nin0)
      have F1364 := F1327.keep K1345 (ninS ne1182 nin0)
      have V1365 := V1328.keep K1345 (ninS ne1183 nin0)
      have E1366 := E1329.keep K1345
      have V1367 := V1330.keep K1345 (ninS ne1185 nin0)
      have F1368 := F1331.keep K1345 (ninS ne1184 nin0)
      have F1369 := F1332.keep K1345 (ninS ne1184 nin0)
      have V1370 := V1333.keep K1345 (ninS ne1186 nin0)
      have E1371 := E1334.keep K1345
      have O1372 := O1335.keep K1345 (allS ge1173 all0)
      have sn1373 := sn1344.grow K1345.1
      have Z1374 : n0 ≤ h1345.size := Nat.le_trans Z1343 K1345.1
      refine WP.castS (st' := [(.int (0 : Int32))]) rfl ?_
      refine WP.istore (pc' := 143) at_141 rfl (Ls' := #[.val (.int x0), .val (.int x1), .val (.int x2), .val (.int x3), .val (.int x4), .val (.int x5), .val (.int (1 : Int32)), .val (.int (0 : Int32)), .val (.ref s990), .val (.ref s994), .val (.ref s1002), .val (.ref s1014), .val (.ref s1030), .val (.ref b1050), .val (.ref b1171), .val (.int (0 : Int32)), .unset, .unset]) rfl ?_
      refine WP.iload (pc' := 145) at_143 rfl rfl ?_
      have hc145 : ¬ (1 : Int32) = (0 : Int32) := by decide
      refine WP.ifc_eq (pc1 := 157) (pc2 := 148) at_145 (by decide) (by decide) rfl (fun k => absurd k hc145) (fun _ => ?_)
      refine WP.iload (pc' := 150) at_148 rfl rfl ?_
      have hc150 : (0 : Int32) = (0 : Int32) := by decide
      refine WP.ifc_eq (pc1 := 157) (pc2 := 153) at_150 (by decide) (by decide) rfl (fun _ => ?_) (fun k => absurd hc150 k)
      refine WP.iconst (pc' := 158) at_157 rfl (z := 0) rfl ?_
      refine WP.istore (pc' := 160) at_158 rfl (Ls' := #[.val (.int x0), .val (.int x1), .val (.int x2), .val (.int x3), .val (.int x4), .val (.int x5), .val (.int (1 : Int32)), .val (.int (0 : Int32)), .val (.ref s990), .val (.ref s994), .val (.ref s1002), .val (.ref s1014), .val (.ref s1030), .val (.ref b1050), .val (.ref b1171), .val (.int (0 : Int32)), .val (.int (0 : Int32)), .unset]) rfl ?_
      refine WP.iload (pc' := 162) at_160 rfl rfl ?_
      refine WP.iload (pc' := 164) at_162 rfl rfl ?_
      have hc164 : (0 : Int32) = (0 : Int32) := by decide
      refine WP.icmp_eq (pc1 := 169) (pc2 := 167) at_164 (by decide) (by decide) rfl (fun _ => ?_) (fun k => absurd hc164 k)
      refine WP.aload (pc' := 171) at_169 rfl rfl rfl ?_
      refine WP.callV (a := b1171) (K := "com/example/vipool/vipool/http/HttpHead") (argsL := []) (rest := []) (wd := 0) (cl' := 17) (sl' := 33357) (pc' := 174) at_171 rfl (wd117 hw) (wd118 hw) (nfS (wd120 hw) rfl) (wd120 hw) (wd119 hw) (wd46 hw) (wd121 hw) (by decide) R1345.2.1 (m_size hw b1171 h1345 n0 8192 rx1293 sp1228 (0 : Int32) (0 : Int32) gx1293 ex1293 R1345 0 (by decide) (by decide)) pd_13 rfl rfl rfl (Nat.le_of_eq rfl) (by decide) (by decide) rfl rfl (by decide) (by decide) ?_
      rintro v hh1375 ⟨rfl, he1375⟩
      rw [he1375]
      refine WP.castS (st' := [(.int (sz ex1293 0))]) rfl ?_
      refine WP.bipush (pc' := 176) at_174 rfl (z := 17) rfl ?_
      have hc176 : (sz ex1293 0) = (17 : Int32) := rfl
      refine WP.icmp_eq (pc1 := 181) (pc2 := 179) at_176 (by decide) (by decide) rfl (fun _ => ?_) (fun k => absurd hc176 k)
      refine WP.aload (pc' := 183) at_181 rfl rfl rfl ?_
      refine WP.aload (pc' := 185) at_183 rfl rfl rfl ?_
      refine WP.aload (pc' := 187) at_185 rfl rfl rfl ?_
      refine WP.callV (a := b1171) (K := "com/example/vipool/vipool/http/HttpHead") (argsL := [(.ref s1014), (.ref s1030)]) (rest := []) (wd := 0) (cl' := 17) (sl' := 33357) (pc' := 190) at_187 rfl (wd56 hw) (wd57 hw) (nfS (wd59 hw) rfl) (wd59 hw) (wd58 hw) (wd46 hw) (wd60 hw) (by decide) R1345.2.1 (m_add hw b1171 s1014 s1030 h1345 n0 Z1374 O1372 cs S_CS hcs fv hfv S_FM 8192 rx1293 sp1228 (0 : Int32) (0 : Int32) gx1293 ex1293 R1345 c1014 1 (fun _ => cv ch4) E1358 F1359 F1360 V1361 c1030 1 (fun _ => cv ch5) E1362 F1363 F1364 V1365 ne1180 ne1301 ne1251 ne1181 ne1302 ne1252 ne1182 ne1303 ne1253 ne1183 ne1304 ne1254 0 0 (by decide) (by decide) (by decide) (by decide) (by decide) (fun _ _ => cv_cv _) (fun _ _ => cv_cv _) (by decide) (by decide)) pd_34 rfl rfl rfl (Nat.le_of_eq rfl) (by decide) (by decide) rfl rfl (by decide) (by decide) ?_
      rintro v h1376 ⟨rfl, K1376, R1376⟩
      have E1377 := E1346.keep K1376
      have F1378 := F1347.keep K1376 (ninS ne1174 (ninS ne1295 (ninS ne1245 nin0)))
      have F1379 := F1348.keep K1376 (ninS ne1174 (ninS ne1295 (ninS ne1245 nin0)))
      have V1380 := V1349.keep K1376 (ninS ne1175 (ninS ne1296 (ninS ne1246 nin0)))
      have E1381 := E1350.keep K1376
      have F1382 := F1351.keep K1376 (ninS ne1176 (ninS ne1297 (ninS ne1247 nin0)))
      have F1383 := F1352.keep K1376 (ninS ne1176 (ninS ne1297 (ninS ne1247 nin0)))
      have V1384 := V1353.keep K1376 (ninS ne1177 (ninS ne1298 (ninS ne1248 nin0)))
      have E1385 := E1354.keep K1376
      have F1386 := F1355.keep K1376 (ninS ne1178 (ninS ne1299 (ninS ne1249 nin0)))
      have F1387 := F1356.keep K1376 (ninS ne1178 (ninS ne1299 (ninS ne1249 nin0)))
      have V1388 := V1357.keep K1376 (ninS ne1179 (ninS ne1300 (ninS ne1250 nin0)))
      have E1389 := E1358.keep K1376
      have F1390 := F1359.keep K1376 (ninS ne1180 (ninS ne1301 (ninS ne1251 nin0)))
      have F1391 := F1360.keep K1376 (ninS ne1180 (ninS ne1301 (ninS ne1251 nin0)))
      have V1392 := V1361.keep K1376 (ninS ne1181 (ninS ne1302 (ninS ne1252 nin0)))
      have E1393 := E1362.keep K1376
      have F1394 := F1363.keep K1376 (ninS ne1182 (ninS ne1303 (ninS ne1253 nin0)))
      have F1395 := F1364.keep K1376 (ninS ne1182 (ninS ne1303 (ninS ne1253 nin0)))
      have V1396 := V1365.keep K1376 (ninS ne1183 (ninS ne1304 (ninS ne1254 nin0)))
      have E1397 := E1366.keep K1376
      have V1398 := V1367.keep K1376 (ninS ne1185 (ninS ne1306 (ninS ne1256 nin0)))
      have F1399 := F1368.keep K1376 (ninS ne1184 (ninS ne1305 (ninS ne1255 nin0)))
      have F1400 := F1369.keep K1376 (ninS ne1184 (ninS ne1305 (ninS ne1255 nin0)))
      have V1401 := V1370.keep K1376 (ninS ne1186 (ninS ne1307 (ninS ne1257 nin0)))
      have E1402 := E1371.keep K1376
      have O1403 := O1372.keep K1376 (allS ge1173 (allS R1293.1.2.1 (allS R1228.1.2.2.1 all0)))
      have sn1404 := sn1373.grow K1376.1
      have Z1405 : n0 ≤ h1376.size := Nat.le_trans Z1374 K1376.1
      refine WP.castS (st' := []) rfl ?_
      refine WP.aload (pc' := 192) at_190 rfl rfl rfl ?_
      refine WP.aload (pc' := 194) at_192 rfl rfl rfl ?_
      have nm1406 : NM (lay (lay gx1293 0 1 (fun _ => cv ch4)) (0 + 1) 1 (fun _ => cv ch5)) 0 1 1 (fun _ => cv ch4) := ⟨rfl, fun i hi => by rw [show i = 0 by omega, lay_out (by omega), lay_in (by omega)]; exact Or.inl (chv_cv7 hb4)⟩
      refine WP.callV (a := b1171) (K := "com/example/vipool/vipool/http/HttpHead") (argsL := [(.ref s1014)]) (rest := []) (wd := 0) (cl' := 19) (sl' := 33362) (pc' := 197) at_194 rfl (wd128 hw) (wd129 hw) (nfS (wd131 hw) rfl) (wd131 hw) (wd130 hw) (wd46 hw) (wd132 hw) (by decide) R1376.2.1 (m_val hw b1171 s1014 h1376 n0 Z1405 O1403 cs S_CS hcs fv hfv S_FM iso utf hiu S_II S_UI S_IS X_IS 8192 rx1293 sp1228 (((0 : Int32) + (1 : Nat).toInt32) + (1 : Nat).toInt32) ((0 : Int32) + 1) (lay (lay gx1293 0 1 (fun _ => cv ch4)) (0 + 1) 1 (fun _ => cv ch5)) (sp4 ex1293 0 (0 : Int32) ((0 : Int32) + (1 : Nat).toInt32) ((0 : Int32) + (1 : Nat).toInt32) (((0 : Int32) + (1 : Nat).toInt32) + (1 : Nat).toInt32)) R1376 (by decide) (by decide) c1014 1 (fun _ => cv ch4) E1389 F1390 F1391 V1392 (by decide) 0 1 rfl (show (0 + (1 : Nat).toInt32 : Int32).toInt = ((1 : Nat) : Int) from by decide) (by decide) (by decide) nm1406 (by decide) (show (0 + (1 : Nat).toInt32 : Int32) = 1 from by decide) (show (0 + (1 : Nat).toInt32 + (1 : Nat).toInt32 : Int32) = 2 from by decide)) pd_35 rfl rfl rfl (Nat.le_of_eq rfl) (by decide) (by decide) rfl rfl (by decide) (by decide) ?_
      rintro v h1406 ⟨s1406, c1406, rfl, sz1406, K1406, E1406, Fv1406, Fc1406, B1406⟩
      have ne1407 : s990 ≠ s1406 := Nat.ne_of_lt (Nat.lt_of_lt_of_le E1377.lt sz1406)
      have ne1408 : c990 ≠ s1406 := Nat.ne_of_lt (Nat.lt_of_lt_of_le V1380.lt sz1406)
      have ne1409 : s994 ≠ s1406 := Nat.ne_of_lt (Nat.lt_of_lt_of_le E1381.lt sz1406)
      have ne1410 : c994 ≠ s1406 := Nat.ne_of_lt (Nat.lt_of_lt_of_le V1384.lt sz1406)
      have ne1411 : s1002 ≠ s1406 := Nat.ne_of_lt (Nat.lt_of_lt_of_le E1385.lt sz1406)
      have ne1412 : c1002 ≠ s1406 := Nat.ne_of_lt (Nat.lt_of_lt_of_le V1388.lt sz1406)
      have ne1413 : s1014 ≠ s1406 := Nat.ne_of_lt (Nat.lt_of_lt_of_le E1389.lt sz1406)
      have ne1414 : c1014 ≠ s1406 := Nat.ne_of_lt (Nat.lt_of_lt_of_le V1392.lt sz1406)
      have ne1415 : s1030 ≠ s1406 := Nat.ne_of_lt (Nat.lt_of_lt_of_le E1393.lt sz1406)
      have ne1416 : c1030 ≠ s1406 := Nat.ne_of_lt (Nat.lt_of_lt_of_le V1396.lt sz1406)
      have ne1417 : b1050 ≠ s1406 := Nat.ne_of_lt (Nat.lt_of_lt_of_le E1397.lt sz1406)
      have ne1418 : b1089 ≠ s1406 := Nat.ne_of_lt (Nat.lt_of_lt_of_le V1398.lt sz1406)
      have ne1419 : c1131 ≠ s1406 := Nat.ne_of_lt (Nat.lt_of_lt_of_le V1401.lt sz1406)
      have ne1420 : b1171 ≠ s1406 := Nat.ne_of_lt (Nat.lt_of_lt_of_le E1402.lt sz1406)
      have E1421 := E1377.keep K1406
      have F1422 := F1378.keep K1406 nin0
      have F1423 := F1379.keep K1406 nin0
      have V1424 := V1380.keep K1406 nin0
      have E1425 := E1381.keep K1406
      have F1426 := F1382.keep K1406 nin0
      have F1427 := F1383.keep K1406 nin0
      have V1428 := V1384.keep K1406 nin0
      have E1429 := E1385.keep K1406
      have F1430 := F1386.keep K1406 nin0
      have F1431 := F1387.keep K1406 nin0
      have V1432 := V1388.keep K1406 nin0
      have E1433 := E1389.keep K1406
      have F1434 := F1390.keep K1406 nin0
      have F1435 := F1391.keep K1406 nin0
      have V1436 := V1392.keep K1406 nin0
      have E1437 := E1393.keep K1406
      have F1438 := F1394.keep K1406 nin0
      have F1439 := F1395.keep K1406 nin0
      have V1440 := V1396.keep K1406 nin0
      have E1441 := E1397.keep K1406
      have V1442 := V1398.keep K1406 nin0
      have F1443 := F1399.keep K1406 nin0
      have F1444 := F1400.keep K1406 nin0
      have V1445 := V1401.keep K1406 nin0
      have E1446 := E1402.keep K1406
      have O1447 := O1403.keep K1406 all0
      have sn1448 := sn1404.grow K1406.1
      have Z1449 : n0 ≤ h1406.size := Nat.le_trans Z1405 K1406.1
      have R1406 := R1376.keep0 K1406
      refine WP.castS (st' := [(.ref s1406)]) rfl ?_
      refine WP.astore (pc' := 199) at_197 rfl rfl (Ls' := #[.val (.int x0), .val (.int x1), .val (.int x2), .val (.int x3), .val (.int x4), .val (.int x5), .val (.int (1 : Int32)), .val (.int (0 : Int32)), .val (.ref s990), .val (.ref s994), .val (.ref s1002), .val (.ref s1014), .val (.ref s1030), .val (.ref b1050), .val (.ref b1171), .val (.int (0 : Int32)), .val (.int (0 : Int32)), .val (.ref s1406)]) rfl ?_
      refine WP.aload (pc' := 201) at_199 rfl rfl rfl ?_
      refine WP.ifnullN (pc' := 204) at_201 rfl ?_
      refine WP.aload (pc' := 206) at_204 rfl rfl rfl ?_
      refine WP.aload (pc' := 208) at_206 rfl rfl rfl ?_
      refine WP.callV (a := s1406) (K := "java/lang/String") (argsL := [(.ref s1030)]) (rest := []) (wd := 0) (cl' := 19) (sl' := 33362) (pc' := 211) at_208 rfl (wd191 hw) (wd192 hw) (nfS (wd194 hw) rfl) (wd194 hw) (wd193 hw) (wd2 hw) (wd195 hw) (by decide) E1406 (s_eq hw s1406 s1030 h1406 n0 c1406 c1030 1 1 (fun _ => (lay (lay gx1293 0 1 (fun _ => cv ch4)) (0 + 1) 1 (fun _ => cv ch5)) 1) (fun _ => cv ch5) E1406 Fv1406 Fc1406 E1437 F1438 F1439 B1406 V1440 (by omega) (by omega) (Ne.symm ne1415) cs (S_CS.ext O1447.2) hcs) pd_36 rfl rfl rfl (Nat.le_of_eq rfl) (by decide) (by decide) rfl rfl (by decide) (by decide) ?_
      rintro v hh1450 ⟨⟨rfl, qe1450⟩ | ⟨rfl, qe1450⟩, he1450⟩ <;> rw [he1450]
      · skip
        refine WP.castS (st' := [(.int (1 : Int32))]) rfl ?_
        have hc211 : ¬ (1 : Int32) = (0 : Int32) := by decide
        refine WP.ifc_ne (pc1 := 216) (pc2 := 214) at_211 (by decide) (by decide) rfl (fun _ => ?_) (fun k => absurd k hc211)
        refine WP.aload (pc' := 218) at_216 rfl rfl rfl ?_
        refine WP.callV (a := b1171) (K := "com/example/vipool/vipool/http/HttpHead") (argsL := []) (rest := []) (wd := 0) (cl' := 19) (sl' := 33362) (pc' := 221) at_218 rfl (wd117 hw) (wd118 hw) (nfS (wd120 hw) rfl) (wd120 hw) (wd119 hw) (wd46 hw) (wd121 hw) (by decide) R1406.2.1 (m_size hw b1171 h1406 n0 8192 rx1293 sp1228 (((0 : Int32) + (1 : Nat).toInt32) + (1 : Nat).toInt32) ((0 : Int32) + 1) (lay (lay gx1293 0 1 (fun _ => cv ch4)) (0 + 1) 1 (fun _ => cv ch5)) (sp4 ex1293 0 (0 : Int32) ((0 : Int32) + (1 : Nat).toInt32) ((0 : Int32) + (1 : Nat).toInt32) (((0 : Int32) + (1 : Nat).toInt32) + (1 : Nat).toInt32)) R1406 1 (by decide) (by decide)) pd_13 rfl rfl rfl (Nat.le_of_eq rfl) (by decide) (by decide) rfl rfl (by decide) (by decide) ?_
        rintro v hh1451 ⟨rfl, he1451⟩
        rw [he1451]
        refine WP.castS (st' := [(.int (sz (sp4 ex1293 0 (0 : Int32) ((0 : Int32) + (1 : Nat).toInt32) ((0 : Int32) + (1 : Nat).toInt32) (((0 : Int32) + (1 : Nat).toInt32) + (1 : Nat).toInt32)) 1))]) rfl ?_
        refine WP.bipush (pc' := 223) at_221 rfl (z := 23) rfl ?_
        have hc223 : (sz (sp4 ex1293 0 (0 : Int32) ((0 : Int32) + (1 : Nat).toInt32) ((0 : Int32) + (1 : Nat).toInt32) (((0 : Int32) + (1 : Nat).toInt32) + (1 : Nat).toInt32)) 1) = (23 : Int32) := (sz_n (k := 0) (show ¬ (0 : Int32) = -1 from by decide)).symm.trans (show (17 : Int32) + ((0 + (1 : Nat).toInt32) - 0 + 2 + ((0 + (1 : Nat).toInt32) + (1 : Nat).toInt32) - (0 + (1 : Nat).toInt32) + 2) = 23 from by decide)
        refine WP.icmp_eq (pc1 := 228) (pc2 := 226) at_223 (by decide) (by decide) rfl (fun _ => ?_) (fun k => absurd hc223 k)
        refine WP.aload (pc' := 230) at_228 rfl rfl rfl ?_
        refine WP.callV (a := b1171) (K := "com/example/vipool/vipool/http/HttpHead") (argsL := []) (rest := []) (wd := 0) (cl' := 19) (sl' := 33362) (pc' := 233) at_230 rfl (wd108 hw) (wd109 hw) (nfS (wd111 hw) rfl) (wd111 hw) (wd110 hw) (wd46 hw) (wd112 hw) (by decide) R1406.2.1 (m_clr0 hw b1171 h1406 n0 Z1449 O1447 8192 rx1293 sp1228 (((0 : Int32) + (1 : Nat).toInt32) + (1 : Nat).toInt32) ((0 : Int32) + 1) (lay (lay gx1293 0 1 (fun _ => cv ch4)) (0 + 1) 1 (fun _ => cv ch5)) (sp4 ex1293 0 (0 : Int32) ((0 : Int32) + (1 : Nat).toInt32) ((0 : Int32) + (1 : Nat).toInt32) (((0 : Int32) + (1 : Nat).toInt32) + (1 : Nat).toInt32)) R1406 (by decide)) pd_10 rfl rfl rfl (Nat.le_of_eq rfl) (by decide) (by decide) rfl rfl (by decide) (by decide) ?_
        rintro v h1452 ⟨rfl, K1452, R1452⟩
        have O1453 := O1447.keep K1452 (allS ge1173 all0)
        have sn1454 := sn1448.grow K1452.1
        have Z1455 : n0 ≤ h1452.size := Nat.le_trans Z1449 K1452.1
        refine WP.castS (st' := [(.int (0 : Int32))]) rfl ?_
        have hc233 : (0 : Int32) = (0 : Int32) := by decide
        refine WP.ifc_ne (pc1 := 240) (pc2 := 236) at_233 (by decide) (by decide) rfl (fun k => absurd hc233 k) (fun _ => ?_)
        refine WP.iconst (pc' := 237) at_236 rfl (z := 1) rfl ?_
        refine WP.goto (pc' := 241) at_237 (by decide) (by decide) ?_
        refine WP.nretW (t := .boolean) at_241 rfl (by simp) rfl sn1454 (by decide) (by decide) rfl
      · exact absurd (show Same 1 1 (fun _ => (lay (lay gx1293 0 1 (fun _ => cv ch4)) (0 + 1) 1 (fun _ => cv ch5)) 1) (fun _ => cv ch5) from ⟨rfl, fun i hi => (lay_in (by omega)).trans rfl⟩) qe1450
    · intro hc16
      refine WP.iconst (pc' := 20) at_19 rfl (z := 1) rfl ?_
      refine WP.goto (pc' := 24) at_20 (by decide) (by decide) ?_
      refine WP.istore (pc' := 26) at_24 rfl (Ls' := #[.val (.int x0), .val (.int x1), .val (.int x2), .val (.int x3), .val (.int x4), .val (.int x5), .val (.int (1 : Int32)), .val (.int (1 : Int32)), .unset, .unset, .unset, .unset, .unset, .unset, .unset, .unset, .unset, .unset]) rfl ?_
      refine WP.iloadN (pc' := 27) at_26 rfl rfl ?_
      refine WP.bipush (pc' := 29) at_27 rfl (z := 127) rfl ?_
      refine WP.iand (pc' := 30) at_29 rfl ?_
      refine WP.i2c (pc' := 31) at_30 rfl ?_
      have hb1 := m7 x1
      generalize ((x1 &&& (127 : Int32)).toUInt32.toUInt16.toUInt32.toInt32) = ch1 at hb1 ⊢
      refine WP.callS (argsL := [(.int ch1)]) (rest := []) (wd := 0) (cl' := 2) (sl' := 5) (pc' := 34) at_31 rfl (wd0 hw) (wd1 hw) (wd2 hw) (wd3 hw) (by decide) (s_vo hw ch1 h0 n0 Z0 ⟨by omega, by omega⟩ cs (S_CS.ext O0.2) hcs) pd_31 rfl rfl rfl (Nat.le_of_eq rfl) (by decide) (by decide) rfl rfl (by decide) (by decide) ?_
      rintro v h1456 ⟨s1456, c1456, rfl, K1456, E1456, Fv1456, Fc1456, B1456⟩
      have O1457 := O0.keep K1456 all0
      have Hd1458 := Hd0.keep K1456 all0
      have Z1459 : n0 ≤ h1456.size := Nat.le_trans Z0 K1456.1
      refine WP.castS (st' := [(.ref s1456)]) rfl ?_
      refine WP.astore (pc' := 36) at_34 rfl rfl (Ls' := #[.val (.int x0), .val (.int x1), .val (.int x2), .val (.int x3), .val (.int x4), .val (.int x5), .val (.int (1 : Int32)), .val (.int (1 : Int32)), .val (.ref s1456), .unset, .unset, .unset, .unset, .unset, .unset, .unset, .unset, .unset]) rfl ?_
      refine WP.iloadN (pc' := 37) at_36 rfl rfl ?_
      refine WP.bipush (pc' := 39) at_37 rfl (z := 127) rfl ?_
      refine WP.iand (pc' := 40) at_39 rfl ?_
      refine WP.i2c (pc' := 41) at_40 rfl ?_
      have hb2 := m7 x2
      generalize ((x2 &&& (127 : Int32)).toUInt32.toUInt16.toUInt32.toInt32) = ch2 at hb2 ⊢
      refine WP.callS (argsL := [(.int ch2)]) (rest := []) (wd := 0) (cl' := 4) (sl' := 10) (pc' := 44) at_41 rfl (wd0 hw) (wd1 hw) (wd2 hw) (wd3 hw) (by decide) (s_vo hw ch2 h1456 n0 Z1459 ⟨by omega, by omega⟩ cs (S_CS.ext O1457.2) hcs) pd_31 rfl rfl rfl (Nat.le_of_eq rfl) (by decide) (by decide) rfl rfl (by decide) (by decide) ?_
      rintro v h1460 ⟨s1460, c1460, rfl, K1460, E1460, Fv1460, Fc1460, B1460⟩
      have E1461 := E1456.keep K1460
      have F1462 := Fv1456.keep K1460 nin0
      have F1463 := Fc1456.keep K1460 nin0
      have V1464 := B1456.keep K1460 nin0
      have O1465 := O1457.keep K1460 all0
      have Hd1466 := Hd1458.keep K1460 all0
      have Z1467 : n0 ≤ h1460.size := Nat.le_trans Z1459 K1460.1
      refine WP.castS (st' := [(.ref s1460)]) rfl ?_
      refine WP.astore (pc' := 46) at_44 rfl rfl (Ls' := #[.val (.int x0), .val (.int x1), .val (.int x2), .val (.int x3), .val (.int x4), .val (.int x5), .val (.int (1 : Int32)), .val (.int (1 : Int32)), .val (.ref s1456), .val (.ref s1460), .unset, .unset, .unset, .unset, .unset, .unset, .unset, .unset]) rfl ?_
      refine WP.iloadN (pc' := 47) at_46 rfl rfl ?_
      refine WP.sipush (pc' := 50) at_47 rfl (z := 255) rfl ?_
      refine WP.iand (pc' := 51) at_50 rfl ?_
      refine WP.i2c (pc' := 52) at_51 rfl ?_
      have hb3 := m8 x3
      generalize ((x3 &&& (255 : Int32)).toUInt32.toUInt16.toUInt32.toInt32) = ch3 at hb3 ⊢
      refine WP.callS (argsL := [(.int ch3)]) (rest := []) (wd := 0) (cl' := 6) (sl' := 15) (pc' := 55) at_52 rfl (wd0 hw) (wd1 hw) (wd2 hw) (wd3 hw) (by decide) (s_vo hw ch3 h1460 n0 Z1467 ⟨by omega, by omega⟩ cs (S_CS.ext O1465.2) hcs) pd_31 rfl rfl rfl (Nat.le_of_eq rfl) (by decide) (by decide) rfl rfl (by decide) (by decide) ?_
      rintro v h1468 ⟨s1468, c1468, rfl, K1468, E1468, Fv1468, Fc1468, B1468⟩
      have E1469 := E1461.keep K1468
      have F1470 := F1462.keep K1468 nin0
      have F1471 := F1463.keep K1468 nin0
      have V1472 := V1464.keep K1468 nin0
      have E1473 := E1460.keep K1468
      have F1474 := Fv1460.keep K1468 nin0
      have F1475 := Fc1460.keep K1468 nin0
      have V1476 := B1460.keep K1468 nin0
      have O1477 := O1465.keep K1468 all0
      have Hd1478 := Hd1466.keep K1468 all0
      have Z1479 : n0 ≤ h1468.size := Nat.le_trans Z1467 K1468.1
      refine WP.castS (st' := [(.ref s1468)]) rfl ?_
      refine WP.astore (pc' := 57) at_55 rfl rfl (Ls' := #[.val (.int x0), .val (.int x1), .val (.int x2), .val (.int x3), .val (.int x4), .val (.int x5), .val (.int (1 : Int32)), .val (.int (1 : Int32)), .val (.ref s1456), .val (.ref s1460), .val (.ref s1468), .unset, .unset, .unset, .unset, .unset, .unset, .unset]) rfl ?_
      refine WP.iload (pc' := 59) at_57 rfl rfl ?_
      refine WP.bipush (pc' := 61) at_59 rfl (z := 127) rfl ?_
      refine WP.iand (pc' := 62) at_61 rfl ?_
      refine WP.i2c (pc' := 63) at_62 rfl ?_
      have hb4 := m7 x4
      generalize ((x4 &&& (127 : Int32)).toUInt32.toUInt16.toUInt32.toInt32) = ch4 at hb4 ⊢
      refine WP.callS (argsL := [(.int ch4)]) (rest := []) (wd := 0) (cl' := 8) (sl' := 20) (pc' := 66) at_63 rfl (wd0 hw) (wd1 hw) (wd2 hw) (wd3 hw) (by decide) (s_vo hw ch4 h1468 n0 Z1479 ⟨by omega, by omega⟩ cs (S_CS.ext O1477.2) hcs) pd_31 rfl rfl rfl (Nat.le_of_eq rfl) (by decide) (by decide) rfl rfl (by decide) (by decide) ?_
      rintro v h1480 ⟨s1480, c1480, rfl, K1480, E1480, Fv1480, Fc1480, B1480⟩
      have E1481 := E1469.keep K1480
      have F1482 := F1470.keep K1480 nin0
      have F1483 := F1471.keep K1480 nin0
      have V1484 := V1472.keep K1480 nin0
      have E1485 := E1473.keep K1480
      have F1486 := F1474.keep K1480 nin0
      have F1487 := F1475.keep K1480 nin0
      have V1488 := V1476.keep K1480 nin0
      have E1489 := E1468.keep K1480
      have F1490 := Fv1468.keep K1480 nin0
      have F1491 := Fc1468.keep K1480 nin0
      have V1492 := B1468.keep K1480 nin0
      have O1493 := O1477.keep K1480 all0
      have Hd1494 := Hd1478.keep K1480 all0
      have Z1495 : n0 ≤ h1480.size := Nat.le_trans Z1479 K1480.1
      refine WP.castS (st' := [(.ref s1480)]) rfl ?_
      refine WP.astore (pc' := 68) at_66 rfl rfl (Ls' := #[.val (.int x0), .val (.int x1), .val (.int x2), .val (.int x3), .val (.int x4), .val (.int x5), .val (.int (1 : Int32)), .val (.int (1 : Int32)), .val (.ref s1456), .val (.ref s1460), .val (.ref s1468), .val (.ref s1480), .unset, .unset, .unset, .unset, .unset, .unset]) rfl ?_
      refine WP.iload (pc' := 70) at_68 rfl rfl ?_
      refine WP.sipush (pc' := 73) at_70 rfl (z := 255) rfl ?_
      refine WP.iand (pc' := 74) at_73 rfl ?_
      refine WP.i2c (pc' := 75) at_74 rfl ?_
      have hb5 := m8 x5
      generalize ((x5 &&& (255 : Int32)).toUInt32.toUInt16.toUInt32.toInt32) = ch5 at hb5 ⊢
      refine WP.callS (argsL := [(.int ch5)]) (rest := []) (wd := 0) (cl' := 10) (sl' := 25) (pc' := 78) at_75 rfl (wd0 hw) (wd1 hw) (wd2 hw) (wd3 hw) (by decide) (s_vo hw ch5 h1480 n0 Z1495 ⟨by omega, by omega⟩ cs (S_CS.ext O1493.2) hcs) pd_31 rfl rfl rfl (Nat.le_of_eq rfl) (by decide) (by decide) rfl rfl (by decide) (by decide) ?_
      rintro v h1496 ⟨s1496, c1496, rfl, K1496, E1496, Fv1496, Fc1496, B1496⟩
      have E1497 := E1481.keep K1496
      have F1498 := F1482.keep K1496 nin0
      have F1499 := F1483.keep K1496 nin0
      have V1500 := V1484.keep K1496 nin0
      have E1501 := E1485.keep K1496
      have F1502 := F1486.keep K1496 nin0
      have F1503 := F1487.keep K1496 nin0
      have V1504 := V1488.keep K1496 nin0
      have E1505 := E1489.keep K1496
      have F1506 := F1490.keep K1496 nin0
      have F1507 := F1491.keep K1496 nin0
      have V1508 := V1492.keep K1496 nin0
      have E1509 := E1480.keep K1496
      have F1510 := Fv1480.keep K1496 nin0
      have F1511 := Fc1480.keep K1496 nin0
      have V1512 := B1480.keep K1496 nin0
      have O1513 := O1493.keep K1496 all0
      have Hd1514 := Hd1494.keep K1496 all0
      have Z1515 : n0 ≤ h1496.size := Nat.le_trans Z1495 K1496.1
      refine WP.castS (st' := [(.ref s1496)]) rfl ?_
      refine WP.astore (pc' := 80) at_78 rfl rfl (Ls' := #[.val (.int x0), .val (.int x1), .val (.int x2), .val (.int x3), .val (.int x4), .val (.int x5), .val (.int (1 : Int32)), .val (.int (1 : Int32)), .val (.ref s1456), .val (.ref s1460), .val (.ref s1468), .val (.ref s1480), .val (.ref s1496), .unset, .unset, .unset, .unset, .unset]) rfl ?_
      refine WP.newO (cl' := 11) (sl' := 29) (pc' := 83) at_80 rfl (wd26 hw) (wd10 hw) (wd2 hw) rfl rfl (by decide) (by decide) ?_
      intro h1516 b1516 g1516 E1516 A1516 D1516
      have Sf1517 : Safe Z consts_1 vm0 h1496 b1516 := Safe.new (by rw [g1516]; exact Nat.le_refl _)
      have ge1518 : n0 ≤ b1516 := by rw [g1516]; exact Z1515
      have ne1519 : s1456 ≠ b1516 := by rw [g1516]; exact Nat.ne_of_lt E1497.lt
      have ne1520 : c1456 ≠ b1516 := by rw [g1516]; exact Nat.ne_of_lt V1500.lt
      have ne1521 : s1460 ≠ b1516 := by rw [g1516]; exact Nat.ne_of_lt E1501.lt
      have ne1522 : c1460 ≠ b1516 := by rw [g1516]; exact Nat.ne_of_lt V1504.lt
      have ne1523 : s1468 ≠ b1516 := by rw [g1516]; exact Nat.ne_of_lt E1505.lt
      have ne1524 : c1468 ≠ b1516 := by rw [g1516]; exact Nat.ne_of_lt V1508.lt
      have ne1525 : s1480 ≠ b1516 := by rw [g1516]; exact Nat.ne_of_lt E1509.lt
      have ne1526 : c1480 ≠ b1516 := by rw [g1516]; exact Nat.ne_of_lt V1512.lt
      have ne1527 : s1496 ≠ b1516 := by rw [g1516]; exact Nat.ne_of_lt E1496.lt
      have ne1528 : c1496 ≠ b1516 := by rw [g1516]; exact Nat.ne_of_lt B1496.lt
      have E1529 := E1497.ext E1516
      have F1530 := F1498.ext E1516
      have F1531 := F1499.ext E1516
      have V1532 := V1500.ext E1516
      have E1533 := E1501.ext E1516
      have F1534 := F1502.ext E1516
      have F1535 := F1503.ext E1516
      have V1536 := V1504.ext E1516
      have E1537 := E1505.ext E1516
      have F1538 := F1506.ext E1516
      have F1539 := F1507.ext E1516
      have V1540 := V1508.ext E1516
      have E1541 := E1509.ext E1516
      have F1542 := F1510.ext E1516
      have F1543 := F1511.ext E1516
      have V1544 := V1512.ext E1516
      have E1545 := E1496.ext E1516
      have F1546 := Fv1496.ext E1516
      have F1547 := Fc1496.ext E1516
      have V1548 := B1496.ext E1516
      have O1549 := O1513.ext E1516
      have Sf1550 := Safe.ext E1516 Hd1514.ch Sf1517
      have Hd1551 := Hd1514.ext E1516
      have Z1552 : n0 ≤ h1516.size := Nat.le_trans Z1515 E1516.1
      have F1553 : Fld Z h1516 b1516 "java/lang/String" "value" "[B" .null := D1516 (Or.inr (wd23 hw)) (ty := (.array .byte)) (by decide)
      have F1554 : Fld Z h1516 b1516 "java/lang/String" "coder" "B" (.int (0 : Int32)) := D1516 (Or.inr (wd25 hw)) (ty := .byte) (by decide)
      refine WP.dup (pc' := 84) at_83 rfl rfl ?_
      refine WP.sipush (pc' := 87) at_84 rfl (z := 8191) rfl ?_
      refine WP.newPI (ty := .char) (n := 8191) (cap := 8191) (cl' := 12) (sl' := 8220) (pc' := 89) at_87 rfl rfl rfl (wd27 hw) (by decide) (by decide) (by decide) rfl rfl (by decide) (by decide) ?_
      intro h1555 b1555 g1555 E1555 A1555
      have Sf1556 : Safe Z consts_1 vm0 h1516 b1555 := Safe.new (by rw [g1555]; exact Nat.le_refl _)
      have ge1557 : n0 ≤ b1555 := by rw [g1555]; exact Z1552
      have ne1558 : s1456 ≠ b1555 := by rw [g1555]; exact Nat.ne_of_lt E1529.lt
      have ne1559 : c1456 ≠ b1555 := by rw [g1555]; exact Nat.ne_of_lt V1532.lt
      have ne1560 : s1460 ≠ b1555 := by rw [g1555]; exact Nat.ne_of_lt E1533.lt
      have ne1561 : c1460 ≠ b1555 := by rw [g1555]; exact Nat.ne_of_lt V1536.lt
      have ne1562 : s1468 ≠ b1555 := by rw [g1555]; exact Nat.ne_of_lt E1537.lt
      have ne1563 : c1468 ≠ b1555 := by rw [g1555]; exact Nat.ne_of_lt V1540.lt
      have ne1564 : s1480 ≠ b1555 := by rw [g1555]; exact Nat.ne_of_lt E1541.lt
      have ne1565 : c1480 ≠ b1555 := by rw [g1555]; exact Nat.ne_of_lt V1544.lt
      have ne1566 : s1496 ≠ b1555 := by rw [g1555]; exact Nat.ne_of_lt E1545.lt
      have ne1567 : c1496 ≠ b1555 := by rw [g1555]; exact Nat.ne_of_lt V1548.lt
      have ne1568 : b1516 ≠ b1555 := by rw [g1555]; exact Nat.ne_of_lt A1516.lt
      have E1569 := E1529.ext E1555
      have F1570 := F1530.ext E1555
      have F1571 := F1531.ext E1555
      have V1572 := V1532.ext E1555
      have E1573 := E1533.ext E1555
      have F1574 := F1534.ext E1555
      have F1575 := F1535.ext E1555
      have V1576 := V1536.ext E1555
      have E1577 := E1537.ext E1555
      have F1578 := F1538.ext E1555
      have F1579 := F1539.ext E1555
      have V1580 := V1540.ext E1555
      have E1581 := E1541.ext E1555
      have F1582 := F1542.ext E1555
      have F1583 := F1543.ext E1555
      have V1584 := V1544.ext E1555
      have E1585 := E1545.ext E1555
      have F1586 := F1546.ext E1555
      have F1587 := F1547.ext E1555
      have V1588 := V1548.ext E1555
      have E1589 := A1516.ext E1555
      have F1590 := F1553.ext E1555
      have F1591 := F1554.ext E1555
      have O1592 := O1549.ext E1555
      have Sf1593 := Safe.ext E1555 Hd1551.ch Sf1550
      have Sf1594 := Safe.ext E1555 Hd1551.ch Sf1556
      have Hd1595 := Hd1551.ext E1555
      have Z1596 : n0 ≤ h1555.size := Nat.le_trans Z1552 E1555.1
      refine WP.callI (a := b1516) (argsL := [(.ref b1555)]) (rest := [(.ref b1516)]) (wd := 1) (cl' := 13) (sl' := 16411) (pc' := 92) at_89 rfl rfl (wd28 hw) (wd29 hw) (wd2 hw) (wd30 hw) (by decide) (s_si hw b1516 b1555 h1555 n0 Z1596 ge1518 E1589 F1590 F1591 cs (S_CS.ext O1592.2) hcs 8191 (fun _ => 0) A1555 (by omega) (by omega) (by omega) (fun i hi => show 0 ≤ (0 : Int32).toInt ∧ (0 : Int32).toInt ≤ 255 from by decide) (Ne.symm ne1568)) pd_32 rfl rfl rfl (Nat.le_of_eq rfl) (by decide) (by decide) rfl rfl (by decide) (by decide) ?_
      rintro v h1597 ⟨rfl, c1597, K1597, ge1597, sz1597, E1597, Fv1597, Fc1597, B1597⟩
      have ne1598 : s1456 ≠ c1597 := Nat.ne_of_lt (Nat.lt_of_lt_of_le E1569.lt sz1597)
      have ne1599 : c1456 ≠ c1597 := Nat.ne_of_lt (Nat.lt_of_lt_of_le V1572.lt sz1597)
      have ne1600 : s1460 ≠ c1597 := Nat.ne_of_lt (Nat.lt_of_lt_of_le E1573.lt sz1597)
      have ne1601 : c1460 ≠ c1597 := Nat.ne_of_lt (Nat.lt_of_lt_of_le V1576.lt sz1597)
      have ne1602 : s1468 ≠ c1597 := Nat.ne_of_lt (Nat.lt_of_lt_of_le E1577.lt sz1597)
      have ne1603 : c1468 ≠ c1597 := Nat.ne_of_lt (Nat.lt_of_lt_of_le V1580.lt sz1597)
      have ne1604 : s1480 ≠ c1597 := Nat.ne_of_lt (Nat.lt_of_lt_of_le E1581.lt sz1597)
      have ne1605 : c1480 ≠ c1597 := Nat.ne_of_lt (Nat.lt_of_lt_of_le V1584.lt sz1597)
      have ne1606 : s1496 ≠ c1597 := Nat.ne_of_lt (Nat.lt_of_lt_of_le E1585.lt sz1597)
      have ne1607 : c1496 ≠ c1597 := Nat.ne_of_lt (Nat.lt_of_lt_of_le V1588.lt sz1597)
      have ne1608 : b1516 ≠ c1597 := Nat.ne_of_lt (Nat.lt_of_lt_of_le E1589.lt sz1597)
      have ne1609 : b1555 ≠ c1597 := Nat.ne_of_lt (Nat.lt_of_lt_of_le A1555.lt sz1597)
      have E1610 := E1569.keep K1597
      have F1611 := F1570.keep K1597 (ninS ne1519 nin0)
      have F1612 := F1571.keep K1597 (ninS ne1519 nin0)
      have V1613 := V1572.keep K1597 (ninS ne1520 nin0)
      have E1614 := E1573.keep K1597
      have F1615 := F1574.keep K1597 (ninS ne1521 nin0)
      have F1616 := F1575.keep K1597 (ninS ne1521 nin0)
      have V1617 := V1576.keep K1597 (ninS ne1522 nin0)
      have E1618 := E1577.keep K1597
      have F1619 := F1578.keep K1597 (ninS ne1523 nin0)
      have F1620 := F1579.keep K1597 (ninS ne1523 nin0)
      have V1621 := V1580.keep K1597 (ninS ne1524 nin0)
      have E1622 := E1581.keep K1597
      have F1623 := F1582.keep K1597 (ninS ne1525 nin0)
      have F1624 := F1583.keep K1597 (ninS ne1525 nin0)
      have V1625 := V1584.keep K1597 (ninS ne1526 nin0)
      have E1626 := E1585.keep K1597
      have F1627 := F1586.keep K1597 (ninS ne1527 nin0)
      have F1628 := F1587.keep K1597 (ninS ne1527 nin0)
      have V1629 := V1588.keep K1597 (ninS ne1528 nin0)
      have E1630 := E1589.keep K1597
      have V1631 := A1555.keep K1597 (ninS (Ne.symm ne1568) nin0)
      have O1632 := O1592.keep K1597 (allS ge1518 all0)
      have Sf1633 := Safe.keep K1597 (allS Sf1593 all0) Hd1595.ch Sf1593
      have Sf1634 := Safe.keep K1597 (allS Sf1593 all0) Hd1595.ch Sf1594
      have Hd1635 := Hd1595.keep K1597 (allS Sf1593 all0)
      have Z1636 : n0 ≤ h1597.size := Nat.le_trans Z1596 K1597.1
      refine WP.castS (st' := [(.ref b1516)]) rfl ?_
      refine WP.astore (pc' := 94) at_92 rfl rfl (Ls' := #[.val (.int x0), .val (.int x1), .val (.int x2), .val (.int x3), .val (.int x4), .val (.int x5), .val (.int (1 : Int32)), .val (.int (1 : Int32)), .val (.ref s1456), .val (.ref s1460), .val (.ref s1468), .val (.ref s1480), .val (.ref s1496), .val (.ref b1516), .unset, .unset, .unset, .unset]) rfl ?_
      refine WP.newO (cl' := 14) (sl' := 16429) (pc' := 97) at_94 rfl (wd44 hw) (wd45 hw) (wd46 hw) rfl rfl (by decide) (by decide) ?_
      intro h1637 b1637 g1637 E1637 A1637 D1637
      have Sf1638 : Safe Z consts_1 vm0 h1597 b1637 := Safe.new (by rw [g1637]; exact Nat.le_refl _)
      have ge1639 : n0 ≤ b1637 := by rw [g1637]; exact Z1636
      have ne1640 : s1456 ≠ b1637 := by rw [g1637]; exact Nat.ne_of_lt E1610.lt
      have ne1641 : c1456 ≠ b1637 := by rw [g1637]; exact Nat.ne_of_lt V1613.lt
      have ne1642 : s1460 ≠ b1637 := by rw [g1637]; exact Nat.ne_of_lt E1614.lt
      have ne1643 : c1460 ≠ b1637 := by rw [g1637]; exact Nat.ne_of_lt V1617.lt
      have ne1644 : s1468 ≠ b1637 := by rw [g1637]; exact Nat.ne_of_lt E1618.lt
      have ne1645 : c1468 ≠ b1637 := by rw [g1637]; exact Nat.ne_of_lt V1621.lt
      have ne1646 : s1480 ≠ b1637 := by rw [g1637]; exact Nat.ne_of_lt E1622.lt
      have ne1647 : c1480 ≠ b1637 := by rw [g1637]; exact Nat.ne_of_lt V1625.lt
      have ne1648 : s1496 ≠ b1637 := by rw [g1637]; exact Nat.ne_of_lt E1626.lt
      have ne1649 : c1496 ≠ b1637 := by rw [g1637]; exact Nat.ne_of_lt V1629.lt
      have ne1650 : b1516 ≠ b1637 := by rw [g1637]; exact Nat.ne_of_lt E1597.lt
      have ne1651 : b1555 ≠ b1637 := by rw [g1637]; exact Nat.ne_of_lt V1631.lt
      have ne1652 : c1597 ≠ b1637 := by rw [g1637]; exact Nat.ne_of_lt B1597.lt
      have E1653 := E1610.ext E1637
      have F1654 := F1611.ext E1637
      have F1655 := F1612.ext E1637
      have V1656 := V1613.ext E1637
      have E1657 := E1614.ext E1637
      have F1658 := F1615.ext E1637
      have F1659 := F1616.ext E1637
      have V1660 := V1617.ext E1637
      have E1661 := E1618.ext E1637
      have F1662 := F1619.ext E1637
      have F1663 := F1620.ext E1637
      have V1664 := V1621.ext E1637
      have E1665 := E1622.ext E1637
      have F1666 := F1623.ext E1637
      have F1667 := F1624.ext E1637
      have V1668 := V1625.ext E1637
      have E1669 := E1626.ext E1637
      have F1670 := F1627.ext E1637
      have F1671 := F1628.ext E1637
      have V1672 := V1629.ext E1637
      have E1673 := E1597.ext E1637
      have V1674 := V1631.ext E1637
      have F1675 := Fv1597.ext E1637
      have F1676 := Fc1597.ext E1637
      have V1677 := B1597.ext E1637
      have O1678 := O1632.ext E1637
      have Sf1679 := Safe.ext E1637 Hd1635.ch Sf1633
      have Sf1680 := Safe.ext E1637 Hd1635.ch Sf1634
      have Sf1681 := Safe.ext E1637 Hd1635.ch Sf1638
      have Hd1682 := Hd1635.ext E1637
      have Z1683 : n0 ≤ h1637.size := Nat.le_trans Z1636 E1637.1
      have F1684 : Fld Z h1637 b1637 "com/example/vipool/vipool/http/HttpHead" "raw" "[B" .null := D1637 (Or.inl (wd52 hw)) (ty := (.array .byte)) (by decide)
      have F1685 : Fld Z h1637 b1637 "com/example/vipool/vipool/http/HttpHead" "spans" "[I" .null := D1637 (Or.inl (wd55 hw)) (ty := (.array .int)) (by decide)
      have F1686 : Fld Z h1637 b1637 "com/example/vipool/vipool/http/HttpHead" "used" "I" (.int (0 : Int32)) := D1637 (Or.inl (wd62 hw)) (ty := .int) (by decide)
      have F1687 : Fld Z h1637 b1637 "com/example/vipool/vipool/http/HttpHead" "fields" "I" (.int (0 : Int32)) := D1637 (Or.inl (wd107 hw)) (ty := .int) (by decide)
      have F1688 : Fld Z h1637 b1637 "com/example/vipool/vipool/http/HttpHead" "method" "Ljava/lang/String;" .null := D1637 (Or.inl (wd114 hw)) (ty := (.object "java/lang/String")) (by decide)
      have F1689 : Fld Z h1637 b1637 "com/example/vipool/vipool/http/HttpHead" "status" "I" (.int (0 : Int32)) := D1637 (Or.inl (wd116 hw)) (ty := .int) (by decide)
      have F1690 : Fld Z h1637 b1637 "com/example/vipool/vipool/http/HttpHead" "secondEnd" "I" (.int (0 : Int32)) := D1637 (Or.inl (wd123 hw)) (ty := .int) (by decide)
      have F1691 : Fld Z h1637 b1637 "com/example/vipool/vipool/http/HttpHead" "secondStart" "I" (.int (0 : Int32)) := D1637 (Or.inl (wd125 hw)) (ty := .int) (by decide)
      have F1692 : Fld Z h1637 b1637 "com/example/vipool/vipool/http/HttpHead" "request" "Z" (.int (0 : Int32)) := D1637 (Or.inl (wd127 hw)) (ty := .boolean) (by decide)
      have F1693 : Fld Z h1637 b1637 "com/example/vipool/vipool/http/HttpHead" "firstEnd" "I" (.int (0 : Int32)) := D1637 (Or.inl (wd221 hw)) (ty := .int) (by decide)
      refine WP.dup (pc' := 98) at_97 rfl rfl ?_
      refine WP.callI (a := b1637) (argsL := []) (rest := [(.ref b1637)]) (wd := 1) (cl' := 16) (sl' := 16973) (pc' := 101) at_98 rfl rfl (wd47 hw) (wd48 hw) (wd46 hw) (wd49 hw) (by decide) (m_ini hw b1637 h1637 n0 Z1683 O1678 ge1639 A1637 F1684 F1685 F1686 F1687 F1690 F1691 F1692 F1688 F1689) pd_33 rfl rfl rfl (Nat.le_of_eq rfl) (by decide) (by decide) rfl rfl (by decide) (by decide) ?_
      rintro v h1694 ⟨rfl, rw1694, sp1694, K1694, zr1694, zs1694, R1694⟩
      have Sf1695 : Safe Z consts_1 vm0 h1637 rw1694 := Safe.new zr1694
      have Sf1696 : Safe Z consts_1 vm0 h1637 sp1694 := Safe.new zs1694
      have ne1697 : s1456 ≠ rw1694 := Nat.ne_of_lt (Nat.lt_of_lt_of_le E1653.lt zr1694)
      have ne1698 : c1456 ≠ rw1694 := Nat.ne_of_lt (Nat.lt_of_lt_of_le V1656.lt zr1694)
      have ne1699 : s1460 ≠ rw1694 := Nat.ne_of_lt (Nat.lt_of_lt_of_le E1657.lt zr1694)
      have ne1700 : c1460 ≠ rw1694 := Nat.ne_of_lt (Nat.lt_of_lt_of_le V1660.lt zr1694)
      have ne1701 : s1468 ≠ rw1694 := Nat.ne_of_lt (Nat.lt_of_lt_of_le E1661.lt zr1694)
      have ne1702 : c1468 ≠ rw1694 := Nat.ne_of_lt (Nat.lt_of_lt_of_le V1664.lt zr1694)
      have ne1703 : s1480 ≠ rw1694 := Nat.ne_of_lt (Nat.lt_of_lt_of_le E1665.lt zr1694)
      have ne1704 : c1480 ≠ rw1694 := Nat.ne_of_lt (Nat.lt_of_lt_of_le V1668.lt zr1694)
      have ne1705 : s1496 ≠ rw1694 := Nat.ne_of_lt (Nat.lt_of_lt_of_le E1669.lt zr1694)
      have ne1706 : c1496 ≠ rw1694 := Nat.ne_of_lt (Nat.lt_of_lt_of_le V1672.lt zr1694)
      have ne1707 : b1516 ≠ rw1694 := Nat.ne_of_lt (Nat.lt_of_lt_of_le E1673.lt zr1694)
      have ne1708 : b1555 ≠ rw1694 := Nat.ne_of_lt (Nat.lt_of_lt_of_le V1674.lt zr1694)
      have ne1709 : c1597 ≠ rw1694 := Nat.ne_of_lt (Nat.lt_of_lt_of_le V1677.lt zr1694)
      have ne1710 : b1637 ≠ rw1694 := Nat.ne_of_lt (Nat.lt_of_lt_of_le A1637.lt zr1694)
      have ne1711 : s1456 ≠ sp1694 := Nat.ne_of_lt (Nat.lt_of_lt_of_le E1653.lt zs1694)
      have ne1712 : c1456 ≠ sp1694 := Nat.ne_of_lt (Nat.lt_of_lt_of_le V1656.lt zs1694)
      have ne1713 : s1460 ≠ sp1694 := Nat.ne_of_lt (Nat.lt_of_lt_of_le E1657.lt zs1694)
      have ne1714 : c1460 ≠ sp1694 := Nat.ne_of_lt (Nat.lt_of_lt_of_le V1660.lt zs1694)
      have ne1715 : s1468 ≠ sp1694 := Nat.ne_of_lt (Nat.lt_of_lt_of_le E1661.lt zs1694)
      have ne1716 : c1468 ≠ sp1694 := Nat.ne_of_lt (Nat.lt_of_lt_of_le V1664.lt zs1694)
      have ne1717 : s1480 ≠ sp1694 := Nat.ne_of_lt (Nat.lt_of_lt_of_le E1665.lt zs1694)
      have ne1718 : c1480 ≠ sp1694 := Nat.ne_of_lt (Nat.lt_of_lt_of_le V1668.lt zs1694)
      have ne1719 : s1496 ≠ sp1694 := Nat.ne_of_lt (Nat.lt_of_lt_of_le E1669.lt zs1694)
      have ne1720 : c1496 ≠ sp1694 := Nat.ne_of_lt (Nat.lt_of_lt_of_le V1672.lt zs1694)
      have ne1721 : b1516 ≠ sp1694 := Nat.ne_of_lt (Nat.lt_of_lt_of_le E1673.lt zs1694)
      have ne1722 : b1555 ≠ sp1694 := Nat.ne_of_lt (Nat.lt_of_lt_of_le V1674.lt zs1694)
      have ne1723 : c1597 ≠ sp1694 := Nat.ne_of_lt (Nat.lt_of_lt_of_le V1677.lt zs1694)
      have ne1724 : b1637 ≠ sp1694 := Nat.ne_of_lt (Nat.lt_of_lt_of_le A1637.lt zs1694)
      have E1725 := E1653.keep K1694
      have F1726 := F1654.keep K1694 (ninS ne1640 nin0)
      have F1727 := F1655.keep K1694 (ninS ne1640 nin0)
      have V1728 := V1656.keep K1694 (ninS ne1641 nin0)
      have E1729 := E1657.keep K1694
      have F1730 := F1658.keep K1694 (ninS ne1642 nin0)
      have F1731 := F1659.keep K1694 (ninS ne1642 nin0)
      have V1732 := V1660.keep K1694 (ninS ne1643 nin0)
      have E1733 := E1661.keep K1694
      have F1734 := F1662.keep K1694 (ninS ne1644 nin0)
      have F1735 := F1663.keep K1694 (ninS ne1644 nin0)
      have V1736 := V1664.keep K1694 (ninS ne1645 nin0)
      have E1737 := E1665.keep K1694
      have F1738 := F1666.keep K1694 (ninS ne1646 nin0)
      have F1739 := F1667.keep K1694 (ninS ne1646 nin0)
      have V1740 := V1668.keep K1694 (ninS ne1647 nin0)
      have E1741 := E1669.keep K1694
      have F1742 := F1670.keep K1694 (ninS ne1648 nin0)
      have F1743 := F1671.keep K1694 (ninS ne1648 nin0)
      have V1744 := V1672.keep K1694 (ninS ne1649 nin0)
      have E1745 := E1673.keep K1694
      have V1746 := V1674.keep K1694 (ninS ne1651 nin0)
      have F1747 := F1675.keep K1694 (ninS ne1650 nin0)
      have F1748 := F1676.keep K1694 (ninS ne1650 nin0)
      have V1749 := V1677.keep K1694 (ninS ne1652 nin0)
      have E1750 := A1637.keep K1694
      have O1751 := O1678.keep K1694 (allS ge1639 all0)
      have Sf1752 := Safe.keep K1694 (allS Sf1681 all0) Hd1682.ch Sf1679
      have Sf1753 := Safe.keep K1694 (allS Sf1681 all0) Hd1682.ch Sf1680
      have Sf1754 := Safe.keep K1694 (allS Sf1681 all0) Hd1682.ch Sf1681
      have Sf1755 := Safe.keep K1694 (allS Sf1681 all0) Hd1682.ch Sf1695
      have Sf1756 := Safe.keep K1694 (allS Sf1681 all0) Hd1682.ch Sf1696
      have Hd1757 := Hd1682.keep K1694 (allS Sf1681 all0)
      have Z1758 : n0 ≤ h1694.size := Nat.le_trans Z1683 K1694.1
      refine WP.castS (st' := [(.ref b1637)]) rfl ?_
      refine WP.astore (pc' := 103) at_101 rfl rfl (Ls' := #[.val (.int x0), .val (.int x1), .val (.int x2), .val (.int x3), .val (.int x4), .val (.int x5), .val (.int (1 : Int32)), .val (.int (1 : Int32)), .val (.ref s1456), .val (.ref s1460), .val (.ref s1468), .val (.ref s1480), .val (.ref s1496), .val (.ref b1516), .val (.ref b1637), .unset, .unset, .unset]) rfl ?_
      refine WP.aload (pc' := 105) at_103 rfl rfl rfl ?_
      refine WP.aload (pc' := 107) at_105 rfl rfl rfl ?_
      refine WP.iload (pc' := 109) at_107 rfl rfl ?_
      have hc109 : ¬ (1 : Int32) = (0 : Int32) := by decide
      refine WP.ifc_eq (pc1 := 117) (pc2 := 112) at_109 (by decide) (by decide) rfl (fun k => absurd k hc109) (fun _ => ?_)
      refine WP.aload (pc' := 114) at_112 rfl rfl rfl ?_
      refine WP.goto (pc' := 119) at_114 (by decide) (by decide) ?_
      refine WP.callV (a := b1637) (K := "com/example/vipool/vipool/http/HttpHead") (argsL := [(.ref s1456), (.ref b1516)]) (rest := []) (wd := 0) (cl' := 17) (sl' := 33357) (pc' := 122) at_119 rfl (wd56 hw) (wd57 hw) (nfS (wd59 hw) rfl) (wd59 hw) (wd58 hw) (wd46 hw) (wd60 hw) (by decide) R1694.2.1 (m_addA hw b1637 s1456 b1516 h1694 n0 Z1758 O1751 cs S_CS hcs fv hfv S_FM rw1694 sp1694 (0 : Int32) (0 : Int32) (fun _ => 0) (fun _ => 0) R1694 c1456 1 (fun _ => cv ch1) E1725 F1726 F1727 V1728 c1597 8191 (fun i => cv ((fun _ => 0) i)) E1745 F1747 F1748 V1749 ne1640 ne1697 ne1711 ne1641 ne1698 ne1712 ne1650 ne1707 ne1721 ne1652 ne1709 ne1723 0 0 (by decide) (by decide) (by decide) (by decide) (by decide) (by decide) (fun _ _ => cv_cv _) (fun _ _ => cv_cv _) (by decide) (by decide)) pd_34 rfl rfl rfl (Nat.le_of_eq rfl) (by decide) (by decide) rfl rfl (by decide) (by decide) ?_
      rintro v h1759 ⟨rfl, rx1759, gx1759, ex1759, K1759, zx1759, R1759⟩
      have Sf1760 : Safe Z consts_1 vm0 h1694 rx1759 := Safe.new zx1759
      have ne1761 : s1456 ≠ rx1759 := Nat.ne_of_lt (Nat.lt_of_lt_of_le E1725.lt zx1759)
      have ne1762 : c1456 ≠ rx1759 := Nat.ne_of_lt (Nat.lt_of_lt_of_le V1728.lt zx1759)
      have ne1763 : s1460 ≠ rx1759 := Nat.ne_of_lt (Nat.lt_of_lt_of_le E1729.lt zx1759)
      have ne1764 : c1460 ≠ rx1759 := Nat.ne_of_lt (Nat.lt_of_lt_of_le V1732.lt zx1759)
      have ne1765 : s1468 ≠ rx1759 := Nat.ne_of_lt (Nat.lt_of_lt_of_le E1733.lt zx1759)
      have ne1766 : c1468 ≠ rx1759 := Nat.ne_of_lt (Nat.lt_of_lt_of_le V1736.lt zx1759)
      have ne1767 : s1480 ≠ rx1759 := Nat.ne_of_lt (Nat.lt_of_lt_of_le E1737.lt zx1759)
      have ne1768 : c1480 ≠ rx1759 := Nat.ne_of_lt (Nat.lt_of_lt_of_le V1740.lt zx1759)
      have ne1769 : s1496 ≠ rx1759 := Nat.ne_of_lt (Nat.lt_of_lt_of_le E1741.lt zx1759)
      have ne1770 : c1496 ≠ rx1759 := Nat.ne_of_lt (Nat.lt_of_lt_of_le V1744.lt zx1759)
      have ne1771 : b1516 ≠ rx1759 := Nat.ne_of_lt (Nat.lt_of_lt_of_le E1745.lt zx1759)
      have ne1772 : b1555 ≠ rx1759 := Nat.ne_of_lt (Nat.lt_of_lt_of_le V1746.lt zx1759)
      have ne1773 : c1597 ≠ rx1759 := Nat.ne_of_lt (Nat.lt_of_lt_of_le V1749.lt zx1759)
      have ne1774 : b1637 ≠ rx1759 := Nat.ne_of_lt (Nat.lt_of_lt_of_le E1750.lt zx1759)
      have E1775 := E1725.keep K1759
      have F1776 := F1726.keep K1759 (ninS ne1640 (ninS ne1697 (ninS ne1711 nin0)))
      have F1777 := F1727.keep K1759 (ninS ne1640 (ninS ne1697 (ninS ne1711 nin0)))
      have V1778 := V1728.keep K1759 (ninS ne1641 (ninS ne1698 (ninS ne1712 nin0)))
      have E1779 := E1729.keep K1759
      have F1780 := F1730.keep K1759 (ninS ne1642 (ninS ne1699 (ninS ne1713 nin0)))
      have F1781 := F1731.keep K1759 (ninS ne1642 (ninS ne1699 (ninS ne1713 nin0)))
      have V1782 := V1732.keep K1759 (ninS ne1643 (ninS ne1700 (ninS ne1714 nin0)))
      have E1783 := E1733.keep K1759
      have F1784 := F1734.keep K1759 (ninS ne1644 (ninS ne1701 (ninS ne1715 nin0)))
      have F1785 := F1735.keep K1759 (ninS ne1644 (ninS ne1701 (ninS ne1715 nin0)))
      have V1786 := V1736.keep K1759 (ninS ne1645 (ninS ne1702 (ninS ne1716 nin0)))
      have E1787 := E1737.keep K1759
      have F1788 := F1738.keep K1759 (ninS ne1646 (ninS ne1703 (ninS ne1717 nin0)))
      have F1789 := F1739.keep K1759 (ninS ne1646 (ninS ne1703 (ninS ne1717 nin0)))
      have V1790 := V1740.keep K1759 (ninS ne1647 (ninS ne1704 (ninS ne1718 nin0)))
      have E1791 := E1741.keep K1759
      have F1792 := F1742.keep K1759 (ninS ne1648 (ninS ne1705 (ninS ne1719 nin0)))
      have F1793 := F1743.keep K1759 (ninS ne1648 (ninS ne1705 (ninS ne1719 nin0)))
      have V1794 := V1744.keep K1759 (ninS ne1649 (ninS ne1706 (ninS ne1720 nin0)))
      have E1795 := E1745.keep K1759
      have V1796 := V1746.keep K1759 (ninS ne1651 (ninS ne1708 (ninS ne1722 nin0)))
      have F1797 := F1747.keep K1759 (ninS ne1650 (ninS ne1707 (ninS ne1721 nin0)))
      have F1798 := F1748.keep K1759 (ninS ne1650 (ninS ne1707 (ninS ne1721 nin0)))
      have V1799 := V1749.keep K1759 (ninS ne1652 (ninS ne1709 (ninS ne1723 nin0)))
      have E1800 := E1750.keep K1759
      have O1801 := O1751.keep K1759 (allS ge1639 (allS R1694.1.2.1 (allS R1694.1.2.2.1 all0)))
      have Sf1802 := Safe.keep K1759 (allS Sf1754 (allS Sf1755 (allS Sf1756 all0))) Hd1757.ch Sf1752
      have Sf1803 := Safe.keep K1759 (allS Sf1754 (allS Sf1755 (allS Sf1756 all0))) Hd1757.ch Sf1753
      have Sf1804 := Safe.keep K1759 (allS Sf1754 (allS Sf1755 (allS Sf1756 all0))) Hd1757.ch Sf1754
      have Sf1805 := Safe.keep K1759 (allS Sf1754 (allS Sf1755 (allS Sf1756 all0))) Hd1757.ch Sf1755
      have Sf1806 := Safe.keep K1759 (allS Sf1754 (allS Sf1755 (allS Sf1756 all0))) Hd1757.ch Sf1756
      have Sf1807 := Safe.keep K1759 (allS Sf1754 (allS Sf1755 (allS Sf1756 all0))) Hd1757.ch Sf1760
      have Hd1808 := Hd1757.keep K1759 (allS Sf1754 (allS Sf1755 (allS Sf1756 all0)))
      have Z1809 : n0 ≤ h1759.size := Nat.le_trans Z1758 K1759.1
      refine WP.castS (st' := []) rfl ?_
      refine WP.iload (pc' := 124) at_122 rfl rfl ?_
      have hc124 : ¬ (1 : Int32) = (0 : Int32) := by decide
      refine WP.ifc_eq (pc1 := 136) (pc2 := 127) at_124 (by decide) (by decide) rfl (fun k => absurd k hc124) (fun _ => ?_)
      refine WP.aload (pc' := 129) at_127 rfl rfl rfl ?_
      refine WP.aload (pc' := 131) at_129 rfl rfl rfl ?_
      refine WP.ldcH (n := 0) (vs := []) (z := 0) (cl' := 19) (sl' := 33361) (pc' := 133) at_131 rfl (wd217 hw) (wSw hw) (hELw hw) (List.mem_of_getElem? (i := 0) rfl) Hd1808 ⟨by decide, by decide⟩ (by decide) rfl (by decide) (by decide) rfl rfl (by decide) (by decide) ?_
      intro vm1810 h1810 la1810 lb1810 lk1810 E1810 X1810 Fc1810 Fv1810 A1810 Hd1810 Cr1810 Ne1810
      have Sf1811 := Cr1810.safe R1759.2.1.lt Sf1804
      have Sf1812 := Cr1810.safe R1759.2.2.2.2.lt Sf1806
      have Sf1813 := Cr1810.safe R1759.2.2.2.1.lt Sf1807
      have E1814 := E1775.ext E1810
      have F1815 := F1776.ext E1810
      have F1816 := F1777.ext E1810
      have V1817 := V1778.ext E1810
      have E1818 := E1779.ext E1810
      have F1819 := F1780.ext E1810
      have F1820 := F1781.ext E1810
      have V1821 := V1782.ext E1810
      have E1822 := E1783.ext E1810
      have F1823 := F1784.ext E1810
      have F1824 := F1785.ext E1810
      have V1825 := V1786.ext E1810
      have E1826 := E1787.ext E1810
      have F1827 := F1788.ext E1810
      have F1828 := F1789.ext E1810
      have V1829 := V1790.ext E1810
      have E1830 := E1791.ext E1810
      have F1831 := F1792.ext E1810
      have F1832 := F1793.ext E1810
      have V1833 := V1794.ext E1810
      have E1834 := E1795.ext E1810
      have V1835 := V1796.ext E1810
      have F1836 := F1797.ext E1810
      have F1837 := F1798.ext E1810
      have V1838 := V1799.ext E1810
      have E1839 := E1800.ext E1810
      have O1840 := O1801.ext E1810
      have Z1841 : n0 ≤ h1810.size := Nat.le_trans Z1809 E1810.1
      have ne1842 : b1637 ≠ la1810 := (Ne1810 _ Sf1811).1
      have ne1843 : b1637 ≠ lb1810 := (Ne1810 _ Sf1811).2
      have ne1844 : sp1694 ≠ la1810 := (Ne1810 _ Sf1812).1
      have ne1845 : sp1694 ≠ lb1810 := (Ne1810 _ Sf1812).2
      have ne1846 : rx1759 ≠ la1810 := (Ne1810 _ Sf1813).1
      have ne1847 : rx1759 ≠ lb1810 := (Ne1810 _ Sf1813).2
      have AL1810 := Ari.of_arv (L := []) A1810 rfl rfl (by decide)
      have Rl1810 := R1759.keep0 ((Keep.refl _ []).ext E1810)
      refine WP.callV (a := b1637) (K := "com/example/vipool/vipool/http/HttpHead") (argsL := [(.ref s1460), (.ref la1810)]) (rest := []) (wd := 0) (cl' := 20) (sl' := 49745) (pc' := 136) at_133 rfl (wd56 hw) (wd57 hw) (nfS (wd59 hw) rfl) (wd59 hw) (wd58 hw) (wd46 hw) (wd60 hw) (by decide) Rl1810.2.1 (m_addB hw b1637 s1460 la1810 h1810 n0 Z1841 O1840 cs S_CS hcs fv hfv S_FM rx1759 sp1694 (((0 : Int32) + (1 : Nat).toInt32) + (8191 : Nat).toInt32) ((0 : Int32) + 1) gx1759 ex1759 Rl1810 c1460 1 (fun _ => cv ch2) E1818 F1819 F1820 V1821 lb1810 0 (litG []) X1810 Fv1810 Fc1810 AL1810 ne1642 ne1763 ne1713 ne1643 ne1764 ne1714 (Ne.symm ne1842) (Ne.symm ne1846) (Ne.symm ne1844) (Ne.symm ne1843) (Ne.symm ne1847) (Ne.symm ne1845) 8192 1 (by decide) (by decide) (by decide) (by decide) (by decide) (fun _ _ => cv_cv _) (fun i hi => absurd hi (Nat.not_lt_zero _)) (by decide) (by decide)) pd_34 rfl rfl rfl (Nat.le_of_eq rfl) (by decide) (by decide) rfl rfl (by decide) (by decide) ?_
      rintro v h1848 ⟨rfl, rx1848, gx1848, ex1848, K1848, zx1848, R1848⟩
      have Sf1849 : Safe Z consts_1 vm1810 h1810 rx1848 := Safe.new zx1848
      have ne1850 : s1456 ≠ rx1848 := Nat.ne_of_lt (Nat.lt_of_lt_of_le E1814.lt zx1848)
      have ne1851 : c1456 ≠ rx1848 := Nat.ne_of_lt (Nat.lt_of_lt_of_le V1817.lt zx1848)
      have ne1852 : s1460 ≠ rx1848 := Nat.ne_of_lt (Nat.lt_of_lt_of_le E1818.lt zx1848)
      have ne1853 : c1460 ≠ rx1848 := Nat.ne_of_lt (Nat.lt_of_lt_of_le V1821.lt zx1848)
      have ne1854 : s1468 ≠ rx1848 := Nat.ne_of_lt (Nat.lt_of_lt_of_le E1822.lt zx1848)
      have ne1855 : c1468 ≠ rx1848 := Nat.ne_of_lt (Nat.lt_of_lt_of_le V1825.lt zx1848)
      have ne1856 : s1480 ≠ rx1848 := Nat.ne_of_lt (Nat.lt_of_lt_of_le E1826.lt zx1848)
      have ne1857 : c1480 ≠ rx1848 := Nat.ne_of_lt (Nat.lt_of_lt_of_le V1829.lt zx1848)
      have ne1858 : s1496 ≠ rx1848 := Nat.ne_of_lt (Nat.lt_of_lt_of_le E1830.lt zx1848)
      have ne1859 : c1496 ≠ rx1848 := Nat.ne_of_lt (Nat.lt_of_lt_of_le V1833.lt zx1848)
      have ne1860 : b1516 ≠ rx1848 := Nat.ne_of_lt (Nat.lt_of_lt_of_le E1834.lt zx1848)
      have ne1861 : b1555 ≠ rx1848 := Nat.ne_of_lt (Nat.lt_of_lt_of_le V1835.lt zx1848)
      have ne1862 : c1597 ≠ rx1848 := Nat.ne_of_lt (Nat.lt_of_lt_of_le V1838.lt zx1848)
      have ne1863 : b1637 ≠ rx1848 := Nat.ne_of_lt (Nat.lt_of_lt_of_le E1839.lt zx1848)
      have ne1864 : la1810 ≠ rx1848 := Nat.ne_of_lt (Nat.lt_of_lt_of_le X1810.lt zx1848)
      have ne1865 : lb1810 ≠ rx1848 := Nat.ne_of_lt (Nat.lt_of_lt_of_le AL1810.lt zx1848)
      have E1866 := E1814.keep K1848
      have F1867 := F1815.keep K1848 (ninS ne1640 (ninS ne1761 (ninS ne1711 nin0)))
      have F1868 := F1816.keep K1848 (ninS ne1640 (ninS ne1761 (ninS ne1711 nin0)))
      have V1869 := V1817.keep K1848 (ninS ne1641 (ninS ne1762 (ninS ne1712 nin0)))
      have E1870 := E1818.keep K1848
      have F1871 := F1819.keep K1848 (ninS ne1642 (ninS ne1763 (ninS ne1713 nin0)))
      have F1872 := F1820.keep K1848 (ninS ne1642 (ninS ne1763 (ninS ne1713 nin0)))
      have V1873 := V1821.keep K1848 (ninS ne1643 (ninS ne1764 (ninS ne1714 nin0)))
      have E1874 := E1822.keep K1848
      have F1875 := F1823.keep K1848 (ninS ne1644 (ninS ne1765 (ninS ne1715 nin0)))
      have F1876 := F1824.keep K1848 (ninS ne1644 (ninS ne1765 (ninS ne1715 nin0)))
      have V1877 := V1825.keep K1848 (ninS ne1645 (ninS ne1766 (ninS ne1716 nin0)))
      have E1878 := E1826.keep K1848
      have F1879 := F1827.keep K1848 (ninS ne1646 (ninS ne1767 (ninS ne1717 nin0)))
      have F1880 := F1828.keep K1848 (ninS ne1646 (ninS ne1767 (ninS ne1717 nin0)))
      have V1881 := V1829.keep K1848 (ninS ne1647 (ninS ne1768 (ninS ne1718 nin0)))
      have E1882 := E1830.keep K1848
      have F1883 := F1831.keep K1848 (ninS ne1648 (ninS ne1769 (ninS ne1719 nin0)))
      have F1884 := F1832.keep K1848 (ninS ne1648 (ninS ne1769 (ninS ne1719 nin0)))
      have V1885 := V1833.keep K1848 (ninS ne1649 (ninS ne1770 (ninS ne1720 nin0)))
      have E1886 := E1834.keep K1848
      have V1887 := V1835.keep K1848 (ninS ne1651 (ninS ne1772 (ninS ne1722 nin0)))
      have F1888 := F1836.keep K1848 (ninS ne1650 (ninS ne1771 (ninS ne1721 nin0)))
      have F1889 := F1837.keep K1848 (ninS ne1650 (ninS ne1771 (ninS ne1721 nin0)))
      have V1890 := V1838.keep K1848 (ninS ne1652 (ninS ne1773 (ninS ne1723 nin0)))
      have E1891 := E1839.keep K1848
      have E1892 := X1810.keep K1848
      have F1893 := Fc1810.keep K1848 (ninS (Ne.symm ne1842) (ninS (Ne.symm ne1846) (ninS (Ne.symm ne1844) nin0)))
      have F1894 := Fv1810.keep K1848 (ninS (Ne.symm ne1842) (ninS (Ne.symm ne1846) (ninS (Ne.symm ne1844) nin0)))
      have V1895 := AL1810.keep K1848 (ninS (Ne.symm ne1843) (ninS (Ne.symm ne1847) (ninS (Ne.symm ne1845) nin0)))
      have O1896 := O1840.keep K1848 (allS ge1639 (allS R1759.1.2.1 (allS R1694.1.2.2.1 all0)))
      have Sf1897 := Safe.keep K1848 (allS Sf1811 (allS Sf1813 (allS Sf1812 all0))) Hd1810.ch Sf1811
      have Sf1898 := Safe.keep K1848 (allS Sf1811 (allS Sf1813 (allS Sf1812 all0))) Hd1810.ch Sf1812
      have Sf1899 := Safe.keep K1848 (allS Sf1811 (allS Sf1813 (allS Sf1812 all0))) Hd1810.ch Sf1813
      have Sf1900 := Safe.keep K1848 (allS Sf1811 (allS Sf1813 (allS Sf1812 all0))) Hd1810.ch Sf1849
      have Hd1901 := Hd1810.keep K1848 (allS Sf1811 (allS Sf1813 (allS Sf1812 all0)))
      have Z1902 : n0 ≤ h1848.size := Nat.le_trans Z1841 K1848.1
      refine WP.castS (st' := []) rfl ?_
      have sn1903 := Hd1901.sn
      refine WP.aload (pc' := 138) at_136 rfl rfl rfl ?_
      refine WP.callV (a := b1637) (K := "com/example/vipool/vipool/http/HttpHead") (argsL := []) (rest := []) (wd := 0) (cl' := 21) (sl' := 50257) (pc' := 141) at_138 rfl (wd108 hw) (wd109 hw) (nfS (wd111 hw) rfl) (wd111 hw) (wd110 hw) (wd46 hw) (wd112 hw) (by decide) R1848.2.1 (m_clr1 hw b1637 h1848 n0 Z1902 O1896 rx1848 sp1694 (((((0 : Int32) + (1 : Nat).toInt32) + (8191 : Nat).toInt32) + (1 : Nat).toInt32) + (0 : Nat).toInt32) (((0 : Int32) + 1) + 1) gx1848 ex1848 R1848) pd_10 rfl rfl rfl (Nat.le_of_eq rfl) (by decide) (by decide) rfl rfl (by decide) (by decide) ?_
      rintro v h1904 ⟨rfl, rx1904, K1904, zx1904, R1904⟩
      have ne1905 : s1456 ≠ rx1904 := Nat.ne_of_lt (Nat.lt_of_lt_of_le E1866.lt zx1904)
      have ne1906 : c1456 ≠ rx1904 := Nat.ne_of_lt (Nat.lt_of_lt_of_le V1869.lt zx1904)
      have ne1907 : s1460 ≠ rx1904 := Nat.ne_of_lt (Nat.lt_of_lt_of_le E1870.lt zx1904)
      have ne1908 : c1460 ≠ rx1904 := Nat.ne_of_lt (Nat.lt_of_lt_of_le V1873.lt zx1904)
      have ne1909 : s1468 ≠ rx1904 := Nat.ne_of_lt (Nat.lt_of_lt_of_le E1874.lt zx1904)
      have ne1910 : c1468 ≠ rx1904 := Nat.ne_of_lt (Nat.lt_of_lt_of_le V1877.lt zx1904)
      have ne1911 : s1480 ≠ rx1904 := Nat.ne_of_lt (Nat.lt_of_lt_of_le E1878.lt zx1904)
      have ne1912 : c1480 ≠ rx1904 := Nat.ne_of_lt (Nat.lt_of_lt_of_le V1881.lt zx1904)
      have ne1913 : s1496 ≠ rx1904 := Nat.ne_of_lt (Nat.lt_of_lt_of_le E1882.lt zx1904)
      have ne1914 : c1496 ≠ rx1904 := Nat.ne_of_lt (Nat.lt_of_lt_of_le V1885.lt zx1904)
      have ne1915 : b1516 ≠ rx1904 := Nat.ne_of_lt (Nat.lt_of_lt_of_le E1886.lt zx1904)
      have ne1916 : b1555 ≠ rx1904 := Nat.ne_of_lt (Nat.lt_of_lt_of_le V1887.lt zx1904)
      have ne1917 : c1597 ≠ rx1904 := Nat.ne_of_lt (Nat.lt_of_lt_of_le V1890.lt zx1904)
      have ne1918 : b1637 ≠ rx1904 := Nat.ne_of_lt (Nat.lt_of_lt_of_le E1891.lt zx1904)
      have ne1919 : la1810 ≠ rx1904 := Nat.ne_of_lt (Nat.lt_of_lt_of_le E1892.lt zx1904)
      have ne1920 : lb1810 ≠ rx1904 := Nat.ne_of_lt (Nat.lt_of_lt_of_le V1895.lt zx1904)
      have E1921 := E1866.keep K1904
      have F1922 := F1867.keep K1904 (ninS ne1640 nin0)
      have F1923 := F1868.keep K1904 (ninS ne1640 nin0)
      have V1924 := V1869.keep K1904 (ninS ne1641 nin0)
      have E1925 := E1870.keep K1904
      have F1926 := F1871.keep K1904 (ninS ne1642 nin0)
      have F1927 := F1872.keep K1904 (ninS ne1642 nin0)
      have V1928 := V1873.keep K1904 (ninS ne1643 nin0)
      have E1929 := E1874.keep K1904
      have F1930 := F1875.keep K1904 (ninS ne1644 nin0)
      have F1931 := F1876.keep K1904 (ninS ne1644 nin0)
      have V1932 := V1877.keep K1904 (ninS ne1645 nin0)
      have E1933 := E1878.keep K1904
      have F1934 := F1879.keep K1904 (ninS ne1646 nin0)
      have F1935 := F1880.keep K1904 (ninS ne1646 nin0)
      have V1936 := V1881.keep K1904 (ninS ne1647 nin0)
      have E1937 := E1882.keep K1904
      have F1938 := F1883.keep K1904 (ninS ne1648 nin0)
      have F1939 := F1884.keep K1904 (ninS ne1648 nin0)
      have V1940 := V1885.keep K1904 (ninS ne1649 nin0)
      have E1941 := E1886.keep K1904
      have V1942 := V1887.keep K1904 (ninS ne1651 nin0)
      have F1943 := F1888.keep K1904 (ninS ne1650 nin0)
      have F1944 := F1889.keep K1904 (ninS ne1650 nin0)
      have V1945 := V1890.keep K1904 (ninS ne1652 nin0)
      have E1946 := E1891.keep K1904
      have E1947 := E1892.keep K1904
      have F1948 := F1893.keep K1904 (ninS (Ne.symm ne1842) nin0)
      have F1949 := F1894.keep K1904 (ninS (Ne.symm ne1842) nin0)
      have V1950 := V1895.keep K1904 (ninS (Ne.symm ne1843) nin0)
      have O1951 := O1896.keep K1904 (allS ge1639 all0)
      have sn1952 := sn1903.grow K1904.1
      have Z1953 : n0 ≤ h1904.size := Nat.le_trans Z1902 K1904.1
      refine WP.castS (st' := [(.int (1 : Int32))]) rfl ?_
      refine WP.istore (pc' := 143) at_141 rfl (Ls' := #[.val (.int x0), .val (.int x1), .val (.int x2), .val (.int x3), .val (.int x4), .val (.int x5), .val (.int (1 : Int32)), .val (.int (1 : Int32)), .val (.ref s1456), .val (.ref s1460), .val (.ref s1468), .val (.ref s1480), .val (.ref s1496), .val (.ref b1516), .val (.ref b1637), .val (.int (1 : Int32)), .unset, .unset]) rfl ?_
      refine WP.iload (pc' := 145) at_143 rfl rfl ?_
      have hc145 : ¬ (1 : Int32) = (0 : Int32) := by decide
      refine WP.ifc_eq (pc1 := 157) (pc2 := 148) at_145 (by decide) (by decide) rfl (fun k => absurd k hc145) (fun _ => ?_)
      refine WP.iload (pc' := 150) at_148 rfl rfl ?_
      have hc150 : ¬ (1 : Int32) = (0 : Int32) := by decide
      refine WP.ifc_eq (pc1 := 157) (pc2 := 153) at_150 (by decide) (by decide) rfl (fun k => absurd k hc150) (fun _ => ?_)
      refine WP.iconst (pc' := 154) at_153 rfl (z := 1) rfl ?_
      refine WP.goto (pc' := 158) at_154 (by decide) (by decide) ?_
      refine WP.istore (pc' := 160) at_158 rfl (Ls' := #[.val (.int x0), .val (.int x1), .val (.int x2), .val (.int x3), .val (.int x4), .val (.int x5), .val (.int (1 : Int32)), .val (.int (1 : Int32)), .val (.ref s1456), .val (.ref s1460), .val (.ref s1468), .val (.ref s1480), .val (.ref s1496), .val (.ref b1516), .val (.ref b1637), .val (.int (1 : Int32)), .val (.int (1 : Int32)), .unset]) rfl ?_
      refine WP.iload (pc' := 162) at_160 rfl rfl ?_
      refine WP.iload (pc' := 164) at_162 rfl rfl ?_
      have hc164 : (1 : Int32) = (1 : Int32) := by decide
      refine WP.icmp_eq (pc1 := 169) (pc2 := 167) at_164 (by decide) (by decide) rfl (fun _ => ?_) (fun k => absurd hc164 k)
      refine WP.aload (pc' := 171) at_169 rfl rfl rfl ?_
      refine WP.callV (a := b1637) (K := "com/example/vipool/vipool/http/HttpHead") (argsL := []) (rest := []) (wd := 0) (cl' := 21) (sl' := 50257) (pc' := 174) at_171 rfl (wd117 hw) (wd118 hw) (nfS (wd120 hw) rfl) (wd120 hw) (wd119 hw) (wd46 hw) (wd121 hw) (by decide) R1904.2.1 (m_size hw b1637 h1904 n0 512 rx1904 sp1694 (0 : Int32) (0 : Int32) (fun _ => 0) ex1848 R1904 0 (by decide) (by decide)) pd_13 rfl rfl rfl (Nat.le_of_eq rfl) (by decide) (by decide) rfl rfl (by decide) (by decide) ?_
      rintro v hh1954 ⟨rfl, he1954⟩
      rw [he1954]
      refine WP.castS (st' := [(.int (sz ex1848 0))]) rfl ?_
      refine WP.bipush (pc' := 176) at_174 rfl (z := 17) rfl ?_
      have hc176 : (sz ex1848 0) = (17 : Int32) := rfl
      refine WP.icmp_eq (pc1 := 181) (pc2 := 179) at_176 (by decide) (by decide) rfl (fun _ => ?_) (fun k => absurd hc176 k)
      refine WP.aload (pc' := 183) at_181 rfl rfl rfl ?_
      refine WP.aload (pc' := 185) at_183 rfl rfl rfl ?_
      refine WP.aload (pc' := 187) at_185 rfl rfl rfl ?_
      refine WP.callV (a := b1637) (K := "com/example/vipool/vipool/http/HttpHead") (argsL := [(.ref s1480), (.ref s1496)]) (rest := []) (wd := 0) (cl' := 21) (sl' := 50257) (pc' := 190) at_187 rfl (wd56 hw) (wd57 hw) (nfS (wd59 hw) rfl) (wd59 hw) (wd58 hw) (wd46 hw) (wd60 hw) (by decide) R1904.2.1 (m_add hw b1637 s1480 s1496 h1904 n0 Z1953 O1951 cs S_CS hcs fv hfv S_FM 512 rx1904 sp1694 (0 : Int32) (0 : Int32) (fun _ => 0) ex1848 R1904 c1480 1 (fun _ => cv ch4) E1933 F1934 F1935 V1936 c1496 1 (fun _ => cv ch5) E1937 F1938 F1939 V1940 ne1646 ne1911 ne1717 ne1647 ne1912 ne1718 ne1648 ne1913 ne1719 ne1649 ne1914 ne1720 0 0 (by decide) (by decide) (by decide) (by decide) (by decide) (fun _ _ => cv_cv _) (fun _ _ => cv_cv _) (by decide) (by decide)) pd_34 rfl rfl rfl (Nat.le_of_eq rfl) (by decide) (by decide) rfl rfl (by decide) (by decide) ?_
      rintro v h1955 ⟨rfl, K1955, R1955⟩
      have E1956 := E1921.keep K1955
      have F1957 := F1922.keep K1955 (ninS ne1640 (ninS ne1905 (ninS ne1711 nin0)))
      have F1958 := F1923.keep K1955 (ninS ne1640 (ninS ne1905 (ninS ne1711 nin0)))
      have V1959 := V1924.keep K1955 (ninS ne1641 (ninS ne1906 (ninS ne1712 nin0)))
      have E1960 := E1925.keep K1955
      have F1961 := F1926.keep K1955 (ninS ne1642 (ninS ne1907 (ninS ne1713 nin0)))
      have F1962 := F1927.keep K1955 (ninS ne1642 (ninS ne1907 (ninS ne1713 nin0)))
      have V1963 := V1928.keep K1955 (ninS ne1643 (ninS ne1908 (ninS ne1714 nin0)))
      have E1964 := E1929.keep K1955
      have F1965 := F1930.keep K1955 (ninS ne1644 (ninS ne1909 (ninS ne1715 nin0)))
      have F1966 := F1931.keep K1955 (ninS ne1644 (ninS ne1909 (ninS ne1715 nin0)))
      have V1967 := V1932.keep K1955 (ninS ne1645 (ninS ne1910 (ninS ne1716 nin0)))
      have E1968 := E1933.keep K1955
      have F1969 := F1934.keep K1955 (ninS ne1646 (ninS ne1911 (ninS ne1717 nin0)))
      have F1970 := F1935.keep K1955 (ninS ne1646 (ninS ne1911 (ninS ne1717 nin0)))
      have V1971 := V1936.keep K1955 (ninS ne1647 (ninS ne1912 (ninS ne1718 nin0)))
      have E1972 := E1937.keep K1955
      have F1973 := F1938.keep K1955 (ninS ne1648 (ninS ne1913 (ninS ne1719 nin0)))
      have F1974 := F1939.keep K1955 (ninS ne1648 (ninS ne1913 (ninS ne1719 nin0)))
      have V1975 := V1940.keep K1955 (ninS ne1649 (ninS ne1914 (ninS ne1720 nin0)))
      have E1976 := E1941.keep K1955
      have V1977 := V1942.keep K1955 (ninS ne1651 (ninS ne1916 (ninS ne1722 nin0)))
      have F1978 := F1943.keep K1955 (ninS ne1650 (ninS ne1915 (ninS ne1721 nin0)))
      have F1979 := F1944.keep K1955 (ninS ne1650 (ninS ne1915 (ninS ne1721 nin0)))
      have V1980 := V1945.keep K1955 (ninS ne1652 (ninS ne1917 (ninS ne1723 nin0)))
      have E1981 := E1946.keep K1955
      have E1982 := E1947.keep K1955
      have F1983 := F1948.keep K1955 (ninS (Ne.symm ne1842) (ninS ne1919 (ninS (Ne.symm ne1844) nin0)))
      have F1984 := F1949.keep K1955 (ninS (Ne.symm ne1842) (ninS ne1919 (ninS (Ne.symm ne1844) nin0)))
      have V1985 := V1950.keep K1955 (ninS (Ne.symm ne1843) (ninS ne1920 (ninS (Ne.symm ne1845) nin0)))
      have O1986 := O1951.keep K1955 (allS ge1639 (allS R1904.1.2.1 (allS R1694.1.2.2.1 all0)))
      have sn1987 := sn1952.grow K1955.1
      have Z1988 : n0 ≤ h1955.size := Nat.le_trans Z1953 K1955.1
      refine WP.castS (st' := []) rfl ?_
      refine WP.aload (pc' := 192) at_190 rfl rfl rfl ?_
      refine WP.aload (pc' := 194) at_192 rfl rfl rfl ?_
      have nm1989 : NM (lay (lay (fun _ => 0) 0 1 (fun _ => cv ch4)) (0 + 1) 1 (fun _ => cv ch5)) 0 1 1 (fun _ => cv ch4) := ⟨rfl, fun i hi => by rw [show i = 0 by omega, lay_out (by omega), lay_in (by omega)]; exact Or.inl (chv_cv7 hb4)⟩
      refine WP.callV (a := b1637) (K := "com/example/vipool/vipool/http/HttpHead") (argsL := [(.ref s1480)]) (rest := []) (wd := 0) (cl' := 23) (sl' := 50262) (pc' := 197) at_194 rfl (wd128 hw) (wd129 hw) (nfS (wd131 hw) rfl) (wd131 hw) (wd130 hw) (wd46 hw) (wd132 hw) (by decide) R1955.2.1 (m_val hw b1637 s1480 h1955 n0 Z1988 O1986 cs S_CS hcs fv hfv S_FM iso utf hiu S_II S_UI S_IS X_IS 512 rx1904 sp1694 (((0 : Int32) + (1 : Nat).toInt32) + (1 : Nat).toInt32) ((0 : Int32) + 1) (lay (lay (fun _ => 0) 0 1 (fun _ => cv ch4)) (0 + 1) 1 (fun _ => cv ch5)) (sp4 ex1848 0 (0 : Int32) ((0 : Int32) + (1 : Nat).toInt32) ((0 : Int32) + (1 : Nat).toInt32) (((0 : Int32) + (1 : Nat).toInt32) + (1 : Nat).toInt32)) R1955 (by decide) (by decide) c1480 1 (fun _ => cv ch4) E1968 F1969 F1970 V1971 (by decide) 0 1 rfl (show (0 + (1 : Nat).toInt32 : Int32).toInt = ((1 : Nat) : Int) from by decide) (by decide) (by decide) nm1989 (by decide) (show (0 + (1 : Nat).toInt32 : Int32) = 1 from by decide) (show (0 + (1 : Nat).toInt32 + (1 : Nat).toInt32 : Int32) = 2 from by decide)) pd_35 rfl rfl rfl (Nat.le_of_eq rfl) (by decide) (by decide) rfl rfl (by decide) (by decide) ?_
      rintro v h1989 ⟨s1989, c1989, rfl, sz1989, K1989, E1989, Fv1989, Fc1989, B1989⟩
      have ne1990 : s1456 ≠ s1989 := Nat.ne_of_lt (Nat.lt_of_lt_of_le E1956.lt sz1989)
      have ne1991 : c1456 ≠ s1989 := Nat.ne_of_lt (Nat.lt_of_lt_of_le V1959.lt sz1989)
      have ne1992 : s1460 ≠ s1989 := Nat.ne_of_lt (Nat.lt_of_lt_of_le E1960.lt sz1989)
      have ne1993 : c1460 ≠ s1989 := Nat.ne_of_lt (Nat.lt_of_lt_of_le V1963.lt sz1989)
      have ne1994 : s1468 ≠ s1989 := Nat.ne_of_lt (Nat.lt_of_lt_of_le E1964.lt sz1989)
      have ne1995 : c1468 ≠ s1989 := Nat.ne_of_lt (Nat.lt_of_lt_of_le V1967.lt sz1989)
      have ne1996 : s1480 ≠ s1989 := Nat.ne_of_lt (Nat.lt_of_lt_of_le E1968.lt sz1989)
      have ne1997 : c1480 ≠ s1989 := Nat.ne_of_lt (Nat.lt_of_lt_of_le V1971.lt sz1989)
      have ne1998 : s1496 ≠ s1989 := Nat.ne_of_lt (Nat.lt_of_lt_of_le E1972.lt sz1989)
      have ne1999 : c1496 ≠ s1989 := Nat.ne_of_lt (Nat.lt_of_lt_of_le V1975.lt sz1989)
      have ne2000 : b1516 ≠ s1989 := Nat.ne_of_lt (Nat.lt_of_lt_of_le E1976.lt sz1989)
      have ne2001 : b1555 ≠ s1989 := Nat.ne_of_lt (Nat.lt_of_lt_of_le V1977.lt sz1989)
      have ne2002 : c1597 ≠ s1989 := Nat.ne_of_lt (Nat.lt_of_lt_of_le V1980.lt sz1989)
      have ne2003 : b1637 ≠ s1989 := Nat.ne_of_lt (Nat.lt_of_lt_of_le E1981.lt sz1989)
      have ne2004 : la1810 ≠ s1989 := Nat.ne_of_lt (Nat.lt_of_lt_of_le E1982.lt sz1989)
      have ne2005 : lb1810 ≠ s1989 := Nat.ne_of_lt (Nat.lt_of_lt_of_le V1985.lt sz1989)
      have E2006 := E1956.keep K1989
      have F2007 := F1957.keep K1989 nin0
      have F2008 := F1958.keep K1989 nin0
      have V2009 := V1959.keep K1989 nin0
      have E2010 := E1960.keep K1989
      have F2011 := F1961.keep K1989 nin0
      have F2012 := F1962.keep K1989 nin0
      have V2013 := V1963.keep K1989 nin0
      have E2014 := E1964.keep K1989
      have F2015 := F1965.keep K1989 nin0
      have F2016 := F1966.keep K1989 nin0
      have V2017 := V1967.keep K1989 nin0
      have E2018 := E1968.keep K1989
      have F2019 := F1969.keep K1989 nin0
      have F2020 := F1970.keep K1989 nin0
      have V2021 := V1971.keep K1989 nin0
      have E2022 := E1972.keep K1989
      have F2023 := F1973.keep K1989 nin0
      have F2024 := F1974.keep K1989 nin0
      have V2025 := V1975.keep K1989 nin0
      have E2026 := E1976.keep K1989
      have V2027 := V1977.keep K1989 nin0
      have F2028 := F1978.keep K1989 nin0
      have F2029 := F1979.keep K1989 nin0
      have V2030 := V1980.keep K1989 nin0
      have E2031 := E1981.keep K1989
      have E2032 := E1982.keep K1989
      have F2033 := F1983.keep K1989 nin0
      have F2034 := F1984.keep K1989 nin0
      have V2035 := V1985.keep K1989 nin0
      have O2036 := O1986.keep K1989 all0
      have sn2037 := sn1987.grow K1989.1
      have Z2038 : n0 ≤ h1989.size := Nat.le_trans Z1988 K1989.1
      have R1989 := R1955.keep0 K1989
      refine WP.castS (st' := [(.ref s1989)]) rfl ?_
      refine WP.astore (pc' := 199) at_197 rfl rfl (Ls' := #[.val (.int x0), .val (.int x1), .val (.int x2), .val (.int x3), .val (.int x4), .val (.int x5), .val (.int (1 : Int32)), .val (.int (1 : Int32)), .val (.ref s1456), .val (.ref s1460), .val (.ref s1468), .val (.ref s1480), .val (.ref s1496), .val (.ref b1516), .val (.ref b1637), .val (.int (1 : Int32)), .val (.int (1 : Int32)), .val (.ref s1989)]) rfl ?_
      refine WP.aload (pc' := 201) at_199 rfl rfl rfl ?_
      refine WP.ifnullN (pc' := 204) at_201 rfl ?_
      refine WP.aload (pc' := 206) at_204 rfl rfl rfl ?_
      refine WP.aload (pc' := 208) at_206 rfl rfl rfl ?_
      refine WP.callV (a := s1989) (K := "java/lang/String") (argsL := [(.ref s1496)]) (rest := []) (wd := 0) (cl' := 23) (sl' := 50262) (pc' := 211) at_208 rfl (wd191 hw) (wd192 hw) (nfS (wd194 hw) rfl) (wd194 hw) (wd193 hw) (wd2 hw) (wd195 hw) (by decide) E1989 (s_eq hw s1989 s1496 h1989 n0 c1989 c1496 1 1 (fun _ => (lay (lay (fun _ => 0) 0 1 (fun _ => cv ch4)) (0 + 1) 1 (fun _ => cv ch5)) 1) (fun _ => cv ch5) E1989 Fv1989 Fc1989 E2022 F2023 F2024 B1989 V2025 (by omega) (by omega) (Ne.symm ne1998) cs (S_CS.ext O2036.2) hcs) pd_36 rfl rfl rfl (Nat.le_of_eq rfl) (by decide) (by decide) rfl rfl (by decide) (by decide) ?_
      rintro v hh2039 ⟨⟨rfl, qe2039⟩ | ⟨rfl, qe2039⟩, he2039⟩ <;> rw [he2039]
      · skip
        refine WP.castS (st' := [(.int (1 : Int32))]) rfl ?_
        have hc211 : ¬ (1 : Int32) = (0 : Int32) := by decide
        refine WP.ifc_ne (pc1 := 216) (pc2 := 214) at_211 (by decide) (by decide) rfl (fun _ => ?_) (fun k => absurd k hc211)
        refine WP.aload (pc' := 218) at_216 rfl rfl rfl ?_
        refine WP.callV (a := b1637) (K := "com/example/vipool/vipool/http/HttpHead") (argsL := []) (rest := []) (wd := 0) (cl' := 23) (sl' := 50262) (pc' := 221) at_218 rfl (wd117 hw) (wd118 hw) (nfS (wd120 hw) rfl) (wd120 hw) (wd119 hw) (wd46 hw) (wd121 hw) (by decide) R1989.2.1 (m_size hw b1637 h1989 n0 512 rx1904 sp1694 (((0 : Int32) + (1 : Nat).toInt32) + (1 : Nat).toInt32) ((0 : Int32) + 1) (lay (lay (fun _ => 0) 0 1 (fun _ => cv ch4)) (0 + 1) 1 (fun _ => cv ch5)) (sp4 ex1848 0 (0 : Int32) ((0 : Int32) + (1 : Nat).toInt32) ((0 : Int32) + (1 : Nat).toInt32) (((0 : Int32) + (1 : Nat).toInt32) + (1 : Nat).toInt32)) R1989 1 (by decide) (by decide)) pd_13 rfl rfl rfl (Nat.le_of_eq rfl) (by decide) (by decide) rfl rfl (by decide) (by decide) ?_
        rintro v hh2040 ⟨rfl, he2040⟩
        rw [he2040]
        refine WP.castS (st' := [(.int (sz (sp4 ex1848 0 (0 : Int32) ((0 : Int32) + (1 : Nat).toInt32) ((0 : Int32) + (1 : Nat).toInt32) (((0 : Int32) + (1 : Nat).toInt32) + (1 : Nat).toInt32)) 1))]) rfl ?_
        refine WP.bipush (pc' := 223) at_221 rfl (z := 23) rfl ?_
        have hc223 : (sz (sp4 ex1848 0 (0 : Int32) ((0 : Int32) + (1 : Nat).toInt32) ((0 : Int32) + (1 : Nat).toInt32) (((0 : Int32) + (1 : Nat).toInt32) + (1 : Nat).toInt32)) 1) = (23 : Int32) := (sz_n (k := 0) (show ¬ (0 : Int32) = -1 from by decide)).symm.trans (show (17 : Int32) + ((0 + (1 : Nat).toInt32) - 0 + 2 + ((0 + (1 : Nat).toInt32) + (1 : Nat).toInt32) - (0 + (1 : Nat).toInt32) + 2) = 23 from by decide)
        refine WP.icmp_eq (pc1 := 228) (pc2 := 226) at_223 (by decide) (by decide) rfl (fun _ => ?_) (fun k => absurd hc223 k)
        refine WP.aload (pc' := 230) at_228 rfl rfl rfl ?_
        refine WP.callV (a := b1637) (K := "com/example/vipool/vipool/http/HttpHead") (argsL := []) (rest := []) (wd := 0) (cl' := 23) (sl' := 50262) (pc' := 233) at_230 rfl (wd108 hw) (wd109 hw) (nfS (wd111 hw) rfl) (wd111 hw) (wd110 hw) (wd46 hw) (wd112 hw) (by decide) R1989.2.1 (m_clr0 hw b1637 h1989 n0 Z2038 O2036 512 rx1904 sp1694 (((0 : Int32) + (1 : Nat).toInt32) + (1 : Nat).toInt32) ((0 : Int32) + 1) (lay (lay (fun _ => 0) 0 1 (fun _ => cv ch4)) (0 + 1) 1 (fun _ => cv ch5)) (sp4 ex1848 0 (0 : Int32) ((0 : Int32) + (1 : Nat).toInt32) ((0 : Int32) + (1 : Nat).toInt32) (((0 : Int32) + (1 : Nat).toInt32) + (1 : Nat).toInt32)) R1989 (by decide)) pd_10 rfl rfl rfl (Nat.le_of_eq rfl) (by decide) (by decide) rfl rfl (by decide) (by decide) ?_
        rintro v h2041 ⟨rfl, K2041, R2041⟩
        have O2042 := O2036.keep K2041 (allS ge1639 all0)
        have sn2043 := sn2037.grow K2041.1
        have Z2044 : n0 ≤ h2041.size := Nat.le_trans Z2038 K2041.1
        refine WP.castS (st' := [(.int (0 : Int32))]) rfl ?_
        have hc233 : (0 : Int32) = (0 : Int32) := by decide
        refine WP.ifc_ne (pc1 := 240) (pc2 := 236) at_233 (by decide) (by decide) rfl (fun k => absurd hc233 k) (fun _ => ?_)
        refine WP.iconst (pc' := 237) at_236 rfl (z := 1) rfl ?_
        refine WP.goto (pc' := 241) at_237 (by decide) (by decide) ?_
        refine WP.nretW (t := .boolean) at_241 rfl (by simp) rfl sn2043 (by decide) (by decide) rfl
      · exact absurd (show Same 1 1 (fun _ => (lay (lay (fun _ => 0) 0 1 (fun _ => cv ch4)) (0 + 1) 1 (fun _ => cv ch5)) 1) (fun _ => cv ch5) from ⟨rfl, fun i hi => (lay_in (by omega)).trans rfl⟩) qe2039
set_option maxRecDepth 65536 in
set_option maxHeartbeats 40000000 in
theorem comes_1 {Post : Tables → Env → Array Value → State → Outcome → State → Prop} (hpost : ∀ tb e args s v u, (limb_1_1.after args s (.returned v) u = true ∧ limb_1_2.after args s (.returned v) u = true ∧ True) → ReturnedEndW s (.returned v) u (Jvm.fieldLocs frame_1_writes args s ++ Jvm.arrayLocs frame_1_arrays args s ++ Jvm.staticLocs frame_1_statics s) 56 85248 → Post tb e args s (.returned v) u) :
    ArmFor flags0 classFile x code maxLocals ret World_1 tables_1 room_1 Calls_1 rest_1 Pre_1 Post := by
  intro l hfl _ _ p e ha hc hk s m args below hf hA hF happ hP
  obtain ⟨hcalls, hrest, hpre⟩ := hP
  obtain ⟨-, -, -, hnamed, -, -, -, hat⟩ := (Spec.applies_iff hf).mp happ
  obtain ⟨hg, hn⟩ := and_e (Cond.before_iff.mp (show (Jvm.Cond.and given_1 narrow_1).before args s = true from hpre))
  obtain ⟨g1, g2⟩ := and_e hg
  obtain ⟨g3, g4⟩ := and_e g2
  obtain ⟨g5, g6⟩ := and_e g4
  obtain ⟨g7, g8⟩ := and_e g6
  obtain ⟨g9, g10⟩ := and_e g8
  obtain ⟨g11, g12⟩ := and_e g10
  obtain ⟨w0, w1, w2, w3, w4, w5, rfl⟩ : ∃ w0 w1 w2 w3 w4 w5 : Value, args = #[w0, w1, w2, w3, w4, w5] := by
    have hs : args.size = 6 := by simpa [Cond.value, given_1] using g1
    obtain ⟨L⟩ := args
    match L, hs with
    | [w0, w1, w2, w3, w4, w5], _ => exact ⟨w0, w1, w2, w3, w4, w5, rfl⟩
  have hw := fun d (hd : d ∈ tables_1) => atoms_spec (ws := Jvm.Cond.code x code maxLocals ret :: tables_1) hat d (List.mem_cons_of_mem _ hd)
  have hfit : Fit s := fun {y c} hc i hi => by
    obtain ⟨ha, rfl⟩ := Array.getElem?_eq_some_iff.mp hc
    have q := List.all_eq_true.mp ((Array.all_eq_true_iff_forall_mem.mp hF) _ (Array.getElem_mem ha)) i (List.mem_range.mpr hi)
    simpa [Array.getElem?_eq_getElem hi] using q
  obtain ⟨hsets, hown0⟩ := atoms_of _ (rest_1_c_eq ▸ (show rest_1_c.before _ s = true from hrest))
  have hr0 := Cond.before_iff.mp hown0
  obtain ⟨i0, ei0⟩ := is_v g3
  obtain rfl : w0 = (.int i0) := Option.some.inj ei0
  obtain ⟨i1, ei1⟩ := is_v g5
  obtain rfl : w1 = (.int i1) := Option.some.inj ei1
  obtain ⟨i2, ei2⟩ := is_v g7
  obtain rfl : w2 = (.int i2) := Option.some.inj ei2
  obtain ⟨i3, ei3⟩ := is_v g9
  obtain rfl : w3 = (.int i3) := Option.some.inj ei3
  obtain ⟨i4, ei4⟩ := is_v g11
  obtain rfl : w4 = (.int i4) := Option.some.inj ei4
  obtain ⟨i5, ei5⟩ := is_v g12
  obtain rfl : w5 = (.int i5) := Option.some.inj ei5
  obtain ⟨cs, evS⟩ := is_v (Cond.before_iff.mp (hsets _ (List.mem_of_getElem? (i := 1) rfl)))
  have S_CS := Sta.start evS (Or.inl (hsets _ (List.mem_of_getElem? (i := 0) rfl)))
  have hcs : ¬ cs = 0 := fun q => by
    have z := not_v (Cond.before_iff.mp (hsets _ (List.mem_of_getElem? (i := 2) rfl)))
    rw [q] at evS
    rw [eq_i evS (Term.int_eval 0) rfl] at z
    exact absurd z (by decide)
  obtain ⟨fv, evF, hfv⟩ := isR_v (Cond.before_iff.mp (hsets _ (List.mem_of_getElem? (i := 8) rfl)))
  have S_FM := Sta.start evF (Or.inl (hsets _ (List.mem_of_getElem? (i := 7) rfl)))
  obtain ⟨iso, evI, S_IS, X_IS⟩ := Sta.of_exa (Cond.before_iff.mp (hsets _ (List.mem_of_getElem? (i := 14) rfl))) (Or.inl (hsets _ (List.mem_of_getElem? (i := 10) rfl)))
  obtain ⟨iso2, evI2, S_II, X_II⟩ := Sta.of_exa (Cond.before_iff.mp (hsets _ (List.mem_of_getElem? (i := 20) rfl))) (Or.inl (hsets _ (List.mem_of_getElem? (i := 12) rfl)))
  obtain ⟨utf, evU, S_UI, X_UI⟩ := Sta.of_exa (Cond.before_iff.mp (hsets _ (List.mem_of_getElem? (i := 17) rfl))) (Or.inl (hsets _ (List.mem_of_getElem? (i := 16) rfl)))
  obtain rfl := eqRef_v (Cond.before_iff.mp (hsets _ (List.mem_of_getElem? (i := 13) rfl))) evI evI2
  have hiu := Exa.ne X_IS X_UI (by decide)
  have hCH : CHv s consts_1 s.vm s.heap := CHv.start (hELw hw) (fun p hp => hcalls.1 p hp) (hsets _ (List.mem_of_getElem? (i := 2) rfl)) (wd14 hw) (wd10 hw)
  obtain ⟨n, o, h1, h2, h3, _, L, rfl, ⟨rfl, N⟩, hq⟩ := rm0 (Z := s) hw i0 i1 i2 i3 i4 i5 s.heap s.heap.size (Nat.le_refl _) (Old.start s) cs S_CS hcs fv hfv S_FM iso utf hiu S_II S_UI S_IS X_IS l tables_1 p e ha hc hk s m _ below hf ((Spec.applies_iff_loose hf).mp happ).1 ⟨rfl, State.Warmed39.refl s, rfl, hCH⟩ trivial
  refine ⟨n, _, h1, h2, h3, hpost _ _ _ _ _ _ ⟨Cond.after_iff.mpr rfl, Cond.after_iff.mpr (eq_i res_at (Term.int_eval (1)) rfl), trivial⟩ ⟨hq.1, hq.2.1, hq.2.2.1, (hq.2.2.2.sift fun y hy => Or.inr (N y hy)).mono (by decide) (by decide)⟩⟩
theorem main_1_1 : Claimed_1_1 := comes_1 fun _ _ _ _ _ _ h hF => ⟨h.1, hF⟩
theorem main_1_2 : Claimed_1_2 := comes_1 fun _ _ _ _ _ _ h hF => ⟨h.2.1, hF⟩
end Jvm.Pilot.@@N@@
namespace Jvm.Pilot.@@N@@
open Jvm Jvm.ClassFile Sem Op Lib Jvm.Free Jvm.Stand Jvm.Pilot.@@N@@.Jvm.D
/-! MADE BY PROGRAM (witnessworld.py) out of the Statement's table words and the real class files: 32 classes; the members and pool entries that the words name. The judged class is class 1, her method 1. -/
namespace start1
open Jvm.ClassFile
def u (s : String) : CpInfo := .utf8 (stringToUtf16 s)
/-- a pool by its gaps: so many unusable entries, then the entry; so many at the end -/
def gap : Nat → List CpInfo → List CpInfo
  | 0, r => r
  | n + 1, r => .unusable :: gap n r
def poolList (es : List (Nat × CpInfo)) (last : Nat) : List CpInfo := es.foldr (fun e r => gap e.1 (e.2 :: r)) (gap last [])
def pool (es : List (Nat × CpInfo)) (last : Nat) : Array CpInfo := ⟨poolList es last⟩
def fileOf (pool : Array CpInfo) (this : Nat) (attrs : Array Attribute := #[]) (ms : Array MethodInfo := #[]) (fl : Nat := 33) (sup : Nat := 0) (ifs : Array Nat := #[]) (fds : Array FieldInfo := #[]) : ClassFile where
  minorVersion := 0
  majorVersion := 65
  constantPool := pool
  accessFlags := fl
  thisClass := this
  superClass := sup
  interfaces := ifs
  fields := fds
  methods := ms
  attributes := attrs
def plain (name : String) (sup : Option ClassId) : Class where
  name := name
  kind := .ordinary
  loader := none
  accessFlags := 33
  super := sup
  interfaces := #[]
  cf := none
  fields := #[]
  methods := #[]
  instanceTypes := #[]
  staticTypes := #[]
  resolved := #[]
  callSites := []
  init := .initialized
  statics := none
  mirror := none

def pool0 : Array CpInfo := pool [(5, u "<init>"), (0, u "()V"), (1, .class_ 10), (1, u "java/lang/Object")] 113

def k0c0 : Code := { maxStack := 0, maxLocals := 1, code := object_method_1_code, exceptionTable := #[], attributes := #[] }
def k0m0 : Method := { name := "<init>", desc := "()V", sig := { parameters := [], returnType := none }, accessFlags := 1, code := some k0c0 }
/-- java/lang/Object -/
def k0 : Class := { plain "java/lang/Object" none with
  accessFlags := 33
  interfaces := #[]
  cf := some (fileOf pool0 8 #[] #[{ accessFlags := 1, nameIndex := 5, descriptorIndex := 6, attributes := #[] }] 33 0 #[] #[])
  fields := #[]
  methods := #[k0m0]
  instanceTypes := #[]
  staticTypes := #[]
  resolved := Array.replicate 124 none
  statics := none }

def pool1 : Array CpInfo := pool [(2, .class_ 4), (0, .nameAndType 5 6), (0, u "java/lang/Object"), (0, u "<init>"), (0, u "()V"), (0, .methodref 8 9), (0, .class_ 10), (0, .nameAndType 11 12), (0, u "java/lang/String"), (0, u "valueOf"), (0, u "(C)Ljava/lang/String;"), (0, .methodref 8 14), (0, .nameAndType 5 15), (0, u "([C)V"), (0, .class_ 17), (0, u "com/example/vipool/vipool/http/HttpHead"), (0, .methodref 16 3), (0, .methodref 16 20), (0, .nameAndType 21 22), (0, u "add"), (0, u "(Ljava/lang/String;Ljava/lang/String;)V"), (0, .string 24), (0, u ""), (0, .methodref 16 26), (0, .nameAndType 27 28), (0, u "clear"), (0, u "()Z"), (0, .methodref 16 30), (0, .nameAndType 31 32), (0, u "size"), (0, u "()I"), (0, .methodref 16 34), (0, .nameAndType 35 36), (0, u "value"), (0, u "(Ljava/lang/String;)Ljava/lang/String;"), (0, .methodref 8 38), (0, .nameAndType 39 40), (0, u "equals"), (0, u "(Ljava/lang/Object;)Z"), (0, .class_ 42), (0, u "com/example/vipool/vipool/http/HttpHeadClearPinLaw"), (2, u "law"), (0, u "(IIIIII)Z")] 3

def k1m0 : Method := { name := "<init>", desc := "()V", sig := { parameters := [], returnType := none }, accessFlags := 1, code := none }
def k1c1 : Code := { maxStack := 3, maxLocals := 18, code := code, exceptionTable := #[], attributes := #[] }
def k1m1 : Method := { name := "law", desc := "(IIIIII)Z", sig := { parameters := [.int, .int, .int, .int, .int, .int], returnType := some .boolean }, accessFlags := 9, code := some k1c1 }
/-- com/example/vipool/vipool/http/HttpHeadClearPinLaw -/
def k1 : Class := { plain "com/example/vipool/vipool/http/HttpHeadClearPinLaw" (some 0) with
  accessFlags := 49
  interfaces := #[]
  cf := some (fileOf pool1 41 #[] #[{ accessFlags := 1, nameIndex := 5, descriptorIndex := 6, attributes := #[] }, { accessFlags := 9, nameIndex := 45, descriptorIndex := 46, attributes := #[] }] 49 2 #[] #[])
  fields := #[]
  methods := #[k1m0, k1m1]
  instanceTypes := #[]
  staticTypes := #[]
  resolved := Array.replicate 50 none
  statics := none }

def pool2 : Array CpInfo := pool [(1, .class_ 2), (0, u "java/io/Serializable"), (0, .class_ 4), (0, u "java/lang/Object")] 2

/-- java/io/Serializable -/
def k2 : Class := { plain "java/io/Serializable" (some 0) with
  accessFlags := 1537
  interfaces := #[]
  cf := some (fileOf pool2 1 #[] #[] 1537 3 #[] #[])
  fields := #[]
  methods := #[]
  instanceTypes := #[]
  staticTypes := #[]
  resolved := Array.replicate 7 none
  statics := none }

def pool3 : Array CpInfo := pool [(1, .class_ 2), (0, u "java/lang/Comparable"), (0, .class_ 4), (0, u "java/lang/Object")] 7

/-- java/lang/Comparable -/
def k3 : Class := { plain "java/lang/Comparable" (some 0) with
  accessFlags := 1537
  interfaces := #[]
  cf := some (fileOf pool3 1 #[] #[] 1537 3 #[] #[])
  fields := #[]
  methods := #[]
  instanceTypes := #[]
  staticTypes := #[]
  resolved := Array.replicate 12 none
  statics := none }

def pool4 : Array CpInfo := pool [(2, .class_ 4), (1, u "java/lang/CharSequence"), (42, .class_ 48), (0, u "java/lang/CharSequence$1CodePointIterator"), (10, .class_ 60), (0, u "java/lang/CharSequence$1CharIterator"), (5, .class_ 67), (0, u "java/lang/Object")] 63

/-- java/lang/CharSequence -/
def k4 : Class := { plain "java/lang/CharSequence" (some 0) with
  accessFlags := 1537
  interfaces := #[]
  cf := some (fileOf pool4 2 #[.nestMembers #[47, 59]] #[] 1537 66 #[] #[])
  fields := #[]
  methods := #[]
  instanceTypes := #[]
  staticTypes := #[]
  resolved := Array.replicate 131 none
  statics := none }

def pool5 : Array CpInfo := pool [(1, .class_ 2), (0, u "java/lang/constant/Constable"), (0, .class_ 4), (0, u "java/lang/Object")] 6

/-- java/lang/constant/Constable -/
def k5 : Class := { plain "java/lang/constant/Constable" (some 0) with
  accessFlags := 1537
  interfaces := #[]
  cf := some (fileOf pool5 1 #[] #[] 1537 3 #[] #[])
  fields := #[]
  methods := #[]
  instanceTypes := #[]
  staticTypes := #[]
  resolved := Array.replicate 11 none
  statics := none }

def pool6 : Array CpInfo := pool [(1, .class_ 2), (0, u "java/lang/constant/ConstantDesc"), (0, .class_ 4), (0, u "java/lang/Object")] 32

/-- java/lang/constant/ConstantDesc -/
def k6 : Class := { plain "java/lang/constant/ConstantDesc" (some 0) with
  accessFlags := 1537
  interfaces := #[]
  cf := some (fileOf pool6 1 #[] #[] 1537 3 #[] #[])
  fields := #[]
  methods := #[]
  instanceTypes := #[]
  staticTypes := #[]
  resolved := Array.replicate 37 none
  statics := none }

def pool7 : Array CpInfo := pool [(1, .methodref 2 3), (0, .class_ 4), (0, .nameAndType 5 6), (0, u "java/lang/Object"), (0, u "<init>"), (0, u "()V"), (2, .fieldref 10 11), (0, .class_ 12), (0, .nameAndType 13 14), (0, u "java/lang/String"), (0, u "value"), (0, u "[B"), (0, .fieldref 10 16), (0, .nameAndType 17 18), (0, u "coder"), (0, u "B"), (2, u "hash"), (0, u "I"), (2, u "hashIsZero"), (0, u "Z"), (0, .methodref 10 28), (0, .nameAndType 5 29), (0, u "([CIILjava/lang/Void;)V"), (4, .methodref 10 35), (0, .nameAndType 36 37), (0, u "checkBoundsOffCount"), (0, u "(III)I"), (0, .fieldref 10 39), (0, .nameAndType 40 26), (0, u "COMPACT_STRINGS"), (1, .class_ 44), (1, u "java/lang/StringUTF16"), (0, u "compress"), (1, .methodref 42 48), (0, .nameAndType 49 50), (0, u "coderFromArrayLen"), (0, u "([BI)B"), (2, u "toBytes"), (0, .methodref 55 56), (0, .class_ 57), (0, .nameAndType 58 59), (0, u "java/util/Arrays"), (0, u "copyOfRange"), (0, u "([BII)[B"), (15, .methodref 10 76), (0, .nameAndType 5 77), (0, u "(Ljava/nio/charset/Charset;[BII)V"), (0, .methodref 79 80), (0, .class_ 81), (0, .nameAndType 82 83), (0, u "java/util/Objects"), (0, u "requireNonNull"), (0, u "(Ljava/lang/Object;)Ljava/lang/Object;"), (0, .class_ 85), (0, u "java/nio/charset/Charset"), (0, .fieldref 87 88), (0, .class_ 89), (0, .nameAndType 90 91), (0, u "sun/nio/cs/UTF_8"), (0, u "INSTANCE"), (0, u "Lsun/nio/cs/UTF_8;"), (15, .class_ 109), (1, u "java/lang/StringLatin1"), (6, .fieldref 117 118), (0, .class_ 119), (0, .nameAndType 90 120), (0, u "sun/nio/cs/ISO_8859_1"), (0, u "Lsun/nio/cs/ISO_8859_1;"), (21, u "()Z"), (34, .methodref 42 178), (0, .nameAndType 45 179), (0, u "([CII)[B"), (29, .methodref 10 210), (0, .nameAndType 5 211), (0, u "([BB)V"), (26, u "([BIILjava/nio/charset/Charset;)V"), (95, u "()I"), (0, .methodref 10 336), (0, .nameAndType 17 337), (0, u "()B"), (25, u "([BI)C"), (5, u "(C)Z"), (21, u "(II)V"), (35, u "(I)C"), (64, .methodref 10 493), (0, .nameAndType 494 142), (0, u "isLatin1"), (0, .methodref 107 496), (0, .nameAndType 497 363), (0, u "charAt"), (3, u "checkIndex"), (5, u "length"), (33, .methodref 107 542), (0, .nameAndType 543 544), (0, u "equals"), (0, u "([B[B)Z"), (28, u "(Ljava/lang/Object;)Z"), (1, .class_ 576), (0, u "java/lang/CharSequence"), (22, u "CASE_INSENSITIVE_ORDER"), (0, u "Ljava/util/Comparator;"), (181, u "valueOf"), (0, u "(C)Ljava/lang/String;"), (226, u "([C)V"), (4, .methodref 107 1016), (0, .nameAndType 1017 369), (0, u "canEncode"), (0, .methodref 107 1019), (0, .nameAndType 53 1020), (0, u "(C)[B"), (32, .fieldref 1054 1055), (0, .class_ 1056), (0, .nameAndType 1057 1058), (0, u "jdk/internal/util/Preconditions"), (0, u "SIOOBE_FORMATTER"), (0, u "Ljava/util/function/BiFunction;"), (0, .methodref 1054 1060), (0, .nameAndType 501 1061), (0, u "(IILjava/util/function/BiFunction;)I"), (2, u "(IIILjava/util/function/BiFunction;)I"), (0, .methodref 1054 1066), (0, .nameAndType 1067 1064), (0, u "checkFromIndexSize"), (33, u "serialPersistentFields"), (0, u "[Ljava/io/ObjectStreamField;"), (0, .class_ 1104), (0, u "java/lang/String$CaseInsensitiveComparator"), (1, .class_ 1107), (0, u "java/io/Serializable"), (0, .class_ 1109), (0, u "java/lang/Comparable"), (0, .class_ 1111), (0, u "java/lang/constant/Constable"), (0, .class_ 1113), (0, u "java/lang/constant/ConstantDesc"), (2, u "serialVersionUID"), (0, u "J"), (3, u "REPL"), (0, u "C"), (2, u "LATIN1"), (1, u "UTF16")] 323

def k7m0 : Method := { name := "<init>", desc := "()V", sig := { parameters := [], returnType := none }, accessFlags := 1, code := none }
def k7c1 : Code := { maxStack := 5, maxLocals := 2, code := jdk_42_method_3_code, exceptionTable := #[], attributes := #[] }
def k7m1 : Method := { name := "<init>", desc := "([C)V", sig := { parameters := [(.array .char)], returnType := none }, accessFlags := 1, code := some k7c1 }
def k7c2 : Code := { maxStack := 6, maxLocals := 5, code := jdk_42_method_10_code, exceptionTable := #[], attributes := #[] }
def k7m2 : Method := { name := "<init>", desc := "([BIILjava/nio/charset/Charset;)V", sig := { parameters := [(.array .byte), .int, .int, (.object "java/nio/charset/Charset")], returnType := none }, accessFlags := 1, code := some k7c2 }
def k7c3 : Code := { maxStack := 6, maxLocals := 11, code := jdk_42_method_11_code, exceptionTable := #[{ startPc := 800, endPc := 813, handlerPc := 816, catchType := 202 }], attributes := #[] }
def k7m3 : Method := { name := "<init>", desc := "(Ljava/nio/charset/Charset;[BII)V", sig := { parameters := [(.object "java/nio/charset/Charset"), (.array .byte), .int, .int], returnType := none }, accessFlags := 2, code := some k7c3 }
def k7c4 : Code := { maxStack := 2, maxLocals := 1, code := jdk_42_method_54_code, exceptionTable := #[], attributes := #[] }
def k7m4 : Method := { name := "length", desc := "()I", sig := { parameters := [], returnType := some .int }, accessFlags := 1, code := some k7c4 }
def k7c5 : Code := { maxStack := 2, maxLocals := 2, code := jdk_42_method_56_code, exceptionTable := #[], attributes := #[] }
def k7m5 : Method := { name := "charAt", desc := "(I)C", sig := { parameters := [.int], returnType := some .char }, accessFlags := 1, code := some k7c5 }
def k7c6 : Code := { maxStack := 2, maxLocals := 3, code := jdk_42_method_66_code, exceptionTable := #[], attributes := #[] }
def k7m6 : Method := { name := "equals", desc := "(Ljava/lang/Object;)Z", sig := { parameters := [(.object "java/lang/Object")], returnType := some .boolean }, accessFlags := 1, code := some k7c6 }
def k7c7 : Code := { maxStack := 4, maxLocals := 1, code := jdk_42_method_139_code, exceptionTable := #[], attributes := #[] }
def k7m7 : Method := { name := "valueOf", desc := "(C)Ljava/lang/String;", sig := { parameters := [.char], returnType := some (.object "java/lang/String") }, accessFlags := 9, code := some k7c7 }
def k7c8 : Code := { maxStack := 4, maxLocals := 6, code := jdk_42_method_149_code, exceptionTable := #[], attributes := #[] }
def k7m8 : Method := { name := "<init>", desc := "([CIILjava/lang/Void;)V", sig := { parameters := [(.array .char), .int, .int, (.object "java/lang/Void")], returnType := none }, accessFlags := 2, code := some k7c8 }
def k7c9 : Code := { maxStack := 2, maxLocals := 3, code := jdk_42_method_151_code, exceptionTable := #[], attributes := #[] }
def k7m9 : Method := { name := "<init>", desc := "([BB)V", sig := { parameters := [(.array .byte), .byte], returnType := none }, accessFlags := 0, code := some k7c9 }
def k7c10 : Code := { maxStack := 1, maxLocals := 1, code := jdk_42_method_152_code, exceptionTable := #[], attributes := #[] }
def k7m10 : Method := { name := "coder", desc := "()B", sig := { parameters := [], returnType := some .byte }, accessFlags := 0, code := some k7c10 }
def k7c11 : Code := { maxStack := 1, maxLocals := 1, code := jdk_42_method_154_code, exceptionTable := #[], attributes := #[] }
def k7m11 : Method := { name := "isLatin1", desc := "()Z", sig := { parameters := [], returnType := some .boolean }, accessFlags := 0, code := some k7c11 }
def k7c12 : Code := { maxStack := 3, maxLocals := 2, code := jdk_42_method_155_code, exceptionTable := #[], attributes := #[] }
def k7m12 : Method := { name := "checkIndex", desc := "(II)V", sig := { parameters := [.int, .int], returnType := none }, accessFlags := 8, code := some k7c12 }
def k7c13 : Code := { maxStack := 4, maxLocals := 3, code := jdk_42_method_157_code, exceptionTable := #[], attributes := #[] }
def k7m13 : Method := { name := "checkBoundsOffCount", desc := "(III)I", sig := { parameters := [.int, .int, .int], returnType := some .int }, accessFlags := 8, code := some k7c13 }
/-- java/lang/String -/
def k7 : Class := { plain "java/lang/String" (some 0) with
  accessFlags := 49
  interfaces := #[2, 3, 4, 5, 6]
  cf := some (fileOf pool7 10 #[.nestMembers #[1103]] #[{ accessFlags := 1, nameIndex := 5, descriptorIndex := 6, attributes := #[] }, { accessFlags := 1, nameIndex := 5, descriptorIndex := 1010, attributes := #[] }, { accessFlags := 1, nameIndex := 5, descriptorIndex := 238, attributes := #[] }, { accessFlags := 2, nameIndex := 5, descriptorIndex := 77, attributes := #[] }, { accessFlags := 1, nameIndex := 507, descriptorIndex := 334, attributes := #[] }, { accessFlags := 1, nameIndex := 497, descriptorIndex := 427, attributes := #[] }, { accessFlags := 1, nameIndex := 543, descriptorIndex := 573, attributes := #[] }, { accessFlags := 9, nameIndex := 782, descriptorIndex := 783, attributes := #[] }, { accessFlags := 2, nameIndex := 5, descriptorIndex := 29, attributes := #[] }, { accessFlags := 0, nameIndex := 5, descriptorIndex := 211, attributes := #[] }, { accessFlags := 0, nameIndex := 17, descriptorIndex := 337, attributes := #[] }, { accessFlags := 0, nameIndex := 494, descriptorIndex := 142, attributes := #[] }, { accessFlags := 8, nameIndex := 501, descriptorIndex := 391, attributes := #[] }, { accessFlags := 8, nameIndex := 36, descriptorIndex := 37, attributes := #[] }] 49 2 #[1106, 1108, 575, 1110, 1112] #[{ accessFlags := 18, nameIndex := 13, descriptorIndex := 14, attributes := #[] }, { accessFlags := 18, nameIndex := 17, descriptorIndex := 18, attributes := #[] }, { accessFlags := 2, nameIndex := 21, descriptorIndex := 22, attributes := #[] }, { accessFlags := 2, nameIndex := 25, descriptorIndex := 26, attributes := #[] }, { accessFlags := 26, nameIndex := 1116, descriptorIndex := 1117, attributes := #[] }, { accessFlags := 24, nameIndex := 40, descriptorIndex := 26, attributes := #[] }, { accessFlags := 26, nameIndex := 1101, descriptorIndex := 1102, attributes := #[] }, { accessFlags := 26, nameIndex := 1121, descriptorIndex := 1122, attributes := #[] }, { accessFlags := 25, nameIndex := 599, descriptorIndex := 600, attributes := #[] }, { accessFlags := 24, nameIndex := 1125, descriptorIndex := 18, attributes := #[] }, { accessFlags := 24, nameIndex := 1127, descriptorIndex := 18, attributes := #[] }])
  fields := #[{ name := "value", type := (.array .byte), accessFlags := 18, slot := 0, constantValue := 0 }, { name := "coder", type := .byte, accessFlags := 18, slot := 1, constantValue := 0 }, { name := "hash", type := .int, accessFlags := 2, slot := 2, constantValue := 0 }, { name := "hashIsZero", type := .boolean, accessFlags := 2, slot := 3, constantValue := 0 }, { name := "serialVersionUID", type := .long, accessFlags := 26, slot := 0, constantValue := 0 }, { name := "COMPACT_STRINGS", type := .boolean, accessFlags := 24, slot := 1, constantValue := 0 }, { name := "serialPersistentFields", type := (.array (.object "java/io/ObjectStreamField")), accessFlags := 26, slot := 2, constantValue := 0 }, { name := "REPL", type := .char, accessFlags := 26, slot := 3, constantValue := 0 }, { name := "CASE_INSENSITIVE_ORDER", type := (.object "java/util/Comparator"), accessFlags := 25, slot := 4, constantValue := 0 }, { name := "LATIN1", type := .byte, accessFlags := 24, slot := 5, constantValue := 0 }, { name := "UTF16", type := .byte, accessFlags := 24, slot := 6, constantValue := 0 }]
  methods := #[k7m0, k7m1, k7m2, k7m3, k7m4, k7m5, k7m6, k7m7, k7m8, k7m9, k7m10, k7m11, k7m12, k7m13]
  instanceTypes := #[(.array .byte), .byte, .int, .boolean]
  staticTypes := #[.long, .boolean, (.array (.object "java/io/ObjectStreamField")), .char, (.object "java/util/Comparator"), .byte, .byte]
  resolved := Array.replicate 1451 none
  statics := some 0 }

def pool8 : Array CpInfo := pool [(1, .class_ 2), (0, u "java/lang/String"), (1, .class_ 6), (1, u "java/lang/Object"), (0, u "<init>"), (0, u "()V"), (0, .methodref 1 10), (0, .nameAndType 11 12), (0, u "checkIndex"), (0, u "(II)V"), (1, .class_ 16), (1, u "java/lang/StringLatin1"), (36, u "([BI)C"), (36, u "canEncode"), (14, u "(C)Z"), (15, u "$assertionsDisabled"), (0, u "Z"), (98, .class_ 223), (1, u "java/lang/StringLatin1$LinesSpliterator"), (28, u "charAt"), (28, u "equals"), (0, u "([B[B)Z"), (97, u "toBytes"), (1, u "(C)[B"), (7, .class_ 391), (0, u "java/lang/StringLatin1$CharsSpliterator")] 3

def k8m0 : Method := { name := "<init>", desc := "()V", sig := { parameters := [], returnType := none }, accessFlags := 0, code := none }
def k8c1 : Code := { maxStack := 2, maxLocals := 2, code := jdk_43_method_2_code, exceptionTable := #[], attributes := #[] }
def k8m1 : Method := { name := "charAt", desc := "([BI)C", sig := { parameters := [(.array .byte), .int], returnType := some .char }, accessFlags := 9, code := some k8c1 }
def k8c2 : Code := { maxStack := 2, maxLocals := 1, code := jdk_43_method_3_code, exceptionTable := #[], attributes := #[] }
def k8m2 : Method := { name := "canEncode", desc := "(C)Z", sig := { parameters := [.char], returnType := some .boolean }, accessFlags := 9, code := some k8c2 }
def k8c3 : Code := { maxStack := 3, maxLocals := 3, code := jdk_43_method_13_code, exceptionTable := #[], attributes := #[] }
def k8m3 : Method := { name := "equals", desc := "([B[B)Z", sig := { parameters := [(.array .byte), (.array .byte)], returnType := some .boolean }, accessFlags := 9, code := some k8c3 }
def k8c4 : Code := { maxStack := 4, maxLocals := 1, code := jdk_43_method_46_code, exceptionTable := #[], attributes := #[] }
def k8m4 : Method := { name := "toBytes", desc := "(C)[B", sig := { parameters := [.char], returnType := some (.array .byte) }, accessFlags := 9, code := some k8c4 }
/-- java/lang/StringLatin1 -/
def k8 : Class := { plain "java/lang/StringLatin1" (some 0) with
  accessFlags := 48
  interfaces := #[]
  cf := some (fileOf pool8 14 #[.nestMembers #[390, 221]] #[{ accessFlags := 0, nameIndex := 7, descriptorIndex := 8, attributes := #[] }, { accessFlags := 9, nameIndex := 252, descriptorIndex := 53, attributes := #[] }, { accessFlags := 9, nameIndex := 90, descriptorIndex := 105, attributes := #[] }, { accessFlags := 9, nameIndex := 281, descriptorIndex := 282, attributes := #[] }, { accessFlags := 9, nameIndex := 380, descriptorIndex := 382, attributes := #[] }] 48 4 #[] #[{ accessFlags := 4120, nameIndex := 121, descriptorIndex := 122, attributes := #[] }])
  fields := #[{ name := "$assertionsDisabled", type := .boolean, accessFlags := 4120, slot := 0, constantValue := 0 }]
  methods := #[k8m0, k8m1, k8m2, k8m3, k8m4]
  instanceTypes := #[]
  staticTypes := #[.boolean]
  resolved := Array.replicate 395 none
  statics := none }

def pool9 : Array CpInfo := pool [(6, .class_ 8), (1, u "java/lang/Object"), (0, u "<init>"), (0, u "()V"), (1, .class_ 14), (1, u "java/lang/StringUTF16"), (31, u "$assertionsDisabled"), (0, u "Z"), (13, u "HI_BYTE_SHIFT"), (0, u "I"), (2, u "LO_BYTE_SHIFT"), (49, .methodref 12 116), (0, .nameAndType 117 118), (0, u "compress"), (0, u "([CI[BII)I"), (3, u "([CII)[B"), (138, u "coderFromArrayLen"), (0, u "([BI)B"), (106, .class_ 371), (1, u "java/lang/StringUTF16$LinesSpliterator"), (58, u "MAX_LENGTH"), (196, .class_ 628), (0, u "java/lang/StringUTF16$CodePointsSpliterator"), (0, .class_ 630), (0, u "java/lang/StringUTF16$CharsSpliterator")] 4

def k9m0 : Method := { name := "<init>", desc := "()V", sig := { parameters := [], returnType := none }, accessFlags := 0, code := none }
def k9c1 : Code := { maxStack := 2, maxLocals := 2, code := jdk_52_method_15_code, exceptionTable := #[], attributes := #[] }
def k9m1 : Method := { name := "coderFromArrayLen", desc := "([BI)B", sig := { parameters := [(.array .byte), .int], returnType := some .byte }, accessFlags := 8, code := some k9c1 }
def k9c2 : Code := { maxStack := 5, maxLocals := 6, code := jdk_52_method_16_code, exceptionTable := #[], attributes := #[] }
def k9m2 : Method := { name := "compress", desc := "([CII)[B", sig := { parameters := [(.array .char), .int, .int], returnType := some (.array .byte) }, accessFlags := 9, code := some k9c2 }
def k9c3 : Code := { maxStack := 3, maxLocals := 7, code := jdk_52_method_21_code, exceptionTable := #[], attributes := #[] }
def k9m3 : Method := { name := "compress", desc := "([CI[BII)I", sig := { parameters := [(.array .char), .int, (.array .byte), .int, .int], returnType := some .int }, accessFlags := 9, code := some k9c3 }
/-- java/lang/StringUTF16 -/
def k9 : Class := { plain "java/lang/StringUTF16" (some 0) with
  accessFlags := 48
  interfaces := #[]
  cf := some (fileOf pool9 12 #[.nestMembers #[627, 629, 369]] #[{ accessFlags := 0, nameIndex := 9, descriptorIndex := 10, attributes := #[] }, { accessFlags := 8, nameIndex := 261, descriptorIndex := 262, attributes := #[] }, { accessFlags := 9, nameIndex := 117, descriptorIndex := 122, attributes := #[] }, { accessFlags := 9, nameIndex := 117, descriptorIndex := 118, attributes := #[] }] 48 6 #[] #[{ accessFlags := 26, nameIndex := 61, descriptorIndex := 62, attributes := #[] }, { accessFlags := 26, nameIndex := 65, descriptorIndex := 62, attributes := #[] }, { accessFlags := 24, nameIndex := 430, descriptorIndex := 62, attributes := #[] }, { accessFlags := 4120, nameIndex := 46, descriptorIndex := 47, attributes := #[] }])
  fields := #[{ name := "HI_BYTE_SHIFT", type := .int, accessFlags := 26, slot := 0, constantValue := 0 }, { name := "LO_BYTE_SHIFT", type := .int, accessFlags := 26, slot := 1, constantValue := 0 }, { name := "MAX_LENGTH", type := .int, accessFlags := 24, slot := 2, constantValue := 0 }, { name := "$assertionsDisabled", type := .boolean, accessFlags := 4120, slot := 3, constantValue := 0 }]
  methods := #[k9m0, k9m1, k9m2, k9m3]
  instanceTypes := #[]
  staticTypes := #[.int, .int, .int, .boolean]
  resolved := Array.replicate 635 none
  statics := none }

def pool10 : Array CpInfo := pool [(1, .class_ 2), (0, u "com/example/vipool/vipool/http/HttpHead"), (0, .class_ 4), (0, u "java/lang/Integer"), (0, .methodref 6 7), (0, .class_ 8), (0, .nameAndType 9 10), (0, u "java/lang/Object"), (0, u "<init>"), (0, u "()V"), (0, .fieldref 1 12), (0, .nameAndType 13 14), (0, u "raw"), (0, u "[B"), (0, .fieldref 1 16), (0, .nameAndType 17 18), (0, u "spans"), (0, u "[I"), (5, u "()I"), (0, .methodref 26 27), (0, .class_ 28), (0, .nameAndType 29 30), (0, u "java/lang/Math"), (0, u "max"), (0, u "(II)I"), (17, u "(I)I"), (13, u "(Ljava/lang/String;)V"), (13, u "minorVersion"), (7, u "method"), (1, .fieldref 1 87), (0, .nameAndType 84 88), (0, u "Ljava/lang/String;"), (0, .fieldref 1 90), (0, .nameAndType 91 92), (0, u "status"), (0, u "I"), (5, u "fields"), (15, .fieldref 1 115), (0, .nameAndType 116 92), (0, u "used"), (0, .fieldref 1 118), (0, .nameAndType 98 92), (2, u "pathStart"), (2, u "pathEnd"), (0, .methodref 1 126), (0, .nameAndType 127 128), (0, u "text"), (0, u "(II)Ljava/lang/String;"), (2, u "queryStart"), (0, .fieldref 1 133), (0, .nameAndType 134 92), (0, u "secondEnd"), (16, .methodref 1 152), (0, .nameAndType 153 154), (0, u "named"), (0, u "(ILjava/lang/String;)Z"), (18, u "memberStart"), (2, u "memberEnd"), (7, .class_ 186), (1, u "java/lang/String"), (4, u "add"), (4, .methodref 1 197), (0, .nameAndType 198 199), (0, u "equalsInAnyCase"), (0, u "(IILjava/lang/String;)Z"), (9, u "(Ljava/lang/String;)Ljava/lang/String;"), (9, .methodref 1 220), (0, .nameAndType 221 62), (0, u "put"), (0, .methodref 1 223), (0, .nameAndType 224 225), (0, u "span"), (0, u "(IIII)V"), (2, .methodref 1 229), (0, .nameAndType 230 231), (0, u "room"), (0, u "(I)V"), (6, .fieldref 1 239), (0, .nameAndType 240 92), (0, u "secondStart"), (0, .fieldref 1 242), (0, .nameAndType 243 244), (0, u "request"), (0, u "Z"), (0, .fieldref 1 246), (0, .nameAndType 247 92), (0, u "firstEnd"), (13, .methodref 3 262), (0, .nameAndType 263 48), (0, u "highestOneBit"), (4, u "METHODS"), (0, u "Ljava/util/List;"), (2, u "size"), (3, .methodref 184 277), (0, .nameAndType 278 24), (0, u "length"), (0, .methodref 184 280), (0, .nameAndType 281 282), (0, u "charAt"), (0, u "(I)C"), (42, .class_ 327), (1, u "java/util/Arrays"), (0, u "copyOf"), (3, u "walkField"), (2, u "walkAt"), (3, .methodref 1 340), (0, .nameAndType 341 342), (0, u "sameInAnyCase"), (0, u "(II)Z"), (4, .fieldref 348 349), (0, .class_ 350), (0, .nameAndType 351 352), (0, u "java/nio/charset/StandardCharsets"), (0, u "ISO_8859_1"), (0, u "Ljava/nio/charset/Charset;"), (0, .methodref 184 354), (0, .nameAndType 9 355), (0, u "([BIILjava/nio/charset/Charset;)V"), (0, .methodref 1 357), (0, .nameAndType 358 30), (0, u "grownRoom"), (0, .methodref 325 360), (0, .nameAndType 328 361), (0, u "([BI)[B"), (4, u "TOKEN"), (0, u "[Z"), (23, u "CONTENT_LENGTH"), (3, u "TRANSFER_ENCODING"), (2, u "CONNECTION"), (0, u "HOST"), (0, u "KEPT_BYTES"), (3, u "SPAN"), (1, u "REMOVED"), (1, u "NO_QUERY"), (0, u "VERSION_BYTES"), (1, u "MOST_DIGITS"), (1, u "FIRST_BYTES"), (1, u "FIRST_FIELDS"), (0, u "KEPT_FIELDS"), (8, u "clear"), (0, u "()Z"), (6, u "value"), (11, u "(Ljava/lang/String;Ljava/lang/String;)V")] 28

def k10c0 : Code := { maxStack := 2, maxLocals := 1, code := prog_7_method_1_code, exceptionTable := #[], attributes := #[] }
def k10m0 : Method := { name := "<init>", desc := "()V", sig := { parameters := [], returnType := none }, accessFlags := 1, code := some k10c0 }
def k10c1 : Code := { maxStack := 2, maxLocals := 1, code := prog_7_method_6_code, exceptionTable := #[], attributes := #[] }
def k10m1 : Method := { name := "clear", desc := "()Z", sig := { parameters := [], returnType := some .boolean }, accessFlags := 1, code := some k10c1 }
def k10c2 : Code := { maxStack := 5, maxLocals := 3, code := prog_7_method_16_code, exceptionTable := #[], attributes := #[] }
def k10m2 : Method := { name := "value", desc := "(Ljava/lang/String;)Ljava/lang/String;", sig := { parameters := [(.object "java/lang/String")], returnType := some (.object "java/lang/String") }, accessFlags := 1, code := some k10c2 }
def k10c3 : Code := { maxStack := 5, maxLocals := 5, code := prog_7_method_24_code, exceptionTable := #[], attributes := #[] }
def k10m3 : Method := { name := "add", desc := "(Ljava/lang/String;Ljava/lang/String;)V", sig := { parameters := [(.object "java/lang/String"), (.object "java/lang/String")], returnType := none }, accessFlags := 1, code := some k10c3 }
def k10c4 : Code := { maxStack := 5, maxLocals := 4, code := prog_7_method_26_code, exceptionTable := #[], attributes := #[] }
def k10m4 : Method := { name := "size", desc := "()I", sig := { parameters := [], returnType := some .int }, accessFlags := 1, code := some k10c4 }
def k10c5 : Code := { maxStack := 3, maxLocals := 2, code := prog_7_method_28_code, exceptionTable := #[], attributes := #[] }
def k10m5 : Method := { name := "grownRoom", desc := "(II)I", sig := { parameters := [.int, .int], returnType := some .int }, accessFlags := 9, code := some k10c5 }
def k10c6 : Code := { maxStack := 4, maxLocals := 6, code := prog_7_method_35_code, exceptionTable := #[], attributes := #[] }
def k10m6 : Method := { name := "span", desc := "(IIII)V", sig := { parameters := [.int, .int, .int, .int], returnType := none }, accessFlags := 2, code := some k10c6 }
def k10c7 : Code := { maxStack := 5, maxLocals := 4, code := prog_7_method_42_code, exceptionTable := #[], attributes := #[] }
def k10m7 : Method := { name := "named", desc := "(ILjava/lang/String;)Z", sig := { parameters := [.int, (.object "java/lang/String")], returnType := some .boolean }, accessFlags := 2, code := some k10c7 }
def k10c8 : Code := { maxStack := 3, maxLocals := 5, code := prog_7_method_43_code, exceptionTable := #[], attributes := #[] }
def k10m8 : Method := { name := "equalsInAnyCase", desc := "(IILjava/lang/String;)Z", sig := { parameters := [.int, .int, (.object "java/lang/String")], returnType := some .boolean }, accessFlags := 2, code := some k10c8 }
def k10c9 : Code := { maxStack := 3, maxLocals := 3, code := prog_7_method_44_code, exceptionTable := #[], attributes := #[] }
def k10m9 : Method := { name := "sameInAnyCase", desc := "(II)Z", sig := { parameters := [.int, .int], returnType := some .boolean }, accessFlags := 10, code := some k10c9 }
def k10c10 : Code := { maxStack := 6, maxLocals := 3, code := prog_7_method_46_code, exceptionTable := #[], attributes := #[] }
def k10m10 : Method := { name := "text", desc := "(II)Ljava/lang/String;", sig := { parameters := [.int, .int], returnType := some (.object "java/lang/String") }, accessFlags := 2, code := some k10c10 }
def k10c11 : Code := { maxStack := 5, maxLocals := 2, code := prog_7_method_47_code, exceptionTable := #[], attributes := #[] }
def k10m11 : Method := { name := "room", desc := "(I)V", sig := { parameters := [.int], returnType := none }, accessFlags := 2, code := some k10c11 }
def k10c12 : Code := { maxStack := 4, maxLocals := 4, code := prog_7_method_48_code, exceptionTable := #[], attributes := #[] }
def k10m12 : Method := { name := "put", desc := "(Ljava/lang/String;)V", sig := { parameters := [(.object "java/lang/String")], returnType := none }, accessFlags := 2, code := some k10c12 }
/-- com/example/vipool/vipool/http/HttpHead -/
def k10 : Class := { plain "com/example/vipool/vipool/http/HttpHead" (some 0) with
  accessFlags := 33
  interfaces := #[]
  cf := some (fileOf pool10 1 #[] #[{ accessFlags := 1, nameIndex := 9, descriptorIndex := 10, attributes := #[] }, { accessFlags := 1, nameIndex := 425, descriptorIndex := 426, attributes := #[] }, { accessFlags := 1, nameIndex := 433, descriptorIndex := 209, attributes := #[] }, { accessFlags := 1, nameIndex := 191, descriptorIndex := 445, attributes := #[] }, { accessFlags := 1, nameIndex := 272, descriptorIndex := 24, attributes := #[] }, { accessFlags := 9, nameIndex := 358, descriptorIndex := 30, attributes := #[] }, { accessFlags := 2, nameIndex := 224, descriptorIndex := 225, attributes := #[] }, { accessFlags := 2, nameIndex := 153, descriptorIndex := 154, attributes := #[] }, { accessFlags := 2, nameIndex := 198, descriptorIndex := 199, attributes := #[] }, { accessFlags := 10, nameIndex := 341, descriptorIndex := 342, attributes := #[] }, { accessFlags := 2, nameIndex := 127, descriptorIndex := 128, attributes := #[] }, { accessFlags := 2, nameIndex := 230, descriptorIndex := 231, attributes := #[] }, { accessFlags := 2, nameIndex := 221, descriptorIndex := 62, attributes := #[] }] 33 6 #[] #[{ accessFlags := 25, nameIndex := 391, descriptorIndex := 88, attributes := #[] }, { accessFlags := 25, nameIndex := 395, descriptorIndex := 88, attributes := #[] }, { accessFlags := 25, nameIndex := 398, descriptorIndex := 88, attributes := #[] }, { accessFlags := 25, nameIndex := 399, descriptorIndex := 88, attributes := #[] }, { accessFlags := 25, nameIndex := 400, descriptorIndex := 92, attributes := #[] }, { accessFlags := 26, nameIndex := 268, descriptorIndex := 269, attributes := #[] }, { accessFlags := 26, nameIndex := 366, descriptorIndex := 367, attributes := #[] }, { accessFlags := 26, nameIndex := 404, descriptorIndex := 92, attributes := #[] }, { accessFlags := 26, nameIndex := 406, descriptorIndex := 92, attributes := #[] }, { accessFlags := 26, nameIndex := 408, descriptorIndex := 92, attributes := #[] }, { accessFlags := 26, nameIndex := 409, descriptorIndex := 92, attributes := #[] }, { accessFlags := 26, nameIndex := 411, descriptorIndex := 92, attributes := #[] }, { accessFlags := 26, nameIndex := 413, descriptorIndex := 92, attributes := #[] }, { accessFlags := 26, nameIndex := 415, descriptorIndex := 92, attributes := #[] }, { accessFlags := 26, nameIndex := 416, descriptorIndex := 92, attributes := #[] }, { accessFlags := 2, nameIndex := 243, descriptorIndex := 244, attributes := #[] }, { accessFlags := 2, nameIndex := 13, descriptorIndex := 14, attributes := #[] }, { accessFlags := 2, nameIndex := 116, descriptorIndex := 92, attributes := #[] }, { accessFlags := 2, nameIndex := 247, descriptorIndex := 92, attributes := #[] }, { accessFlags := 2, nameIndex := 240, descriptorIndex := 92, attributes := #[] }, { accessFlags := 2, nameIndex := 134, descriptorIndex := 92, attributes := #[] }, { accessFlags := 2, nameIndex := 121, descriptorIndex := 92, attributes := #[] }, { accessFlags := 2, nameIndex := 124, descriptorIndex := 92, attributes := #[] }, { accessFlags := 2, nameIndex := 131, descriptorIndex := 92, attributes := #[] }, { accessFlags := 2, nameIndex := 84, descriptorIndex := 88, attributes := #[] }, { accessFlags := 2, nameIndex := 91, descriptorIndex := 92, attributes := #[] }, { accessFlags := 2, nameIndex := 76, descriptorIndex := 92, attributes := #[] }, { accessFlags := 2, nameIndex := 17, descriptorIndex := 18, attributes := #[] }, { accessFlags := 2, nameIndex := 98, descriptorIndex := 92, attributes := #[] }, { accessFlags := 2, nameIndex := 332, descriptorIndex := 92, attributes := #[] }, { accessFlags := 2, nameIndex := 335, descriptorIndex := 92, attributes := #[] }, { accessFlags := 2, nameIndex := 173, descriptorIndex := 92, attributes := #[] }, { accessFlags := 2, nameIndex := 176, descriptorIndex := 92, attributes := #[] }])
  fields := #[{ name := "CONTENT_LENGTH", type := (.object "java/lang/String"), accessFlags := 25, slot := 0, constantValue := 0 }, { name := "TRANSFER_ENCODING", type := (.object "java/lang/String"), accessFlags := 25, slot := 1, constantValue := 0 }, { name := "CONNECTION", type := (.object "java/lang/String"), accessFlags := 25, slot := 2, constantValue := 0 }, { name := "HOST", type := (.object "java/lang/String"), accessFlags := 25, slot := 3, constantValue := 0 }, { name := "KEPT_BYTES", type := .int, accessFlags := 25, slot := 4, constantValue := 0 }, { name := "METHODS", type := (.object "java/util/List"), accessFlags := 26, slot := 5, constantValue := 0 }, { name := "TOKEN", type := (.array .boolean), accessFlags := 26, slot := 6, constantValue := 0 }, { name := "SPAN", type := .int, accessFlags := 26, slot := 7, constantValue := 0 }, { name := "REMOVED", type := .int, accessFlags := 26, slot := 8, constantValue := 0 }, { name := "NO_QUERY", type := .int, accessFlags := 26, slot := 9, constantValue := 0 }, { name := "VERSION_BYTES", type := .int, accessFlags := 26, slot := 10, constantValue := 0 }, { name := "MOST_DIGITS", type := .int, accessFlags := 26, slot := 11, constantValue := 0 }, { name := "FIRST_BYTES", type := .int, accessFlags := 26, slot := 12, constantValue := 0 }, { name := "FIRST_FIELDS", type := .int, accessFlags := 26, slot := 13, constantValue := 0 }, { name := "KEPT_FIELDS", type := .int, accessFlags := 26, slot := 14, constantValue := 0 }, { name := "request", type := .boolean, accessFlags := 2, slot := 0, constantValue := 0 }, { name := "raw", type := (.array .byte), accessFlags := 2, slot := 1, constantValue := 0 }, { name := "used", type := .int, accessFlags := 2, slot := 2, constantValue := 0 }, { name := "firstEnd", type := .int, accessFlags := 2, slot := 3, constantValue := 0 }, { name := "secondStart", type := .int, accessFlags := 2, slot := 4, constantValue := 0 }, { name := "secondEnd", type := .int, accessFlags := 2, slot := 5, constantValue := 0 }, { name := "pathStart", type := .int, accessFlags := 2, slot := 6, constantValue := 0 }, { name := "pathEnd", type := .int, accessFlags := 2, slot := 7, constantValue := 0 }, { name := "queryStart", type := .int, accessFlags := 2, slot := 8, constantValue := 0 }, { name := "method", type := (.object "java/lang/String"), accessFlags := 2, slot := 9, constantValue := 0 }, { name := "status", type := .int, accessFlags := 2, slot := 10, constantValue := 0 }, { name := "minorVersion", type := .int, accessFlags := 2, slot := 11, constantValue := 0 }, { name := "spans", type := (.array .int), accessFlags := 2, slot := 12, constantValue := 0 }, { name := "fields", type := .int, accessFlags := 2, slot := 13, constantValue := 0 }, { name := "walkField", type := .int, accessFlags := 2, slot := 14, constantValue := 0 }, { name := "walkAt", type := .int, accessFlags := 2, slot := 15, constantValue := 0 }, { name := "memberStart", type := .int, accessFlags := 2, slot := 16, constantValue := 0 }, { name := "memberEnd", type := .int, accessFlags := 2, slot := 17, constantValue := 0 }]
  methods := #[k10m0, k10m1, k10m2, k10m3, k10m4, k10m5, k10m6, k10m7, k10m8, k10m9, k10m10, k10m11, k10m12]
  instanceTypes := #[.boolean, (.array .byte), .int, .int, .int, .int, .int, .int, .int, (.object "java/lang/String"), .int, .int, (.array .int), .int, .int, .int, .int, .int]
  staticTypes := #[(.object "java/lang/String"), (.object "java/lang/String"), (.object "java/lang/String"), (.object "java/lang/String"), .int, (.object "java/util/List"), (.array .boolean), .int, .int, .int, .int, .int, .int, .int, .int]
  resolved := Array.replicate 474 none
  statics := none }

def pool11 : Array CpInfo := pool [(2, .class_ 4), (1, u "java/lang/Object"), (0, u "<init>"), (0, u "()V"), (17, .class_ 26), (1, u "jdk/internal/util/Preconditions"), (6, u "checkIndex"), (15, u "checkFromIndexSize"), (5, .class_ 56), (0, u "jdk/internal/util/Preconditions$4"), (57, .class_ 115), (0, u "jdk/internal/util/Preconditions$1"), (7, u "SIOOBE_FORMATTER"), (0, u "Ljava/util/function/BiFunction;"), (0, .class_ 126), (0, u "jdk/internal/util/Preconditions$2"), (3, u "AIOOBE_FORMATTER"), (0, .class_ 132), (0, u "jdk/internal/util/Preconditions$3"), (3, u "IOOBE_FORMATTER"), (41, u "(IILjava/util/function/BiFunction;)I"), (4, u "(IIILjava/util/function/BiFunction;)I")] 10

def k11m0 : Method := { name := "<init>", desc := "()V", sig := { parameters := [], returnType := none }, accessFlags := 1, code := none }
def k11c1 : Code := { maxStack := 3, maxLocals := 3, code := jdk_41_method_11_code, exceptionTable := #[], attributes := #[] }
def k11m1 : Method := { name := "checkIndex", desc := "(IILjava/util/function/BiFunction;)I", sig := { parameters := [.int, .int, (.object "java/util/function/BiFunction")], returnType := some .int }, accessFlags := 9, code := some k11c1 }
def k11c2 : Code := { maxStack := 4, maxLocals := 4, code := jdk_41_method_13_code, exceptionTable := #[], attributes := #[] }
def k11m2 : Method := { name := "checkFromIndexSize", desc := "(IIILjava/util/function/BiFunction;)I", sig := { parameters := [.int, .int, .int, (.object "java/util/function/BiFunction")], returnType := some .int }, accessFlags := 9, code := some k11c2 }
/-- jdk/internal/util/Preconditions -/
def k11 : Class := { plain "jdk/internal/util/Preconditions" (some 0) with
  accessFlags := 33
  interfaces := #[]
  cf := some (fileOf pool11 24 #[.nestMembers #[55, 131, 125, 114]] #[{ accessFlags := 1, nameIndex := 5, descriptorIndex := 6, attributes := #[] }, { accessFlags := 9, nameIndex := 33, descriptorIndex := 178, attributes := #[] }, { accessFlags := 9, nameIndex := 49, descriptorIndex := 183, attributes := #[] }] 33 2 #[] #[{ accessFlags := 25, nameIndex := 123, descriptorIndex := 124, attributes := #[] }, { accessFlags := 25, nameIndex := 130, descriptorIndex := 124, attributes := #[] }, { accessFlags := 25, nameIndex := 136, descriptorIndex := 124, attributes := #[] }])
  fields := #[{ name := "SIOOBE_FORMATTER", type := (.object "java/util/function/BiFunction"), accessFlags := 25, slot := 0, constantValue := 0 }, { name := "AIOOBE_FORMATTER", type := (.object "java/util/function/BiFunction"), accessFlags := 25, slot := 1, constantValue := 0 }, { name := "IOOBE_FORMATTER", type := (.object "java/util/function/BiFunction"), accessFlags := 25, slot := 2, constantValue := 0 }]
  methods := #[k11m0, k11m1, k11m2]
  instanceTypes := #[]
  staticTypes := #[(.object "java/util/function/BiFunction"), (.object "java/util/function/BiFunction"), (.object "java/util/function/BiFunction")]
  resolved := Array.replicate 194 none
  statics := some 1 }

def pool12 : Array CpInfo := pool [(2, .class_ 4), (1, u "java/lang/Object"), (0, u "<init>"), (0, u "()V"), (14, .class_ 23), (1, u "java/nio/charset/StandardCharsets"), (0, u "US_ASCII"), (0, u "Ljava/nio/charset/Charset;"), (7, u "ISO_8859_1"), (7, u "UTF_8"), (5, u "UTF_16BE"), (5, u "UTF_16LE"), (5, u "UTF_16")] 8

def k12m0 : Method := { name := "<init>", desc := "()V", sig := { parameters := [], returnType := none }, accessFlags := 2, code := none }
/-- java/nio/charset/StandardCharsets -/
def k12 : Class := { plain "java/nio/charset/StandardCharsets" (some 0) with
  accessFlags := 49
  interfaces := #[]
  cf := some (fileOf pool12 21 #[] #[{ accessFlags := 2, nameIndex := 5, descriptorIndex := 6, attributes := #[] }] 49 2 #[] #[{ accessFlags := 25, nameIndex := 24, descriptorIndex := 25, attributes := #[] }, { accessFlags := 25, nameIndex := 33, descriptorIndex := 25, attributes := #[] }, { accessFlags := 25, nameIndex := 41, descriptorIndex := 25, attributes := #[] }, { accessFlags := 25, nameIndex := 47, descriptorIndex := 25, attributes := #[] }, { accessFlags := 25, nameIndex := 53, descriptorIndex := 25, attributes := #[] }, { accessFlags := 25, nameIndex := 59, descriptorIndex := 25, attributes := #[] }])
  fields := #[{ name := "US_ASCII", type := (.object "java/nio/charset/Charset"), accessFlags := 25, slot := 0, constantValue := 0 }, { name := "ISO_8859_1", type := (.object "java/nio/charset/Charset"), accessFlags := 25, slot := 1, constantValue := 0 }, { name := "UTF_8", type := (.object "java/nio/charset/Charset"), accessFlags := 25, slot := 2, constantValue := 0 }, { name := "UTF_16BE", type := (.object "java/nio/charset/Charset"), accessFlags := 25, slot := 3, constantValue := 0 }, { name := "UTF_16LE", type := (.object "java/nio/charset/Charset"), accessFlags := 25, slot := 4, constantValue := 0 }, { name := "UTF_16", type := (.object "java/nio/charset/Charset"), accessFlags := 25, slot := 5, constantValue := 0 }]
  methods := #[k12m0]
  instanceTypes := #[]
  staticTypes := #[(.object "java/nio/charset/Charset"), (.object "java/nio/charset/Charset"), (.object "java/nio/charset/Charset"), (.object "java/nio/charset/Charset"), (.object "java/nio/charset/Charset"), (.object "java/nio/charset/Charset")]
  resolved := Array.replicate 68 none
  statics := some 2 }

def pool13 : Array CpInfo := pool [(2, .class_ 4), (1, u "java/lang/Object"), (0, u "<init>"), (0, u "()V"), (35, .class_ 44), (1, u "java/util/Objects"), (0, u "requireNonNull"), (0, u "(Ljava/lang/Object;)Ljava/lang/Object;")] 137

def k13m0 : Method := { name := "<init>", desc := "()V", sig := { parameters := [], returnType := none }, accessFlags := 2, code := none }
def k13c1 : Code := { maxStack := 2, maxLocals := 1, code := jdk_31_method_10_code, exceptionTable := #[], attributes := #[] }
def k13m1 : Method := { name := "requireNonNull", desc := "(Ljava/lang/Object;)Ljava/lang/Object;", sig := { parameters := [(.object "java/lang/Object")], returnType := some (.object "java/lang/Object") }, accessFlags := 9, code := some k13c1 }
/-- java/util/Objects -/
def k13 : Class := { plain "java/util/Objects" (some 0) with
  accessFlags := 49
  interfaces := #[]
  cf := some (fileOf pool13 42 #[] #[{ accessFlags := 2, nameIndex := 5, descriptorIndex := 6, attributes := #[] }, { accessFlags := 9, nameIndex := 45, descriptorIndex := 46, attributes := #[] }] 49 2 #[] #[])
  fields := #[]
  methods := #[k13m0, k13m1]
  instanceTypes := #[]
  staticTypes := #[]
  resolved := Array.replicate 184 none
  statics := none }

def pool14 : Array CpInfo := pool [(18, .class_ 20), (1, u "java/nio/charset/Charset"), (0, u "cache1"), (0, u "[Ljava/lang/Object;"), (2, u "cache2"), (0, .class_ 27), (0, u "java/lang/Object"), (0, .class_ 29), (0, u "java/nio/charset/Charset$1"), (4, .class_ 36), (1, u "java/nio/charset/Charset$ThreadTrackHolder"), (21, .class_ 59), (0, u "java/nio/charset/Charset$2"), (11, .class_ 73), (1, u "java/nio/charset/Charset$ExtendedProviderHolder"), (22, u "standardProvider"), (0, u "Ljava/nio/charset/spi/CharsetProvider;"), (29, u "name"), (7, .class_ 136), (0, u "java/nio/charset/Charset$3"), (5, u "defaultCharset"), (0, u "Ljava/nio/charset/Charset;"), (14, u "zeroAliases"), (0, u "[Ljava/lang/String;"), (29, u "Ljava/lang/String;"), (2, u "aliases"), (2, u "aliasSet"), (0, u "Ljava/util/Set;"), (82, .class_ 280), (0, u "java/lang/Comparable"), (84, .class_ 366), (0, u "java/nio/charset/Charset$ExtendedProviderHolder$1")] 3

/-- java/nio/charset/Charset -/
def k14 : Class := { plain "java/nio/charset/Charset" (some 0) with
  accessFlags := 1057
  interfaces := #[3]
  cf := some (fileOf pool14 18 #[.nestMembers #[71, 365, 34, 135, 58, 28]] #[] 1057 26 #[279] #[{ accessFlags := 26, nameIndex := 96, descriptorIndex := 97, attributes := #[] }, { accessFlags := 26, nameIndex := 158, descriptorIndex := 159, attributes := #[] }, { accessFlags := 74, nameIndex := 21, descriptorIndex := 22, attributes := #[] }, { accessFlags := 74, nameIndex := 25, descriptorIndex := 22, attributes := #[] }, { accessFlags := 10, nameIndex := 142, descriptorIndex := 143, attributes := #[] }, { accessFlags := 18, nameIndex := 127, descriptorIndex := 189, attributes := #[] }, { accessFlags := 18, nameIndex := 192, descriptorIndex := 159, attributes := #[] }, { accessFlags := 2, nameIndex := 195, descriptorIndex := 196, attributes := #[] }])
  fields := #[{ name := "standardProvider", type := (.object "java/nio/charset/spi/CharsetProvider"), accessFlags := 26, slot := 0, constantValue := 0 }, { name := "zeroAliases", type := (.array (.object "java/lang/String")), accessFlags := 26, slot := 1, constantValue := 0 }, { name := "cache1", type := (.array (.object "java/lang/Object")), accessFlags := 74, slot := 2, constantValue := 0 }, { name := "cache2", type := (.array (.object "java/lang/Object")), accessFlags := 74, slot := 3, constantValue := 0 }, { name := "defaultCharset", type := (.object "java/nio/charset/Charset"), accessFlags := 10, slot := 4, constantValue := 0 }, { name := "name", type := (.object "java/lang/String"), accessFlags := 18, slot := 0, constantValue := 0 }, { name := "aliases", type := (.array (.object "java/lang/String")), accessFlags := 18, slot := 1, constantValue := 0 }, { name := "aliasSet", type := (.object "java/util/Set"), accessFlags := 2, slot := 2, constantValue := 0 }]
  methods := #[]
  instanceTypes := #[(.object "java/lang/String"), (.array (.object "java/lang/String")), (.object "java/util/Set")]
  staticTypes := #[(.object "java/nio/charset/spi/CharsetProvider"), (.array (.object "java/lang/String")), (.array (.object "java/lang/Object")), (.array (.object "java/lang/Object")), (.object "java/nio/charset/Charset")]
  resolved := Array.replicate 370 none
  statics := none }

def pool15 : Array CpInfo := pool [(1, .class_ 2), (0, u "sun/nio/cs/HistoricallyNamedCharset"), (0, .class_ 4), (0, u "java/lang/Object")] 4

/-- sun/nio/cs/HistoricallyNamedCharset -/
def k15 : Class := { plain "sun/nio/cs/HistoricallyNamedCharset" (some 0) with
  accessFlags := 1537
  interfaces := #[]
  cf := some (fileOf pool15 1 #[] #[] 1537 3 #[] #[])
  fields := #[]
  methods := #[]
  instanceTypes := #[]
  staticTypes := #[]
  resolved := Array.replicate 9 none
  statics := none }

def pool16 : Array CpInfo := pool [(10, .class_ 12), (1, u "java/nio/charset/Charset"), (0, u "<init>"), (5, .class_ 20), (0, u "sun/nio/cs/ISO_8859_1"), (0, .class_ 22), (0, u "sun/nio/cs/ISO_8859_1$Decoder"), (3, .class_ 27), (0, u "sun/nio/cs/ISO_8859_1$Encoder"), (3, u "()V"), (2, u "INSTANCE"), (0, u "Lsun/nio/cs/ISO_8859_1;"), (0, .class_ 37), (0, u "sun/nio/cs/HistoricallyNamedCharset")] 22

def k16m0 : Method := { name := "<init>", desc := "()V", sig := { parameters := [], returnType := none }, accessFlags := 1, code := none }
/-- sun/nio/cs/ISO_8859_1 -/
def k16 : Class := { plain "sun/nio/cs/ISO_8859_1" (some 14) with
  accessFlags := 33
  interfaces := #[15]
  cf := some (fileOf pool16 19 #[.nestMembers #[26, 21]] #[{ accessFlags := 1, nameIndex := 13, descriptorIndex := 31, attributes := #[] }] 33 10 #[36] #[{ accessFlags := 25, nameIndex := 34, descriptorIndex := 35, attributes := #[] }])
  fields := #[{ name := "INSTANCE", type := (.object "sun/nio/cs/ISO_8859_1"), accessFlags := 25, slot := 0, constantValue := 0 }]
  methods := #[k16m0]
  instanceTypes := #[(.object "java/lang/String"), (.array (.object "java/lang/String")), (.object "java/util/Set")]
  staticTypes := #[(.object "sun/nio/cs/ISO_8859_1")]
  resolved := Array.replicate 60 none
  statics := some 3 }

def pool17 : Array CpInfo := pool [(2, .class_ 4), (1, u "java/nio/charset/Charset"), (130, .class_ 136), (0, u "sun/nio/cs/Unicode"), (0, .class_ 138), (0, u "sun/nio/cs/HistoricallyNamedCharset")] 15

/-- sun/nio/cs/Unicode -/
def k17 : Class := { plain "sun/nio/cs/Unicode" (some 14) with
  accessFlags := 1056
  interfaces := #[15]
  cf := some (fileOf pool17 135 #[] #[] 1056 2 #[137] #[])
  fields := #[]
  methods := #[]
  instanceTypes := #[(.object "java/lang/String"), (.array (.object "java/lang/String")), (.object "java/util/Set")]
  staticTypes := #[]
  resolved := Array.replicate 154 none
  statics := none }

def pool18 : Array CpInfo := pool [(10, .class_ 12), (1, u "sun/nio/cs/Unicode"), (0, u "<init>"), (3, .class_ 18), (0, u "sun/nio/cs/UTF_8$Decoder"), (3, .class_ 23), (0, u "sun/nio/cs/UTF_8$Encoder"), (15, .class_ 40), (0, u "sun/nio/cs/UTF_8"), (2, u "()V"), (2, u "INSTANCE"), (0, u "Lsun/nio/cs/UTF_8;"), (8, u "JLA"), (0, u "Ljdk/internal/access/JavaLangAccess;")] 26

def k18m0 : Method := { name := "<init>", desc := "()V", sig := { parameters := [], returnType := none }, accessFlags := 1, code := none }
/-- sun/nio/cs/UTF_8 -/
def k18 : Class := { plain "sun/nio/cs/UTF_8" (some 17) with
  accessFlags := 49
  interfaces := #[]
  cf := some (fileOf pool18 39 #[.nestMembers #[22, 17]] #[{ accessFlags := 1, nameIndex := 13, descriptorIndex := 43, attributes := #[] }] 49 10 #[] #[{ accessFlags := 25, nameIndex := 46, descriptorIndex := 47, attributes := #[] }, { accessFlags := 26, nameIndex := 56, descriptorIndex := 57, attributes := #[] }])
  fields := #[{ name := "INSTANCE", type := (.object "sun/nio/cs/UTF_8"), accessFlags := 25, slot := 0, constantValue := 0 }, { name := "JLA", type := (.object "jdk/internal/access/JavaLangAccess"), accessFlags := 26, slot := 1, constantValue := 0 }]
  methods := #[k18m0]
  instanceTypes := #[(.object "java/lang/String"), (.array (.object "java/lang/String")), (.object "java/util/Set")]
  staticTypes := #[(.object "sun/nio/cs/UTF_8"), (.object "jdk/internal/access/JavaLangAccess")]
  resolved := Array.replicate 84 none
  statics := some 4 }

def pool19 : Array CpInfo := pool [(2, .class_ 4), (1, u "java/lang/Object"), (0, u "<init>"), (0, u "()V"), (7, .class_ 16), (1, u "java/util/Arrays"), (57, .class_ 76), (1, u "java/util/Arrays$NaturalOrder"), (36, .class_ 115), (1, u "java/util/Arrays$LegacyMergeSort"), (1, u "Z"), (21, u "copyOfRange"), (10, .methodref 151 152), (0, .class_ 153), (0, .nameAndType 154 155), (0, u "java/lang/System"), (0, u "arraycopy"), (0, u "(Ljava/lang/Object;ILjava/lang/Object;II)V"), (146, u "copyOf"), (1, .methodref 305 306), (0, .class_ 307), (0, .nameAndType 308 309), (0, u "java/lang/Math"), (0, u "min"), (0, u "(II)I"), (29, .methodref 14 340), (0, .nameAndType 341 342), (0, u "copyOfRangeByte"), (0, u "([BII)[B"), (0, .methodref 14 344), (0, .nameAndType 345 346), (0, u "checkLength"), (0, u "(II)V"), (28, .class_ 376), (0, u "java/util/Arrays$ArrayList"), (68, u "$assertionsDisabled"), (269, u "MIN_ARRAY_SORT_GRAN"), (0, u "I"), (2, u "INSERTIONSORT_THRESHOLD"), (149, u "([BI)[B"), (105, .class_ 976), (0, u "java/util/Arrays$ArrayItr")] 52

def k19m0 : Method := { name := "<init>", desc := "()V", sig := { parameters := [], returnType := none }, accessFlags := 2, code := none }
def k19c1 : Code := { maxStack := 6, maxLocals := 3, code := jdk_65_method_121_code, exceptionTable := #[], attributes := #[] }
def k19m1 : Method := { name := "copyOf", desc := "([BI)[B", sig := { parameters := [(.array .byte), .int], returnType := some (.array .byte) }, accessFlags := 9, code := some k19c1 }
def k19c2 : Code := { maxStack := 4, maxLocals := 2, code := jdk_65_method_131_code, exceptionTable := #[], attributes := #[] }
def k19m2 : Method := { name := "checkLength", desc := "(II)V", sig := { parameters := [.int, .int], returnType := none }, accessFlags := 10, code := some k19c2 }
def k19c3 : Code := { maxStack := 3, maxLocals := 3, code := jdk_65_method_132_code, exceptionTable := #[], attributes := #[] }
def k19m3 : Method := { name := "copyOfRange", desc := "([BII)[B", sig := { parameters := [(.array .byte), .int, .int], returnType := some (.array .byte) }, accessFlags := 9, code := some k19c3 }
def k19c4 : Code := { maxStack := 6, maxLocals := 5, code := jdk_65_method_133_code, exceptionTable := #[], attributes := #[] }
def k19m4 : Method := { name := "copyOfRangeByte", desc := "([BII)[B", sig := { parameters := [(.array .byte), .int, .int], returnType := some (.array .byte) }, accessFlags := 10, code := some k19c4 }
/-- java/util/Arrays -/
def k19 : Class := { plain "java/util/Arrays" (some 0) with
  accessFlags := 49
  interfaces := #[]
  cf := some (fileOf pool19 14 #[.nestMembers #[975, 375, 113, 74]] #[{ accessFlags := 2, nameIndex := 5, descriptorIndex := 6, attributes := #[] }, { accessFlags := 9, nameIndex := 302, descriptorIndex := 869, attributes := #[] }, { accessFlags := 10, nameIndex := 345, descriptorIndex := 346, attributes := #[] }, { accessFlags := 9, nameIndex := 139, descriptorIndex := 342, attributes := #[] }, { accessFlags := 10, nameIndex := 341, descriptorIndex := 342, attributes := #[] }] 49 2 #[] #[{ accessFlags := 26, nameIndex := 715, descriptorIndex := 716, attributes := #[] }, { accessFlags := 26, nameIndex := 719, descriptorIndex := 716, attributes := #[] }, { accessFlags := 4120, nameIndex := 445, descriptorIndex := 117, attributes := #[] }])
  fields := #[{ name := "MIN_ARRAY_SORT_GRAN", type := .int, accessFlags := 26, slot := 0, constantValue := 0 }, { name := "INSERTIONSORT_THRESHOLD", type := .int, accessFlags := 26, slot := 1, constantValue := 0 }, { name := "$assertionsDisabled", type := .boolean, accessFlags := 4120, slot := 2, constantValue := 0 }]
  methods := #[k19m0, k19m1, k19m2, k19m3, k19m4]
  instanceTypes := #[]
  staticTypes := #[.int, .int, .boolean]
  resolved := Array.replicate 1029 none
  statics := none }

def pool20 : Array CpInfo := pool [(1, .class_ 2), (0, u "java/lang/Math"), (1, .class_ 6), (1, u "java/lang/Object"), (0, u "<init>"), (0, u "()V"), (89, .class_ 100), (1, u "java/lang/Math$RandomNumberGeneratorHolder"), (71, u "negativeZeroFloatBits"), (0, u "J"), (2, u "negativeZeroDoubleBits"), (21, u "max"), (2, u "min"), (43, u "$assertionsDisabled"), (0, u "Z"), (88, u "(II)I"), (2, u "twoToTheDoubleScaleDown"), (0, u "D"), (4, u "twoToTheDoubleScaleUp"), (9, u "E"), (3, u "PI"), (2, u "TAU"), (2, u "DEGREES_TO_RADIANS"), (0, u "RADIANS_TO_DEGREES")] 94

def k20m0 : Method := { name := "<init>", desc := "()V", sig := { parameters := [], returnType := none }, accessFlags := 2, code := none }
def k20c1 : Code := { maxStack := 2, maxLocals := 2, code := jdk_29_method_65_code, exceptionTable := #[], attributes := #[] }
def k20m1 : Method := { name := "max", desc := "(II)I", sig := { parameters := [.int, .int], returnType := some .int }, accessFlags := 9, code := some k20c1 }
def k20c2 : Code := { maxStack := 2, maxLocals := 2, code := jdk_29_method_69_code, exceptionTable := #[], attributes := #[] }
def k20m2 : Method := { name := "min", desc := "(II)I", sig := { parameters := [.int, .int], returnType := some .int }, accessFlags := 9, code := some k20c2 }
/-- java/lang/Math -/
def k20 : Class := { plain "java/lang/Math" (some 0) with
  accessFlags := 49
  interfaces := #[]
  cf := some (fileOf pool20 1 #[.nestMembers #[98]] #[{ accessFlags := 2, nameIndex := 7, descriptorIndex := 8, attributes := #[] }, { accessFlags := 9, nameIndex := 198, descriptorIndex := 335, attributes := #[] }, { accessFlags := 9, nameIndex := 201, descriptorIndex := 335, attributes := #[] }] 49 4 #[] #[{ accessFlags := 25, nameIndex := 354, descriptorIndex := 339, attributes := #[] }, { accessFlags := 25, nameIndex := 358, descriptorIndex := 339, attributes := #[] }, { accessFlags := 25, nameIndex := 361, descriptorIndex := 339, attributes := #[] }, { accessFlags := 26, nameIndex := 364, descriptorIndex := 339, attributes := #[] }, { accessFlags := 26, nameIndex := 365, descriptorIndex := 339, attributes := #[] }, { accessFlags := 26, nameIndex := 172, descriptorIndex := 173, attributes := #[] }, { accessFlags := 26, nameIndex := 176, descriptorIndex := 173, attributes := #[] }, { accessFlags := 8, nameIndex := 344, descriptorIndex := 339, attributes := #[] }, { accessFlags := 8, nameIndex := 338, descriptorIndex := 339, attributes := #[] }, { accessFlags := 4120, nameIndex := 245, descriptorIndex := 246, attributes := #[] }])
  fields := #[{ name := "E", type := .double, accessFlags := 25, slot := 0, constantValue := 0 }, { name := "PI", type := .double, accessFlags := 25, slot := 1, constantValue := 0 }, { name := "TAU", type := .double, accessFlags := 25, slot := 2, constantValue := 0 }, { name := "DEGREES_TO_RADIANS", type := .double, accessFlags := 26, slot := 3, constantValue := 0 }, { name := "RADIANS_TO_DEGREES", type := .double, accessFlags := 26, slot := 4, constantValue := 0 }, { name := "negativeZeroFloatBits", type := .long, accessFlags := 26, slot := 5, constantValue := 0 }, { name := "negativeZeroDoubleBits", type := .long, accessFlags := 26, slot := 6, constantValue := 0 }, { name := "twoToTheDoubleScaleUp", type := .double, accessFlags := 8, slot := 7, constantValue := 0 }, { name := "twoToTheDoubleScaleDown", type := .double, accessFlags := 8, slot := 8, constantValue := 0 }, { name := "$assertionsDisabled", type := .boolean, accessFlags := 4120, slot := 9, constantValue := 0 }]
  methods := #[k20m0, k20m1, k20m2]
  instanceTypes := #[]
  staticTypes := #[.double, .double, .double, .double, .double, .long, .long, .double, .double, .boolean]
  resolved := Array.replicate 460 none
  statics := none }

def pool21 : Array CpInfo := pool [(2, .class_ 4), (1, u "java/lang/Object"), (0, u "<init>"), (0, u "()V"), (1, .class_ 10), (1, u "java/lang/System"), (0, u "allowSecurityManager"), (0, u "I"), (16, u "cons"), (0, u "Ljava/io/Console;"), (77, .class_ 110), (1, u "java/lang/System$CallersHolder"), (43, u "initialErrStream"), (0, u "Ljava/io/PrintStream;"), (19, u "security"), (0, u "Ljava/lang/SecurityManager;"), (31, .class_ 209), (0, u "java/lang/System$1"), (7, u "props"), (0, u "Ljava/util/Properties;"), (2, u "lineSeparator"), (0, u "Ljava/lang/String;"), (96, .class_ 321), (1, u "java/lang/System$LoggerFinder"), (5, .class_ 328), (0, u "java/lang/System$Logger"), (67, u "err"), (2, u "out"), (91, u "notSupportedJnuEncoding"), (15, u "in"), (17, u "initialIn"), (0, u "Ljava/io/InputStream;"), (35, u "bootLayer"), (0, u "Ljava/lang/ModuleLayer;"), (99, .class_ 664), (0, u "java/lang/System$2"), (9, u "NEVER"), (2, u "MAYBE"), (49, u "arraycopy"), (0, u "(Ljava/lang/Object;ILjava/lang/Object;II)V"), (72, .class_ 802), (0, u "java/lang/System$Logger$Level")] 31

def k21m0 : Method := { name := "<init>", desc := "()V", sig := { parameters := [], returnType := none }, accessFlags := 2, code := none }
def k21m1 : Method := { name := "arraycopy", desc := "(Ljava/lang/Object;ILjava/lang/Object;II)V", sig := { parameters := [(.object "java/lang/Object"), .int, (.object "java/lang/Object"), .int, .int], returnType := none }, accessFlags := 265, code := none }
/-- java/lang/System -/
def k21 : Class := { plain "java/lang/System" (some 0) with
  accessFlags := 49
  interfaces := #[]
  cf := some (fileOf pool21 8 #[.nestMembers #[319, 327, 801, 108, 663, 208]] #[{ accessFlags := 2, nameIndex := 5, descriptorIndex := 6, attributes := #[] }, { accessFlags := 265, nameIndex := 727, descriptorIndex := 728, attributes := #[] }] 49 2 #[] #[{ accessFlags := 25, nameIndex := 507, descriptorIndex := 526, attributes := #[] }, { accessFlags := 25, nameIndex := 399, descriptorIndex := 155, attributes := #[] }, { accessFlags := 25, nameIndex := 396, descriptorIndex := 155, attributes := #[] }, { accessFlags := 10, nameIndex := 525, descriptorIndex := 526, attributes := #[] }, { accessFlags := 26, nameIndex := 674, descriptorIndex := 12, attributes := #[] }, { accessFlags := 26, nameIndex := 677, descriptorIndex := 12, attributes := #[] }, { accessFlags := 10, nameIndex := 11, descriptorIndex := 12, attributes := #[] }, { accessFlags := 74, nameIndex := 175, descriptorIndex := 176, attributes := #[] }, { accessFlags := 10, nameIndex := 491, descriptorIndex := 222, attributes := #[] }, { accessFlags := 74, nameIndex := 29, descriptorIndex := 30, attributes := #[] }, { accessFlags := 74, nameIndex := 154, descriptorIndex := 155, attributes := #[] }, { accessFlags := 10, nameIndex := 217, descriptorIndex := 218, attributes := #[] }, { accessFlags := 10, nameIndex := 221, descriptorIndex := 222, attributes := #[] }, { accessFlags := 8, nameIndex := 562, descriptorIndex := 563, attributes := #[] }])
  fields := #[{ name := "in", type := (.object "java/io/InputStream"), accessFlags := 25, slot := 0, constantValue := 0 }, { name := "out", type := (.object "java/io/PrintStream"), accessFlags := 25, slot := 1, constantValue := 0 }, { name := "err", type := (.object "java/io/PrintStream"), accessFlags := 25, slot := 2, constantValue := 0 }, { name := "initialIn", type := (.object "java/io/InputStream"), accessFlags := 10, slot := 3, constantValue := 0 }, { name := "NEVER", type := .int, accessFlags := 26, slot := 4, constantValue := 0 }, { name := "MAYBE", type := .int, accessFlags := 26, slot := 5, constantValue := 0 }, { name := "allowSecurityManager", type := .int, accessFlags := 10, slot := 6, constantValue := 0 }, { name := "security", type := (.object "java/lang/SecurityManager"), accessFlags := 74, slot := 7, constantValue := 0 }, { name := "notSupportedJnuEncoding", type := (.object "java/lang/String"), accessFlags := 10, slot := 8, constantValue := 0 }, { name := "cons", type := (.object "java/io/Console"), accessFlags := 74, slot := 9, constantValue := 0 }, { name := "initialErrStream", type := (.object "java/io/PrintStream"), accessFlags := 74, slot := 10, constantValue := 0 }, { name := "props", type := (.object "java/util/Properties"), accessFlags := 10, slot := 11, constantValue := 0 }, { name := "lineSeparator", type := (.object "java/lang/String"), accessFlags := 10, slot := 12, constantValue := 0 }, { name := "bootLayer", type := (.object "java/lang/ModuleLayer"), accessFlags := 8, slot := 13, constantValue := 0 }]
  methods := #[k21m0, k21m1]
  instanceTypes := #[]
  staticTypes := #[(.object "java/io/InputStream"), (.object "java/io/PrintStream"), (.object "java/io/PrintStream"), (.object "java/io/InputStream"), .int, .int, .int, (.object "java/lang/SecurityManager"), (.object "java/lang/String"), (.object "java/io/Console"), (.object "java/io/PrintStream"), (.object "java/util/Properties"), (.object "java/lang/String"), (.object "java/lang/ModuleLayer")]
  resolved := Array.replicate 834 none
  statics := none }

def pool22 : Array CpInfo := pool [(2, .class_ 4), (1, u "java/lang/Object"), (0, u "<init>"), (0, u "()V"), (1, .class_ 10), (1, u "java/lang/Number"), (2, .class_ 14), (0, u "java/io/Serializable"), (0, u "serialVersionUID"), (0, u "J")] 20

def k22m0 : Method := { name := "<init>", desc := "()V", sig := { parameters := [], returnType := none }, accessFlags := 1, code := none }
/-- java/lang/Number -/
def k22 : Class := { plain "java/lang/Number" (some 0) with
  accessFlags := 1057
  interfaces := #[2]
  cf := some (fileOf pool22 8 #[] #[{ accessFlags := 1, nameIndex := 5, descriptorIndex := 6, attributes := #[] }] 1057 2 #[13] #[{ accessFlags := 26, nameIndex := 15, descriptorIndex := 16, attributes := #[] }])
  fields := #[{ name := "serialVersionUID", type := .long, accessFlags := 26, slot := 0, constantValue := 0 }]
  methods := #[k22m0]
  instanceTypes := #[]
  staticTypes := #[.long]
  resolved := Array.replicate 37 none
  statics := none }

def pool23 : Array CpInfo := pool [(1, .class_ 2), (0, u "java/lang/Integer"), (16, u "digits"), (0, u "[C"), (30, .methodref 1 52), (0, .nameAndType 53 54), (0, u "numberOfLeadingZeros"), (0, u "(I)I"), (30, u "DigitOnes"), (0, u "[B"), (2, u "DigitTens"), (37, .integer 2147483648), (61, .class_ 190), (0, u "java/lang/Integer$IntegerCache"), (3, u "I"), (8, .class_ 204), (0, u "java/lang/Number"), (2, u "value"), (56, .integer 65536), (37, u "TYPE"), (0, u "Ljava/lang/Class;"), (0, .class_ 305), (0, u "java/lang/Comparable"), (0, .class_ 307), (0, u "java/lang/constant/Constable"), (0, .class_ 309), (0, u "java/lang/constant/ConstantDesc"), (0, u "MIN_VALUE"), (1, u "MAX_VALUE"), (3, u "SIZE"), (1, u "BYTES"), (1, u "serialVersionUID"), (0, u "J"), (81, u "highestOneBit")] 49

def k23c0 : Code := { maxStack := 3, maxLocals := 1, code := jdk_33_method_45_code, exceptionTable := #[], attributes := #[] }
def k23m0 : Method := { name := "highestOneBit", desc := "(I)I", sig := { parameters := [.int], returnType := some .int }, accessFlags := 9, code := some k23c0 }
def k23c1 : Code := { maxStack := 3, maxLocals := 2, code := jdk_33_method_47_code, exceptionTable := #[], attributes := #[] }
def k23m1 : Method := { name := "numberOfLeadingZeros", desc := "(I)I", sig := { parameters := [.int], returnType := some .int }, accessFlags := 9, code := some k23c1 }
/-- java/lang/Integer -/
def k23 : Class := { plain "java/lang/Integer" (some 22) with
  accessFlags := 49
  interfaces := #[3, 5, 6]
  cf := some (fileOf pool23 1 #[.nestMembers #[189]] #[{ accessFlags := 9, nameIndex := 403, descriptorIndex := 54, attributes := #[] }, { accessFlags := 9, nameIndex := 53, descriptorIndex := 54, attributes := #[] }] 49 203 #[304, 306, 308] #[{ accessFlags := 25, nameIndex := 310, descriptorIndex := 194, attributes := #[] }, { accessFlags := 25, nameIndex := 312, descriptorIndex := 194, attributes := #[] }, { accessFlags := 25, nameIndex := 302, descriptorIndex := 303, attributes := #[] }, { accessFlags := 24, nameIndex := 19, descriptorIndex := 20, attributes := #[] }, { accessFlags := 24, nameIndex := 89, descriptorIndex := 86, attributes := #[] }, { accessFlags := 24, nameIndex := 85, descriptorIndex := 86, attributes := #[] }, { accessFlags := 18, nameIndex := 207, descriptorIndex := 194, attributes := #[] }, { accessFlags := 25, nameIndex := 316, descriptorIndex := 194, attributes := #[] }, { accessFlags := 25, nameIndex := 318, descriptorIndex := 194, attributes := #[] }, { accessFlags := 26, nameIndex := 320, descriptorIndex := 321, attributes := #[] }])
  fields := #[{ name := "MIN_VALUE", type := .int, accessFlags := 25, slot := 0, constantValue := 0 }, { name := "MAX_VALUE", type := .int, accessFlags := 25, slot := 1, constantValue := 0 }, { name := "TYPE", type := (.object "java/lang/Class"), accessFlags := 25, slot := 2, constantValue := 0 }, { name := "digits", type := (.array .char), accessFlags := 24, slot := 3, constantValue := 0 }, { name := "DigitTens", type := (.array .byte), accessFlags := 24, slot := 4, constantValue := 0 }, { name := "DigitOnes", type := (.array .byte), accessFlags := 24, slot := 5, constantValue := 0 }, { name := "value", type := .int, accessFlags := 18, slot := 0, constantValue := 0 }, { name := "SIZE", type := .int, accessFlags := 25, slot := 6, constantValue := 0 }, { name := "BYTES", type := .int, accessFlags := 25, slot := 7, constantValue := 0 }, { name := "serialVersionUID", type := .long, accessFlags := 26, slot := 8, constantValue := 0 }]
  methods := #[k23m0, k23m1]
  instanceTypes := #[.int]
  staticTypes := #[.int, .int, (.object "java/lang/Class"), (.array .char), (.array .byte), (.array .byte), .int, .int, .long]
  resolved := Array.replicate 453 none
  statics := none }

def pool24 : Array CpInfo := pool [(9, u "<init>"), (6, .class_ 18), (1, u "java/lang/Object"), (0, u "()V"), (1, .class_ 23), (1, u "jdk/internal/util/ArraysSupport"), (0, u "LOG2_ARRAY_LONG_INDEX_SCALE"), (0, u "I"), (2, u "U"), (0, u "Ljdk/internal/misc/Unsafe;"), (8, u "BIG_ENDIAN"), (0, u "Z"), (8, u "LOG2_BYTE_BIT_SIZE"), (4, u "LOG2_ARRAY_INT_INDEX_SCALE"), (54, u "JLA"), (0, u "Ljdk/internal/access/JavaLangAccess;"), (11, u "LOG2_ARRAY_BOOLEAN_INDEX_SCALE"), (9, u "LOG2_ARRAY_BYTE_INDEX_SCALE"), (5, u "LOG2_ARRAY_CHAR_INDEX_SCALE"), (5, u "LOG2_ARRAY_SHORT_INDEX_SCALE"), (18, u "LOG2_ARRAY_FLOAT_INDEX_SCALE"), (24, u "LOG2_ARRAY_DOUBLE_INDEX_SCALE"), (89, u "T_BOOLEAN"), (2, u "T_CHAR"), (1, u "T_FLOAT"), (1, u "T_DOUBLE"), (1, u "T_BYTE"), (1, u "T_SHORT"), (1, u "T_INT"), (1, u "T_LONG"), (1, u "SOFT_MAX_ARRAY_LENGTH")] 83

def k24m0 : Method := { name := "<init>", desc := "()V", sig := { parameters := [], returnType := none }, accessFlags := 2, code := none }
/-- jdk/internal/util/ArraysSupport -/
def k24 : Class := { plain "jdk/internal/util/ArraysSupport" (some 0) with
  accessFlags := 33
  interfaces := #[]
  cf := some (fileOf pool24 21 #[] #[{ accessFlags := 2, nameIndex := 9, descriptorIndex := 19, attributes := #[] }] 33 16 #[] #[{ accessFlags := 24, nameIndex := 28, descriptorIndex := 29, attributes := #[] }, { accessFlags := 26, nameIndex := 38, descriptorIndex := 39, attributes := #[] }, { accessFlags := 25, nameIndex := 121, descriptorIndex := 25, attributes := #[] }, { accessFlags := 25, nameIndex := 131, descriptorIndex := 25, attributes := #[] }, { accessFlags := 25, nameIndex := 137, descriptorIndex := 25, attributes := #[] }, { accessFlags := 25, nameIndex := 143, descriptorIndex := 25, attributes := #[] }, { accessFlags := 25, nameIndex := 53, descriptorIndex := 25, attributes := #[] }, { accessFlags := 25, nameIndex := 24, descriptorIndex := 25, attributes := #[] }, { accessFlags := 25, nameIndex := 162, descriptorIndex := 25, attributes := #[] }, { accessFlags := 25, nameIndex := 187, descriptorIndex := 25, attributes := #[] }, { accessFlags := 26, nameIndex := 48, descriptorIndex := 25, attributes := #[] }, { accessFlags := 25, nameIndex := 277, descriptorIndex := 25, attributes := #[] }, { accessFlags := 25, nameIndex := 280, descriptorIndex := 25, attributes := #[] }, { accessFlags := 25, nameIndex := 282, descriptorIndex := 25, attributes := #[] }, { accessFlags := 25, nameIndex := 284, descriptorIndex := 25, attributes := #[] }, { accessFlags := 25, nameIndex := 286, descriptorIndex := 25, attributes := #[] }, { accessFlags := 25, nameIndex := 288, descriptorIndex := 25, attributes := #[] }, { accessFlags := 25, nameIndex := 290, descriptorIndex := 25, attributes := #[] }, { accessFlags := 25, nameIndex := 292, descriptorIndex := 25, attributes := #[] }, { accessFlags := 26, nameIndex := 108, descriptorIndex := 109, attributes := #[] }, { accessFlags := 25, nameIndex := 294, descriptorIndex := 25, attributes := #[] }])
  fields := #[{ name := "U", type := (.object "jdk/internal/misc/Unsafe"), accessFlags := 24, slot := 0, constantValue := 0 }, { name := "BIG_ENDIAN", type := .boolean, accessFlags := 26, slot := 1, constantValue := 0 }, { name := "LOG2_ARRAY_BOOLEAN_INDEX_SCALE", type := .int, accessFlags := 25, slot := 2, constantValue := 0 }, { name := "LOG2_ARRAY_BYTE_INDEX_SCALE", type := .int, accessFlags := 25, slot := 3, constantValue := 0 }, { name := "LOG2_ARRAY_CHAR_INDEX_SCALE", type := .int, accessFlags := 25, slot := 4, constantValue := 0 }, { name := "LOG2_ARRAY_SHORT_INDEX_SCALE", type := .int, accessFlags := 25, slot := 5, constantValue := 0 }, { name := "LOG2_ARRAY_INT_INDEX_SCALE", type := .int, accessFlags := 25, slot := 6, constantValue := 0 }, { name := "LOG2_ARRAY_LONG_INDEX_SCALE", type := .int, accessFlags := 25, slot := 7, constantValue := 0 }, { name := "LOG2_ARRAY_FLOAT_INDEX_SCALE", type := .int, accessFlags := 25, slot := 8, constantValue := 0 }, { name := "LOG2_ARRAY_DOUBLE_INDEX_SCALE", type := .int, accessFlags := 25, slot := 9, constantValue := 0 }, { name := "LOG2_BYTE_BIT_SIZE", type := .int, accessFlags := 26, slot := 10, constantValue := 0 }, { name := "T_BOOLEAN", type := .int, accessFlags := 25, slot := 11, constantValue := 0 }, { name := "T_CHAR", type := .int, accessFlags := 25, slot := 12, constantValue := 0 }, { name := "T_FLOAT", type := .int, accessFlags := 25, slot := 13, constantValue := 0 }, { name := "T_DOUBLE", type := .int, accessFlags := 25, slot := 14, constantValue := 0 }, { name := "T_BYTE", type := .int, accessFlags := 25, slot := 15, constantValue := 0 }, { name := "T_SHORT", type := .int, accessFlags := 25, slot := 16, constantValue := 0 }, { name := "T_INT", type := .int, accessFlags := 25, slot := 17, constantValue := 0 }, { name := "T_LONG", type := .int, accessFlags := 25, slot := 18, constantValue := 0 }, { name := "JLA", type := (.object "jdk/internal/access/JavaLangAccess"), accessFlags := 26, slot := 19, constantValue := 0 }, { name := "SOFT_MAX_ARRAY_LENGTH", type := .int, accessFlags := 25, slot := 20, constantValue := 0 }]
  methods := #[k24m0]
  instanceTypes := #[]
  staticTypes := #[(.object "jdk/internal/misc/Unsafe"), .boolean, .int, .int, .int, .int, .int, .int, .int, .int, .int, .int, .int, .int, .int, .int, .int, .int, .int, (.object "jdk/internal/access/JavaLangAccess"), .int]
  resolved := Array.replicate 378 none
  statics := none }

def pool25 : Array CpInfo := pool [(1, u "java/lang/Cloneable"), (0, .class_ 1), (0, u "java/lang/Object"), (0, .class_ 3)] 3

/-- java/lang/Cloneable -/
def k25 : Class := { plain "java/lang/Cloneable" (some 0) with
  accessFlags := 1537
  interfaces := #[]
  cf := some (fileOf pool25 2 #[] #[] 1537 4 #[] #[])
  fields := #[]
  methods := #[]
  instanceTypes := #[]
  staticTypes := #[]
  resolved := Array.replicate 8 none
  statics := none }

/-- the primitive byte -/
def k26 : Class := { plain "byte" none with kind := .primitive 'B', accessFlags := 0x411 }
/-- [B -/
def k27 : Class := { plain "[B" (some 0) with kind := .array 26 .byte, interfaces := #[25, 2], accessFlags := 1041 }

/-- the primitive char -/
def k28 : Class := { plain "char" none with kind := .primitive 'C', accessFlags := 0x411 }
/-- [C -/
def k29 : Class := { plain "[C" (some 0) with kind := .array 28 .char, interfaces := #[25, 2], accessFlags := 1041 }

/-- the primitive int -/
def k30 : Class := { plain "int" none with kind := .primitive 'I', accessFlags := 0x411 }
/-- [I -/
def k31 : Class := { plain "[I" (some 0) with kind := .array 30 .int, interfaces := #[25, 2], accessFlags := 1041 }

def heap : Heap := #[{ cls := 7, slots := #[.long 0, .int 1, .null, .int 0, .null, .int 0, .int 0], vm := .statics 7 },
  { cls := 11, slots := #[.null, .null, .null], vm := .statics 11 },
  { cls := 12, slots := #[.null, .ref 5, .null, .null, .null, .null], vm := .statics 12 },
  { cls := 16, slots := #[.ref 5], vm := .statics 16 },
  { cls := 18, slots := #[.ref 6, .null], vm := .statics 18 },
  { cls := 16, slots := #[.null, .null, .null], vm := .none },
  { cls := 18, slots := #[.null, .null, .null], vm := .none }]
def classes : Array Class := #[k0, k1, k2, k3, k4, k5, k6, k7, k8, k9, k10, k11, k12, k13, k14, k15, k16, k17, k18, k19, k20, k21, k22, k23, k24, k25, k26, k27, k28, k29, k30, k31]
def interned : List (Array UInt16 × Addr) := []
def slotsUsed : Nat := 25
def theMethod : MethodId := ⟨1, 1⟩
def args0 : Array Value := #[.int 5, .int 5, .int 5, .int 5, .int 5, .int 5]
def aboutOver (below : List Frame) : State where
  vm := { classes := classes, interned := interned.toArray }
  heap := heap
  slotsUsed := slotsUsed
  threads := #[{ frames := .invoking theMethod args0 :: below }]
def below0 : List Frame := [.native { method := ⟨0, 0⟩, args := #[] }]
def about1 : State := aboutOver below0
def p0 : Program := .bare "" "" ""
def e0 : Env := launch0.env 0 0 0
theorem w_frames : about1.frames = Frame.invoking theMethod args0 :: below0 := rfl
set_option maxRecDepth 65536 in
theorem w_args : argsFit about1.vm theMethod args0 = true := by decide +kernel
set_option maxRecDepth 65536 in
theorem w_heap : heapFits about1 = true := by decide +kernel
set_option maxRecDepth 65536 in
theorem w_runnable : about1.curStatus? = some .runnable := by decide +kernel
set_option maxRecDepth 65536 in
theorem w_alone : about1.alone = true := by decide +kernel
set_option maxRecDepth 65536 in
theorem w_named : about1.methodNamed? x = some theMethod := by decide +kernel
set_option maxRecDepth 65536 in
theorem w_hears : about1.hears theMethod below0 = true := by decide +kernel
set_option maxRecDepth 65536 in
theorem w_ripe : about1.ripe theMethod args0 below0 = true := by decide +kernel
theorem w_running : about1.status = .running := rfl
set_option maxRecDepth 65536 in
theorem w_room : about1.hasRoom e0.platform room_1 = true :=
  launch0.hasRoom_least _ room_1 (by decide +kernel) (by decide +kernel) (by decide +kernel) (by decide +kernel) (by decide +kernel) (by decide +kernel)
theorem allAtoms_all (ts : List Jvm.Cond) (a : Array Jvm.Value) (st : Jvm.State) : (allAtoms ts).before a st = ts.all (fun c => c.before a st) := by
  induction ts with
  | nil => rfl
  | cons c t ih =>
    show (Jvm.Cond.and c (allAtoms t)).before a st = _
    rw [Jvm.Cond.before_and, ih, List.all_cons]
def words1 : List Jvm.Cond := Jvm.Cond.code x code maxLocals ret :: tables_1
/-- a 'code' word, met by the world's own term for the bytes: nothing is compared byte by byte -/
theorem code_word {y : MethodName} {bytes : ByteArray} {mx : Nat} {rt : Option FieldType} {a : Array Value} {s : State} {m : MethodId} {meth : Method} {c : Code} (h1 : s.methodNamed? y = some m) (h2 : s.vm.method? m = some meth) (h3 : meth.code = some c) (h4 : c.code = bytes)
    (h5 : (c.maxLocals == mx && c.exceptionTable.isEmpty && decide (c.maxStack ≤ mostOperands) && decide (meth.sig.returnType = rt) && !meth.locks && decide (parseMethodDescriptor y.desc = some meth.sig)) = true) : (Jvm.Cond.code y bytes mx rt).before a s = true := by
  simp only [Bool.and_eq_true, beq_iff_eq, Bool.not_eq_true', decide_eq_true_eq] at h5
  obtain ⟨⟨⟨⟨⟨g1, g2⟩, g3⟩, g4⟩, g5⟩, g6⟩ := h5
  simp [Cond.before, Cond.holds, Cond.value, h1, h2, h3, h4, g1, g2, g3, g4, g5, g6]
def isCode : Jvm.Cond → Bool
  | .code _ _ _ _ => true
  | .codeWith _ _ _ _ _ => true
  | _ => false
theorem all_split {L : List Jvm.Cond} {P : Jvm.Cond → Bool} (h1 : L.all (fun c => isCode c || P c) = true) (h2 : ∀ c ∈ L.filter isCode, P c = true) : L.all P = true := by
  refine List.all_eq_true.mpr fun c hc => ?_
  have h := List.all_eq_true.mp h1 c hc
  rcases Bool.eq_false_or_eq_true (isCode c) with hi | hi
  · exact h2 c (List.mem_filter.mpr ⟨hc, hi⟩)
  · simpa [hi] using h
set_option maxRecDepth 65536 in
theorem w_c0 : (Jvm.Cond.code x code maxLocals ret).before args0 about1 = true := code_word (m := ⟨1, 1⟩) (meth := k1m1) (c := k1c1) (by decide +kernel) rfl rfl rfl (by decide +kernel)
set_option maxRecDepth 65536 in
theorem w_c1 : (Jvm.Cond.code ({ cls := "java/lang/String", name := "valueOf", desc := "(C)Ljava/lang/String;" } : Jvm.MethodName) jdk_42_method_139_code (1 : Nat) (Option.some (Jvm.ClassFile.FieldType.object "java/lang/String"))).before args0 about1 = true := code_word (m := ⟨7, 7⟩) (meth := k7m7) (c := k7c7) (by decide +kernel) rfl rfl rfl (by decide +kernel)
set_option maxRecDepth 65536 in
theorem w_c2 : (Jvm.Cond.code ({ cls := "java/lang/StringLatin1", name := "canEncode", desc := "(C)Z" } : Jvm.MethodName) jdk_43_method_3_code (1 : Nat) (Option.some Jvm.ClassFile.FieldType.boolean)).before args0 about1 = true := code_word (m := ⟨8, 2⟩) (meth := k8m2) (c := k8c2) (by decide +kernel) rfl rfl rfl (by decide +kernel)
set_option maxRecDepth 65536 in
theorem w_c3 : (Jvm.Cond.code ({ cls := "java/lang/StringLatin1", name := "toBytes", desc := "(C)[B" } : Jvm.MethodName) jdk_43_method_46_code (1 : Nat) (Option.some (Jvm.ClassFile.FieldType.array Jvm.ClassFile.FieldType.byte))).before args0 about1 = true := code_word (m := ⟨8, 4⟩) (meth := k8m4) (c := k8c4) (by decide +kernel) rfl rfl rfl (by decide +kernel)
set_option maxRecDepth 65536 in
theorem w_c4 : (Jvm.Cond.code ({ cls := "java/lang/String", name := "<init>", desc := "([BB)V" } : Jvm.MethodName) jdk_42_method_151_code (3 : Nat) (Option.none : Option Jvm.ClassFile.FieldType)).before args0 about1 = true := code_word (m := ⟨7, 9⟩) (meth := k7m9) (c := k7c9) (by decide +kernel) rfl rfl rfl (by decide +kernel)
set_option maxRecDepth 65536 in
theorem w_c5 : (Jvm.Cond.code ({ cls := "java/lang/Object", name := "<init>", desc := "()V" } : Jvm.MethodName) object_method_1_code (1 : Nat) (Option.none : Option Jvm.ClassFile.FieldType)).before args0 about1 = true := code_word (m := ⟨0, 0⟩) (meth := k0m0) (c := k0c0) (by decide +kernel) rfl rfl rfl (by decide +kernel)
set_option maxRecDepth 65536 in
theorem w_c6 : (Jvm.Cond.code ({ cls := "java/lang/String", name := "<init>", desc := "([C)V" } : Jvm.MethodName) jdk_42_method_3_code (2 : Nat) (Option.none : Option Jvm.ClassFile.FieldType)).before args0 about1 = true := code_word (m := ⟨7, 1⟩) (meth := k7m1) (c := k7c1) (by decide +kernel) rfl rfl rfl (by decide +kernel)
set_option maxRecDepth 65536 in
theorem w_c7 : (Jvm.Cond.code ({ cls := "java/lang/String", name := "<init>", desc := "([CIILjava/lang/Void;)V" } : Jvm.MethodName) jdk_42_method_149_code (6 : Nat) (Option.none : Option Jvm.ClassFile.FieldType)).before args0 about1 = true := code_word (m := ⟨7, 8⟩) (meth := k7m8) (c := k7c8) (by decide +kernel) rfl rfl rfl (by decide +kernel)
set_option maxRecDepth 65536 in
theorem w_c8 : (Jvm.Cond.code ({ cls := "java/lang/StringUTF16", name := "compress", desc := "([CII)[B" } : Jvm.MethodName) jdk_52_method_16_code (6 : Nat) (Option.some (Jvm.ClassFile.FieldType.array Jvm.ClassFile.FieldType.byte))).before args0 about1 = true := code_word (m := ⟨9, 2⟩) (meth := k9m2) (c := k9c2) (by decide +kernel) rfl rfl rfl (by decide +kernel)
set_option maxRecDepth 65536 in
theorem w_c9 : (Jvm.Cond.code ({ cls := "java/lang/StringUTF16", name := "compress", desc := "([CI[BII)I" } : Jvm.MethodName) jdk_52_method_21_code (7 : Nat) (Option.some Jvm.ClassFile.FieldType.int)).before args0 about1 = true := code_word (m := ⟨9, 3⟩) (meth := k9m3) (c := k9c3) (by decide +kernel) rfl rfl rfl (by decide +kernel)
set_option maxRecDepth 65536 in
theorem w_c10 : (Jvm.Cond.code ({ cls := "java/lang/StringUTF16", name := "coderFromArrayLen", desc := "([BI)B" } : Jvm.MethodName) jdk_52_method_15_code (2 : Nat) (Option.some Jvm.ClassFile.FieldType.byte)).before args0 about1 = true := code_word (m := ⟨9, 1⟩) (meth := k9m1) (c := k9c1) (by decide +kernel) rfl rfl rfl (by decide +kernel)
set_option maxRecDepth 65536 in
theorem w_c11 : (Jvm.Cond.code ({ cls := "com/example/vipool/vipool/http/HttpHead", name := "<init>", desc := "()V" } : Jvm.MethodName) prog_7_method_1_code (1 : Nat) (Option.none : Option Jvm.ClassFile.FieldType)).before args0 about1 = true := code_word (m := ⟨10, 0⟩) (meth := k10m0) (c := k10c0) (by decide +kernel) rfl rfl rfl (by decide +kernel)
set_option maxRecDepth 65536 in
theorem w_c12 : (Jvm.Cond.code ({ cls := "com/example/vipool/vipool/http/HttpHead", name := "add", desc := "(Ljava/lang/String;Ljava/lang/String;)V" } : Jvm.MethodName) prog_7_method_24_code (5 : Nat) (Option.none : Option Jvm.ClassFile.FieldType)).before args0 about1 = true := code_word (m := ⟨10, 3⟩) (meth := k10m3) (c := k10c3) (by decide +kernel) rfl rfl rfl (by decide +kernel)
set_option maxRecDepth 65536 in
theorem w_c13 : (Jvm.Cond.code ({ cls := "com/example/vipool/vipool/http/HttpHead", name := "put", desc := "(Ljava/lang/String;)V" } : Jvm.MethodName) prog_7_method_48_code (4 : Nat) (Option.none : Option Jvm.ClassFile.FieldType)).before args0 about1 = true := code_word (m := ⟨10, 12⟩) (meth := k10m12) (c := k10c12) (by decide +kernel) rfl rfl rfl (by decide +kernel)
set_option maxRecDepth 65536 in
theorem w_c14 : (Jvm.Cond.code ({ cls := "java/lang/String", name := "length", desc := "()I" } : Jvm.MethodName) jdk_42_method_54_code (1 : Nat) (Option.some Jvm.ClassFile.FieldType.int)).before args0 about1 = true := code_word (m := ⟨7, 4⟩) (meth := k7m4) (c := k7c4) (by decide +kernel) rfl rfl rfl (by decide +kernel)
set_option maxRecDepth 65536 in
theorem w_c15 : (Jvm.Cond.code ({ cls := "java/lang/String", name := "coder", desc := "()B" } : Jvm.MethodName) jdk_42_method_152_code (1 : Nat) (Option.some Jvm.ClassFile.FieldType.byte)).before args0 about1 = true := code_word (m := ⟨7, 10⟩) (meth := k7m10) (c := k7c10) (by decide +kernel) rfl rfl rfl (by decide +kernel)
set_option maxRecDepth 65536 in
theorem w_c16 : (Jvm.Cond.code ({ cls := "com/example/vipool/vipool/http/HttpHead", name := "room", desc := "(I)V" } : Jvm.MethodName) prog_7_method_47_code (2 : Nat) (Option.none : Option Jvm.ClassFile.FieldType)).before args0 about1 = true := code_word (m := ⟨10, 11⟩) (meth := k10m11) (c := k10c11) (by decide +kernel) rfl rfl rfl (by decide +kernel)
set_option maxRecDepth 65536 in
theorem w_c17 : (Jvm.Cond.code ({ cls := "java/lang/String", name := "charAt", desc := "(I)C" } : Jvm.MethodName) jdk_42_method_56_code (2 : Nat) (Option.some Jvm.ClassFile.FieldType.char)).before args0 about1 = true := code_word (m := ⟨7, 5⟩) (meth := k7m5) (c := k7c5) (by decide +kernel) rfl rfl rfl (by decide +kernel)
set_option maxRecDepth 65536 in
theorem w_c18 : (Jvm.Cond.code ({ cls := "java/lang/String", name := "isLatin1", desc := "()Z" } : Jvm.MethodName) jdk_42_method_154_code (1 : Nat) (Option.some Jvm.ClassFile.FieldType.boolean)).before args0 about1 = true := code_word (m := ⟨7, 11⟩) (meth := k7m11) (c := k7c11) (by decide +kernel) rfl rfl rfl (by decide +kernel)
set_option maxRecDepth 65536 in
theorem w_c19 : (Jvm.Cond.code ({ cls := "java/lang/StringLatin1", name := "charAt", desc := "([BI)C" } : Jvm.MethodName) jdk_43_method_2_code (2 : Nat) (Option.some Jvm.ClassFile.FieldType.char)).before args0 about1 = true := code_word (m := ⟨8, 1⟩) (meth := k8m1) (c := k8c1) (by decide +kernel) rfl rfl rfl (by decide +kernel)
set_option maxRecDepth 65536 in
theorem w_c20 : (Jvm.Cond.code ({ cls := "java/lang/String", name := "checkIndex", desc := "(II)V" } : Jvm.MethodName) jdk_42_method_155_code (2 : Nat) (Option.none : Option Jvm.ClassFile.FieldType)).before args0 about1 = true := code_word (m := ⟨7, 12⟩) (meth := k7m12) (c := k7c12) (by decide +kernel) rfl rfl rfl (by decide +kernel)
set_option maxRecDepth 65536 in
theorem w_c21 : (Jvm.Cond.code ({ cls := "jdk/internal/util/Preconditions", name := "checkIndex", desc := "(IILjava/util/function/BiFunction;)I" } : Jvm.MethodName) jdk_41_method_11_code (3 : Nat) (Option.some Jvm.ClassFile.FieldType.int)).before args0 about1 = true := code_word (m := ⟨11, 1⟩) (meth := k11m1) (c := k11c1) (by decide +kernel) rfl rfl rfl (by decide +kernel)
set_option maxRecDepth 65536 in
theorem w_c22 : (Jvm.Cond.code ({ cls := "com/example/vipool/vipool/http/HttpHead", name := "span", desc := "(IIII)V" } : Jvm.MethodName) prog_7_method_35_code (6 : Nat) (Option.none : Option Jvm.ClassFile.FieldType)).before args0 about1 = true := code_word (m := ⟨10, 6⟩) (meth := k10m6) (c := k10c6) (by decide +kernel) rfl rfl rfl (by decide +kernel)
set_option maxRecDepth 65536 in
theorem w_c23 : (Jvm.Cond.code ({ cls := "com/example/vipool/vipool/http/HttpHead", name := "clear", desc := "()Z" } : Jvm.MethodName) prog_7_method_6_code (1 : Nat) (Option.some Jvm.ClassFile.FieldType.boolean)).before args0 about1 = true := code_word (m := ⟨10, 1⟩) (meth := k10m1) (c := k10c1) (by decide +kernel) rfl rfl rfl (by decide +kernel)
set_option maxRecDepth 65536 in
theorem w_c24 : (Jvm.Cond.code ({ cls := "com/example/vipool/vipool/http/HttpHead", name := "size", desc := "()I" } : Jvm.MethodName) prog_7_method_26_code (4 : Nat) (Option.some Jvm.ClassFile.FieldType.int)).before args0 about1 = true := code_word (m := ⟨10, 4⟩) (meth := k10m4) (c := k10c4) (by decide +kernel) rfl rfl rfl (by decide +kernel)
set_option maxRecDepth 65536 in
theorem w_c25 : (Jvm.Cond.code ({ cls := "com/example/vipool/vipool/http/HttpHead", name := "value", desc := "(Ljava/lang/String;)Ljava/lang/String;" } : Jvm.MethodName) prog_7_method_16_code (3 : Nat) (Option.some (Jvm.ClassFile.FieldType.object "java/lang/String"))).before args0 about1 = true := code_word (m := ⟨10, 2⟩) (meth := k10m2) (c := k10c2) (by decide +kernel) rfl rfl rfl (by decide +kernel)
set_option maxRecDepth 65536 in
theorem w_c26 : (Jvm.Cond.code ({ cls := "com/example/vipool/vipool/http/HttpHead", name := "named", desc := "(ILjava/lang/String;)Z" } : Jvm.MethodName) prog_7_method_42_code (4 : Nat) (Option.some Jvm.ClassFile.FieldType.boolean)).before args0 about1 = true := code_word (m := ⟨10, 7⟩) (meth := k10m7) (c := k10c7) (by decide +kernel) rfl rfl rfl (by decide +kernel)
set_option maxRecDepth 65536 in
theorem w_c27 : (Jvm.Cond.code ({ cls := "com/example/vipool/vipool/http/HttpHead", name := "equalsInAnyCase", desc := "(IILjava/lang/String;)Z" } : Jvm.MethodName) prog_7_method_43_code (5 : Nat) (Option.some Jvm.ClassFile.FieldType.boolean)).before args0 about1 = true := code_word (m := ⟨10, 8⟩) (meth := k10m8) (c := k10c8) (by decide +kernel) rfl rfl rfl (by decide +kernel)
set_option maxRecDepth 65536 in
theorem w_c28 : (Jvm.Cond.code ({ cls := "com/example/vipool/vipool/http/HttpHead", name := "sameInAnyCase", desc := "(II)Z" } : Jvm.MethodName) prog_7_method_44_code (3 : Nat) (Option.some Jvm.ClassFile.FieldType.boolean)).before args0 about1 = true := code_word (m := ⟨10, 9⟩) (meth := k10m9) (c := k10c9) (by decide +kernel) rfl rfl rfl (by decide +kernel)
set_option maxRecDepth 65536 in
theorem w_c29 : (Jvm.Cond.code ({ cls := "com/example/vipool/vipool/http/HttpHead", name := "text", desc := "(II)Ljava/lang/String;" } : Jvm.MethodName) prog_7_method_46_code (3 : Nat) (Option.some (Jvm.ClassFile.FieldType.object "java/lang/String"))).before args0 about1 = true := code_word (m := ⟨10, 10⟩) (meth := k10m10) (c := k10c10) (by decide +kernel) rfl rfl rfl (by decide +kernel)
set_option maxRecDepth 65536 in
theorem w_c30 : (Jvm.Cond.code ({ cls := "java/lang/String", name := "<init>", desc := "([BIILjava/nio/charset/Charset;)V" } : Jvm.MethodName) jdk_42_method_10_code (5 : Nat) (Option.none : Option Jvm.ClassFile.FieldType)).before args0 about1 = true := code_word (m := ⟨7, 2⟩) (meth := k7m2) (c := k7c2) (by decide +kernel) rfl rfl rfl (by decide +kernel)
set_option maxRecDepth 65536 in
theorem w_c31 : (Jvm.Cond.code ({ cls := "java/util/Objects", name := "requireNonNull", desc := "(Ljava/lang/Object;)Ljava/lang/Object;" } : Jvm.MethodName) jdk_31_method_10_code (1 : Nat) (Option.some (Jvm.ClassFile.FieldType.object "java/lang/Object"))).before args0 about1 = true := code_word (m := ⟨13, 1⟩) (meth := k13m1) (c := k13c1) (by decide +kernel) rfl rfl rfl (by decide +kernel)
set_option maxRecDepth 65536 in
theorem w_c32 : (Jvm.Cond.code ({ cls := "java/lang/String", name := "checkBoundsOffCount", desc := "(III)I" } : Jvm.MethodName) jdk_42_method_157_code (3 : Nat) (Option.some Jvm.ClassFile.FieldType.int)).before args0 about1 = true := code_word (m := ⟨7, 13⟩) (meth := k7m13) (c := k7c13) (by decide +kernel) rfl rfl rfl (by decide +kernel)
set_option maxRecDepth 65536 in
theorem w_c33 : (Jvm.Cond.code ({ cls := "jdk/internal/util/Preconditions", name := "checkFromIndexSize", desc := "(IIILjava/util/function/BiFunction;)I" } : Jvm.MethodName) jdk_41_method_13_code (4 : Nat) (Option.some Jvm.ClassFile.FieldType.int)).before args0 about1 = true := code_word (m := ⟨11, 2⟩) (meth := k11m2) (c := k11c2) (by decide +kernel) rfl rfl rfl (by decide +kernel)
set_option maxRecDepth 65536 in
theorem w_c34 : (Jvm.Cond.code ({ cls := "java/util/Arrays", name := "copyOfRange", desc := "([BII)[B" } : Jvm.MethodName) jdk_65_method_132_code (3 : Nat) (Option.some (Jvm.ClassFile.FieldType.array Jvm.ClassFile.FieldType.byte))).before args0 about1 = true := code_word (m := ⟨19, 3⟩) (meth := k19m3) (c := k19c3) (by decide +kernel) rfl rfl rfl (by decide +kernel)
set_option maxRecDepth 65536 in
theorem w_c35 : (Jvm.Cond.code ({ cls := "java/util/Arrays", name := "copyOfRangeByte", desc := "([BII)[B" } : Jvm.MethodName) jdk_65_method_133_code (5 : Nat) (Option.some (Jvm.ClassFile.FieldType.array Jvm.ClassFile.FieldType.byte))).before args0 about1 = true := code_word (m := ⟨19, 4⟩) (meth := k19m4) (c := k19c4) (by decide +kernel) rfl rfl rfl (by decide +kernel)
set_option maxRecDepth 65536 in
theorem w_c36 : (Jvm.Cond.code ({ cls := "java/util/Arrays", name := "checkLength", desc := "(II)V" } : Jvm.MethodName) jdk_65_method_131_code (2 : Nat) (Option.none : Option Jvm.ClassFile.FieldType)).before args0 about1 = true := code_word (m := ⟨19, 2⟩) (meth := k19m2) (c := k19c2) (by decide +kernel) rfl rfl rfl (by decide +kernel)
set_option maxRecDepth 65536 in
theorem w_c37 : (Jvm.Cond.code ({ cls := "java/lang/Math", name := "min", desc := "(II)I" } : Jvm.MethodName) jdk_29_method_69_code (2 : Nat) (Option.some Jvm.ClassFile.FieldType.int)).before args0 about1 = true := code_word (m := ⟨20, 2⟩) (meth := k20m2) (c := k20c2) (by decide +kernel) rfl rfl rfl (by decide +kernel)
set_option maxRecDepth 65536 in
theorem w_c38 : (Jvm.Cond.code ({ cls := "java/lang/String", name := "equals", desc := "(Ljava/lang/Object;)Z" } : Jvm.MethodName) jdk_42_method_66_code (3 : Nat) (Option.some Jvm.ClassFile.FieldType.boolean)).before args0 about1 = true := code_word (m := ⟨7, 6⟩) (meth := k7m6) (c := k7c6) (by decide +kernel) rfl rfl rfl (by decide +kernel)
set_option maxRecDepth 65536 in
theorem w_c39 : (Jvm.Cond.code ({ cls := "java/lang/StringLatin1", name := "equals", desc := "([B[B)Z" } : Jvm.MethodName) jdk_43_method_13_code (3 : Nat) (Option.some Jvm.ClassFile.FieldType.boolean)).before args0 about1 = true := code_word (m := ⟨8, 3⟩) (meth := k8m3) (c := k8c3) (by decide +kernel) rfl rfl rfl (by decide +kernel)
set_option maxRecDepth 65536 in
theorem w_c40 : (Jvm.Cond.code ({ cls := "com/example/vipool/vipool/http/HttpHead", name := "grownRoom", desc := "(II)I" } : Jvm.MethodName) prog_7_method_28_code (2 : Nat) (Option.some Jvm.ClassFile.FieldType.int)).before args0 about1 = true := code_word (m := ⟨10, 5⟩) (meth := k10m5) (c := k10c5) (by decide +kernel) rfl rfl rfl (by decide +kernel)
set_option maxRecDepth 65536 in
theorem w_c41 : (Jvm.Cond.code ({ cls := "java/lang/Integer", name := "highestOneBit", desc := "(I)I" } : Jvm.MethodName) jdk_33_method_45_code (1 : Nat) (Option.some Jvm.ClassFile.FieldType.int)).before args0 about1 = true := code_word (m := ⟨23, 0⟩) (meth := k23m0) (c := k23c0) (by decide +kernel) rfl rfl rfl (by decide +kernel)
set_option maxRecDepth 65536 in
theorem w_c42 : (Jvm.Cond.code ({ cls := "java/lang/Integer", name := "numberOfLeadingZeros", desc := "(I)I" } : Jvm.MethodName) jdk_33_method_47_code (2 : Nat) (Option.some Jvm.ClassFile.FieldType.int)).before args0 about1 = true := code_word (m := ⟨23, 1⟩) (meth := k23m1) (c := k23c1) (by decide +kernel) rfl rfl rfl (by decide +kernel)
set_option maxRecDepth 65536 in
theorem w_c43 : (Jvm.Cond.code ({ cls := "java/lang/Math", name := "max", desc := "(II)I" } : Jvm.MethodName) jdk_29_method_65_code (2 : Nat) (Option.some Jvm.ClassFile.FieldType.int)).before args0 about1 = true := code_word (m := ⟨20, 1⟩) (meth := k20m1) (c := k20c1) (by decide +kernel) rfl rfl rfl (by decide +kernel)
set_option maxRecDepth 65536 in
theorem w_c44 : (Jvm.Cond.code ({ cls := "java/util/Arrays", name := "copyOf", desc := "([BI)[B" } : Jvm.MethodName) jdk_65_method_121_code (3 : Nat) (Option.some (Jvm.ClassFile.FieldType.array Jvm.ClassFile.FieldType.byte))).before args0 about1 = true := code_word (m := ⟨19, 1⟩) (meth := k19m1) (c := k19c1) (by decide +kernel) rfl rfl rfl (by decide +kernel)
theorem codeX_word {y : MethodName} {bytes : ByteArray} {mx : Nat} {rt : Option FieldType} {hs : List (Nat × Nat × Nat × Nat)} {a : Array Value} {s : State} {m : MethodId} {meth : Method} {c : Code} (h1 : s.methodNamed? y = some m) (h2 : s.vm.method? m = some meth) (h3 : meth.code = some c) (h4 : c.code = bytes)
    (h5 : (c.maxLocals == mx && decide (c.exceptionTable.toList.map (fun h => (h.startPc, h.endPc, h.handlerPc, h.catchType)) = hs) && decide (c.maxStack ≤ mostOperands) && decide (meth.sig.returnType = rt) && !meth.locks && decide (parseMethodDescriptor y.desc = some meth.sig)) = true) : (Jvm.Cond.codeWith y bytes mx rt hs).before a s = true := by
  simp only [Bool.and_eq_true, beq_iff_eq, Bool.not_eq_true', decide_eq_true_eq] at h5
  obtain ⟨⟨⟨⟨⟨g1, g2⟩, g3⟩, g4⟩, g5⟩, g6⟩ := h5
  simp [Cond.before, Cond.holds, Cond.value, h1, h2, h3, h4, g1, g2, g3, g4, g5, g6]
set_option maxRecDepth 65536 in
theorem w_x0 : (Jvm.Cond.codeWith ({ cls := "java/lang/String", name := "<init>", desc := "(Ljava/nio/charset/Charset;[BII)V" } : Jvm.MethodName) jdk_42_method_11_code (11 : Nat) (Option.none : Option Jvm.ClassFile.FieldType) [((800 : Nat), (813 : Nat), (816 : Nat), (202 : Nat))]).before args0 about1 = true := codeX_word (m := ⟨7, 3⟩) (meth := k7m3) (c := k7c3) (by decide +kernel) rfl rfl rfl (by decide +kernel)
def codes1 : List Jvm.Cond := [Jvm.Cond.code x code maxLocals ret, Jvm.Cond.code ({ cls := "java/lang/String", name := "valueOf", desc := "(C)Ljava/lang/String;" } : Jvm.MethodName) jdk_42_method_139_code (1 : Nat) (Option.some (Jvm.ClassFile.FieldType.object "java/lang/String")), Jvm.Cond.code ({ cls := "java/lang/StringLatin1", name := "canEncode", desc := "(C)Z" } : Jvm.MethodName) jdk_43_method_3_code (1 : Nat) (Option.some Jvm.ClassFile.FieldType.boolean), Jvm.Cond.code ({ cls := "java/lang/StringLatin1", name := "toBytes", desc := "(C)[B" } : Jvm.MethodName) jdk_43_method_46_code (1 : Nat) (Option.some (Jvm.ClassFile.FieldType.array Jvm.ClassFile.FieldType.byte)), Jvm.Cond.code ({ cls := "java/lang/String", name := "<init>", desc := "([BB)V" } : Jvm.MethodName) jdk_42_method_151_code (3 : Nat) (Option.none : Option Jvm.ClassFile.FieldType), Jvm.Cond.code ({ cls := "java/lang/Object", name := "<init>", desc := "()V" } : Jvm.MethodName) object_method_1_code (1 : Nat) (Option.none : Option Jvm.ClassFile.FieldType), Jvm.Cond.code ({ cls := "java/lang/String", name := "<init>", desc := "([C)V" } : Jvm.MethodName) jdk_42_method_3_code (2 : Nat) (Option.none : Option Jvm.ClassFile.FieldType), Jvm.Cond.code ({ cls := "java/lang/String", name := "<init>", desc := "([CIILjava/lang/Void;)V" } : Jvm.MethodName) jdk_42_method_149_code (6 : Nat) (Option.none : Option Jvm.ClassFile.FieldType), Jvm.Cond.code ({ cls := "java/lang/StringUTF16", name := "compress", desc := "([CII)[B" } : Jvm.MethodName) jdk_52_method_16_code (6 : Nat) (Option.some (Jvm.ClassFile.FieldType.array Jvm.ClassFile.FieldType.byte)), Jvm.Cond.code ({ cls := "java/lang/StringUTF16", name := "compress", desc := "([CI[BII)I" } : Jvm.MethodName) jdk_52_method_21_code (7 : Nat) (Option.some Jvm.ClassFile.FieldType.int), Jvm.Cond.code ({ cls := "java/lang/StringUTF16", name := "coderFromArrayLen", desc := "([BI)B" } : Jvm.MethodName) jdk_52_method_15_code (2 : Nat) (Option.some Jvm.ClassFile.FieldType.byte), Jvm.Cond.code ({ cls := "com/example/vipool/vipool/http/HttpHead", name := "<init>", desc := "()V" } : Jvm.MethodName) prog_7_method_1_code (1 : Nat) (Option.none : Option Jvm.ClassFile.FieldType), Jvm.Cond.code ({ cls := "com/example/vipool/vipool/http/HttpHead", name := "add", desc := "(Ljava/lang/String;Ljava/lang/String;)V" } : Jvm.MethodName) prog_7_method_24_code (5 : Nat) (Option.none : Option Jvm.ClassFile.FieldType), Jvm.Cond.code ({ cls := "com/example/vipool/vipool/http/HttpHead", name := "put", desc := "(Ljava/lang/String;)V" } : Jvm.MethodName) prog_7_method_48_code (4 : Nat) (Option.none : Option Jvm.ClassFile.FieldType), Jvm.Cond.code ({ cls := "java/lang/String", name := "length", desc := "()I" } : Jvm.MethodName) jdk_42_method_54_code (1 : Nat) (Option.some Jvm.ClassFile.FieldType.int), Jvm.Cond.code ({ cls := "java/lang/String", name := "coder", desc := "()B" } : Jvm.MethodName) jdk_42_method_152_code (1 : Nat) (Option.some Jvm.ClassFile.FieldType.byte), Jvm.Cond.code ({ cls := "com/example/vipool/vipool/http/HttpHead", name := "room", desc := "(I)V" } : Jvm.MethodName) prog_7_method_47_code (2 : Nat) (Option.none : Option Jvm.ClassFile.FieldType), Jvm.Cond.code ({ cls := "java/lang/String", name := "charAt", desc := "(I)C" } : Jvm.MethodName) jdk_42_method_56_code (2 : Nat) (Option.some Jvm.ClassFile.FieldType.char), Jvm.Cond.code ({ cls := "java/lang/String", name := "isLatin1", desc := "()Z" } : Jvm.MethodName) jdk_42_method_154_code (1 : Nat) (Option.some Jvm.ClassFile.FieldType.boolean), Jvm.Cond.code ({ cls := "java/lang/StringLatin1", name := "charAt", desc := "([BI)C" } : Jvm.MethodName) jdk_43_method_2_code (2 : Nat) (Option.some Jvm.ClassFile.FieldType.char), Jvm.Cond.code ({ cls := "java/lang/String", name := "checkIndex", desc := "(II)V" } : Jvm.MethodName) jdk_42_method_155_code (2 : Nat) (Option.none : Option Jvm.ClassFile.FieldType), Jvm.Cond.code ({ cls := "jdk/internal/util/Preconditions", name := "checkIndex", desc := "(IILjava/util/function/BiFunction;)I" } : Jvm.MethodName) jdk_41_method_11_code (3 : Nat) (Option.some Jvm.ClassFile.FieldType.int), Jvm.Cond.code ({ cls := "com/example/vipool/vipool/http/HttpHead", name := "span", desc := "(IIII)V" } : Jvm.MethodName) prog_7_method_35_code (6 : Nat) (Option.none : Option Jvm.ClassFile.FieldType), Jvm.Cond.code ({ cls := "com/example/vipool/vipool/http/HttpHead", name := "clear", desc := "()Z" } : Jvm.MethodName) prog_7_method_6_code (1 : Nat) (Option.some Jvm.ClassFile.FieldType.boolean), Jvm.Cond.code ({ cls := "com/example/vipool/vipool/http/HttpHead", name := "size", desc := "()I" } : Jvm.MethodName) prog_7_method_26_code (4 : Nat) (Option.some Jvm.ClassFile.FieldType.int), Jvm.Cond.code ({ cls := "com/example/vipool/vipool/http/HttpHead", name := "value", desc := "(Ljava/lang/String;)Ljava/lang/String;" } : Jvm.MethodName) prog_7_method_16_code (3 : Nat) (Option.some (Jvm.ClassFile.FieldType.object "java/lang/String")), Jvm.Cond.code ({ cls := "com/example/vipool/vipool/http/HttpHead", name := "named", desc := "(ILjava/lang/String;)Z" } : Jvm.MethodName) prog_7_method_42_code (4 : Nat) (Option.some Jvm.ClassFile.FieldType.boolean), Jvm.Cond.code ({ cls := "com/example/vipool/vipool/http/HttpHead", name := "equalsInAnyCase", desc := "(IILjava/lang/String;)Z" } : Jvm.MethodName) prog_7_method_43_code (5 : Nat) (Option.some Jvm.ClassFile.FieldType.boolean), Jvm.Cond.code ({ cls := "com/example/vipool/vipool/http/HttpHead", name := "sameInAnyCase", desc := "(II)Z" } : Jvm.MethodName) prog_7_method_44_code (3 : Nat) (Option.some Jvm.ClassFile.FieldType.boolean), Jvm.Cond.code ({ cls := "com/example/vipool/vipool/http/HttpHead", name := "text", desc := "(II)Ljava/lang/String;" } : Jvm.MethodName) prog_7_method_46_code (3 : Nat) (Option.some (Jvm.ClassFile.FieldType.object "java/lang/String")), Jvm.Cond.code ({ cls := "java/lang/String", name := "<init>", desc := "([BIILjava/nio/charset/Charset;)V" } : Jvm.MethodName) jdk_42_method_10_code (5 : Nat) (Option.none : Option Jvm.ClassFile.FieldType), Jvm.Cond.code ({ cls := "java/util/Objects", name := "requireNonNull", desc := "(Ljava/lang/Object;)Ljava/lang/Object;" } : Jvm.MethodName) jdk_31_method_10_code (1 : Nat) (Option.some (Jvm.ClassFile.FieldType.object "java/lang/Object")), Jvm.Cond.code ({ cls := "java/lang/String", name := "checkBoundsOffCount", desc := "(III)I" } : Jvm.MethodName) jdk_42_method_157_code (3 : Nat) (Option.some Jvm.ClassFile.FieldType.int), Jvm.Cond.code ({ cls := "jdk/internal/util/Preconditions", name := "checkFromIndexSize", desc := "(IIILjava/util/function/BiFunction;)I" } : Jvm.MethodName) jdk_41_method_13_code (4 : Nat) (Option.some Jvm.ClassFile.FieldType.int), (Jvm.Cond.codeWith ({ cls := "java/lang/String", name := "<init>", desc := "(Ljava/nio/charset/Charset;[BII)V" } : Jvm.MethodName) jdk_42_method_11_code (11 : Nat) (Option.none : Option Jvm.ClassFile.FieldType) [((800 : Nat), (813 : Nat), (816 : Nat), (202 : Nat))]), Jvm.Cond.code ({ cls := "java/util/Arrays", name := "copyOfRange", desc := "([BII)[B" } : Jvm.MethodName) jdk_65_method_132_code (3 : Nat) (Option.some (Jvm.ClassFile.FieldType.array Jvm.ClassFile.FieldType.byte)), Jvm.Cond.code ({ cls := "java/util/Arrays", name := "copyOfRangeByte", desc := "([BII)[B" } : Jvm.MethodName) jdk_65_method_133_code (5 : Nat) (Option.some (Jvm.ClassFile.FieldType.array Jvm.ClassFile.FieldType.byte)), Jvm.Cond.code ({ cls := "java/util/Arrays", name := "checkLength", desc := "(II)V" } : Jvm.MethodName) jdk_65_method_131_code (2 : Nat) (Option.none : Option Jvm.ClassFile.FieldType), Jvm.Cond.code ({ cls := "java/lang/Math", name := "min", desc := "(II)I" } : Jvm.MethodName) jdk_29_method_69_code (2 : Nat) (Option.some Jvm.ClassFile.FieldType.int), Jvm.Cond.code ({ cls := "java/lang/String", name := "equals", desc := "(Ljava/lang/Object;)Z" } : Jvm.MethodName) jdk_42_method_66_code (3 : Nat) (Option.some Jvm.ClassFile.FieldType.boolean), Jvm.Cond.code ({ cls := "java/lang/StringLatin1", name := "equals", desc := "([B[B)Z" } : Jvm.MethodName) jdk_43_method_13_code (3 : Nat) (Option.some Jvm.ClassFile.FieldType.boolean), Jvm.Cond.code ({ cls := "com/example/vipool/vipool/http/HttpHead", name := "grownRoom", desc := "(II)I" } : Jvm.MethodName) prog_7_method_28_code (2 : Nat) (Option.some Jvm.ClassFile.FieldType.int), Jvm.Cond.code ({ cls := "java/lang/Integer", name := "highestOneBit", desc := "(I)I" } : Jvm.MethodName) jdk_33_method_45_code (1 : Nat) (Option.some Jvm.ClassFile.FieldType.int), Jvm.Cond.code ({ cls := "java/lang/Integer", name := "numberOfLeadingZeros", desc := "(I)I" } : Jvm.MethodName) jdk_33_method_47_code (2 : Nat) (Option.some Jvm.ClassFile.FieldType.int), Jvm.Cond.code ({ cls := "java/lang/Math", name := "max", desc := "(II)I" } : Jvm.MethodName) jdk_29_method_65_code (2 : Nat) (Option.some Jvm.ClassFile.FieldType.int), Jvm.Cond.code ({ cls := "java/util/Arrays", name := "copyOf", desc := "([BI)[B" } : Jvm.MethodName) jdk_65_method_121_code (3 : Nat) (Option.some (Jvm.ClassFile.FieldType.array Jvm.ClassFile.FieldType.byte))]
set_option maxRecDepth 65536 in
theorem codes_eq : words1.filter isCode = codes1 := rfl
theorem w_codes : ∀ c ∈ words1.filter isCode, c.before args0 about1 = true := by
  rw [codes_eq]
  intro c hc
  simp only [codes1, List.mem_cons, List.not_mem_nil, or_false] at hc
  rcases hc with rfl | rfl | rfl | rfl | rfl | rfl | rfl | rfl | rfl | rfl | rfl | rfl | rfl | rfl | rfl | rfl | rfl | rfl | rfl | rfl | rfl | rfl | rfl | rfl | rfl | rfl | rfl | rfl | rfl | rfl | rfl | rfl | rfl | rfl | rfl | rfl | rfl | rfl | rfl | rfl | rfl | rfl | rfl | rfl | rfl | rfl
  · exact w_c0
  · exact w_c1
  · exact w_c2
  · exact w_c3
  · exact w_c4
  · exact w_c5
  · exact w_c6
  · exact w_c7
  · exact w_c8
  · exact w_c9
  · exact w_c10
  · exact w_c11
  · exact w_c12
  · exact w_c13
  · exact w_c14
  · exact w_c15
  · exact w_c16
  · exact w_c17
  · exact w_c18
  · exact w_c19
  · exact w_c20
  · exact w_c21
  · exact w_c22
  · exact w_c23
  · exact w_c24
  · exact w_c25
  · exact w_c26
  · exact w_c27
  · exact w_c28
  · exact w_c29
  · exact w_c30
  · exact w_c31
  · exact w_c32
  · exact w_c33
  · exact w_x0
  · exact w_c34
  · exact w_c35
  · exact w_c36
  · exact w_c37
  · exact w_c38
  · exact w_c39
  · exact w_c40
  · exact w_c41
  · exact w_c42
  · exact w_c43
  · exact w_c44
set_option maxRecDepth 65536 in
theorem w_t1 : (words1.take 24).all (fun c => isCode c || c.before args0 about1) = true := by decide +kernel
set_option maxRecDepth 65536 in
theorem w_t2 : ((words1.drop 24).take 24).all (fun c => isCode c || c.before args0 about1) = true := by decide +kernel
set_option maxRecDepth 65536 in
theorem w_t3 : (((words1.drop 24).drop 24).take 24).all (fun c => isCode c || c.before args0 about1) = true := by decide +kernel
set_option maxRecDepth 65536 in
theorem w_t4 : ((((words1.drop 24).drop 24).drop 24).take 24).all (fun c => isCode c || c.before args0 about1) = true := by decide +kernel
set_option maxRecDepth 65536 in
theorem w_t5 : (((((words1.drop 24).drop 24).drop 24).drop 24).take 24).all (fun c => isCode c || c.before args0 about1) = true := by decide +kernel
set_option maxRecDepth 65536 in
theorem w_t6 : ((((((words1.drop 24).drop 24).drop 24).drop 24).drop 24).take 24).all (fun c => isCode c || c.before args0 about1) = true := by decide +kernel
set_option maxRecDepth 65536 in
theorem w_t7 : (((((((words1.drop 24).drop 24).drop 24).drop 24).drop 24).drop 24).take 24).all (fun c => isCode c || c.before args0 about1) = true := by decide +kernel
set_option maxRecDepth 65536 in
theorem w_t8 : ((((((((words1.drop 24).drop 24).drop 24).drop 24).drop 24).drop 24).drop 24).take 24).all (fun c => isCode c || c.before args0 about1) = true := by decide +kernel
set_option maxRecDepth 65536 in
theorem w_t9 : (((((((((words1.drop 24).drop 24).drop 24).drop 24).drop 24).drop 24).drop 24).drop 24).take 24).all (fun c => isCode c || c.before args0 about1) = true := by decide +kernel
set_option maxRecDepth 65536 in
theorem w_t10 : (((((((((words1.drop 24).drop 24).drop 24).drop 24).drop 24).drop 24).drop 24).drop 24).drop 24).all (fun c => isCode c || c.before args0 about1) = true := by decide +kernel
theorem w_tables : (allAtoms (Jvm.Cond.code x code maxLocals ret :: tables_1)).before args0 about1 = true := by
  rw [allAtoms_all]
  show words1.all (fun c => c.before args0 about1) = true
  refine all_split ?_ w_codes
  rw [← List.take_append_drop 24 words1, List.all_append, w_t1, ← List.take_append_drop 24 (words1.drop 24), List.all_append, w_t2, ← List.take_append_drop 24 ((words1.drop 24).drop 24), List.all_append, w_t3, ← List.take_append_drop 24 (((words1.drop 24).drop 24).drop 24), List.all_append, w_t4, ← List.take_append_drop 24 ((((words1.drop 24).drop 24).drop 24).drop 24), List.all_append, w_t5, ← List.take_append_drop 24 (((((words1.drop 24).drop 24).drop 24).drop 24).drop 24), List.all_append, w_t6, ← List.take_append_drop 24 ((((((words1.drop 24).drop 24).drop 24).drop 24).drop 24).drop 24), List.all_append, w_t7, ← List.take_append_drop 24 (((((((words1.drop 24).drop 24).drop 24).drop 24).drop 24).drop 24).drop 24), List.all_append, w_t8, ← List.take_append_drop 24 ((((((((words1.drop 24).drop 24).drop 24).drop 24).drop 24).drop 24).drop 24).drop 24), List.all_append, w_t9, w_t10]
  rfl
set_option maxRecDepth 65536 in
theorem w_rest : rest_1_c.before args0 about1 = true := by decide +kernel
set_option maxRecDepth 65536 in
theorem w_case : (Jvm.Cond.and given_1 narrow_1).before args0 about1 = true := by decide +kernel
set_option maxRecDepth 65536 in
theorem w_consts : constsHeld consts_1 about1 := Jvm.Lit.constsHeldB_iff.mp (by decide +kernel)
theorem w_applies : (headSpec (Jvm.Cond.code x code maxLocals ret :: tables_1) room_1).applies x e0.platform about1 = true :=
  (Spec.applies_iff w_frames).mpr ⟨w_running, w_runnable, w_alone, w_named, w_hears, w_ripe, w_room, w_tables⟩
theorem atStart : AtStart classFile x code maxLocals ret World_1 tables_1 room_1 Calls_1 rest_1 Pre_1 launch0 p0 e0 about1 theMethod args0 below0 :=
  ⟨lists_1, trivial, launch0.admits_env _ _ _, launch0.least_env, fairChoices_fair.cas, fairChoices_fair.clock, w_frames, w_args, w_heap, w_applies, ⟨w_consts, trivial⟩, w_rest, w_case⟩
end start1
theorem witness_1 : WitnessClaimed_1 := ⟨start1.p0, start1.e0, start1.about1, start1.theMethod, start1.args0, start1.below0, start1.atStart⟩
end Jvm.Pilot.@@N@@
